/-
  WALK: components (37).
-/
import Derived.Test.Qxb6000570aC1
namespace Go.Proofs.Qxb6000570a
open Go.RowKit
set_option linter.unusedVariables false
set_option linter.unusedSimpArgs false

/-- A slice of ints that holds the list l. -/
def RowAt (w : World) (ra : Option Addr) (l : List Nat) : Prop :=
  0 < l.length → ∃ rb ro, ra = some ⟨rb, ro, none⟩ ∧ ∀ i (h : i < l.length), w.cell? ⟨rb, ro + i, none⟩ = some (.int .i64 ((l[i] : Nat) : Int))
/-- A slice of such slices. -/
def AdjSl (w : World) (ao : Option Addr) (n : Nat) (adj : Nat → List Nat) (ra : Nat → Option Addr) (rc : Nat → Nat) : Prop :=
  0 < n → ∃ b off, ao = some ⟨b, off, none⟩ ∧ ∀ u, u < n → w.cell? ⟨b, off + u, none⟩ = some (.slice (ra u) (adj u).length (rc u)) ∧ RowAt w (ra u) (adj u)

theorem RowAt.below {w w' : World} {ra : Option Addr} {l : List Nat} (h : RowAt w ra l) (hb : Below w.heap.size w w') : RowAt w' ra l := fun h0 => by
  obtain ⟨rb, ro, e, hc⟩ := h h0
  exact ⟨rb, ro, e, fun i hi => cell_later hb (hc i hi)⟩
theorem AdjSl.below {w w' : World} {ao : Option Addr} {n : Nat} {adj : Nat → List Nat} {ra : Nat → Option Addr} {rc : Nat → Nat} (h : AdjSl w ao n adj ra rc) (hb : Below w.heap.size w w') : AdjSl w' ao n adj ra rc := fun h0 => by
  obtain ⟨b, off, e, hc⟩ := h h0
  exact ⟨b, off, e, fun u hu => ⟨cell_later hb (hc u hu).1, (hc u hu).2.below hb⟩⟩

def mkI (n : Nat) : Array Value := madeCells #[.int .i64 0] (n * 1)
theorem makeI (n : Nat) (hn : n ≤ 1048576) (w : World) : (Instr.makeSlice 26 (.int .i64 n) (.int .i64 n)).run Try.prog w = .ok (.slice (some ⟨w.heap.size, 0, none⟩) n n) (w.alloc (.cells (mkI n) 3)) := by
  obtain ⟨i0, hi, hz0, hz1, hz2⟩ := info_parts Try.info3
  have := run_make (P := Try.prog) w 26 3 i0 _ Try.underlying26 hi hz0 .i64 .i64 n n (by omega) (by omega) (by rw [hz2]; omega) (by omega)
  rw [this, hz1]
  rfl

theorem els_madeI (w : World) (n : Nat) : Els (w.alloc (.cells (mkI n) 3)) w.heap.size n 1 (natF fun _ => 0) :=
  (els_made w n 1 #[.int .i64 0] rfl (by omega) 3).congr fun i hi j hj => by
    obtain rfl : j = 0 := by omega
    simp [natF]
/-- What lies in memory ahead of the first loop. -/
def start6 (w : World) (h n : Nat) : Prop :=
  ∀ W, W = (((((w.alloc (.cells (mkI n) 3)).alloc (.cells #[.slice (some ⟨w.heap.size, 0, none⟩) n n] 26)).alloc (.cells (mkI n) 3)).alloc (.cells #[.slice (some ⟨w.heap.size + 2, 0, none⟩) n n] 26)).alloc (.cells (mkI n) 3)).alloc (.cells (mkI n) 3) →
    W.heap.size = h + 6 ∧ Below h w W ∧ Els W h n 1 (natF fun _ => 0) ∧ Els W (h + 1) 1 1 (constF (.slice (some ⟨h, 0, none⟩) n n)) ∧ Els W (h + 2) n 1 (natF fun _ => 0) ∧ Els W (h + 3) 1 1 (constF (.slice (some ⟨h + 2, 0, none⟩) n n)) ∧
      Els W (h + 4) n 1 (intF fun i => if i < 0 then -1 else 0) ∧ Els W (h + 5) n 1 (natF fun _ => 0)
theorem els_var (w : World) (v : Value) (e : TypeId) : Els (w.alloc (.cells #[v] e)) w.heap.size 1 1 (constF v) :=
  (els_lit w #[v] e).congr fun i hi j hj => by
    obtain rfl : i = 0 := by simp at hi; omega
    rfl
theorem start6_mk (w : World) (h n : Nat) (hh : h = w.heap.size) : start6 w h n := by
  subst hh
  rintro W rfl
  have s1 : (w.alloc (.cells (mkI n) 3)).heap.size = w.heap.size + 1 := size_alloc' _ _
  have s2 : ((w.alloc (.cells (mkI n) 3)).alloc (.cells #[.slice (some ⟨w.heap.size, 0, none⟩) n n] 26)).heap.size = w.heap.size + 2 := by rw [size_alloc', s1]
  have s3 : (((w.alloc (.cells (mkI n) 3)).alloc (.cells #[.slice (some ⟨w.heap.size, 0, none⟩) n n] 26)).alloc (.cells (mkI n) 3)).heap.size = w.heap.size + 3 := by rw [size_alloc', s2]
  have s4 : ((((w.alloc (.cells (mkI n) 3)).alloc (.cells #[.slice (some ⟨w.heap.size, 0, none⟩) n n] 26)).alloc (.cells (mkI n) 3)).alloc (.cells #[.slice (some ⟨w.heap.size + 2, 0, none⟩) n n] 26)).heap.size = w.heap.size + 4 := by rw [size_alloc', s3]
  have s5 : (((((w.alloc (.cells (mkI n) 3)).alloc (.cells #[.slice (some ⟨w.heap.size, 0, none⟩) n n] 26)).alloc (.cells (mkI n) 3)).alloc (.cells #[.slice (some ⟨w.heap.size + 2, 0, none⟩) n n] 26)).alloc (.cells (mkI n) 3)).heap.size = w.heap.size + 5 := by rw [size_alloc', s4]
  refine ⟨by rw [size_alloc', s5], ?_, ?_, ?_, ?_, ?_, ?_, ?_⟩
  · exact ((((((Below.refl _ _).alloc (Nat.le_refl _) _).alloc (by omega) _).alloc (by omega) _).alloc (by omega) _).alloc (by omega) _).alloc (by omega) _
  · exact (((((els_madeI w n).alloc _).alloc _).alloc _).alloc _).alloc _
  · have := ((((els_var (w.alloc (.cells (mkI n) 3)) (.slice (some ⟨w.heap.size, 0, none⟩) n n) 26).alloc (.cells (mkI n) 3)).alloc (.cells #[.slice (some ⟨w.heap.size + 2, 0, none⟩) n n] 26)).alloc (.cells (mkI n) 3)).alloc (.cells (mkI n) 3)
    rw [s1] at this; exact this
  · have := (((els_madeI ((w.alloc (.cells (mkI n) 3)).alloc (.cells #[.slice (some ⟨w.heap.size, 0, none⟩) n n] 26)) n).alloc (.cells #[.slice (some ⟨w.heap.size + 2, 0, none⟩) n n] 26)).alloc (.cells (mkI n) 3)).alloc (.cells (mkI n) 3)
    rw [s2] at this; exact this
  · have := ((els_var (((w.alloc (.cells (mkI n) 3)).alloc (.cells #[.slice (some ⟨w.heap.size, 0, none⟩) n n] 26)).alloc (.cells (mkI n) 3)) (.slice (some ⟨w.heap.size + 2, 0, none⟩) n n) 26).alloc (.cells (mkI n) 3)).alloc (.cells (mkI n) 3)
    rw [s3] at this; exact this
  · have := (els_madeI ((((w.alloc (.cells (mkI n) 3)).alloc (.cells #[.slice (some ⟨w.heap.size, 0, none⟩) n n] 26)).alloc (.cells (mkI n) 3)).alloc (.cells #[.slice (some ⟨w.heap.size + 2, 0, none⟩) n n] 26)) n).alloc (.cells (mkI n) 3)
    rw [s4] at this
    exact this.congr fun i hi j hj => by simp [natF, intF]
  · have := els_madeI (((((w.alloc (.cells (mkI n) 3)).alloc (.cells #[.slice (some ⟨w.heap.size, 0, none⟩) n n] 26)).alloc (.cells (mkI n) 3)).alloc (.cells #[.slice (some ⟨w.heap.size + 2, 0, none⟩) n n] 26)).alloc (.cells (mkI n) 3)) n
    rw [s5] at this; exact this

def st0 : St := ⟨fun _ => 0, fun _ => 0, fun _ => -1, fun _ => 0, [], [], 0, 0⟩
theorem mem_start {w wr : World} {h n : Nat} (H : wr.heap.size = h + 6 ∧ Below h w wr ∧ Els wr h n 1 (natF fun _ => 0) ∧ Els wr (h + 1) 1 1 (constF (.slice (some ⟨h, 0, none⟩) n n)) ∧ Els wr (h + 2) n 1 (natF fun _ => 0) ∧ Els wr (h + 3) 1 1 (constF (.slice (some ⟨h + 2, 0, none⟩) n n)) ∧
        Els wr (h + 4) n 1 (intF fun i => if i < n then -1 else 0) ∧ Els wr (h + 5) n 1 (natF fun _ => 0)) :
    Mem (((wr.alloc (.cells #[.slice none 0 0] 26)).alloc (.cells #[.slice none 0 0] 26)).alloc (.cells #[.int .i64 0] 3)) h n st0 none none := by
  obtain ⟨hsz, hb, e0, e1, e2, e3, e4, e5⟩ := H
  have s1 : (wr.alloc (.cells #[.slice none 0 0] 26)).heap.size = h + 7 := by rw [size_alloc', hsz]
  have s2 : ((wr.alloc (.cells #[.slice none 0 0] 26)).alloc (.cells #[.slice none 0 0] 26)).heap.size = h + 8 := by rw [size_alloc', s1]
  refine ⟨((e0.alloc _).alloc _).alloc _, ((e1.alloc _).alloc _).alloc _, ((e2.alloc _).alloc _).alloc _, ((e3.alloc _).alloc _).alloc _, ?_, ((e5.alloc _).alloc _).alloc _, ⟨.slice none 0 0, ?_, SlI.nil _⟩, ⟨.slice none 0 0, ?_, SlI.nil _⟩, ?_, ?_, ?_, ?_⟩
  · exact (((e4.alloc _).alloc _).alloc _).congr fun i hi j hj => by simp [intF, st0, hi]
  · have := ((els_var wr (.slice none 0 0) 26).alloc (.cells #[.slice none 0 0] 26)).alloc (.cells #[.int .i64 0] 3)
    rw [hsz] at this; exact this
  · have := (els_var (wr.alloc (.cells #[.slice none 0 0] 26)) (.slice none 0 0) 26).alloc (.cells #[.int .i64 0] 3)
    rw [s1] at this; exact this
  · have := els_var ((wr.alloc (.cells #[.slice none 0 0] 26)).alloc (.cells #[.slice none 0 0] 26)) (.int .i64 0) 3
    rw [s2] at this; exact this
  · intro b e; cases e
  · intro b e; cases e
  · intro b e; cases e

def meas (n : Nat) (adj : Nat → List Nat) (s : St) : Nat := 2 * sumTo (fun u => (adj u).length - s.nxt u) n + s.path.length

theorem meas_sum {n : Nat} {adj : Nat → List Nat} {s : St} {t : Nat} (ht : t < n) (hm : s.nxt t < (adj t).length) : sumTo (fun u => (adj u).length - upd s.nxt t (s.nxt t + 1) u) n + 1 = sumTo (fun u => (adj u).length - s.nxt u) n :=
  sumTo_dec (t := t) (fun i hi => by rw [upd_other _ _ hi]) (by rw [upd_same]; omega) n ht
theorem meas_A {n : Nat} {adj : Nat → List Nat} {s : St} {t v : Nat} (ht : t < n) (hm : s.nxt t < (adj t).length) : meas n adj (stA s t v) < meas n adj s := by
  have := meas_sum (n := n) ht hm
  unfold meas
  show 2 * sumTo (fun u => (adj u).length - upd s.nxt t (s.nxt t + 1) u) n + (v :: s.path).length < _
  simp
  omega
theorem meas_B {n : Nat} {adj : Nat → List Nat} {s : St} {t l : Nat} (ht : t < n) (hm : s.nxt t < (adj t).length) : meas n adj (stB s t l) < meas n adj s := by
  have := meas_sum (n := n) ht hm
  unfold meas
  show 2 * sumTo (fun u => (adj u).length - upd s.nxt t (s.nxt t + 1) u) n + s.path.length < _
  omega
theorem Mem.lowSame {w : World} {h n : Nat} {s : St} {gp gs : Option Nat} {t x : Nat} (m : Mem w h n { s with nxt := upd s.nxt t x } gp gs) : Mem w h n { s with low := upd s.low t (s.low t), nxt := upd s.nxt t x } gp gs := by
  have : upd s.low t (s.low t) = s.low := by funext j; by_cases e : j = t; (rw [e, upd_same]); rw [upd_other _ _ e]
  rw [this]; exact m

theorem Mem.lowId {w : World} {h n : Nat} {s : St} {ps : List Nat} {gp gs : Option Nat} {q : Nat} (m : Mem w h n { s with path := ps, low := upd s.low q (s.low q) } gp gs) : Mem w h n { s with path := ps } gp gs := by
  have : upd s.low q (s.low q) = s.low := by funext j; by_cases e : j = q; (rw [e, upd_same]); rw [upd_other _ _ e]
  rw [this] at m; exact m

/-- The state in the midst of taking a component off the stack. -/
def st4 (s : St) (A1 A2 : List Nat) (t : Nat) (B ps : List Nat) : St := { s with comp := fun x => if x ∈ A1 then (s.cmp : Int) else s.comp x, path := ps, stack := A2 ++ t :: B }
theorem st4_start {s : St} {A B ps : List Nat} {t : Nat} (h : s.stack = A ++ t :: B) : st4 s [] A t B ps = { s with path := ps } := by
  unfold st4
  simp [h]
theorem Mem.popPath {w : World} {h n : Nat} {s : St} {gp gs : Option Nat} (m : Mem w h n s gp gs) {ps : List Nat} {v : Value} (hv : SlI w v (ofN ps) gp) : Mem (w.setCell ⟨h + 6, 0, none⟩ v) h n { s with path := ps } gp gs where
  idx := m.idx.other (by simp) _
  vidx := m.vidx.other (by simp) _
  low := m.low.other (by simp) _
  vlow := m.vlow.other (by simp) _
  comp := m.comp.other (by simp) _
  nxt := m.nxt.other (by simp) _
  path := by obtain ⟨v0, a, b⟩ := m.path; exact ⟨v, a.setVar _, hv.keep fun b' e => Below.heap_setCell _ _ _ _ (by have := m.bp b' e; simp; omega)⟩
  stack := by obtain ⟨v, a, b⟩ := m.stack; exact ⟨v, a.other (by simp) _, b.keep fun b' e => Below.heap_setCell _ _ _ _ (by have := m.bs b' e; simp; omega)⟩
  vis := m.vis.other (by simp) _
  bp := m.bp
  bs := m.bs
  ne := m.ne
theorem Mem.popStack {w : World} {h n : Nat} {s : St} {gp gs : Option Nat} (m : Mem w h n s gp gs) {B : List Nat} {v : Value} (hv : SlI w v (ofN B) gs) : Mem (w.setCell ⟨h + 7, 0, none⟩ v) h n { s with stack := B } gp gs where
  idx := m.idx.other (by simp) _
  vidx := m.vidx.other (by simp) _
  low := m.low.other (by simp) _
  vlow := m.vlow.other (by simp) _
  comp := m.comp.other (by simp) _
  nxt := m.nxt.other (by simp) _
  path := by obtain ⟨v, a, b⟩ := m.path; exact ⟨v, a.other (by simp) _, b.keep fun b' e => Below.heap_setCell _ _ _ _ (by have := m.bp b' e; simp; omega)⟩
  stack := by obtain ⟨v0, a, b⟩ := m.stack; exact ⟨v, a.setVar _, hv.keep fun b' e => Below.heap_setCell _ _ _ _ (by have := m.bs b' e; simp; omega)⟩
  vis := m.vis.other (by simp) _
  bp := m.bp
  bs := m.bs
  ne := m.ne
theorem mem_4 {w : World} {h n : Nat} {s : St} {A1 A2 B ps : List Nat} {x t : Nat} {gp gs : Option Nat} (m : Mem w h n { { st4 s A1 (x :: A2) t B ps with stack := A2 ++ t :: B } with comp := upd (st4 s A1 (x :: A2) t B ps).comp x (s.cmp : Int) } gp gs) : Mem w h n (st4 s (A1 ++ [x]) A2 t B ps) gp gs := by
  have : (st4 s (A1 ++ [x]) A2 t B ps).comp = upd (st4 s A1 (x :: A2) t B ps).comp x (s.cmp : Int) := by
    funext y
    by_cases e : y = x
    · subst e; simp [st4, upd]
    · simp [st4, upd, e]
  exact { m with comp := by rw [this]; exact m.comp }
theorem mem_E {w : World} {h n : Nat} {s : St} {A A1 B ps : List Nat} {t : Nat} {gp gs : Option Nat} (hA : A = A1) (m : Mem w h n { { st4 s A1 [] t B ps with stack := B } with comp := upd (st4 s A1 [] t B ps).comp t (s.cmp : Int) } gp gs) : Mem w h n (stE s t A B ps) gp gs := by
  subst hA
  have : (stE s t A B ps).comp = upd (st4 s A [] t B ps).comp t (s.cmp : Int) := by
    funext y
    by_cases e : y = t
    · subst e; simp [st4, stE, upd]
    · simp [st4, stE, upd, e]
  exact { m with comp := by rw [this]; exact m.comp }
theorem meas_E {n : Nat} {adj : Nat → List Nat} {s : St} {t : Nat} {A B ps : List Nat} (hp : s.path = t :: ps) : meas n adj (stE s t A B ps) < meas n adj s := by
  unfold meas
  show 2 * sumTo (fun u => (adj u).length - s.nxt u) n + ps.length < _
  rw [hp]; simp
theorem meas_D {n : Nat} {adj : Nat → List Nat} {s : St} {t q l : Nat} {ps : List Nat} (hp : s.path = t :: ps) : meas n adj (stD s ps q l) < meas n adj s := by
  unfold meas
  show 2 * sumTo (fun u => (adj u).length - s.nxt u) n + ps.length < _
  rw [hp]; simp
theorem Inv.above {n : Nat} {adj : Nat → List Nat} {s : St} (h : Inv n adj s) {A B : List Nat} {t : Nat} (hs : s.stack = A ++ t :: B) {x : Nat} (hx : x ∈ A) : s.idx t < s.idx x := by
  have := h.srt
  rw [hs, List.pairwise_append] at this
  exact this.2.2 x hx t (by simp)

def P37 (n : Nat) (adj : Nat → List Nat) (w : World) (e : Ending) (w' : World) : Prop :=
  ∃ g comp k, e = .returned (.slice (some ⟨g, 0, none⟩) n n) ∧ w.heap.size ≤ g ∧ Els w' g n 1 (intF comp) ∧ Comps n adj comp k ∧ Below w.heap.size w w'

set_option maxRecDepth 20000 in
set_option maxHeartbeats 4000000 in
theorem components37 (gb n : Nat) (ta : Option Addr) (tc : Nat) (ao : Option Addr) (ac : Nat) (adj : Nat → List Nat) (ra : Nat → Option Addr) (rc : Nat → Nat) (w : World) (hn : n ≤ 65536) (hg : Good n adj) (hdeg : ∀ u, u < n → (adj u).length ≤ 1048576)
    (h0 : w.cell? ⟨gb, 0, none⟩ = some (.slice ta n tc)) (h4 : w.cell? ⟨gb, 4, none⟩ = some (.slice ao n ac)) (ha : AdjSl w ao n adj ra rc) :
    Calls Try.prog 37 #[.pointer (some ⟨gb, 0, none⟩)] w (P37 n adj w) := by
  have HA : Hid (AdjSl w ao n adj ra rc) := ha
  have H4 : Hid (w.cell? ⟨gb, 4, none⟩ = some (.slice ao n ac)) := h4
  have HG : Hid (Good n adj) := hg
  have HDEG : Hid (∀ u, u < n → (adj u).length ≤ 1048576) := hdeg
  clear ha hg hdeg h4
  have hmk := makeI n (by omega)
  go_enter Try.func37, Try.ntmps37
  go_wp2
  simp only [Nat.add_assoc, Nat.reduceAdd]
  obtain ⟨H0, hh⟩ : ∃ H0, H0 = w.heap.size := ⟨_, rfl⟩
  have HH : Hid (H0 = w.heap.size) := hh
  have HW0 : Hid (start6 w H0 n) := start6_mk w H0 n hh
  rw [← hh]
  clear hmk h0 hh
  go_loopw [8, 34] (fun _ i wr => ∃ k : Nat, k ≤ n ∧ i = .int .i64 k ∧ wr.heap.size = H0 + 6 ∧ Below H0 w wr ∧ Els wr H0 n 1 (natF fun _ => 0) ∧ Els wr (H0 + 1) 1 1 (constF (.slice (some ⟨H0, 0, none⟩) n n)) ∧ Els wr (H0 + 2) n 1 (natF fun _ => 0) ∧ Els wr (H0 + 3) 1 1 (constF (.slice (some ⟨H0 + 2, 0, none⟩) n n)) ∧
      Els wr (H0 + 4) n 1 (intF fun i => if i < k then -1 else 0) ∧ Els wr (H0 + 5) n 1 (natF fun _ => 0)) (fun _ i _ => n - (intOf i).toNat)
  case atStart => exact ⟨0, by omega, rfl, HW0.out _ (by rw [← HH.out])⟩
  case round =>
    obtain ⟨k, hk, rfl, hsz, hb, e0, e1, e2, e3, e4, e5⟩ := hrel
    by_cases hlt : k < n
    · have d0 := e4.cell1 hlt
      have f0 := e4.free
      simp only [intF] at d0
      have HR : Hid (wr.heap.size = H0 + 6 ∧ Below H0 w wr ∧ Els wr H0 n 1 (natF fun _ => 0) ∧ Els wr (H0 + 1) 1 1 (constF (.slice (some ⟨H0, 0, none⟩) n n)) ∧ Els wr (H0 + 2) n 1 (natF fun _ => 0) ∧ Els wr (H0 + 3) 1 1 (constF (.slice (some ⟨H0 + 2, 0, none⟩) n n)) ∧
        Els wr (H0 + 4) n 1 (intF fun i => if i < k then -1 else 0) ∧ Els wr (H0 + 5) n 1 (natF fun _ => 0)) := ⟨hsz, hb, e0, e1, e2, e3, e4, e5⟩
      clear hsz hb e0 e1 e2 e3 e4 e5
      go_wp2
      go_roundw
      case rel =>
        obtain ⟨hsz, hb, e0, e1, e2, e3, e4, e5⟩ := HR.out
        refine ⟨k + 1, by omega, by go_num, by simpa using hsz, hb.setCell (by simp) _, e0.other (by simp) _, e1.other (by simp) _, e2.other (by simp) _, e3.other (by simp) _, ?_, e5.other (by simp) _⟩
        refine e4.set1' hlt _ (by simp [intF]) (fun j hj => ?_)
        have : j < k + 1 ↔ j < k := by omega
        simp [intF, this]
      case measure => simp [intOf]; omega
    · have : k = n := by omega
      subst this
      have HR : Hid (wr.heap.size = H0 + 6 ∧ Below H0 w wr ∧ Els wr H0 k 1 (natF fun _ => 0) ∧ Els wr (H0 + 1) 1 1 (constF (.slice (some ⟨H0, 0, none⟩) k k)) ∧ Els wr (H0 + 2) k 1 (natF fun _ => 0) ∧ Els wr (H0 + 3) 1 1 (constF (.slice (some ⟨H0 + 2, 0, none⟩) k k)) ∧
        Els wr (H0 + 4) k 1 (intF fun i => if i < k then -1 else 0) ∧ Els wr (H0 + 5) k 1 (natF fun _ => 0)) := ⟨hsz, hb, e0, e1, e2, e3, e4, e5⟩
      clear hb e0 e1 e2 e3 e4 e5
      go_wp2
      simp only [Nat.add_assoc, Nat.reduceAdd]
      obtain ⟨w0, hw0⟩ : ∃ x, x = ((wr.alloc (.cells #[.slice none 0 0] 26)).alloc (.cells #[.slice none 0 0] 26)).alloc (.cells #[.int .i64 0] 3) := ⟨_, rfl⟩
      have HM0 : Hid (Mem w0 H0 k st0 none none) := by
        rw [hw0]
        exact mem_start HR.out
      have HB0 : Hid (Below H0 w w0) := by
        rw [hw0]
        exact ((HR.out.2.1.alloc (by omega) _).alloc (by simp; omega) _).alloc (by simp; omega) _
      rw [← hw0]
      clear hw0 hsz HR HW0
      go_loopw [12, 43] (fun c i wr => ∃ (r : Nat) (s : St) (gp gs : Option Nat), r ≤ k ∧ i = .int .i64 r ∧ c = .int .i64 ((s.cmp : Nat) : Int) ∧ Mem wr H0 k s gp gs ∧ Inv k adj s ∧ s.path = [] ∧ (∀ v, v < r → 0 < s.idx v) ∧ Below H0 w wr) (fun _ i _ => k - (intOf i).toNat)
      case atStart => exact ⟨0, st0, none, none, by omega, rfl, rfl, HM0.out, inv_start k adj, rfl, fun v hv => absurd hv (by omega), HB0.out⟩
      case round =>
        obtain ⟨r, s, gp, gs, hr, rfl, rfl, hM, hI, hpath, hvis, hB⟩ := hrel
        have HM : Hid (Mem wr H0 k s gp gs) := hM
        have HI : Hid (Inv k adj s) := hI
        have HP : Hid (s.path = []) := hpath
        have HV : Hid (∀ v, v < r → 0 < s.idx v) := hvis
        have HBr : Hid (Below H0 w wr) := hB
        clear hM hI hpath hvis hB HM0 HB0
        by_cases hlt : r < k
        · have a1 := HM.out.vidx.cell1 (i := 0) (by omega)
          have a2 := HM.out.idx.cell1 hlt
          simp only [constF, natF] at a1 a2
          by_cases hx : 0 < s.idx r
          · have hx' : (0 : Int) < ((s.idx r : Nat) : Int) := by omega
            go_wp2
            go_roundw
            case rel => exact ⟨r + 1, s, gp, gs, by omega, by go_num, rfl, HM.out, HI.out, HP.out, fun v hv => by by_cases e : v = r; (exact e ▸ hx); exact HV.out v (by omega), HBr.out⟩
            case measure => simp [intOf]; omega
          · have hx' : ¬ (0 : Int) < ((s.idx r : Nat) : Int) := by omega
            have hx0 : s.idx r = 0 := by omega
            have HX0 : Hid (s.idx r = 0) := hx0
            clear hx0 hx
            go_wp2_with fail
            refine (visit40 H0 k s r wr gp gs hn hlt HM.out HI.out.visn HI.out.pathLen HI.out.stackLen).mono ?_
            rintro e w1 ⟨rfl, ⟨gp1, gs1, hM1⟩, hB1⟩
            have HM1 : Hid (Mem w1 H0 k (stR s r) gp1 gs1) := hM1
            have HI1 : Hid (Inv k adj (stR s r)) := inv_R HI.out HP.out hlt HX0.out
            have HB1 : Hid (Below H0 w w1) := HBr.out.trans hB1
            have HV1 : Hid (∀ v, v < r + 1 → 0 < (stR s r).idx v) := fun v hv => by
              show 0 < upd s.idx r (s.vis + 1) v
              by_cases e : v = r
              · rw [e, upd_same]; omega
              · rw [upd_other _ _ e]; exact HV.out v (by omega)
            clear hM1 hB1 a1 a2 hx'
            go_wp2_with fail
            go_loopg [12] (meas k adj (stR s r)) (fun gk c wr => ∃ (s : St) (gp gs : Option Nat), gk = meas k adj s ∧ c = .int .i64 ((s.cmp : Nat) : Int) ∧ Mem wr H0 k s gp gs ∧ Inv k adj s ∧ (∀ v, v < r + 1 → 0 < s.idx v) ∧ Below H0 w wr)
            case atStart => exact ⟨stR s r, gp1, gs1, rfl, rfl, HM1.out, HI1.out, HV1.out, HB1.out⟩
            case round =>
              clear HM HI HP HV HBr HX0 HM1 HI1 HB1 HV1
              obtain ⟨s, gp, gs, hgk, rfl, hM, hI, hV, hB⟩ := hrel
              have HGK : Hid (gk = meas k adj s) := hgk
              have HM : Hid (Mem wr H0 k s gp gs) := hM
              have HI : Hid (Inv k adj s) := hI
              have HV : Hid (∀ v, v < r + 1 → 0 < s.idx v) := hV
              have HBr : Hid (Below H0 w wr) := hB
              clear hgk hM hI hV hB
              obtain ⟨pv, hpv, hps⟩ := HM.out.path
              have a1 := hpv.cell1 (i := 0) (by omega)
              simp only [constF] at a1
              cases hpath : s.path with
              | nil =>
                have HP : Hid (s.path = []) := hpath
                rw [hpath] at hps
                obtain ⟨po, pcap, hpe, _⟩ := hps.val
                rw [hpe, show (ofN []).length = 0 from rfl] at a1
                clear hpv hps hpe hpath
                go_wp2
                go_roundw
                case rel => exact ⟨r + 1, s, gp, gs, by omega, by go_num, rfl, HM.out, HI.out, HP.out, HV.out, HBr.out⟩
                case measure => simp [intOf]; omega
              | cons t ps =>
                have HP : Hid (s.path = t :: ps) := hpath
                rw [hpath, ofN_cons] at hps
                obtain ⟨pb, pcap, hpe, hgpb, hpl, hpm, hpt, hpop⟩ := hps.pop
                rw [hpe, ofN_length] at a1
                rw [ofN_length] at hpt hpl hpop
                have HPOP : Hid (SlI wr (.slice (some ⟨pb, 0, none⟩) ps.length pcap) (ofN ps) gp) := hpop
                have HGP : Hid (gp = some pb) := hgpb
                have hpn : ps.length + 1 ≤ k := by have := HI.out.pathLen; rw [hpath] at this; simpa using this
                have htS := HI.out.topStack hpath
                obtain ⟨htn, hti, htc⟩ := HI.out.visited htS
                clear hpv hps hpe hpath hpop hgpb hpm
                unfold maxLen at *
                obtain ⟨b, off, hao, hcc⟩ := HA.out (by omega)
                have hb' : Below w.heap.size w wr := HBr.out.mono (by have := HH.out; omega)
                have c4 := cell_later hb' H4.out
                rw [hao] at c4
                have ct := cell_later hb' (hcc t htn).1
                have HROW : Hid (RowAt wr (ra t) (adj t)) := (hcc t htn).2.below hb'
                have cn := HM.out.nxt.cell1 htn
                have fn := HM.out.nxt.free
                simp only [natF] at cn
                have ht0 : (0:Int) ≤ (t : Int) := by omega
                have ht1 : (t:Int) < (k:Int) := by omega
                have hdg := HDEG.out t htn
                have hnl := HI.out.nle t htn
                clear hcc hao hb' hti htc
                by_cases hmore : s.nxt t < (adj t).length
                · obtain ⟨rb, ro, hra, hrow⟩ := HROW.out (by omega)
                  have cr := hrow (s.nxt t) hmore
                  rw [hra] at ct
                  obtain ⟨v, hv⟩ : ∃ v, v = (adj t)[s.nxt t] := ⟨_, rfl⟩
                  rw [← hv] at cr
                  have HVE : Hid ((adj t)[s.nxt t]? = some v) := by show _ = _; rw [List.getElem?_eq_getElem hmore, hv]
                  have hvn : v < k := HG.out t v htn (get_mem HVE.out)
                  have hm0 : (0:Int) ≤ ((s.nxt t : Nat) : Int) := by omega
                  have hm1 : ((s.nxt t : Nat) : Int) < (((adj t).length : Nat) : Int) := by omega
                  clear hrow hra hv
                  have a2 := HM.out.vidx.cell1 (i := 0) (by omega)
                  have a3 := HM.out.idx.cell1 hvn
                  have a4 := HM.out.comp.cell1 hvn
                  have hv0 : (0:Int) ≤ (v : Int) := by omega
                  have hv1 : (v:Int) < (k:Int) := by omega
                  simp only [constF, natF, intF] at a2 a3 a4
                  by_cases hz : s.idx v = 0
                  · as_aux_lemma =>
                    have HZ : Hid (s.idx v = 0) := hz
                    have hz' : ((((s.idx v : Nat) : Int)) == 0) = true := by rw [hz]; rfl
                    clear hz a4
                    go_wp2
                    go_quiet (fail)
                    go_wp2
                    go_quiet (fail)
                    go_wp2_with fail
                    refine (visit40 H0 k { s with nxt := upd s.nxt t (s.nxt t + 1) } v _ gp gs hn hvn ((HM.out.drewN _).setNxt htn (s.nxt t + 1)) HI.out.visn HI.out.pathLen HI.out.stackLen).mono ?_
                    rintro e w2 ⟨rfl, ⟨gp2, gs2, hM2⟩, hB2⟩
                    have HM2 : Hid (Mem w2 H0 k (stA s t v) gp2 gs2) := hM2
                    have HB2 : Hid (Below H0 w w2) := (Below.setCell (Below.drewN' HBr.out _) (p := ⟨H0 + 5, t, none⟩) (by simp) _).trans hB2
                    clear hM2 hB2
                    go_wp2
                    go_roundg (meas k adj (stA s t v))
                    case measure => rw [HGK.out]; exact meas_A htn hmore
                    case rel =>
                      refine ⟨stA s t v, gp2, gs2, rfl, rfl, HM2.out, inv_A HI.out HG.out HP.out HVE.out HZ.out, fun x hx => ?_, HB2.out⟩
                      show 0 < upd s.idx v (s.vis + 1) x
                      by_cases e : x = v
                      · rw [e, upd_same]; omega
                      · rw [upd_other _ _ e]; exact HV.out x hx
                  · have HZ : Hid (s.idx v ≠ 0) := hz
                    have hz' : ((((s.idx v : Nat) : Int)) == 0) = false := by simp; omega
                    clear hz
                    by_cases hcv : s.comp v < 0
                    · as_aux_lemma =>
                      have HCV : Hid (s.comp v < 0) := hcv
                      have a5 := HM.out.vlow.cell1 (i := 0) (by omega)
                      have a6 := HM.out.low.cell1 htn
                      have f6 := HM.out.low.free
                      simp only [constF, natF] at a5 a6
                      go_wp2
                      go_quiet (fail)
                      go_wp2
                      go_quiet (fail)
                      go_wp2
                      have HVS : Hid (v ∈ s.stack) := (HI.out.stk v).2 ⟨hvn, by have := HZ.out; omega, HCV.out⟩
                      go_region
                      go_wp2
                      · have hmin : s.idx v < s.low t := by assumption
                        go_roundg (meas k adj (stB s t (s.idx v)))
                        case measure => rw [HGK.out]; exact meas_B htn hmore
                        case rel =>
                          refine ⟨stB s t (s.idx v), gp, gs, rfl, rfl, ?_, inv_B HI.out HP.out HVE.out (by have := HZ.out; omega) (by omega) (.inr ⟨HVS.out, rfl⟩) (fun _ => Nat.le_refl _), HV.out, (Below.setCell (Below.setCell (Below.drewN' HBr.out _) (p := ⟨H0 + 5, t, none⟩) (by simp) _) (p := ⟨H0 + 2, t, none⟩) (by simp) _).drew⟩
                          exact (((HM.out.drewN _).setNxt htn (s.nxt t + 1)).setLow htn (s.idx v)).drew
                      · have hmin : ¬ s.idx v < s.low t := by assumption
                        go_roundg (meas k adj (stB s t (s.low t)))
                        case measure => rw [HGK.out]; exact meas_B htn hmore
                        case rel =>
                          refine ⟨stB s t (s.low t), gp, gs, rfl, rfl, ?_, inv_B HI.out HP.out HVE.out (by have := HZ.out; omega) (Nat.le_refl _) (.inl rfl) (fun _ => by omega), HV.out, (Below.setCell (Below.setCell (Below.drewN' HBr.out _) (p := ⟨H0 + 5, t, none⟩) (by simp) _) (p := ⟨H0 + 2, t, none⟩) (by simp) _).drew⟩
                          exact (((HM.out.drewN _).setNxt htn (s.nxt t + 1)).setLow htn (s.low t)).drew
                    · as_aux_lemma =>
                      have HCV : Hid (¬ s.comp v < 0) := hcv
                      go_wp2
                      go_quiet (fail)
                      go_wp2
                      go_quiet (fail)
                      go_wp2
                      go_roundg (meas k adj (stB s t (s.low t)))
                      case measure => rw [HGK.out]; exact meas_B htn hmore
                      case rel =>
                        refine ⟨stB s t (s.low t), gp, gs, rfl, rfl, ?_, inv_B HI.out HP.out HVE.out (by have := HZ.out; omega) (Nat.le_refl _) (.inl rfl) (fun hm => absurd (HI.out.visited hm).2.2 (by have := HCV.out; omega)), HV.out, Below.setCell (Below.drewN' HBr.out _) (p := ⟨H0 + 5, t, none⟩) (by simp) _⟩
                        exact ((HM.out.drewN _).setNxt htn (s.nxt t + 1)).lowSame
                · have hfull : s.nxt t = (adj t).length := by omega
                  have HFULL : Hid (s.nxt t = (adj t).length) := hfull
                  have hm1 : ¬ ((s.nxt t : Nat) : Int) < (((adj t).length : Nat) : Int) := by omega
                  have f1 : ∀ i, wr.frozen? ⟨H0 + 6, i, none⟩ = false := by obtain ⟨_, q1, _⟩ := HM.out.path; exact q1.free
                  have a2 := HM.out.vidx.cell1 (i := 0) (by omega)
                  have a3 := HM.out.idx.cell1 htn
                  have a5 := HM.out.vlow.cell1 (i := 0) (by omega)
                  have a6 := HM.out.low.cell1 htn
                  have f6 := HM.out.low.free
                  simp only [constF, natF] at a2 a3 a5 a6
                  clear hfull fn
                  cases ps with
                  | nil => as_aux_lemma =>
                    have heq : s.low t = s.idx t := HI.out.notAlone HP.out
                    have HEQ : Hid (s.low t = s.idx t) := heq
                    have heq' : (((s.low t : Nat) : Int) == ((s.idx t : Nat) : Int)) = true := by rw [heq]; simp
                    clear heq
                    simp only [List.length_nil, Nat.zero_add] at a1 hpt hpl hpn HPOP
                    have HMX : Hid (∀ a b, Mem (((wr.drewN a).setCell ⟨H0 + 6, 0, none⟩ (.slice (some ⟨pb, 0, none⟩) 0 pcap)).drewN b) H0 k { s with path := [] } gp gs) := fun a b => ((HM.out.drewN a).popPath (HPOP.out.keep fun _ _ => by simp)).drewN b
                    have HBX : Hid (∀ a b, Below H0 w (((wr.drewN a).setCell ⟨H0 + 6, 0, none⟩ (.slice (some ⟨pb, 0, none⟩) 0 pcap)).drewN b)) := fun a b => Below.drewN' (Below.setCell (Below.drewN' HBr.out _) (p := ⟨H0 + 6, 0, none⟩) (by simp) _) _
                    go_wp2
                    go_quiet (fail)
                    go_wp2
                    go_quiet (fail)
                    go_wp2
                    obtain ⟨A, B, hAB⟩ := List.append_of_mem htS
                    have HAB : Hid (s.stack = A ++ t :: B) := hAB
                    clear hAB
                    go_loopg [18] (A.length + 1) (fun gk _ wr => ∃ (A1 A2 : List Nat) (gs : Option Nat), gk = A2.length + 1 ∧ A = A1 ++ A2 ∧ Mem wr H0 k (st4 s A1 A2 t B []) gp gs ∧ Below H0 w wr)
                    case atStart => exact ⟨[], A, gs, rfl, rfl, by rw [st4_start HAB.out]; exact HMX.out _ _, HBX.out _ _⟩
                    case round => as_aux_lemma =>
                      obtain ⟨A1, A2, gs4, hgk4, hA, hM4, hB4⟩ := hrel
                      have HGK4 : Hid (gk = A2.length + 1) := hgk4
                      have HA4 : Hid (A = A1 ++ A2) := hA
                      have HM4 : Hid (Mem wr H0 k (st4 s A1 A2 t B []) gp gs4) := hM4
                      have HB4 : Hid (Below H0 w wr) := hB4
                      clear hgk4 hA hM4 hB4
                      obtain ⟨sv, hsv, hss⟩ := HM4.out.stack
                      have b1 := hsv.cell1 (i := 0) (by omega)
                      have g1 := hsv.free
                      simp only [constF] at b1
                      have hsn : (A2 ++ t :: B).length ≤ k := by
                        have := HI.out.stackLen
                        rw [HAB.out, HA4.out] at this
                        simp at this ⊢
                        omega
                      cases A2 with
                      | nil =>
                        have hss' : SlI wr sv (ofN (t :: B)) gs4 := hss
                        rw [ofN_cons] at hss'
                        obtain ⟨sb, scap, hse, hgsb, hsl, hsm, hst, hspop⟩ := hss'.pop
                        rw [hse, ofN_length] at b1
                        rw [ofN_length] at hst hsl hspop
                        have HSP : Hid (SlI wr (.slice (some ⟨sb, 0, none⟩) B.length scap) (ofN B) gs4) := hspop
                        have cC := HM4.out.comp.cell1 htn
                        have fC := HM4.out.comp.free
                        clear hsv hss hss' hse hgsb hspop
                        simp at hsn
                        unfold maxLen at hsm
                        go_wp2
                        go_roundg (meas k adj (stE s t A B []))
                        case measure => rw [HGK.out]; exact meas_E HP.out
                        case rel =>
                          refine ⟨stE s t A B [], gp, gs4, rfl, by show _ = Value.int .i64 ((s.cmp + 1 : Nat) : Int); have hc1 := HI.out.cnt; have hc2 := HI.out.visn; have hc3 : s.cmp ≤ 65536 := (by omega); clear hc1 hc2; rw [show wrap64 ((s.cmp : Int) + 1) = ((s.cmp + 1 : Nat) : Int) from by unfold wrap64; omega], ?_, inv_E HI.out HG.out HP.out HFULL.out HEQ.out HAB.out, HV.out, Below.setCell (Below.setCell HB4.out (p := ⟨H0 + 7, 0, none⟩) (by simp) _) (p := ⟨H0 + 4, t, none⟩) (by simp) _⟩
                          have := (HM4.out.popStack (B := B) HSP.out).setComp htn (s.cmp : Int)
                          exact mem_E (A := A) (by rw [HA4.out]; simp) this
                      | cons x A2 =>
                        have hss' : SlI wr sv (ofN (x :: (A2 ++ t :: B))) gs4 := hss
                        rw [ofN_cons] at hss'
                        obtain ⟨sb, scap, hse, hgsb, hsl, hsm, hst, hspop⟩ := hss'.pop
                        rw [hse, ofN_length] at b1
                        rw [ofN_length] at hst hsl hspop
                        have HSP : Hid (SlI wr (.slice (some ⟨sb, 0, none⟩) (A2 ++ t :: B).length scap) (ofN (A2 ++ t :: B)) gs4) := hspop
                        have hxS : x ∈ s.stack := by rw [HAB.out, HA4.out]; simp
                        have hxn := (HI.out.visited hxS).1
                        have hxt : ((x : Int) == (t : Int)) = false := by
                          have := HI.out.above HAB.out (x := x) (by rw [HA4.out]; simp)
                          simp
                          intro e
                          have e' : x = t := by omega
                          rw [e'] at this; omega
                        have cC := HM4.out.comp.cell1 hxn
                        have fC := HM4.out.comp.free
                        have hx0 : (0:Int) ≤ (x : Int) := by omega
                        have hx1 : (x:Int) < (k:Int) := by omega
                        obtain ⟨m, hm⟩ : ∃ m, m = (A2 ++ t :: B).length := ⟨_, rfl⟩
                        rw [← hm] at b1 hst hsl HSP
                        have hsn' : m + 1 ≤ k := by rw [hm]; simpa using hsn
                        clear hsv hss hss' hse hgsb hspop hsn hm hxS
                        unfold maxLen at hsm
                        go_wp2
                        go_roundg (A2.length + 1)
                        case measure => rw [HGK4.out]; simp
                        case rel =>
                          refine ⟨A1 ++ [x], A2, gs4, rfl, by rw [HA4.out]; simp, ?_, Below.setCell (Below.setCell HB4.out (p := ⟨H0 + 7, 0, none⟩) (by simp) _) (p := ⟨H0 + 4, x, none⟩) (by simp) _⟩
                          have := (HM4.out.popStack (B := A2 ++ t :: B) HSP.out).setComp hxn (s.cmp : Int)
                          exact mem_4 this
                  | cons q ps =>
                    have hpop2 : SlI wr (.slice (some ⟨pb, 0, none⟩) (q :: ps).length pcap) (ofN (q :: ps)) gp := HPOP.out
                    rw [ofN_cons] at hpop2
                    obtain ⟨pb2, pcap2, hpe2, _, hpl2, hpm2, hpt2, _⟩ := hpop2.pop
                    rw [ofN_length] at hpe2 hpl2 hpt2
                    have e2 : pb2 = pb ∧ pcap2 = pcap := by simp at hpe2; exact ⟨hpe2.1.symm, hpe2.2.symm⟩
                    obtain ⟨rfl, rfl⟩ := e2
                    have hpb := HM.out.bp _ HGP.out
                    have hpne : ¬ pb2 = H0 + 6 := by omega
                    have hpne' : ¬ H0 + 6 = pb2 := by omega
                    have hqP : q ∈ s.path := by rw [HP.out]; simp
                    have hqS : q ∈ s.stack := HI.out.pst q hqP
                    obtain ⟨hqn, _, _⟩ := HI.out.visited hqS
                    have hqlt : s.idx q < s.idx t := by have := HI.out.prt; rw [HP.out, List.pairwise_cons] at this; exact this.1 q (by simp)
                    have hqt : ¬ q = t := fun e => by rw [e] at hqlt; omega
                    have htq : ¬ t = q := fun e => hqt e.symm
                    have hqle : s.low q ≤ s.idx q := HI.out.lowle q hqP
                    have a7 := HM.out.low.cell1 hqn
                    simp only [natF] at a7
                    have hq0 : (0:Int) ≤ (q : Int) := by omega
                    have hq1 : (q:Int) < (k:Int) := by omega
                    unfold maxLen at hpm2
                    simp only [List.length_cons] at a1 hpt hpl hpn HPOP
                    clear hpop2 hpe2 hqP hqS
                    by_cases heq : s.low t = s.idx t
                    · as_aux_lemma =>
                      have HEQ : Hid (s.low t = s.idx t) := heq
                      have heq' : (((s.low t : Nat) : Int) == ((s.idx t : Nat) : Int)) = true := by rw [heq]; simp
                      have hnm : ¬ s.low t < s.low q := by omega
                      clear heq
                      have HMX : Hid (∀ a b, Mem (((((wr.drewN a).setCell ⟨H0 + 6, 0, none⟩ (.slice (some ⟨pb2, 0, none⟩) (ps.length + 1) pcap2)).setCell ⟨H0 + 2, q, none⟩ (.int .i64 ((s.low q : Nat) : Int))).drew).drewN b) H0 k { s with path := q :: ps } gp gs) := fun a b => (((HM.out.drewN a).popPath (HPOP.out.keep fun _ _ => by simp)).setLow hqn (s.low q)).drew.lowId.drewN b
                      have HBX : Hid (∀ a b, Below H0 w (((((wr.drewN a).setCell ⟨H0 + 6, 0, none⟩ (.slice (some ⟨pb2, 0, none⟩) (ps.length + 1) pcap2)).setCell ⟨H0 + 2, q, none⟩ (.int .i64 ((s.low q : Nat) : Int))).drew).drewN b)) := fun a b => Below.drewN' (Below.drew (Below.setCell (Below.setCell (Below.drewN' HBr.out _) (p := ⟨H0 + 6, 0, none⟩) (by simp) _) (p := ⟨H0 + 2, q, none⟩) (by simp) _)) _
                      go_wp2
                      go_quiet (fail)
                      go_wp2
                      go_region
                      go_wp2
                      go_quiet (fail)
                      go_wp2
                      clear hpb hpne hpne' hqlt hqt htq hqle a7 hq0 hq1 hnm heq' hpl2 hpm2 hpt2
                      obtain ⟨A, B, hAB⟩ := List.append_of_mem htS
                      have HAB : Hid (s.stack = A ++ t :: B) := hAB
                      clear hAB
                      go_loopg [18] (A.length + 1) (fun gk _ wr => ∃ (A1 A2 : List Nat) (gs : Option Nat), gk = A2.length + 1 ∧ A = A1 ++ A2 ∧ Mem wr H0 k (st4 s A1 A2 t B (q :: ps)) gp gs ∧ Below H0 w wr)
                      case atStart => exact ⟨[], A, gs, rfl, rfl, by rw [st4_start HAB.out]; exact HMX.out _ _, HBX.out _ _⟩
                      case round => as_aux_lemma =>
                        obtain ⟨A1, A2, gs4, hgk4, hA, hM4, hB4⟩ := hrel
                        have HGK4 : Hid (gk = A2.length + 1) := hgk4
                        have HA4 : Hid (A = A1 ++ A2) := hA
                        have HM4 : Hid (Mem wr H0 k (st4 s A1 A2 t B (q :: ps)) gp gs4) := hM4
                        have HB4 : Hid (Below H0 w wr) := hB4
                        clear hgk4 hA hM4 hB4
                        obtain ⟨sv, hsv, hss⟩ := HM4.out.stack
                        have b1 := hsv.cell1 (i := 0) (by omega)
                        have g1 := hsv.free
                        simp only [constF] at b1
                        have hsn : (A2 ++ t :: B).length ≤ k := by
                          have := HI.out.stackLen
                          rw [HAB.out, HA4.out] at this
                          simp at this ⊢
                          omega
                        cases A2 with
                        | nil =>
                          have hss' : SlI wr sv (ofN (t :: B)) gs4 := hss
                          rw [ofN_cons] at hss'
                          obtain ⟨sb, scap, hse, hgsb, hsl, hsm, hst, hspop⟩ := hss'.pop
                          rw [hse, ofN_length] at b1
                          rw [ofN_length] at hst hsl hspop
                          have HSP : Hid (SlI wr (.slice (some ⟨sb, 0, none⟩) B.length scap) (ofN B) gs4) := hspop
                          have cC := HM4.out.comp.cell1 htn
                          have fC := HM4.out.comp.free
                          clear hsv hss hss' hse hgsb hspop
                          simp at hsn
                          unfold maxLen at hsm
                          go_wp2
                          go_roundg (meas k adj (stE s t A B (q :: ps)))
                          case measure => rw [HGK.out]; exact meas_E HP.out
                          case rel =>
                            refine ⟨stE s t A B (q :: ps), gp, gs4, rfl, by show _ = Value.int .i64 ((s.cmp + 1 : Nat) : Int); have hc1 := HI.out.cnt; have hc2 := HI.out.visn; have hc3 : s.cmp ≤ 65536 := (by omega); clear hc1 hc2; rw [show wrap64 ((s.cmp : Int) + 1) = ((s.cmp + 1 : Nat) : Int) from by unfold wrap64; omega], ?_, inv_E HI.out HG.out HP.out HFULL.out HEQ.out HAB.out, HV.out, Below.setCell (Below.setCell HB4.out (p := ⟨H0 + 7, 0, none⟩) (by simp) _) (p := ⟨H0 + 4, t, none⟩) (by simp) _⟩
                            have := (HM4.out.popStack (B := B) HSP.out).setComp htn (s.cmp : Int)
                            exact mem_E (A := A) (by rw [HA4.out]; simp) this
                        | cons x A2 =>
                          have hss' : SlI wr sv (ofN (x :: (A2 ++ t :: B))) gs4 := hss
                          rw [ofN_cons] at hss'
                          obtain ⟨sb, scap, hse, hgsb, hsl, hsm, hst, hspop⟩ := hss'.pop
                          rw [hse, ofN_length] at b1
                          rw [ofN_length] at hst hsl hspop
                          have HSP : Hid (SlI wr (.slice (some ⟨sb, 0, none⟩) (A2 ++ t :: B).length scap) (ofN (A2 ++ t :: B)) gs4) := hspop
                          have hxS : x ∈ s.stack := by rw [HAB.out, HA4.out]; simp
                          have hxn := (HI.out.visited hxS).1
                          have hxt : ((x : Int) == (t : Int)) = false := by
                            have := HI.out.above HAB.out (x := x) (by rw [HA4.out]; simp)
                            simp
                            intro e
                            have e' : x = t := by omega
                            rw [e'] at this; omega
                          have cC := HM4.out.comp.cell1 hxn
                          have fC := HM4.out.comp.free
                          have hx0 : (0:Int) ≤ (x : Int) := by omega
                          have hx1 : (x:Int) < (k:Int) := by omega
                          obtain ⟨m, hm⟩ : ∃ m, m = (A2 ++ t :: B).length := ⟨_, rfl⟩
                          rw [← hm] at b1 hst hsl HSP
                          have hsn' : m + 1 ≤ k := by rw [hm]; simpa using hsn
                          clear hsv hss hss' hse hgsb hspop hsn hm hxS
                          unfold maxLen at hsm
                          go_wp2
                          go_roundg (A2.length + 1)
                          case measure => rw [HGK4.out]; simp
                          case rel =>
                            refine ⟨A1 ++ [x], A2, gs4, rfl, by rw [HA4.out]; simp, ?_, Below.setCell (Below.setCell HB4.out (p := ⟨H0 + 7, 0, none⟩) (by simp) _) (p := ⟨H0 + 4, x, none⟩) (by simp) _⟩
                            have := (HM4.out.popStack (B := A2 ++ t :: B) HSP.out).setComp hxn (s.cmp : Int)
                            exact mem_4 this
                    · have heq' : (((s.low t : Nat) : Int) == ((s.idx t : Nat) : Int)) = false := by simp; omega
                      have HNEQ : Hid (s.low t ≠ s.idx t) := heq
                      clear heq
                      by_cases hmin : s.low t < s.low q
                      · as_aux_lemma =>
                        go_wp2
                        go_quiet (fail)
                        go_wp2
                        go_region
                        go_wp2
                        go_quiet (fail)
                        go_wp2
                        go_roundg (meas k adj (stD s (q :: ps) q (s.low t)))
                        case measure => rw [HGK.out]; exact meas_D HP.out
                        case rel =>
                          have hi := inv_D HI.out HP.out HFULL.out HNEQ.out
                          rw [show min (s.low q) (s.low t) = s.low t from by omega] at hi
                          refine ⟨stD s (q :: ps) q (s.low t), gp, gs, rfl, rfl, ?_, hi, HV.out, ?_⟩
                          · exact (((HM.out.drewN _).popPath (HPOP.out.keep fun _ _ => by simp)).setLow hqn (s.low t)).drew.drewN _
                          · exact Below.drewN' (Below.drew (Below.setCell (Below.setCell (Below.drewN' HBr.out _) (p := ⟨H0 + 6, 0, none⟩) (by simp) _) (p := ⟨H0 + 2, q, none⟩) (by simp) _)) _
                      · as_aux_lemma =>
                        go_wp2
                        go_quiet (fail)
                        go_wp2
                        go_region
                        go_wp2
                        go_quiet (fail)
                        go_wp2
                        go_roundg (meas k adj (stD s (q :: ps) q (s.low q)))
                        case measure => rw [HGK.out]; exact meas_D HP.out
                        case rel =>
                          have hi := inv_D HI.out HP.out HFULL.out HNEQ.out
                          rw [show min (s.low q) (s.low t) = s.low q from by omega] at hi
                          refine ⟨stD s (q :: ps) q (s.low q), gp, gs, rfl, rfl, ?_, hi, HV.out, ?_⟩
                          · exact (((HM.out.drewN _).popPath (HPOP.out.keep fun _ _ => by simp)).setLow hqn (s.low q)).drew.drewN _
                          · exact Below.drewN' (Below.drew (Below.setCell (Below.setCell (Below.drewN' HBr.out _) (p := ⟨H0 + 6, 0, none⟩) (by simp) _) (p := ⟨H0 + 2, q, none⟩) (by simp) _)) _
        · have : r = k := by omega
          subst this
          go_wp2
          go_ret
          have := HH.out
          exact ⟨H0 + 4, s.comp, s.cmp, rfl, by omega, HM.out.comp, HI.out.finish HP.out HV.out, HBr.out.mono (by omega)⟩
end Go.Proofs.Qxb6000570a
