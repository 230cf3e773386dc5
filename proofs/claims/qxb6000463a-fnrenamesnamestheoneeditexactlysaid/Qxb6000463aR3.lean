/-
  WALK for the law on Renames: sOutline (12).
-/
import Derived.Test.Qxb6000463aR1
import Derived.Test.Qxb6000463aW2
import Derived.Test.Qxb6000463aBase2
namespace Go.Proofs.Qxb6000463a
open Go.RowKit
set_option linter.unusedVariables false
set_option linter.unusedSimpArgs false

/-- What an outline holds, by index. -/
structure OD where
  sch : Nat → ByteArray
  nam : Nat → ByteArray
  nc : Nat → Nat
  np : Nat → Nat
  col : Nat → Nat → ByteArray
  prt : Nat → Nat → ByteArray
def TD.od (T : TD) : OD := ⟨T.sch, T.nam, T.nc, T.np, T.col, T.prt⟩

def fkEl (i : Nat) (Q : Nat → ByteArray) (j : Nat) : Nat → Value
  | 0 => .string ⟨#[102, 107]⟩
  | 1 => .slice none 0 0
  | 2 => .string ⟨#[]⟩
  | 3 => .string ⟨#[]⟩
  | 4 => .slice none 0 0
  | 5 => .string (Q j)
  | 6 => .string ⟨#[]⟩
  | 7 => .string ⟨#[]⟩
  | 8 => .int .u32 ((i : Int) * 4096 + j + 1)
  | _ => .bool false
def tabEl (b : Nat) (O : OD) (i : Nat) : Nat → Value
  | 0 => .string (O.sch i)
  | 1 => .string (O.nam i)
  | 2 => .string (O.nam i)
  | 3 => .int .u32 ((i : Int) + 1)
  | 4 => .string ⟨#[]⟩
  | 5 => .string ⟨#[]⟩
  | 6 => .string ⟨#[]⟩
  | 7 => .slice (some ⟨b + 2 + 2 * i, 0, none⟩) (O.nc i) (O.nc i)
  | 8 => .slice none 0 0
  | 9 => .slice (some ⟨b + 3 + 2 * i, 0, none⟩) (O.np i) (O.np i)
  | _ => .bool false
def z34 : Array Value := #[.string ⟨#[]⟩, .string ⟨#[]⟩, .string ⟨#[]⟩, .int .u32 0, .string ⟨#[]⟩, .string ⟨#[]⟩, .string ⟨#[]⟩, .slice none 0 0, .slice none 0 0, .slice none 0 0, .bool false]
def z41 : Array Value := #[.string ⟨#[]⟩, .slice none 0 0, .string ⟨#[]⟩, .string ⟨#[]⟩, .slice none 0 0, .string ⟨#[]⟩, .string ⟨#[]⟩, .string ⟨#[]⟩, .int .u32 0, .bool false]
theorem Try.info34 : (Try.prog.info? 34).map (fun i => (i.zero, i.size, i.bytes)) = some (some (.agg z34), 11, 184) := by kernel_rfl
theorem Try.info41 : (Try.prog.info? 41).map (fun i => (i.zero, i.size, i.bytes)) = some (some (.agg z41), 10, 152) := by kernel_rfl
def mk34 (n : Nat) : Array Value := madeCells z34 (n * 11)
def mk41 (n : Nat) : Array Value := madeCells z41 (n * 10)
theorem make34 (n : Nat) (hn : n ≤ 1048576) (w : World) : (Instr.makeSlice 24 (.int .i64 n) (.int .i64 n)).run Try.prog w = .ok (.slice (some ⟨w.heap.size, 0, none⟩) n n) (w.alloc (.cells (mk34 n) 34)) := by
  obtain ⟨i0, hi, hz0, hz1, hz2⟩ := info_parts Try.info34
  have := run_make (P := Try.prog) w 24 34 i0 _ Try.underlying24 hi hz0 .i64 .i64 n n (by omega) (by omega) (by rw [hz2]; omega) (by omega)
  rw [this, hz1]
  rfl
theorem make41 (n : Nat) (hn : n ≤ 1048576) (w : World) : (Instr.makeSlice 32 (.int .i64 n) (.int .i64 n)).run Try.prog w = .ok (.slice (some ⟨w.heap.size, 0, none⟩) n n) (w.alloc (.cells (mk41 n) 41)) := by
  obtain ⟨i0, hi, hz0, hz1, hz2⟩ := info_parts Try.info41
  have := run_make (P := Try.prog) w 32 41 i0 _ Try.underlying32 hi hz0 .i64 .i64 n n (by omega) (by omega) (by rw [hz2]; omega) (by omega)
  rw [this, hz1]
  rfl

/-- The outline that sOutline lays from block b on, in w. -/
structure Outl (w : World) (b n : Nat) (O : OD) : Prop where
  tab : Els w (b + 1) n 11 (tabEl b O)
  cols : ∀ i, i < n → Els w (b + 2 + 2 * i) (O.nc i) 8 (colEl (O.col i) (O.col i))
  fks : ∀ i, i < n → Els w (b + 3 + 2 * i) (O.np i) 10 (fkEl i (O.prt i))

def tabK (b : Nat) (O : OD) (k i j : Nat) : Value := if i < k then tabEl b O i j else z34[j]!
def fkK (i0 : Nat) (Q : Nat → ByteArray) (k i j : Nat) : Value := if i < k then fkEl i0 Q i j else z41[j]!
def fkL (i : Nat) (q : ByteArray) (j : Nat) : List Value := [.string ⟨#[102, 107]⟩, .slice none 0 0, .string ⟨#[]⟩, .string ⟨#[]⟩, .slice none 0 0, .string q, .string ⟨#[]⟩, .string ⟨#[]⟩, .int .u32 ((i : Int) * 4096 + j + 1), .bool false]
def tabL (g7 g9 : Nat) (s m : ByteArray) (i nc np : Nat) : List Value := [.string s, .string m, .string m, .int .u32 ((i : Int) + 1), .string ⟨#[]⟩, .string ⟨#[]⟩, .string ⟨#[]⟩, .slice (some ⟨g7, 0, none⟩) nc nc, .slice none 0 0, .slice (some ⟨g9, 0, none⟩) np np, .bool false]
theorem fk_step {w : World} {b n k l : Nat} {Q : Nat → ByteArray} (h : Els w b n 10 (fkK k Q l)) (hl : l < n) : Els (w.setCells b (l * 10) (fkL k (Q l) l)) b n 10 (fkK k Q (l + 1)) := by
  refine (h.setEl hl _ rfl).congr fun i hi j hj => ?_
  by_cases e : i = l
  · subst e
    rw [if_pos rfl]
    have : j = 0 ∨ j = 1 ∨ j = 2 ∨ j = 3 ∨ j = 4 ∨ j = 5 ∨ j = 6 ∨ j = 7 ∨ j = 8 ∨ j = 9 := by omega
    rcases this with rfl | rfl | rfl | rfl | rfl | rfl | rfl | rfl | rfl | rfl <;> simp [fkK, fkL, fkEl]
  · rw [if_neg e]
    have : i < l ↔ i < l + 1 := by omega
    simp only [fkK, this]
theorem tab_step {w : World} {b b' n k g7 g9 : Nat} {O : OD} (h : Els w b n 11 (tabK b' O k)) (hk : k < n) (h7 : g7 = b' + 2 + 2 * k) (h9 : g9 = b' + 3 + 2 * k) : Els (w.setCells b (k * 11) (tabL g7 g9 (O.sch k) (O.nam k) k (O.nc k) (O.np k))) b n 11 (tabK b' O (k + 1)) := by
  subst h7; subst h9
  refine (h.setEl hk _ rfl).congr fun i hi j hj => ?_
  by_cases e : i = k
  · subst e
    rw [if_pos rfl]
    have : j = 0 ∨ j = 1 ∨ j = 2 ∨ j = 3 ∨ j = 4 ∨ j = 5 ∨ j = 6 ∨ j = 7 ∨ j = 8 ∨ j = 9 ∨ j = 10 := by omega
    rcases this with rfl | rfl | rfl | rfl | rfl | rfl | rfl | rfl | rfl | rfl | rfl <;> simp [tabK, tabL, tabEl]
  · rw [if_neg e]
    have : i < k ↔ i < k + 1 := by omega
    simp only [tabK, this]
def outV (b n : Nat) : Value := .agg #[.slice (some ⟨b + 1, 0, none⟩) n n, .bool false, .string ⟨#[100, 98]⟩, .int .i64 0]

def P12 (n : Nat) (T : TD) (w : World) (e : Ending) (w' : World) : Prop :=
  e = .returned (outV w.heap.size n) ∧ Outl w' w.heap.size n T.od ∧ Below w.heap.size w w' ∧ w'.heap.size = w.heap.size + 2 + 2 * n

set_option maxRecDepth 20000 in
set_option maxHeartbeats 1000000 in
theorem sOutline12 (ao : Option Addr) (n c : Nat) (T : TD) (w : World) (hn : n ≤ 4096) (hb : ∀ i, i < n → T.nc i ≤ 4096 ∧ T.np i < 4096) (hc : TabSl w ao n T) :
    Calls Try.prog 12 #[.slice ao n c] w (P12 n T w) := by
  have HC : Hid (TabSl w ao n T) := hc
  have HB : Hid (∀ i, i < n → T.nc i ≤ 4096 ∧ T.np i < 4096) := hb
  clear hc hb
  have hmk := make34 n (by omega)
  go_enter Try.func12, Try.ntmps12
  go_wp2
  clear hmk
  go_loopw [4, 5, 6, 7, 8, 9, 10] (fun i _ _ _ _ _ _ wr => ∃ k : Nat, k ≤ n ∧ i = .int .i64 k ∧ Below w.heap.size w wr ∧ (∃ f, Els wr w.heap.size 4 1 f) ∧ Els wr (w.heap.size + 1) n 11 (tabK w.heap.size T.od k) ∧ wr.heap.size = w.heap.size + 2 + 2 * k ∧
      (∀ i, i < k → Els wr (w.heap.size + 2 + 2 * i) (T.nc i) 8 (colEl (T.col i) (T.col i)) ∧ Els wr (w.heap.size + 3 + 2 * i) (T.np i) 10 (fkEl i (T.prt i)))) (fun i _ _ _ _ _ _ _ => n - (intOf i).toNat)
  case atStart =>
    refine ⟨0, by omega, rfl, ((Below.refl _ _).alloc (Nat.le_refl _) _).alloc (by simp) _, ⟨_, (els_lit w _ 26).alloc _⟩, ?_, by simp, fun i hi => absurd hi (by omega)⟩
    refine (size_alloc' w _ ▸ els_made (w.alloc _) n 11 z34 rfl (by omega) 34).congr fun i hi j hj => ?_
    simp [tabK]
  case round =>
    obtain ⟨k, hk, rfl, hb, hres, htab, hsz, hall⟩ := hrel
    have HBl : Hid (Below w.heap.size w wr) := hb
    have HR : Hid (∃ f, Els wr w.heap.size 4 1 f) := hres
    have HT : Hid (Els wr (w.heap.size + 1) n 11 (tabK w.heap.size T.od k)) := htab
    have HSZ : Hid (wr.heap.size = w.heap.size + 2 + 2 * k) := hsz
    have HA : Hid (∀ i, i < k → Els wr (w.heap.size + 2 + 2 * i) (T.nc i) 8 (colEl (T.col i) (T.col i)) ∧ Els wr (w.heap.size + 3 + 2 * i) (T.np i) 10 (fkEl i (T.prt i))) := hall
    clear hres htab hsz hall
    by_cases hlt : k < n
    · obtain ⟨b, off, rfl, hcc⟩ := HC.out (by omega)
      obtain ⟨c0, c1, c2, c3, hcs, hps⟩ := hcc k hlt
      obtain ⟨b2, b3⟩ := HB.out k hlt
      have HCS : Hid (StrSl w (T.ca k) (T.nc k) (T.col k)) := hcs
      have HPS : Hid (StrSl w (T.pa k) (T.np k) (T.prt k)) := hps
      have e0 := cell_later hb c0
      have e1 := cell_later hb c1
      have e2 := cell_later hb c2
      have e3 := cell_later hb c3
      have E0 : Hid (w.cell? ⟨b, off + k * 4, none⟩ = some (.string (T.sch k))) := c0
      have E1 : Hid (w.cell? ⟨b, off + k * 4 + 1, none⟩ = some (.string (T.nam k))) := c1
      have E3 : Hid (w.cell? ⟨b, off + k * 4 + 3, none⟩ = some (.slice (T.pa k) (T.np k) (T.pc k))) := c3
      clear hcc hcs hps c0 c1 c2 c3 hb
      generalize T.ca k = ca at *
      generalize T.cc k = cc at *
      generalize T.pa k = pa at *
      generalize T.pc k = pc at *
      have hmk := make39 (T.nc k) (by omega)
      go_wp2
      clear hmk e0 e1 e2 e3
      rename World => w1
      go_loopw [7] (fun i wr => ∃ j : Nat, j ≤ T.nc k ∧ i = .int .i64 j ∧ Below w1.heap.size w1 wr ∧ Els wr w1.heap.size (T.nc k) 8 (colK (T.col k) (T.col k) j) ∧ wr.heap.size = w1.heap.size + 1) (fun i _ => T.nc k - (intOf i).toNat)
      case atStart =>
        refine ⟨0, by omega, rfl, (Below.refl _ _).alloc (Nat.le_refl _) _, ?_, by simp⟩
        refine (els_made w1 (T.nc k) 8 z39 rfl (by omega) 39).congr fun i hi j hj => ?_
        simp [colK]
      case round =>
        obtain ⟨j, hj, rfl, hb2, hel2, hsz2⟩ := hrel
        have HB2 : Hid (Below w1.heap.size w1 wr) := hb2
        have HE2 : Hid (Els wr w1.heap.size (T.nc k) 8 (colK (T.col k) (T.col k) j)) := hel2
        have HSZ2 : Hid (wr.heap.size = w1.heap.size + 1) := hsz2
        clear hsz2
        by_cases hltj : j < T.nc k
        · obtain ⟨b', off', rfl, hcc⟩ := HCS.out (by omega)
          have hcell := cell_later hb2 (cell_later HBl.out (hcc j hltj))
          have d0 := hel2.cell hltj (j := 0) (by omega)
          have d1 := hel2.cell hltj (j := 1) (by omega)
          have d2 := hel2.cell hltj (j := 2) (by omega)
          have d3 := hel2.cell hltj (j := 3) (by omega)
          have d4 := hel2.cell hltj (j := 4) (by omega)
          have d5 := hel2.cell hltj (j := 5) (by omega)
          have d6 := hel2.cell hltj (j := 6) (by omega)
          have d7 := hel2.cell hltj (j := 7) (by omega)
          have f0 := hel2.free
          simp only [Nat.add_zero] at d0
          have hk0 : (0:Int) ≤ (j : Int) := by omega
          have hlt' : (j:Int) < (T.nc k:Int) := by omega
          clear hcc hb2 hel2
          go_wp2
          go_region
          go_wp2
          go_roundw
          case rel =>
            refine ⟨j + 1, by omega, by go_num, ?_, colK_step HE2.out hltj, by simpa [World.setCell] using HSZ2.out⟩
            exact ((((((((HB2.out.setCell (by simp) _).setCell (by simp) _).setCell (by simp) _).setCell (by simp) _).setCell (by simp) _).setCell (by simp) _).setCell (by simp) _).setCell (by simp) _).drew
          case measure => simp [intOf]; omega
        · have : j = T.nc k := by omega
          subst this
          have e3 := cell_later hb2 (cell_later HBl.out E3.out)
          have hmk := make41 (T.np k) (by omega)
          clear hb2 hel2
          go_wp2
          clear hmk e3
          rename World => w2
          go_loopw [10] (fun i wr => ∃ j : Nat, j ≤ T.np k ∧ i = .int .i64 j ∧ Below w2.heap.size w2 wr ∧ Els wr w2.heap.size (T.np k) 10 (fkK k (T.prt k) j) ∧ wr.heap.size = w2.heap.size + 1) (fun i _ => T.np k - (intOf i).toNat)
          case atStart =>
            refine ⟨0, by omega, rfl, (Below.refl _ _).alloc (Nat.le_refl _) _, ?_, by simp⟩
            refine (els_made w2 (T.np k) 10 z41 rfl (by omega) 41).congr fun i hi j hj => ?_
            simp [fkK]
          case round =>
            obtain ⟨l, hl, rfl, hb3, hel3, hsz3⟩ := hrel
            have HB3 : Hid (Below w2.heap.size w2 wr) := hb3
            have HE3 : Hid (Els wr w2.heap.size (T.np k) 10 (fkK k (T.prt k) l)) := hel3
            have HSZ3 : Hid (wr.heap.size = w2.heap.size + 1) := hsz3
            clear hsz3
            by_cases hltl : l < T.np k
            · obtain ⟨b', off', rfl, hcc⟩ := HPS.out (by omega)
              have hcell := cell_later hb3 (cell_later HB2.out (cell_later HBl.out (hcc l hltl)))
              have d0 := hel3.cell hltl (j := 0) (by omega)
              have d1 := hel3.cell hltl (j := 1) (by omega)
              have d2 := hel3.cell hltl (j := 2) (by omega)
              have d3 := hel3.cell hltl (j := 3) (by omega)
              have d4 := hel3.cell hltl (j := 4) (by omega)
              have d5 := hel3.cell hltl (j := 5) (by omega)
              have d6 := hel3.cell hltl (j := 6) (by omega)
              have d7 := hel3.cell hltl (j := 7) (by omega)
              have d8 := hel3.cell hltl (j := 8) (by omega)
              have d9 := hel3.cell hltl (j := 9) (by omega)
              have f0 := hel3.free
              simp only [Nat.add_zero] at d0
              clear hcc hb3 hel3
              go_wp2
              go_roundw
              case rel =>
                refine ⟨l + 1, by omega, by go_num, ?_, fk_step HE3.out hltl, ?_⟩
                · exact Below.setCells (Nat.le_refl _) (fkL k (T.prt k l) l) (l * 10) wr HB3.out
                · exact (size_setCells w2.heap.size (fkL k (T.prt k l) l) (l * 10) wr).trans HSZ3.out
              case measure => simp [intOf]; omega
            · have : l = T.np k := by omega
              subst this
              have hsz1 : w2.heap.size = w1.heap.size + 1 := HSZ2.out
              have hsz3 : wr.heap.size = w2.heap.size + 1 := HSZ3.out
              have hsz0 : w1.heap.size = w.heap.size + 2 + 2 * k := HSZ.out
              have q1 : w1.heap.size = w.heap.size + 2 + 2 * k := by omega
              have q2 : w2.heap.size = w.heap.size + 3 + 2 * k := by omega
              have hT3 : Els wr (w.heap.size + 1) n 11 (tabK w.heap.size T.od k) := (HT.out.below HB2.out HT.out.lt).below hb3 (HT.out.below HB2.out HT.out.lt).lt
              have HT3 : Hid (Els wr (w.heap.size + 1) n 11 (tabK w.heap.size T.od k)) := hT3
              have hBl : Below w.heap.size w wr := HBl.out.trans ((HB2.out.mono (by omega)).trans (hb3.mono (by omega)))
              have HBl3 : Hid (Below w.heap.size w wr) := hBl
              have HR3 : Hid (∃ f, Els wr w.heap.size 4 1 f) := by
                obtain ⟨f, hf⟩ := HR.out
                exact ⟨f, (hf.below HB2.out hf.lt).below hb3 (hf.below HB2.out hf.lt).lt⟩
              have HA3 : Hid (∀ i, i < k → Els wr (w.heap.size + 2 + 2 * i) (T.nc i) 8 (colEl (T.col i) (T.col i)) ∧ Els wr (w.heap.size + 3 + 2 * i) (T.np i) 10 (fkEl i (T.prt i))) := fun i hi => by
                obtain ⟨a1, a2⟩ := HA.out i hi
                exact ⟨(a1.below HB2.out a1.lt).below hb3 (a1.below HB2.out a1.lt).lt, (a2.below HB2.out a2.lt).below hb3 (a2.below HB2.out a2.lt).lt⟩
              have HC3 : Hid (Els wr (w.heap.size + 2 + 2 * k) (T.nc k) 8 (colEl (T.col k) (T.col k))) := by
                have := HE2.out.below hb3 HE2.out.lt
                rw [q1] at this
                exact this.congr fun i hi j hj => by simp [colK, hi]
              have HF3 : Hid (Els wr (w.heap.size + 3 + 2 * k) (T.np k) 10 (fkEl k (T.prt k))) := by
                have := HE3.out
                rw [q2] at this
                exact this.congr fun i hi j hj => by simp [fkK, hi]
              have e0 := cell_later hBl E0.out
              have e1 := cell_later hBl E1.out
              have d0 := hT3.cell hlt (j := 0) (by omega)
              have d1 := hT3.cell hlt (j := 1) (by omega)
              have d2 := hT3.cell hlt (j := 2) (by omega)
              have d3 := hT3.cell hlt (j := 3) (by omega)
              have d4 := hT3.cell hlt (j := 4) (by omega)
              have d5 := hT3.cell hlt (j := 5) (by omega)
              have d6 := hT3.cell hlt (j := 6) (by omega)
              have d7 := hT3.cell hlt (j := 7) (by omega)
              have d8 := hT3.cell hlt (j := 8) (by omega)
              have d9 := hT3.cell hlt (j := 9) (by omega)
              have d10 := hT3.cell hlt (j := 10) (by omega)
              have f0 := hT3.free
              simp only [Nat.add_zero] at d0
              have hk0 : (0:Int) ≤ (k : Int) := by omega
              have hlt' : (k:Int) < (n:Int) := by omega
              have Q1 : Hid (w1.heap.size = w.heap.size + 2 + 2 * k) := q1
              have Q2 : Hid (w2.heap.size = w.heap.size + 3 + 2 * k) := q2
              have Q3 : Hid (wr.heap.size = w.heap.size + 2 + 2 * (k + 1)) := by show _ = _; omega
              clear hsz0 hsz1 hsz3 q1 q2 hT3 hBl hb3 hel3 HT HB2 HB3 HR HA HBl HE2 HE3
              go_wp2
              go_region
              go_wp2
              go_roundw
              case rel =>
                refine ⟨k + 1, by omega, by go_num, ?_, ?_, ?_, ?_, ?_⟩
                · exact (Below.setCells (b := w.heap.size + 1) (by omega) (tabL w1.heap.size w2.heap.size (T.sch k) (T.nam k) k (T.nc k) (T.np k)) (k * 11) wr HBl3.out).drew
                · obtain ⟨f, hf⟩ := HR3.out
                  exact ⟨f, (Els.otherCells (b := w.heap.size + 1) (by omega) (tabL w1.heap.size w2.heap.size (T.sch k) (T.nam k) k (T.nc k) (T.np k)) (k * 11) wr hf).drew⟩
                · exact (tab_step (O := T.od) HT3.out hlt Q1.out Q2.out).drew
                · simp only [World.size_drew, World.size_setCell]; exact Q3.out
                · intro i hi
                  refine ⟨(Els.otherCells (b := w.heap.size + 1) (by omega) (tabL w1.heap.size w2.heap.size (T.sch k) (T.nam k) k (T.nc k) (T.np k)) (k * 11) wr ?_).drew, (Els.otherCells (b := w.heap.size + 1) (by omega) (tabL w1.heap.size w2.heap.size (T.sch k) (T.nam k) k (T.nc k) (T.np k)) (k * 11) wr ?_).drew⟩
                  · by_cases e : i = k
                    · rw [e]; exact HC3.out
                    · exact (HA3.out i (by omega)).1
                  · by_cases e : i = k
                    · rw [e]; exact HF3.out
                    · exact (HA3.out i (by omega)).2
              case measure => simp [intOf]; omega
    · have : k = n := by omega
      subst this
      obtain ⟨f, hf⟩ := HR.out
      have d0 := hf.cell1 (i := 0) (by omega)
      have d1 := hf.cell1 (i := 1) (by omega)
      have d2 := hf.cell1 (i := 2) (by omega)
      have d3 := hf.cell1 (i := 3) (by omega)
      have f0 := hf.free
      clear hf hb
      go_wp2
      refine bodyPost_ret (v := outV w.heap.size k) (by simp [results, Try.results12, go_sem, outV, d0, d1, d2, d3]; done) rfl ?_
      refine ⟨rfl, ⟨?_, ?_, ?_⟩, ?_, ?_⟩
      · refine ((((HT.out.other (by simp) _).other (by simp) _).other (by simp) _).other (by simp) _).congr fun i hi j hj => ?_
        simp [tabK, hi]
      · intro i hi
        exact ((((HA.out i hi).1.other (by simp; omega) _).other (by simp; omega) _).other (by simp; omega) _).other (by simp; omega) _
      · intro i hi
        exact ((((HA.out i hi).2.other (by simp; omega) _).other (by simp; omega) _).other (by simp; omega) _).other (by simp; omega) _
      · exact (((HBl.out.setCell (by simp) _).setCell (by simp) _).setCell (by simp) _).setCell (by simp) _
      · simpa [World.setCell] using HSZ.out
end Go.Proofs.Qxb6000463a
