/-
  WALKS: adjBytes (11) with its sum, reverseAdj (15).
-/
import Derived.Test.Qxb6000570aD3
import Derived.Test.Qxb6000570aRev
namespace Go.Proofs.Qxb6000570a
open Go.RowKit
set_option linter.unusedVariables false
set_option linter.unusedSimpArgs false

def P11b (n : Nat) (adj : Nat → List Int) (w : World) (e : Ending) (w' : World) : Prop := (∃ z, e = .returned (.int .i64 z) ∧ (z ≤ 1048576 → sumTo (fun u => (adj u).length) n ≤ 131072)) ∧ w' = w
set_option maxRecDepth 20000 in
set_option maxHeartbeats 4000000 in
theorem bytes11b (ao : Option Addr) (n ac : Nat) (adj : Nat → List Int) (ra : Nat → Option Addr) (rc : Nat → Nat) (w : World) (hn : n ≤ 1048576) (hl : ∀ u, u < n → (adj u).length ≤ 1048576) (ha : AdjZ w ao n adj ra rc) :
    Calls Try.prog 11 #[.slice ao n ac] w (P11b n adj w) := by
  have HL : Hid (∀ u, u < n → (adj u).length ≤ 1048576) := hl
  have HA : Hid (AdjZ w ao n adj ra rc) := ha
  clear hl ha
  go_enter Try.func11, Try.ntmps11
  go_wp2
  · go_ret
    exact ⟨⟨_, rfl, fun h => by omega⟩, rfl⟩
  · go_loop [3, 4] (fun t i => ∃ (k : Nat) (z : Int), k ≤ n ∧ i = .int .i64 k ∧ t = .int .i64 z ∧ 0 ≤ z ∧ z ≤ 1048576 ∧ z = 8 * n + 8 * sumTo (fun u => (adj u).length) k) (fun _ i => n - (intOf i).toNat)
    case atStart => exact ⟨0, 8 * n, by omega, rfl, rfl, by omega, by omega, by simp [sumTo]⟩
    case round =>
      obtain ⟨k, z, hk, rfl, rfl, hz1, hz2, hz3⟩ := hrel
      have HZ : Hid (z = 8 * n + 8 * sumTo (fun u => (adj u).length) k) := hz3
      clear hz3
      by_cases hlt : k < n
      · obtain ⟨b, off, rfl, hcc⟩ := HA.out (by omega)
        obtain ⟨hcell, _⟩ := hcc k hlt
        have hsz := HL.out k hlt
        clear hcc
        go_wp2
        all_goals first
          | (go_ret; exact ⟨⟨_, rfl, fun h => by omega⟩, rfl⟩)
          | skip
        go_round
        case rel => exact ⟨k + 1, _, by omega, by go_num, rfl, by omega, by omega, by have := HZ.out; simp only [sumTo]; omega⟩
        case measure => simp [intOf]; omega
      · have : k = n := by omega
        subst this
        go_wp2
        go_ret
        exact ⟨⟨_, rfl, fun _ => by have := HZ.out; omega⟩, rfl⟩

def castL (l : List Nat) : List Int := l.map fun x : Nat => (x : Int)
theorem castL_len (l : List Nat) : (castL l).length = l.length := by simp [castL]
theorem castL_snoc (l : List Nat) (u : Nat) : castL (l ++ [u]) = castL l ++ [(u : Int)] := by simp [castL]

/-- The rows in the making: block H holds n slices, each of the call's own, at blocks of their own. -/
structure RevM (w0 wr : World) (H n : Nat) (vals : Nat → Value) (R : Nat → List Nat) (g : Nat → Option Nat) : Prop where
  els : Els wr H n 1 (fun i _ => vals i)
  row : ∀ v, v < n → SlI wr (vals v) (castL (R v)) (g v)
  hi : ∀ v, v < n → ∀ b, g v = some b → H < b
  inj : ∀ v v', v < n → v' < n → ∀ b, g v = some b → g v' = some b → v = v'
  bel : Below H w0 wr
theorem revM_start (w : World) (n : Nat) : RevM w (w.alloc (.cells (mkR n) 26)) w.heap.size n (fun _ => .slice none 0 0) (fun _ => []) (fun _ => none) where
  els := (els_madeR w n (fun _ => []) (fun _ => none) (fun _ => 0)).congr fun i hi j hj => by simp [rowF]
  row := fun v hv => SlI.nil _
  hi := fun v hv b h => by cases h
  inj := fun v v' _ _ b h => by cases h
  bel := (Below.refl _ _).alloc (Nat.le_refl _) _
theorem RevM.alloc {w0 wr : World} {H n : Nat} {vals : Nat → Value} {R : Nat → List Nat} {g : Nat → Option Nat} (h : RevM w0 wr H n vals R g) (o : Obj) : RevM w0 (wr.alloc o) H n vals R g where
  els := h.els.alloc o
  row := fun v hv => (h.row v hv).keep fun b e => Below.heap_alloc _ _ _ (by have := h.row v hv; rw [e] at this; exact this.lt)
  hi := h.hi
  inj := h.inj
  bel := h.bel.alloc (Nat.le_of_lt h.els.lt) _
theorem RevM.push {w0 w1 w2 : World} {H n : Nat} {vals : Nat → Value} {R : Nat → List Nat} {g : Nat → Option Nat} (h : RevM w0 w1 H n vals R g) {v u : Nat} (hv : v < n) {v' : Value} {g' : Option Nat}
    (h1 : SlI w2 v' (castL (R v) ++ [(u : Int)]) g') (h2 : w1.grownBy w2 (g v)) (h3 : g' = g v ∨ g' = some w1.heap.size) :
    RevM w0 (w2.setCell ⟨H, v, none⟩ v') H n (upd vals v v') (upd R v (R v ++ [u])) (upd g v g') where
  els := by
    have e2 : Els w2 H n 1 (fun i _ => vals i) := h.els.of_block (h2.block H h.els.lt (fun e => by have := h.hi v hv H e.symm; omega))
    exact e2.set1' hv _ (upd_same _ _ _) (fun i hi => upd_other _ _ hi)
  row := by
    intro x hx
    have hg' : ∀ b, g' = some b → H < b := fun b e => by
      rcases h3 with e3 | e3
      · exact h.hi v hv b (by rw [← e3, e])
      · rw [e3] at e; injection e with e; have := h.els.lt; omega
    by_cases e : x = v
    · subst e
      rw [upd_same, upd_same, upd_same, castL_snoc]
      exact h1.keep fun b e => Below.heap_setCell _ _ _ _ (by have := hg' b e; simp; omega)
    · rw [upd_other _ _ e, upd_other _ _ e, upd_other _ _ e]
      refine (h.row x hx).keep fun b e2 => ?_
      rw [Below.heap_setCell _ _ _ _ (by have := h.hi x hx b e2; simp; omega)]
      refine h2.block b ?_ ?_
      · have := h.row x hx; rw [e2] at this; exact this.lt
      · intro e3; exact e (h.inj x v hx hv b e2 e3.symm)
  hi := by
    intro x hx b hb
    by_cases e : x = v
    · subst e
      rw [upd_same] at hb
      rcases h3 with e3 | e3
      · exact h.hi x hv b (by rw [← e3, hb])
      · rw [e3] at hb; injection hb with hb; have := h.els.lt; omega
    · rw [upd_other _ _ e] at hb; exact h.hi x hx b hb
  inj := by
    have hlt : ∀ x, x < n → ∀ b, g x = some b → b < w1.heap.size := fun x hx b e => by have := h.row x hx; rw [e] at this; exact this.lt
    have key : ∀ x, x < n → x ≠ v → ∀ b, g x = some b → g' = some b → False := fun x hx hne b e1 e2 => by
      rcases h3 with e3 | e3
      · exact hne (h.inj x v hx hv b e1 (by rw [← e3, e2]))
      · rw [e3] at e2; injection e2 with e2; have := hlt x hx b e1; omega
    intro x y hx hy b hb1 hb2
    by_cases e1 : x = v
    · by_cases e2 : y = v
      · rw [e1, e2]
      · rw [e1, upd_same] at hb1
        rw [upd_other _ _ e2] at hb2
        exact (key y hy e2 b hb2 hb1).elim
    · rw [upd_other _ _ e1] at hb1
      by_cases e2 : y = v
      · rw [e2, upd_same] at hb2
        exact (key x hx e1 b hb1 hb2).elim
      · rw [upd_other _ _ e2] at hb2
        exact h.inj x y hx hy b hb1 hb2
  bel := (h.bel.grown h2 (Nat.le_of_lt h.els.lt) (fun b e => by have := h.hi v hv b e; omega)).setCell (by simp) _

def adOf : Value → Option Addr
  | .slice a _ _ => a
  | _ => none
def cpOf : Value → Nat
  | .slice _ _ c => c
  | _ => 0
theorem RevM.fin {w0 wr : World} {H n : Nat} {vals : Nat → Value} {R : Nat → List Nat} {g : Nat → Option Nat} (h : RevM w0 wr H n vals R g) :
    AdjSl wr (some ⟨H, 0, none⟩) n R (fun v => adOf (vals v)) (fun v => cpOf (vals v)) := fun h0 => by
  refine ⟨H, 0, rfl, fun u hu => ?_⟩
  obtain ⟨ao, cap, hv, _, hc⟩ := (h.row u hu).val
  rw [castL_len] at hv
  refine ⟨?_, fun h1 => ?_⟩
  · have := h.els.cell1 hu
    simp only [hv, adOf, cpOf]
    rw [Nat.zero_add, this, hv]
  · obtain ⟨b, e, _, _, _⟩ := hc 0 (by rw [castL_len]; exact h1)
    refine ⟨b, 0, by simp only [hv, adOf, e], fun i hi => ?_⟩
    obtain ⟨b', e', _, _, c'⟩ := hc i (by rw [castL_len]; exact hi)
    rw [e] at e'
    injection e' with e'
    injection e' with e'
    subst e'
    rw [Nat.zero_add, c']
    simp [castL]

def P15 (n : Nat) (adj : Nat → List Nat) (w : World) (e : Ending) (w' : World) : Prop :=
  ∃ a2 c2 R ra2 rc2, e = .returned (.slice a2 n c2) ∧ AdjSl w' a2 n R ra2 rc2 ∧ RevOf n adj R ∧ Good n R ∧ (∀ u, u < n → (R u).length ≤ 131072) ∧ Below w.heap.size w w'
set_option maxRecDepth 20000 in
set_option maxHeartbeats 4000000 in
theorem rev15 (ao : Option Addr) (n ac : Nat) (adj : Nat → List Nat) (ra : Nat → Option Addr) (rc : Nat → Nat) (w : World) (hn : n ≤ 65536) (hg : Good n adj) (hsum : sumTo (fun u => (adj u).length) n ≤ 131072) (ha : AdjSl w ao n adj ra rc) :
    Calls Try.prog 15 #[.slice ao n ac] w (P15 n adj w) := by
  have HA : Hid (AdjSl w ao n adj ra rc) := ha
  have HG : Hid (Good n adj) := hg
  have HS : Hid (sumTo (fun u => (adj u).length) n ≤ 131072) := hsum
  clear ha hg hsum
  have hmk := makeR n (by omega)
  go_enter Try.func15, Try.ntmps15
  go_wp2
  clear hmk
  go_loopw [5] (fun i wr => ∃ (k : Nat) (vals : Nat → Value) (R : Nat → List Nat) (g : Nat → Option Nat), k ≤ n ∧ i = .int .i64 k ∧ RevM w wr w.heap.size n vals R g ∧ RevAt n adj k 0 R) (fun i _ => n - (intOf i).toNat)
  case atStart => exact ⟨0, _, _, _, by omega, rfl, revM_start w n, revAt_start n adj⟩
  case round =>
    obtain ⟨k, vals, R, g, hk, rfl, hM, hR⟩ := hrel
    have HM : Hid (RevM w wr w.heap.size n vals R g) := hM
    have HR : Hid (RevAt n adj k 0 R) := hR
    clear hM hR
    by_cases hlt : k < n
    · obtain ⟨b, off, hao, hcc⟩ := HA.out (by omega)
      subst hao
      have hcell : wr.cell? ⟨b, off + k, none⟩ = some (.slice (ra k) (adj k).length (rc k)) := cell_later HM.out.bel (hcc k hlt).1
      have HROW : Hid (RowAt w (ra k) (adj k)) := (hcc k hlt).2
      have hlen : (adj k).length ≤ 131072 := by have := sumTo_part (f := fun u => (adj u).length) hlt; have := HS.out; omega
      clear hcc
      go_wp2
      rename World => w3
      go_loopw [7] (fun i wr => ∃ (j : Nat) (vals : Nat → Value) (R : Nat → List Nat) (g : Nat → Option Nat), j ≤ (adj k).length ∧ i = .int .i64 j ∧ RevM w wr w.heap.size n vals R g ∧ RevAt n adj k j R) (fun i _ => (adj k).length - (intOf i).toNat)
      case atStart => exact ⟨0, vals, R, g, by omega, rfl, HM.out, HR.out⟩
      case round =>
        clear hcell HM HR
        obtain ⟨j, vals, R, g, hj, rfl, hM, hR⟩ := hrel
        have HM : Hid (RevM w wr w.heap.size n vals R g) := hM
        have HR : Hid (RevAt n adj k j R) := hR
        clear hM hR
        by_cases hjl : j < (adj k).length
        · obtain ⟨rb, ro, hra, hrow⟩ := HROW.out (by omega)
          have hc2 : wr.cell? ⟨rb, ro + j, none⟩ = some (.int .i64 (((adj k)[j] : Nat) : Int)) := cell_later HM.out.bel (hrow j hjl)
          obtain ⟨v, hv⟩ : ∃ x, x = (adj k)[j] := ⟨_, rfl⟩
          rw [← hv] at hc2
          have HV : Hid (v = (adj k)[j]) := hv
          have hvn : v < n := HG.out k v hlt (by rw [hv]; exact List.getElem_mem hjl)
          rw [hra]
          have c1 := HM.out.els.cell1 hvn
          have f1 := HM.out.els.free
          clear hrow hv hra
          have hj0 : (0:Int) ≤ (j : Int) := by omega
          have hj1 : (j:Int) < (((adj k).length : Nat) : Int) := by omega
          have hv0 : (0:Int) ≤ (v : Int) := by omega
          have hv1 : (v:Int) < (n : Int) := by omega
          have HLN : Hid ((castL (R v)).length + 1 ≤ 1000000) := by
            show _ ≤ _
            have h1 := HR.out.2 v hvn
            have h2 := sumTo_part (f := fun u => (adj u).length) hlt
            have h3 := HS.out
            rw [castL_len]
            have h4 : (fun u => (adj u).length) k = (adj k).length := rfl
            omega
          have HCE : Hid ((wr.alloc (.cells #[.int .i64 (k : Int)] 3)).cell? ⟨wr.heap.size, 0, none⟩ = some (.int .i64 (k : Int))) := (els_lit wr #[.int .i64 (k : Int)] 3).cell1 (i := 0) (by simp)
          go_wp2_with (at_builtin; refine wpList_push rfl (.tmp 37) (.tmp 39) rfl (vals v) (castL (R v)) (g v) rfl ((HM.out.alloc _).row v hvn) wr.heap.size k rfl HCE.out HLN.out ?_)
          intro v2 w2 g2 hv2 hgr2 hg2
          have HM2 : Hid (RevM w (w2.setCell ⟨w.heap.size, v, none⟩ v2) w.heap.size n (upd vals v v2) (upd R v (R v ++ [k])) (upd g v g2)) := (HM.out.alloc _).push hvn hv2 hgr2 (by rw [size_alloc']; exact hg2)
          have hsz := HM.out.els.lt
          have e2 : Els w2 w.heap.size n 1 (fun i _ => vals i) := (HM.out.alloc _).els.of_block (hgr2.block w.heap.size (by simp; omega) (fun e => by have := HM.out.hi v hvn _ e.symm; omega))
          have c3 := e2.cell1 hvn
          have f3 := e2.free
          obtain ⟨b2, cap2, hv2e⟩ : ∃ b2 cap2, v2 = .slice (some ⟨b2, 0, none⟩) ((castL (R v)).length + 1) cap2 := by obtain ⟨b2, cap2, e, _⟩ := hv2.pop; exact ⟨b2, cap2, e⟩
          subst hv2e
          clear e2 hv2 hgr2 hg2 c1 f1 hc2
          go_wp2
          go_roundw
          case rel => exact ⟨j + 1, _, _, _, by omega, by go_num, HM2.out, by have := HR.out.step hjl (by rw [← HV.out]; exact hvn); rw [← HV.out] at this; exact this⟩
          case measure => simp [intOf]; omega
        · have : j = (adj k).length := by omega
          subst this
          go_wp2
          go_roundw
          case rel => exact ⟨k + 1, vals, R, g, by omega, by go_num, HM.out, HR.out.next⟩
          case measure => simp [intOf]; omega
    · have : k = n := by omega
      subst this
      go_wp2
      go_ret
      obtain ⟨h1, h2⟩ := HR.out.fin
      exact ⟨some ⟨w.heap.size, 0, none⟩, k, R, _, _, rfl, HM.out.fin, h1, h2, fun u hu => by have := HR.out.2 u hu; have := HS.out; omega, HM.out.bel⟩
end Go.Proofs.Qxb6000570a
