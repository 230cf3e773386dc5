/-
  WALKS: cloneInts (23), cloneAdj (13), ZZComponents (14).
-/
import Derived.Test.Qxb6000570aD1
import Derived.Laws.CopyOwn
import Derived.Lib.LazyBuf
namespace Go.Proofs.Qxb6000570a
open Go.RowKit
set_option linter.unusedVariables false
set_option linter.unusedSimpArgs false

theorem RowZ.other {w : World} {ra : Option Addr} {l : List Int} (h : RowZ w ra l) {g i : Nat} (hb : ∀ b o q, ra = some ⟨b, o, q⟩ → g < b) (v : Value) : RowZ (w.setCell ⟨g, i, none⟩ v) ra l := fun h0 => by
  obtain ⟨rb, ro, e, hc⟩ := h h0
  have := hb rb ro _ e
  refine ⟨rb, ro, e, fun j hj => ?_⟩
  rw [← hc j hj]
  apply World.cell?_setCell_other
  intro hh
  injection hh
  omega
theorem RowZ.below {w w' : World} {ra : Option Addr} {l : List Int} (h : RowZ w ra l) (hb : Below w.heap.size w w') : RowZ w' ra l := fun h0 => by
  obtain ⟨rb, ro, e, hc⟩ := h h0
  exact ⟨rb, ro, e, fun i hi => cell_later hb (hc i hi)⟩
theorem AdjZ.below {w w' : World} {ao : Option Addr} {n : Nat} {adj : Nat → List Int} {ra : Nat → Option Addr} {rc : Nat → Nat} (h : AdjZ w ao n adj ra rc) (hb : Below w.heap.size w w') : AdjZ w' ao n adj ra rc := fun h0 => by
  obtain ⟨b, off, e, hc⟩ := h h0
  exact ⟨b, off, e, fun u hu => ⟨cell_later hb (hc u hu).1, (hc u hu).2.below hb⟩⟩

def lstF (l : List Int) : Nat → Nat → Value := fun i _ => .int .i64 (l.getD i 0)
/-- 'copy(dst, src)' of ints, dst a row of the call's own, src of the same length. -/
theorem run_copy_ints (w : World) (g : Nat) (ao : Option Addr) (c : Nat) (l : List Int) (f : Nat → Nat → Value) (hg : Els w g l.length 1 f) (hS : RowZ w ao l) :
    ∃ w', (Builtin.copy_ #[26, 26] 3 #[.slice (some ⟨g, 0, none⟩) l.length l.length, .slice ao l.length c]).run Try.prog w = .ok (goInt l.length) w' ∧ Els w' g l.length 1 (lstF l) ∧ Below g w w' := by
  by_cases h0 : l.length = 0
  · rw [h0] at hg ⊢
    exact ⟨w, run_copy_none w 26 26 3 3 _ _ _ _ _ _ Try.underlying26 (by kernel_rfl) (by simp), hg.congr fun i hi => absurd hi (by omega), Below.refl _ _⟩
  · obtain ⟨b, off, rfl, hc⟩ := hS (by omega)
    obtain ⟨cur, e, h1, h2, h3⟩ := hg
    have hl : (l.map fun x => Value.int .i64 x).length = l.length := by simp
    refine ⟨_, (run_copy_row Try.prog w 26 26 3 3 g 0 l.length l.length ⟨b, off, none⟩ l.length c cur e (l.map fun x => .int .i64 x) Try.underlying26 (by kernel_rfl) h1 (by simp) ?_ (by simp; omega) ?_).trans (by rw [hl]), ?_, ?_⟩
    · intro j v hj
      by_cases hjm : j < l.length
      · simp [hjm] at hj
        subst hj
        rw [show (⟨b, off, none⟩ : Addr).add j = ⟨b, off + j, none⟩ by unfold Addr.add; split <;> simp_all]
        exact hc j hjm
      · rw [List.getElem?_eq_none (by simp; omega)] at hj; cases hj
    · intro v hv
      simp at hv
      obtain ⟨i, _, rfl⟩ := hv
      rfl
    · refine ⟨_, e, setRow_heap w g cur _ e _ h1, by simp; omega, ?_⟩
      intro i hi j hj
      obtain rfl : j = 0 := by omega
      simp [List.getElem?_append, hi, lstF]
    · exact below_setRow (Below.refl _ _) (Nat.le_refl _) _

def P23 (ao : Option Addr) (l : List Int) (w : World) (e : Ending) (w' : World) : Prop :=
  ∃ a2 c2, e = .returned (.slice a2 l.length c2) ∧ RowZ w' a2 l ∧ (∀ b o q, a2 = some ⟨b, o, q⟩ → w.heap.size ≤ b) ∧ Below w.heap.size w w'
set_option maxRecDepth 20000 in
set_option maxHeartbeats 4000000 in
theorem clone23 (ao : Option Addr) (c : Nat) (l : List Int) (w : World) (hl : l.length ≤ 1048576) (ha : RowZ w ao l) (hnil : ao = none → l.length = 0 ∧ c = 0) :
    Calls Try.prog 23 #[.slice ao l.length c] w (P23 ao l w) := by
  have hnq : ∀ (w : World) (a : Option Addr) (n c : Nat), (binOp .eql 26 (.slice a n c) (.slice none 0 0)).run Try.prog w = .ok (.bool a.isNone) w := fun w a n c => Go.run_eql_slice_nil w 26 3 a n c Try.underlying26
  cases ao with
  | none =>
    have hl0 : l = [] := List.eq_nil_of_length_eq_zero (hnil rfl).1
    subst hl0
    have hc := (hnil rfl).2
    subst hc
    clear hnil
    go_enter Try.func23, Try.ntmps23
    go_wp2
    go_ret
    exact ⟨none, 0, rfl, ha, fun b o q h => by (cases h), Below.refl _ _⟩
  | some ad =>
    have hmk := makeI l.length (by omega)
    obtain ⟨w2, hrun, hcp, hcb⟩ := run_copy_ints (w.alloc (.cells (mkI l.length) 3)) w.heap.size (some ad) c l _ (els_madeI w l.length) (ha.below ((Below.refl _ _).alloc (Nat.le_refl _) _))
    have HCP : Hid (Els w2 w.heap.size l.length 1 (lstF l)) := hcp
    have HCB : Hid (Below w.heap.size (w.alloc (.cells (mkI l.length) 3)) w2) := hcb
    clear hcp hcb hnil
    go_enter Try.func23, Try.ntmps23
    go_wp2
    go_ret
    refine ⟨some ⟨w.heap.size, 0, none⟩, l.length, rfl, fun h0 => ⟨w.heap.size, 0, rfl, fun i hi => ?_⟩, fun b o q h => by (simp at h; omega), ((Below.refl _ _).alloc (Nat.le_refl _) _).trans HCB.out⟩
    have := HCP.out.cell1 hi
    simp only [lstF] at this
    simpa [hi] using this

theorem Try.info26' : (Try.prog.info? 26).map (fun i => (i.zero, i.size, i.bytes)) = some (some (.slice none 0 0), 1, 24) := by kernel_rfl
def mkR (n : Nat) : Array Value := madeCells #[.slice none 0 0] (n * 1)
theorem makeR (n : Nat) (hn : n ≤ 1048576) (w : World) : (Instr.makeSlice 22 (.int .i64 n) (.int .i64 n)).run Try.prog w = .ok (.slice (some ⟨w.heap.size, 0, none⟩) n n) (w.alloc (.cells (mkR n) 26)) := by
  obtain ⟨i0, hi, hz0, hz1, hz2⟩ := info_parts Try.info26'
  have := run_make (P := Try.prog) w 22 26 i0 _ Try.underlying22 hi hz0 .i64 .i64 n n (by omega) (by omega) (by rw [hz2]; omega) (by omega)
  rw [this, hz1]
  rfl
def rowF (adj : Nat → List Int) (ra : Nat → Option Addr) (rc : Nat → Nat) (k : Nat) : Nat → Nat → Value := fun i _ => if i < k then .slice (ra i) (adj i).length (rc i) else .slice none 0 0
theorem els_madeR (w : World) (n : Nat) (adj : Nat → List Int) (ra : Nat → Option Addr) (rc : Nat → Nat) : Els (w.alloc (.cells (mkR n) 26)) w.heap.size n 1 (rowF adj ra rc 0) :=
  (els_made w n 1 #[.slice none 0 0] rfl (by omega) 26).congr fun i hi j hj => by
    obtain rfl : j = 0 := by omega
    simp [rowF]
def Nils (n : Nat) (adj : Nat → List Int) (ra : Nat → Option Addr) (rc : Nat → Nat) : Prop := ∀ u, u < n → ra u = none → (adj u).length = 0 ∧ rc u = 0

def P13 (n : Nat) (adj : Nat → List Int) (w : World) (e : Ending) (w' : World) : Prop :=
  ∃ a2 c2 ra2 rc2, e = .returned (.slice a2 n c2) ∧ AdjZ w' a2 n adj ra2 rc2 ∧ Below w.heap.size w w'
set_option maxRecDepth 20000 in
set_option maxHeartbeats 4000000 in
theorem clone13 (ao : Option Addr) (n ac : Nat) (adj : Nat → List Int) (ra : Nat → Option Addr) (rc : Nat → Nat) (w : World) (hn : n ≤ 1048576) (hl : ∀ u, u < n → (adj u).length ≤ 1048576) (ha : AdjZ w ao n adj ra rc) (hN : Nils n adj ra rc) (hnil : ao = none → n = 0 ∧ ac = 0) :
    Calls Try.prog 13 #[.slice ao n ac] w (P13 n adj w) := by
  have hnq : ∀ (w : World) (a : Option Addr) (n c : Nat), (binOp .eql 22 (.slice a n c) (.slice none 0 0)).run Try.prog w = .ok (.bool a.isNone) w := fun w a n c => Go.run_eql_slice_nil w 22 26 a n c Try.underlying22
  have HL : Hid (∀ u, u < n → (adj u).length ≤ 1048576) := hl
  have HA : Hid (AdjZ w ao n adj ra rc) := ha
  have HN : Hid (Nils n adj ra rc) := hN
  clear hl ha hN
  cases ao with
  | none =>
    obtain ⟨rfl, rfl⟩ := hnil rfl
    clear hnil
    go_enter Try.func13, Try.ntmps13
    go_wp2
    go_ret
    exact ⟨none, 0, ra, rc, rfl, HA.out, Below.refl _ _⟩
  | some ad =>
    clear hnil
    have hmk := makeR n (by omega)
    go_enter Try.func13, Try.ntmps13
    go_wp2
    clear hmk hnq
    go_loopw [4] (fun i wr => ∃ (k : Nat) (ra2 : Nat → Option Addr) (rc2 : Nat → Nat), k ≤ n ∧ i = .int .i64 k ∧ Els wr w.heap.size n 1 (rowF adj ra2 rc2 k) ∧ (∀ u, u < k → RowZ wr (ra2 u) (adj u) ∧ ∀ b o q, ra2 u = some ⟨b, o, q⟩ → w.heap.size < b) ∧ w.heap.size < wr.heap.size ∧ Below w.heap.size w wr) (fun i _ => n - (intOf i).toNat)
    case atStart => exact ⟨0, fun _ => none, fun _ => 0, by omega, rfl, els_madeR _ _ _ _ _, fun u hu => by omega, by simp, (Below.refl _ _).alloc (Nat.le_refl _) _⟩
    case round =>
      obtain ⟨k, ra2, rc2, hk, rfl, he, hr, hsz, hb⟩ := hrel
      have HE : Hid (Els wr w.heap.size n 1 (rowF adj ra2 rc2 k)) := he
      have HR : Hid (∀ u, u < k → RowZ wr (ra2 u) (adj u) ∧ ∀ b o q, ra2 u = some ⟨b, o, q⟩ → w.heap.size < b) := hr
      have HB : Hid (Below w.heap.size w wr) := hb
      clear he hr hb
      by_cases hlt : k < n
      · obtain ⟨b, off, hao, hcc⟩ := HA.out (by omega)
        have hcell := cell_later HB.out (hcc k hlt).1
        have HROW : Hid (RowZ wr (ra k) (adj k)) := (hcc k hlt).2.below HB.out
        injection hao with hao
        subst hao
        clear hcc
        go_wp2_with fail
        refine (clone23 (ra k) (rc k) (adj k) _ (HL.out k hlt) HROW.out (HN.out k hlt)).mono ?_
        rintro e w2 ⟨a2, c2, rfl, hrz, hnb, hb2⟩
        have HE2 : Hid (Els w2 w.heap.size n 1 (rowF adj ra2 rc2 k)) := HE.out.below hb2 hsz
        have hc0 := HE2.out.cell1 hlt
        have f0 := HE2.out.free
        have HR2 : Hid (∀ u, u < k → RowZ w2 (ra2 u) (adj u) ∧ ∀ b o q, ra2 u = some ⟨b, o, q⟩ → w.heap.size < b) := fun u hu => ⟨(HR.out u hu).1.below hb2, (HR.out u hu).2⟩
        have HRZ : Hid (RowZ w2 a2 (adj k)) := hrz
        have HNB : Hid (∀ b o q, a2 = some ⟨b, o, q⟩ → w.heap.size < b) := fun b o q h => by have := hnb b o q h; omega
        have HB2 : Hid (Below w.heap.size w w2) := HB.out.trans (hb2.mono (by omega))
        have hsz2 : w.heap.size < w2.heap.size := by have := hb2.size; omega
        simp only [rowF] at hc0
        clear hrz hnb hb2 hcell
        go_wp2
        go_roundw
        case rel =>
          refine ⟨k + 1, fun u => if u = k then a2 else ra2 u, fun u => if u = k then c2 else rc2 u, by omega, by go_num, ?_, ?_, by simpa using hsz2, HB2.out.setCell (by simp) _⟩
          · refine HE2.out.set1' hlt _ (by simp [rowF]) (fun j hj => ?_)
            have : j < k + 1 ↔ j < k := by omega
            simp [rowF, this, hj]
          · intro u hu
            by_cases e : u = k
            · subst e
              simp only [if_true]
              exact ⟨HRZ.out.other HNB.out _, HNB.out⟩
            · simp only [if_neg e]
              exact ⟨(HR2.out u (by omega)).1.other (HR2.out u (by omega)).2 _, (HR2.out u (by omega)).2⟩
        case measure => simp [intOf]; omega
      · have : k = n := by omega
        subst this
        go_wp2
        go_ret
        refine ⟨some ⟨w.heap.size, 0, none⟩, k, ra2, rc2, rfl, fun h0 => ⟨w.heap.size, 0, rfl, fun u hu => ⟨?_, (HR.out u hu).1⟩⟩, HB.out⟩
        have := HE.out.cell1 hu
        simpa [rowF, hu] using this
end Go.Proofs.Qxb6000570a
