/-
  WALKS for the law on recovery: cloneBytes (22), cloneStrings (24), endedBefore (30), TakesItem (41), statusAt (42).
-/
import Derived.Test.Qxb6000570aE1
namespace Go.Proofs.Qxb6000570a
open Go.RowKit
set_option linter.unusedVariables false
set_option linter.unusedSimpArgs false

/-- A slice that holds the values vs, a cell each. -/
def RowV (w : World) (ra : Option Addr) (vs : List Value) : Prop :=
  0 < vs.length → ∃ rb ro, ra = some ⟨rb, ro, none⟩ ∧ ∀ i (h : i < vs.length), w.cell? ⟨rb, ro + i, none⟩ = some vs[i]
theorem RowV.below {w w' : World} {ra : Option Addr} {l : List Value} (h : RowV w ra l) (hb : Below w.heap.size w w') : RowV w' ra l := fun h0 => by
  obtain ⟨rb, ro, e, hc⟩ := h h0
  exact ⟨rb, ro, e, fun i hi => cell_later hb (hc i hi)⟩
def lstV (l : List Value) : Nat → Nat → Value := fun i _ => l.getD i default
theorem run_copy_vals (T E : TypeId) (hT : Try.prog.underlying T = some (.slice E)) (hE : (Try.prog.info? E).map (·.size) = some 1) (w : World) (g : Nat) (ao : Option Addr) (c : Nat) (l : List Value) (h1c : ∀ v ∈ l, v.oneCell' = true) (f : Nat → Nat → Value) (hg : Els w g l.length 1 f) (hS : RowV w ao l) :
    ∃ w', (Builtin.copy_ #[T, T] 3 #[.slice (some ⟨g, 0, none⟩) l.length l.length, .slice ao l.length c]).run Try.prog w = .ok (goInt l.length) w' ∧ Els w' g l.length 1 (lstV l) ∧ Below g w w' := by
  by_cases h0 : l.length = 0
  · rw [h0] at hg ⊢
    exact ⟨w, run_copy_none w T T 3 E _ _ _ _ _ _ hT hE (by simp), hg.congr fun i hi => absurd hi (by omega), Below.refl _ _⟩
  · obtain ⟨b, off, rfl, hc⟩ := hS (by omega)
    obtain ⟨cur, e, h1, h2, h3⟩ := hg
    refine ⟨_, (run_copy_row Try.prog w T T 3 E g 0 l.length l.length ⟨b, off, none⟩ l.length c cur e l hT hE h1 (by simp) ?_ (by simp; omega) h1c), ?_, ?_⟩
    · intro j v hj
      obtain ⟨hjm, rfl⟩ := List.getElem?_eq_some_iff.1 hj
      rw [show (⟨b, off, none⟩ : Addr).add j = ⟨b, off + j, none⟩ by unfold Addr.add; split <;> simp_all]
      exact hc j hjm
    · refine ⟨_, e, setRow_heap w g cur _ e _ h1, by simp; omega, ?_⟩
      intro i hi j hj
      obtain rfl : j = 0 := by omega
      simp [List.getElem?_append, hi, lstV]
    · exact below_setRow (Below.refl _ _) (Nat.le_refl _) _

theorem Try.info5 : (Try.prog.info? 5).map (fun i => (i.zero, i.size, i.bytes)) = some (some (.int .u8 0), 1, 1) := by kernel_rfl
theorem Try.info9 : (Try.prog.info? 9).map (fun i => (i.zero, i.size, i.bytes)) = some (some (.string ⟨#[]⟩), 1, 16) := by kernel_rfl
def mkU (n : Nat) : Array Value := madeCells #[.int .u8 0] (n * 1)
theorem makeU (n : Nat) (hn : n ≤ 1048576) (w : World) : (Instr.makeSlice 30 (.int .i64 n) (.int .i64 n)).run Try.prog w = .ok (.slice (some ⟨w.heap.size, 0, none⟩) n n) (w.alloc (.cells (mkU n) 5)) := by
  obtain ⟨i0, hi, hz0, hz1, hz2⟩ := info_parts Try.info5
  have := run_make (P := Try.prog) w 30 5 i0 _ Try.underlying30 hi hz0 .i64 .i64 n n (by omega) (by omega) (by rw [hz2]; omega) (by omega)
  rw [this, hz1]
  rfl
def mkS (n : Nat) : Array Value := madeCells #[.string ⟨#[]⟩] (n * 1)
theorem makeS (n : Nat) (hn : n ≤ 1048576) (w : World) : (Instr.makeSlice 31 (.int .i64 n) (.int .i64 n)).run Try.prog w = .ok (.slice (some ⟨w.heap.size, 0, none⟩) n n) (w.alloc (.cells (mkS n) 9)) := by
  obtain ⟨i0, hi, hz0, hz1, hz2⟩ := info_parts Try.info9
  have := run_make (P := Try.prog) w 31 9 i0 _ Try.underlying31 hi hz0 .i64 .i64 n n (by omega) (by omega) (by rw [hz2]; omega) (by omega)
  rw [this, hz1]
  rfl
theorem size5 : (Try.prog.info? 5).map (·.size) = some 1 := by kernel_rfl
theorem size9 : (Try.prog.info? 9).map (·.size) = some 1 := by kernel_rfl

def PC (vs : List Value) (w : World) (e : Ending) (w' : World) : Prop :=
  ∃ a2 c2, e = .returned (.slice a2 vs.length c2) ∧ RowV w' a2 vs ∧ Below w.heap.size w w'
theorem row_of_els {w : World} {g : Nat} {vs : List Value} (h : Els w g vs.length 1 (lstV vs)) : RowV w (some ⟨g, 0, none⟩) vs := fun h0 => ⟨g, 0, rfl, fun i hi => by
  have := h.cell1 hi
  simp only [lstV] at this
  simpa [hi] using this⟩
set_option maxRecDepth 20000 in
set_option maxHeartbeats 4000000 in
theorem clone22 (ao : Option Addr) (c : Nat) (l : List Value) (w : World) (hl : l.length ≤ 1048576) (h1 : ∀ v ∈ l, v.oneCell' = true) (ha : RowV w ao l) (hnil : ao = none → l.length = 0 ∧ c = 0) :
    Calls Try.prog 22 #[.slice ao l.length c] w (PC l w) := by
  have hnq : ∀ (w : World) (a : Option Addr) (n c : Nat), (binOp .eql 30 (.slice a n c) (.slice none 0 0)).run Try.prog w = .ok (.bool a.isNone) w := fun w a n c => Go.run_eql_slice_nil w 30 5 a n c Try.underlying30
  cases ao with
  | none =>
    have hl0 : l = [] := List.eq_nil_of_length_eq_zero (hnil rfl).1
    subst hl0
    have hc := (hnil rfl).2
    subst hc
    clear hnil h1
    go_enter Try.func22, Try.ntmps22
    go_wp2
    go_ret
    exact ⟨none, 0, rfl, ha, Below.refl _ _⟩
  | some ad =>
    have hmk := makeU l.length (by omega)
    obtain ⟨w2, hrun, hcp, hcb⟩ := run_copy_vals 30 5 Try.underlying30 size5 (w.alloc (.cells (mkU l.length) 5)) w.heap.size (some ad) c l h1 _ (els_made w l.length 1 #[.int .u8 0] rfl (by omega) 5) (ha.below ((Below.refl _ _).alloc (Nat.le_refl _) _))
    have HCP : Hid (Els w2 w.heap.size l.length 1 (lstV l)) := hcp
    have HCB : Hid (Below w.heap.size (w.alloc (.cells (mkU l.length) 5)) w2) := hcb
    clear hcp hcb hnil h1
    go_enter Try.func22, Try.ntmps22
    go_wp2
    go_ret
    exact ⟨some ⟨w.heap.size, 0, none⟩, l.length, rfl, row_of_els HCP.out, ((Below.refl _ _).alloc (Nat.le_refl _) _).trans HCB.out⟩
set_option maxRecDepth 20000 in
set_option maxHeartbeats 4000000 in
theorem clone24 (ao : Option Addr) (c : Nat) (l : List Value) (w : World) (hl : l.length ≤ 1048576) (h1 : ∀ v ∈ l, v.oneCell' = true) (ha : RowV w ao l) (hnil : ao = none → l.length = 0 ∧ c = 0) :
    Calls Try.prog 24 #[.slice ao l.length c] w (PC l w) := by
  have hnq : ∀ (w : World) (a : Option Addr) (n c : Nat), (binOp .eql 31 (.slice a n c) (.slice none 0 0)).run Try.prog w = .ok (.bool a.isNone) w := fun w a n c => Go.run_eql_slice_nil w 31 9 a n c Try.underlying31
  cases ao with
  | none =>
    have hl0 : l = [] := List.eq_nil_of_length_eq_zero (hnil rfl).1
    subst hl0
    have hc := (hnil rfl).2
    subst hc
    clear hnil h1
    go_enter Try.func24, Try.ntmps24
    go_wp2
    go_ret
    exact ⟨none, 0, rfl, ha, Below.refl _ _⟩
  | some ad =>
    have hmk := makeS l.length (by omega)
    obtain ⟨w2, hrun, hcp, hcb⟩ := run_copy_vals 31 9 Try.underlying31 size9 (w.alloc (.cells (mkS l.length) 9)) w.heap.size (some ad) c l h1 _ (els_made w l.length 1 #[.string ⟨#[]⟩] rfl (by omega) 9) (ha.below ((Below.refl _ _).alloc (Nat.le_refl _) _))
    have HCP : Hid (Els w2 w.heap.size l.length 1 (lstV l)) := hcp
    have HCB : Hid (Below w.heap.size (w.alloc (.cells (mkS l.length) 9)) w2) := hcb
    clear hcp hcb hnil h1
    go_enter Try.func24, Try.ntmps24
    go_wp2
    go_ret
    exact ⟨some ⟨w.heap.size, 0, none⟩, l.length, rfl, row_of_els HCP.out, ((Below.refl _ _).alloc (Nat.le_refl _) _).trans HCB.out⟩

/-! ### The little tests -/
def takes (k : Nat) : Bool := k == 1 || k == 2
def P41 (k : Nat) (w : World) (e : Ending) (w' : World) : Prop := e = .returned (.bool (takes k)) ∧ w' = w
set_option maxRecDepth 20000 in
theorem takes41 (k : Nat) (w : World) : Calls Try.prog 41 #[.int .u8 k] w (P41 k w) := by
  by_cases h1 : k = 1
  · subst h1
    go_enter Try.func41, Try.ntmps41
    go_wp2
    go_ret
    exact ⟨rfl, rfl⟩
  · by_cases h2 : k = 2
    · subst h2
      go_enter Try.func41, Try.ntmps41
      go_wp2
      go_ret
      exact ⟨rfl, rfl⟩
    · have h1' : ((k : Int) == 1) = false := by simp; omega
      have h2' : ((k : Int) == 2) = false := by simp; omega
      have ht : takes k = false := by simp [takes, h1, h2]
      go_enter Try.func41, Try.ntmps41
      go_wp2
      go_ret
      refine ⟨?_, rfl⟩
      rw [ht]
      rfl
/-- How a transaction stands at position p. -/
def stat (how : Nat) (at_ p : Int) : Nat := if at_ < p then how else 0
def P42 (how : Nat) (at_ p : Int) (w : World) (e : Ending) (w' : World) : Prop := e = .returned (.int .u8 (stat how at_ p : Nat)) ∧ Below w.heap.size w w'
set_option maxRecDepth 20000 in
theorem stat42 (how : Nat) (at_ p : Int) (w : World) : Calls Try.prog 42 #[.agg #[.int .u8 how, .int .i64 at_], .int .i64 p] w (fun e w' => P42 how at_ p w e w') := by
  by_cases h : at_ < p
  · have hs : stat how at_ p = how := if_pos h
    go_enter Try.func42, Try.ntmps42
    go_wp2
    go_ret
    refine ⟨?_, (Below.refl _ _).alloc (Nat.le_refl _) _⟩
    rw [hs]
    rfl
  · have hs : stat how at_ p = 0 := if_neg h
    go_enter Try.func42, Try.ntmps42
    go_wp2
    go_ret
    refine ⟨?_, (Below.refl _ _).alloc (Nat.le_refl _) _⟩
    rw [hs]
    rfl
def ended (at_ p : Int) : Bool := at_ != 0 && decide (at_ < p)
def P30 (at_ p : Int) (w : World) (e : Ending) (w' : World) : Prop := e = .returned (.bool (ended at_ p)) ∧ ∃ m, w' = w.drewN m
set_option maxRecDepth 20000 in
theorem ended30 (ao : Option Addr) (c : Nat) (l : List Int) (t : Nat) (p : Int) (w : World) (ht : t < l.length) (ha : RowZ w ao l) : Calls Try.prog 30 #[.slice ao l.length c, .int .i64 t, .int .i64 p] w (P30 l[t] p w) := by
  obtain ⟨rb, ro, rfl, hc⟩ := ha (by omega)
  have d1 := hc t ht
  have h0 : (0:Int) ≤ (t : Int) := by omega
  have h1 : (t:Int) < ((l.length : Nat) : Int) := by omega
  obtain ⟨x, hx⟩ : ∃ x, x = l[t] := ⟨_, rfl⟩
  rw [← hx] at d1 ⊢
  clear hc hx
  by_cases hz : x = 0
  · subst hz
    have hs : ended 0 p = false := by simp [ended]
    go_enter Try.func30, Try.ntmps30
    go_wp2
    go_ret
    refine ⟨?_, 0, rfl⟩
    rw [hs]
    rfl
  · by_cases hp : x < p
    · have hs : ended x p = true := by simp [ended, hz, hp]
      have hxb : (x != 0) = true := by simp [hz]
      go_enter Try.func30, Try.ntmps30
      go_wp2
      go_ret
      refine ⟨?_, 0, rfl⟩
      rw [hs]
      rfl
    · have hs : ended x p = false := by simp [ended, hp]
      go_enter Try.func30, Try.ntmps30
      go_wp2
      go_ret
      refine ⟨?_, 0, rfl⟩
      rw [hs]
      rfl
end Go.Proofs.Qxb6000570a
