/-
  From what the arguments read as to what the walks ask of them.
-/
import Derived.Test.Qxb6601375aS2
import Derived.ProofKit
import Derived.Deep.Slices
import Derived.Deep.Strs
namespace Go.Proofs.Qxb6601375a
open Go.ChangeShapes Go.WideShapes Go.ChangeAt Go.RowKit Go.Deep
set_option linter.unusedVariables false
set_option linter.unusedSimpArgs false

theorem plain_of_cell {W : World} {a : Addr} {v : Value} (h : W.cell? (a.add 0) = some v) : a = ⟨a.block, a.off, none⟩ := by
  have := World.cell?_spot h
  obtain ⟨b, off, sp⟩ := a
  simp [Addr.add] at this
  simp [this]

section
variable {H : Type} {enc : TypeId × Value → H} {W : World}

/-- A slice of strings, as a value. -/
theorem open_row {fuel : Nat} {v : Value} {x : DataW H × List MemPlace}
    (hf : DataW.trod enc Try.prog W 0 (fun _ => true) true fuel 27 [v] = some x) :
    ∃ (ao : Option Addr) (l : List ByteArray) (c : Nat), v = .slice ao l.length c ∧ RowS W ao l ∧ l.length ≤ maxLen ∧ Sz maxLen l ∧ (ao = none → l.length = 0 ∧ c = 0) := by
  rcases open_strings Try.underlying27 Try.underlying9 (by kernel_rfl) hf with ⟨hcs, _⟩ | ⟨a, n, cap, ss, hcs, _, hl, hm, hz, _, hcell, hws⟩
  · simp at hcs
    subst hcs
    exact ⟨none, [], 0, rfl, fun h => absurd h (by simp), Nat.zero_le _, fun i h => absurd h (by simp), fun _ => ⟨rfl, rfl⟩⟩
  · simp only [if_true] at hz
    simp at hcs
    subst hcs
    have hlen : (ss.take n).length = n := by simp; omega
    refine ⟨some a, ss.take n, cap, by rw [hlen], ?_, by rw [hlen]; omega, ?_, fun h => by cases h⟩
    · intro h0
      rw [hlen] at h0
      have ha := plain_of_cell (hcell 0 (by omega))
      refine ⟨a.block, a.off, by rw [← ha], fun i hi => ?_⟩
      rw [hlen] at hi
      have c0 := hcell i (by omega)
      rw [ha, add_plain] at c0
      rw [c0]
      have hi2 : i < ss.length := by omega
      simp [List.getD, hi2]
    · intro i hi
      refine hws _ ?_
      exact List.mem_of_mem_take (List.getElem_mem hi)

theorem open_infos {fuel : Nat} {ao : Option Addr} {n c : Nat} {x : DataW H × List MemPlace}
    (hf : DataW.trod enc Try.prog W 0 (fun _ => true) true fuel 27 (Value.slice ao n c).cells.toList = some x) :
    ∃ l : List ByteArray, n = l.length ∧ RowS W ao l ∧ l.length ≤ maxLen ∧ Sz maxLen l ∧ (ao = none → l.length = 0 ∧ c = 0) := by
  obtain ⟨ao', l, c', e, h1, h2, h3, h4⟩ := open_row (v := .slice ao n c) (by simpa [Value.cells] using hf)
  injection e with e1 e2 e3
  subst e1 e2 e3
  exact ⟨l, rfl, h1, h2, h3, h4⟩

theorem open_nest {fuel : Nat} {ao : Option Addr} {n c : Nat} {x : DataW H × List MemPlace}
    (hf : DataW.trod enc Try.prog W 0 (fun _ => true) true fuel 33 (Value.slice ao n c).cells.toList = some x) :
    ∃ (L : Nat → List ByteArray) (ra : Nat → Option Addr) (rc : Nat → Nat), NestS W ao n L ra rc ∧ Nils n L ra rc ∧ n ≤ maxLen ∧ (∀ u, u < n → (L u).length ≤ maxLen ∧ Sz maxLen (L u)) ∧ (ao = none → n = 0 ∧ c = 0) := by
  rcases open_slice1 Try.underlying33 (by kernel_rfl) hf with ⟨hcs, _⟩ | ⟨a, len, cap, m, fu, V, D, Pl, hcs, _, hl, hm, hmm, _, hx⟩
  · simp [Value.cells] at hcs
    obtain ⟨rfl, rfl, rfl⟩ := hcs
    exact ⟨fun _ => [], fun _ => none, fun _ => 0, fun h => absurd h (by omega), fun u hu => absurd hu (by omega), Nat.zero_le _, fun u hu => absurd hu (by omega), fun _ => ⟨rfl, rfl⟩⟩
  · simp [Value.cells] at hcs
    obtain ⟨rfl, rfl, rfl⟩ := hcs
    simp only [if_true] at hmm
    subst hmm
    have each : ∀ r, r < n → ∃ y : Option Addr × List ByteArray × Nat, V r = .slice y.1 y.2.1.length y.2.2 ∧ RowS W y.1 y.2.1 ∧ y.2.1.length ≤ maxLen ∧ Sz maxLen y.2.1 ∧ (y.1 = none → y.2.1.length = 0 ∧ y.2.2 = 0) := fun r hr => by
      obtain ⟨ao', l, c', e, h1, h2, h3, h4⟩ := open_row (hx r (by omega)).2
      exact ⟨(ao', l, c'), e, h1, h2, h3, h4⟩
    obtain ⟨y, hy⟩ := choose_lt each
    refine ⟨fun u => (y u).2.1, fun u => (y u).1, fun u => (y u).2.2, ?_, fun u hu h => (hy u hu).2.2.2.2 h, by omega, fun u hu => ⟨(hy u hu).2.2.1, (hy u hu).2.2.2.1⟩, fun h => by cases h⟩
    intro h0
    have ha := plain_of_cell (hx 0 (by omega)).1
    refine ⟨a.block, a.off, by rw [← ha], fun u hu => ⟨?_, (hy u hu).2.1⟩⟩
    have := (hx u (by omega)).1
    rw [ha, add_plain, (hy u hu).1] at this
    exact this
end
end Go.Proofs.Qxb6601375a
