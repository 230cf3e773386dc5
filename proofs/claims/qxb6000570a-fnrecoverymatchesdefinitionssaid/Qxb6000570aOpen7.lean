/-
  From what the three arguments of the law on recovery read as to what the walks ask of them.
-/
import Derived.Test.Qxb6000570aOpen
import Derived.Test.Qxb6000570aE1
import Derived.Deep.Strs
namespace Go.Proofs.Qxb6000570a
open Go.ChangeShapes Go.WideShapes Go.ChangeAt Go.RowKit Go.Deep
set_option linter.unusedVariables false
set_option linter.unusedSimpArgs false

section
variable {H : Type} {enc : TypeId × Value → H} {W : World}
theorem open_items {fuel : Nat} {ao : Option Addr} {n c : Nat} {x : DataW H × List MemPlace}
    (hf : DataW.trod enc Try.prog W 0 (fun _ => true) true fuel 31 (Value.slice ao n c).cells.toList = some x) :
    ∃ l : List ByteArray, n = l.length ∧ RowS W ao l ∧ l.length ≤ maxLen ∧ Sz maxLen l ∧ (ao = none → l.length = 0 ∧ c = 0) := by
  rcases open_strings Try.underlying31 Try.underlying9 (by kernel_rfl) hf with ⟨hcs, _⟩ | ⟨a, m, cap, ss, hcs, _, hl, hm, hz, _, hcell, hws⟩
  · simp [Value.cells] at hcs
    obtain ⟨rfl, rfl, rfl⟩ := hcs
    exact ⟨[], rfl, fun h => absurd h (by simp), Nat.zero_le _, fun i h => absurd h (by simp), fun _ => ⟨rfl, rfl⟩⟩
  · simp [Value.cells] at hcs
    obtain ⟨rfl, rfl, rfl⟩ := hcs
    simp only [if_true] at hz
    have hlen : (ss.take n).length = n := by simp; omega
    refine ⟨ss.take n, hlen.symm, ?_, by rw [hlen]; omega, ?_, fun h => by cases h⟩
    · intro h0
      rw [hlen] at h0
      have ha := plain_of_cell (hcell 0 (by omega))
      refine ⟨a.block, a.off, by rw [← ha], fun i hi => ?_⟩
      rw [hlen] at hi
      have c0 := hcell i (by omega)
      rw [ha, add_plain] at c0
      rw [c0]
      have hi2 : i < ss.length := by omega
      simp [List.getD, hi2]
    · intro i hi
      exact hws _ (List.mem_of_mem_take (List.getElem_mem hi))
theorem open_kinds {fuel : Nat} {ao : Option Addr} {n c : Nat} {x : DataW H × List MemPlace}
    (hf : DataW.trod enc Try.prog W 0 (fun _ => true) true fuel 30 (Value.slice ao n c).cells.toList = some x) :
    ∃ l : List Nat, n = l.length ∧ RowU W ao l ∧ l.length ≤ maxLen ∧ (ao = none → l.length = 0 ∧ c = 0) := by
  rcases open_ints Try.underlying30 Try.underlying5 (by kernel_rfl) hf with ⟨hcs, _⟩ | ⟨a, m, cap, zs, hcs, _, hl, hm, hz, _, hcell, hwz⟩
  · simp [Value.cells] at hcs
    obtain ⟨rfl, rfl, rfl⟩ := hcs
    exact ⟨[], rfl, fun h => absurd h (by simp), Nat.zero_le _, fun _ => ⟨rfl, rfl⟩⟩
  · simp [Value.cells] at hcs
    obtain ⟨rfl, rfl, rfl⟩ := hcs
    simp only [if_true] at hz
    have hlen : ((zs.take n).map Int.toNat).length = n := by simp; omega
    refine ⟨(zs.take n).map Int.toNat, hlen.symm, ?_, by rw [hlen]; omega, fun h => by cases h⟩
    intro h0
    rw [hlen] at h0
    have ha := plain_of_cell (hcell 0 (by omega))
    refine ⟨a.block, a.off, by rw [← ha], fun i hi => ?_⟩
    rw [hlen] at hi
    have c0 := hcell i (by omega)
    have hi2 : i < zs.length := by omega
    have hw := hwz zs[i] (List.getElem_mem hi2)
    have hb : 0 ≤ zs[i] := by
      simp [Lit.wf, IntKind.min, IntKind.max, IntKind.signed, IntKind.bits] at hw
      omega
    rw [ha, add_plain] at c0
    rw [c0]
    simp [List.getD, hi2, Int.toNat_of_nonneg hb]
theorem open_txs {fuel : Nat} {ao : Option Addr} {n c : Nat} {x : DataW H × List MemPlace}
    (hf : DataW.trod enc Try.prog W 0 (fun _ => true) true fuel 26 (Value.slice ao n c).cells.toList = some x) :
    ∃ l : List Int, n = l.length ∧ RowZ W ao l ∧ l.length ≤ maxLen ∧ (ao = none → l.length = 0 ∧ c = 0) := by
  rcases open_ints Try.underlying26 Try.underlying3 (by kernel_rfl) hf with ⟨hcs, _⟩ | ⟨a, m, cap, zs, hcs, _, hl, hm, hz, _, hcell, hwz⟩
  · simp [Value.cells] at hcs
    obtain ⟨rfl, rfl, rfl⟩ := hcs
    exact ⟨[], rfl, fun h => absurd h (by simp), Nat.zero_le _, fun _ => ⟨rfl, rfl⟩⟩
  · simp [Value.cells] at hcs
    obtain ⟨rfl, rfl, rfl⟩ := hcs
    simp only [if_true] at hz
    have hlen : (zs.take n).length = n := by simp; omega
    refine ⟨zs.take n, hlen.symm, ?_, by rw [hlen]; omega, fun h => by cases h⟩
    intro h0
    rw [hlen] at h0
    have ha := plain_of_cell (hcell 0 (by omega))
    refine ⟨a.block, a.off, by rw [← ha], fun i hi => ?_⟩
    rw [hlen] at hi
    have c0 := hcell i (by omega)
    have hi2 : i < zs.length := by omega
    rw [ha, add_plain] at c0
    rw [c0]
    simp [List.getD, hi2]
end
end Go.Proofs.Qxb6000570a
