/-
  From what the argument reads as to what the walks ask of it.
-/
import Derived.Test.Qxb6000570aD2
import Derived.ProofKit
import Derived.Deep.Matrix
namespace Go.Proofs.Qxb6000570a
open Go.ChangeShapes Go.WideShapes Go.ChangeAt Go.RowKit Go.Deep
set_option linter.unusedVariables false
set_option linter.unusedSimpArgs false

theorem plain_of_cell {W : World} {a : Addr} {v : Value} (h : W.cell? (a.add 0) = some v) : a = ⟨a.block, a.off, none⟩ := by
  have := World.cell?_spot h
  obtain ⟨b, off, sp⟩ := a
  simp [Addr.add] at this
  simp [this]

section
variable {H : Type} {enc : TypeId × Value → H} {W : World}

theorem open_adj {fuel : Nat} {ao : Option Addr} {n c : Nat} {x : DataW H × List MemPlace}
    (hf : DataW.trod enc Try.prog W 0 (fun _ => true) true fuel 22 (Value.slice ao n c).cells.toList = some x) :
    ∃ (adj : Nat → List Int) (ra : Nat → Option Addr) (rc : Nat → Nat), AdjZ W ao n adj ra rc ∧ Nils n adj ra rc ∧ n ≤ maxLen ∧ (∀ u, u < n → (adj u).length ≤ maxLen) ∧ (ao = none → n = 0 ∧ c = 0) := by
  rcases open_int_rows Try.underlying22 Try.underlying26 Try.underlying3 (by kernel_rfl) (by kernel_rfl) hf with ⟨hcs, _⟩ | ⟨a, len, cap, A, L, C, Z, hcs, _, hl, hm, _, hx⟩
  · simp [Value.cells] at hcs
    obtain ⟨rfl, rfl, rfl⟩ := hcs
    exact ⟨fun _ => [], fun _ => none, fun _ => 0, fun h => absurd h (by omega), fun u hu => absurd hu (by omega), Nat.zero_le _, fun u hu => absurd hu (by omega), fun _ => ⟨rfl, rfl⟩⟩
  · simp [Value.cells] at hcs
    obtain ⟨rfl, rfl, rfl⟩ := hcs
    have hlen : ∀ u, u < n → ((Z u).take (L u)).length = L u := fun u hu => by
      obtain ⟨_, h1, h2, h3, _⟩ := hx u (by omega)
      simp; omega
    refine ⟨fun u => (Z u).take (L u), A, C, ?_, ?_, by omega, ?_, fun h => by cases h⟩
    · intro h0
      have ha := plain_of_cell (hx 0 (by omega)).1
      refine ⟨a.block, a.off, by rw [← ha], fun u hu => ⟨?_, fun h1 => ?_⟩⟩
      · have := (hx u (by omega)).1
        rw [ha, add_plain] at this
        simp only [hlen u hu]
        exact this
      · simp only [hlen u hu] at h1
        obtain ⟨_, h3, _, h5, _, h6, h7⟩ := hx u (by omega)
        cases hA : A u with
        | none => have := h6 hA; omega
        | some a' =>
          obtain ⟨_, hc⟩ := h7 a' hA
          have ha' := plain_of_cell (hc 0 (by omega))
          refine ⟨a'.block, a'.off, by rw [← ha'], fun i hi => ?_⟩
          simp only [hlen u hu] at hi
          have := hc i (by omega)
          rw [ha', add_plain] at this
          rw [this]
          have hi2 : i < (Z u).length := by omega
          simp [List.getD, hi2]
    · intro u hu hA
      obtain ⟨_, h3, _, h5, _, h6, _⟩ := hx u (by omega)
      have := h6 hA
      simp only [hlen u hu]
      omega
    · intro u hu
      obtain ⟨_, h3, h4, _⟩ := hx u (by omega)
      simp only [hlen u hu]
      omega
end
end Go.Proofs.Qxb6000570a
