/-
  From what an argument reads as to what the walks ask of it.
-/
import Derived.Test.Qxb6000463aW4
import Derived.ProofKit
import Derived.Deep.SlicePairs
import Derived.Deep.Strs
namespace Go.Proofs.Qxb6000463a
open Go.ChangeShapes Go.WideShapes Go.ChangeAt Go.RowKit Go.Deep
set_option linter.unusedVariables false
set_option linter.unusedSimpArgs false

section
variable {H : Type} {enc : TypeId × Value → H} {W : World}

theorem plain_of_cell {W : World} {a : Addr} {v : Value} (h : W.cell? (a.add 0) = some v) : a = ⟨a.block, a.off, none⟩ := by
  have := World.cell?_spot h
  obtain ⟨b, off, sp⟩ := a
  simp [Addr.add] at this
  simp [this]

theorem open_cols {fuel : Nat} {ao : Option Addr} {n c : Nat} {x : DataW H × List MemPlace}
    (hf : DataW.trod enc Try.prog W 0 (fun _ => true) true fuel 89 (Value.slice ao n c).cells.toList = some x) :
    ∃ A B : Nat → ByteArray, ColSl W ao n A B ∧ n ≤ maxLen ∧ ∀ k, k < n → (A k).size ≤ maxLen ∧ (B k).size ≤ maxLen := by
  rcases open_slice_pairs Try.underlying89 Try.underlying94 (by kernel_rfl) rfl rfl (by kernel_rfl) (by kernel_rfl) hf with ⟨hcs, _⟩ | ⟨a, len, cap, m, nn, V0, V1, D0, D1, P0, P1, hcs, _, hl, hm, hmm, _, hx⟩
  · simp [Value.cells] at hcs
    obtain ⟨rfl, rfl, rfl⟩ := hcs
    exact ⟨fun _ => ⟨#[]⟩, fun _ => ⟨#[]⟩, fun h => absurd h (by omega), Nat.zero_le _, fun k hk => absurd hk (by omega)⟩
  · simp [Value.cells] at hcs
    obtain ⟨rfl, rfl, rfl⟩ := hcs
    simp only [if_true] at hmm
    subst hmm
    have each : ∀ i, i < n → ∃ q : ByteArray × ByteArray, V0 i = .string q.1 ∧ V1 i = .string q.2 ∧ q.1.size ≤ maxLen ∧ q.2.size ≤ maxLen := fun i hi => by
      obtain ⟨c0, c1, t0, t1⟩ := hx i (by omega)
      obtain ⟨s0, e0, _, z0⟩ := DataW.trod_string Try.underlying9 t0
      obtain ⟨s1, e1, _, z1⟩ := DataW.trod_string Try.underlying9 t1
      simp at e0 e1
      exact ⟨(s0, s1), e0, e1, z0, z1⟩
    obtain ⟨F, hF⟩ := choose_lt (α := ByteArray × ByteArray) each
    refine ⟨fun i => (F i).1, fun i => (F i).2, ?_, by omega, fun k hk => ⟨(hF k hk).2.2.1, (hF k hk).2.2.2⟩⟩
    intro h0
    have ha := plain_of_cell (by simpa using (hx 0 (by omega)).1)
    refine ⟨a.block, a.off, by rw [← ha], fun k hk => ?_⟩
    obtain ⟨c0, c1, _, _⟩ := hx k (by omega)
    rw [ha, add_plain] at c0 c1
    rw [(hF k hk).1] at c0
    rw [(hF k hk).2.1] at c1
    exact ⟨c0, by simpa [Nat.add_assoc] using c1⟩

theorem open_u16s {fuel : Nat} {ao : Option Addr} {n c : Nat} {x : DataW H × List MemPlace}
    (hf : DataW.trod enc Try.prog W 0 (fun _ => true) true fuel 95 (Value.slice ao n c).cells.toList = some x) :
    ∃ P : Nat → Nat, U16Sl W ao n P ∧ n ≤ maxLen := by
  rcases open_ints Try.underlying95 Try.underlying97 (by kernel_rfl) hf with ⟨hcs, _⟩ | ⟨a, l, cap, zs, hcs, _, hl, hm, hz, _, hcell, hwz⟩
  · simp [Value.cells] at hcs
    obtain ⟨rfl, rfl, rfl⟩ := hcs
    exact ⟨fun _ => 0, fun h => absurd h (by omega), Nat.zero_le _⟩
  · simp [Value.cells] at hcs
    obtain ⟨rfl, rfl, rfl⟩ := hcs
    simp only [if_true] at hz
    refine ⟨fun i => (zs.getD i 0).toNat, ?_, by omega⟩
    intro h0
    have ha := plain_of_cell (hcell 0 (by omega))
    refine ⟨a.block, a.off, by rw [← ha], fun k hk => ?_⟩
    have c0 := hcell k (by omega)
    have hmem : zs.getD k 0 ∈ zs := by
      have hk' : k < zs.length := by omega
      simp [List.getD, List.getElem?_eq_getElem hk']
    have hw := hwz _ hmem
    rw [ha, add_plain] at c0
    have hb : 0 ≤ zs.getD k 0 ∧ zs.getD k 0 ≤ 65535 := by
      simp [Lit.wf, IntKind.min, IntKind.max, IntKind.signed, IntKind.bits] at hw
      simp
      omega
    refine ⟨?_, by show (zs.getD k 0).toNat ≤ 65535; omega⟩
    show _ = some (Value.int .u16 ((zs.getD k 0).toNat : Int))
    rw [Int.toNat_of_nonneg hb.1]
    exact c0

theorem open_strings' {fuel : Nat} {ao : Option Addr} {n c : Nat} {x : DataW H × List MemPlace}
    (hf : DataW.trod enc Try.prog W 0 (fun _ => true) true fuel 35 (Value.slice ao n c).cells.toList = some x) :
    ∃ S : Nat → ByteArray, StrSl W ao n S ∧ n ≤ maxLen ∧ ∀ k, k < n → (S k).size ≤ maxLen := by
  rcases open_strings Try.underlying35 Try.underlying9 (by kernel_rfl) hf with ⟨hcs, _⟩ | ⟨a, l, cap, ss, hcs, _, hl, hm, hz, _, hcell, hws⟩
  · simp [Value.cells] at hcs
    obtain ⟨rfl, rfl, rfl⟩ := hcs
    exact ⟨fun _ => ⟨#[]⟩, fun h => absurd h (by omega), Nat.zero_le _, fun k hk => absurd hk (by omega)⟩
  · simp [Value.cells] at hcs
    obtain ⟨rfl, rfl, rfl⟩ := hcs
    simp only [if_true] at hz
    refine ⟨fun i => ss.getD i ByteArray.empty, ?_, by omega, ?_⟩
    · intro h0
      have ha := plain_of_cell (hcell 0 (by omega))
      refine ⟨a.block, a.off, by rw [← ha], fun k hk => ?_⟩
      have c0 := hcell k (by omega)
      rw [ha, add_plain] at c0
      exact c0
    · intro k hk
      refine hws _ ?_
      have hk' : k < ss.length := by omega
      simp [List.getD, List.getElem?_eq_getElem hk']
end
end Go.Proofs.Qxb6000463a
