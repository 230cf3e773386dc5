/-
  From what an argument reads as to what the walks ask of it: a slice of STable.
-/
import Derived.Test.Qxb6000463aR2
import Derived.Test.Qxb6000463aOpen
namespace Go.Proofs.Qxb6000463a
open Go.ChangeShapes Go.WideShapes Go.ChangeAt Go.RowKit Go.Deep
set_option linter.unusedVariables false
set_option linter.unusedSimpArgs false

section
variable {H : Type} {enc : TypeId × Value → H} {W : World}

theorem open_strings_cell {fuel : Nat} {v : Value} {x : DataW H × List MemPlace} (hf : DataW.trod enc Try.prog W 0 (fun _ => true) true fuel 35 [v] = some x) :
    ∃ ao n c, v = .slice ao n c ∧ ∃ S : Nat → ByteArray, StrSl W ao n S ∧ n ≤ maxLen ∧ ∀ k, k < n → (S k).size ≤ maxLen := by
  have key : ∃ ao n c, v = .slice ao n c := by
    rcases open_strings Try.underlying35 Try.underlying9 (by kernel_rfl) hf with ⟨hcs, _⟩ | ⟨a, l, cap, ss, hcs, _, hl, hm, hz, _, hcell, hws⟩
    · simp at hcs; exact ⟨_, _, _, hcs⟩
    · simp at hcs; exact ⟨_, _, _, hcs⟩
  obtain ⟨ao, n, c, rfl⟩ := key
  exact ⟨ao, n, c, rfl, open_strings' (by simpa [Value.cells] using hf)⟩

structure TRow where
  sch : ByteArray
  nam : ByteArray
  ca : Option Addr
  nc : Nat
  cc : Nat
  col : Nat → ByteArray
  pa : Option Addr
  np : Nat
  pc : Nat
  prt : Nat → ByteArray

theorem choose_rows {n : Nat} {p : Nat → TRow → Prop} (h : ∀ i, i < n → ∃ x, p i x) : ∃ f : Nat → TRow, ∀ i, i < n → p i (f i) := by
  refine ⟨fun i => if hi : i < n then Classical.choose (h i hi) else ⟨⟨#[]⟩, ⟨#[]⟩, none, 0, 0, fun _ => ⟨#[]⟩, none, 0, 0, fun _ => ⟨#[]⟩⟩, fun i hi => ?_⟩
  simp only [dif_pos hi]
  exact Classical.choose_spec (h i hi)

set_option maxRecDepth 100000 in
theorem open_tabs {fuel : Nat} {ao : Option Addr} {n c : Nat} {x : DataW H × List MemPlace}
    (hf : DataW.trod enc Try.prog W 0 (fun _ => true) true fuel 22 (Value.slice ao n c).cells.toList = some x) :
    ∃ T : TD, TabSl W ao n T ∧ n ≤ maxLen ∧ ∀ i, i < n → BdAt maxLen T i := by
  rcases open_slice Try.underlying22 hf with ⟨hcs, _⟩ | ⟨a, len, cap, m, nn, D, Pl, hcs, _, hl, hm, hmm, _, hx⟩
  · simp [Value.cells] at hcs
    obtain ⟨rfl, rfl, rfl⟩ := hcs
    exact ⟨⟨fun _ => ⟨#[]⟩, fun _ => ⟨#[]⟩, fun _ => none, fun _ => 0, fun _ => 0, fun _ _ => ⟨#[]⟩, fun _ => none, fun _ => 0, fun _ => 0, fun _ _ => ⟨#[]⟩⟩, fun h => absurd h (by omega), Nat.zero_le _, fun i hi => absurd hi (by omega)⟩
  · simp [Value.cells] at hcs
    obtain ⟨rfl, rfl, rfl⟩ := hcs
    simp only [if_true] at hmm
    subst hmm
    have c37 : Try.prog.cellsOf 37 = 4 := by kernel_rfl
    have c9 : Try.prog.cellsOf 9 = 1 := by kernel_rfl
    have c35 : Try.prog.cellsOf 35 = 1 := by kernel_rfl
    rw [c37] at hx
    have each : ∀ i, i < n → ∃ r : TRow, W.cell? (a.add (i * 4)) = some (.string r.sch) ∧ W.cell? ((a.add (i * 4)).add 1) = some (.string r.nam) ∧ W.cell? ((a.add (i * 4)).add 2) = some (.slice r.ca r.nc r.cc) ∧ W.cell? ((a.add (i * 4)).add 3) = some (.slice r.pa r.np r.pc) ∧
        StrSl W r.ca r.nc r.col ∧ StrSl W r.pa r.np r.prt ∧ r.sch.size ≤ maxLen ∧ r.nam.size ≤ maxLen ∧ r.nc ≤ maxLen ∧ r.np ≤ maxLen ∧ (∀ j, j < r.nc → (r.col j).size ≤ maxLen) ∧ (∀ j, j < r.np → (r.prt j).size ≤ maxLen) := fun i hi => by
      obtain ⟨cs', h1, h2⟩ := hx i (by omega)
      obtain ⟨_, hlen, hcell⟩ := World.cells?_some h1
      obtain ⟨xs, k, _, _, _, hxl, hfld⟩ := DataW.trod_struct Try.underlying37 h2
      match cs', hlen with
      | [v0, v1, v2, v3], _ =>
        have t0 := hfld 0 _ rfl
        have t1 := hfld 1 _ rfl
        have t2 := hfld 2 _ rfl
        have t3 := hfld 3 _ rfl
        simp [c9, c35] at t0 t1 t2 t3
        have hxl' : xs.length = 4 := hxl
        rw [List.getElem?_eq_getElem (by omega)] at t0 t1 t2 t3
        obtain ⟨s0, e0, _, z0⟩ := DataW.trod_string Try.underlying9 t0
        obtain ⟨s1, e1, _, z1⟩ := DataW.trod_string Try.underlying9 t1
        obtain ⟨ca, nc, cc, rfl, C, hC, nC, sC⟩ := open_strings_cell t2
        obtain ⟨pa, np, pc, rfl, Q, hQ, nQ, sQ⟩ := open_strings_cell t3
        simp at e0 e1
        subst e0 e1
        have q0 := hcell 0 (by omega)
        have q1 := hcell 1 (by omega)
        have q2 := hcell 2 (by omega)
        have q3 := hcell 3 (by omega)
        exact ⟨⟨s0, s1, ca, nc, cc, C, pa, np, pc, Q⟩, by simpa [Addr.add] using q0, by simpa using q1, by simpa using q2, by simpa using q3, hC, hQ, z0, z1, nC, nQ, sC, sQ⟩
    obtain ⟨F, hF⟩ := choose_rows each
    refine ⟨⟨fun i => (F i).sch, fun i => (F i).nam, fun i => (F i).ca, fun i => (F i).nc, fun i => (F i).cc, fun i => (F i).col, fun i => (F i).pa, fun i => (F i).np, fun i => (F i).pc, fun i => (F i).prt⟩, ?_, by omega, fun i hi => ?_⟩
    · intro h0
      have ha := plain_of_cell (by simpa using (hF 0 h0).1)
      refine ⟨a.block, a.off, by rw [← ha], fun i hi => ?_⟩
      obtain ⟨q0, q1, q2, q3, q4, q5, _⟩ := hF i hi
      rw [ha] at q0 q1 q2 q3
      simp only [add_plain] at q0 q1 q2 q3
      exact ⟨q0, q1, q2, q3, q4, q5⟩
    · obtain ⟨_, _, _, _, _, _, z0, z1, z2, z3, z4, z5⟩ := hF i hi
      exact ⟨z0, z1, z2, z3, z4, z5⟩
end
end Go.Proofs.Qxb6000463a
