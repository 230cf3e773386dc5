/-
  Laws on memory that the walks of this seat use: rows of elements in a block of the call's own. No Go text in sight.
-/
import Derived.WalkKit
import Derived.WalkSpells
import Derived.Deep.Draws
namespace Go.Proofs.Qxb6000463a
open Go.RowKit
set_option linter.unusedVariables false
set_option linter.unusedSimpArgs false

/-- Block b holds n elements of sz cells each, none frozen; cell j of element i is g i j. -/
def Els (w : World) (b n sz : Nat) (g : Nat → Nat → Value) : Prop :=
  ∃ c e, w.heap[b]? = some (.cells c e (0, 0)) ∧ c.size = n * sz ∧ ∀ i, i < n → ∀ j, j < sz → c[i * sz + j]? = some (g i j)

theorem Els.lt {w : World} {b n sz : Nat} {g : Nat → Nat → Value} (h : Els w b n sz g) : b < w.heap.size := by
  obtain ⟨c, e, h1, _⟩ := h
  by_cases hb : b < w.heap.size
  · exact hb
  · rw [Array.getElem?_eq_none (by omega)] at h1; cases h1

theorem Els.cell {w : World} {b n sz : Nat} {g : Nat → Nat → Value} (h : Els w b n sz g) {i j : Nat} (hi : i < n) (hj : j < sz) :
    w.cell? ⟨b, i * sz + j, none⟩ = some (g i j) := by
  obtain ⟨c, e, h1, h2, h3⟩ := h
  simp [World.cell?, h1, h3 i hi j hj]

theorem Els.cell1 {w : World} {b n : Nat} {g : Nat → Nat → Value} (h : Els w b n 1 g) {i : Nat} (hi : i < n) :
    w.cell? ⟨b, i, none⟩ = some (g i 0) := by
  have := h.cell hi (j := 0) (by omega)
  simpa using this

theorem Els.free {w : World} {b n sz : Nat} {g : Nat → Nat → Value} (h : Els w b n sz g) (i : Nat) :
    w.frozen? ⟨b, i, none⟩ = false := by
  obtain ⟨c, e, h1, h2, h3⟩ := h
  simp [World.frozen?, h1]

theorem Els.congr {w : World} {b n sz : Nat} {g g' : Nat → Nat → Value} (h : Els w b n sz g) (hg : ∀ i, i < n → ∀ j, j < sz → g i j = g' i j) : Els w b n sz g' := by
  obtain ⟨c, e, h1, h2, h3⟩ := h
  exact ⟨c, e, h1, h2, fun i hi j hj => by rw [h3 i hi j hj, hg i hi j hj]⟩

theorem Els.of_block {w w' : World} {b n sz : Nat} {g : Nat → Nat → Value} (h : Els w b n sz g) (hb : w'.heap[b]? = w.heap[b]?) : Els w' b n sz g := by
  obtain ⟨c, e, h1, h2, h3⟩ := h
  exact ⟨c, e, by rw [hb]; exact h1, h2, h3⟩

theorem Els.below {w w' : World} {b n sz B : Nat} {g : Nat → Nat → Value} (h : Els w b n sz g) (hb : Below B w w') (hlt : b < B) : Els w' b n sz g :=
  h.of_block (hb.block b hlt)

theorem Els.alloc {w : World} {b n sz : Nat} {g : Nat → Nat → Value} (h : Els w b n sz g) (o : Obj) : Els (w.alloc o) b n sz g :=
  h.of_block (Below.heap_alloc w o b h.lt)

theorem Els.drew {w : World} {b n sz : Nat} {g : Nat → Nat → Value} (h : Els w b n sz g) : Els w.drew b n sz g := h.of_block rfl
theorem Els.drewN {w : World} {b n sz : Nat} {g : Nat → Nat → Value} (h : Els w b n sz g) (k : Nat) : Els (w.drewN k) b n sz g := h.of_block rfl

theorem Els.other {w : World} {b n sz : Nat} {g : Nat → Nat → Value} (h : Els w b n sz g) {a : Addr} (ha : b ≠ a.block) (v : Value) : Els (w.setCell a v) b n sz g :=
  h.of_block (Below.heap_setCell w a v b ha)

theorem els_idx {n sz i j k l : Nat} (hj : j < sz) (hl : l < sz) (h : i * sz + j = k * sz + l) : i = k ∧ j = l := by
  have hz : 0 < sz := by omega
  have h1 : (i * sz + j) / sz = i := by rw [Nat.mul_comm, Nat.mul_add_div hz, Nat.div_eq_of_lt hj]; omega
  have h2 : (k * sz + l) / sz = k := by rw [Nat.mul_comm, Nat.mul_add_div hz, Nat.div_eq_of_lt hl]; omega
  have : i = k := by rw [← h1, h, h2]
  subst this
  exact ⟨rfl, by omega⟩

theorem els_bd {n sz i j : Nat} (hi : i < n) (hj : j < sz) : i * sz + j < n * sz := by
  have : (i + 1) * sz ≤ n * sz := Nat.mul_le_mul_right sz hi
  rw [Nat.add_mul] at this
  omega

theorem Els.set {w : World} {b n sz : Nat} {g : Nat → Nat → Value} (h : Els w b n sz g) {k l : Nat} (hk : k < n) (hl : l < sz) (v : Value) :
    Els (w.setCell ⟨b, k * sz + l, none⟩ v) b n sz (fun i j => if i = k ∧ j = l then v else g i j) := by
  obtain ⟨c, e, h1, h2, h3⟩ := h
  refine ⟨c.setIfInBounds (k * sz + l) v, e, ?_, by simp [h2], ?_⟩
  · simp [World.setCell, Array.getElem?_modify, h1]
  · intro i hi j hj
    have hb := els_bd hk hl
    by_cases he : i * sz + j = k * sz + l
    · obtain ⟨rfl, rfl⟩ := els_idx (n := n) hj hl he
      simp [Array.getElem?_setIfInBounds, h2, hb]
    · rw [Array.getElem?_setIfInBounds_ne (by omega), h3 i hi j hj]
      show _ = some (if i = k ∧ j = l then v else g i j)
      rw [if_neg]
      rintro ⟨rfl, rfl⟩
      exact he rfl

theorem Els.set1 {w : World} {b n : Nat} {g : Nat → Nat → Value} (h : Els w b n 1 g) {k : Nat} (hk : k < n) (v : Value) :
    Els (w.setCell ⟨b, k, none⟩ v) b n 1 (fun i j => if i = k ∧ j = 0 then v else g i j) := by
  have := h.set hk (l := 0) (by omega) v
  simpa using this

/-- A new block of made cells. -/
theorem els_made (w : World) (n sz : Nat) (z : Array Value) (hz : z.size = sz) (hp : 0 < sz) (e : TypeId) :
    Els (w.alloc (.cells (madeCells z (n * sz)) e)) w.heap.size n sz (fun _ j => z[j]!) := by
  refine ⟨madeCells z (n * sz), e, ?_, size_madeCells _ _, ?_⟩
  · show (w.heap.push _)[_]? = _
    simp
  · intro i hi j hj
    have hb := els_bd hi hj
    simp only [madeCells, Array.getElem?_map]
    rw [Array.getElem?_range]
    simp only [hb, if_true, Option.map_some, hz]
    rw [Nat.mul_comm, Nat.mul_add_mod, Nat.mod_eq_of_lt hj]

theorem els_lit (w : World) (c : Array Value) (e : TypeId) : Els (w.alloc (.cells c e)) w.heap.size c.size 1 (fun i _ => c[i]!) := by
  refine ⟨c, e, ?_, by simp, ?_⟩
  · show (w.heap.push _)[_]? = _
    simp
  · intro i hi j hj
    obtain rfl : j = 0 := by omega
    simp [hi]
theorem size_alloc' (w : World) (o : Obj) : (w.alloc o).heap.size = w.heap.size + 1 := by
  show (w.heap.push o).size = _
  simp

theorem Below.drewN' {B : Nat} {a w : World} (h : Below B a w) (k : Nat) : Below B a (w.drewN k) := ⟨h.os, h.tape, h.output, h.size, h.block⟩
theorem below_drewN0 (B : Nat) (w : World) (k : Nat) : Below B w (w.drewN k) := ⟨rfl, rfl, rfl, Nat.le_refl _, fun _ _ => rfl⟩
theorem drewN_ex (w : World) (a b : Nat) : ∃ k, (w.drewN a).drewN b = w.drewN k := ⟨_, World.drewN_drewN ..⟩

end Go.Proofs.Qxb6000463a
