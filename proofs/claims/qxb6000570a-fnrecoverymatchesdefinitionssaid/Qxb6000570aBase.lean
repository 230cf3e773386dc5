/-
  Laws on memory that the walks of this seat use: rows of elements in a block of the call's own. No Go text in sight.
-/
import Derived.WalkKit
import Derived.WalkSpells
import Derived.Deep.Draws
namespace Go.Proofs.Qxb6000570a
open Go.RowKit
set_option linter.unusedVariables false
set_option linter.unusedSimpArgs false

/-- Block b holds n elements of sz cells each, none frozen; cell j of element i is g i j. -/
def Els (w : World) (b n sz : Nat) (g : Nat → Nat → Value) : Prop :=
  ∃ c e, w.heap[b]? = some (.cells c e (0, 0)) ∧ c.size = n * sz ∧ ∀ i, i < n → ∀ j, j < sz → c[i * sz + j]? = some (g i j)

theorem Els.lt {w : World} {b n sz : Nat} {g : Nat → Nat → Value} (h : Els w b n sz g) : b < w.heap.size := by
  obtain ⟨c, e, h1, _⟩ := h
  by_cases hb : b < w.heap.size
  · exact hb
  · rw [Array.getElem?_eq_none (by omega)] at h1; cases h1

theorem Els.cell {w : World} {b n sz : Nat} {g : Nat → Nat → Value} (h : Els w b n sz g) {i j : Nat} (hi : i < n) (hj : j < sz) :
    w.cell? ⟨b, i * sz + j, none⟩ = some (g i j) := by
  obtain ⟨c, e, h1, h2, h3⟩ := h
  simp [World.cell?, h1, h3 i hi j hj]

theorem Els.cell1 {w : World} {b n : Nat} {g : Nat → Nat → Value} (h : Els w b n 1 g) {i : Nat} (hi : i < n) :
    w.cell? ⟨b, i, none⟩ = some (g i 0) := by
  have := h.cell hi (j := 0) (by omega)
  simpa using this

theorem Els.free {w : World} {b n sz : Nat} {g : Nat → Nat → Value} (h : Els w b n sz g) (i : Nat) :
    w.frozen? ⟨b, i, none⟩ = false := by
  obtain ⟨c, e, h1, h2, h3⟩ := h
  simp [World.frozen?, h1]

theorem Els.congr {w : World} {b n sz : Nat} {g g' : Nat → Nat → Value} (h : Els w b n sz g) (hg : ∀ i, i < n → ∀ j, j < sz → g i j = g' i j) : Els w b n sz g' := by
  obtain ⟨c, e, h1, h2, h3⟩ := h
  exact ⟨c, e, h1, h2, fun i hi j hj => by rw [h3 i hi j hj, hg i hi j hj]⟩

theorem Els.of_block {w w' : World} {b n sz : Nat} {g : Nat → Nat → Value} (h : Els w b n sz g) (hb : w'.heap[b]? = w.heap[b]?) : Els w' b n sz g := by
  obtain ⟨c, e, h1, h2, h3⟩ := h
  exact ⟨c, e, by rw [hb]; exact h1, h2, h3⟩

theorem Els.below {w w' : World} {b n sz B : Nat} {g : Nat → Nat → Value} (h : Els w b n sz g) (hb : Below B w w') (hlt : b < B) : Els w' b n sz g :=
  h.of_block (hb.block b hlt)

theorem Els.alloc {w : World} {b n sz : Nat} {g : Nat → Nat → Value} (h : Els w b n sz g) (o : Obj) : Els (w.alloc o) b n sz g :=
  h.of_block (Below.heap_alloc w o b h.lt)

theorem Els.drew {w : World} {b n sz : Nat} {g : Nat → Nat → Value} (h : Els w b n sz g) : Els w.drew b n sz g := h.of_block rfl
theorem Els.drewN {w : World} {b n sz : Nat} {g : Nat → Nat → Value} (h : Els w b n sz g) (k : Nat) : Els (w.drewN k) b n sz g := h.of_block rfl

theorem Els.other {w : World} {b n sz : Nat} {g : Nat → Nat → Value} (h : Els w b n sz g) {a : Addr} (ha : b ≠ a.block) (v : Value) : Els (w.setCell a v) b n sz g :=
  h.of_block (Below.heap_setCell w a v b ha)

theorem els_idx {n sz i j k l : Nat} (hj : j < sz) (hl : l < sz) (h : i * sz + j = k * sz + l) : i = k ∧ j = l := by
  have hz : 0 < sz := by omega
  have h1 : (i * sz + j) / sz = i := by rw [Nat.mul_comm, Nat.mul_add_div hz, Nat.div_eq_of_lt hj]; omega
  have h2 : (k * sz + l) / sz = k := by rw [Nat.mul_comm, Nat.mul_add_div hz, Nat.div_eq_of_lt hl]; omega
  have : i = k := by rw [← h1, h, h2]
  subst this
  exact ⟨rfl, by omega⟩

theorem els_bd {n sz i j : Nat} (hi : i < n) (hj : j < sz) : i * sz + j < n * sz := by
  have : (i + 1) * sz ≤ n * sz := Nat.mul_le_mul_right sz hi
  rw [Nat.add_mul] at this
  omega

theorem Els.set {w : World} {b n sz : Nat} {g : Nat → Nat → Value} (h : Els w b n sz g) {k l : Nat} (hk : k < n) (hl : l < sz) (v : Value) :
    Els (w.setCell ⟨b, k * sz + l, none⟩ v) b n sz (fun i j => if i = k ∧ j = l then v else g i j) := by
  obtain ⟨c, e, h1, h2, h3⟩ := h
  refine ⟨c.setIfInBounds (k * sz + l) v, e, ?_, by simp [h2], ?_⟩
  · simp [World.setCell, Array.getElem?_modify, h1]
  · intro i hi j hj
    have hb := els_bd hk hl
    by_cases he : i * sz + j = k * sz + l
    · obtain ⟨rfl, rfl⟩ := els_idx (n := n) hj hl he
      simp [Array.getElem?_setIfInBounds, h2, hb]
    · rw [Array.getElem?_setIfInBounds_ne (by omega), h3 i hi j hj]
      show _ = some (if i = k ∧ j = l then v else g i j)
      rw [if_neg]
      rintro ⟨rfl, rfl⟩
      exact he rfl

theorem Els.set1 {w : World} {b n : Nat} {g : Nat → Nat → Value} (h : Els w b n 1 g) {k : Nat} (hk : k < n) (v : Value) :
    Els (w.setCell ⟨b, k, none⟩ v) b n 1 (fun i j => if i = k ∧ j = 0 then v else g i j) := by
  have := h.set hk (l := 0) (by omega) v
  simpa using this

/-- A new block of made cells. -/
theorem els_made (w : World) (n sz : Nat) (z : Array Value) (hz : z.size = sz) (hp : 0 < sz) (e : TypeId) :
    Els (w.alloc (.cells (madeCells z (n * sz)) e)) w.heap.size n sz (fun _ j => z[j]!) := by
  refine ⟨madeCells z (n * sz), e, ?_, size_madeCells _ _, ?_⟩
  · show (w.heap.push _)[_]? = _
    simp
  · intro i hi j hj
    have hb := els_bd hi hj
    simp only [madeCells, Array.getElem?_map]
    rw [Array.getElem?_range]
    simp only [hb, if_true, Option.map_some, hz]
    rw [Nat.mul_comm, Nat.mul_add_mod, Nat.mod_eq_of_lt hj]

theorem els_lit (w : World) (c : Array Value) (e : TypeId) : Els (w.alloc (.cells c e)) w.heap.size c.size 1 (fun i _ => c[i]!) := by
  refine ⟨c, e, ?_, by simp, ?_⟩
  · show (w.heap.push _)[_]? = _
    simp
  · intro i hi j hj
    obtain rfl : j = 0 := by omega
    simp [hi]
theorem size_alloc' (w : World) (o : Obj) : (w.alloc o).heap.size = w.heap.size + 1 := by
  show (w.heap.push o).size = _
  simp

theorem Below.drewN' {B : Nat} {a w : World} (h : Below B a w) (k : Nat) : Below B a (w.drewN k) := ⟨h.os, h.tape, h.output, h.size, h.block⟩
theorem below_drewN0 (B : Nat) (w : World) (k : Nat) : Below B w (w.drewN k) := ⟨rfl, rfl, rfl, Nat.le_refl _, fun _ _ => rfl⟩
theorem drewN_ex (w : World) (a b : Nat) : ∃ k, (w.drewN a).drewN b = w.drewN k := ⟨_, World.drewN_drewN ..⟩

end Go.Proofs.Qxb6000570a
namespace Go.Proofs.Qxb6000570a
open Go.RowKit
set_option linter.unusedVariables false
set_option linter.unusedSimpArgs false

theorem lt_of_block {w : World} {b : Nat} {o : Obj} (h : w.heap[b]? = some o) : b < w.heap.size := by
  by_cases hb : b < w.heap.size
  · exact hb
  · rw [Array.getElem?_eq_none (by omega)] at h; cases h

theorem Els.set1' {w : World} {b n : Nat} {g : Nat → Nat → Value} (h : Els w b n 1 g) {k : Nat} (hk : k < n) (v : Value) {g' : Nat → Nat → Value} (hs : g' k 0 = v) (ho : ∀ i, i ≠ k → g' i 0 = g i 0) :
    Els (w.setCell ⟨b, k, none⟩ v) b n 1 g' := by
  refine (h.set1 hk v).congr fun i hi j hj => ?_
  obtain rfl : j = 0 := by omega
  by_cases e : i = k
  · subst e; simp [hs]
  · simp [e, ho i e]

/-- v is a slice of ints of the call's own (nil, or at the head of block g) that holds the list l. -/
def SlI (w : World) (v : Value) (l : List Int) (g : Option Nat) : Prop :=
  (v = .slice none 0 0 ∧ l = [] ∧ g = none) ∨
  ∃ b cap f, v = .slice (some ⟨b, 0, none⟩) l.length cap ∧ g = some b ∧ l.length ≤ cap ∧ cap ≤ maxLen ∧ Els w b cap 1 f ∧ ∀ i (h : i < l.length), f i 0 = .int .i64 l[i]

theorem SlI.nil (w : World) : SlI w (.slice none 0 0) [] none := .inl ⟨rfl, rfl, rfl⟩

theorem SlI.keep {w w' : World} {v : Value} {l : List Int} {g : Option Nat} (h : SlI w v l g) (hk : ∀ b, g = some b → w'.heap[b]? = w.heap[b]?) : SlI w' v l g := by
  rcases h with h | ⟨b, cap, f, h1, h2, h3, h4, h5, h6⟩
  · exact .inl h
  · exact .inr ⟨b, cap, f, h1, h2, h3, h4, h5.of_block (hk b h2), h6⟩

theorem SlI.lt {w : World} {v : Value} {l : List Int} {b : Nat} (h : SlI w v l (some b)) : b < w.heap.size := by
  rcases h with ⟨_, _, h⟩ | ⟨b', cap, f, h1, h2, h3, h4, h5, h6⟩
  · cases h
  · cases h2; exact h5.lt

/-- The value, whichever it is. -/
theorem SlI.val {w : World} {v : Value} {l : List Int} {g : Option Nat} (h : SlI w v l g) : ∃ ao cap, v = .slice ao l.length cap ∧ l.length ≤ maxLen ∧ (∀ i (hi : i < l.length), ∃ b, ao = some ⟨b, 0, none⟩ ∧ g = some b ∧ l.length ≤ cap ∧ w.cell? ⟨b, i, none⟩ = some (.int .i64 l[i])) := by
  rcases h with ⟨h1, h2, h3⟩ | ⟨b, cap, f, h1, h2, h3, h4, h5, h6⟩
  · subst h2; exact ⟨none, 0, h1, Nat.zero_le _, fun i hi => absurd hi (by simp)⟩
  · exact ⟨_, cap, h1, by omega, fun i hi => ⟨b, rfl, h2, h3, by rw [h5.cell1 (by omega), h6 i hi]⟩⟩

theorem SlI.made (w : World) (C : Array Value) (e : TypeId) (L : List Int) (cap : Nat) (hsz : C.size = cap) (hl : L.length ≤ cap) (hm : cap ≤ maxLen) (hC : ∀ i (h : i < L.length), C[i]? = some (.int .i64 L[i])) :
    SlI (w.alloc (.cells C e)) (.slice (some ⟨w.heap.size, 0, none⟩) L.length cap) L (some w.heap.size) := by
  refine .inr ⟨w.heap.size, cap, fun i _ => C[i]!, rfl, rfl, hl, hm, hsz ▸ els_lit w C e, fun i hi => ?_⟩
  have := hC i hi
  obtain ⟨h1, h2⟩ := Array.getElem?_eq_some_iff.1 this
  show C[i]! = _
  rw [getElem!_pos C i h1, h2]

theorem size_zeroCells1 (z : Value) (hz : z.cells.size = 1) (n : Nat) : (Builtin.zeroCells z.cells n).size = n := by simp [Builtin.zeroCells, hz]

/-- One element more. -/
theorem SlI.push {P : Program} {w : World} {v : Value} {l : List Int} {g : Option Nat} (h : SlI w v l g) (t ty e : TypeId) (i : TypeInfo) (ht : P.underlying t = some (.slice e)) (hi : P.info? e = some i) (hz : i.zero = some (.int .i64 0)) (hs : i.size = 1) (hby : i.bytes = 8)
    (x : Int) (a : Nat) (ha : w.cell? ⟨a, 0, none⟩ = some (.int .i64 x)) (hbd : l.length + 1 ≤ 1000000) :
    ∃ v' w' g', (Builtin.append_ #[t, t] ty #[v, .slice (some ⟨a, 0, none⟩) 1 1]).run P w = .ok v' w' ∧ SlI w' v' (l ++ [x]) g' ∧ w.grownBy w' g ∧ (g' = g ∨ g' = some w.heap.size) := by
  have hnews : ∀ j u, ([Value.int .i64 x] : List Value)[j]? = some u → w.cell? ((⟨a, 0, none⟩ : Addr).add j) = some u := by
    intro j u hj
    match j, hj with
    | 0, hj => simp at hj; subst hj; simpa [Addr.add] using ha
  have hcap : ∀ need old, need ≤ 1000000 → need ≤ grownCap w need old e ∧ grownCap w need old e ≤ maxLen := by
    intro need old hn
    unfold grownCap Question.cut maxLen
    simp only []
    have : ∀ t : Nat, need + t % (2 ^ 63 - need) ≤ 9223372036854775807 := fun t => by
      have := Nat.mod_lt t (show 2 ^ 63 - need > 0 by omega)
      omega
    exact ⟨by omega, this _⟩
  have hdr : ∀ o : Obj, w.grownBy (w.drew.alloc o) g := fun o => ⟨rfl, rfl, rfl, by show w.heap.size ≤ (w.heap.push o).size; simp, fun k hk _ => Below.heap_alloc w.drew o k hk⟩
  rcases h with ⟨rfl, rfl, rfl⟩ | ⟨b, cap, f, rfl, rfl, h3, h4, h5, h6⟩
  · have hrun := run_append_nil (P := P) w t ty e i _ ht hi hz ⟨a, 0, none⟩ 1 1 [.int .i64 x] (by simp [hs]) hnews (by omega) (by omega) (by omega)
    obtain ⟨c1, c2⟩ := hcap 1 0 (by omega)
    refine ⟨_, _, _, hrun, ?_, hdr _, .inr rfl⟩
    refine SlI.made w.drew _ e [x] _ ?_ c1 c2 ?_
    · rw [Array.size_append, size_zeroCells1 _ rfl]; simp; omega
    · intro j hj
      simp at hj
      subst hj
      rw [Array.getElem?_append_left (by simp)]
      rfl
  · by_cases hroom : l.length + 1 ≤ cap
    · have hrun := run_append_room_cells (P := P) w t ty e i ht hi b 0 l.length cap ⟨a, 0, none⟩ 1 1 [.int .i64 x] (by simp [hs]) hnews (by simp [Value.oneCell']) hroom
        (fun j hj => by simp at hj; subst hj; simp [hs, h5.cell1 (show l.length < cap by omega)]) (fun j hj => h5.free _)
      rw [hs, Nat.mul_one, Nat.zero_add] at hrun
      refine ⟨_, _, some b, hrun, .inr ⟨b, cap, fun j _ => if j = l.length then .int .i64 x else f j 0, by simp, rfl, by simpa using hroom, h4, ?_, ?_⟩, ?_, .inl rfl⟩
      · show Els (w.setCell ⟨b, l.length, none⟩ (.int .i64 x)) b cap 1 _
        refine h5.set1' (by omega) _ (by simp) (fun j hj => by simp [hj])
      · intro j hj
        simp at hj
        by_cases e : j = l.length
        · subst e; simp
        · show (if j = l.length then _ else _) = _
          rw [if_neg e, h6 j (by omega), List.getElem_append_left (by omega)]
      · show w.grownBy (w.setCell ⟨b, l.length, none⟩ (.int .i64 x)) (some b)
        exact ⟨rfl, rfl, rfl, by simp [World.setCell], fun k _ hne => Below.heap_setCell _ _ _ _ (fun e => hne (by rw [e]))⟩
    · have hc : cap = l.length := by omega
      have holds : ∀ j u, (l.map (Value.int .i64))[j]? = some u → w.cell? ((⟨b, 0, none⟩ : Addr).add j) = some u := by
        intro j u hj
        simp at hj
        obtain ⟨y, hy, rfl⟩ := hj
        obtain ⟨hjl, hy'⟩ := List.getElem?_eq_some_iff.1 hy
        rw [show (⟨b, 0, none⟩ : Addr).add j = ⟨b, j, none⟩ by unfold Addr.add; split <;> simp_all, h5.cell1 (by omega), h6 j hjl, hy']
      have hrun := run_append_grow (P := P) w t ty e i _ ht hi hz ⟨b, 0, none⟩ l.length cap (l.map (Value.int .i64)) (by simp [hs]) holds ⟨a, 0, none⟩ 1 1 [.int .i64 x] (by simp [hs]) hnews (by omega) (by omega)
        (growslice_fits (by omega) (by rw [hby]; omega))
      obtain ⟨c1, c2⟩ := hcap (l.length + 1) cap (by omega)
      refine ⟨_, _, _, hrun, ?_, hdr _, .inr rfl⟩
      have := SlI.made w.drew ((l.map (Value.int .i64)).toArray ++ [Value.int .i64 x].toArray ++ Builtin.zeroCells (Value.int .i64 0).cells (grownCap w (l.length + 1) cap e - (l.length + 1))) e (l ++ [x]) (grownCap w (l.length + 1) cap e) ?_ (by simpa using c1) c2 ?_
      · simpa using this
      · rw [Array.size_append, size_zeroCells1 _ rfl]; simp; omega
      · intro j hj
        simp at hj
        by_cases e : j = l.length
        · subst e; simp [Array.getElem?_append]
        · have hjl : j < l.length := by omega
          simp [Array.getElem?_append, hjl, List.getElem_append_left, show j < l.length + 1 by omega]

/-- The last element off. -/
theorem SlI.pop {w : World} {v : Value} {l : List Int} {x : Int} {g : Option Nat} (h : SlI w v (l ++ [x]) g) : ∃ b cap, v = .slice (some ⟨b, 0, none⟩) (l.length + 1) cap ∧ g = some b ∧ l.length + 1 ≤ cap ∧ cap ≤ maxLen ∧ w.cell? ⟨b, l.length, none⟩ = some (.int .i64 x) ∧ SlI w (.slice (some ⟨b, 0, none⟩) l.length cap) l g := by
  rcases h with ⟨_, h2, _⟩ | ⟨b, cap, f, h1, h2, h3, h4, h5, h6⟩
  · simp at h2
  · have hl : (l ++ [x]).length = l.length + 1 := by simp
    rw [hl] at h1 h3
    refine ⟨b, cap, h1, h2, h3, h4, ?_, .inr ⟨b, cap, f, rfl, h2, by omega, h4, h5, fun i hi => ?_⟩⟩
    · rw [h5.cell1 (by omega), h6 l.length (by simp)]
      simp
    · rw [h6 i (by simp; omega), List.getElem_append_left hi]
end Go.Proofs.Qxb6000570a
