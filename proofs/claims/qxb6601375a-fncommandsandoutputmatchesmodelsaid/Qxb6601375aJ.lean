/-
  PLAIN: the joined lines, and the test of a prefix line by line. No Go in sight.
-/
import Derived.Lib.Join
import Derived.Lib.Strings
namespace Go.Proofs.Qxb6601375a
set_option linter.unusedVariables false
set_option linter.unusedSimpArgs false

def joined (l : List ByteArray) : List UInt8 := Lib.join (l.map (·.data.toList)) [10]
def hit (p : ByteArray) (l : List ByteArray) : Bool := Lib.hasPrefix (joined l) p.data.toList
theorem hit_iff (p : ByteArray) (l : List ByteArray) : hit p l = true ↔ p.data.toList <+: joined l := by
  unfold hit Lib.hasPrefix
  exact List.isPrefixOf_iff_prefix

theorem size_toList (b : ByteArray) : b.data.toList.length = b.size := by rw [Array.length_toList]; rfl
theorem join_app (xs ys : List (List UInt8)) (sep : List UInt8) (h : xs ≠ []) : Lib.join (xs ++ ys) sep = Lib.join xs sep ++ Lib.joinTail sep ys := by
  obtain ⟨a, r, rfl⟩ := List.exists_cons_of_ne_nil h
  rw [List.cons_append, Lib.join_cons, Lib.join_cons]
  simp [Lib.joinTail]
theorem joined_nil : joined [] = [] := rfl
theorem joined_snoc (l : List ByteArray) (b : ByteArray) (h : l ≠ []) : joined (l ++ [b]) = joined l ++ [10] ++ b.data.toList := by
  unfold joined
  rw [List.map_append, List.map_cons, List.map_nil, join_app _ _ _ (by simpa using h)]
  simp [Lib.joinTail]
theorem joined_one (b : ByteArray) : joined [b] = b.data.toList := by simp [joined, Lib.join_one]
theorem joined_seg (a b : List ByteArray) : joined a <+: joined (a ++ b) := by
  by_cases h : a = []
  · subst h; simp [joined_nil]
  · unfold joined
    rw [List.map_append, join_app _ _ _ (by simpa using h)]
    exact List.prefix_append _ _
theorem joined_take (l : List ByteArray) (j : Nat) : joined (l.take j) <+: joined l := by
  have := joined_seg (l.take j) (l.drop j)
  rwa [List.take_append_drop] at this
theorem joined_len (N : Nat) : ∀ (l : List ByteArray), (∀ i (h : i < l.length), (l[i]).size ≤ N) → (joined l).length ≤ l.length * (N + 1) := by
  intro l h
  have key : ∀ j, j ≤ l.length → (joined (l.take j)).length ≤ j * (N + 1) := by
    intro j
    induction j with
    | zero => intro _; simp [joined_nil]
    | succ j ih =>
      intro hj
      have h1 := ih (by omega)
      have h2 := h j (by omega)
      have h3 := size_toList l[j]
      rw [← List.take_append_getElem (by omega : j < l.length), Nat.succ_mul]
      by_cases e : l.take j = []
      · rw [e, List.nil_append, joined_one]; omega
      · rw [joined_snoc _ _ e]
        simp only [List.length_append, List.length_singleton]
        omega
  have := key l.length (Nat.le_refl _)
  rwa [List.take_length] at this

/-- What has been read at line j, byte k. -/
def rd (l : List ByteArray) (j : Nat) (h : j < l.length) (k : Nat) : List UInt8 := (if j = 0 then [] else joined (l.take j) ++ [10]) ++ (l[j]).data.toList.take k
theorem rd_full (l : List ByteArray) (j : Nat) (h : j < l.length) (k : Nat) (hk : k = (l[j]).size) : rd l j h k = joined (l.take (j + 1)) := by
  have h3 := size_toList l[j]
  unfold rd
  have ht : (l[j]).data.toList.take k = (l[j]).data.toList := List.take_of_length_le (by omega)
  rw [ht, ← List.take_append_getElem h]
  by_cases e : j = 0
  · subst e; simp [joined_one]
  · rw [if_neg e, joined_snoc _ _ (by intro h0; have := congrArg List.length h0; rw [List.length_take, List.length_nil] at this; omega)]
theorem rd_mono (l : List ByteArray) (j : Nat) (h : j < l.length) (k k' : Nat) (hk : k ≤ k') : rd l j h k <+: rd l j h k' := by
  unfold rd
  refine (List.prefix_append_right_inj _).2 ?_
  rw [show k = min k k' by omega, ← List.take_take]
  exact List.take_prefix _ _
theorem rd_seg (l : List ByteArray) (j : Nat) (h : j < l.length) (k : Nat) (hk : k ≤ (l[j]).size) : rd l j h k <+: joined l :=
  ((rd_mono l j h k _ hk).trans (by rw [rd_full l j h _ rfl]; exact List.prefix_refl _)).trans (joined_take l (j + 1))
theorem rd_succ (l : List ByteArray) (j : Nat) (h : j < l.length) (k : Nat) (hk : k < (l[j]).data.toList.length) : rd l j h (k + 1) = rd l j h k ++ [(l[j]).data.toList[k]] := by
  unfold rd
  rw [← List.take_append_getElem hk, List.append_assoc]
theorem rd_zero (l : List ByteArray) (j : Nat) (h : j < l.length) (hj : 0 < j) : rd l j h 0 = joined (l.take j) ++ [10] := by
  unfold rd
  rw [if_neg (by omega)]; simp
theorem rd_start (l : List ByteArray) (h : 0 < l.length) : rd l 0 h 0 = [] := by simp [rd]

/-! ### The test's answers -/
theorem seg_done {R P J : List UInt8} (h1 : R <+: J) (h2 : R <+: P) (h : R.length = P.length) : P <+: J := by
  rw [← h2.eq_of_length h]; exact h1
theorem seg_next {R P : List UInt8} {c : UInt8} (h2 : R <+: P) (h : R.length < P.length) (hc : P[R.length] = c) : R ++ [c] <+: P := by
  obtain ⟨t, rfl⟩ := h2
  cases t with
  | nil => simp at h
  | cons x t =>
    simp at hc
    subst hc
    exact ⟨t, by simp⟩
theorem seg_off {R P J : List UInt8} {c : UInt8} (h1 : R ++ [c] <+: J) (h2 : R <+: P) (h : R.length < P.length) (hc : P[R.length] ≠ c) : ¬ P <+: J := by
  rintro ⟨s, hs⟩
  obtain ⟨t, ht⟩ := h1
  subst hs
  obtain ⟨q, rfl⟩ := h2
  cases q with
  | nil => simp at h
  | cons x q =>
    simp at hc
    simp at ht
    exact hc ht.1.symm
theorem seg_end {P J : List UInt8} (h : J <+: P) : P <+: J ↔ J.length = P.length := by
  constructor
  · intro h2; exact Nat.le_antisymm h.length_le h2.length_le
  · intro h2; rw [h.eq_of_length h2]; exact List.prefix_refl _
end Go.Proofs.Qxb6601375a
