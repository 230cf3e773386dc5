/-
  PLAIN: the graph with every edge turned round; the search from one node. No Go in sight.
-/
import Derived.Test.Qxb6000570aTarjan
namespace Go.Proofs.Qxb6000570a
set_option linter.unusedVariables false
set_option linter.unusedSimpArgs false

def RevOf (n : Nat) (adj radj : Nat → List Nat) : Prop := ∀ u v, u < n → v < n → (u ∈ radj v ↔ v ∈ adj u)
theorem RevOf.symm {n : Nat} {adj radj : Nat → List Nat} (h : RevOf n adj radj) : RevOf n radj adj := fun u v hu hv => (h v u hv hu).symm

theorem RN.rev {n : Nat} {adj radj : Nat → List Nat} (hg : Good n adj) (h : RevOf n adj radj) : ∀ (k u v : Nat), u < n → RN (Edge adj) k u v → Reach (Edge radj) v u
  | 0, u, v, hu, e => by rw [show u = v from e]; exact Reach.refl _ _
  | k + 1, u, v, hu, ⟨x, he, hx⟩ => by
    have hxn := hg u x hu he
    exact (RN.rev hg h k x v hxn hx).trans (Reach.edge ((h u x hu hxn).2 he))
theorem reach_rev {n : Nat} {adj radj : Nat → List Nat} (hg : Good n adj) (hg2 : Good n radj) (h : RevOf n adj radj) {u v : Nat} (hu : u < n) (hv : v < n) : Reach (Edge radj) v u ↔ Reach (Edge adj) u v := by
  constructor
  · rintro ⟨k, hk⟩; exact RN.rev hg2 h.symm k v u hv hk
  · rintro ⟨k, hk⟩; exact RN.rev hg h k u v hu hk
theorem same_part {n : Nat} {adj radj : Nat → List Nat} {c1 c2 : Nat → Int} {k1 k2 : Nat} (hg : Good n adj) (hg2 : Good n radj) (h : RevOf n adj radj) (h1 : Comps n adj c1 k1) (h2 : Comps n radj c2 k2) {u v : Nat} (hu : u < n) (hv : v < n) : c1 u = c1 v ↔ c2 u = c2 v := by
  rw [h1.same u v hu hv, h2.same u v hu hv, reach_rev hg hg2 h hu hv, reach_rev hg hg2 h hv hu]
  exact And.comm

theorem sumTo_le {f : Nat → Nat} : ∀ {k n : Nat}, k ≤ n → sumTo f k ≤ sumTo f n
  | k, 0, h => by rw [show k = 0 by omega]; exact Nat.le_refl _
  | k, n + 1, h => by
    by_cases e : k = n + 1
    · subst e; exact Nat.le_refl _
    · have := sumTo_le (f := f) (k := k) (n := n) (by omega)
      rw [sumTo]; omega
theorem sumTo_part {f : Nat → Nat} {k n : Nat} (h : k < n) : sumTo f k + f k ≤ sumTo f n := sumTo_le (f := f) (k := k + 1) (n := n) h

/-! ### The rows of the turned graph, edge by edge -/
def RevAt (n : Nat) (adj : Nat → List Nat) (k j : Nat) (R : Nat → List Nat) : Prop :=
  (∀ v, v < n → ∀ x, x ∈ R v ↔ (x < k ∧ v ∈ adj x) ∨ (x = k ∧ v ∈ (adj k).take j)) ∧ ∀ v, v < n → (R v).length ≤ sumTo (fun u => (adj u).length) k + j
theorem revAt_start (n : Nat) (adj : Nat → List Nat) : RevAt n adj 0 0 fun _ => [] := ⟨fun v hv x => by simp, fun v hv => by simp⟩
theorem RevAt.step {n : Nat} {adj : Nat → List Nat} {k j : Nat} {R : Nat → List Nat} (h : RevAt n adj k j R) (hj : j < (adj k).length) (hv : (adj k)[j] < n) : RevAt n adj k (j + 1) (upd R (adj k)[j] (R (adj k)[j] ++ [k])) := by
  constructor
  · intro v hvn x
    have ht : v ∈ (adj k).take (j + 1) ↔ v ∈ (adj k).take j ∨ v = (adj k)[j] := by rw [← List.take_append_getElem hj, List.mem_append, List.mem_singleton]
    by_cases e : v = (adj k)[j]
    · rw [e, upd_same, ← e, List.mem_append, h.1 v hvn x, ht]
      simp only [List.mem_singleton, e, or_true, and_true]
      constructor
      · rintro ((a | a) | a)
        · exact .inl a
        · exact .inr a.1
        · exact .inr a
      · rintro (a | a)
        · exact .inl (.inl a)
        · exact .inr a
    · rw [upd_other _ _ e, h.1 v hvn x, ht]
      simp [e]
  · intro v hvn
    have := h.2 v hvn
    by_cases e : v = (adj k)[j]
    · rw [e, upd_same]
      have := h.2 _ hv
      simp only [List.length_append, List.length_singleton]
      omega
    · rw [upd_other _ _ e]; omega
theorem RevAt.next {n : Nat} {adj : Nat → List Nat} {k : Nat} {R : Nat → List Nat} (h : RevAt n adj k (adj k).length R) : RevAt n adj (k + 1) 0 R := by
  constructor
  · intro v hv x
    rw [h.1 v hv x]
    simp only [List.take_length, List.take_zero, List.not_mem_nil, and_false, or_false]
    constructor
    · rintro (⟨a, b⟩ | ⟨a, b⟩)
      · exact ⟨by omega, b⟩
      · subst a; exact ⟨by omega, b⟩
    · rintro ⟨a, b⟩
      by_cases e : x = k
      · subst e; exact .inr ⟨rfl, b⟩
      · exact .inl ⟨by omega, b⟩
  · intro v hv
    have := h.2 v hv
    rw [sumTo]; omega
theorem RevAt.fin {n : Nat} {adj : Nat → List Nat} {R : Nat → List Nat} (h : RevAt n adj n 0 R) : RevOf n adj R ∧ Good n R := by
  constructor
  · intro u v hu hv
    rw [h.1 v hv u]
    simp [hu]
  · intro v u hv hu
    rw [h.1 v hv u] at hu
    simp at hu
    exact hu.1

/-! ### The search -/
structure Sea (n : Nat) (adj : Nat → List Nat) (s : Nat) (Q : List Nat) (f : Nat → Bool) (hd : Nat) (j : Nat) : Prop where
  mem : ∀ v, v < n → (f v = true ↔ v ∈ Q)
  nod : Q.Nodup
  lt : ∀ v, v ∈ Q → v < n
  src : s ∈ Q
  rch : ∀ v, v ∈ Q → Reach (Edge adj) s v
  did : ∀ i (h : i < Q.length), i < hd → ∀ v, v ∈ adj Q[i] → v ∈ Q
  now : ∀ (h : hd < Q.length), ∀ v, v ∈ (adj Q[hd]).take j → v ∈ Q
theorem nodup_le : ∀ {n : Nat} {Q : List Nat}, Q.Nodup → (∀ v, v ∈ Q → v < n) → Q.length ≤ n
  | 0, [], _, _ => Nat.le_refl _
  | 0, a :: l, _, hl => by have := hl a (by simp); omega
  | n + 1, Q, h, hl => by
    by_cases hm : n ∈ Q
    · have h1 := nodup_le (n := n) (Q := Q.erase n) (h.erase n) (fun v hv => by
        rw [h.mem_erase_iff] at hv
        have := hl v hv.2
        have := hv.1
        omega)
      rw [List.length_erase_of_mem hm] at h1
      omega
    · have := nodup_le (n := n) h (fun v hv => by
        have := hl v hv
        have : v ≠ n := fun e => hm (e ▸ hv)
        omega)
      omega
theorem Sea.len {n : Nat} {adj : Nat → List Nat} {s : Nat} {Q : List Nat} {f : Nat → Bool} {hd j : Nat} (h : Sea n adj s Q f hd j) : Q.length ≤ n := nodup_le h.nod h.lt
theorem sea_start {n : Nat} (adj : Nat → List Nat) {s : Nat} (hs : s < n) : Sea n adj s [s] (upd (fun _ => false) s true) 0 0 where
  mem := fun v hv => by
    by_cases e : v = s
    · subst e; simp [upd_same]
    · simp [upd_other _ _ e, e]
  nod := by simp
  lt := fun v hv => by simp at hv; omega
  src := by simp
  rch := fun v hv => by simp at hv; subst hv; exact Reach.refl _ _
  did := fun i h h0 => by omega
  now := fun h v hv => by simp at hv
theorem Sea.old {n : Nat} {adj : Nat → List Nat} {s : Nat} {Q : List Nat} {f : Nat → Bool} {hd j : Nat} (h : Sea n adj s Q f hd j) (hh : hd < Q.length) (hj : j < (adj Q[hd]).length) (hv : (adj Q[hd])[j] ∈ Q) : Sea n adj s Q f hd (j + 1) :=
  { h with
    now := by
      intro h2 v hv2
      rw [← List.take_append_getElem hj] at hv2
      rcases List.mem_append.1 hv2 with a | a
      · exact h.now h2 v a
      · simp at a; subst a; exact hv }
theorem Sea.new {n : Nat} {adj : Nat → List Nat} {s : Nat} {Q : List Nat} {f : Nat → Bool} {hd j : Nat} (h : Sea n adj s Q f hd j) (hh : hd < Q.length) (hj : j < (adj Q[hd]).length) {v : Nat} (hv : v = (adj Q[hd])[j]) (hvn : v < n) (hf : f v = false) : Sea n adj s (Q ++ [v]) (upd f v true) hd (j + 1) where
  mem := fun x hx => by
    by_cases e : x = v
    · subst e; simp [upd_same]
    · rw [upd_other _ _ e, h.mem x hx]; simp [e]
  nod := by
    have hvq : v ∉ Q := fun hh2 => by have := (h.mem v hvn).2 hh2; rw [hf] at this; cases this
    rw [List.nodup_append]
    refine ⟨h.nod, by simp, fun a ha b hb => ?_⟩
    simp at hb
    subst hb
    exact fun e => hvq (e ▸ ha)
  lt := fun x hx => by
    rcases List.mem_append.1 hx with a | a
    · exact h.lt x a
    · simp at a; omega
  src := List.mem_append_left _ h.src
  rch := fun x hx => by
    rcases List.mem_append.1 hx with a | a
    · exact h.rch x a
    · simp at a
      subst a
      refine (h.rch _ (List.getElem_mem hh)).trans (Reach.edge ?_)
      show x ∈ adj Q[hd]
      rw [hv]
      exact List.getElem_mem hj
  did := fun i hi hih x hx => by
    have hiq : i < Q.length := by omega
    rw [List.getElem_append_left hiq] at hx
    exact List.mem_append_left _ (h.did i hiq hih x hx)
  now := fun h2 x hx => by
    rw [List.getElem_append_left hh, ← List.take_append_getElem hj] at hx
    rcases List.mem_append.1 hx with a | a
    · exact List.mem_append_left _ (h.now hh x a)
    · simp at a; subst a; simp [hv]
theorem Sea.next {n : Nat} {adj : Nat → List Nat} {s : Nat} {Q : List Nat} {f : Nat → Bool} {hd j : Nat} (h : Sea n adj s Q f hd j) (hh : hd < Q.length) (hj : j = (adj Q[hd]).length) : Sea n adj s Q f (hd + 1) 0 :=
  { h with
    did := by
      intro i hi hih v hv
      by_cases e : i = hd
      · subst e
        exact h.now hh v (by rw [hj, List.take_length]; exact hv)
      · exact h.did i hi (by omega) v hv
    now := by intro h2 v hv; simp at hv }
theorem Sea.fin {n : Nat} {adj : Nat → List Nat} {s : Nat} {Q : List Nat} {f : Nat → Bool} {hd j : Nat} (h : Sea n adj s Q f hd j) (hh : Q.length ≤ hd) (v : Nat) (hv : v < n) : f v = true ↔ Reach (Edge adj) s v := by
  rw [h.mem v hv]
  constructor
  · exact h.rch v
  · intro hr
    refine Reach.closed (S := fun x => x ∈ Q) (fun a b ha hab => ?_) h.src hr
    obtain ⟨i, hi, rfl⟩ := List.mem_iff_getElem.1 ha
    exact h.did i hi (by omega) b hab
end Go.Proofs.Qxb6000570a
