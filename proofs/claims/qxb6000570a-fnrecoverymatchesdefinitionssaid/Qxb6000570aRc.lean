/-
  PLAIN: the recovery classes: what recoveryOf keeps of a schedule, and why that is enough. No Go in sight.
-/
import Derived.Test.Qxb6000570aE3
namespace Go.Proofs.Qxb6000570a
set_option linter.unusedVariables false
set_option linter.unusedSimpArgs false

def Takes (S : Sch) (k : Nat) : Prop := S.K k = 1 ∨ S.K k = 2
/-- How op k's transaction stands at position p. -/
def st (S : Sch) (k : Nat) (p : Int) : Nat := stat (S.H k) (S.A k) p
structure Wf (S : Sch) (n : Nat) : Prop where
  x1 : ∀ k, k < n → 1 ≤ S.X k
  h0 : ∀ k, k < n → (S.H k = 0 ↔ S.A k = 0)
  tx : ∀ j k, j < n → k < n → S.X j = S.X k → S.H j = S.H k ∧ S.A j = S.A k
def SS (S : Sch) (i : Nat) : Prop := ∀ j, j < i → S.K j = 2 → S.X j ≠ S.X i → S.I j = S.I i → st S j ((i : Int) + 1) ≠ 0
def RR (S : Sch) (i : Nat) : Prop := ∀ j, j < i → S.K j = 1 → S.X j ≠ S.X i → S.I j = S.I i → st S j ((i : Int) + 1) ≠ 0
def Src (S : Sch) (i j : Nat) : Prop := j < i ∧ S.K j = 2 ∧ S.I j = S.I i ∧ st S j ((i : Int) + 1) ≠ 2 ∧ ∀ j', j < j' → j' < i → S.K j' = 2 → S.I j' = S.I i → st S j' ((i : Int) + 1) = 2
def AA (S : Sch) (i : Nat) : Prop := ∀ j, Src S i j → S.X j ≠ S.X i → st S j ((i : Int) + 1) = 1
def CC (S : Sch) (i : Nat) : Prop := ∀ j, Src S i j → S.X j ≠ S.X i → S.H i = 1 → st S j (S.A i) = 1
def FS (S : Sch) (i : Nat) : Prop := ∀ k, k < i → Takes S k → SS S k
def FR (S : Sch) (i : Nat) : Prop := ∀ k, k < i → S.K k = 2 → RR S k
def FA (S : Sch) (i : Nat) : Prop := ∀ k, k < i → S.K k = 1 → AA S k
def FC (S : Sch) (i : Nat) : Prop := ∀ k, k < i → S.K k = 1 → CC S k

theorem st_later {S : Sch} {k : Nat} {p q : Int} (h : st S k p ≠ 0) (hpq : p ≤ q) : st S k q ≠ 0 := by
  unfold st stat at *
  by_cases h1 : S.A k < p
  · rw [if_pos h1] at h; rw [if_pos (by omega)]; exact h
  · rw [if_neg h1] at h; exact absurd rfl h
theorem st_two {S : Sch} {k : Nat} {p q : Int} (h : st S k p = 2) (hpq : p ≤ q) : st S k q = 2 := by
  unfold st stat at *
  by_cases h1 : S.A k < p
  · rw [if_pos h1] at h; rw [if_pos (by omega)]; exact h
  · rw [if_neg h1] at h; cases h
theorem Src.uniq {S : Sch} {i j k : Nat} (h : Src S i j) (h' : Src S i k) : j = k := by
  rcases Nat.lt_trichotomy j k with e | e | e
  · exact absurd (h.2.2.2.2 k e h'.1 h'.2.1 h'.2.2.1) h'.2.2.2.1
  · exact e
  · exact absurd (h'.2.2.2.2 j e h.1 h.2.1 h.2.2.1) h.2.2.2.1

theorem FS.succ {S : Sch} {i : Nat} : FS S (i + 1) ↔ FS S i ∧ (Takes S i → SS S i) := by
  constructor
  · intro h; exact ⟨fun k hk => h k (by omega), h i (by omega)⟩
  · rintro ⟨h1, h2⟩ k hk ht
    by_cases e : k = i
    · subst e; exact h2 ht
    · exact h1 k (by omega) ht
theorem FR.succ {S : Sch} {i : Nat} : FR S (i + 1) ↔ FR S i ∧ (S.K i = 2 → RR S i) := by
  constructor
  · intro h; exact ⟨fun k hk => h k (by omega), h i (by omega)⟩
  · rintro ⟨h1, h2⟩ k hk ht
    by_cases e : k = i
    · subst e; exact h2 ht
    · exact h1 k (by omega) ht
theorem FA.succ {S : Sch} {i : Nat} : FA S (i + 1) ↔ FA S i ∧ (S.K i = 1 → AA S i) := by
  constructor
  · intro h; exact ⟨fun k hk => h k (by omega), h i (by omega)⟩
  · rintro ⟨h1, h2⟩ k hk ht
    by_cases e : k = i
    · subst e; exact h2 ht
    · exact h1 k (by omega) ht
theorem FC.succ {S : Sch} {i : Nat} : FC S (i + 1) ↔ FC S i ∧ (S.K i = 1 → CC S i) := by
  constructor
  · intro h; exact ⟨fun k hk => h k (by omega), h i (by omega)⟩
  · rintro ⟨h1, h2⟩ k hk ht
    by_cases e : k = i
    · subst e; exact h2 ht
    · exact h1 k (by omega) ht

structure Pl (S : Sch) (i c : Nat) (κ : Nat → ByteArray) (LA : Nat → Option Nat) (WL RL : Nat → List Nat) : Prop where
  has : ∀ k, k < i → Takes S k → ∃ j, j < c ∧ κ j = S.I k
  la0 : ∀ j, j < c → LA j = none → ∀ k, k < i → S.K k = 2 → S.I k ≠ κ j
  la1 : ∀ j, j < c → ∀ k, LA j = some k → k < i ∧ S.K k = 2 ∧ S.I k = κ j ∧ ∀ k', k < k' → k' < i → S.K k' = 2 → S.I k' ≠ κ j
  rl : ∀ j, j < c → ∀ k, k ∈ RL j → k < i ∧ S.K k = 1 ∧ S.I k = κ j
  rl2 : ∀ j, j < c → ∀ k, k < i → S.K k = 1 → S.I k = κ j → (∀ k', k < k' → k' < i → S.K k' = 2 → S.I k' ≠ κ j) → k ∈ RL j
  wl : ∀ j, j < c → ∀ k, k ∈ WL j → k < i ∧ S.K k = 2 ∧ S.I k = κ j
  wls : ∀ j, j < c → (WL j).Pairwise (· < ·)
  wl2 : ∀ j, j < c → ∀ k, k < i → S.K k = 2 → S.I k = κ j → k ∈ WL j ∨ st S k ((i : Int) + 1) = 2
  len : ∀ j, j < c → (WL j).length ≤ i ∧ (RL j).length ≤ i
theorem pl_start (S : Sch) (κ : Nat → ByteArray) (LA : Nat → Option Nat) (WL RL : Nat → List Nat) : Pl S 0 0 κ LA WL RL :=
  ⟨fun k hk => by omega, fun j hj => by omega, fun j hj => by omega, fun j hj => by omega, fun j hj => by omega, fun j hj => by omega, fun j hj => by omega, fun j hj => by omega, fun j hj => by omega⟩

section
variable {S : Sch} {i c : Nat} {κ : Nat → ByteArray} {LA : Nat → Option Nat} {WL RL : Nat → List Nat}

/-- An operation that takes no item. -/
theorem Pl.skip (h : Pl S i c κ LA WL RL) (ht : ¬ Takes S i) : Pl S (i + 1) c κ LA WL RL where
  has := fun k hk hk2 => h.has k (by by_cases e : k = i; · subst e; exact absurd hk2 ht
                                     · omega) hk2
  la0 := fun j hj e k hk hk2 => h.la0 j hj e k (by by_cases e : k = i; · subst e; exact absurd (.inr hk2) ht
                                                   · omega) hk2
  la1 := fun j hj k e => by
    obtain ⟨a, b, d, f⟩ := h.la1 j hj k e
    refine ⟨by omega, b, d, fun k' h1 h2 h3 => f k' h1 ?_ h3⟩
    by_cases e : k' = i
    · subst e; exact absurd (.inr h3) ht
    · omega
  rl := fun j hj k hk => by obtain ⟨a, b⟩ := h.rl j hj k hk; exact ⟨by omega, b⟩
  rl2 := fun j hj k hk h1 h2 h3 => by
    have : k ≠ i := fun e => by subst e; exact ht (.inl h1)
    exact h.rl2 j hj k (by omega) h1 h2 (fun k' a b d => h3 k' a (by omega) d)
  wl := fun j hj k hk => by obtain ⟨a, b⟩ := h.wl j hj k hk; exact ⟨by omega, b⟩
  wls := h.wls
  wl2 := fun j hj k hk h1 h2 => by
    have : k ≠ i := fun e => by subst e; exact ht (.inr h1)
    rcases h.wl2 j hj k (by omega) h1 h2 with a | a
    · exact .inl a
    · exact .inr (st_two a (by push_cast; omega))
  len := fun j hj => by have := h.len j hj; omega
/-- A new item. -/
theorem Pl.add (h : Pl S i c κ LA WL RL) {s : ByteArray} (hs : ∀ j, j < c → κ j ≠ s) : Pl S i (c + 1) (upd κ c s) (upd LA c none) (upd WL c []) (upd RL c []) := by
  have hno : ∀ k, k < i → Takes S k → S.I k ≠ s := fun k hk ht e => by
    obtain ⟨j, hj, e2⟩ := h.has k hk ht
    exact hs j hj (e2.trans e)
  have hc : ∀ j, j < c + 1 → j ≠ c → j < c := fun j h1 h2 => by omega
  constructor
  · intro k hk ht
    obtain ⟨j, hj, e⟩ := h.has k hk ht
    exact ⟨j, by omega, by rw [upd_other _ _ (by omega)]; exact e⟩
  · intro j hj e k hk h2
    by_cases e1 : j = c
    · subst e1; rw [upd_same]; exact hno k hk (.inr h2)
    · rw [upd_other _ _ e1] at e ⊢; exact h.la0 j (hc j hj e1) e k hk h2
  · intro j hj k e
    by_cases e1 : j = c
    · subst e1; rw [upd_same] at e; cases e
    · rw [upd_other _ _ e1] at e ⊢; exact h.la1 j (hc j hj e1) k e
  · intro j hj k hk
    by_cases e1 : j = c
    · subst e1; rw [upd_same] at hk; cases hk
    · rw [upd_other _ _ e1] at hk ⊢; exact h.rl j (hc j hj e1) k hk
  · intro j hj k hk h1 h2 h3
    by_cases e1 : j = c
    · subst e1; rw [upd_same] at h2; exact absurd h2 (hno k hk (.inl h1))
    · rw [upd_other _ _ e1] at h2 h3 ⊢; exact h.rl2 j (hc j hj e1) k hk h1 h2 h3
  · intro j hj k hk
    by_cases e1 : j = c
    · subst e1; rw [upd_same] at hk; cases hk
    · rw [upd_other _ _ e1] at hk ⊢; exact h.wl j (hc j hj e1) k hk
  · intro j hj
    by_cases e1 : j = c
    · subst e1; rw [upd_same]; simp
    · rw [upd_other _ _ e1]; exact h.wls j (hc j hj e1)
  · intro j hj k hk h1 h2
    by_cases e1 : j = c
    · subst e1; rw [upd_same] at h2; exact absurd h2 (hno k hk (.inr h1))
    · rw [upd_other _ _ e1] at h2 ⊢; exact h.wl2 j (hc j hj e1) k hk h1 h2
  · intro j hj
    by_cases e1 : j = c
    · subst e1; rw [upd_same, upd_same]; simp
    · rw [upd_other _ _ e1, upd_other _ _ e1]; exact h.len j (hc j hj e1)
/-- A write of item j. -/
theorem Pl.write (h : Pl S i c κ LA WL RL) (hd : ∀ a b, a < b → b < c → κ a ≠ κ b) {j : Nat} (hj : j < c) (hI : κ j = S.I i) (hK : S.K i = 2) : Pl S (i + 1) c κ (upd LA j (some i)) (upd WL j (WL j ++ [i])) (upd RL j []) := by
  have hoth : ∀ a, a < c → a ≠ j → S.I i ≠ κ a := fun a ha hne e => by
    rw [← hI] at e
    rcases Nat.lt_or_gt_of_ne hne with x | x
    · exact hd a j x hj e.symm
    · exact hd j a x ha e
  constructor
  · intro k hk ht
    by_cases e : k = i
    · subst e; exact ⟨j, hj, hI⟩
    · exact h.has k (by omega) ht
  · intro a ha e k hk h2
    by_cases e1 : a = j
    · subst e1; rw [upd_same] at e; cases e
    · rw [upd_other _ _ e1] at e
      by_cases e2 : k = i
      · subst e2; exact hoth a ha e1
      · exact h.la0 a ha e k (by omega) h2
  · intro a ha k e
    by_cases e1 : a = j
    · subst e1; rw [upd_same] at e; injection e with e; subst e
      exact ⟨by omega, hK, hI.symm, fun k' h1 h2 => by omega⟩
    · rw [upd_other _ _ e1] at e
      obtain ⟨p, q, r, t⟩ := h.la1 a ha k e
      refine ⟨by omega, q, r, fun k' h1 h2 h3 => ?_⟩
      by_cases e2 : k' = i
      · subst e2; exact hoth a ha e1
      · exact t k' h1 (by omega) h3
  · intro a ha k hk
    by_cases e1 : a = j
    · subst e1; rw [upd_same] at hk; cases hk
    · rw [upd_other _ _ e1] at hk
      obtain ⟨p, q⟩ := h.rl a ha k hk
      exact ⟨by omega, q⟩
  · intro a ha k hk h1 h2 h3
    have hki : k ≠ i := fun e => by subst e; rw [hK] at h1; cases h1
    by_cases e1 : a = j
    · subst e1
      exact absurd hI.symm (h3 i (by omega) (by omega) hK)
    · rw [upd_other _ _ e1]
      exact h.rl2 a ha k (by omega) h1 h2 (fun k' p q r => h3 k' p (by omega) r)
  · intro a ha k hk
    by_cases e1 : a = j
    · subst e1; rw [upd_same] at hk
      rcases List.mem_append.1 hk with x | x
      · obtain ⟨p, q⟩ := h.wl a ha k x; exact ⟨by omega, q⟩
      · simp at x; subst x; exact ⟨by omega, hK, hI.symm⟩
    · rw [upd_other _ _ e1] at hk
      obtain ⟨p, q⟩ := h.wl a ha k hk; exact ⟨by omega, q⟩
  · intro a ha
    by_cases e1 : a = j
    · subst e1; rw [upd_same, List.pairwise_append]
      exact ⟨h.wls a ha, by simp, fun x hx y hy => by simp at hy; subst hy; exact (h.wl a ha x hx).1⟩
    · rw [upd_other _ _ e1]; exact h.wls a ha
  · intro a ha k hk h1 h2
    by_cases e2 : k = i
    · subst e2
      by_cases e1 : a = j
      · subst e1; rw [upd_same]; exact .inl (by simp)
      · exact absurd h2 (hoth a ha e1)
    · rcases h.wl2 a ha k (by omega) h1 h2 with x | x
      · left
        by_cases e1 : a = j
        · subst e1; rw [upd_same]; exact List.mem_append_left _ x
        · rw [upd_other _ _ e1]; exact x
      · exact .inr (st_two x (by push_cast; omega))
  · intro a ha
    have := h.len a ha
    by_cases e1 : a = j
    · subst e1; rw [upd_same, upd_same]; simp; omega
    · rw [upd_other _ _ e1, upd_other _ _ e1]; omega
/-- A read of item j; the newest writers that had aborted are dropped. -/
theorem Pl.read (h : Pl S i c κ LA WL RL) (hd : ∀ a b, a < b → b < c → κ a ≠ κ b) {j : Nat} (hj : j < c) (hI : κ j = S.I i) (hK : S.K i = 1) {W' D : List Nat} (hW : WL j = W' ++ D) (hD : ∀ k ∈ D, st S k ((i : Int) + 1) = 2) :
    Pl S (i + 1) c κ LA (upd WL j W') (upd RL j (RL j ++ [i])) := by
  have hoth : ∀ a, a < c → a ≠ j → S.I i ≠ κ a := fun a ha hne e => by
    rw [← hI] at e
    rcases Nat.lt_or_gt_of_ne hne with x | x
    · exact hd a j x hj e.symm
    · exact hd j a x ha e
  have hni : ∀ k, S.K k = 2 → k ≠ i := fun k hk e => by subst e; rw [hK] at hk; cases hk
  constructor
  · intro k hk ht
    by_cases e : k = i
    · subst e; exact ⟨j, hj, hI⟩
    · exact h.has k (by omega) ht
  · intro a ha e k hk h2
    have := hni k h2
    exact h.la0 a ha e k (by omega) h2
  · intro a ha k e
    obtain ⟨p, q, r, t⟩ := h.la1 a ha k e
    refine ⟨by omega, q, r, fun k' h1 h2 h3 => ?_⟩
    have := hni k' h3
    exact t k' h1 (by omega) h3
  · intro a ha k hk
    by_cases e1 : a = j
    · subst e1; rw [upd_same] at hk
      rcases List.mem_append.1 hk with x | x
      · obtain ⟨p, q⟩ := h.rl a ha k x; exact ⟨by omega, q⟩
      · simp at x; subst x; exact ⟨by omega, hK, hI.symm⟩
    · rw [upd_other _ _ e1] at hk
      obtain ⟨p, q⟩ := h.rl a ha k hk; exact ⟨by omega, q⟩
  · intro a ha k hk h1 h2 h3
    by_cases e2 : k = i
    · subst e2
      by_cases e1 : a = j
      · subst e1; rw [upd_same]; simp
      · exact absurd h2 (hoth a ha e1)
    · have := h.rl2 a ha k (by omega) h1 h2 (fun k' p q r => h3 k' p (by omega) r)
      by_cases e1 : a = j
      · subst e1; rw [upd_same]; exact List.mem_append_left _ this
      · rw [upd_other _ _ e1]; exact this
  · intro a ha k hk
    by_cases e1 : a = j
    · subst e1; rw [upd_same] at hk
      obtain ⟨p, q⟩ := h.wl a ha k (by rw [hW]; exact List.mem_append_left _ hk); exact ⟨by omega, q⟩
    · rw [upd_other _ _ e1] at hk
      obtain ⟨p, q⟩ := h.wl a ha k hk; exact ⟨by omega, q⟩
  · intro a ha
    have := h.wls a ha
    by_cases e1 : a = j
    · subst e1; rw [upd_same]
      rw [hW, List.pairwise_append] at this
      exact this.1
    · rw [upd_other _ _ e1]; exact this
  · intro a ha k hk h1 h2
    have hne := hni k h1
    rcases h.wl2 a ha k (by omega) h1 h2 with x | x
    · by_cases e1 : a = j
      · subst e1; rw [upd_same]
        rw [hW] at x
        rcases List.mem_append.1 x with y | y
        · exact .inl y
        · exact .inr (st_two (hD k y) (by push_cast; omega))
      · rw [upd_other _ _ e1]; exact .inl x
    · exact .inr (st_two x (by push_cast; omega))
  · intro a ha
    have := h.len a ha
    by_cases e1 : a = j
    · subst e1; rw [upd_same, upd_same]; rw [hW] at this; simp at this ⊢; omega
    · rw [upd_other _ _ e1, upd_other _ _ e1]; omega

/-- The test of strictness looks at the latest write alone. -/
theorem Pl.strict {n : Nat} (h : Pl S i c κ LA WL RL) (hw : Wf S n) (hin : i < n) (hF : FS S i) {j : Nat} (hj : j < c) (hI : κ j = S.I i) : SS S i ↔ ∀ k, LA j = some k → S.X k ≠ S.X i → st S k ((i : Int) + 1) ≠ 0 := by
  constructor
  · intro hs k hk hx
    obtain ⟨a, b, d, _⟩ := h.la1 j hj k hk
    exact hs k a b hx (d.trans hI)
  · intro hk q hq hq2 hqx hqI
    cases hl : LA j with
    | none => exact absurd (hqI.trans hI.symm) (h.la0 j hj hl q hq hq2)
    | some k =>
      obtain ⟨a, b, d, f⟩ := h.la1 j hj k hl
      rcases Nat.lt_trichotomy q k with e | e | e
      · by_cases hx : S.X q = S.X k
        · have := hw.tx q k (by omega) (by omega) hx
          have h2 := hk k hl (by rw [← hx]; exact hqx)
          unfold st at h2 ⊢
          rw [this.1, this.2]; exact h2
        · have := hF k a (.inr b) q e hq2 hx (hqI.trans (hI.symm.trans d.symm))
          exact st_later this (by omega)
      · subst e; exact hk q hl hqx
      · exact absurd (hqI.trans hI.symm) (f q e hq hq2)
/-- The test of rigorousness looks at the reads since the latest write. -/
theorem Pl.rigor {n : Nat} (h : Pl S i c κ LA WL RL) (hw : Wf S n) (hin : i < n) (hF : FR S i) (hSS : SS S i) {j : Nat} (hj : j < c) (hI : κ j = S.I i) : RR S i ↔ ∀ k, k ∈ RL j → S.X k ≠ S.X i → st S k ((i : Int) + 1) ≠ 0 := by
  constructor
  · intro hs k hk hx
    obtain ⟨a, b, d⟩ := h.rl j hj k hk
    exact hs k a b hx (d.trans hI)
  · intro hk q hq hq1 hqx hqI
    by_cases hex : ∀ k', q < k' → k' < i → S.K k' = 2 → S.I k' ≠ κ j
    · exact hk q (h.rl2 j hj q hq hq1 (hqI.trans hI.symm) hex) hqx
    · obtain ⟨k', hk'⟩ := Classical.not_forall.1 hex
      obtain ⟨h1, hk'⟩ := Classical.not_imp.1 hk'
      obtain ⟨h2, hk'⟩ := Classical.not_imp.1 hk'
      obtain ⟨h3, hk'⟩ := Classical.not_imp.1 hk'
      have h4 := Classical.not_not.1 hk'
      by_cases hx : S.X q = S.X k'
      · have := hw.tx q k' (by omega) (by omega) hx
        have h5 := hSS k' h2 h3 (by rw [← hx]; exact hqx) (h4.trans hI)
        unfold st at h5 ⊢
        rw [this.1, this.2]; exact h5
      · have := hF k' h2 h3 q h1 hq1 hx (hqI.trans (hI.symm.trans h4.symm))
        exact st_later this (by omega)
theorem Pl.src0 (h : Pl S i c κ LA WL RL) {j : Nat} (hj : j < c) (hI : κ j = S.I i) (hD : ∀ k ∈ WL j, st S k ((i : Int) + 1) = 2) (k : Nat) : ¬ Src S i k := fun hs => by
  rcases h.wl2 j hj k hs.1 hs.2.1 (hs.2.2.1.trans hI.symm) with x | x
  · exact hs.2.2.2.1 (hD k x)
  · exact hs.2.2.2.1 x
theorem Pl.src1 (h : Pl S i c κ LA WL RL) {j : Nat} (hj : j < c) (hI : κ j = S.I i) {L0 D : List Nat} {k : Nat} (hW : WL j = (L0 ++ [k]) ++ D) (hD : ∀ q ∈ D, st S q ((i : Int) + 1) = 2) (hk : st S k ((i : Int) + 1) ≠ 2) : Src S i k := by
  have hm : k ∈ WL j := by rw [hW]; simp
  obtain ⟨a, b, d⟩ := h.wl j hj k hm
  refine ⟨a, b, d.trans hI, hk, fun q h1 h2 h3 h4 => ?_⟩
  rcases h.wl2 j hj q h2 h3 (h4.trans hI.symm) with x | x
  · have hs := h.wls j hj
    rw [hW] at x hs
    rcases List.mem_append.1 x with y | y
    · rw [List.pairwise_append] at hs
      have h5 := hs.1
      rw [List.pairwise_append] at h5
      rcases List.mem_append.1 y with z | z
      · have := h5.2.2 q z k (by simp); omega
      · simp at z; omega
    · exact hD q y
  · exact x
end
end Go.Proofs.Qxb6000570a
