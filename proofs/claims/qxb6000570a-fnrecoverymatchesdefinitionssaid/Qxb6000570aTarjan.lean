/-
  The plain law behind the components: Tarjan's algorithm with a stack of its own, step by step. No Go in sight.
-/
import Derived.KernelRfl
namespace Go.Proofs.Qxb6000570a
set_option linter.unusedVariables false
set_option linter.unusedSimpArgs false

/-! ### Reachability -/
def RN (E : Nat → Nat → Prop) : Nat → Nat → Nat → Prop
  | 0, u, v => u = v
  | k + 1, u, v => ∃ x, E u x ∧ RN E k x v
def Reach (E : Nat → Nat → Prop) (u v : Nat) : Prop := ∃ k, RN E k u v
theorem Reach.refl (E : Nat → Nat → Prop) (u : Nat) : Reach E u u := ⟨0, rfl⟩
theorem Reach.head {E : Nat → Nat → Prop} {u x v : Nat} (h : E u x) (r : Reach E x v) : Reach E u v := by
  obtain ⟨k, hk⟩ := r
  exact ⟨k + 1, x, h, hk⟩
theorem Reach.edge {E : Nat → Nat → Prop} {u v : Nat} (h : E u v) : Reach E u v := Reach.head h (Reach.refl E v)
theorem RN.trans {E : Nat → Nat → Prop} {v z : Nat} (r : Reach E v z) : ∀ (k u : Nat), RN E k u v → Reach E u z
  | 0, u, h => by rw [show u = v from h]; exact r
  | k + 1, u, ⟨x, he, hx⟩ => Reach.head he (RN.trans r k x hx)
theorem Reach.trans {E : Nat → Nat → Prop} {u v z : Nat} (h : Reach E u v) (r : Reach E v z) : Reach E u z := by
  obtain ⟨k, hk⟩ := h
  exact RN.trans r k u hk
/-- A set that no edge leaves holds all that is reached from it. -/
theorem RN.closed {E : Nat → Nat → Prop} {S : Nat → Prop} (hS : ∀ u v, S u → E u v → S v) : ∀ (k u v : Nat), S u → RN E k u v → S v
  | 0, u, v, hu, h => by rw [← show u = v from h]; exact hu
  | k + 1, u, v, hu, ⟨x, he, hx⟩ => RN.closed hS k x v (hS u x hu he) hx
theorem Reach.closed {E : Nat → Nat → Prop} {S : Nat → Prop} (hS : ∀ u v, S u → E u v → S v) {u v : Nat} (hu : S u) (h : Reach E u v) : S v := by
  obtain ⟨k, hk⟩ := h
  exact RN.closed hS k u v hu hk

/-! ### Sums over 0 .. n-1 -/
def sumTo (f : Nat → Nat) : Nat → Nat
  | 0 => 0
  | n + 1 => sumTo f n + f n
theorem sumTo_congr {f g : Nat → Nat} : ∀ n, (∀ i, i < n → f i = g i) → sumTo f n = sumTo g n
  | 0, _ => rfl
  | n + 1, h => by rw [sumTo, sumTo, sumTo_congr n fun i hi => h i (by omega), h n (by omega)]
theorem sumTo_dec {f g : Nat → Nat} {t : Nat} (ho : ∀ i, i ≠ t → g i = f i) (ht : g t + 1 = f t) : ∀ n, t < n → sumTo g n + 1 = sumTo f n
  | 0, h => by omega
  | n + 1, h => by
    rw [sumTo, sumTo]
    by_cases e : t = n
    · subst e
      rw [sumTo_congr t fun i hi => ho i (by omega)]
      omega
    · rw [ho n (by omega), ← sumTo_dec ho ht n (by omega)]
      omega

/-! ### The state -/
structure St where
  idx : Nat → Nat
  low : Nat → Nat
  comp : Nat → Int
  nxt : Nat → Nat
  path : List Nat
  stack : List Nat
  vis : Nat
  cmp : Nat

def upd {α : Type} (f : Nat → α) (i : Nat) (v : α) : Nat → α := fun j => if j = i then v else f j
theorem upd_same {α : Type} (f : Nat → α) (i : Nat) (v : α) : upd f i v i = v := by simp [upd]
theorem upd_other {α : Type} (f : Nat → α) {i j : Nat} (v : α) (h : j ≠ i) : upd f i v j = f j := by simp [upd, h]

def Edge (adj : Nat → List Nat) (u v : Nat) : Prop := v ∈ adj u

/-- Of the path's nodes, p is the last that was found no later than v. -/
def Owner (s : St) (p v : Nat) : Prop := s.idx p ≤ s.idx v ∧ ∀ p', p' ∈ s.path → s.idx p' ≤ s.idx v → s.idx p' ≤ s.idx p

structure Inv (n : Nat) (adj : Nat → List Nat) (s : St) : Prop where
  stk : ∀ v, v ∈ s.stack ↔ v < n ∧ 0 < s.idx v ∧ s.comp v < 0
  neg : ∀ v, v < n → s.comp v < 0 → s.comp v = -1
  pos : ∀ v, v < n → 0 ≤ s.comp v → s.comp v < s.cmp ∧ 0 < s.idx v
  idxle : ∀ v, v < n → s.idx v ≤ s.vis
  srt : s.stack.Pairwise fun a b => s.idx b < s.idx a
  prt : s.path.Pairwise fun a b => s.idx b < s.idx a
  pst : ∀ p, p ∈ s.path → p ∈ s.stack
  nle : ∀ v, v < n → s.nxt v ≤ (adj v).length
  fresh : ∀ v, v < n → s.idx v = 0 → s.nxt v = 0
  proc : ∀ v i x, v < n → i < s.nxt v → (adj v)[i]? = some x → 0 < s.idx x
  black : ∀ v, v < n → 0 < s.idx v → v ∉ s.path → s.nxt v = (adj v).length
  done : ∀ u v, u < n → 0 ≤ s.comp u → Edge adj u v → 0 ≤ s.comp v ∧ s.comp v ≤ s.comp u
  reach : ∀ p v, p ∈ s.path → v ∈ s.stack → s.idx p ≤ s.idx v → Reach (Edge adj) p v
  back : ∀ v, v ∈ s.stack → ∃ p, p ∈ s.path ∧ s.idx p ≤ s.idx v ∧ Reach (Edge adj) v p
  lowle : ∀ p, p ∈ s.path → s.low p ≤ s.idx p
  lup : ∀ p, p ∈ s.path → ∃ x, x ∈ s.stack ∧ s.idx x = s.low p ∧ Reach (Edge adj) p x
  llow : ∀ p v i x, p ∈ s.path → v ∈ s.stack → Owner s p v → i < s.nxt v → (adj v)[i]? = some x → x ∈ s.stack → s.low p ≤ s.idx x
  same : ∀ u v, u < n → v < n → 0 ≤ s.comp u → 0 ≤ s.comp v → (s.comp u = s.comp v ↔ Reach (Edge adj) u v ∧ Reach (Edge adj) v u)
  all : ∀ c, c < s.cmp → ∃ v, v < n ∧ s.comp v = c
  cnt : s.cmp + s.stack.length ≤ s.vis
  vn : s.vis + sumTo (fun u => if s.idx u = 0 then 1 else 0) n = n

def Good (n : Nat) (adj : Nat → List Nat) : Prop := ∀ u v, u < n → v ∈ adj u → v < n

theorem mem_get {l : List Nat} {v : Nat} (h : v ∈ l) : ∃ i, i < l.length ∧ l[i]? = some v := by
  obtain ⟨i, hi, e⟩ := List.mem_iff_getElem.1 h
  exact ⟨i, hi, by rw [List.getElem?_eq_getElem hi, e]⟩
theorem get_mem {l : List Nat} {v i : Nat} (h : l[i]? = some v) : v ∈ l := by
  obtain ⟨hi, e⟩ := List.getElem?_eq_some_iff.1 h
  exact e ▸ List.getElem_mem hi

/-- Stack nodes of one number are one. -/
theorem Inv.inj {n : Nat} {adj : Nat → List Nat} {s : St} (h : Inv n adj s) {a b : Nat} (ha : a ∈ s.stack) (hb : b ∈ s.stack) (e : s.idx a = s.idx b) : a = b := by
  have key : ∀ l : List Nat, l.Pairwise (fun a b => s.idx b < s.idx a) → a ∈ l → b ∈ l → a = b := by
    intro l
    induction l with
    | nil => intro _ h; cases h
    | cons x r ih =>
      intro hp h1 h2
      rw [List.pairwise_cons] at hp
      rcases List.mem_cons.1 h1 with rfl | h1'
      · rcases List.mem_cons.1 h2 with rfl | h2'
        · rfl
        · have := hp.1 b h2'; omega
      · rcases List.mem_cons.1 h2 with rfl | h2'
        · have := hp.1 a h1'; omega
        · exact ih hp.2 h1' h2'
  exact key _ h.srt ha hb

theorem falling_len {f : Nat → Nat} : ∀ (l : List Nat) (M : Nat), l.Pairwise (fun a b => f b < f a) → (∀ x, x ∈ l → 0 < f x ∧ f x ≤ M) → l.length ≤ M
  | [], M, _, _ => Nat.zero_le _
  | a :: r, M, hp, hb => by
    rw [List.pairwise_cons] at hp
    have h1 := hb a (by simp)
    have := falling_len r (M - 1) hp.2 fun x hx => by
      have h2 := hp.1 x hx
      have h3 := hb x (by simp [hx])
      omega
    simp
    omega

/-- The start. -/
theorem inv_start (n : Nat) (adj : Nat → List Nat) : Inv n adj ⟨fun _ => 0, fun _ => 0, fun _ => -1, fun _ => 0, [], [], 0, 0⟩ where
  stk := fun v => by simp
  neg := fun v _ _ => rfl
  pos := fun v _ h => by simp at h
  idxle := fun v _ => Nat.le_refl _
  srt := List.Pairwise.nil
  prt := List.Pairwise.nil
  pst := fun p h => by cases h
  nle := fun v _ => Nat.zero_le _
  fresh := fun v _ _ => rfl
  proc := fun v i x _ h => by simp at h
  black := fun v _ h => by simp at h
  done := fun u v _ h => by simp at h
  reach := fun p v h => by cases h
  back := fun v h => by cases h
  lowle := fun p h => by cases h
  lup := fun p h => by cases h
  llow := fun p v i x h => by cases h
  same := fun u v _ _ h => by simp at h
  all := fun c h => by simp at h
  cnt := Nat.le_refl _
  vn := by
    have : ∀ m, sumTo (fun u => if (fun _ => 0 : Nat → Nat) u = 0 then 1 else 0) m = m := by
      intro m
      induction m with
      | zero => rfl
      | succ m ih => rw [sumTo, ih]; rfl
    show 0 + _ = n
    rw [Nat.zero_add]
    exact this n


section
variable {n : Nat} {adj : Nat → List Nat} {s : St}

/-- The path's top has the greatest number of the path. -/
theorem Inv.top (h : Inv n adj s) {t : Nat} {ps : List Nat} (hp : s.path = t :: ps) {p : Nat} (hm : p ∈ s.path) : s.idx p ≤ s.idx t := by
  have := h.prt
  rw [hp] at hm this
  rw [List.pairwise_cons] at this
  rcases List.mem_cons.1 hm with rfl | h'
  · exact Nat.le_refl _
  · exact Nat.le_of_lt (this.1 p h')
theorem Inv.topStack (h : Inv n adj s) {t : Nat} {ps : List Nat} (hp : s.path = t :: ps) : t ∈ s.stack := h.pst t (by rw [hp]; simp)
theorem Inv.stackEmpty (h : Inv n adj s) (hp : s.path = []) : s.stack = [] := by
  cases hs : s.stack with
  | nil => rfl
  | cons a r =>
    obtain ⟨p, hp', _⟩ := h.back a (by rw [hs]; simp)
    rw [hp] at hp'; cases hp'
theorem Inv.visited (h : Inv n adj s) {v : Nat} (hv : v ∈ s.stack) : v < n ∧ 0 < s.idx v ∧ s.comp v < 0 := (h.stk v).1 hv

/-- A new node v, found along an edge of the top t, whose counter goes on. -/
def stA (s : St) (t v : Nat) : St := { s with idx := upd s.idx v (s.vis + 1), low := upd s.low v (s.vis + 1), nxt := upd s.nxt t (s.nxt t + 1), path := v :: s.path, stack := v :: s.stack, vis := s.vis + 1 }

theorem inv_A (h : Inv n adj s) (hg : Good n adj) {t v : Nat} {ps : List Nat} (hp : s.path = t :: ps) (he : (adj t)[s.nxt t]? = some v) (hz : s.idx v = 0) : Inv n adj (stA s t v) := by
  have htS := h.topStack hp
  obtain ⟨htn, hti, htc⟩ := h.visited htS
  have hev : Edge adj t v := get_mem he
  have hvn : v < n := hg t v htn hev
  have htv : t ≠ v := fun e => by rw [e] at hti; omega
  have hold : ∀ x, x ∈ s.stack → x ≠ v := fun x hx e => by
    have := (h.visited hx).2.1
    rw [e] at this; omega
  have hvc : s.comp v < 0 := by
    by_cases hc : s.comp v < 0
    · exact hc
    · have := (h.pos v hvn (by omega)).2; omega
  have ei : ∀ x, x ∈ s.stack → (stA s t v).idx x = s.idx x := fun x hx => upd_other _ _ (hold x hx)
  have ev : (stA s t v).idx v = s.vis + 1 := upd_same _ _ _
  have hle : ∀ x, x ∈ s.stack → s.idx x ≤ s.vis := fun x hx => h.idxle x (h.visited hx).1
  have hdeg : s.nxt t < (adj t).length := (List.getElem?_eq_some_iff.1 he).1
  have hpath : ∀ p, p ∈ (stA s t v).path → p = v ∨ p ∈ s.path := fun p hm => List.mem_cons.1 hm
  have hstk : ∀ p, p ∈ (stA s t v).stack → p = v ∨ p ∈ s.stack := fun p hm => List.mem_cons.1 hm
  have hvis : ∀ x, 0 < s.idx x → (stA s t v).idx x = s.idx x := fun x hx => upd_other _ _ (fun e => by rw [e] at hx; omega)
  refine ⟨?_, h.neg, ?_, ?_, ?_, ?_, ?_, ?_, ?_, ?_, ?_, ?_, ?_, ?_, ?_, ?_, ?_, h.same, h.all, ?_, ?_⟩
  · intro x
    by_cases e : x = v
    · subst e
      constructor
      · intro _; exact ⟨hvn, by rw [ev]; omega, hvc⟩
      · intro _; exact List.mem_cons_self
    · constructor
      · intro hx
        rcases hstk x hx with rfl | hx'
        · exact absurd rfl e
        · obtain ⟨a, b, c⟩ := h.visited hx'
          exact ⟨a, by rw [ei x hx']; exact b, c⟩
      · rintro ⟨a, b, c⟩
        have : (stA s t v).idx x = s.idx x := upd_other _ _ e
        rw [this] at b
        exact List.mem_cons_of_mem _ ((h.stk x).2 ⟨a, b, c⟩)
  · intro x hx hc
    obtain ⟨a, b⟩ := h.pos x hx hc
    exact ⟨a, by rw [hvis x b]; exact b⟩
  · intro x hx
    by_cases e : x = v
    · rw [e, ev]; exact Nat.le_refl _
    · have : (stA s t v).idx x = s.idx x := upd_other _ _ e
      rw [this]
      exact Nat.le_succ_of_le (h.idxle x hx)
  · refine List.pairwise_cons.2 ⟨fun x hx => ?_, ?_⟩
    · rw [ev, ei x hx]; have := hle x hx; omega
    · refine h.srt.imp_of_mem ?_
      intro a b ha hb hab
      rw [ei a ha, ei b hb]; exact hab
  · refine List.pairwise_cons.2 ⟨fun x hx => ?_, ?_⟩
    · rw [ev, ei x (h.pst x hx)]; have := hle x (h.pst x hx); omega
    · refine h.prt.imp_of_mem ?_
      intro a b ha hb hab
      rw [ei a (h.pst a ha), ei b (h.pst b hb)]; exact hab
  · intro p hm
    rcases hpath p hm with rfl | hm'
    · exact List.mem_cons_self
    · exact List.mem_cons_of_mem _ (h.pst p hm')
  · intro x hx
    by_cases e : x = t
    · subst e; show upd s.nxt x _ x ≤ _; rw [upd_same]; omega
    · show upd s.nxt t _ x ≤ _; rw [upd_other _ _ e]; exact h.nle x hx
  · intro x hx hi
    by_cases e : x = v
    · rw [e, ev] at hi; omega
    · have e1 : (stA s t v).idx x = s.idx x := upd_other _ _ e
      rw [e1] at hi
      have e2 : x ≠ t := fun e' => by rw [e'] at hi; omega
      show upd s.nxt t _ x = 0
      rw [upd_other _ _ e2]; exact h.fresh x hx hi
  · intro x i y hx hi hy
    by_cases e : y = v
    · rw [e, ev]; omega
    · have e1 : (stA s t v).idx y = s.idx y := upd_other _ _ e
      rw [e1]
      by_cases e2 : x = t
      · subst e2
        have hi' : i < s.nxt x + 1 := by simpa [stA, upd_same] using hi
        by_cases e3 : i = s.nxt x
        · rw [e3, he] at hy; cases hy; exact absurd rfl e
        · exact h.proc x i y hx (by omega) hy
      · have hi' : i < s.nxt x := by simpa [stA, upd_other _ _ e2] using hi
        exact h.proc x i y hx hi' hy
  · intro x hx hi hnp
    have hnp' : x ≠ v ∧ x ∉ s.path := ⟨fun e => hnp (by rw [e]; exact List.mem_cons_self), fun hm => hnp (List.mem_cons_of_mem _ hm)⟩
    have e1 : (stA s t v).idx x = s.idx x := upd_other _ _ hnp'.1
    rw [e1] at hi
    have e2 : x ≠ t := fun e' => hnp'.2 (by rw [e', hp]; simp)
    show upd s.nxt t _ x = _
    rw [upd_other _ _ e2]; exact h.black x hx hi hnp'.2
  · exact h.done
  · intro p x hpm hxm hle'
    rcases hstk x hxm with rfl | hx'
    · rcases hpath p hpm with rfl | hp'
      · exact Reach.refl _ _
      · exact (h.reach p t hp' htS (h.top hp hp')).trans (Reach.edge hev)
    · rcases hpath p hpm with rfl | hp'
      · rw [ev, ei x hx'] at hle'; have := hle x hx'; omega
      · rw [ei x hx', ei p (h.pst p hp')] at hle'
        exact h.reach p x hp' hx' hle'
  · intro x hxm
    rcases hstk x hxm with rfl | hx'
    · exact ⟨x, List.mem_cons_self, Nat.le_refl _, Reach.refl _ _⟩
    · obtain ⟨p, a, b, c⟩ := h.back x hx'
      exact ⟨p, List.mem_cons_of_mem _ a, by rw [ei p (h.pst p a), ei x hx']; exact b, c⟩
  · intro p hpm
    rcases hpath p hpm with rfl | hp'
    · show upd s.low p _ p ≤ _; rw [upd_same, ev]; exact Nat.le_refl _
    · show upd s.low v _ p ≤ _; rw [upd_other _ _ (hold p (h.pst p hp')), ei p (h.pst p hp')]; exact h.lowle p hp'
  · intro p hpm
    rcases hpath p hpm with rfl | hp'
    · exact ⟨p, List.mem_cons_self, by show _ = upd s.low p _ p; rw [upd_same, ev], Reach.refl _ _⟩
    · obtain ⟨x, a, b, c⟩ := h.lup p hp'
      exact ⟨x, List.mem_cons_of_mem _ a, by show _ = upd s.low v _ p; rw [upd_other _ _ (hold p (h.pst p hp')), ei x a]; exact b, c⟩
  · intro p x i y hpm hxm hown hi hy hym
    obtain ⟨ho1, ho2⟩ := hown
    rcases hstk x hxm with rfl | hx'
    · -- x is the new node: nothing of it has been followed
      have e2 : x ≠ t := fun e => htv e.symm
      have : (stA s t x).nxt x = s.nxt x := upd_other _ _ e2
      rw [this, h.fresh x hvn hz] at hi; omega
    · rcases hpath p hpm with rfl | hp'
      · rw [ev, ei x hx'] at ho1; have := hle x hx'; omega
      · have lp : (stA s t v).low p = s.low p := upd_other _ _ (hold p (h.pst p hp'))
        rw [lp]
        rw [ei p (h.pst p hp'), ei x hx'] at ho1
        rcases hstk y hym with rfl | hy'
        · rw [ev]
          have := h.lowle p hp'
          have := hle p (h.pst p hp')
          omega
        · rw [ei y hy']
          have hown' : Owner s p x := ⟨ho1, fun p' hp'' hle' => by
            have := ho2 p' (List.mem_cons_of_mem _ hp'') (by rw [ei p' (h.pst p' hp''), ei x hx']; exact hle')
            rwa [ei p' (h.pst p' hp''), ei p (h.pst p hp')] at this⟩
          by_cases e2 : x = t
          · subst e2
            have hi' : i < s.nxt x + 1 := by simpa [stA, upd_same] using hi
            by_cases e3 : i = s.nxt x
            · rw [e3, he] at hy; cases hy; exact absurd rfl (hold _ hy')
            · exact h.llow p x i y hp' hx' hown' (by omega) hy hy'
          · have hi' : i < s.nxt x := by simpa [stA, upd_other _ _ e2] using hi
            exact h.llow p x i y hp' hx' hown' hi' hy hy'
  · have := h.cnt
    show s.cmp + (v :: s.stack).length ≤ s.vis + 1
    simp; omega
  · have := h.vn
    have hd := sumTo_dec (f := fun u => if s.idx u = 0 then 1 else 0) (g := fun u => if (stA s t v).idx u = 0 then 1 else 0) (t := v)
      (fun i hi => by simp only [stA, upd_other _ _ hi]) (by simp only [ev, hz]; simp) n hvn
    show s.vis + 1 + _ = n
    omega

/-- A new root. -/
def stR (s : St) (v : Nat) : St := { s with idx := upd s.idx v (s.vis + 1), low := upd s.low v (s.vis + 1), path := v :: s.path, stack := v :: s.stack, vis := s.vis + 1 }

theorem inv_R (h : Inv n adj s) {v : Nat} (hp : s.path = []) (hvn : v < n) (hz : s.idx v = 0) : Inv n adj (stR s v) := by
  have hs := h.stackEmpty hp
  have hvc : s.comp v < 0 := by
    by_cases hc : s.comp v < 0
    · exact hc
    · have := (h.pos v hvn (by omega)).2; omega
  have ev : (stR s v).idx v = s.vis + 1 := upd_same _ _ _
  have hpath : ∀ p, p ∈ (stR s v).path → p = v := fun p hm => by
    rcases List.mem_cons.1 hm with e | hm'
    · exact e
    · rw [hp] at hm'; cases hm'
  have hstk : ∀ p, p ∈ (stR s v).stack → p = v := fun p hm => by
    rcases List.mem_cons.1 hm with e | hm'
    · exact e
    · rw [hs] at hm'; cases hm'
  have hvis : ∀ x, 0 < s.idx x → (stR s v).idx x = s.idx x := fun x hx => upd_other _ _ (fun e => by rw [e] at hx; omega)
  refine ⟨?_, h.neg, ?_, ?_, ?_, ?_, ?_, h.nle, ?_, ?_, ?_, h.done, ?_, ?_, ?_, ?_, ?_, h.same, h.all, ?_, ?_⟩
  · intro x
    by_cases e : x = v
    · subst e
      exact ⟨fun _ => ⟨hvn, by rw [ev]; omega, hvc⟩, fun _ => List.mem_cons_self⟩
    · constructor
      · intro hx; exact absurd (hstk x hx) e
      · rintro ⟨a, b, c⟩
        have : (stR s v).idx x = s.idx x := upd_other _ _ e
        rw [this] at b
        exact List.mem_cons_of_mem _ ((h.stk x).2 ⟨a, b, c⟩)
  · intro x hx hc
    obtain ⟨a, b⟩ := h.pos x hx hc
    exact ⟨a, by rw [hvis x b]; exact b⟩
  · intro x hx
    by_cases e : x = v
    · rw [e, ev]; exact Nat.le_refl _
    · have : (stR s v).idx x = s.idx x := upd_other _ _ e
      rw [this]
      exact Nat.le_succ_of_le (h.idxle x hx)
  · show (v :: s.stack).Pairwise _; rw [hs]; exact List.pairwise_singleton _ _
  · show (v :: s.path).Pairwise _; rw [hp]; exact List.pairwise_singleton _ _
  · intro p hm; rw [hpath p hm]; exact List.mem_cons_self
  · intro x hx hi
    by_cases e : x = v
    · rw [e, ev] at hi; omega
    · have e1 : (stR s v).idx x = s.idx x := upd_other _ _ e
      rw [e1] at hi
      exact h.fresh x hx hi
  · intro x i y hx hi hy
    have := h.proc x i y hx hi hy
    rw [hvis y this]; exact this
  · intro x hx hi hnp
    have hnp' : x ≠ v := fun e => hnp (by rw [e]; exact List.mem_cons_self)
    have e1 : (stR s v).idx x = s.idx x := upd_other _ _ hnp'
    rw [e1] at hi
    exact h.black x hx hi (by rw [hp]; simp)
  · intro p x hpm hxm _
    rw [hpath p hpm, hstk x hxm]; exact Reach.refl _ _
  · intro x hxm
    rw [hstk x hxm]
    exact ⟨v, List.mem_cons_self, Nat.le_refl _, Reach.refl _ _⟩
  · intro p hpm
    rw [hpath p hpm, ev]; show upd s.low v _ v ≤ _; rw [upd_same]; exact Nat.le_refl _
  · intro p hpm
    rw [hpath p hpm]
    exact ⟨v, List.mem_cons_self, by rw [ev]; show _ = upd s.low v _ v; rw [upd_same], Reach.refl _ _⟩
  · intro p x i y hpm hxm _ hi _ _
    rw [hstk x hxm] at hi
    have : (stR s v).nxt v = s.nxt v := rfl
    rw [this, h.fresh v hvn hz] at hi; omega
  · have := h.cnt
    show s.cmp + (v :: s.stack).length ≤ s.vis + 1
    simp; omega
  · have := h.vn
    have hd := sumTo_dec (f := fun u => if s.idx u = 0 then 1 else 0) (g := fun u => if (stR s v).idx u = 0 then 1 else 0) (t := v)
      (fun i hi => by simp only [stR, upd_other _ _ hi]) (by simp only [ev, hz]; simp) n hvn
    show s.vis + 1 + _ = n
    omega

/-- An edge of the top to a node that has been found: on the stack (its number lowers low), or done. -/
def stB (s : St) (t : Nat) (l : Nat) : St := { s with low := upd s.low t l, nxt := upd s.nxt t (s.nxt t + 1) }

theorem inv_B (h : Inv n adj s) {t v l : Nat} {ps : List Nat} (hp : s.path = t :: ps) (he : (adj t)[s.nxt t]? = some v) (hz : 0 < s.idx v)
    (hl1 : l ≤ s.low t) (hl2 : l = s.low t ∨ (v ∈ s.stack ∧ l = s.idx v)) (hl3 : v ∈ s.stack → l ≤ s.idx v) : Inv n adj (stB s t l) := by
  have htS := h.topStack hp
  have htP : t ∈ s.path := by rw [hp]; simp
  obtain ⟨htn, hti, htc⟩ := h.visited htS
  have hev : Edge adj t v := get_mem he
  have hdeg : s.nxt t < (adj t).length := (List.getElem?_eq_some_iff.1 he).1
  refine ⟨h.stk, h.neg, h.pos, h.idxle, h.srt, h.prt, h.pst, ?_, ?_, ?_, ?_, h.done, h.reach, h.back, ?_, ?_, ?_, h.same, h.all, h.cnt, h.vn⟩
  · intro x hx
    show upd s.nxt t _ x ≤ _
    by_cases e : x = t
    · subst e; rw [upd_same]; omega
    · rw [upd_other _ _ e]; exact h.nle x hx
  · intro x hx hi
    show upd s.nxt t _ x = 0
    have hi' : s.idx x = 0 := hi
    rw [upd_other _ _ (fun e => by rw [e] at hi'; omega)]
    exact h.fresh x hx hi
  · intro x i y hx hi hy
    show 0 < s.idx y
    by_cases e2 : x = t
    · subst e2
      have hi' : i < s.nxt x + 1 := by simpa [stB, upd_same] using hi
      by_cases e3 : i = s.nxt x
      · rw [e3, he] at hy; cases hy; exact hz
      · exact h.proc x i y hx (by omega) hy
    · have hi' : i < s.nxt x := by simpa [stB, upd_other _ _ e2] using hi
      exact h.proc x i y hx hi' hy
  · intro x hx hi hnp
    show upd s.nxt t _ x = _
    rw [upd_other _ _ (fun e => hnp (by rw [e]; exact htP))]
    exact h.black x hx hi hnp
  · intro p hpm
    show upd s.low t l p ≤ s.idx p
    by_cases e : p = t
    · subst e; rw [upd_same]; exact Nat.le_trans hl1 (h.lowle p hpm)
    · rw [upd_other _ _ e]; exact h.lowle p hpm
  · intro p hpm
    show ∃ x, x ∈ s.stack ∧ s.idx x = upd s.low t l p ∧ _
    by_cases e : p = t
    · subst e
      rw [upd_same]
      rcases hl2 with e1 | ⟨e1, e2⟩
      · rw [e1]; exact h.lup p hpm
      · exact ⟨v, e1, e2.symm, Reach.edge hev⟩
    · rw [upd_other _ _ e]; exact h.lup p hpm
  · intro p x i y hpm hxm hown hi hy hym
    show upd s.low t l p ≤ s.idx y
    have hown' : Owner s p x := hown
    by_cases e2 : x = t
    · subst e2
      have hpx : p = x := by
        refine h.inj (h.pst p hpm) htS ?_
        have a := hown'.1
        have b := hown'.2 x htP (Nat.le_refl _)
        omega
      subst hpx
      rw [upd_same]
      have hi' : i < s.nxt p + 1 := by simpa [stB, upd_same] using hi
      by_cases e3 : i = s.nxt p
      · rw [e3, he] at hy; cases hy; exact hl3 hym
      · exact Nat.le_trans hl1 (h.llow p p i y hpm hxm hown' (by omega) hy hym)
    · have hi' : i < s.nxt x := by simpa [stB, upd_other _ _ e2] using hi
      have := h.llow p x i y hpm hxm hown' hi' hy hym
      by_cases e : p = t
      · subst e; rw [upd_same]; exact Nat.le_trans hl1 this
      · rw [upd_other _ _ e]; exact this

/-- The top is finished and hangs on an elder node: it leaves the path; its parent q takes over its low. -/
def stD (s : St) (ps : List Nat) (q l : Nat) : St := { s with low := upd s.low q l, path := ps }

theorem inv_D (h : Inv n adj s) {t q : Nat} {ps : List Nat} (hp : s.path = t :: q :: ps) (hn : s.nxt t = (adj t).length) (hl : s.low t ≠ s.idx t) : Inv n adj (stD s (q :: ps) q (min (s.low q) (s.low t))) := by
  have htS := h.topStack hp
  have htP : t ∈ s.path := by rw [hp]; simp
  have hqP : q ∈ s.path := by rw [hp]; simp
  have hqS := h.pst q hqP
  have hlt : s.low t < s.idx t := by have := h.lowle t htP; omega
  have hsub : ∀ p, p ∈ q :: ps → p ∈ s.path := fun p hm => by rw [hp]; exact List.mem_cons_of_mem _ hm
  have hprt := h.prt
  rw [hp, List.pairwise_cons] at hprt
  have hlt' : ∀ p, p ∈ q :: ps → s.idx p < s.idx t := hprt.1
  have hqtop : ∀ p, p ∈ q :: ps → s.idx p ≤ s.idx q := fun p hm => by
    have := hprt.2
    rw [List.pairwise_cons] at this
    rcases List.mem_cons.1 hm with rfl | hm'
    · exact Nat.le_refl _
    · exact Nat.le_of_lt (this.1 p hm')
  have hin : ∀ p, p ∈ s.path → p ≠ t → p ∈ q :: ps := fun p hm e => by
    rw [hp] at hm
    rcases List.mem_cons.1 hm with e' | hm'
    · exact absurd e' e
    · exact hm'
  obtain ⟨x0, hx0, hx0i, hx0r⟩ := h.lup t htP
  obtain ⟨p0, hp0, hp0i, hp0r⟩ := h.back x0 hx0
  have hp0t : p0 ≠ t := fun e => by rw [e] at hp0i; omega
  refine ⟨h.stk, h.neg, h.pos, h.idxle, h.srt, hprt.2, fun p hm => h.pst p (hsub p hm), h.nle, h.fresh, h.proc, ?_, h.done, fun p v hm => h.reach p v (hsub p hm), ?_, ?_, ?_, ?_, h.same, h.all, h.cnt, h.vn⟩
  · intro x hx hi hnp
    by_cases e : x = t
    · rw [e]; exact hn
    · exact h.black x hx hi fun hm => hnp (hin x hm e)
  · intro x hxm
    obtain ⟨p, a, b, c⟩ := h.back x hxm
    by_cases e : p = t
    · rw [e] at b c
      exact ⟨p0, hin p0 hp0 hp0t, by show s.idx p0 ≤ s.idx x; omega, c.trans (hx0r.trans hp0r)⟩
    · exact ⟨p, hin p a e, b, c⟩
  · intro p hpm
    show upd s.low q _ p ≤ s.idx p
    by_cases e : p = q
    · subst e; rw [upd_same]; exact Nat.le_trans (Nat.min_le_left _ _) (h.lowle p hqP)
    · rw [upd_other _ _ e]; exact h.lowle p (hsub p hpm)
  · intro p hpm
    show ∃ x, x ∈ s.stack ∧ s.idx x = upd s.low q _ p ∧ _
    by_cases e : p = q
    · subst e
      rw [upd_same]
      by_cases hm : s.low p ≤ s.low t
      · rw [Nat.min_eq_left hm]; exact h.lup p hqP
      · rw [Nat.min_eq_right (by omega)]
        exact ⟨x0, hx0, hx0i, (h.reach p t hqP htS (Nat.le_of_lt (hlt' p hpm))).trans hx0r⟩
    · rw [upd_other _ _ e]; exact h.lup p (hsub p hpm)
  · intro p x i y hpm hxm hown hi hy hym
    obtain ⟨ho1, ho2⟩ := hown
    have ho1' : s.idx p ≤ s.idx x := ho1
    have ho2' : ∀ p', p' ∈ q :: ps → s.idx p' ≤ s.idx x → s.idx p' ≤ s.idx p := ho2
    show upd s.low q _ p ≤ s.idx y
    by_cases hx : s.idx t ≤ s.idx x
    · -- x belonged to t
      have hpq : p = q := by
        refine h.inj (h.pst p (hsub p hpm)) hqS ?_
        have a := ho2' q (by simp) (by have := hlt' q (by simp); omega)
        have b := hqtop p hpm
        omega
      subst hpq
      rw [upd_same]
      have hown' : Owner s t x := ⟨hx, fun p' hp' _ => h.top hp hp'⟩
      exact Nat.le_trans (Nat.min_le_right _ _) (h.llow t x i y htP hxm hown' hi hy hym)
    · have hown' : Owner s p x := ⟨ho1', fun p' hp' hle => by
        by_cases e : p' = t
        · rw [e] at hle; omega
        · exact ho2' p' (hin p' hp' e) hle⟩
      have := h.llow p x i y (hsub p hpm) hxm hown' hi hy hym
      by_cases e : p = q
      · subst e; rw [upd_same]; exact Nat.le_trans (Nat.min_le_left _ _) this
      · rw [upd_other _ _ e]; exact this

/-- Where the top hangs on an elder node it is not alone on the path. -/
theorem Inv.notAlone (h : Inv n adj s) {t : Nat} (hp : s.path = [t]) : s.low t = s.idx t := by
  have htP : t ∈ s.path := by rw [hp]; simp
  obtain ⟨x0, hx0, hx0i, hx0r⟩ := h.lup t htP
  obtain ⟨p0, hp0, hp0i, hp0r⟩ := h.back x0 hx0
  rw [hp] at hp0
  rcases List.mem_cons.1 hp0 with e | hm
  · subst e
    have := h.lowle p0 htP
    omega
  · cases hm

/-- The top is finished and hangs on no elder node: it and all above it on the stack are a component. -/
def stE (s : St) (t : Nat) (A B ps : List Nat) : St := { s with comp := fun x => if x ∈ A ∨ x = t then (s.cmp : Int) else s.comp x, path := ps, stack := B, cmp := s.cmp + 1 }

theorem inv_E (h : Inv n adj s) (hg : Good n adj) {t : Nat} {A B ps : List Nat} (hp : s.path = t :: ps) (hn : s.nxt t = (adj t).length) (hl : s.low t = s.idx t) (hs : s.stack = A ++ t :: B) : Inv n adj (stE s t A B ps) := by
  have htS := h.topStack hp
  have htP : t ∈ s.path := by rw [hp]; simp
  obtain ⟨htn, hti, htc⟩ := h.visited htS
  have hsub : ∀ p, p ∈ ps → p ∈ s.path := fun p hm => by rw [hp]; exact List.mem_cons_of_mem _ hm
  have hprt := h.prt
  rw [hp, List.pairwise_cons] at hprt
  have hlt' : ∀ p, p ∈ ps → s.idx p < s.idx t := hprt.1
  have hin : ∀ p, p ∈ s.path → p ≠ t → p ∈ ps := fun p hm e => by
    rw [hp] at hm
    rcases List.mem_cons.1 hm with e' | hm'
    · exact absurd e' e
    · exact hm'
  have hsrt := h.srt
  rw [hs, List.pairwise_append, List.pairwise_cons] at hsrt
  obtain ⟨hA, ⟨htB, hB⟩, hAB⟩ := hsrt
  have hAi : ∀ x, x ∈ A → s.idx t < s.idx x := fun x hx => hAB x hx t (by simp)
  have hBi : ∀ x, x ∈ B → s.idx x < s.idx t := htB
  have hmem : ∀ x, x ∈ s.stack ↔ (x ∈ A ∨ x = t) ∨ x ∈ B := fun x => by rw [hs]; simp [or_assoc]
  -- S: the component
  have hSB : ∀ x, x ∈ s.stack → (x ∈ B ↔ s.idx x < s.idx t) := fun x hx => by
    constructor
    · exact hBi x
    · intro hlt
      rcases (hmem x).1 hx with (hx' | rfl) | hx'
      · have := hAi x hx'; omega
      · omega
      · exact hx'
  have hSS : ∀ x, (x ∈ A ∨ x = t) → x ∈ s.stack ∧ s.idx t ≤ s.idx x := fun x hx => by
    refine ⟨(hmem x).2 (.inl hx), ?_⟩
    rcases hx with hx | rfl
    · exact Nat.le_of_lt (hAi x hx)
    · exact Nat.le_refl _
  have hSof : ∀ x, x ∈ s.stack → s.idx t ≤ s.idx x → (x ∈ A ∨ x = t) := fun x hx hle => by
    rcases (hmem x).1 hx with hx' | hx'
    · exact hx'
    · have := hBi x hx'; omega
  have hnotB : ∀ x, x ∈ B → ¬ (x ∈ A ∨ x = t) := fun x hx hx' => by
    have := hBi x hx
    have := (hSS x hx').2
    omega
  have hSc : ∀ x, (x ∈ A ∨ x = t) → s.comp x < 0 := fun x hx => (h.visited (hSS x hx).1).2.2
  have hSn : ∀ x, (x ∈ A ∨ x = t) → x < n := fun x hx => (h.visited (hSS x hx).1).1
  have hown : ∀ x, (x ∈ A ∨ x = t) → Owner s t x := fun x hx => ⟨(hSS x hx).2, fun p' hp' _ => h.top hp hp'⟩
  have hfull : ∀ x, (x ∈ A ∨ x = t) → s.nxt x = (adj x).length := fun x hx => by
    by_cases e : x = t
    · rw [e]; exact hn
    · obtain ⟨a, b, c⟩ := h.visited (hSS x hx).1
      refine h.black x a b fun hm => ?_
      have h1 := hlt' x (hin x hm e)
      have h2 := (hSS x hx).2
      omega
  -- edges out of S stay in S or lead to what is done
  have hclosed : ∀ x y, (x ∈ A ∨ x = t) → Edge adj x y → (y ∈ A ∨ y = t) ∨ 0 ≤ s.comp y := fun x y hx hxy => by
    obtain ⟨i, hi, hy⟩ := mem_get hxy
    have hi' : i < s.nxt x := by rw [hfull x hx]; exact hi
    have hyi := h.proc x i y (hSn x hx) hi' hy
    have hyn := hg x y (hSn x hx) hxy
    by_cases hc : s.comp y < 0
    · have hyS := (h.stk y).2 ⟨hyn, hyi, hc⟩
      have := h.llow t x i y htP (hSS x hx).1 (hown x hx) hi' hy hyS
      exact .inl (hSof y hyS (by omega))
    · exact .inr (by omega)
  have hcl : ∀ u v, ((u ∈ A ∨ u = t) ∨ (u < n ∧ 0 ≤ s.comp u)) → Edge adj u v → ((v ∈ A ∨ v = t) ∨ (v < n ∧ 0 ≤ s.comp v)) := fun u v hu huv => by
    rcases hu with hu | ⟨hu1, hu2⟩
    · rcases hclosed u v hu huv with h1 | h1
      · exact .inl h1
      · exact .inr ⟨hg u v (hSn u hu) huv, h1⟩
    · exact .inr ⟨hg u v hu1 huv, (h.done u v hu1 hu2 huv).1⟩
  have hdcl : ∀ u v, (u < n ∧ 0 ≤ s.comp u) → Edge adj u v → (v < n ∧ 0 ≤ s.comp v) := fun u v hu huv => ⟨hg u v hu.1 huv, (h.done u v hu.1 hu.2 huv).1⟩
  have hto : ∀ x, (x ∈ A ∨ x = t) → Reach (Edge adj) x t := fun x hx => by
    obtain ⟨p, hpm, hpi, hpr⟩ := h.back x (hSS x hx).1
    have hpc := Reach.closed (S := fun y => (y ∈ A ∨ y = t) ∨ (y < n ∧ 0 ≤ s.comp y)) hcl (.inl hx) hpr
    have hpS := h.pst p hpm
    have hpt : p = t := by
      rcases hpc with h1 | ⟨_, h1⟩
      · refine h.inj hpS htS ?_
        have := (hSS p h1).2
        have := h.top hp hpm
        omega
      · have := (h.visited hpS).2.2; omega
    rw [← hpt]; exact hpr
  have hfrom : ∀ x, (x ∈ A ∨ x = t) → Reach (Edge adj) t x := fun x hx => h.reach t x htP (hSS x hx).1 (hSS x hx).2
  have cS : ∀ x, (x ∈ A ∨ x = t) → (stE s t A B ps).comp x = (s.cmp : Int) := fun x hx => by show (if _ then _ else _) = _; rw [if_pos hx]
  have cO : ∀ x, ¬ (x ∈ A ∨ x = t) → (stE s t A B ps).comp x = s.comp x := fun x hx => by show (if _ then _ else _) = _; rw [if_neg hx]
  refine ⟨?_, ?_, ?_, h.idxle, hB, hprt.2, ?_, h.nle, h.fresh, h.proc, ?_, ?_, ?_, ?_, fun p hm => h.lowle p (hsub p hm), ?_, ?_, ?_, ?_, ?_, h.vn⟩
  · intro x
    show x ∈ B ↔ _
    by_cases hx : x ∈ A ∨ x = t
    · rw [cS x hx]
      constructor
      · intro hb; exact absurd hx (hnotB x hb)
      · rintro ⟨_, _, hc⟩; omega
    · rw [cO x hx]
      constructor
      · intro hb
        exact (h.stk x).1 ((hmem x).2 (.inr hb))
      · intro hb
        rcases (hmem x).1 ((h.stk x).2 hb) with h1 | h1
        · exact absurd h1 hx
        · exact h1
  · intro x hxn hc
    by_cases hx : x ∈ A ∨ x = t
    · rw [cS x hx] at hc; omega
    · rw [cO x hx] at hc ⊢; exact h.neg x hxn hc
  · intro x hxn hc
    show (stE s t A B ps).comp x < ((s.cmp + 1 : Nat) : Int) ∧ 0 < s.idx x
    by_cases hx : x ∈ A ∨ x = t
    · rw [cS x hx]
      exact ⟨by omega, (h.visited (hSS x hx).1).2.1⟩
    · rw [cO x hx] at hc ⊢
      obtain ⟨a, b⟩ := h.pos x hxn hc
      exact ⟨by omega, b⟩
  · intro p hm
    show p ∈ B
    exact (hSB p (h.pst p (hsub p hm))).2 (hlt' p hm)
  · intro x hx hi hnp
    by_cases e : x = t
    · rw [e]; exact hn
    · exact h.black x hx hi fun hm => hnp (hin x hm e)
  · intro u v hun hc huv
    by_cases hu : u ∈ A ∨ u = t
    · rw [cS u hu]
      rcases hclosed u v hu huv with h1 | h1
      · rw [cS v h1]; exact ⟨by omega, Int.le_refl _⟩
      · have hv : ¬ (v ∈ A ∨ v = t) := fun h2 => by have := hSc v h2; omega
        rw [cO v hv]
        have := (h.pos v (hg u v hun huv) h1).1
        exact ⟨h1, by omega⟩
    · rw [cO u hu] at hc ⊢
      obtain ⟨a, b⟩ := h.done u v hun hc huv
      have hv : ¬ (v ∈ A ∨ v = t) := fun h2 => by have := hSc v h2; omega
      rw [cO v hv]; exact ⟨a, b⟩
  · intro p v hm hv
    exact h.reach p v (hsub p hm) ((hmem v).2 (.inr hv))
  · intro x hxm
    have hx : x ∈ B := hxm
    obtain ⟨p, a, b, c⟩ := h.back x ((hmem x).2 (.inr hx))
    refine ⟨p, hin p a fun e => ?_, b, c⟩
    rw [e] at b
    have := hBi x hx
    omega
  · intro p hm
    obtain ⟨x, a, b, c⟩ := h.lup p (hsub p hm)
    refine ⟨x, ?_, b, c⟩
    show x ∈ B
    refine (hSB x a).2 ?_
    have := h.lowle p (hsub p hm)
    have := hlt' p hm
    omega
  · intro p x i y hpm hxm hown' hi hy hym
    have hx : x ∈ B := hxm
    have hy' : y ∈ B := hym
    obtain ⟨ho1, ho2⟩ := hown'
    refine h.llow p x i y (hsub p hpm) ((hmem x).2 (.inr hx)) ⟨ho1, fun p' hp' hle => ?_⟩ hi hy ((hmem y).2 (.inr hy'))
    by_cases e : p' = t
    · rw [e] at hle; have := hBi x hx; omega
    · exact ho2 p' (hin p' hp' e) hle
  · intro u v hun hvn hcu hcv
    by_cases hu : u ∈ A ∨ u = t
    · by_cases hv : v ∈ A ∨ v = t
      · rw [cS u hu, cS v hv]
        exact ⟨fun _ => ⟨(hto u hu).trans (hfrom v hv), (hto v hv).trans (hfrom u hu)⟩, fun _ => rfl⟩
      · rw [cS u hu, cO v hv]
        rw [cO v hv] at hcv
        have := (h.pos v hvn hcv).1
        constructor
        · intro e; omega
        · rintro ⟨_, r⟩
          have := Reach.closed (S := fun y => y < n ∧ 0 ≤ s.comp y) hdcl ⟨hvn, hcv⟩ r
          have := hSc u hu; omega
    · by_cases hv : v ∈ A ∨ v = t
      · rw [cO u hu, cS v hv]
        rw [cO u hu] at hcu
        have := (h.pos u hun hcu).1
        constructor
        · intro e; omega
        · rintro ⟨r, _⟩
          have := Reach.closed (S := fun y => y < n ∧ 0 ≤ s.comp y) hdcl ⟨hun, hcu⟩ r
          have := hSc v hv; omega
      · rw [cO u hu] at hcu ⊢
        rw [cO v hv] at hcv ⊢
        exact h.same u v hun hvn hcu hcv
  · intro c hc
    have hc' : c < s.cmp + 1 := hc
    by_cases e : c = s.cmp
    · exact ⟨t, htn, by rw [cS t (.inr rfl), e]⟩
    · obtain ⟨v, a, b⟩ := h.all c (by omega)
      refine ⟨v, a, ?_⟩
      have hv : ¬ (v ∈ A ∨ v = t) := fun h2 => by have := hSc v h2; omega
      rw [cO v hv]; exact b
  · have := h.cnt
    rw [hs] at this
    show s.cmp + 1 + B.length ≤ s.vis
    simp at this
    omega

/-! ### The end -/
structure Comps (n : Nat) (adj : Nat → List Nat) (comp : Nat → Int) (k : Nat) : Prop where
  rng : ∀ v, v < n → 0 ≤ comp v ∧ comp v < k
  kn : k ≤ n
  same : ∀ u v, u < n → v < n → (comp u = comp v ↔ Reach (Edge adj) u v ∧ Reach (Edge adj) v u)
  down : ∀ u v, u < n → Edge adj u v → comp v ≤ comp u
  all : ∀ c, c < k → ∃ v, v < n ∧ comp v = c

theorem Inv.finish (h : Inv n adj s) (hp : s.path = []) (hv : ∀ v, v < n → 0 < s.idx v) : Comps n adj s.comp s.cmp := by
  have hs := h.stackEmpty hp
  have hd : ∀ v, v < n → 0 ≤ s.comp v := fun v hvn => by
    by_cases hc : s.comp v < 0
    · have := (h.stk v).2 ⟨hvn, hv v hvn, hc⟩
      rw [hs] at this; cases this
    · omega
  refine ⟨fun v hvn => ⟨hd v hvn, (h.pos v hvn (hd v hvn)).1⟩, ?_, fun u v hu hv' => h.same u v hu hv' (hd u hu) (hd v hv'), fun u v hu huv => (h.done u v hu (hd u hu) huv).2, h.all⟩
  have := h.cnt
  have := h.vn
  omega

/-- Bounds for the walk. -/
theorem Inv.visn (h : Inv n adj s) : s.vis ≤ n := by have := h.vn; omega
theorem Inv.stackLen (h : Inv n adj s) : s.stack.length ≤ n := by have := h.cnt; have := h.visn; omega
theorem Inv.pathLen (h : Inv n adj s) : s.path.length ≤ n := by
  refine Nat.le_trans (falling_len s.path s.vis h.prt fun x hx => ?_) h.visn
  obtain ⟨a, b, _⟩ := h.visited (h.pst x hx)
  exact ⟨b, h.idxle x a⟩
end
end Go.Proofs.Qxb6000570a
