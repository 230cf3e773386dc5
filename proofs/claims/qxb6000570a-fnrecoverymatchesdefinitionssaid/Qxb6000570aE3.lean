/-
  The items of recoveryOf as they lie in memory; readFrom (43).
-/
import Derived.Test.Qxb6000570aM
import Derived.Maps.AppendAt
namespace Go.Proofs.Qxb6000570a
open Go.RowKit
set_option linter.unusedVariables false
set_option linter.unusedSimpArgs false

/-- A schedule: kind, transaction, item; how and where the transaction ended. -/
structure Sch where
  K : Nat → Nat
  X : Nat → Int
  I : Nat → ByteArray
  H : Nat → Nat
  A : Nat → Int

def tx3 (S : Sch) : Option Nat → List Value
  | none => [.int .i64 0, .int .u8 0, .int .i64 0]
  | some k => [.int .i64 (S.X k), .int .u8 (S.H k : Nat), .int .i64 (S.A k)]
def flat (S : Sch) (l : List Nat) : List Value := l.flatMap fun k => tx3 S (some k)
theorem tx3_len (S : Sch) (o : Option Nat) : (tx3 S o).length = 3 := by cases o <;> rfl
theorem tx3_one (S : Sch) (o : Option Nat) : ∀ v ∈ tx3 S o, v.oneCell' = true := by
  cases o <;> simp [tx3, Value.oneCell']
theorem flat_snoc (S : Sch) (l : List Nat) (k : Nat) : flat S (l ++ [k]) = flat S l ++ tx3 S (some k) := by simp [flat]
theorem flat_len (S : Sch) : ∀ l : List Nat, (flat S l).length = l.length * 3
  | [] => rfl
  | k :: r => by
    have := flat_len S r
    simp only [flat, List.flatMap_cons, List.length_append, tx3_len, List.length_cons] at this ⊢
    omega
theorem flat_get (S : Sch) : ∀ (l : List Nat) (i j : Nat) (h : i < l.length), j < 3 → (flat S l)[i * 3 + j]? = (tx3 S (some l[i]))[j]?
  | k :: r, 0, j, h, hj => by
    simp only [flat, List.flatMap_cons]
    rw [List.getElem?_append_left (by rw [tx3_len]; omega)]
    simp
  | k :: r, i + 1, j, h, hj => by
    have h' : i < r.length := by simpa using h
    have := flat_get S r i j h' hj
    simp only [flat, List.flatMap_cons] at this ⊢
    rw [List.getElem?_append_right (by rw [tx3_len]; omega), tx3_len, show (i + 1) * 3 + j - 3 = i * 3 + j by omega, this]
    simp
def itF (S : Sch) (la : Option Nat) (wv rv : Value) : Nat → Nat → Value := fun i _ => (tx3 S la ++ [wv, rv])[i]!

/-- One item. -/
structure It (S : Sch) (w : World) (B b : Nat) (la : Option Nat) (wv rv : Value) (WL RL : List Nat) : Prop where
  blk : Els w b 5 1 (itF S la wv rv)
  ws : w.ownsRow B 75 3 wv WL.length (flat S WL)
  rs : w.ownsRow B 75 3 rv RL.length (flat S RL)
  ge : B ≤ b
  n1 : wv.ownBlock ≠ some b
  n2 : rv.ownBlock ≠ some b
  n3 : ∀ g, wv.ownBlock = some g → rv.ownBlock ≠ some g
def Own (b : Nat) (wv rv : Value) (g : Nat) : Prop := g = b ∨ wv.ownBlock = some g ∨ rv.ownBlock = some g
theorem ownsRow_keep {w w' : World} {B : Nat} {v : Value} {n : Nat} {xs : List Value} (h : w.ownsRow B 75 3 v n xs) (hk : ∀ g, v.ownBlock = some g → w'.heap[g]? = w.heap[g]?) : w'.ownsRow B 75 3 v n xs := by
  obtain ⟨h1, h2⟩ := h
  refine ⟨h1, ?_⟩
  rcases h2 with h2 | ⟨g, cap, cur, e, hb, hc, r⟩
  · exact .inl h2
  · exact .inr ⟨g, cap, cur, e, hb, (hk g (by rw [e]; rfl)).trans hc, r⟩
theorem It.keep {S : Sch} {w w' : World} {B b : Nat} {la : Option Nat} {wv rv : Value} {WL RL : List Nat} (h : It S w B b la wv rv WL RL) (hk : ∀ g, Own b wv rv g → w'.heap[g]? = w.heap[g]?) : It S w' B b la wv rv WL RL where
  blk := h.blk.of_block (hk b (.inl rfl))
  ws := ownsRow_keep h.ws fun g e => hk g (.inr (.inl e))
  rs := ownsRow_keep h.rs fun g e => hk g (.inr (.inr e))
  ge := h.ge
  n1 := h.n1
  n2 := h.n2
  n3 := h.n3
theorem It.own {S : Sch} {w : World} {B b : Nat} {la : Option Nat} {wv rv : Value} {WL RL : List Nat} (h : It S w B b la wv rv WL RL) {g : Nat} (hg : Own b wv rv g) : B ≤ g ∧ g < w.heap.size := by
  rcases hg with rfl | e | e
  · exact ⟨h.ge, h.blk.lt⟩
  · exact h.ws.lt g e
  · exact h.rs.lt g e
theorem It.below {S : Sch} {w w' : World} {B b : Nat} {la : Option Nat} {wv rv : Value} {WL RL : List Nat} (h : It S w B b la wv rv WL RL) (hb : Below w.heap.size w w') : It S w' B b la wv rv WL RL :=
  h.keep fun g hg => hb.block g (h.own hg).2

structure Its (S : Sch) (w : World) (M B c : Nat) (κ : Nat → ByteArray) (β : Nat → Nat) (LA : Nat → Option Nat) (wv rv : Nat → Value) (WL RL : Nat → List Nat) : Prop where
  map : w.heap[M]? = some (.map (ents (strK κ) (ptrV β) c) c)
  mB : M < B
  dst : ∀ i j, i < j → j < c → κ i ≠ κ j
  it : ∀ j, j < c → It S w B (β j) (LA j) (wv j) (rv j) (WL j) (RL j)
  sep : ∀ i j, i < c → j < c → i ≠ j → ∀ g, Own (β i) (wv i) (rv i) g → Own (β j) (wv j) (rv j) g → False
theorem Its.below {S : Sch} {w w' : World} {M B c : Nat} {κ : Nat → ByteArray} {β : Nat → Nat} {LA : Nat → Option Nat} {wv rv : Nat → Value} {WL RL : Nat → List Nat} (h : Its S w M B c κ β LA wv rv WL RL) (hb : Below w.heap.size w w') : Its S w' M B c κ β LA wv rv WL RL where
  map := (hb.block M (lt_of_block h.map)).trans h.map
  mB := h.mB
  dst := h.dst
  it := fun j hj => (h.it j hj).below hb
  sep := h.sep
/-- Whatever happens to item j alone. -/
theorem Its.touch {S : Sch} {w w' : World} {M B c : Nat} {κ : Nat → ByteArray} {β : Nat → Nat} {LA : Nat → Option Nat} {wv rv : Nat → Value} {WL RL : Nat → List Nat} (h : Its S w M B c κ β LA wv rv WL RL) {j : Nat} (hj : j < c)
    {la : Option Nat} {wv' rv' : Value} {WL' RL' : List Nat} (hit : It S w' B (β j) la wv' rv' WL' RL')
    (hk : ∀ g, g < w.heap.size → ¬ Own (β j) (wv j) (rv j) g → w'.heap[g]? = w.heap[g]?) (hn : ∀ g, Own (β j) wv' rv' g → Own (β j) (wv j) (rv j) g ∨ w.heap.size ≤ g) :
    Its S w' M B c κ β (upd LA j la) (upd wv j wv') (upd rv j rv') (upd WL j WL') (upd RL j RL') where
  map := (hk M (lt_of_block h.map) (fun ho => by have := ((h.it j hj).own ho).1; have := h.mB; omega)).trans h.map
  mB := h.mB
  dst := h.dst
  it := fun i hi => by
    by_cases e : i = j
    · subst e
      rw [upd_same, upd_same, upd_same, upd_same, upd_same]
      exact hit
    · rw [upd_other _ _ e, upd_other _ _ e, upd_other _ _ e, upd_other _ _ e, upd_other _ _ e]
      exact (h.it i hi).keep fun g hg => hk g ((h.it i hi).own hg).2 (fun ho => h.sep i j hi hj e g hg ho)
  sep := by
    have key : ∀ i, i < c → i ≠ j → ∀ g, Own (β i) (wv i) (rv i) g → Own (β j) wv' rv' g → False := fun i hi e g h1 h2 => by
      rcases hn g h2 with h3 | h3
      · exact h.sep i j hi hj e g h1 h3
      · have := ((h.it i hi).own h1).2; omega
    intro i k hi hk' hne g h1 h2
    by_cases e1 : i = j
    · by_cases e2 : k = j
      · exact hne (by rw [e1, e2])
      · subst e1
        rw [upd_same, upd_same] at h1
        rw [upd_other _ _ e2, upd_other _ _ e2] at h2
        exact key k hk' e2 g h2 h1
    · rw [upd_other _ _ e1, upd_other _ _ e1] at h1
      by_cases e2 : k = j
      · subst e2
        rw [upd_same, upd_same] at h2
        exact key i hi e1 g h1 h2
      · rw [upd_other _ _ e2, upd_other _ _ e2] at h2
        exact h.sep i k hi hk' hne g h1 h2
/-- A new item. -/
theorem Its.add {S : Sch} {w w' : World} {M B c : Nat} {κ : Nat → ByteArray} {β : Nat → Nat} {LA : Nat → Option Nat} {wv rv : Nat → Value} {WL RL : Nat → List Nat} (h : Its S w M B c κ β LA wv rv WL RL) {s : ByteArray} {b : Nat}
    (hs : ∀ i, i < c → κ i ≠ s) (hb : w.heap.size ≤ b) (hit : It S w' B b none (.slice none 0 0) (.slice none 0 0) [] []) (hm : w'.heap[M]? = some (.map (ents (strK (upd κ c s)) (ptrV (upd β c b)) (c + 1)) (c + 1)))
    (hk : ∀ g, g < w.heap.size → g ≠ M → w'.heap[g]? = w.heap[g]?) :
    Its S w' M B (c + 1) (upd κ c s) (upd β c b) (upd LA c none) (upd wv c (.slice none 0 0)) (upd rv c (.slice none 0 0)) (upd WL c []) (upd RL c []) where
  map := hm
  mB := h.mB
  dst := fun i j hij hj => by
    rw [upd_other κ s (show i ≠ c by omega)]
    by_cases e : j = c
    · subst e; rw [upd_same]; exact hs i hij
    · rw [upd_other _ _ e]; exact h.dst i j hij (by omega)
  it := fun i hi => by
    by_cases e : i = c
    · subst e
      rw [upd_same, upd_same, upd_same, upd_same, upd_same, upd_same]
      exact hit
    · rw [upd_other _ _ e, upd_other _ _ e, upd_other _ _ e, upd_other _ _ e, upd_other _ _ e, upd_other _ _ e]
      exact (h.it i (by omega)).keep fun g hg => hk g ((h.it i (by omega)).own hg).2 (fun e2 => by have := ((h.it i (by omega)).own hg).1; have := h.mB; omega)
  sep := by
    have key : ∀ i, i < c → ∀ g, Own (β i) (wv i) (rv i) g → Own b (.slice none 0 0) (.slice none 0 0) g → False := fun i hi g h1 h2 => by
      have := ((h.it i hi).own h1).2
      rcases h2 with h2 | h2 | h2
      · omega
      · cases h2
      · cases h2
    intro i k hi hk' hne g h1 h2
    by_cases e1 : i = c
    · have e2 : k ≠ c := by omega
      subst e1
      rw [upd_same, upd_same, upd_same] at h1
      rw [upd_other _ _ e2, upd_other _ _ e2, upd_other _ _ e2] at h2
      exact key k (by omega) g h2 h1
    · rw [upd_other _ _ e1, upd_other _ _ e1, upd_other _ _ e1] at h1
      by_cases e2 : k = c
      · subst e2
        rw [upd_same, upd_same, upd_same] at h2
        exact key i (by omega) g h1 h2
      · rw [upd_other _ _ e2, upd_other _ _ e2, upd_other _ _ e2] at h2
        exact h.sep i k (by omega) (by omega) hne g h1 h2
end Go.Proofs.Qxb6000570a
