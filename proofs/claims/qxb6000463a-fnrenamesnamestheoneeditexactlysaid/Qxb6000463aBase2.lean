/-
  More laws on memory: a whole element stored at once; maps keyed by integers or strings that the call itself makes.
-/
import Derived.Test.Qxb6000463aBase
import Derived.Laws.IdiomCopy
import Derived.Carry
namespace Go.Proofs.Qxb6000463a
open Go.RowKit
set_option linter.unusedVariables false
set_option linter.unusedSimpArgs false

theorem Els.setCells_aux {b n sz : Nat} {k : Nat} (hk : k < n) : ∀ (vs : List Value) (l : Nat) (w : World) (g : Nat → Nat → Value), l + vs.length ≤ sz → Els w b n sz g →
    Els (w.setCells b (k * sz + l) vs) b n sz (fun i j => if i = k ∧ l ≤ j ∧ j < l + vs.length then vs.getD (j - l) undef else g i j)
  | [], l, w, g, _, h => by
    refine h.congr fun i hi j hj => ?_
    rw [if_neg]; simp
  | v :: r, l, w, g, hl, h => by
    simp only [List.length_cons] at hl
    have h1 := h.set hk (l := l) (by omega) v
    have h2 := Els.setCells_aux hk r (l + 1) _ _ (by omega) h1
    rw [World.setCells, Nat.add_assoc]
    refine h2.congr fun i hi j hj => ?_
    by_cases e : i = k
    · subst e
      by_cases e1 : j = l
      · subst e1
        rw [if_neg (by omega), if_pos ⟨rfl, rfl⟩, if_pos ⟨rfl, by omega, by simp⟩]
        simp
      · by_cases e2 : l + 1 ≤ j ∧ j < l + 1 + r.length
        · have e3 : l ≤ j ∧ j < l + (v :: r).length := by simp; omega
          simp only [true_and, e2, e3, and_self, if_true]
          rw [show j - l = (j - (l + 1)) + 1 by omega]
          simp
        · have e3 : ¬ (l ≤ j ∧ j < l + (v :: r).length) := by simp; omega
          simp only [true_and, e2, e3, if_false, e1, and_false]
    · simp [e]

theorem Els.setEl {w : World} {b n sz k : Nat} {g : Nat → Nat → Value} (h : Els w b n sz g) (hk : k < n) (vs : List Value) (hv : vs.length = sz) :
    Els (w.setCells b (k * sz) vs) b n sz (fun i j => if i = k then vs.getD j undef else g i j) := by
  have := Els.setCells_aux hk vs 0 w g (by omega) h
  rw [Nat.add_zero] at this
  refine this.congr fun i hi j hj => ?_
  by_cases e : i = k
  · subst e
    rw [if_pos ⟨rfl, by omega, by omega⟩, if_pos rfl, Nat.sub_zero]
  · simp [e]

theorem Els.otherCells {b' n sz : Nat} {g : Nat → Nat → Value} {b : Nat} (hb : b' ≠ b) : ∀ (vs : List Value) (o : Nat) (w : World), Els w b' n sz g → Els (w.setCells b o vs) b' n sz g
  | [], _, _, h => h
  | v :: r, o, w, h => Els.otherCells hb r (o + 1) _ (h.other hb v)

theorem Below.setCells {B : Nat} {a : World} {b : Nat} (hb : B ≤ b) : ∀ (vs : List Value) (o : Nat) (w : World), Below B a w → Below B a (w.setCells b o vs)
  | [], _, _, h => h
  | v :: r, o, w, h => Below.setCells hb r (o + 1) _ (h.setCell (p := ⟨b, o, none⟩) hb v)
theorem size_setCells (b : Nat) : ∀ (vs : List Value) (o : Nat) (w : World), (w.setCells b o vs).heap.size = w.heap.size
  | [], _, _ => rfl
  | v :: r, o, w => by rw [World.setCells, size_setCells b r]; simp [World.setCell]

/-! ### Maps -/
def setB (w : World) (b : Nat) (o : Obj) : World := { w with heap := w.heap.setIfInBounds b o }
theorem setB_same {w : World} {b : Nat} {o o' : Obj} (h : w.heap[b]? = some o') : (setB w b o).heap[b]? = some o := by
  have : b < w.heap.size := by
    by_cases hb : b < w.heap.size
    · exact hb
    · rw [Array.getElem?_eq_none (by omega)] at h; cases h
  simp [setB, this]
theorem setB_other {w : World} {b k : Nat} {o : Obj} (h : k ≠ b) : (setB w b o).heap[k]? = w.heap[k]? := by
  simp only [setB]
  rw [Array.getElem?_setIfInBounds_ne (by omega)]
theorem size_setB (w : World) (b : Nat) (o : Obj) : (setB w b o).heap.size = w.heap.size := by simp [setB]
theorem cell_setB {w : World} {b : Nat} {o : Obj} {a : Addr} (h : a.block ≠ b) : (setB w b o).cell? a = w.cell? a := World.cell?_of_block (w := w) (setB_other h)
theorem Els.setB {w : World} {b' n sz : Nat} {g : Nat → Nat → Value} (h : Els w b' n sz g) {b : Nat} (hb : b' ≠ b) (o : Obj) : Els (Qxb6000463a.setB w b o) b' n sz g := h.of_block (setB_other hb)
theorem Below.setB {B : Nat} {a w : World} (h : Below B a w) {b : Nat} (hb : B ≤ b) (o : Obj) : Below B a (Qxb6000463a.setB w b o) :=
  h.trans ⟨rfl, rfl, rfl, by rw [size_setB]; exact Nat.le_refl _, fun k hk => setB_other (by omega)⟩

section
variable {P : Program} (w : World)

theorem run_checkKey_flat (k : TypeId) (d : TypeDesc) (hk : P.underlying k = some d) (hd : (∃ q, d = .int q) ∨ d = .string) (em : Bool) (key : Value) : (Instr.checkKey em 10000 k key).run P w = .ok () w := by
  rw [show (10000 : Nat) = 9999 + 1 from rfl, Instr.checkKey]
  rcases hd with ⟨q, rfl⟩ | rfl <;> cases key <;> simp [run_underlying hk]
theorem run_getObj_of {b : Nat} {o : Obj} (es : Array MapEntry) (clock : Nat) (hb : w.heap[b]? = some (.map es clock)) : (getObj b).run P w = .ok (.map es clock) w := by
  simp [getObj, Sem.run, hb]
theorem run_setObj_of {b : Nat} (es : Array MapEntry) (clock : Nat) (hb : w.heap[b]? = some (.map es clock)) (o : Obj) : (setObj b o).run P w = .ok () (setB w b o) := by
  simp [setObj, Sem.run, hb, setB]
theorem run_findKey_of (k : TypeId) (d : TypeDesc) (hk : P.underlying k = some d) (key : Value) (es : List MapEntry) (r : Option (Nat × Value)) (hf : Instr.findNow d key es 0 = some r) : (Instr.findKey k key es).run P w = .ok r w := by
  simp [Instr.findKey, run_underlying hk, hf]

/-- A key that is in the map. -/
theorem run_look_hit (t k e : TypeId) (d : TypeDesc) (ht : P.underlying t = some (.map k e)) (hk : P.underlying k = some d) (hd : (∃ q, d = .int q) ∨ d = .string) (b : Nat) (es : Array MapEntry) (clock : Nat)
    (hb : w.heap[b]? = some (.map es clock)) (key v : Value) (i : Nat) (hf : Instr.findNow d key es.toList 0 = some (some (i, v))) :
    (Instr.lookup t (.map (some b)) key true).run P w = .ok (.tuple #[v, .bool true]) w := by
  have h1 := run_getObj_of (P := P) w (o := .map es clock) es clock hb
  have h2 := fun em => run_checkKey_flat (P := P) w k d hk hd em key
  have h3 := run_findKey_of (P := P) w k d hk key es.toList _ hf
  simp only [Instr.lookup, Sem.run_bind, run_underlying ht, Result.andThen_ok, h1, h2, h3, Sem.run_pure, if_true]

/-- A key that is not in the map: a new entry. -/
theorem run_put_new (t k e : TypeId) (d : TypeDesc) (ht : P.underlying t = some (.map k e)) (hk : P.underlying k = some d) (hd : (∃ q, d = .int q) ∨ d = .string) (b : Nat) (es : Array MapEntry) (clock : Nat)
    (hb : w.heap[b]? = some (.map es clock)) (key v : Value) (hf : Instr.findNow d key es.toList 0 = some none) :
    (Instr.mapUpdate t (.map (some b)) key v).run P w = .ok () (setB w b (.map (es.push { key := key, val := v, born := clock }) (clock + 1))) := by
  have h1 := run_getObj_of (P := P) w (o := .map es clock) es clock hb
  have h2 := fun em => run_checkKey_flat (P := P) w k d hk hd em key
  have h3 := run_findKey_of (P := P) w k d hk key es.toList _ hf
  have h4 := run_setObj_of (P := P) w es clock hb
  simp only [Instr.mapUpdate, Sem.run_bind, run_underlying ht, Result.andThen_ok, h1, h2, h3, h4, Sem.run_pure]
end

/-- The entries of a map that was filled with the keys K 0, K 1, .. in that order. -/
def ents (K V : Nat → Value) (n : Nat) : Array MapEntry := ((List.range n).map fun i => { key := K i, val := V i, born := i }).toArray
theorem ents_succ (K V : Nat → Value) (n : Nat) : (ents K V n).push { key := K n, val := V n, born := n } = ents K V (n + 1) := by
  simp [ents, List.range_succ]

theorem findNow_none (d : TypeDesc) (key : Value) : ∀ (l : List MapEntry) (i : Nat), (∀ x ∈ l, Instr.sameNow d key x.key = some false) → Instr.findNow d key l i = some none
  | [], _, _ => rfl
  | x :: r, i, h => by
    rw [Instr.findNow, h x (by simp)]
    exact findNow_none d key r (i + 1) fun y hy => h y (by simp [hy])
theorem findNow_hit (d : TypeDesc) (key : Value) : ∀ (l : List MapEntry) (i j : Nat) (x : MapEntry), l[j]? = some x → Instr.sameNow d key x.key = some true → (∀ m y, m < j → l[m]? = some y → Instr.sameNow d key y.key = some false) →
    Instr.findNow d key l i = some (some (i + j, x.val))
  | [], _, _, _, h, _, _ => by simp at h
  | y :: r, i, 0, x, h, hs, _ => by
    simp at h; subst h
    rw [Instr.findNow, hs]; rfl
  | y :: r, i, j + 1, x, h, hs, hn => by
    rw [Instr.findNow, hn 0 y (by omega) rfl]
    have := findNow_hit d key r (i + 1) j x (by simpa using h) hs fun m z hm hz => hn (m + 1) z (by omega) (by simpa using hz)
    rw [this, show i + 1 + j = i + (j + 1) by omega]

theorem sameNow_int (q : IntKind) (a b : Int) : Instr.sameNow (.int q) (.int q a) (.int q b) = some (a == b) := by simp [Instr.sameNow]

/-- Keys q-integers i + 1: the key n + 1 is new. -/
theorem ents_new (q : IntKind) (f : Nat → Int) (V : Nat → Value) (n : Nat) (a : Int) (h : ∀ i, i < n → f i ≠ a) : Instr.findNow (.int q) (.int q a) (ents (fun i => .int q (f i)) V n).toList 0 = some none := by
  refine findNow_none _ _ _ _ fun x hx => ?_
  simp [ents] at hx
  obtain ⟨i, hi, rfl⟩ := hx
  rw [sameNow_int]
  have := h i hi
  simp
  exact fun e => this e.symm
theorem ents_hit (q : IntKind) (f : Nat → Int) (V : Nat → Value) (n j : Nat) (hj : j < n) (h : ∀ i, i < j → f i ≠ f j) : Instr.findNow (.int q) (.int q (f j)) (ents (fun i => .int q (f i)) V n).toList 0 = some (some (j, V j)) := by
  have := findNow_hit (.int q) (.int q (f j)) (ents (fun i => .int q (f i)) V n).toList 0 j { key := .int q (f j), val := V j, born := j } (by simp [ents, hj]) (by rw [sameNow_int]; simp) (fun m y hm hy => by
    simp [ents, show m < n by omega] at hy
    subst hy
    rw [sameNow_int]
    have := h m hm
    simp
    exact fun e => this e.symm)
  rw [this]
  simp
end Go.Proofs.Qxb6000463a
