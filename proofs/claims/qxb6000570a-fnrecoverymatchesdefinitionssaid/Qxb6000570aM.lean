/-
  More laws on memory for the law on recovery: a map of the call's own, keyed by strings.
-/
import Derived.Test.Qxb6000570aE2
import Derived.Laws.IdiomCopy
import Derived.Carry
namespace Go.Proofs.Qxb6000570a
open Go.RowKit
set_option linter.unusedVariables false
set_option linter.unusedSimpArgs false

/-! ### Maps -/
def setB (w : World) (b : Nat) (o : Obj) : World := { w with heap := w.heap.setIfInBounds b o }
theorem setB_same {w : World} {b : Nat} {o o' : Obj} (h : w.heap[b]? = some o') : (setB w b o).heap[b]? = some o := by
  have : b < w.heap.size := by
    by_cases hb : b < w.heap.size
    · exact hb
    · rw [Array.getElem?_eq_none (by omega)] at h; cases h
  simp [setB, this]
theorem setB_other {w : World} {b k : Nat} {o : Obj} (h : k ≠ b) : (setB w b o).heap[k]? = w.heap[k]? := by
  simp only [setB]
  rw [Array.getElem?_setIfInBounds_ne (by omega)]
theorem size_setB (w : World) (b : Nat) (o : Obj) : (setB w b o).heap.size = w.heap.size := by simp [setB]
theorem cell_setB {w : World} {b : Nat} {o : Obj} {a : Addr} (h : a.block ≠ b) : (setB w b o).cell? a = w.cell? a := World.cell?_of_block (w := w) (setB_other h)
theorem Els.setB {w : World} {b' n sz : Nat} {g : Nat → Nat → Value} (h : Els w b' n sz g) {b : Nat} (hb : b' ≠ b) (o : Obj) : Els (Qxb6000570a.setB w b o) b' n sz g := h.of_block (setB_other hb)
theorem Below.setB {B : Nat} {a w : World} (h : Below B a w) {b : Nat} (hb : B ≤ b) (o : Obj) : Below B a (Qxb6000570a.setB w b o) :=
  h.trans ⟨rfl, rfl, rfl, by rw [size_setB]; exact Nat.le_refl _, fun k hk => setB_other (by omega)⟩

section
variable {P : Program} (w : World)

theorem run_checkKey_flat (k : TypeId) (d : TypeDesc) (hk : P.underlying k = some d) (hd : (∃ q, d = .int q) ∨ d = .string) (em : Bool) (key : Value) : (Instr.checkKey em 10000 k key).run P w = .ok () w := by
  rw [show (10000 : Nat) = 9999 + 1 from rfl, Instr.checkKey]
  rcases hd with ⟨q, rfl⟩ | rfl <;> cases key <;> simp [run_underlying hk]
theorem run_getObj_of {b : Nat} {o : Obj} (es : Array MapEntry) (clock : Nat) (hb : w.heap[b]? = some (.map es clock)) : (getObj b).run P w = .ok (.map es clock) w := by
  simp [getObj, Sem.run, hb]
theorem run_setObj_of {b : Nat} (es : Array MapEntry) (clock : Nat) (hb : w.heap[b]? = some (.map es clock)) (o : Obj) : (setObj b o).run P w = .ok () (setB w b o) := by
  simp [setObj, Sem.run, hb, setB]
theorem run_findKey_of (k : TypeId) (d : TypeDesc) (hk : P.underlying k = some d) (key : Value) (es : List MapEntry) (r : Option (Nat × Value)) (hf : Instr.findNow d key es 0 = some r) : (Instr.findKey k key es).run P w = .ok r w := by
  simp [Instr.findKey, run_underlying hk, hf]

/-- A key that is in the map. -/
theorem run_look_hit (t k e : TypeId) (d : TypeDesc) (ht : P.underlying t = some (.map k e)) (hk : P.underlying k = some d) (hd : (∃ q, d = .int q) ∨ d = .string) (b : Nat) (es : Array MapEntry) (clock : Nat)
    (hb : w.heap[b]? = some (.map es clock)) (key v : Value) (i : Nat) (hf : Instr.findNow d key es.toList 0 = some (some (i, v))) :
    (Instr.lookup t (.map (some b)) key false).run P w = .ok v w := by
  have h1 := run_getObj_of (P := P) w (o := .map es clock) es clock hb
  have h2 := fun em => run_checkKey_flat (P := P) w k d hk hd em key
  have h3 := run_findKey_of (P := P) w k d hk key es.toList _ hf
  simp only [Instr.lookup, Sem.run_bind, run_underlying ht, Result.andThen_ok, h1, h2, h3, Sem.run_pure, if_true, Bool.false_eq_true, if_false]
/-- A key that is not in the map: the zero value. -/
theorem run_look_miss (t k e : TypeId) (d : TypeDesc) (ht : P.underlying t = some (.map k e)) (hk : P.underlying k = some d) (hd : (∃ q, d = .int q) ∨ d = .string) (b : Nat) (es : Array MapEntry) (clock : Nat)
    (hb : w.heap[b]? = some (.map es clock)) (key z : Value) (hz : (zeroValue e).run P w = .ok z w) (hf : Instr.findNow d key es.toList 0 = some none) :
    (Instr.lookup t (.map (some b)) key false).run P w = .ok z w := by
  have h1 := run_getObj_of (P := P) w (o := .map es clock) es clock hb
  have h2 := fun em => run_checkKey_flat (P := P) w k d hk hd em key
  have h3 := run_findKey_of (P := P) w k d hk key es.toList _ hf
  simp only [Instr.lookup, Sem.run_bind, run_underlying ht, Result.andThen_ok, h1, h2, h3, hz, Sem.run_pure, if_true, Bool.false_eq_true, if_false]

/-- A key that is not in the map: a new entry. -/
theorem run_put_new (t k e : TypeId) (d : TypeDesc) (ht : P.underlying t = some (.map k e)) (hk : P.underlying k = some d) (hd : (∃ q, d = .int q) ∨ d = .string) (b : Nat) (es : Array MapEntry) (clock : Nat)
    (hb : w.heap[b]? = some (.map es clock)) (key v : Value) (hf : Instr.findNow d key es.toList 0 = some none) :
    (Instr.mapUpdate t (.map (some b)) key v).run P w = .ok () (setB w b (.map (es.push { key := key, val := v, born := clock }) (clock + 1))) := by
  have h1 := run_getObj_of (P := P) w (o := .map es clock) es clock hb
  have h2 := fun em => run_checkKey_flat (P := P) w k d hk hd em key
  have h3 := run_findKey_of (P := P) w k d hk key es.toList _ hf
  have h4 := run_setObj_of (P := P) w es clock hb
  simp only [Instr.mapUpdate, Sem.run_bind, run_underlying ht, Result.andThen_ok, h1, h2, h3, h4, Sem.run_pure]
end

/-- The entries of a map that was filled with the keys K 0, K 1, .. in that order. -/
def ents (K V : Nat → Value) (n : Nat) : Array MapEntry := ((List.range n).map fun i => { key := K i, val := V i, born := i }).toArray
theorem ents_succ (K V : Nat → Value) (n : Nat) : (ents K V n).push { key := K n, val := V n, born := n } = ents K V (n + 1) := by
  simp [ents, List.range_succ]

theorem findNow_none (d : TypeDesc) (key : Value) : ∀ (l : List MapEntry) (i : Nat), (∀ x ∈ l, Instr.sameNow d key x.key = some false) → Instr.findNow d key l i = some none
  | [], _, _ => rfl
  | x :: r, i, h => by
    rw [Instr.findNow, h x (by simp)]
    exact findNow_none d key r (i + 1) fun y hy => h y (by simp [hy])
theorem findNow_hit (d : TypeDesc) (key : Value) : ∀ (l : List MapEntry) (i j : Nat) (x : MapEntry), l[j]? = some x → Instr.sameNow d key x.key = some true → (∀ m y, m < j → l[m]? = some y → Instr.sameNow d key y.key = some false) →
    Instr.findNow d key l i = some (some (i + j, x.val))
  | [], _, _, _, h, _, _ => by simp at h
  | y :: r, i, 0, x, h, hs, _ => by
    simp at h; subst h
    rw [Instr.findNow, hs]; rfl
  | y :: r, i, j + 1, x, h, hs, hn => by
    rw [Instr.findNow, hn 0 y (by omega) rfl]
    have := findNow_hit d key r (i + 1) j x (by simpa using h) hs fun m z hm hz => hn (m + 1) z (by omega) (by simpa using hz)
    rw [this, show i + 1 + j = i + (j + 1) by omega]


theorem ba_beq (s t : ByteArray) : (s == t) = decide (s = t) := by
  by_cases h : s = t
  · subst h
    rw [decide_eq_true rfl]
    show (s.data == s.data) = true
    simp
  · rw [decide_eq_false h]
    show (s.data == t.data) = false
    simp
    intro e
    exact h (by cases s; cases t; simp_all)
theorem sameNow_str (s t : ByteArray) : Instr.sameNow .string (.string s) (.string t) = some (decide (s = t)) := by simp only [Instr.sameNow, ba_beq]
def strK (κ : Nat → ByteArray) : Nat → Value := fun i => .string (κ i)
def ptrV (β : Nat → Nat) : Nat → Value := fun i => .pointer (some ⟨β i, 0, none⟩)
theorem strs_new (κ : Nat → ByteArray) (V : Nat → Value) (n : Nat) (s : ByteArray) (h : ∀ i, i < n → κ i ≠ s) : Instr.findNow .string (.string s) (ents (strK κ) V n).toList 0 = some none := by
  refine findNow_none _ _ _ _ fun x hx => ?_
  simp [ents] at hx
  obtain ⟨i, hi, rfl⟩ := hx
  rw [strK, sameNow_str, decide_eq_false fun e => h i hi e.symm]
theorem strs_hit (κ : Nat → ByteArray) (V : Nat → Value) (n j : Nat) (hj : j < n) (h : ∀ i, i < j → κ i ≠ κ j) : Instr.findNow .string (.string (κ j)) (ents (strK κ) V n).toList 0 = some (some (j, V j)) := by
  have := findNow_hit .string (.string (κ j)) (ents (strK κ) V n).toList 0 j { key := .string (κ j), val := V j, born := j } (by simp [ents, hj, strK]) (by rw [sameNow_str]; simp) (fun m y hm hy => by
    simp [ents, show m < n by omega, strK] at hy
    subst hy
    rw [sameNow_str, decide_eq_false fun e => h m hm e.symm])
  rw [this]
  simp
theorem zero76 (w : World) : (zeroValue 76).run Try.prog w = .ok (.pointer none) w := by kernel_rfl
theorem map_hit (w : World) (m c j : Nat) (κ : Nat → ByteArray) (β : Nat → Nat) (h : w.heap[m]? = some (.map (ents (strK κ) (ptrV β) c) c)) (hj : j < c) (hd : ∀ i, i < j → κ i ≠ κ j) (s : ByteArray) (hs : s = κ j) :
    (Instr.lookup 72 (.map (some m)) (.string s) false).run Try.prog w = .ok (.pointer (some ⟨β j, 0, none⟩)) w := by
  subst hs
  exact run_look_hit (P := Try.prog) w 72 9 76 .string Try.underlying72 Try.underlying9 (.inr rfl) m _ _ h _ _ j (strs_hit κ (ptrV β) c j hj hd)
theorem map_miss (w : World) (m c : Nat) (κ : Nat → ByteArray) (β : Nat → Nat) (h : w.heap[m]? = some (.map (ents (strK κ) (ptrV β) c) c)) (s : ByteArray) (hs : ∀ i, i < c → κ i ≠ s) :
    (Instr.lookup 72 (.map (some m)) (.string s) false).run Try.prog w = .ok (.pointer none) w :=
  run_look_miss (P := Try.prog) w 72 9 76 .string Try.underlying72 Try.underlying9 (.inr rfl) m _ _ h _ _ (zero76 w) (strs_new κ (ptrV β) c s hs)
theorem ents_congr {K K' V V' : Nat → Value} {n : Nat} (h : ∀ i, i < n → K i = K' i ∧ V i = V' i) : ents K V n = ents K' V' n := by
  unfold ents
  congr 1
  refine List.map_congr_left fun i hi => ?_
  have := h i (List.mem_range.1 hi)
  rw [this.1, this.2]
theorem map_put (w : World) (m c b : Nat) (κ : Nat → ByteArray) (β : Nat → Nat) (h : w.heap[m]? = some (.map (ents (strK κ) (ptrV β) c) c)) (s : ByteArray) (hs : ∀ i, i < c → κ i ≠ s) :
    (Instr.mapUpdate 72 (.map (some m)) (.string s) (.pointer (some ⟨b, 0, none⟩))).run Try.prog w = .ok () (setB w m (.map (ents (strK (upd κ c s)) (ptrV (upd β c b)) (c + 1)) (c + 1))) := by
  have := run_put_new (P := Try.prog) w 72 9 76 .string Try.underlying72 Try.underlying9 (.inr rfl) m _ _ h (.string s) (.pointer (some ⟨b, 0, none⟩)) (strs_new κ (ptrV β) c s hs)
  rw [this, ← ents_succ]
  congr 4
  · exact ents_congr fun i hi => ⟨by simp only [strK]; rw [upd_other _ _ (by omega)], by simp only [ptrV]; rw [upd_other _ _ (by omega)]⟩
  · simp only [strK, ptrV, upd_same]
end Go.Proofs.Qxb6000570a
