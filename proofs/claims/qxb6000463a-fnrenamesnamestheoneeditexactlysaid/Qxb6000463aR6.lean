/-
  The plain side of the law on Renames: the edited outline.
-/
import Derived.Test.Qxb6000463aR5
namespace Go.Proofs.Qxb6000463a
open Go.RowKit
set_option linter.unusedVariables false
set_option linter.unusedSimpArgs false

/-- The outline O with table K renamed to (s, m), column C to cn where cE, partition Q to pn where pE. -/
def ed (O : OD) (K : Nat) (s m : ByteArray) (cE : Bool) (C : Nat) (cn : ByteArray) (pE : Bool) (Q : Nat) (pn : ByteArray) : OD :=
  ⟨fun i => if i = K then s else O.sch i, fun i => if i = K then m else O.nam i, O.nc, O.np, fun i j => if cE = true ∧ i = K ∧ j = C then cn else O.col i j, fun i j => if pE = true ∧ i = K ∧ j = Q then pn else O.prt i j⟩

theorem ed_one (n : Nat) (O : OD) (K : Nat) (s m : ByteArray) (cE : Bool) (C : Nat) (cn : ByteArray) (pE : Bool) (Q : Nat) (pn : ByteArray) : OneEdit n K C Q O (ed O K s m cE C cn pE Q pn) where
  nc := rfl
  np := rfl
  sch := fun i _ h => by simp [ed, h]
  nam := fun i _ h => by simp [ed, h]
  col := fun i j _ _ h => by simp only [ed]; rw [if_neg]; rintro ⟨_, h1, h2⟩; exact h ⟨h1, h2⟩
  prt := fun i j _ _ h => by simp only [ed]; rw [if_neg]; rintro ⟨_, h1, h2⟩; exact h ⟨h1, h2⟩

theorem Els.set' {w : World} {b n sz : Nat} {g : Nat → Nat → Value} (h : Els w b n sz g) {k l o : Nat} (hk : k < n) (hl : l < sz) (ho : o = k * sz + l) (v : Value) :
    Els (w.setCell ⟨b, o, none⟩ v) b n sz (fun i j => if i = k ∧ j = l then v else g i j) := by
  subst ho; exact h.set hk hl v

theorem outl_setT {w : World} {b n : Nat} {O : OD} {K : Nat} (h : Outl w b n O) (hK : K < n) (s m cn pn : ByteArray) (C Q : Nat) :
    Outl (((w.setCell ⟨b + 1, K * 11, none⟩ (.string s)).setCell ⟨b + 1, K * 11 + 1, none⟩ (.string m)).setCell ⟨b + 1, K * 11 + 2, none⟩ (.string m)) b n (ed O K s m false C cn false Q pn) where
  tab := by
    refine (((h.tab.set' hK (l := 0) (by omega) rfl _).set' hK (l := 1) (by omega) rfl _).set' hK (l := 2) (by omega) rfl _).congr fun i hi j hj => ?_
    by_cases e : i = K
    · subst e
      have : j = 0 ∨ j = 1 ∨ j = 2 ∨ j = 3 ∨ j = 4 ∨ j = 5 ∨ j = 6 ∨ j = 7 ∨ j = 8 ∨ j = 9 ∨ j = 10 := by omega
      rcases this with rfl | rfl | rfl | rfl | rfl | rfl | rfl | rfl | rfl | rfl | rfl <;> simp [tabEl, ed]
    · simp only [e, false_and, if_false]
      have : j = 0 ∨ j = 1 ∨ j = 2 ∨ j = 3 ∨ j = 4 ∨ j = 5 ∨ j = 6 ∨ j = 7 ∨ j = 8 ∨ j = 9 ∨ j = 10 := by omega
      rcases this with rfl | rfl | rfl | rfl | rfl | rfl | rfl | rfl | rfl | rfl | rfl <;> simp [tabEl, ed, e]
  cols := fun i hi => by
    have := ((((h.cols i hi).other (a := ⟨b + 1, K * 11, none⟩) (by simp; omega) (.string s)).other (a := ⟨b + 1, K * 11 + 1, none⟩) (by simp; omega) (.string m)).other (a := ⟨b + 1, K * 11 + 2, none⟩) (by simp; omega) (.string m))
    exact this.congr fun i hi j hj => by simp [ed]
  fks := fun i hi => by
    have := ((((h.fks i hi).other (a := ⟨b + 1, K * 11, none⟩) (by simp; omega) (.string s)).other (a := ⟨b + 1, K * 11 + 1, none⟩) (by simp; omega) (.string m)).other (a := ⟨b + 1, K * 11 + 2, none⟩) (by simp; omega) (.string m))
    exact this.congr fun i hi j hj => by simp [ed]

theorem outl_setC {w : World} {b n : Nat} {O : OD} {K : Nat} {s m cn pn : ByteArray} {C Q : Nat} (h : Outl w b n (ed O K s m false C cn false Q pn)) (hK : K < n) (hC : C < O.nc K) :
    Outl ((w.setCell ⟨b + 2 + 2 * K, C * 8, none⟩ (.string cn)).setCell ⟨b + 2 + 2 * K, C * 8 + 1, none⟩ (.string cn)) b n (ed O K s m true C cn false Q pn) where
  tab := ((h.tab.other (a := ⟨b + 2 + 2 * K, C * 8, none⟩) (by simp; omega) _).other (a := ⟨b + 2 + 2 * K, C * 8 + 1, none⟩) (by simp; omega) _).congr fun i hi j hj => by
    have : j = 0 ∨ j = 1 ∨ j = 2 ∨ j = 3 ∨ j = 4 ∨ j = 5 ∨ j = 6 ∨ j = 7 ∨ j = 8 ∨ j = 9 ∨ j = 10 := by omega
    rcases this with rfl | rfl | rfl | rfl | rfl | rfl | rfl | rfl | rfl | rfl | rfl <;> simp [tabEl, ed]
  cols := fun i hi => by
    by_cases e : i = K
    · subst e
      refine (((h.cols i hi).set' hC (l := 0) (by omega) rfl _).set' hC (l := 1) (by omega) rfl _).congr fun x hx j hj => ?_
      by_cases ex : x = C
      · subst ex
        have : j = 0 ∨ j = 1 ∨ j = 2 ∨ j = 3 ∨ j = 4 ∨ j = 5 ∨ j = 6 ∨ j = 7 := by omega
        rcases this with rfl | rfl | rfl | rfl | rfl | rfl | rfl | rfl <;> simp [colEl, ed]
      · have : j = 0 ∨ j = 1 ∨ j = 2 ∨ j = 3 ∨ j = 4 ∨ j = 5 ∨ j = 6 ∨ j = 7 := by omega
        rcases this with rfl | rfl | rfl | rfl | rfl | rfl | rfl | rfl <;> simp [colEl, ed, ex]
    · refine (((h.cols i hi).other (a := ⟨b + 2 + 2 * K, C * 8, none⟩) (by simp; omega) _).other (a := ⟨b + 2 + 2 * K, C * 8 + 1, none⟩) (by simp; omega) _).congr fun x hx j hj => ?_
      simp [ed, e]
  fks := fun i hi => (((h.fks i hi).other (a := ⟨b + 2 + 2 * K, C * 8, none⟩) (by simp; omega) _).other (a := ⟨b + 2 + 2 * K, C * 8 + 1, none⟩) (by simp; omega) _).congr fun x hx j hj => by simp [ed]

theorem outl_setP {w : World} {b n : Nat} {O : OD} {K : Nat} {s m cn pn : ByteArray} {cE : Bool} {C Q : Nat} (h : Outl w b n (ed O K s m cE C cn false Q pn)) (hK : K < n) (hQ : Q < O.np K) :
    Outl (w.setCell ⟨b + 3 + 2 * K, Q * 10 + 5, none⟩ (.string pn)) b n (ed O K s m cE C cn true Q pn) where
  tab := (h.tab.other (a := ⟨b + 3 + 2 * K, Q * 10 + 5, none⟩) (by simp; omega) _).congr fun i hi j hj => by
    have : j = 0 ∨ j = 1 ∨ j = 2 ∨ j = 3 ∨ j = 4 ∨ j = 5 ∨ j = 6 ∨ j = 7 ∨ j = 8 ∨ j = 9 ∨ j = 10 := by omega
    rcases this with rfl | rfl | rfl | rfl | rfl | rfl | rfl | rfl | rfl | rfl | rfl <;> simp [tabEl, ed]
  cols := fun i hi => ((h.cols i hi).other (a := ⟨b + 3 + 2 * K, Q * 10 + 5, none⟩) (by simp; omega) _).congr fun x hx j hj => by simp [ed]
  fks := fun i hi => by
    by_cases e : i = K
    · subst e
      refine ((h.fks i hi).set' hQ (l := 5) (by omega) rfl _).congr fun x hx j hj => ?_
      by_cases ex : x = Q
      · subst ex
        have : j = 0 ∨ j = 1 ∨ j = 2 ∨ j = 3 ∨ j = 4 ∨ j = 5 ∨ j = 6 ∨ j = 7 ∨ j = 8 ∨ j = 9 := by omega
        rcases this with rfl | rfl | rfl | rfl | rfl | rfl | rfl | rfl | rfl | rfl <;> simp [fkEl, ed]
      · have : j = 0 ∨ j = 1 ∨ j = 2 ∨ j = 3 ∨ j = 4 ∨ j = 5 ∨ j = 6 ∨ j = 7 ∨ j = 8 ∨ j = 9 := by omega
        rcases this with rfl | rfl | rfl | rfl | rfl | rfl | rfl | rfl | rfl | rfl <;> simp [fkEl, ed, ex]
    · refine ((h.fks i hi).other (a := ⟨b + 3 + 2 * K, Q * 10 + 5, none⟩) (by simp; omega) _).congr fun x hx j hj => ?_
      simp [ed, e]

theorem hitC_off {O : OD} {K C Q : Nat} {s m cn pn : ByteArray} {pE : Bool} : hitC K C O (ed O K s m false C cn pE Q pn) K (O.nc K) = false := by
  simp [hitC, ed]
theorem hitC_on {O : OD} {K C Q : Nat} {s m cn pn : ByteArray} {pE : Bool} (h : C < O.nc K) : hitC K C O (ed O K s m true C cn pE Q pn) K (O.nc K) = !((O.col K C).toList == cn.toList) := by
  simp [hitC, ed, h]
theorem hitP_off {O : OD} {K C Q : Nat} {s m cn pn : ByteArray} {cE : Bool} : hitP K Q O (ed O K s m cE C cn false Q pn) K (O.np K) = false := by
  simp [hitP, ed]
theorem hitP_on {O : OD} {K C Q : Nat} {s m cn pn : ByteArray} {cE : Bool} (h : Q < O.np K) : hitP K Q O (ed O K s m cE C cn true Q pn) K (O.np K) = !((O.prt K Q).toList == pn.toList) := by
  simp [hitP, ed, h]
/-- Where the column has turned: it was edited, it is in range, its new name is cn. -/
theorem hitC_true {O : OD} {K C Q : Nat} {s m cn pn : ByteArray} {cE pE : Bool} (h : hitC K C O (ed O K s m cE C cn pE Q pn) K (O.nc K) = true) : cE = true ∧ C < O.nc K ∧ (ed O K s m cE C cn pE Q pn).col K C = cn := by
  cases cE with
  | false => rw [hitC_off] at h; cases h
  | true =>
    refine ⟨rfl, ?_, by simp [ed]⟩
    simp [hitC] at h
    exact h.1
theorem hitP_true {O : OD} {K C Q : Nat} {s m cn pn : ByteArray} {cE pE : Bool} (h : hitP K Q O (ed O K s m cE C cn pE Q pn) K (O.np K) = true) : pE = true ∧ Q < O.np K ∧ (ed O K s m cE C cn pE Q pn).prt K Q = pn := by
  cases pE with
  | false => rw [hitP_off] at h; cases h
  | true =>
    refine ⟨rfl, ?_, by simp [ed]⟩
    simp [hitP] at h
    exact h.1
theorem chg_ed {O : OD} {K C Q : Nat} {s m cn pn : ByteArray} {cE pE : Bool} : chg K C Q O (ed O K s m cE C cn pE Q pn) = (!((O.sch K).toList == s.toList) || !((O.nam K).toList == m.toList) || hitC K C O (ed O K s m cE C cn pE Q pn) K (O.nc K) || hitP K Q O (ed O K s m cE C cn pE Q pn) K (O.np K)) := by
  simp [chg, ed]

theorem TabSl.below {w w' : World} {ao : Option Addr} {n : Nat} {T : TD} (h : TabSl w ao n T) (hb : Below w.heap.size w w') : TabSl w' ao n T := fun h0 => by
  obtain ⟨b, off, e, hc⟩ := h h0
  refine ⟨b, off, e, fun i hi => ?_⟩
  obtain ⟨c0, c1, c2, c3, c4, c5⟩ := hc i hi
  refine ⟨cell_later hb c0, cell_later hb c1, cell_later hb c2, cell_later hb c3, fun h0 => ?_, fun h0 => ?_⟩
  · obtain ⟨b', off', e', hc'⟩ := c4 h0
    exact ⟨b', off', e', fun k hk => cell_later hb (hc' k hk)⟩
  · obtain ⟨b', off', e', hc'⟩ := c5 h0
    exact ⟨b', off', e', fun k hk => cell_later hb (hc' k hk)⟩
end Go.Proofs.Qxb6000463a
