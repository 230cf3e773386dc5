/-
  The row of FnWrittenColumnsGivesTheLastHoldersWrittenName, out of the walk 'law8'; the frame after the guide's shell of a proof.
-/
import Derived.Test.Qxb6000463aRows
import Derived.Test.Qxb6000463aOpen
import Derived.Test.Qxb6000463aW6
import Derived.Test.Qxb6000463aFacts8
import Derived.WalkKit
import Derived.ProofKit
import Derived.OpenShut
import Derived.ShutString
import Derived.ChangeOld
import Derived.Below
namespace Go.Proofs.Qxb6000463a.fnWrittenColumnsGivesTheLastHoldersWrittenName
open Go.ChangeShapes Go.WideShapes Go.ChangeAt Go.RowKit
open Go.ChangeMaps (open_string shut_string)
set_option linter.unusedVariables false

theorem law8 (ao : Option Addr) (n c : Nat) (A B : Nat → ByteArray) (w : World) (hn : n ≤ 9223372036854775807) (hs : ∀ k, k < n → (A k).size ≤ 9223372036854775807 ∧ (B k).size ≤ 9223372036854775807)
   (hc : ColSl w ao n A B) (bo : Option Addr) (m d : Nat) (S : Nat → ByteArray) (hm : m ≤ 9223372036854775807) (hs2 : ∀ k, k < m → (S k).size ≤ 9223372036854775807) (hc2 : StrSl w bo m S)
   (hnil : bo = none → m = 0 ∧ d = 0) : Calls Try.prog 8 #[.slice ao n c, .slice bo m d] w (P8 w) := by
  cases bo with
  | none =>
    obtain ⟨rfl, rfl⟩ := hnil rfl
    exact law8_nil ao n c A B w hn hs hc
  | some ad => exact law8_some ao n c A B w hn hs hc ad m d S hm hs2 hc2

theorem open_nil {H : Type} {enc : TypeId × Value → H} {W : World} {fuel : Nat} {ao : Option Addr} {n c : Nat} {x : DataW H × List MemPlace}
    (hf : DataW.trod enc Try.prog W 0 (fun _ => true) true fuel 35 (Value.slice ao n c).cells.toList = some x) : ao = none → n = 0 ∧ c = 0 := by
  rcases open_strings Try.underlying35 Try.underlying9 (by kernel_rfl) hf with ⟨hcs, _⟩ | ⟨a, l, cap, ss, hcs, _, hl, hm, hz, _, hcell, hws⟩
  · simp [Value.cells] at hcs
    obtain ⟨rfl, rfl, rfl⟩ := hcs
    exact fun _ => ⟨rfl, rfl⟩
  · simp [Value.cells] at hcs
    obtain ⟨rfl, rfl, rfl⟩ := hcs
    exact fun h => by cases h

theorem own : ownKnob Try.prog.godebug = none := by kernel_rfl
theorem laidOut : laidOutB Try.prog = true := by kernel_rfl

/-! ### THE ROW's STEP: WRITTEN OUT: LEAVE IT -/
set_option maxRecDepth 100000 in
theorem lifted (os : Os) (started : os.Started) (H : Type) (enc : TypeId × Value → H) :
    ReturnsInHanded {} Try.checked os 8 .any (Rows.fnWrittenColumnsGivesTheLastHoldersWrittenNameSpec.pre6 enc Try.prog Try.f8 Rows.fnWrittenColumnsGivesTheLastHoldersWrittenNameRow.domain false) (Rows.fnWrittenColumnsGivesTheLastHoldersWrittenNameSpec.post enc Try.prog Try.f8 false true false false) := by
  refine returnsInHanded_of_change (C := Try.checked) own started (by kernel_rfl) Try.func8
    (ChangeSpec.witness6 (enc := enc) (C := Try.checked) false ⟨#[], #[.slice none 0 0, .slice none 0 0], []⟩ 8 (by kernel_rfl) (by kernel_rfl) (by kernel_rfl) (by kernel_rfl)) ?_
  intro W base args ds gs before hval0 hW hcnd _
  have hval : ∀ (j : Nat) t v, Try.f8.params[j]? = some t → args[j]? = some v → Value.okWide Try.prog W .any base t v := hval0
  have hW' := hW
  obtain ⟨p, q, hA0, hV, rfl, hfz, hnd⟩ := hW
  have hA : DataW.TrodAll enc Try.prog W 0 (fun _ => true) true Try.f8.params.toList args.toList ds p := hA0
  rw [Try.params8] at hA hval
  obtain ⟨v0, vs0, d0, ds0, p0, q0, hargs, rfl, rfl, h0, r0⟩ := trodAll_cons hA
  obtain ⟨v1, vs1, d1, ds1, p1, q1, rfl, rfl, rfl, h1, r1⟩ := trodAll_cons r0
  obtain ⟨rfl, rfl, rfl⟩ := trodAll_nil r1
  obtain rfl : args = #[v0, v1] := by cases args; simp_all
  obtain ⟨rfl, rfl⟩ := trodVars_none hV
  obtain ⟨a0, len0, cap0, rfl⟩ := okWide_slice Try.underlying89 (hval 0 89 v0 rfl rfl)
  have k0 := h0
  have lt0 : ∀ x ∈ p0, x.block < W.heap.size := by obtain ⟨m, hm⟩ := k0; exact DataW.trod_lt m _ _ _ hm
  obtain ⟨f0, hf0⟩ := h0
  obtain ⟨A, B, w0, n0, s0⟩ := open_cols hf0
  obtain ⟨a1, len1, cap1, rfl⟩ := okWide_slice Try.underlying35 (hval 1 35 v1 rfl rfl)
  have k1 := h1
  have lt1 : ∀ x ∈ p1, x.block < W.heap.size := by obtain ⟨m, hm⟩ := k1; exact DataW.trod_lt m _ _ _ hm
  obtain ⟨f1, hf1⟩ := h1
  obtain ⟨S, w1, n1, s1⟩ := open_strings' hf1
  have hnil := open_nil hf1
  clear hA0 hval0
  refine (law8 a0 len0 cap0 A B W n0 s0 w0 a1 len1 cap1 S n1 s1 w1 hnil).mono fun e W' ⟨he, bel⟩ => ?_
  subst he
  exact ⟨_, rfl, _, _, _, [], _, [], hW', trodAll_mk1 (shut_bool Try.underlying4 _), (trodAll_cons_mk (Below.trod laidOut (by kernel_rfl) (of_decide_eq_true (by kernel_rfl)) k0 bel lt0) (trodAll_cons_mk (Below.trod laidOut (by kernel_rfl) (of_decide_eq_true (by kernel_rfl)) k1 bel lt1) trodAll_mk0)), rfl, bel.frame _, fun h => by cases h⟩

theorem hfn8 : Try.pinned.checked.prog.funcNamed Rows.fnWrittenColumnsGivesTheLastHoldersWrittenNameRow.func = some 8 := by kernel_rfl
theorem over : Rows.fnWrittenColumnsGivesTheLastHoldersWrittenNameRow.holds Try.pinned (OpenSpec.ofChange Rows.fnWrittenColumnsGivesTheLastHoldersWrittenNameSpec) :=
  OpenClaim.holds_of_wide 8 Try.f8 rfl rfl rfl rfl rfl rfl rfl ⟨rfl, rfl, rfl, rfl, rfl⟩ rfl rfl rfl rfl rfl hfn8 Try.func8 facts
    (of_decide_eq_true (by kernel_rfl)) (by unfold Func.isWrapper; first | (rw [if_pos (by decide +kernel)]; kernel_rfl) | (rw [if_neg (by decide +kernel)]; exact ⟨rfl, rfl⟩))
    (fun os started H enc _ => lifted os started H enc)

theorem proved : Rows.FnWrittenColumnsGivesTheLastHoldersWrittenNameSaid := over
end Go.Proofs.Qxb6000463a.fnWrittenColumnsGivesTheLastHoldersWrittenName
namespace Go.Proofs.Qxb6000463a
theorem fnWrittenColumnsGivesTheLastHoldersWrittenName_proved : Rows.FnWrittenColumnsGivesTheLastHoldersWrittenNameSaid := fnWrittenColumnsGivesTheLastHoldersWrittenName.proved
end Go.Proofs.Qxb6000463a
