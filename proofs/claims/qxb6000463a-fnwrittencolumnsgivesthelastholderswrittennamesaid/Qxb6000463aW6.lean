/-
  WALK: the law FnWrittenColumnsGivesTheLastHoldersWrittenName (8).
-/
import Derived.Test.Qxb6000463aW5
namespace Go.Proofs.Qxb6000463a
open Go.RowKit
set_option linter.unusedVariables false
set_option linter.unusedSimpArgs false

theorem StrSl.below {w w' : World} {ao : Option Addr} {n : Nat} {S : Nat → ByteArray} (h : StrSl w ao n S) (hb : Below w.heap.size w w') : StrSl w' ao n S := fun h0 => by
  obtain ⟨b, off, e, hc⟩ := h h0
  exact ⟨b, off, e, fun k hk => cell_later hb (hc k hk)⟩
theorem els_sl {w : World} {b m : Nat} {S : Nat → ByteArray} (h : Els w b m 1 (fun i _ => .string (S i))) : StrSl w (some ⟨b, 0, none⟩) m S :=
  fun _ => ⟨b, 0, rfl, fun k hk => by rw [Nat.zero_add, h.cell1 hk]⟩

def noS : Nat → ByteArray := fun _ => ⟨#[]⟩
/-- The tail of the law: the names (a slice of the call's own or nil), wTable, ZZWrittenColumns, the comparing loop. -/
def P8 (w : World) (e : Ending) (w' : World) : Prop := e = .returned (.bool true) ∧ Below w.heap.size w w'

/-- From the end: the columns from l on do not hold s: then look over all is look over the first l. -/
theorem look_tail (A B : Nat → ByteArray) (s : ByteArray) (l : Nat) : ∀ n, l ≤ n → (∀ j, l ≤ j → j < n → ((A j).toList == s.toList) = false) → look A B s n = look A B s l
  | 0, h, _ => by rw [show l = 0 by omega]
  | n + 1, h, hd => by
    by_cases e : l = n + 1
    · rw [e]
    · rw [look, hd n (by omega) (by omega)]
      simp only [Bool.false_eq_true, if_false]
      exact look_tail A B s l n (by omega) fun j h1 h2 => hd j h1 (by omega)

set_option maxRecDepth 20000 in
set_option maxHeartbeats 1000000 in
theorem law8_nil (ao : Option Addr) (n c : Nat) (A B : Nat → ByteArray) (w : World) (hn : n ≤ 9223372036854775807) (hs : ∀ k, k < n → (A k).size ≤ 9223372036854775807 ∧ (B k).size ≤ 9223372036854775807)
   (hc : ColSl w ao n A B) :
    Calls Try.prog 8 #[.slice ao n c, .slice none 0 0] w (P8 w) := by
  have HC2 : Hid (StrSl w none 0 noS) := fun h => absurd h (by omega)
  have HS2 : Hid (∀ k, k < 0 → (noS k).size ≤ 9223372036854775807) := fun k hk => absurd hk (by omega)
  have hm : 0 ≤ 9223372036854775807 := by omega
  have HC : Hid (ColSl w ao n A B) := hc
  have HS : Hid (∀ k, k < n → (A k).size ≤ 9223372036854775807 ∧ (B k).size ≤ 9223372036854775807) := hs
  clear hc hs
  have hq : ∀ (w : World) (r : Option Addr) (l c : Nat), (binOp .neq 35 (.slice r l c) (.slice none 0 0)).run Try.prog w = .ok (.bool (!r.isNone)) w := fun w r l c => run_neq_slice_nil_any w 35 9 r l c 0 0 Try.underlying35
  go_enter Try.func8, Try.ntmps8
  go_wp2_with fail
  refine (zz27 ao n c A B _ hn HS.out HC.out none 0 0 noS hm HS2.out HC2.out).mono ?_
  rintro e w1 ⟨⟨r, rfl, hr⟩, hw1⟩
  subst w1
  cases r with
  | false =>
    clear hr
    go_wp2
    go_ret
    exact ⟨rfl, Below.refl _ _⟩
  | true =>
    obtain ⟨hn1, hm1, hs1, hs3⟩ := hr rfl
    have HS1 : Hid (∀ k, k < n → (A k).size ≤ 1048576 ∧ (B k).size ≤ 1048576) := hs1
    have HS3 : Hid (∀ k, k < 0 → (noS k).size ≤ 1048576) := hs3
    clear hs1 hs3 hr HS HS2
    go_wp2_with fail
    refine (ok28 ao n c A B _ hn1 HS1.out HC.out none 0 0 noS hm1 HS3.out HC2.out).mono ?_
    rintro e w1 ⟨⟨r, rfl, hr⟩, q, hw1⟩
    subst w1
    cases r with
    | false =>
      clear hr
      go_wp2
      go_ret
      exact ⟨rfl, below_drewN0 _ _ _⟩
    | true =>
      obtain ⟨hn2, hm2⟩ := hr rfl
      clear hr hn1 hm1 HS1 HS3
      obtain ⟨w2, hw2⟩ : ∃ x, x = w.drewN q := ⟨_, rfl⟩
      have HB2 : Hid (Below w.heap.size w w2) := by rw [hw2]; exact below_drewN0 _ _ _
      go_wp2_with fail
      rw [← hw2]
      clear hw2
      have HX : Hid (StrSl w2 none 0 noS) := fun h => absurd h (by omega)
      refine (wTable30 ao n c A B _ hn2 (HC.out.below HB2.out)).mono ?_
      rintro e w3 ⟨g1, rfl, hg1, he1, hb3⟩
      have HE1 : Hid (Els w3 g1 n 8 (colEl A B)) := he1
      have HB3 : Hid (Below w2.heap.size w2 w3) := hb3
      have HX3' : Hid (StrSl w3 none 0 noS) := HX.out.below hb3
      clear he1 hb3
      go_wp2_with fail
      refine (zz29 g1 n A B _ hn2 HE1.out _ 0 _ noS hm2 HX3'.out).mono ?_
      rintro e w4 ⟨g2, rfl, hg2, he2, hb4⟩
      have HE2 : Hid (Els w4 g2 0 1 (lookEl A B noS n)) := he2
      have HX4' : Hid (StrSl w4 none 0 noS) := HX3'.out.below hb4
      have HB4 : Hid (Below w.heap.size w w4) := by
        have s1 := HB2.out.size
        have s2 := HB3.out.size
        exact HB2.out.trans ((HB3.out.mono (by omega)).trans (hb4.mono (by omega)))
      have HC4 : Hid (ColSl w4 ao n A B) := HC.out.below HB4.out
      clear he2 hb4 HX3' HX HB2 HB3 HE1 HC2 hg1 hg2
      go_wp2_with fail
      go_loopw [7, 8, 9] (fun i _ _ wr => ∃ t : Nat, t ≤ 0 ∧ i = .int .i64 t ∧ ∃ q, wr = w4.drewN q) (fun i _ _ _ => 0 - (intOf i).toNat)
      case atStart => exact ⟨0, by omega, rfl, 0, rfl⟩
      case round =>
        obtain ⟨t, ht, rfl, q2, rfl⟩ := hrel
        by_cases hlt3 : t < 0
        · exact absurd hlt3 (by omega)
        · obtain rfl : t = 0 := by omega
          go_wp2
          go_ret
          exact ⟨rfl, Below.drewN' HB4.out _⟩

set_option maxRecDepth 20000 in
set_option maxHeartbeats 1000000 in
theorem law8_some (ao : Option Addr) (n c : Nat) (A B : Nat → ByteArray) (w : World) (hn : n ≤ 9223372036854775807) (hs : ∀ k, k < n → (A k).size ≤ 9223372036854775807 ∧ (B k).size ≤ 9223372036854775807)
   (hc : ColSl w ao n A B) (ad : Addr) (m d : Nat) (S : Nat → ByteArray) (hm : m ≤ 9223372036854775807) (hs2 : ∀ k, k < m → (S k).size ≤ 9223372036854775807) (hc2 : StrSl w (some ad) m S) :
    Calls Try.prog 8 #[.slice ao n c, .slice (some ad) m d] w (P8 w) := by
  have HC2 : Hid (StrSl w (some ad) m S) := hc2
  have HS2 : Hid (∀ k, k < m → (S k).size ≤ 9223372036854775807) := hs2
  clear hc2 hs2
  have HC : Hid (ColSl w ao n A B) := hc
  have HS : Hid (∀ k, k < n → (A k).size ≤ 9223372036854775807 ∧ (B k).size ≤ 9223372036854775807) := hs
  clear hc hs
  have hq : ∀ (w : World) (r : Option Addr) (l c : Nat), (binOp .neq 35 (.slice r l c) (.slice none 0 0)).run Try.prog w = .ok (.bool (!r.isNone)) w := fun w r l c => run_neq_slice_nil_any w 35 9 r l c 0 0 Try.underlying35
  go_enter Try.func8, Try.ntmps8
  go_wp2_with fail
  refine (zz27 ao n c A B _ hn HS.out HC.out (some ad) m d S hm HS2.out HC2.out).mono ?_
  rintro e w1 ⟨⟨r, rfl, hr⟩, hw1⟩
  subst w1
  cases r with
  | false =>
    clear hr
    go_wp2
    go_ret
    exact ⟨rfl, Below.refl _ _⟩
  | true =>
    obtain ⟨hn1, hm1, hs1, hs3⟩ := hr rfl
    have HS1 : Hid (∀ k, k < n → (A k).size ≤ 1048576 ∧ (B k).size ≤ 1048576) := hs1
    have HS3 : Hid (∀ k, k < m → (S k).size ≤ 1048576) := hs3
    clear hs1 hs3 hr HS HS2
    go_wp2_with fail
    refine (ok28 ao n c A B _ hn1 HS1.out HC.out (some ad) m d S hm1 HS3.out HC2.out).mono ?_
    rintro e w1 ⟨⟨r, rfl, hr⟩, q, hw1⟩
    subst w1
    cases r with
    | false =>
      clear hr
      go_wp2
      go_ret
      exact ⟨rfl, below_drewN0 _ _ _⟩
    | true =>
      obtain ⟨hn2, hm2⟩ := hr rfl
      clear hr hn1 hm1 HS1 HS3
      have hmk := make9 m (by omega)
      have hst : Els ((w.drewN q).alloc (.cells (mk9 m) 9)) w.heap.size m 1 (fun _ _ => .string ⟨#[]⟩) := by
        refine (els_made (w.drewN q) m 1 #[.string ⟨#[]⟩] rfl (by omega) 9).congr fun i hi j hj => ?_
        obtain rfl : j = 0 := by omega
        simp
      obtain ⟨w2, hrun, hcp, hcb⟩ := run_copy_strs _ w.heap.size m (some ad) d _ hst S (HC2.out.below ((below_drewN0 _ _ _).alloc (Nat.le_refl _) _))
      have HX : Hid (StrSl w2 (some ⟨w.heap.size, 0, none⟩) m S) := els_sl hcp
      have HB2 : Hid (Below w.heap.size w w2) := ((below_drewN0 _ _ q).alloc (Nat.le_refl _) _).trans hcb
      clear hcp hcb hst
      go_wp2_with fail
      clear hmk hrun
      refine (wTable30 ao n c A B _ hn2 (HC.out.below HB2.out)).mono ?_
      rintro e w3 ⟨g1, rfl, hg1, he1, hb3⟩
      have HE1 : Hid (Els w3 g1 n 8 (colEl A B)) := he1
      have HB3 : Hid (Below w2.heap.size w2 w3) := hb3
      have HX3' : Hid (StrSl w3 (some ⟨w.heap.size, 0, none⟩) m S) := HX.out.below hb3
      clear he1 hb3
      go_wp2_with fail
      refine (zz29 g1 n A B _ hn2 HE1.out _ m _ S hm2 HX3'.out).mono ?_
      rintro e w4 ⟨g2, rfl, hg2, he2, hb4⟩
      have HE2 : Hid (Els w4 g2 m 1 (lookEl A B S n)) := he2
      have HX4' : Hid (StrSl w4 (some ⟨w.heap.size, 0, none⟩) m S) := HX3'.out.below hb4
      have HB4 : Hid (Below w.heap.size w w4) := by
        have s1 := HB2.out.size
        have s2 := HB3.out.size
        exact HB2.out.trans ((HB3.out.mono (by omega)).trans (hb4.mono (by omega)))
      have HC4 : Hid (ColSl w4 ao n A B) := HC.out.below HB4.out
      clear he2 hb4 HX3' HX HB2 HB3 HE1 HC2 hg1 hg2
      go_wp2_with fail
      go_loopw [7, 8, 9] (fun i _ _ wr => ∃ t : Nat, t ≤ m ∧ i = .int .i64 t ∧ ∃ q, wr = w4.drewN q) (fun i _ _ _ => m - (intOf i).toNat)
      case atStart => exact ⟨0, by omega, rfl, 0, rfl⟩
      case round =>
        obtain ⟨t, ht, rfl, q2, rfl⟩ := hrel
        by_cases hlt3 : t < m
        · obtain ⟨b3, off3, hx1, hx2⟩ := HX4'.out (by omega)
          simp at hx1
          obtain ⟨rfl, rfl⟩ := hx1
          have hst := hx2 t hlt3
          have hgt := HE2.out.cell1 hlt3
          simp only [lookEl, Nat.zero_add] at hst hgt
          have hk0 : (0:Int) ≤ (t : Int) := by omega
          have hlt' : (t:Int) < (m:Int) := by omega
          clear hx2
          go_wp2_with fail
          go_loopw [8, 9] (fun v j wr => ∃ l : Nat, l ≤ n ∧ j = .int .i64 ((l : Int) - 1) ∧ v = .string (S t) ∧ (∀ j, l ≤ j → j < n → ((A j).toList == (S t).toList) = false) ∧ ∃ q, wr = w4.drewN q) (fun _ j _ => (intOf j + 1).toNat)
          case atStart => exact ⟨n, by omega, rfl, rfl, fun j h1 h2 => by omega, _, rfl⟩
          case round =>
            obtain ⟨l, hl, rfl, rfl, hd, q3, rfl⟩ := hrel
            have HD : Hid (∀ j, l ≤ j → j < n → ((A j).toList == (S t).toList) = false) := hd
            clear hd
            cases l with
            | zero =>
              have hfin : look A B (S t) n = S t := by rw [look_tail A B (S t) 0 n (by omega) HD.out]; rfl
              rw [hfin] at hgt
              clear hfin
              go_wp2
              go_roundw
              case rel => exact ⟨t + 1, by omega, by go_num, _, rfl⟩
              case measure => simp [intOf]; omega
            | succ l =>
              have e1 : ((l + 1 : Nat) : Int) - 1 = (l : Int) := by omega
              rw [e1]
              obtain ⟨b, off, rfl, hcc⟩ := HC4.out (by omega)
              obtain ⟨hcell, hcell2⟩ := hcc l (by omega)
              have hl0 : (0:Int) ≤ (l : Int) := by omega
              have hl' : (l:Int) < (n:Int) := by omega
              clear hcc e1
              by_cases he : ((A l).toList == (S t).toList) = true
              · have hfin : look A B (S t) n = B l := by rw [look_tail A B (S t) (l + 1) n (by omega) HD.out, look, he]; simp
                rw [hfin] at hgt
                clear hfin
                go_wp2
                go_quiet (fail)
                go_wp2
                go_roundw
                case rel => exact ⟨t + 1, by omega, by go_num, _, rfl⟩
                case measure => simp [intOf]; omega
              · replace he : ((A l).toList == (S t).toList) = false := by simpa using he
                go_wp2
                go_quiet (fail)
                go_wp2
                go_roundw
                case rel =>
                  refine ⟨l, by omega, by go_num, rfl, fun j h1 h2 => ?_, _, rfl⟩
                  by_cases e : j = l
                  · subst e; exact he
                  · exact HD.out j (by omega) h2
                case measure => simp [intOf]
        · have : t = m := by omega
          subst this
          go_wp2
          go_ret
          exact ⟨rfl, Below.drewN' HB4.out _⟩
end Go.Proofs.Qxb6000463a
