/-
  WALKS: strsBytes (41), zzBytes (27), okWritten (28); the built-in copy onto a row of the call's own.
-/
import Derived.Test.Qxb6000463aW4
import Derived.Laws.CopyOwn
namespace Go.Proofs.Qxb6000463a
open Go.RowKit
set_option linter.unusedVariables false
set_option linter.unusedSimpArgs false

theorem ext_lt {k : Nat} {p : Nat → Prop} (h : ∀ j, j < k → p j) (hk : p k) (j : Nat) (hj : j < k + 1) : p j := by
  by_cases e : j = k
  · exact e ▸ hk
  · exact h j (by omega)

def sbs (S : Nat → ByteArray) : Nat → Int
  | 0 => 0
  | k + 1 => sbs S k + (16 + (S k).size)
def P41 (w : World) (e : Ending) (w' : World) : Prop := (∃ r, e = .returned (.int .i64 r) ∧ 0 ≤ r ∧ r ≤ 4000000) ∧ w' = w

set_option maxHeartbeats 400000 in
theorem strsBytes41 (ao : Option Addr) (n c : Nat) (S : Nat → ByteArray) (w : World) (hn : n ≤ 1048576) (hs : ∀ k, k < n → (S k).size ≤ 1048576)
   (hc : StrSl w ao n S) : Calls Try.prog 41 #[.slice ao n c] w (P41 w) := by
  go_enter Try.func41, Try.ntmps41
  go_wp2
  go_loop [3, 4] (fun t i => ∃ k : Nat, k ≤ n ∧ i = .int .i64 k ∧ t = .int .i64 (sbs S k) ∧ 0 ≤ sbs S k ∧ sbs S k ≤ 1048576 + 16 + 1048576) (fun _ i => n - (intOf i).toNat)
  case atStart => exact ⟨0, by omega, rfl, rfl, by simp [sbs], by simp [sbs]⟩
  case round =>
    obtain ⟨k, hk, rfl, rfl, h1, h2⟩ := hrel
    by_cases hlt : k < n
    · by_cases hb : 1048576 < sbs S k
      · go_wp2
        go_ret
        exact ⟨⟨_, rfl, by omega, by omega⟩, rfl⟩
      · obtain ⟨b, off, rfl, hcc⟩ := hc (by omega)
        have hcell := hcc k hlt
        have hsz := hs k hlt
        clear hcc hc hs
        go_wp2
        go_round
        case rel => exact ⟨k + 1, by omega, by go_num, by go_num, by simp only [sbs]; omega, by simp only [sbs]; omega⟩
        case measure => simp [intOf]; omega
    · have : k = n := by omega
      subst this
      go_wp2
      go_ret
      exact ⟨⟨_, rfl, by omega, by omega⟩, rfl⟩

def P27 (n m : Nat) (A B S : Nat → ByteArray) (w : World) (e : Ending) (w' : World) : Prop :=
  (∃ r, e = .returned (.bool r) ∧ (r = true → n ≤ 1048576 ∧ m ≤ 1048576 ∧ (∀ k, k < n → (A k).size ≤ 1048576 ∧ (B k).size ≤ 1048576) ∧ ∀ k, k < m → (S k).size ≤ 1048576)) ∧ w' = w
set_option maxHeartbeats 1000000 in
theorem zz27 (ao : Option Addr) (n c : Nat) (A B : Nat → ByteArray) (w : World) (hn : n ≤ 9223372036854775807) (hs : ∀ k, k < n → (A k).size ≤ 9223372036854775807 ∧ (B k).size ≤ 9223372036854775807)
   (hc : ColSl w ao n A B) (bo : Option Addr) (m d : Nat) (S : Nat → ByteArray) (hm : m ≤ 9223372036854775807) (hs2 : ∀ k, k < m → (S k).size ≤ 9223372036854775807) (hc2 : StrSl w bo m S) :
    Calls Try.prog 27 #[.slice ao n c, .slice bo m d] w (P27 n m A B S w) := by
  by_cases h1 : n ≤ 1048576
  · have HC2 : Hid (StrSl w bo m S) := hc2
    have HS2 : Hid (∀ k, k < m → (S k).size ≤ 9223372036854775807) := hs2
    clear hc2 hs2
    go_enter Try.func27, Try.ntmps27
    go_wp2
    go_loop [5, 6] (fun t i => ∃ (k : Nat) (z : Int), k ≤ n ∧ i = .int .i64 k ∧ t = .int .i64 z ∧ 0 ≤ z ∧ z ≤ 1048576 ∧ ∀ j, j < k → (A j).size ≤ 1048576 ∧ (B j).size ≤ 1048576) (fun _ i => n - (intOf i).toNat)
    case atStart => exact ⟨0, n, by omega, rfl, rfl, by omega, by omega, fun j hj => by omega⟩
    case round =>
      obtain ⟨k, z, hk, rfl, rfl, hz1, hz2, hz3⟩ := hrel
      have HZ : Hid (∀ j, j < k → (A j).size ≤ 1048576 ∧ (B j).size ≤ 1048576) := hz3
      clear hz3
      by_cases hlt : k < n
      · obtain ⟨b, off, rfl, hcc⟩ := hc (by omega)
        obtain ⟨hcell, hcell2⟩ := hcc k hlt
        obtain ⟨hsz, hsz2⟩ := hs k hlt
        clear hcc hs hc
        go_wp2
        all_goals first
          | (go_ret; exact ⟨⟨_, rfl, by simp⟩, rfl⟩)
          | skip
        go_round
        case rel => exact ⟨k + 1, _, by omega, by go_num, rfl, by omega, by omega, fun j hj => ext_lt (p := fun j => (A j).size ≤ 1048576 ∧ (B j).size ≤ 1048576) HZ.out ⟨by omega, by omega⟩ j hj⟩
        case measure => simp [intOf]; omega
      · have : k = n := by omega
        subst this
        clear hs hc
        by_cases hm1 : m ≤ 1048576
        · by_cases hzm : z + m ≤ 1048576
          · go_wp2
            go_loop [5, 7] (fun t i => ∃ (k : Nat) (z : Int), k ≤ m ∧ i = .int .i64 k ∧ t = .int .i64 z ∧ 0 ≤ z ∧ z ≤ 1048576 ∧ ∀ j, j < k → (S j).size ≤ 1048576) (fun _ i => m - (intOf i).toNat)
            case atStart => exact ⟨0, z + m, by omega, rfl, rfl, by omega, by omega, fun j hj => by omega⟩
            case round =>
              obtain ⟨k2, z2, hk2, rfl, rfl, hy1, hy2, hy3⟩ := hrel
              have HY : Hid (∀ j, j < k2 → (S j).size ≤ 1048576) := hy3
              clear hy3
              by_cases hlt2 : k2 < m
              · obtain ⟨b, off, rfl, hcc⟩ := HC2.out (by omega)
                have hcell := hcc k2 hlt2
                have hsz := HS2.out k2 hlt2
                clear hcc
                go_wp2
                all_goals first
                  | (go_ret; exact ⟨⟨_, rfl, by simp⟩, rfl⟩)
                  | skip
                go_round
                case rel => exact ⟨k2 + 1, _, by omega, by go_num, rfl, by omega, by omega, fun j hj => ext_lt (p := fun j => (S j).size ≤ 1048576) HY.out (by omega) j hj⟩
                case measure => simp [intOf]; omega
              · have : k2 = m := by omega
                subst this
                go_wp2
                go_ret
                exact ⟨⟨_, rfl, fun _ => ⟨h1, hm1, HZ.out, HY.out⟩⟩, rfl⟩
          · go_wp2
            go_ret; exact ⟨⟨_, rfl, by simp⟩, rfl⟩
        · go_wp2
          go_ret; exact ⟨⟨_, rfl, by simp⟩, rfl⟩
  · go_enter Try.func27, Try.ntmps27
    go_wp2
    go_ret
    exact ⟨⟨_, rfl, by simp⟩, rfl⟩

def P28 (n m : Nat) (w : World) (e : Ending) (w' : World) : Prop :=
  (∃ r, e = .returned (.bool r) ∧ (r = true → n ≤ 4096 ∧ m ≤ 4096)) ∧ ∃ k, w' = w.drewN k
set_option maxHeartbeats 400000 in
theorem ok28 (ao : Option Addr) (n c : Nat) (A B : Nat → ByteArray) (w : World) (hn : n ≤ 1048576) (hs : ∀ k, k < n → (A k).size ≤ 1048576 ∧ (B k).size ≤ 1048576)
   (hc : ColSl w ao n A B) (bo : Option Addr) (m d : Nat) (S : Nat → ByteArray) (hm : m ≤ 1048576) (hs2 : ∀ k, k < m → (S k).size ≤ 1048576) (hc2 : StrSl w bo m S) :
    Calls Try.prog 28 #[.slice ao n c, .slice bo m d] w (P28 n m w) := by
  have HC2 : Hid (StrSl w bo m S) := hc2
  have HS2 : Hid (∀ k, k < m → (S k).size ≤ 1048576) := hs2
  have HC : Hid (ColSl w ao n A B) := hc
  have HS : Hid (∀ k, k < n → (A k).size ≤ 1048576 ∧ (B k).size ≤ 1048576) := hs
  clear hc2 hs2 hc hs
  by_cases h1 : n ≤ 4096
  · by_cases h2 : m ≤ 4096
    · go_enter Try.func28, Try.ntmps28
      go_wp2_with fail
      refine (wBytes_any ao n c A B _ hn HS.out HC.out).mono ?_
      rintro e w' ⟨⟨r, rfl, hr1, hr2⟩, q, hw⟩
      subst w'
      go_wp2_with fail
      refine (strsBytes41 bo m d S (w.drewN q) hm HS2.out (show StrSl (w.drewN q) bo m S from HC2.out)).mono ?_
      rintro e w' ⟨⟨r2, rfl, hr3, hr4⟩, hw⟩
      subst w'
      go_wp2
      go_ret
      exact ⟨⟨_, rfl, fun _ => ⟨h1, h2⟩⟩, _, rfl⟩
    · go_enter Try.func28, Try.ntmps28
      go_wp2
      go_ret; exact ⟨⟨_, rfl, by simp⟩, 0, rfl⟩
  · go_enter Try.func28, Try.ntmps28
    go_wp2
    go_ret; exact ⟨⟨_, rfl, by simp⟩, 0, rfl⟩

/-- 'copy(dst, src)' of strings, dst a row of m cells of the call's own, src of the same length. -/
theorem run_copy_strs (w : World) (g m : Nat) (ao : Option Addr) (c : Nat) (f : Nat → Nat → Value) (hg : Els w g m 1 f) (S : Nat → ByteArray) (hS : StrSl w ao m S) :
    ∃ w', (Builtin.copy_ #[35, 35] 3 #[.slice (some ⟨g, 0, none⟩) m m, .slice ao m c]).run Try.prog w = .ok (goInt m) w' ∧ Els w' g m 1 (fun i _ => .string (S i)) ∧ Below g w w' := by
  by_cases h0 : m = 0
  · subst h0
    refine ⟨w, run_copy_none w 35 35 3 9 _ _ _ _ _ _ Try.underlying35 (by kernel_rfl) (by simp), hg.congr fun i hi => absurd hi (by omega), Below.refl _ _⟩
  · obtain ⟨b, off, rfl, hc⟩ := hS (by omega)
    obtain ⟨cur, e, h1, h2, h3⟩ := hg
    have hl : ((List.range m).map fun i => Value.string (S i)).length = m := by simp
    refine ⟨_, (run_copy_row Try.prog w 35 35 3 9 g 0 m m ⟨b, off, none⟩ m c cur e ((List.range m).map fun i => .string (S i)) Try.underlying35 (by kernel_rfl) h1 (by simp) ?_ (by simp; omega) ?_).trans (by rw [hl]), ?_, ?_⟩
    · intro j v hj
      by_cases hjm : j < m
      · simp [hjm] at hj
        subst hj
        rw [show (⟨b, off, none⟩ : Addr).add j = ⟨b, off + j, none⟩ by unfold Addr.add; split <;> simp_all]
        exact hc j hjm
      · rw [List.getElem?_eq_none (by omega)] at hj; cases hj
    · intro v hv
      simp at hv
      obtain ⟨i, _, rfl⟩ := hv
      rfl
    · refine ⟨_, e, setRow_heap w g cur _ e _ h1, by simp; omega, ?_⟩
      intro i hi j hj
      obtain rfl : j = 0 := by omega
      simp [List.getElem?_append, hi]
    · exact below_setRow (Below.refl _ _) (Nat.le_refl _) _
end Go.Proofs.Qxb6000463a
