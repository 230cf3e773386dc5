/-
  WALKS: wBytes (40), zzBytes (31), okWrittenInverse (32).
-/
import Derived.Test.Qxb6000463aProg
import Derived.Test.Qxb6000463aBase
import Derived.WalkLawsBesides
import Derived.Deep.QuietTactic
import Derived.BigQuiet
import Derived.RegionTactic
namespace Go.Proofs.Qxb6000463a
open Go.RowKit
set_option linter.unusedVariables false
set_option linter.unusedSimpArgs false

/-- A slice of two-string structs: its elements' names A and written names B. -/
def ColSl (w : World) (ao : Option Addr) (n : Nat) (A B : Nat → ByteArray) : Prop :=
  0 < n → ∃ b off, ao = some ⟨b, off, none⟩ ∧ ∀ k, k < n → w.cell? ⟨b, off + k * 2, none⟩ = some (.string (A k)) ∧ w.cell? ⟨b, off + k * 2 + 1, none⟩ = some (.string (B k))
/-- A slice of strings. -/
def StrSl (w : World) (ao : Option Addr) (n : Nat) (S : Nat → ByteArray) : Prop :=
  0 < n → ∃ b off, ao = some ⟨b, off, none⟩ ∧ ∀ k, k < n → w.cell? ⟨b, off + k, none⟩ = some (.string (S k))

def wbs (A B : Nat → ByteArray) : Nat → Int
  | 0 => 0
  | k + 1 => wbs A B k + (32 + (A k).size + (B k).size)
def P40 (w : World) (e : Ending) (w' : World) : Prop := (∃ r, e = .returned (.int .i64 r) ∧ 0 ≤ r ∧ r ≤ 4000000) ∧ ∃ m, w' = w.drewN m
set_option maxHeartbeats 400000 in
theorem wBytes_any (ao : Option Addr) (n c : Nat) (A B : Nat → ByteArray) (w : World) (hn : n ≤ 1048576) (hs : ∀ k, k < n → (A k).size ≤ 1048576 ∧ (B k).size ≤ 1048576)
   (hc : ColSl w ao n A B) :
    Calls Try.prog 40 #[.slice ao n c] w (P40 w) := by
  go_enter Try.func40, Try.ntmps40
  go_wp2
  go_loopw [3, 4] (fun t i wr => ∃ k : Nat, k ≤ n ∧ i = .int .i64 k ∧ t = .int .i64 (wbs A B k) ∧ 0 ≤ wbs A B k ∧ wbs A B k ≤ 1048576 + 32 + 1048576 + 1048576 ∧ ∃ m, wr = w.drewN m) (fun _ i _ => n - (intOf i).toNat)
  case atStart => exact ⟨0, by omega, rfl, rfl, by simp [wbs], by simp [wbs], 0, rfl⟩
  case round =>
    obtain ⟨k, hk, rfl, rfl, h1, h2, m, rfl⟩ := hrel
    by_cases hlt : k < n
    · by_cases hb : 1048576 < wbs A B k
      · go_wp2
        go_ret
        exact ⟨⟨_, rfl, by omega, by omega⟩, _, rfl⟩
      · obtain ⟨b, off, rfl, hcc⟩ := hc (by omega)
        obtain ⟨hcell, hcell2⟩ := hcc k hlt
        obtain ⟨hsz, hsz2⟩ := hs k hlt
        have hk0 : (0:Int) ≤ (k : Int) := by omega
        have hlt' : (k:Int) < (n:Int) := by omega
        clear hcc hs hc
        go_wp2
        go_quiet (fail)
        go_wp2
        go_roundw
        case rel => exact ⟨k + 1, by omega, by go_num, by go_num, by simp only [wbs]; omega, by simp only [wbs]; omega, _, rfl⟩
        case measure => simp [intOf]; omega
    · have : k = n := by omega
      subst this
      go_wp2
      go_ret
      exact ⟨⟨_, rfl, by omega, by omega⟩, _, rfl⟩

def P31 (n m : Nat) (A B : Nat → ByteArray) (w : World) (e : Ending) (w' : World) : Prop :=
  (∃ r, e = .returned (.bool r) ∧ (r = true → n ≤ 1048576 ∧ m ≤ 1048576 ∧ ∀ k, k < n → (A k).size ≤ 1048576 ∧ (B k).size ≤ 1048576)) ∧ w' = w
set_option maxHeartbeats 1000000 in
theorem zz31 (ao : Option Addr) (n c : Nat) (A B : Nat → ByteArray) (w : World) (hn : n ≤ 9223372036854775807) (hs : ∀ k, k < n → (A k).size ≤ 9223372036854775807 ∧ (B k).size ≤ 9223372036854775807)
   (hc : ColSl w ao n A B) (bo : Option Addr) (m d : Nat) (hm : m ≤ 9223372036854775807) :
    Calls Try.prog 31 #[.slice ao n c, .slice bo m d] w (P31 n m A B w) := by
  by_cases h1 : n ≤ 1048576
  · go_enter Try.func31, Try.ntmps31
    go_wp2
    go_loop [5, 6] (fun t i => ∃ (k : Nat) (z : Int), k ≤ n ∧ i = .int .i64 k ∧ t = .int .i64 z ∧ 0 ≤ z ∧ z ≤ 1048576 ∧ ∀ j, j < k → (A j).size ≤ 1048576 ∧ (B j).size ≤ 1048576) (fun _ i => n - (intOf i).toNat)
    case atStart => exact ⟨0, n, by omega, rfl, rfl, by omega, by omega, fun j hj => by omega⟩
    case round =>
      obtain ⟨k, z, hk, rfl, rfl, hz1, hz2, hz3⟩ := hrel
      have HZ : Hid (∀ j, j < k → (A j).size ≤ 1048576 ∧ (B j).size ≤ 1048576) := hz3
      clear hz3
      by_cases hlt : k < n
      · obtain ⟨b, off, rfl, hcc⟩ := hc (by omega)
        obtain ⟨hcell, hcell2⟩ := hcc k hlt
        obtain ⟨hsz, hsz2⟩ := hs k hlt
        clear hcc hs hc
        go_wp2
        all_goals first
          | (go_ret; exact ⟨⟨_, rfl, by simp⟩, rfl⟩)
          | skip
        go_round
        case rel => exact ⟨k + 1, _, by omega, by go_num, rfl, by omega, by omega, fun j hj => by by_cases e : j = k; · subst e; omega
                                                                                                  · exact HZ.out j (by omega)⟩
        case measure => simp [intOf]; omega
      · have : k = n := by omega
        subst this
        clear hs hc
        go_wp2
        all_goals (go_ret; exact ⟨⟨_, rfl, by first | (simp; done) | exact fun _ => ⟨by omega, by omega, HZ.out⟩⟩, rfl⟩)
  · go_enter Try.func31, Try.ntmps31
    go_wp2
    go_ret
    exact ⟨⟨_, rfl, by simp⟩, rfl⟩

def Neq (a b : ByteArray) : Prop := (a.toList == b.toList) = false
def Dist (A : Nat → ByteArray) (n : Nat) : Prop := ∀ i j, i < j → j < n → Neq (A i) (A j)

def P32 (n m : Nat) (A B : Nat → ByteArray) (w : World) (e : Ending) (w' : World) : Prop :=
  (∃ r, e = .returned (.bool r) ∧ (r = true → n ≤ 4096 ∧ m ≤ 4096 ∧ 0 < n ∧ Dist A n ∧ Dist B n)) ∧ ∃ k, w' = w.drewN k
set_option maxHeartbeats 1000000 in
theorem ok32 (ao : Option Addr) (n c : Nat) (A B : Nat → ByteArray) (w : World) (hn : n ≤ 1048576) (hs : ∀ k, k < n → (A k).size ≤ 1048576 ∧ (B k).size ≤ 1048576)
   (hc : ColSl w ao n A B) (bo : Option Addr) (m d : Nat) (hm : m ≤ 1048576) :
    Calls Try.prog 32 #[.slice ao n c, .slice bo m d] w (P32 n m A B w) := by
  by_cases h1 : n ≤ 4096
  · by_cases h2 : m ≤ 4096
    · by_cases h3 : n = 0
      · subst h3
        go_enter Try.func32, Try.ntmps32
        go_wp2_with (go_at_call 40; refine (wBytes_any ao 0 c A B _ hn hs hc).mono ?_; rintro e w' ⟨⟨r, rfl, hr1, hr2⟩, q, rfl⟩)
        all_goals (go_ret; exact ⟨⟨_, rfl, by simp⟩, _, rfl⟩)
      · have h3' : ((n : Int) == 0) = false := by simp; omega
        go_enter Try.func32, Try.ntmps32
        go_wp2_with (go_at_call 40; refine (wBytes_any ao n c A B _ hn hs hc).mono ?_; rintro e w' ⟨⟨r, rfl, hr1, hr2⟩, q, rfl⟩)
        · go_ret; exact ⟨⟨_, rfl, by simp⟩, _, rfl⟩
        go_loopw [5, 6] (fun i j wr => ∃ (k : Nat), k ≤ n ∧ i = .int .i64 k ∧ (∀ i j, i < k → i < j → j < n → Neq (A i) (A j) ∧ Neq (B i) (B j)) ∧ ∃ m, wr = w.drewN m) (fun i _ _ => n - (intOf i).toNat)
        case atStart => exact ⟨0, by omega, rfl, fun i j hi => by omega, _, rfl⟩
        case round =>
          obtain ⟨k, hk, rfl, hd, m', rfl⟩ := hrel
          have HD : Hid (∀ i j, i < k → i < j → j < n → Neq (A i) (A j) ∧ Neq (B i) (B j)) := hd
          clear hd
          by_cases hlt : k < n
          · go_wp2
            go_loopw [6] (fun j wr => ∃ (l : Nat), k < l ∧ l ≤ n ∧ j = .int .i64 l ∧ (∀ j, k < j → j < l → Neq (A k) (A j) ∧ Neq (B k) (B j)) ∧ ∃ m, wr = w.drewN m) (fun j _ => n - (intOf j).toNat)
            case atStart => exact ⟨k + 1, by omega, by omega, by go_num, fun j h1 h2 => by omega, _, rfl⟩
            case round =>
              obtain ⟨l, hl1, hl2, rfl, hd, m'', rfl⟩ := hrel
              have HD2 : Hid (∀ j, k < j → j < l → Neq (A k) (A j) ∧ Neq (B k) (B j)) := hd
              clear hd
              by_cases hlt2 : l < n
              · obtain ⟨b, off, rfl, hcc⟩ := hc (by omega)
                obtain ⟨hcell, hcell2⟩ := hcc k hlt
                obtain ⟨hcell3, hcell4⟩ := hcc l hlt2
                have hk0 : (0:Int) ≤ (k : Int) := by omega
                have hlt' : (k:Int) < (n:Int) := by omega
                have hl0 : (0:Int) ≤ (l : Int) := by omega
                have hlt2' : (l:Int) < (n:Int) := by omega
                clear hcc hs hc
                by_cases e1 : ((A k).toList == (A l).toList) = true
                · go_wp2
                  go_quiet (fail)
                  go_wp2
                  go_ret; exact ⟨⟨_, rfl, by simp⟩, drewN_ex ..⟩
                · replace e1 : ((A k).toList == (A l).toList) = false := by simpa using e1
                  by_cases e2 : ((B k).toList == (B l).toList) = true
                  · go_wp2
                    go_quiet (fail)
                    go_wp2
                    go_ret; exact ⟨⟨_, rfl, by simp⟩, drewN_ex ..⟩
                  · replace e2 : ((B k).toList == (B l).toList) = false := by simpa using e2
                    go_wp2
                    go_quiet (fail)
                    go_wp2
                    go_roundw
                    case rel =>
                      refine ⟨l + 1, by omega, by omega, by go_num, fun j h1 h2 => ?_, _, rfl⟩
                      by_cases e : j = l
                      · subst e
                        exact ⟨e1, e2⟩
                      · exact HD2.out j h1 (by omega)
                    case measure => simp [intOf]; omega
              · have : l = n := by omega
                subst this
                go_wp2
                go_roundw
                case rel =>
                  refine ⟨k + 1, by omega, by go_num, fun i j h1 h2 h3 => ?_, _, rfl⟩
                  by_cases e : i = k
                  · subst e; exact HD2.out j h2 h3
                  · exact HD.out i j (by omega) h2 h3
                case measure => simp [intOf]; omega
          · have : k = n := by omega
            subst this
            go_wp2
            go_ret
            exact ⟨⟨_, rfl, fun _ => ⟨h1, h2, by omega, fun i j hi hj => (HD.out i j (by omega) hi hj).1, fun i j hi hj => (HD.out i j (by omega) hi hj).2⟩⟩, _, rfl⟩
    · go_enter Try.func32, Try.ntmps32
      go_wp2
      go_ret; exact ⟨⟨_, rfl, by simp⟩, 0, rfl⟩
  · go_enter Try.func32, Try.ntmps32
    go_wp2
    go_ret; exact ⟨⟨_, rfl, by simp⟩, 0, rfl⟩
end Go.Proofs.Qxb6000463a
