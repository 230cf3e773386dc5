/-
  WALKS: zzBytes (10, 17, 18), adjBytes (11), adjInRange (12).
-/
import Derived.Test.Qxb6000570aC2
namespace Go.Proofs.Qxb6000570a
open Go.RowKit
set_option linter.unusedVariables false
set_option linter.unusedSimpArgs false

/-- A slice of ints that holds the list l. -/
def RowZ (w : World) (ra : Option Addr) (l : List Int) : Prop :=
  0 < l.length → ∃ rb ro, ra = some ⟨rb, ro, none⟩ ∧ ∀ i (h : i < l.length), w.cell? ⟨rb, ro + i, none⟩ = some (.int .i64 l[i])
def AdjZ (w : World) (ao : Option Addr) (n : Nat) (adj : Nat → List Int) (ra : Nat → Option Addr) (rc : Nat → Nat) : Prop :=
  0 < n → ∃ b off, ao = some ⟨b, off, none⟩ ∧ ∀ u, u < n → w.cell? ⟨b, off + u, none⟩ = some (.slice (ra u) (adj u).length (rc u)) ∧ RowZ w (ra u) (adj u)

def P10 (n : Nat) (adj : Nat → List Int) (w : World) (e : Ending) (w' : World) : Prop :=
  (∃ r, e = .returned (.bool r) ∧ (r = true → n ≤ 1048576 ∧ ∀ u, u < n → (adj u).length ≤ 1048576)) ∧ w' = w

set_option maxRecDepth 20000 in
set_option maxHeartbeats 4000000 in
theorem zz10 (ao : Option Addr) (n ac : Nat) (adj : Nat → List Int) (ra : Nat → Option Addr) (rc : Nat → Nat) (w : World) (hn : n ≤ 9223372036854775807) (hl : ∀ u, u < n → (adj u).length ≤ 9223372036854775807) (ha : AdjZ w ao n adj ra rc) :
    Calls Try.prog 10 #[.slice ao n ac] w (P10 n adj w) := by
  by_cases h1 : n ≤ 1048576
  · go_enter Try.func10, Try.ntmps10
    go_wp2
    go_loop [3, 4] (fun t i => ∃ (k : Nat) (z : Int), k ≤ n ∧ i = .int .i64 k ∧ t = .int .i64 z ∧ 0 ≤ z ∧ z ≤ 1048576 ∧ ∀ j, j < k → (adj j).length ≤ 1048576) (fun _ i => n - (intOf i).toNat)
    case atStart => exact ⟨0, n, by omega, rfl, rfl, by omega, by omega, fun j hj => by omega⟩
    case round =>
      obtain ⟨k, z, hk, rfl, rfl, hz1, hz2, hz3⟩ := hrel
      have HZ : Hid (∀ j, j < k → (adj j).length ≤ 1048576) := hz3
      clear hz3
      by_cases hlt : k < n
      · obtain ⟨b, off, rfl, hcc⟩ := ha (by omega)
        obtain ⟨hcell, _⟩ := hcc k hlt
        have hsz := hl k hlt
        clear hcc hl ha
        go_wp2
        all_goals first
          | (go_ret; exact ⟨⟨_, rfl, by simp⟩, rfl⟩)
          | skip
        go_round
        case rel => exact ⟨k + 1, _, by omega, by go_num, rfl, by omega, by omega, fun j hj => by by_cases e : j = k; · subst e; omega
                                                                                                  · exact HZ.out j (by omega)⟩
        case measure => simp [intOf]; omega
      · have : k = n := by omega
        subst this
        clear hl ha
        go_wp2
        all_goals (go_ret; exact ⟨⟨_, rfl, by first | (simp; done) | exact fun _ => ⟨by omega, HZ.out⟩⟩, rfl⟩)
  · go_enter Try.func10, Try.ntmps10
    go_wp2
    go_ret
    exact ⟨⟨_, rfl, by simp⟩, rfl⟩

set_option maxRecDepth 20000 in
set_option maxHeartbeats 4000000 in
theorem zz17 (ao : Option Addr) (n ac : Nat) (adj : Nat → List Int) (ra : Nat → Option Addr) (rc : Nat → Nat) (w : World) (hn : n ≤ 9223372036854775807) (hl : ∀ u, u < n → (adj u).length ≤ 9223372036854775807) (ha : AdjZ w ao n adj ra rc) :
    Calls Try.prog 17 #[.slice ao n ac] w (P10 n adj w) := by
  by_cases h1 : n ≤ 1048576
  · go_enter Try.func17, Try.ntmps17
    go_wp2
    go_loop [3, 4] (fun t i => ∃ (k : Nat) (z : Int), k ≤ n ∧ i = .int .i64 k ∧ t = .int .i64 z ∧ 0 ≤ z ∧ z ≤ 1048576 ∧ ∀ j, j < k → (adj j).length ≤ 1048576) (fun _ i => n - (intOf i).toNat)
    case atStart => exact ⟨0, n, by omega, rfl, rfl, by omega, by omega, fun j hj => by omega⟩
    case round =>
      obtain ⟨k, z, hk, rfl, rfl, hz1, hz2, hz3⟩ := hrel
      have HZ : Hid (∀ j, j < k → (adj j).length ≤ 1048576) := hz3
      clear hz3
      by_cases hlt : k < n
      · obtain ⟨b, off, rfl, hcc⟩ := ha (by omega)
        obtain ⟨hcell, _⟩ := hcc k hlt
        have hsz := hl k hlt
        clear hcc hl ha
        go_wp2
        all_goals first
          | (go_ret; exact ⟨⟨_, rfl, by simp⟩, rfl⟩)
          | skip
        go_round
        case rel => exact ⟨k + 1, _, by omega, by go_num, rfl, by omega, by omega, fun j hj => by by_cases e : j = k; · subst e; omega
                                                                                                  · exact HZ.out j (by omega)⟩
        case measure => simp [intOf]; omega
      · have : k = n := by omega
        subst this
        clear hl ha
        go_wp2
        all_goals (go_ret; exact ⟨⟨_, rfl, by first | (simp; done) | exact fun _ => ⟨by omega, HZ.out⟩⟩, rfl⟩)
  · go_enter Try.func17, Try.ntmps17
    go_wp2
    go_ret
    exact ⟨⟨_, rfl, by simp⟩, rfl⟩

set_option maxRecDepth 20000 in
set_option maxHeartbeats 4000000 in
theorem zz18 (ao : Option Addr) (n ac : Nat) (adj : Nat → List Int) (ra : Nat → Option Addr) (rc : Nat → Nat) (w : World) (hn : n ≤ 9223372036854775807) (hl : ∀ u, u < n → (adj u).length ≤ 9223372036854775807) (ha : AdjZ w ao n adj ra rc) :
    Calls Try.prog 18 #[.slice ao n ac] w (P10 n adj w) := by
  by_cases h1 : n ≤ 1048576
  · go_enter Try.func18, Try.ntmps18
    go_wp2
    go_loop [3, 4] (fun t i => ∃ (k : Nat) (z : Int), k ≤ n ∧ i = .int .i64 k ∧ t = .int .i64 z ∧ 0 ≤ z ∧ z ≤ 1048576 ∧ ∀ j, j < k → (adj j).length ≤ 1048576) (fun _ i => n - (intOf i).toNat)
    case atStart => exact ⟨0, n, by omega, rfl, rfl, by omega, by omega, fun j hj => by omega⟩
    case round =>
      obtain ⟨k, z, hk, rfl, rfl, hz1, hz2, hz3⟩ := hrel
      have HZ : Hid (∀ j, j < k → (adj j).length ≤ 1048576) := hz3
      clear hz3
      by_cases hlt : k < n
      · obtain ⟨b, off, rfl, hcc⟩ := ha (by omega)
        obtain ⟨hcell, _⟩ := hcc k hlt
        have hsz := hl k hlt
        clear hcc hl ha
        go_wp2
        all_goals first
          | (go_ret; exact ⟨⟨_, rfl, by simp⟩, rfl⟩)
          | skip
        go_round
        case rel => exact ⟨k + 1, _, by omega, by go_num, rfl, by omega, by omega, fun j hj => by by_cases e : j = k; · subst e; omega
                                                                                                  · exact HZ.out j (by omega)⟩
        case measure => simp [intOf]; omega
      · have : k = n := by omega
        subst this
        clear hl ha
        go_wp2
        all_goals (go_ret; exact ⟨⟨_, rfl, by first | (simp; done) | exact fun _ => ⟨by omega, HZ.out⟩⟩, rfl⟩)
  · go_enter Try.func18, Try.ntmps18
    go_wp2
    go_ret
    exact ⟨⟨_, rfl, by simp⟩, rfl⟩

def P11 (w : World) (e : Ending) (w' : World) : Prop := (∃ z, e = .returned (.int .i64 z)) ∧ w' = w
set_option maxRecDepth 20000 in
set_option maxHeartbeats 4000000 in
theorem bytes11 (ao : Option Addr) (n ac : Nat) (adj : Nat → List Int) (ra : Nat → Option Addr) (rc : Nat → Nat) (w : World) (hn : n ≤ 1048576) (hl : ∀ u, u < n → (adj u).length ≤ 1048576) (ha : AdjZ w ao n adj ra rc) :
    Calls Try.prog 11 #[.slice ao n ac] w (P11 w) := by
  have HL : Hid (∀ u, u < n → (adj u).length ≤ 1048576) := hl
  have HA : Hid (AdjZ w ao n adj ra rc) := ha
  clear hl ha
  go_enter Try.func11, Try.ntmps11
  go_wp2
  · go_ret
    exact ⟨⟨_, rfl⟩, rfl⟩
  · go_loop [3, 4] (fun t i => ∃ (k : Nat) (z : Int), k ≤ n ∧ i = .int .i64 k ∧ t = .int .i64 z ∧ 0 ≤ z ∧ z ≤ 1048576) (fun _ i => n - (intOf i).toNat)
    case atStart => exact ⟨0, 8 * n, by omega, rfl, rfl, by omega, by omega⟩
    case round =>
      obtain ⟨k, z, hk, rfl, rfl, hz1, hz2⟩ := hrel
      by_cases hlt : k < n
      · obtain ⟨b, off, rfl, hcc⟩ := HA.out (by omega)
        obtain ⟨hcell, _⟩ := hcc k hlt
        have hsz := HL.out k hlt
        clear hcc
        go_wp2
        all_goals first
          | (go_ret; exact ⟨⟨_, rfl⟩, rfl⟩)
          | skip
        go_round
        case rel => exact ⟨k + 1, _, by omega, by go_num, rfl, by omega, by omega⟩
        case measure => simp [intOf]; omega
      · have : k = n := by omega
        subst this
        go_wp2
        go_ret
        exact ⟨⟨_, rfl⟩, rfl⟩

def InR (n : Nat) (l : List Int) : Prop := ∀ i (h : i < l.length), 0 ≤ l[i] ∧ l[i] < n
def P12 (n : Nat) (adj : Nat → List Int) (w : World) (e : Ending) (w' : World) : Prop :=
  (∃ r, e = .returned (.bool r) ∧ (r = true → ∀ u, u < n → InR n (adj u))) ∧ w' = w
set_option maxRecDepth 20000 in
set_option maxHeartbeats 4000000 in
theorem range12 (ao : Option Addr) (n ac : Nat) (adj : Nat → List Int) (ra : Nat → Option Addr) (rc : Nat → Nat) (w : World) (hn : n ≤ 1048576) (hl : ∀ u, u < n → (adj u).length ≤ 1048576) (ha : AdjZ w ao n adj ra rc) :
    Calls Try.prog 12 #[.slice ao n ac] w (P12 n adj w) := by
  have HL : Hid (∀ u, u < n → (adj u).length ≤ 1048576) := hl
  have HA : Hid (AdjZ w ao n adj ra rc) := ha
  clear hl ha
  go_enter Try.func12, Try.ntmps12
  go_wp2
  go_loopw [4] (fun i wr => ∃ k : Nat, k ≤ n ∧ i = .int .i64 k ∧ wr = w ∧ ∀ u, u < k → InR n (adj u)) (fun i _ => n - (intOf i).toNat)
  case atStart => exact ⟨0, by omega, rfl, rfl, fun u hu => by omega⟩
  case round =>
    obtain ⟨k, hk, rfl, hw, hz⟩ := hrel
    subst wr
    have HZ : Hid (∀ u, u < k → InR n (adj u)) := hz
    clear hz
    by_cases hlt : k < n
    · obtain ⟨b, off, rfl, hcc⟩ := HA.out (by omega)
      have hcell : w.cell? ⟨b, off + k, none⟩ = some (.slice (ra k) (adj k).length (rc k)) := (hcc k hlt).1
      have HROW : Hid (RowZ w (ra k) (adj k)) := (hcc k hlt).2
      have hsz := HL.out k hlt
      clear hcc
      go_wp2
      go_loopw [6] (fun i wr => ∃ j : Nat, j ≤ (adj k).length ∧ i = .int .i64 j ∧ wr = w ∧ ∀ x (h : x < (adj k).length), x < j → 0 ≤ (adj k)[x] ∧ (adj k)[x] < n) (fun i _ => (adj k).length - (intOf i).toNat)
      case atStart => exact ⟨0, by omega, rfl, rfl, fun u hu h => by omega⟩
      case round =>
        clear hcell
        obtain ⟨j, hj, rfl, hw, hy⟩ := hrel
        subst wr
        have HY : Hid (∀ x (h : x < (adj k).length), x < j → 0 ≤ (adj k)[x] ∧ (adj k)[x] < n) := hy
        clear hy
        by_cases hjl : j < (adj k).length
        · obtain ⟨rb, ro, hra, hrow⟩ := HROW.out (by omega)
          have hc2 : w.cell? ⟨rb, ro + j, none⟩ = some (.int .i64 (adj k)[j]) := hrow j hjl
          obtain ⟨x, hx⟩ : ∃ x, x = (adj k)[j] := ⟨_, rfl⟩
          rw [← hx] at hc2
          have HX : Hid (x = (adj k)[j]) := hx
          rw [hra]
          clear hrow hx hra
          have hj0 : (0:Int) ≤ (j : Int) := by omega
          have hj1 : (j:Int) < (((adj k).length : Nat) : Int) := by omega
          by_cases hx0 : x < 0
          · go_wp2
            go_ret
            exact ⟨⟨_, rfl, fun h => by cases h⟩, rfl⟩
          · by_cases hx1 : x < (n : Int)
            · have hx1' : ¬ (n : Int) ≤ x := by omega
              go_wp2
              go_roundw
              case rel => exact ⟨j + 1, by omega, by go_num, (by first | rfl | trivial), fun y h hy => by
                by_cases e : y = j
                · subst e; rw [← HX.out]; exact ⟨by omega, hx1⟩
                · exact HY.out y h (by omega)⟩
              case measure => simp [intOf]; omega
            · have hx1' : (n : Int) ≤ x := by omega
              go_wp2
              go_ret
              exact ⟨⟨_, rfl, fun h => by cases h⟩, rfl⟩
        · have : j = (adj k).length := by omega
          subst this
          go_wp2
          go_roundw
          case rel => exact ⟨k + 1, by omega, by go_num, (by first | rfl | trivial), fun u hu => by
            by_cases e : u = k
            · subst e; exact fun x h => HY.out x h h
            · exact HZ.out u (by omega)⟩
          case measure => simp [intOf]; omega
    · have : k = n := by omega
      subst this
      go_wp2
      go_ret
      exact ⟨⟨_, rfl, fun _ => HZ.out⟩, rfl⟩
end Go.Proofs.Qxb6000570a
