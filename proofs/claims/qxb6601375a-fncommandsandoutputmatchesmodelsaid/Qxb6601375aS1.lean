/-
  WALKS: zzAddSize (20), zzAddWords (31), zzAddStrings (12), zzAddNested (13), zzBytes (19).
-/
import Derived.Test.Qxb6601375aProg
import Derived.Test.Qxb6601375aBase
import Derived.WalkLawsBesides
import Derived.Deep.QuietTactic
import Derived.BigQuiet
import Derived.RegionTactic
import Derived.Deep.DeepCutAuto
namespace Go.Proofs.Qxb6601375a
open Go.RowKit
set_option linter.unusedVariables false
set_option linter.unusedSimpArgs false

/-- A slice of strings that holds the list l. -/
def RowS (w : World) (ra : Option Addr) (l : List ByteArray) : Prop :=
  0 < l.length → ∃ rb ro, ra = some ⟨rb, ro, none⟩ ∧ ∀ i (h : i < l.length), w.cell? ⟨rb, ro + i, none⟩ = some (.string l[i])
/-- A slice of such slices. -/
def NestS (w : World) (ao : Option Addr) (n : Nat) (L : Nat → List ByteArray) (ra : Nat → Option Addr) (rc : Nat → Nat) : Prop :=
  0 < n → ∃ b off, ao = some ⟨b, off, none⟩ ∧ ∀ u, u < n → w.cell? ⟨b, off + u, none⟩ = some (.slice (ra u) (L u).length (rc u)) ∧ RowS w (ra u) (L u)
theorem RowS.below {w w' : World} {ra : Option Addr} {l : List ByteArray} (h : RowS w ra l) (hb : Below w.heap.size w w') : RowS w' ra l := fun h0 => by
  obtain ⟨rb, ro, e, hc⟩ := h h0
  exact ⟨rb, ro, e, fun i hi => cell_later hb (hc i hi)⟩
theorem NestS.below {w w' : World} {ao : Option Addr} {n : Nat} {L : Nat → List ByteArray} {ra : Nat → Option Addr} {rc : Nat → Nat} (h : NestS w ao n L ra rc) (hb : Below w.heap.size w w') : NestS w' ao n L ra rc := fun h0 => by
  obtain ⟨b, off, e, hc⟩ := h h0
  exact ⟨b, off, e, fun u hu => ⟨cell_later hb (hc u hu).1, (hc u hu).2.below hb⟩⟩
/-- Every string of the list has at most N bytes. -/
def Sz (N : Nat) (l : List ByteArray) : Prop := ∀ i (h : i < l.length), (l[i]).size ≤ N

def P20 (w : World) (e : Ending) (w' : World) : Prop := (∃ (t : Int) (b : Bool), e = .returned (.tuple #[.int .i64 t, .bool b]) ∧ 0 ≤ t ∧ t ≤ 1048576) ∧ w' = w
set_option maxRecDepth 20000 in
set_option maxHeartbeats 4000000 in
theorem size20 (t : Int) (n : Nat) (w : World) (h0 : 0 ≤ t) (h1 : t ≤ 1048576) (hn : n ≤ 9223372036854775807) : Calls Try.prog 20 #[.int .i64 t, .int .i64 n] w (P20 w) := by
  by_cases h : (n : Int) ≤ 1048576 - t
  · go_enter Try.func20, Try.ntmps20
    go_wp2
    go_ret2
    exact ⟨⟨_, _, rfl, by omega, by omega⟩, rfl⟩
  · have h' : (1048576 - t : Int) < n := by omega
    go_enter Try.func20, Try.ntmps20
    go_wp2
    go_ret2
    exact ⟨⟨_, _, rfl, by omega, by omega⟩, rfl⟩

set_option maxRecDepth 20000 in
set_option maxHeartbeats 4000000 in
theorem words31 (t : Int) (n : Nat) (w : World) (h0 : 0 ≤ t) (h1 : t ≤ 1048576) (hn : n ≤ 9223372036854775807) : Calls Try.prog 31 #[.int .i64 t, .int .i64 n] w (P20 w) := by
  go_enter Try.func31, Try.ntmps31
  go_wp2
  · go_ret2
    exact ⟨⟨_, _, rfl, by omega, by omega⟩, rfl⟩
  · go_ret2
    exact ⟨⟨_, _, rfl, by omega, by omega⟩, rfl⟩

set_option maxRecDepth 20000 in
set_option maxHeartbeats 4000000 in
theorem strings12 (t : Int) (ao : Option Addr) (c : Nat) (l : List ByteArray) (w : World) (h0 : 0 ≤ t) (h1 : t ≤ 1048576) (hn : l.length ≤ 9223372036854775807) (hz : Sz 9223372036854775807 l) (ha : RowS w ao l) :
    Calls Try.prog 12 #[.int .i64 t, .slice ao l.length c] w (P20 w) := by
  have HA : Hid (RowS w ao l) := ha
  have HZ : Hid (Sz 9223372036854775807 l) := hz
  clear ha hz
  go_enter Try.func12, Try.ntmps12
  go_wp2_with fail
  refine (words31 t l.length _ h0 h1 hn).mono ?_
  rintro e w1 ⟨⟨t1, b, rfl, q0, q1⟩, hw1⟩
  subst w1
  clear h0 h1
  cases b with
  | false =>
    go_wp2
    go_ret2
    exact ⟨⟨_, _, rfl, by omega, by omega⟩, rfl⟩
  | true =>
    go_wp2
    go_loop [6, 7, 8] (fun t b i => ∃ (k : Nat) (z : Int) (r : Bool), k ≤ l.length ∧ i = .int .i64 k ∧ t = .int .i64 z ∧ b = .bool r ∧ 0 ≤ z ∧ z ≤ 1048576) (fun _ _ i => l.length - (intOf i).toNat)
    case atStart => exact ⟨0, t1, _, by omega, rfl, rfl, rfl, by omega, by omega⟩
    case round =>
      clear q0 q1
      obtain ⟨k, z, r, hk, rfl, rfl, rfl, z0, z1⟩ := hrel
      by_cases hlt : k < l.length
      · obtain ⟨rb, ro, hra, hc⟩ := HA.out (by omega)
        subst hra
        have d1 := hc k hlt
        have hz := HZ.out k hlt
        clear hc
        go_wp2_with fail
        refine (size20 z (l[k]).size _ z0 z1 hz).mono ?_
        rintro e w1 ⟨⟨t2, b2, rfl, q0, q1⟩, hw1⟩
        subst w1
        cases b2 with
        | false =>
          go_wp2
          go_ret2
          exact ⟨⟨_, _, rfl, by omega, by omega⟩, rfl⟩
        | true =>
          go_wp2
          go_round
          case rel => exact ⟨k + 1, t2, _, by omega, by go_num, rfl, rfl, by omega, by omega⟩
          case measure => simp [intOf]; omega
      · go_wp2
        go_ret2
        exact ⟨⟨_, _, rfl, by omega, by omega⟩, rfl⟩

set_option maxRecDepth 20000 in
set_option maxHeartbeats 4000000 in
theorem nested13 (t : Int) (ao : Option Addr) (n c : Nat) (L : Nat → List ByteArray) (ra : Nat → Option Addr) (rc : Nat → Nat) (w : World) (h0 : 0 ≤ t) (h1 : t ≤ 1048576) (hn : n ≤ 9223372036854775807) (hl : ∀ u, u < n → (L u).length ≤ 9223372036854775807 ∧ Sz 9223372036854775807 (L u)) (ha : NestS w ao n L ra rc) :
    Calls Try.prog 13 #[.int .i64 t, .slice ao n c] w (P20 w) := by
  have HA : Hid (NestS w ao n L ra rc) := ha
  have HL : Hid (∀ u, u < n → (L u).length ≤ 9223372036854775807 ∧ Sz 9223372036854775807 (L u)) := hl
  clear ha hl
  go_enter Try.func13, Try.ntmps13
  go_wp2_with fail
  refine (words31 t n _ h0 h1 hn).mono ?_
  rintro e w1 ⟨⟨t1, b, rfl, q0, q1⟩, hw1⟩
  subst w1
  clear h0 h1
  cases b with
  | false =>
    go_wp2
    go_ret2
    exact ⟨⟨_, _, rfl, by omega, by omega⟩, rfl⟩
  | true =>
    go_wp2
    go_loop [6, 7, 8] (fun t b i => ∃ (k : Nat) (z : Int) (r : Bool), k ≤ n ∧ i = .int .i64 k ∧ t = .int .i64 z ∧ b = .bool r ∧ 0 ≤ z ∧ z ≤ 1048576) (fun _ _ i => n - (intOf i).toNat)
    case atStart => exact ⟨0, t1, _, by omega, rfl, rfl, rfl, by omega, by omega⟩
    case round =>
      clear q0 q1
      obtain ⟨k, z, r, hk, rfl, rfl, rfl, z0, z1⟩ := hrel
      by_cases hlt : k < n
      · obtain ⟨rb, ro, hra, hc⟩ := HA.out (by omega)
        subst hra
        have d1 := (hc k hlt).1
        have HR : Hid (RowS w (ra k) (L k)) := (hc k hlt).2
        obtain ⟨hz1, hz2⟩ := HL.out k hlt
        have HZ : Hid (Sz 9223372036854775807 (L k)) := hz2
        clear hc hz2
        go_wp2_with fail
        refine (strings12 z (ra k) (rc k) (L k) _ z0 z1 hz1 HZ.out HR.out).mono ?_
        rintro e w1 ⟨⟨t2, b2, rfl, q0, q1⟩, hw1⟩
        subst w1
        cases b2 with
        | false =>
          go_wp2
          go_ret2
          exact ⟨⟨_, _, rfl, by omega, by omega⟩, rfl⟩
        | true =>
          go_wp2
          go_round
          case rel => exact ⟨k + 1, t2, _, by omega, by go_num, rfl, rfl, by omega, by omega⟩
          case measure => simp [intOf]; omega
      · go_wp2
        go_ret2
        exact ⟨⟨_, _, rfl, by omega, by omega⟩, rfl⟩

def P19 (l : List ByteArray) (n : Nat) (L : Nat → List ByteArray) (p : ByteArray) (w : World) (e : Ending) (w' : World) : Prop :=
  (∃ r, e = .returned (.bool r) ∧ (r = true → l.length ≤ 1048576 ∧ n ≤ 1048576 ∧ p.size ≤ 1048576 ∧ ∀ u, u < n → (L u).length ≤ 1048576 ∧ Sz 1048576 (L u))) ∧ w' = w
set_option maxRecDepth 20000 in
set_option maxHeartbeats 4000000 in
theorem bytes19 (io : Option Addr) (ic : Nat) (l : List ByteArray) (ao : Option Addr) (n c : Nat) (L : Nat → List ByteArray) (ra : Nat → Option Addr) (rc : Nat → Nat) (p : ByteArray) (w : World)
    (hn : n ≤ 9223372036854775807) (hl : ∀ u, u < n → (L u).length ≤ 9223372036854775807 ∧ Sz 9223372036854775807 (L u)) (ha : NestS w ao n L ra rc)
    (hi : l.length ≤ 9223372036854775807) (hiz : Sz 9223372036854775807 l) (hia : RowS w io l) (hp : p.size ≤ 9223372036854775807) :
    Calls Try.prog 19 #[.slice io l.length ic, .slice ao n c, .string p] w (P19 l n L p w) := by
  have HA : Hid (NestS w ao n L ra rc) := ha
  have HL : Hid (∀ u, u < n → (L u).length ≤ 9223372036854775807 ∧ Sz 9223372036854775807 (L u)) := hl
  have HI : Hid (RowS w io l) := hia
  have HZ : Hid (Sz 9223372036854775807 l) := hiz
  clear ha hl hia hiz
  by_cases g1 : l.length ≤ 1048576
  · go_enter Try.func19, Try.ntmps19
    go_wp2
    go_loop [7, 8] (fun t i => ∃ (k : Nat) (z : Int), k ≤ l.length ∧ i = .int .i64 k ∧ t = .int .i64 z ∧ 0 ≤ z ∧ z ≤ 1048576) (fun _ i => l.length - (intOf i).toNat)
    case atStart => exact ⟨0, l.length, by omega, rfl, rfl, by omega, by omega⟩
    case round =>
      obtain ⟨k, z, hk, rfl, rfl, z0, z1⟩ := hrel
      by_cases hlt : k < l.length
      · obtain ⟨rb, ro, hra, hc⟩ := HI.out (by omega)
        subst hra
        have d1 := hc k hlt
        have hz := HZ.out k hlt
        clear hc
        go_wp2
        all_goals first
          | (go_ret; exact ⟨⟨_, rfl, by simp⟩, rfl⟩)
          | skip
        go_round
        case rel => exact ⟨k + 1, _, by omega, by go_num, rfl, by omega, by omega⟩
        case measure => simp [intOf]; omega
      · by_cases g2 : n ≤ 1048576
        · go_wp2
          all_goals first
            | (go_ret; exact ⟨⟨_, rfl, by simp⟩, rfl⟩)
            | skip
          clear HI HZ hlt hk
          rename_i zz hzz
          go_loop [7, 9] (fun t i => ∃ (k : Nat) (z : Int), k ≤ n ∧ i = .int .i64 k ∧ t = .int .i64 z ∧ 0 ≤ z ∧ z ≤ 1048576 ∧ ∀ u, u < k → (L u).length ≤ 1048576 ∧ Sz 1048576 (L u)) (fun _ i => n - (intOf i).toNat)
          case atStart => exact ⟨0, z + n, by omega, rfl, rfl, by omega, by omega, fun u hu => by omega⟩
          case round =>
            clear z0 z1
            obtain ⟨k, z, hk, rfl, rfl, z0, z1, hB⟩ := hrel
            have HB : Hid (∀ u, u < k → (L u).length ≤ 1048576 ∧ Sz 1048576 (L u)) := hB
            clear hB
            by_cases hlt : k < n
            · obtain ⟨rb, ro, hra, hc⟩ := HA.out (by omega)
              subst hra
              have d1 := (hc k hlt).1
              have HR : Hid (RowS w (ra k) (L k)) := (hc k hlt).2
              obtain ⟨hz1, hz2⟩ := HL.out k hlt
              have HZ : Hid (Sz 9223372036854775807 (L k)) := hz2
              clear hc hz2
              by_cases g3 : (L k).length ≤ 1048576
              · go_wp2
                all_goals first
                  | (go_ret; exact ⟨⟨_, rfl, by simp⟩, rfl⟩)
                  | skip
                go_loop [7, 10] (fun t i => ∃ (j : Nat) (z : Int), j ≤ (L k).length ∧ i = .int .i64 j ∧ t = .int .i64 z ∧ 0 ≤ z ∧ z ≤ 1048576 ∧ ∀ x (h : x < (L k).length), x < j → ((L k)[x]).size ≤ 1048576) (fun _ i => (L k).length - (intOf i).toNat)
                case atStart => exact ⟨0, _, by omega, rfl, rfl, by omega, by omega, fun x h hx => by omega⟩
                case round =>
                  clear z0 z1
                  obtain ⟨j, z, hj, rfl, rfl, z0, z1, hY⟩ := hrel
                  have HY : Hid (∀ x (h : x < (L k).length), x < j → ((L k)[x]).size ≤ 1048576) := hY
                  clear hY
                  by_cases hjl : j < (L k).length
                  · obtain ⟨b2, o2, hra, hc⟩ := HR.out (by omega)
                    have d2 := hc j hjl
                    rw [hra] at d1
                    have hz := HZ.out j hjl
                    clear hc
                    by_cases g4 : ((L k)[j]).size ≤ 1048576
                    · go_wp2
                      all_goals first
                        | (go_ret; exact ⟨⟨_, rfl, by simp⟩, rfl⟩)
                        | skip
                      go_round
                      case rel => exact ⟨j + 1, _, by omega, by go_num, rfl, by omega, by omega, fun x h hx => by
                        by_cases e : x = j
                        · subst e; exact g4
                        · exact HY.out x h (by omega)⟩
                      case measure => simp [intOf]; omega
                    · go_wp2
                      go_ret
                      exact ⟨⟨_, rfl, by simp⟩, rfl⟩
                  · have : j = (L k).length := by omega
                    go_wp2
                    go_round
                    case rel => exact ⟨k + 1, _, by omega, by go_num, rfl, by omega, by omega, fun u hu => by
                      by_cases e : u = k
                      · subst e; exact ⟨g3, fun x h => HY.out x h (by omega)⟩
                      · exact HB.out u (by omega)⟩
                    case measure => simp [intOf]; omega
              · go_wp2
                go_ret
                exact ⟨⟨_, rfl, by simp⟩, rfl⟩
            · have : k = n := by omega
              subst this
              by_cases g5 : p.size ≤ 1048576
              · go_wp2
                all_goals (go_ret; exact ⟨⟨_, rfl, by first | (simp; done) | exact fun _ => ⟨g1, g2, g5, HB.out⟩⟩, rfl⟩)
              · go_wp2
                go_ret
                exact ⟨⟨_, rfl, by simp⟩, rfl⟩
        · go_wp2
          go_ret
          exact ⟨⟨_, rfl, by simp⟩, rfl⟩
  · go_enter Try.func19, Try.ntmps19
    go_wp2
    go_ret
    exact ⟨⟨_, rfl, by simp⟩, rfl⟩
end Go.Proofs.Qxb6601375a
