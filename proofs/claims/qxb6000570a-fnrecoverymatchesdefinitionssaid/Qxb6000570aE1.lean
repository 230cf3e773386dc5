/-
  WALKS for the law on recovery: the small functions: zzBytes (28), recBytes (20), itemBytes (29), recShapeOK (21), cloneBytes (22), cloneStrings (24), endedBefore (30), TakesItem (41), statusAt (42).
-/
import Derived.Test.Qxb6000570aD2
namespace Go.Proofs.Qxb6000570a
open Go.RowKit
set_option linter.unusedVariables false
set_option linter.unusedSimpArgs false

def RowU (w : World) (ra : Option Addr) (l : List Nat) : Prop :=
  0 < l.length → ∃ rb ro, ra = some ⟨rb, ro, none⟩ ∧ ∀ i (h : i < l.length), w.cell? ⟨rb, ro + i, none⟩ = some (.int .u8 ((l[i] : Nat) : Int))
def RowS (w : World) (ra : Option Addr) (l : List ByteArray) : Prop :=
  0 < l.length → ∃ rb ro, ra = some ⟨rb, ro, none⟩ ∧ ∀ i (h : i < l.length), w.cell? ⟨rb, ro + i, none⟩ = some (.string l[i])
theorem RowU.below {w w' : World} {ra : Option Addr} {l : List Nat} (h : RowU w ra l) (hb : Below w.heap.size w w') : RowU w' ra l := fun h0 => by
  obtain ⟨rb, ro, e, hc⟩ := h h0
  exact ⟨rb, ro, e, fun i hi => cell_later hb (hc i hi)⟩
theorem RowS.below {w w' : World} {ra : Option Addr} {l : List ByteArray} (h : RowS w ra l) (hb : Below w.heap.size w w') : RowS w' ra l := fun h0 => by
  obtain ⟨rb, ro, e, hc⟩ := h h0
  exact ⟨rb, ro, e, fun i hi => cell_later hb (hc i hi)⟩
def Sz (N : Nat) (l : List ByteArray) : Prop := ∀ i (h : i < l.length), (l[i]).size ≤ N

def P28 (a b c : Nat) (l : List ByteArray) (w : World) (e : Ending) (w' : World) : Prop := (∃ r, e = .returned (.bool r) ∧ (r = true → a ≤ 1048576 ∧ b ≤ 1048576 ∧ c ≤ 1048576 ∧ Sz 1048576 l)) ∧ w' = w
set_option maxRecDepth 20000 in
set_option maxHeartbeats 4000000 in
theorem zz28 (ka : Option Addr) (kn kc : Nat) (xa : Option Addr) (xn xc : Nat) (ia : Option Addr) (ic : Nat) (li : List ByteArray) (w : World) (h1 : kn ≤ 9223372036854775807) (h2 : xn ≤ 9223372036854775807) (h3 : li.length ≤ 9223372036854775807) (hz : Sz 9223372036854775807 li) (hi : RowS w ia li) :
    Calls Try.prog 28 #[.slice ka kn kc, .slice xa xn xc, .slice ia li.length ic] w (P28 kn xn li.length li w) := by
  have HI : Hid (RowS w ia li) := hi
  have HZ : Hid (Sz 9223372036854775807 li) := hz
  clear hi hz
  by_cases g1 : kn ≤ 1048576
  · by_cases g2 : xn ≤ 1048576
    · by_cases g3 : li.length ≤ 1048576
      · go_enter Try.func28, Try.ntmps28
        go_wp2
        all_goals first
          | (go_ret; exact ⟨⟨_, rfl, by simp⟩, rfl⟩)
          | skip
        go_loop [7, 8] (fun t i => ∃ (k : Nat) (z : Int), k ≤ li.length ∧ i = .int .i64 k ∧ t = .int .i64 z ∧ 0 ≤ z ∧ z ≤ 1048576 ∧ ∀ x (h : x < li.length), x < k → (li[x]).size ≤ 1048576) (fun _ i => li.length - (intOf i).toNat)
        case atStart => exact ⟨0, _, by omega, rfl, rfl, by omega, by omega, fun x h hx => by omega⟩
        case round =>
          obtain ⟨k, z, hk, rfl, rfl, z0, z1, hY⟩ := hrel
          have HY : Hid (∀ x (h : x < li.length), x < k → (li[x]).size ≤ 1048576) := hY
          clear hY
          by_cases hlt : k < li.length
          · obtain ⟨rb, ro, hra, hc⟩ := HI.out (by omega)
            subst hra
            have d1 := hc k hlt
            have hz := HZ.out k hlt
            clear hc
            by_cases g4 : (li[k]).size ≤ 1048576
            · go_wp2
              all_goals first
                | (go_ret; exact ⟨⟨_, rfl, by simp⟩, rfl⟩)
                | skip
              go_round
              case rel => exact ⟨k + 1, _, by omega, by go_num, rfl, by omega, by omega, fun x h hx => by
                by_cases e : x = k
                · subst e; exact g4
                · exact HY.out x h (by omega)⟩
              case measure => simp [intOf]; omega
            · go_wp2
              go_ret
              exact ⟨⟨_, rfl, by simp⟩, rfl⟩
          · go_wp2
            go_ret
            exact ⟨⟨_, rfl, fun _ => ⟨g1, g2, g3, fun x h => HY.out x h (by omega)⟩⟩, rfl⟩
      · go_enter Try.func28, Try.ntmps28
        go_wp2
        all_goals (go_ret; exact ⟨⟨_, rfl, by simp⟩, rfl⟩)
    · go_enter Try.func28, Try.ntmps28
      go_wp2
      all_goals (go_ret; exact ⟨⟨_, rfl, by simp⟩, rfl⟩)
  · go_enter Try.func28, Try.ntmps28
    go_wp2
    all_goals (go_ret; exact ⟨⟨_, rfl, by simp⟩, rfl⟩)

def PZ (w : World) (e : Ending) (w' : World) : Prop := (∃ z, e = .returned (.int .i64 z)) ∧ w' = w
set_option maxRecDepth 20000 in
set_option maxHeartbeats 4000000 in
theorem rec20 (ka : Option Addr) (kn kc : Nat) (xa : Option Addr) (xn xc : Nat) (ia : Option Addr) (ic : Nat) (li : List ByteArray) (w : World) (h1 : kn ≤ 1048576) (h2 : xn ≤ 1048576) (h3 : li.length ≤ 1048576) (hz : Sz 1048576 li) (hi : RowS w ia li) :
    Calls Try.prog 20 #[.slice ka kn kc, .slice xa xn xc, .slice ia li.length ic] w (PZ w) := by
  have HI : Hid (RowS w ia li) := hi
  have HZ : Hid (Sz 1048576 li) := hz
  clear hi hz
  by_cases g2 : xn ≤ 131072
  · by_cases g3 : li.length ≤ 65536
    · go_enter Try.func20, Try.ntmps20
      go_wp2
      go_loop [7, 8] (fun t i => ∃ (k : Nat) (z : Int), k ≤ li.length ∧ i = .int .i64 k ∧ t = .int .i64 z ∧ 0 ≤ z ∧ z ≤ 4194304) (fun _ i => li.length - (intOf i).toNat)
      case atStart => exact ⟨0, _, by omega, rfl, rfl, by omega, by omega⟩
      case round =>
        obtain ⟨k, z, hk, rfl, rfl, z0, z1⟩ := hrel
        by_cases hlt : k < li.length
        · obtain ⟨rb, ro, hra, hc⟩ := HI.out (by omega)
          subst hra
          have d1 := hc k hlt
          have hz := HZ.out k hlt
          clear hc
          go_wp2
          all_goals first
            | (go_ret; exact ⟨⟨_, rfl⟩, rfl⟩)
            | skip
          go_round
          case rel => exact ⟨k + 1, _, by omega, by go_num, rfl, by omega, by omega⟩
          case measure => simp [intOf]; omega
        · go_wp2
          go_ret
          exact ⟨⟨_, rfl⟩, rfl⟩
    · go_enter Try.func20, Try.ntmps20
      go_wp2
      go_ret
      exact ⟨⟨_, rfl⟩, rfl⟩
  · go_enter Try.func20, Try.ntmps20
    go_wp2
    go_ret
    exact ⟨⟨_, rfl⟩, rfl⟩

set_option maxRecDepth 20000 in
set_option maxHeartbeats 4000000 in
theorem item29 (ia : Option Addr) (ic : Nat) (li : List ByteArray) (w : World) (h3 : li.length ≤ 1048576) (hz : Sz 1048576 li) (hi : RowS w ia li) :
    Calls Try.prog 29 #[.slice ia li.length ic] w (PZ w) := by
  have HI : Hid (RowS w ia li) := hi
  have HZ : Hid (Sz 1048576 li) := hz
  clear hi hz
  go_enter Try.func29, Try.ntmps29
  go_wp2
  go_loop [3, 4] (fun t i => ∃ (k : Nat) (z : Int), k ≤ li.length ∧ i = .int .i64 k ∧ t = .int .i64 z ∧ 0 ≤ z ∧ z ≤ 65536) (fun _ i => li.length - (intOf i).toNat)
  case atStart => exact ⟨0, _, by omega, rfl, rfl, by omega, by omega⟩
  case round =>
    obtain ⟨k, z, hk, rfl, rfl, z0, z1⟩ := hrel
    by_cases hlt : k < li.length
    · obtain ⟨rb, ro, hra, hc⟩ := HI.out (by omega)
      subst hra
      have d1 := hc k hlt
      have hz := HZ.out k hlt
      clear hc
      go_wp2
      all_goals first
        | (go_ret; exact ⟨⟨_, rfl⟩, rfl⟩)
        | skip
      go_round
      case rel => exact ⟨k + 1, _, by omega, by go_num, rfl, by omega, by omega⟩
      case measure => simp [intOf]; omega
    · go_wp2
      go_ret
      exact ⟨⟨_, rfl⟩, rfl⟩

def P21 (a : Nat) (lx : List Int) (c : Nat) (w : World) (e : Ending) (w' : World) : Prop := (∃ r, e = .returned (.bool r) ∧ (r = true → a ≤ 4096 ∧ lx.length = a ∧ c = a ∧ ∀ i (h : i < lx.length), 1 ≤ lx[i])) ∧ w' = w
set_option maxRecDepth 20000 in
set_option maxHeartbeats 4000000 in
theorem shape21 (ka : Option Addr) (kn kc : Nat) (xa : Option Addr) (xc : Nat) (lx : List Int) (ia : Option Addr) (ic : Nat) (li : List ByteArray) (w : World) (h1 : kn ≤ 1048576) (h2 : lx.length ≤ 1048576) (h3 : li.length ≤ 1048576) (hz : Sz 1048576 li) (hi : RowS w ia li) (hx : RowZ w xa lx) :
    Calls Try.prog 21 #[.slice ka kn kc, .slice xa lx.length xc, .slice ia li.length ic] w (P21 kn lx li.length w) := by
  have HI : Hid (RowS w ia li) := hi
  have HX : Hid (RowZ w xa lx) := hx
  have HZ : Hid (Sz 1048576 li) := hz
  clear hi hz hx
  by_cases g : kn ≤ 4096 ∧ lx.length ≤ 4096 ∧ li.length ≤ 4096
  · obtain ⟨g1, g2, g3⟩ := g
    go_enter Try.func21, Try.ntmps21
    go_wp2_with fail
    refine (rec20 ka kn kc xa lx.length xc ia ic li _ h1 h2 h3 HZ.out HI.out).mono ?_
    rintro e w1 ⟨⟨z, rfl⟩, hw1⟩
    subst w1
    by_cases hz : (1048576 : Int) < z
    · go_wp2
      go_ret
      exact ⟨⟨_, rfl, by simp⟩, rfl⟩
    by_cases g4 : lx.length = kn ∧ li.length = kn
    · obtain ⟨g4, g5⟩ := g4
      have g4' : (lx.length : Int) = (kn : Int) := by omega
      have g5' : (li.length : Int) = (kn : Int) := by omega
      have HG : Hid (lx.length = kn ∧ li.length = kn) := ⟨g4, g5⟩
      clear g4 g5
      go_wp2
      clear g4' g5'
      go_loop [7] (fun i => ∃ k : Nat, k ≤ lx.length ∧ i = .int .i64 k ∧ ∀ x (h : x < lx.length), x < k → 1 ≤ lx[x]) (fun i => lx.length - (intOf i).toNat)
      case atStart => exact ⟨0, by omega, rfl, fun x h hx => by omega⟩
      case round =>
        obtain ⟨k, hk, rfl, hY⟩ := hrel
        have HY : Hid (∀ x (h : x < lx.length), x < k → 1 ≤ lx[x]) := hY
        clear hY
        by_cases hlt : k < lx.length
        · obtain ⟨rb, ro, hra, hc⟩ := HX.out (by omega)
          subst hra
          have d1 := hc k hlt
          clear hc
          by_cases g6 : lx[k] < 1
          · go_wp2
            go_ret
            exact ⟨⟨_, rfl, by simp⟩, rfl⟩
          · go_wp2
            go_round
            case rel => exact ⟨k + 1, by omega, by go_num, fun x h hx => by
              by_cases e : x = k
              · subst e; omega
              · exact HY.out x h (by omega)⟩
            case measure => simp [intOf]; omega
        · go_wp2
          go_ret
          exact ⟨⟨_, rfl, fun _ => ⟨g1, HG.out.1, HG.out.2, fun x h => HY.out x h (by omega)⟩⟩, rfl⟩
    · go_wp2
      all_goals first
        | (go_ret; exact ⟨⟨_, rfl, by simp⟩, rfl⟩)
        | (exfalso; omega)
  · go_enter Try.func21, Try.ntmps21
    go_wp2
    all_goals first
      | (go_ret; exact ⟨⟨_, rfl, by simp⟩, rfl⟩)
      | (exfalso; omega)
end Go.Proofs.Qxb6000570a
