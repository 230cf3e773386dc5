/-
  WALK for the law on Renames: zzBytes (10).
-/
import Derived.Test.Qxb6000463aR1
namespace Go.Proofs.Qxb6000463a
open Go.RowKit
set_option linter.unusedVariables false
set_option linter.unusedSimpArgs false

def P10 (n : Nat) (T : TD) (sc nm cn pn : ByteArray) (w : World) (e : Ending) (w' : World) : Prop :=
  (∃ r, e = .returned (.bool r) ∧ (r = true → n ≤ 1048576 ∧ (∀ i, i < n → BdAt 1048576 T i) ∧ sc.size ≤ 1048576 ∧ nm.size ≤ 1048576 ∧ cn.size ≤ 1048576 ∧ pn.size ≤ 1048576)) ∧ w' = w

theorem lt_ext {k : Nat} {p : Nat → Prop} (h : ∀ j, j < k → p j) (hk : p k) (j : Nat) (hj : j < k + 1) : p j := by
  by_cases e : j = k
  · exact e ▸ hk
  · exact h j (by omega)

set_option maxRecDepth 20000 in
set_option maxHeartbeats 4000000 in
theorem zz10 (ao : Option Addr) (n c : Nat) (T : TD) (w : World) (hn : n ≤ 9223372036854775807) (hb : ∀ i, i < n → BdAt 9223372036854775807 T i) (hc : TabSl w ao n T)
    (k : Int) (sc nm : ByteArray) (ci : Int) (cn : ByteArray) (qi : Int) (pn : ByteArray) (h1 : sc.size ≤ 9223372036854775807) (h2 : nm.size ≤ 9223372036854775807) (h3 : cn.size ≤ 9223372036854775807) (h4 : pn.size ≤ 9223372036854775807) :
    Calls Try.prog 10 #[.slice ao n c, .int .i64 k, .string sc, .string nm, .int .i64 ci, .string cn, .int .i64 qi, .string pn] w (P10 n T sc nm cn pn w) := by
  have HC : Hid (TabSl w ao n T) := hc
  have HB : Hid (∀ i, i < n → BdAt 9223372036854775807 T i) := hb
  clear hc hb
  by_cases g1 : n ≤ 1048576
  · go_enter Try.func10, Try.ntmps10
    go_wp2
    go_loop [16, 17, 18, 19, 20] (fun _ t i _ _ => ∃ (k : Nat) (z : Int), k ≤ n ∧ i = .int .i64 k ∧ t = .int .i64 z ∧ 0 ≤ z ∧ z ≤ 1048576 ∧ ∀ i, i < k → BdAt 1048576 T i) (fun _ _ i _ _ => n - (intOf i).toNat)
    case atStart => exact ⟨0, n, by omega, rfl, rfl, by omega, by omega, fun j hj => absurd hj (by omega)⟩
    case round =>
      obtain ⟨i, z, hi, rfl, rfl, hz1, hz2, hq⟩ := hrel
      have HQ : Hid (∀ j, j < i → BdAt 1048576 T j) := hq
      clear hq
      by_cases hlt : i < n
      · obtain ⟨b, off, rfl, hcc⟩ := HC.out (by omega)
        obtain ⟨c0, c1, c2, c3, hcs, hps⟩ := hcc i hlt
        obtain ⟨b0, b1, b2, b3, b4, b5⟩ := HB.out i hlt
        have HCS : Hid (StrSl w (T.ca i) (T.nc i) (T.col i)) := hcs
        have HPS : Hid (StrSl w (T.pa i) (T.np i) (T.prt i)) := hps
        have HB4 : Hid (∀ j, j < T.nc i → (T.col i j).size ≤ 9223372036854775807) := b4
        have HB5 : Hid (∀ j, j < T.np i → (T.prt i j).size ≤ 9223372036854775807) := b5
        have HSTEP : Hid ((T.sch i).size ≤ 1048576 → (T.nam i).size ≤ 1048576 → T.nc i ≤ 1048576 → T.np i ≤ 1048576 → (∀ j, j < T.nc i → (T.col i j).size ≤ 1048576) → (∀ j, j < T.np i → (T.prt i j).size ≤ 1048576) → ∀ j, j < i + 1 → BdAt 1048576 T j) :=
          fun a1 a2 a3 a4 a5 a6 => lt_ext HQ.out ⟨a1, a2, a3, a4, a5, a6⟩
        generalize T.sch i = sch at *
        generalize T.nam i = nam at *
        generalize T.ca i = ca at *
        generalize T.nc i = nc at *
        generalize T.cc i = cc at *
        generalize T.pa i = pa at *
        generalize T.np i = np at *
        generalize T.pc i = pc at *
        generalize T.col i = col at *
        generalize T.prt i = prt at *
        clear hcc hcs hps b4 b5
        by_cases f1 : sch.size ≤ 1048576
        case neg => go_wp2; go_ret; exact ⟨⟨_, rfl, by simp⟩, rfl⟩
        by_cases f2 : z + sch.size ≤ 1048576
        case neg => go_wp2; go_ret; exact ⟨⟨_, rfl, by simp⟩, rfl⟩
        by_cases f3 : nam.size ≤ 1048576
        case neg => go_wp2; go_ret; exact ⟨⟨_, rfl, by simp⟩, rfl⟩
        by_cases f4 : z + sch.size + nam.size ≤ 1048576
        case neg => go_wp2; go_ret; exact ⟨⟨_, rfl, by simp⟩, rfl⟩
        by_cases f5 : nc ≤ 1048576
        case neg => go_wp2; go_ret; exact ⟨⟨_, rfl, by simp⟩, rfl⟩
        by_cases f6 : z + sch.size + nam.size + nc ≤ 1048576
        case neg => go_wp2; go_ret; exact ⟨⟨_, rfl, by simp⟩, rfl⟩
        go_wp2
        go_loop [16, 17, 19] (fun _ t i => ∃ (k : Nat) (z : Int), k ≤ nc ∧ i = .int .i64 k ∧ t = .int .i64 z ∧ 0 ≤ z ∧ z ≤ 1048576 ∧ ∀ j, j < k → (col j).size ≤ 1048576) (fun _ _ i => nc - (intOf i).toNat)
        case atStart => exact ⟨0, _, by omega, rfl, rfl, by omega, by omega, fun j hj => absurd hj (by omega)⟩
        case round =>
          obtain ⟨j, z2, hj, rfl, rfl, hy1, hy2, hy⟩ := hrel
          have HY : Hid (∀ l, l < j → (col l).size ≤ 1048576) := hy
          clear hy
          by_cases hltj : j < nc
          · obtain ⟨b', off', rfl, hcc⟩ := HCS.out (by omega)
            have hcell := hcc j hltj
            have hsz := HB4.out j hltj
            clear hcc
            by_cases e1 : (col j).size ≤ 1048576
            case neg => go_wp2; go_ret; exact ⟨⟨_, rfl, by simp⟩, rfl⟩
            by_cases e2 : z2 + (col j).size ≤ 1048576
            case neg => go_wp2; go_ret; exact ⟨⟨_, rfl, by simp⟩, rfl⟩
            go_wp2
            go_round
            case rel => exact ⟨j + 1, _, by omega, by go_num, rfl, by omega, by omega, lt_ext HY.out e1⟩
            case measure => simp [intOf]; omega
          · have : j = nc := by omega
            subst this
            by_cases e1 : np ≤ 1048576
            case neg => go_wp2; go_ret; exact ⟨⟨_, rfl, by simp⟩, rfl⟩
            by_cases e2 : z2 + np ≤ 1048576
            case neg => go_wp2; go_ret; exact ⟨⟨_, rfl, by simp⟩, rfl⟩
            go_wp2
            go_loop [16, 17, 20] (fun _ t i => ∃ (k : Nat) (z : Int), k ≤ np ∧ i = .int .i64 k ∧ t = .int .i64 z ∧ 0 ≤ z ∧ z ≤ 1048576 ∧ ∀ j, j < k → (prt j).size ≤ 1048576) (fun _ _ i => np - (intOf i).toNat)
            case atStart => exact ⟨0, _, by omega, rfl, rfl, by omega, by omega, fun j hj => absurd hj (by omega)⟩
            case round =>
              obtain ⟨l, z3, hl, rfl, rfl, hx1, hx2, hx⟩ := hrel
              have HX : Hid (∀ m, m < l → (prt m).size ≤ 1048576) := hx
              clear hx
              by_cases hltl : l < np
              · obtain ⟨b', off', rfl, hcc⟩ := HPS.out (by omega)
                have hcell := hcc l hltl
                have hsz := HB5.out l hltl
                clear hcc
                by_cases e3 : (prt l).size ≤ 1048576
                case neg => go_wp2; go_ret; exact ⟨⟨_, rfl, by simp⟩, rfl⟩
                by_cases e4 : z3 + (prt l).size ≤ 1048576
                case neg => go_wp2; go_ret; exact ⟨⟨_, rfl, by simp⟩, rfl⟩
                go_wp2
                go_round
                case rel => exact ⟨l + 1, _, by omega, by go_num, rfl, by omega, by omega, lt_ext HX.out e3⟩
                case measure => simp [intOf]; omega
              · have : l = np := by omega
                subst this
                go_wp2
                go_round
                case rel => exact ⟨i + 1, _, by omega, by go_num, rfl, by omega, by omega, HSTEP.out f1 f3 f5 e1 HY.out HX.out⟩
                case measure => simp [intOf]; omega
      · have : i = n := by omega
        subst this
        by_cases f1 : sc.size ≤ 1048576
        case neg => go_wp2; go_ret; exact ⟨⟨_, rfl, by simp⟩, rfl⟩
        by_cases f2 : z + sc.size ≤ 1048576
        case neg => go_wp2; go_ret; exact ⟨⟨_, rfl, by simp⟩, rfl⟩
        by_cases f3 : nm.size ≤ 1048576
        case neg => go_wp2; go_ret; exact ⟨⟨_, rfl, by simp⟩, rfl⟩
        by_cases f4 : z + sc.size + nm.size ≤ 1048576
        case neg => go_wp2; go_ret; exact ⟨⟨_, rfl, by simp⟩, rfl⟩
        by_cases f5 : cn.size ≤ 1048576
        case neg => go_wp2; go_ret; exact ⟨⟨_, rfl, by simp⟩, rfl⟩
        by_cases f6 : z + sc.size + nm.size + cn.size ≤ 1048576
        case neg => go_wp2; go_ret; exact ⟨⟨_, rfl, by simp⟩, rfl⟩
        by_cases f7 : pn.size ≤ 1048576
        case neg => go_wp2; go_ret; exact ⟨⟨_, rfl, by simp⟩, rfl⟩
        by_cases f8 : z + sc.size + nm.size + cn.size + pn.size ≤ 1048576
        case neg => go_wp2; go_ret; exact ⟨⟨_, rfl, by simp⟩, rfl⟩
        go_wp2
        go_ret
        exact ⟨⟨_, rfl, fun _ => ⟨g1, HQ.out, f1, f3, f5, f7⟩⟩, rfl⟩
  · go_enter Try.func10, Try.ntmps10
    go_wp2
    go_ret
    exact ⟨⟨_, rfl, by simp⟩, rfl⟩
end Go.Proofs.Qxb6000463a
