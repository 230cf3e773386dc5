/-
  WALKS for the law on Renames: sBytes (34), okSTables (33), okRenamesEdit (11).
-/
import Derived.Test.Qxb6000463aW1
namespace Go.Proofs.Qxb6000463a
open Go.RowKit
set_option linter.unusedVariables false
set_option linter.unusedSimpArgs false

/-- What a slice of STable holds, by index. -/
structure TD where
  sch : Nat → ByteArray
  nam : Nat → ByteArray
  ca : Nat → Option Addr
  nc : Nat → Nat
  cc : Nat → Nat
  col : Nat → Nat → ByteArray
  pa : Nat → Option Addr
  np : Nat → Nat
  pc : Nat → Nat
  prt : Nat → Nat → ByteArray

structure TabAt (w : World) (b off : Nat) (T : TD) (i : Nat) : Prop where
  sch : w.cell? ⟨b, off + i * 4, none⟩ = some (.string (T.sch i))
  nam : w.cell? ⟨b, off + i * 4 + 1, none⟩ = some (.string (T.nam i))
  cols : w.cell? ⟨b, off + i * 4 + 2, none⟩ = some (.slice (T.ca i) (T.nc i) (T.cc i))
  parts : w.cell? ⟨b, off + i * 4 + 3, none⟩ = some (.slice (T.pa i) (T.np i) (T.pc i))
  hcols : StrSl w (T.ca i) (T.nc i) (T.col i)
  hparts : StrSl w (T.pa i) (T.np i) (T.prt i)

def TabSl (w : World) (ao : Option Addr) (n : Nat) (T : TD) : Prop :=
  0 < n → ∃ b off, ao = some ⟨b, off, none⟩ ∧ ∀ i, i < n → TabAt w b off T i

/-- All lengths of table i fit M. -/
structure BdAt (M : Nat) (T : TD) (i : Nat) : Prop where
  sch : (T.sch i).size ≤ M
  nam : (T.nam i).size ≤ M
  nc : T.nc i ≤ M
  np : T.np i ≤ M
  col : ∀ j, j < T.nc i → (T.col i j).size ≤ M
  prt : ∀ j, j < T.np i → (T.prt i j).size ≤ M

def P34 (w : World) (e : Ending) (w' : World) : Prop := (∃ r, e = .returned (.int .i64 r) ∧ 0 ≤ r ∧ r ≤ 4000000) ∧ ∃ m, w' = w.drewN m
set_option maxRecDepth 20000 in
set_option maxHeartbeats 1000000 in
theorem sBytes34 (ao : Option Addr) (n c : Nat) (T : TD) (w : World) (hn : n ≤ 1048576) (hb : ∀ i, i < n → BdAt 1048576 T i) (hc : TabSl w ao n T) :
    Calls Try.prog 34 #[.slice ao n c] w (P34 w) := by
  have HC : Hid (TabSl w ao n T) := hc
  have HB : Hid (∀ i, i < n → BdAt 1048576 T i) := hb
  clear hc hb
  go_enter Try.func34, Try.ntmps34
  go_wp2
  go_loopw [2, 3, 4, 5, 6, 7, 8] (fun _ t i _ _ _ _ wr => ∃ (k : Nat) (z : Int), k ≤ n ∧ i = .int .i64 k ∧ t = .int .i64 z ∧ 0 ≤ z ∧ z ≤ 4000000 ∧ ∃ m, wr = w.drewN m) (fun _ _ i _ _ _ _ _ => n - (intOf i).toNat)
  case atStart => exact ⟨0, 0, by omega, rfl, rfl, by omega, by omega, 0, rfl⟩
  case round =>
    obtain ⟨k, z, hk, rfl, rfl, h1, h2, m, rfl⟩ := hrel
    by_cases hlt : k < n
    · by_cases hz : 1048576 < z
      · go_wp2
        go_ret
        exact ⟨⟨_, rfl, by omega, by omega⟩, _, rfl⟩
      · obtain ⟨b, off, rfl, hcc⟩ := HC.out (by omega)
        obtain ⟨c0, c1, c2, c3, hcs, hps⟩ := hcc k hlt
        obtain ⟨b0, b1, b2, b3, b4, b5⟩ := HB.out k hlt
        have HCS : Hid (StrSl w (T.ca k) (T.nc k) (T.col k)) := hcs
        have HPS : Hid (StrSl w (T.pa k) (T.np k) (T.prt k)) := hps
        have HB4 : Hid (∀ j, j < T.nc k → (T.col k j).size ≤ 1048576) := b4
        have HB5 : Hid (∀ j, j < T.np k → (T.prt k j).size ≤ 1048576) := b5
        generalize T.sch k = sch at *
        generalize T.nam k = nam at *
        generalize T.ca k = ca at *
        generalize T.nc k = nc at *
        generalize T.cc k = cc at *
        generalize T.pa k = pa at *
        generalize T.np k = np at *
        generalize T.pc k = pc at *
        generalize T.col k = col at *
        generalize T.prt k = prt at *
        have hk0 : (0:Int) ≤ (k : Int) := by omega
        have hlt' : (k:Int) < (n:Int) := by omega
        clear hcc hcs hps b4 b5
        go_wp2
        go_quiet (fail)
        go_wp2
        go_loop [2, 3, 6] (fun _ t i => ∃ (k : Nat) (z : Int), k ≤ nc ∧ i = .int .i64 k ∧ t = .int .i64 z ∧ 0 ≤ z ∧ z ≤ 4000000) (fun _ _ i => nc - (intOf i).toNat)
        case atStart => exact ⟨0, _, by omega, rfl, rfl, by omega, by omega⟩
        case round =>
          obtain ⟨j, z2, hj, rfl, rfl, h3, h4⟩ := hrel
          by_cases hltj : j < nc
          · by_cases hz2 : 1048576 < z2
            · go_wp2
              go_ret
              exact ⟨⟨_, rfl, by omega, by omega⟩, _, rfl⟩
            · obtain ⟨b', off', rfl, hcc⟩ := HCS.out (by omega)
              have hcell := hcc j hltj
              have hsz := HB4.out j hltj
              clear hcc
              go_wp2
              go_round
              case rel => exact ⟨j + 1, _, by omega, by go_num, rfl, by omega, by omega⟩
              case measure => simp [intOf]; omega
          · have : j = nc := by omega
            subst this
            go_wp2
            go_loop [2, 3, 8] (fun _ t i => ∃ (k : Nat) (z : Int), k ≤ np ∧ i = .int .i64 k ∧ t = .int .i64 z ∧ 0 ≤ z ∧ z ≤ 4000000) (fun _ _ i => np - (intOf i).toNat)
            case atStart => exact ⟨0, _, by omega, rfl, rfl, by omega, by omega⟩
            case round =>
              obtain ⟨l, z3, hl, rfl, rfl, h5, h6⟩ := hrel
              by_cases hltl : l < np
              · by_cases hz3 : 1048576 < z3
                · go_wp2
                  go_ret
                  exact ⟨⟨_, rfl, by omega, by omega⟩, _, rfl⟩
                · obtain ⟨b', off', rfl, hcc⟩ := HPS.out (by omega)
                  have hcell := hcc l hltl
                  have hsz := HB5.out l hltl
                  clear hcc
                  go_wp2
                  go_round
                  case rel => exact ⟨l + 1, _, by omega, by go_num, rfl, by omega, by omega⟩
                  case measure => simp [intOf]; omega
              · have : l = np := by omega
                subst this
                go_wp2
                go_roundw
                case rel => exact ⟨k + 1, _, by omega, by go_num, rfl, by omega, by omega, _, rfl⟩
                case measure => simp [intOf]; omega
    · have : k = n := by omega
      subst this
      go_wp2
      go_ret
      exact ⟨⟨_, rfl, by omega, by omega⟩, _, rfl⟩

def P33 (n : Nat) (T : TD) (w : World) (e : Ending) (w' : World) : Prop :=
  (∃ r, e = .returned (.bool r) ∧ (r = true → n ≤ 4096 ∧ ∀ i, i < n → T.nc i ≤ 4096 ∧ T.np i < 4096)) ∧ ∃ m, w' = w.drewN m
set_option maxHeartbeats 400000 in
theorem ok33 (ao : Option Addr) (n c : Nat) (T : TD) (w : World) (hn : n ≤ 1048576) (hb : ∀ i, i < n → BdAt 1048576 T i) (hc : TabSl w ao n T) :
    Calls Try.prog 33 #[.slice ao n c] w (P33 n T w) := by
  have HC : Hid (TabSl w ao n T) := hc
  have HB : Hid (∀ i, i < n → BdAt 1048576 T i) := hb
  clear hc hb
  by_cases h1 : n ≤ 4096
  · go_enter Try.func33, Try.ntmps33
    go_wp2_with fail
    refine (sBytes34 ao n c T _ hn HB.out HC.out).mono ?_
    rintro e w' ⟨⟨r, rfl, hr1, hr2⟩, q, hw⟩
    subst w'
    by_cases hr : 1048576 < r
    · go_wp2
      go_ret
      exact ⟨⟨_, rfl, by simp⟩, _, rfl⟩
    · go_wp2
      go_loop [3] (fun i => ∃ k : Nat, k ≤ n ∧ i = .int .i64 k ∧ ∀ i, i < k → T.nc i ≤ 4096 ∧ T.np i < 4096) (fun i => n - (intOf i).toNat)
      case atStart => exact ⟨0, by omega, rfl, fun i hi => absurd hi (by omega)⟩
      case round =>
        obtain ⟨k, hk, rfl, hq⟩ := hrel
        have HQ : Hid (∀ i, i < k → T.nc i ≤ 4096 ∧ T.np i < 4096) := hq
        clear hq
        by_cases hlt : k < n
        · obtain ⟨b, off, rfl, hcc⟩ := HC.out (by omega)
          obtain ⟨c0, c1, c2, c3, hcs, hps⟩ := hcc k hlt
          obtain ⟨b0, b1, b2, b3, b4, b5⟩ := HB.out k hlt
          clear hcc hcs hps b4 b5
          have hstep : Hid (T.nc k ≤ 4096 → T.np k < 4096 → ∀ i, i < k + 1 → T.nc i ≤ 4096 ∧ T.np i < 4096) := fun a1 a2 i hi => by
            by_cases e : i = k
            · subst e; exact ⟨a1, a2⟩
            · exact HQ.out i (by omega)
          generalize T.nc k = nc at *
          generalize T.np k = np at *
          by_cases g1 : nc ≤ 4096
          · by_cases g2 : np < 4096
            · go_wp2
              go_round
              case rel => exact ⟨k + 1, by omega, by go_num, hstep.out g1 g2⟩
              case measure => simp [intOf]; omega
            · go_wp2
              go_ret
              exact ⟨⟨_, rfl, by simp⟩, _, rfl⟩
          · go_wp2
            go_ret
            exact ⟨⟨_, rfl, by simp⟩, _, rfl⟩
        · have : k = n := by omega
          subst this
          go_wp2
          go_ret
          exact ⟨⟨_, rfl, fun _ => ⟨h1, HQ.out⟩⟩, _, rfl⟩
  · go_enter Try.func33, Try.ntmps33
    go_wp2
    go_ret
    exact ⟨⟨_, rfl, by simp⟩, 0, rfl⟩

def P11 (n : Nat) (T : TD) (k : Int) (w : World) (e : Ending) (w' : World) : Prop :=
  (∃ r, e = .returned (.bool r) ∧ (r = true → n ≤ 4096 ∧ (∀ i, i < n → T.nc i ≤ 4096 ∧ T.np i < 4096) ∧ 0 ≤ k ∧ k < n)) ∧ ∃ m, w' = w.drewN m
set_option maxHeartbeats 400000 in
theorem ok11 (ao : Option Addr) (n c : Nat) (T : TD) (w : World) (hn : n ≤ 1048576) (hb : ∀ i, i < n → BdAt 1048576 T i) (hc : TabSl w ao n T)
    (k : Int) (sc nm : ByteArray) (ci : Int) (cn : ByteArray) (qi : Int) (pn : ByteArray) (h1 : sc.size ≤ 1048576) (h2 : nm.size ≤ 1048576) (h3 : cn.size ≤ 1048576) (h4 : pn.size ≤ 1048576) :
    Calls Try.prog 11 #[.slice ao n c, .int .i64 k, .string sc, .string nm, .int .i64 ci, .string cn, .int .i64 qi, .string pn] w (P11 n T k w) := by
  have HC : Hid (TabSl w ao n T) := hc
  have HB : Hid (∀ i, i < n → BdAt 1048576 T i) := hb
  clear hc hb
  go_enter Try.func11, Try.ntmps11
  go_wp2_with fail
  refine (ok33 ao n c T _ hn HB.out HC.out).mono ?_
  rintro e w' ⟨⟨r, rfl, hr⟩, q, hw⟩
  subst w'
  cases r with
  | false =>
    clear hr
    go_wp2
    go_ret
    exact ⟨⟨_, rfl, by simp⟩, _, rfl⟩
  | true =>
    have HR := hr rfl
    have HR' : Hid (n ≤ 4096 ∧ ∀ i, i < n → T.nc i ≤ 4096 ∧ T.np i < 4096) := HR
    clear HR hr
    by_cases hs : (sc.size : Int) + nm.size + cn.size + pn.size ≤ 1048576
    · go_wp2_with fail
      refine (sBytes34 ao n c T (w.drewN q) hn HB.out (show TabSl (w.drewN q) ao n T from fun h => let ⟨b, off, e, h'⟩ := HC.out h; ⟨b, off, e, fun i hi => ⟨(h' i hi).1, (h' i hi).2, (h' i hi).3, (h' i hi).4, (h' i hi).5, (h' i hi).6⟩⟩)).mono ?_
      rintro e w' ⟨⟨r, rfl, hr1, hr2⟩, q2, hw⟩
      subst w'
      by_cases hr : (sc.size : Int) + nm.size + cn.size + pn.size + r ≤ 1048576
      · by_cases k0 : 0 ≤ k
        · by_cases k1 : k < n
          · go_wp2
            go_ret
            exact ⟨⟨_, rfl, fun _ => ⟨HR'.out.1, HR'.out.2, k0, k1⟩⟩, (by first | exact ⟨_, rfl⟩ | exact drewN_ex ..)⟩
          · go_wp2
            go_ret
            exact ⟨⟨_, rfl, by simp; omega⟩, (by first | exact ⟨_, rfl⟩ | exact drewN_ex ..)⟩
        · go_wp2
          go_ret
          exact ⟨⟨_, rfl, by simp⟩, (by first | exact ⟨_, rfl⟩ | exact drewN_ex ..)⟩
      · go_wp2
        go_ret
        exact ⟨⟨_, rfl, by simp⟩, (by first | exact ⟨_, rfl⟩ | exact drewN_ex ..)⟩
    · go_wp2
      go_ret
      exact ⟨⟨_, rfl, by simp⟩, _, rfl⟩
end Go.Proofs.Qxb6000463a
