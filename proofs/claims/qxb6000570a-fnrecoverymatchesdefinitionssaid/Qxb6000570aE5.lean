/-
  WALK: recoveryOf (38).
-/
import Derived.Test.Qxb6000570aE5a
namespace Go.Proofs.Qxb6000570a
open Go.RowKit
set_option linter.unusedVariables false
set_option linter.unusedSimpArgs false

set_option maxRecDepth 20000 in
set_option maxHeartbeats 40000000 in
theorem rec38 (S : Sch) (n ob tb eb m : Nat) (oa : Option Addr) (oc : Nat) (EH : Nat → Nat) (EA : Nat → Int) (O : Nat → Nat) (w : World) (hn : n ≤ 4096) (hw : Wf S n) (hin : In38 S w n ob tb eb m oa oc EH EA O) :
    Calls Try.prog 38 #[.slice (some ⟨ob, 0, none⟩) n n, .pointer (some ⟨tb, 0, none⟩)] w (P38 S n w) := by
  have HIN : Hid (In38 S w n ob tb eb m oa oc EH EA O) := hin
  have HW : Hid (Wf S n) := hw
  clear hin hw
  have hmm := @run_makeMap Try.prog
  go_enter Try.func38, Try.ntmps38
  go_wp2
  go_loopw [20] (fun i wr => ∃ k : Nat, k ≤ n ∧ i = .int .i64 k ∧ RInv S w wr k) (fun i _ => n - (intOf i).toNat)
  case atStart =>
    exact ⟨0, by omega, rfl, 0, _, _, _, _, _, _, _, true, true, true, true, rst_start S w⟩
  case round =>
    obtain ⟨k, hk, rfl, c, κ, β, LA, wv, rv, WL, RL, r, a, s, g, hst⟩ := hrel
    have HST : Hid (RSt S w wr k c κ β LA wv rv WL RL r a s g) := hst
    clear hst
    by_cases hlt : k < n
    · have hin1 := HIN.out.below (HST.out.mem.bel)
      have o0 := hin1.ops.cell hlt (j := 0) (by omega)
      have o1 := hin1.ops.cell hlt (j := 1) (by omega)
      have o2 := hin1.ops.cell hlt (j := 2) (by omega)
      have o3 := hin1.ops.cell hlt (j := 3) (by omega)
      have o4 := hin1.ops.cell hlt (j := 4) (by omega)
      simp only [opF] at o0 o1 o2 o3 o4
      rw [Nat.add_zero] at o0
      clear hin1
      go_wp2_with fail
      refine (takes41 (S.K k) _).mono ?_
      rintro e w1 ⟨rfl, hw1⟩
      subst w1
      clear o0 o1 o2 o3 o4
      cases htk : takes (S.K k) with
      | false =>
        have ht : ¬ Takes S k := by
          intro h
          unfold takes at htk
          rcases h with h | h <;> (rw [h] at htk; cases htk)
        go_wp2
        go_roundw
        case rel => exact ⟨k + 1, by omega, by go_num, c, κ, β, LA, wv, rv, WL, RL, r, a, s, g, (HST.out.below ((Below.refl _ _).alloc (Nat.le_refl _) _)).skip ht⟩
        case measure => simp [intOf]; omega
      | true =>
        have ht : Takes S k := by
          unfold takes at htk
          simp at htk
          exact htk
        have hin1 := HIN.out.below (HST.out.mem.bel)
        obtain ⟨hO, hOH, hOA⟩ := HIN.out.lt k hlt
        obtain ⟨rb, ro, hoa, hof⟩ := hin1.of (by omega)
        have t1 := hin1.t1
        have t2 := hin1.t2
        rw [hoa] at t2
        have q1 := hof k hlt
        have e0 := hin1.ends.cell hO (j := 0) (by omega)
        have e1 := hin1.ends.cell hO (j := 1) (by omega)
        simp only [endF] at e0 e1
        rw [Nat.add_zero, ← hOH] at e0
        rw [← hOA] at e1
        have ltb : tb < wr.heap.size := World.block_lt_of_cell? wr ⟨tb, 1, none⟩ t1
        have lrb : rb < wr.heap.size := World.block_lt_of_cell? wr ⟨rb, ro + k, none⟩ q1
        have leb : eb < wr.heap.size := hin1.ends.lt
        have x1 : (0:Int) ≤ (k : Int) := by omega
        have x2 : (k:Int) < (n : Int) := by omega
        have x3 : (0:Int) ≤ (O k : Nat) := by omega
        have x4 : ((O k : Nat) : Int) < (m : Int) := by omega
        clear hof hin1 hoa hOH hOA
        go_wp2
        go_region
        go_upto_region 8 with fail
        obtain ⟨w1, hw1⟩ : ∃ x, x = ((wr.alloc (.cells #[.int .u8 (S.K k : Nat), .int .i64 (S.X k), .string (S.I k), .int .i64 0, .bool false] 57)).alloc (.cells #[.int .i64 (S.X k), .int .u8 (S.H k : Nat), .int .i64 (S.A k)] 75)).drew := ⟨_, rfl⟩
        have HB1 : Hid (Below wr.heap.size wr w1) := by rw [hw1]; exact Below.drewN' (((Below.refl _ _).alloc (Nat.le_refl _) _).alloc (by simp) _) 1
        have HM1 : Hid (RMem S w w1 c κ β LA wv rv WL RL r a s g) := HST.out.mem.below HB1.out
        have HOP : Hid (Els w1 wr.heap.size 5 1 (fun i _ => opF S k i)) := by
          show Els _ _ _ _ _
          rw [hw1]
          refine (((els_lit wr #[.int .u8 (S.K k : Nat), .int .i64 (S.X k), .string (S.I k), .int .i64 0, .bool false] 57).alloc _).drew).congr fun i hi j hj => ?_
          have : i = 0 ∨ i = 1 ∨ i = 2 ∨ i = 3 ∨ i = 4 := by simp at hi; omega
          rcases this with rfl | rfl | rfl | rfl | rfl <;> rfl
        have HSE : Hid (Els w1 (wr.heap.size + 1) 3 1 (fun i _ => (tx3 S (some k))[i]!)) := by
          show Els _ _ _ _ _
          rw [hw1]
          have h1 := (els_lit (wr.alloc (.cells #[.int .u8 (S.K k : Nat), .int .i64 (S.X k), .string (S.I k), .int .i64 0, .bool false] 57)) #[.int .i64 (S.X k), .int .u8 (S.H k : Nat), .int .i64 (S.A k)] 75).drew
          rw [size_alloc'] at h1
          refine h1.congr fun i hi j hj => ?_
          have : i = 0 ∨ i = 1 ∨ i = 2 := by simp at hi; omega
          rcases this with rfl | rfl | rfl <;> rfl
        have hs1 : w1.heap.size = wr.heap.size + 2 := by rw [hw1]; simp [World.drew]
        rw [← hw1]
        clear hw1 t1 t2 q1 e0 e1 ltb lrb leb x1 x2 x3 x4
        have op2 : w1.cell? ⟨wr.heap.size, 2, none⟩ = some (.string (S.I k)) := HOP.out.cell1 (i := 2) (by omega)
        obtain ⟨pv, hlk, hpv⟩ : ∃ pv : Option Addr, (Instr.lookup 72 (.map (some (w.heap.size + 2))) (.string (S.I k)) false).run Try.prog w1 = .ok (.pointer pv) w1 ∧ ((∃ j, j < c ∧ κ j = S.I k ∧ pv = some ⟨β j, 0, none⟩) ∨ (pv = none ∧ ∀ j, j < c → κ j ≠ S.I k)) := by
          by_cases hex : ∃ j, j < c ∧ κ j = S.I k
          · obtain ⟨j, hj, e⟩ := hex
            exact ⟨_, map_hit w1 _ c j κ β HM1.out.its.map hj (fun i hi => HM1.out.its.dst i j hi hj) _ e.symm, .inl ⟨j, hj, e, rfl⟩⟩
          · have hno : ∀ j, j < c → κ j ≠ S.I k := fun j hj e => hex ⟨j, hj, e⟩
            exact ⟨none, map_miss w1 _ c κ β HM1.out.its.map _ hno, .inr ⟨rfl, hno⟩⟩
        have HPV : Hid ((∃ j, j < c ∧ κ j = S.I k ∧ pv = some ⟨β j, 0, none⟩) ∨ (pv = none ∧ ∀ j, j < c → κ j ≠ S.I k)) := hpv
        have hpe : ∀ W : World, (binOp .eql 76 (.pointer pv) (.pointer none)).run Try.prog W = .ok (.bool pv.isNone) W := fun W => by
          cases pv <;> kernel_rfl
        have HPL : Hid (Pl S k c κ LA WL RL) := HST.out.pl
        have HQB : Hid (w.heap.size + 3 ≤ wr.heap.size) := HST.out.mem.big
        clear hpv
        go_upto_if 52 with fail
        clear hlk hpe
        go_cut [11, 20] from 20 to 173 (fun s11 s20 wx => s20 = .int .i64 (k : Nat) ∧ ∃ (j c' : Nat) (κ' : Nat → ByteArray) (β' : Nat → Nat) (LA' : Nat → Option Nat) (wv' rv' : Nat → Value) (WL' RL' : Nat → List Nat), s11 = .pointer (some ⟨β' j, 0, none⟩) ∧ Mid S w wx k wr.heap.size j c' κ' β' LA' wv' rv' WL' RL' r a s g ∧ Pl S k c' κ' LA' WL' RL')
        case first => as_aux_lemma =>
          rcases HPV.out with ⟨j, hj, e, hp⟩ | ⟨hp, hno⟩
          · subst hp
            go_wp2
            go_meet
            case rel => exact ⟨rfl, j, c, κ, β, LA, wv, rv, WL, RL, rfl, ⟨HM1.out, hj, e, HOP.out, HSE.out, fun x hx => by have := ((HST.out.mem.its.it j hj).own hx).2; omega, HQB.out⟩, HPL.out⟩
          · subst hp
            have HNO : Hid (∀ j, j < c → κ j ≠ S.I k) := hno
            clear hno
            have hput := map_put (w1.alloc (.cells #[.int .i64 0, .int .u8 0, .int .i64 0, .slice none 0 0, .slice none 0 0] 79)) (w.heap.size + 2) c (wr.heap.size + 2) κ β ((Below.heap_alloc _ _ _ (by have := HQB.out; omega)).trans HM1.out.its.map) (S.I k) HNO.out
            go_wp2
            go_meet
            case rel => exact ⟨rfl, c, c + 1, _, _, _, _, _, _, _, by rw [upd_same], mid_new HM1.out HOP.out HSE.out hs1 HQB.out HNO.out, HPL.out.add HNO.out⟩
        case rest => as_aux_lemma =>
          have HFC : Hid (r = true ↔ FC S k) := HST.out.fc
          have HFA : Hid (a = true ↔ FA S k) := HST.out.fa
          have HFS : Hid (s = true ↔ FS S k) := HST.out.fs
          have HFR : Hid (g = true ↔ FS S k ∧ FR S k) := HST.out.fr
          clear HST HM1 HOP HSE HPV HPL HB1 HQB op2 hs1 hmm
          obtain ⟨hs20, j, c, κ, β, LA, wv, rv, WL, RL, hs11, hmid, hpl⟩ := hcut
          subst hs11
          subst hs20
          rename World => w2
          have HMID : Hid (Mid S w w2 k wr.heap.size j c κ β LA wv rv WL RL r a s g) := hmid
          have HPL : Hid (Pl S k c κ LA WL RL) := hpl
          obtain ⟨xt, xh, xa, hx3, hxn, hxs⟩ := tx3_form S (LA j)
          obtain ⟨b0, b1, b2, _, _⟩ := (hmid.mem.its.it j hmid.hj).last hx3
          have HXN : Hid (LA j = none → xt = 0) := hxn
          have HXS : Hid (∀ q, LA j = some q → xt = S.X q ∧ xh = S.H q ∧ xa = S.A q) := hxs
          have HSF : Hid (∀ W, Below w2.heap.size w2 W → Mid S w W k wr.heap.size j c κ β LA wv rv WL RL r a s g) := fun W hW => hmid.below hW
          have s0 : w2.cell? ⟨wr.heap.size + 1, 0, none⟩ = some (.int .i64 (S.X k)) := hmid.self.cell1 (i := 0) (by omega)
          have ls : wr.heap.size + 1 < w2.heap.size := hmid.self.lt
          clear hmid hpl hx3 hxn hxs
          go_upto_region 13 with fail
          clear b0 b1 b2
          go_cut [20, 79] from 20 to 173 (fun s20 s79 wx => s20 = .int .i64 (k : Nat) ∧ ∃ bad : Bool, s79 = .bool bad ∧ (bad = true ↔ (xt ≠ 0 ∧ xt ≠ S.X k ∧ stat xh xa ((k : Int) + 1) = 0)) ∧ Mid S w wx k wr.heap.size j c κ β LA wv rv WL RL r a s g)
          case first => as_aux_lemma =>
            by_cases hx0 : xt = 0
            · subst hx0
              go_wp2
              go_meet
              case rel => exact ⟨rfl, false, rfl, by simp, HSF.out _ ((Below.refl _ _).alloc (Nat.le_refl _) _)⟩
            · have hx0b : (xt != 0) = true := by simp [hx0]
              by_cases hxk : xt = S.X k
              · go_wp2
                go_meet
                case rel => exact ⟨rfl, false, rfl, by simp [hxk], HSF.out _ ((Below.refl _ _).alloc (Nat.le_refl _) _)⟩
              · have hxkb : (xt != S.X k) = true := by simp [hxk]
                go_wp2_with fail
                refine (stat42 xh xa ((k : Int) + 1) _).mono ?_
                rintro e w3 ⟨rfl, hb3⟩
                have HB3 : Hid (Below w2.heap.size w2 w3) := ((Below.refl _ _).alloc (Nat.le_refl _) _).trans (hb3.mono (by simp))
                clear hb3 s0
                by_cases hz : stat xh xa ((k : Int) + 1) = 0
                · rw [hz]
                  go_wp2
                  go_meet
                  case rel => exact ⟨rfl, true, rfl, by simp [hx0, hxk, hz], HSF.out _ HB3.out⟩
                · have hzb : (((stat xh xa ((k : Int) + 1) : Nat) : Int) == 0) = false := by simp; exact hz
                  go_wp2
                  go_meet
                  case rel => exact ⟨rfl, false, (by first | rfl | (rw [hzb])), by simp [hz], HSF.out _ HB3.out⟩
          case rest => as_aux_lemma =>
            clear HSF s0 ls
            obtain ⟨hs20, bad, hs79, hbad, hmid⟩ := hcut
            subst hs79
            subst hs20
            rename World => w3
            have HBAD : Hid (bad = true ↔ (xt ≠ 0 ∧ xt ≠ S.X k ∧ stat xh xa ((k : Int) + 1) = 0)) := hbad
            have HMID : Hid (Mid S w w3 k wr.heap.size j c κ β LA wv rv WL RL r a s g) := hmid
            have f2 : w3.cell? ⟨w.heap.size + 1, 2, none⟩ = some (.bool s) := hmid.mem.fl.cell1 (i := 2) (by omega)
            have f3 : w3.cell? ⟨w.heap.size + 1, 3, none⟩ = some (.bool g) := hmid.mem.fl.cell1 (i := 3) (by omega)
            have ff := hmid.mem.fl.free
            clear hbad hmid
            go_upto_if 79 with fail
            go_cut [20] from 20 to 173 (fun s20 wx => s20 = .int .i64 (k : Nat) ∧ Mid S w wx k wr.heap.size j c κ β LA wv rv WL RL r a (s && !bad) (g && !bad))
            case first => as_aux_lemma =>
              cases bad with
              | false =>
                go_wp2
                go_meet
                case rel => exact ⟨rfl, by simpa using HMID.out⟩
              | true =>
                go_wp2
                go_meet
                case rel => exact ⟨rfl, ((HMID.out.setFl 2 (by omega) (.bool false) (r' := r) (a' := a) (s' := false) (g' := g) rfl (flF_2 _ _ _ _ _)).setFl 3 (by omega) (.bool false) (r' := r) (a' := a) (s' := s && !true) (g' := g && !true) (by simp [flF]) (by simpa using flF_3 _ _ _ _ _))⟩
            case rest => as_aux_lemma =>
              clear f2 f3 ff HMID
              obtain ⟨hs20, hmid⟩ := hcut
              subst hs20
              rename World => w4
              have HMID : Hid (Mid S w w4 k wr.heap.size j c κ β LA wv rv WL RL r a (s && !bad) (g && !bad)) := hmid
              obtain ⟨s1, hs1⟩ : ∃ x, x = (s && !bad) := ⟨_, rfl⟩
              obtain ⟨g1, hg1⟩ : ∃ x, x = (g && !bad) := ⟨_, rfl⟩
              have hstep := strict_step HPL.out HW.out hlt ht hmid.hj hmid.hI HXN.out HXS.out HBAD.out HFS.out HFR.out
              rw [← hs1, ← hg1] at hstep hmid
              have HFS1 : Hid (s1 = true ↔ FS S (k + 1)) := hstep.1
              have HFR1 : Hid (g1 = true ↔ FS S (k + 1) ∧ FR S k) := hstep.2
              have HM4 : Hid (Mid S w w4 k wr.heap.size j c κ β LA wv rv WL RL r a s1 g1) := hmid
              have op0 : w4.cell? ⟨wr.heap.size, 0, none⟩ = some (.int .u8 (S.K k : Nat)) := hmid.op.cell1 (i := 0) (by omega)
              clear hstep hmid hs1 hg1 HMID HBAD HXN HXS HFS HFR
              rcases ht with hK | hK
              · rw [hK] at op0
                obtain ⟨_, _, _, hx3', _, _⟩ := tx3_form S (LA j)
                obtain ⟨_, _, _, b3, b4⟩ := (HM4.out.mem.its.it j HM4.out.hj).last hx3'
                obtain ⟨rao, rcap, hrv, _, _⟩ := row_val (HM4.out.mem.its.it j HM4.out.hj).rs
                rw [hrv] at b4
                have fb := (HM4.out.mem.its.it j HM4.out.hj).blk.free
                have s0 : w4.cell? ⟨wr.heap.size + 1, 0, none⟩ = some (.int .i64 (S.X k)) := HM4.out.self.cell1 (i := 0) (by omega)
                have s1' : w4.cell? ⟨wr.heap.size + 1, 1, none⟩ = some (.int .u8 (S.H k : Nat)) := HM4.out.self.cell1 (i := 1) (by omega)
                have s2' : w4.cell? ⟨wr.heap.size + 1, 2, none⟩ = some (.int .i64 (S.A k)) := HM4.out.self.cell1 (i := 2) (by omega)
                have lb : β j < w4.heap.size := (HM4.out.mem.its.it j HM4.out.hj).blk.lt
                have ls : wr.heap.size + 1 < w4.heap.size := HM4.out.self.lt
                have HRV : Hid (rv j = .slice rao (RL j).length rcap) := hrv
                have HRS : Hid (w4.ownsRow (w.heap.size + 3) 75 3 (.slice rao (RL j).length rcap) (RL j).length (flat S (RL j))) := by
                  have h := (HM4.out.mem.its.it j HM4.out.hj).rs
                  rw [hrv] at h
                  exact h
                have HN2 : Hid ((Value.slice rao (RL j).length rcap).ownBlock ≠ some (β j)) := by
                  have h := (HM4.out.mem.its.it j HM4.out.hj).n2
                  rw [hrv] at h
                  exact h
                have HLN : Hid ((RL j).length + 1 ≤ 100000) := by show _ ≤ _; have := (HPL.out.len j HM4.out.hj).2; omega
                have HBG : Hid (w.heap.size + 3 ≤ w4.heap.size) := HM4.out.mem.big
                have HAL : Hid (∀ g, (Value.slice rao (RL j).length rcap).ownBlock = some g → g < w4.heap.size) := fun g e => (HRS.out.lt g e).2
                have HB4 : Hid (∀ o, (w4.alloc o).cell? ⟨β j, 4, none⟩ = some (.slice rao (RL j).length rcap)) := fun o => (World.cell?_alloc_past o _ _ lb).trans b4
                have HF4 : Hid (∀ o, (w4.alloc o).frozen? ⟨β j, 4, none⟩ = false) := fun o => (World.frozen?_alloc_past o _ _ lb).trans (fb 4)
                clear hrv hx3' b3
                go_upto_region 25 with fail
                go_cut [20] from 20 to 173 (fun s20 wx => s20 = .int .i64 (k : Nat) ∧ ∃ v', Mid S w wx k wr.heap.size j c κ β LA wv (upd rv j v') WL (upd RL j (RL j ++ [k])) r a s1 g1)
                case first => as_aux_lemma =>
                  go_region_law (refine step_push (by rfl) (.tmp 134) (.tmp 136) (by rfl) S (w.heap.size + 3) (.slice rao (RL j).length rcap) (RL j) (by rfl) (ownsRow_keep HRS.out (fun x hx => Below.heap_alloc _ _ _ (HAL.out x hx))) w4.heap.size k (by rfl) (by simp) (by simp) (by simp) HLN.out (by simp; have := HBG.out; omega) ?_; intro gn capn w5 hown5 hgrow5 hat5; have c5 := hgrow5.cell (HB4.out _) (fun e => HN2.out e.symm); have f5 := (World.frozen?_of_block (a := ⟨β j, 4, none⟩) (hgrow5.block (β j) (by simp; omega) (fun e => HN2.out e.symm))).trans (HF4.out _))
                  all_goals
                    go_wp2
                    go_meet
                    refine ⟨rfl, _, HM4.out.pushR (Below.drewN' ((Below.refl _ _).alloc (Nat.le_refl _) (.cells #[.int .i64 (S.X k), .int .u8 (S.H k : Nat), .int .i64 (S.A k)] 75)) 1) ?_ hown5 ?_⟩
                    · rw [HRV.out]; exact hgrow5
                    · rw [HRV.out]; exact hat5.imp id (congrArg some)
                case rest => as_aux_lemma =>
                  obtain ⟨hs20, v', hmid⟩ := hcut
                  subst hs20
                  rename World => w5
                  have HM5 : Hid (Mid S w w5 k wr.heap.size j c κ β LA wv (upd rv j v') WL (upd RL j (RL j ++ [k])) r a s1 g1) := hmid
                  clear hmid HM4 HRV HRS HN2 HLN HBG HAL HB4 HF4 b4 fb s0 s1' s2' lb ls
                  have HIT : Hid (It S w5 (w.heap.size + 3) (β j) (LA j) (wv j) (upd rv j v' j) (WL j) (upd RL j (RL j ++ [k]) j)) := HM5.out.mem.its.it j HM5.out.hj
                  have hwl : (WL j).length ≤ 4096 := by have := (HPL.out.len j HM5.out.hj).1; omega
                  go_wp2_with fail
                  refine (from43 S ((k : Int) + 1) (w.heap.size + 3) (β j) (LA j) (wv j) (upd rv j v' j) (WL j) (upd RL j (RL j ++ [k]) j) _ HM5.out.mem.big hwl HIT.out).mono ?_
                  rintro e w6 ⟨W', D, wv', hW, hD, hit6, hchg6, hown6, hres⟩
                  have hmid6 := HM5.out.touch hit6 (hchg6.weaken (fun x hx => .inl hx)) (fun x hx => by
                    rcases hx with hx | hx | hx
                    · exact .inl (.inl hx)
                    · exact .inl (.inr (.inl (hown6 ▸ hx)))
                    · exact .inl (.inr (.inr hx)))
                  rw [upd_self, upd_self, upd_self] at hmid6
                  have HPL6 : Hid (Pl S (k + 1) c κ LA (upd WL j W') (upd RL j (RL j ++ [k]))) := HPL.out.read HM5.out.mem.its.dst HM5.out.hj HM5.out.hI hK hW hD
                  have HM6 : Hid (Mid S w w6 k wr.heap.size j c κ β LA (upd wv j wv') (upd rv j v') (upd WL j W') (upd RL j (RL j ++ [k])) r a s1 g1) := hmid6
                  rcases hres with ⟨hWn, he⟩ | ⟨L0, x, hWs, hsx, he⟩
                  · have hAC : AA S k ∧ CC S k := src_none (HPL.out.src0 HM5.out.hj HM5.out.hI (fun q hq => hD q (by rw [hW, hWn] at hq; simpa using hq)))
                    have HAC : Hid (AA S k ∧ CC S k) := hAC
                    subst he
                    simp only [tx3]
                    clear hit6 hchg6 hown6 hW hD hmid6 hWn HIT HM5
                    go_wp2
                    go_roundw
                    case rel => exact ⟨k + 1, by omega, by go_num, c, κ, β, LA, _, _, _, _, r, a, s1, g1, rst_read (HM6.out.below ((Below.refl _ _).alloc (Nat.le_refl _) _)).mem HPL6.out hK (by rw [HFC.out]; exact ⟨fun h => ⟨h, HAC.out.2⟩, fun h => h.1⟩) (by rw [HFA.out]; exact ⟨fun h => ⟨h, HAC.out.1⟩, fun h => h.1⟩) HFS1.out HFR1.out⟩
                    case measure => simp [intOf]; omega
                  · subst hWs
                    have HSRC : Hid (Src S k x) := HPL.out.src1 HM5.out.hj HM5.out.hI hW hD hsx
                    have hxn : 1 ≤ S.X x := HW.out.x1 x (by have := HSRC.out.1; omega)
                    have hx0b : (S.X x == 0) = false := by simp; omega
                    subst he
                    simp only [tx3]
                    clear hit6 hchg6 hown6 hW hD hmid6 HIT HM5 hsx
                    have s0 : w6.cell? ⟨wr.heap.size + 1, 0, none⟩ = some (.int .i64 (S.X k)) := HM6.out.self.cell1 (i := 0) (by omega)
                    have ls : wr.heap.size + 1 < w6.heap.size := HM6.out.self.lt
                    by_cases hxk : S.X x = S.X k
                    · have hAC : AA S k ∧ CC S k := src_same HSRC.out hxk
                      have HAC : Hid (AA S k ∧ CC S k) := hAC
                      have hxkb : (S.X x == S.X k) = true := by simp [hxk]
                      clear hAC
                      go_wp2
                      go_roundw
                      case rel => exact ⟨k + 1, by omega, by go_num, c, κ, β, LA, _, _, _, _, r, a, s1, g1, rst_read (HM6.out.below ((Below.refl _ _).alloc (Nat.le_refl _) _)).mem HPL6.out hK (by rw [HFC.out]; exact ⟨fun h => ⟨h, HAC.out.2⟩, fun h => h.1⟩) (by rw [HFA.out]; exact ⟨fun h => ⟨h, HAC.out.1⟩, fun h => h.1⟩) HFS1.out HFR1.out⟩
                      case measure => simp [intOf]; omega
                    · have hxkb : (S.X x == S.X k) = false := by simp [hxk]
                      go_wp2_with fail
                      refine (stat42 (S.H x) (S.A x) ((k : Int) + 1) _).mono ?_
                      rintro e w7 ⟨rfl, hb7⟩
                      have hv7 := (els_lit w6 #[.int .i64 (S.X x), .int .u8 (S.H x : Nat), .int .i64 (S.A x)] 75).below hb7 (by simp)
                      have v0 : w7.cell? ⟨w6.heap.size, 0, none⟩ = some (.int .i64 (S.X x)) := hv7.cell1 (i := 0) (by simp)
                      have v1 : w7.cell? ⟨w6.heap.size, 1, none⟩ = some (.int .u8 (S.H x : Nat)) := hv7.cell1 (i := 1) (by simp)
                      have v2 : w7.cell? ⟨w6.heap.size, 2, none⟩ = some (.int .i64 (S.A x)) := hv7.cell1 (i := 2) (by simp)
                      have HM7 : Hid (Mid S w w7 k wr.heap.size j c κ β LA (upd wv j wv') (upd rv j v') (upd WL j (L0 ++ [x])) (upd RL j (RL j ++ [k])) r a s1 g1) := HM6.out.below (((Below.refl _ _).alloc (Nat.le_refl _) _).trans (hb7.mono (by simp)))
                      have hl7 : w6.heap.size < w7.heap.size := by have := hb7.size; simp at this; omega
                      clear s0 hb7 hv7
                      have s0 : w7.cell? ⟨wr.heap.size + 1, 0, none⟩ = some (.int .i64 (S.X k)) := HM7.out.self.cell1 (i := 0) (by omega)
                      have s1' : w7.cell? ⟨wr.heap.size + 1, 1, none⟩ = some (.int .u8 (S.H k : Nat)) := HM7.out.self.cell1 (i := 1) (by omega)
                      have s2' : w7.cell? ⟨wr.heap.size + 1, 2, none⟩ = some (.int .i64 (S.A k)) := HM7.out.self.cell1 (i := 2) (by omega)
                      by_cases h1 : stat (S.H x) (S.A x) ((k : Int) + 1) = 1
                      · rw [h1]
                        have HFA2 : Hid (a = true ↔ FA S k ∧ AA S k) := by
                          show _ ↔ _
                          rw [HFA.out, src_diffA HSRC.out hxk]; exact ⟨fun h => ⟨h, h1⟩, fun h => h.1⟩
                        have HMT : Hid (Mid S w w7 k wr.heap.size j c κ β LA (upd wv j wv') (upd rv j v') (upd WL j (L0 ++ [x])) (upd RL j (RL j ++ [k])) r a s1 g1) := HM7.out
                        by_cases hHk : S.H k = 1
                        · rw [hHk] at s1'
                          go_wp2_with fail
                          refine (stat42 (S.H x) (S.A x) (S.A k) _).mono ?_
                          rintro e w8 ⟨rfl, hb8⟩
                          have HM8 : Hid (Mid S w w8 k wr.heap.size j c κ β LA (upd wv j wv') (upd rv j v') (upd WL j (L0 ++ [x])) (upd RL j (RL j ++ [k])) r a s1 g1) := HMT.out.below hb8
                          clear s0 s1' s2' v0 v1 v2
                          by_cases h2 : stat (S.H x) (S.A x) (S.A k) = 1
                          · rw [h2]
                            go_wp2
                            go_roundw
                            case rel => exact ⟨k + 1, by omega, by go_num, c, κ, β, LA, _, _, _, _, r, a, s1, g1, rst_read HM8.out.mem HPL6.out hK (by rw [HFC.out, src_diffC HSRC.out hxk]; exact ⟨fun h => ⟨h, fun _ => h2⟩, fun h => h.1⟩) HFA2.out HFS1.out HFR1.out⟩
                            case measure => simp [intOf]; omega
                          · have h2b : (((stat (S.H x) (S.A x) (S.A k) : Nat) : Int) != 1) = true := by simp; omega
                            have h2n : ¬ ((stat (S.H x) (S.A x) (S.A k) : Nat) : Int) = 1 := by omega
                            have f0 : w8.cell? ⟨w.heap.size + 1, 0, none⟩ = some (.bool r) := HM8.out.mem.fl.cell1 (i := 0) (by omega)
                            have ff := HM8.out.mem.fl.free
                            go_wp2
                            go_roundw
                            case rel => exact ⟨k + 1, by omega, by go_num, c, κ, β, LA, _, _, _, _, false, a, s1, g1, rst_read (HM8.out.setFl 0 (by omega) (.bool false) (r' := false) rfl (flF_0 _ _ _ _ _)).mem HPL6.out hK (by rw [src_diffC HSRC.out hxk]; exact ⟨(fun h => by cases h), (fun h => absurd (h.2 hHk) h2)⟩) HFA2.out HFS1.out HFR1.out⟩
                            case measure => simp [intOf]; omega
                        · have hHkb : (((S.H k : Nat) : Int) == 1) = false := by simp; omega
                          have hHkn : ¬ ((S.H k : Nat) : Int) = 1 := by omega
                          go_wp2
                          go_roundw
                          case rel => exact ⟨k + 1, by omega, by go_num, c, κ, β, LA, _, _, _, _, r, a, s1, g1, rst_read HMT.out.mem HPL6.out hK (by rw [HFC.out, src_diffC HSRC.out hxk]; exact ⟨fun h => ⟨h, fun e => absurd e hHk⟩, fun h => h.1⟩) HFA2.out HFS1.out HFR1.out⟩
                          case measure => simp [intOf]; omega
                      · have h1b : (((stat (S.H x) (S.A x) ((k : Int) + 1) : Nat) : Int) != 1) = true := by simp; omega
                        have h1n : ¬ ((stat (S.H x) (S.A x) ((k : Int) + 1) : Nat) : Int) = 1 := by omega
                        have f1 : w7.cell? ⟨w.heap.size + 1, 1, none⟩ = some (.bool a) := HM7.out.mem.fl.cell1 (i := 1) (by omega)
                        have ff1 := HM7.out.mem.fl.free
                        have hqb : w.heap.size + 3 ≤ wr.heap.size := HM7.out.qb
                        have HFA2 : Hid (false = true ↔ FA S k ∧ AA S k) := by
                          show _ ↔ _
                          rw [src_diffA HSRC.out hxk]; exact ⟨(fun h => by cases h), (fun h => absurd h.2 h1)⟩
                        have HMT : Hid (Mid S w (w7.setCell ⟨w.heap.size + 1, 1, none⟩ (.bool false)) k wr.heap.size j c κ β LA (upd wv j wv') (upd rv j v') (upd WL j (L0 ++ [x])) (upd RL j (RL j ++ [k])) r false s1 g1) := HM7.out.setFl 1 (by omega) (.bool false) (a' := false) rfl (flF_1 _ _ _ _ _)
                        by_cases hHk : S.H k = 1
                        · rw [hHk] at s1'
                          go_wp2_with fail
                          refine (stat42 (S.H x) (S.A x) (S.A k) _).mono ?_
                          rintro e w8 ⟨rfl, hb8⟩
                          have HM8 : Hid (Mid S w w8 k wr.heap.size j c κ β LA (upd wv j wv') (upd rv j v') (upd WL j (L0 ++ [x])) (upd RL j (RL j ++ [k])) r false s1 g1) := HMT.out.below hb8
                          clear s0 s1' s2' v0 v1 v2
                          by_cases h2 : stat (S.H x) (S.A x) (S.A k) = 1
                          · rw [h2]
                            go_wp2
                            go_roundw
                            case rel => exact ⟨k + 1, by omega, by go_num, c, κ, β, LA, _, _, _, _, r, false, s1, g1, rst_read HM8.out.mem HPL6.out hK (by rw [HFC.out, src_diffC HSRC.out hxk]; exact ⟨fun h => ⟨h, fun _ => h2⟩, fun h => h.1⟩) HFA2.out HFS1.out HFR1.out⟩
                            case measure => simp [intOf]; omega
                          · have h2b : (((stat (S.H x) (S.A x) (S.A k) : Nat) : Int) != 1) = true := by simp; omega
                            have h2n : ¬ ((stat (S.H x) (S.A x) (S.A k) : Nat) : Int) = 1 := by omega
                            have f0 : w8.cell? ⟨w.heap.size + 1, 0, none⟩ = some (.bool r) := HM8.out.mem.fl.cell1 (i := 0) (by omega)
                            have ff := HM8.out.mem.fl.free
                            go_wp2
                            go_roundw
                            case rel => exact ⟨k + 1, by omega, by go_num, c, κ, β, LA, _, _, _, _, false, false, s1, g1, rst_read (HM8.out.setFl 0 (by omega) (.bool false) (r' := false) rfl (flF_0 _ _ _ _ _)).mem HPL6.out hK (by rw [src_diffC HSRC.out hxk]; exact ⟨(fun h => by cases h), (fun h => absurd (h.2 hHk) h2)⟩) HFA2.out HFS1.out HFR1.out⟩
                            case measure => simp [intOf]; omega
                        · have hHkb : (((S.H k : Nat) : Int) == 1) = false := by simp; omega
                          have hHkn : ¬ ((S.H k : Nat) : Int) = 1 := by omega
                          go_wp2
                          go_roundw
                          case rel => exact ⟨k + 1, by omega, by go_num, c, κ, β, LA, _, _, _, _, r, false, s1, g1, rst_read HMT.out.mem HPL6.out hK (by rw [HFC.out, src_diffC HSRC.out hxk]; exact ⟨fun h => ⟨h, fun e => absurd e hHk⟩, fun h => h.1⟩) HFA2.out HFS1.out HFR1.out⟩
                          case measure => simp [intOf]; omega
              · rw [hK] at op0
                obtain ⟨_, _, _, hx3', _, _⟩ := tx3_form S (LA j)
                obtain ⟨_, _, _, b3, b4⟩ := (HM4.out.mem.its.it j HM4.out.hj).last hx3'
                obtain ⟨rao, rcap, hrv, hrn, hra⟩ := row_val (HM4.out.mem.its.it j HM4.out.hj).rs
                rw [hrv] at b4
                have HRV : Hid (rv j = .slice rao (RL j).length rcap) := hrv
                have HRA : Hid ((rao = none → (RL j).length = 0 ∧ rcap = 0) ∧ ∀ ad, rao = some ad → ∃ g, ad = ⟨g, 0, none⟩) := ⟨hrn, hra⟩
                have hrl : (RL j).length ≤ 4096 := by have := (HPL.out.len j HM4.out.hj).2; omega
                clear hrv hrn hra hx3' b3
                go_wp2
                clear b4 op0
                go_loopw [90] (fun i wz => ∃ (y : Nat) (gg : Bool), y ≤ (RL j).length ∧ i = .int .i64 (y : Nat) ∧ Mid S w wz k wr.heap.size j c κ β LA wv rv WL RL r a s1 gg ∧ (gg = true ↔ g1 = true ∧ ∀ z (h : z < (RL j).length), z < y → S.X (RL j)[z] ≠ S.X k → st S (RL j)[z] ((k : Int) + 1) ≠ 0)) (fun i _ => (RL j).length - (intOf i).toNat)
                case atStart => exact ⟨0, g1, by omega, rfl, HM4.out, by simp⟩
                case round => as_aux_lemma =>
                  clear HM4
                  obtain ⟨y, gg, hy, rfl, hmid, hgg⟩ := hrel
                  rename World => w5
                  have HM5 : Hid (Mid S w w5 k wr.heap.size j c κ β LA wv rv WL RL r a s1 gg) := hmid
                  have HGG : Hid (gg = true ↔ g1 = true ∧ ∀ z (h : z < (RL j).length), z < y → S.X (RL j)[z] ≠ S.X k → st S (RL j)[z] ((k : Int) + 1) ≠ 0) := hgg
                  clear hmid hgg
                  by_cases hyl : y < (RL j).length
                  · have hrs := (HM5.out.mem.its.it j HM5.out.hj).rs
                    obtain ⟨gr, cap', hv, _, _, hcell⟩ := own_val hrs (by omega)
                    rw [HRV.out] at hv
                    injection hv with e1 e2 e3
                    subst e1 e3
                    obtain ⟨x, hx⟩ : ∃ x, x = (RL j)[y] := ⟨_, rfl⟩
                    have c0 : w5.cell? ⟨gr, y * 3, none⟩ = some (.int .i64 (S.X x)) := by rw [hx]; simpa [tx3] using hcell y hyl 0 (by omega)
                    have c1 : w5.cell? ⟨gr, y * 3 + 1, none⟩ = some (.int .u8 (S.H x : Nat)) := by rw [hx]; simpa [tx3] using hcell y hyl 1 (by omega)
                    have c2 : w5.cell? ⟨gr, y * 3 + 2, none⟩ = some (.int .i64 (S.A x)) := by rw [hx]; simpa [tx3] using hcell y hyl 2 (by omega)
                    have s0 : w5.cell? ⟨wr.heap.size + 1, 0, none⟩ = some (.int .i64 (S.X k)) := HM5.out.self.cell1 (i := 0) (by omega)
                    have ls : wr.heap.size + 1 < w5.heap.size := HM5.out.self.lt
                    have HXX : Hid (x = (RL j)[y]) := hx
                    have h0 : (0:Int) ≤ (y : Int) := by omega
                    have h1 : (y:Int) < (((RL j).length : Nat) : Int) := by omega
                    clear hrs hcell e2 hx
                    by_cases hxk : S.X x = S.X k
                    · go_wp2
                      go_roundw
                      case rel => exact ⟨y + 1, gg, by omega, by go_num, HM5.out.below ((Below.refl _ _).alloc (Nat.le_refl _) _), by
                        rw [HGG.out]
                        refine and_congr_right fun _ => ⟨fun h z hz hzy hne => ?_, fun h z hz hzy => h z hz (by omega)⟩
                        by_cases e : z = y
                        · subst e; exact absurd (by rw [← HXX.out]; exact hxk) hne
                        · exact h z hz (by omega) hne⟩
                      case measure => simp [intOf]; omega
                    · have hxkb : (S.X x != S.X k) = true := by simp [hxk]
                      go_wp2_with fail
                      refine (stat42 (S.H x) (S.A x) ((k : Int) + 1) _).mono ?_
                      rintro e w6 ⟨rfl, hb6⟩
                      have HM6 : Hid (Mid S w w6 k wr.heap.size j c κ β LA wv rv WL RL r a s1 gg) := HM5.out.below (((Below.refl _ _).alloc (Nat.le_refl _) _).trans (hb6.mono (by simp)))
                      clear hb6 c0 c1 c2 s0
                      by_cases hz : stat (S.H x) (S.A x) ((k : Int) + 1) = 0
                      · rw [hz]
                        have f3 : w6.cell? ⟨w.heap.size + 1, 3, none⟩ = some (.bool gg) := HM6.out.mem.fl.cell1 (i := 3) (by omega)
                        have ff := HM6.out.mem.fl.free
                        go_wp2
                        go_roundw
                        case rel => exact ⟨y + 1, false, by omega, by go_num, HM6.out.setFl 3 (by omega) (.bool false) (g' := false) rfl (flF_3 _ _ _ _ _), by
                          constructor
                          · intro h; cases h
                          · intro h; exact absurd (by unfold st; rw [← HXX.out]; exact hz) (h.2 y hyl (by omega) (by rw [← HXX.out]; exact hxk))⟩
                        case measure => simp [intOf]; omega
                      · have hzb : (((stat (S.H x) (S.A x) ((k : Int) + 1) : Nat) : Int) == 0) = false := by simp; exact hz
                        have hzn : ¬ ((stat (S.H x) (S.A x) ((k : Int) + 1) : Nat) : Int) = 0 := by omega
                        go_wp2
                        go_roundw
                        case rel => exact ⟨y + 1, gg, by omega, by go_num, HM6.out, by
                          rw [HGG.out]
                          refine and_congr_right fun _ => ⟨fun h z hz' hzy hne => ?_, fun h z hz' hzy => h z hz' (by omega)⟩
                          by_cases e : z = y
                          · subst e; rw [← HXX.out]; exact hz
                          · exact h z hz' (by omega) hne⟩
                        case measure => simp [intOf]; omega
                  · have hye : y = (RL j).length := by omega
                    subst hye
                    have HRIG : Hid (gg = true ↔ FS S (k + 1) ∧ FR S k ∧ RR S k) := by
                      show _ ↔ _
                      rw [HGG.out, HFR1.out]
                      constructor
                      · rintro ⟨⟨h1, h2⟩, h3⟩
                        refine ⟨h1, h2, (HPL.out.rigor HW.out hlt h2 (h1 k (by omega) (.inr hK)) HM5.out.hj HM5.out.hI).2 fun q hq hne => ?_⟩
                        obtain ⟨z, hz, rfl⟩ := List.mem_iff_getElem.1 hq
                        exact h3 z hz hz hne
                      · rintro ⟨h1, h2, h3⟩
                        exact ⟨⟨h1, h2⟩, fun z hz _ hne => (HPL.out.rigor HW.out hlt h2 (h1 k (by omega) (.inr hK)) HM5.out.hj HM5.out.hI).1 h3 _ (List.getElem_mem hz) hne⟩
                    obtain ⟨_, _, _, hx3', _, _⟩ := tx3_form S (LA j)
                    obtain ⟨b0, b1, b2, b3, b4⟩ := (HM5.out.mem.its.it j HM5.out.hj).last hx3'
                    rw [HRV.out] at b4
                    have fb := (HM5.out.mem.its.it j HM5.out.hj).blk.free
                    have s0 : w5.cell? ⟨wr.heap.size + 1, 0, none⟩ = some (.int .i64 (S.X k)) := HM5.out.self.cell1 (i := 0) (by omega)
                    have s1' : w5.cell? ⟨wr.heap.size + 1, 1, none⟩ = some (.int .u8 (S.H k : Nat)) := HM5.out.self.cell1 (i := 1) (by omega)
                    have s2' : w5.cell? ⟨wr.heap.size + 1, 2, none⟩ = some (.int .i64 (S.A k)) := HM5.out.self.cell1 (i := 2) (by omega)
                    have nb : ¬ β j = wr.heap.size + 1 := (HM5.out.ne _ (.inl rfl)).2
                    have nb' : ¬ wr.heap.size + 1 = β j := fun e => nb e.symm
                    have HM6 := HM5.out.reset HRV.out rfl
                    have HM7 : Hid _ := HM6
                    clear HM6 hx3'
                    cases rao with
                    | none =>
                      obtain ⟨hl0, hc0⟩ := HRA.out.1 rfl
                      subst hc0
                      go_upto_region 24 with fail
                      obtain ⟨w6, hw6⟩ : ∃ x, x = (((w5.setCell ⟨β j, 4, none⟩ (.slice none 0 0)).setCell ⟨β j, 0, none⟩ (.int .i64 (S.X k))).setCell ⟨β j, 1, none⟩ (.int .u8 (S.H k : Nat))).setCell ⟨β j, 2, none⟩ (.int .i64 (S.A k)) := ⟨_, rfl⟩
                      have HM6 : Hid (Mid S w w6 k wr.heap.size j c κ β (upd LA j (some k)) wv (upd rv j (.slice none 0 0)) WL (upd RL j []) r a s1 gg) := by
                        show Mid _ _ _ _ _ _ _ _ _ _ _ _ _ _ _ _ _ _
                        rw [hw6]; exact HM7.out
                      rw [← hw6]
                      have HDST : Hid (∀ a b, a < b → b < c → κ a ≠ κ b) := HM5.out.mem.its.dst
                      have HJI : Hid (j < c ∧ κ j = S.I k) := ⟨HM5.out.hj, HM5.out.hI⟩
                      clear hw6 HM7 HM5 b0 b1 b2 b3 b4 fb s0 s1' s2'
                      obtain ⟨_, _, _, hx3', _, _⟩ := tx3_form S (upd LA j (some k) j)
                      obtain ⟨_, _, _, b3, _⟩ := (HM6.out.mem.its.it j HM6.out.hj).last hx3'
                      obtain ⟨wao, wcap, hwv, _, _⟩ := row_val (HM6.out.mem.its.it j HM6.out.hj).ws
                      rw [hwv] at b3
                      have fb := (HM6.out.mem.its.it j HM6.out.hj).blk.free
                      have s0 : w6.cell? ⟨wr.heap.size + 1, 0, none⟩ = some (.int .i64 (S.X k)) := HM6.out.self.cell1 (i := 0) (by omega)
                      have s1' : w6.cell? ⟨wr.heap.size + 1, 1, none⟩ = some (.int .u8 (S.H k : Nat)) := HM6.out.self.cell1 (i := 1) (by omega)
                      have s2' : w6.cell? ⟨wr.heap.size + 1, 2, none⟩ = some (.int .i64 (S.A k)) := HM6.out.self.cell1 (i := 2) (by omega)
                      have lb : β j < w6.heap.size := (HM6.out.mem.its.it j HM6.out.hj).blk.lt
                      have ls : wr.heap.size + 1 < w6.heap.size := HM6.out.self.lt
                      have HWV : Hid (wv j = .slice wao (WL j).length wcap) := hwv
                      have HWS : Hid (w6.ownsRow (w.heap.size + 3) 75 3 (.slice wao (WL j).length wcap) (WL j).length (flat S (WL j))) := by
                        have h := (HM6.out.mem.its.it j HM6.out.hj).ws
                        rw [hwv] at h
                        exact h
                      have HN2 : Hid ((Value.slice wao (WL j).length wcap).ownBlock ≠ some (β j)) := by
                        have h := (HM6.out.mem.its.it j HM6.out.hj).n1
                        rw [hwv] at h
                        exact h
                      have HLN : Hid ((WL j).length + 1 ≤ 100000) := by show _ ≤ _; have := (HPL.out.len j HM6.out.hj).1; omega
                      have HBG : Hid (w.heap.size + 3 ≤ w6.heap.size) := HM6.out.mem.big
                      have HAL : Hid (∀ g, (Value.slice wao (WL j).length wcap).ownBlock = some g → g < w6.heap.size) := fun g e => (HWS.out.lt g e).2
                      have HB4 : Hid (∀ o, (w6.alloc o).cell? ⟨β j, 3, none⟩ = some (.slice wao (WL j).length wcap)) := fun o => (World.cell?_alloc_past o _ _ lb).trans b3
                      have HF4 : Hid (∀ o, (w6.alloc o).frozen? ⟨β j, 3, none⟩ = false) := fun o => (World.frozen?_alloc_past o _ _ lb).trans (fb 3)
                      clear hwv hx3' nb nb'
                      go_region_law (refine step_push (by rfl) (.tmp 124) (.tmp 126) (by rfl) S (w.heap.size + 3) (.slice wao (WL j).length wcap) (WL j) (by rfl) (ownsRow_keep HWS.out (fun x hx => Below.heap_alloc _ _ _ (HAL.out x hx))) w6.heap.size k (by rfl) (by simp) (by simp) (by simp) HLN.out (by simp; have := HBG.out; omega) ?_; intro gn capn w7 hown7 hgrow7 hat7; have c5 := hgrow7.cell (HB4.out _) (fun e => HN2.out e.symm); have f5 := (World.frozen?_of_block (a := ⟨β j, 3, none⟩) (hgrow7.block (β j) (by simp; omega) (fun e => HN2.out e.symm))).trans (HF4.out _))
                      all_goals
                        have HM8 : Hid (Mid S w (w7.setCell ⟨β j, 3, none⟩ (.slice (some ⟨gn, 0, none⟩) ((WL j).length + 1) capn)) k wr.heap.size j c κ β (upd LA j (some k)) (upd wv j (.slice (some ⟨gn, 0, none⟩) ((WL j).length + 1) capn)) (upd rv j (.slice none 0 0)) (upd WL j (WL j ++ [k])) (upd RL j []) r a s1 gg) := by
                          refine HM6.out.pushW (Below.drewN' ((Below.refl _ _).alloc (Nat.le_refl _) (.cells #[.int .i64 (S.X k), .int .u8 (S.H k : Nat), .int .i64 (S.A k)] 75)) 1) ?_ hown7 ?_
                          · rw [HWV.out]; exact hgrow7
                          · rw [HWV.out]; exact hat7.imp id (congrArg some)
                        clear hown7 hgrow7 hat7 c5 f5 b3 fb s0 s1' s2' lb ls
                        go_wp2
                        go_roundw
                        case rel => exact ⟨k + 1, by omega, by go_num, c, κ, β, _, _, _, _, _, r, a, s1, gg, rst_write HM8.out.mem (HPL.out.write HDST.out HJI.out.1 HJI.out.2 hK) hK HFC.out HFA.out HFS1.out HRIG.out⟩
                        case measure => simp [intOf]; omega
                    | some ad =>
                      obtain ⟨gr, hgr⟩ := HRA.out.2 ad rfl
                      subst hgr
                      go_upto_region 24 with fail
                      obtain ⟨w6, hw6⟩ : ∃ x, x = (((w5.setCell ⟨β j, 4, none⟩ (.slice (some ⟨gr, 0, none⟩) 0 rcap)).setCell ⟨β j, 0, none⟩ (.int .i64 (S.X k))).setCell ⟨β j, 1, none⟩ (.int .u8 (S.H k : Nat))).setCell ⟨β j, 2, none⟩ (.int .i64 (S.A k)) := ⟨_, rfl⟩
                      have HM6 : Hid (Mid S w w6 k wr.heap.size j c κ β (upd LA j (some k)) wv (upd rv j (.slice (some ⟨gr, 0, none⟩) 0 rcap)) WL (upd RL j []) r a s1 gg) := by
                        show Mid _ _ _ _ _ _ _ _ _ _ _ _ _ _ _ _ _ _
                        rw [hw6]; exact HM7.out
                      rw [← hw6]
                      have HDST : Hid (∀ a b, a < b → b < c → κ a ≠ κ b) := HM5.out.mem.its.dst
                      have HJI : Hid (j < c ∧ κ j = S.I k) := ⟨HM5.out.hj, HM5.out.hI⟩
                      clear hw6 HM7 HM5 b0 b1 b2 b3 b4 fb s0 s1' s2'
                      obtain ⟨_, _, _, hx3', _, _⟩ := tx3_form S (upd LA j (some k) j)
                      obtain ⟨_, _, _, b3, _⟩ := (HM6.out.mem.its.it j HM6.out.hj).last hx3'
                      obtain ⟨wao, wcap, hwv, _, _⟩ := row_val (HM6.out.mem.its.it j HM6.out.hj).ws
                      rw [hwv] at b3
                      have fb := (HM6.out.mem.its.it j HM6.out.hj).blk.free
                      have s0 : w6.cell? ⟨wr.heap.size + 1, 0, none⟩ = some (.int .i64 (S.X k)) := HM6.out.self.cell1 (i := 0) (by omega)
                      have s1' : w6.cell? ⟨wr.heap.size + 1, 1, none⟩ = some (.int .u8 (S.H k : Nat)) := HM6.out.self.cell1 (i := 1) (by omega)
                      have s2' : w6.cell? ⟨wr.heap.size + 1, 2, none⟩ = some (.int .i64 (S.A k)) := HM6.out.self.cell1 (i := 2) (by omega)
                      have lb : β j < w6.heap.size := (HM6.out.mem.its.it j HM6.out.hj).blk.lt
                      have ls : wr.heap.size + 1 < w6.heap.size := HM6.out.self.lt
                      have HWV : Hid (wv j = .slice wao (WL j).length wcap) := hwv
                      have HWS : Hid (w6.ownsRow (w.heap.size + 3) 75 3 (.slice wao (WL j).length wcap) (WL j).length (flat S (WL j))) := by
                        have h := (HM6.out.mem.its.it j HM6.out.hj).ws
                        rw [hwv] at h
                        exact h
                      have HN2 : Hid ((Value.slice wao (WL j).length wcap).ownBlock ≠ some (β j)) := by
                        have h := (HM6.out.mem.its.it j HM6.out.hj).n1
                        rw [hwv] at h
                        exact h
                      have HLN : Hid ((WL j).length + 1 ≤ 100000) := by show _ ≤ _; have := (HPL.out.len j HM6.out.hj).1; omega
                      have HBG : Hid (w.heap.size + 3 ≤ w6.heap.size) := HM6.out.mem.big
                      have HAL : Hid (∀ g, (Value.slice wao (WL j).length wcap).ownBlock = some g → g < w6.heap.size) := fun g e => (HWS.out.lt g e).2
                      have HB4 : Hid (∀ o, (w6.alloc o).cell? ⟨β j, 3, none⟩ = some (.slice wao (WL j).length wcap)) := fun o => (World.cell?_alloc_past o _ _ lb).trans b3
                      have HF4 : Hid (∀ o, (w6.alloc o).frozen? ⟨β j, 3, none⟩ = false) := fun o => (World.frozen?_alloc_past o _ _ lb).trans (fb 3)
                      clear hwv hx3' nb nb'
                      go_region_law (refine step_push (by rfl) (.tmp 124) (.tmp 126) (by rfl) S (w.heap.size + 3) (.slice wao (WL j).length wcap) (WL j) (by rfl) (ownsRow_keep HWS.out (fun x hx => Below.heap_alloc _ _ _ (HAL.out x hx))) w6.heap.size k (by rfl) (by simp) (by simp) (by simp) HLN.out (by simp; have := HBG.out; omega) ?_; intro gn capn w7 hown7 hgrow7 hat7; have c5 := hgrow7.cell (HB4.out _) (fun e => HN2.out e.symm); have f5 := (World.frozen?_of_block (a := ⟨β j, 3, none⟩) (hgrow7.block (β j) (by simp; omega) (fun e => HN2.out e.symm))).trans (HF4.out _))
                      all_goals
                        have HM8 : Hid (Mid S w (w7.setCell ⟨β j, 3, none⟩ (.slice (some ⟨gn, 0, none⟩) ((WL j).length + 1) capn)) k wr.heap.size j c κ β (upd LA j (some k)) (upd wv j (.slice (some ⟨gn, 0, none⟩) ((WL j).length + 1) capn)) (upd rv j (.slice (some ⟨gr, 0, none⟩) 0 rcap)) (upd WL j (WL j ++ [k])) (upd RL j []) r a s1 gg) := by
                          refine HM6.out.pushW (Below.drewN' ((Below.refl _ _).alloc (Nat.le_refl _) (.cells #[.int .i64 (S.X k), .int .u8 (S.H k : Nat), .int .i64 (S.A k)] 75)) 1) ?_ hown7 ?_
                          · rw [HWV.out]; exact hgrow7
                          · rw [HWV.out]; exact hat7.imp id (congrArg some)
                        clear hown7 hgrow7 hat7 c5 f5 b3 fb s0 s1' s2' lb ls
                        go_wp2
                        go_roundw
                        case rel => exact ⟨k + 1, by omega, by go_num, c, κ, β, _, _, _, _, _, r, a, s1, gg, rst_write HM8.out.mem (HPL.out.write HDST.out HJI.out.1 HJI.out.2 hK) hK HFC.out HFA.out HFS1.out HRIG.out⟩
                        case measure => simp [intOf]; omega
    · have : k = n := by omega
      subst this
      have f0 : wr.cell? ⟨w.heap.size + 1, 0, none⟩ = some (.bool r) := HST.out.mem.fl.cell1 (i := 0) (by omega)
      have f1 : wr.cell? ⟨w.heap.size + 1, 1, none⟩ = some (.bool a) := HST.out.mem.fl.cell1 (i := 1) (by omega)
      have f2 : wr.cell? ⟨w.heap.size + 1, 2, none⟩ = some (.bool s) := HST.out.mem.fl.cell1 (i := 2) (by omega)
      have f3 : wr.cell? ⟨w.heap.size + 1, 3, none⟩ = some (.bool g) := HST.out.mem.fl.cell1 (i := 3) (by omega)
      have r0 : wr.cell? ⟨w.heap.size, 0, none⟩ = some (.bool false) := HST.out.mem.res.cell1 (i := 0) (by omega)
      have r1 : wr.cell? ⟨w.heap.size, 1, none⟩ = some (.bool false) := HST.out.mem.res.cell1 (i := 1) (by omega)
      have r2 : wr.cell? ⟨w.heap.size, 2, none⟩ = some (.bool false) := HST.out.mem.res.cell1 (i := 2) (by omega)
      have r3 : wr.cell? ⟨w.heap.size, 3, none⟩ = some (.bool false) := HST.out.mem.res.cell1 (i := 3) (by omega)
      have fr := HST.out.mem.res.free
      go_wp2
      refine bodyPost_ret (v := .agg #[.bool r, .bool a, .bool s, .bool g]) ?_ rfl ?_
      · simp [results, Try.results38, go_sem, r0, r1, r2, r3, fr]
      exact ⟨⟨r, a, s, g, rfl, HST.out.fc, HST.out.fa, HST.out.fs, HST.out.fr⟩, (((HST.out.mem.bel.setCell (by simp) _).setCell (by simp) _).setCell (by simp) _).setCell (by simp) _⟩
end Go.Proofs.Qxb6000570a
