/-
  WALK: the law FnComponentsAreMutualReachability (3).
-/
import Derived.Test.Qxb6000570aD5
namespace Go.Proofs.Qxb6000570a
open Go.RowKit
set_option linter.unusedVariables false
set_option linter.unusedSimpArgs false

def P3 (w : World) (e : Ending) (w' : World) : Prop := e = .returned (.bool true) ∧ Below w.heap.size w w'

set_option maxRecDepth 20000 in
set_option maxHeartbeats 4000000 in
theorem law3 (ao : Option Addr) (n ac : Nat) (adj : Nat → List Int) (ra : Nat → Option Addr) (rc : Nat → Nat) (w : World) (hn : n ≤ 9223372036854775807) (hl : ∀ u, u < n → (adj u).length ≤ 9223372036854775807) (ha : AdjZ w ao n adj ra rc) (hN : Nils n adj ra rc) (hnil : ao = none → n = 0 ∧ ac = 0) :
    Calls Try.prog 3 #[.slice ao n ac] w (P3 w) := by
  have HL : Hid (∀ u, u < n → (adj u).length ≤ 9223372036854775807) := hl
  have HA : Hid (AdjZ w ao n adj ra rc) := ha
  have HN : Hid (Nils n adj ra rc) := hN
  have HNIL : Hid (ao = none → n = 0 ∧ ac = 0) := hnil
  clear hl ha hN hnil
  go_enter Try.func3, Try.ntmps3
  go_wp2_with fail
  refine (zz10 ao n ac adj ra rc _ hn HL.out HA.out).mono ?_
  rintro e w1 ⟨⟨r, rfl, hr⟩, hw1⟩
  subst w1
  cases r with
  | false =>
    clear hr
    go_wp2
    go_ret
    exact ⟨rfl, Below.refl _ _⟩
  | true =>
    obtain ⟨hn1, hl1⟩ := hr rfl
    have HL1 : Hid (∀ u, u < n → (adj u).length ≤ 1048576) := hl1
    clear hr hl1 HL hn
    go_wp2_with fail
    refine (bytes11b ao n ac adj ra rc _ hn1 HL1.out HA.out).mono ?_
    rintro e w1 ⟨⟨z, rfl, hz1⟩, hw1⟩
    subst w1
    have HZ1 : Hid (z ≤ 1048576 → sumTo (fun u => (adj u).length) n ≤ 131072) := hz1
    clear hz1
    by_cases hz : (1048576 : Int) < z
    · go_wp2
      go_ret
      exact ⟨rfl, Below.refl _ _⟩
    have HS : Hid (sumTo (fun u => (toN adj u).length) n ≤ 131072) := by
      have := HZ1.out (by omega)
      rw [sumTo_congr (g := fun u => (adj u).length) n fun i hi => toN_len adj i]; exact this
    clear HZ1
    by_cases hn2 : n ≤ 4096
    · go_wp2_with fail
      refine (range12 ao n ac adj ra rc _ hn1 HL1.out HA.out).mono ?_
      rintro e w1 ⟨⟨r, rfl, hr⟩, hw1⟩
      subst w1
      cases r with
      | false =>
        clear hr
        go_wp2
        go_ret
        exact ⟨rfl, Below.refl _ _⟩
      | true =>
        have HR : Hid (∀ u, u < n → InR n (adj u)) := hr rfl
        clear hr hz
        go_wp2_with fail
        refine (clone13 ao n ac adj ra rc _ hn1 HL1.out HA.out HN.out HNIL.out).mono ?_
        rintro e w1 ⟨a2, c2, ra2, rc2, rfl, ha2, hb1⟩
        have HA2 : Hid (AdjSl w1 a2 n (toN adj) ra2 rc2) := ha2.sl HR.out
        have HB1 : Hid (Below w.heap.size w w1) := hb1
        clear ha2 hb1
        go_wp2_with fail
        refine (zzc14 a2 n c2 (toN adj) ra2 rc2 _ (by omega) (good_toN HR.out) (fun u hu => by rw [toN_len]; exact HL1.out u hu) HA2.out).mono ?_
        rintro e w2 ⟨g, comp, k, rfl, hg, he, hc, hb⟩
        have HE : Hid (Els w2 g n 1 (intF comp)) := he
        have HC : Hid (Comps n (toN adj) comp k) := hc
        have HA3 : Hid (AdjSl w2 a2 n (toN adj) ra2 rc2) := HA2.out.below hb
        have HB2 : Hid (Below w.heap.size w w2) := HB1.out.trans (hb.mono HB1.out.size)
        clear hg he hc hb HA2 HB1
        go_wp2
        go_loop [5] (fun i => ∃ u : Nat, u ≤ n ∧ i = .int .i64 u) (fun i => n - (intOf i).toNat)
        case atStart => exact ⟨0, by omega, rfl⟩
        case round =>
          obtain ⟨u, hu, rfl⟩ := hrel
          by_cases hlt : u < n
          · obtain ⟨r0, r1⟩ := HC.out.rng u hlt
            have hkn := HC.out.kn
            obtain ⟨c, hc⟩ := Int.eq_ofNat_of_zero_le r0
            have d1 : w2.cell? ⟨g, u, none⟩ = some (.int .i64 (c : Int)) := by rw [← hc]; simpa [intF] using HE.out.cell1 hlt
            rw [hc] at r0 r1
            have hcn : c < n := by omega
            clear hc
            go_wp2
            go_round
            case rel => exact ⟨u + 1, by omega, by go_num⟩
            case measure => simp [intOf]; omega
          · go_wp2_with fail
            refine (rev15 a2 n c2 (toN adj) ra2 rc2 _ (by omega) (good_toN HR.out) HS.out HA3.out).mono ?_
            rintro e w3 ⟨a3, c3, R, ra3, rc3, rfl, ha3, hrev, hgR, hlR, hb3⟩
            have HA5 : Hid (AdjSl w3 a3 n R ra3 rc3) := ha3
            have HREV : Hid (RevOf n (toN adj) R) := hrev
            have HGR : Hid (Good n R) := hgR
            have HLR : Hid (∀ u, u < n → (R u).length ≤ 1048576) := fun u hu => by have := hlR u hu; omega
            have HA4 : Hid (AdjSl w3 a2 n (toN adj) ra2 rc2) := HA3.out.below hb3
            have HE3 : Hid (Els w3 g n 1 (intF comp)) := HE.out.below hb3 HE.out.lt
            have HB3 : Hid (Below w.heap.size w w3) := HB2.out.trans (hb3.mono HB2.out.size)
            have hg3 : g < w3.heap.size := HE3.out.lt
            have hw3 : w.heap.size ≤ w3.heap.size := HB3.out.size
            clear ha3 hrev hgR hlR hb3 HA3 HB2 HE
            have hmk := makeB n (by omega)
            go_wp2
            have HD0 : Hid (Els (w3.alloc (.cells (mkB n) 4)) w3.heap.size n 1 (boolF fun _ => false)) := els_madeB w3 n
            have HBA : Hid (Below w3.heap.size w3 (w3.alloc (.cells (mkB n) 4))) := (Below.refl _ _).alloc (Nat.le_refl _) _
            clear hmk
            go_loopw [8] (fun i wr => ∃ (r : Nat) (f : Nat → Bool), r ≤ n ∧ i = .int .i64 r ∧ Els wr w3.heap.size n 1 (boolF f) ∧ Below w3.heap.size w3 wr) (fun i _ => n - (intOf i).toNat)
            case atStart => exact ⟨0, _, by omega, rfl, HD0.out, HBA.out⟩
            case round =>
              obtain ⟨r, f, hr, rfl, hf, hb⟩ := hrel
              have HF : Hid (Els wr w3.heap.size n 1 (boolF f)) := hf
              have HB : Hid (Below w3.heap.size w3 wr) := hb
              have hsz : w3.heap.size < wr.heap.size := hf.lt
              clear hf hb HD0 HBA
              by_cases hlt2 : r < n
              · obtain ⟨r0, r1⟩ := HC.out.rng r hlt2
                have hkn := HC.out.kn
                obtain ⟨c, hc⟩ := Int.eq_ofNat_of_zero_le r0
                have d1 : wr.cell? ⟨g, r, none⟩ = some (.int .i64 (c : Int)) := by rw [← hc]; simpa [intF] using (HE3.out.below HB.out hg3).cell1 hlt2
                rw [hc] at r0 r1
                have hcn : c < n := by omega
                have HCR : Hid (comp r = c) := hc
                have d2 : wr.cell? ⟨w3.heap.size, c, none⟩ = some (.bool (f c)) := by simpa [boolF] using HF.out.cell1 hcn
                have f2 := HF.out.free
                clear hc
                cases hfc : f c with
                | true =>
                  rw [hfc] at d2
                  go_wp2
                  go_roundw
                  case rel => exact ⟨r + 1, f, by omega, by go_num, HF.out, HB.out⟩
                  case measure => simp [intOf]; omega
                | false =>
                  rw [hfc] at d2
                  have HF1 : Hid (Els (wr.setCell ⟨w3.heap.size, c, none⟩ (.bool true)) w3.heap.size n 1 (boolF (upd f c true))) := HF.out.set1' hcn _ (by simp [boolF, upd_same]) (fun i hi => by simp only [boolF]; rw [upd_other _ _ hi])
                  have HB1 : Hid (Below w3.heap.size w3 (wr.setCell ⟨w3.heap.size, c, none⟩ (.bool true))) := HB.out.setCell (by simp) _
                  go_wp2_with fail
                  refine (reach16 a2 n c2 (toN adj) ra2 rc2 r _ (by omega) hlt2 (good_toN HR.out) (fun u hu => by rw [toN_len]; exact HL1.out u hu) (HA4.out.below HB1.out)).mono ?_
                  clear d1 d2 f2
                  rintro e w5 ⟨fw, rfl, hfw, hfr, hb5⟩
                  rw [World.size_setCell] at hfw hb5 ⊢
                  have HFW : Hid (Els w5 wr.heap.size n 1 (boolF fw)) := hfw
                  have HFR : Hid (∀ v, v < n → (fw v = true ↔ Reach (Edge (toN adj)) r v)) := hfr
                  have HF5 : Hid (Els w5 w3.heap.size n 1 (boolF (upd f c true))) := HF1.out.below hb5 hsz
                  have HB5 : Hid (Below w3.heap.size w3 w5) := HB1.out.trans (hb5.mono (by omega))
                  have hl5 : wr.heap.size < w5.heap.size := hfw.lt
                  clear hfw hfr hb5 HF1 HB1 HF HB
                  go_wp2_with fail
                  refine (reach16 a3 n c3 R ra3 rc3 r _ (by omega) hlt2 HGR.out HLR.out (HA5.out.below HB5.out)).mono ?_
                  rintro e w6 ⟨bw, rfl, hbw, hbr, hb6⟩
                  have HBW : Hid (Els w6 w5.heap.size n 1 (boolF bw)) := hbw
                  have HFW6 : Hid (Els w6 wr.heap.size n 1 (boolF fw)) := HFW.out.below hb6 hl5
                  have HF6 : Hid (Els w6 w3.heap.size n 1 (boolF (upd f c true))) := HF5.out.below hb6 (by omega)
                  have HB6 : Hid (Below w3.heap.size w3 w6) := HB5.out.trans (hb6.mono (by omega))
                  have HE6 : Hid (Els w6 g n 1 (intF comp)) := HE3.out.below HB6.out hg3
                  have HEQ : Hid (∀ v, v < n → (comp v = (c : Int) ↔ (fw v = true ∧ bw v = true))) := fun v hv => by
                    rw [HFR.out v hv, hbr v hv, reach_rev (good_toN HR.out) HGR.out HREV.out hv hlt2, ← HCR.out, HC.out.same v r hv hlt2]
                    exact And.comm
                  clear hbw hbr hb6 HF5 HB5 HFW HFR
                  go_wp2
                  go_loopw [12] (fun i w7 => ∃ (v m : Nat), v ≤ n ∧ i = .int .i64 v ∧ w7 = w6.drewN m) (fun i _ => n - (intOf i).toNat)
                  case atStart => exact ⟨0, 0, by omega, rfl, rfl⟩
                  case round =>
                    obtain ⟨v, m, hv, rfl, hw⟩ := hrel
                    subst hw
                    by_cases hvl : v < n
                    · have e1 : w6.cell? ⟨g, v, none⟩ = some (.int .i64 (comp v)) := by simpa [intF] using HE6.out.cell1 hvl
                      have e2 : w6.cell? ⟨wr.heap.size, v, none⟩ = some (.bool (fw v)) := by simpa [boolF] using HFW6.out.cell1 hvl
                      have e3 : w6.cell? ⟨w5.heap.size, v, none⟩ = some (.bool (bw v)) := by simpa [boolF] using HBW.out.cell1 hvl
                      have heq := HEQ.out v hvl
                      have hv0 : (0:Int) ≤ (v : Int) := by omega
                      have hv1 : (v:Int) < (n : Int) := by omega
                      by_cases hcv : comp v = (c : Int)
                      · obtain ⟨hf1, hb1⟩ := heq.1 hcv
                        rw [hf1] at e2
                        rw [hb1] at e3
                        rw [hcv] at e1
                        clear heq
                        go_wp2
                        go_quiet (fail)
                        go_wp2
                        go_roundw
                        case rel => exact ⟨v + 1, _, by omega, by go_num, rfl⟩
                        case measure => simp [intOf]; omega
                      · cases hf1 : fw v with
                        | false =>
                          rw [hf1] at e2
                          clear heq
                          go_wp2
                          go_quiet (fail)
                          go_wp2
                          go_roundw
                          case rel => exact ⟨v + 1, _, by omega, by go_num, rfl⟩
                          case measure => simp [intOf]; omega
                        | true =>
                          cases hb1 : bw v with
                          | true => exact absurd (heq.2 ⟨hf1, hb1⟩) hcv
                          | false =>
                            rw [hf1] at e2
                            rw [hb1] at e3
                            clear heq
                            go_wp2
                            go_quiet (fail)
                            go_wp2
                            go_roundw
                            case rel => exact ⟨v + 1, _, by omega, by go_num, rfl⟩
                            case measure => simp [intOf]; omega
                    · go_wp2
                      go_roundw
                      case rel => exact ⟨r + 1, _, by omega, by go_num, HF6.out.drewN m, Below.drewN' HB6.out m⟩
                      case measure => simp [intOf]; omega
              · go_wp2
                go_ret
                exact ⟨rfl, HB3.out.trans (HB.out.mono hw3)⟩
    · go_wp2
      go_ret
      exact ⟨rfl, Below.refl _ _⟩
end Go.Proofs.Qxb6000570a
