/-
  WALK: the law FnComponentsNumberedSinksFirst (4).
-/
import Derived.Test.Qxb6000570aD3
namespace Go.Proofs.Qxb6000570a
open Go.RowKit
set_option linter.unusedVariables false
set_option linter.unusedSimpArgs false

def P4 (w : World) (e : Ending) (w' : World) : Prop := e = .returned (.bool true) ∧ Below w.heap.size w w'

set_option maxRecDepth 20000 in
set_option maxHeartbeats 4000000 in
theorem law4 (ao : Option Addr) (n ac : Nat) (adj : Nat → List Int) (ra : Nat → Option Addr) (rc : Nat → Nat) (w : World) (hn : n ≤ 9223372036854775807) (hl : ∀ u, u < n → (adj u).length ≤ 9223372036854775807) (ha : AdjZ w ao n adj ra rc) (hN : Nils n adj ra rc) (hnil : ao = none → n = 0 ∧ ac = 0) :
    Calls Try.prog 4 #[.slice ao n ac] w (P4 w) := by
  have HL : Hid (∀ u, u < n → (adj u).length ≤ 9223372036854775807) := hl
  have HA : Hid (AdjZ w ao n adj ra rc) := ha
  have HN : Hid (Nils n adj ra rc) := hN
  have HNIL : Hid (ao = none → n = 0 ∧ ac = 0) := hnil
  clear hl ha hN hnil
  go_enter Try.func4, Try.ntmps4
  go_wp2_with fail
  refine (zz17 ao n ac adj ra rc _ hn HL.out HA.out).mono ?_
  rintro e w1 ⟨⟨r, rfl, hr⟩, hw1⟩
  subst w1
  cases r with
  | false =>
    clear hr
    go_wp2
    go_ret
    exact ⟨rfl, Below.refl _ _⟩
  | true =>
    obtain ⟨hn1, hl1⟩ := hr rfl
    have HL1 : Hid (∀ u, u < n → (adj u).length ≤ 1048576) := hl1
    clear hr hl1 HL hn
    go_wp2_with fail
    refine (bytes11 ao n ac adj ra rc _ hn1 HL1.out HA.out).mono ?_
    rintro e w1 ⟨⟨z, rfl⟩, hw1⟩
    subst w1
    by_cases hz : (1048576 : Int) < z
    · go_wp2
      go_ret
      exact ⟨rfl, Below.refl _ _⟩
    by_cases hn2 : n ≤ 65536
    · go_wp2_with fail
      refine (range12 ao n ac adj ra rc _ hn1 HL1.out HA.out).mono ?_
      rintro e w1 ⟨⟨r, rfl, hr⟩, hw1⟩
      subst w1
      cases r with
      | false =>
        clear hr
        go_wp2
        go_ret
        exact ⟨rfl, Below.refl _ _⟩
      | true =>
        have HR : Hid (∀ u, u < n → InR n (adj u)) := hr rfl
        clear hr hz
        go_wp2_with fail
        refine (clone13 ao n ac adj ra rc _ hn1 HL1.out HA.out HN.out HNIL.out).mono ?_
        rintro e w1 ⟨a2, c2, ra2, rc2, rfl, ha2, hb1⟩
        have HA2 : Hid (AdjSl w1 a2 n (toN adj) ra2 rc2) := ha2.sl HR.out
        have HB1 : Hid (Below w.heap.size w w1) := hb1
        clear ha2 hb1
        go_wp2_with fail
        refine (zzc14 a2 n c2 (toN adj) ra2 rc2 _ hn2 (good_toN HR.out) (fun u hu => by rw [toN_len]; exact HL1.out u hu) HA2.out).mono ?_
        rintro e w2 ⟨g, comp, k, rfl, hg, he, hc, hb⟩
        have HE : Hid (Els w2 g n 1 (intF comp)) := he
        have HC : Hid (Comps n (toN adj) comp k) := hc
        have HA3 : Hid (AdjSl w2 a2 n (toN adj) ra2 rc2) := HA2.out.below hb
        have HB2 : Hid (Below w.heap.size w w2) := HB1.out.trans (hb.mono HB1.out.size)
        have hg2 : g < w2.heap.size := he.lt
        clear hg he hc hb HA2 HB1
        have hmk := makeB n (by omega)
        go_wp2
        have HU : Hid (Els (w2.alloc (.cells (mkB n) 4)) w2.heap.size n 1 (boolF fun _ => false)) := els_madeB w2 n
        clear hmk
        go_loopw [6, 7] (fun t i wr => ∃ (j : Nat) (z : Int) (f : Nat → Bool), j ≤ n ∧ i = .int .i64 j ∧ t = .int .i64 z ∧ (z = -1 ∨ ∃ x, x < j ∧ comp x = z) ∧ -1 ≤ z ∧ z < n ∧ (∀ x, x < j → comp x ≤ z ∧ f (comp x).toNat = true) ∧ Els wr w2.heap.size n 1 (boolF f) ∧ Below w2.heap.size w2 wr) (fun _ i _ => n - (intOf i).toNat)
        case atStart => exact ⟨0, -1, _, by omega, rfl, rfl, .inl rfl, by omega, by omega, fun x hx => by omega, HU.out, (Below.refl _ _).alloc (Nat.le_refl _) _⟩
        case round =>
          obtain ⟨j, z, f, hj, rfl, rfl, hz1, hz2, hz3, hz4, he, hb⟩ := hrel
          have HZ1 : Hid (z = -1 ∨ ∃ x, x < j ∧ comp x = z) := hz1
          have HZ4 : Hid (∀ x, x < j → comp x ≤ z ∧ f (comp x).toNat = true) := hz4
          have HF : Hid (Els wr w2.heap.size n 1 (boolF f)) := he
          have HB : Hid (Below w2.heap.size w2 wr) := hb
          have HE2 : Hid (Els wr g n 1 (intF comp)) := HE.out.below hb hg2
          clear hz1 hz4 he hb
          by_cases hlt : j < n
          · have c1 := HE2.out.cell1 hlt
            simp only [intF] at c1
            obtain ⟨hr0, hr1⟩ := HC.out.rng j hlt
            have hkn := HC.out.kn
            obtain ⟨c, hc⟩ := Int.eq_ofNat_of_zero_le hr0
            rw [hc] at c1 hr0 hr1
            have HCJ : Hid (comp j = c) := hc
            have hcn : c < n := by omega
            have c2 := HF.out.cell1 hcn
            have f2 := HF.out.free
            simp only [boolF] at c2
            clear hc
            by_cases hgt : z < (c : Int)
            · go_wp2
              go_roundw
              case rel =>
                refine ⟨j + 1, (c : Int), upd f c true, by omega, by go_num, rfl, ?_, by omega, by omega, fun x hx => ?_, ?_, HB.out.setCell (by simp) _⟩
                · exact .inr ⟨j, by omega, HCJ.out⟩
                · have hup : ∀ x, x < j + 1 → upd f c true (comp x).toNat = true := fun x hx => by
                    by_cases e : (comp x).toNat = c
                    · rw [e, upd_same]
                    · rw [upd_other _ _ e]
                      by_cases e2 : x = j
                      · subst e2; rw [HCJ.out] at e; simp at e
                      · exact (HZ4.out x (by omega)).2
                  refine ⟨?_, hup x hx⟩
                  by_cases e2 : x = j
                  · rw [e2, HCJ.out]; omega
                  · have := (HZ4.out x (by omega)).1; omega
                · refine HF.out.set1' hcn _ (by simp [boolF, upd_same]) (fun i hi => ?_)
                  simp only [boolF]
                  rw [upd_other _ _ hi]
              case measure => simp [intOf]; omega
            · go_wp2
              go_roundw
              case rel =>
                refine ⟨j + 1, z, upd f c true, by omega, by go_num, rfl, ?_, by omega, by omega, fun x hx => ?_, ?_, HB.out.setCell (by simp) _⟩
                · rcases HZ1.out with h | ⟨x, hx, hx2⟩
                  · exact .inl h
                  · exact .inr ⟨x, by omega, hx2⟩
                · have hup : ∀ x, x < j + 1 → upd f c true (comp x).toNat = true := fun x hx => by
                    by_cases e : (comp x).toNat = c
                    · rw [e, upd_same]
                    · rw [upd_other _ _ e]
                      by_cases e2 : x = j
                      · subst e2; rw [HCJ.out] at e; simp at e
                      · exact (HZ4.out x (by omega)).2
                  refine ⟨?_, hup x hx⟩
                  by_cases e2 : x = j
                  · rw [e2, HCJ.out]; omega
                  · have := (HZ4.out x (by omega)).1; omega
                · refine HF.out.set1' hcn _ (by simp [boolF, upd_same]) (fun i hi => ?_)
                  simp only [boolF]
                  rw [upd_other _ _ hi]
              case measure => simp [intOf]; omega
          · have : j = n := by omega
            subst this
            have HUSED : Hid (∀ c : Nat, (c : Int) ≤ z → f c = true) := fun c hc => by
              rcases HZ1.out with h | ⟨x, hx, hx2⟩
              · omega
              · have := (HC.out.rng x hx).2
                obtain ⟨v, hv, hv2⟩ := HC.out.all c (by omega)
                have := (HZ4.out v hv).2
                rwa [hv2, Int.toNat_natCast] at this
            rename World => w3
            have HA4 : Hid (AdjSl w3 a2 j (toN adj) ra2 rc2) := HA3.out.below HB.out
            have HBW : Hid (Below w.heap.size w w3) := HB2.out.trans (HB.out.mono HB2.out.size)
            clear HZ1 HZ4 HB HE HA3 HB2 HU HA HN HNIL
            go_wp2
            go_loop [9] (fun i => ∃ c : Nat, c ≤ j ∧ i = .int .i64 c) (fun i => (z + 1).toNat - (intOf i).toNat)
            case atStart => exact ⟨0, by omega, rfl⟩
            case round =>
              obtain ⟨c, hcj, rfl⟩ := hrel
              by_cases hcz : (c : Int) ≤ z
              · have hcn : c < j := by omega
                have c2 := HF.out.cell1 hcn
                simp only [boolF, HUSED.out c hcz] at c2
                go_wp2
                go_round
                case rel => exact ⟨c + 1, by omega, by go_num⟩
                case measure => simp [intOf]; omega
              · go_wp2
                go_loopw [10] (fun i w5 => ∃ (u m : Nat), u ≤ j ∧ i = .int .i64 u ∧ w5 = w3.drewN m) (fun i _ => j - (intOf i).toNat)
                case atStart => exact ⟨0, 0, by omega, rfl, rfl⟩
                case round =>
                  obtain ⟨u, m, hu, rfl, hw⟩ := hrel
                  subst wr
                  by_cases hul : u < j
                  · obtain ⟨b, off, hao, hcc⟩ := HA4.out (by omega)
                    subst hao
                    have hcell : (w3.drewN m).cell? ⟨b, off + u, none⟩ = some (.slice (ra2 u) (toN adj u).length (rc2 u)) := by simpa using (hcc u hul).1
                    have HROW : Hid (RowAt w3 (ra2 u) (toN adj u)) := (hcc u hul).2
                    have hlen : (toN adj u).length ≤ 1048576 := by rw [toN_len]; exact HL1.out u hul
                    clear hcc
                    go_wp2
                    go_loopw [12] (fun i w5 => ∃ (v m : Nat), v ≤ (toN adj u).length ∧ i = .int .i64 v ∧ w5 = w3.drewN m) (fun i _ => (toN adj u).length - (intOf i).toNat)
                    case atStart => exact ⟨0, m, by omega, rfl, rfl⟩
                    case round =>
                      clear hcell
                      obtain ⟨v, m, hv, rfl, hw⟩ := hrel
                      subst wr
                      by_cases hvl : v < (toN adj u).length
                      · obtain ⟨rb, ro, hra, hrow⟩ := HROW.out (by omega)
                        have hc2 : w3.cell? ⟨rb, ro + v, none⟩ = some (.int .i64 (((toN adj u)[v] : Nat) : Int)) := hrow v hvl
                        obtain ⟨x, hx⟩ : ∃ x, x = (toN adj u)[v] := ⟨_, rfl⟩
                        rw [← hx] at hc2
                        have hedge : Edge (toN adj) u x := by rw [hx]; exact List.getElem_mem hvl
                        have hxn : x < j := good_toN HR.out u x hul hedge
                        have hdown := HC.out.down u x hul hedge
                        have d1 : w3.cell? ⟨g, x, none⟩ = some (.int .i64 (comp x)) := by simpa [intF] using HE2.out.cell1 hxn
                        have d2 : w3.cell? ⟨g, u, none⟩ = some (.int .i64 (comp u)) := by simpa [intF] using HE2.out.cell1 hul
                        rw [hra]
                        have hv0 : (0:Int) ≤ (v : Int) := by omega
                        have hv1 : (v:Int) < (((toN adj u).length : Nat) : Int) := by omega
                        have hx0 : (0:Int) ≤ (x : Int) := by omega
                        have hx1 : (x:Int) < (j : Int) := by omega
                        have hu0 : (0:Int) ≤ (u : Int) := by omega
                        have hu1 : (u:Int) < (j : Int) := by omega
                        have hgt : ¬ comp u < comp x := by omega
                        clear hrow hra hx hedge
                        go_wp2
                        go_quiet (fail)
                        go_wp2
                        go_roundw
                        case rel => exact ⟨v + 1, _, by omega, by go_num, rfl⟩
                        case measure => simp [intOf]; omega
                      · have : v = (toN adj u).length := by omega
                        subst this
                        go_wp2
                        go_roundw
                        case rel => exact ⟨u + 1, _, by omega, by go_num, rfl⟩
                        case measure => simp [intOf]; omega
                  · have : u = j := by omega
                    subst this
                    go_wp2
                    go_ret
                    exact ⟨rfl, Below.drewN' HBW.out _⟩
    · go_wp2
      go_ret
      exact ⟨rfl, Below.refl _ _⟩
end Go.Proofs.Qxb6000570a
