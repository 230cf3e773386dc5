/-
  WALK: the law FnCommandsAndOutputMatchesModel (5).
-/
import Derived.Test.Qxb6601375aS3
namespace Go.Proofs.Qxb6601375a
open Go.RowKit
set_option linter.unusedVariables false
set_option linter.unusedSimpArgs false

def P5 (w : World) (e : Ending) (w' : World) : Prop := e = .returned (.bool true) ∧ Below w.heap.size w w'

set_option maxRecDepth 20000 in
set_option maxHeartbeats 1000000 in
theorem law5 (io : Option Addr) (ic : Nat) (l : List ByteArray) (ao : Option Addr) (n c : Nat) (L : Nat → List ByteArray) (ra : Nat → Option Addr) (rc : Nat → Nat) (p : ByteArray) (w : World)
    (hn : n ≤ 9223372036854775807) (hl : ∀ u, u < n → (L u).length ≤ 9223372036854775807 ∧ Sz 9223372036854775807 (L u)) (ha : NestS w ao n L ra rc) (hN : Nils n L ra rc) (hnil : ao = none → n = 0 ∧ c = 0)
    (hi : l.length ≤ 9223372036854775807) (hiz : Sz 9223372036854775807 l) (hia : RowS w io l) (hinil : io = none → l.length = 0 ∧ ic = 0) (hp : p.size ≤ 9223372036854775807) :
    Calls Try.prog 5 #[.slice io l.length ic, .slice ao n c, .string p] w (P5 w) := by
  have HL : Hid (∀ u, u < n → (L u).length ≤ 9223372036854775807 ∧ Sz 9223372036854775807 (L u)) := hl
  have HA : Hid (NestS w ao n L ra rc) := ha
  have HN : Hid (Nils n L ra rc) := hN
  have HNIL : Hid (ao = none → n = 0 ∧ c = 0) := hnil
  have HIZ : Hid (Sz 9223372036854775807 l) := hiz
  have HI : Hid (RowS w io l) := hia
  have HINIL : Hid (io = none → l.length = 0 ∧ ic = 0) := hinil
  clear hl ha hN hnil hiz hia hinil
  go_enter Try.func5, Try.ntmps5
  go_wp2_with fail
  refine (bytes19 io ic l ao n c L ra rc p _ hn HL.out HA.out hi HIZ.out HI.out hp).mono ?_
  rintro e w1 ⟨⟨r, rfl, hr⟩, hw1⟩
  subst w1
  cases r with
  | false =>
    clear hr
    go_wp2
    go_ret
    exact ⟨rfl, Below.refl _ _⟩
  | true =>
    obtain ⟨g1, g2, g3, g4⟩ := hr rfl
    have HL1 : Hid (∀ u, u < n → (L u).length ≤ 1048576 ∧ Sz 1048576 (L u)) := g4
    clear hr g4
    go_wp2_with fail
    refine (strings12 0 io ic l _ (by omega) (by omega) hi HIZ.out HI.out).mono ?_
    rintro e w1 ⟨⟨t1, b1, rfl, q0, q1⟩, hw1⟩
    subst w1
    cases b1 with
    | false =>
      go_wp2
      go_ret
      exact ⟨rfl, Below.refl _ _⟩
    | true =>
      go_wp2_with fail
      refine (nested13 t1 ao n c L ra rc _ q0 q1 hn HL.out HA.out).mono ?_
      rintro e w1 ⟨⟨t2, b2, rfl, q2, q3⟩, hw1⟩
      subst w1
      cases b2 with
      | false =>
        go_wp2
        go_ret
        exact ⟨rfl, Below.refl _ _⟩
      | true =>
        go_wp2_with fail
        refine (size20 t2 p.size _ q2 q3 hp).mono ?_
        rintro e w1 ⟨⟨t3, b3, rfl, _, _⟩, hw1⟩
        subst w1
        cases b3 with
        | false =>
          go_wp2
          go_ret
          exact ⟨rfl, Below.refl _ _⟩
        | true =>
          clear q0 q1 q2 q3 HL hn hi hp HIZ
          by_cases hln : l.length = n
          · subst hln
            go_wp2_with fail
            refine (clone17 io ic l _ g1 HI.out HINIL.out).mono ?_
            rintro e w1 ⟨a1, c1, rfl, hr1, _, _, _, hb1⟩
            have HI1 : Hid (RowS w1 a1 l) := hr1
            have HA1 : Hid (NestS w1 ao l.length L ra rc) := HA.out.below hb1
            have HB1 : Hid (Below w.heap.size w w1) := hb1
            clear hr1 hb1 HA HI HINIL
            go_wp2_with fail
            refine (clone18 ao l.length c L ra rc _ g2 (fun u hu => (HL1.out u hu).1) HA1.out HN.out HNIL.out).mono ?_
            rintro e w2 ⟨a2, c2, ra2, rc2, rfl, hr2, hc2, hn2, hb2⟩
            have HI2 : Hid (RowS w2 a1 l) := HI1.out.below hb2
            have HA2 : Hid (NestS w2 a2 l.length L ra2 rc2) := hr2
            have HC2 : Hid (∀ u, u < l.length → (L u).length ≤ rc2 u) := hc2
            have HN2 : Hid (a2 = none → l.length = 0 ∧ c2 = 0) := hn2
            have HB2 : Hid (Below w.heap.size w w2) := HB1.out.trans (hb2.mono HB1.out.size)
            clear hr2 hc2 hn2 hb2 HI1 HA1 HB1 HN HNIL
            go_wp2_with fail
            refine (blocks21 a1 c1 l a2 l.length c2 L ra2 rc2 _ g2 rfl HI2.out HA2.out HN2.out).mono ?_
            rintro e w3 ⟨a3, c3, rfl, hr3, hb3⟩
            have HA3 : Hid (NestS w3 a2 l.length L ra2 rc2) := HA2.out.below hb3
            have HK3 : Hid (BlkS w3 a3 l.length L ra2 rc2) := hr3
            have HB3 : Hid (Below w.heap.size w w3) := HB2.out.trans (hb3.mono HB2.out.size)
            clear hr3 hb3 HI2 HA2 HB2
            go_wp2_with fail
            refine (cmd22 a3 l.length c3 L ra2 rc2 p _ g2 (fun u hu => ⟨(HL1.out u hu).1, (HL1.out u hu).2, HC2.out u hu, by obtain ⟨_, _, _, h⟩ := HA3.out (by omega); exact (h u hu).2⟩) HK3.out).mono ?_
            rintro e w4 ⟨hr4, hb4⟩
            have HA4 : Hid (NestS w4 a2 l.length L ra2 rc2) := HA3.out.below hb4
            have HB4 : Hid (Below w.heap.size w w4) := HB3.out.trans (hb4.mono HB3.out.size)
            clear hb4 HA3 HK3 HB3
            rcases hr4 with ⟨u, hu, hhit, hno, rfl⟩ | ⟨hno, rfl⟩
            · have HNO : Hid (∀ v, v < u → hit p (L v) = false) := hno
              clear hno
              simp only [rowV]
              go_wp2
              go_loopw [13] (fun i wr => ∃ (k m : Nat), k ≤ u ∧ i = .int .i64 k ∧ wr = w4.drewN m) (fun i _ => l.length - (intOf i).toNat)
              case atStart => exact ⟨0, 0, by omega, rfl, rfl⟩
              case round =>
                obtain ⟨k, m, hk, rfl, hw⟩ := hrel
                subst wr
                obtain ⟨b, off, hao, hcc⟩ := HA4.out (by omega)
                subst hao
                have d1 : (w4.drewN m).cell? ⟨b, off + k, none⟩ = some (.slice (ra2 k) (L k).length (rc2 k)) := by simpa using (hcc k (by omega)).1
                have HRK : Hid (RowS (w4.drewN m) (ra2 k) (L k)) := fun h0 => by
                  obtain ⟨rb, ro, e, hc⟩ := (hcc k (by omega)).2 h0
                  exact ⟨rb, ro, e, fun i hi => by simpa using hc i hi⟩
                have hlt : k + 1 < l.length := by omega
                go_wp2_with fail
                refine (begins23 (ra2 k) (rc2 k) (L k) p _ (HL1.out k (by omega)).1 (HL1.out k (by omega)).2 g3 HRK.out).mono ?_
                rintro e w5 ⟨rfl, m5, hw5⟩
                subst w5
                by_cases hku : k = u
                · subst hku
                  rw [hhit]
                  have hnq : ∀ (w : World) (a : Option Addr) (n c : Nat), (binOp .eql 27 (.slice a n c) (.slice none 0 0)).run Try.prog w = .ok (.bool a.isNone) w := fun w a n c => Go.run_eql_slice_nil w 27 9 a n c Try.underlying27
                  have e1 : ∀ x, (w4.drewN x).cell? ⟨b, off + k, none⟩ = some (.slice (ra2 k) (L k).length (rc2 k)) := fun x => by simpa using (hcc k (by omega)).1
                  have e2 : ∀ x, (w4.drewN x).cell? ⟨b, off + (k + 1), none⟩ = some (.slice (ra2 (k + 1)) (L (k + 1)).length (rc2 (k + 1))) := fun x => by simpa using (hcc (k + 1) (by omega)).1
                  have hb2 : (k : Int) + 1 < (l.length : Int) := by omega
                  have HR1 : Hid (∀ x, RowS (w4.drewN x) (ra2 k) (L k)) := fun x h0 => by
                    obtain ⟨rb, ro, e, hc⟩ := (hcc k (by omega)).2 h0
                    exact ⟨rb, ro, e, fun i hi => by simpa using hc i hi⟩
                  have HR2 : Hid (∀ x, RowS (w4.drewN x) (ra2 (k + 1)) (L (k + 1))) := fun x h0 => by
                    obtain ⟨rb, ro, e, hc⟩ := (hcc (k + 1) (by omega)).2 h0
                    exact ⟨rb, ro, e, fun i hi => by simpa using hc i hi⟩
                  clear d1 hcc
                  go_wp2_with fail
                  refine (same10 (ra2 k) (rc2 k) (L k) _ (HL1.out k (by omega)).1 (HR1.out _)).mono ?_
                  rintro e w6 ⟨rfl, m6, hw6⟩
                  subst w6
                  go_wp2_with fail
                  refine (same10 (ra2 (k + 1)) (rc2 (k + 1)) (L (k + 1)) _ (HL1.out (k + 1) (by omega)).1 (HR2.out _)).mono ?_
                  rintro e w7 ⟨rfl, m7, hw7⟩
                  subst w7
                  go_wp2
                  go_ret
                  exact ⟨rfl, Below.drewN' HB4.out _⟩
                · rw [HNO.out k (by omega)]
                  clear d1 hcc
                  go_wp2
                  go_roundw
                  case rel => exact ⟨k + 1, _, by omega, by go_num, rfl⟩
                  case measure => simp [intOf]; omega
            · have HNO : Hid (∀ v, v + 1 < l.length → hit p (L v) = false) := hno
              clear hno
              go_wp2
              go_loopw [13] (fun i wr => ∃ (k m : Nat), k ≤ l.length ∧ i = .int .i64 k ∧ wr = w4.drewN m) (fun i _ => l.length - (intOf i).toNat)
              case atStart => exact ⟨0, 0, by omega, rfl, rfl⟩
              case round =>
                obtain ⟨k, m, hk, rfl, hw⟩ := hrel
                subst wr
                by_cases hlt : k + 1 < l.length
                · obtain ⟨b, off, hao, hcc⟩ := HA4.out (by omega)
                  subst hao
                  have d1 : (w4.drewN m).cell? ⟨b, off + k, none⟩ = some (.slice (ra2 k) (L k).length (rc2 k)) := by simpa using (hcc k (by omega)).1
                  have HRK : Hid (RowS (w4.drewN m) (ra2 k) (L k)) := fun h0 => by
                    obtain ⟨rb, ro, e, hc⟩ := (hcc k (by omega)).2 h0
                    exact ⟨rb, ro, e, fun i hi => by simpa using hc i hi⟩
                  go_wp2_with fail
                  refine (begins23 (ra2 k) (rc2 k) (L k) p _ (HL1.out k (by omega)).1 (HL1.out k (by omega)).2 g3 HRK.out).mono ?_
                  rintro e w5 ⟨rfl, m5, hw5⟩
                  subst w5
                  rw [HNO.out k hlt]
                  clear d1 hcc
                  go_wp2
                  go_roundw
                  case rel => exact ⟨k + 1, _, by omega, by go_num, rfl⟩
                  case measure => simp [intOf]; omega
                · have hnq : ∀ (w : World) (a : Option Addr) (n c : Nat), (binOp .eql 27 (.slice a n c) (.slice none 0 0)).run Try.prog w = .ok (.bool a.isNone) w := fun w a n c => Go.run_eql_slice_nil w 27 9 a n c Try.underlying27
                  go_wp2
                  go_ret
                  exact ⟨rfl, Below.drewN' HB4.out _⟩
          · go_wp2
            go_ret
            exact ⟨rfl, Below.refl _ _⟩
end Go.Proofs.Qxb6601375a
