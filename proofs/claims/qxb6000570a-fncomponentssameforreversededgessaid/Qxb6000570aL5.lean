/-
  WALK: the law FnComponentsSameForReversedEdges (5).
-/
import Derived.Test.Qxb6000570aD4
namespace Go.Proofs.Qxb6000570a
open Go.RowKit
set_option linter.unusedVariables false
set_option linter.unusedSimpArgs false

structure Tie (u : Nat) (c1 c2 f g : Nat → Int) : Prop where
  fw : ∀ x, x < u → f (c1 x).toNat = c2 x
  gw : ∀ x, x < u → g (c2 x).toNat = c1 x
  fn : ∀ a : Nat, f a = -1 ∨ ∃ x, x < u ∧ c1 x = a
  gn : ∀ b : Nat, g b = -1 ∨ ∃ x, x < u ∧ c2 x = b
theorem tie_start (c1 c2 f g : Nat → Int) (hf : ∀ i, f i = -1) (hg : ∀ i, g i = -1) : Tie 0 c1 c2 f g :=
  ⟨fun x h => by omega, fun x h => by omega, fun a => .inl (hf a), fun a => .inl (hg a)⟩
theorem Tie.now {n u a b : Nat} {c1 c2 f g : Nat → Int} (h : Tie u c1 c2 f g) (hp : ∀ x y, x < n → y < n → (c1 x = c1 y ↔ c2 x = c2 y)) (h2 : ∀ x, x < n → 0 ≤ c2 x) (hu : u < n) (ha : c1 u = a) (hb : c2 u = b) :
    (f a < 0 ∧ g b < 0) ∨ (f a = b ∧ g b = a) := by
  by_cases hf : f a < 0
  · by_cases hg : g b < 0
    · exact .inl ⟨hf, hg⟩
    · rcases h.gn b with e | ⟨x, hx, e⟩
      · omega
      · have e1 := (hp x u (by omega) hu).2 (by rw [e, hb])
        have e2 := h.fw x hx
        rw [e1, ha, Int.toNat_natCast] at e2
        have := h2 x (by omega)
        omega
  · rcases h.fn a with e | ⟨x, hx, e⟩
    · omega
    · have e1 := (hp x u (by omega) hu).1 (by rw [e, ha])
      have e2 := h.fw x hx
      have e3 := h.gw x hx
      rw [e, Int.toNat_natCast] at e2
      rw [e1, hb, Int.toNat_natCast] at e3
      exact .inr ⟨by rw [e2, e1, hb], by rw [e3, e]⟩
theorem Tie.old {u a b : Nat} {c1 c2 f g : Nat → Int} (h : Tie u c1 c2 f g) (ha : c1 u = a) (hb : c2 u = b) (hf : f a = b) (hg : g b = a) : Tie (u + 1) c1 c2 f g where
  fw := fun x hx => by
    by_cases e : x = u
    · subst e; rw [ha, hb, Int.toNat_natCast, hf]
    · exact h.fw x (by omega)
  gw := fun x hx => by
    by_cases e : x = u
    · subst e; rw [ha, hb, Int.toNat_natCast, hg]
    · exact h.gw x (by omega)
  fn := fun y => (h.fn y).imp id fun ⟨x, hx, e⟩ => ⟨x, by omega, e⟩
  gn := fun y => (h.gn y).imp id fun ⟨x, hx, e⟩ => ⟨x, by omega, e⟩
theorem Tie.new {n u a b : Nat} {c1 c2 f g : Nat → Int} (h : Tie u c1 c2 f g) (h1 : ∀ x, x < n → 0 ≤ c1 x) (h2 : ∀ x, x < n → 0 ≤ c2 x) (hu : u < n) (ha : c1 u = a) (hb : c2 u = b) (hf : f a < 0) (hg : g b < 0) : Tie (u + 1) c1 c2 (upd f a b) (upd g b a) where
  fw := fun x hx => by
    by_cases e : x = u
    · subst e; rw [ha, hb, Int.toNat_natCast, upd_same]
    · have e2 := h.fw x (by omega)
      have := h2 x (by omega)
      rw [upd_other, e2]
      intro e3; rw [e3] at e2; omega
  gw := fun x hx => by
    by_cases e : x = u
    · subst e; rw [ha, hb, Int.toNat_natCast, upd_same]
    · have e2 := h.gw x (by omega)
      have := h1 x (by omega)
      rw [upd_other, e2]
      intro e3; rw [e3] at e2; omega
  fn := fun y => by
    by_cases e : y = a
    · exact .inr ⟨u, by omega, by rw [e, ha]⟩
    · rw [upd_other _ _ e]; exact (h.fn y).imp id fun ⟨x, hx, e⟩ => ⟨x, by omega, e⟩
  gn := fun y => by
    by_cases e : y = b
    · exact .inr ⟨u, by omega, by rw [e, hb]⟩
    · rw [upd_other _ _ e]; exact (h.gn y).imp id fun ⟨x, hx, e⟩ => ⟨x, by omega, e⟩

def minF (k : Nat) (i : Nat) : Int := if i < k then -1 else 0
def P5 (w : World) (e : Ending) (w' : World) : Prop := e = .returned (.bool true) ∧ Below w.heap.size w w'

set_option maxRecDepth 20000 in
set_option maxHeartbeats 4000000 in
theorem law5 (ao : Option Addr) (n ac : Nat) (adj : Nat → List Int) (ra : Nat → Option Addr) (rc : Nat → Nat) (w : World) (hn : n ≤ 9223372036854775807) (hl : ∀ u, u < n → (adj u).length ≤ 9223372036854775807) (ha : AdjZ w ao n adj ra rc) (hN : Nils n adj ra rc) (hnil : ao = none → n = 0 ∧ ac = 0) :
    Calls Try.prog 5 #[.slice ao n ac] w (P5 w) := by
  have HL : Hid (∀ u, u < n → (adj u).length ≤ 9223372036854775807) := hl
  have HA : Hid (AdjZ w ao n adj ra rc) := ha
  have HN : Hid (Nils n adj ra rc) := hN
  have HNIL : Hid (ao = none → n = 0 ∧ ac = 0) := hnil
  clear hl ha hN hnil
  go_enter Try.func5, Try.ntmps5
  go_wp2_with fail
  refine (zz18 ao n ac adj ra rc _ hn HL.out HA.out).mono ?_
  rintro e w1 ⟨⟨r, rfl, hr⟩, hw1⟩
  subst w1
  cases r with
  | false =>
    clear hr
    go_wp2
    go_ret
    exact ⟨rfl, Below.refl _ _⟩
  | true =>
    obtain ⟨hn1, hl1⟩ := hr rfl
    have HL1 : Hid (∀ u, u < n → (adj u).length ≤ 1048576) := hl1
    clear hr hl1 HL hn
    go_wp2_with fail
    refine (bytes11b ao n ac adj ra rc _ hn1 HL1.out HA.out).mono ?_
    rintro e w1 ⟨⟨z, rfl, hz1⟩, hw1⟩
    subst w1
    have HZ1 : Hid (z ≤ 1048576 → sumTo (fun u => (adj u).length) n ≤ 131072) := hz1
    clear hz1
    by_cases hz : (1048576 : Int) < z
    · go_wp2
      go_ret
      exact ⟨rfl, Below.refl _ _⟩
    have HS : Hid (sumTo (fun u => (toN adj u).length) n ≤ 131072) := by
      have := HZ1.out (by omega)
      rw [sumTo_congr (g := fun u => (adj u).length) n fun i hi => toN_len adj i]; exact this
    clear HZ1
    by_cases hn2 : n ≤ 65536
    · go_wp2_with fail
      refine (range12 ao n ac adj ra rc _ hn1 HL1.out HA.out).mono ?_
      rintro e w1 ⟨⟨r, rfl, hr⟩, hw1⟩
      subst w1
      cases r with
      | false =>
        clear hr
        go_wp2
        go_ret
        exact ⟨rfl, Below.refl _ _⟩
      | true =>
        have HR : Hid (∀ u, u < n → InR n (adj u)) := hr rfl
        clear hr hz
        go_wp2_with fail
        refine (clone13 ao n ac adj ra rc _ hn1 HL1.out HA.out HN.out HNIL.out).mono ?_
        rintro e w1 ⟨a2, c2, ra2, rc2, rfl, ha2, hb1⟩
        have HA2 : Hid (AdjSl w1 a2 n (toN adj) ra2 rc2) := ha2.sl HR.out
        have HB1 : Hid (Below w.heap.size w w1) := hb1
        clear ha2 hb1
        go_wp2_with fail
        refine (rev15 a2 n c2 (toN adj) ra2 rc2 _ hn2 (good_toN HR.out) HS.out HA2.out).mono ?_
        rintro e w2 ⟨a3, c3, R, ra3, rc3, rfl, ha3, hrev, hgR, hlR, hb2⟩
        have HA3 : Hid (AdjSl w2 a3 n R ra3 rc3) := ha3
        have HREV : Hid (RevOf n (toN adj) R) := hrev
        have HGR : Hid (Good n R) := hgR
        have HLR : Hid (∀ u, u < n → (R u).length ≤ 1048576) := fun u hu => by have := hlR u hu; omega
        have HA4 : Hid (AdjSl w2 a2 n (toN adj) ra2 rc2) := HA2.out.below hb2
        have HB2 : Hid (Below w.heap.size w w2) := HB1.out.trans (hb2.mono HB1.out.size)
        clear ha3 hrev hgR hlR hb2 HA2 HB1
        go_wp2_with fail
        refine (zzc14 a2 n c2 (toN adj) ra2 rc2 _ hn2 (good_toN HR.out) (fun u hu => by rw [toN_len]; exact HL1.out u hu) HA4.out).mono ?_
        rintro e w3 ⟨g1, comp1, k1, rfl, hg1, he1, hc1, hb3⟩
        have HE1 : Hid (Els w3 g1 n 1 (intF comp1)) := he1
        have HC1 : Hid (Comps n (toN adj) comp1 k1) := hc1
        have HA5 : Hid (AdjSl w3 a3 n R ra3 rc3) := HA3.out.below hb3
        have HB3 : Hid (Below w.heap.size w w3) := HB2.out.trans (hb3.mono HB2.out.size)
        clear hg1 he1 hc1 hb3 HA3 HA4 HB2
        go_wp2_with fail
        refine (zzc14 a3 n c3 R ra3 rc3 _ hn2 HGR.out HLR.out HA5.out).mono ?_
        rintro e w4 ⟨g2, comp2, k2, rfl, hg2, he2, hc2, hb4⟩
        have HE2 : Hid (Els w4 g2 n 1 (intF comp2)) := he2
        have HC2 : Hid (Comps n R comp2 k2) := hc2
        have HE3 : Hid (Els w4 g1 n 1 (intF comp1)) := HE1.out.below hb4 HE1.out.lt
        have HB4 : Hid (Below w.heap.size w w4) := HB3.out.trans (hb4.mono HB3.out.size)
        have HP : Hid (∀ x y, x < n → y < n → (comp1 x = comp1 y ↔ comp2 x = comp2 y)) := fun x y hx hy => same_part (good_toN HR.out) HGR.out HREV.out HC1.out hc2 hx hy
        have hl1 : g1 < w4.heap.size := HE3.out.lt
        have hl2 : g2 < w4.heap.size := he2.lt
        clear hg2 he2 hc2 hb4 HA5 HB3 HE1
        have hmk := makeI n (by omega)
        go_wp2
        have HF0 : Hid (Els ((w4.alloc (.cells (mkI n) 3)).alloc (.cells (mkI n) 3)) w4.heap.size n 1 (intF (minF 0))) := ((els_madeI w4 n).alloc _).congr fun i hi j hj => by simp [natF, intF, minF]
        have HG0 : Hid (Els ((w4.alloc (.cells (mkI n) 3)).alloc (.cells (mkI n) 3)) (w4.heap.size + 1) n 1 (intF (minF 0))) := by
          have := els_madeI (w4.alloc (.cells (mkI n) 3)) n
          rw [size_alloc'] at this
          exact this.congr fun i hi j hj => by simp [natF, intF, minF]
        clear hmk
        go_loopw [9] (fun i wr => ∃ (j : Nat), j ≤ n ∧ i = .int .i64 j ∧ Els wr w4.heap.size n 1 (intF (minF j)) ∧ Els wr (w4.heap.size + 1) n 1 (intF (minF j)) ∧ Below w4.heap.size w4 wr) (fun i _ => n - (intOf i).toNat)
        case atStart => exact ⟨0, by omega, rfl, HF0.out, HG0.out, ((Below.refl _ _).alloc (Nat.le_refl _) _).alloc (by simp) _⟩
        case round =>
          obtain ⟨j, hj, rfl, hf, hg, hb⟩ := hrel
          have HF : Hid (Els wr w4.heap.size n 1 (intF (minF j))) := hf
          have HG : Hid (Els wr (w4.heap.size + 1) n 1 (intF (minF j))) := hg
          have HB : Hid (Below w4.heap.size w4 wr) := hb
          clear hf hg hb HF0 HG0
          by_cases hlt : j < n
          · have d1 := HF.out.cell1 hlt
            have d2 := HG.out.cell1 hlt
            have f1 := HF.out.free
            have f2 := HG.out.free
            go_wp2
            go_roundw
            case rel =>
              refine ⟨j + 1, by omega, by go_num, ?_, ?_, (HB.out.setCell (by simp) _).setCell (by simp) _⟩
              · refine (HF.out.set1' (g' := intF (minF (j + 1))) hlt _ (by simp [intF, minF]) (fun i hi => ?_)).other (by simp) _
                have : i < j + 1 ↔ i < j := by omega
                simp [intF, minF, this]
              · refine (HG.out.other (by simp) _).set1' hlt _ (by simp [intF, minF]) (fun i hi => ?_)
                have : i < j + 1 ↔ i < j := by omega
                simp [intF, minF, this]
            case measure => simp [intOf]; omega
          · have : j = n := by omega
            subst this
            rename World => w5
            have hs5 : w4.heap.size + 1 < w5.heap.size := HG.out.lt
            have HB5 : Hid (Below w.heap.size w w5) := HB4.out.trans (HB.out.mono HB4.out.size)
            have HE4 : Hid (Els w5 g1 j 1 (intF comp1)) := HE3.out.below HB.out hl1
            have HE5 : Hid (Els w5 g2 j 1 (intF comp2)) := HE2.out.below HB.out hl2
            have HT0 : Hid (∃ f g, Els w5 w4.heap.size j 1 (intF f) ∧ Els w5 (w4.heap.size + 1) j 1 (intF g) ∧ Tie 0 comp1 comp2 f g) :=
              ⟨fun _ => -1, fun _ => -1, HF.out.congr fun i hi j' hj' => by simp [intF, minF, hi], HG.out.congr fun i hi j' hj' => by simp [intF, minF, hi], tie_start _ _ _ _ (fun _ => rfl) (fun _ => rfl)⟩
            have hw4 : w.heap.size ≤ w4.heap.size := HB4.out.size
            clear HF HG HB HB4 HE3 HE2 HA HN HNIL
            go_wp2
            go_loopw [10] (fun i wr => ∃ (u : Nat) (f g : Nat → Int), u ≤ j ∧ i = .int .i64 u ∧ Els wr w4.heap.size j 1 (intF f) ∧ Els wr (w4.heap.size + 1) j 1 (intF g) ∧ Tie u comp1 comp2 f g ∧ Els wr g1 j 1 (intF comp1) ∧ Els wr g2 j 1 (intF comp2) ∧ Below w.heap.size w wr) (fun i _ => j - (intOf i).toNat)
            case atStart =>
              obtain ⟨f, g, h1, h2, h3⟩ := HT0.out
              exact ⟨0, f, g, by omega, rfl, h1, h2, h3, HE4.out, HE5.out, HB5.out⟩
            case round =>
              obtain ⟨u, f, g, hu, rfl, hf, hg, ht, he1, he2, hb⟩ := hrel
              have HF : Hid (Els wr w4.heap.size j 1 (intF f)) := hf
              have HG : Hid (Els wr (w4.heap.size + 1) j 1 (intF g)) := hg
              have HT : Hid (Tie u comp1 comp2 f g) := ht
              have HE1 : Hid (Els wr g1 j 1 (intF comp1)) := he1
              have HE2 : Hid (Els wr g2 j 1 (intF comp2)) := he2
              have HB : Hid (Below w.heap.size w wr) := hb
              clear hf hg ht he1 he2 hb HT0 HE4 HE5 HB5
              by_cases hlt : u < j
              · obtain ⟨r10, r11⟩ := HC1.out.rng u hlt
                obtain ⟨r20, r21⟩ := HC2.out.rng u hlt
                have hk1 := HC1.out.kn
                have hk2 := HC2.out.kn
                obtain ⟨a, ha⟩ := Int.eq_ofNat_of_zero_le r10
                obtain ⟨b, hb⟩ := Int.eq_ofNat_of_zero_le r20
                have d1 : wr.cell? ⟨g1, u, none⟩ = some (.int .i64 (a : Int)) := by rw [← ha]; simpa [intF] using HE1.out.cell1 hlt
                have d2 : wr.cell? ⟨g2, u, none⟩ = some (.int .i64 (b : Int)) := by rw [← hb]; simpa [intF] using HE2.out.cell1 hlt
                have han : a < j := by omega
                have hbn : b < j := by omega
                have HAA : Hid (comp1 u = a) := ha
                have HBB : Hid (comp2 u = b) := hb
                have f1 := HF.out.free
                have f2 := HG.out.free
                have HW : Hid (g1 ≠ w4.heap.size ∧ g1 ≠ w4.heap.size + 1 ∧ g2 ≠ w4.heap.size ∧ g2 ≠ w4.heap.size + 1) := ⟨by omega, by omega, by omega, by omega⟩
                have d3 : wr.cell? ⟨w4.heap.size, a, none⟩ = some (.int .i64 (f a)) := by simpa [intF] using HF.out.cell1 han
                have d4 : wr.cell? ⟨w4.heap.size + 1, b, none⟩ = some (.int .i64 (g b)) := by simpa [intF] using HG.out.cell1 hbn
                have hnow := HT.out.now HP.out (fun x hx => (HC2.out.rng x hx).1) hlt ha hb
                clear r10 r11 r20 r21 ha hb
                rcases hnow with ⟨q1, q2⟩ | ⟨q1, q2⟩
                · go_wp2
                  go_roundw
                  case rel =>
                    refine ⟨u + 1, upd f a b, upd g b a, by omega, by go_num, ?_, ?_, HT.out.new (fun x hx => (HC1.out.rng x hx).1) (fun x hx => (HC2.out.rng x hx).1) hlt HAA.out HBB.out q1 q2, ?_, ?_, (HB.out.setCell (by simp; omega) _).setCell (by simp; omega) _⟩
                    · exact (HF.out.set1' (g' := intF (upd f a b)) han _ (by simp [intF, upd_same]) (fun i hi => by simp only [intF]; rw [upd_other _ _ hi])).other (by simp) _
                    · exact (HG.out.other (by simp) _).set1' hbn _ (by simp [intF, upd_same]) (fun i hi => by simp only [intF]; rw [upd_other _ _ hi])
                    · exact (HE1.out.other HW.out.1 _).other HW.out.2.1 _
                    · exact (HE2.out.other HW.out.2.2.1 _).other HW.out.2.2.2 _
                  case measure => simp [intOf]; omega
                · rw [q1] at d3
                  rw [q2] at d4
                  go_wp2
                  go_roundw
                  case rel => exact ⟨u + 1, f, g, by omega, by go_num, HF.out, HG.out, HT.out.old HAA.out HBB.out q1 q2, HE1.out, HE2.out, HB.out⟩
                  case measure => simp [intOf]; omega
              · go_wp2
                go_ret
                exact ⟨rfl, HB.out⟩
    · go_wp2
      go_ret
      exact ⟨rfl, Below.refl _ _⟩
end Go.Proofs.Qxb6000570a
