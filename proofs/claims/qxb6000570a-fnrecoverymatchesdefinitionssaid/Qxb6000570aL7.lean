/-
  WALK: the law FnRecoveryMatchesDefinitions (7).
-/
import Derived.Test.Qxb6000570aE7
namespace Go.Proofs.Qxb6000570a
open Go.RowKit
set_option linter.unusedVariables false
set_option linter.unusedSimpArgs false

theorem ended30e (ab m : Nat) (EA : Nat → Int) (t : Nat) (p : Int) (w : World) (ht : t < m) (h : Els w ab m 1 (intF EA)) : Calls Try.prog 30 #[.slice (some ⟨ab, 0, none⟩) m m, .int .i64 t, .int .i64 p] w (P30 (EA t) p w) := by
  have hr : RowZ w (some ⟨ab, 0, none⟩) ((List.range m).map EA) := fun h0 => ⟨ab, 0, rfl, fun i hi => by
    have hi' : i < m := by simpa using hi
    rw [Nat.zero_add, h.cell1 hi']
    simp [intF]⟩
  have key : ∀ (l : List Int) (hlen : l.length = m) (ht : t < l.length), RowZ w (some ⟨ab, 0, none⟩) l → Calls Try.prog 30 #[.slice (some ⟨ab, 0, none⟩) m m, .int .i64 t, .int .i64 p] w (P30 l[t] p w) := by
    intro l hlen ht hr
    have := ended30 (some ⟨ab, 0, none⟩) m l t p w ht hr
    rw [hlen] at this
    exact this
  have := key ((List.range m).map EA) (by simp) (by simpa using ht) hr
  simpa using this
theorem ended_st {S : Sch} {n k : Nat} (hw : Wf S n) (hk : k < n) (p : Int) : ended (S.A k) p = true ↔ st S k p ≠ 0 := by
  have h0 := hw.h0 k hk
  unfold ended st stat
  by_cases h : S.A k < p
  · rw [if_pos h]
    simp only [bne_iff_ne, ne_eq, Bool.and_eq_true, decide_eq_true_eq, h, and_true]
    rw [h0]
  · rw [if_neg h]
    simp [h]
theorem st_one {S : Sch} {k : Nat} {p : Int} : st S k p = 1 ↔ S.H k = 1 ∧ S.A k < p := by
  unfold st stat
  by_cases h : S.A k < p
  · rw [if_pos h]; simp [h]
  · rw [if_neg h]; simp [h]
theorem st_2 {S : Sch} {k : Nat} {p : Int} : st S k p = 2 ↔ S.H k = 2 ∧ S.A k < p := by
  unfold st stat
  by_cases h : S.A k < p
  · rw [if_pos h]; simp [h]
  · rw [if_neg h]; simp [h]
/-- The four answers meet. -/
theorem meet4 {S : Sch} {n : Nat} {r a s g r' a' s' g' : Bool} (h1 : r = true ↔ FC S n) (h2 : a = true ↔ FA S n) (h3 : s = true ↔ FS S n) (h4 : g = true ↔ FS S n ∧ FR S n) (k1 : r' = true ↔ FC S n) (k2 : a' = true ↔ FA S n) (k3 : s' = true ↔ FS S n) (k4 : g' = true ↔ FR S n) :
    r = r' ∧ a = a' ∧ s = s' ∧ g = (s' && g') := by
  refine ⟨Bool.eq_iff_iff.2 (h1.trans k1.symm), Bool.eq_iff_iff.2 (h2.trans k2.symm), Bool.eq_iff_iff.2 (h3.trans k3.symm), Bool.eq_iff_iff.2 ?_⟩
  rw [Bool.and_eq_true, h4, k3, k4]

theorem fs_step {S : Sch} {k : Nat} {b : Bool} (h : b = true ↔ FS S k) (hT : Takes S k) {b' : Bool} (h' : b' = true ↔ b = true ∧ SS S k) : b' = true ↔ FS S (k + 1) := by
  rw [h', h, FS.succ]; exact ⟨fun x => ⟨x.1, fun _ => x.2⟩, fun x => ⟨x.1, x.2 hT⟩⟩
theorem fa_step {S : Sch} {k z : Nat} {b : Bool} (h : b = true ↔ FA S k) (hK : S.K k = 1) (hs : Src S k z) (hx : S.X z ≠ S.X k) (c : Bool) (hc : c = true ↔ (S.H z = 1 ∧ S.A z < (k : Int) + 1)) : (b && c) = true ↔ FA S (k + 1) := by
  rw [Bool.and_eq_true, h, FA.succ, hc, src_diffA hs hx, st_one]; exact ⟨fun x => ⟨x.1, fun _ => x.2⟩, fun x => ⟨x.1, x.2 hK⟩⟩
theorem fc_step {S : Sch} {k z : Nat} {b : Bool} (h : b = true ↔ FC S k) (hK : S.K k = 1) (hs : Src S k z) (hx : S.X z ≠ S.X k) (c : Bool) (hc : c = true ↔ (S.H k = 1 → S.H z = 1 ∧ S.A z < S.A k)) : (b && c) = true ↔ FC S (k + 1) := by
  rw [Bool.and_eq_true, h, FC.succ, hc, src_diffC hs hx, st_one]; exact ⟨fun x => ⟨x.1, fun _ => x.2⟩, fun x => ⟨x.1, x.2 hK⟩⟩
theorem fa_same {S : Sch} {k : Nat} {b : Bool} (h : b = true ↔ FA S k) (ha : S.K k = 1 → AA S k) : b = true ↔ FA S (k + 1) := by
  rw [h, FA.succ]; exact ⟨fun x => ⟨x, ha⟩, fun x => x.1⟩
theorem fc_same {S : Sch} {k : Nat} {b : Bool} (h : b = true ↔ FC S k) (ha : S.K k = 1 → CC S k) : b = true ↔ FC S (k + 1) := by
  rw [h, FC.succ]; exact ⟨fun x => ⟨x, ha⟩, fun x => x.1⟩
theorem fr_same {S : Sch} {k : Nat} {b : Bool} (h : b = true ↔ FR S k) (hK : S.K k ≠ 2) : b = true ↔ FR S (k + 1) := by
  rw [h, FR.succ]; exact ⟨fun x => ⟨x, fun e => absurd e hK⟩, fun x => x.1⟩
theorem fr_step {S : Sch} {k : Nat} {b : Bool} (h : b = true ↔ FR S k) (hK : S.K k = 2) {b' : Bool} (h' : b' = true ↔ b = true ∧ RR S k) : b' = true ↔ FR S (k + 1) := by
  rw [h', h, FR.succ]; exact ⟨fun x => ⟨x.1, fun _ => x.2⟩, fun x => ⟨x.1, x.2 hK⟩⟩
theorem ba_toList_loop (b : ByteArray) : ∀ (n i : Nat) (r : List UInt8), b.size - i = n → ByteArray.toList.loop b i r = r.reverse ++ b.data.toList.drop i := by
  intro n
  induction n with
  | zero =>
    intro i r h
    unfold ByteArray.toList.loop
    rw [if_neg (by omega)]
    rw [List.drop_eq_nil_of_le (by rw [Array.length_toList]; show b.size ≤ i; omega)]
    simp
  | succ n ih =>
    intro i r h
    unfold ByteArray.toList.loop
    rw [if_pos (by omega), ih (i + 1) _ (by omega)]
    have hi : i < b.data.toList.length := by rw [Array.length_toList]; show i < b.size; omega
    rw [List.drop_eq_getElem_cons hi]
    simp only [List.reverse_cons, List.append_assoc, List.singleton_append]
    congr 2
    have : b.get! i = b.data[i]! := rfl
    rw [this, getElem!_pos b.data i (by simpa using hi)]
    simp
theorem ba_toList (b : ByteArray) : b.toList = b.data.toList := by
  unfold ByteArray.toList
  rw [ba_toList_loop b _ 0 [] rfl]
  simp
theorem toList_ne {a b : ByteArray} (h : ¬ a = b) : (a.toList == b.toList) = false := by
  rw [ba_toList, ba_toList]
  rw [beq_eq_false_iff_ne]
  intro e
  apply h
  cases a; cases b
  congr 1
  exact Array.toList_inj.1 e
def vU (l : List Nat) : List Value := l.map fun x : Nat => .int .u8 (x : Int)
def vS (l : List ByteArray) : List Value := l.map .string
theorem RowU.vals {w : World} {ra : Option Addr} {l : List Nat} (h : RowU w ra l) : RowV w ra (vU l) := fun h0 => by
  obtain ⟨rb, ro, e, hc⟩ := h (by simpa [vU] using h0)
  exact ⟨rb, ro, e, fun i hi => by rw [hc i (by simpa [vU] using hi)]; simp [vU]⟩
theorem RowV.u8s {w : World} {ra : Option Addr} {l : List Nat} (h : RowV w ra (vU l)) : RowU w ra l := fun h0 => by
  obtain ⟨rb, ro, e, hc⟩ := h (by simpa [vU] using h0)
  exact ⟨rb, ro, e, fun i hi => by rw [hc i (by simpa [vU] using hi)]; simp [vU]⟩
theorem RowS.vals {w : World} {ra : Option Addr} {l : List ByteArray} (h : RowS w ra l) : RowV w ra (vS l) := fun h0 => by
  obtain ⟨rb, ro, e, hc⟩ := h (by simpa [vS] using h0)
  exact ⟨rb, ro, e, fun i hi => by rw [hc i (by simpa [vS] using hi)]; simp [vS]⟩
theorem RowV.strs {w : World} {ra : Option Addr} {l : List ByteArray} (h : RowV w ra (vS l)) : RowS w ra l := fun h0 => by
  obtain ⟨rb, ro, e, hc⟩ := h (by simpa [vS] using h0)
  exact ⟨rb, ro, e, fun i hi => by rw [hc i (by simpa [vS] using hi)]; simp [vS]⟩
def PC' (P : World → Option Addr → Prop) (n : Nat) (w : World) (e : Ending) (w' : World) : Prop := ∃ a2 c2, e = .returned (.slice a2 n c2) ∧ P w' a2 ∧ Below w.heap.size w w'
theorem clone22u (ao : Option Addr) (c : Nat) (l : List Nat) (w : World) (hl : l.length ≤ 1048576) (ha : RowU w ao l) (hnil : ao = none → l.length = 0 ∧ c = 0) : Calls Try.prog 22 #[.slice ao l.length c] w (PC' (fun w' a => RowU w' a l) l.length w) := by
  have hv : (vU l).length = l.length := by simp [vU]
  have := clone22 ao c (vU l) w (by rw [hv]; exact hl) (by simp [vU, Value.oneCell']) ha.vals (by rw [hv]; exact hnil)
  rw [hv] at this
  refine this.mono fun e w' ⟨a2, c2, h1, h2, h3⟩ => ⟨a2, c2, by rw [h1, hv], h2.u8s, h3⟩
theorem clone24s (ao : Option Addr) (c : Nat) (l : List ByteArray) (w : World) (hl : l.length ≤ 1048576) (ha : RowS w ao l) (hnil : ao = none → l.length = 0 ∧ c = 0) : Calls Try.prog 24 #[.slice ao l.length c] w (PC' (fun w' a => RowS w' a l) l.length w) := by
  have hv : (vS l).length = l.length := by simp [vS]
  have := clone24 ao c (vS l) w (by rw [hv]; exact hl) (by simp [vS, Value.oneCell']) ha.vals (by rw [hv]; exact hnil)
  rw [hv] at this
  refine this.mono fun e w' ⟨a2, c2, h1, h2, h3⟩ => ⟨a2, c2, by rw [h1, hv], h2.strs, h3⟩

def P7 (w : World) (e : Ending) (w' : World) : Prop := e = .returned (.bool true) ∧ Below w.heap.size w w'
set_option maxRecDepth 20000 in
set_option maxHeartbeats 40000000 in
theorem law7 (ka : Option Addr) (kc : Nat) (lk : List Nat) (xa : Option Addr) (xc : Nat) (lx : List Int) (ia : Option Addr) (ic : Nat) (li : List ByteArray) (w : World)
    (hk : lk.length ≤ 9223372036854775807) (hx : lx.length ≤ 9223372036854775807) (hi : li.length ≤ 9223372036854775807) (hz : Sz 9223372036854775807 li) (ak : RowU w ka lk) (ax : RowZ w xa lx) (ai : RowS w ia li)
    (nk : ka = none → lk.length = 0 ∧ kc = 0) (nx : xa = none → lx.length = 0 ∧ xc = 0) (ni : ia = none → li.length = 0 ∧ ic = 0) :
    Calls Try.prog 7 #[.slice ka lk.length kc, .slice xa lx.length xc, .slice ia li.length ic] w (P7 w) := by
  have AK : Hid (RowU w ka lk) := ak
  have AX : Hid (RowZ w xa lx) := ax
  have AI : Hid (RowS w ia li) := ai
  have NK : Hid (ka = none → lk.length = 0 ∧ kc = 0) := nk
  have NX : Hid (xa = none → lx.length = 0 ∧ xc = 0) := nx
  have NI : Hid (ia = none → li.length = 0 ∧ ic = 0) := ni
  have HZ : Hid (Sz 9223372036854775807 li) := hz
  clear ak ax ai nk nx ni hz
  go_enter Try.func7, Try.ntmps7
  go_wp2_with fail
  refine (zz28 ka lk.length kc xa lx.length xc ia ic li _ hk hx hi HZ.out AI.out).mono ?_
  rintro e w1 ⟨⟨r, rfl, hr⟩, hw1⟩
  subst w1
  cases r with
  | false =>
    clear hr
    go_wp2
    go_ret
    exact ⟨rfl, Below.refl _ _⟩
  | true =>
    obtain ⟨g1, g2, g3, g4⟩ := hr rfl
    have HZ1 : Hid (Sz 1048576 li) := g4
    clear hr g4 HZ hk hx hi
    go_wp2_with fail
    refine (rec20 ka lk.length kc xa lx.length xc ia ic li _ g1 g2 g3 HZ1.out AI.out).mono ?_
    rintro e w1 ⟨⟨z, rfl⟩, hw1⟩
    subst w1
    by_cases hz : (1048576 : Int) < z
    · go_wp2
      go_ret
      exact ⟨rfl, Below.refl _ _⟩
    by_cases g : lk.length ≤ 4096 ∧ lx.length ≤ 4096 ∧ li.length ≤ 4096
    · obtain ⟨q1, q2, q3⟩ := g
      go_wp2_with fail
      refine (item29 ia ic li _ g3 HZ1.out AI.out).mono ?_
      rintro e w1 ⟨⟨z2, rfl⟩, hw1⟩
      subst w1
      by_cases hz2 : (65536 : Int) < z2
      · go_wp2
        go_ret
        exact ⟨rfl, Below.refl _ _⟩
      go_wp2_with fail
      refine (shape21 ka lk.length kc xa xc lx ia ic li _ g1 g2 g3 HZ1.out AI.out AX.out).mono ?_
      rintro e w1 ⟨⟨r, rfl, hr⟩, hw1⟩
      subst w1
      cases r with
      | false =>
        clear hr
        go_wp2
        go_ret
        exact ⟨rfl, Below.refl _ _⟩
      | true =>
        obtain ⟨_, hlx, hli, hx1⟩ := hr rfl
        have HLX : Hid (lx.length = lk.length) := hlx
        have HLI : Hid (li.length = lk.length) := hli
        have HX1 : Hid (∀ i (h : i < lx.length), 1 ≤ lx[i]) := hx1
        clear hr hx1 hlx hli hz hz2
        go_wp2_with fail
        refine (clone22u ka kc lk _ g1 AK.out NK.out).mono ?_
        rintro e w1 ⟨ka1, kc1, rfl, ak1, hb1⟩
        have AK1 : Hid (RowU w1 ka1 lk) := ak1
        have AX1 : Hid (RowZ w1 xa lx) := AX.out.below hb1
        have AI1 : Hid (RowS w1 ia li) := AI.out.below hb1
        have HB1 : Hid (Below w.heap.size w w1) := hb1
        clear ak1 hb1 AK AX AI NK
        go_wp2_with fail
        refine (clone23 xa xc lx _ g2 AX1.out NX.out).mono ?_
        rintro e w2 ⟨xa1, xc1, rfl, ax1, _, hb2⟩
        have AK2 : Hid (RowU w2 ka1 lk) := AK1.out.below hb2
        have AX2 : Hid (RowZ w2 xa1 lx) := ax1
        have AI2 : Hid (RowS w2 ia li) := AI1.out.below hb2
        have HB2 : Hid (Below w.heap.size w w2) := HB1.out.trans (hb2.mono HB1.out.size)
        clear ax1 hb2 AK1 AX1 AI1 NX HB1
        go_wp2_with fail
        refine (clone24s ia ic li _ g3 AI2.out NI.out).mono ?_
        rintro e w3 ⟨ia1, ic1, rfl, ai1, hb3⟩
        have AK3 : Hid (RowU w3 ka1 lk) := AK2.out.below hb3
        have AX3 : Hid (RowZ w3 xa1 lx) := AX2.out.below hb3
        have AI3 : Hid (RowS w3 ia1 li) := ai1
        have HB3 : Hid (Below w.heap.size w w3) := HB2.out.trans (hb3.mono HB2.out.size)
        clear ai1 hb3 AK2 AX2 AI2 NI HB2 HZ1
        rw [HLX.out, HLI.out]
        go_wp2_with fail
        refine (table25 ka1 kc1 lk xa1 xc1 lx _ q1 HLX.out AK3.out AX3.out).mono ?_
        rintro e w4 ⟨m, hb, ab, ob, EH, EA, O, rfl, eh, ea, eo, hm, hO, hOX, hiff, hb4⟩
        have AK4 : Hid (RowU w4 ka1 lk) := AK3.out.below hb4
        have AX4 : Hid (RowZ w4 xa1 lx) := AX3.out.below hb4
        have AI4 : Hid (RowS w4 ia1 li) := AI3.out.below hb4
        have HB4 : Hid (Below w.heap.size w w4) := HB3.out.trans (hb4.mono HB3.out.size)
        have EH4 : Hid (Els w4 hb m 1 (u8F EH)) := eh
        have EA4 : Hid (Els w4 ab m 1 (intF EA)) := ea
        have EO4 : Hid (Els w4 ob lk.length 1 (natF O)) := eo
        have HO : Hid (∀ i, i < lk.length → O i < m) := hO
        have HWF : Hid (Wf (schOf lk lx li EH EA O) lk.length) := by
          refine ⟨fun k hk => ?_, fun k hk => hiff (O k) (hO k hk), fun j k hj hk e => ?_⟩
          · have hkx : k < lx.length := by rw [HLX.out]; exact hk
            have := HX1.out k hkx
            simpa [schOf, List.getD, hkx] using this
          · have := hOX j k hj hk e
            simp only [schOf, this, and_self]
        clear eh ea eo hO hOX hiff hb4 AK3 AX3 AI3 HB3 HX1
        go_wp2_with fail
        refine (rec27 ka1 kc1 lk xa1 xc1 lx ia1 ic1 li m hb ab ob EH EA O _ q1 HLX.out HLI.out hm HO.out HWF.out AK4.out AX4.out AI4.out EH4.out EA4.out EO4.out).mono ?_
        rintro e w5 ⟨⟨fr, fa, fs, fg, rfl, p1, p2, p3, p4⟩, hb5⟩
        obtain ⟨S, hS⟩ : ∃ S, S = schOf lk lx li EH EA O := ⟨_, rfl⟩
        have HS : Hid (S = schOf lk lx li EH EA O) := hS
        rw [← hS] at p1 p2 p3 p4
        have HQ : Hid ((fr = true ↔ FC S lk.length) ∧ (fa = true ↔ FA S lk.length) ∧ (fs = true ↔ FS S lk.length) ∧ (fg = true ↔ FS S lk.length ∧ FR S lk.length)) := ⟨p1, p2, p3, p4⟩
        have HW : Hid (Wf S lk.length) := by show Wf _ _; rw [hS]; exact HWF.out
        have AK : Hid (RowU w5 ka1 lk) := AK4.out.below hb5
        have AX : Hid (RowZ w5 xa1 lx) := AX4.out.below hb5
        have AI : Hid (RowS w5 ia1 li) := AI4.out.below hb5
        have HB : Hid (Below w.heap.size w w5) := HB4.out.trans (hb5.mono HB4.out.size)
        have EH5 : Hid (Els w5 hb m 1 (u8F EH)) := EH4.out.below hb5 EH4.out.lt
        have EA5 : Hid (Els w5 ab m 1 (intF EA)) := EA4.out.below hb5 EA4.out.lt
        have EO5 : Hid (Els w5 ob lk.length 1 (natF O)) := EO4.out.below hb5 EO4.out.lt
        clear hS p1 p2 p3 p4 hb5 HWF AK4 AX4 AI4 HB4 EH4 EA4 EO4
        go_wp2
        go_loopw [14, 15, 16, 17, 19] (fun s14 s15 s16 s17 s19 wr => ∃ (k mm : Nat) (b14 b15 b16 b17 : Bool), k ≤ lk.length ∧ s19 = .int .i64 (k : Nat) ∧ s14 = .bool b14 ∧ s15 = .bool b15 ∧ s16 = .bool b16 ∧ s17 = .bool b17 ∧ wr = w5.drewN mm ∧ (b14 = true ↔ FC S k) ∧ (b15 = true ↔ FA S k) ∧ (b16 = true ↔ FS S k) ∧ (b17 = true ↔ FR S k)) (fun _ _ _ _ s19 _ => lk.length - (intOf s19).toNat)
        case atStart => exact ⟨0, 0, true, true, true, true, by omega, rfl, rfl, rfl, rfl, rfl, rfl, ⟨fun _ k hk => by omega, fun _ => rfl⟩, ⟨fun _ k hk => by omega, fun _ => rfl⟩, ⟨fun _ k hk => by omega, fun _ => rfl⟩, ⟨fun _ k hk => by omega, fun _ => rfl⟩⟩
        case round => as_aux_lemma =>
          obtain ⟨k, mm, b14, b15, b16, b17, hk, rfl, rfl, rfl, rfl, rfl, hw, h14, h15, h16, h17⟩ := hrel
          subst hw
          have H14 : Hid (b14 = true ↔ FC S k) := h14
          have H15 : Hid (b15 = true ↔ FA S k) := h15
          have H16 : Hid (b16 = true ↔ FS S k) := h16
          have H17 : Hid (b17 = true ↔ FR S k) := h17
          clear h14 h15 h16 h17
          by_cases hlt : k < lk.length
          · obtain ⟨kb, ko, hka, hkc⟩ := AK.out (by omega)
            obtain ⟨xb, xo, hxa, hxc⟩ := AX.out (by rw [HLX.out]; omega)
            obtain ⟨ib, iof, hia, hic⟩ := AI.out (by rw [HLI.out]; omega)
            subst hka hxa hia
            have CK : Hid (∀ i, i < lk.length → w5.cell? ⟨kb, ko + i, none⟩ = some (.int .u8 (S.K i : Nat))) := fun i hi => by rw [hkc i hi, HS.out]; simp [schOf, List.getD, hi]
            have CX : Hid (∀ i, i < lk.length → w5.cell? ⟨xb, xo + i, none⟩ = some (.int .i64 (S.X i))) := fun i hi => by
              have hi' : i < lx.length := by rw [HLX.out]; exact hi
              rw [hxc i hi', HS.out]; simp [schOf, List.getD, hi']
            have CI : Hid (∀ i, i < lk.length → w5.cell? ⟨ib, iof + i, none⟩ = some (.string (S.I i))) := fun i hi => by
              have hi' : i < li.length := by rw [HLI.out]; exact hi
              rw [hic i hi', HS.out]; simp [schOf, List.getD, hi']
            have CO : Hid (∀ i, i < lk.length → w5.cell? ⟨ob, i, none⟩ = some (.int .i64 (O i : Nat))) := fun i hi => by simpa [natF] using EO5.out.cell1 hi
            have CH : Hid (∀ i, i < lk.length → w5.cell? ⟨hb, O i, none⟩ = some (.int .u8 (S.H i : Nat))) := fun i hi => by rw [EH5.out.cell1 (HO.out i hi), HS.out]; rfl
            have CA : Hid (∀ i, i < lk.length → w5.cell? ⟨ab, O i, none⟩ = some (.int .i64 (S.A i))) := fun i hi => by rw [EA5.out.cell1 (HO.out i hi), HS.out]; rfl
            have CE : Hid (∀ i, i < lk.length → EA (O i) = S.A i) := fun i hi => by rw [HS.out]; rfl
            clear hkc hxc hic AK AX AI
            have k0 : (w5.drewN mm).cell? ⟨kb, ko + k, none⟩ = some (.int .u8 (S.K k : Nat)) := by simpa using CK.out k hlt
            have o0 : (w5.drewN mm).cell? ⟨ob, k, none⟩ = some (.int .i64 (O k : Nat)) := by simpa using CO.out k hlt
            by_cases hT : S.K k = 1 ∨ S.K k = 2
            · have hKt : takes (S.K k) = true := by unfold takes; rcases hT with h | h <;> simp [h]
              go_upto_region 22 with fail
              go_cut [101] from 87 to 284 (fun s101 wx => s101 = .bool false ∧ wx = w5.drewN mm)
              case first => as_aux_lemma =>
                rcases hT with h | h
                · have t1 : (((S.K k : Nat) : Int) != 1) = false := by simp; omega
                  go_wp2
                  go_meet
                  case rel => exact ⟨rfl, rfl⟩
                · have t1 : (((S.K k : Nat) : Int) != 1) = true := by simp; omega
                  have t2 : (((S.K k : Nat) : Int) != 2) = false := by simp; omega
                  go_wp2
                  go_meet
                  case rel => exact ⟨rfl, rfl⟩
              case rest => as_aux_lemma =>
                obtain ⟨hs, hwc⟩ := hcut
                subst hs
                subst hwc
                clear k0 hKt
                go_wp2
                clear o0
                go_loopw [16, 23] (fun sf sy wr => ∃ (y my : Nat) (b : Bool), y ≤ k ∧ sy = .int .i64 (y : Nat) ∧ sf = .bool b ∧ wr = w5.drewN my ∧ (b = true ↔ b16 = true ∧ ∀ q, q < y → S.K q = 2 → S.X q ≠ S.X k → S.I q = S.I k → st S q ((k : Int) + 1) ≠ 0)) (fun _ sy _ => k - (intOf sy).toNat)
                case atStart => exact ⟨0, _, b16, by omega, rfl, rfl, rfl, by simp⟩
                case round =>
                  obtain ⟨y, my, b, hy, rfl, rfl, hw, hb⟩ := hrel
                  subst hw
                  have HBB : Hid (b = true ↔ b16 = true ∧ ∀ q, q < y → S.K q = 2 → S.X q ≠ S.X k → S.I q = S.I k → st S q ((k : Int) + 1) ≠ 0) := hb
                  clear hb
                  by_cases hyk : y < k
                  · as_aux_lemma =>
                    have hyl : y < lk.length := by omega
                    have ky := CK.out y hyl
                    have xy := CX.out y hyl
                    have xk := CX.out k hlt
                    have iy := CI.out y hyl
                    have ik := CI.out k hlt
                    have oy : ∀ v, (w5.drewN v).cell? ⟨ob, y, none⟩ = some (.int .i64 (O y : Nat)) := fun v => by simpa using CO.out y hyl
                    have i0 : (0:Int) ≤ (y : Int) := by omega
                    have i1 : (y:Int) < ((lk.length : Nat) : Int) := by omega
                    have i2 : (0:Int) ≤ (k : Int) := by omega
                    have i3 : (k:Int) < ((lk.length : Nat) : Int) := by omega
                    have HSK : Hid ((¬ (S.K y = 2 ∧ S.X y ≠ S.X k ∧ S.I y = S.I k)) → (b = true ↔ b16 = true ∧ ∀ q, q < y + 1 → S.K q = 2 → S.X q ≠ S.X k → S.I q = S.I k → st S q ((k : Int) + 1) ≠ 0)) := fun hno => by
                      rw [HBB.out]
                      refine and_congr_right fun _ => ⟨fun h q hq a1 a2 a3 => ?_, fun h q hq => h q (by omega)⟩
                      by_cases e : q = y
                      · subst e; exact absurd ⟨a1, a2, a3⟩ hno
                      · exact h q (by omega) a1 a2 a3
                    by_cases hK2 : S.K y = 2
                    · rw [hK2] at ky
                      by_cases hX : S.X y = S.X k
                      · rw [hX] at xy
                        go_wp2
                        go_quiet (fail)
                        go_wp2
                        go_roundw
                        case rel => exact ⟨y + 1, _, b, by omega, by go_num, rfl, rfl, HSK.out (fun h => h.2.1 hX)⟩
                        case measure => first | (simp [intOf]; omega) | simp [intOf]
                      · have hXb : (S.X y == S.X k) = false := by simp [hX]
                        by_cases hI : S.I y = S.I k
                        · rw [hI] at iy
                          go_wp2
                          go_quiet (fail)
                          clear ky xy xk iy ik
                          go_wp2_with fail
                          refine (ended30e ab m EA (O y) ((k : Int) + 1) _ (HO.out y hyl) (EA5.out.drewN _)).mono ?_
                          rintro e w6 ⟨rfl, m6, hw6⟩
                          subst w6
                          rw [CE.out y hyl]
                          have hest := ended_st HW.out hyl ((k : Int) + 1)
                          cases hen : ended (S.A y) ((k : Int) + 1) with
                          | true =>
                            rw [hen] at hest
                            have HST : Hid (st S y ((k : Int) + 1) ≠ 0) := hest.1 rfl
                            clear hest
                            go_wp2
                            go_roundw
                            case rel => exact ⟨y + 1, _, b, by omega, by go_num, rfl, rfl, by
                              rw [HBB.out]
                              refine and_congr_right fun _ => ⟨fun h q hq a1 a2 a3 => ?_, fun h q hq => h q (by omega)⟩
                              by_cases e : q = y
                              · subst e; exact HST.out
                              · exact h q (by omega) a1 a2 a3⟩
                            case measure => first | (simp [intOf]; omega) | simp [intOf]
                          | false =>
                            rw [hen] at hest
                            have HST : Hid (¬ st S y ((k : Int) + 1) ≠ 0) := fun h => by have := hest.2 h; cases this
                            clear hest
                            go_wp2
                            go_roundw
                            case rel => exact ⟨y + 1, _, false, by omega, by go_num, rfl, rfl, by
                              constructor
                              · intro h; cases h
                              · intro h; exact absurd (h.2 y (by omega) hK2 hX hI) HST.out⟩
                            case measure => first | (simp [intOf]; omega) | simp [intOf]
                        · have hIb := toList_ne hI
                          go_wp2
                          go_quiet (fail)
                          go_wp2
                          go_roundw
                          case rel => exact ⟨y + 1, _, b, by omega, by go_num, rfl, rfl, HSK.out (fun h => hI h.2.2)⟩
                          case measure => first | (simp [intOf]; omega) | simp [intOf]
                    · have hKb : (((S.K y : Nat) : Int) != 2) = true := by simp; omega
                      have hKn : ¬ ((S.K y : Nat) : Int) = 2 := by omega
                      go_wp2
                      go_quiet (fail)
                      go_wp2
                      go_roundw
                      case rel => exact ⟨y + 1, _, b, by omega, by go_num, rfl, rfl, HSK.out (fun h => hK2 h.1)⟩
                      case measure => first | (simp [intOf]; omega) | simp [intOf]
                  · have hye : k = y := by omega
                    subst hye
                    have HFS1 : Hid (b = true ↔ FS S (k + 1)) := fs_step H16.out hT HBB.out
                    clear HBB hy hyk
                    rcases hT with hK | hK
                    · have hKi : (((S.K k : Nat) : Int) == 2) = false := by simp; omega
                      have hKj : ¬ ((S.K k : Nat) : Int) = 2 := by omega
                      go_wp2
                      go_loopw [25, 26] (fun s25 s26 wr => ∃ (z mz : Nat), z ≤ k ∧ s26 = .int .i64 ((z : Int) - 1) ∧ s25 = .int .i64 (-1) ∧ wr = w5.drewN mz ∧ ∀ q, z ≤ q → q < k → S.K q = 2 → S.I q = S.I k → st S q ((k : Int) + 1) = 2) (fun _ s26 _ => (intOf s26 + 1).toNat)
                      case atStart => exact ⟨k, _, by omega, by go_num, rfl, rfl, fun q h1 h2 => by omega⟩
                      case round => as_aux_lemma =>
                        obtain ⟨z1, mz, hz1, rfl, rfl, hw, hno⟩ := hrel
                        subst hw
                        by_cases hz0 : z1 = 0
                        · subst hz0
                          have hAC := src_none (S := S) (k := k) (fun q hq => hq.2.2.2.1 (hno q (by omega) hq.1 hq.2.1 hq.2.2.1))
                          have HAC : Hid (AA S k ∧ CC S k) := hAC
                          clear hAC hno
                          go_wp2
                          go_quiet (fail)
                          go_wp2
                          go_roundw
                          case rel => exact ⟨k + 1, _, b14, b15, b, b17, by omega, by go_num, rfl, rfl, rfl, rfl, rfl, fc_same H14.out (fun _ => HAC.out.2), fa_same H15.out (fun _ => HAC.out.1), HFS1.out, fr_same H17.out (by omega)⟩
                          case measure => first | (simp [intOf]; omega) | simp [intOf]
                        · obtain ⟨z, rfl⟩ : ∃ z, z1 = z + 1 := ⟨z1 - 1, by omega⟩
                          have HNO : Hid (∀ q, z + 1 ≤ q → q < k → S.K q = 2 → S.I q = S.I k → st S q ((k : Int) + 1) = 2) := hno
                          have ez : (((z + 1 : Nat) : Int) - 1) = (z : Int) := by omega
                          rw [ez]
                          clear hno ez hz0
                          have hzl : z < lk.length := by omega
                          have kz := CK.out z hzl
                          have xz := CX.out z hzl
                          have xk := CX.out k hlt
                          have iz := CI.out z hzl
                          have ik := CI.out k hlt
                          have i0 : (0:Int) ≤ (z : Int) := by omega
                          have i1 : (z:Int) < ((lk.length : Nat) : Int) := by omega
                          have i2 : (0:Int) ≤ (k : Int) := by omega
                          have i3 : (k:Int) < ((lk.length : Nat) : Int) := by omega
                          have HSK : Hid ((S.K z = 2 → S.I z = S.I k → st S z ((k : Int) + 1) = 2) → ∀ q, z ≤ q → q < k → S.K q = 2 → S.I q = S.I k → st S q ((k : Int) + 1) = 2) := fun h q h1 h2 h3 h4 => by
                            by_cases e : q = z
                            · subst e; exact h h3 h4
                            · exact HNO.out q (by omega) h2 h3 h4
                          by_cases hK2 : S.K z = 2
                          · rw [hK2] at kz
                            by_cases hI : S.I z = S.I k
                            · rw [hI] at iz
                              have oz : ∀ v, (w5.drewN v).cell? ⟨ob, z, none⟩ = some (.int .i64 (O z : Nat)) := fun v => by simpa using CO.out z hzl
                              have hz' : ∀ v, (w5.drewN v).cell? ⟨hb, O z, none⟩ = some (.int .u8 (S.H z : Nat)) := fun v => by simpa using CH.out z hzl
                              have az' : ∀ v, (w5.drewN v).cell? ⟨ab, O z, none⟩ = some (.int .i64 (S.A z)) := fun v => by simpa using CA.out z hzl
                              have hOz := HO.out z hzl
                              by_cases hab : S.H z = 2 ∧ S.A z < (k : Int) + 1
                              · obtain ⟨hab1, hab2⟩ := hab
                                have HAB : Hid (st S z ((k : Int) + 1) = 2) := st_2.2 ⟨hab1, hab2⟩
                                rw [hab1] at hz'
                                go_wp2
                                go_quiet (fail)
                                go_wp2
                                go_roundw
                                case rel => exact ⟨z, _, by omega, by go_num, rfl, rfl, HSK.out (fun _ _ => HAB.out)⟩
                                case measure => first | (simp [intOf]; omega) | simp [intOf]
                              · have HSRC : Hid (Src S k z) := ⟨by omega, hK2, hI, fun h => hab (st_2.1 h), fun q h1 h2 h3 h4 => HNO.out q (by omega) h2 h3 h4⟩
                                have hzb := CH.out z hzl
                                have azb := CA.out z hzl
                                have hk0 := CH.out k hlt
                                have ak0 := CA.out k hlt
                                have j0 : (0:Int) ≤ (O z : Nat) := by omega
                                have j1 : ((O z : Nat) : Int) < (m : Int) := by omega
                                have hOk := HO.out k hlt
                                have j2 : (0:Int) ≤ (O k : Nat) := by omega
                                have j3 : ((O k : Nat) : Int) < (m : Int) := by omega
                                have HK1 : Hid (S.K k = 1) := hK
                                clear hK hKi hKj
                                by_cases hH2 : S.H z = 2
                                · have hA2 : ¬ S.A z < (k : Int) + 1 := fun h => hab ⟨hH2, h⟩
                                  have hH1 : ¬ S.H z = 1 := by omega
                                  rw [hH2] at hz' hzb
                                  clear hab
                                  by_cases hX : S.X z = S.X k
                                  · as_aux_lemma =>
                                    rw [hX] at xz
                                    have hAC := src_same HSRC.out hX
                                    have HC : Hid (b14 = true ↔ FC S (k + 1)) := fc_same H14.out (fun _ => hAC.2)
                                    have HA : Hid (b15 = true ↔ FA S (k + 1)) := fa_same H15.out (fun _ => hAC.1)
                                    clear hAC
                                    go_wp2
                                    go_quiet (fail)
                                    go_wp2
                                    go_quiet (fail)
                                    go_wp2
                                    go_roundw
                                    case rel => exact ⟨k + 1, _, b14, b15, b, b17, by omega, by go_num, rfl, rfl, rfl, rfl, rfl, HC.out, HA.out, HFS1.out, fr_same H17.out (by have := HK1.out; omega)⟩
                                    case measure => first | (simp [intOf]; omega) | simp [intOf]
                                  · as_aux_lemma =>
                                    have hXb : (S.X z == S.X k) = false := by simp [hX]
                                    have HA : Hid (false = true ↔ FA S (k + 1)) := by
                                      show _ ↔ _
                                      have h := fa_step H15.out HK1.out HSRC.out hX false (by simp [hH1])
                                      simpa using h
                                    by_cases hHk : S.H k = 1
                                    · rw [hHk] at hk0
                                      have HC : Hid (false = true ↔ FC S (k + 1)) := by
                                        show _ ↔ _
                                        have h := fc_step H14.out HK1.out HSRC.out hX false (by simp [hHk, hH1])
                                        simpa using h
                                      go_wp2
                                      go_quiet (fail)
                                      go_wp2
                                      go_quiet (fail)
                                      go_wp2
                                      go_quiet (fail)
                                      go_wp2
                                      go_roundw
                                      case rel => exact ⟨k + 1, _, false, false, b, b17, by omega, by go_num, rfl, rfl, rfl, rfl, rfl, HC.out, HA.out, HFS1.out, fr_same H17.out (by have := HK1.out; omega)⟩
                                      case measure => first | (simp [intOf]; omega) | simp [intOf]
                                    · have hHkb : (((S.H k : Nat) : Int) == 1) = false := by simp; omega
                                      have hHkn : ¬ ((S.H k : Nat) : Int) = 1 := by omega
                                      have HC : Hid (b14 = true ↔ FC S (k + 1)) := by
                                        show _ ↔ _
                                        have h := fc_step H14.out HK1.out HSRC.out hX true (by simp [hHk])
                                        simpa using h
                                      go_wp2
                                      go_quiet (fail)
                                      go_wp2
                                      go_quiet (fail)
                                      go_wp2
                                      go_quiet (fail)
                                      go_wp2
                                      go_roundw
                                      case rel => exact ⟨k + 1, _, b14, false, b, b17, by omega, by go_num, rfl, rfl, rfl, rfl, rfl, HC.out, HA.out, HFS1.out, fr_same H17.out (by have := HK1.out; omega)⟩
                                      case measure => first | (simp [intOf]; omega) | simp [intOf]
                                · have hH2b : (((S.H z : Nat) : Int) == 2) = false := by simp; omega
                                  have hH2n : ¬ ((S.H z : Nat) : Int) = 2 := by omega
                                  clear hab
                                  by_cases hX : S.X z = S.X k
                                  · as_aux_lemma =>
                                    rw [hX] at xz
                                    have hAC := src_same HSRC.out hX
                                    have HC : Hid (b14 = true ↔ FC S (k + 1)) := fc_same H14.out (fun _ => hAC.2)
                                    have HA : Hid (b15 = true ↔ FA S (k + 1)) := fa_same H15.out (fun _ => hAC.1)
                                    clear hAC
                                    go_wp2
                                    go_quiet (fail)
                                    go_wp2
                                    go_quiet (fail)
                                    go_wp2
                                    go_roundw
                                    case rel => exact ⟨k + 1, _, b14, b15, b, b17, by omega, by go_num, rfl, rfl, rfl, rfl, rfl, HC.out, HA.out, HFS1.out, fr_same H17.out (by have := HK1.out; omega)⟩
                                    case measure => first | (simp [intOf]; omega) | simp [intOf]
                                  · have hXb : (S.X z == S.X k) = false := by simp [hX]
                                    by_cases hH1 : S.H z = 1
                                    · rw [hH1] at hz' hzb
                                      clear hH2b hH2n
                                      by_cases hA1 : S.A z < (k : Int) + 1
                                      · as_aux_lemma =>
                                        have hA1b : decide (S.A z < (k : Int) + 1) = true := by simp [hA1]
                                        have HA : Hid (b15 = true ↔ FA S (k + 1)) := by
                                          show _ ↔ _
                                          have h := fa_step H15.out HK1.out HSRC.out hX true (by simp [hH1, hA1])
                                          simpa using h
                                        by_cases hHk : S.H k = 1
                                        · rw [hHk] at hk0
                                          by_cases hAk : S.A z < S.A k
                                          · have HC : Hid (b14 = true ↔ FC S (k + 1)) := by
                                              show _ ↔ _
                                              have h := fc_step H14.out HK1.out HSRC.out hX true (by simp [hH1, hAk])
                                              simpa using h
                                            have hAkb : decide (S.A z < S.A k) = true := by simp [hAk]
                                            go_wp2
                                            go_quiet (fail)
                                            go_wp2
                                            go_quiet (fail)
                                            go_wp2
                                            go_quiet (fail)
                                            go_wp2
                                            go_roundw
                                            case rel => exact ⟨k + 1, _, b14, b15, b, b17, by omega, by go_num, rfl, rfl, rfl, rfl, rfl, HC.out, HA.out, HFS1.out, fr_same H17.out (by have := HK1.out; omega)⟩
                                            case measure => first | (simp [intOf]; omega) | simp [intOf]
                                          · have HC : Hid (false = true ↔ FC S (k + 1)) := by
                                              show _ ↔ _
                                              have h := fc_step H14.out HK1.out HSRC.out hX false (by simp [hHk, hAk])
                                              simpa using h
                                            have hAkb : decide (S.A z < S.A k) = false := by simp [hAk]
                                            go_wp2
                                            go_quiet (fail)
                                            go_wp2
                                            go_quiet (fail)
                                            go_wp2
                                            go_quiet (fail)
                                            go_wp2
                                            go_roundw
                                            case rel => exact ⟨k + 1, _, false, b15, b, b17, by omega, by go_num, rfl, rfl, rfl, rfl, rfl, HC.out, HA.out, HFS1.out, fr_same H17.out (by have := HK1.out; omega)⟩
                                            case measure => first | (simp [intOf]; omega) | simp [intOf]
                                        · have hHkb : (((S.H k : Nat) : Int) == 1) = false := by simp; omega
                                          have hHkn : ¬ ((S.H k : Nat) : Int) = 1 := by omega
                                          have HC : Hid (b14 = true ↔ FC S (k + 1)) := by
                                            show _ ↔ _
                                            have h := fc_step H14.out HK1.out HSRC.out hX true (by simp [hHk])
                                            simpa using h
                                          go_wp2
                                          go_quiet (fail)
                                          go_wp2
                                          go_quiet (fail)
                                          go_wp2
                                          go_quiet (fail)
                                          go_wp2
                                          go_roundw
                                          case rel => exact ⟨k + 1, _, b14, b15, b, b17, by omega, by go_num, rfl, rfl, rfl, rfl, rfl, HC.out, HA.out, HFS1.out, fr_same H17.out (by have := HK1.out; omega)⟩
                                          case measure => first | (simp [intOf]; omega) | simp [intOf]
                                      · as_aux_lemma =>
                                        have hA1b : decide (S.A z < (k : Int) + 1) = false := by simp [hA1]
                                        have HA : Hid (false = true ↔ FA S (k + 1)) := by
                                          show _ ↔ _
                                          have h := fa_step H15.out HK1.out HSRC.out hX false (by simp [hH1, hA1])
                                          simpa using h
                                        by_cases hHk : S.H k = 1
                                        · rw [hHk] at hk0
                                          by_cases hAk : S.A z < S.A k
                                          · have HC : Hid (b14 = true ↔ FC S (k + 1)) := by
                                              show _ ↔ _
                                              have h := fc_step H14.out HK1.out HSRC.out hX true (by simp [hH1, hAk])
                                              simpa using h
                                            have hAkb : decide (S.A z < S.A k) = true := by simp [hAk]
                                            go_wp2
                                            go_quiet (fail)
                                            go_wp2
                                            go_quiet (fail)
                                            go_wp2
                                            go_quiet (fail)
                                            go_wp2
                                            go_roundw
                                            case rel => exact ⟨k + 1, _, b14, false, b, b17, by omega, by go_num, rfl, rfl, rfl, rfl, rfl, HC.out, HA.out, HFS1.out, fr_same H17.out (by have := HK1.out; omega)⟩
                                            case measure => first | (simp [intOf]; omega) | simp [intOf]
                                          · have HC : Hid (false = true ↔ FC S (k + 1)) := by
                                              show _ ↔ _
                                              have h := fc_step H14.out HK1.out HSRC.out hX false (by simp [hHk, hAk])
                                              simpa using h
                                            have hAkb : decide (S.A z < S.A k) = false := by simp [hAk]
                                            go_wp2
                                            go_quiet (fail)
                                            go_wp2
                                            go_quiet (fail)
                                            go_wp2
                                            go_quiet (fail)
                                            go_wp2
                                            go_roundw
                                            case rel => exact ⟨k + 1, _, false, false, b, b17, by omega, by go_num, rfl, rfl, rfl, rfl, rfl, HC.out, HA.out, HFS1.out, fr_same H17.out (by have := HK1.out; omega)⟩
                                            case measure => first | (simp [intOf]; omega) | simp [intOf]
                                        · have hHkb : (((S.H k : Nat) : Int) == 1) = false := by simp; omega
                                          have hHkn : ¬ ((S.H k : Nat) : Int) = 1 := by omega
                                          have HC : Hid (b14 = true ↔ FC S (k + 1)) := by
                                            show _ ↔ _
                                            have h := fc_step H14.out HK1.out HSRC.out hX true (by simp [hHk])
                                            simpa using h
                                          go_wp2
                                          go_quiet (fail)
                                          go_wp2
                                          go_quiet (fail)
                                          go_wp2
                                          go_quiet (fail)
                                          go_wp2
                                          go_roundw
                                          case rel => exact ⟨k + 1, _, b14, false, b, b17, by omega, by go_num, rfl, rfl, rfl, rfl, rfl, HC.out, HA.out, HFS1.out, fr_same H17.out (by have := HK1.out; omega)⟩
                                          case measure => first | (simp [intOf]; omega) | simp [intOf]
                                    · as_aux_lemma =>
                                      have hH1b : (((S.H z : Nat) : Int) == 1) = false := by simp; omega
                                      have hH1n : ¬ ((S.H z : Nat) : Int) = 1 := by omega
                                      have HA : Hid (false = true ↔ FA S (k + 1)) := by
                                        show _ ↔ _
                                        have h := fa_step H15.out HK1.out HSRC.out hX false (by simp [hH1])
                                        simpa using h
                                      by_cases hHk : S.H k = 1
                                      · rw [hHk] at hk0
                                        have HC : Hid (false = true ↔ FC S (k + 1)) := by
                                          show _ ↔ _
                                          have h := fc_step H14.out HK1.out HSRC.out hX false (by simp [hHk, hH1])
                                          simpa using h
                                        go_wp2
                                        go_quiet (fail)
                                        go_wp2
                                        go_quiet (fail)
                                        go_wp2
                                        go_quiet (fail)
                                        go_wp2
                                        go_roundw
                                        case rel => exact ⟨k + 1, _, false, false, b, b17, by omega, by go_num, rfl, rfl, rfl, rfl, rfl, HC.out, HA.out, HFS1.out, fr_same H17.out (by have := HK1.out; omega)⟩
                                        case measure => first | (simp [intOf]; omega) | simp [intOf]
                                      · have hHkb : (((S.H k : Nat) : Int) == 1) = false := by simp; omega
                                        have hHkn : ¬ ((S.H k : Nat) : Int) = 1 := by omega
                                        have HC : Hid (b14 = true ↔ FC S (k + 1)) := by
                                          show _ ↔ _
                                          have h := fc_step H14.out HK1.out HSRC.out hX true (by simp [hHk])
                                          simpa using h
                                        go_wp2
                                        go_quiet (fail)
                                        go_wp2
                                        go_quiet (fail)
                                        go_wp2
                                        go_quiet (fail)
                                        go_wp2
                                        go_roundw
                                        case rel => exact ⟨k + 1, _, b14, false, b, b17, by omega, by go_num, rfl, rfl, rfl, rfl, rfl, HC.out, HA.out, HFS1.out, fr_same H17.out (by have := HK1.out; omega)⟩
                                        case measure => first | (simp [intOf]; omega) | simp [intOf]
                            · have hIb := toList_ne hI
                              go_wp2
                              go_quiet (fail)
                              go_wp2
                              go_roundw
                              case rel => exact ⟨z, _, by omega, by go_num, rfl, rfl, HSK.out (fun _ h => absurd h hI)⟩
                              case measure => first | (simp [intOf]; omega) | simp [intOf]
                          · have hKb : (((S.K z : Nat) : Int) != 2) = true := by simp; omega
                            have hKn : ¬ ((S.K z : Nat) : Int) = 2 := by omega
                            go_wp2
                            go_quiet (fail)
                            go_wp2
                            go_roundw
                            case rel => exact ⟨z, _, by omega, by go_num, rfl, rfl, HSK.out (fun h => absurd h hK2)⟩
                            case measure => first | (simp [intOf]; omega) | simp [intOf]
                    · have hKi : (((S.K k : Nat) : Int) == 2) = true := by simp; omega
                      have HK : Hid (S.K k = 2) := hK
                      clear hK
                      go_wp2
                      clear hKi
                      go_loopw [17, 24] (fun sf sy wr => ∃ (y my : Nat) (b : Bool), y ≤ k ∧ sy = .int .i64 (y : Nat) ∧ sf = .bool b ∧ wr = w5.drewN my ∧ (b = true ↔ b17 = true ∧ ∀ q, q < y → S.K q = 1 → S.X q ≠ S.X k → S.I q = S.I k → st S q ((k : Int) + 1) ≠ 0)) (fun _ sy _ => k - (intOf sy).toNat)
                      case atStart => exact ⟨0, _, b17, by omega, rfl, rfl, rfl, by simp⟩
                      case round =>
                        obtain ⟨y, my, b3, hy, rfl, rfl, hw, hb⟩ := hrel
                        subst hw
                        have HB3 : Hid (b3 = true ↔ b17 = true ∧ ∀ q, q < y → S.K q = 1 → S.X q ≠ S.X k → S.I q = S.I k → st S q ((k : Int) + 1) ≠ 0) := hb
                        clear hb
                        by_cases hyk : y < k
                        · as_aux_lemma =>
                          have hyl : y < lk.length := by omega
                          have ky := CK.out y hyl
                          have xy := CX.out y hyl
                          have xk := CX.out k hlt
                          have iy := CI.out y hyl
                          have ik := CI.out k hlt
                          have oy : ∀ v, (w5.drewN v).cell? ⟨ob, y, none⟩ = some (.int .i64 (O y : Nat)) := fun v => by simpa using CO.out y hyl
                          have i0 : (0:Int) ≤ (y : Int) := by omega
                          have i1 : (y:Int) < ((lk.length : Nat) : Int) := by omega
                          have i2 : (0:Int) ≤ (k : Int) := by omega
                          have i3 : (k:Int) < ((lk.length : Nat) : Int) := by omega
                          have HSK : Hid ((¬ (S.K y = 1 ∧ S.X y ≠ S.X k ∧ S.I y = S.I k)) → (b3 = true ↔ b17 = true ∧ ∀ q, q < y + 1 → S.K q = 1 → S.X q ≠ S.X k → S.I q = S.I k → st S q ((k : Int) + 1) ≠ 0)) := fun hno => by
                            rw [HB3.out]
                            refine and_congr_right fun _ => ⟨fun h q hq a1 a2 a3 => ?_, fun h q hq => h q (by omega)⟩
                            by_cases e : q = y
                            · subst e; exact absurd ⟨a1, a2, a3⟩ hno
                            · exact h q (by omega) a1 a2 a3
                          by_cases hK2 : S.K y = 1
                          · rw [hK2] at ky
                            by_cases hX : S.X y = S.X k
                            · rw [hX] at xy
                              go_wp2
                              go_quiet (fail)
                              go_wp2
                              go_roundw
                              case rel => exact ⟨y + 1, _, b3, by omega, by go_num, rfl, rfl, HSK.out (fun h => h.2.1 hX)⟩
                              case measure => first | (simp [intOf]; omega) | simp [intOf]
                            · have hXb : (S.X y == S.X k) = false := by simp [hX]
                              by_cases hI : S.I y = S.I k
                              · rw [hI] at iy
                                go_wp2
                                go_quiet (fail)
                                clear ky xy xk iy ik
                                go_wp2_with fail
                                refine (ended30e ab m EA (O y) ((k : Int) + 1) _ (HO.out y hyl) (EA5.out.drewN _)).mono ?_
                                rintro e w6 ⟨rfl, m6, hw6⟩
                                subst w6
                                rw [CE.out y hyl]
                                have hest := ended_st HW.out hyl ((k : Int) + 1)
                                cases hen : ended (S.A y) ((k : Int) + 1) with
                                | true =>
                                  rw [hen] at hest
                                  have HST : Hid (st S y ((k : Int) + 1) ≠ 0) := hest.1 rfl
                                  clear hest
                                  go_wp2
                                  go_roundw
                                  case rel => exact ⟨y + 1, _, b3, by omega, by go_num, rfl, rfl, by
                                    rw [HB3.out]
                                    refine and_congr_right fun _ => ⟨fun h q hq a1 a2 a3 => ?_, fun h q hq => h q (by omega)⟩
                                    by_cases e : q = y
                                    · subst e; exact HST.out
                                    · exact h q (by omega) a1 a2 a3⟩
                                  case measure => first | (simp [intOf]; omega) | simp [intOf]
                                | false =>
                                  rw [hen] at hest
                                  have HST : Hid (¬ st S y ((k : Int) + 1) ≠ 0) := fun h => by have := hest.2 h; cases this
                                  clear hest
                                  go_wp2
                                  go_roundw
                                  case rel => exact ⟨y + 1, _, false, by omega, by go_num, rfl, rfl, by
                                    constructor
                                    · intro h; cases h
                                    · intro h; exact absurd (h.2 y (by omega) hK2 hX hI) HST.out⟩
                                  case measure => first | (simp [intOf]; omega) | simp [intOf]
                              · have hIb := toList_ne hI
                                go_wp2
                                go_quiet (fail)
                                go_wp2
                                go_roundw
                                case rel => exact ⟨y + 1, _, b3, by omega, by go_num, rfl, rfl, HSK.out (fun h => hI h.2.2)⟩
                                case measure => first | (simp [intOf]; omega) | simp [intOf]
                          · have hKb : (((S.K y : Nat) : Int) != 1) = true := by simp; omega
                            have hKn : ¬ ((S.K y : Nat) : Int) = 1 := by omega
                            go_wp2
                            go_quiet (fail)
                            go_wp2
                            go_roundw
                            case rel => exact ⟨y + 1, _, b3, by omega, by go_num, rfl, rfl, HSK.out (fun h => hK2 h.1)⟩
                            case measure => first | (simp [intOf]; omega) | simp [intOf]
                        · have hye : k = y := by omega
                          subst hye
                          have HFR1 : Hid (b3 = true ↔ FR S (k + 1)) := fr_step H17.out HK.out HB3.out
                          clear HB3 hy hyk
                          go_wp2
                          go_roundw
                          case rel => exact ⟨k + 1, _, b14, b15, b, b3, by omega, by go_num, rfl, rfl, rfl, rfl, rfl, fc_same H14.out (fun e => by have := HK.out; omega), fa_same H15.out (fun e => by have := HK.out; omega), HFS1.out, HFR1.out⟩
                          case measure => first | (simp [intOf]; omega) | simp [intOf]
            · have n1 : (((S.K k : Nat) : Int) != 1) = true := by simp; omega
              have n2 : (((S.K k : Nat) : Int) != 2) = true := by simp; omega
              have n1' : ¬ ((S.K k : Nat) : Int) = 1 := by omega
              have n2' : ¬ ((S.K k : Nat) : Int) = 2 := by omega
              go_wp2
              go_roundw
              case rel => exact ⟨k + 1, _, b14, b15, b16, b17, by omega, by go_num, rfl, rfl, rfl, rfl, rfl, by rw [H14.out, FC.succ]; exact ⟨fun x => ⟨x, fun e => absurd (.inl e) hT⟩, fun x => x.1⟩, by rw [H15.out, FA.succ]; exact ⟨fun x => ⟨x, fun e => absurd (.inl e) hT⟩, fun x => x.1⟩, by rw [H16.out, FS.succ]; exact ⟨fun x => ⟨x, fun e => absurd e hT⟩, fun x => x.1⟩, by rw [H17.out, FR.succ]; exact ⟨fun x => ⟨x, fun e => absurd (.inr e) hT⟩, fun x => x.1⟩⟩
              case measure => simp [intOf]; omega
          · have : k = lk.length := by omega
            subst this
            obtain ⟨e1, e2, e3, e4⟩ := meet4 HQ.out.1 HQ.out.2.1 HQ.out.2.2.1 HQ.out.2.2.2 H14.out H15.out H16.out H17.out
            subst e1 e2 e3 e4
            go_wp2
            all_goals (go_ret; exact ⟨rfl, Below.drewN' HB.out _⟩)
    · go_wp2
      all_goals first
        | (go_ret; exact ⟨rfl, Below.refl _ _⟩)
        | (exfalso; omega)
end Go.Proofs.Qxb6000570a
