/-
  WALK: recTable (25).
-/
import Derived.Test.Qxb6000570aE2
import Derived.Test.Qxb6000570aD5
namespace Go.Proofs.Qxb6000570a
open Go.RowKit
set_option linter.unusedVariables false
set_option linter.unusedSimpArgs false

def u8F (f : Nat → Nat) : Nat → Nat → Value := fun i _ => .int .u8 (f i : Nat)
theorem els_madeU (w : World) (n : Nat) : Els (w.alloc (.cells (mkU n) 5)) w.heap.size n 1 (u8F fun _ => 0) :=
  (els_made w n 1 #[.int .u8 0] rfl (by omega) 5).congr fun i hi j hj => by
    obtain rfl : j = 0 := by omega
    simp [u8F]
/-- Op x's transaction stands at place O x of the list, and nowhere ahead of it. -/
def First (L : List Int) (t : Nat) (x : Int) : Prop := L[t]? = some x ∧ ∀ s, s < t → L[s]? ≠ some x
theorem First.uniq {L : List Int} {t t' : Nat} {x : Int} (h : First L t x) (h' : First L t' x) : t = t' := by
  rcases Nat.lt_trichotomy t t' with e | e | e
  · exact absurd h.1 (h'.2 t e)
  · exact e
  · exact absurd h'.1 (h.2 t' e)
theorem First.snoc {L : List Int} {t : Nat} {x y : Int} (h : First L t x) : First (L ++ [y]) t x := by
  have ht : t < L.length := by
    by_cases e : t < L.length
    · exact e
    · have := h.1; rw [List.getElem?_eq_none (by omega)] at this; cases this
  refine ⟨by rw [List.getElem?_append_left ht]; exact h.1, fun s hs => ?_⟩
  rw [List.getElem?_append_left (by omega)]
  exact h.2 s hs
theorem first_new {L : List Int} {x : Int} (h : ∀ s, s < L.length → L[s]? ≠ some x) : First (L ++ [x]) L.length x :=
  ⟨by simp, fun s hs => by rw [List.getElem?_append_left hs]; exact h s hs⟩

def P25 (n : Nat) (X : Nat → Int) (w : World) (e : Ending) (w' : World) : Prop :=
  ∃ (m hb ab ob : Nat) (EH : Nat → Nat) (EA : Nat → Int) (O : Nat → Nat), e = .returned (.tuple #[.slice (some ⟨hb, 0, none⟩) m m, .slice (some ⟨ab, 0, none⟩) m m, .slice (some ⟨ob, 0, none⟩) n n]) ∧
    Els w' hb m 1 (u8F EH) ∧ Els w' ab m 1 (intF EA) ∧ Els w' ob n 1 (natF O) ∧ m ≤ 4096 ∧ (∀ i, i < n → O i < m) ∧ (∀ i j, i < n → j < n → X i = X j → O i = O j) ∧ (∀ t, t < m → (EH t = 0 ↔ EA t = 0)) ∧ Below w.heap.size w w'
structure T1 (w wr : World) (n k : Nat) (X : Nat → Int) (v : Value) (L : List Int) (g : Option Nat) (O : Nat → Nat) : Prop where
  ids : SlI wr v L g
  gb : ∀ b, g = some b → w.heap.size ≤ b ∧ b ≠ w.heap.size + 1
  of : Els wr (w.heap.size + 1) n 1 (natF O)
  len : L.length ≤ k
  fst : ∀ x, x < k → First L (O x) (X x)
  bel : Below w.heap.size w wr
theorem t1_start (w : World) (n : Nat) (X : Nat → Int) (hn : n ≤ 4096) : T1 w ((w.alloc (.cells (mkI n) 3)).alloc (.cells (mkI n) 3)) n 0 X (.slice (some ⟨w.heap.size, 0, none⟩) 0 n) [] (some w.heap.size) (fun _ => 0) where
  ids := .inr ⟨_, n, _, rfl, rfl, by simp, by unfold maxLen; omega, (els_madeI w n).alloc _, fun i hi => by simp at hi⟩
  gb := fun b e => by injection e with e; omega
  of := by have := els_madeI (w.alloc (.cells (mkI n) 3)) n; rw [size_alloc'] at this; exact this
  len := by simp
  fst := fun x hx => by omega
  bel := ((Below.refl _ _).alloc (Nat.le_refl _) _).alloc (by simp) _
theorem T1.drewN {w wr : World} {n k : Nat} {X : Nat → Int} {v : Value} {L : List Int} {g : Option Nat} {O : Nat → Nat} (h : T1 w wr n k X v L g O) (m : Nat) : T1 w (wr.drewN m) n k X v L g O :=
  { h with
    ids := h.ids.keep fun _ _ => rfl
    of := h.of.drewN m
    bel := Below.drewN' h.bel m }
theorem T1.put {w wr : World} {n k : Nat} {X : Nat → Int} {v : Value} {L : List Int} {g : Option Nat} {O : Nat → Nat} (h : T1 w wr n k X v L g O) (hk : k < n) {t : Nat} (ht : First L t (X k)) : T1 w (wr.setCell ⟨w.heap.size + 1, k, none⟩ (.int .i64 (t : Nat))) n (k + 1) X v L g (upd O k t) where
  ids := h.ids.keep fun b e => Below.heap_setCell _ _ _ _ (by have := (h.gb b e).2; simpa using this)
  gb := h.gb
  of := h.of.set1' hk _ (natF_upd _ _ _) (natF_upd_o _ _ _)
  len := by have := h.len; omega
  fst := fun x hx => by
    by_cases e : x = k
    · subst e; rw [upd_same]; exact ht
    · rw [upd_other _ _ e]; exact h.fst x (by omega)
  bel := h.bel.setCell (by simp) _
theorem T1.push {w wr W0 w2 : World} {n k : Nat} {X : Nat → Int} {v v' : Value} {L : List Int} {g g' : Option Nat} {O : Nat → Nat} (h : T1 w wr n k X v L g O) (hb : Below wr.heap.size wr W0) (h1 : SlI w2 v' (L ++ [X k]) g') (h2 : W0.grownBy w2 g) (h3 : g' = g ∨ g' = some W0.heap.size) (hk : k < n) (hno : ∀ s, s < L.length → L[s]? ≠ some (X k)) :
    T1 w (w2.setCell ⟨w.heap.size + 1, k, none⟩ (.int .i64 (L.length : Nat))) n (k + 1) X v' (L ++ [X k]) g' (upd O k L.length) := by
  have hsz : wr.heap.size ≤ W0.heap.size := hb.size
  have hlo := h.of.lt
  have gb' : ∀ b, g' = some b → w.heap.size ≤ b ∧ b ≠ w.heap.size + 1 := fun b e => by
    rcases h3 with e3 | e3
    · exact h.gb b (by rw [← e3, e])
    · rw [e3] at e; injection e with e; omega
  have hof : Els w2 (w.heap.size + 1) n 1 (natF O) := h.of.of_block ((h2.block _ (by omega) (fun e => (h.gb _ e.symm).2 rfl)).trans (hb.block _ hlo))
  refine ⟨h1.keep fun b e => Below.heap_setCell _ _ _ _ (by have := (gb' b e).2; simpa using this), gb', hof.set1' hk _ (natF_upd _ _ _) (natF_upd_o _ _ _), by have := h.len; simp; omega, fun x hx => ?_, ?_⟩
  · by_cases e : x = k
    · subst e; rw [upd_same]; exact first_new hno
    · rw [upd_other _ _ e]; exact (h.fst x (by omega)).snoc
  · refine Below.setCell ((h.bel.trans (hb.mono h.bel.size)).grown h2 (by have := h.bel.size; omega) (fun b e => (h.gb b e).1)) (by simp) _
structure T3 (w wr : World) (n m hb : Nat) (O EH : Nat → Nat) (EA : Nat → Int) : Prop where
  how : Els wr hb m 1 (u8F EH)
  at_ : Els wr (hb + 1) m 1 (intF EA)
  of : Els wr (w.heap.size + 1) n 1 (natF O)
  iff : ∀ t, t < m → (EH t = 0 ↔ EA t = 0)
  bel : Below w.heap.size w wr
  lt : w.heap.size + 1 < hb
theorem T3.set {w wr : World} {n m hb t : Nat} {O EH : Nat → Nat} {EA : Nat → Int} (h : T3 w wr n m hb O EH EA) (ht : t < m) (x : Nat) (y : Int) (hx : x ≠ 0) (hy : y ≠ 0) : T3 w ((wr.setCell ⟨hb, t, none⟩ (.int .u8 (x : Nat))).setCell ⟨hb + 1, t, none⟩ (.int .i64 y)) n m hb O (upd EH t x) (upd EA t y) where
  how := (h.how.set1' (g' := u8F (upd EH t x)) ht _ (by simp [u8F, upd_same]) (fun i hi => by simp only [u8F]; rw [upd_other _ _ hi])).other (by simp) _
  at_ := (h.at_.other (by simp) _).set1' ht _ (by simp [intF, upd_same]) (fun i hi => by simp only [intF]; rw [upd_other _ _ hi])
  of := (h.of.other (by have := h.lt; simp; omega) _).other (by have := h.lt; simp; omega) _
  iff := fun s hs => by
    by_cases e : s = t
    · subst e; rw [upd_same, upd_same]; exact ⟨fun h => absurd h hx, fun h => absurd h hy⟩
    · rw [upd_other _ _ e, upd_other _ _ e]; exact h.iff s hs
  bel := (h.bel.setCell (by have := h.lt; simp; omega) _).setCell (by have := h.lt; simp; omega) _
  lt := h.lt

set_option maxRecDepth 20000 in
set_option maxHeartbeats 2000000 in
theorem table25 (ka : Option Addr) (kc : Nat) (lk : List Nat) (xa : Option Addr) (xc : Nat) (lx : List Int) (w : World) (hn : lk.length ≤ 4096) (hl : lx.length = lk.length) (hk : RowU w ka lk) (hx : RowZ w xa lx) :
    Calls Try.prog 25 #[.slice ka lk.length kc, .slice xa lk.length xc] w (P25 lk.length (fun i => lx.getD i 0) w) := by
  have HK : Hid (RowU w ka lk) := hk
  have HX : Hid (RowZ w xa lx) := hx
  have HLX : Hid (lx.length = lk.length) := hl
  clear hk hx hl
  have hmq := makeQ lk.length (by omega)
  have hmk := makeI lk.length (by omega)
  go_enter Try.func25, Try.ntmps25
  go_wp2
  clear hmq hmk
  go_loopw [8, 10] (fun ids i wr => ∃ (k : Nat) (L : List Int) (g : Option Nat) (O : Nat → Nat) (ao : Option Addr) (cap : Nat), k ≤ lk.length ∧ i = .int .i64 k ∧ ids = .slice ao L.length cap ∧ T1 w wr lk.length k (fun i => lx.getD i 0) (.slice ao L.length cap) L g O) (fun _ i _ => lk.length - (intOf i).toNat)
  case atStart => exact ⟨0, [], _, _, _, _, by omega, rfl, rfl, t1_start w _ _ (by omega)⟩
  case round =>
    obtain ⟨k, L, g, O, ao, cap, hk, rfl, rfl, hT⟩ := hrel
    have HT : Hid (T1 w wr lk.length k (fun i => lx.getD i 0) (.slice ao L.length cap) L g O) := hT
    have hLl : L.length ≤ k := hT.len
    clear hT
    by_cases hlt : k < lk.length
    · obtain ⟨xb, xo, hxa, hxc⟩ := HX.out (by have := HLX.out; omega)
      subst hxa
      obtain ⟨x, hx⟩ : ∃ x : Int, x = lx.getD k 0 := ⟨_, rfl⟩
      have hxc1 : wr.cell? ⟨xb, xo + k, none⟩ = some (.int .i64 x) := by
        have hkl : k < lx.length := by have := HLX.out; omega
        rw [cell_later HT.out.bel (hxc k hkl), hx]
        simp [List.getD, hkl]
      have HXK : Hid (x = (fun i => lx.getD i 0) k) := hx
      clear hxc hx
      have h0 : (0:Int) ≤ (k : Int) := by omega
      have h1 : (k:Int) < ((lk.length : Nat) : Int) := by omega
      go_wp2
      rename World => w3
      go_loopw [11, 12] (fun t j wr => ∃ (jj m : Nat), jj ≤ L.length ∧ j = .int .i64 jj ∧ t = .int .i64 (-1) ∧ wr = w3.drewN m ∧ ∀ s, s < jj → L[s]? ≠ some x) (fun _ j _ => L.length - (intOf j).toNat)
      case atStart => exact ⟨0, 0, by omega, rfl, rfl, rfl, fun s hs => by omega⟩
      case round =>
        obtain ⟨jj, m, hjj, rfl, rfl, hw, hno⟩ := hrel
        subst hw
        have HNO : Hid (∀ s, s < jj → L[s]? ≠ some x) := hno
        clear hno
        by_cases hjl : jj < L.length
        · obtain ⟨ao', cap', hv, _, hcs⟩ := HT.out.ids.val
          injection hv with e1 e2 e3
          subst e1 e3
          obtain ⟨ib, hib, _, _, hic⟩ := hcs jj hjl
          subst hib
          clear hcs e2
          have h2 : (0:Int) ≤ (jj : Int) := by omega
          have h3 : (jj:Int) < ((L.length : Nat) : Int) := by omega
          obtain ⟨y, hy⟩ : ∃ y : Int, y = L[jj] := ⟨_, rfl⟩
          rw [← hy] at hic
          have HY : Hid (L[jj]? = some y) := by show _ = _; rw [hy]; simp
          clear hy
          by_cases hyx : y = x
          · subst hyx
            have HFI : Hid (First L jj ((fun i => lx.getD i 0) k)) := by
              show First L jj (lx.getD k 0)
              have hxk : y = lx.getD k 0 := HXK.out
              rw [← hxk]
              exact ⟨HY.out, HNO.out⟩
            have d1 : w3.cell? ⟨w.heap.size + 1, k, none⟩ = some (.int .i64 (O k : Nat)) := by simpa [natF] using HT.out.of.cell1 hlt
            have f1 := HT.out.of.free
            go_wp2
            go_quiet (fail)
            go_wp2
            go_roundw
            case rel => exact ⟨k + 1, L, g, _, _, cap, by omega, by go_num, rfl, (HT.out.drewN _).put hlt HFI.out⟩
            case measure => simp [intOf]; omega
          · have hyxb : (y == x) = false := by simp [hyx]
            go_wp2
            go_quiet (fail)
            go_wp2
            go_roundw
            case rel => exact ⟨jj + 1, _, by omega, by go_num, rfl, rfl, fun s hs => by
              by_cases e : s = jj
              · subst e; rw [HY.out]; intro e2; injection e2 with e2; exact hyx e2
              · exact HNO.out s (by omega)⟩
            case measure => simp [intOf]; omega
        · have : jj = L.length := by omega
          subst this
          have hxc2 : (w3.drewN m).cell? ⟨xb, xo + k, none⟩ = some (.int .i64 x) := by simpa using hxc1
          have HT2 : Hid (T1 w (w3.drewN m) lk.length k (fun i => lx.getD i 0) (.slice ao L.length cap) L g O) := HT.out.drewN m
          have HCE : Hid (((w3.drewN m).alloc (.cells #[.int .i64 x] 3)).cell? ⟨w3.heap.size, 0, none⟩ = some (.int .i64 x)) := (els_lit (w3.drewN m) #[.int .i64 x] 3).cell1 (i := 0) (by simp)
          have HLN : Hid (L.length + 1 ≤ 1000000) := by show _ ≤ _; omega
          have HKP : Hid (SlI ((w3.drewN m).alloc (.cells #[.int .i64 x] 3)) (.slice ao L.length cap) L g) := HT2.out.ids.keep fun b e => Below.heap_alloc _ _ _ (by have := HT2.out.ids; rw [e] at this; exact this.lt)
          go_wp2_with (at_builtin; refine wpList_push rfl (.tmp 48) (.tmp 53) rfl (.slice ao L.length cap) L g rfl HKP.out w3.heap.size x rfl HCE.out HLN.out ?_)
          intro v2 w2 g2 hv2 hgr2 hg2
          obtain ⟨b2, cap2, hv2e⟩ : ∃ b2 cap2, v2 = .slice (some ⟨b2, 0, none⟩) (L.length + 1) cap2 := by obtain ⟨b2, cap2, e, _⟩ := hv2.pop; exact ⟨b2, cap2, e⟩
          subst hv2e
          have hof : Els w2 (w.heap.size + 1) lk.length 1 (natF O) := HT2.out.of.of_block ((hgr2.block _ (by have := HT2.out.of.lt; simp at this ⊢; omega) (fun e => (HT2.out.gb _ e.symm).2 rfl)).trans (Below.heap_alloc _ _ _ HT2.out.of.lt))
          have d1 : w2.cell? ⟨w.heap.size + 1, k, none⟩ = some (.int .i64 (O k : Nat)) := by simpa [natF] using hof.cell1 hlt
          have f1 := hof.free
          have HT3 : Hid (T1 w (w2.setCell ⟨w.heap.size + 1, k, none⟩ (.int .i64 (L.length : Nat))) lk.length (k + 1) (fun i => lx.getD i 0) (.slice (some ⟨b2, 0, none⟩) (L.length + 1) cap2) (L ++ [(fun i => lx.getD i 0) k]) g2 (upd O k L.length)) :=
            HT2.out.push ((Below.refl _ _).alloc (Nat.le_refl _) (.cells #[.int .i64 x] 3)) (by rw [← HXK.out]; exact hv2) hgr2 (by rw [size_alloc']; exact hg2) hlt (by rw [← HXK.out]; exact HNO.out)
          clear hv2 hgr2 hg2 hof hxc2
          go_wp2
          go_roundw
          case rel => exact ⟨k + 1, L ++ [(fun i => lx.getD i 0) k], g2, _, some ⟨b2, 0, none⟩, cap2, by omega, by go_num, by simp, by simpa using HT3.out⟩
          case measure => simp [intOf]; omega
    · have : k = lk.length := by omega
      subst this
      have hm4 : L.length ≤ 4096 := by omega
      have hmu := makeU L.length (by omega)
      have hmi := makeI L.length (by omega)
      go_wp2
      clear hmu hmi
      rename World => w3
      have HT0 : Hid (T3 w ((w3.alloc (.cells (mkU L.length) 5)).alloc (.cells (mkI L.length) 3)) lk.length L.length w3.heap.size O (fun _ => 0) (fun _ => 0)) := by
        refine ⟨(els_madeU w3 _).alloc _, ?_, (HT.out.of.alloc _).alloc _, fun t ht => by simp, (HT.out.bel.alloc (by have := HT.out.bel.size; omega) _).alloc (by have := HT.out.bel.size; simp; omega) _, HT.out.of.lt⟩
        have := els_madeI (w3.alloc (.cells (mkU L.length) 5)) L.length
        rw [size_alloc'] at this
        exact this.congr fun i hi j hj => by simp [natF, intF]
      go_loopw [15] (fun i wr => ∃ (q : Nat) (EH : Nat → Nat) (EA : Nat → Int), q ≤ lk.length ∧ i = .int .i64 q ∧ T3 w wr lk.length L.length w3.heap.size O EH EA) (fun i _ => lk.length - (intOf i).toNat)
      case atStart => exact ⟨0, _, _, by omega, rfl, HT0.out⟩
      case round =>
        clear HT0
        obtain ⟨q, EH, EA, hq, rfl, hT3⟩ := hrel
        have H3 : Hid (T3 w wr lk.length L.length w3.heap.size O EH EA) := hT3
        clear hT3
        by_cases hlt2 : q < lk.length
        · have hO : O q < L.length := by
            have := (HT.out.fst q hlt2).1
            by_cases e : O q < L.length
            · exact e
            · rw [List.getElem?_eq_none (by omega)] at this; cases this
          obtain ⟨kb, ko, hka, hkc⟩ := HK.out (by omega)
          subst hka
          have d0 : wr.cell? ⟨kb, ko + q, none⟩ = some (.int .u8 ((lk[q] : Nat) : Int)) := cell_later H3.out.bel (hkc q hlt2)
          have d1 : wr.cell? ⟨w.heap.size + 1, q, none⟩ = some (.int .i64 (O q : Nat)) := by simpa [natF] using H3.out.of.cell1 hlt2
          have d2 : wr.cell? ⟨w3.heap.size, O q, none⟩ = some (.int .u8 (EH (O q) : Nat)) := by simpa [u8F] using H3.out.how.cell1 hO
          have d3 : wr.cell? ⟨w3.heap.size + 1, O q, none⟩ = some (.int .i64 (EA (O q))) := by simpa [intF] using H3.out.at_.cell1 hO
          have f2 := H3.out.how.free
          have f3 := H3.out.at_.free
          have hw3 := H3.out.lt
          clear hkc
          by_cases hz : EA (O q) = 0
          · rw [hz] at d3
            by_cases h3 : lk[q] = 3
            · rw [h3] at d0
              go_wp2
              go_roundw
              case rel => exact ⟨q + 1, _, _, by omega, by go_num, H3.out.set hO 1 ((q : Int) + 1) (by omega) (by omega)⟩
              case measure => simp [intOf]; omega
            · have h3b : (((lk[q] : Nat) : Int) == 3) = false := by simp; omega
              have h3n : ¬ ((lk[q] : Nat) : Int) = 3 := by omega
              by_cases h4 : lk[q] = 4
              · rw [h4] at d0
                clear h3b h3n
                go_wp2
                go_roundw
                case rel => exact ⟨q + 1, _, _, by omega, by go_num, H3.out.set hO 2 ((q : Int) + 1) (by omega) (by omega)⟩
                case measure => simp [intOf]; omega
              · have h4b : (((lk[q] : Nat) : Int) == 4) = false := by simp; omega
                have h4n : ¬ ((lk[q] : Nat) : Int) = 4 := by omega
                go_wp2
                go_roundw
                case rel => exact ⟨q + 1, _, _, by omega, by go_num, H3.out⟩
                case measure => simp [intOf]; omega
          · have hzb : (EA (O q) != 0) = true := by simp [hz]
            go_wp2
            go_roundw
            case rel => exact ⟨q + 1, _, _, by omega, by go_num, H3.out⟩
            case measure => simp [intOf]; omega
        · go_wp2
          go_ret3
          refine ⟨L.length, w3.heap.size, w3.heap.size + 1, w.heap.size + 1, EH, EA, O, rfl, H3.out.how, H3.out.at_, H3.out.of, hm4, fun i hi => ?_, fun i j hi hj e => ?_, H3.out.iff, H3.out.bel⟩
          · have := (HT.out.fst i hi).1
            by_cases e : O i < L.length
            · exact e
            · rw [List.getElem?_eq_none (by omega)] at this; cases this
          · have h1 := HT.out.fst i hi
            have h2 := HT.out.fst j hj
            have e' : lx.getD i 0 = lx.getD j 0 := e
            have h1' : First L (O i) (lx.getD j 0) := e' ▸ h1
            exact h1'.uniq h2
end Go.Proofs.Qxb6000570a
