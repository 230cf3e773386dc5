/-
  WALK: readFrom (43).
-/
import Derived.Test.Qxb6000570aE3
namespace Go.Proofs.Qxb6000570a
open Go.RowKit
set_option linter.unusedVariables false
set_option linter.unusedSimpArgs false

/-- Between w and w' only blocks of O, and new ones, have changed. -/
structure Chg (w w' : World) (O : Nat → Prop) : Prop where
  os : w'.os = w.os
  tape : w'.tape = w.tape
  output : w'.output = w.output
  size : w.heap.size ≤ w'.heap.size
  block : ∀ k, k < w.heap.size → ¬ O k → w'.heap[k]? = w.heap[k]?
theorem Chg.refl (w : World) (O : Nat → Prop) : Chg w w O := ⟨rfl, rfl, rfl, Nat.le_refl _, fun _ _ _ => rfl⟩
theorem Chg.trans {w w' w'' : World} {O O' : Nat → Prop} (h : Chg w w' O) (h' : Chg w' w'' O') (ho : ∀ k, k < w.heap.size → O' k → O k) : Chg w w'' O :=
  ⟨h'.os.trans h.os, h'.tape.trans h.tape, h'.output.trans h.output, Nat.le_trans h.size h'.size, fun k hk hn => (h'.block k (Nat.lt_of_lt_of_le hk h.size) (fun h2 => hn (ho k hk h2))).trans (h.block k hk hn)⟩
theorem Chg.below {w w' : World} (h : Below w.heap.size w w') (O : Nat → Prop) : Chg w w' O := ⟨h.os, h.tape, h.output, h.size, fun k hk _ => h.block k hk⟩
theorem Chg.toBelow {w0 w w' : World} {B : Nat} {O : Nat → Prop} (h0 : Below B w0 w) (h : Chg w w' O) (hB : B ≤ w.heap.size) (ho : ∀ k, O k → B ≤ k) : Below B w0 w' :=
  h0.trans ⟨h.os, h.tape, h.output, h.size, fun k hk => h.block k (by omega) (fun h2 => by have := ho k h2; omega)⟩
theorem Chg.setCell (w : World) (b i : Nat) (v : Value) (O : Nat → Prop) (hb : O b) : Chg w (w.setCell ⟨b, i, none⟩ v) O :=
  ⟨rfl, rfl, rfl, by simp, fun k hk hn => Below.heap_setCell _ _ _ _ (fun e => hn (by have : k = b := e; rw [this]; exact hb))⟩
theorem Chg.grown {w w' : World} {g : Option Nat} (h : w.grownBy w' g) (O : Nat → Prop) (hg : ∀ b, g = some b → O b) : Chg w w' O :=
  ⟨h.os, h.tape, h.output, h.size, fun k hk hn => h.block k hk (fun e => hn (hg k e.symm))⟩

theorem own_val {S : Sch} {w : World} {B : Nat} {v : Value} {l : List Nat} (h : w.ownsRow B 75 3 v l.length (flat S l)) (hl : 0 < l.length) : ∃ g cap, v = .slice (some ⟨g, 0, none⟩) l.length cap ∧ l.length ≤ cap ∧ cap ≤ maxLen ∧ ∀ i (hi : i < l.length) j, j < 3 → w.cell? ⟨g, i * 3 + j, none⟩ = (tx3 S (some l[i]))[j]? := by
  obtain ⟨h1, h2⟩ := h
  rcases h2 with ⟨_, h2⟩ | ⟨g, cap, cur, e, hb, hc, h3, h4, h5, h6⟩
  · omega
  · refine ⟨g, cap, e, h3, h4, fun i hi j hj => ?_⟩
    have h7 : cur[i * 3 + j]? = (flat S l)[i * 3 + j]? := by
      rw [← h6, List.getElem?_take_of_lt (by omega)]
      simp
    have h8 : w.cell? ⟨g, i * 3 + j, none⟩ = cur[i * 3 + j]? := by simp [World.cell?, hc]
    rw [h8, h7, flat_get S l i j hi hj]
theorem own_pop {S : Sch} {w : World} {B g cap : Nat} {l : List Nat} {k : Nat} (h : w.ownsRow B 75 3 (.slice (some ⟨g, 0, none⟩) (l ++ [k]).length cap) (l ++ [k]).length (flat S (l ++ [k]))) : w.ownsRow B 75 3 (.slice (some ⟨g, 0, none⟩) l.length cap) l.length (flat S l) := by
  obtain ⟨h1, h2⟩ := h
  rcases h2 with ⟨_, h2⟩ | ⟨g', cap', cur, e, hb, hc, h3, h4, h5, h6⟩
  · simp at h2
  · injection e with e1 e2 e3
    injection e1 with e1
    injection e1 with e1
    subst e1 e3
    rw [List.length_append, List.length_singleton] at h3 h6
    refine ⟨flat_len S l, .inr ⟨g, cap, cur, rfl, hb, hc, by omega, h4, h5, ?_⟩⟩
    rw [flat_snoc] at h6
    have := congrArg (List.take (l.length * 3)) h6
    rw [List.take_take, show min (l.length * 3) ((l.length + 1) * 3) = l.length * 3 by omega, List.take_left' (flat_len S l)] at this
    exact this

theorem itF_w (S : Sch) (la : Option Nat) (wv rv : Value) : itF S la wv rv 3 0 = wv := by cases la <;> rfl
theorem itF_r (S : Sch) (la : Option Nat) (wv rv : Value) : itF S la wv rv 4 0 = rv := by cases la <;> rfl
theorem itF_ow (S : Sch) (la : Option Nat) (wv wv' rv : Value) (i : Nat) (h : i ≠ 3) : itF S la wv rv i 0 = itF S la wv' rv i 0 := by
  by_cases h5 : i < 5
  · have : i = 0 ∨ i = 1 ∨ i = 2 ∨ i = 4 := by omega
    cases la <;> (rcases this with rfl | rfl | rfl | rfl <;> rfl)
  · unfold itF
    rw [getElem!_neg _ _ (by simp [tx3_len]; omega), getElem!_neg _ _ (by simp [tx3_len]; omega)]
theorem itF_or (S : Sch) (la : Option Nat) (wv rv rv' : Value) (i : Nat) (h : i ≠ 4) : itF S la wv rv i 0 = itF S la wv rv' i 0 := by
  by_cases h5 : i < 5
  · have : i = 0 ∨ i = 1 ∨ i = 2 ∨ i = 3 := by omega
    cases la <;> (rcases this with rfl | rfl | rfl | rfl <;> rfl)
  · unfold itF
    rw [getElem!_neg _ _ (by simp [tx3_len]; omega), getElem!_neg _ _ (by simp [tx3_len]; omega)]
theorem It.setW {S : Sch} {w : World} {B b : Nat} {la : Option Nat} {wv wv' rv : Value} {WL WL' RL : List Nat} (h : It S w B b la wv rv WL RL) (hw : w.ownsRow B 75 3 wv' WL'.length (flat S WL')) (hn1 : wv'.ownBlock ≠ some b) (hn3 : ∀ g, wv'.ownBlock = some g → rv.ownBlock ≠ some g) : It S (w.setCell ⟨b, 3, none⟩ wv') B b la wv' rv WL' RL where
  blk := h.blk.set1' (by omega) _ (itF_w _ _ _ _) (fun i hi => itF_ow _ _ _ _ _ i hi)
  ws := ownsRow_keep hw fun g e => Below.heap_setCell _ _ _ _ (fun e2 => hn1 (by rw [e]; exact congrArg some e2))
  rs := ownsRow_keep h.rs fun g e => Below.heap_setCell _ _ _ _ (fun e2 => h.n2 (by rw [e]; exact congrArg some e2))
  ge := h.ge
  n1 := hn1
  n2 := h.n2
  n3 := hn3
theorem It.setR {S : Sch} {w : World} {B b : Nat} {la : Option Nat} {wv rv rv' : Value} {WL RL RL' : List Nat} (h : It S w B b la wv rv WL RL) (hr : w.ownsRow B 75 3 rv' RL'.length (flat S RL')) (hn2 : rv'.ownBlock ≠ some b) (hn3 : ∀ g, wv.ownBlock = some g → rv'.ownBlock ≠ some g) : It S (w.setCell ⟨b, 4, none⟩ rv') B b la wv rv' WL RL' where
  blk := h.blk.set1' (by omega) _ (itF_r _ _ _ _) (fun i hi => itF_or _ _ _ _ _ i hi)
  ws := ownsRow_keep h.ws fun g e => Below.heap_setCell _ _ _ _ (fun e2 => h.n1 (by rw [e]; exact congrArg some e2))
  rs := ownsRow_keep hr fun g e => Below.heap_setCell _ _ _ _ (fun e2 => hn2 (by rw [e]; exact congrArg some e2))
  ge := h.ge
  n1 := h.n1
  n2 := hn2
  n3 := hn3
theorem It.setL {S : Sch} {w : World} {B b : Nat} {la : Option Nat} {wv rv : Value} {WL RL : List Nat} (h : It S w B b la wv rv WL RL) (k : Nat) : It S (((w.setCell ⟨b, 0, none⟩ (.int .i64 (S.X k))).setCell ⟨b, 1, none⟩ (.int .u8 (S.H k : Nat))).setCell ⟨b, 2, none⟩ (.int .i64 (S.A k))) B b (some k) wv rv WL RL where
  blk := by
    refine (((h.blk.set1 (k := 0) (by omega) (.int .i64 (S.X k))).set1 (k := 1) (by omega) (.int .u8 (S.H k : Nat))).set1 (k := 2) (by omega) (.int .i64 (S.A k))).congr fun i hi j hj => ?_
    obtain rfl : j = 0 := by omega
    have : i = 0 ∨ i = 1 ∨ i = 2 ∨ i = 3 ∨ i = 4 := by omega
    rcases this with rfl | rfl | rfl | rfl | rfl
    · rfl
    · rfl
    · rfl
    · simp [itF_w]
    · simp [itF_r]
  ws := ownsRow_keep h.ws fun g e => by
    have hne : g ≠ b := fun e2 => h.n1 (by rw [e, e2])
    rw [Below.heap_setCell _ _ _ _ (by simpa using hne), Below.heap_setCell _ _ _ _ (by simpa using hne), Below.heap_setCell _ _ _ _ (by simpa using hne)]
  rs := ownsRow_keep h.rs fun g e => by
    have hne : g ≠ b := fun e2 => h.n2 (by rw [e, e2])
    rw [Below.heap_setCell _ _ _ _ (by simpa using hne), Below.heap_setCell _ _ _ _ (by simpa using hne), Below.heap_setCell _ _ _ _ (by simpa using hne)]
  ge := h.ge
  n1 := h.n1
  n2 := h.n2
  n3 := h.n3

def P43 (S : Sch) (p : Int) (B b : Nat) (la : Option Nat) (wv rv : Value) (WL RL : List Nat) (w : World) (e : Ending) (w' : World) : Prop :=
  ∃ WL' D wv', WL = WL' ++ D ∧ (∀ k ∈ D, stat (S.H k) (S.A k) p = 2) ∧ It S w' B b la wv' rv WL' RL ∧ Chg w w' (fun g => g = b) ∧ wv'.ownBlock = wv.ownBlock ∧
    ((WL' = [] ∧ e = .returned (.agg (tx3 S none).toArray)) ∨ ∃ L0 k, WL' = L0 ++ [k] ∧ stat (S.H k) (S.A k) p ≠ 2 ∧ e = .returned (.agg (tx3 S (some k)).toArray))
set_option maxRecDepth 20000 in
set_option maxHeartbeats 1000000 in
theorem from43 (S : Sch) (p : Int) (B b : Nat) (la : Option Nat) (wv rv : Value) (WL RL : List Nat) (w : World) (hB : B ≤ w.heap.size) (hlen : WL.length ≤ 4096) (hit : It S w B b la wv rv WL RL) :
    Calls Try.prog 43 #[.pointer (some ⟨b, 0, none⟩), .int .i64 p] w (P43 S p B b la wv rv WL RL w) := by
  have HIT : Hid (It S w B b la wv rv WL RL) := hit
  have c3 := hit.blk.cell1 (i := 3) (by omega)
  have hwv : ∃ a cap, wv = .slice a WL.length cap := by
    rcases hit.ws.2 with ⟨e, h⟩ | ⟨g, cap, _, e, _⟩
    · exact ⟨none, 0, by rw [e, h]⟩
    · exact ⟨_, cap, e⟩
  have hb0 : b < w.heap.size := hit.blk.lt
  obtain ⟨wa, wc, rfl⟩ := hwv
  have c3' : w.cell? ⟨b, 3, none⟩ = some (.slice wa WL.length wc) := by rw [c3]; cases la <;> rfl
  clear hit c3
  go_enter Try.func43, Try.ntmps43
  go_wp2
  go_loopw [5] (fun i wr => ∃ (WL' D : List Nat) (wv' : Value), i = .int .i64 (WL'.length : Nat) ∧ WL = WL' ++ D ∧ (∀ k ∈ D, stat (S.H k) (S.A k) p = 2) ∧ It S wr B b la wv' rv WL' RL ∧ Chg w wr (fun g => g = b) ∧ wv'.ownBlock = (Value.slice wa WL.length wc).ownBlock ∧ Els wr w.heap.size 3 1 (fun i _ => (tx3 S none)[i]!)) (fun i _ => (intOf i).toNat)
  case atStart =>
    refine ⟨WL, [], _, rfl, by simp, by simp, HIT.out.below ((Below.refl _ _).alloc (Nat.le_refl _) _), Chg.below ((Below.refl _ _).alloc (Nat.le_refl _) _) _, rfl, ?_⟩
    exact (els_lit w #[.int .i64 0, .int .u8 0, .int .i64 0] 75).congr fun i hi j hj => by
      have : i = 0 ∨ i = 1 ∨ i = 2 := by simp at hi; omega
      rcases this with rfl | rfl | rfl <;> rfl
  case round =>
    clear c3'
    obtain ⟨WL', D, wv', rfl, hWL, hD, hit, hchg, hown, hR⟩ := hrel
    have HWL : Hid (WL = WL' ++ D) := hWL
    have HD : Hid (∀ k ∈ D, stat (S.H k) (S.A k) p = 2) := hD
    have HI : Hid (It S wr B b la wv' rv WL' RL) := hit
    have HC : Hid (Chg w wr (fun g => g = b)) := hchg
    have HO : Hid (wv'.ownBlock = (Value.slice wa WL.length wc).ownBlock) := hown
    have HR : Hid (Els wr w.heap.size 3 1 (fun i _ => (tx3 S none)[i]!)) := hR
    have hl2 : WL'.length ≤ 4096 := by rw [hWL] at hlen; simp at hlen; omega
    have r0 : wr.cell? ⟨w.heap.size, 0, none⟩ = some (.int .i64 0) := hR.cell1 (i := 0) (by omega)
    have r1 : wr.cell? ⟨w.heap.size, 1, none⟩ = some (.int .u8 0) := hR.cell1 (i := 1) (by omega)
    have r2 : wr.cell? ⟨w.heap.size, 2, none⟩ = some (.int .i64 0) := hR.cell1 (i := 2) (by omega)
    have fr := hR.free
    clear hWL hD hit hchg hown hR
    have HNE : Hid (∀ g, Own b wv' rv g → g < w.heap.size) := fun g hg => by
      rcases hg with rfl | e | e
      · exact hb0
      · exact (HIT.out.own (.inr (.inl (HO.out ▸ e)))).2
      · exact (HIT.out.own (.inr (.inr e))).2
    have H3 : Hid (∀ (W : World) (x y z : Value) g, g < w.heap.size → (((W.setCell ⟨w.heap.size, 0, none⟩ x).setCell ⟨w.heap.size, 1, none⟩ y).setCell ⟨w.heap.size, 2, none⟩ z).heap[g]? = W.heap[g]?) := fun W x y z g hg => by
      rw [Below.heap_setCell _ _ _ _ (by simp; omega), Below.heap_setCell _ _ _ _ (by simp; omega), Below.heap_setCell _ _ _ _ (by simp; omega)]
    have HC3 : Hid (∀ (W : World) (x y z : Value), Chg w W (fun g => g = b) → Chg w (((W.setCell ⟨w.heap.size, 0, none⟩ x).setCell ⟨w.heap.size, 1, none⟩ y).setCell ⟨w.heap.size, 2, none⟩ z) (fun g => g = b)) := fun W x y z h =>
      ⟨h.os, h.tape, h.output, by simpa using h.size, fun k hk hn => (H3.out W x y z k hk).trans (h.block k hk hn)⟩
    rcases List.eq_nil_or_concat WL' with e | ⟨L0, x, e⟩
    · subst e
      go_wp2
      refine bodyPost_ret (v := .agg #[.int .i64 0, .int .u8 0, .int .i64 0]) ?_ rfl ?_
      · simp [results, Try.results43, go_sem, r0, r1, r2, fr]
      exact ⟨[], D, wv', HWL.out, HD.out, HI.out.keep fun g hg => H3.out _ _ _ _ g (HNE.out g hg), HC3.out _ _ _ _ HC.out, HO.out, .inl ⟨rfl, rfl⟩⟩
    · rw [List.concat_eq_append] at e
      subst e
      obtain ⟨g, cap, hv, hcap, hmx, hcell⟩ := own_val HI.out.ws (by simp)
      subst hv
      have d3 : wr.cell? ⟨b, 3, none⟩ = some (.slice (some ⟨g, 0, none⟩) (L0 ++ [x]).length cap) := by
        rw [HI.out.blk.cell1 (i := 3) (by omega)]; cases la <;> rfl
      have hg0 : wr.cell? ⟨g, L0.length * 3, none⟩ = some (.int .i64 (S.X x)) := by simpa [tx3] using hcell L0.length (by simp) 0 (by omega)
      have hg1 : wr.cell? ⟨g, L0.length * 3 + 1, none⟩ = some (.int .u8 (S.H x : Nat)) := by simpa [tx3] using hcell L0.length (by simp) 1 (by omega)
      have hg2 : wr.cell? ⟨g, L0.length * 3 + 2, none⟩ = some (.int .i64 (S.A x)) := by simpa [tx3] using hcell L0.length (by simp) 2 (by omega)
      have hll : (L0 ++ [x]).length = L0.length + 1 := by simp
      rw [hll] at d3 hcap hl2 ⊢
      clear hcell hll
      go_wp2_with fail
      refine (stat42 (S.H x) (S.A x) p _).mono ?_
      rintro e w2 ⟨rfl, hb2⟩
      have hbw : Below wr.heap.size wr w2 := ((Below.refl _ _).alloc (Nat.le_refl _) _).trans (hb2.mono (by simp))
      have HI2 : Hid (It S w2 B b la (.slice (some ⟨g, 0, none⟩) (L0 ++ [x]).length cap) rv (L0 ++ [x]) RL) := HI.out.below hbw
      have HC2 : Hid (Chg w w2 (fun g => g = b)) := HC.out.trans (Chg.below hbw _) (fun _ _ h => h)
      have HR2 : Hid (Els w2 w.heap.size 3 1 (fun i _ => (tx3 S none)[i]!)) := HR.out.below hbw HR.out.lt
      have HV2 : Hid (Els w2 wr.heap.size 3 1 (fun i _ => (#[.int .i64 (S.X x), .int .u8 (S.H x : Nat), .int .i64 (S.A x)] : Array Value)[i]!)) := (els_lit wr #[.int .i64 (S.X x), .int .u8 (S.H x : Nat), .int .i64 (S.A x)] 75).below hb2 (by simp)
      clear hb2 hbw d3 hg0 hg1 hg2 r0 r1 r2 fr
      by_cases hst : stat (S.H x) (S.A x) p = 2
      · have d3 : w2.cell? ⟨b, 3, none⟩ = some (.slice (some ⟨g, 0, none⟩) (L0.length + 1) cap) := by
          rw [HI2.out.blk.cell1 (i := 3) (by omega)]; cases la <;> (simp [itF, tx3])
        have fb := HI2.out.blk.free
        rw [hst]
        go_wp2
        go_roundw
        case rel =>
          refine ⟨L0, x :: D, .slice (some ⟨g, 0, none⟩) L0.length cap, by go_num, by rw [HWL.out]; simp, ?_, ?_, ?_, HO.out, ?_⟩
          · intro k hk
            rcases List.mem_cons.1 hk with rfl | hk
            · exact hst
            · exact HD.out k hk
          · exact HI2.out.setW (own_pop HI2.out.ws) HI2.out.n1 HI2.out.n3
          · exact HC2.out.trans (Chg.setCell _ _ _ _ (fun g => g = b) rfl) (fun _ _ h => h)
          · exact HR2.out.other (by simp; omega) _
        case measure => simp [intOf]
      · have r0 : w2.cell? ⟨w.heap.size, 0, none⟩ = some (.int .i64 0) := HR2.out.cell1 (i := 0) (by omega)
        have r1 : w2.cell? ⟨w.heap.size, 1, none⟩ = some (.int .u8 0) := HR2.out.cell1 (i := 1) (by omega)
        have r2 : w2.cell? ⟨w.heap.size, 2, none⟩ = some (.int .i64 0) := HR2.out.cell1 (i := 2) (by omega)
        have fr := HR2.out.free
        have v0 : w2.cell? ⟨wr.heap.size, 0, none⟩ = some (.int .i64 (S.X x)) := HV2.out.cell1 (i := 0) (by omega)
        have v1 : w2.cell? ⟨wr.heap.size, 1, none⟩ = some (.int .u8 (S.H x : Nat)) := HV2.out.cell1 (i := 1) (by omega)
        have v2 : w2.cell? ⟨wr.heap.size, 2, none⟩ = some (.int .i64 (S.A x)) := HV2.out.cell1 (i := 2) (by omega)
        have hst' : ¬ ((stat (S.H x) (S.A x) p : Nat) : Int) = 2 := by omega
        have hstb : (((stat (S.H x) (S.A x) p : Nat) : Int) != 2) = true := by simp; omega
        go_wp2
        refine bodyPost_ret (v := .agg #[.int .i64 (S.X x), .int .u8 (S.H x : Nat), .int .i64 (S.A x)]) ?_ rfl ?_
        · simp [results, Try.results43, go_sem, r0, r1, r2, fr]
        exact ⟨L0 ++ [x], D, _, HWL.out, HD.out, HI2.out.keep fun g hg => H3.out _ _ _ _ g (HNE.out g hg), HC3.out _ _ _ _ HC2.out, HO.out, .inr ⟨L0, x, rfl, hst, rfl⟩⟩
end Go.Proofs.Qxb6000570a
