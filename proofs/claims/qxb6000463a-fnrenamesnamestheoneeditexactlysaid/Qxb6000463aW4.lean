/-
  WALK: the law FnWrittenColumnsUndoneByTheSwappedTable (9).
-/
import Derived.Test.Qxb6000463aW3
namespace Go.Proofs.Qxb6000463a
open Go.RowKit
set_option linter.unusedVariables false
set_option linter.unusedSimpArgs false

theorem Try.info94 : (Try.prog.info? 94).map (fun i => (i.zero, i.size, i.bytes)) = some (some (.agg #[.string ⟨#[]⟩, .string ⟨#[]⟩]), 2, 32) := by kernel_rfl
def z94 : Array Value := #[.string ⟨#[]⟩, .string ⟨#[]⟩]
def mk94 (n : Nat) : Array Value := madeCells z94 (n * 2)
theorem make94 (n : Nat) (hn : n ≤ 1048576) (w : World) : (Instr.makeSlice 89 (.int .i64 n) (.int .i64 n)).run Try.prog w = .ok (.slice (some ⟨w.heap.size, 0, none⟩) n n) (w.alloc (.cells (mk94 n) 94)) := by
  obtain ⟨i0, hi, hz0, hz1, hz2⟩ := info_parts Try.info94
  have := run_make (P := Try.prog) w 89 94 i0 _ Try.underlying89 hi hz0 .i64 .i64 n n (by omega) (by omega) (by rw [hz2]; omega) (by omega)
  rw [this, hz1]
  rfl

/-- A slice of uint16. -/
def U16Sl (w : World) (ao : Option Addr) (n : Nat) (P : Nat → Nat) : Prop :=
  0 < n → ∃ b off, ao = some ⟨b, off, none⟩ ∧ ∀ k, k < n → w.cell? ⟨b, off + k, none⟩ = some (.int .u16 (P k)) ∧ P k ≤ 65535

def nmK (A : Nat → ByteArray) (P : Nat → Nat) (n k : Nat) (i j : Nat) : Value := if i < k then .string (A (P i % n)) else .string ⟨#[]⟩
def swK (A B : Nat → ByteArray) (k : Nat) (i j : Nat) : Value := if i < k then (if j = 0 then .string (B i) else .string (A i)) else .string ⟨#[]⟩

theorem look_dist (A B : Nat → ByteArray) (n j : Nat) (hj : j < n) (hd : Dist A n) : ∀ k, k ≤ n → look A B (A j) k = if j < k then B j else A j
  | 0, _ => by simp [look]
  | k + 1, hk => by
    rw [look]
    by_cases e : k = j
    · subst e; simp
    · have h : ((A k).toList == (A j).toList) = false := by
        by_cases h2 : k < j
        · exact hd k j h2 hj
        · have := hd j k (by omega) (by omega)
          unfold Neq at this
          rw [← Bool.not_eq_true, beq_iff_eq] at this ⊢
          exact fun e => this e.symm
      rw [h, look_dist A B n j hj hd k (by omega)]
      have : j < k ↔ j < k + 1 := by omega
      simp [this]
theorem look_of_dist (A B : Nat → ByteArray) (n j : Nat) (hj : j < n) (hd : Dist A n) : look A B (A j) n = B j := by
  rw [look_dist A B n j hj hd n (Nat.le_refl _), if_pos hj]

theorem ColSl.below {w w' : World} {ao : Option Addr} {n : Nat} {A B : Nat → ByteArray} (h : ColSl w ao n A B) (hb : Below w.heap.size w w') : ColSl w' ao n A B := fun h0 => by
  obtain ⟨b, off, e, hc⟩ := h h0
  exact ⟨b, off, e, fun k hk => ⟨cell_later hb (hc k hk).1, cell_later hb (hc k hk).2⟩⟩
theorem nm_step {w : World} {b m n k : Nat} {A : Nat → ByteArray} {P : Nat → Nat} (h : Els w b m 1 (nmK A P n k)) (hk : k < m) : Els (w.setCell ⟨b, k, none⟩ (.string (A (P k % n)))) b m 1 (nmK A P n (k + 1)) := by
  refine (h.set1 hk _).congr fun i hi j hj => ?_
  obtain rfl : j = 0 := by omega
  by_cases e : i = k
  · subst e; simp [nmK]
  · have : i < k ↔ i < k + 1 := by omega
    simp [nmK, e, this]
theorem nm_sl {w : World} {b m n : Nat} {A : Nat → ByteArray} {P : Nat → Nat} (h : Els w b m 1 (nmK A P n m)) : StrSl w (some ⟨b, 0, none⟩) m (fun i => A (P i % n)) :=
  fun _ => ⟨b, 0, rfl, fun k hk => by rw [Nat.zero_add, h.cell1 hk]; simp [nmK, hk]⟩
theorem look_sl {w : World} {b m n : Nat} {A B S : Nat → ByteArray} (h : Els w b m 1 (lookEl A B S n)) : StrSl w (some ⟨b, 0, none⟩) m (fun i => look A B (S i) n) :=
  fun _ => ⟨b, 0, rfl, fun k hk => by rw [Nat.zero_add, h.cell1 hk]; simp [lookEl]⟩
theorem sw_step {w : World} {b n k : Nat} {A B : Nat → ByteArray} (h : Els w b n 2 (swK A B k)) (hk : k < n) : Els ((w.setCell ⟨b, k * 2, none⟩ (.string (B k))).setCell ⟨b, k * 2 + 1, none⟩ (.string (A k))).drew b n 2 (swK A B (k + 1)) := by
  refine ((h.set hk (l := 0) (by omega) (.string (B k))).set hk (l := 1) (by omega) (.string (A k))).drew.congr fun i hi j hj => ?_
  by_cases e : i = k
  · subst e
    have : j = 0 ∨ j = 1 := by omega
    rcases this with rfl | rfl <;> simp [swK]
  · have : i < k ↔ i < k + 1 := by omega
    simp [swK, e, this]
theorem sw_sl {w : World} {b n : Nat} {A B : Nat → ByteArray} (h : Els w b n 2 (swK A B n)) : ColSl w (some ⟨b, 0, none⟩) n B A :=
  fun _ => ⟨b, 0, rfl, fun k hk => ⟨by have := h.cell hk (j := 0) (by omega); simpa [swK, hk] using this, by have := h.cell hk (j := 1) (by omega); simpa [swK, hk] using this⟩⟩

def P9 (w : World) (e : Ending) (w' : World) : Prop := e = .returned (.bool true) ∧ Below w.heap.size w w'

set_option maxHeartbeats 1000000 in
theorem law9 (ao : Option Addr) (n c : Nat) (A B : Nat → ByteArray) (w : World) (hn : n ≤ 9223372036854775807) (hs : ∀ k, k < n → (A k).size ≤ 9223372036854775807 ∧ (B k).size ≤ 9223372036854775807)
   (hc : ColSl w ao n A B) (bo : Option Addr) (m d : Nat) (P : Nat → Nat) (hm : m ≤ 9223372036854775807) (hp : U16Sl w bo m P) :
    Calls Try.prog 9 #[.slice ao n c, .slice bo m d] w (P9 w) := by
  have HC : Hid (ColSl w ao n A B) := hc
  have HP : Hid (U16Sl w bo m P) := hp
  have HS : Hid (∀ k, k < n → (A k).size ≤ 9223372036854775807 ∧ (B k).size ≤ 9223372036854775807) := hs
  clear hc hp hs
  go_enter Try.func9, Try.ntmps9
  go_wp2_with fail
  refine (zz31 ao n c A B _ hn HS.out HC.out bo m d hm).mono ?_
  rintro e w1 ⟨⟨r, rfl, hr⟩, hw1⟩
  subst w1
  cases r with
  | false =>
    clear hr
    go_wp2
    go_ret
    exact ⟨rfl, Below.refl _ _⟩
  | true =>
    obtain ⟨hn1, hm1, hs1⟩ := hr rfl
    have HS1 : Hid (∀ k, k < n → (A k).size ≤ 1048576 ∧ (B k).size ≤ 1048576) := hs1
    clear hs1 hr HS
    go_wp2_with fail
    refine (ok32 ao n c A B _ hn1 HS1.out HC.out bo m d hm1).mono ?_
    rintro e w1 ⟨⟨r, rfl, hr⟩, q, hw1⟩
    subst w1
    cases r with
    | false =>
      clear hr
      go_wp2
      go_ret
      exact ⟨rfl, below_drewN0 _ _ _⟩
    | true =>
      obtain ⟨hn2, hm2, hn0, hdA, hdB⟩ := hr rfl
      have HDA : Hid (Dist A n) := hdA
      have HDB : Hid (Dist B n) := hdB
      clear hdA hdB hr hn1 hm1 HS1
      have hmk := make9 m (by omega)
      have hmk2 := make94 n (by omega)
      go_wp2_with fail
      go_loopw [6] (fun i wr => ∃ k : Nat, k ≤ m ∧ i = .int .i64 k ∧ Below w.heap.size w wr ∧ Els wr w.heap.size m 1 (nmK A P n k)) (fun i _ => m - (intOf i).toNat)
      case atStart =>
        refine ⟨0, by omega, rfl, (below_drewN0 _ _ _).alloc (Nat.le_refl _) _, ?_⟩
        refine (els_made (w.drewN q) m 1 #[.string ⟨#[]⟩] rfl (by omega) 9).congr fun i hi j hj => ?_
        obtain rfl : j = 0 := by omega
        simp [nmK]
      case round =>
        obtain ⟨k, hk, rfl, hb, hel⟩ := hrel
        have HB : Hid (Below w.heap.size w wr) := hb
        have HE : Hid (Els wr w.heap.size m 1 (nmK A P n k)) := hel
        by_cases hlt : k < m
        · obtain ⟨b, off, rfl, hcc⟩ := HC.out hn0
          obtain ⟨b2, off2, rfl, hpp⟩ := HP.out (by omega)
          obtain ⟨hp1, hp2⟩ := hpp k hlt
          obtain ⟨hcell, hcell2⟩ := hcc (P k % n) (Nat.mod_lt _ hn0)
          have g1 := cell_later hb hp1
          have g2 := cell_later hb hcell
          have d0 := hel.cell1 hlt
          have f0 := hel.free
          clear hb hel hcc hpp hcell hcell2 hp1
          have hx1 : (0 : Int) ≤ (P k : Int) % (n : Int) := Int.emod_nonneg _ (by omega)
          have hx2 : (P k : Int) % (n : Int) < (n : Int) := Int.emod_lt_of_pos _ (by omega)
          go_wp2
          go_roundw
          case rel => exact ⟨k + 1, by omega, by go_num, HB.out.setCell (by simp) _, nm_step HE.out hlt⟩
          case measure => simp [intOf]; omega
        · have : k = m := by omega
          subst this
          rename World => w1
          clear hb hel
          go_wp2_with fail
          go_loopw [8] (fun i wr => ∃ k : Nat, k ≤ n ∧ i = .int .i64 k ∧ Below w1.heap.size w1 wr ∧ Els wr w1.heap.size n 2 (swK A B k)) (fun i _ => n - (intOf i).toNat)
          case atStart =>
            refine ⟨0, by omega, rfl, (Below.refl _ _).alloc (Nat.le_refl _) _, ?_⟩
            refine (els_made w1 n 2 z94 rfl (by omega) 94).congr fun i hi j hj => ?_
            have : j = 0 ∨ j = 1 := by omega
            rcases this with rfl | rfl <;> simp [swK, z94]
          case round =>
            obtain ⟨k2, hk2, rfl, hb2, hel2⟩ := hrel
            have HB2 : Hid (Below w1.heap.size w1 wr) := hb2
            have HE2 : Hid (Els wr w1.heap.size n 2 (swK A B k2)) := hel2
            by_cases hlt2 : k2 < n
            · obtain ⟨b, off, rfl, hcc⟩ := HC.out hn0
              obtain ⟨hcell, hcell2⟩ := hcc k2 hlt2
              have g1 := cell_later hb2 (cell_later HB.out hcell)
              have g2 := cell_later hb2 (cell_later HB.out hcell2)
              have d0 := hel2.cell hlt2 (j := 0) (by omega)
              have d1 := hel2.cell hlt2 (j := 1) (by omega)
              simp only [Nat.add_zero] at d0
              have f0 := hel2.free
              have hk0 : (0:Int) ≤ (k2 : Int) := by omega
              have hlt' : (k2:Int) < (n:Int) := by omega
              clear hb2 hel2 hcc hcell hcell2 hmk hmk2
              go_wp2
              go_region
              go_wp2
              go_roundw
              case rel => exact ⟨k2 + 1, by omega, by go_num, ((HB2.out.setCell (by simp) _).setCell (by simp) _).drew, sw_step HE2.out hlt2⟩
              case measure => simp [intOf]; omega
            · have : k2 = n := by omega
              subst this
              rename World => w2
              clear hb2 hel2 hmk hmk2 hk hk2
              have HB12 : Hid (Below w.heap.size w w2) := HB.out.trans (HB2.out.mono HB.out.size)
              have HC2 : Hid (ColSl w2 ao k2 A B) := HC.out.below HB12.out
              go_wp2_with fail
              refine (wTable30 ao k2 c A B _ hn2 HC2.out).mono ?_
              rintro e w3 ⟨g1, rfl, hg1, he1, hb3⟩
              have HE1 : Hid (Els w3 g1 k2 8 (colEl A B)) := he1
              have HB3 : Hid (Below w2.heap.size w2 w3) := hb3
              have HNM : Hid (Els w3 w.heap.size k 1 (nmK A P k2 k)) := (HE.out.below HB2.out HE.out.lt).below hb3 (HE.out.below HB2.out HE.out.lt).lt
              clear he1 hb3
              go_wp2_with fail
              refine (zz29 g1 k2 A B _ hn2 HE1.out _ k _ _ hm2 (nm_sl HNM.out)).mono ?_
              rintro e w4 ⟨g2, rfl, hg2, he2, hb4⟩
              have HE2' : Hid (Els w4 g2 k 1 (lookEl A B (fun i => A (P i % k2)) k2)) := he2
              have HB4 : Hid (Below w3.heap.size w3 w4) := hb4
              have HSW : Hid (Els w4 w1.heap.size k2 2 (swK A B k2)) := (HE2.out.below HB3.out HE2.out.lt).below hb4 (HE2.out.below HB3.out HE2.out.lt).lt
              clear he2 hb4
              go_wp2_with fail
              refine (wTable30 _ k2 _ B A _ hn2 (sw_sl HSW.out)).mono ?_
              rintro e w5 ⟨g3, rfl, hg3, he3, hb5⟩
              have HE3 : Hid (Els w5 g3 k2 8 (colEl B A)) := he3
              have HB5 : Hid (Below w4.heap.size w4 w5) := hb5
              have HWR : Hid (Els w5 g2 k 1 (lookEl A B (fun i => A (P i % k2)) k2)) := HE2'.out.below hb5 HE2'.out.lt
              clear he3 hb5
              go_wp2_with fail
              refine (zz29 g3 k2 B A _ hn2 HE3.out _ k _ _ hm2 (look_sl HWR.out)).mono ?_
              rintro e w6 ⟨g4, rfl, hg4, he4, hb6⟩
              have HE4 : Hid (Els w6 g4 k 1 (lookEl B A (fun i => look A B (A (P i % k2)) k2) k2)) := he4
              have HB6 : Hid (Below w5.heap.size w5 w6) := hb6
              clear he4 hb6
              have HBB : Hid (Below w.heap.size w w6) := by
                have s1 := HB12.out.size
                have s2 := HB3.out.size
                have s3 := HB4.out.size
                have s4 := HB5.out.size
                exact HB12.out.trans ((HB3.out.mono (by omega)).trans ((HB4.out.mono (by omega)).trans ((HB5.out.mono (by omega)).trans (HB6.out.mono (by omega)))))
              go_wp2_with fail
              have HNM6 : Hid (Els w6 w.heap.size k 1 (nmK A P k2 k)) := by
                have a1 := HNM.out.below HB4.out HNM.out.lt
                have a2 := a1.below HB5.out a1.lt
                exact a2.below HB6.out a2.lt
              have HWR6 : Hid (Els w6 g2 k 1 (lookEl A B (fun i => A (P i % k2)) k2)) := HWR.out.below HB6.out HWR.out.lt
              clear HB HE HB2 HE2 HB12 HC2 HE1 HB3 HNM HE2' HB4 HSW HE3 HB5 HWR HB6 hg1 hg2 hg3 hg4
              go_loopw [11] (fun i wr => ∃ t : Nat, t ≤ k ∧ i = .int .i64 t ∧ ∃ q, wr = w6.drewN q) (fun i _ => k - (intOf i).toNat)
              case atStart => exact ⟨0, by omega, rfl, 0, rfl⟩
              case round =>
                obtain ⟨t, ht, rfl, q2, rfl⟩ := hrel
                by_cases hlt3 : t < k
                · obtain ⟨b, off, rfl, hcc⟩ := HC.out hn0
                  obtain ⟨b2, off2, rfl, hpp⟩ := HP.out (by omega)
                  obtain ⟨hp1, hp2⟩ := hpp t hlt3
                  have hj : P t % k2 < k2 := Nat.mod_lt _ hn0
                  obtain ⟨hcell, hcell2⟩ := hcc (P t % k2) hj
                  have g1 := cell_later HBB.out hp1
                  have g2 := cell_later HBB.out hcell2
                  have e1 := HWR6.out.cell1 hlt3
                  have e2 := HE4.out.cell1 hlt3
                  have e3 := HNM6.out.cell1 hlt3
                  simp only [lookEl, nmK, hlt3, if_true, look_of_dist A B k2 _ hj HDA.out, look_of_dist B A k2 _ hj HDB.out] at e1 e2 e3
                  have hx1 : (0 : Int) ≤ (P t : Int) % (k2 : Int) := Int.emod_nonneg _ (by omega)
                  have hx2 : (P t : Int) % (k2 : Int) < (k2 : Int) := Int.emod_lt_of_pos _ (by omega)
                  have hk0 : (0:Int) ≤ (t : Int) := by omega
                  have hlt' : (t:Int) < (k:Int) := by omega
                  clear hcc hpp hcell hcell2 hp1 hj
                  go_wp2
                  go_quiet (fail)
                  go_wp2
                  go_roundw
                  case rel => exact ⟨t + 1, by omega, by go_num, _, rfl⟩
                  case measure => simp [intOf]; omega
                · have : t = k := by omega
                  subst this
                  go_wp2
                  go_ret
                  exact ⟨rfl, Below.drewN' HBB.out _⟩
end Go.Proofs.Qxb6000463a
