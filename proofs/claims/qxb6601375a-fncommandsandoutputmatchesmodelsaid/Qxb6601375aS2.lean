/-
  WALKS: zzCloneStrings (17), zzCloneNested (18), zzMakeBlocks (21).
-/
import Derived.Test.Qxb6601375aS1
import Derived.Lib.LazyBuf
namespace Go.Proofs.Qxb6601375a
open Go.RowKit
set_option linter.unusedVariables false
set_option linter.unusedSimpArgs false

theorem Try.info9 : (Try.prog.info? 9).map (fun i => (i.zero, i.size, i.bytes)) = some (some (.string ⟨#[]⟩), 1, 16) := by kernel_rfl
theorem Try.info27 : (Try.prog.info? 27).map (fun i => (i.zero, i.size, i.bytes)) = some (some (.slice none 0 0), 1, 24) := by kernel_rfl
theorem Try.info29 : (Try.prog.info? 29).map (fun i => (i.zero, i.size, i.bytes)) = some (some (.agg #[.string ⟨#[]⟩, .slice none 0 0]), 2, 40) := by kernel_rfl
def mkS (n : Nat) : Array Value := madeCells #[.string ⟨#[]⟩] (n * 1)
theorem makeS (n : Nat) (hn : n ≤ 1048576) (w : World) : (Instr.makeSlice 27 (.int .i64 n) (.int .i64 n)).run Try.prog w = .ok (.slice (some ⟨w.heap.size, 0, none⟩) n n) (w.alloc (.cells (mkS n) 9)) := by
  obtain ⟨i0, hi, hz0, hz1, hz2⟩ := info_parts Try.info9
  have := run_make (P := Try.prog) w 27 9 i0 _ Try.underlying27 hi hz0 .i64 .i64 n n (by omega) (by omega) (by rw [hz2]; omega) (by omega)
  rw [this, hz1]
  rfl
def mkR (n : Nat) : Array Value := madeCells #[.slice none 0 0] (n * 1)
theorem makeR (n : Nat) (hn : n ≤ 1048576) (w : World) : (Instr.makeSlice 33 (.int .i64 n) (.int .i64 n)).run Try.prog w = .ok (.slice (some ⟨w.heap.size, 0, none⟩) n n) (w.alloc (.cells (mkR n) 27)) := by
  obtain ⟨i0, hi, hz0, hz1, hz2⟩ := info_parts Try.info27
  have := run_make (P := Try.prog) w 33 27 i0 _ Try.underlying33 hi hz0 .i64 .i64 n n (by omega) (by omega) (by rw [hz2]; omega) (by omega)
  rw [this, hz1]
  rfl
def mkB (n : Nat) : Array Value := madeCells #[.string ⟨#[]⟩, .slice none 0 0] (n * 2)
theorem makeB (n : Nat) (hn : n ≤ 1048576) (w : World) : (Instr.makeSlice 23 (.int .i64 n) (.int .i64 n)).run Try.prog w = .ok (.slice (some ⟨w.heap.size, 0, none⟩) n n) (w.alloc (.cells (mkB n) 29)) := by
  obtain ⟨i0, hi, hz0, hz1, hz2⟩ := info_parts Try.info29
  have := run_make (P := Try.prog) w 23 29 i0 _ Try.underlying23 hi hz0 .i64 .i64 n n (by omega) (by omega) (by rw [hz2]; omega) (by omega)
  rw [this, hz1]
  rfl
def lstS (l : List ByteArray) (k : Nat) : Nat → Nat → Value := fun i _ => if i < k then .string (l.getD i ⟨#[]⟩) else .string ⟨#[]⟩
theorem els_madeS (w : World) (n : Nat) (l : List ByteArray) : Els (w.alloc (.cells (mkS n) 9)) w.heap.size n 1 (lstS l 0) :=
  (els_made w n 1 #[.string ⟨#[]⟩] rfl (by omega) 9).congr fun i hi j hj => by
    obtain rfl : j = 0 := by omega
    simp [lstS]

/-- nil stays nil, the rest lies anew. -/
def P17 (ao : Option Addr) (l : List ByteArray) (w : World) (e : Ending) (w' : World) : Prop :=
  ∃ a2 c2, e = .returned (.slice a2 l.length c2) ∧ RowS w' a2 l ∧ (a2 = none ↔ ao = none) ∧ (∀ b o q, a2 = some ⟨b, o, q⟩ → w.heap.size ≤ b) ∧ l.length ≤ c2 ∧ Below w.heap.size w w'
set_option maxRecDepth 20000 in
set_option maxHeartbeats 4000000 in
theorem clone17 (ao : Option Addr) (c : Nat) (l : List ByteArray) (w : World) (hl : l.length ≤ 1048576) (ha : RowS w ao l) (hnil : ao = none → l.length = 0 ∧ c = 0) :
    Calls Try.prog 17 #[.slice ao l.length c] w (P17 ao l w) := by
  have hnq : ∀ (w : World) (a : Option Addr) (n c : Nat), (binOp .eql 27 (.slice a n c) (.slice none 0 0)).run Try.prog w = .ok (.bool a.isNone) w := fun w a n c => Go.run_eql_slice_nil w 27 9 a n c Try.underlying27
  have HA : Hid (RowS w ao l) := ha
  clear ha
  cases ao with
  | none =>
    have hl0 : l = [] := List.eq_nil_of_length_eq_zero (hnil rfl).1
    subst hl0
    have hc := (hnil rfl).2
    subst hc
    clear hnil
    go_enter Try.func17, Try.ntmps17
    go_wp2
    go_ret
    exact ⟨none, 0, rfl, HA.out, by simp, fun b o q h => by (cases h), Nat.le_refl _, Below.refl _ _⟩
  | some ad =>
    have hmk := makeS l.length (by omega)
    clear hnil
    go_enter Try.func17, Try.ntmps17
    go_wp2
    clear hmk hnq
    go_loopw [4] (fun i wr => ∃ k : Nat, k ≤ l.length ∧ i = .int .i64 k ∧ Els wr w.heap.size l.length 1 (lstS l k) ∧ Below w.heap.size w wr) (fun i _ => l.length - (intOf i).toNat)
    case atStart => exact ⟨0, by omega, rfl, els_madeS _ _ _, (Below.refl _ _).alloc (Nat.le_refl _) _⟩
    case round =>
      obtain ⟨k, hk, rfl, he, hb⟩ := hrel
      have HE : Hid (Els wr w.heap.size l.length 1 (lstS l k)) := he
      have HB : Hid (Below w.heap.size w wr) := hb
      clear he hb
      by_cases hlt : k < l.length
      · obtain ⟨rb, ro, hra, hc⟩ := HA.out (by omega)
        injection hra with hra
        subst hra
        have d1 : wr.cell? ⟨rb, ro + k, none⟩ = some (.string l[k]) := cell_later HB.out (hc k hlt)
        have d2 : wr.cell? ⟨w.heap.size, k, none⟩ = some (.string ⟨#[]⟩) := by simpa [lstS] using HE.out.cell1 hlt
        have f2 := HE.out.free
        have h0 : (0:Int) ≤ (k : Int) := by omega
        have h1 : (k:Int) < ((l.length : Nat) : Int) := by omega
        clear hc
        go_wp2
        go_roundw
        case rel =>
          refine ⟨k + 1, by omega, by go_num, ?_, HB.out.setCell (by simp) _⟩
          refine HE.out.set1' hlt _ (by simp [lstS, hlt]) (fun i hi => ?_)
          have : i < k + 1 ↔ i < k := by omega
          simp [lstS, this]
        case measure => simp [intOf]; omega
      · have : k = l.length := by omega
        go_wp2
        go_ret
        refine ⟨some ⟨w.heap.size, 0, none⟩, l.length, rfl, fun h0 => ⟨w.heap.size, 0, rfl, fun i hi => ?_⟩, by simp, fun b o q h => by (simp at h; omega), Nat.le_refl _, HB.out⟩
        have := HE.out.cell1 hi
        simp only [lstS] at this
        rw [if_pos (by omega)] at this
        simpa [hi] using this

theorem RowS.other {w : World} {ra : Option Addr} {l : List ByteArray} (h : RowS w ra l) {g i : Nat} (hb : ∀ b o q, ra = some ⟨b, o, q⟩ → g < b) (v : Value) : RowS (w.setCell ⟨g, i, none⟩ v) ra l := fun h0 => by
  obtain ⟨rb, ro, e, hc⟩ := h h0
  have := hb rb ro _ e
  refine ⟨rb, ro, e, fun j hj => ?_⟩
  rw [← hc j hj]
  apply World.cell?_setCell_other
  intro hh
  injection hh
  omega
def rowF (L : Nat → List ByteArray) (ra : Nat → Option Addr) (rc : Nat → Nat) (k : Nat) : Nat → Nat → Value := fun i _ => if i < k then .slice (ra i) (L i).length (rc i) else .slice none 0 0
theorem els_madeR (w : World) (n : Nat) (L : Nat → List ByteArray) (ra : Nat → Option Addr) (rc : Nat → Nat) : Els (w.alloc (.cells (mkR n) 27)) w.heap.size n 1 (rowF L ra rc 0) :=
  (els_made w n 1 #[.slice none 0 0] rfl (by omega) 27).congr fun i hi j hj => by
    obtain rfl : j = 0 := by omega
    simp [rowF]
def Nils (n : Nat) (L : Nat → List ByteArray) (ra : Nat → Option Addr) (rc : Nat → Nat) : Prop := ∀ u, u < n → ra u = none → (L u).length = 0 ∧ rc u = 0

def P18 (n : Nat) (L : Nat → List ByteArray) (w : World) (e : Ending) (w' : World) : Prop :=
  ∃ a2 c2 ra2 rc2, e = .returned (.slice a2 n c2) ∧ NestS w' a2 n L ra2 rc2 ∧ (∀ u, u < n → (L u).length ≤ rc2 u) ∧ (a2 = none → n = 0 ∧ c2 = 0) ∧ Below w.heap.size w w'
set_option maxRecDepth 20000 in
set_option maxHeartbeats 4000000 in
theorem clone18 (ao : Option Addr) (n ac : Nat) (L : Nat → List ByteArray) (ra : Nat → Option Addr) (rc : Nat → Nat) (w : World) (hn : n ≤ 1048576) (hl : ∀ u, u < n → (L u).length ≤ 1048576) (ha : NestS w ao n L ra rc) (hN : Nils n L ra rc) (hnil : ao = none → n = 0 ∧ ac = 0) :
    Calls Try.prog 18 #[.slice ao n ac] w (P18 n L w) := by
  have hnq : ∀ (w : World) (a : Option Addr) (n c : Nat), (binOp .eql 33 (.slice a n c) (.slice none 0 0)).run Try.prog w = .ok (.bool a.isNone) w := fun w a n c => Go.run_eql_slice_nil w 33 27 a n c Try.underlying33
  have HL : Hid (∀ u, u < n → (L u).length ≤ 1048576) := hl
  have HA : Hid (NestS w ao n L ra rc) := ha
  have HN : Hid (Nils n L ra rc) := hN
  clear hl ha hN
  cases ao with
  | none =>
    obtain ⟨rfl, rfl⟩ := hnil rfl
    clear hnil
    go_enter Try.func18, Try.ntmps18
    go_wp2
    go_ret
    exact ⟨none, 0, ra, rc, rfl, HA.out, fun u hu => by omega, fun _ => ⟨rfl, rfl⟩, Below.refl _ _⟩
  | some ad =>
    clear hnil
    have hmk := makeR n (by omega)
    go_enter Try.func18, Try.ntmps18
    go_wp2
    clear hmk hnq
    go_loopw [4] (fun i wr => ∃ (k : Nat) (ra2 : Nat → Option Addr) (rc2 : Nat → Nat), k ≤ n ∧ i = .int .i64 k ∧ Els wr w.heap.size n 1 (rowF L ra2 rc2 k) ∧ (∀ u, u < k → RowS wr (ra2 u) (L u) ∧ (L u).length ≤ rc2 u ∧ ∀ b o q, ra2 u = some ⟨b, o, q⟩ → w.heap.size < b) ∧ w.heap.size < wr.heap.size ∧ Below w.heap.size w wr) (fun i _ => n - (intOf i).toNat)
    case atStart => exact ⟨0, fun _ => none, fun _ => 0, by omega, rfl, els_madeR _ _ _ _ _, fun u hu => by omega, by simp, (Below.refl _ _).alloc (Nat.le_refl _) _⟩
    case round =>
      obtain ⟨k, ra2, rc2, hk, rfl, he, hr, hsz, hb⟩ := hrel
      have HE : Hid (Els wr w.heap.size n 1 (rowF L ra2 rc2 k)) := he
      have HR : Hid (∀ u, u < k → RowS wr (ra2 u) (L u) ∧ (L u).length ≤ rc2 u ∧ ∀ b o q, ra2 u = some ⟨b, o, q⟩ → w.heap.size < b) := hr
      have HB : Hid (Below w.heap.size w wr) := hb
      clear he hr hb
      by_cases hlt : k < n
      · obtain ⟨b, off, hao, hcc⟩ := HA.out (by omega)
        have hcell := cell_later HB.out (hcc k hlt).1
        have HROW : Hid (RowS wr (ra k) (L k)) := (hcc k hlt).2.below HB.out
        injection hao with hao
        subst hao
        clear hcc
        go_wp2_with fail
        refine (clone17 (ra k) (rc k) (L k) _ (HL.out k hlt) HROW.out (HN.out k hlt)).mono ?_
        rintro e w2 ⟨a2, c2, rfl, hrz, _, hnb, hcc, hb2⟩
        have HE2 : Hid (Els w2 w.heap.size n 1 (rowF L ra2 rc2 k)) := HE.out.below hb2 hsz
        have hc0 := HE2.out.cell1 hlt
        have f0 := HE2.out.free
        have HR2 : Hid (∀ u, u < k → RowS w2 (ra2 u) (L u) ∧ (L u).length ≤ rc2 u ∧ ∀ b o q, ra2 u = some ⟨b, o, q⟩ → w.heap.size < b) := fun u hu => ⟨(HR.out u hu).1.below hb2, (HR.out u hu).2⟩
        have HRZ : Hid (RowS w2 a2 (L k)) := hrz
        have HCC : Hid ((L k).length ≤ c2) := hcc
        have HNB : Hid (∀ b o q, a2 = some ⟨b, o, q⟩ → w.heap.size < b) := fun b o q h => by have := hnb b o q h; omega
        have HB2 : Hid (Below w.heap.size w w2) := HB.out.trans (hb2.mono (by omega))
        have hsz2 : w.heap.size < w2.heap.size := by have := hb2.size; omega
        simp only [rowF] at hc0
        clear hrz hnb hb2 hcell hcc
        go_wp2
        go_roundw
        case rel =>
          refine ⟨k + 1, fun u => if u = k then a2 else ra2 u, fun u => if u = k then c2 else rc2 u, by omega, by go_num, ?_, ?_, by simpa using hsz2, HB2.out.setCell (by simp) _⟩
          · refine HE2.out.set1' hlt _ (by simp [rowF]) (fun j hj => ?_)
            have : j < k + 1 ↔ j < k := by omega
            simp [rowF, this, hj]
          · intro u hu
            by_cases e : u = k
            · subst e
              simp only [if_true]
              exact ⟨HRZ.out.other HNB.out _, HCC.out, HNB.out⟩
            · simp only [if_neg e]
              exact ⟨(HR2.out u (by omega)).1.other (HR2.out u (by omega)).2.2 _, (HR2.out u (by omega)).2⟩
        case measure => simp [intOf]; omega
      · have : k = n := by omega
        subst this
        go_wp2
        go_ret
        refine ⟨some ⟨w.heap.size, 0, none⟩, k, ra2, rc2, rfl, fun h0 => ⟨w.heap.size, 0, rfl, fun u hu => ⟨?_, (HR.out u hu).1⟩⟩, fun u hu => (HR.out u hu).2.1, (fun h => by cases h), HB.out⟩
        have := HE.out.cell1 hu
        simpa [rowF, hu] using this

def blkF (I : Nat → ByteArray) (L : Nat → List ByteArray) (ra : Nat → Option Addr) (rc : Nat → Nat) (k : Nat) : Nat → Nat → Value
  | i, 0 => if i < k then .string (I i) else .string ⟨#[]⟩
  | i, _ + 1 => if i < k then .slice (ra i) (L i).length (rc i) else .slice none 0 0
theorem els_madeB (w : World) (n : Nat) (I : Nat → ByteArray) (L : Nat → List ByteArray) (ra : Nat → Option Addr) (rc : Nat → Nat) : Els (w.alloc (.cells (mkB n) 29)) w.heap.size n 2 (blkF I L ra rc 0) :=
  (els_made w n 2 #[.string ⟨#[]⟩, .slice none 0 0] rfl (by omega) 29).congr fun i hi j hj => by
    have : j = 0 ∨ j = 1 := by omega
    rcases this with rfl | rfl <;> simp [blkF]
/-- Blocks: of each the Lines. -/
def BlkS (w : World) (ao : Option Addr) (n : Nat) (L : Nat → List ByteArray) (ra : Nat → Option Addr) (rc : Nat → Nat) : Prop :=
  0 < n → ∃ b, ao = some ⟨b, 0, none⟩ ∧ ∀ u, u < n → w.cell? ⟨b, u * 2 + 1, none⟩ = some (.slice (ra u) (L u).length (rc u))
def P21 (n : Nat) (L : Nat → List ByteArray) (ra : Nat → Option Addr) (rc : Nat → Nat) (w : World) (e : Ending) (w' : World) : Prop :=
  ∃ a3 c3, e = .returned (.slice a3 n c3) ∧ BlkS w' a3 n L ra rc ∧ Below w.heap.size w w'
set_option maxRecDepth 20000 in
set_option maxHeartbeats 4000000 in
theorem blocks21 (io : Option Addr) (ic : Nat) (l : List ByteArray) (ao : Option Addr) (n ac : Nat) (L : Nat → List ByteArray) (ra : Nat → Option Addr) (rc : Nat → Nat) (w : World) (hn : n ≤ 1048576) (hli : l.length = n) (hi : RowS w io l) (ha : NestS w ao n L ra rc) (hnil : ao = none → n = 0 ∧ ac = 0) :
    Calls Try.prog 21 #[.slice io n ic, .slice ao n ac] w (P21 n L ra rc w) := by
  have hnq : ∀ (w : World) (a : Option Addr) (n c : Nat), (binOp .eql 33 (.slice a n c) (.slice none 0 0)).run Try.prog w = .ok (.bool a.isNone) w := fun w a n c => Go.run_eql_slice_nil w 33 27 a n c Try.underlying33
  have HA : Hid (NestS w ao n L ra rc) := ha
  have HI : Hid (RowS w io l) := hi
  clear ha hi
  cases ao with
  | none =>
    obtain ⟨rfl, rfl⟩ := hnil rfl
    clear hnil
    go_enter Try.func21, Try.ntmps21
    go_wp2
    go_ret
    exact ⟨none, 0, rfl, fun h => by omega, Below.refl _ _⟩
  | some ad =>
    clear hnil
    have hmk := makeB n (by omega)
    go_enter Try.func21, Try.ntmps21
    go_wp2
    clear hmk hnq
    go_loopw [6] (fun i wr => ∃ (k : Nat), k ≤ n ∧ i = .int .i64 k ∧ Els wr w.heap.size n 2 (blkF (fun i => l.getD i ⟨#[]⟩) L ra rc k) ∧ Below w.heap.size w wr) (fun i _ => n - (intOf i).toNat)
    case atStart => exact ⟨0, by omega, rfl, els_madeB _ _ _ _ _ _, (Below.refl _ _).alloc (Nat.le_refl _) _⟩
    case round =>
      obtain ⟨k, hk, rfl, he, hb⟩ := hrel
      have HE : Hid (Els wr w.heap.size n 2 (blkF (fun i => l.getD i ⟨#[]⟩) L ra rc k)) := he
      have HB : Hid (Below w.heap.size w wr) := hb
      clear he hb
      by_cases hlt : k < n
      · obtain ⟨b, off, hao, hcc⟩ := HA.out (by omega)
        obtain ⟨ib, iof, hio, hic⟩ := HI.out (by omega)
        have d1 := cell_later HB.out (hcc k hlt).1
        have d2 := cell_later HB.out (hic k (by omega))
        injection hao with hao
        subst hao
        subst hio
        have c0 := HE.out.cell hlt (j := 0) (by omega)
        have c1 := HE.out.cell hlt (j := 1) (by omega)
        have f0 := HE.out.free
        simp only [blkF] at c0 c1
        rw [Nat.add_zero] at c0
        have h0 : (0:Int) ≤ (k : Int) := by omega
        have h1 : (k:Int) < (n : Int) := by omega
        clear hcc hic
        go_wp2
        go_region
        go_wp2
        go_roundw
        case rel =>
          refine ⟨k + 1, by omega, by go_num, ?_, ?_⟩
          · refine ((HE.out.set hlt (l := 0) (by omega) (.string l[k])).set hlt (l := 1) (by omega) (.slice (ra k) (L k).length (rc k))).drew.congr fun i hi j hj => ?_
            have hkl : k < l.length := by omega
            by_cases e : i = k
            · subst e
              have : j = 0 ∨ j = 1 := by omega
              rcases this with rfl | rfl <;> simp [blkF, hkl]
            · have hik : i < k + 1 ↔ i < k := by omega
              have : j = 0 ∨ j = 1 := by omega
              rcases this with rfl | rfl <;> simp [blkF, e, hik]
          · exact Below.drewN' ((HB.out.setCell (p := ⟨w.heap.size, k * 2, none⟩) (by simp) (.string l[k])).setCell (p := ⟨w.heap.size, k * 2 + 1, none⟩) (by simp) (.slice (ra k) (L k).length (rc k))) 1
        case measure => simp [intOf]; omega
      · have : k = n := by omega
        subst this
        go_wp2
        go_ret
        refine ⟨some ⟨w.heap.size, 0, none⟩, k, rfl, fun h0 => ⟨w.heap.size, rfl, fun u hu => ?_⟩, HB.out⟩
        have := HE.out.cell hu (j := 1) (by omega)
        simpa [blkF, hu] using this
end Go.Proofs.Qxb6601375a
