/-
  WALKS: ZZComponents (14), reverseAdj (15), reachFrom (16).
-/
import Derived.Test.Qxb6000570aD2
namespace Go.Proofs.Qxb6000570a
open Go.RowKit
set_option linter.unusedVariables false
set_option linter.unusedSimpArgs false

def toN (adj : Nat → List Int) : Nat → List Nat := fun u => (adj u).map Int.toNat
theorem toN_len (adj : Nat → List Int) (u : Nat) : (toN adj u).length = (adj u).length := by simp [toN]
theorem AdjZ.sl {w : World} {ao : Option Addr} {n : Nat} {adj : Nat → List Int} {ra : Nat → Option Addr} {rc : Nat → Nat} (h : AdjZ w ao n adj ra rc) (hr : ∀ u, u < n → InR n (adj u)) : AdjSl w ao n (toN adj) ra rc := fun h0 => by
  obtain ⟨b, off, e, hc⟩ := h h0
  refine ⟨b, off, e, fun u hu => ⟨by rw [toN_len]; exact (hc u hu).1, fun h1 => ?_⟩⟩
  rw [toN_len] at h1
  obtain ⟨rb, ro, e2, hc2⟩ := (hc u hu).2 h1
  refine ⟨rb, ro, e2, fun i hi => ?_⟩
  have hi' : i < (adj u).length := by rwa [toN_len] at hi
  have := hr u hu i hi'
  rw [hc2 i hi']
  simp only [toN, List.getElem_map]
  rw [Int.toNat_of_nonneg this.1]
theorem good_toN {n : Nat} {adj : Nat → List Int} (hr : ∀ u, u < n → InR n (adj u)) : Good n (toN adj) := fun u v hu hv => by
  simp only [toN, List.mem_map] at hv
  obtain ⟨x, hx, rfl⟩ := hv
  obtain ⟨i, hi, rfl⟩ := List.mem_iff_getElem.1 hx
  have := hr u hu i hi
  omega

theorem Try.info4 : (Try.prog.info? 4).map (fun i => (i.zero, i.size, i.bytes)) = some (some (.bool false), 1, 1) := by kernel_rfl
def mkB (n : Nat) : Array Value := madeCells #[.bool false] (n * 1)
theorem makeB (n : Nat) (hn : n ≤ 1048576) (w : World) : (Instr.makeSlice 28 (.int .i64 n) (.int .i64 n)).run Try.prog w = .ok (.slice (some ⟨w.heap.size, 0, none⟩) n n) (w.alloc (.cells (mkB n) 4)) := by
  obtain ⟨i0, hi, hz0, hz1, hz2⟩ := info_parts Try.info4
  have := run_make (P := Try.prog) w 28 4 i0 _ Try.underlying28 hi hz0 .i64 .i64 n n (by omega) (by omega) (by rw [hz2]; omega) (by omega)
  rw [this, hz1]
  rfl
def boolF (f : Nat → Bool) : Nat → Nat → Value := fun i _ => .bool (f i)
theorem els_madeB (w : World) (n : Nat) : Els (w.alloc (.cells (mkB n) 4)) w.heap.size n 1 (boolF fun _ => false) :=
  (els_made w n 1 #[.bool false] rfl (by omega) 4).congr fun i hi j hj => by
    obtain rfl : j = 0 := by omega
    simp [boolF]

set_option maxRecDepth 20000 in
set_option maxHeartbeats 4000000 in
theorem zzc14 (ao : Option Addr) (n ac : Nat) (adj : Nat → List Nat) (ra : Nat → Option Addr) (rc : Nat → Nat) (w : World) (hn : n ≤ 65536) (hg : Good n adj) (hdeg : ∀ u, u < n → (adj u).length ≤ 1048576) (ha : AdjSl w ao n adj ra rc) :
    Calls Try.prog 14 #[.slice ao n ac] w (P37 n adj w) := by
  have HA : Hid (AdjSl w ao n adj ra rc) := ha
  have HG : Hid (Good n adj) := hg
  have HDEG : Hid (∀ u, u < n → (adj u).length ≤ 1048576) := hdeg
  clear ha hg hdeg
  have hmk := makeI n (by omega)
  go_enter Try.func14, Try.ntmps14
  go_wp2_with fail
  have hbel : Below w.heap.size w ((w.alloc (.cells (mkI n) 3)).alloc (.cells #[.slice (some ⟨w.heap.size, 0, none⟩) n n, .slice none 0 0, .slice none 0 0, .slice none 0 0, .slice ao n ac] 52)) := ((Below.refl _ _).alloc (Nat.le_refl _) _).alloc (by simp) _
  have hel := els_lit (w.alloc (.cells (mkI n) 3)) #[.slice (some ⟨w.heap.size, 0, none⟩) n n, .slice none 0 0, .slice none 0 0, .slice none 0 0, .slice ao n ac] 52
  rw [size_alloc'] at hel
  refine (components37 (w.heap.size + 1) n (some ⟨w.heap.size, 0, none⟩) n ao ac adj ra rc _ hn HG.out HDEG.out (hel.cell1 (i := 0) (by simp)) (hel.cell1 (i := 4) (by simp)) (HA.out.below hbel)).mono ?_
  rintro e w2 ⟨g, comp, k, rfl, hg, he, hc, hb⟩
  have HG2 : Hid (w.heap.size ≤ g) := Nat.le_trans hbel.size hg
  have HE : Hid (Els w2 g n 1 (intF comp)) := he
  have HC : Hid (Comps n adj comp k) := hc
  have HB : Hid (Below w.heap.size w w2) := hbel.trans (hb.mono hbel.size)
  clear hg he hc hb hbel hel hmk
  go_wp2
  go_ret
  exact ⟨g, comp, k, rfl, HG2.out, HE.out, HC.out, HB.out⟩
end Go.Proofs.Qxb6000570a
