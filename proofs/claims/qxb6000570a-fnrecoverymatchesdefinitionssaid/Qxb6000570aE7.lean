/-
  WALK: ZZRecoveryOf (27).
-/
import Derived.Test.Qxb6000570aE5
import Derived.Test.Qxb6000570aE6
namespace Go.Proofs.Qxb6000570a
open Go.RowKit
set_option linter.unusedVariables false
set_option linter.unusedSimpArgs false

theorem Try.info57 : (Try.prog.info? 57).map (fun i => (i.zero, i.size, i.bytes)) = some (some (.agg #[.int .u8 0, .int .i64 0, .string ⟨#[]⟩, .int .i64 0, .bool false]), 5, 48) := by kernel_rfl
theorem Try.info61 : (Try.prog.info? 61).map (fun i => (i.zero, i.size, i.bytes)) = some (some (.agg #[.int .u8 0, .int .i64 0]), 2, 16) := by kernel_rfl
def mkO (n : Nat) : Array Value := madeCells #[.int .u8 0, .int .i64 0, .string ⟨#[]⟩, .int .i64 0, .bool false] (n * 5)
theorem makeO (n : Nat) (hn : n ≤ 1048576) (w : World) : (Instr.makeSlice 54 (.int .i64 n) (.int .i64 n)).run Try.prog w = .ok (.slice (some ⟨w.heap.size, 0, none⟩) n n) (w.alloc (.cells (mkO n) 57)) := by
  obtain ⟨i0, hi, hz0, hz1, hz2⟩ := info_parts Try.info57
  have := run_make (P := Try.prog) w 54 57 i0 _ Try.underlying54 hi hz0 .i64 .i64 n n (by omega) (by omega) (by rw [hz2]; omega) (by omega)
  rw [this, hz1]
  rfl
def mkE (n : Nat) : Array Value := madeCells #[.int .u8 0, .int .i64 0] (n * 2)
theorem makeE (n : Nat) (hn : n ≤ 1048576) (w : World) : (Instr.makeSlice 58 (.int .i64 n) (.int .i64 n)).run Try.prog w = .ok (.slice (some ⟨w.heap.size, 0, none⟩) n n) (w.alloc (.cells (mkE n) 61)) := by
  obtain ⟨i0, hi, hz0, hz1, hz2⟩ := info_parts Try.info61
  have := run_make (P := Try.prog) w 58 61 i0 _ Try.underlying58 hi hz0 .i64 .i64 n n (by omega) (by omega) (by rw [hz2]; omega) (by omega)
  rw [this, hz1]
  rfl
def op0 : Nat → Value
  | 0 => .int .u8 0
  | 1 => .int .i64 0
  | 2 => .string ⟨#[]⟩
  | 3 => .int .i64 0
  | _ => .bool false
def opK (S : Sch) (k : Nat) : Nat → Nat → Value := fun i j => if i < k then opF S i j else op0 j
def end0 : Nat → Value
  | 0 => .int .u8 0
  | _ => .int .i64 0
def endK (EH : Nat → Nat) (EA : Nat → Int) (k : Nat) : Nat → Nat → Value := fun i j => if i < k then endF EH EA i j else end0 j
theorem els_madeO (w : World) (n : Nat) (S : Sch) : Els (w.alloc (.cells (mkO n) 57)) w.heap.size n 5 (opK S 0) :=
  (els_made w n 5 #[.int .u8 0, .int .i64 0, .string ⟨#[]⟩, .int .i64 0, .bool false] rfl (by omega) 57).congr fun i hi j hj => by
    have : j = 0 ∨ j = 1 ∨ j = 2 ∨ j = 3 ∨ j = 4 := by omega
    rcases this with rfl | rfl | rfl | rfl | rfl <;> simp [opK, op0]
theorem els_madeE (w : World) (n : Nat) (EH : Nat → Nat) (EA : Nat → Int) : Els (w.alloc (.cells (mkE n) 61)) w.heap.size n 2 (endK EH EA 0) :=
  (els_made w n 2 #[.int .u8 0, .int .i64 0] rfl (by omega) 61).congr fun i hi j hj => by
    have : j = 0 ∨ j = 1 := by omega
    rcases this with rfl | rfl <;> simp [endK, end0]
def schOf (lk : List Nat) (lx : List Int) (li : List ByteArray) (EH : Nat → Nat) (EA : Nat → Int) (O : Nat → Nat) : Sch := ⟨fun i => lk.getD i 0, fun i => lx.getD i 0, fun i => li.getD i ⟨#[]⟩, fun i => EH (O i), fun i => EA (O i)⟩

def P27 (S : Sch) (n : Nat) (w : World) (e : Ending) (w' : World) : Prop :=
  (∃ r a s g, e = .returned (.tuple #[.bool r, .bool a, .bool s, .bool g]) ∧ (r = true ↔ FC S n) ∧ (a = true ↔ FA S n) ∧ (s = true ↔ FS S n) ∧ (g = true ↔ FS S n ∧ FR S n)) ∧ Below w.heap.size w w'
set_option maxRecDepth 20000 in
set_option maxHeartbeats 2000000 in
theorem rec27 (ka : Option Addr) (kc : Nat) (lk : List Nat) (xa : Option Addr) (xc : Nat) (lx : List Int) (ia : Option Addr) (ic : Nat) (li : List ByteArray) (m hb ab ob : Nat) (EH : Nat → Nat) (EA : Nat → Int) (O : Nat → Nat) (w : World)
    (hn : lk.length ≤ 4096) (hlx : lx.length = lk.length) (hli : li.length = lk.length) (hm : m ≤ 4096) (hO : ∀ i, i < lk.length → O i < m) (hwf : Wf (schOf lk lx li EH EA O) lk.length)
    (hk : RowU w ka lk) (hx : RowZ w xa lx) (hi : RowS w ia li) (h1 : Els w hb m 1 (u8F EH)) (h2 : Els w ab m 1 (intF EA)) (h3 : Els w ob lk.length 1 (natF O)) :
    Calls Try.prog 27 #[.slice ka lk.length kc, .slice xa lk.length xc, .slice ia lk.length ic, .slice (some ⟨hb, 0, none⟩) m m, .slice (some ⟨ab, 0, none⟩) m m, .slice (some ⟨ob, 0, none⟩) lk.length lk.length] w (P27 (schOf lk lx li EH EA O) lk.length w) := by
  have HK : Hid (RowU w ka lk) := hk
  have HX : Hid (RowZ w xa lx) := hx
  have HI : Hid (RowS w ia li) := hi
  have H1 : Hid (Els w hb m 1 (u8F EH)) := h1
  have H2 : Hid (Els w ab m 1 (intF EA)) := h2
  have H3 : Hid (Els w ob lk.length 1 (natF O)) := h3
  have HL : Hid (lx.length = lk.length ∧ li.length = lk.length) := ⟨hlx, hli⟩
  have HO : Hid (∀ i, i < lk.length → O i < m) := hO
  have HWF : Hid (Wf (schOf lk lx li EH EA O) lk.length) := hwf
  obtain ⟨S, hS⟩ : ∃ S, S = schOf lk lx li EH EA O := ⟨_, rfl⟩
  have HS : Hid (S = schOf lk lx li EH EA O) := hS
  rw [← hS] at hwf ⊢
  have HWF : Hid (Wf S lk.length) := hwf
  clear hk hx hi h1 h2 h3 hlx hli hO hwf hS
  have hmo := makeO lk.length (by omega)
  have hme := makeE m (by omega)
  go_enter Try.func27, Try.ntmps27
  go_wp2
  go_loopw [17] (fun i wr => ∃ k : Nat, k ≤ lk.length ∧ i = .int .i64 k ∧ Els wr w.heap.size lk.length 5 (opK S k) ∧ Below w.heap.size w wr) (fun i _ => lk.length - (intOf i).toNat)
  case atStart => exact ⟨0, by omega, rfl, els_madeO _ _ _, (Below.refl _ _).alloc (Nat.le_refl _) _⟩
  case round =>
    obtain ⟨k, hk, rfl, he, hb⟩ := hrel
    have HE : Hid (Els wr w.heap.size lk.length 5 (opK S k)) := he
    have HB : Hid (Below w.heap.size w wr) := hb
    clear he hb
    by_cases hlt : k < lk.length
    · obtain ⟨kb, ko, hka, hkc⟩ := HK.out (by omega)
      obtain ⟨xb, xo, hxa, hxc⟩ := HX.out (by have := HL.out.1; omega)
      obtain ⟨ib, iof, hia, hic⟩ := HI.out (by have := HL.out.2; omega)
      subst hka hxa hia
      have hkx : k < lx.length := by have := HL.out.1; omega
      have hki : k < li.length := by have := HL.out.2; omega
      have d0 : wr.cell? ⟨kb, ko + k, none⟩ = some (.int .u8 (S.K k : Nat)) := by rw [cell_later HB.out (hkc k hlt), HS.out]; simp [schOf, List.getD, hlt]
      have d1 : wr.cell? ⟨xb, xo + k, none⟩ = some (.int .i64 (S.X k)) := by rw [cell_later HB.out (hxc k hkx), HS.out]; simp [schOf, List.getD, hkx]
      have d2 : wr.cell? ⟨ib, iof + k, none⟩ = some (.string (S.I k)) := by rw [cell_later HB.out (hic k hki), HS.out]; simp [schOf, List.getD, hki]
      have c0 := HE.out.cell hlt (j := 0) (by omega)
      have c1 := HE.out.cell hlt (j := 1) (by omega)
      have c2 := HE.out.cell hlt (j := 2) (by omega)
      have c3 := HE.out.cell hlt (j := 3) (by omega)
      have c4 := HE.out.cell hlt (j := 4) (by omega)
      simp only [opK, Nat.lt_irrefl, if_false, op0] at c0 c1 c2 c3 c4
      rw [Nat.add_zero] at c0
      have f0 := HE.out.free
      have h0 : (0:Int) ≤ (k : Int) := by omega
      have h1 : (k:Int) < ((lk.length : Nat) : Int) := by omega
      clear hkc hxc hic hme hmo
      go_wp2
      go_region
      go_wp2
      go_roundw
      case rel =>
        refine ⟨k + 1, by omega, by go_num, ?_, ?_⟩
        · refine (((((HE.out.set hlt (l := 0) (by omega) (.int .u8 (S.K k : Nat))).set hlt (l := 1) (by omega) (.int .i64 (S.X k))).set hlt (l := 2) (by omega) (.string (S.I k))).set hlt (l := 3) (by omega) (.int .i64 0)).set hlt (l := 4) (by omega) (.bool false)).drew.congr fun i hi j hj => ?_
          by_cases e : i = k
          · subst e
            have : j = 0 ∨ j = 1 ∨ j = 2 ∨ j = 3 ∨ j = 4 := by omega
            rcases this with rfl | rfl | rfl | rfl | rfl <;> simp [opK, opF]
          · have hik : i < k + 1 ↔ i < k := by omega
            simp [opK, e, hik]
        · exact Below.drewN' (((((HB.out.setCell (p := ⟨w.heap.size, k * 5, none⟩) (by simp) (.int .u8 (S.K k : Nat))).setCell (p := ⟨w.heap.size, k * 5 + 1, none⟩) (by simp) (.int .i64 (S.X k))).setCell (p := ⟨w.heap.size, k * 5 + 2, none⟩) (by simp) (.string (S.I k))).setCell (p := ⟨w.heap.size, k * 5 + 3, none⟩) (by simp) (.int .i64 0)).setCell (p := ⟨w.heap.size, k * 5 + 4, none⟩) (by simp) (.bool false)) 1
      case measure => simp [intOf]; omega
    · have : k = lk.length := by omega
      subst this
      have HE0 : Hid (Els wr w.heap.size lk.length 5 (opF S)) := HE.out.congr fun i hi j hj => by simp [opK, hi]
      have lo : w.heap.size < wr.heap.size := HE.out.lt
      clear hmo HE HK HX HI
      rename World => w1
      go_wp2
      clear hme
      have HEN : Hid (Els (w1.alloc (.cells (mkE m) 61)) w1.heap.size m 2 (endK EH EA 0)) := els_madeE w1 m EH EA
      go_loopw [19] (fun i wr => ∃ k : Nat, k ≤ m ∧ i = .int .i64 k ∧ Els wr w1.heap.size m 2 (endK EH EA k) ∧ Below w1.heap.size w1 wr) (fun i _ => m - (intOf i).toNat)
      case atStart => exact ⟨0, by omega, rfl, HEN.out, (Below.refl _ _).alloc (Nat.le_refl _) _⟩
      case round =>
        clear HEN
        obtain ⟨k, hk, rfl, he, hb2⟩ := hrel
        have HE : Hid (Els wr w1.heap.size m 2 (endK EH EA k)) := he
        have HB2 : Hid (Below w1.heap.size w1 wr) := hb2
        have HB3 : Hid (Below w.heap.size w wr) := HB.out.trans (hb2.mono HB.out.size)
        clear he hb2
        by_cases hlt2 : k < m
        · have d0 : wr.cell? ⟨hb, k, none⟩ = some (.int .u8 (EH k : Nat)) := by simpa [u8F] using cell_later HB3.out (H1.out.cell1 hlt2)
          have d1 : wr.cell? ⟨ab, k, none⟩ = some (.int .i64 (EA k)) := by simpa [intF] using cell_later HB3.out (H2.out.cell1 hlt2)
          have c0 := HE.out.cell hlt2 (j := 0) (by omega)
          have c1 := HE.out.cell hlt2 (j := 1) (by omega)
          simp only [endK, Nat.lt_irrefl, if_false, end0] at c0 c1
          rw [Nat.add_zero] at c0
          have f0 := HE.out.free
          have h0 : (0:Int) ≤ (k : Int) := by omega
          have h1 : (k:Int) < (m : Int) := by omega
          go_wp2
          go_region
          go_wp2
          go_roundw
          case rel =>
            refine ⟨k + 1, by omega, by go_num, ?_, ?_⟩
            · refine ((HE.out.set hlt2 (l := 0) (by omega) (.int .u8 (EH k : Nat))).set hlt2 (l := 1) (by omega) (.int .i64 (EA k))).drew.congr fun i hi j hj => ?_
              by_cases e : i = k
              · subst e
                have : j = 0 ∨ j = 1 := by omega
                rcases this with rfl | rfl <;> simp [endK, endF]
              · have hik : i < k + 1 ↔ i < k := by omega
                simp [endK, e, hik]
            · exact Below.drewN' ((HB2.out.setCell (p := ⟨w1.heap.size, k * 2, none⟩) (by simp) (.int .u8 (EH k : Nat))).setCell (p := ⟨w1.heap.size, k * 2 + 1, none⟩) (by simp) (.int .i64 (EA k))) 1
          case measure => simp [intOf]; omega
        · have : k = m := by omega
          subst this
          rename World => w2
          have HIN : Hid (In38 S (w2.alloc (.cells #[.slice none 0 0, .slice (some ⟨w1.heap.size, 0, none⟩) k k, .slice (some ⟨ob, 0, none⟩) lk.length lk.length] 67)) lk.length w.heap.size w2.heap.size w1.heap.size k (some ⟨ob, 0, none⟩) lk.length EH EA O) := by
            have hal : Below w2.heap.size w2 (w2.alloc (.cells #[.slice none 0 0, .slice (some ⟨w1.heap.size, 0, none⟩) k k, .slice (some ⟨ob, 0, none⟩) lk.length lk.length] 67)) := (Below.refl _ _).alloc (Nat.le_refl _) _
            refine ⟨(HE0.out.below HB2.out lo).alloc _, (els_lit w2 #[.slice none 0 0, .slice (some ⟨w1.heap.size, 0, none⟩) k k, .slice (some ⟨ob, 0, none⟩) lk.length lk.length] 67).cell1 (i := 1) (by simp), (els_lit w2 #[.slice none 0 0, .slice (some ⟨w1.heap.size, 0, none⟩) k k, .slice (some ⟨ob, 0, none⟩) lk.length lk.length] 67).cell1 (i := 2) (by simp), ?_, fun _ => ⟨ob, 0, rfl, fun i hi => ?_⟩, fun i hi => ⟨HO.out i hi, by rw [HS.out]; rfl, by rw [HS.out]; rfl⟩⟩
            · exact (HE.out.congr fun i hi j hj => by simp [endK, hi]).alloc _
            · rw [Nat.zero_add]; simpa [natF] using cell_later (HB3.out.trans (hal.mono HB3.out.size)) (H3.out.cell1 hi)
          go_wp2_with fail
          refine (rec38 S lk.length w.heap.size w2.heap.size w1.heap.size k (some ⟨ob, 0, none⟩) lk.length EH EA O _ hn HWF.out HIN.out).mono ?_
          rintro e w3 ⟨⟨r, a, s, g, rfl, q1, q2, q3, q4⟩, hb3⟩
          have HQ : Hid ((r = true ↔ FC S lk.length) ∧ (a = true ↔ FA S lk.length) ∧ (s = true ↔ FS S lk.length) ∧ (g = true ↔ FS S lk.length ∧ FR S lk.length)) := ⟨q1, q2, q3, q4⟩
          have HB4 : Hid (Below w.heap.size w w3) := (HB3.out.alloc HB3.out.size _).trans (hb3.mono (by have := HB3.out.size; simp; omega))
          clear q1 q2 q3 q4 hb3
          go_wp2
          go_quiet (fail)
          go_wp2
          refine bodyPost_ret (v := .tuple #[.bool r, .bool a, .bool s, .bool g]) ?_ rfl ?_
          · simp [results, Try.results27, go_sem]
          exact ⟨⟨r, a, s, g, rfl, HQ.out⟩, Below.drewN' (HB4.out.alloc HB4.out.size _) _⟩
end Go.Proofs.Qxb6000570a
