/-
  WALKS: wTable (30), writtenColumns (42), ZZWrittenColumns (29).
-/
import Derived.Test.Qxb6000463aW1
namespace Go.Proofs.Qxb6000463a
open Go.RowKit
set_option linter.unusedVariables false
set_option linter.unusedSimpArgs false

theorem Try.info39 : (Try.prog.info? 39).map (fun i => (i.zero, i.size, i.bytes)) = some (some (.agg #[.string ⟨#[]⟩, .string ⟨#[]⟩, .int .i64 0, .string ⟨#[]⟩, .bool false, .string ⟨#[]⟩, .bool false, .string ⟨#[]⟩]), 8, 104) := by kernel_rfl
theorem Try.info9 : (Try.prog.info? 9).map (fun i => (i.zero, i.size, i.bytes)) = some (some (.string ⟨#[]⟩), 1, 16) := by kernel_rfl

def z39 : Array Value := #[.string ⟨#[]⟩, .string ⟨#[]⟩, .int .i64 0, .string ⟨#[]⟩, .bool false, .string ⟨#[]⟩, .bool false, .string ⟨#[]⟩]
def mk39 (n : Nat) : Array Value := madeCells z39 (n * 8)
def mk9 (n : Nat) : Array Value := madeCells #[.string ⟨#[]⟩] (n * 1)

theorem make39 (n : Nat) (hn : n ≤ 1048576) (w : World) : (Instr.makeSlice 30 (.int .i64 n) (.int .i64 n)).run Try.prog w = .ok (.slice (some ⟨w.heap.size, 0, none⟩) n n) (w.alloc (.cells (mk39 n) 39)) := by
  obtain ⟨i0, hi, hz0, hz1, hz2⟩ := info_parts Try.info39
  have := run_make (P := Try.prog) w 30 39 i0 _ Try.underlying30 hi hz0 .i64 .i64 n n (by omega) (by omega) (by rw [hz2]; omega) (by omega)
  rw [this, hz1]
  rfl
theorem make9 (n : Nat) (hn : n ≤ 1048576) (w : World) : (Instr.makeSlice 35 (.int .i64 n) (.int .i64 n)).run Try.prog w = .ok (.slice (some ⟨w.heap.size, 0, none⟩) n n) (w.alloc (.cells (mk9 n) 9)) := by
  obtain ⟨i0, hi, hz0, hz1, hz2⟩ := info_parts Try.info9
  have := run_make (P := Try.prog) w 35 9 i0 _ Try.underlying35 hi hz0 .i64 .i64 n n (by omega) (by omega) (by rw [hz2]; omega) (by omega)
  rw [this, hz1]
  rfl

/-- The cells of an OutlineColumn that wTable makes. -/
def colEl (A B : Nat → ByteArray) (i : Nat) : Nat → Value
  | 0 => .string (A i)
  | 1 => .string (B i)
  | 2 => .int .i64 ((i : Int) + 1)
  | 3 => .string ⟨#[]⟩
  | 4 => .bool false
  | 5 => .string ⟨#[]⟩
  | 6 => .bool false
  | _ => .string ⟨#[]⟩
def colK (A B : Nat → ByteArray) (k : Nat) (i j : Nat) : Value := if i < k then colEl A B i j else z39[j]!

theorem colK_step {w : World} {b n k : Nat} {A B : Nat → ByteArray} (h : Els w b n 8 (colK A B k)) (hk : k < n) :
    Els ((((((((w.setCell ⟨b, k * 8, none⟩ (.string (A k))).setCell ⟨b, k * 8 + 1, none⟩ (.string (B k))).setCell ⟨b, k * 8 + 2, none⟩ (.int .i64 ((k : Int) + 1))).setCell ⟨b, k * 8 + 3, none⟩ (.string ⟨#[]⟩)).setCell
      ⟨b, k * 8 + 4, none⟩ (.bool false)).setCell ⟨b, k * 8 + 5, none⟩ (.string ⟨#[]⟩)).setCell ⟨b, k * 8 + 6, none⟩ (.bool false)).setCell ⟨b, k * 8 + 7, none⟩ (.string ⟨#[]⟩)).drew b n 8 (colK A B (k + 1)) := by
  have := ((((((((h.set hk (l := 0) (by omega) (.string (A k))).set hk (l := 1) (by omega) (.string (B k))).set hk (l := 2) (by omega) (.int .i64 ((k : Int) + 1))).set hk (l := 3) (by omega) (.string ⟨#[]⟩)).set hk (l := 4) (by omega) (.bool false)).set
    hk (l := 5) (by omega) (.string ⟨#[]⟩)).set hk (l := 6) (by omega) (.bool false)).set hk (l := 7) (by omega) (.string ⟨#[]⟩)).drew
  refine this.congr fun i hi j hj => ?_
  by_cases e : i = k
  · subst e
    have : j = 0 ∨ j = 1 ∨ j = 2 ∨ j = 3 ∨ j = 4 ∨ j = 5 ∨ j = 6 ∨ j = 7 := by omega
    rcases this with rfl | rfl | rfl | rfl | rfl | rfl | rfl | rfl <;> simp [colK, colEl]
  · simp only [e, false_and, if_false, colK]
    have : i < k ↔ i < k + 1 := by omega
    simp only [this]

/-- The table that wTable makes, its columns' slice over block g. -/
def tbl (g n : Nat) : Value := .agg #[.string ⟨#[]⟩, .string ⟨#[116]⟩, .string ⟨#[116]⟩, .int .u32 0, .string ⟨#[]⟩, .string ⟨#[]⟩, .string ⟨#[]⟩, .slice (some ⟨g, 0, none⟩) n n, .slice none 0 0, .slice none 0 0, .bool false]

def P30 (n : Nat) (A B : Nat → ByteArray) (w : World) (e : Ending) (w' : World) : Prop :=
  ∃ g, e = .returned (tbl g n) ∧ w.heap.size ≤ g ∧ Els w' g n 8 (colEl A B) ∧ Below w.heap.size w w'

set_option maxHeartbeats 400000 in
theorem wTable30 (ao : Option Addr) (n c : Nat) (A B : Nat → ByteArray) (w : World) (hn : n ≤ 4096)
   (hc : ColSl w ao n A B) : Calls Try.prog 30 #[.slice ao n c] w (P30 n A B w) := by
  have hmk := make39 n (by omega)
  go_enter Try.func30, Try.ntmps30
  go_wp2
  go_loopw [4] (fun i wr => ∃ k : Nat, k ≤ n ∧ i = .int .i64 k ∧ Below w.heap.size w wr ∧ Els wr (w.heap.size + 1) n 8 (colK A B k) ∧ ∃ f, Els wr w.heap.size 11 1 f) (fun i _ => n - (intOf i).toNat)
  case atStart =>
    refine ⟨0, by omega, rfl, ?_, ?_, ?_⟩
    · exact ((Below.refl _ _).alloc (Nat.le_refl _) _).alloc (by simp) _
    · refine (size_alloc' w _ ▸ els_made (w.alloc _) n 8 z39 rfl (by omega) 39).congr fun i hi j hj => ?_
      simp [colK]
    · exact ⟨_, (els_lit w _ 34).alloc _⟩
  case round =>
    obtain ⟨k, hk, rfl, hb, hel, hres⟩ := hrel
    have HB : Hid (Below w.heap.size w wr) := hb
    have HE : Hid (Els wr (w.heap.size + 1) n 8 (colK A B k)) := hel
    have HR : Hid (∃ f, Els wr w.heap.size 11 1 f) := hres
    clear hres
    by_cases hlt : k < n
    · obtain ⟨b, off, rfl, hcc⟩ := hc (by omega)
      obtain ⟨hcell, hcell2⟩ := hcc k hlt
      have hk0 : (0:Int) ≤ (k : Int) := by omega
      have hlt' : (k:Int) < (n:Int) := by omega
      have g1 := cell_later hb hcell
      have g2 := cell_later hb hcell2
      have d0 := hel.cell hlt (j := 0) (by omega)
      have d1 := hel.cell hlt (j := 1) (by omega)
      have d2 := hel.cell hlt (j := 2) (by omega)
      have d3 := hel.cell hlt (j := 3) (by omega)
      have d4 := hel.cell hlt (j := 4) (by omega)
      have d5 := hel.cell hlt (j := 5) (by omega)
      have d6 := hel.cell hlt (j := 6) (by omega)
      have d7 := hel.cell hlt (j := 7) (by omega)
      have f0 := hel.free
      simp only [Nat.add_zero] at d0
      clear hcc hc hb hel hcell hcell2
      go_wp2
      go_region
      go_wp2
      go_roundw
      case rel =>
        refine ⟨k + 1, by omega, by go_num, ?_, colK_step HE.out hlt, ?_⟩
        · exact ((((((((HB.out.setCell (by simp) _).setCell (by simp) _).setCell (by simp) _).setCell (by simp) _).setCell (by simp) _).setCell (by simp) _).setCell (by simp) _).setCell (by simp) _).drew
        · obtain ⟨f, hf⟩ := HR.out
          exact ⟨f, ((((((((hf.other (by simp) _).other (by simp) _).other (by simp) _).other (by simp) _).other (by simp) _).other (by simp) _).other (by simp) _).other (by simp) _).drew⟩
      case measure => simp [intOf]; omega
    · have : k = n := by omega
      subst this
      obtain ⟨f, hf⟩ := HR.out
      have d0 := hf.cell1 (i := 0) (by omega)
      have d1 := hf.cell1 (i := 1) (by omega)
      have d2 := hf.cell1 (i := 2) (by omega)
      have d3 := hf.cell1 (i := 3) (by omega)
      have d4 := hf.cell1 (i := 4) (by omega)
      have d5 := hf.cell1 (i := 5) (by omega)
      have d6 := hf.cell1 (i := 6) (by omega)
      have d7 := hf.cell1 (i := 7) (by omega)
      have d8 := hf.cell1 (i := 8) (by omega)
      have d9 := hf.cell1 (i := 9) (by omega)
      have d10 := hf.cell1 (i := 10) (by omega)
      have f0 := hf.free
      have HF : Hid (Els wr w.heap.size 11 1 f) := hf
      clear hf hb hel hc hmk
      go_wp2
      refine bodyPost_ret (v := tbl (w.heap.size + 1) k) (by simp [results, Try.results30, go_sem, tbl, d0, d1, d2, d3, d4, d5, d6, d7, d8, d9, d10]; done) rfl ?_
      refine ⟨w.heap.size + 1, rfl, by omega, ?_, ?_⟩
      · refine (((((((((((HE.out.other (by simp) _).other (by simp) _).other (by simp) _).other (by simp) _).other (by simp) _).other (by simp) _).other (by simp) _).other (by simp) _).other (by simp) _).other (by simp) _).other (by simp) _).congr fun i hi j hj => ?_
        simp [colK, hi]
      · exact ((((((((((HB.out.setCell (by simp) _).setCell (by simp) _).setCell (by simp) _).setCell (by simp) _).setCell (by simp) _).setCell (by simp) _).setCell (by simp) _).setCell (by simp) _).setCell (by simp) _).setCell (by simp) _).setCell (by simp) _
end Go.Proofs.Qxb6000463a
