/-
  WALKS: writtenColumns (42), ZZWrittenColumns (29).
-/
import Derived.Test.Qxb6000463aW2
namespace Go.Proofs.Qxb6000463a
open Go.RowKit
set_option linter.unusedVariables false
set_option linter.unusedSimpArgs false

/-- The written name of the last of the first n columns under the name s; s itself where none has it. -/
def look (A B : Nat → ByteArray) (s : ByteArray) : Nat → ByteArray
  | 0 => s
  | k + 1 => if (A k).toList == s.toList then B k else look A B s k
def lookK (A B S : Nat → ByteArray) (n k : Nat) (i j : Nat) : Value := if i < k then .string (look A B (S i) n) else .string ⟨#[]⟩
def lookL (A B S : Nat → ByteArray) (n k l : Nat) (i j : Nat) : Value := if i < k then .string (look A B (S i) n) else if i = k then .string (look A B (S i) l) else .string ⟨#[]⟩
def lookEl (A B S : Nat → ByteArray) (n : Nat) (i j : Nat) : Value := .string (look A B (S i) n)

theorem look_start {w : World} {b m n k : Nat} {A B S : Nat → ByteArray} (h : Els w b m 1 (lookK A B S n k)) (hk : k < m) : Els (w.setCell ⟨b, k, none⟩ (.string (S k))) b m 1 (lookL A B S n k 0) := by
  refine (h.set1 hk _).congr fun i hi j hj => ?_
  obtain rfl : j = 0 := by omega
  by_cases e : i = k
  · subst e; simp [lookL, look]
  · simp [lookK, lookL, e]
theorem look_hit {w : World} {b m n k l : Nat} {A B S : Nat → ByteArray} (h : Els w b m 1 (lookL A B S n k l)) (hk : k < m) (he : ((A l).toList == (S k).toList) = true) : Els (w.setCell ⟨b, k, none⟩ (.string (B l))) b m 1 (lookL A B S n k (l + 1)) := by
  refine (h.set1 hk _).congr fun i hi j hj => ?_
  obtain rfl : j = 0 := by omega
  by_cases e : i = k
  · subst e; simp only [lookL, look, he]; simp
  · simp [lookL, e]
theorem look_miss {w : World} {b m n k l : Nat} {A B S : Nat → ByteArray} (h : Els w b m 1 (lookL A B S n k l)) (he : ((A l).toList == (S k).toList) = false) : Els w b m 1 (lookL A B S n k (l + 1)) := by
  refine h.congr fun i hi j hj => ?_
  by_cases e : i = k
  · subst e; simp only [lookL, look, he]; simp
  · simp [lookL, e]
theorem look_done {w : World} {b m n k : Nat} {A B S : Nat → ByteArray} (h : Els w b m 1 (lookL A B S n k n)) : Els w b m 1 (lookK A B S n (k + 1)) := by
  refine h.congr fun i hi j hj => ?_
  by_cases e : i = k
  · subst e; simp [lookL, lookK]
  · have : i < k ↔ i < k + 1 := by omega
    simp [lookL, lookK, e, this]

def P42 (n m : Nat) (A B S : Nat → ByteArray) (w : World) (e : Ending) (w' : World) : Prop :=
  ∃ g, e = .returned (.slice (some ⟨g, 0, none⟩) m m) ∧ w.heap.size ≤ g ∧ Els w' g m 1 (lookEl A B S n) ∧ Below w.heap.size w w'

def tblA (g n : Nat) : Array Value := #[.string ⟨#[]⟩, .string ⟨#[116]⟩, .string ⟨#[116]⟩, .int .u32 0, .string ⟨#[]⟩, .string ⟨#[]⟩, .string ⟨#[]⟩, .slice (some ⟨g, 0, none⟩) n n, .slice none 0 0, .slice none 0 0, .bool false]

set_option maxHeartbeats 400000 in
theorem written42 (gc n : Nat) (A B : Nat → ByteArray) (w : World) (hn : n ≤ 4096) (hcols : Els w gc n 8 (colEl A B))
    (ao : Option Addr) (m c : Nat) (S : Nat → ByteArray) (hm : m ≤ 4096) (hs : StrSl w ao m S) :
    Calls Try.prog 42 #[tbl gc n, .slice ao m c] w (P42 n m A B S w) := by
  have hmk := make9 m (by omega)
  unfold tbl
  go_enter Try.func42, Try.ntmps42
  go_wp2
  go_loopw [6, 7, 15] (fun _ _ i wr => ∃ k : Nat, k ≤ m ∧ i = .int .i64 k ∧ Below (w.heap.size + 1) (w.alloc (.cells (tblA gc n) 34)) wr ∧ Els wr (w.heap.size + 1) m 1 (lookK A B S n k)) (fun _ _ i _ => m - (intOf i).toNat)
  case atStart =>
    refine ⟨0, by omega, rfl, ?_, ?_⟩
    · exact (Below.refl _ _).alloc (by simp) _
    · refine (size_alloc' w _ ▸ els_made (w.alloc _) m 1 #[.string ⟨#[]⟩] rfl (by omega) 9).congr fun i hi j hj => ?_
      obtain rfl : j = 0 := by omega
      simp [lookK]
  case round =>
    obtain ⟨k, hk, rfl, hb, hel⟩ := hrel
    have HB : Hid (Below (w.heap.size + 1) (w.alloc (.cells (tblA gc n) 34)) wr) := hb
    have HE : Hid (Els wr (w.heap.size + 1) m 1 (lookK A B S n k)) := hel
    by_cases hlt : k < m
    · obtain ⟨b, off, rfl, hcc⟩ := hs (by omega)
      have hcell := hcc k hlt
      have hwB : Below w.heap.size w wr := ((Below.refl _ _).alloc (Nat.le_refl _) _).trans (hb.mono (by omega))
      have g1 := cell_later hwB hcell
      have d0 := hel.cell1 hlt
      have f0 := hel.free
      have hbox : wr.cell? ⟨w.heap.size, 7, none⟩ = some (.slice (some ⟨gc, 0, none⟩) n n) := by
        rw [hb.cell (p := ⟨w.heap.size, 7, none⟩) (by simp)]
        exact (els_lit w (tblA gc n) 34).cell1 (i := 7) (by simp [tblA])
      have HC : Hid (Els w gc n 8 (colEl A B)) := hcols
      clear hb hel hcc hs hwB hcols
      go_wp2
      go_loopw [9, 27] (fun _ j w2 => ∃ l : Nat, l ≤ n ∧ j = .int .i64 l ∧ Below (w.heap.size + 1) (w.alloc (.cells (tblA gc n) 34)) w2 ∧ Els w2 (w.heap.size + 1) m 1 (lookL A B S n k l)) (fun _ j _ => n - (intOf j).toNat)
      case atStart => exact ⟨0, by omega, rfl, HB.out.setCell (by simp) _, look_start HE.out hlt⟩
      case round =>
        obtain ⟨l, hl, rfl, hb2, hel2⟩ := hrel
        clear HE hbox f0 d0 g1
        by_cases hlt2 : l < n
        · have hwB : Below w.heap.size w wr := ((Below.refl _ _).alloc (Nat.le_refl _) _).trans (hb2.mono (by omega))
          have hcl := HC.out.below hwB HC.out.lt
          have e0 := hcl.cell hlt2 (j := 0) (by omega)
          have e1 := hcl.cell hlt2 (j := 1) (by omega)
          have e2 := hcl.cell hlt2 (j := 2) (by omega)
          have e3 := hcl.cell hlt2 (j := 3) (by omega)
          have e4 := hcl.cell hlt2 (j := 4) (by omega)
          have e5 := hcl.cell hlt2 (j := 5) (by omega)
          have e6 := hcl.cell hlt2 (j := 6) (by omega)
          have e7 := hcl.cell hlt2 (j := 7) (by omega)
          simp only [Nat.add_zero, colEl] at e0 e1 e2 e3 e4 e5 e6 e7
          have d0 := hel2.cell1 hlt
          have f0 := hel2.free
          have hsz : w.heap.size + 1 < wr.heap.size := hel2.lt
          have HB2 : Hid (Below (w.heap.size + 1) (w.alloc (.cells (tblA gc n) 34)) wr) := hb2
          have HE2 : Hid (Els wr (w.heap.size + 1) m 1 (lookL A B S n k l)) := hel2
          clear hb2 hel2 hwB hcl HB
          by_cases hq : ((A l).toList == (S k).toList) = true
          · go_wp2
            go_roundw
            case rel => exact ⟨l + 1, by omega, by go_num, (HB2.out.setCell (by simp) _).alloc (by simp; omega) _, (look_hit HE2.out hlt hq).alloc _⟩
            case measure => simp [intOf]; omega
          · replace hq : ((A l).toList == (S k).toList) = false := by simpa using hq
            go_wp2
            go_roundw
            case rel => exact ⟨l + 1, by omega, by go_num, (HB2.out.alloc (by omega) _), look_miss (HE2.out.alloc _) hq⟩
            case measure => simp [intOf]; omega
        · have : l = n := by omega
          subst this
          have HB2 : Hid (Below (w.heap.size + 1) (w.alloc (.cells (tblA gc l) 34)) wr) := hb2
          have HE2 : Hid (Els wr (w.heap.size + 1) m 1 (lookL A B S l k l)) := hel2
          clear hb2 hel2 HB
          go_wp2
          go_roundw
          case rel => exact ⟨k + 1, by omega, by go_num, HB2.out, look_done HE2.out⟩
          case measure => simp [intOf]; omega
    · have : k = m := by omega
      subst this
      clear hb hel hs
      go_wp2
      go_ret
      exact ⟨_, rfl, by omega, HE.out.congr fun i hi j hj => by simp [lookK, lookEl, hi], ((Below.refl _ _).alloc (Nat.le_refl _) _).trans (HB.out.mono (by omega))⟩

set_option maxHeartbeats 400000 in
theorem zz29 (gc n : Nat) (A B : Nat → ByteArray) (w : World) (hn : n ≤ 4096) (hcols : Els w gc n 8 (colEl A B))
    (ao : Option Addr) (m c : Nat) (S : Nat → ByteArray) (hm : m ≤ 4096) (hs : StrSl w ao m S) :
    Calls Try.prog 29 #[tbl gc n, .slice ao m c] w (P42 n m A B S w) := by
  have hsA : StrSl (w.alloc (.cells (tblA gc n) 34)) ao m S := fun h => by
    obtain ⟨b, off, e, hc⟩ := hs h
    exact ⟨b, off, e, fun k hk => cell_later ((Below.refl _ _).alloc (Nat.le_refl _) _) (hc k hk)⟩
  have HW : Hid (Calls Try.prog 42 #[tbl gc n, .slice ao m c] (w.alloc (.cells (tblA gc n) 34)) (P42 n m A B S (w.alloc (.cells (tblA gc n) 34)))) := written42 gc n A B _ hn (hcols.alloc _) ao m c S hm hsA
  clear hsA hs hcols
  unfold tbl
  go_enter Try.func29, Try.ntmps29
  go_wp2_with (go_at_call 42; refine HW.out.mono ?_; rintro e w' ⟨g, rfl, h1, h2, h3⟩)
  go_ret
  have hs1 := size_alloc' w (.cells (tblA gc n) 34)
  exact ⟨g, rfl, by omega, h2, ((Below.refl _ _).alloc (Nat.le_refl _) _).trans (h3.mono (by omega))⟩
end Go.Proofs.Qxb6000463a
