/-
  WALK for the law on Renames: Renames (13), at two outlines that differ at one table, one column, one partition.
-/
import Derived.Test.Qxb6000463aR4
namespace Go.Proofs.Qxb6000463a
open Go.RowKit
set_option linter.unusedVariables false
set_option linter.unusedSimpArgs false

theorem World.lt_of_block' {w : World} {b : Nat} {o : Obj} (h : w.heap[b]? = some o) : b < w.heap.size := by
  by_cases hb : b < w.heap.size
  · exact hb
  · rw [Array.getElem?_eq_none (by omega)] at h; cases h

/-- Two outlines of one shape that differ at table k alone, there at column c and partition q alone. -/
structure OneEdit (n k c q : Nat) (O O' : OD) : Prop where
  nc : O'.nc = O.nc
  np : O'.np = O.np
  sch : ∀ i, i < n → i ≠ k → O'.sch i = O.sch i
  nam : ∀ i, i < n → i ≠ k → O'.nam i = O.nam i
  col : ∀ i j, i < n → j < O.nc i → ¬ (i = k ∧ j = c) → O'.col i j = O.col i j
  prt : ∀ i j, i < n → j < O.np i → ¬ (i = k ∧ j = q) → O'.prt i j = O.prt i j

/-- Is column c of table k among the first j of table i, and another in O' than in O? -/
def hitC (k c : Nat) (O O' : OD) (i j : Nat) : Bool := decide (i = k) && decide (c < j) && (!((O.col k c).toList == (O'.col k c).toList))
def hitP (k q : Nat) (O O' : OD) (i j : Nat) : Bool := decide (i = k) && decide (q < j) && (!((O.prt k q).toList == (O'.prt k q).toList))
def cmap (k c : Nat) (O O' : OD) (i j : Nat) : Obj := if hitC k c O O' i j then .map #[{ key := .string (O.col k c), val := .agg (colA (O'.col k) c), born := 0 }] 1 else .map #[] 0
def pmap (k q : Nat) (O O' : OD) (i j : Nat) : Obj := if hitP k q O O' i j then .map #[{ key := .string (O.prt k q), val := .string (O'.prt k q), born := 0 }] 1 else .map #[] 0
/-- Does table k show a change? -/
def chg (k c q : Nat) (O O' : OD) : Bool := (!((O.sch k).toList == (O'.sch k).toList)) || (!((O.nam k).toList == (O'.nam k).toList)) || hitC k c O O' k (O.nc k) || hitP k q O O' k (O.np k)

/-- The one element: the table as it was and as it is, the two maps. -/
def renL (bO bN k mc mp : Nat) (O O' : OD) : List Value := (tabA bO O k).toList ++ (tabA bN O' k).toList ++ [.map (some mc), .map (some mp)]
def Res (bO bN k c q : Nat) (O O' : OD) (v : Value) (w : World) : Prop :=
  ∃ g cap mc mp, v = .slice (some ⟨g, 0, none⟩) 1 cap ∧ (∀ j u, (renL bO bN k mc mp O O')[j]? = some u → w.cell? ⟨g, j, none⟩ = some u) ∧
    w.heap[mc]? = some (cmap k c O O' k (O.nc k)) ∧ w.heap[mp]? = some (pmap k q O O' k (O.np k)) ∧ g < w.heap.size ∧ mc < w.heap.size ∧ mp < w.heap.size
def Ren (bO bN k c q : Nat) (O O' : OD) (i : Nat) (v : Value) (w : World) : Prop :=
  if k < i ∧ chg k c q O O' = true then Res bO bN k c q O O' v w else v = .slice none 0 0

theorem Ren.below {bO bN k c q : Nat} {O O' : OD} {i : Nat} {v : Value} {w w' : World} (h : Ren bO bN k c q O O' i v w) (hb : Below w.heap.size w w') : Ren bO bN k c q O O' i v w' := by
  unfold Ren at *
  split
  · rename_i hc
    rw [if_pos hc] at h
    obtain ⟨g, cap, mc, mp, e1, e2, e3, e4, e5, e6, e7⟩ := h
    have := hb.size
    exact ⟨g, cap, mc, mp, e1, fun j u hj => (hb.cell (p := ⟨g, j, none⟩) e5).trans (e2 j u hj), (hb.block mc e6).trans e3, (hb.block mp e7).trans e4, by omega, by omega, by omega⟩
  · rename_i hc
    rw [if_neg hc] at h
    exact h

def P13 (bO bN n k c q : Nat) (O O' : OD) (w : World) (e : Ending) (w' : World) : Prop :=
  (∃ v, e = .returned v ∧ Ren bO bN k c q O O' n v w') ∧ Below w.heap.size w w'

theorem Outl.below {w w' : World} {b n : Nat} {O : OD} (h : Outl w b n O) (hb : Below w.heap.size w w') : Outl w' b n O :=
  ⟨h.tab.below hb h.tab.lt, fun i hi => (h.cols i hi).below hb (h.cols i hi).lt, fun i hi => (h.fks i hi).below hb (h.fks i hi).lt⟩

def tabAN (b : Nat) (O O' : OD) (i : Nat) : Array Value := #[.string (O'.sch i), .string (O'.nam i), .string (O'.nam i), .int .u32 ((i : Int) + 1), .string ⟨#[]⟩, .string ⟨#[]⟩, .string ⟨#[]⟩, .slice (some ⟨b + 2 + 2 * i, 0, none⟩) (O.nc i) (O.nc i), .slice none 0 0, .slice (some ⟨b + 3 + 2 * i, 0, none⟩) (O.np i) (O.np i), .bool false]
theorem start3 (wA : World) (bO bN : Nat) (O O' : OD) (i : Nat) : Below wA.heap.size wA (((wA.alloc (.cells (tabAN bN O O' i) 34)).alloc (.cells (tabA bO O i) 34)).alloc (.map #[] 0)) ∧
    Els (((wA.alloc (.cells (tabAN bN O O' i) 34)).alloc (.cells (tabA bO O i) 34)).alloc (.map #[] 0)) wA.heap.size 11 1 (fun j _ => (tabAN bN O O' i)[j]!) ∧ Els (((wA.alloc (.cells (tabAN bN O O' i) 34)).alloc (.cells (tabA bO O i) 34)).alloc (.map #[] 0)) (wA.heap.size + 1) 11 1 (fun j _ => (tabA bO O i)[j]!) ∧
    (((wA.alloc (.cells (tabAN bN O O' i) 34)).alloc (.cells (tabA bO O i) 34)).alloc (.map #[] 0)).heap[wA.heap.size + 1 + 1]? = some (.map (ents colKey (colVal (O.col i)) 0) 0) := by
  refine ⟨(((Below.refl _ _).alloc (Nat.le_refl _) _).alloc (by simp) _).alloc (by simp; omega) _, ((els_lit wA _ 34).alloc _).alloc _, ?_, ?_⟩
  · have := (els_lit (wA.alloc (.cells (tabAN bN O O' i) 34)) (tabA bO O i) 34).alloc (.map #[] 0)
    rw [size_alloc'] at this
    exact this
  · have h : ((wA.alloc (.cells (tabAN bN O O' i) 34)).alloc (.cells (tabA bO O i) 34)).heap.size = wA.heap.size + 1 + 1 := by rw [size_alloc', size_alloc']
    rw [← h]
    show (Array.push _ _)[_]? = _
    rw [Array.getElem?_push_size]
    rfl

theorem OneEdit.whereC {n k c q : Nat} {O O' : OD} (h : OneEdit n k c q O O') {i l : Nat} (hi : i < n) (hl : l < O.nc i) (hd : ((O.col i l).toList == (O'.col i l).toList) = false) : i = k ∧ l = c := by
  by_cases hc : i = k ∧ l = c
  · exact hc
  · rw [h.col i l hi hl hc] at hd; simp at hd
theorem OneEdit.whereP {n k c q : Nat} {O O' : OD} (h : OneEdit n k c q O O') {i l : Nat} (hi : i < n) (hl : l < O.np i) (hd : ((O.prt i l).toList == (O'.prt i l).toList) = false) : i = k ∧ l = q := by
  by_cases hc : i = k ∧ l = q
  · exact hc
  · rw [h.prt i l hi hl hc] at hd; simp at hd
theorem cmap_hit {k c i l : Nat} {O O' : OD} (hi : i = k) (hl : l = c) (hd : ((O.col i l).toList == (O'.col i l).toList) = false) :
    cmap k c O O' i (l + 1) = .map #[{ key := .string (O.col i l), val := .agg (colA (O'.col i) l), born := 0 }] 1 ∧ cmap k c O O' i l = .map #[] 0 := by
  subst hi; subst hl
  simp [cmap, hitC, hd]
theorem pmap_hit {k q i l : Nat} {O O' : OD} (hi : i = k) (hl : l = q) (hd : ((O.prt i l).toList == (O'.prt i l).toList) = false) :
    pmap k q O O' i (l + 1) = .map #[{ key := .string (O.prt i l), val := .string (O'.prt i l), born := 0 }] 1 ∧ pmap k q O O' i l = .map #[] 0 := by
  subst hi; subst hl
  simp [pmap, hitP, hd]
theorem cmap_miss {k c i l : Nat} {O O' : OD} (hd : ((O.col i l).toList == (O'.col i l).toList) = true) : cmap k c O O' i (l + 1) = cmap k c O O' i l := by
  have : hitC k c O O' i (l + 1) = hitC k c O O' i l := by
    unfold hitC
    by_cases h1 : i = k
    · subst h1
      by_cases h2 : c = l
      · subst h2; simp [hd]
      · have : c < l + 1 ↔ c < l := by omega
        simp [this]
    · simp [h1]
  simp only [cmap, this]
theorem pmap_miss {k q i l : Nat} {O O' : OD} (hd : ((O.prt i l).toList == (O'.prt i l).toList) = true) : pmap k q O O' i (l + 1) = pmap k q O O' i l := by
  have : hitP k q O O' i (l + 1) = hitP k q O O' i l := by
    unfold hitP
    by_cases h1 : i = k
    · subst h1
      by_cases h2 : q = l
      · subst h2; simp [hd]
      · have : q < l + 1 ↔ q < l := by omega
        simp [this]
    · simp [h1]
  simp only [pmap, this]
theorem lenC {w : World} {b k c i l : Nat} {O O' : OD} (h : w.heap[b]? = some (cmap k c O O' i l)) : (Builtin.len_ #[44] 3 #[.map (some b)]).run Try.prog w = .ok (.int .i64 (if hitC k c O O' i l then 1 else 0)) w := by
  unfold cmap at h
  cases hc : hitC k c O O' i l with
  | true => rw [hc] at h; simpa using map_len w 44 9 39 3 b Try.underlying44 _ _ h
  | false => rw [hc] at h; simpa using map_len w 44 9 39 3 b Try.underlying44 _ _ h
theorem lenP {w : World} {b k q i l : Nat} {O O' : OD} (h : w.heap[b]? = some (pmap k q O O' i l)) : (Builtin.len_ #[45] 3 #[.map (some b)]).run Try.prog w = .ok (.int .i64 (if hitP k q O O' i l then 1 else 0)) w := by
  unfold pmap at h
  cases hc : hitP k q O O' i l with
  | true => rw [hc] at h; simpa using map_len w 45 9 9 3 b Try.underlying45 _ _ h
  | false => rw [hc] at h; simpa using map_len w 45 9 9 3 b Try.underlying45 _ _ h
theorem OneEdit.whereS {n k c q : Nat} {O O' : OD} (h : OneEdit n k c q O O') {i : Nat} (hi : i < n) (hd : ((O.sch i).toList == (O'.sch i).toList) = false) : i = k := by
  by_cases hc : i = k
  · exact hc
  · rw [h.sch i hi hc] at hd; simp at hd
theorem OneEdit.whereN {n k c q : Nat} {O O' : OD} (h : OneEdit n k c q O O') {i : Nat} (hi : i < n) (hd : ((O.nam i).toList == (O'.nam i).toList) = false) : i = k := by
  by_cases hc : i = k
  · exact hc
  · rw [h.nam i hi hc] at hd; simp at hd
theorem Ren.nil_of {bO bN k c q : Nat} {O O' : OD} {i : Nat} {v : Value} {w : World} (h : Ren bO bN k c q O O' i v w) (hi : i ≤ k) : v = .slice none 0 0 := by
  unfold Ren at h
  rwa [if_neg (by omega)] at h
theorem hitC_k {k c i l : Nat} {O O' : OD} (h : hitC k c O O' i l = true) : i = k := by
  simp [hitC] at h; exact h.1.1
theorem hitP_k {k q i l : Nat} {O O' : OD} (h : hitP k q O O' i l = true) : i = k := by
  simp [hitP] at h; exact h.1.1
theorem chg_s {k c q i : Nat} {O O' : OD} (hi : i = k) (h : ((O.sch i).toList == (O'.sch i).toList) = false) : chg k c q O O' = true := by
  subst hi; simp only [chg, h, Bool.not_false, Bool.true_or]
theorem chg_n {k c q i : Nat} {O O' : OD} (hi : i = k) (h : ((O.nam i).toList == (O'.nam i).toList) = false) : chg k c q O O' = true := by
  subst hi; simp only [chg, h, Bool.not_false, Bool.true_or, Bool.or_true]
theorem chg_c {k c q i : Nat} {O O' : OD} (h : hitC k c O O' i (O.nc i) = true) : chg k c q O O' = true := by
  have := hitC_k h; subst this
  simp only [chg, h, Bool.true_or, Bool.or_true]
theorem chg_p {k c q i : Nat} {O O' : OD} (h : hitP k q O O' i (O.np i) = true) : chg k c q O O' = true := by
  have := hitP_k h; subst this
  simp only [chg, h, Bool.or_true]
theorem Ren_same {bO bN k c q i : Nat} {O O' : OD} {v : Value} {w : World} (h : Ren bO bN k c q O O' i v w) (s1 : ((O.sch i).toList == (O'.sch i).toList) = true) (s2 : ((O.nam i).toList == (O'.nam i).toList) = true)
    (hC : hitC k c O O' i (O.nc i) = false) (hP : hitP k q O O' i (O.np i) = false) : Ren bO bN k c q O O' (i + 1) v w := by
  unfold Ren at *
  by_cases e : i = k
  · subst e
    have hc : chg i c q O O' = false := by simp only [chg, s1, s2, hC, hP, Bool.not_true, Bool.or_false]
    rw [if_neg (by simp [hc])]
    rwa [if_neg (by simp [hc])] at h
  · have : k < i + 1 ↔ k < i := by omega
    simp only [this]; exact h
/-- The one element, cell by cell. -/
def renN (bO bN i mc mp : Nat) (O O' : OD) : List Value := [.string (O.sch i), .string (O.nam i), .string (O.nam i), .int .u32 ((i : Int) + 1), .string ⟨#[]⟩, .string ⟨#[]⟩, .string ⟨#[]⟩, .slice (some ⟨bO + 2 + 2 * i, 0, none⟩) (O.nc i) (O.nc i), .slice none 0 0, .slice (some ⟨bO + 3 + 2 * i, 0, none⟩) (O.np i) (O.np i), .bool false, .string (O'.sch i), .string (O'.nam i), .string (O'.nam i), .int .u32 ((i : Int) + 1), .string ⟨#[]⟩, .string ⟨#[]⟩, .string ⟨#[]⟩, .slice (some ⟨bN + 2 + 2 * i, 0, none⟩) (O.nc i) (O.nc i), .slice none 0 0, .slice (some ⟨bN + 3 + 2 * i, 0, none⟩) (O.np i) (O.np i), .bool false, .map (some mc), .map (some mp)]
theorem renN_renL {n bO bN k c q mc mp : Nat} {O O' : OD} (hE : OneEdit n k c q O O') : renN bO bN k mc mp O O' = renL bO bN k mc mp O O' := by
  simp [renN, renL, tabA, hE.nc, hE.np]
theorem Ren_new {n bO bN k c q i mc mp g cap : Nat} {O O' : OD} {w : World} (hi : i = k) (hE : OneEdit n k c q O O') (hch : chg k c q O O' = true) (hcl : ∀ j u, (renN bO bN i mc mp O O')[j]? = some u → w.cell? ⟨g, j, none⟩ = some u)
    (hmc : w.heap[mc]? = some (cmap k c O O' i (O.nc i))) (hmp : w.heap[mp]? = some (pmap k q O O' i (O.np i))) : Ren bO bN k c q O O' (i + 1) (.slice (some ⟨g, 0, none⟩) 1 cap) w := by
  subst hi
  unfold Ren
  rw [if_pos ⟨by omega, hch⟩]
  rw [renN_renL hE] at hcl
  exact ⟨g, cap, mc, mp, rfl, hcl, hmc, hmp, World.block_lt_of_cell? _ _ (hcl 0 _ rfl), World.lt_of_block' hmc, World.lt_of_block' hmp⟩
theorem alloc_cells (w : World) (l : List Value) (e : TypeId) : ∀ j u, l[j]? = some u → (w.alloc (.cells l.toArray e)).cell? ⟨w.heap.size, j, none⟩ = some u := by
  intro j u hj
  have : (w.alloc (.cells l.toArray e)).heap[w.heap.size]? = some (.cells l.toArray e (0, 0)) := by show (w.heap.push _)[_]? = _; simp
  unfold World.cell?
  rw [this]
  simp [hj]
theorem wpList_append24 {w : World} {ops : Array Oper} {rest : List Oper} {o : Oper} {a : Act} {Q : Exit → Act → World → Prop} (hgd : o.guard = none) (s x : Operand)
    (ho : o.op = .call { callee := .builtin .append, args := #[s, x], argTypes := #[42, 42] }) (b c : Nat) (hs : a.eval s = .slice none 0 0) (hx : a.eval x = .slice (some ⟨b, 0, none⟩) 1 c) (news : List Value) (hl : news.length = 24)
    (hc : ∀ j u, news[j]? = some u → w.cell? ⟨b, j, none⟩ = some u) (h1 : ∀ u ∈ news, u.oneCell' = true)
    (h : ∀ g cap w', (∀ j u, news[j]? = some u → w'.cell? ⟨g, j, none⟩ = some u) → Below w.heap.size w w' → wpList Try.prog ops Q rest (a.put o.dst (.slice (some ⟨g, 0, none⟩) 1 cap)) w') : wpList Try.prog ops Q (o :: rest) a w := by
  refine wpList_plain hgd fun K hK => ?_
  obtain ⟨g, cap, w', hrun, hcl, hb⟩ := append24 w o.type b c news hl hc h1
  unfold Oper.wp
  simp [execOp, ho, resolve, invoke, builtin, hs, hx, hrun, Result.andThen]
  exact hK _ _ (h g cap w' hcl hb)
theorem two_alloc {w : World} {b : Nat} {o : Obj} (h : w.heap[b]? = some o) (x y : Obj) : ((w.alloc x).alloc y).heap[b]? = some o := by
  have hl := World.lt_of_block' h
  rw [Below.heap_alloc _ _ _ (by rw [size_alloc']; omega), Below.heap_alloc _ _ _ hl]
  exact h

set_option maxRecDepth 20000 in
set_option maxHeartbeats 8000000 in
theorem renames13 (bO bN n k c q : Nat) (O O' : OD) (w : World) (hn : n ≤ 4096) (hbd : ∀ i, i < n → O.nc i ≤ 4096 ∧ O.np i < 4096) (hk : k < n) (hO : Outl w bO n O) (hN : Outl w bN n O') (hE : OneEdit n k c q O O') :
    Calls Try.prog 13 #[outV bO n, outV bN n] w (P13 bO bN n k c q O O' w) := by
  have HO : Hid (Outl w bO n O) := hO
  have HN : Hid (Outl w bN n O') := hN
  have HE : Hid (OneEdit n k c q O O') := hE
  have HBD : Hid (∀ i, i < n → O.nc i ≤ 4096 ∧ O.np i < 4096) := hbd
  clear hO hN hE hbd
  have hmm := @run_makeMap Try.prog
  unfold outV
  go_enter Try.func13, Try.ntmps13
  go_wp2_with fail
  refine (ofDb35 bO bN n _).mono ?_
  rintro e w1 ⟨rfl, hb1⟩
  have hB1 : Below w.heap.size w w1 := (((Below.refl _ _).alloc (Nat.le_refl _) _).alloc (by simp) _).trans (hb1.mono (by simp; omega))
  have HB1 : Hid (Below w.heap.size w w1) := hB1
  have hz : w.heap.size + 1 < w1.heap.size := by have := hb1.size; simp at this; omega
  have q1 : w1.cell? ⟨w.heap.size, 0, none⟩ = some (.slice (some ⟨bO + 1, 0, none⟩) n n) := by
    rw [hb1.cell (p := ⟨w.heap.size, 0, none⟩) (by simp; omega)]
    exact ((els_lit w _ 26).alloc _).cell1 (i := 0) (by simp)
  have q2 : w1.cell? ⟨w.heap.size + 1, 0, none⟩ = some (.slice (some ⟨bN + 1, 0, none⟩) n n) := by
    rw [hb1.cell (p := ⟨w.heap.size + 1, 0, none⟩) (by simp)]
    have := (els_lit (w.alloc (.cells #[.slice (some ⟨bO + 1, 0, none⟩) n n, .bool false, .string ⟨#[100, 98]⟩, .int .i64 0] 26)) #[.slice (some ⟨bN + 1, 0, none⟩) n n, .bool false, .string ⟨#[100, 98]⟩, .int .i64 0] 26).cell1 (i := 0) (by simp)
    rw [size_alloc'] at this
    exact this
  have Q2 : Hid (w1.cell? ⟨w.heap.size + 1, 0, none⟩ = some (.slice (some ⟨bN + 1, 0, none⟩) n n)) := q2
  clear hb1 hB1
  have q1' : (w1.alloc (.map #[] 0)).cell? ⟨w.heap.size, 0, none⟩ = some (.slice (some ⟨bO + 1, 0, none⟩) n n) := cell_later ((Below.refl _ _).alloc (Nat.le_refl _) _) q1
  go_wp2_with fail
  clear q1'
  clear q1 q2
  go_loopw [7, 37] (fun _ i wr => ∃ j : Nat, j ≤ n ∧ i = .int .i64 j ∧ Below w1.heap.size w1 wr ∧ wr.heap[w1.heap.size]? = some (.map (ents tabKey (tabVal bO O) j) j)) (fun _ i _ => n - (intOf i).toNat)
  case atStart => exact ⟨0, by omega, rfl, (Below.refl _ _).alloc (Nat.le_refl _) _, by show (w1.heap.push _)[_]? = _; simp [ents]⟩
  case round =>
    obtain ⟨j, hj, rfl, hb, hmap⟩ := hrel
    have HB : Hid (Below w1.heap.size w1 wr) := hb
    have HM : Hid (wr.heap[w1.heap.size]? = some (.map (ents tabKey (tabVal bO O) j) j)) := hmap
    by_cases hlt : j < n
    · have hT := (HO.out.below HB1.out).tab.below hb (HO.out.below HB1.out).tab.lt
      have e0 := hT.cell hlt (j := 0) (by omega)
      have e1 := hT.cell hlt (j := 1) (by omega)
      have e2 := hT.cell hlt (j := 2) (by omega)
      have e3 := hT.cell hlt (j := 3) (by omega)
      have e4 := hT.cell hlt (j := 4) (by omega)
      have e5 := hT.cell hlt (j := 5) (by omega)
      have e6 := hT.cell hlt (j := 6) (by omega)
      have e7 := hT.cell hlt (j := 7) (by omega)
      have e8 := hT.cell hlt (j := 8) (by omega)
      have e9 := hT.cell hlt (j := 9) (by omega)
      have e10 := hT.cell hlt (j := 10) (by omega)
      simp only [Nat.add_zero, tabEl] at e0 e1 e2 e3 e4 e5 e6 e7 e8 e9 e10
      have hput := tab_put (wr.alloc (.cells #[.string (O.sch j), .string (O.nam j), .string (O.nam j), .int .u32 ((j : Int) + 1), .string ⟨#[]⟩, .string ⟨#[]⟩, .string ⟨#[]⟩, .slice (some ⟨bO + 2 + 2 * j, 0, none⟩) (O.nc j) (O.nc j), .slice none 0 0, .slice (some ⟨bO + 3 + 2 * j, 0, none⟩) (O.np j) (O.np j), .bool false] 34)) w1.heap.size j bO O (by rw [Below.heap_alloc _ _ _ (by have := hb.size; have := World.lt_of_block' hmap; omega)]; exact hmap)
      have hne : (((j : Int) + 1) != 0) = true := by simp; omega
      clear hT hb hmap
      go_wp2
      go_roundw
      case rel =>
        have hsz := World.lt_of_block' HM.out
        refine ⟨j + 1, by omega, by go_num, Below.setB (HB.out.alloc (by omega) _) (Nat.le_refl _) _, setB_same (o' := .map (ents tabKey (tabVal bO O) j) j) ?_⟩
        rw [Below.heap_alloc _ _ _ hsz]
        exact HM.out
      case measure => simp [intOf]; omega
    · have : j = n := by omega
      subst this
      rename World => w2
      have q2 : w2.cell? ⟨w.heap.size + 1, 0, none⟩ = some (.slice (some ⟨bN + 1, 0, none⟩) j j) := cell_later hb Q2.out
      clear hb hmap
      go_wp2_with fail
      clear q2 hz
      go_loopw [8, 52] (fun v i wr => ∃ i' : Nat, i' ≤ j ∧ i = .int .i64 i' ∧ Below w2.heap.size w2 wr ∧ Ren bO bN k c q O O' i' v wr) (fun _ i _ => j - (intOf i).toNat)
      case atStart => exact ⟨0, by omega, rfl, Below.refl _ _, by unfold Ren; rw [if_neg (by omega)]⟩
      case round =>
        obtain ⟨i, hi, rfl, hbA, hren⟩ := hrel
        rename World => wA
        have HBA : Hid (Below w2.heap.size w2 wA) := hbA
        have HREN : Hid (Ren bO bN k c q O O' i u8 wA) := hren
        have HBw : Hid (Below w.heap.size w wA) := by
          have s1 := HB1.out.size
          have s2 := HB.out.size
          exact HB1.out.trans ((HB.out.mono s1).trans (hbA.mono (by omega)))
        have HMA : Hid (wA.heap[w1.heap.size]? = some (.map (ents tabKey (tabVal bO O) j) j)) := (hbA.block _ (World.lt_of_block' HM.out)).trans HM.out
        have HOA : Hid (Outl wA bO j O) := HO.out.below HBw.out
        have HNA : Hid (Outl wA bN j O') := HN.out.below HBw.out
        clear hbA hren
        have hnc : ∀ i, O'.nc i = O.nc i := fun i => congrFun HE.out.nc i
        have hnp : ∀ i, O'.np i = O.np i := fun i => congrFun HE.out.np i
        by_cases hlt : i < j
        · have hT := HNA.out.tab
          have e0 := hT.cell hlt (j := 0) (by omega)
          have e1 := hT.cell hlt (j := 1) (by omega)
          have e2 := hT.cell hlt (j := 2) (by omega)
          have e3 := hT.cell hlt (j := 3) (by omega)
          have e4 := hT.cell hlt (j := 4) (by omega)
          have e5 := hT.cell hlt (j := 5) (by omega)
          have e6 := hT.cell hlt (j := 6) (by omega)
          have e7 := hT.cell hlt (j := 7) (by omega)
          have e8 := hT.cell hlt (j := 8) (by omega)
          have e9 := hT.cell hlt (j := 9) (by omega)
          have e10 := hT.cell hlt (j := 10) (by omega)
          simp only [Nat.add_zero, tabEl, hnc, hnp] at e0 e1 e2 e3 e4 e5 e6 e7 e8 e9 e10
          have hlook := tab_look (wA.alloc (.cells #[.string (O'.sch i), .string (O'.nam i), .string (O'.nam i), .int .u32 ((i : Int) + 1), .string ⟨#[]⟩, .string ⟨#[]⟩, .string ⟨#[]⟩, .slice (some ⟨bN + 2 + 2 * i, 0, none⟩) (O.nc i) (O.nc i), .slice none 0 0, .slice (some ⟨bN + 3 + 2 * i, 0, none⟩) (O.np i) (O.np i), .bool false] 34)) w1.heap.size j i bO O (by rw [Below.heap_alloc _ _ _ (World.lt_of_block' HMA.out)]; exact HMA.out) hlt
          clear hT
          have hzA : w1.heap.size < wA.heap.size := World.lt_of_block' HMA.out
          go_wp2
          clear hlook hzA e0 e1 e2 e3 e4 e5 e6 e7 e8 e9 e10
          have hLen := HBD.out i hlt
          obtain ⟨hL1, hL2⟩ := hLen
          have hmm' := hmm
          go_loopw [15, 69] (fun _ y w3 => ∃ l : Nat, l ≤ O.nc i ∧ y = .int .i64 l ∧ Below wA.heap.size wA w3 ∧ Els w3 wA.heap.size 11 1 (fun j _ => (tabAN bN O O' i)[j]!) ∧ Els w3 (wA.heap.size + 1) 11 1 (fun j _ => (tabA bO O i)[j]!) ∧ w3.heap[wA.heap.size + 1 + 1]? = some (.map (ents colKey (colVal (O.col i)) l) l)) (fun _ y _ => O.nc i - (intOf y).toNat)
          case atStart =>
            obtain ⟨s3, s4, s5, s6⟩ := start3 wA bO bN O O' i
            refine ⟨0, by omega, rfl, ?_, ?_, ?_, ?_⟩
            · exact s3
            · exact s4
            · exact s5
            · exact s6
          case round =>
            obtain ⟨l, hl0, rfl, hb3, hv1, hv2, hm3⟩ := hrel
            have HB3 : Hid (Below wA.heap.size wA wr) := hb3
            have HV1 : Hid (Els wr wA.heap.size 11 1 (fun j _ => (tabAN bN O O' i)[j]!)) := hv1
            have HV2 : Hid (Els wr (wA.heap.size + 1) 11 1 (fun j _ => (tabA bO O i)[j]!)) := hv2
            have HM3 : Hid (wr.heap[wA.heap.size + 1 + 1]? = some (.map (ents colKey (colVal (O.col i)) l) l)) := hm3
            clear hv1 hv2
            by_cases hl : l < O.nc i
            · have hT := (HOA.out.cols i hlt).below hb3 (HOA.out.cols i hlt).lt
              have a0 := hT.cell hl (j := 0) (by omega)
              have a1 := hT.cell hl (j := 1) (by omega)
              have a2 := hT.cell hl (j := 2) (by omega)
              have a3 := hT.cell hl (j := 3) (by omega)
              have a4 := hT.cell hl (j := 4) (by omega)
              have a5 := hT.cell hl (j := 5) (by omega)
              have a6 := hT.cell hl (j := 6) (by omega)
              have a7 := hT.cell hl (j := 7) (by omega)
              simp only [Nat.add_zero, colEl] at a0 a1 a2 a3 a4 a5 a6 a7
              have hput := col_put (wr.alloc (.cells #[.string (O.col i l), .string (O.col i l), .int .i64 ((l : Int) + 1), .string ⟨#[]⟩, .bool false, .string ⟨#[]⟩, .bool false, .string ⟨#[]⟩] 39)) (wA.heap.size + 1 + 1) l (O.col i) (by rw [Below.heap_alloc _ _ _ (World.lt_of_block' hm3)]; exact hm3)
              clear hT hb3 hm3
              go_wp2
              go_roundw
              case rel =>
                have hsz := World.lt_of_block' HM3.out
                refine ⟨l + 1, by omega, by go_num, Below.setB (HB3.out.alloc (by omega) _) (by omega) _, (HV1.out.alloc _).setB (by omega) _, (HV2.out.alloc _).setB (by omega) _, setB_same (o' := .map (ents colKey (colVal (O.col i)) l) l) ?_⟩
                rw [Below.heap_alloc _ _ _ hsz]
                exact HM3.out
              case measure => simp [intOf]; omega
            · have : l = O.nc i := by omega
              subst this
              rename World => w3
              have HM3' : Hid (w3.heap[wA.heap.size + 1 + 1]? = some (.map (ents colKey (colVal (O.col i)) (O.nc i)) (O.nc i))) := HM3.out
              have v7 : (w3.alloc (.map #[] 0)).cell? ⟨wA.heap.size, 7, none⟩ = some (.slice (some ⟨bN + 2 + 2 * i, 0, none⟩) (O.nc i) (O.nc i)) := cell_later ((Below.refl _ _).alloc (Nat.le_refl _) _) (HV1.out.cell1 (i := 7) (by omega))
              clear hb3 hm3 HM3
              go_wp2
              clear v7
              go_loopw [18, 19, 20, 82] (fun _ _ _ y w4 => ∃ l : Nat, l ≤ O.nc i ∧ y = .int .i64 l ∧ Below w3.heap.size w3 w4 ∧ w4.heap[w3.heap.size]? = some (cmap k c O O' i l)) (fun _ _ _ y _ => O.nc i - (intOf y).toNat)
              case atStart => exact ⟨0, by omega, rfl, (Below.refl _ _).alloc (Nat.le_refl _) _, by show (w3.heap.push _)[_]? = _; simp [cmap, hitC]⟩
              case round =>
                obtain ⟨l, hl0, rfl, hb4, hm4⟩ := hrel
                have HB4 : Hid (Below w3.heap.size w3 wr) := hb4
                have HM4 : Hid (wr.heap[w3.heap.size]? = some (cmap k c O O' i l)) := hm4
                by_cases hl : l < O.nc i
                · have hT := ((HNA.out.cols i hlt).below HB3.out (HNA.out.cols i hlt).lt).below hb4 ((HNA.out.cols i hlt).below HB3.out (HNA.out.cols i hlt).lt).lt
                  have a0 := hT.cell (show l < O'.nc i by rw [hnc]; exact hl) (j := 0) (by omega)
                  have a1 := hT.cell (show l < O'.nc i by rw [hnc]; exact hl) (j := 1) (by omega)
                  have a2 := hT.cell (show l < O'.nc i by rw [hnc]; exact hl) (j := 2) (by omega)
                  have a3 := hT.cell (show l < O'.nc i by rw [hnc]; exact hl) (j := 3) (by omega)
                  have a4 := hT.cell (show l < O'.nc i by rw [hnc]; exact hl) (j := 4) (by omega)
                  have a5 := hT.cell (show l < O'.nc i by rw [hnc]; exact hl) (j := 5) (by omega)
                  have a6 := hT.cell (show l < O'.nc i by rw [hnc]; exact hl) (j := 6) (by omega)
                  have a7 := hT.cell (show l < O'.nc i by rw [hnc]; exact hl) (j := 7) (by omega)
                  simp only [Nat.add_zero, colEl] at a0 a1 a2 a3 a4 a5 a6 a7
                  have hw3 : wr.heap[wA.heap.size + 1 + 1]? = some (.map (ents colKey (colVal (O.col i)) (O.nc i)) (O.nc i)) := (hb4.block _ (World.lt_of_block' HM3'.out)).trans HM3'.out
                  have hlook := col_look (wr.alloc (.cells #[.string (O'.col i l), .string (O'.col i l), .int .i64 ((l : Int) + 1), .string ⟨#[]⟩, .bool false, .string ⟨#[]⟩, .bool false, .string ⟨#[]⟩] 39)) (wA.heap.size + 1 + 1) (O.nc i) l (O.col i) (by rw [Below.heap_alloc _ _ _ (World.lt_of_block' hw3)]; exact hw3) hl
                  have hsz4 := World.lt_of_block' hm4
                  clear hT hw3
                  by_cases hd : ((O.col i l).toList == (O'.col i l).toList) = true
                  · go_wp2
                    go_roundw
                    case rel => exact ⟨l + 1, by omega, by go_num, (HB4.out.alloc (by omega) _).alloc (by simp; omega) _, by rw [cmap_miss hd]; exact two_alloc HM4.out _ _⟩
                    case measure => simp [intOf]; omega
                  · replace hd : ((O.col i l).toList == (O'.col i l).toList) = false := by simpa using hd
                    have hic : i = k ∧ l = c := HE.out.whereC hlt hl hd
                    have hhit := cmap_hit (O := O) (O' := O') hic.1 hic.2 hd
                    have HHIT : Hid _ := hhit.1
                    have hput := str_put0 ((wr.alloc (.cells #[.string (O'.col i l), .string (O'.col i l), .int .i64 ((l : Int) + 1), .string ⟨#[]⟩, .bool false, .string ⟨#[]⟩, .bool false, .string ⟨#[]⟩] 39)).alloc (.cells #[.string (O.col i l), .string (O.col i l), .int .i64 ((l : Int) + 1), .string ⟨#[]⟩, .bool false, .string ⟨#[]⟩, .bool false, .string ⟨#[]⟩] 39)) 44 39 w3.heap.size Try.underlying44 (by rw [two_alloc hm4, hhit.2]) (O.col i l) (.agg #[.string (O'.col i l), .string (O'.col i l), .int .i64 ((l : Int) + 1), .string ⟨#[]⟩, .bool false, .string ⟨#[]⟩, .bool false, .string ⟨#[]⟩])
                    clear hic hhit hm4 hb4
                    go_wp2
                    go_roundw
                    case rel =>
                      refine ⟨l + 1, by omega, by go_num, Below.setB ((HB4.out.alloc (by omega) _).alloc (by simp; omega) _) (Nat.le_refl _) _, ?_⟩
                      rw [HHIT.out]
                      exact setB_same (two_alloc HM4.out _ _)
                    case measure => simp [intOf]; omega
                · have : l = O.nc i := by omega
                  subst this
                  rename World => w4
                  have v9 : (w4.alloc (.map #[] 0)).cell? ⟨wA.heap.size + 1, 9, none⟩ = some (.slice (some ⟨bO + 3 + 2 * i, 0, none⟩) (O.np i) (O.np i)) := cell_later ((Below.refl _ _).alloc (Nat.le_refl _) _) (cell_later hb4 (HV2.out.cell1 (i := 9) (by omega)))
                  clear hb4 hm4
                  go_wp2
                  clear v9
                  go_loopw [23, 110] (fun _ y w5 => ∃ l : Nat, l ≤ O.np i ∧ y = .int .i64 l ∧ Below w4.heap.size w4 w5 ∧ w5.heap[w4.heap.size]? = some (.map (ents (fkKey i) (fkVal (O.prt i)) l) l)) (fun _ y _ => O.np i - (intOf y).toNat)
                  case atStart => exact ⟨0, by omega, rfl, (Below.refl _ _).alloc (Nat.le_refl _) _, by show (w4.heap.push _)[_]? = _; simp [ents]⟩
                  case round =>
                    obtain ⟨l, hl0, rfl, hb5, hm5⟩ := hrel
                    have HB5 : Hid (Below w4.heap.size w4 wr) := hb5
                    have HM5 : Hid (wr.heap[w4.heap.size]? = some (.map (ents (fkKey i) (fkVal (O.prt i)) l) l)) := hm5
                    by_cases hl : l < O.np i
                    · have hT0 := (HOA.out.fks i hlt).below HB3.out (HOA.out.fks i hlt).lt
                      have hT1 := hT0.below HB4.out hT0.lt
                      have hT := hT1.below hb5 hT1.lt
                      have a0 := hT.cell hl (j := 0) (by omega)
                      have a1 := hT.cell hl (j := 1) (by omega)
                      have a2 := hT.cell hl (j := 2) (by omega)
                      have a3 := hT.cell hl (j := 3) (by omega)
                      have a4 := hT.cell hl (j := 4) (by omega)
                      have a5 := hT.cell hl (j := 5) (by omega)
                      have a6 := hT.cell hl (j := 6) (by omega)
                      have a7 := hT.cell hl (j := 7) (by omega)
                      have a8 := hT.cell hl (j := 8) (by omega)
                      have a9 := hT.cell hl (j := 9) (by omega)
                      simp only [Nat.add_zero, fkEl] at a0 a1 a2 a3 a4 a5 a6 a7 a8 a9
                      have hput := fk_put (wr.alloc (.cells #[.string ⟨#[102, 107]⟩, .slice none 0 0, .string ⟨#[]⟩, .string ⟨#[]⟩, .slice none 0 0, .string (O.prt i l), .string ⟨#[]⟩, .string ⟨#[]⟩, .int .u32 ((i : Int) * 4096 + l + 1), .bool false] 41)) w4.heap.size i l (O.prt i) (by rw [Below.heap_alloc _ _ _ (World.lt_of_block' hm5)]; exact hm5)
                      have hne : (((i : Int) * 4096 + l + 1) != 0) = true := by simp; omega
                      clear hT hT0 hT1 hb5 hm5
                      go_wp2
                      go_roundw
                      case rel =>
                        have hsz := World.lt_of_block' HM5.out
                        refine ⟨l + 1, by omega, by go_num, Below.setB (HB5.out.alloc (by omega) _) (Nat.le_refl _) _, setB_same (o' := .map (ents (fkKey i) (fkVal (O.prt i)) l) l) ?_⟩
                        rw [Below.heap_alloc _ _ _ hsz]
                        exact HM5.out
                      case measure => simp [intOf]; omega
                    · have : l = O.np i := by omega
                      subst this
                      rename World => w5
                      have v9 : (w5.alloc (.map #[] 0)).cell? ⟨wA.heap.size, 9, none⟩ = some (.slice (some ⟨bN + 3 + 2 * i, 0, none⟩) (O.np i) (O.np i)) := cell_later ((Below.refl _ _).alloc (Nat.le_refl _) _) (cell_later hb5 (cell_later HB4.out (HV1.out.cell1 (i := 9) (by omega))))
                      have HM5' : Hid (w5.heap[w4.heap.size]? = some (.map (ents (fkKey i) (fkVal (O.prt i)) (O.np i)) (O.np i))) := HM5.out
                      clear hb5 hm5 HM5
                      go_wp2
                      clear v9
                      go_loopw [26, 27, 28, 127] (fun _ _ _ y w6 => ∃ l : Nat, l ≤ O.np i ∧ y = .int .i64 l ∧ Below w5.heap.size w5 w6 ∧ w6.heap[w5.heap.size]? = some (pmap k q O O' i l)) (fun _ _ _ y _ => O.np i - (intOf y).toNat)
                      case atStart => exact ⟨0, by omega, rfl, (Below.refl _ _).alloc (Nat.le_refl _) _, by show (w5.heap.push _)[_]? = _; simp [pmap, hitP]⟩
                      case round =>
                        obtain ⟨l, hl0, rfl, hb6, hm6⟩ := hrel
                        have HB6 : Hid (Below w5.heap.size w5 wr) := hb6
                        have HM6 : Hid (wr.heap[w5.heap.size]? = some (pmap k q O O' i l)) := hm6
                        by_cases hl : l < O.np i
                        · have hT0 := (HNA.out.fks i hlt).below HB3.out (HNA.out.fks i hlt).lt
                          have hT1 := hT0.below HB4.out hT0.lt
                          have hT2 := hT1.below HB5.out hT1.lt
                          have hT := hT2.below hb6 hT2.lt
                          have a0 := hT.cell (show l < O'.np i by rw [hnp]; exact hl) (j := 0) (by omega)
                          have a1 := hT.cell (show l < O'.np i by rw [hnp]; exact hl) (j := 1) (by omega)
                          have a2 := hT.cell (show l < O'.np i by rw [hnp]; exact hl) (j := 2) (by omega)
                          have a3 := hT.cell (show l < O'.np i by rw [hnp]; exact hl) (j := 3) (by omega)
                          have a4 := hT.cell (show l < O'.np i by rw [hnp]; exact hl) (j := 4) (by omega)
                          have a5 := hT.cell (show l < O'.np i by rw [hnp]; exact hl) (j := 5) (by omega)
                          have a6 := hT.cell (show l < O'.np i by rw [hnp]; exact hl) (j := 6) (by omega)
                          have a7 := hT.cell (show l < O'.np i by rw [hnp]; exact hl) (j := 7) (by omega)
                          have a8 := hT.cell (show l < O'.np i by rw [hnp]; exact hl) (j := 8) (by omega)
                          have a9 := hT.cell (show l < O'.np i by rw [hnp]; exact hl) (j := 9) (by omega)
                          simp only [Nat.add_zero, fkEl] at a0 a1 a2 a3 a4 a5 a6 a7 a8 a9
                          have hw5 : wr.heap[w4.heap.size]? = some (.map (ents (fkKey i) (fkVal (O.prt i)) (O.np i)) (O.np i)) := (hb6.block _ (World.lt_of_block' HM5'.out)).trans HM5'.out
                          have hlook := fk_look (wr.alloc (.cells #[.string ⟨#[102, 107]⟩, .slice none 0 0, .string ⟨#[]⟩, .string ⟨#[]⟩, .slice none 0 0, .string (O'.prt i l), .string ⟨#[]⟩, .string ⟨#[]⟩, .int .u32 ((i : Int) * 4096 + l + 1), .bool false] 41)) w4.heap.size i (O.np i) l (O.prt i) (by rw [Below.heap_alloc _ _ _ (World.lt_of_block' hw5)]; exact hw5) hl
                          have hsz6 := World.lt_of_block' hm6
                          clear hT hT0 hT1 hT2 hw5
                          by_cases hd : ((O.prt i l).toList == (O'.prt i l).toList) = true
                          · go_wp2
                            go_roundw
                            case rel => exact ⟨l + 1, by omega, by go_num, HB6.out.alloc (by omega) _, by rw [pmap_miss hd]; rw [Below.heap_alloc _ _ _ hsz6]; exact HM6.out⟩
                            case measure => simp [intOf]; omega
                          · replace hd : ((O.prt i l).toList == (O'.prt i l).toList) = false := by simpa using hd
                            have hic : i = k ∧ l = q := HE.out.whereP hlt hl hd
                            have hhit := pmap_hit (O := O) (O' := O') hic.1 hic.2 hd
                            have HHIT : Hid _ := hhit.1
                            have hput := str_put0 (wr.alloc (.cells #[.string ⟨#[102, 107]⟩, .slice none 0 0, .string ⟨#[]⟩, .string ⟨#[]⟩, .slice none 0 0, .string (O'.prt i l), .string ⟨#[]⟩, .string ⟨#[]⟩, .int .u32 ((i : Int) * 4096 + l + 1), .bool false] 41)) 45 9 w5.heap.size Try.underlying45 (by rw [Below.heap_alloc _ _ _ hsz6, hm6, hhit.2]) (O.prt i l) (.string (O'.prt i l))
                            clear hic hhit hm6 hb6
                            go_wp2
                            go_roundw
                            case rel =>
                              refine ⟨l + 1, by omega, by go_num, Below.setB (HB6.out.alloc (by omega) _) (Nat.le_refl _) _, ?_⟩
                              rw [HHIT.out]
                              exact setB_same (o' := pmap k q O O' i l) (by rw [Below.heap_alloc _ _ _ hsz6]; exact HM6.out)
                            case measure => simp [intOf]; omega
                        · have : l = O.np i := by omega
                          subst this
                          rename World => w6
                          have a1 := HV1.out.below HB4.out HV1.out.lt
                          have a2 := a1.below HB5.out a1.lt
                          have a3 := a2.below HB6.out a2.lt
                          have c1 := HV2.out.below HB4.out HV2.out.lt
                          have c2 := c1.below HB5.out c1.lt
                          have c3 := c2.below HB6.out c2.lt
                          have n0 : w6.cell? ⟨wA.heap.size, 0, none⟩ = some (.string (O'.sch i)) := a3.cell1 (i := 0) (by omega)
                          have o0 : w6.cell? ⟨wA.heap.size + 1, 0, none⟩ = some (.string (O.sch i)) := c3.cell1 (i := 0) (by omega)
                          have n1 : w6.cell? ⟨wA.heap.size, 1, none⟩ = some (.string (O'.nam i)) := a3.cell1 (i := 1) (by omega)
                          have o1 : w6.cell? ⟨wA.heap.size + 1, 1, none⟩ = some (.string (O.nam i)) := c3.cell1 (i := 1) (by omega)
                          have n2 : w6.cell? ⟨wA.heap.size, 2, none⟩ = some (.string (O'.nam i)) := a3.cell1 (i := 2) (by omega)
                          have o2 : w6.cell? ⟨wA.heap.size + 1, 2, none⟩ = some (.string (O.nam i)) := c3.cell1 (i := 2) (by omega)
                          have n3 : w6.cell? ⟨wA.heap.size, 3, none⟩ = some (.int .u32 ((i : Int) + 1)) := a3.cell1 (i := 3) (by omega)
                          have o3 : w6.cell? ⟨wA.heap.size + 1, 3, none⟩ = some (.int .u32 ((i : Int) + 1)) := c3.cell1 (i := 3) (by omega)
                          have n4 : w6.cell? ⟨wA.heap.size, 4, none⟩ = some (.string ⟨#[]⟩) := a3.cell1 (i := 4) (by omega)
                          have o4 : w6.cell? ⟨wA.heap.size + 1, 4, none⟩ = some (.string ⟨#[]⟩) := c3.cell1 (i := 4) (by omega)
                          have n5 : w6.cell? ⟨wA.heap.size, 5, none⟩ = some (.string ⟨#[]⟩) := a3.cell1 (i := 5) (by omega)
                          have o5 : w6.cell? ⟨wA.heap.size + 1, 5, none⟩ = some (.string ⟨#[]⟩) := c3.cell1 (i := 5) (by omega)
                          have n6 : w6.cell? ⟨wA.heap.size, 6, none⟩ = some (.string ⟨#[]⟩) := a3.cell1 (i := 6) (by omega)
                          have o6 : w6.cell? ⟨wA.heap.size + 1, 6, none⟩ = some (.string ⟨#[]⟩) := c3.cell1 (i := 6) (by omega)
                          have n7 : w6.cell? ⟨wA.heap.size, 7, none⟩ = some (.slice (some ⟨bN + 2 + 2 * i, 0, none⟩) (O.nc i) (O.nc i)) := a3.cell1 (i := 7) (by omega)
                          have o7 : w6.cell? ⟨wA.heap.size + 1, 7, none⟩ = some (.slice (some ⟨bO + 2 + 2 * i, 0, none⟩) (O.nc i) (O.nc i)) := c3.cell1 (i := 7) (by omega)
                          have n8 : w6.cell? ⟨wA.heap.size, 8, none⟩ = some (.slice none 0 0) := a3.cell1 (i := 8) (by omega)
                          have o8 : w6.cell? ⟨wA.heap.size + 1, 8, none⟩ = some (.slice none 0 0) := c3.cell1 (i := 8) (by omega)
                          have n9 : w6.cell? ⟨wA.heap.size, 9, none⟩ = some (.slice (some ⟨bN + 3 + 2 * i, 0, none⟩) (O.np i) (O.np i)) := a3.cell1 (i := 9) (by omega)
                          have o9 : w6.cell? ⟨wA.heap.size + 1, 9, none⟩ = some (.slice (some ⟨bO + 3 + 2 * i, 0, none⟩) (O.np i) (O.np i)) := c3.cell1 (i := 9) (by omega)
                          have n10 : w6.cell? ⟨wA.heap.size, 10, none⟩ = some (.bool false) := a3.cell1 (i := 10) (by omega)
                          have o10 : w6.cell? ⟨wA.heap.size + 1, 10, none⟩ = some (.bool false) := c3.cell1 (i := 10) (by omega)
                          have hmc : w6.heap[w3.heap.size]? = some (cmap k c O O' i (O.nc i)) := (HB6.out.block _ (by have := HB5.out.size; have := World.lt_of_block' HM4.out; omega)).trans ((HB5.out.block _ (World.lt_of_block' HM4.out)).trans HM4.out)
                          have HMC : Hid (w6.heap[w3.heap.size]? = some (cmap k c O O' i (O.nc i))) := hmc
                          have lC := lenC hmc
                          have lP := lenP hm6
                          clear a1 a2 a3 c1 c2 c3 hb6 hm6 hmc
                          have hszF : w2.heap.size ≤ w6.heap.size := by have := HBA.out.size; have := HB3.out.size; have := HB4.out.size; have := HB5.out.size; have := HB6.out.size; omega
                          have HBF : Hid (Below w2.heap.size w2 w6) := by
                            have h0 := HBA.out.size; have h1 := HB3.out.size; have h2 := HB4.out.size; have h3 := HB5.out.size
                            exact HBA.out.trans ((HB3.out.mono (by omega)).trans ((HB4.out.mono (by omega)).trans ((HB5.out.mono (by omega)).trans (HB6.out.mono (by omega)))))
                          have HRF : Hid (Ren bO bN k c q O O' i u8 w6) := by
                            have h1 := HB3.out.size; have h2 := HB4.out.size; have h3 := HB5.out.size
                            exact HREN.out.below (HB3.out.trans ((HB4.out.mono (by omega)).trans ((HB5.out.mono (by omega)).trans (HB6.out.mono (by omega)))))
                          by_cases s1 : ((O.sch i).toList == (O'.sch i).toList) = true
                          case neg =>
                            replace s1 : ((O.sch i).toList == (O'.sch i).toList) = false := by simpa using s1
                            have HIK : Hid (i = k) := HE.out.whereS hlt s1
                            have HCH : Hid (chg k c q O O' = true) := chg_s (HE.out.whereS hlt s1) s1
                            have hu8 : u8 = .slice none 0 0 := HREN.out.nil_of (Nat.le_of_eq HIK.out)
                            subst hu8
                            go_wp2_with (at_builtin; refine wpList_append24 rfl (.tmp 172) (.tmp 178) rfl w6.heap.size 1 rfl rfl (renN bO bN i w3.heap.size w5.heap.size O O') rfl (alloc_cells w6 (renN bO bN i w3.heap.size w5.heap.size O O') 47) (List.all_eq_true.1 rfl) ?_)
                            intro g cap w7 hcl hb7
                            have HCL : Hid (∀ j u, (renN bO bN i w3.heap.size w5.heap.size O O')[j]? = some u → w7.cell? ⟨g, j, none⟩ = some u) := hcl
                            have HB7 : Hid (Below w6.heap.size w6 w7) := (Below.refl _ _).alloc (Nat.le_refl _) _ |>.trans (hb7.mono (by simp))
                            clear hcl hb7 lC lP n0 o0 n1 o1 n2 o2 n3 o3 n4 o4 n5 o5 n6 o6 n7 o7 n8 o8 n9 o9 n10 o10
                            go_wp2
                            go_roundw
                            case rel => exact ⟨i + 1, by omega, by go_num, HBF.out.trans (HB7.out.mono (by omega)), Ren_new HIK.out HE.out HCH.out HCL.out ((HB7.out.block _ (World.lt_of_block' HMC.out)).trans HMC.out) ((HB7.out.block _ (World.lt_of_block' HM6.out)).trans HM6.out)⟩
                            case measure => simp [intOf]; omega
                          by_cases s2 : ((O.nam i).toList == (O'.nam i).toList) = true
                          case neg =>
                            replace s2 : ((O.nam i).toList == (O'.nam i).toList) = false := by simpa using s2
                            have HIK : Hid (i = k) := HE.out.whereN hlt s2
                            have HCH : Hid (chg k c q O O' = true) := chg_n (HE.out.whereN hlt s2) s2
                            have hu8 : u8 = .slice none 0 0 := HREN.out.nil_of (Nat.le_of_eq HIK.out)
                            subst hu8
                            go_wp2_with (at_builtin; refine wpList_append24 rfl (.tmp 172) (.tmp 178) rfl w6.heap.size 1 rfl rfl (renN bO bN i w3.heap.size w5.heap.size O O') rfl (alloc_cells w6 (renN bO bN i w3.heap.size w5.heap.size O O') 47) (List.all_eq_true.1 rfl) ?_)
                            intro g cap w7 hcl hb7
                            have HCL : Hid (∀ j u, (renN bO bN i w3.heap.size w5.heap.size O O')[j]? = some u → w7.cell? ⟨g, j, none⟩ = some u) := hcl
                            have HB7 : Hid (Below w6.heap.size w6 w7) := (Below.refl _ _).alloc (Nat.le_refl _) _ |>.trans (hb7.mono (by simp))
                            clear hcl hb7 lC lP n0 o0 n1 o1 n2 o2 n3 o3 n4 o4 n5 o5 n6 o6 n7 o7 n8 o8 n9 o9 n10 o10
                            go_wp2
                            go_roundw
                            case rel => exact ⟨i + 1, by omega, by go_num, HBF.out.trans (HB7.out.mono (by omega)), Ren_new HIK.out HE.out HCH.out HCL.out ((HB7.out.block _ (World.lt_of_block' HMC.out)).trans HMC.out) ((HB7.out.block _ (World.lt_of_block' HM6.out)).trans HM6.out)⟩
                            case measure => simp [intOf]; omega
                          by_cases hC : hitC k c O O' i (O.nc i) = true
                          case pos =>
                            rw [hC, if_pos rfl] at lC
                            have HC : Hid (hitC k c O O' i (O.nc i) = true) := hC
                            clear hC
                            have HIK : Hid (i = k) := hitC_k HC.out
                            have HCH : Hid (chg k c q O O' = true) := chg_c HC.out
                            have hu8 : u8 = .slice none 0 0 := HREN.out.nil_of (Nat.le_of_eq HIK.out)
                            subst hu8
                            go_wp2_with (at_builtin; refine wpList_append24 rfl (.tmp 172) (.tmp 178) rfl w6.heap.size 1 rfl rfl (renN bO bN i w3.heap.size w5.heap.size O O') rfl (alloc_cells w6 (renN bO bN i w3.heap.size w5.heap.size O O') 47) (List.all_eq_true.1 rfl) ?_)
                            intro g cap w7 hcl hb7
                            have HCL : Hid (∀ j u, (renN bO bN i w3.heap.size w5.heap.size O O')[j]? = some u → w7.cell? ⟨g, j, none⟩ = some u) := hcl
                            have HB7 : Hid (Below w6.heap.size w6 w7) := (Below.refl _ _).alloc (Nat.le_refl _) _ |>.trans (hb7.mono (by simp))
                            clear hcl hb7 lC lP n0 o0 n1 o1 n2 o2 n3 o3 n4 o4 n5 o5 n6 o6 n7 o7 n8 o8 n9 o9 n10 o10
                            go_wp2
                            go_roundw
                            case rel => exact ⟨i + 1, by omega, by go_num, HBF.out.trans (HB7.out.mono (by omega)), Ren_new HIK.out HE.out HCH.out HCL.out ((HB7.out.block _ (World.lt_of_block' HMC.out)).trans HMC.out) ((HB7.out.block _ (World.lt_of_block' HM6.out)).trans HM6.out)⟩
                            case measure => simp [intOf]; omega
                          by_cases hP : hitP k q O O' i (O.np i) = true
                          case pos =>
                            replace hC : hitC k c O O' i (O.nc i) = false := by simpa using hC
                            rw [hC, if_neg (by simp)] at lC
                            rw [hP, if_pos rfl] at lP
                            have HP : Hid (hitP k q O O' i (O.np i) = true) := hP
                            clear hC hP
                            have HIK : Hid (i = k) := hitP_k HP.out
                            have HCH : Hid (chg k c q O O' = true) := chg_p HP.out
                            have hu8 : u8 = .slice none 0 0 := HREN.out.nil_of (Nat.le_of_eq HIK.out)
                            subst hu8
                            go_wp2_with (at_builtin; refine wpList_append24 rfl (.tmp 172) (.tmp 178) rfl w6.heap.size 1 rfl rfl (renN bO bN i w3.heap.size w5.heap.size O O') rfl (alloc_cells w6 (renN bO bN i w3.heap.size w5.heap.size O O') 47) (List.all_eq_true.1 rfl) ?_)
                            intro g cap w7 hcl hb7
                            have HCL : Hid (∀ j u, (renN bO bN i w3.heap.size w5.heap.size O O')[j]? = some u → w7.cell? ⟨g, j, none⟩ = some u) := hcl
                            have HB7 : Hid (Below w6.heap.size w6 w7) := (Below.refl _ _).alloc (Nat.le_refl _) _ |>.trans (hb7.mono (by simp))
                            clear hcl hb7 lC lP n0 o0 n1 o1 n2 o2 n3 o3 n4 o4 n5 o5 n6 o6 n7 o7 n8 o8 n9 o9 n10 o10
                            go_wp2
                            go_roundw
                            case rel => exact ⟨i + 1, by omega, by go_num, HBF.out.trans (HB7.out.mono (by omega)), Ren_new HIK.out HE.out HCH.out HCL.out ((HB7.out.block _ (World.lt_of_block' HMC.out)).trans HMC.out) ((HB7.out.block _ (World.lt_of_block' HM6.out)).trans HM6.out)⟩
                            case measure => simp [intOf]; omega
                          replace hC : hitC k c O O' i (O.nc i) = false := by simpa using hC
                          replace hP : hitP k q O O' i (O.np i) = false := by simpa using hP
                          rw [hC, if_neg (by simp)] at lC
                          rw [hP, if_neg (by simp)] at lP
                          have HST : Hid (Ren bO bN k c q O O' (i + 1) u8 w6) := Ren_same HRF.out s1 s2 hC hP
                          clear hC hP
                          go_wp2
                          go_roundw
                          case rel => exact ⟨i + 1, by omega, by go_num, HBF.out, HST.out⟩
                          case measure => simp [intOf]; omega
        · have : i = j := by omega
          subst this
          go_wp2
          go_ret
          exact ⟨⟨_, rfl, HREN.out⟩, HBw.out⟩
end Go.Proofs.Qxb6000463a
