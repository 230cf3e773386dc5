/-
  The memory of recoveryOf (38), and its steps.
-/
import Derived.Test.Qxb6000570aE4
import Derived.Test.Qxb6000570aRc
import Derived.Deep.RegionHeld3
import Derived.Deep.RegionLaw
import Derived.Deep.WholeRow
namespace Go.Proofs.Qxb6000570a
open Go.RowKit
set_option linter.unusedVariables false
set_option linter.unusedSimpArgs false

def opF (S : Sch) : Nat → Nat → Value
  | i, 0 => .int .u8 (S.K i : Nat)
  | i, 1 => .int .i64 (S.X i)
  | i, 2 => .string (S.I i)
  | _, 3 => .int .i64 0
  | _, _ => .bool false
def endF (EH : Nat → Nat) (EA : Nat → Int) : Nat → Nat → Value
  | t, 0 => .int .u8 (EH t : Nat)
  | t, _ => .int .i64 (EA t)
/-- What recoveryOf reads. -/
structure In38 (S : Sch) (w : World) (n ob tb eb m : Nat) (oa : Option Addr) (oc : Nat) (EH : Nat → Nat) (EA : Nat → Int) (O : Nat → Nat) : Prop where
  ops : Els w ob n 5 (opF S)
  t1 : w.cell? ⟨tb, 1, none⟩ = some (.slice (some ⟨eb, 0, none⟩) m m)
  t2 : w.cell? ⟨tb, 2, none⟩ = some (.slice oa n oc)
  ends : Els w eb m 2 (endF EH EA)
  of : 0 < n → ∃ rb ro, oa = some ⟨rb, ro, none⟩ ∧ ∀ i, i < n → w.cell? ⟨rb, ro + i, none⟩ = some (.int .i64 (O i : Nat))
  lt : ∀ i, i < n → O i < m ∧ S.H i = EH (O i) ∧ S.A i = EA (O i)
theorem In38.below {S : Sch} {w w' : World} {n ob tb eb m : Nat} {oa : Option Addr} {oc : Nat} {EH : Nat → Nat} {EA : Nat → Int} {O : Nat → Nat} (h : In38 S w n ob tb eb m oa oc EH EA O) (hb : Below w.heap.size w w') : In38 S w' n ob tb eb m oa oc EH EA O where
  ops := h.ops.below hb h.ops.lt
  t1 := cell_later hb h.t1
  t2 := cell_later hb h.t2
  ends := h.ends.below hb h.ends.lt
  of := fun h0 => by obtain ⟨rb, ro, e, hc⟩ := h.of h0; exact ⟨rb, ro, e, fun i hi => cell_later hb (hc i hi)⟩
  lt := h.lt
def flF (r a s g : Bool) : Nat → Nat → Value
  | 0, _ => .bool r
  | 1, _ => .bool a
  | 2, _ => .bool s
  | _, _ => .bool g
/-- The memory of recoveryOf: its items, its flags, the cell of its result. -/
structure RMem (S : Sch) (w wr : World) (c : Nat) (κ : Nat → ByteArray) (β : Nat → Nat) (LA : Nat → Option Nat) (wv rv : Nat → Value) (WL RL : Nat → List Nat) (r a s g : Bool) : Prop where
  its : Its S wr (w.heap.size + 2) (w.heap.size + 3) c κ β LA wv rv WL RL
  fl : Els wr (w.heap.size + 1) 4 1 (flF r a s g)
  res : Els wr w.heap.size 4 1 (flF false false false false)
  bel : Below w.heap.size w wr
  big : w.heap.size + 3 ≤ wr.heap.size
/-- The state ahead of op k. -/
structure RSt (S : Sch) (w wr : World) (k c : Nat) (κ : Nat → ByteArray) (β : Nat → Nat) (LA : Nat → Option Nat) (wv rv : Nat → Value) (WL RL : Nat → List Nat) (r a s g : Bool) : Prop where
  mem : RMem S w wr c κ β LA wv rv WL RL r a s g
  pl : Pl S k c κ LA WL RL
  fc : r = true ↔ FC S k
  fa : a = true ↔ FA S k
  fs : s = true ↔ FS S k
  fr : g = true ↔ FS S k ∧ FR S k
def RInv (S : Sch) (w wr : World) (k : Nat) : Prop := ∃ c κ β LA wv rv WL RL r a s g, RSt S w wr k c κ β LA wv rv WL RL r a s g
section
variable {S : Sch} {w wr w' : World} {k c : Nat} {κ : Nat → ByteArray} {β : Nat → Nat} {LA : Nat → Option Nat} {wv rv : Nat → Value} {WL RL : Nat → List Nat} {r a s g : Bool}
theorem RMem.below (h : RMem S w wr c κ β LA wv rv WL RL r a s g) (hb : Below wr.heap.size wr w') : RMem S w w' c κ β LA wv rv WL RL r a s g where
  its := h.its.below hb
  fl := h.fl.below hb h.fl.lt
  res := h.res.below hb h.res.lt
  bel := h.bel.trans (hb.mono h.bel.size)
  big := Nat.le_trans h.big hb.size
theorem RMem.touch (h : RMem S w wr c κ β LA wv rv WL RL r a s g) {j : Nat} (hj : j < c) {la : Option Nat} {wv' rv' : Value} {WL' RL' : List Nat} (hit : It S w' (w.heap.size + 3) (β j) la wv' rv' WL' RL')
    (hc : Chg wr w' (Own (β j) (wv j) (rv j))) (hn : ∀ g, Own (β j) wv' rv' g → Own (β j) (wv j) (rv j) g ∨ wr.heap.size ≤ g) : RMem S w w' c κ β (upd LA j la) (upd wv j wv') (upd rv j rv') (upd WL j WL') (upd RL j RL') r a s g where
  its := h.its.touch hj hit hc.block hn
  fl := h.fl.of_block (hc.block _ h.fl.lt (fun ho => by have := ((h.its.it j hj).own ho).1; omega))
  res := h.res.of_block (hc.block _ h.res.lt (fun ho => by have := ((h.its.it j hj).own ho).1; omega))
  bel := Chg.toBelow h.bel hc h.bel.size (fun x ho => by have := ((h.its.it j hj).own ho).1; omega)
  big := Nat.le_trans h.big hc.size
theorem RMem.setFl (h : RMem S w wr c κ β LA wv rv WL RL r a s g) (i : Nat) (hi : i < 4) (v : Value) {r' a' s' g' : Bool} (hs : flF r' a' s' g' i 0 = v) (ho : ∀ x, x ≠ i → x < 4 → flF r' a' s' g' x 0 = flF r a s g x 0) : RMem S w (wr.setCell ⟨w.heap.size + 1, i, none⟩ v) c κ β LA wv rv WL RL r' a' s' g' where
  its := ⟨(Below.heap_setCell _ _ _ _ (by simp)).trans h.its.map, h.its.mB, h.its.dst, fun j hj => (h.its.it j hj).keep fun x hx => Below.heap_setCell _ _ _ _ (by have := ((h.its.it j hj).own hx).1; simp; omega), h.its.sep⟩
  fl := by
    refine (h.fl.set1 (k := i) hi v).congr fun x hx y hy => ?_
    obtain rfl : y = 0 := by omega
    by_cases e : x = i
    · subst e; rw [if_pos ⟨rfl, rfl⟩, hs]
    · rw [if_neg (fun e2 => e e2.1), ho x e hx]
  res := h.res.other (by simp) _
  bel := h.bel.setCell (by simp) _
  big := by simpa using h.big
theorem RSt.below (h : RSt S w wr k c κ β LA wv rv WL RL r a s g) (hb : Below wr.heap.size wr w') : RSt S w w' k c κ β LA wv rv WL RL r a s g := { h with mem := h.mem.below hb }
theorem RSt.skip (h : RSt S w wr k c κ β LA wv rv WL RL r a s g) (ht : ¬ Takes S k) : RSt S w wr (k + 1) c κ β LA wv rv WL RL r a s g :=
  { h with
    pl := h.pl.skip ht
    fc := by rw [h.fc, FC.succ]; exact ⟨fun x => ⟨x, fun e => absurd (.inl e) ht⟩, fun x => x.1⟩
    fa := by rw [h.fa, FA.succ]; exact ⟨fun x => ⟨x, fun e => absurd (.inl e) ht⟩, fun x => x.1⟩
    fs := by rw [h.fs, FS.succ]; exact ⟨fun x => ⟨x, fun e => absurd e ht⟩, fun x => x.1⟩
    fr := by rw [h.fr, FS.succ, FR.succ]; exact ⟨fun x => ⟨⟨x.1, fun e => absurd e ht⟩, x.2, fun e => absurd (.inr e) ht⟩, fun x => ⟨x.1.1, x.2.1⟩⟩ }
end
theorem rmem_start (S : Sch) (w : World) : RMem S w (((w.alloc (.cells #[.bool false, .bool false, .bool false, .bool false] 63)).alloc (.cells #[.bool true, .bool true, .bool true, .bool true] 63)).alloc (.map #[] 0))
    0 (fun _ => ⟨#[]⟩) (fun _ => 0) (fun _ => none) (fun _ => .slice none 0 0) (fun _ => .slice none 0 0) (fun _ => []) (fun _ => []) true true true true where
  its := by
    refine ⟨?_, by omega, fun i j _ h => by omega, fun j h => by omega, fun i j h => by omega⟩
    have := heap_alloc_last ((w.alloc (.cells #[.bool false, .bool false, .bool false, .bool false] 63)).alloc (.cells #[.bool true, .bool true, .bool true, .bool true] 63)) (.map #[] 0)
    rw [size_alloc', size_alloc'] at this
    exact this
  fl := by
    have := (els_lit (w.alloc (.cells #[.bool false, .bool false, .bool false, .bool false] 63)) #[.bool true, .bool true, .bool true, .bool true] 63).alloc (.map #[] 0)
    rw [size_alloc'] at this
    refine this.congr fun i hi j hj => ?_
    have : i = 0 ∨ i = 1 ∨ i = 2 ∨ i = 3 := by simp at hi; omega
    rcases this with rfl | rfl | rfl | rfl <;> rfl
  res := by
    refine (((els_lit w #[.bool false, .bool false, .bool false, .bool false] 63).alloc _).alloc _).congr fun i hi j hj => ?_
    have : i = 0 ∨ i = 1 ∨ i = 2 ∨ i = 3 := by simp at hi; omega
    rcases this with rfl | rfl | rfl | rfl <;> rfl
  bel := (((Below.refl _ _).alloc (Nat.le_refl _) _).alloc (by simp) _).alloc (by simp; omega) _
  big := by simp
theorem rst_start (S : Sch) (w : World) : RSt S w (((w.alloc (.cells #[.bool false, .bool false, .bool false, .bool false] 63)).alloc (.cells #[.bool true, .bool true, .bool true, .bool true] 63)).alloc (.map #[] 0))
    0 0 (fun _ => ⟨#[]⟩) (fun _ => 0) (fun _ => none) (fun _ => .slice none 0 0) (fun _ => .slice none 0 0) (fun _ => []) (fun _ => []) true true true true where
  mem := rmem_start S w
  pl := pl_start _ _ _ _ _
  fc := ⟨fun _ k hk => by omega, fun _ => rfl⟩
  fa := ⟨fun _ k hk => by omega, fun _ => rfl⟩
  fs := ⟨fun _ k hk => by omega, fun _ => rfl⟩
  fr := ⟨fun _ => ⟨fun k hk => by omega, fun k hk => by omega⟩, fun _ => rfl⟩
/-- In the midst of op k: slot 11 points at item j; the op's own variables lie at q and q + 1. -/
structure Mid (S : Sch) (w wx : World) (k q j c : Nat) (κ : Nat → ByteArray) (β : Nat → Nat) (LA : Nat → Option Nat) (wv rv : Nat → Value) (WL RL : Nat → List Nat) (r a s g : Bool) : Prop where
  mem : RMem S w wx c κ β LA wv rv WL RL r a s g
  hj : j < c
  hI : κ j = S.I k
  op : Els wx q 5 1 (fun i _ => opF S k i)
  self : Els wx (q + 1) 3 1 (fun i _ => (tx3 S (some k))[i]!)
  ne : ∀ x, Own (β j) (wv j) (rv j) x → x ≠ q ∧ x ≠ q + 1
  qb : w.heap.size + 3 ≤ q
theorem Mid.below {S : Sch} {w wx w' : World} {k q j c : Nat} {κ : Nat → ByteArray} {β : Nat → Nat} {LA : Nat → Option Nat} {wv rv : Nat → Value} {WL RL : Nat → List Nat} {r a s g : Bool} (h : Mid S w wx k q j c κ β LA wv rv WL RL r a s g) (hb : Below wx.heap.size wx w') : Mid S w w' k q j c κ β LA wv rv WL RL r a s g :=
  { h with
    mem := h.mem.below hb
    op := h.op.below hb h.op.lt
    self := h.self.below hb h.self.lt }
theorem Mid.setFl {S : Sch} {w wx : World} {k q j c : Nat} {κ : Nat → ByteArray} {β : Nat → Nat} {LA : Nat → Option Nat} {wv rv : Nat → Value} {WL RL : Nat → List Nat} {r a s g : Bool} (h : Mid S w wx k q j c κ β LA wv rv WL RL r a s g) (i : Nat) (hi : i < 4) (v : Value) {r' a' s' g' : Bool} (hs : flF r' a' s' g' i 0 = v) (ho : ∀ x, x ≠ i → x < 4 → flF r' a' s' g' x 0 = flF r a s g x 0) : Mid S w (wx.setCell ⟨w.heap.size + 1, i, none⟩ v) k q j c κ β LA wv rv WL RL r' a' s' g' :=
  { h with
    mem := h.mem.setFl i hi v hs ho
    op := h.op.other (by have := h.qb; simp; omega) _
    self := h.self.other (by have := h.qb; simp; omega) _ }
theorem Mid.touch {S : Sch} {w wx w' : World} {k q j c : Nat} {κ : Nat → ByteArray} {β : Nat → Nat} {LA : Nat → Option Nat} {wv rv : Nat → Value} {WL RL : Nat → List Nat} {r a s g : Bool} (h : Mid S w wx k q j c κ β LA wv rv WL RL r a s g) {la : Option Nat} {wv' rv' : Value} {WL' RL' : List Nat} (hit : It S w' (w.heap.size + 3) (β j) la wv' rv' WL' RL')
    (hc : Chg wx w' (Own (β j) (wv j) (rv j))) (hn : ∀ g, Own (β j) wv' rv' g → Own (β j) (wv j) (rv j) g ∨ wx.heap.size ≤ g) : Mid S w w' k q j c κ β (upd LA j la) (upd wv j wv') (upd rv j rv') (upd WL j WL') (upd RL j RL') r a s g where
  mem := h.mem.touch h.hj hit hc hn
  hj := h.hj
  hI := h.hI
  op := h.op.of_block (hc.block _ h.op.lt (fun ho => (h.ne _ ho).1 rfl))
  self := h.self.of_block (hc.block _ h.self.lt (fun ho => (h.ne _ ho).2 rfl))
  ne := fun x hx => by
    rw [upd_same, upd_same] at hx
    rcases hn x hx with h1 | h1
    · exact h.ne x h1
    · have h2 := h.op.lt
      have h3 := h.self.lt
      exact ⟨by omega, by omega⟩
  qb := h.qb
theorem mid_new {S : Sch} {w w1 : World} {k q c : Nat} {κ : Nat → ByteArray} {β : Nat → Nat} {LA : Nat → Option Nat} {wv rv : Nat → Value} {WL RL : Nat → List Nat} {r a s g : Bool} (hm : RMem S w w1 c κ β LA wv rv WL RL r a s g)
    (hop : Els w1 q 5 1 (fun i _ => opF S k i)) (hse : Els w1 (q + 1) 3 1 (fun i _ => (tx3 S (some k))[i]!)) (hs1 : w1.heap.size = q + 2) (hq : w.heap.size + 3 ≤ q) (hno : ∀ j, j < c → κ j ≠ S.I k) :
    Mid S w (setB (w1.alloc (.cells #[.int .i64 0, .int .u8 0, .int .i64 0, .slice none 0 0, .slice none 0 0] 79)) (w.heap.size + 2) (.map (ents (strK (upd κ c (S.I k))) (ptrV (upd β c (q + 2))) (c + 1)) (c + 1))) k q c (c + 1) (upd κ c (S.I k)) (upd β c (q + 2)) (upd LA c none) (upd wv c (.slice none 0 0)) (upd rv c (.slice none 0 0)) (upd WL c []) (upd RL c []) r a s g := by
  have hsz : (w1.alloc (.cells #[.int .i64 0, .int .u8 0, .int .i64 0, .slice none 0 0, .slice none 0 0] 79)).heap.size = w1.heap.size + 1 := size_alloc' _ _
  have hblk : ∀ x, x < w1.heap.size → x ≠ w.heap.size + 2 → (setB (w1.alloc (.cells #[.int .i64 0, .int .u8 0, .int .i64 0, .slice none 0 0, .slice none 0 0] 79)) (w.heap.size + 2) (.map (ents (strK (upd κ c (S.I k))) (ptrV (upd β c (q + 2))) (c + 1)) (c + 1))).heap[x]? = w1.heap[x]? := fun x hx hne =>
    (setB_other hne).trans (Below.heap_alloc _ _ _ hx)
  have hit : It S (setB (w1.alloc (.cells #[.int .i64 0, .int .u8 0, .int .i64 0, .slice none 0 0, .slice none 0 0] 79)) (w.heap.size + 2) (.map (ents (strK (upd κ c (S.I k))) (ptrV (upd β c (q + 2))) (c + 1)) (c + 1))) (w.heap.size + 3) (q + 2) none (.slice none 0 0) (.slice none 0 0) [] [] := by
    refine ⟨?_, World.ownsRow_nil _ _ _ _, World.ownsRow_nil _ _ _ _, by omega, by simp [Value.ownBlock], by simp [Value.ownBlock], fun x hx => by simp [Value.ownBlock] at hx⟩
    have h1 := els_lit w1 #[.int .i64 0, .int .u8 0, .int .i64 0, .slice none 0 0, .slice none 0 0] 79
    rw [hs1] at h1
    refine (h1.of_block (setB_other (by omega))).congr fun i hi j hj => ?_
    have : i = 0 ∨ i = 1 ∨ i = 2 ∨ i = 3 ∨ i = 4 := by simp at hi; omega
    rcases this with rfl | rfl | rfl | rfl | rfl <;> rfl
  refine ⟨⟨?_, ?_, ?_, ?_, ?_⟩, by omega, upd_same _ _ _, ?_, ?_, ?_, hq⟩
  · exact hm.its.add hno (by omega) hit (setB_same ((Below.heap_alloc _ _ _ (lt_of_block hm.its.map)).trans hm.its.map)) hblk
  · exact hm.fl.of_block (hblk _ hm.fl.lt (by omega))
  · exact hm.res.of_block (hblk _ hm.res.lt (by omega))
  · exact hm.bel.trans ⟨rfl, rfl, rfl, by rw [size_setB, hsz]; have := hm.bel.size; omega, fun x hx => hblk x (by have := hm.bel.size; omega) (by omega)⟩
  · rw [size_setB, hsz]; have := hm.big; omega
  · exact hop.of_block (hblk _ hop.lt (by omega))
  · exact hse.of_block (hblk _ hse.lt (by omega))
  · intro x hx
    rw [upd_same, upd_same, upd_same] at hx
    rcases hx with rfl | hx | hx
    · exact ⟨by omega, by omega⟩
    · simp [Value.ownBlock] at hx
    · simp [Value.ownBlock] at hx
theorem tx3_form (S : Sch) (la : Option Nat) : ∃ (xt : Int) (xh : Nat) (xa : Int), tx3 S la = [.int .i64 xt, .int .u8 (xh : Nat), .int .i64 xa] ∧ (la = none → xt = 0) ∧ ∀ q, la = some q → xt = S.X q ∧ xh = S.H q ∧ xa = S.A q := by
  cases la with
  | none => exact ⟨0, 0, 0, rfl, fun _ => rfl, fun q h => by cases h⟩
  | some q => exact ⟨S.X q, S.H q, S.A q, rfl, (fun h => by cases h), (fun q' h => by cases h; exact ⟨rfl, rfl, rfl⟩)⟩
theorem It.last {S : Sch} {w : World} {B b : Nat} {la : Option Nat} {wv rv : Value} {WL RL : List Nat} (h : It S w B b la wv rv WL RL) {v0 v1 v2 : Value} (he : tx3 S la = [v0, v1, v2]) : w.cell? ⟨b, 0, none⟩ = some v0 ∧ w.cell? ⟨b, 1, none⟩ = some v1 ∧ w.cell? ⟨b, 2, none⟩ = some v2 ∧ w.cell? ⟨b, 3, none⟩ = some wv ∧ w.cell? ⟨b, 4, none⟩ = some rv := by
  refine ⟨?_, ?_, ?_, ?_, ?_⟩
  · rw [h.blk.cell1 (i := 0) (by omega)]; simp [itF, he]
  · rw [h.blk.cell1 (i := 1) (by omega)]; simp [itF, he]
  · rw [h.blk.cell1 (i := 2) (by omega)]; simp [itF, he]
  · rw [h.blk.cell1 (i := 3) (by omega)]; simp [itF, he]
  · rw [h.blk.cell1 (i := 4) (by omega)]; simp [itF, he]
theorem strict_step {S : Sch} {n k c j : Nat} {κ : Nat → ByteArray} {LA : Nat → Option Nat} {WL RL : Nat → List Nat} {s g bad : Bool} {xt : Int} {xh : Nat} {xa : Int} (hpl : Pl S k c κ LA WL RL) (hw : Wf S n) (hlt : k < n) (ht : Takes S k) (hj : j < c) (hI : κ j = S.I k)
    (hxn : LA j = none → xt = 0) (hxs : ∀ q, LA j = some q → xt = S.X q ∧ xh = S.H q ∧ xa = S.A q) (hbad : bad = true ↔ (xt ≠ 0 ∧ xt ≠ S.X k ∧ stat xh xa ((k : Int) + 1) = 0)) (hfs : s = true ↔ FS S k) (hfr : g = true ↔ FS S k ∧ FR S k) :
    ((s && !bad) = true ↔ FS S (k + 1)) ∧ ((g && !bad) = true ↔ FS S (k + 1) ∧ FR S k) := by
  have key : FS S k → (bad = false ↔ SS S k) := fun hF => by
    rw [hpl.strict hw hlt hF hj hI]
    constructor
    · intro hb q hq hx h0
      obtain ⟨e1, e2, e3⟩ := hxs q hq
      have h1 := hw.x1 q (by have := (hpl.la1 j hj q hq).1; omega)
      have : bad = true := hbad.2 ⟨by omega, by rw [e1]; exact hx, by rw [e2, e3]; exact h0⟩
      rw [hb] at this; cases this
    · intro h
      cases hb : bad with
      | false => rfl
      | true =>
        obtain ⟨h1, h2, h3⟩ := hbad.1 hb
        cases hl : LA j with
        | none => exact absurd (hxn hl) h1
        | some q =>
          obtain ⟨e1, e2, e3⟩ := hxs q hl
          exact absurd (by unfold st; rw [← e2, ← e3]; exact h3) (h q hl (by rw [← e1]; exact h2))
  have e1 : (s && !bad) = true ↔ FS S (k + 1) := by
    rw [FS.succ, Bool.and_eq_true, hfs, Bool.not_eq_true']
    constructor
    · rintro ⟨h1, h2⟩; exact ⟨h1, fun _ => (key h1).1 h2⟩
    · rintro ⟨h1, h2⟩; exact ⟨h1, (key h1).2 (h2 ht)⟩
  refine ⟨e1, ?_⟩
  rw [FS.succ, Bool.and_eq_true, hfr, Bool.not_eq_true']
  constructor
  · rintro ⟨⟨h1, h3⟩, h2⟩; exact ⟨⟨h1, fun _ => (key h1).1 h2⟩, h3⟩
  · rintro ⟨⟨h1, h2⟩, h3⟩; exact ⟨⟨h1, h3⟩, (key h1).2 (h2 ht)⟩
theorem flF_2 (r a s s' g : Bool) : ∀ x, x ≠ 2 → x < 4 → flF r a s g x 0 = flF r a s' g x 0 := fun x hx h4 => by
  have : x = 0 ∨ x = 1 ∨ x = 3 := by omega
  rcases this with rfl | rfl | rfl <;> rfl
theorem flF_3 (r a s g g' : Bool) : ∀ x, x ≠ 3 → x < 4 → flF r a s g x 0 = flF r a s g' x 0 := fun x hx h4 => by
  have : x = 0 ∨ x = 1 ∨ x = 2 := by omega
  rcases this with rfl | rfl | rfl <;> rfl
theorem flF_0 (r r' a s g : Bool) : ∀ x, x ≠ 0 → x < 4 → flF r a s g x 0 = flF r' a s g x 0 := fun x hx h4 => by
  have : x = 1 ∨ x = 2 ∨ x = 3 := by omega
  rcases this with rfl | rfl | rfl <;> rfl
theorem flF_1 (r a a' s g : Bool) : ∀ x, x ≠ 1 → x < 4 → flF r a s g x 0 = flF r a' s g x 0 := fun x hx h4 => by
  have : x = 0 ∨ x = 2 ∨ x = 3 := by omega
  rcases this with rfl | rfl | rfl <;> rfl
theorem Chg.weaken {w w' : World} {O O' : Nat → Prop} (h : Chg w w' O) (ho : ∀ x, O x → O' x) : Chg w w' O' := ⟨h.os, h.tape, h.output, h.size, fun k hk hn => h.block k hk (fun h2 => hn (ho k h2))⟩
theorem row_val {w : World} {B : Nat} {v : Value} {m : Nat} {xs : List Value} (h : w.ownsRow B 75 3 v m xs) : ∃ ao cap, v = .slice ao m cap ∧ (ao = none → m = 0 ∧ cap = 0) ∧ ∀ ad, ao = some ad → ∃ g, ad = ⟨g, 0, none⟩ := by
  rcases h.2 with ⟨e, h2⟩ | ⟨g, cap, _, e, _⟩
  · exact ⟨none, 0, by rw [e, h2], fun _ => ⟨h2, rfl⟩, fun ad h => by cases h⟩
  · exact ⟨_, cap, e, (fun h => by cases h), fun ad h => ⟨g, by injection h with h; exact h.symm⟩⟩
theorem Try.info75 : (Try.prog.info? 75).map (fun i => (i.zero, i.size, i.bytes)) = some (some (.agg #[.int .i64 0, .int .u8 0, .int .i64 0]), 3, 24) := by kernel_rfl
/-- One transaction more, as a step of a region that draws. -/
theorem step_push {ops : Array Oper} {o : Oper} {a : Act} {w : World} {K : Act → World → Prop} {Q : Exit → Act → World → Prop} {E : Prop}
    (hg : o.guard = none) (s x : Operand) (hop : o.op = Op.call { callee := Callee.builtin Builtin.append, args := #[s, x], argTypes := #[77, 77] })
    (S : Sch) (B : Nat) (v : Value) (l : List Nat) (hs : a.eval s = v) (hv : w.ownsRow B 75 3 v l.length (flat S l)) (b k : Nat) (hx : a.eval x = .slice (some ⟨b, 0, none⟩) 1 1)
    (h0 : w.cell? ⟨b, 0, none⟩ = some (.int .i64 (S.X k))) (h1 : w.cell? ⟨b, 1, none⟩ = some (.int .u8 (S.H k : Nat))) (h2 : w.cell? ⟨b, 2, none⟩ = some (.int .i64 (S.A k))) (hbd : l.length + 1 ≤ 100000) (hB : B ≤ w.heap.size)
    (hK : ∀ g cap w', w'.ownsRow B 75 3 (.slice (some ⟨g, 0, none⟩) (l.length + 1) cap) (l ++ [k]).length (flat S (l ++ [k])) → w.grownBy w' v.ownBlock → (v.ownBlock = some g ∨ g = w.heap.size) → K (a.put o.dst (.slice (some ⟨g, 0, none⟩) (l.length + 1) cap)) w') :
    if Region.wanted o (yielded ops a.tmps) = true then Oper.wp Try.prog o a w K Q else E := by
  have hw : Region.wanted o (yielded ops a.tmps) = true := by simp [Region.wanted, hg]
  rw [if_pos hw]
  obtain ⟨i0, hi, hz0, hz1, hz2⟩ := info_parts Try.info75
  have hlen : (l ++ [k]).length = l.length + 1 := by simp
  obtain ⟨v', w', hrun, r1, r2, r3, r4⟩ := run_append_own_at (P := Try.prog) w B 77 o.type 75 i0 _ 3 24 Try.underlying77 hi hz0 hz1 hz2 rfl (by decide) v l.length (flat S l) hv ⟨b, 0, none⟩ 1 1 (tx3 S (some k)) (tx3_len _ _) (fun j u hj => by
    rw [show (⟨b, 0, none⟩ : Addr).add j = ⟨b, j, none⟩ by unfold Addr.add; split <;> simp_all]
    match j, hj with
    | 0, hj => simp [tx3] at hj; subst hj; exact h0
    | 1, hj => simp [tx3] at hj; subst hj; exact h1
    | 2, hj => simp [tx3] at hj; subst hj; exact h2
    | j + 3, hj => simp [tx3] at hj) (tx3_one _ _) (by unfold maxLen; omega) (by omega) hB
  rw [← flat_snoc] at r1
  obtain ⟨g, cap, hv'⟩ : ∃ g cap, v' = .slice (some ⟨g, 0, none⟩) (l.length + 1) cap := by
    rcases r1.2 with ⟨_, h⟩ | ⟨g, cap, _, e, _⟩
    · omega
    · exact ⟨g, cap, e⟩
  subst hv'
  unfold Oper.wp
  simp [execOp, hop, resolve, invoke, builtin, hs, hx, hrun, Result.andThen]
  refine hK g cap w' (by rw [hlen]; exact r1) r2 ?_
  rcases r4 with e | e
  · left; rw [← e]; rfl
  · right
    have : some g = some w.heap.size := e
    injection this
theorem upd_self {α : Type} (f : Nat → α) (j : Nat) : upd f j (f j) = f := by
  funext i
  by_cases e : i = j
  · subst e; rw [upd_same]
  · rw [upd_other _ _ e]
theorem It.chg {S : Sch} {w w' : World} {B b : Nat} {la : Option Nat} {wv rv : Value} {WL RL : List Nat} (h : It S w B b la wv rv WL RL) {W0 : World} (hb : Below w.heap.size w W0) {row : Option Nat} (hg : W0.grownBy w' row) {x : Nat} (hx : Own b wv rv x) (hr : row ≠ some x) : w'.heap[x]? = w.heap[x]? :=
  (hg.block x (Nat.lt_of_lt_of_le (h.own hx).2 hb.size) (fun e => hr e.symm)).trans (hb.block x (h.own hx).2)
theorem Mid.pushR {S : Sch} {w w4 W0 w5 : World} {k q j c : Nat} {κ : Nat → ByteArray} {β : Nat → Nat} {LA : Nat → Option Nat} {wv rv : Nat → Value} {WL RL : Nat → List Nat} {r a s g : Bool} (h : Mid S w w4 k q j c κ β LA wv rv WL RL r a s g) (hb : Below w4.heap.size w4 W0) {v' : Value}
    (hgrow : W0.grownBy w5 (rv j).ownBlock) (hown : w5.ownsRow (w.heap.size + 3) 75 3 v' (RL j ++ [k]).length (flat S (RL j ++ [k]))) (hat : (rv j).ownBlock = v'.ownBlock ∨ v'.ownBlock = some W0.heap.size) :
    Mid S w (w5.setCell ⟨β j, 4, none⟩ v') k q j c κ β LA wv (upd rv j v') WL (upd RL j (RL j ++ [k])) r a s g := by
  have hit := h.mem.its.it j h.hj
  have hsz : w4.heap.size ≤ W0.heap.size := hb.size
  have hn2 : v'.ownBlock ≠ some (β j) := fun e => by
    rcases hat with e2 | e2
    · exact hit.n2 (e2.trans e)
    · rw [e2] at e; injection e with e; have := hit.blk.lt; omega
  have hn3 : ∀ x, (wv j).ownBlock = some x → v'.ownBlock ≠ some x := fun x hx e => by
    rcases hat with e2 | e2
    · exact hit.n3 x hx (e2.trans e)
    · rw [e2] at e; injection e with e; have := (hit.ws.lt x hx).2; omega
  have hblk : Els w5 (β j) 5 1 (itF S (LA j) (wv j) (rv j)) := hit.blk.of_block (hit.chg hb hgrow (.inl rfl) hit.n2)
  have hws : w5.ownsRow (w.heap.size + 3) 75 3 (wv j) (WL j).length (flat S (WL j)) := ownsRow_keep hit.ws fun x hx => hit.chg hb hgrow (.inr (.inl hx)) (hit.n3 x hx)
  have hnew : It S (w5.setCell ⟨β j, 4, none⟩ v') (w.heap.size + 3) (β j) (LA j) (wv j) v' (WL j) (RL j ++ [k]) :=
    ⟨hblk.set1' (by omega) _ (itF_r _ _ _ _) (fun i hi => itF_or _ _ _ _ _ i hi),
     ownsRow_keep hws fun x hx => Below.heap_setCell _ _ _ _ (fun e2 => hit.n1 (by rw [hx]; exact congrArg some e2)),
     ownsRow_keep hown fun x hx => Below.heap_setCell _ _ _ _ (fun e2 => hn2 (by rw [hx]; exact congrArg some e2)), hit.ge, hit.n1, hn2, hn3⟩
  have hchg : Chg w4 (w5.setCell ⟨β j, 4, none⟩ v') (Own (β j) (wv j) (rv j)) :=
    ((Chg.below hb _).trans (Chg.grown hgrow (Own (β j) (wv j) (rv j)) (fun x hx => .inr (.inr hx))) (fun _ _ h => h)).trans (Chg.setCell _ _ _ _ (Own (β j) (wv j) (rv j)) (.inl rfl)) (fun _ _ h => h)
  have := h.touch hnew hchg (fun x hx => by
    rcases hx with hx | hx | hx
    · exact .inl (.inl hx)
    · exact .inl (.inr (.inl hx))
    · rcases hat with e2 | e2
      · exact .inl (.inr (.inr (e2.trans hx)))
      · rw [e2] at hx; injection hx with hx; right; omega)
  rwa [upd_self, upd_self, upd_self] at this
theorem Mid.pushW {S : Sch} {w w4 W0 w5 : World} {k q j c : Nat} {κ : Nat → ByteArray} {β : Nat → Nat} {LA : Nat → Option Nat} {wv rv : Nat → Value} {WL RL : Nat → List Nat} {r a s g : Bool} (h : Mid S w w4 k q j c κ β LA wv rv WL RL r a s g) (hb : Below w4.heap.size w4 W0) {v' : Value}
    (hgrow : W0.grownBy w5 (wv j).ownBlock) (hown : w5.ownsRow (w.heap.size + 3) 75 3 v' (WL j ++ [k]).length (flat S (WL j ++ [k]))) (hat : (wv j).ownBlock = v'.ownBlock ∨ v'.ownBlock = some W0.heap.size) :
    Mid S w (w5.setCell ⟨β j, 3, none⟩ v') k q j c κ β LA (upd wv j v') rv (upd WL j (WL j ++ [k])) RL r a s g := by
  have hit := h.mem.its.it j h.hj
  have hsz : w4.heap.size ≤ W0.heap.size := hb.size
  have hn1 : v'.ownBlock ≠ some (β j) := fun e => by
    rcases hat with e2 | e2
    · exact hit.n1 (e2.trans e)
    · rw [e2] at e; injection e with e; have := hit.blk.lt; omega
  have hn3 : ∀ x, v'.ownBlock = some x → (rv j).ownBlock ≠ some x := fun x hx e => by
    rcases hat with e2 | e2
    · exact hit.n3 x (e2.trans hx) e
    · rw [e2] at hx; injection hx with hx; have := (hit.rs.lt x e).2; omega
  have hblk : Els w5 (β j) 5 1 (itF S (LA j) (wv j) (rv j)) := hit.blk.of_block (hit.chg hb hgrow (.inl rfl) hit.n1)
  have hrs : w5.ownsRow (w.heap.size + 3) 75 3 (rv j) (RL j).length (flat S (RL j)) := ownsRow_keep hit.rs fun x hx => hit.chg hb hgrow (.inr (.inr hx)) (fun e => hit.n3 x e hx)
  have hnew : It S (w5.setCell ⟨β j, 3, none⟩ v') (w.heap.size + 3) (β j) (LA j) v' (rv j) (WL j ++ [k]) (RL j) :=
    ⟨hblk.set1' (by omega) _ (itF_w _ _ _ _) (fun i hi => itF_ow _ _ _ _ _ i hi),
     ownsRow_keep hown fun x hx => Below.heap_setCell _ _ _ _ (fun e2 => hn1 (by rw [hx]; exact congrArg some e2)),
     ownsRow_keep hrs fun x hx => Below.heap_setCell _ _ _ _ (fun e2 => hit.n2 (by rw [hx]; exact congrArg some e2)), hit.ge, hn1, hit.n2, hn3⟩
  have hchg : Chg w4 (w5.setCell ⟨β j, 3, none⟩ v') (Own (β j) (wv j) (rv j)) :=
    ((Chg.below hb _).trans (Chg.grown hgrow (Own (β j) (wv j) (rv j)) (fun x hx => .inr (.inl hx))) (fun _ _ h => h)).trans (Chg.setCell _ _ _ _ (Own (β j) (wv j) (rv j)) (.inl rfl)) (fun _ _ h => h)
  have := h.touch hnew hchg (fun x hx => by
    rcases hx with hx | hx | hx
    · exact .inl (.inl hx)
    · rcases hat with e2 | e2
      · exact .inl (.inr (.inl (e2.trans hx)))
      · rw [e2] at hx; injection hx with hx; right; omega
    · exact .inl (.inr (.inr hx)))
  rwa [upd_self, upd_self, upd_self] at this
theorem own_zero {w : World} {B : Nat} {rao : Option Addr} {m rcap : Nat} {xs : List Value} {S : Sch} (h : w.ownsRow B 75 3 (.slice rao m rcap) m xs) : w.ownsRow B 75 3 (.slice rao 0 rcap) ([] : List Nat).length (flat S []) := by
  obtain ⟨_, h2⟩ := h
  refine ⟨rfl, ?_⟩
  rcases h2 with ⟨e, _⟩ | ⟨g, cap, cur, e, hb, hc, h3, h4, h5, h6⟩
  · injection e with e1 e2 e3
    subst e1 e3
    exact .inl ⟨rfl, rfl⟩
  · injection e with e1 e2 e3
    subst e1 e3
    exact .inr ⟨g, rcap, cur, rfl, hb, hc, Nat.zero_le _, h4, h5, by simp [flat]⟩
/-- Ahead of the append of a write: no readers, the op itself the last. -/
theorem Mid.reset {S : Sch} {w w4 : World} {k q j c : Nat} {κ : Nat → ByteArray} {β : Nat → Nat} {LA : Nat → Option Nat} {wv rv : Nat → Value} {WL RL : Nat → List Nat} {r a s g : Bool} (h : Mid S w w4 k q j c κ β LA wv rv WL RL r a s g) {rao : Option Addr} {m rcap : Nat} (hrv : rv j = .slice rao m rcap) (hm : m = (RL j).length) :
    Mid S w ((((w4.setCell ⟨β j, 4, none⟩ (.slice rao 0 rcap)).setCell ⟨β j, 0, none⟩ (.int .i64 (S.X k))).setCell ⟨β j, 1, none⟩ (.int .u8 (S.H k : Nat))).setCell ⟨β j, 2, none⟩ (.int .i64 (S.A k))) k q j c κ β (upd LA j (some k)) wv (upd rv j (.slice rao 0 rcap)) WL (upd RL j []) r a s g := by
  have hit := h.mem.its.it j h.hj
  have hob : (Value.slice rao 0 rcap).ownBlock = (rv j).ownBlock := by rw [hrv]; cases rao <;> rfl
  have hrs := hit.rs
  rw [hrv, ← hm] at hrs
  have h1 : It S (w4.setCell ⟨β j, 4, none⟩ (.slice rao 0 rcap)) (w.heap.size + 3) (β j) (LA j) (wv j) (.slice rao 0 rcap) (WL j) [] := hit.setR (own_zero hrs) (by rw [hob]; exact hit.n2) (fun x hx => by rw [hob]; exact hit.n3 x hx)
  have h2 := h1.setL k
  have hc : Chg w4 ((((w4.setCell ⟨β j, 4, none⟩ (.slice rao 0 rcap)).setCell ⟨β j, 0, none⟩ (.int .i64 (S.X k))).setCell ⟨β j, 1, none⟩ (.int .u8 (S.H k : Nat))).setCell ⟨β j, 2, none⟩ (.int .i64 (S.A k))) (Own (β j) (wv j) (rv j)) :=
    (((Chg.setCell _ _ _ _ _ (.inl rfl)).trans (Chg.setCell _ _ _ _ _ (.inl rfl)) (fun _ _ h => h)).trans (Chg.setCell _ _ _ _ _ (.inl rfl)) (fun _ _ h => h)).trans (Chg.setCell _ _ _ _ _ (.inl rfl)) (fun _ _ h => h)
  have := h.touch h2 hc (fun x hx => by
    rcases hx with hx | hx | hx
    · exact .inl (.inl hx)
    · exact .inl (.inr (.inl hx))
    · exact .inl (.inr (.inr (hob ▸ hx))))
  rwa [upd_self, upd_self] at this
section
variable {S : Sch} {w wx : World} {k c : Nat} {κ : Nat → ByteArray} {β : Nat → Nat} {LA : Nat → Option Nat} {wv rv : Nat → Value} {WL RL : Nat → List Nat} {r a s g : Bool}
theorem rst_read (hm : RMem S w wx c κ β LA wv rv WL RL r a s g) (hpl : Pl S (k + 1) c κ LA WL RL) (hK : S.K k = 1) (hfc : r = true ↔ FC S k ∧ CC S k) (hfa : a = true ↔ FA S k ∧ AA S k) (hfs : s = true ↔ FS S (k + 1)) (hfr : g = true ↔ FS S (k + 1) ∧ FR S k) :
    RSt S w wx (k + 1) c κ β LA wv rv WL RL r a s g where
  mem := hm
  pl := hpl
  fc := by rw [hfc, FC.succ]; exact ⟨fun x => ⟨x.1, fun _ => x.2⟩, fun x => ⟨x.1, x.2 hK⟩⟩
  fa := by rw [hfa, FA.succ]; exact ⟨fun x => ⟨x.1, fun _ => x.2⟩, fun x => ⟨x.1, x.2 hK⟩⟩
  fs := hfs
  fr := by rw [hfr, FR.succ]; exact ⟨fun x => ⟨x.1, x.2, fun e => by omega⟩, fun x => ⟨x.1, x.2.1⟩⟩
theorem rst_write (hm : RMem S w wx c κ β LA wv rv WL RL r a s g) (hpl : Pl S (k + 1) c κ LA WL RL) (hK : S.K k = 2) (hfc : r = true ↔ FC S k) (hfa : a = true ↔ FA S k) (hfs : s = true ↔ FS S (k + 1)) (hfr : g = true ↔ FS S (k + 1) ∧ FR S k ∧ RR S k) :
    RSt S w wx (k + 1) c κ β LA wv rv WL RL r a s g where
  mem := hm
  pl := hpl
  fc := by rw [hfc, FC.succ]; exact ⟨fun x => ⟨x, fun e => by omega⟩, fun x => x.1⟩
  fa := by rw [hfa, FA.succ]; exact ⟨fun x => ⟨x, fun e => by omega⟩, fun x => x.1⟩
  fs := hfs
  fr := by rw [hfr, FR.succ]; exact ⟨fun x => ⟨x.1, x.2.1, fun _ => x.2.2⟩, fun x => ⟨x.1, x.2.1, x.2.2 hK⟩⟩
theorem src_none (h : ∀ q, ¬ Src S k q) : AA S k ∧ CC S k := ⟨fun q hq => absurd hq (h q), fun q hq => absurd hq (h q)⟩
theorem src_same {x : Nat} (h : Src S k x) (hx : S.X x = S.X k) : AA S k ∧ CC S k := ⟨fun q hq hne => absurd (by rw [← h.uniq hq]; exact hx) hne, fun q hq hne => absurd (by rw [← h.uniq hq]; exact hx) hne⟩
theorem src_diffA {x : Nat} (h : Src S k x) (hx : S.X x ≠ S.X k) : AA S k ↔ st S x ((k : Int) + 1) = 1 := ⟨fun hA => hA x h hx, fun he q hq _ => by rw [← h.uniq hq]; exact he⟩
theorem src_diffC {x : Nat} (h : Src S k x) (hx : S.X x ≠ S.X k) : CC S k ↔ (S.H k = 1 → st S x (S.A k) = 1) := ⟨fun hA => hA x h hx, fun he q hq _ => by rw [← h.uniq hq]; exact he⟩
end
def P38 (S : Sch) (n : Nat) (w : World) (e : Ending) (w' : World) : Prop :=
  (∃ r a s g, e = .returned (.agg #[.bool r, .bool a, .bool s, .bool g]) ∧ (r = true ↔ FC S n) ∧ (a = true ↔ FA S n) ∧ (s = true ↔ FS S n) ∧ (g = true ↔ FS S n ∧ FR S n)) ∧ Below w.heap.size w w'
end Go.Proofs.Qxb6000570a
