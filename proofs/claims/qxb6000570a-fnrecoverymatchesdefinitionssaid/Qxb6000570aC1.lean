/-
  WALK: the closure 'visit' of components (40), over the state of Tarjan's algorithm as it lies in memory.
-/
import Derived.Test.Qxb6000570aProg
import Derived.Test.Qxb6000570aBase
import Derived.Test.Qxb6000570aTarjan
import Derived.WalkLawsBesides
import Derived.Deep.QuietTactic
import Derived.BigQuiet
import Derived.RegionTactic
import Derived.Deep.DeepCutAuto
namespace Go.Proofs.Qxb6000570a
open Go.RowKit
set_option linter.unusedVariables false
set_option linter.unusedSimpArgs false

def ofN (l : List Nat) : List Int := l.reverse.map fun x : Nat => (x : Int)
def natF (f : Nat → Nat) (i _j : Nat) : Value := .int .i64 ((f i : Nat) : Int)
def intF (f : Nat → Int) (i _j : Nat) : Value := .int .i64 (f i)
def constF (v : Value) (_i _j : Nat) : Value := v

structure Mem (w : World) (h n : Nat) (s : St) (gp gs : Option Nat) : Prop where
  idx : Els w h n 1 (natF s.idx)
  vidx : Els w (h + 1) 1 1 (constF (.slice (some ⟨h, 0, none⟩) n n))
  low : Els w (h + 2) n 1 (natF s.low)
  vlow : Els w (h + 3) 1 1 (constF (.slice (some ⟨h + 2, 0, none⟩) n n))
  comp : Els w (h + 4) n 1 (intF s.comp)
  nxt : Els w (h + 5) n 1 (natF s.nxt)
  path : ∃ v, Els w (h + 6) 1 1 (constF v) ∧ SlI w v (ofN s.path) gp
  stack : ∃ v, Els w (h + 7) 1 1 (constF v) ∧ SlI w v (ofN s.stack) gs
  vis : Els w (h + 8) 1 1 (constF (.int .i64 ((s.vis : Nat) : Int)))
  bp : ∀ b, gp = some b → h + 9 ≤ b
  bs : ∀ b, gs = some b → h + 9 ≤ b
  ne : ∀ b, gp = some b → gs ≠ some b

theorem Try.info3 : (Try.prog.info? 3).map (fun i => (i.zero, i.size, i.bytes)) = some (some (.int .i64 0), 1, 8) := by kernel_rfl

theorem wpList_push {w : World} {ops : Array Oper} {rest : List Oper} {o : Oper} {a : Act} {Q : Exit → Act → World → Prop} (hgd : o.guard = none) (s x : Operand)
    (ho : o.op = .call { callee := .builtin .append, args := #[s, x], argTypes := #[26, 26] }) (v : Value) (l : List Int) (g : Option Nat) (hs : a.eval s = v) (hv : SlI w v l g) (b : Nat) (X : Int) (hx : a.eval x = .slice (some ⟨b, 0, none⟩) 1 1)
    (hb : w.cell? ⟨b, 0, none⟩ = some (.int .i64 X)) (hbd : l.length + 1 ≤ 1000000)
    (h : ∀ v' w' g', SlI w' v' (l ++ [X]) g' → w.grownBy w' g → (g' = g ∨ g' = some w.heap.size) → wpList Try.prog ops Q rest (a.put o.dst v') w') : wpList Try.prog ops Q (o :: rest) a w := by
  refine wpList_plain hgd fun K hK => ?_
  obtain ⟨i0, hi, hz0, hz1, hz2⟩ := info_parts Try.info3
  obtain ⟨v', w', g', hrun, h1, h2, h3⟩ := hv.push (P := Try.prog) 26 o.type 3 i0 Try.underlying26 hi hz0 hz1 hz2 X b hb hbd
  unfold Oper.wp
  simp [execOp, ho, resolve, invoke, builtin, hs, hx, hrun, Result.andThen]
  exact hK _ _ (h v' w' g' h1 h2 h3)

theorem ofN_cons (u : Nat) (l : List Nat) : ofN (u :: l) = ofN l ++ [(u : Int)] := by simp [ofN]
theorem ofN_length (l : List Nat) : (ofN l).length = l.length := by simp [ofN]

/-- The state's fixed blocks are as they were. -/
theorem Mem.move {w w' : World} {h n : Nat} {s : St} {gp gs : Option Nat} (m : Mem w h n s gp gs) (hb : ∀ b, b < h + 9 → w'.heap[b]? = w.heap[b]?) (hp : ∀ b, gp = some b → w'.heap[b]? = w.heap[b]?) (hs : ∀ b, gs = some b → w'.heap[b]? = w.heap[b]?) : Mem w' h n s gp gs where
  idx := m.idx.of_block (hb _ (by omega))
  vidx := m.vidx.of_block (hb _ (by omega))
  low := m.low.of_block (hb _ (by omega))
  vlow := m.vlow.of_block (hb _ (by omega))
  comp := m.comp.of_block (hb _ (by omega))
  nxt := m.nxt.of_block (hb _ (by omega))
  path := by obtain ⟨v, a, b⟩ := m.path; exact ⟨v, a.of_block (hb _ (by omega)), b.keep hp⟩
  stack := by obtain ⟨v, a, b⟩ := m.stack; exact ⟨v, a.of_block (hb _ (by omega)), b.keep hs⟩
  vis := m.vis.of_block (hb _ (by omega))
  bp := m.bp
  bs := m.bs
  ne := m.ne
theorem Mem.lt {w : World} {h n : Nat} {s : St} {gp gs : Option Nat} (m : Mem w h n s gp gs) : h + 8 < w.heap.size := m.vis.lt
theorem Mem.gpLt {w : World} {h n : Nat} {s : St} {gp gs : Option Nat} (m : Mem w h n s gp gs) : ∀ b, gp = some b → b < w.heap.size := fun b e => by
  obtain ⟨v, _, h2⟩ := m.path
  subst e; exact h2.lt
theorem Mem.gsLt {w : World} {h n : Nat} {s : St} {gp gs : Option Nat} (m : Mem w h n s gp gs) : ∀ b, gs = some b → b < w.heap.size := fun b e => by
  obtain ⟨v, _, h2⟩ := m.stack
  subst e; exact h2.lt
theorem Mem.below {w w' : World} {h n : Nat} {s : St} {gp gs : Option Nat} (m : Mem w h n s gp gs) (hb : Below w.heap.size w w') : Mem w' h n s gp gs :=
  m.move (fun b hb' => hb.block b (by have := m.lt; omega)) (fun b e => hb.block b (m.gpLt b e)) (fun b e => hb.block b (m.gsLt b e))
theorem Mem.drew {w : World} {h n : Nat} {s : St} {gp gs : Option Nat} (m : Mem w h n s gp gs) : Mem w.drew h n s gp gs := m.move (fun _ _ => rfl) (fun _ _ => rfl) (fun _ _ => rfl)
theorem Mem.drewN {w : World} {h n : Nat} {s : St} {gp gs : Option Nat} (m : Mem w h n s gp gs) (k : Nat) : Mem (w.drewN k) h n s gp gs := m.move (fun _ _ => rfl) (fun _ _ => rfl) (fun _ _ => rfl)
theorem Mem.alloc {w : World} {h n : Nat} {s : St} {gp gs : Option Nat} (m : Mem w h n s gp gs) (o : Obj) : Mem (w.alloc o) h n s gp gs := m.below ((Below.refl _ _).alloc (Nat.le_refl _) _)

theorem natF_upd (f : Nat → Nat) (i v : Nat) : natF (upd f i v) i 0 = .int .i64 (v : Int) := by simp [natF, upd]
theorem natF_upd_o (f : Nat → Nat) (i v : Nat) : ∀ j, j ≠ i → natF (upd f i v) j 0 = natF f j 0 := fun j hj => by simp [natF, upd, hj]

theorem Els.setVar {w : World} {b : Nat} {f : Nat → Nat → Value} (h : Els w b 1 1 f) (v : Value) : Els (w.setCell ⟨b, 0, none⟩ v) b 1 1 (constF v) := by
  refine (h.set1 (k := 0) (by omega) v).congr fun i hi j hj => ?_
  have : i = 0 ∧ j = 0 := by omega
  rw [if_pos this]; rfl

/-- One cell of one array of the state. -/
theorem Mem.setIdx {w : World} {h n : Nat} {s : St} {gp gs : Option Nat} (m : Mem w h n s gp gs) {u : Nat} (hu : u < n) (x : Nat) : Mem (w.setCell ⟨h, u, none⟩ (.int .i64 (x : Int))) h n { s with idx := upd s.idx u x } gp gs where
  idx := m.idx.set1' hu _ (natF_upd _ _ _) (natF_upd_o _ _ _)
  vidx := m.vidx.other (by simp) _
  low := m.low.other (by simp) _
  vlow := m.vlow.other (by simp) _
  comp := m.comp.other (by simp) _
  nxt := m.nxt.other (by simp) _
  path := by obtain ⟨v, a, b⟩ := m.path; exact ⟨v, a.other (by simp) _, b.keep fun b' e => Below.heap_setCell _ _ _ _ (by have := m.bp b' e; simp; omega)⟩
  stack := by obtain ⟨v, a, b⟩ := m.stack; exact ⟨v, a.other (by simp) _, b.keep fun b' e => Below.heap_setCell _ _ _ _ (by have := m.bs b' e; simp; omega)⟩
  vis := m.vis.other (by simp) _
  bp := m.bp
  bs := m.bs
  ne := m.ne
theorem Mem.setLow {w : World} {h n : Nat} {s : St} {gp gs : Option Nat} (m : Mem w h n s gp gs) {u : Nat} (hu : u < n) (x : Nat) : Mem (w.setCell ⟨h + 2, u, none⟩ (.int .i64 (x : Int))) h n { s with low := upd s.low u x } gp gs where
  low := m.low.set1' hu _ (natF_upd _ _ _) (natF_upd_o _ _ _)
  vidx := m.vidx.other (by simp) _
  idx := m.idx.other (by simp) _
  vlow := m.vlow.other (by simp) _
  comp := m.comp.other (by simp) _
  nxt := m.nxt.other (by simp) _
  path := by obtain ⟨v, a, b⟩ := m.path; exact ⟨v, a.other (by simp) _, b.keep fun b' e => Below.heap_setCell _ _ _ _ (by have := m.bp b' e; simp; omega)⟩
  stack := by obtain ⟨v, a, b⟩ := m.stack; exact ⟨v, a.other (by simp) _, b.keep fun b' e => Below.heap_setCell _ _ _ _ (by have := m.bs b' e; simp; omega)⟩
  vis := m.vis.other (by simp) _
  bp := m.bp
  bs := m.bs
  ne := m.ne
theorem Mem.setNxt {w : World} {h n : Nat} {s : St} {gp gs : Option Nat} (m : Mem w h n s gp gs) {u : Nat} (hu : u < n) (x : Nat) : Mem (w.setCell ⟨h + 5, u, none⟩ (.int .i64 (x : Int))) h n { s with nxt := upd s.nxt u x } gp gs where
  nxt := m.nxt.set1' hu _ (natF_upd _ _ _) (natF_upd_o _ _ _)
  vidx := m.vidx.other (by simp) _
  idx := m.idx.other (by simp) _
  vlow := m.vlow.other (by simp) _
  comp := m.comp.other (by simp) _
  low := m.low.other (by simp) _
  path := by obtain ⟨v, a, b⟩ := m.path; exact ⟨v, a.other (by simp) _, b.keep fun b' e => Below.heap_setCell _ _ _ _ (by have := m.bp b' e; simp; omega)⟩
  stack := by obtain ⟨v, a, b⟩ := m.stack; exact ⟨v, a.other (by simp) _, b.keep fun b' e => Below.heap_setCell _ _ _ _ (by have := m.bs b' e; simp; omega)⟩
  vis := m.vis.other (by simp) _
  bp := m.bp
  bs := m.bs
  ne := m.ne
theorem Mem.setComp {w : World} {h n : Nat} {s : St} {gp gs : Option Nat} (m : Mem w h n s gp gs) {u : Nat} (hu : u < n) (x : Int) : Mem (w.setCell ⟨h + 4, u, none⟩ (.int .i64 x)) h n { s with comp := upd s.comp u x } gp gs where
  comp := m.comp.set1' hu _ (by simp [intF, upd]) (fun j hj => by simp [intF, upd, hj])
  vidx := m.vidx.other (by simp) _
  idx := m.idx.other (by simp) _
  vlow := m.vlow.other (by simp) _
  nxt := m.nxt.other (by simp) _
  low := m.low.other (by simp) _
  path := by obtain ⟨v, a, b⟩ := m.path; exact ⟨v, a.other (by simp) _, b.keep fun b' e => Below.heap_setCell _ _ _ _ (by have := m.bp b' e; simp; omega)⟩
  stack := by obtain ⟨v, a, b⟩ := m.stack; exact ⟨v, a.other (by simp) _, b.keep fun b' e => Below.heap_setCell _ _ _ _ (by have := m.bs b' e; simp; omega)⟩
  vis := m.vis.other (by simp) _
  bp := m.bp
  bs := m.bs
  ne := m.ne
theorem Mem.setVis {w : World} {h n : Nat} {s : St} {gp gs : Option Nat} (m : Mem w h n s gp gs) (x : Nat) : Mem (w.setCell ⟨h + 8, 0, none⟩ (.int .i64 (x : Int))) h n { s with vis := x } gp gs where
  vis := m.vis.setVar _
  vidx := m.vidx.other (by simp) _
  idx := m.idx.other (by simp) _
  vlow := m.vlow.other (by simp) _
  nxt := m.nxt.other (by simp) _
  low := m.low.other (by simp) _
  comp := m.comp.other (by simp) _
  path := by obtain ⟨v, a, b⟩ := m.path; exact ⟨v, a.other (by simp) _, b.keep fun b' e => Below.heap_setCell _ _ _ _ (by have := m.bp b' e; simp; omega)⟩
  stack := by obtain ⟨v, a, b⟩ := m.stack; exact ⟨v, a.other (by simp) _, b.keep fun b' e => Below.heap_setCell _ _ _ _ (by have := m.bs b' e; simp; omega)⟩
  bp := m.bp
  bs := m.bs
  ne := m.ne
/-- Behind an append to the path: the new value has been stored. -/
theorem Mem.pushPath {w w' : World} {h n : Nat} {s : St} {gp gs g' : Option Nat} (m : Mem w h n s gp gs) {u : Nat} {v' : Value} (hv : SlI w' v' (ofN s.path ++ [(u : Int)]) g') (hg : w.grownBy w' gp) (hg' : g' = gp ∨ g' = some w.heap.size) :
    Mem (w'.setCell ⟨h + 6, 0, none⟩ v') h n { s with path := u :: s.path } g' gs := by
  have hlt := m.lt
  have hb : ∀ b, b < h + 9 → w'.heap[b]? = w.heap[b]? := fun b hb => hg.block b (by omega) (fun e => by have := m.bp b e.symm; omega)
  have hbg' : ∀ b, g' = some b → h + 9 ≤ b := fun b e => by
    rcases hg' with e' | e'
    · exact m.bp b (by rw [← e', e])
    · rw [e'] at e; cases e; omega
  have hs : ∀ b, gs = some b → w'.heap[b]? = w.heap[b]? := fun b e => hg.block b (m.gsLt b e) (fun e' => m.ne b e'.symm e)
  refine ⟨(m.idx.of_block (hb _ (by omega))).other (by simp) _, (m.vidx.of_block (hb _ (by omega))).other (by simp) _, (m.low.of_block (hb _ (by omega))).other (by simp) _, (m.vlow.of_block (hb _ (by omega))).other (by simp) _, (m.comp.of_block (hb _ (by omega))).other (by simp) _, (m.nxt.of_block (hb _ (by omega))).other (by simp) _, ?_, ?_, (m.vis.of_block (hb _ (by omega))).other (by simp) _, hbg', m.bs, ?_⟩
  · obtain ⟨v, a, b⟩ := m.path
    refine ⟨v', (a.of_block (hb _ (by omega))).setVar _, ?_⟩
    show SlI _ v' (ofN (u :: s.path)) g'
    rw [ofN_cons]
    exact hv.keep fun b' e => Below.heap_setCell _ _ _ _ (by have := hbg' b' e; simp; omega)
  · obtain ⟨v, a, b⟩ := m.stack
    refine ⟨v, (a.of_block (hb _ (by omega))).other (by simp) _, ?_⟩
    exact (b.keep hs).keep fun b' e => Below.heap_setCell _ _ _ _ (by have := m.bs b' e; simp; omega)
  · intro b e e'
    rcases hg' with e1 | e1
    · exact m.ne b (by rw [← e1, e]) e'
    · rw [e1] at e; cases e
      have := m.gsLt _ e'
      omega
theorem Mem.pushStack {w w' : World} {h n : Nat} {s : St} {gp gs g' : Option Nat} (m : Mem w h n s gp gs) {u : Nat} {v' : Value} (hv : SlI w' v' (ofN s.stack ++ [(u : Int)]) g') (hg : w.grownBy w' gs) (hg' : g' = gs ∨ g' = some w.heap.size) :
    Mem (w'.setCell ⟨h + 7, 0, none⟩ v') h n { s with stack := u :: s.stack } gp g' := by
  have hlt := m.lt
  have hb : ∀ b, b < h + 9 → w'.heap[b]? = w.heap[b]? := fun b hb => hg.block b (by omega) (fun e => by have := m.bs b e.symm; omega)
  have hbg' : ∀ b, g' = some b → h + 9 ≤ b := fun b e => by
    rcases hg' with e' | e'
    · exact m.bs b (by rw [← e', e])
    · rw [e'] at e; cases e; omega
  have hp : ∀ b, gp = some b → w'.heap[b]? = w.heap[b]? := fun b e => hg.block b (m.gpLt b e) (fun e' => m.ne b e e'.symm)
  refine ⟨(m.idx.of_block (hb _ (by omega))).other (by simp) _, (m.vidx.of_block (hb _ (by omega))).other (by simp) _, (m.low.of_block (hb _ (by omega))).other (by simp) _, (m.vlow.of_block (hb _ (by omega))).other (by simp) _, (m.comp.of_block (hb _ (by omega))).other (by simp) _, (m.nxt.of_block (hb _ (by omega))).other (by simp) _, ?_, ?_, (m.vis.of_block (hb _ (by omega))).other (by simp) _, m.bp, hbg', ?_⟩
  · obtain ⟨v, a, b⟩ := m.path
    refine ⟨v, (a.of_block (hb _ (by omega))).other (by simp) _, ?_⟩
    exact (b.keep hp).keep fun b' e => Below.heap_setCell _ _ _ _ (by have := m.bp b' e; simp; omega)
  · obtain ⟨v, a, b⟩ := m.stack
    refine ⟨v', (a.of_block (hb _ (by omega))).setVar _, ?_⟩
    show SlI _ v' (ofN (u :: s.stack)) g'
    rw [ofN_cons]
    exact hv.keep fun b' e => Below.heap_setCell _ _ _ _ (by have := hbg' b' e; simp; omega)
  · intro b e e'
    rcases hg' with e1 | e1
    · exact m.ne b e (by rw [← e1, e'])
    · rw [e1] at e'; cases e'
      have := m.gpLt _ e
      omega

def P40 (h n : Nat) (s : St) (u : Nat) (w : World) (e : Ending) (w' : World) : Prop :=
  e = .returned (.tuple #[]) ∧ (∃ gp gs, Mem w' h n (stR s u) gp gs) ∧ Below h w w'

set_option maxHeartbeats 1000000 in
theorem visit40 (h n : Nat) (s : St) (u : Nat) (w : World) (gp gs : Option Nat) (hn : n ≤ 65536) (hu : u < n) (hm : Mem w h n s gp gs) (hv : s.vis ≤ n) (hp : s.path.length ≤ n) (hst : s.stack.length ≤ n) :
    Calls Try.prog 40 #[.int .i64 u, .pointer (some ⟨h + 8, 0, none⟩), .pointer (some ⟨h + 1, 0, none⟩), .pointer (some ⟨h + 3, 0, none⟩), .pointer (some ⟨h + 6, 0, none⟩), .pointer (some ⟨h + 7, 0, none⟩)] w (P40 h n s u w) := by
  have HM : Hid (Mem w h n s gp gs) := hm
  have a1 := hm.vis.cell1 (i := 0) (by omega)
  have a2 := hm.vidx.cell1 (i := 0) (by omega)
  have a3 := hm.vlow.cell1 (i := 0) (by omega)
  have a4 := hm.idx.cell1 hu
  have a5 := hm.low.cell1 hu
  have f1 := hm.vis.free
  have f2 := hm.idx.free
  have f3 := hm.low.free
  simp only [constF, natF] at a1 a2 a3 a4 a5
  have hu0 : (0:Int) ≤ (u : Int) := by omega
  have hu1 : (u:Int) < (n:Int) := by omega
  clear hm
  go_enter Try.func40, Try.ntmps40
  go_upto_region 1 with fail
  go_region
  obtain ⟨w1, hw1⟩ : ∃ x, x = (((w.setCell ⟨h + 8, 0, none⟩ (.int .i64 ((s.vis : Int) + 1))).setCell ⟨h, u, none⟩ (.int .i64 ((s.vis : Int) + 1))).setCell ⟨h + 2, u, none⟩ (.int .i64 ((s.vis : Int) + 1))).drew := ⟨_, rfl⟩
  have HM1 : Hid (Mem w1 h n { s with idx := upd s.idx u (s.vis + 1), low := upd s.low u (s.vis + 1), vis := s.vis + 1 } gp gs) := by
    rw [hw1]
    exact (((HM.out.setVis (s.vis + 1)).setIdx hu (s.vis + 1)).setLow hu (s.vis + 1)).drew
  have HB1 : Hid (Below h w w1) := by
    rw [hw1]
    exact ((((Below.refl _ _).setCell (by simp) _).setCell (by simp) _).setCell (by simp) _).drew
  rw [← hw1]
  clear hw1 a1 a2 a3 a4 a5 f1 f2 f3
  obtain ⟨pv, hpv, hps⟩ := HM1.out.path
  have b1 := hpv.cell1 (i := 0) (by omega)
  simp only [constF] at b1
  have HPS : Hid (SlI w1 pv (ofN s.path) gp) := hps
  clear hpv hps
  have i0 := HM1.out.lt
  go_wp2_with (at_builtin; refine wpList_push rfl (.tmp 17) (.tmp 19) rfl pv (ofN s.path) gp rfl (HPS.out.keep fun b e => Below.heap_alloc _ _ _ (HM1.out.gpLt b e)) w1.heap.size u rfl ?_ ?_ ?_)
  · exact (els_lit w1 #[.int .i64 (u : Int)] 3).cell1 (i := 0) (by simp)
  · rw [ofN_length]; omega
  intro v2 w2 g2 hv2 hgr2 hg2
  obtain ⟨b2, cap2, hv2e⟩ : ∃ b2 cap2, v2 = .slice (some ⟨b2, 0, none⟩) ((ofN s.path).length + 1) cap2 := by obtain ⟨b2, cap2, e, _⟩ := hv2.pop; exact ⟨b2, cap2, e⟩
  rw [hv2e]
  rw [hv2e] at hv2
  clear hv2e v2
  have HM2 : Hid (Mem (w2.setCell ⟨h + 6, 0, none⟩ (.slice (some ⟨b2, 0, none⟩) ((ofN s.path).length + 1) cap2)) h n { s with idx := upd s.idx u (s.vis + 1), low := upd s.low u (s.vis + 1), vis := s.vis + 1, path := u :: s.path } g2 gs) := (HM1.out.alloc _).pushPath hv2 hgr2 (by rw [size_alloc']; exact hg2)
  have hblk : w2.heap[h + 6]? = w1.heap[h + 6]? := (hgr2.block (h + 6) (by simp; omega) (fun e => by have := HM1.out.bp _ e.symm; omega)).trans (Below.heap_alloc _ _ _ (by omega))
  have c1 : w2.cell? ⟨h + 6, 0, none⟩ = some pv := (World.cell?_of_block (w := w1) hblk).trans b1
  obtain ⟨pv', hpv', _⟩ := HM1.out.path
  have c2 : w2.frozen? ⟨h + 6, 0, none⟩ = false := (World.frozen?_of_block (w := w1) hblk).trans (hpv'.free 0)
  have HB2 : Hid (Below h w w2) := HB1.out.trans (((Below.refl _ _).alloc (by omega) _).grown hgr2 (by simp; omega) (fun b e => by have := HM1.out.bp b e; omega))
  clear hv2 hgr2 hg2 hblk hpv' b1
  obtain ⟨sv, hsv, hss⟩ := HM2.out.stack
  have d1 := hsv.cell1 (i := 0) (by omega)
  have d2 := hsv.free 0
  simp only [constF] at d1
  have HSS : Hid (SlI (w2.setCell ⟨h + 6, 0, none⟩ (.slice (some ⟨b2, 0, none⟩) ((ofN s.path).length + 1) cap2)) sv (ofN s.stack) gs) := hss
  clear hsv hss
  have i2 := HM2.out.lt
  have hce : ((w2.setCell ⟨h + 6, 0, none⟩ (.slice (some ⟨b2, 0, none⟩) ((ofN s.path).length + 1) cap2)).alloc (.cells #[.int .i64 (u : Int)] 3)).cell? ⟨w2.heap.size, 0, none⟩ = some (.int .i64 (u : Int)) := by
    have := (els_lit (w2.setCell ⟨h + 6, 0, none⟩ (.slice (some ⟨b2, 0, none⟩) ((ofN s.path).length + 1) cap2)) #[.int .i64 (u : Int)] 3).cell1 (i := 0) (by simp)
    rw [World.size_setCell] at this
    exact this
  have HCE : Hid _ := hce
  have HLN : Hid ((ofN s.stack).length + 1 ≤ 1000000) := by show _ ≤ _; rw [ofN_length]; omega
  clear hce
  go_wp2_with (at_builtin; refine wpList_push rfl (.tmp 21) (.tmp 23) rfl sv (ofN s.stack) gs rfl (HSS.out.keep fun b e => Below.heap_alloc _ _ _ (HM2.out.gsLt b e)) w2.heap.size u rfl HCE.out HLN.out ?_)
  intro v3 w3 g3 hv3 hgr3 hg3
  obtain ⟨b3, cap3, hv3e⟩ : ∃ b3 cap3, v3 = .slice (some ⟨b3, 0, none⟩) ((ofN s.stack).length + 1) cap3 := by obtain ⟨b3, cap3, e, _⟩ := hv3.pop; exact ⟨b3, cap3, e⟩
  rw [hv3e]
  rw [hv3e] at hv3
  clear hv3e v3
  have HM3 : Hid (Mem (w3.setCell ⟨h + 7, 0, none⟩ (.slice (some ⟨b3, 0, none⟩) ((ofN s.stack).length + 1) cap3)) h n (stR s u) g2 g3) := (HM2.out.alloc _).pushStack hv3 hgr3 (by rw [size_alloc', World.size_setCell]; exact hg3)
  have hblk : w3.heap[h + 7]? = (w2.setCell ⟨h + 6, 0, none⟩ (.slice (some ⟨b2, 0, none⟩) ((ofN s.path).length + 1) cap2)).heap[h + 7]? := (hgr3.block (h + 7) (by simp at i2 ⊢; omega) (fun e => by have := HM2.out.bs _ e.symm; omega)).trans (Below.heap_alloc _ _ _ (by omega))
  have c3 : w3.cell? ⟨h + 7, 0, none⟩ = some sv := (World.cell?_of_block (w := w2.setCell ⟨h + 6, 0, none⟩ (.slice (some ⟨b2, 0, none⟩) ((ofN s.path).length + 1) cap2)) hblk).trans d1
  have c4 : w3.frozen? ⟨h + 7, 0, none⟩ = false := (World.frozen?_of_block (w := w2.setCell ⟨h + 6, 0, none⟩ (.slice (some ⟨b2, 0, none⟩) ((ofN s.path).length + 1) cap2)) hblk).trans d2
  have HB3 : Hid (Below h w w3) := (HB2.out.setCell (p := ⟨h + 6, 0, none⟩) (by simp) (.slice (some ⟨b2, 0, none⟩) ((ofN s.path).length + 1) cap2)).trans (((Below.refl _ _).alloc (by simp at i2 ⊢; omega) _).grown hgr3 (by simp at i2 ⊢; omega) (fun b e => by have := HM2.out.bs b e; omega))
  clear hv3 hgr3 hg3 hblk d1 d2 c1 c2
  go_wp2
  go_end0
  exact ⟨rfl, ⟨_, _, HM3.out⟩, HB3.out.setCell (by simp) _⟩
end Go.Proofs.Qxb6000570a
