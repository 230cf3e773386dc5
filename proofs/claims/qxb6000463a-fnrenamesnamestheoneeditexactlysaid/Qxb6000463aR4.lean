/-
  WALK for the law on Renames: ofDatabase (35); the pieces that Renames (13) wants.
-/
import Derived.Test.Qxb6000463aR3
namespace Go.Proofs.Qxb6000463a
open Go.RowKit
set_option linter.unusedVariables false
set_option linter.unusedSimpArgs false

def tabA (b : Nat) (O : OD) (i : Nat) : Array Value := #[.string (O.sch i), .string (O.nam i), .string (O.nam i), .int .u32 ((i : Int) + 1), .string ⟨#[]⟩, .string ⟨#[]⟩, .string ⟨#[]⟩, .slice (some ⟨b + 2 + 2 * i, 0, none⟩) (O.nc i) (O.nc i), .slice none 0 0, .slice (some ⟨b + 3 + 2 * i, 0, none⟩) (O.np i) (O.np i), .bool false]
def colA (C : Nat → ByteArray) (i : Nat) : Array Value := #[.string (C i), .string (C i), .int .i64 ((i : Int) + 1), .string ⟨#[]⟩, .bool false, .string ⟨#[]⟩, .bool false, .string ⟨#[]⟩]
def fkA (i0 : Nat) (Q : Nat → ByteArray) (j : Nat) : Array Value := #[.string ⟨#[102, 107]⟩, .slice none 0 0, .string ⟨#[]⟩, .string ⟨#[]⟩, .slice none 0 0, .string (Q j), .string ⟨#[]⟩, .string ⟨#[]⟩, .int .u32 ((i0 : Int) * 4096 + j + 1), .bool false]
def tabKey (i : Nat) : Value := .int .u32 ((i : Int) + 1)
def tabVal (b : Nat) (O : OD) (i : Nat) : Value := .agg (tabA b O i)
def colKey (i : Nat) : Value := .int .i64 ((i : Int) + 1)
def colVal (C : Nat → ByteArray) (i : Nat) : Value := .agg (colA C i)
def fkKey (i0 j : Nat) : Value := .int .u32 ((i0 : Int) * 4096 + j + 1)
def fkVal (Q : Nat → ByteArray) (j : Nat) : Value := .string (Q j)

theorem tab_put (w : World) (m k b : Nat) (O : OD) (h : w.heap[m]? = some (.map (ents tabKey (tabVal b O) k) k)) :
    (Instr.mapUpdate 101 (.map (some m)) (.int .u32 ((k : Int) + 1)) (.agg #[.string (O.sch k), .string (O.nam k), .string (O.nam k), .int .u32 ((k : Int) + 1), .string ⟨#[]⟩, .string ⟨#[]⟩, .string ⟨#[]⟩, .slice (some ⟨b + 2 + 2 * k, 0, none⟩) (O.nc k) (O.nc k), .slice none 0 0, .slice (some ⟨b + 3 + 2 * k, 0, none⟩) (O.np k) (O.np k), .bool false])).run Try.prog w = .ok () (setB w m (.map (ents tabKey (tabVal b O) (k + 1)) (k + 1))) := by
  have := run_put_new (P := Try.prog) w 101 28 34 (.int .u32) Try.underlying101 Try.underlying28 (.inl ⟨_, rfl⟩) m _ _ h (tabKey k) (tabVal b O k) (ents_new .u32 (fun i => (i : Int) + 1) _ k _ (fun i hi => by omega))
  rw [ents_succ] at this
  exact this
theorem tab_look (w : World) (m n k b : Nat) (O : OD) (h : w.heap[m]? = some (.map (ents tabKey (tabVal b O) n) n)) (hk : k < n) :
    (Instr.lookup 101 (.map (some m)) (.int .u32 ((k : Int) + 1)) true).run Try.prog w = .ok (.tuple #[.agg #[.string (O.sch k), .string (O.nam k), .string (O.nam k), .int .u32 ((k : Int) + 1), .string ⟨#[]⟩, .string ⟨#[]⟩, .string ⟨#[]⟩, .slice (some ⟨b + 2 + 2 * k, 0, none⟩) (O.nc k) (O.nc k), .slice none 0 0, .slice (some ⟨b + 3 + 2 * k, 0, none⟩) (O.np k) (O.np k), .bool false], .bool true]) w :=
  run_look_hit (P := Try.prog) w 101 28 34 (.int .u32) Try.underlying101 Try.underlying28 (.inl ⟨_, rfl⟩) m _ _ h (tabKey k) (tabVal b O k) k (ents_hit .u32 (fun i => (i : Int) + 1) _ n k hk (fun i hi => by omega))
theorem col_put (w : World) (m k : Nat) (C : Nat → ByteArray) (h : w.heap[m]? = some (.map (ents colKey (colVal C) k) k)) :
    (Instr.mapUpdate 103 (.map (some m)) (.int .i64 ((k : Int) + 1)) (.agg #[.string (C k), .string (C k), .int .i64 ((k : Int) + 1), .string ⟨#[]⟩, .bool false, .string ⟨#[]⟩, .bool false, .string ⟨#[]⟩])).run Try.prog w = .ok () (setB w m (.map (ents colKey (colVal C) (k + 1)) (k + 1))) := by
  have := run_put_new (P := Try.prog) w 103 3 39 (.int .i64) Try.underlying103 Try.underlying3 (.inl ⟨_, rfl⟩) m _ _ h (colKey k) (colVal C k) (ents_new .i64 (fun i => (i : Int) + 1) _ k _ (fun i hi => by omega))
  rw [ents_succ] at this
  exact this
theorem col_look (w : World) (m n k : Nat) (C : Nat → ByteArray) (h : w.heap[m]? = some (.map (ents colKey (colVal C) n) n)) (hk : k < n) :
    (Instr.lookup 103 (.map (some m)) (.int .i64 ((k : Int) + 1)) true).run Try.prog w = .ok (.tuple #[.agg #[.string (C k), .string (C k), .int .i64 ((k : Int) + 1), .string ⟨#[]⟩, .bool false, .string ⟨#[]⟩, .bool false, .string ⟨#[]⟩], .bool true]) w :=
  run_look_hit (P := Try.prog) w 103 3 39 (.int .i64) Try.underlying103 Try.underlying3 (.inl ⟨_, rfl⟩) m _ _ h (colKey k) (colVal C k) k (ents_hit .i64 (fun i => (i : Int) + 1) _ n k hk (fun i hi => by omega))
theorem fk_put (w : World) (m i0 k : Nat) (Q : Nat → ByteArray) (h : w.heap[m]? = some (.map (ents (fkKey i0) (fkVal Q) k) k)) :
    (Instr.mapUpdate 104 (.map (some m)) (.int .u32 ((i0 : Int) * 4096 + k + 1)) (.string (Q k))).run Try.prog w = .ok () (setB w m (.map (ents (fkKey i0) (fkVal Q) (k + 1)) (k + 1))) := by
  have := run_put_new (P := Try.prog) w 104 28 9 (.int .u32) Try.underlying104 Try.underlying28 (.inl ⟨_, rfl⟩) m _ _ h (fkKey i0 k) (fkVal Q k) (ents_new .u32 (fun i => (i0 : Int) * 4096 + i + 1) _ k _ (fun i hi => by omega))
  rw [ents_succ] at this
  exact this
theorem fk_look (w : World) (m i0 n k : Nat) (Q : Nat → ByteArray) (h : w.heap[m]? = some (.map (ents (fkKey i0) (fkVal Q) n) n)) (hk : k < n) :
    (Instr.lookup 104 (.map (some m)) (.int .u32 ((i0 : Int) * 4096 + k + 1)) true).run Try.prog w = .ok (.tuple #[.string (Q k), .bool true]) w :=
  run_look_hit (P := Try.prog) w 104 28 9 (.int .u32) Try.underlying104 Try.underlying28 (.inl ⟨_, rfl⟩) m _ _ h (fkKey i0 k) (fkVal Q k) k (ents_hit .u32 (fun i => (i0 : Int) * 4096 + i + 1) _ n k hk (fun i hi => by omega))
theorem ba_beq (s : ByteArray) : (s == s) = true := by
  show (s.data == s.data) = true
  simp
theorem sameNow_str (s : ByteArray) : Instr.sameNow .string (.string s) (.string s) = some true := by simp only [Instr.sameNow, ba_beq]
/-- The first entry of a map keyed by strings. -/
theorem str_put0 (w : World) (t e m : Nat) (ht : Try.prog.underlying t = some (.map 9 e)) (h : w.heap[m]? = some (.map #[] 0)) (s : ByteArray) (v : Value) :
    (Instr.mapUpdate t (.map (some m)) (.string s) v).run Try.prog w = .ok () (setB w m (.map #[{ key := .string s, val := v, born := 0 }] 1)) :=
  run_put_new (P := Try.prog) w t 9 e .string ht Try.underlying9 (.inr rfl) m _ _ h (.string s) v rfl
theorem str_look1 (w : World) (t e m : Nat) (ht : Try.prog.underlying t = some (.map 9 e)) (s : ByteArray) (v : Value) (h : w.heap[m]? = some (.map #[{ key := .string s, val := v, born := 0 }] 1)) :
    (Instr.lookup t (.map (some m)) (.string s) true).run Try.prog w = .ok (.tuple #[v, .bool true]) w :=
  run_look_hit (P := Try.prog) w t 9 e .string ht Try.underlying9 (.inr rfl) m _ _ h (.string s) v 0 (by rw [show (#[{ key := .string s, val := v, born := 0 }] : Array MapEntry).toList = [{ key := .string s, val := v, born := 0 }] from rfl, Instr.findNow, sameNow_str])
theorem map_len (w : World) (t k e ty m : Nat) (ht : Try.prog.underlying t = some (.map k e)) (es : Array MapEntry) (c : Nat) (h : w.heap[m]? = some (.map es c)) :
    (Builtin.len_ #[t] ty #[.map (some m)]).run Try.prog w = .ok (.int .i64 es.size) w := by
  have h1 := run_getObj_of (P := Try.prog) w (o := .map es c) es c h
  simp [Builtin.len_, run_underlying ht, h1, goInt]

def P35 (w : World) (e : Ending) (w' : World) : Prop := e = .returned (.bool true) ∧ Below w.heap.size w w'
theorem ofDb35 (bO bN n : Nat) (w : World) : Calls Try.prog 35 #[outV bO n, outV bN n] w (P35 w) := by
  unfold outV
  go_enter Try.func35, Try.ntmps35
  go_wp2
  go_ret
  exact ⟨rfl, ((Below.refl _ _).alloc (Nat.le_refl _) _).alloc (by simp) _⟩

theorem Try.info47 : (Try.prog.info? 47).map (fun i => (i.zero, i.size, i.bytes)) = some (some (.agg (z34 ++ z34 ++ #[.map none, .map none])), 24, 384) := by kernel_rfl

/-- 'append(nil, r)', r one struct of 24 cells that lies at the head of block b. -/
theorem append24 (w : World) (ty b c : Nat) (news : List Value) (hl : news.length = 24) (hc : ∀ j u, news[j]? = some u → w.cell? ⟨b, j, none⟩ = some u) (h1 : ∀ u ∈ news, u.oneCell' = true) :
    ∃ g cap w', (Builtin.append_ #[42, 42] ty #[.slice none 0 0, .slice (some ⟨b, 0, none⟩) 1 c]).run Try.prog w = .ok (.slice (some ⟨g, 0, none⟩) 1 cap) w' ∧ (∀ j u, news[j]? = some u → w'.cell? ⟨g, j, none⟩ = some u) ∧ Below w.heap.size w w' := by
  obtain ⟨i0, hi, hz0, hz1, hz2⟩ := info_parts Try.info47
  obtain ⟨v', w', hrun, hown, hgrow, hnil⟩ := run_append_own (P := Try.prog) w w.heap.size 42 ty 47 i0 _ 24 384 Try.underlying42 hi hz0 hz1 hz2 rfl (by decide) (.slice none 0 0) 0 [] (World.ownsRow_nil _ _ _ _) ⟨b, 0, none⟩ 1 c news (by simp [hl]) (fun j u hj => by
    rw [show (⟨b, 0, none⟩ : Addr).add j = ⟨b, j, none⟩ by unfold Addr.add; split <;> simp_all]; exact hc j u hj) h1 (by unfold maxLen; omega) (by omega) (Nat.le_refl _)
  have hb : Below w.heap.size w w' := (Below.refl _ _).grown hgrow (Nat.le_refl _) (fun k hk => by simp [Value.ownBlock] at hk)
  have ho := hown
  rcases hown.2 with ⟨e1, e2⟩ | ⟨g, cap, cur, e1, e2, e3, e4, e5, e6, e7⟩
  · simp at e2
  · refine ⟨g, cap, w', by rw [hrun, e1], fun j u hj => ?_, hb⟩
    have hj24 : j < 24 := by
      by_cases h : j < news.length
      · omega
      · rw [List.getElem?_eq_none (by omega)] at hj; cases hj
    rw [e1] at ho
    have := ho.cellAt j (by omega)
    simpa [hj] using this
end Go.Proofs.Qxb6000463a
