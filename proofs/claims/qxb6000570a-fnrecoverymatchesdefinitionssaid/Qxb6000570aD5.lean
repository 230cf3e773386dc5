/-
  WALK: reachFrom (16).
-/
import Derived.Test.Qxb6000570aD4
namespace Go.Proofs.Qxb6000570a
open Go.RowKit
set_option linter.unusedVariables false
set_option linter.unusedSimpArgs false

theorem makeQ (n : Nat) (hn : n ≤ 1048576) (w : World) : (Instr.makeSlice 26 (.int .i64 0) (.int .i64 n)).run Try.prog w = .ok (.slice (some ⟨w.heap.size, 0, none⟩) 0 n) (w.alloc (.cells (mkI n) 3)) := by
  obtain ⟨i0, hi, hz0, hz1, hz2⟩ := info_parts Try.info3
  have := run_make (P := Try.prog) w 26 3 i0 _ Try.underlying26 hi hz0 .i64 .i64 0 n (by omega) (by omega) (by rw [hz2]; omega) (by omega)
  rw [hz1] at this
  exact this
/-- The search's own memory: seen at block S, the queue a slice of the call's own. -/
structure SeaM (w0 wr : World) (S n : Nat) (qv : Value) (Q : List Nat) (f : Nat → Bool) (g : Option Nat) : Prop where
  seen : Els wr S n 1 (boolF f)
  que : SlI wr qv (castL Q) g
  hi : ∀ b, g = some b → S < b
  bel : Below S w0 wr
theorem seaM_start (w : World) (n : Nat) (hn : n ≤ 1048576) : SeaM w ((w.alloc (.cells (mkB n) 4)).alloc (.cells (mkI n) 3)) w.heap.size n (.slice (some ⟨w.heap.size + 1, 0, none⟩) 0 n) [] (fun _ => false) (some (w.heap.size + 1)) where
  seen := (els_madeB w n).alloc _
  que := by
    have := els_madeI (w.alloc (.cells (mkB n) 4)) n
    rw [size_alloc'] at this
    exact .inr ⟨_, n, _, rfl, rfl, by simp [castL], by unfold maxLen; omega, this, fun i hi => by simp [castL] at hi⟩
  hi := fun b e => by injection e with e; omega
  bel := ((Below.refl _ _).alloc (Nat.le_refl _) _).alloc (by simp) _
theorem SeaM.alloc {w0 wr : World} {S n : Nat} {qv : Value} {Q : List Nat} {f : Nat → Bool} {g : Option Nat} (h : SeaM w0 wr S n qv Q f g) (o : Obj) : SeaM w0 (wr.alloc o) S n qv Q f g where
  seen := h.seen.alloc o
  que := h.que.keep fun b e => Below.heap_alloc _ _ _ (by have := h.que; rw [e] at this; exact this.lt)
  hi := h.hi
  bel := h.bel.alloc (Nat.le_of_lt h.seen.lt) _
theorem SeaM.mark {w0 wr : World} {S n : Nat} {qv : Value} {Q : List Nat} {f : Nat → Bool} {g : Option Nat} (h : SeaM w0 wr S n qv Q f g) {v : Nat} (hv : v < n) : SeaM w0 (wr.setCell ⟨S, v, none⟩ (.bool true)) S n qv Q (upd f v true) g where
  seen := h.seen.set1' hv _ (by simp [boolF, upd_same]) (fun i hi => by simp only [boolF]; rw [upd_other _ _ hi])
  que := h.que.keep fun b e => Below.heap_setCell _ _ _ _ (by have := h.hi b e; simp; omega)
  hi := h.hi
  bel := h.bel.setCell (by simp) _
theorem SeaM.push {w0 w1 w2 : World} {S n : Nat} {qv : Value} {Q : List Nat} {f : Nat → Bool} {g : Option Nat} (h : SeaM w0 w1 S n qv Q f g) {v : Nat} {v' : Value} {g' : Option Nat}
    (h1 : SlI w2 v' (castL Q ++ [(v : Int)]) g') (h2 : w1.grownBy w2 g) (h3 : g' = g ∨ g' = some w1.heap.size) : SeaM w0 w2 S n v' (Q ++ [v]) f g' where
  seen := h.seen.of_block (h2.block S h.seen.lt (fun e => by have := h.hi S e.symm; omega))
  que := by rw [castL_snoc]; exact h1
  hi := fun b e => by
    rcases h3 with e3 | e3
    · exact h.hi b (by rw [← e3, e])
    · rw [e3] at e; injection e with e; have := h.seen.lt; omega
  bel := h.bel.grown h2 (Nat.le_of_lt h.seen.lt) (fun b e => by have := h.hi b e; omega)

theorem seaM_marked (w : World) (n s : Nat) (hn : n ≤ 1048576) (hs : s < n) : SeaM w ((w.alloc (.cells ((mkB n).setIfInBounds s (.bool true)) 4)).alloc (.cells (mkI n) 3)) w.heap.size n (.slice (some ⟨w.heap.size + 1, 0, none⟩) 0 n) [] (upd (fun _ => false) s true) (some (w.heap.size + 1)) := by
  have h := (seaM_start w n hn).mark hs
  rw [World.setCell_alloc_past _ _ _ _ (by rw [size_alloc']; omega), World.setCell_alloc_at _ _ _ _ _ rfl] at h
  exact h
/-- What the walk wants of the queue. -/
theorem SeaM.at {w0 wr : World} {S n : Nat} {qv : Value} {Q : List Nat} {f : Nat → Bool} {g : Option Nat} (h : SeaM w0 wr S n qv Q f g) : ∃ qa qc, qv = .slice qa Q.length qc ∧ ∀ i (hi : i < Q.length), ∃ b, qa = some ⟨b, 0, none⟩ ∧ wr.cell? ⟨b, i, none⟩ = some (.int .i64 ((Q[i] : Nat) : Int)) := by
  obtain ⟨ao, cap, h1, _, h3⟩ := h.que.val
  rw [castL_len] at h1
  refine ⟨ao, cap, h1, fun i hi => ?_⟩
  obtain ⟨b, e, _, _, c⟩ := h3 i (by rw [castL_len]; exact hi)
  exact ⟨b, e, by rw [c]; simp [castL]⟩

def P16 (n : Nat) (adj : Nat → List Nat) (s : Nat) (w : World) (e : Ending) (w' : World) : Prop :=
  ∃ f, e = .returned (.slice (some ⟨w.heap.size, 0, none⟩) n n) ∧ Els w' w.heap.size n 1 (boolF f) ∧ (∀ v, v < n → (f v = true ↔ Reach (Edge adj) s v)) ∧ Below w.heap.size w w'
set_option maxRecDepth 20000 in
set_option maxHeartbeats 4000000 in
theorem reach16 (ao : Option Addr) (n ac : Nat) (adj : Nat → List Nat) (ra : Nat → Option Addr) (rc : Nat → Nat) (s : Nat) (w : World) (hn : n ≤ 65536) (hs : s < n) (hg : Good n adj) (hdeg : ∀ u, u < n → (adj u).length ≤ 1048576) (ha : AdjSl w ao n adj ra rc) :
    Calls Try.prog 16 #[.slice ao n ac, .int .i64 s] w (P16 n adj s w) := by
  have HA : Hid (AdjSl w ao n adj ra rc) := ha
  have HG : Hid (Good n adj) := hg
  have HDEG : Hid (∀ u, u < n → (adj u).length ≤ 1048576) := hdeg
  clear ha hg hdeg
  have hmk := makeB n (by omega)
  have hmq := makeQ n (by omega)
  have HM0 : Hid (SeaM w ((w.alloc (.cells ((mkB n).setIfInBounds s (.bool true)) 4)).alloc (.cells (mkI n) 3)) w.heap.size n (.slice (some ⟨w.heap.size + 1, 0, none⟩) 0 n) [] (upd (fun _ => false) s true) (some (w.heap.size + 1))) := seaM_marked w n s (by omega) hs
  have hce : (((w.alloc (.cells ((mkB n).setIfInBounds s (.bool true)) 4)).alloc (.cells (mkI n) 3)).alloc (.cells #[.int .i64 (s : Int)] 3)).cell? ⟨w.heap.size + 1 + 1, 0, none⟩ = some (.int .i64 (s : Int)) := by
    have := (els_lit ((w.alloc (.cells ((mkB n).setIfInBounds s (.bool true)) 4)).alloc (.cells (mkI n) 3)) #[.int .i64 (s : Int)] 3).cell1 (i := 0) (by simp)
    rw [size_alloc', size_alloc'] at this
    exact this
  have HCE : Hid _ := hce
  clear hce
  have c0 : (mkB n)[s]? = some (.bool false) := by
    have := (els_madeB w n).cell1 hs
    rw [World.cell?_alloc_at _ _ _ _ rfl] at this
    exact this
  go_enter Try.func16, Try.ntmps16
  go_wp2_with (at_builtin; refine wpList_push rfl (.tmp 20) (.tmp 22) rfl _ (castL []) (some (w.heap.size + 1)) rfl ((HM0.out.alloc _).que) (w.heap.size + 1 + 1) s rfl HCE.out (by simp [castL]) ?_)
  intro v2 w2 g2 hv2 hgr2 hg2
  have hM1 : SeaM w w2 w.heap.size n v2 ([] ++ [s]) (upd (fun _ => false) s true) g2 := (HM0.out.alloc _).push hv2 hgr2 (by rw [size_alloc', size_alloc', size_alloc']; exact hg2)
  obtain ⟨qa, qc, hq, _⟩ := hM1.at
  subst hq
  have HM1 : Hid (SeaM w w2 w.heap.size n (.slice qa [s].length qc) [s] (upd (fun _ => false) s true) g2) := hM1
  clear hM1 HM0 HCE c0 hv2 hgr2 hg2 hmk hmq
  go_wp2
  go_loopw [6, 7] (fun q i wr => ∃ (hd : Nat) (Q : List Nat) (f : Nat → Bool) (g : Option Nat) (qa : Option Addr) (qc : Nat), hd ≤ Q.length ∧ i = .int .i64 hd ∧ q = .slice qa Q.length qc ∧ SeaM w wr w.heap.size n (.slice qa Q.length qc) Q f g ∧ Sea n adj s Q f hd 0) (fun _ i _ => n - (intOf i).toNat)
  case atStart => exact ⟨0, [s], _, _, qa, qc, by simp, rfl, rfl, HM1.out, sea_start adj hs⟩
  case round =>
    clear HM1
    obtain ⟨hd, Q, f, g, qa, qc, hhd, rfl, rfl, hM, hS⟩ := hrel
    have HM : Hid (SeaM w wr w.heap.size n (.slice qa Q.length qc) Q f g) := hM
    have HS : Hid (Sea n adj s Q f hd 0) := hS
    have hqn : Q.length ≤ n := hS.len
    clear hM hS
    by_cases hlt : hd < Q.length
    · obtain ⟨qa', qc', hq', hqc⟩ := HM.out.at
      injection hq' with e1 e2 e3
      subst e1 e3
      obtain ⟨qb, hqa, d1⟩ := hqc hd hlt
      subst hqa
      obtain ⟨u, hu⟩ : ∃ u, u = Q[hd] := ⟨_, rfl⟩
      rw [← hu] at d1
      have hun : u < n := by rw [hu]; exact HS.out.lt _ (List.getElem_mem hlt)
      have HU : Hid (u = Q[hd]) := hu
      obtain ⟨b, off, hao, hcc⟩ := HA.out (by omega)
      subst hao
      have d2 : wr.cell? ⟨b, off + u, none⟩ = some (.slice (ra u) (adj u).length (rc u)) := cell_later HM.out.bel (hcc u hun).1
      have HROW : Hid (RowAt w (ra u) (adj u)) := (hcc u hun).2
      have hlen := HDEG.out u hun
      have h0 : (0:Int) ≤ (hd : Int) := by omega
      have h1 : (hd:Int) < ((Q.length : Nat) : Int) := by omega
      have h2 : (0:Int) ≤ (u : Int) := by omega
      have h3 : (u:Int) < (n : Int) := by omega
      clear hcc hqc hu e2
      go_wp2
      rename World => w3
      go_loopw [6, 9] (fun q i wr => ∃ (j : Nat) (Q : List Nat) (f : Nat → Bool) (g : Option Nat) (qa : Option Addr) (qc : Nat), j ≤ (adj u).length ∧ i = .int .i64 j ∧ q = .slice qa Q.length qc ∧ SeaM w wr w.heap.size n (.slice qa Q.length qc) Q f g ∧ Sea n adj s Q f hd j ∧ ∃ (h : hd < Q.length), u = Q[hd]) (fun _ i _ => (adj u).length - (intOf i).toNat)
      case atStart => exact ⟨0, Q, f, g, _, _, by omega, rfl, rfl, HM.out, HS.out, hlt, HU.out⟩
      case round =>
        clear d1 d2 HM HS HU hlt hhd h0 h1
        obtain ⟨j, Q, f, g, qa, qc, hj, rfl, rfl, hM, hS, hlt, hu⟩ := hrel
        have HM : Hid (SeaM w wr w.heap.size n (.slice qa Q.length qc) Q f g) := hM
        have HS : Hid (Sea n adj s Q f hd j) := hS
        have hqn : Q.length ≤ n := hS.len
        have HU : Hid (u = Q[hd]) := hu
        clear hM hS hu
        by_cases hjl : j < (adj u).length
        · obtain ⟨rb, ro, hra, hrow⟩ := HROW.out (by omega)
          have d3 : wr.cell? ⟨rb, ro + j, none⟩ = some (.int .i64 (((adj u)[j] : Nat) : Int)) := cell_later HM.out.bel (hrow j hjl)
          obtain ⟨v, hv⟩ : ∃ x, x = (adj u)[j] := ⟨_, rfl⟩
          rw [← hv] at d3
          have HV : Hid (v = (adj u)[j]) := hv
          have hvn : v < n := HG.out u v hun (by rw [hv]; exact List.getElem_mem hjl)
          rw [hra]
          have d4 : wr.cell? ⟨w.heap.size, v, none⟩ = some (.bool (f v)) := by simpa [boolF] using HM.out.seen.cell1 hvn
          have f4 := HM.out.seen.free
          clear hrow hv hra
          cases hfv : f v with
          | true =>
            rw [hfv] at d4
            go_wp2
            go_roundw
            case rel =>
              refine ⟨j + 1, Q, f, g, qa, qc, by omega, by go_num, rfl, HM.out, ?_, hlt, HU.out⟩
              have hj2 : j < (adj Q[hd]).length := by rw [← HU.out]; exact hjl
              refine HS.out.old hlt hj2 ?_
              have hq := (HS.out.mem v hvn).1 hfv
              rw [HV.out] at hq
              simpa only [HU.out] using hq
            case measure => simp [intOf]; omega
          | false =>
            rw [hfv] at d4
            have HM1 : Hid (SeaM w (wr.setCell ⟨w.heap.size, v, none⟩ (.bool true)) w.heap.size n (.slice qa Q.length qc) Q (upd f v true) g) := HM.out.mark hvn
            have HCE : Hid (((wr.setCell ⟨w.heap.size, v, none⟩ (.bool true)).alloc (.cells #[.int .i64 (v : Int)] 3)).cell? ⟨wr.heap.size, 0, none⟩ = some (.int .i64 (v : Int))) := by
              have := (els_lit (wr.setCell ⟨w.heap.size, v, none⟩ (.bool true)) #[.int .i64 (v : Int)] 3).cell1 (i := 0) (by simp)
              rw [World.size_setCell] at this
              exact this
            have HLN : Hid ((castL Q).length + 1 ≤ 1000000) := by
              show _ ≤ _
              rw [castL_len]; omega
            go_wp2_with (at_builtin; refine wpList_push rfl (.tmp 55) (.tmp 57) rfl (.slice qa Q.length qc) (castL Q) g rfl ((HM1.out.alloc _).que) wr.heap.size v rfl HCE.out HLN.out ?_)
            intro v2 w2 g2 hv2 hgr2 hg2
            have hM2 : SeaM w w2 w.heap.size n v2 (Q ++ [v]) (upd f v true) g2 := (HM1.out.alloc _).push hv2 hgr2 (by rw [size_alloc', World.size_setCell]; exact hg2)
            obtain ⟨qa2, qc2, hq2, _⟩ := hM2.at
            subst hq2
            have HM2 : Hid (SeaM w w2 w.heap.size n (.slice qa2 (Q ++ [v]).length qc2) (Q ++ [v]) (upd f v true) g2) := hM2
            clear hM2 hv2 hgr2 hg2 d3 d4 f4
            go_wp2
            go_roundw
            case rel =>
              have hj2 : j < (adj Q[hd]).length := by rw [← HU.out]; exact hjl
              refine ⟨_, _, _, _, _, _, _, _, _, _, _, _, _, _, _, _, _, _, _, _, _, _, _, _, _, ⟨j + 1, Q ++ [v], upd f v true, g2, qa2, qc2, by omega, by go_num, rfl, HM2.out, ?_, by simp; omega, ?_⟩, rfl⟩
              · refine HS.out.new hlt hj2 ?_ hvn hfv
                rw [HV.out]
                simp only [HU.out]
              · rw [List.getElem_append_left hlt]; exact HU.out
            case measure => simp [intOf]; omega
        · have : j = (adj u).length := by omega
          subst this
          go_wp2
          go_roundw
          case rel => exact ⟨hd + 1, Q, f, g, qa, qc, by omega, by go_num, rfl, HM.out, HS.out.next hlt (by rw [HU.out])⟩
          case measure => simp [intOf]; omega
    · go_wp2
      go_ret
      exact ⟨f, rfl, HM.out.seen, HS.out.fin (by omega), HM.out.bel⟩
end Go.Proofs.Qxb6000570a
