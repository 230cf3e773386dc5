/-
  WALKS: CommandsAndOutput (22), zzBeginsWithJoined (23), zzSameStrings (10).
-/
import Derived.Test.Qxb6601375aS2
import Derived.Test.Qxb6601375aJ
import Derived.Test.Qxb6601375aShelf
namespace Go.Proofs.Qxb6601375a
open Go.RowKit
set_option linter.unusedVariables false
set_option linter.unusedSimpArgs false

def rowV (L : Nat → List ByteArray) (ra : Nat → Option Addr) (rc : Nat → Nat) (u : Nat) : Value := .slice (ra u) (L u).length (rc u)
def P22 (n : Nat) (L : Nat → List ByteArray) (ra : Nat → Option Addr) (rc : Nat → Nat) (p : ByteArray) (w : World) (e : Ending) (w' : World) : Prop :=
  ((∃ u, u + 1 < n ∧ hit p (L u) = true ∧ (∀ v, v < u → hit p (L v) = false) ∧ e = .returned (.tuple #[rowV L ra rc u, rowV L ra rc (u + 1), .bool true])) ∨
   ((∀ v, v + 1 < n → hit p (L v) = false) ∧ e = .returned (.tuple #[.slice none 0 0, .slice none 0 0, .bool false]))) ∧ Below w.heap.size w w'

/-- The call of strings.Join, whichever slice. -/
def P33 (l : List ByteArray) (w : World) (e : Ending) (w' : World) : Prop := e = .returned (.string ⟨(joined l).toArray⟩) ∧ Below w.heap.size w w'
theorem join33 (ao : Option Addr) (c : Nat) (l : List ByteArray) (w : World) (hl : l.length ≤ 1048576) (hz : Sz 1048576 l) (hc : l.length ≤ c) (ha : RowS w ao l) :
    Calls Try.prog 33 #[.slice ao l.length c, .string ⟨#[10]⟩] w (P33 l w) := by
  by_cases h0 : l.length = 0
  · have : l = [] := List.eq_nil_of_length_eq_zero h0
    subst this
    refine (Try.strings_Join_none ao c ⟨#[10]⟩ w).mono ?_
    rintro e w' ⟨rfl, rfl⟩
    exact ⟨rfl, Below.refl _ _⟩
  · obtain ⟨rb, ro, rfl, hcell⟩ := ha (by omega)
    have hlen := joined_len 1048576 l hz
    refine (Try.strings_Join rb ro c l ⟨#[10]⟩ w ?_ ?_ (by omega) hc ?_).mono ?_
    · intro j x hj
      obtain ⟨h1, rfl⟩ := List.getElem?_eq_some_iff.1 hj
      exact hcell j h1
    · exact World.block_lt_of_cell? w ⟨rb, ro + 0, none⟩ (hcell 0 (by omega))
    · show (joined l).length ≤ _
      have : l.length * (1048576 + 1) ≤ 1048576 * (1048576 + 1) := Nat.mul_le_mul_right _ hl
      omega
    · rintro e w' ⟨rfl, hb⟩
      exact ⟨rfl, hb⟩

set_option maxRecDepth 20000 in
set_option maxHeartbeats 4000000 in
theorem cmd22 (ao : Option Addr) (n c : Nat) (L : Nat → List ByteArray) (ra : Nat → Option Addr) (rc : Nat → Nat) (p : ByteArray) (w : World) (hn : n ≤ 1048576) (hl : ∀ u, u < n → (L u).length ≤ 1048576 ∧ Sz 1048576 (L u) ∧ (L u).length ≤ rc u ∧ RowS w (ra u) (L u)) (ha : BlkS w ao n L ra rc) :
    Calls Try.prog 22 #[.slice ao n c, .string p] w (P22 n L ra rc p w) := by
  have HA : Hid (BlkS w ao n L ra rc) := ha
  have HL : Hid (∀ u, u < n → (L u).length ≤ 1048576 ∧ Sz 1048576 (L u) ∧ (L u).length ≤ rc u ∧ RowS w (ra u) (L u)) := hl
  clear ha hl
  go_enter Try.func22, Try.ntmps22
  go_wp2
  go_loopw [7] (fun i wr => ∃ k : Nat, k ≤ n ∧ i = .int .i64 k ∧ (∀ v, v < k → hit p (L v) = false) ∧ Below w.heap.size w wr) (fun i _ => n - (intOf i).toNat)
  case atStart => exact ⟨0, by omega, rfl, fun v hv => by omega, Below.refl _ _⟩
  case round =>
    obtain ⟨k, hk, rfl, hh, hb⟩ := hrel
    have HH : Hid (∀ v, v < k → hit p (L v) = false) := hh
    have HB : Hid (Below w.heap.size w wr) := hb
    clear hh hb
    by_cases hlt : k + 1 < n
    · obtain ⟨b, hao, hcc⟩ := HA.out (by omega)
      subst hao
      have d1 : wr.cell? ⟨b, k * 2 + 1, none⟩ = some (.slice (ra k) (L k).length (rc k)) := cell_later HB.out (hcc k (by omega))
      obtain ⟨l1, l2, l3, l4⟩ := HL.out k (by omega)
      have HR : Hid (RowS wr (ra k) (L k)) := l4.below HB.out
      have HZ : Hid (Sz 1048576 (L k)) := l2
      clear l2 l4 
      have h0 : (0:Int) ≤ (k : Int) := by omega
      have h1 : (k:Int) < (n : Int) := by omega
      go_wp2_with fail
      refine (join33 (ra k) (rc k) (L k) _ l1 HZ.out l3 HR.out).mono ?_
      rintro e w2 ⟨rfl, hb2⟩
      have HB2 : Hid (Below w.heap.size w w2) := HB.out.trans (hb2.mono HB.out.size)
      clear hb2 d1 HB
      go_wp2_with fail
      refine (Try.strings_HasPrefix ⟨(joined (L k)).toArray⟩ p _).mono ?_
      rintro e w3 ⟨rfl, hw3⟩
      subst w3
      have hhit : Lib.hasPrefix (⟨(joined (L k)).toArray⟩ : ByteArray).data.toList p.data.toList = hit p (L k) := by simp [hit]
      rw [hhit]
      cases hx : hit p (L k) with
      | true =>
        have d1 : w2.cell? ⟨b, k * 2 + 1, none⟩ = some (.slice (ra k) (L k).length (rc k)) := cell_later HB2.out (hcc k (by omega))
        have d2 : w2.cell? ⟨b, (k + 1) * 2 + 1, none⟩ = some (.slice (ra (k + 1)) (L (k + 1)).length (rc (k + 1))) := cell_later HB2.out (hcc (k + 1) (by omega))
        clear hcc hhit
        have h2 : (0:Int) ≤ (k : Int) + 1 := by omega
        have h3 : (k:Int) + 1 < (n : Int) := by omega
        go_wp2
        go_quiet (fail)
        go_wp2
        go_ret3
        exact ⟨.inl ⟨k, hlt, hx, HH.out, rfl⟩, Below.drewN' HB2.out _⟩
      | false =>
        clear hcc hhit
        go_wp2
        go_roundw
        case rel => exact ⟨k + 1, by omega, by go_num, fun v hv => by
          by_cases e : v = k
          · subst e; exact hx
          · exact HH.out v (by omega), HB2.out⟩
        case measure => simp [intOf]; omega
    · go_wp2
      go_ret3
      exact ⟨.inr ⟨fun v hv => HH.out v (by omega), rfl⟩, HB.out⟩

def P23 (l : List ByteArray) (p : ByteArray) (w : World) (e : Ending) (w' : World) : Prop := e = .returned (.bool (hit p l)) ∧ ∃ m, w' = w.drewN m
theorem hit_false {l : List ByteArray} {p : ByteArray} (h : ¬ p.data.toList <+: joined l) : hit p l = false := by
  cases hx : hit p l with
  | false => rfl
  | true => exact absurd ((hit_iff p l).1 hx) h
set_option maxRecDepth 20000 in
set_option maxHeartbeats 4000000 in
theorem begins23 (ao : Option Addr) (c : Nat) (l : List ByteArray) (p : ByteArray) (w : World) (hl : l.length ≤ 1048576) (hz : Sz 1048576 l) (hp : p.size ≤ 1048576) (ha : RowS w ao l) :
    Calls Try.prog 23 #[.slice ao l.length c, .string p] w (P23 l p w) := by
  have HA : Hid (RowS w ao l) := ha
  have HZ : Hid (Sz 1048576 l) := hz
  have HPL : Hid (p.data.toList.length = p.size) := size_toList p
  clear ha hz
  go_enter Try.func23, Try.ntmps23
  go_wp2
  go_loopw [5, 6] (fun q j wr => ∃ (jj pp m : Nat), jj ≤ l.length ∧ j = .int .i64 jj ∧ q = .int .i64 pp ∧ pp ≤ p.size ∧ joined (l.take jj) <+: p.data.toList ∧ pp = (joined (l.take jj)).length ∧ wr = w.drewN m) (fun _ j _ => l.length - (intOf j).toNat)
  case atStart => exact ⟨0, 0, 0, by omega, rfl, rfl, by omega, by simp [joined_nil], by simp [joined_nil], rfl⟩
  case round =>
    obtain ⟨j, q, m, hj, rfl, rfl, hq, hseg, hlen, hw⟩ := hrel
    subst wr
    have HSEG : Hid (joined (l.take j) <+: p.data.toList) := hseg
    have HLEN : Hid (q = (joined (l.take j)).length) := hlen
    clear hseg hlen
    by_cases hlt : j < l.length
    · obtain ⟨rb, ro, hra, hcc⟩ := HA.out (by omega)
      subst hra
      have d1 : (w.drewN m).cell? ⟨rb, ro + j, none⟩ = some (.string l[j]) := by simpa using hcc j hlt
      have hz1 := HZ.out j hlt
      clear hcc
      by_cases hj0 : 0 < j
      · by_cases hqe : q = p.size
        · have hh : hit p l = true := (hit_iff p l).2 (seg_done (joined_take l j) HSEG.out (by rw [← HLEN.out, HPL.out]; exact hqe))
          subst hqe
          go_wp2
          go_ret
          exact ⟨by rw [hh]; rfl, m, rfl⟩
        · have hqlt : q < p.size := by omega
          have hql2 : (joined (l.take j)).length < p.data.toList.length := by rw [HPL.out, ← HLEN.out]; exact hqlt
          have hx1 : p.data.toList[(joined (l.take j)).length] = p[q] := by
            simp only [← HLEN.out]; rfl
          by_cases hc : p[q] = 10
          · have HSEG0 : Hid (rd l j hlt 0 <+: p.data.toList) := by
              show _ <+: _
              rw [rd_zero l j hlt hj0]
              exact seg_next HSEG.out hql2 (by rw [hx1, hc])
            have HLEN0 : Hid (q + 1 = (rd l j hlt 0).length) := by
              show _ = _
              rw [rd_zero l j hlt hj0, List.length_append, ← HLEN.out]; rfl
            have hc2 : ((p[q].toNat : Nat) : Int) = 10 := by rw [hc]; rfl
            clear hx1 hql2
            go_wp2
            go_loopw [5, 8] (fun q i wr => ∃ (k pp m : Nat), k ≤ (l[j]).size ∧ i = .int .i64 k ∧ q = .int .i64 pp ∧ pp ≤ p.size ∧ rd l j hlt k <+: p.data.toList ∧ pp = (rd l j hlt k).length ∧ wr = w.drewN m) (fun _ i _ => (l[j]).size - (intOf i).toNat)
            case atStart => exact ⟨0, q + 1, m, by omega, rfl, rfl, by omega, HSEG0.out, HLEN0.out, rfl⟩
            case round =>
              clear HSEG0 HLEN0 HSEG HLEN d1 hc hc2 hqlt hqe
              obtain ⟨k, q, m, hk, rfl, rfl, hq, hseg, hlen, hw⟩ := hrel
              subst wr
              have HSEG : Hid (rd l j hlt k <+: p.data.toList) := hseg
              have HLEN : Hid (q = (rd l j hlt k).length) := hlen
              clear hseg hlen
              by_cases hkl : k < (l[j]).size
              · by_cases hqe : q = p.size
                · have hh : hit p l = true := (hit_iff p l).2 (seg_done (rd_seg l j hlt k (by omega)) HSEG.out (by rw [← HLEN.out, HPL.out]; exact hqe))
                  subst hqe
                  go_wp2
                  go_ret
                  exact ⟨by rw [hh]; rfl, m, rfl⟩
                · have hqlt : q < p.size := by omega
                  have hkl2 : k < (l[j]).data.toList.length := by rw [size_toList]; exact hkl
                  have hql2 : (rd l j hlt k).length < p.data.toList.length := by rw [HPL.out, ← HLEN.out]; exact hqlt
                  have hx1 : p.data.toList[(rd l j hlt k).length] = p[q] := by
                    simp only [← HLEN.out]; rfl
                  have hx2 : (l[j]).data.toList[k] = (l[j])[k] := rfl
                  by_cases hc : p[q] = (l[j])[k]
                  · have HS2 : Hid (rd l j hlt (k + 1) <+: p.data.toList) := by
                      show _ <+: _
                      rw [rd_succ l j hlt k hkl2]
                      exact seg_next HSEG.out hql2 (by rw [hx1, hx2, hc])
                    have HL2 : Hid (q + 1 = (rd l j hlt (k + 1)).length) := by
                      show _ = _
                      rw [rd_succ l j hlt k hkl2, List.length_append, ← HLEN.out]; rfl
                    have hc2 : ((p[q].toNat : Nat) : Int) = (((l[j])[k].toNat : Nat) : Int) := by rw [hc]
                    clear hx1 hx2 hql2
                    have hb0 : (0:Int) ≤ (q : Int) := by omega
                    have hb1 : (q:Int) < (p.size : Int) := by omega
                    have hb2 : (0:Int) ≤ (k : Int) := by omega
                    have hb3 : (k:Int) < ((l[j]).size : Int) := by omega
                    go_wp2
                    go_quiet (fail)
                    go_wp2
                    go_roundw
                    case rel => exact ⟨k + 1, q + 1, _, by omega, by go_num, by go_num, by omega, HS2.out, HL2.out, rfl⟩
                    case measure => simp [intOf]; omega
                  · have hh : hit p l = false := hit_false (seg_off (c := (l[j])[k]) (by rw [← hx2, ← rd_succ l j hlt k hkl2]; exact rd_seg l j hlt (k + 1) (by omega)) HSEG.out hql2 (by rw [hx1]; exact hc))
                    have hc2 : ¬ ((p[q].toNat : Nat) : Int) = (((l[j])[k].toNat : Nat) : Int) := fun e => hc (UInt8.toNat_inj.1 (by omega))
                    clear hx1 hx2 hql2
                    have hb0 : (0:Int) ≤ (q : Int) := by omega
                    have hb1 : (q:Int) < (p.size : Int) := by omega
                    have hb2 : (0:Int) ≤ (k : Int) := by omega
                    have hb3 : (k:Int) < ((l[j]).size : Int) := by omega
                    go_wp2
                    go_quiet (fail)
                    go_wp2
                    go_ret
                    exact ⟨by rw [hh]; rfl, drewN_ex _ _ _⟩
              · have hke : k = (l[j]).size := by omega
                go_wp2
                go_roundw
                case rel => exact ⟨j + 1, q, m, by omega, by go_num, rfl, hq, by rw [← rd_full l j hlt k hke]; exact HSEG.out, by rw [← rd_full l j hlt k hke]; exact HLEN.out, rfl⟩
                case measure => simp [intOf]; omega
          · have hh : hit p l = false := hit_false (seg_off (c := 10) (by rw [← rd_zero l j hlt hj0]; exact rd_seg l j hlt 0 (by omega)) HSEG.out hql2 (by rw [hx1]; exact hc))
            have hc2 : ¬ ((p[q].toNat : Nat) : Int) = 10 := fun e => hc (UInt8.toNat_inj.1 (by show _ = 10; omega))
            clear hx1 hql2
            go_wp2
            go_ret
            exact ⟨by rw [hh]; rfl, m, rfl⟩
      · have HSEG0 : Hid (rd l j hlt 0 <+: p.data.toList) := by
          show _ <+: _
          have : j = 0 := by omega
          subst this
          rw [rd_start]; exact List.nil_prefix
        have HLEN0 : Hid (q = (rd l j hlt 0).length) := by
          show _ = _
          have : j = 0 := by omega
          subst this
          rw [rd_start, HLEN.out]; rfl
        go_wp2
        go_loopw [5, 8] (fun q i wr => ∃ (k pp m : Nat), k ≤ (l[j]).size ∧ i = .int .i64 k ∧ q = .int .i64 pp ∧ pp ≤ p.size ∧ rd l j hlt k <+: p.data.toList ∧ pp = (rd l j hlt k).length ∧ wr = w.drewN m) (fun _ i _ => (l[j]).size - (intOf i).toNat)
        case atStart => exact ⟨0, q, m, by omega, rfl, rfl, by omega, HSEG0.out, HLEN0.out, rfl⟩
        case round =>
          clear HSEG0 HLEN0 HSEG HLEN d1
          obtain ⟨k, q, m, hk, rfl, rfl, hq, hseg, hlen, hw⟩ := hrel
          subst wr
          have HSEG : Hid (rd l j hlt k <+: p.data.toList) := hseg
          have HLEN : Hid (q = (rd l j hlt k).length) := hlen
          clear hseg hlen
          by_cases hkl : k < (l[j]).size
          · by_cases hqe : q = p.size
            · have hh : hit p l = true := (hit_iff p l).2 (seg_done (rd_seg l j hlt k (by omega)) HSEG.out (by rw [← HLEN.out, HPL.out]; exact hqe))
              subst hqe
              go_wp2
              go_ret
              exact ⟨by rw [hh]; rfl, m, rfl⟩
            · have hqlt : q < p.size := by omega
              have hkl2 : k < (l[j]).data.toList.length := by rw [size_toList]; exact hkl
              have hql2 : (rd l j hlt k).length < p.data.toList.length := by rw [HPL.out, ← HLEN.out]; exact hqlt
              have hx1 : p.data.toList[(rd l j hlt k).length] = p[q] := by
                simp only [← HLEN.out]; rfl
              have hx2 : (l[j]).data.toList[k] = (l[j])[k] := rfl
              by_cases hc : p[q] = (l[j])[k]
              · have HS2 : Hid (rd l j hlt (k + 1) <+: p.data.toList) := by
                  show _ <+: _
                  rw [rd_succ l j hlt k hkl2]
                  exact seg_next HSEG.out hql2 (by rw [hx1, hx2, hc])
                have HL2 : Hid (q + 1 = (rd l j hlt (k + 1)).length) := by
                  show _ = _
                  rw [rd_succ l j hlt k hkl2, List.length_append, ← HLEN.out]; rfl
                have hc2 : ((p[q].toNat : Nat) : Int) = (((l[j])[k].toNat : Nat) : Int) := by rw [hc]
                clear hx1 hx2 hql2
                have hb0 : (0:Int) ≤ (q : Int) := by omega
                have hb1 : (q:Int) < (p.size : Int) := by omega
                have hb2 : (0:Int) ≤ (k : Int) := by omega
                have hb3 : (k:Int) < ((l[j]).size : Int) := by omega
                go_wp2
                go_quiet (fail)
                go_wp2
                go_roundw
                case rel => exact ⟨k + 1, q + 1, _, by omega, by go_num, by go_num, by omega, HS2.out, HL2.out, rfl⟩
                case measure => simp [intOf]; omega
              · have hh : hit p l = false := hit_false (seg_off (c := (l[j])[k]) (by rw [← hx2, ← rd_succ l j hlt k hkl2]; exact rd_seg l j hlt (k + 1) (by omega)) HSEG.out hql2 (by rw [hx1]; exact hc))
                have hc2 : ¬ ((p[q].toNat : Nat) : Int) = (((l[j])[k].toNat : Nat) : Int) := fun e => hc (UInt8.toNat_inj.1 (by omega))
                clear hx1 hx2 hql2
                have hb0 : (0:Int) ≤ (q : Int) := by omega
                have hb1 : (q:Int) < (p.size : Int) := by omega
                have hb2 : (0:Int) ≤ (k : Int) := by omega
                have hb3 : (k:Int) < ((l[j]).size : Int) := by omega
                go_wp2
                go_quiet (fail)
                go_wp2
                go_ret
                exact ⟨by rw [hh]; rfl, drewN_ex _ _ _⟩
          · have hke : k = (l[j]).size := by omega
            go_wp2
            go_roundw
            case rel => exact ⟨j + 1, q, m, by omega, by go_num, rfl, hq, by rw [← rd_full l j hlt k hke]; exact HSEG.out, by rw [← rd_full l j hlt k hke]; exact HLEN.out, rfl⟩
            case measure => simp [intOf]; omega
    · have : j = l.length := by omega
      subst this
      have hh : hit p l = decide (q = p.size) := by
        have h1 := seg_end HSEG.out
        have h2 := HLEN.out
        have h3 := HPL.out
        rw [List.take_length] at h1 h2
        cases hx : hit p l with
        | true =>
          have := h1.1 ((hit_iff p l).1 hx)
          simp; omega
        | false =>
          have : ¬ q = p.size := fun e => by
            have := (hit_iff p l).2 (h1.2 (by omega))
            rw [hx] at this; cases this
          simp [this]
      by_cases hqe : q = p.size
      · rw [decide_eq_true hqe] at hh
        subst hqe
        go_wp2
        go_ret
        exact ⟨by rw [hh]; rfl, m, rfl⟩
      · rw [decide_eq_false hqe] at hh
        have hqb : ((q : Int) == (p.size : Int)) = false := by simp; omega
        go_wp2
        go_ret
        refine ⟨?_, m, rfl⟩
        rw [hh]
        rfl

def P10 (w : World) (e : Ending) (w' : World) : Prop := e = .returned (.bool true) ∧ ∃ m, w' = w.drewN m
set_option maxRecDepth 20000 in
set_option maxHeartbeats 4000000 in
theorem same10 (ao : Option Addr) (c : Nat) (l : List ByteArray) (w : World) (hl : l.length ≤ 1048576) (ha : RowS w ao l) :
    Calls Try.prog 10 #[.slice ao l.length c, .slice ao l.length c] w (P10 w) := by
  have HA : Hid (RowS w ao l) := ha
  clear ha
  go_enter Try.func10, Try.ntmps10
  go_wp2
  go_loopw [5] (fun i wr => ∃ (k m : Nat), k ≤ l.length ∧ i = .int .i64 k ∧ wr = w.drewN m) (fun i _ => l.length - (intOf i).toNat)
  case atStart => exact ⟨0, 0, by omega, rfl, rfl⟩
  case round =>
    obtain ⟨k, m, hk, rfl, hw⟩ := hrel
    subst wr
    by_cases hlt : k < l.length
    · obtain ⟨rb, ro, hra, hc⟩ := HA.out (by omega)
      subst hra
      have d1 := hc k hlt
      have h0 : (0:Int) ≤ (k : Int) := by omega
      have h1 : (k:Int) < ((l.length : Nat) : Int) := by omega
      clear hc
      go_wp2
      go_quiet (fail)
      go_wp2
      go_roundw
      case rel => exact ⟨k + 1, _, by omega, by go_num, rfl⟩
      case measure => simp [intOf]; omega
    · go_wp2
      go_ret
      exact ⟨rfl, m, rfl⟩
end Go.Proofs.Qxb6601375a
