/-
  WALK: the law FnRenamesNamesTheOneEditExactly (3).
-/
import Derived.Test.Qxb6000463aR6
import Derived.Test.Qxb6000463aR2
import Derived.Deep.DeepCutAuto
import Derived.Deep.WholeRow
import Derived.Deep.MidRow
namespace Go.Proofs.Qxb6000463a
open Go.RowKit
set_option linter.unusedVariables false
set_option linter.unusedSimpArgs false

def boxA (b n : Nat) : Array Value := #[.slice (some ⟨b + 1, 0, none⟩) n n, .bool false, .string ⟨#[100, 98]⟩, .int .i64 0]
def P3 (w : World) (e : Ending) (w' : World) : Prop := e = .returned (.bool true) ∧ Below w.heap.size w w'

theorem wpList_store_new {P : Program} {ops : Array Oper} {rest : List Oper} {op : Oper} {a : Act} {w : World} {Q : Exit → Act → World → Prop} (hgd : op.guard = none) (ty : TypeId) (x y : Operand) (ho : op.op = .store ty x y)
    (c c' : Array Value) (hx : a.eval x = .pointer (some ⟨w.heap.size, 0, none⟩)) (hy : a.eval y = .agg c')
    (hi : (P.info? ty).map (·.size) = some c'.size) (hc : c.size = c'.size) (h1 : c'.all (·.oneCell') = true)
    (h : wpList P ops Q rest (a.put op.dst undef) (w.alloc (.cells c' ty))) : wpList P ops Q (op :: rest) a (w.alloc (.cells c ty)) :=
  wpList_plain hgd fun _ hK => by
    unfold Oper.wp execOp
    simp only [ho, hx, hy, Instr.storeAt, Instr.sureAddr, Sem.run_bind, Sem.run_pure, Result.andThen_ok, run_storeVar_new w ty c c' hi hc h1]
    exact hK _ _ h
theorem got_range {bO bN k mc mp g : Nat} {O O' : OD} {w8 : World} (hc : ∀ j u, (renL bO bN k mc mp O O')[j]? = some u → w8.cell? ⟨g, j, none⟩ = some u) (cv : Array Value) (hv : cv.toList = renL bO bN k mc mp O O') : w8.rangeAt g 0 cv.toList := fun j v h => by
  rw [Nat.zero_add]
  exact hc j v (hv ▸ h)
theorem size47 : (Try.prog.info? 47).map (·.size) = some 24 := by
  obtain ⟨i0, hi, _, hz1, _⟩ := info_parts Try.info47
  rw [hi]; simp [hz1]
theorem row47 : ∃ d, Try.prog.underlying 47 = some d ∧ d.isRow = true := ⟨_, Try.underlying47, rfl⟩

set_option maxRecDepth 20000 in
set_option maxHeartbeats 4000000 in
theorem law3 (ao : Option Addr) (n cc : Nat) (T : TD) (w : World) (hn : n ≤ 9223372036854775807) (hb : ∀ i, i < n → BdAt 9223372036854775807 T i) (hc : TabSl w ao n T)
    (k : Int) (sc nm : ByteArray) (ci : Int) (cn : ByteArray) (qi : Int) (pn : ByteArray) (h1 : sc.size ≤ 9223372036854775807) (h2 : nm.size ≤ 9223372036854775807) (h3 : cn.size ≤ 9223372036854775807) (h4 : pn.size ≤ 9223372036854775807) :
    Calls Try.prog 3 #[.slice ao n cc, .int .i64 k, .string sc, .string nm, .int .i64 ci, .string cn, .int .i64 qi, .string pn] w (P3 w) := by
  have HC : Hid (TabSl w ao n T) := hc
  have HB : Hid (∀ i, i < n → BdAt 9223372036854775807 T i) := hb
  clear hc hb
  go_enter Try.func3, Try.ntmps3
  go_wp2_with fail
  refine (zz10 ao n cc T _ hn HB.out HC.out k sc nm ci cn qi pn h1 h2 h3 h4).mono ?_
  rintro e w1 ⟨⟨r, rfl, hr⟩, hw1⟩
  subst w1
  cases r with
  | false =>
    clear hr
    go_wp2
    go_ret
    exact ⟨rfl, Below.refl _ _⟩
  | true =>
    obtain ⟨hn1, hs1, hs2, hs3, hs4, hs5⟩ := hr rfl
    have HS1 : Hid (∀ i, i < n → BdAt 1048576 T i) := hs1
    clear hs1 hr HB h1 h2 h3 h4
    go_wp2_with fail
    refine (ok11 ao n cc T _ hn1 HS1.out HC.out k sc nm ci cn qi pn hs2 hs3 hs4 hs5).mono ?_
    rintro e w1 ⟨⟨r, rfl, hr⟩, q, hw1⟩
    subst w1
    cases r with
    | false =>
      clear hr
      go_wp2
      go_ret
      exact ⟨rfl, below_drewN0 _ _ _⟩
    | true =>
      obtain ⟨hn2, hbd, k0, k1⟩ := hr rfl
      have HBD : Hid (∀ i, i < n → T.nc i ≤ 4096 ∧ T.np i < 4096) := hbd
      clear hr hn1 HS1 hs2 hs3 hs4 hs5 hbd hn
      obtain ⟨K, rfl⟩ := Int.eq_ofNat_of_zero_le k0
      have hK : K < n := by omega
      clear k0 k1
      go_wp2_with fail
      refine (sOutline12 ao n cc T (w.drewN q) hn2 HBD.out (HC.out.below (below_drewN0 _ _ _))).mono ?_
      rintro e w1 ⟨he, hO, hb1, hz1⟩
      subst he
      have HO1 : Hid (Outl w1 w.heap.size n T.od) := hO
      have HB1 : Hid (Below w.heap.size w w1) := (below_drewN0 _ _ q).trans hb1
      have HZ1 : Hid (w1.heap.size = w.heap.size + 2 + 2 * n) := hz1
      clear hO hb1 hz1
      unfold outV
      go_wp2_with fail
      obtain ⟨wB, hwB⟩ : ∃ x, x = w1.alloc (.cells #[.slice (some ⟨w.heap.size + 1, 0, none⟩) n n, .bool false, .string ⟨#[100, 98]⟩, .int .i64 0] 26) := ⟨_, rfl⟩
      have HOB : Hid (Outl wB w.heap.size n T.od) := by rw [hwB]; exact HO1.out.below ((Below.refl _ _).alloc (Nat.le_refl _) _)
      have HBB : Hid (Below w.heap.size w wB) := by rw [hwB]; exact HB1.out.alloc HB1.out.size _
      have HXO : Hid (Els wB w1.heap.size 4 1 (fun j _ => (boxA w.heap.size n)[j]!)) := by rw [hwB]; exact els_lit w1 _ 26
      have HZB : Hid (wB.heap.size = w1.heap.size + 1) := by rw [hwB]; exact size_alloc' _ _
      first | rw [← hwB] | simp only [World.drewN_zero, ← hwB]
      clear hwB
      refine (sOutline12 ao n cc T wB hn2 HBD.out (HC.out.below HBB.out)).mono ?_
      rintro e w2 ⟨he, hO, hb2, hz2⟩
      subst he
      have HO2 : Hid (Outl w2 wB.heap.size n T.od) := hO
      have HB2 : Hid (Below wB.heap.size wB w2) := hb2
      have HZ2 : Hid (w2.heap.size = wB.heap.size + 2 + 2 * n) := hz2
      have hT := hO.tab
      have d0 := hT.cell hK (j := 0) (by omega)
      have d1 := hT.cell hK (j := 1) (by omega)
      have d2 := hT.cell hK (j := 2) (by omega)
      have f0 := hT.free
      have hzz : wB.heap.size + 1 < w2.heap.size := hT.lt
      simp only [Nat.add_zero] at d0
      clear hO hb2 hz2 hT
      unfold outV
      obtain ⟨b, off, hao, hcc⟩ := HC.out (by omega)
      subst hao
      obtain ⟨c0, c1, c2, c3, hcs, hps⟩ := hcc K hK
      have HCS : Hid (StrSl w (T.ca K) (T.nc K) (T.col K)) := hcs
      have HPS : Hid (StrSl w (T.pa K) (T.np K) (T.prt K)) := hps
      have hbdK := HBD.out K hK
      obtain ⟨hnc, hnp⟩ := hbdK
      clear hcc hcs hps
      generalize T.ca K = ca at *
      generalize T.cc K = ccp at *
      generalize T.pa K = pa at *
      generalize T.pc K = pcp at *
      have E0 : Hid (w.cell? ⟨b, off + K * 4, none⟩ = some (.string (T.sch K))) := c0
      have E1 : Hid (w.cell? ⟨b, off + K * 4 + 1, none⟩ = some (.string (T.nam K))) := c1
      have E2 : Hid (w.cell? ⟨b, off + K * 4 + 2, none⟩ = some (.slice ca (T.nc K) ccp)) := c2
      have E3 : Hid (w.cell? ⟨b, off + K * 4 + 3, none⟩ = some (.slice pa (T.np K) pcp)) := c3
      clear c0 c1 c2 c3
      go_upto_region 10 with fail
      clear d0 d1 d2 f0
      obtain ⟨wC, hwC⟩ : ∃ x, x = ((((w2.setCell ⟨wB.heap.size + 1, K * 11, none⟩ (.string sc)).setCell ⟨wB.heap.size + 1, K * 11 + 1, none⟩ (.string nm)).setCell ⟨wB.heap.size + 1, K * 11 + 2, none⟩ (.string nm)).alloc (.cells #[.slice (some ⟨wB.heap.size + 1, 0, none⟩) n n, .bool false, .string ⟨#[100, 98]⟩, .int .i64 0] 26)) := ⟨_, rfl⟩
      have HBC : Hid (Below wB.heap.size wB wC) := by
        rw [hwC]
        exact (((HB2.out.setCell (by simp) _).setCell (by simp) _).setCell (by simp) _).alloc (by simp; omega) _
      have HOC : Hid (Outl wC wB.heap.size n (ed T.od K sc nm false ci.toNat cn false qi.toNat pn)) := by
        rw [hwC]
        exact (outl_setT HO2.out hK sc nm cn pn ci.toNat qi.toNat).below ((Below.refl _ _).alloc (Nat.le_refl _) _)
      have HXC : Hid (Els wC w2.heap.size 4 1 (fun j _ => (boxA wB.heap.size n)[j]!)) := by
        rw [hwC]
        have := els_lit (((w2.setCell ⟨wB.heap.size + 1, K * 11, none⟩ (.string sc)).setCell ⟨wB.heap.size + 1, K * 11 + 1, none⟩ (.string nm)).setCell ⟨wB.heap.size + 1, K * 11 + 2, none⟩ (.string nm)) #[.slice (some ⟨wB.heap.size + 1, 0, none⟩) n n, .bool false, .string ⟨#[100, 98]⟩, .int .i64 0] 26
        simp only [World.size_setCell] at this
        exact this
      rw [← hwC]
      clear hwC HO2 HB2
      have HBw : Hid (Below w.heap.size w wC) := HBB.out.trans (HBC.out.mono HBB.out.size)
      obtain ⟨cE, hcE⟩ : ∃ x : Bool, x = (decide (0 ≤ ci) && decide (ci < (T.nc K : Int))) := ⟨_, rfl⟩
      have HCE : Hid (cE = (decide (0 ≤ ci) && decide (ci < (T.nc K : Int)))) := hcE
      clear hcE
      go_cut [19] (fun s19 wx => s19 = .bool cE ∧ wx = wC)
      case first => as_aux_lemma =>
        have e2 := cell_later HBw.out E2.out
        by_cases g1 : 0 ≤ ci
        · by_cases g2 : ci < (T.nc K : Int)
          · have hx : cE = true := by rw [HCE.out]; simp [g1, g2]
            subst hx
            go_wp2
            go_meet
            case rel => exact ⟨rfl, rfl⟩
          · have hx : cE = false := by rw [HCE.out]; simp [g2]
            subst hx
            go_wp2
            go_meet
            case rel => exact ⟨by simp, rfl⟩
        · have hx : cE = false := by rw [HCE.out]; simp [g1]
          subst hx
          go_wp2
          go_meet
          case rel => exact ⟨rfl, rfl⟩
      case rest => as_aux_lemma =>
        obtain ⟨hs19, hwc⟩ := hcut
        subst hwc
        subst hs19
        go_upto_if 83 with fail
        go_cut [19] (fun s19 wx => s19 = .bool cE ∧ Below wB.heap.size wB wx ∧ Outl wx wB.heap.size n (ed T.od K sc nm cE ci.toNat cn false qi.toNat pn) ∧ Els wx w2.heap.size 4 1 (fun j _ => (boxA wB.heap.size n)[j]!))
        case first => as_aux_lemma =>
          cases cE with
          | false =>
            go_wp2
            go_meet
            case rel => exact ⟨rfl, HBC.out, HOC.out, HXC.out⟩
          | true =>
            have g := HCE.out
            simp at g
            obtain ⟨g1, g2⟩ := g
            obtain ⟨C, rfl⟩ := Int.eq_ofNat_of_zero_le g1
            rw [Int.toNat_natCast] at HOC
            have hC : C < T.nc K := by omega
            have x0 : wc.cell? ⟨w2.heap.size, 0, none⟩ = some (.slice (some ⟨wB.heap.size + 1, 0, none⟩) n n) := HXC.out.cell1 (i := 0) (by omega)
            have x7 : wc.cell? ⟨wB.heap.size + 1, K * 11 + 7, none⟩ = some (.slice (some ⟨wB.heap.size + 2 + 2 * K, 0, none⟩) (T.nc K) (T.nc K)) := HOC.out.tab.cell hK (j := 7) (by omega)
            have d0 := (HOC.out.cols K hK).cell hC (j := 0) (by omega)
            have d1 := (HOC.out.cols K hK).cell hC (j := 1) (by omega)
            have f0 := (HOC.out.cols K hK).free
            simp only [Nat.add_zero] at d0
            clear g1
            have hne1 : w2.heap.size ≠ wB.heap.size + 2 + 2 * K := by have := HZ2.out; omega
            have hne2 : ¬ (wB.heap.size + 1 = wB.heap.size + 2 + 2 * K) := by omega
            go_wp2
            go_meet
            case rel =>
              refine ⟨rfl, (HBC.out.setCell (by simp; omega) _).setCell (by simp; omega) _, by rw [Int.toNat_natCast]; exact outl_setC HOC.out hK hC, ?_⟩
              exact (HXC.out.other (by simp; omega) _).other (by simp; omega) _
        case rest => as_aux_lemma =>
          obtain ⟨hs19, hbD, hoD, hxD⟩ := hcut
          subst hs19
          have HBD' : Hid (Below wB.heap.size wB wc) := hbD
          have HOD : Hid (Outl wc wB.heap.size n (ed T.od K sc nm cE ci.toNat cn false qi.toNat pn)) := hoD
          have HXD : Hid (Els wc w2.heap.size 4 1 (fun j _ => (boxA wB.heap.size n)[j]!)) := hxD
          have HBwD : Hid (Below w.heap.size w wc) := HBB.out.trans (hbD.mono HBB.out.size)
          clear hbD hoD hxD HBC HOC HXC HBw
          obtain ⟨pE, hpE⟩ : ∃ x : Bool, x = (decide (0 ≤ qi) && decide (qi < (T.np K : Int))) := ⟨_, rfl⟩
          have HPE : Hid (pE = (decide (0 ≤ qi) && decide (qi < (T.np K : Int)))) := hpE
          clear hpE
          go_upto_region 14 with fail
          rename World => wD
          go_cut [20] (fun s20 wx => s20 = .bool pE ∧ wx = wD)
          case first => as_aux_lemma =>
            have e3 := cell_later HBwD.out E3.out
            by_cases g1 : 0 ≤ qi
            · by_cases g2 : qi < (T.np K : Int)
              · have hx : pE = true := by rw [HPE.out]; simp [g1, g2]
                subst hx
                go_wp2
                go_meet
                case rel => exact ⟨rfl, rfl⟩
              · have hx : pE = false := by rw [HPE.out]; simp [g2]
                subst hx
                go_wp2
                go_meet
                case rel => exact ⟨by simp, rfl⟩
            · have hx : pE = false := by rw [HPE.out]; simp [g1]
              subst hx
              go_wp2
              go_meet
              case rel => exact ⟨rfl, rfl⟩
          case rest => as_aux_lemma =>
            obtain ⟨hs20, hwc⟩ := hcut
            subst hwc
            subst hs20
            go_upto_if 116 with fail
            go_cut [20] (fun s20 wx => s20 = .bool pE ∧ Below wB.heap.size wB wx ∧ Outl wx wB.heap.size n (ed T.od K sc nm cE ci.toNat cn pE qi.toNat pn) ∧ Els wx w2.heap.size 4 1 (fun j _ => (boxA wB.heap.size n)[j]!))
            case first => as_aux_lemma =>
              cases pE with
              | false =>
                go_wp2
                go_meet
                case rel => exact ⟨rfl, HBD'.out, HOD.out, HXD.out⟩
              | true =>
                have g := HPE.out
                simp at g
                obtain ⟨g1, g2⟩ := g
                obtain ⟨Q, rfl⟩ := Int.eq_ofNat_of_zero_le g1
                rw [Int.toNat_natCast] at HOD
                have hQ : Q < T.np K := by omega
                have x0 : wc.cell? ⟨w2.heap.size, 0, none⟩ = some (.slice (some ⟨wB.heap.size + 1, 0, none⟩) n n) := HXD.out.cell1 (i := 0) (by omega)
                have x9 : wc.cell? ⟨wB.heap.size + 1, K * 11 + 9, none⟩ = some (.slice (some ⟨wB.heap.size + 3 + 2 * K, 0, none⟩) (T.np K) (T.np K)) := HOD.out.tab.cell hK (j := 9) (by omega)
                have d5 := (HOD.out.fks K hK).cell hQ (j := 5) (by omega)
                have f0 := (HOD.out.fks K hK).free
                clear g1
                go_wp2
                go_meet
                case rel =>
                  have hz := HZ2.out
                  refine ⟨rfl, HBD'.out.setCell (by simp; omega) _, by rw [Int.toNat_natCast]; exact outl_setP HOD.out hK hQ, ?_⟩
                  exact HXD.out.other (by simp; omega) _
            case rest => as_aux_lemma =>
              obtain ⟨hs20, hbE, hoE, hxE⟩ := hcut
              subst hs20
              have HBE : Hid (Below wB.heap.size wB wc) := hbE
              have HOE : Hid (Outl wc wB.heap.size n (ed T.od K sc nm cE ci.toNat cn pE qi.toNat pn)) := hoE
              have HOO : Hid (Outl wc w.heap.size n T.od) := HOB.out.below hbE
              have HBwE : Hid (Below w.heap.size w wc) := HBB.out.trans (hbE.mono HBB.out.size)
              have hX := HXO.out.below hbE HXO.out.lt
              have y0 : wc.cell? ⟨w1.heap.size, 0, none⟩ = some (.slice (some ⟨w.heap.size + 1, 0, none⟩) n n) := hX.cell1 (i := 0) (by omega)
              have y1 : wc.cell? ⟨w1.heap.size, 1, none⟩ = some (.bool false) := hX.cell1 (i := 1) (by omega)
              have y2 : wc.cell? ⟨w1.heap.size, 2, none⟩ = some (.string ⟨#[100, 98]⟩) := hX.cell1 (i := 2) (by omega)
              have y3 : wc.cell? ⟨w1.heap.size, 3, none⟩ = some (.int .i64 0) := hX.cell1 (i := 3) (by omega)
              have x0 : wc.cell? ⟨w2.heap.size, 0, none⟩ = some (.slice (some ⟨wB.heap.size + 1, 0, none⟩) n n) := hxE.cell1 (i := 0) (by omega)
              have x1 : wc.cell? ⟨w2.heap.size, 1, none⟩ = some (.bool false) := hxE.cell1 (i := 1) (by omega)
              have x2 : wc.cell? ⟨w2.heap.size, 2, none⟩ = some (.string ⟨#[100, 98]⟩) := hxE.cell1 (i := 2) (by omega)
              have x3 : wc.cell? ⟨w2.heap.size, 3, none⟩ = some (.int .i64 0) := hxE.cell1 (i := 3) (by omega)
              clear hbE hoE hxE hX HBD' HOD HXD HBwD
              rename World => wE
              obtain ⟨O', hO'⟩ : ∃ x, x = ed T.od K sc nm cE ci.toNat cn pE qi.toNat pn := ⟨_, rfl⟩
              rw [← hO'] at HOE
              have HO' : Hid (O' = ed T.od K sc nm cE ci.toNat cn pE qi.toNat pn) := hO'
              have HED : Hid (OneEdit n K ci.toNat qi.toNat T.od O') := by rw [hO']; exact ed_one ..
              clear hO'
              go_wp2_with fail
              refine (renames13 w.heap.size wB.heap.size n K ci.toNat qi.toNat T.od O' wE hn2 HBD.out hK HOO.out HOE.out HED.out).mono ?_
              rintro e w8 ⟨⟨v, rfl, hren⟩, hb8⟩
              have HREN : Hid (Ren w.heap.size wB.heap.size K ci.toNat qi.toNat T.od O' n v w8) := hren
              have HB8 : Hid (Below w.heap.size w w8) := HBwE.out.trans (hb8.mono HBwE.out.size)
              clear hren hb8 x0 x1 x2 x3 y0 y1 y2 y3
              obtain ⟨cC, hcC⟩ : ∃ x : Bool, x = hitC K ci.toNat T.od O' K (T.nc K) := ⟨_, rfl⟩
              obtain ⟨pC, hpC⟩ : ∃ x : Bool, x = hitP K qi.toNat T.od O' K (T.np K) := ⟨_, rfl⟩
              have HCC : Hid (cC = hitC K ci.toNat T.od O' K (T.nc K)) := hcC
              have HPC : Hid (pC = hitP K qi.toNat T.od O' K (T.np K)) := hpC
              clear hcC hpC
              go_upto_region 18 with fail
              go_cut [22] (fun s22 wx => s22 = .bool cC ∧ wx = w8)
              case first => as_aux_lemma =>
                cases cE with
                | false =>
                  have hx : cC = false := by rw [HCC.out, HO'.out]; exact hitC_off
                  subst hx
                  go_wp2
                  go_meet
                  case rel => exact ⟨rfl, rfl⟩
                | true =>
                  have g := HCE.out
                  simp at g
                  obtain ⟨g1, g2⟩ := g
                  obtain ⟨C, rfl⟩ := Int.eq_ofNat_of_zero_le g1
                  have hC : C < T.nc K := by omega
                  obtain ⟨b', off', hca, hcell⟩ := HCS.out (by omega)
                  subst hca
                  have hx : cC = !((T.col K C).toList == cn.toList) := by rw [HCC.out, HO'.out, Int.toNat_natCast]; exact hitC_on (O := T.od) hC
                  have e2 := cell_later HB8.out E2.out
                  have e9 := cell_later HB8.out (hcell C hC)
                  clear hcell g1
                  subst hx
                  go_wp2
                  go_meet
                  case rel => exact ⟨rfl, rfl⟩
              case rest => as_aux_lemma =>
                obtain ⟨hs22, hwc⟩ := hcut
                subst hwc
                subst hs22
                go_upto_region 19 with fail
                rename World => w8
                go_cut [23] (fun s23 wx => s23 = .bool pC ∧ wx = w8)
                case first => as_aux_lemma =>
                  cases pE with
                  | false =>
                    have hx : pC = false := by rw [HPC.out, HO'.out]; exact hitP_off
                    subst hx
                    go_wp2
                    go_meet
                    case rel => exact ⟨rfl, rfl⟩
                  | true =>
                    have g := HPE.out
                    simp at g
                    obtain ⟨g1, g2⟩ := g
                    obtain ⟨Q, rfl⟩ := Int.eq_ofNat_of_zero_le g1
                    have hQ : Q < T.np K := by omega
                    obtain ⟨b', off', hpa, hcell⟩ := HPS.out (by omega)
                    subst hpa
                    have hx : pC = !((T.prt K Q).toList == pn.toList) := by rw [HPC.out, HO'.out, Int.toNat_natCast]; exact hitP_on (O := T.od) hQ
                    have e3 := cell_later HB8.out E3.out
                    have e9 := cell_later HB8.out (hcell Q hQ)
                    clear hcell g1
                    subst hx
                    go_wp2
                    go_meet
                    case rel => exact ⟨rfl, rfl⟩
                case rest => as_aux_lemma =>
                  obtain ⟨hs23, hwc⟩ := hcut
                  subst hwc
                  subst hs23
                  rename World => w8
                  have HCH : Hid (chg K ci.toNat qi.toNat T.od O' = (!((T.sch K).toList == sc.toList) || !((T.nam K).toList == nm.toList) || cC || pC)) := by
                    rw [HCC.out, HPC.out, HO'.out]; exact chg_ed (O := T.od)
                  obtain ⟨ch, hch⟩ : ∃ x : Bool, x = chg K ci.toNat qi.toNat T.od O' := ⟨_, rfl⟩
                  have HCH2 : Hid (ch = chg K ci.toNat qi.toNat T.od O') := hch
                  have HCH3 : Hid (ch = (!((T.sch K).toList == sc.toList) || !((T.nam K).toList == nm.toList) || cC || pC)) := hch.trans HCH.out
                  clear hch
                  have e0 := cell_later HB8.out E0.out
                  have e1 := cell_later HB8.out E1.out
                  go_upto_region 20 with fail
                  go_cut [179] (fun s179 wx => s179 = .bool (!ch) ∧ wx = w8)
                  case first => as_aux_lemma =>
                    by_cases s1 : ((T.sch K).toList == sc.toList) = true
                    · by_cases s2 : ((T.nam K).toList == nm.toList) = true
                      · have hx : ch = (cC || pC) := by rw [HCH3.out, s1, s2]; simp
                        subst hx
                        cases cC <;> cases pC
                        all_goals go_wp2
                        all_goals go_meet
                        all_goals exact ⟨rfl, rfl⟩
                      · replace s2 : ((T.nam K).toList == nm.toList) = false := by simpa using s2
                        have hx : ch = true := by rw [HCH3.out, s1, s2]; simp
                        subst hx
                        go_wp2
                        go_meet
                        case rel => exact ⟨rfl, rfl⟩
                    · replace s1 : ((T.sch K).toList == sc.toList) = false := by simpa using s1
                      have hx : ch = true := by rw [HCH3.out, s1]; simp
                      subst hx
                      go_wp2
                      go_meet
                      case rel => exact ⟨rfl, rfl⟩
                  case rest => as_aux_lemma =>
                    obtain ⟨hs179, hwc⟩ := hcut
                    subst hwc
                    subst hs179
                    rename World => w8
                    cases ch with
                    | false => as_aux_lemma =>
                      have hv : v = .slice none 0 0 := by
                        have := HREN.out
                        unfold Ren at this
                        rwa [if_neg (by rw [← HCH2.out]; simp)] at this
                      subst hv
                      go_wp2
                      go_ret
                      exact ⟨rfl, HB8.out⟩
                    | true =>
                      have hres : Res w.heap.size wB.heap.size K ci.toNat qi.toNat T.od O' v w8 := by
                        have := HREN.out
                        unfold Ren at this
                        rwa [if_pos ⟨hK, HCH2.out.symm⟩] at this
                      obtain ⟨g, cap, mc, mp, hv, hcells, hmc, hmp, hg, hmcl, hmpl⟩ := hres
                      subst hv
                      obtain ⟨cv, hcv⟩ : ∃ x : Array Value, x = #[.string (T.sch K), .string (T.nam K), .string (T.nam K), .int .u32 ((K : Int) + 1), .string ⟨#[]⟩, .string ⟨#[]⟩, .string ⟨#[]⟩, .slice (some ⟨w.heap.size + 2 + 2 * K, 0, none⟩) (T.nc K) (T.nc K), .slice none 0 0, .slice (some ⟨w.heap.size + 3 + 2 * K, 0, none⟩) (T.np K) (T.np K), .bool false, .string sc, .string nm, .string nm, .int .u32 ((K : Int) + 1), .string ⟨#[]⟩, .string ⟨#[]⟩, .string ⟨#[]⟩, .slice (some ⟨wB.heap.size + 2 + 2 * K, 0, none⟩) (T.nc K) (T.nc K), .slice none 0 0, .slice (some ⟨wB.heap.size + 3 + 2 * K, 0, none⟩) (T.np K) (T.np K), .bool false, .map (some mc), .map (some mp)] := ⟨_, rfl⟩
                      have HLR : Hid (w8.rangeAt g 0 cv.toList) := got_range hcells cv (by rw [hcv, HO'.out]; simp [renL, tabA, ed, TD.od])
                      have hsz : cv.size = 24 := by rw [hcv]; rfl
                      have HONE : Hid (cv.all (·.oneCell') = true) := by show _ = _; rw [hcv]; simp [Value.oneCell']
                      obtain ⟨d47, hu47, hd47⟩ := row47
                      have HU47 : Hid (Try.prog.underlying 47 = some d47) := hu47
                      have HD47 : Hid (d47.isRow = true) := hd47
                      clear hu47 hd47
                      have HCV : Hid (cv = #[.string (T.sch K), .string (T.nam K), .string (T.nam K), .int .u32 ((K : Int) + 1), .string ⟨#[]⟩, .string ⟨#[]⟩, .string ⟨#[]⟩, .slice (some ⟨w.heap.size + 2 + 2 * K, 0, none⟩) (T.nc K) (T.nc K), .slice none 0 0, .slice (some ⟨w.heap.size + 3 + 2 * K, 0, none⟩) (T.np K) (T.np K), .bool false, .string sc, .string nm, .string nm, .int .u32 ((K : Int) + 1), .string ⟨#[]⟩, .string ⟨#[]⟩, .string ⟨#[]⟩, .slice (some ⟨wB.heap.size + 2 + 2 * K, 0, none⟩) (T.nc K) (T.nc K), .slice none 0 0, .slice (some ⟨wB.heap.size + 3 + 2 * K, 0, none⟩) (T.np K) (T.np K), .bool false, .map (some mc), .map (some mp)]) := hcv
                      clear hcv
                      have HMC : Hid (w8.heap[mc]? = some (cmap K ci.toNat T.od O' K (T.nc K))) := hmc
                      have HMP : Hid (w8.heap[mp]? = some (pmap K qi.toNat T.od O' K (T.np K))) := hmp
                      clear hcells hmc hmp
                      have q0 : cv[0]'(by rw [hsz]; omega) = .string (T.sch K) := by
                        have hq := HCV.out
                        subst hq
                        rfl
                      have q1 : cv[1]'(by rw [hsz]; omega) = .string (T.nam K) := by
                        have hq := HCV.out
                        subst hq
                        rfl
                      have q3 : cv[3]'(by rw [hsz]; omega) = .int .u32 ((K : Int) + 1) := by
                        have hq := HCV.out
                        subst hq
                        rfl
                      have q11 : cv[11]'(by rw [hsz]; omega) = .string sc := by
                        have hq := HCV.out
                        subst hq
                        rfl
                      have q12 : cv[12]'(by rw [hsz]; omega) = .string nm := by
                        have hq := HCV.out
                        subst hq
                        rfl
                      have q14 : cv[14]'(by rw [hsz]; omega) = .int .u32 ((K : Int) + 1) := by
                        have hq := HCV.out
                        subst hq
                        rfl
                      as_aux_lemma =>
                        go_wp2_with (first
                          | refine wpList_load_mid rfl 47 _ rfl g 0 rfl cv.toList d47 HLR.out HU47.out HD47.out (by rw [size47]; simp [hsz]) ?_
                          | refine wpList_store_new rfl 47 _ _ rfl _ cv rfl rfl (by rw [size47, hsz]) (by rw [hsz]; rfl) HONE.out ?_)
                        clear e0 e1
                        as_aux_lemma =>
                          have e0 : (w8.alloc (.cells cv 47)).cell? ⟨b, off + K * 4, none⟩ = some (.string (T.sch K)) := cell_later ((Below.refl _ _).alloc (Nat.le_refl _) _) (cell_later HB8.out E0.out)
                          have e1 : (w8.alloc (.cells cv 47)).cell? ⟨b, off + K * 4 + 1, none⟩ = some (.string (T.nam K)) := cell_later ((Below.refl _ _).alloc (Nat.le_refl _) _) (cell_later HB8.out E1.out)
                          have hk0 : (0:Int) ≤ (K : Int) := by omega
                          have hk1 : (K:Int) < (n:Int) := by omega
                          go_quiet (fail)
                          clear e0 e1 hk0 hk1
                          as_aux_lemma =>
                            obtain ⟨w9, hw9⟩ : ∃ x, x = (w8.alloc (.cells cv 47)).drewN nq := ⟨_, rfl⟩
                            have HB9 : Hid (Below w8.heap.size w8 w9) := by rw [hw9]; exact Below.drewN' ((Below.refl _ _).alloc (Nat.le_refl _) _) _
                            have HE9 : Hid (Els w9 w8.heap.size 24 1 (fun j _ => (#[.string (T.sch K), .string (T.nam K), .string (T.nam K), .int .u32 ((K : Int) + 1), .string ⟨#[]⟩, .string ⟨#[]⟩, .string ⟨#[]⟩, .slice (some ⟨w.heap.size + 2 + 2 * K, 0, none⟩) (T.nc K) (T.nc K), .slice none 0 0, .slice (some ⟨w.heap.size + 3 + 2 * K, 0, none⟩) (T.np K) (T.np K), .bool false, .string sc, .string nm, .string nm, .int .u32 ((K : Int) + 1), .string ⟨#[]⟩, .string ⟨#[]⟩, .string ⟨#[]⟩, .slice (some ⟨wB.heap.size + 2 + 2 * K, 0, none⟩) (T.nc K) (T.nc K), .slice none 0 0, .slice (some ⟨wB.heap.size + 3 + 2 * K, 0, none⟩) (T.np K) (T.np K), .bool false, .map (some mc), .map (some mp)] : Array Value)[j]!)) := by rw [hw9, HCV.out]; exact (els_lit w8 #[.string (T.sch K), .string (T.nam K), .string (T.nam K), .int .u32 ((K : Int) + 1), .string ⟨#[]⟩, .string ⟨#[]⟩, .string ⟨#[]⟩, .slice (some ⟨w.heap.size + 2 + 2 * K, 0, none⟩) (T.nc K) (T.nc K), .slice none 0 0, .slice (some ⟨w.heap.size + 3 + 2 * K, 0, none⟩) (T.np K) (T.np K), .bool false, .string sc, .string nm, .string nm, .int .u32 ((K : Int) + 1), .string ⟨#[]⟩, .string ⟨#[]⟩, .string ⟨#[]⟩, .slice (some ⟨wB.heap.size + 2 + 2 * K, 0, none⟩) (T.nc K) (T.nc K), .slice none 0 0, .slice (some ⟨wB.heap.size + 3 + 2 * K, 0, none⟩) (T.np K) (T.np K), .bool false, .map (some mc), .map (some mp)] 47).drewN _
                            rw [← hw9]
                            clear hw9
                            have HW9 : Hid (Below w.heap.size w w9) := HB8.out.trans (HB9.out.mono HB8.out.size)
                            have HMC9 : Hid (w9.heap[mc]? = some (cmap K ci.toNat T.od O' K (T.nc K))) := (HB9.out.block mc hmcl).trans HMC.out
                            have HMP9 : Hid (w9.heap[mp]? = some (pmap K qi.toNat T.od O' K (T.np K))) := (HB9.out.block mp hmpl).trans HMP.out
                            go_upto_if 239 with fail
                            go_cut [] (fun wx => Below w9.heap.size w9 wx)
                            case first => as_aux_lemma =>
                              have c22 : w9.cell? ⟨w8.heap.size, 22, none⟩ = some (.map (some mc)) := HE9.out.cell1 (i := 22) (by omega)
                              have lC := lenC HMC9.out
                              rw [← HCC.out] at lC
                              cases cC with
                              | false =>
                                simp only [Bool.false_eq_true, if_false] at lC
                                go_wp2
                                go_meet
                                case rel => exact Below.refl _ _
                              | true =>
                                simp only [if_true] at lC
                                have hhit := HCC.out.symm
                                rw [HO'.out] at hhit
                                obtain ⟨h1, h2, h3⟩ := hitC_true (O := T.od) hhit
                                subst h1
                                have g := HCE.out
                                simp at g
                                obtain ⟨C, hC⟩ := Int.eq_ofNat_of_zero_le g.1
                                subst hC
                                rw [Int.toNat_natCast] at h2 h3
                                have hCl : C < T.nc K := h2
                                have hlk : ∀ W : World, W.heap[mc]? = w9.heap[mc]? → (Instr.lookup 44 (.map (some mc)) (.string (T.col K C)) true).run Try.prog W = .ok (.tuple #[.agg #[.string cn, .string cn, .int .i64 ((C : Int) + 1), .string ⟨#[]⟩, .bool false, .string ⟨#[]⟩, .bool false, .string ⟨#[]⟩], .bool true]) W := fun W hW => by
                                  refine str_look1 W 44 39 mc Try.underlying44 (T.col K C) _ ?_
                                  have hm := HMC9.out
                                  unfold cmap at hm
                                  rw [← HCC.out, if_pos rfl, Int.toNat_natCast] at hm
                                  refine hW.trans (hm.trans ?_)
                                  simp only [colA]
                                  rw [HO'.out, Int.toNat_natCast, h3]
                                  rfl
                                obtain ⟨b', off', hca, hcell⟩ := HCS.out (by omega)
                                subst hca
                                have e2 := cell_later HW9.out E2.out
                                have e9 := cell_later HW9.out (hcell C hCl)
                                have hk0 : (0:Int) ≤ (K : Int) := by omega
                                have hk1 : (K:Int) < (n:Int) := by omega
                                have hc0 : (0:Int) ≤ (C : Int) := by omega
                                have hc1 : (C:Int) < (T.nc K : Int) := by omega
                                have hmc9 := World.lt_of_block' HMC9.out
                                have hlk1 := hlk w9.drew rfl
                                have hlk2 := hlk (w9.alloc (.cells #[.string ⟨#[]⟩, .string ⟨#[]⟩, .int .i64 0, .string ⟨#[]⟩, .bool false, .string ⟨#[]⟩, .bool false, .string ⟨#[]⟩] 39)).drew (Below.heap_alloc _ _ _ hmc9)
                                have e2' : (w9.alloc (.cells #[.string ⟨#[]⟩, .string ⟨#[]⟩, .int .i64 0, .string ⟨#[]⟩, .bool false, .string ⟨#[]⟩, .bool false, .string ⟨#[]⟩] 39)).cell? ⟨b, off + K * 4 + 2, none⟩ = some (.slice (some ⟨b', off', none⟩) (T.nc K) ccp) := cell_later ((Below.refl _ _).alloc (Nat.le_refl _) _) e2
                                have e9' : (w9.alloc (.cells #[.string ⟨#[]⟩, .string ⟨#[]⟩, .int .i64 0, .string ⟨#[]⟩, .bool false, .string ⟨#[]⟩, .bool false, .string ⟨#[]⟩] 39)).cell? ⟨b', off' + C, none⟩ = some (.string (T.col K C)) := cell_later ((Below.refl _ _).alloc (Nat.le_refl _) _) e9
                                have c22' : (w9.alloc (.cells #[.string ⟨#[]⟩, .string ⟨#[]⟩, .int .i64 0, .string ⟨#[]⟩, .bool false, .string ⟨#[]⟩, .bool false, .string ⟨#[]⟩] 39)).cell? ⟨w8.heap.size, 22, none⟩ = some (.map (some mc)) := cell_later ((Below.refl _ _).alloc (Nat.le_refl _) _) c22
                                clear hcell h2 h3 hhit g hlk
                                go_wp2
                                go_region
                                all_goals go_wp2
                                all_goals go_meet
                                all_goals exact ((Below.refl _ _).alloc (Nat.le_refl _) _).drew
                            case rest => as_aux_lemma =>
                              have HB10 : Hid (Below w9.heap.size w9 wc) := hcut
                              have c23 : wc.cell? ⟨w8.heap.size, 23, none⟩ = some (.map (some mp)) := cell_later hcut (HE9.out.cell1 (i := 23) (by omega))
                              have HMP10 : Hid (wc.heap[mp]? = some (pmap K qi.toNat T.od O' K (T.np K))) := (hcut.block mp (World.lt_of_block' HMP9.out)).trans HMP9.out
                              have HW10 : Hid (Below w.heap.size w wc) := HW9.out.trans (hcut.mono HW9.out.size)
                              have lP := lenP HMP10.out
                              rw [← HPC.out] at lP
                              clear hcut
                              cases pC with
                              | false =>
                                simp only [Bool.false_eq_true, if_false] at lP
                                go_wp2
                                go_ret
                                exact ⟨rfl, HW10.out⟩
                              | true =>
                                simp only [if_true] at lP
                                have hhit := HPC.out.symm
                                rw [HO'.out] at hhit
                                obtain ⟨h1, h2, h3⟩ := hitP_true (O := T.od) hhit
                                subst h1
                                have g := HPE.out
                                simp at g
                                obtain ⟨Q, hQ⟩ := Int.eq_ofNat_of_zero_le g.1
                                subst hQ
                                rw [Int.toNat_natCast] at h2 h3
                                have hQl : Q < T.np K := h2
                                have hlk : ∀ q, (Instr.lookup 45 (.map (some mp)) (.string (T.prt K Q)) true).run Try.prog (wc.drewN q) = .ok (.tuple #[.string pn, .bool true]) (wc.drewN q) := fun q => by
                                  refine str_look1 (wc.drewN q) 45 9 mp Try.underlying45 (T.prt K Q) _ ?_
                                  have hm := HMP10.out
                                  unfold pmap at hm
                                  rw [← HPC.out, if_pos rfl, Int.toNat_natCast] at hm
                                  refine hm.trans ?_
                                  rw [HO'.out, Int.toNat_natCast, h3]
                                  rfl
                                obtain ⟨b', off', hpa, hcell⟩ := HPS.out (by omega)
                                subst hpa
                                have e3 := cell_later HW10.out E3.out
                                have e9 := cell_later HW10.out (hcell Q hQl)
                                have hk0 : (0:Int) ≤ (K : Int) := by omega
                                have hk1 : (K:Int) < (n:Int) := by omega
                                have hc0 : (0:Int) ≤ (Q : Int) := by omega
                                have hc1 : (Q:Int) < (T.np K : Int) := by omega
                                clear hcell h2 h3 hhit g
                                go_wp2
                                go_quiet (fail)
                                go_wp2
                                go_ret
                                exact ⟨rfl, Below.drewN' HW10.out _⟩
end Go.Proofs.Qxb6000463a
