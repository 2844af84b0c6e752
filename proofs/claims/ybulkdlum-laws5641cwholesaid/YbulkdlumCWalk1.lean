/- LawS5641CWhole: the walk at mode 1. -/
import Derived.Test.YbulkdlumCIsp
import Derived.Test.YbulkdlumCEq
import Derived.Test.YbulkdlumCCopy
namespace Go.Proofs.Ybulkdlum.lawC
open Go.RowKit

theorem Row.take {w : World} {a : Option Addr} {n m : Nat} {zs : List Int} (h : Row w a n zs) (hm : m ≤ n) : Row w a m (zs.take m) := by
  refine ⟨by simp [h.1, hm], fun h0 => ?_⟩
  obtain ⟨b, off, e, hc⟩ := h.2 (by omega)
  exact ⟨b, off, e, fun i hi => by rw [hc i (by omega)]; simp [hi]⟩

set_option maxHeartbeats 800000 in
theorem walk1 (a0 : Option Addr) (n0 c0 : Nat) (a1 : Option Addr) (n1 c1 : Nat) (ys : List Int) (m k : Int) (w : World)
    (h1 : Row w a1 n1 ys) (e1 : a1 = none → n1 = 0 ∧ c1 = 0) (l1 : n1 ≤ c1) (l2 : c1 ≤ maxLen) (hpos : 0 < n1)
    (b : n0 + n1 ≤ 1048576) (m0 : 0 ≤ m) (m1 : m ≤ 255) (k0 : 0 ≤ k) (k1 : k ≤ 255) (hm : m % 3 = 1) :
    Calls Yba.prog 4 #[.slice a0 n0 c0, .slice a1 n1 c1, .int .u8 m, .int .u8 k] w fun e w' => e = .returned (.bool true) ∧ Below w.heap.size w w' := by
  have t0 : (m % 3 == 0) = false := by simp [hm]
  have t1 : (m % 3 == 1) = true := by simp [hm]
  have H1 : Hid (Row w a1 n1 ys) := h1
  have E1 : Hid (a1 = none → n1 = 0 ∧ c1 = 0) := e1
  unfold maxLen at l2
  have p0 : 0 ≤ k % ((n1 : Int) + 1) := Int.emod_nonneg _ (by omega)
  have p1 : k % ((n1 : Int) + 1) < (n1 : Int) + 1 := Int.emod_lt_of_pos _ (by omega)
  clear hm h1 e1
  go_enter Yba.func4, Yba.ntmps4
  go_wp2_with fail
  obtain ⟨nl, hnl⟩ : ∃ nl, (k % ((n1 : Int) + 1)).toNat = nl := ⟨_, rfl⟩
  rw [hnl]
  have hle : nl ≤ n1 := by omega
  clear hnl
  obtain ⟨zl, hzl⟩ : ∃ zl, Row w a1 nl zl := ⟨_, H1.out.take hle⟩
  refine (copy_any a1 nl c1 zl _ hzl (fun h => by have := (E1.out h).1; omega) (by omega)).mono ?_
  rintro e w1 ⟨al, cl, rfl, ho1, hn1, hb1⟩
  clear hn1 hzl
  have sh1 := own_shape ho1
  obtain ⟨al', cl', hv1, hs1, hcl1, hbk1⟩ := sh1
  cases hv1
  have R1 : Row w1 al nl zl := Row.own ho1
  go_wp2_with fail
  refine (copy_any al nl cl zl _ R1 hs1 (by omega)).mono ?_
  rintro e w2 ⟨ac, cc, rfl, ho2, hn2, hb2⟩
  have hb12 : Below w.heap.size w w2 := hb1.trans (hb2.mono hb1.size)
  have R2 : Row w2 a1 n1 ys := H1.out.kept hb12
  go_wp2_with fail
  refine (copy_any a1 n1 c1 ys _ R2 E1.out (by omega)).mono ?_
  rintro e w3 ⟨ao, co, rfl, ho3, hn3, hb3⟩
  have hb13 : Below w.heap.size w w3 := hb12.trans (hb3.mono hb12.size)
  have Rl : Row w3 al nl zl := (R1.kept hb2).kept hb3
  have Ro : Row w3 a1 n1 ys := R2.kept hb3
  have Rlc : Row w3 ac nl zl := (Row.own ho2).kept hb3
  have Roc : Row w3 ao n1 ys := Row.own ho3
  have HN2 : Hid (al.isNone = ac.isNone) := hn2.symm
  have HN3 : Hid (a1.isNone = ao.isNone) := hn3.symm
  clear hb1 hb2 hb3 hb12 ho1 ho2 ho3 hn2 hn3 hs1 hcl1 hbk1 R1 R2
  have HRl : Hid (Row w3 al nl zl) := Rl
  have HRo : Hid (Row w3 a1 n1 ys) := Ro
  have HRlc : Hid (Row w3 ac nl zl) := Rlc
  have HRoc : Hid (Row w3 ao n1 ys) := Roc
  clear Rl Ro Rlc Roc
  go_wp2_with fail
  refine (isp_any al nl cl zl a1 n1 c1 ys _ HRl.out HRo.out (by omega) (by omega)).mono ?_
  rintro e w4 ⟨rfl, rfl⟩
  by_cases hlen : n1 < nl
  · have hp := pfx_long (xs := zl) (ys := ys) (by rw [HRl.out.1, HRo.out.1]; omega)
    go_wp2_with fail
    refine (eq_any al nl cl zl ac cc _ HRl.out HRlc.out HN2.out (by omega)).mono ?_
    rintro e w5 ⟨rfl, hb5⟩
    go_wp2_with fail
    refine (eq_any a1 n1 c1 ys ao co _ (HRo.out.kept hb5) (HRoc.out.kept hb5) HN3.out (by omega)).mono ?_
    rintro e w6 ⟨rfl, hb6⟩
    go_wp2
    go_ret
    exact ⟨rfl, (hb13.trans (hb5.mono hb13.size)).trans (hb6.mono (Nat.le_trans hb13.size hb5.size))⟩
  · go_wp2_with fail
    go_loopw [14, 15] (fun t i wr => t = .bool true ∧ ∃ j : Nat, j ≤ nl ∧ i = .int .i64 j ∧ Below w4.heap.size w4 wr ∧ ∀ q, q < j → zl[q]?.getD 0 = ys[q]?.getD 0) (fun _ i _ => nl - (intOf i).toNat)
    case atStart => exact ⟨rfl, 0, Nat.zero_le _, rfl, Below.refl _ _, fun q hq => by omega⟩
    case round =>
      obtain ⟨rfl, j, hj, rfl, hbr, hs⟩ := hrel
      have HS : Hid (∀ q, q < j → zl[q]?.getD 0 = ys[q]?.getD 0) := hs
      clear hs
      by_cases hlt : j < nl
      · obtain ⟨g0, o0, rfl, hx⟩ := HRl.out.2 (by omega)
        obtain ⟨g1, o1, rfl, hy⟩ := HRo.out.2 (by omega)
        have cx := cell_later hbr (hx j hlt)
        have cy := cell_later hbr (hy j (by omega))
        clear hx hy
        by_cases he : zl[j]?.getD 0 = ys[j]?.getD 0
        · have hbb : (zl[j]?.getD 0 != ys[j]?.getD 0) = false := by simp [he]
          have HE : Hid (zl[j]?.getD 0 = ys[j]?.getD 0) := he
          clear he
          go_wp2_with fail
          go_quiet (fail)
          go_wp2_with fail
          go_roundw
          case rel => exact ⟨rfl, j + 1, by omega, by go_num, below_drewN hbr _, fun q hq => by
            rcases Nat.lt_succ_iff_lt_or_eq.1 hq with h | h
            · exact HS.out q h
            · subst h; exact HE.out⟩
          case measure => simp [intOf]; omega
        · have hbb : (zl[j]?.getD 0 != ys[j]?.getD 0) = true := by simp [he]
          have hp := pfx_no (xs := zl) (ys := ys) j (by rw [HRl.out.1]; omega) he
          clear he
          go_wp2_with fail
          go_quiet (fail)
          go_wp2_with fail
          have hbq := below_drewN hbr nq
          refine (eq_any _ nl cl zl ac cc _ (HRl.out.kept hbq) (HRlc.out.kept hbq) HN2.out (by omega)).mono ?_
          rintro e w5 ⟨rfl, hb5⟩
          go_wp2_with fail
          have hb45 := hbq.trans (hb5.mono hbq.size)
          refine (eq_any _ n1 c1 ys ao co _ (HRo.out.kept hb45) (HRoc.out.kept hb45) HN3.out (by omega)).mono ?_
          rintro e w6 ⟨rfl, hb6⟩
          go_wp2
          go_ret
          exact ⟨rfl, (hb13.trans (hb45.mono hb13.size)).trans (hb6.mono (Nat.le_trans hb13.size hb45.size))⟩
      · have hp := pfx_yes (xs := zl) (ys := ys) (by rw [HRl.out.1, HRo.out.1]; omega) (fun i hi => HS.out i (by rw [HRl.out.1] at hi; omega))
        go_wp2_with fail
        refine (eq_any _ nl cl zl ac cc _ (HRl.out.kept hbr) (HRlc.out.kept hbr) HN2.out (by omega)).mono ?_
        rintro e w5 ⟨rfl, hb5⟩
        go_wp2_with fail
        have hb45 := hbr.trans (hb5.mono hbr.size)
        refine (eq_any _ n1 c1 ys ao co _ (HRo.out.kept hb45) (HRoc.out.kept hb45) HN3.out (by omega)).mono ?_
        rintro e w6 ⟨rfl, hb6⟩
        go_wp2
        go_ret
        exact ⟨rfl, (hb13.trans (hb45.mono hb13.size)).trans (hb6.mono (Nat.le_trans hb13.size hb45.size))⟩

set_option maxHeartbeats 800000 in
theorem walk1e (a0 : Option Addr) (n0 c0 : Nat) (a1 : Option Addr) (c1 : Nat) (m k : Int) (w : World)
    (e1 : a1 = none → c1 = 0)
    (b : n0 ≤ 1048576) (m0 : 0 ≤ m) (m1 : m ≤ 255) (hm : m % 3 = 1) :
    Calls Yba.prog 4 #[.slice a0 n0 c0, .slice a1 0 c1, .int .u8 m, .int .u8 k] w fun e w' => e = .returned (.bool true) ∧ Below w.heap.size w w' := by
  have t0 : (m % 3 == 0) = false := by simp [hm]
  have t1 : (m % 3 == 1) = true := by simp [hm]
  have E1 : Hid (a1 = none → c1 = 0) := e1
  clear hm e1
  go_enter Yba.func4, Yba.ntmps4
  go_wp2_with fail
  have Z : ∀ (W : World) (a : Option Addr), Row W a 0 [] := fun W a => ⟨rfl, fun h => by omega⟩
  have HZ : Hid (∀ (W : World) (a : Option Addr), Row W a 0 []) := Z
  clear Z
  refine (copy_any a1 0 c1 [] _ (HZ.out _ _) (fun h => ⟨rfl, E1.out h⟩) (by omega)).mono ?_
  rintro e w1 ⟨al, cl, rfl, ho1, hn1, hb1⟩
  obtain ⟨al', cl', hv1, hs1, hcl1, hbk1⟩ := own_shape ho1
  cases hv1
  clear hn1 hcl1 hbk1 ho1
  have HS1 : Hid (al = none → cl = 0) := fun h => (hs1 h).2
  clear hs1
  go_wp2_with fail
  refine (copy_any al 0 cl [] _ (HZ.out _ _) (fun h => ⟨rfl, HS1.out h⟩) (by omega)).mono ?_
  rintro e w2 ⟨ac, cc, rfl, ho2, hn2, hb2⟩
  go_wp2_with fail
  refine (copy_any a1 0 c1 [] _ (HZ.out _ _) (fun h => ⟨rfl, E1.out h⟩) (by omega)).mono ?_
  rintro e w3 ⟨ao, co, rfl, ho3, hn3, hb3⟩
  have hb12 : Below w.heap.size w w2 := hb1.trans (hb2.mono hb1.size)
  have hb13 : Below w.heap.size w w3 := hb12.trans (hb3.mono hb12.size)
  have HN2 : Hid (al.isNone = ac.isNone) := hn2.symm
  have HN3 : Hid (a1.isNone = ao.isNone) := hn3.symm
  clear hb1 hb2 hb3 hb12 ho2 ho3 hn2 hn3
  go_wp2_with fail
  refine (isp_any al 0 cl [] a1 0 c1 [] _ (HZ.out _ _) (HZ.out _ _) (by omega) (by omega)).mono ?_
  rintro e w4 ⟨rfl, rfl⟩
  have hp : pfx [] [] = true := by decide
  go_wp2_with fail
  refine wp_loop_rounds 1 ?_
  rw [rounds_succ]
  go_wp2_with fail
  refine (eq_any al 0 cl [] ac cc _ (HZ.out _ _) (HZ.out _ _) HN2.out (by omega)).mono ?_
  rintro e w5 ⟨rfl, hb5⟩
  go_wp2_with fail
  refine (eq_any a1 0 c1 [] ao co _ (HZ.out _ _) (HZ.out _ _) HN3.out (by omega)).mono ?_
  rintro e w6 ⟨rfl, hb6⟩
  go_wp2
  go_ret
  exact ⟨rfl, (hb13.trans (hb5.mono hb13.size)).trans (hb6.mono (Nat.le_trans hb13.size hb5.size))⟩
end Go.Proofs.Ybulkdlum.lawC
