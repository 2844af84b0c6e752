/- LawS5641CWhole: the walk at mode 2. -/
import Derived.Test.YbulkdlumCIsp
import Derived.Test.YbulkdlumCEq
import Derived.Test.YbulkdlumCCopy
import Derived.Laws.AppendOwnNone
namespace Go.Proofs.Ybulkdlum.lawC
open Go.RowKit

set_option maxHeartbeats 800000 in
theorem walk2 (x0 : Addr) (n0 c0 : Nat) (xs : List Int) (a1 : Option Addr) (n1 c1 : Nat) (ys : List Int) (m k : Int) (w : World)
    (h0 : Row w (some x0) n0 xs) (h1 : Row w a1 n1 ys) (e1 : a1 = none → n1 = 0 ∧ c1 = 0)
    (b : n0 + n1 ≤ 1048576) (m0 : 0 ≤ m) (m1 : m ≤ 255) (hm : m % 3 = 2) :
    Calls Yba.prog 4 #[.slice (some x0) n0 c0, .slice a1 n1 c1, .int .u8 m, .int .u8 k] w fun e w' => e = .returned (.bool true) ∧ Below w.heap.size w w' := by
  have t0 : (m % 3 == 0) = false := by simp [hm]
  have t1 : (m % 3 == 1) = false := by simp [hm]
  have H1 : Hid (Row w a1 n1 ys) := h1
  have E1 : Hid (a1 = none → n1 = 0 ∧ c1 = 0) := e1
  have H0 : Hid (Row w (some x0) n0 xs) := h0
  clear h0
  clear hm h1 e1
  obtain ⟨i0, hi, hz0, hz1, hz2⟩ := info_parts info2
  go_enter Yba.func4, Yba.ntmps4
  go_wp2_with fail
  refine (copy_any a1 n1 c1 ys _ H1.out E1.out (by omega)).mono ?_
  rintro e w0 ⟨aq, cq, rfl, hoq, hnq, hbq⟩
  clear hnq
  have HOQ : Hid (w0.ownsRow w.heap.size 2 1 (.slice aq n1 cq) n1 (ys.map (Value.int .i64))) := hoq
  clear hoq
  go_wp2_with (at_builtin; refine wpList_append_own _ rfl (.tmp 27) (.tmp 28) 41 rfl w.heap.size 2 i0 (.int .i64 0) 1 8 Yba.underlying41 hi hz0 hz1 hz2 rfl (by omega) _ n1 (ys.map (Value.int .i64)) rfl HOQ.out x0 n0 c0 (xs.map (Value.int .i64)) rfl ?hl ?hnews (ints_oneCell _ _) ?h63 ?hby hbq.size ?_)
  case hl => simp [H0.out.1]
  case hnews =>
    intro j u hj
    obtain ⟨z, hz, rfl⟩ := by simpa using hj
    have hjn : j < n0 := by rw [← H0.out.1]; exact (List.getElem?_eq_some_iff.1 hz).1
    obtain ⟨b', off, e, hc⟩ := H0.out.2 (by omega)
    obtain rfl : x0 = ⟨b', off, none⟩ := by simpa using e
    have := cell_later hbq (hc j hjn)
    rw [Addr.add_lit]; simpa [hz] using this
  case h63 => unfold maxLen; omega
  case hby => omega
  intro v' w1 ho1 hg1 hnv
  clear hnv
  have hb1 : Below w.heap.size w w1 := hbq.grown hg1 hbq.size (fun k hk => (HOQ.out.lt k hk).1)
  rw [← List.map_append] at ho1
  obtain ⟨zl, hzl⟩ : ∃ zl, zl = ys ++ xs := ⟨_, rfl⟩
  rw [← hzl] at ho1
  obtain ⟨nl, hnl⟩ : ∃ nl, nl = n1 + n0 := ⟨_, rfl⟩
  rw [← hnl] at ho1
  have hnb : nl ≤ 1048576 := by omega
  clear hzl hnl hg1 HOQ hbq hz2 hz1 hz0 hi
  have hex : ∃ al cl, v' = .slice al nl cl := by obtain ⟨al, cl, h, _⟩ := own_shape ho1; exact ⟨al, cl, h⟩
  obtain ⟨al, cl, hv⟩ := hex
  rw [hv]
  rw [hv] at ho1
  clear hv
  have sh1 := own_shape ho1
  obtain ⟨al', cl', hv1, hs1, hcl1, hbk1⟩ := sh1
  cases hv1
  have R1 : Row w1 al nl zl := Row.own ho1
  go_wp2_with fail
  refine (copy_any al nl cl zl _ R1 hs1 (by omega)).mono ?_
  rintro e w2 ⟨ac, cc, rfl, ho2, hn2, hb2⟩
  have hb12 : Below w.heap.size w w2 := hb1.trans (hb2.mono hb1.size)
  have R2 : Row w2 a1 n1 ys := H1.out.kept hb12
  go_wp2_with fail
  refine (copy_any a1 n1 c1 ys _ R2 E1.out (by omega)).mono ?_
  rintro e w3 ⟨ao, co, rfl, ho3, hn3, hb3⟩
  have hb13 : Below w.heap.size w w3 := hb12.trans (hb3.mono hb12.size)
  have Rl : Row w3 al nl zl := (R1.kept hb2).kept hb3
  have Ro : Row w3 a1 n1 ys := R2.kept hb3
  have Rlc : Row w3 ac nl zl := (Row.own ho2).kept hb3
  have Roc : Row w3 ao n1 ys := Row.own ho3
  have HN2 : Hid (al.isNone = ac.isNone) := hn2.symm
  have HN3 : Hid (a1.isNone = ao.isNone) := hn3.symm
  clear hb1 hb2 hb3 hb12 ho1 ho2 ho3 hn2 hn3 hs1 hcl1 hbk1 R1 R2
  have HRl : Hid (Row w3 al nl zl) := Rl
  have HRo : Hid (Row w3 a1 n1 ys) := Ro
  have HRlc : Hid (Row w3 ac nl zl) := Rlc
  have HRoc : Hid (Row w3 ao n1 ys) := Roc
  clear Rl Ro Rlc Roc
  go_wp2_with fail
  refine (isp_any al nl cl zl a1 n1 c1 ys _ HRl.out HRo.out (by omega) (by omega)).mono ?_
  rintro e w4 ⟨rfl, rfl⟩
  by_cases hlen : n1 < nl
  · have hp := pfx_long (xs := zl) (ys := ys) (by rw [HRl.out.1, HRo.out.1]; omega)
    go_wp2_with fail
    refine (eq_any al nl cl zl ac cc _ HRl.out HRlc.out HN2.out (by omega)).mono ?_
    rintro e w5 ⟨rfl, hb5⟩
    go_wp2_with fail
    refine (eq_any a1 n1 c1 ys ao co _ (HRo.out.kept hb5) (HRoc.out.kept hb5) HN3.out (by omega)).mono ?_
    rintro e w6 ⟨rfl, hb6⟩
    go_wp2
    go_ret
    exact ⟨rfl, (hb13.trans (hb5.mono hb13.size)).trans (hb6.mono (Nat.le_trans hb13.size hb5.size))⟩
  · go_wp2_with fail
    go_loopw [14, 15] (fun t i wr => t = .bool true ∧ ∃ j : Nat, j ≤ nl ∧ i = .int .i64 j ∧ Below w4.heap.size w4 wr ∧ ∀ q, q < j → zl[q]?.getD 0 = ys[q]?.getD 0) (fun _ i _ => nl - (intOf i).toNat)
    case atStart => exact ⟨rfl, 0, Nat.zero_le _, rfl, Below.refl _ _, fun q hq => by omega⟩
    case round =>
      obtain ⟨rfl, j, hj, rfl, hbr, hs⟩ := hrel
      have HS : Hid (∀ q, q < j → zl[q]?.getD 0 = ys[q]?.getD 0) := hs
      clear hs
      by_cases hlt : j < nl
      · obtain ⟨g0, o0, rfl, hx⟩ := HRl.out.2 (by omega)
        obtain ⟨g1, o1, rfl, hy⟩ := HRo.out.2 (by omega)
        have cx := cell_later hbr (hx j hlt)
        have cy := cell_later hbr (hy j (by omega))
        clear hx hy
        by_cases he : zl[j]?.getD 0 = ys[j]?.getD 0
        · have hbb : (zl[j]?.getD 0 != ys[j]?.getD 0) = false := by simp [he]
          have HE : Hid (zl[j]?.getD 0 = ys[j]?.getD 0) := he
          clear he
          go_wp2_with fail
          go_quiet (fail)
          go_wp2_with fail
          go_roundw
          case rel => exact ⟨rfl, j + 1, by omega, by go_num, below_drewN hbr _, fun q hq => by
            rcases Nat.lt_succ_iff_lt_or_eq.1 hq with h | h
            · exact HS.out q h
            · subst h; exact HE.out⟩
          case measure => simp [intOf]; omega
        · have hbb : (zl[j]?.getD 0 != ys[j]?.getD 0) = true := by simp [he]
          have hp := pfx_no (xs := zl) (ys := ys) j (by rw [HRl.out.1]; omega) he
          clear he
          go_wp2_with fail
          go_quiet (fail)
          go_wp2_with fail
          have hbq := below_drewN hbr nq
          refine (eq_any _ nl cl zl ac cc _ (HRl.out.kept hbq) (HRlc.out.kept hbq) HN2.out (by omega)).mono ?_
          rintro e w5 ⟨rfl, hb5⟩
          go_wp2_with fail
          have hb45 := hbq.trans (hb5.mono hbq.size)
          refine (eq_any _ n1 c1 ys ao co _ (HRo.out.kept hb45) (HRoc.out.kept hb45) HN3.out (by omega)).mono ?_
          rintro e w6 ⟨rfl, hb6⟩
          go_wp2
          go_ret
          exact ⟨rfl, (hb13.trans (hb45.mono hb13.size)).trans (hb6.mono (Nat.le_trans hb13.size hb45.size))⟩
      · have hp := pfx_yes (xs := zl) (ys := ys) (by rw [HRl.out.1, HRo.out.1]; omega) (fun i hi => HS.out i (by rw [HRl.out.1] at hi; omega))
        go_wp2_with fail
        refine (eq_any _ nl cl zl ac cc _ (HRl.out.kept hbr) (HRlc.out.kept hbr) HN2.out (by omega)).mono ?_
        rintro e w5 ⟨rfl, hb5⟩
        go_wp2_with fail
        have hb45 := hbr.trans (hb5.mono hbr.size)
        refine (eq_any _ n1 c1 ys ao co _ (HRo.out.kept hb45) (HRoc.out.kept hb45) HN3.out (by omega)).mono ?_
        rintro e w6 ⟨rfl, hb6⟩
        go_wp2
        go_ret
        exact ⟨rfl, (hb13.trans (hb45.mono hb13.size)).trans (hb6.mono (Nat.le_trans hb13.size hb45.size))⟩

set_option maxHeartbeats 800000 in
theorem walk2n (a1 : Option Addr) (n1 c1 : Nat) (ys : List Int) (m k : Int) (w : World)
    (h1 : Row w a1 n1 ys) (e1 : a1 = none → n1 = 0 ∧ c1 = 0)
    (b : n1 ≤ 1048576) (m0 : 0 ≤ m) (m1 : m ≤ 255) (hm : m % 3 = 2) :
    Calls Yba.prog 4 #[.slice none 0 0, .slice a1 n1 c1, .int .u8 m, .int .u8 k] w fun e w' => e = .returned (.bool true) ∧ Below w.heap.size w w' := by
  have t0 : (m % 3 == 0) = false := by simp [hm]
  have t1 : (m % 3 == 1) = false := by simp [hm]
  have H1 : Hid (Row w a1 n1 ys) := h1
  have E1 : Hid (a1 = none → n1 = 0 ∧ c1 = 0) := e1
  clear hm h1 e1
  obtain ⟨i0, hi, hz0, hz1, hz2⟩ := info_parts info2
  go_enter Yba.func4, Yba.ntmps4
  go_wp2_with fail
  refine (copy_any a1 n1 c1 ys _ H1.out E1.out (by omega)).mono ?_
  rintro e w0 ⟨aq, cq, rfl, hoq, hnq, hbq⟩
  clear hnq
  have HOQ : Hid (w0.ownsRow w.heap.size 2 1 (.slice aq n1 cq) n1 (ys.map (Value.int .i64))) := hoq
  clear hoq
  go_wp2_with (at_builtin; refine wpList_append_own_none rfl (.tmp 27) (.tmp 28) 41 rfl w.heap.size 2 i0 1 Yba.underlying41 hi _ n1 (ys.map (Value.int .i64)) rfl HOQ.out rfl ?_)
  obtain ⟨zl, ho1⟩ : ∃ zl : List Int, w0.ownsRow w.heap.size 2 1 (.slice aq n1 cq) n1 (zl.map (Value.int .i64)) := ⟨ys, HOQ.out⟩
  clear HOQ
  have sh1 := own_shape ho1
  obtain ⟨aq', cq', hv1, hs1, hcl1, hbk1⟩ := sh1
  cases hv1
  have R1 : Row w0 aq n1 zl := Row.own ho1
  go_wp2_with fail
  refine (copy_any aq n1 cq zl _ R1 hs1 (by omega)).mono ?_
  rintro e w2 ⟨ac, cc, rfl, ho2, hn2, hb2⟩
  have hb12 : Below w.heap.size w w2 := hbq.trans (hb2.mono hbq.size)
  have R2 : Row w2 a1 n1 ys := H1.out.kept hb12
  go_wp2_with fail
  refine (copy_any a1 n1 c1 ys _ R2 E1.out (by omega)).mono ?_
  rintro e w3 ⟨ao, co, rfl, ho3, hn3, hb3⟩
  have hb13 : Below w.heap.size w w3 := hb12.trans (hb3.mono hb12.size)
  have Rl : Row w3 aq n1 zl := (R1.kept hb2).kept hb3
  have Ro : Row w3 a1 n1 ys := R2.kept hb3
  have Rlc : Row w3 ac n1 zl := (Row.own ho2).kept hb3
  have Roc : Row w3 ao n1 ys := Row.own ho3
  have HN2 : Hid (aq.isNone = ac.isNone) := hn2.symm
  have HN3 : Hid (a1.isNone = ao.isNone) := hn3.symm
  clear hbq hb2 hb3 hb12 ho1 ho2 ho3 hn2 hn3 hs1 hcl1 hbk1 R1 R2
  have HRl : Hid (Row w3 aq n1 zl) := Rl
  have HRo : Hid (Row w3 a1 n1 ys) := Ro
  have HRlc : Hid (Row w3 ac n1 zl) := Rlc
  have HRoc : Hid (Row w3 ao n1 ys) := Roc
  clear Rl Ro Rlc Roc
  go_wp2_with fail
  refine (isp_any aq n1 cq zl a1 n1 c1 ys _ HRl.out HRo.out (by omega) (by omega)).mono ?_
  rintro e w4 ⟨rfl, rfl⟩
  by_cases hlen : n1 < n1
  · exact absurd hlen (Nat.lt_irrefl _)
  · go_wp2_with fail
    go_loopw [14, 15] (fun t i wr => t = .bool true ∧ ∃ j : Nat, j ≤ n1 ∧ i = .int .i64 j ∧ Below w4.heap.size w4 wr ∧ ∀ q, q < j → zl[q]?.getD 0 = ys[q]?.getD 0) (fun _ i _ => n1 - (intOf i).toNat)
    case atStart => exact ⟨rfl, 0, Nat.zero_le _, rfl, Below.refl _ _, fun q hq => by omega⟩
    case round =>
      obtain ⟨rfl, j, hj, rfl, hbr, hs⟩ := hrel
      have HS : Hid (∀ q, q < j → zl[q]?.getD 0 = ys[q]?.getD 0) := hs
      clear hs
      by_cases hlt : j < n1
      · obtain ⟨g0, o0, rfl, hx⟩ := HRl.out.2 (by omega)
        obtain ⟨g1, o1, rfl, hy⟩ := HRo.out.2 (by omega)
        have cx := cell_later hbr (hx j hlt)
        have cy := cell_later hbr (hy j (by omega))
        clear hx hy
        by_cases he : zl[j]?.getD 0 = ys[j]?.getD 0
        · have hbb : (zl[j]?.getD 0 != ys[j]?.getD 0) = false := by simp [he]
          have HE : Hid (zl[j]?.getD 0 = ys[j]?.getD 0) := he
          clear he
          go_wp2_with fail
          go_quiet (fail)
          go_wp2_with fail
          go_roundw
          case rel => exact ⟨rfl, j + 1, by omega, by go_num, below_drewN hbr _, fun q hq => by
            rcases Nat.lt_succ_iff_lt_or_eq.1 hq with h | h
            · exact HS.out q h
            · subst h; exact HE.out⟩
          case measure => simp [intOf]; omega
        · have hbb : (zl[j]?.getD 0 != ys[j]?.getD 0) = true := by simp [he]
          have hp := pfx_no (xs := zl) (ys := ys) j (by rw [HRl.out.1]; omega) he
          clear he
          go_wp2_with fail
          go_quiet (fail)
          go_wp2_with fail
          have hbq := below_drewN hbr nq
          refine (eq_any _ n1 cq zl ac cc _ (HRl.out.kept hbq) (HRlc.out.kept hbq) HN2.out (by omega)).mono ?_
          rintro e w5 ⟨rfl, hb5⟩
          go_wp2_with fail
          have hb45 := hbq.trans (hb5.mono hbq.size)
          refine (eq_any _ n1 c1 ys ao co _ (HRo.out.kept hb45) (HRoc.out.kept hb45) HN3.out (by omega)).mono ?_
          rintro e w6 ⟨rfl, hb6⟩
          go_wp2
          go_ret
          exact ⟨rfl, (hb13.trans (hb45.mono hb13.size)).trans (hb6.mono (Nat.le_trans hb13.size hb45.size))⟩
      · have hp := pfx_yes (xs := zl) (ys := ys) (by rw [HRl.out.1, HRo.out.1]; omega) (fun i hi => HS.out i (by rw [HRl.out.1] at hi; omega))
        go_wp2_with fail
        refine (eq_any _ n1 cq zl ac cc _ (HRl.out.kept hbr) (HRlc.out.kept hbr) HN2.out (by omega)).mono ?_
        rintro e w5 ⟨rfl, hb5⟩
        go_wp2_with fail
        have hb45 := hbr.trans (hb5.mono hbr.size)
        refine (eq_any _ n1 c1 ys ao co _ (HRo.out.kept hb45) (HRoc.out.kept hb45) HN3.out (by omega)).mono ?_
        rintro e w6 ⟨rfl, hb6⟩
        go_wp2
        go_ret
        exact ⟨rfl, (hb13.trans (hb45.mono hb13.size)).trans (hb6.mono (Nat.le_trans hb13.size hb45.size))⟩
end Go.Proofs.Ybulkdlum.lawC
