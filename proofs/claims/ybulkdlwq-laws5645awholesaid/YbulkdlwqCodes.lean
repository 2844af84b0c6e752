/- LawS5645AWhole: the contract of reversedCodes. -/
import Derived.Test.YbulkdlwqBlk
import Derived.Test.YbulkdlwqBits
import Derived.Test.YbulkdlwqCounts
import Derived.Test.YbulkdlwqRev
namespace Go.Proofs.Ybulkdlwq.huff
open Go.RowKit
set_option linter.unusedVariables false

/-- the reversed codes of the first k symbols -/
def revTo (L : List Nat) (k s : Nat) : Nat := if s < k ∧ L.getD s 0 ≠ 0 then R L s else 0
/-- the next code of each length, behind k symbols -/
def nextAt (L : List Nat) (k j : Nat) : Nat := if j = 0 then 0 else first L j + cntTo L k j
def firstTo (L : List Nat) (l j : Nat) : Nat := if j = 0 then 0 else if j < l then first L j else 0

theorem rank_eq (L : List Nat) (k : Nat) : rank L k = cntTo L k (L.getD k 0) := rfl

set_option maxRecDepth 100000 in
set_option maxHeartbeats 1600000 in
theorem rev_codes (g o n c gr : Nat) (L : List Nat) (w : World) (hL : L.length = n) (hn : n ≤ 288) (hG : Good L) (hR : Rd w g o n .u8 (fun i => L.getD i 0)) (hg : g < gr) (hgr : gr + 1 = w.heap.size)
    (hB : Blk w gr 41 (ofN 288 .u16 (fun _ => 0))) :
    Calls Yba.prog 10 #[.slice (some ⟨g, o, none⟩) n c, .slice (some ⟨gr, 0, none⟩) 288 288] w fun e w' => e = .returned (.tuple #[]) ∧ Below gr w w' ∧ Blk w' gr 41 (ofN 288 .u16 (revTo L n)) := by
  have HL : Hid (L.length = n) := hL
  have HR : Hid (Rd w g o n .u8 (fun i => L.getD i 0)) := hR
  have HG : Hid (Good L) := hG
  have HB : Hid (Blk w gr 41 (ofN 288 .u16 (fun _ => 0))) := hB
  have HGR : Hid (gr + 1 = w.heap.size) := hgr
  clear hL hR hG hB hgr
  go_enter Yba.func10, Yba.ntmps10
  go_wp2_with fail
  refine (counts_any g o n c L w HL.out hn HG.out.le HR.out).mono ?_
  rintro e w1 ⟨rfl, hb1⟩
  have HB1 : Hid (Below w.heap.size w w1) := hb1
  clear hb1
  rw [show ofN 16 .i64 (cnt L) = #[.int .i64 (cnt L 0 : Nat), .int .i64 (cnt L 1 : Nat), .int .i64 (cnt L 2 : Nat), .int .i64 (cnt L 3 : Nat), .int .i64 (cnt L 4 : Nat), .int .i64 (cnt L 5 : Nat), .int .i64 (cnt L 6 : Nat), .int .i64 (cnt L 7 : Nat), .int .i64 (cnt L 8 : Nat), .int .i64 (cnt L 9 : Nat), .int .i64 (cnt L 10 : Nat), .int .i64 (cnt L 11 : Nat), .int .i64 (cnt L 12 : Nat), .int .i64 (cnt L 13 : Nat), .int .i64 (cnt L 14 : Nat), .int .i64 (cnt L 15 : Nat)] from rfl]
  go_wp2_with fail
  rw [show (#[.int .i64 (cnt L 0 : Nat), .int .i64 (cnt L 1 : Nat), .int .i64 (cnt L 2 : Nat), .int .i64 (cnt L 3 : Nat), .int .i64 (cnt L 4 : Nat), .int .i64 (cnt L 5 : Nat), .int .i64 (cnt L 6 : Nat), .int .i64 (cnt L 7 : Nat), .int .i64 (cnt L 8 : Nat), .int .i64 (cnt L 9 : Nat), .int .i64 (cnt L 10 : Nat), .int .i64 (cnt L 11 : Nat), .int .i64 (cnt L 12 : Nat), .int .i64 (cnt L 13 : Nat), .int .i64 (cnt L 14 : Nat), .int .i64 (cnt L 15 : Nat)] : Array Value) = ofN 16 .i64 (cnt L) from rfl, show (#[.int .u16 0, .int .u16 0, .int .u16 0, .int .u16 0, .int .u16 0, .int .u16 0, .int .u16 0, .int .u16 0, .int .u16 0, .int .u16 0, .int .u16 0, .int .u16 0, .int .u16 0, .int .u16 0, .int .u16 0, .int .u16 0] : Array Value) = ofN 16 .u16 (fun _ => 0) from rfl]
  obtain ⟨wx, hwx⟩ : ∃ wx : World, wx = (w1.alloc (.cells (ofN 16 .i64 (cnt L)) 39)).alloc (.cells (ofN 16 .u16 (fun _ => 0)) 44) := ⟨_, rfl⟩
  have hsz : wx.heap.size = w1.heap.size + 2 := by rw [hwx]; simp
  have HX4 : Hid (Blk wx w1.heap.size 39 (ofN 16 .i64 (cnt L))) := by rw [hwx]; exact (Blk.new w1 _ 39).alloc _
  have HX5 : Hid (Blk wx (w1.heap.size + 1) 44 (ofN 16 .u16 (fun _ => 0))) := by
    rw [hwx, show w1.heap.size + 1 = (w1.alloc (.cells (ofN 16 .i64 (cnt L)) 39)).heap.size by simp]
    exact Blk.new _ _ 44
  have HXB : Hid (Below w.heap.size w wx) := by
    rw [hwx]
    exact (HB1.out.alloc HB1.out.size _).alloc (by have := HB1.out.size; simp; omega) _
  have hs1 : w.heap.size ≤ w1.heap.size := HB1.out.size
  rw [← hwx]
  obtain ⟨g4, hg4⟩ : ∃ g4, g4 = w1.heap.size := ⟨_, rfl⟩
  rw [← hg4] at HX4 HX5 hs1 hsz
  rw [← hg4]
  have hgr : gr < g4 := by have := HGR.out; omega
  clear hwx hg4 HB1
  go_loopw [6, 7] (fun cv lv wr => ∃ m : Nat, m ≤ 15 ∧ lv = .int .i64 ((m : Int) + 1) ∧ cv = .int .u16 (first L m : Nat) ∧ Hid (Blk wr g4 39 (ofN 16 .i64 (cnt L))) ∧ Hid (Blk wr (g4 + 1) 44 (ofN 16 .u16 (firstTo L (m + 1)))) ∧ Hid (Below w.heap.size w wr)) (fun _ lv _ => 16 - (intOf lv).toNat)
  case atStart => exact ⟨0, by omega, rfl, rfl, HX4, HX5.out.to (fun j _ => by unfold firstTo; split <;> (try split) <;> omega), HXB⟩
  case round =>
    obtain ⟨m, hm, rfl, rfl, H4, H5, HW⟩ := hrel
    by_cases hlt : m < 15
    · have hb : first L m + cnt L m ≤ 16384 := by
        have h1 := room_of HG.out.room m (by omega)
        have h2 : 2 ^ m ≤ 2 ^ 14 := Nat.pow_le_pow_right (by omega) (by omega)
        omega
      have c0 : wr.cell? ⟨g4, m, none⟩ = some (.int .i64 (cnt L m : Nat)) := H4.out.int m (by omega)
      have c1 : wr.cell? ⟨g4 + 1, m + 1, none⟩ = some (.int .u16 (firstTo L (m + 1) (m + 1) : Nat)) := H5.out.int (m + 1) (by omega)
      have c2 := H5.out.free (m + 1)
      have w1 := wr_u16 (cnt L m) (by omega)
      go_wp2_with fail
      have e : ((first L m : Nat) : Int) + ((cnt L m : Nat) : Int) = ((first L m + cnt L m : Nat) : Int) := by omega
      have e2 : (((first L m : Nat) : Int) + ((cnt L m : Nat) : Int)) * 2 = ((first L (m + 1) : Nat) : Int) := by rw [first]; omega
      go_roundw
      case rel =>
        rw [e2]
        refine ⟨m + 1, by omega, by go_num, rfl, H4.out.other (by simp) _, H5.out.put (m + 1) (first L (m + 1)) (by omega) ?_, HW.out.setCell (by simp only; omega) _⟩
        intro j hj
        unfold firstTo
        by_cases e3 : j = m + 1
        · subst e3
          simp
        · rw [if_neg e3]
          by_cases e4 : j = 0
          · simp [e4]
          · rw [if_neg e4, if_neg e4]
            by_cases e5 : j < m + 1
            · rw [if_pos e5, if_pos (by omega)]
            · rw [if_neg e5, if_neg (by omega)]
      case measure => simp [intOf]; omega
    · obtain rfl : m = 15 := by omega
      have HBR : Hid (Blk wr gr 41 (ofN 288 .u16 (revTo L 0))) := (HB.out.below HW.out (by have := HGR.out; omega)).to (fun j _ => by simp [revTo])
      have HBN : Hid (Blk wr (g4 + 1) 44 (ofN 16 .u16 (nextAt L 0))) := H5.out.to (fun j hj => by unfold firstTo nextAt; rw [cntTo_zero]; split <;> (try split) <;> omega)
      have HBW : Hid (Below gr w wr) := HW.out.mono (by have := HGR.out; omega)
      clear H4 H5 HW HX4 HX5 HXB HB
      go_wp2_with fail
      rw [show (((15 : Nat) : Int) + 1) = 16 from rfl]
      go_loopw [29] (fun kv wr => ∃ k : Nat, k ≤ n ∧ kv = .int .i64 k ∧ Hid (Blk wr gr 41 (ofN 288 .u16 (revTo L k))) ∧ Hid (Blk wr (g4 + 1) 44 (ofN 16 .u16 (nextAt L k))) ∧ Hid (Below gr w wr)) (fun kv _ => n - (intOf kv).toNat)
      case atStart => exact ⟨0, Nat.zero_le _, rfl, HBR, HBN, HBW⟩
      case round =>
        obtain ⟨k, hk, rfl, H4, H5, HW⟩ := hrel
        by_cases hlt : k < n
        · obtain ⟨l, hl⟩ : ∃ l, l = L.getD k 0 := ⟨_, rfl⟩
          have HLL : Hid (l = L.getD k 0) := hl
          have hl15 : l ≤ 15 := by rw [hl]; exact HG.out.le k
          have c0 : wr.cell? ⟨g, o + k, none⟩ = some (.int .u8 (l : Nat)) := by
            rw [hl]
            exact (HR.out.below HW.out hg) k hlt
          clear hl
          by_cases h0 : l = 0
          · subst h0
            go_wp2_with fail
            go_roundw
            case rel =>
              refine ⟨k + 1, by omega, by go_num, H4.out.to ?_, H5.out.to ?_, HW⟩
              · intro j _
                unfold revTo
                by_cases e : j = k
                · subst e
                  rw [← HLL.out]
                  simp
                · by_cases e2 : j < k
                  · simp [e2, show j < k + 1 by omega]
                  · simp [e2, show ¬ j < k + 1 by omega]
              · intro j _
                unfold nextAt
                rw [cntTo_succ (by rw [HL.out]; exact hlt), ← HLL.out]
                split
                · rfl
                · rfl
            case measure => simp [intOf]; omega
          · obtain ⟨x, hx⟩ : ∃ x, x = code L k := ⟨_, rfl⟩
            have HXE : Hid (x = code L k) := hx
            have hxl : x < 2 ^ l := by
              rw [hx, HLL.out]
              exact code_lt (by rw [HL.out]; exact hlt) (by rw [← HLL.out]; exact h0) (HG.out.le k) HG.out.room
            have hx15 : x < 32768 := Nat.lt_of_lt_of_le hxl (Nat.pow_le_pow_right (n := 2) (by omega) hl15)
            have HXN : Hid (nextAt L k l = x) := by
              show _ = _
              rw [hx]
              unfold nextAt code
              rw [if_neg h0, rank_eq, ← HLL.out]
            have c1 : wr.cell? ⟨g4 + 1, l, none⟩ = some (.int .u16 (x : Nat)) := by
              rw [← HXN.out]
              exact H5.out.int l (by omega)
            have HXL : Hid (x < 2 ^ l) := hxl
            clear hx hxl
            go_wp2_with fail
            refine (rev_any x _ (by omega)).mono ?_
            rintro e w2 ⟨rfl, hb2⟩
            have c1' := cell_later hb2 c1
            have HB2 : Hid (Below wr.heap.size wr w2) := hb2
            have H4' : Hid (Blk w2 gr 41 (ofN 288 .u16 (revTo L k))) := H4.out.later hb2
            have H5' : Hid (Blk w2 (g4 + 1) 44 (ofN 16 .u16 (nextAt L k))) := H5.out.later hb2
            have HW' : Hid (Below gr w w2) := HW.out.trans (hb2.mono (by have := H4.out.lt; omega))
            have hne : ¬ g4 + 1 = gr := by omega
            have d0 := H4'.out.int k (by omega)
            have d1 := H4'.out.free k
            have d2 := H5'.out.free l
            have HSH : Hid (((rv 16 x : Nat) : Int) / 2 ^ (16 - l) = ((R L k : Nat) : Int)) := by
              show _ = _
              have h1 := rv_shift l x 16 (by omega) HXL.out
              have h2 : R L k = rv l x := by unfold R; rw [← HXE.out, ← HLL.out]
              rw [h2, ← h1]
              simp
            clear hb2 c1 c0 H4 H5 HW
            go_wp2_with fail
            rw [HSH.out]
            clear d0 d1 d2 c1'
            go_roundw
            case rel =>
              refine ⟨k + 1, by omega, by go_num, (H4'.out.put (f' := revTo L (k + 1)) k (R L k) (by omega) ?_).other (by simp only; omega) _, ?_, (HW'.out.setCell (by simp) _).setCell (by simp only; omega) _⟩
              · intro j _
                unfold revTo
                by_cases e : j = k
                · subst e
                  rw [← HLL.out]
                  simp [h0]
                · rw [if_neg e]
                  by_cases e2 : j < k
                  · simp [e2, show j < k + 1 by omega]
                  · simp [e2, show ¬ j < k + 1 by omega]
              · rw [show ((x : Nat) : Int) + 1 = ((x + 1 : Nat) : Int) by omega]
                refine (H5'.out.other (by simp only; omega) _).put l (x + 1) (by omega) ?_
                intro j _
                unfold nextAt
                rw [cntTo_succ (by rw [HL.out]; exact hlt), ← HLL.out]
                by_cases e : j = l
                · subst e
                  have := HXN.out
                  unfold nextAt at this
                  rw [if_neg h0] at this
                  simp [h0]
                  omega
                · simp only [if_neg e]
            case measure => simp [intOf]; omega
        · obtain rfl : k = n := by omega
          go_wp2_with fail
          go_end0
          exact ⟨rfl, HW.out, H4.out⟩
end Go.Proofs.Ybulkdlwq.huff
