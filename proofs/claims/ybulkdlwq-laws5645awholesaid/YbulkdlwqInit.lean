/- LawS5645AWhole: the contract of init. -/
import Derived.Test.YbulkdlwqDec
import Derived.Test.YbulkdlwqCodes
import Derived.Test.YbulkdlwqStep
import Derived.Test.YbulkdlwqMake
import Derived.Test.YbulkdlwqSteps
import Derived.Deep.DeepCutAuto
import Derived.Deep.CutBlock
namespace Go.Proofs.Ybulkdlwq.huff
open Go.RowKit
set_option linter.unusedVariables false

/-- the second-level tables behind the decoder's slice -/
def Sub (w : World) (h : Nat) (sl : Value) (size : Nat) (f : Nat → Nat) : Prop :=
  (size = 0 ∧ sl = .slice none 0 0) ∨ ∃ gs, h < gs ∧ sl = .slice (some ⟨gs, 0, none⟩) size size ∧ Blk w gs 27 (ofN size .u32 f)

/-- a whole array out of its block -/
theorem load_blk {w : World} {b n : Nat} {t e : TypeId} {cs : Array Value} (hb : Blk w b t cs) (hu : Yba.prog.underlying t = some (.array n e)) (hi : (Yba.prog.info? t).map (·.size) = some cs.size) :
    (Instr.loadAt t (.pointer (some ⟨b, 0, none⟩))).run Yba.prog w = .ok (.agg cs) w := by
  simp only [Instr.loadAt, Instr.sureAddr, Sem.run_bind, Sem.run_pure, Result.andThen]
  exact run_loadVar_row _ _ t t cs (0, 0) _ hb hu rfl hi

theorem Sub.other {w : World} {h size : Nat} {sl : Value} {f : Nat → Nat} (hs : Sub w h sl size f) {a : Addr} (ha : a.block ≤ h) (v : Value) : Sub (w.setCell a v) h sl size f := by
  rcases hs with h0 | ⟨gs, h1, h2, h3⟩
  · exact .inl h0
  · exact .inr ⟨gs, h1, h2, h3.other (by omega) v⟩
theorem Sub.to {w : World} {h size : Nat} {sl : Value} {f f' : Nat → Nat} (hs : Sub w h sl size f) (he : ∀ x, f x = f' x) : Sub w h sl size f' := by
  rcases hs with h0 | ⟨gs, h1, h2, h3⟩
  · exact .inl h0
  · exact .inr ⟨gs, h1, h2, h3.to (fun x _ => he x)⟩
theorem Sub.mono {w : World} {h h' size : Nat} {sl : Value} {f : Nat → Nat} (hs : Sub w h sl size f) (hh : h' ≤ h) : Sub w h' sl size f := by
  rcases hs with h0 | ⟨gs, h1, h2, h3⟩
  · exact .inl h0
  · exact .inr ⟨gs, by omega, h2, h3⟩
/-- 'h.sub[:size]' -/
theorem reslice_all {wx : World} {h size : Nat} {sl : Value} {f : Nat → Nat} (hs : Sub wx h sl size f) (hn : size ≤ 65536) (w : World) : (Instr.slice 24 sl .none (some (.int .i64 (size : Nat))) .none).run Yba.prog w = .ok sl w := by
  have u := Yba.underlying24
  have h1 : ∀ (a : Option Addr), (Instr.slice 24 (.slice a size size) .none (some (.int .i64 (size : Nat))) .none).run Yba.prog w = .ok (.slice a size size) w := by
    intro a
    go_simp
  rcases hs with ⟨rfl, rfl⟩ | ⟨gs, _, rfl, _⟩
  · exact h1 none
  · exact h1 _
theorem info27 : (Yba.prog.info? 27).map (fun i => (i.zero, i.size, i.bytes)) = some (some (.int .u32 0), 1, 4) := by kernel_rfl
theorem info_parts27 : ∃ i, Yba.prog.info? 27 = some i ∧ i.zero = some (.int .u32 0) ∧ i.size = 1 ∧ i.bytes = 4 := by
  obtain ⟨i, hi, he⟩ := Option.map_eq_some_iff.1 info27
  simp only [Prod.mk.injEq] at he
  exact ⟨i, hi, he.1, he.2.1, he.2.2⟩

set_option maxRecDepth 100000 in
theorem info41 : (Yba.prog.info? 41).map (fun i => (i.zero, i.size)) = some (some (.agg (ofN 288 .u16 (fun _ => 0))), 288) := by kernel_rfl
set_option maxRecDepth 100000 in
theorem info43 : (Yba.prog.info? 43).map (fun i => (i.zero, i.size)) = some (some (.agg (ofN 1024 .u8 (fun _ => 0))), 1024) := by kernel_rfl

set_option maxRecDepth 100000 in
set_option maxHeartbeats 3200000 in
theorem init_any (h g o n c gv ov cv : Nat) (L V : List Nat) (w : World) (hL : L.length = n) (hn : n ≤ 288) (hG : Good L) (hfull : first L 15 + cnt L 15 = 2 ^ 15 ∨ ∀ s, L.getD s 0 ≤ 1) (hV : Clear V) (hV32 : ∀ s, V.getD s 0 < 4294967296)
    (hR : Rd w g o n .u8 (fun i => L.getD i 0)) (hRV : Rd w gv ov n .u32 (fun i => V.getD i 0)) (hg : g < h) (hgv : gv < h) (hh : h + 1 = w.heap.size) (hD : Dec w h (fun _ => 0) (.slice none 0 0) 0) :
    Calls Yba.prog 4 #[.pointer (some ⟨h, 0, none⟩), .slice (some ⟨g, o, none⟩) n c, .slice (some ⟨gv, ov, none⟩) n cv] w fun e w' => e = .returned (.bool true) ∧ Below h w w' ∧
      ∃ m sl, Dec w' h (prim L V (sbits L n) n) sl m ∧ Sub w' h sl (off (sbits L n) 1024) (second L V (sbits L n) n) := by
  have HL : Hid (L.length = n) := hL
  have HR : Hid (Rd w g o n .u8 (fun i => L.getD i 0)) := hR
  have HRV : Hid (Rd w gv ov n .u32 (fun i => V.getD i 0)) := hRV
  have HG : Hid (Good L) := hG
  have HFU : Hid (first L 15 + cnt L 15 = 2 ^ 15 ∨ ∀ s, L.getD s 0 ≤ 1) := hfull
  have HV : Hid (Clear V) := hV
  have HV32 : Hid (∀ s, V.getD s 0 < 4294967296) := hV32
  have HH : Hid (h + 1 = w.heap.size) := hh
  have HD : Hid (Dec w h (fun _ => 0) (.slice none 0 0) 0) := hD
  clear hL hR hRV hG hfull hV hV32 hh hD
  go_enter Yba.func4, Yba.ntmps4
  go_wp2_with fail
  refine (counts_any g o n c L w HL.out hn HG.out.le HR.out).mono ?_
  rintro e w1 ⟨rfl, hb1⟩
  have HB1 : Hid (Below w.heap.size w w1) := hb1
  have hs1 : h < w1.heap.size := by have := hb1.size; have := HH.out; omega
  have HD1 : Hid (Dec w1 h (fun _ => 0) (.slice none 0 0) 0) := HD.out.later hb1
  clear hb1 HD
  have c0 := HD1.out.max
  have c1 := HD1.out.free 1025
  have hne : ¬ w1.heap.size = h := by omega
  rw [show ofN 16 .i64 (cnt L) = #[.int .i64 (cnt L 0 : Nat), .int .i64 (cnt L 1 : Nat), .int .i64 (cnt L 2 : Nat), .int .i64 (cnt L 3 : Nat), .int .i64 (cnt L 4 : Nat), .int .i64 (cnt L 5 : Nat), .int .i64 (cnt L 6 : Nat), .int .i64 (cnt L 7 : Nat), .int .i64 (cnt L 8 : Nat), .int .i64 (cnt L 9 : Nat), .int .i64 (cnt L 10 : Nat), .int .i64 (cnt L 11 : Nat), .int .i64 (cnt L 12 : Nat), .int .i64 (cnt L 13 : Nat), .int .i64 (cnt L 14 : Nat), .int .i64 (cnt L 15 : Nat)] from rfl]
  go_upto_block 0 with fail
  rw [show (#[.int .i64 (cnt L 0 : Nat), .int .i64 (cnt L 1 : Nat), .int .i64 (cnt L 2 : Nat), .int .i64 (cnt L 3 : Nat), .int .i64 (cnt L 4 : Nat), .int .i64 (cnt L 5 : Nat), .int .i64 (cnt L 6 : Nat), .int .i64 (cnt L 7 : Nat), .int .i64 (cnt L 8 : Nat), .int .i64 (cnt L 9 : Nat), .int .i64 (cnt L 10 : Nat), .int .i64 (cnt L 11 : Nat), .int .i64 (cnt L 12 : Nat), .int .i64 (cnt L 13 : Nat), .int .i64 (cnt L 14 : Nat), .int .i64 (cnt L 15 : Nat)] : Array Value) = ofN 16 .i64 (cnt L) from rfl]
  obtain ⟨gc, hgc⟩ : ∃ gc, gc = w1.heap.size := ⟨_, rfl⟩
  obtain ⟨wx, hwx⟩ : ∃ wx : World, wx = (w1.setCell ⟨h, 1025, none⟩ (.int .u64 0)).alloc (.cells (ofN 16 .i64 (cnt L)) 39) := ⟨_, rfl⟩
  have hsx : wx.heap.size = gc + 1 := by rw [hwx, hgc]; simp
  have HDX : Hid (Dec wx h (fun _ => 0) (.slice none 0 0) 0) := by
    rw [hwx]
    exact (HD1.out.putMax (m' := 0)).later ((Below.refl _ _).alloc (Nat.le_refl _) _)
  have HCX : Hid (Blk wx gc 39 (ofN 16 .i64 (cnt L))) := by
    rw [hwx, hgc, show w1.heap.size = (w1.setCell ⟨h, 1025, none⟩ (.int .u64 0)).heap.size by simp]
    exact Blk.new _ _ 39
  have HBX : Hid (Below h w wx) := by
    rw [hwx]
    exact ((HB1.out.mono (show h ≤ w.heap.size by have := HH.out; omega)).setCell (p := ⟨h, 1025, none⟩) (Nat.le_refl _) _).alloc (by simp; omega) _
  rw [← hwx, ← hgc]
  have hhc : h < gc := by omega
  clear hwx hgc hs1 HD1 HB1 c0 c1 hne
  go_cut [8] (fun s8 wc => Hid (∃ mx, mx ≤ 15 ∧ (mx ≠ 0 → cnt L mx ≠ 0) ∧ Dec wc h (fun _ => 0) (.slice none 0 0) mx ∧ Blk wc gc 39 (ofN 16 .i64 (cnt L)) ∧ Below h w wc ∧ wc.heap.size = gc + 1))
  case first =>
    go_wp2_with fail
    go_loopw [8] (fun lv wr => ∃ l mx : Nat, l ≤ 15 ∧ mx ≤ 15 ∧ lv = .int .i64 l ∧ Hid (mx ≠ 0 → cnt L mx ≠ 0) ∧ Hid (Dec wr h (fun _ => 0) (.slice none 0 0) mx) ∧ Hid (Blk wr gc 39 (ofN 16 .i64 (cnt L))) ∧ Hid (Below h w wr) ∧ Hid (wr.heap.size = gc + 1)) (fun lv _ => (intOf lv).toNat)
    case atStart => exact ⟨15, 0, by omega, by omega, rfl, fun h => absurd rfl h, HDX, HCX, HBX, hsx⟩
    case round =>
      obtain ⟨l, mx, hl, hmx, rfl, HM, HD, HC, HB, HS⟩ := hrel
      have HMET : Hid (∃ mx, mx ≤ 15 ∧ (mx ≠ 0 → cnt L mx ≠ 0) ∧ Dec wr h (fun _ => 0) (.slice none 0 0) mx ∧ Blk wr gc 39 (ofN 16 .i64 (cnt L)) ∧ Below h w wr ∧ wr.heap.size = gc + 1) := ⟨mx, hmx, HM.out, HD.out, HC.out, HB.out, HS.out⟩
      have c0 := HD.out.max
      by_cases hl0 : l = 0
      · subst hl0
        go_wp2_with fail
        go_meet
        exact HMET
      · by_cases hm0 : mx = 0
        · subst hm0
          have c1 := HD.out.free 1025
          have c2 : wr.cell? ⟨gc, l, none⟩ = some (.int .i64 (cnt L l : Nat)) := HC.out.int l (by omega)
          by_cases hcl : cnt L l = 0
          · rw [hcl] at c2
            go_wp2_with fail
            go_roundw
            case rel => exact ⟨l - 1, 0, by omega, by omega, by go_num, HM, HD, HC, HB, HS⟩
            case measure => simp [intOf]; omega
          · go_wp2_with fail
            go_roundw
            case rel => exact ⟨l - 1, l, by omega, by omega, by go_num, fun _ => hcl, HD.out.putMax, HC.out.other (by simp only; omega) _, HB.out.setCell (Nat.le_refl _) _, by show _ = _; simpa using HS.out⟩
            case measure => simp [intOf]; omega
        · go_wp2_with fail
          go_meet
          exact HMET
  case rest =>
    obtain ⟨mx, hmx, hmc, hd, hc, hb, hs⟩ := hcut.out
    have HM : Hid (mx ≠ 0 → cnt L mx ≠ 0) := hmc
    have HD : Hid (Dec wc h (fun _ => 0) (.slice none 0 0) mx) := hd
    have HC : Hid (Blk wc gc 39 (ofN 16 .i64 (cnt L))) := hc
    have HB : Hid (Below h w wc) := hb
    clear hmc hd hc hb hcut HDX HCX HBX hsx
    go_wp2_with fail
    go_loopw [9, 10] (fun rv lv wr => ∃ m rm : Nat, m ≤ 15 ∧ lv = .int .i64 ((m : Int) + 1) ∧ rv = .int .i64 rm ∧ Hid (rm + (first L m + cnt L m) = 2 ^ m) ∧ wr = wc) (fun _ lv _ => 16 - (intOf lv).toNat)
    case atStart => exact ⟨0, 1, by omega, rfl, rfl, rfl, rfl⟩
    case round =>
      obtain ⟨m, rm, hm, rfl, rfl, HRM, rfl⟩ := hrel
      by_cases hlt : m < 15
      · have c0 : wr.cell? ⟨gc, m + 1, none⟩ = some (.int .i64 (cnt L (m + 1) : Nat)) := HC.out.int (m + 1) (by omega)
        have hrm : rm ≤ 32768 := by
          have := HRM.out
          have h2 : 2 ^ m ≤ 2 ^ 15 := Nat.pow_le_pow_right (by omega) (by omega)
          omega
        obtain ⟨r2, hr2⟩ : ∃ r2, r2 + cnt L (m + 1) = rm * 2 := by
          have h1 := room_of HG.out.room (m + 1) (by omega)
          have := HRM.out
          rw [first, Nat.pow_succ] at h1
          exact ⟨rm * 2 - cnt L (m + 1), by omega⟩
        have hr3 : (rm : Int) * 2 - (cnt L (m + 1) : Nat) = (r2 : Nat) := by omega
        have HR2 : Hid (r2 + (first L (m + 1) + cnt L (m + 1)) = 2 ^ (m + 1)) := by
          show _ = _
          have := HRM.out
          rw [first, Nat.pow_succ]
          omega
        clear hr2
        go_wp2_with fail
        go_roundw
        case rel => exact ⟨m + 1, r2, by omega, by go_num, by go_num, HR2, trivial⟩
        case measure => simp [intOf]; omega
      · obtain rfl : m = 15 := by omega
        have hz : rm = 0 ∨ (0 < rm ∧ mx ≤ 1) := by
          rcases HFU.out with hf | hf
          · have := HRM.out
            omega
          · by_cases h0 : rm = 0
            · exact .inl h0
            · refine .inr ⟨by omega, ?_⟩
              by_cases hm0 : mx = 0
              · omega
              · have h1 := HM.out hm0
                rw [cnt_pos hm0] at h1
                obtain ⟨s, _, h2, _⟩ := nth_of_count L mx 0 (by omega)
                have := hf s
                omega
        have hrm : rm ≤ 32768 := by
          have := HRM.out
          have h2 : 2 ^ 15 = 32768 := rfl
          omega
        have cm := HD.out.max
        rw [show (((15 : Nat) : Int) + 1) = 16 from rfl]
        go_upto_region 15 with fail
        go_cut [72] (fun s72 wc2 => s72 = .bool false ∧ wc2 = wr)
        case first =>
          rcases hz with h0 | ⟨h0, h1⟩
          · subst h0
            go_wp2_with fail
            go_meet
            exact ⟨rfl, rfl⟩
          · go_wp2_with fail
            go_meet
            exact ⟨by simp; omega, rfl⟩
        case rest =>
          obtain ⟨rfl, rfl⟩ := hcut
          clear hz cm HRM HM
          have z41 := zero_of_info info41
          have z43 := zero_of_info info43
          go_wp2_with fail
          have HRW : Hid (Rd wc g o n .u8 (fun i => L.getD i 0)) := HR.out.below HB.out hg
          have HBN : Hid (Blk (wc.alloc (.cells (ofN 288 .u16 (fun _ => 0)) 41)) (gc + 1) 41 (ofN 288 .u16 (fun _ => 0))) := by rw [← hs]; exact Blk.new _ _ 41
          have HBA : Hid (Below wc.heap.size wc (wc.alloc (.cells (ofN 288 .u16 (fun _ => 0)) 41))) := (Below.refl _ _).alloc (Nat.le_refl _) _
          have hsz2 : gc + 1 + 1 = (wc.alloc (.cells (ofN 288 .u16 (fun _ => 0)) 41)).heap.size := by rw [← hs]; simp
          obtain ⟨wa, hwa⟩ : ∃ wa : World, wa = wc.alloc (.cells (ofN 288 .u16 (fun _ => 0)) 41) := ⟨_, rfl⟩
          rw [← hwa] at HBN HBA hsz2
          rw [← hwa]
          clear hwa z41
          refine (rev_codes g o n c (gc + 1) L wa HL.out hn HG.out (HRW.out.later HBA.out) (by omega) hsz2 HBN.out).mono ?_
          rintro e w2 ⟨rfl, hb2, hr2⟩
          have HRR : Hid (Blk w2 (gc + 1) 41 (ofN 288 .u16 (revTo L n))) := hr2
          have hb3 : Below h w w2 := (HB.out.trans (HBA.out.mono (by omega))).trans (hb2.mono (by omega))
          have HB2 : Hid (Below h w w2) := hb3
          have HD2 : Hid (Dec w2 h (fun _ => 0) (.slice none 0 0) mx) := Blk.below (HD.out.later HBA.out) hb2 (by omega)
          obtain ⟨gr, hgr⟩ : ∃ gr, gr = gc + 1 := ⟨_, rfl⟩
          rw [← hgr] at HRR
          rw [← hgr]
          have hhr : h < gr := by omega
          have hszr : gr < w2.heap.size := HRR.out.lt
          clear hb2 hr2 hb3 HBA HBN HD HB HC HRW hgr hsz2 hs
          go_wp2_with fail
          have HYB : Hid (Blk (w2.alloc (.cells (ofN 1024 .u8 (fun _ => 0)) 43)) w2.heap.size 43 (ofN 1024 .u8 (sbits L 0))) := (Blk.new _ _ 43).to (fun _ _ => rfl)
          have HYA : Below w2.heap.size w2 (w2.alloc (.cells (ofN 1024 .u8 (fun _ => 0)) 43)) := (Below.refl _ _).alloc (Nat.le_refl _) _
          have HRY : Hid (Blk (w2.alloc (.cells (ofN 1024 .u8 (fun _ => 0)) 43)) gr 41 (ofN 288 .u16 (revTo L n))) := HRR.out.later HYA
          have HDY : Hid (Dec (w2.alloc (.cells (ofN 1024 .u8 (fun _ => 0)) 43)) h (fun _ => 0) (.slice none 0 0) mx) := HD2.out.later HYA
          have HBY : Hid (Below h w (w2.alloc (.cells (ofN 1024 .u8 (fun _ => 0)) 43))) := HB2.out.alloc (by omega) _
          have HSY : Hid ((w2.alloc (.cells (ofN 1024 .u8 (fun _ => 0)) 43)).heap.size = w2.heap.size + 1) := by show _ = _; simp
          obtain ⟨gb, hgb⟩ : ∃ gb, gb = w2.heap.size := ⟨_, rfl⟩
          obtain ⟨wy, hwy⟩ : ∃ wy : World, wy = w2.alloc (.cells (ofN 1024 .u8 (fun _ => 0)) 43) := ⟨_, rfl⟩
          rw [← hwy, ← hgb] at HYB HSY
          rw [← hwy] at HRY HDY HBY
          rw [← hwy, ← hgb]
          rw [← hgb] at hszr
          clear hwy hgb HYA HRR HD2 HB2 z43
          go_loopw [78] (fun kv wr => ∃ k : Nat, k ≤ n ∧ kv = .int .i64 k ∧ Hid (Blk wr gb 43 (ofN 1024 .u8 (sbits L k))) ∧ Hid (Below gb wy wr)) (fun kv _ => n - (intOf kv).toNat)
          case atStart => exact ⟨0, Nat.zero_le _, rfl, HYB, Below.refl _ _⟩
          case round =>
            obtain ⟨k, hk, rfl, HK, HW⟩ := hrel
            by_cases hlt : k < n
            · obtain ⟨l, hl⟩ : ∃ l, l = L.getD k 0 := ⟨_, rfl⟩
              have HLL : Hid (l = L.getD k 0) := hl
              have hl15 : l ≤ 15 := by rw [hl]; exact HG.out.le k
              have c0 : wr.cell? ⟨g, o + k, none⟩ = some (.int .u8 (l : Nat)) := by
                rw [hl]
                exact ((HR.out.below HBY.out hg).below HW.out (by omega)) k hlt
              clear hl
              by_cases h10 : 10 < l
              · obtain ⟨x, hx⟩ : ∃ x, x = R L k := ⟨_, rfl⟩
                have HXE : Hid (x = R L k) := hx
                have hx15 : x < 32768 := by rw [hx]; exact R_lt15 HG.out k
                have c1 : wr.cell? ⟨gr, k, none⟩ = some (.int .u16 (x : Nat)) := by
                  have h1 := (HRY.out.below HW.out (by omega)).int k (by omega)
                  have h2 : revTo L n k = x := by
                    unfold revTo
                    rw [if_pos ⟨hlt, by rw [← HLL.out]; omega⟩, hx]
                  rw [h2] at h1
                  exact h1
                obtain ⟨i, hi⟩ : ∃ i, i = x % 1024 := ⟨_, rfl⟩
                have hi1 : i < 1024 := by omega
                have b1 : bits .and .u16 (x : Int) 1023 = (i : Nat) := by rw [hi, show (1023 : Int) = 2 ^ 10 - 1 by decide]; exact mask_u16 10 (by omega) x (by omega)
                have c2 : wr.cell? ⟨gb, i, none⟩ = some (.int .u8 (sbits L k i : Nat)) := HK.out.int i hi1
                have c3 := HK.out.free i
                have hs5 := sbits_le HG.out.le i k
                have HI : Hid (i = x % 1024) := hi
                clear hi hx
                go_wp2_with fail
                have e1 : (if ((sbits L k i : Nat) : Int) < (l : Int) - 10 then (l : Int) - 10 else ((sbits L k i : Nat) : Int)) = ((max (sbits L k i) (l - 10) : Nat) : Int) := by
                  split <;> omega
                go_roundw
                case rel =>
                  rw [e1]
                  refine ⟨k + 1, by omega, by go_num, HK.out.put i _ hi1 ?_, HW.out.setCell (Nat.le_refl _) _⟩
                  intro j _
                  rw [sbits, ← HLL.out, ← HXE.out]
                  by_cases e : j = i
                  · rw [if_pos e, if_pos ⟨h10, by rw [e, HI.out]⟩, e]
                  · rw [if_neg e, if_neg]
                    rintro ⟨_, h2⟩
                    exact e (by rw [HI.out, h2])
                case measure => simp [intOf]; omega
              · go_wp2_with fail
                go_roundw
                case rel =>
                  refine ⟨k + 1, by omega, by go_num, HK.out.to ?_, HW⟩
                  intro j _
                  rw [sbits, if_neg]
                  rw [← HLL.out]
                  exact fun h => h10 h.1
                case measure => simp [intOf]; omega
            · obtain rfl : k = n := by omega
              have hld : (Instr.loadAt 43 (.pointer (some ⟨gb, 0, none⟩))).run Yba.prog wr = .ok (.agg (ofN 1024 .u8 (sbits L k))) wr := load_blk HK.out Yba.underlying43 (by rw [ofN_size]; exact (zero_of_info info43).2)
              obtain ⟨cb, hcb⟩ : ∃ cb, cb = ofN 1024 .u8 (sbits L k) := ⟨_, rfl⟩
              rw [← hcb] at hld
              have HCB : Hid (cb = ofN 1024 .u8 (sbits L k)) := hcb
              clear hcb
              go_wp2_with fail
              refine wp_load 43 (.tmp 12) rfl _ (.agg cb) rfl hld ?_
              have HR4 : Hid (Blk wr gr 41 (ofN 288 .u16 (revTo L k))) := HRY.out.below HW.out (by omega)
              have HD4 : Hid (Dec wr h (fun j => if j < 0 then base (sbits L k) j else 0) (.slice none 0 0) mx) := Dec.to (f := fun _ => 0) (Blk.below HDY.out HW.out (by omega)) (fun j _ => by simp)
              have HB4 : Hid (Below h w wr) := HBY.out.trans (HW.out.mono (by omega))
              have hgb4 : gb < wr.heap.size := HK.out.lt
              obtain ⟨sb, hsb⟩ : ∃ sb, sb = sbits L k := ⟨_, rfl⟩
              have HSB : Hid (sb = sbits L k) := hsb
              rw [← hsb] at HCB HD4
              have HS5 : Hid (∀ i, sb i ≤ 5) := fun i => by rw [hsb]; exact sbits_le HG.out.le i k
              clear hld HW HK HYB HRY HDY HBY HSY hsb
              go_wp2_with fail
              go_loopw [16, 99] (fun sv iv wr => ∃ i : Nat, i ≤ 1024 ∧ iv = .int .i64 i ∧ sv = .int .i64 (off sb i : Nat) ∧ Hid (Blk wr gr 41 (ofN 288 .u16 (revTo L k))) ∧ Hid (Dec wr h (fun j => if j < i then base sb j else 0) (.slice none 0 0) mx) ∧ Hid (Below h w wr) ∧ gr < wr.heap.size) (fun _ iv _ => 1024 - (intOf iv).toNat)
              case atStart => exact ⟨0, by omega, rfl, rfl, HR4, HD4, HB4, by omega⟩
              case round =>
                obtain ⟨i, hi, rfl, rfl, HR5, HD5, HB5, hgr5⟩ := hrel
                by_cases hlt2 : i < 1024
                · have hix := index43 cb i (sb i) hlt2 (by rw [HCB.out]; exact ofN_get _ _ _ _ hlt2)
                  have c0 := HD5.out.prim i hlt2
                  have c1 := HD5.out.free i
                  have hs5 : sb i ≤ 5 := HS5.out i
                  have ho := off_le HS5.out i
                  have hnr : gr ≠ h := by omega
                  by_cases h0 : sb i = 0
                  · rw [h0] at hix
                    have HO : Hid (off sb (i + 1) = off sb i) := by show _ = _; rw [off, tsize, if_pos h0]; rfl
                    go_wp2_with fail
                    go_roundw
                    case rel =>
                      refine ⟨i + 1, by omega, by go_num, by rw [HO.out], HR5.out.other hnr _, HD5.out.putPrim i 2048 hlt2 ?_, HB5.out.setCell (Nat.le_refl _) _, by simpa using hgr5⟩
                      intro j _
                      by_cases e : j = i
                      · subst e
                        simp [base, h0]
                      · rw [if_neg e]
                        by_cases e2 : j < i
                        · rw [if_pos e2, if_pos (by omega)]
                        · rw [if_neg e2, if_neg (by omega)]
                    case measure => simp [intOf]; omega
                  · have h0' : ¬ ((sb i : Nat) : Int) = 0 := by omega
                    have HO : Hid (wrap64 (((off sb i : Nat) : Int) + wrap64 (2 ^ sb i)) = ((off sb (i + 1) : Nat) : Int)) := by
                      show _ = _
                      have hp : 2 ^ sb i ≤ 32 := Nat.pow_le_pow_right (show 2 > 0 by omega) hs5
                      rw [off, tsize, if_neg h0, pow_cast]
                      exact wrap_sum _ _ (by omega) (by omega)
                    have HJ : Hid (bits .or .u32 (bits .or .u32 (((off sb i : Nat) : Int) * 65536) 1024) ((sb i : Nat) : Int) = ((base sb i : Nat) : Int)) := by
                      show _ = _
                      have e1 : ((off sb i : Nat) : Int) * 65536 = ((off sb i * 65536 : Nat) : Int) := by omega
                      have e2 : (1024 : Int) = ((1024 : Nat) : Int) := rfl
                      rw [e1, e2, join_u32 16 (off sb i * 65536) 1024 (by omega) (by omega) (by omega) (by omega), join_u32 4 (off sb i * 65536 + 1024) (sb i) (by omega) (by omega) (by omega) (by omega)]
                      unfold base
                      rw [if_neg h0]
                    go_wp2_with fail
                    rw [HO.out, HJ.out]
                    go_roundw
                    case rel =>
                      refine ⟨i + 1, by omega, by go_num, rfl, (HR5.out.other hnr _).other hnr _, (HD5.out.putPrim (f' := fun j => if j = i then 2048 else if j < i then base sb j else 0) i 2048 hlt2 (fun _ _ => rfl)).putPrim i (base sb i) hlt2 ?_, (HB5.out.setCell (Nat.le_refl _) _).setCell (Nat.le_refl _) _, by simpa using hgr5⟩
                      intro j _
                      by_cases e : j = i
                      · subst e
                        simp
                      · rw [if_neg e, if_neg e]
                        by_cases e2 : j < i
                        · rw [if_pos e2, if_pos (by omega)]
                        · rw [if_neg e2, if_neg (by omega)]
                    case measure => simp [intOf]; omega
                · obtain rfl : i = 1024 := by omega
                  have HD6 : Hid (Dec wr h (base sb) (.slice none 0 0) mx) := HD5.out.to (fun j hj => by simp [hj])
                  have cs := HD6.out.sub
                  go_upto_if 133 with fail
                  obtain ⟨sz, hsz⟩ : ∃ sz, sz = off sb 1024 := ⟨_, rfl⟩
                  have hsz2 : sz ≤ 32768 := by have := off_le HS5.out 1024; omega
                  have HSZ : Hid (sz = off sb 1024) := hsz
                  rw [← hsz]
                  clear hsz cs
                  go_cut [] (fun wx => Hid (∃ sl, Dec wx h (base sb) sl mx ∧ Sub wx gr sl sz (second L V sb 0) ∧ Blk wx gr 41 (ofN 288 .u16 (revTo L k)) ∧ Below h w wx ∧ gr < wx.heap.size))
                  case first =>
                    by_cases h0 : sz = 0
                    · subst h0
                      go_wp2_with fail
                      go_meet
                      exact ⟨.slice none 0 0, HD6.out, .inl ⟨rfl, rfl⟩, HR5.out, HB5.out, hgr5⟩
                    · have hp0 : 0 < sz := by omega
                      obtain ⟨i27, hi27, hz27, hs27, hb27⟩ := info_parts27
                      have hf := HD6.out.free 1024
                      have HSUB := HD6.out.sub
                      go_wp2_with (at_make; refine wpList_make_full _ rfl _ _ 24 rfl wr.heap.size 27 i27 _ 1 Yba.underlying24 hi27 hz27 hs27 _ _ _ _ sz rfl rfl rfl rfl ?b2 ?b3 (Nat.le_refl _) ?_)
                      case b2 => rw [hb27]; omega
                      case b3 => unfold maxLen; omega
                      intro w3 hown hgrow
                      rw [made_ints] at hown
                      have HS3 : Hid (Blk w3 wr.heap.size 27 (ofN sz .u32 (fun _ => 0))) := Blk.of_full (ofN_size _ _ _) hown
                      have hb3 : Below wr.heap.size wr w3 := (Below.refl _ _).grown hgrow (Nat.le_refl _) (fun k h => by cases h)
                      have HD7 : Hid (Dec w3 h (base sb) (.slice none 0 0) mx) := HD6.out.later hb3
                      have HR7 : Hid (Blk w3 gr 41 (ofN 288 .u16 (revTo L k))) := HR5.out.later hb3
                      have HB7 : Hid (Below h w w3) := HB5.out.trans (hb3.mono (by omega))
                      have hsz3 : wr.heap.size < w3.heap.size := HS3.out.lt
                      have c7 := HD7.out.sub
                      have f7 := HD7.out.free 1024
                      clear hown hgrow hb3 hf HSUB hi27 hz27 hs27 hb27
                      go_wp2_with fail
                      go_meet
                      exact ⟨_, HD7.out.putSub, .inr ⟨wr.heap.size, hgr5, rfl, (HS3.out.other (by simp only; omega) _).to (fun _ _ => rfl)⟩, HR7.out.other (by simp only; omega) _, HB7.out.setCell (Nat.le_refl _) _, by simp; omega⟩
                  case rest =>
                    obtain ⟨sl, hd8, hs8, hr8, hb8, hg8⟩ := hcut.out
                    obtain ⟨sa, rfl⟩ : ∃ sa, sl = .slice sa sz sz := by
                      rcases hs8 with ⟨h0, h1⟩ | ⟨gs, _, h1, _⟩
                      · exact ⟨_, by rw [h1, h0]⟩
                      · exact ⟨_, h1⟩
                    have HD8 : Hid (Dec wc h (base sb) (.slice sa sz sz) mx) := hd8
                    have HS8 : Hid (Sub wc gr (.slice sa sz sz) sz (second L V sb 0)) := hs8
                    have HR8 : Hid (Blk wc gr 41 (ofN 288 .u16 (revTo L k))) := hr8
                    have HB8 : Hid (Below h w wc) := hb8
                    have hsl : ∀ w, (Instr.slice 24 (.slice sa sz sz) .none (some (.int .i64 (sz : Nat))) .none).run Yba.prog w = .ok (.slice sa sz sz) w := fun w => reslice_all hs8 (by omega) w
                    have c8 := hd8.sub
                    have f8 := hd8.free 1024
                    clear hd8 hs8 hr8 hb8 hcut HD6 HR5 HD5 HB5 HR4 HD4 HB4 hgb4
                    go_wp2_with fail
                    have HD9 : Hid (Dec (wc.setCell ⟨h, 1024, none⟩ (.slice sa sz sz)) h (prim L V sb 0) (.slice sa sz sz) mx) := HD8.out.putSub
                    have HS9 : Hid (Sub (wc.setCell ⟨h, 1024, none⟩ (.slice sa sz sz)) gr (.slice sa sz sz) sz (second L V sb 0)) := HS8.out.other (by simp only; omega) _
                    have HR9 : Hid (Blk (wc.setCell ⟨h, 1024, none⟩ (.slice sa sz sz)) gr 41 (ofN 288 .u16 (revTo L k))) := HR8.out.other (by simp only; omega) _
                    have HB9 : Hid (Below h w (wc.setCell ⟨h, 1024, none⟩ (.slice sa sz sz))) := HB8.out.setCell (Nat.le_refl _) _
                    have hg9 : gr < (wc.setCell ⟨h, 1024, none⟩ (.slice sa sz sz)).heap.size := by simpa using hg8
                    obtain ⟨wd, hwd⟩ : ∃ wd : World, wd = wc.setCell ⟨h, 1024, none⟩ (.slice sa sz sz) := ⟨_, rfl⟩
                    rw [← hwd] at HD9 HS9 HR9 HB9 hg9
                    rw [← hwd]
                    clear hwd HD8 HS8 HR8 HB8 hg8 hsl c8 f8
                    go_loopw [150] (fun sv wr => ∃ s : Nat, s ≤ k ∧ sv = .int .i64 s ∧ Hid (Dec wr h (prim L V sb s) (.slice sa sz sz) mx) ∧ Hid (Sub wr gr (.slice sa sz sz) sz (second L V sb s)) ∧ Hid (Blk wr gr 41 (ofN 288 .u16 (revTo L k))) ∧ Hid (Below h w wr) ∧ gr < wr.heap.size) (fun sv _ => k - (intOf sv).toNat)
                    case atStart => exact ⟨0, Nat.zero_le _, rfl, HD9, HS9, HR9, HB9, hg9⟩
                    case round =>
                      obtain ⟨s, hs, rfl, HD, HS, HRR, HB, hgw⟩ := hrel
                      clear HD9 HS9 HR9 HB9 hg9
                      by_cases hlt3 : s < k
                      · obtain ⟨l, hl⟩ : ∃ l, l = L.getD s 0 := ⟨_, rfl⟩
                        have HLL : Hid (l = L.getD s 0) := hl
                        have hl15 : l ≤ 15 := by rw [hl]; exact HG.out.le s
                        have c0 : wr.cell? ⟨g, o + s, none⟩ = some (.int .u8 (l : Nat)) := by
                          rw [hl]
                          exact (HR.out.below HB.out hg) s hlt3
                        clear hl
                        by_cases h0 : l = 0
                        · subst h0
                          go_wp2_with fail
                          go_roundw
                          case rel => exact ⟨s + 1, by omega, by go_num, HD.out.to (fun j _ => (prim_same (.inl HLL.out.symm) j).symm), HS.out.to (fun x => (second_same (by rw [← HLL.out]; omega) x).symm), HRR, HB, hgw⟩
                          case measure => simp [intOf]; omega
                        · obtain ⟨v, hv⟩ : ∃ v, v = V.getD s 0 := ⟨_, rfl⟩
                          have cV : wr.cell? ⟨gv, ov + s, none⟩ = some (.int .u32 (v : Nat)) := by
                            rw [hv]
                            exact (HRV.out.below HB.out hgv) s hlt3
                          have hv32 : v < 4294967296 := by rw [hv]; exact HV32.out s
                          have hvc : v % 16 = 0 := by rw [hv]; exact (HV.out s).1
                          obtain ⟨y, hy⟩ : ∃ y, y = leaf L V s := ⟨_, rfl⟩
                          have HY : Hid (y = leaf L V s) := hy
                          have jy : bits .or .u32 (v : Int) (l : Int) = (y : Nat) := by
                            rw [join_u32 4 v l hvc (by omega) hv32 (by omega), hy, leaf, ← hv, ← HLL.out]
                          obtain ⟨r, hr⟩ : ∃ r, r = R L s := ⟨_, rfl⟩
                          have HRE : Hid (r = R L s) := hr
                          have hr15 : r < 32768 := by rw [hr]; exact R_lt15 HG.out s
                          have hrl : r < 2 ^ l := by rw [hr, HLL.out]; exact R_lt L s
                          have HRL : Hid (r < 2 ^ l) := hrl
                          have cR : wr.cell? ⟨gr, s, none⟩ = some (.int .u16 (r : Nat)) := by
                            have h1 := HRR.out.int s (by omega)
                            have h2 : revTo L k s = r := by
                              unfold revTo
                              rw [if_pos ⟨hlt3, by rw [← HLL.out]; exact h0⟩, hr]
                            rw [h2] at h1
                            exact h1
                          have wl := wr_u32 l (by omega)
                          have wrr := wr_u32 r (by omega)
                          clear hv hy hr hrl hvc
                          by_cases h10 : l ≤ 10
                          · obtain ⟨d, hd⟩ : ∃ d, d = 2 ^ l := ⟨_, rfl⟩
                            have hpw : (2 : Int) ^ l = (d : Nat) := by rw [hd]; simp
                            have hd1 : d ≤ 1024 := by rw [hd]; exact Nat.pow_le_pow_right (show 2 > 0 by omega) h10
                            have hd0 : 0 < d := by rw [hd]; exact Nat.two_pow_pos l
                            have HDD : Hid (d = 2 ^ l) := hd
                            have hrd : r < d := by rw [hd]; exact HRL.out
                            clear hd
                            go_wp2_with fail
                            obtain ⟨wo, rfl⟩ : ∃ wo : World, wo = wr := ⟨_, rfl⟩
                            go_loopw [23] (fun iv wr => ∃ i : Nat, i < 2048 ∧ iv = .int .u32 i ∧ Hid (i % d = r) ∧ Hid (Dec wr h (part1 d r y i (prim L V sb s)) (.slice sa sz sz) mx) ∧ Hid (Sub wr gr (.slice sa sz sz) sz (second L V sb s)) ∧ Hid (Blk wr gr 41 (ofN 288 .u16 (revTo L k))) ∧ Hid (Below h w wr) ∧ gr < wr.heap.size) (fun iv _ => 2048 - (intOf iv).toNat)
                            case atStart => exact ⟨r, by omega, rfl, Nat.mod_eq_of_lt hrd, HD.out.to (fun j _ => (part1_start hrd j).symm), HS, HRR, HB, hgw⟩
                            case round =>
                              obtain ⟨i, hi, rfl, HI, HD2, HS2, HR2, HB2, hg2⟩ := hrel
                              clear HD HS HRR HB hgw c0 cV cR
                              by_cases hlt4 : i < 1024
                              · have c1 := HD2.out.prim i hlt4
                                have f1 := HD2.out.free i
                                go_wp2_with fail
                                go_roundw
                                case rel => exact ⟨i + d, by omega, by go_num, by show _ = _; rw [Nat.add_mod_right]; exact HI.out, HD2.out.putPrim i y hlt4 (fun j _ => part1_step hd0 HI.out j), HS2.out.other (by simp only; omega) _, HR2.out.other (by simp only; omega) _, HB2.out.setCell (Nat.le_refl _) _, by simpa using hg2⟩
                                case measure => simp [intOf]; omega
                              · go_wp2_with fail
                                go_roundw
                                case rel =>
                                  refine ⟨s + 1, by omega, by go_num, HD2.out.to (fun j hj => ?_), HS2.out.to (fun x => (second_same (by rw [← HLL.out]; exact h10) x).symm), HR2, HB2, hg2⟩
                                  rw [HY.out, HRE.out, HDD.out, HLL.out]
                                  exact part1_prim (by rw [← HLL.out]; exact h0) (by rw [← HLL.out]; exact h10) (by omega) j hj
                                case measure => simp [intOf]; omega
                          · have h11 : 10 < L.getD s 0 := by rw [← HLL.out]; omega
                            have hsl : s < L.length := by rw [HL.out]; exact hlt3
                            obtain ⟨p, hp⟩ : ∃ p, p = r % 1024 := ⟨_, rfl⟩
                            have hp1 : p < 1024 := by omega
                            have HPE : Hid (p = R L s % 1024) := by show _ = _; rw [hp, HRE.out]
                            obtain ⟨q, hq⟩ : ∃ q, q = sb p := ⟨_, rfl⟩
                            have hq5 : q ≤ 5 := by rw [hq]; exact HS5.out p
                            have hql : l - 10 ≤ q := by rw [hq, HSB.out, HPE.out, HLL.out]; exact sbits_ge h11 k hlt3
                            obtain ⟨ox, hox⟩ : ∃ ox, ox = off sb p := ⟨_, rfl⟩
                            obtain ⟨t, ht⟩ : ∃ t, t = 2 ^ q := ⟨_, rfl⟩
                            have hts : tsize (sb p) = t := by rw [ht, ← hq]; unfold tsize; rw [if_neg (by omega)]
                            have HTS : Hid (tsize (sb p) = t) := hts
                            have hin : ox + t ≤ sz := by rw [hox, ← hts, HSZ.out]; exact off_in sb hp1
                            have ht0 : 0 < t := by rw [ht]; exact Nat.two_pow_pos q
                            have ht32 : t ≤ 32 := by rw [ht]; exact Nat.pow_le_pow_right (show 2 > 0 by omega) hq5
                            have hpwt : (2 : Int) ^ q = (t : Nat) := by rw [ht]; simp
                            obtain ⟨e, he⟩ : ∃ e, e = ox * 65536 + 1024 + q := ⟨_, rfl⟩
                            have HE : Hid (prim L V sb s p = e) := by
                              show _ = _
                              rw [HPE.out, prim_link HG.out hsl h11 (by omega), ← HPE.out, base, if_neg (by omega), ← hox, ← hq, he]
                            have he32 : e < 4294967296 := by omega
                            have ce : wr.cell? ⟨h, p, none⟩ = some (.int .u32 (e : Nat)) := by rw [← HE.out]; exact HD.out.prim p hp1
                            have cs := HD.out.sub
                            have b1 : bits .and .u32 (r : Int) 1023 = (p : Nat) := by rw [show (1023 : Int) = 2 ^ 10 - 1 by decide, mask_u32 10 (by omega) r (by omega), hp]
                            have b2 : bits .and .u32 (e : Int) 15 = (q : Nat) := by rw [show (15 : Int) = 2 ^ 4 - 1 by decide, mask_u32 4 (by omega) e he32, show (2 : Nat) ^ 4 = 16 from rfl, he, link_mod hq5]
                            have b3 : (e : Int) / 65536 = (ox : Nat) := by omega
                            have b4 : (r : Int) / 1024 = ((r / 1024 : Nat) : Int) := by omega
                            obtain ⟨rq, hrq⟩ : ∃ rq, rq = r / 1024 := ⟨_, rfl⟩
                            rw [← hrq] at b4
                            obtain ⟨d, hd⟩ : ∃ d, d = 2 ^ (l - 10) := ⟨_, rfl⟩
                            have hpw : (2 : Int) ^ (l - 10) = (d : Nat) := by rw [hd]; simp
                            have hd1 : d ≤ 32 := by rw [hd]; exact Nat.pow_le_pow_right (show 2 > 0 by omega) (show l - 10 ≤ 5 by omega)
                            have hd0 : 0 < d := by rw [hd]; exact Nat.two_pow_pos _
                            have HDD : Hid (d = 2 ^ (l - 10)) := hd
                            have hrd : rq < d := by
                              rw [hrq, hd]
                              have h1 := HRL.out
                              rw [show l = (l - 10) + 10 by omega, Nat.pow_add] at h1
                              exact Nat.div_lt_of_lt_mul (by rw [Nat.mul_comm]; exact h1)
                            have HRQ : Hid (rq = R L s / 1024) := by show _ = _; rw [hrq, HRE.out]
                            have hdt : d ≤ t := by rw [hd, ht]; exact Nat.pow_le_pow_right (show 2 > 0 by omega) hql
                            have HOX : Hid (ox = off sb p) := hox
                            obtain ⟨gs, hgs, hsa, hbs⟩ : ∃ gs, gr < gs ∧ sa = some ⟨gs, 0, none⟩ ∧ Blk wr gs 27 (ofN sz .u32 (second L V sb s)) := by
                              rcases HS.out with ⟨h1, _⟩ | ⟨gs, h1, h2, h3⟩
                              · omega
                              · exact ⟨gs, h1, by simpa using h2, h3⟩
                            have HBS : Hid (Blk wr gs 27 (ofN sz .u32 (second L V sb s))) := hbs
                            have hsz32 : sz ≤ 32768 := hsz2
                            clear hp hq hox ht hts he hrq hd hbs h11
                            subst hsa
                            go_wp2_with fail
                            rw [Nat.add_sub_cancel_left]
                            have wt := wr_u32 t (by omega)
                            obtain ⟨wo, rfl⟩ : ∃ wo : World, wo = wr := ⟨_, rfl⟩
                            go_loopw [26] (fun iv wr => ∃ i : Nat, i < 64 ∧ iv = .int .u32 i ∧ Hid (i % d = rq) ∧ Hid (Dec wr h (prim L V sb s) (.slice (some ⟨gs, 0, none⟩) sz sz) mx) ∧ Hid (Blk wr gs 27 (ofN sz .u32 (part2 ox t d rq y i (second L V sb s)))) ∧ Hid (Blk wr gr 41 (ofN 288 .u16 (revTo L k))) ∧ Hid (Below h w wr) ∧ gr < wr.heap.size) (fun iv _ => 64 - (intOf iv).toNat)
                            case atStart => exact ⟨rq, by omega, rfl, Nat.mod_eq_of_lt hrd, HD, HBS.out.to (fun j _ => (part2_start hrd j).symm), HRR, HB, hgw⟩
                            case round =>
                              obtain ⟨i, hi, rfl, HI, HD2, HS2, HR2, HB2, hg2⟩ := hrel
                              clear HD HS HBS HRR HB hgw c0 cV cR ce cs
                              by_cases hlt4 : i < t
                              · have c1 : wr.cell? ⟨gs, ox + i, none⟩ = some (.int .u32 (part2 ox t d rq y i (second L V sb s) (ox + i) : Nat)) := HS2.out.int (ox + i) (by omega)
                                have f1 := HS2.out.free (ox + i)
                                go_wp2_with fail
                                go_roundw
                                case rel => exact ⟨i + d, by omega, by go_num, by show _ = _; rw [Nat.add_mod_right]; exact HI.out, HD2.out.other (by simp only; omega) _, HS2.out.put (ox + i) y (by omega) (fun j _ => part2_step hd0 HI.out hlt4 j), HR2.out.other (by simp only; omega) _, HB2.out.setCell (by simp only; omega) _, by simpa using hg2⟩
                                case measure => simp [intOf]; omega
                              · go_wp2_with fail
                                go_roundw
                                case rel =>
                                  refine ⟨s + 1, by omega, by go_num, HD2.out.to (fun j _ => (prim_same (.inr (by rw [← HLL.out]; omega)) j).symm), .inr ⟨gs, hgs, rfl, HS2.out.to (fun x _ => ?_)⟩, HR2, HB2, hg2⟩
                                  have e1 := part2_second (L := L) (V := V) (sb := sb) (s := s) (i := i) (by rw [← HLL.out]; omega) (by rw [← HPE.out, HTS.out]; omega) x
                                  rw [← HPE.out, HTS.out, ← HOX.out, ← HLL.out, ← HDD.out, ← HRQ.out, ← HY.out] at e1
                                  exact e1
                                case measure => simp [intOf]; omega
                      · obtain rfl : s = k := by omega
                        go_wp2_with fail
                        go_ret
                        exact ⟨rfl, HB.out, mx, .slice sa sz sz, by rw [← HSB.out]; exact HD.out, by rw [← HSB.out, ← HSZ.out]; exact HS.out.mono (by omega)⟩
end Go.Proofs.Ybulkdlwq.huff
