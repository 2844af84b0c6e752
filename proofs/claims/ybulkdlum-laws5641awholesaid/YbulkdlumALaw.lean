/- LawS5641AWhole: the law's walk. -/
import Derived.Test.YbulkdlumAFill
import Derived.Test.YbulkdlumATxn
import Derived.Test.YbulkdlumAIndex
import Derived.LaidEql
import Derived.Shelf.SlicesE.Kit
import Derived.Deep.RegionWith
import Derived.Test.YbulkdlumAPairs
namespace Go.Proofs.Ybulkdlum.lawA
open Go.RowKit Go.Maps
set_option linter.unusedVariables false

def encO (x : Mop) : List Value := [.int .u8 x.k, .bool x.r, .int .i64 x.e]
def encU (u : Nat × Nat) : List Value := [.int .u8 u.1, .int .u8 u.2]
/-- the law's own reckoning of a micro-operation and of a transaction -/
def mopOf (nk : Nat) (x : Mop) : Mop := ⟨x.k % (nk : Int), x.r, x.e⟩
def txOf (n : Nat) (u : Nat × Nat) : Nat × Nat := (u.1 % (n + 1), u.1 % (n + 1) + u.2 % (n + 1 - u.1 % (n + 1)))

theorem tx_cast (n : Nat) (u v : Nat) : ((txOf n (u, v)).1 : Int) = (u : Int) % ((n : Int) + 1) ∧ ((txOf n (u, v)).2 : Int) = (u : Int) % ((n : Int) + 1) + (v : Int) % ((n : Int) + 1 - (u : Int) % ((n : Int) + 1)) := by
  have h1 : ((u % (n + 1) : Nat) : Int) = (u : Int) % ((n : Int) + 1) := by simp
  have hlt : u % (n + 1) < n + 1 := Nat.mod_lt _ (by omega)
  refine ⟨h1, ?_⟩
  show ((u % (n + 1) + v % (n + 1 - u % (n + 1)) : Nat) : Int) = _
  rw [← h1]
  have h2 : ((n + 1 - u % (n + 1) : Nat) : Int) = (n : Int) + 1 - ((u % (n + 1) : Nat) : Int) := by omega
  rw [← h2]
  simp
theorem tx_ok (n : Nat) (u : Nat × Nat) : (txOf n u).1 ≤ (txOf n u).2 ∧ (txOf n u).2 ≤ n := by
  have h1 : u.1 % (n + 1) < n + 1 := Nat.mod_lt _ (by omega)
  have h2 : u.2 % (n + 1 - u.1 % (n + 1)) < n + 1 - u.1 % (n + 1) := Nat.mod_lt _ (by omega)
  unfold txOf
  simp only
  omega

theorem eq_ptr (d : Nat) (a : Addr) (w : World) : (Op.equalIn (d + 1) 40 (.pointer (some a)) (.pointer (some a))).run Yba.prog w = .ok true w := by
  have hte : (Yba.prog.info? 43).map (fun i => i.size) = some 7 := by kernel_rfl
  obtain ⟨i, hi, _⟩ := Option.map_eq_some_iff.1 hte
  simp [Op.equalIn, run_underlying Yba.underlying40, typeInfo, sizeOf, run_sameAddr_same, hi]
theorem neq_ptr (a : Addr) (w : World) : (binOp .neq 40 (.pointer (some a)) (.pointer (some a))).run Yba.prog w = .ok (.bool false) w := by
  simp only [binOp]
  have h : (Op.equal 40 (.pointer (some a)) (.pointer (some a))).run Yba.prog w = .ok true w := eq_ptr 9999 a w
  simp [h]

theorem info48 : (Yba.prog.info? 48).map (fun i => (i.zero, i.size, i.bytes)) = some (some (.agg #[.int .i64 0, .int .i64 0]), 2, 16) := by kernel_rfl

/-- every pair is a key that the map can hold -/
theorem pairs_wf {ops : List Mop} {txs : List (Nat × Nat)} {nk : Nat} {t : Nat} (hnk : nk ≤ 8) (how : ∀ x ∈ ops, 0 ≤ x.k ∧ x.k < (nk : Int) ∧ (Lit.int .i64 x.e).wf = true) {p : KE} (hp : p ∈ pairsTo (seg ops txs) t) : WF p := by
  obtain ⟨q, hq, hh⟩ := (look_some (seg ops txs) p t).1 ((pairs_mem _ p t).1 hp)
  obtain ⟨m, hm, hit⟩ := List.any_eq_true.1 hh
  have hmo : m ∈ ops := List.mem_of_mem_drop (List.mem_of_mem_take hm)
  have h := how m hmo
  simp only [lawA.hit, Bool.and_eq_true, beq_iff_eq] at hit
  unfold WF
  rw [← hit.2.1, ← hit.2.2]
  exact ⟨WalkArith.wf_i64 (by omega), h.2.2⟩

theorem neqE (t a : Int) (l : Bool) (w : World) : (binOp .neq 51 (.agg #[.int .i64 t, .int .i64 a, .bool l]) (.agg #[.int .i64 t, .int .i64 a, .bool l])).run Yba.prog w = .ok (.bool false) w := by
  have hS : Yba.prog.underlying 51 = some (.struct (Yba.prog.fieldsOf 51)) := by kernel_rfl
  have hp : Yba.prog.stoodInHeld 51 = false := by kernel_rfl
  have u3 := Yba.underlying3
  have u4 := Yba.underlying4
  rw [run_neq_struct, show (10000 : Nat) = 9999 + 1 from rfl, run_equalIn_agg w 9999 51 _ _ hS hp]
  simp only [Program.fieldsOf, Yba.underlying51]
  go_simp
theorem guardE (op : BinOp) (x y : Operand) (t a : Int) (l : Bool) (w : World) : (eqGuard op 51 x y (.agg #[.int .i64 t, .int .i64 a, .bool l]) (.agg #[.int .i64 t, .int .i64 a, .bool l])).run Yba.prog w = .ok () w :=
  GuardAt.agg (P := Yba.prog) (T := 51) (fun x : Int × Int × Bool => #[.int .i64 x.1, .int .i64 x.2.1, .bool x.2.2]) (by kernel_rfl) op x y (t, a, l) (t, a, l) w

/-- the three rows, their copies, and the History -/
structure Data (w : World) (gk gm gt gh g5 g6 g7 k j t : Nat) (ops : List Mop) (txs : List (Nat × Nat)) : Prop where
  tk : Tab w gk 0 3 encL (List.range k)
  tm : Tab w gm 0 6 encM ops
  tt : Tab w gt 0 4 encT txs
  t5 : Tab w g5 0 3 encL (List.range k)
  t6 : Tab w g6 0 6 encM ops
  t7 : Tab w g7 0 4 encT txs
  h0 : w.cell? ⟨gh, 0, none⟩ = some (.slice (some ⟨gt, 0, none⟩) t t)
  h1 : w.cell? ⟨gh, 1, none⟩ = some (.slice (some ⟨gk, 0, none⟩) k k)
  h2 : w.cell? ⟨gh, 2, none⟩ = some (.slice (some ⟨gm, 0, none⟩) j j)
theorem Data.later {w w' : World} {gk gm gt gh g5 g6 g7 k j t : Nat} {ops : List Mop} {txs : List (Nat × Nat)} (h : Data w gk gm gt gh g5 g6 g7 k j t ops txs) (hb : Below w.heap.size w w') : Data w' gk gm gt gh g5 g6 g7 k j t ops txs :=
  ⟨h.tk.later hb, h.tm.later hb, h.tt.later hb, h.t5.later hb, h.t6.later hb, h.t7.later hb, cell_later hb h.h0, cell_later hb h.h1, cell_later hb h.h2⟩

/-- 'map[keyElement]elementAppend{junk: {txn: 7}}' -/
theorem junk_run (w : World) : ∃ w8, (Instr.mapUpdate 52 (.map (some (w.heap.size + 1))) (.agg #[.int .i64 (-1), .int .i64 0]) (.agg #[.int .i64 7, .int .i64 0, .bool false])).run Yba.prog ((w.alloc (.cells #[.int .i64 (-1), .int .i64 0] 48)).alloc (.map #[] 0)) = .ok () w8 ∧ Below w.heap.size w w8 ∧ w.heap.size + 2 ≤ w8.heap.size := by
  have hm := World.ownsMap_made (w.alloc (.cells #[.int .i64 (-1), .int .i64 0] 48)) Yba.prog 48 eaElem
  have e : (w.alloc (.cells #[.int .i64 (-1), .int .i64 0] 48)).heap.size = w.heap.size + 1 := by simp
  rw [e] at hm
  obtain ⟨w8, hrun, _, hg⟩ := hm.update law Yba.underlying52 (by decide) (keyOf_mk (p := (-1, 0)) ⟨by decide, by decide⟩) (eaElem_mk 7 0 false)
  refine ⟨w8, hrun, ?_, ?_⟩
  · exact (((Below.refl _ _).alloc (Nat.le_refl _) _).alloc (by simp) _).grown hg (by simp; omega) (fun k hk => by cases hk; omega)
  · have := hg.size
    simpa using this

set_option maxRecDepth 100000 in
set_option maxHeartbeats 3200000 in
theorem law_try (a : Int) (ao : Option Addr) (n co : Nat) (zs : List Mop) (au : Option Addr) (m cu : Nat) (us : List (Nat × Nat)) (w : World) (a0 : 0 ≤ a) (a1 : a ≤ 255) (hn : n ≤ 256) (hm : m ≤ 256) (hz : zs.length = n) (hu : us.length = m)
    (hzw : ∀ x ∈ zs, 0 ≤ x.k ∧ x.k ≤ 255 ∧ (Lit.int .i64 x.e).wf = true) (huw : ∀ u ∈ us, u.1 ≤ 255 ∧ u.2 ≤ 255)
    (hO : 0 < n → ∃ b off, ao = some ⟨b, off, none⟩ ∧ Tab w b off 3 encO zs) (hU : 0 < m → ∃ b off, au = some ⟨b, off, none⟩ ∧ Tab w b off 2 encU us) :
    Calls Yba.prog 3 #[.int .u8 a, .slice ao n co, .slice au m cu] w fun e w' => e = .returned (.bool true) ∧ Below w.heap.size w w' := by
  have HZ : Hid (zs.length = n) := hz
  have HU : Hid (us.length = m) := hu
  have HZW : Hid (∀ x ∈ zs, 0 ≤ x.k ∧ x.k ≤ 255 ∧ (Lit.int .i64 x.e).wf = true) := hzw
  have HUW : Hid (∀ u ∈ us, u.1 ≤ 255 ∧ u.2 ≤ 255) := huw
  have HO : Hid (0 < n → ∃ b off, ao = some ⟨b, off, none⟩ ∧ Tab w b off 3 encO zs) := hO
  have HUU : Hid (0 < m → ∃ b off, au = some ⟨b, off, none⟩ ∧ Tab w b off 2 encU us) := hU
  clear hz hu hzw huw hO hU
  have d1 : decide ((256 : Int) < (n : Int)) = false := decide_eq_false (by omega)
  have d2 : decide ((256 : Int) < (m : Int)) = false := decide_eq_false (by omega)
  obtain ⟨nk, hnk⟩ : ∃ nk : Nat, (nk : Int) = 1 + a % 8 := ⟨(1 + a % 8).toNat, by omega⟩
  have nk1 : 1 ≤ nk := by omega
  have nk2 : nk ≤ 8 := by omega
  have HNK : Hid ((nk : Int) = 1 + a % 8) := hnk
  clear hnk
  obtain ⟨i26, hi26, hz26, hs26, hb26⟩ := info_parts info26
  obtain ⟨i31, hi31, hz31, hs31, hb31⟩ := info_parts info31
  obtain ⟨i39, hi39, hz39, hs39, hb39⟩ := info_parts info39
  go_enter Yba.func3, Yba.ntmps3
  go_wp2_with (at_make; refine wpList_make_full _ rfl _ _ 24 rfl w.heap.size 26 i26 _ 3 Yba.underlying24 hi26 hz26 hs26 _ _ _ _ nk rfl rfl (by have := HNK.out; omega) (by have := HNK.out; omega) ?b2 ?b3 (Nat.le_refl _) ?_)
  case b2 => rw [hb26]; omega
  case b3 => unfold maxLen; omega
  intro w1 hown1 hgrow1
  have HF1 : Hid (Fill w1 w.heap.size 3 nk encL []) := Fill.made hown1
  have HB1 : Hid (Below w.heap.size w w1) := (Below.refl _ _).grown hgrow1 (Nat.le_refl _) (fun k h => by cases h)
  have HS1 : Hid (w.heap.size < w1.heap.size) := by
    rcases hown1.2 with ⟨h, _⟩ | ⟨g, cap, cur, hv, _, hh, _⟩
    · cases h
    · cases hv
      exact (Array.getElem?_eq_some_iff.1 hh).1
  clear hown1 hgrow1 hi26 hz26 hs26 hb26
  rw [← HNK.out]
  go_wp2_with fail
  go_loopw [51] (fun i wr => ∃ k : Nat, k ≤ nk ∧ i = .int .i64 k ∧ Hid (Fill wr w.heap.size 3 nk encL (List.range k)) ∧ Hid (Below w.heap.size w wr) ∧ Hid (w.heap.size < wr.heap.size)) (fun i _ => nk - (intOf i).toNat)
  case atStart => exact ⟨0, Nat.zero_le _, rfl, HF1, HB1, HS1⟩
  case round =>
    obtain ⟨k, hk, rfl, HF, HB, HS⟩ := hrel
    by_cases hlt : k < nk
    · obtain ⟨v0, c0⟩ := HF.out.room (k * 3) (by omega)
      obtain ⟨v1, c1⟩ := HF.out.room (k * 3 + 1) (by omega)
      obtain ⟨v2, c2⟩ := HF.out.room (k * 3 + 2) (by omega)
      have f0 := HF.out.free
      have hst := HF.out.step encL_len k (by simpa using hlt)
      rw [List.length_range, ← List.range_succ] at hst
      have HST : Hid (Fill (stores wr w.heap.size (k * 3) (encL k)) w.heap.size 3 nk encL (List.range (k + 1))) := hst
      have HBT : Hid (Below w.heap.size w (stores wr w.heap.size (k * 3) (encL k))) := stores_below _ _ (Nat.le_refl _) _ _ _ _ HB.out
      clear hst
      go_wp2
      go_roundw
      case rel => exact ⟨k + 1, by omega, by go_num, HST.out, HBT.out, by show _ < _; have := HS.out; simpa [World.setCell] using this⟩
      case measure => simp [intOf]; omega
    · obtain rfl : k = nk := by omega
      clear HF1 HB1 HS1 hk hlt
      obtain ⟨wA, rfl⟩ : ∃ wA : World, wA = wr := ⟨_, rfl⟩
      have HFK : Hid (Fill wA w.heap.size 3 k encL (List.range k)) := HF
      have HBA : Hid (Below w.heap.size w wA) := HB
      have HSA : Hid (w.heap.size < wA.heap.size) := HS
      clear HF HB HS
      go_wp2_with (at_make; refine wpList_make_full _ rfl _ _ 27 rfl wA.heap.size 31 i31 _ 6 Yba.underlying27 hi31 hz31 hs31 _ _ _ _ n rfl rfl (by omega) (by omega) ?b2 ?b3 (Nat.le_refl _) ?_)
      case b2 => rw [hb31]; omega
      case b3 => unfold maxLen; omega
      intro w2 hown2 hgrow2
      have HF2 : Hid (Fill w2 wA.heap.size 6 n encM ([] : List Mop)) := Fill.made hown2
      have HB2 : Hid (Below wA.heap.size wA w2) := (Below.refl _ _).grown hgrow2 (Nat.le_refl _) (fun k h => by cases h)
      have HS2 : Hid (wA.heap.size < w2.heap.size) := by
        rcases hown2.2 with ⟨h, _⟩ | ⟨g, cap, cur, hv, _, hh, _⟩
        · cases h
        · cases hv
          exact (Array.getElem?_eq_some_iff.1 hh).1
      clear hown2 hgrow2 hi31 hz31 hs31 hb31
      go_wp2_with fail
      go_loopw [66] (fun i wr => ∃ j : Nat, j ≤ n ∧ i = .int .i64 j ∧ Hid (Fill wr wA.heap.size 6 n encM ((zs.take j).map (mopOf k))) ∧ Hid (Below wA.heap.size wA wr) ∧ Hid (wA.heap.size < wr.heap.size)) (fun i _ => n - (intOf i).toNat)
      case atStart => exact ⟨0, Nat.zero_le _, rfl, HF2, HB2, HS2⟩
      case round =>
        obtain ⟨j, hj, rfl, HF, HB, HS⟩ := hrel
        by_cases hlt : j < n
        · obtain ⟨b, off, rfl, hTO⟩ := HO.out (by omega)
          obtain ⟨⟨xk, xr, xe⟩, hx⟩ : ∃ x, zs[j]? = some x := ⟨_, List.getElem?_eq_getElem (by rw [HZ.out]; omega)⟩
          have hTO' : Tab wr b off 3 encO zs := (hTO.later HBA.out).later HB.out
          have e0 := hTO' j _ hx 0 _ rfl
          have e1 := hTO' j _ hx 1 _ rfl
          have e2 := hTO' j _ hx 2 _ rfl
          obtain ⟨hx0, hx1, hxe⟩ := HZW.out _ (List.mem_of_getElem? hx)
          simp only [Nat.add_zero] at hx0 hx1 hxe e0 e1 e2
          have HNX : Hid ((zs.take (j + 1)).map (mopOf k) = (zs.take j).map (mopOf k) ++ [mopOf k ⟨xk, xr, xe⟩]) := by
            show _ = _
            rw [List.take_add_one, hx]
            simp
          have HLN : Hid (((zs.take j).map (mopOf k)).length = j) := by
            show _ = _
            rw [List.length_map, List.length_take, HZ.out]
            omega
          clear hTO hTO' hx
          have hsz : wA.heap.size < wr.heap.size := HS.out
          go_wp2
          have HBB : Hid (Below wr.heap.size wr (wr.alloc (.cells #[.int .u8 xk, .bool xr, .int .i64 xe] 29))) := (Below.refl _ _).alloc (Nat.le_refl _) _
          have f0 : (wr.alloc (.cells #[.int .u8 xk, .bool xr, .int .i64 xe] 29)).cell? ⟨wr.heap.size, 0, none⟩ = some (.int .u8 xk) := by simp [go_sem]
          have f1 : (wr.alloc (.cells #[.int .u8 xk, .bool xr, .int .i64 xe] 29)).cell? ⟨wr.heap.size, 1, none⟩ = some (.bool xr) := by simp [go_sem]
          have f2 : (wr.alloc (.cells #[.int .u8 xk, .bool xr, .int .i64 xe] 29)).cell? ⟨wr.heap.size, 2, none⟩ = some (.int .i64 xe) := by simp [go_sem]
          obtain ⟨q, hq⟩ : ∃ q, q = wr.heap.size := ⟨_, rfl⟩
          rw [← hq] at f0 f1 f2
          rw [← hq]
          obtain ⟨wb, hwb⟩ : ∃ wb : World, wb = wr.alloc (.cells #[.int .u8 xk, .bool xr, .int .i64 xe] 29) := ⟨_, rfl⟩
          rw [← hwb] at HBB f0 f1 f2
          rw [← hwb]
          have HFB : Hid (Fill wb wA.heap.size 6 n encM ((zs.take j).map (mopOf k))) := HF.out.below HBB.out hsz
          have HBW : Hid (Below wA.heap.size wA wb) := HB.out.trans (HBB.out.mono (by omega))
          have HSB : Hid (wA.heap.size < wb.heap.size) := Nat.lt_of_lt_of_le hsz HBB.out.size
          clear hwb hq hsz HF HB HS HBB e0 e1 e2
          obtain ⟨v0, c0⟩ := HFB.out.room (j * 6) (by omega)
          obtain ⟨v1, c1⟩ := HFB.out.room (j * 6 + 1) (by omega)
          obtain ⟨v2, c2⟩ := HFB.out.room (j * 6 + 2) (by omega)
          obtain ⟨v3, c3⟩ := HFB.out.room (j * 6 + 3) (by omega)
          obtain ⟨v4, c4⟩ := HFB.out.room (j * 6 + 4) (by omega)
          obtain ⟨v5, c5⟩ := HFB.out.room (j * 6 + 5) (by omega)
          have fz := HFB.out.free
          have hk0 : 0 < (k : Int) := by omega
          have hst := HFB.out.step encM_len (mopOf k ⟨xk, xr, xe⟩) (by rw [HLN.out]; exact hlt)
          rw [HLN.out, ← HNX.out] at hst
          have HST : Hid (Fill (stores wb wA.heap.size (j * 6) (encM (mopOf k ⟨xk, xr, xe⟩))).drew wA.heap.size 6 n encM ((zs.take (j + 1)).map (mopOf k))) := hst.drew
          have HBT : Hid (Below wA.heap.size wA (stores wb wA.heap.size (j * 6) (encM (mopOf k ⟨xk, xr, xe⟩))).drew) := (stores_below _ _ (Nat.le_refl _) _ _ _ _ HBW.out).drew
          have HSZ : Hid (wA.heap.size < (stores wb wA.heap.size (j * 6) (encM (mopOf k ⟨xk, xr, xe⟩))).drew.heap.size) := stores_lt _ _ _ HSB.out
          clear hst
          simp only [stores, encM, mopOf, Nat.add_assoc, Nat.reduceAdd] at HST HBT HSZ
          go_region
          go_wp2
          go_roundw
          case rel => exact ⟨j + 1, by omega, by go_num, HST, HBT, HSZ⟩
          case measure => simp [intOf]; omega
        · obtain rfl : j = n := by omega
          clear HF2 HB2 HS2 hj hlt
          obtain ⟨wB, rfl⟩ : ∃ wB : World, wB = wr := ⟨_, rfl⟩
          have hmo : (zs.take j).map (mopOf k) = zs.map (mopOf k) := by rw [List.take_of_length_le (by rw [HZ.out]; omega)]
          obtain ⟨ops, hops⟩ : ∃ ops, ops = zs.map (mopOf k) := ⟨_, rfl⟩
          have HFM : Hid (Fill wB wA.heap.size 6 j encM ops) := by rw [hops, ← hmo]; exact HF
          have HBB : Hid (Below wA.heap.size wA wB) := HB
          have HSB : Hid (wA.heap.size < wB.heap.size) := HS
          have HOL : Hid (ops.length = j) := by show _ = _; rw [hops, List.length_map, HZ.out]
          have HOW : Hid (∀ x ∈ ops, 0 ≤ x.k ∧ x.k < k ∧ (Lit.int .i64 x.e).wf = true) := by
            intro x hx
            rw [hops] at hx
            obtain ⟨y, hy, rfl⟩ := List.mem_map.1 hx
            have := HZW.out y hy
            exact ⟨Int.emod_nonneg _ (by omega), Int.emod_lt_of_pos _ (by omega), this.2.2⟩
          clear HF HB HS hmo hops
          go_wp2_with (at_make; refine wpList_make_full _ rfl _ _ 32 rfl wB.heap.size 39 i39 _ 4 Yba.underlying32 hi39 hz39 hs39 _ _ _ _ m rfl rfl (by omega) (by omega) ?b2 ?b3 (Nat.le_refl _) ?_)
          case b2 => rw [hb39]; omega
          case b3 => unfold maxLen; omega
          intro w3 hown3 hgrow3
          have HF3 : Hid (Fill w3 wB.heap.size 4 m encT ([] : List (Nat × Nat))) := Fill.made hown3
          have HB3 : Hid (Below wB.heap.size wB w3) := (Below.refl _ _).grown hgrow3 (Nat.le_refl _) (fun k h => by cases h)
          have HS3 : Hid (wB.heap.size < w3.heap.size) := by
            rcases hown3.2 with ⟨h, _⟩ | ⟨g, cap, cur, hv, _, hh, _⟩
            · cases h
            · cases hv
              exact (Array.getElem?_eq_some_iff.1 hh).1
          clear hown3 hgrow3 hi39 hz39 hs39 hb39
          go_wp2_with fail
          go_loopw [90] (fun i wr => ∃ t : Nat, t ≤ m ∧ i = .int .i64 t ∧ Hid (Fill wr wB.heap.size 4 m encT ((us.take t).map (txOf j))) ∧ Hid (Below wB.heap.size wB wr) ∧ Hid (wB.heap.size < wr.heap.size)) (fun i _ => m - (intOf i).toNat)
          case atStart => exact ⟨0, Nat.zero_le _, rfl, HF3, HB3, HS3⟩
          case round =>
            obtain ⟨t, ht, rfl, HF, HB, HS⟩ := hrel
            by_cases hlt : t < m
            · obtain ⟨b, off, rfl, hTU⟩ := HUU.out (by omega)
              obtain ⟨⟨uf, ut⟩, hx⟩ : ∃ x, us[t]? = some x := ⟨_, List.getElem?_eq_getElem (by rw [HU.out]; omega)⟩
              have hTU' : Tab wr b off 2 encU us := ((hTU.later HBA.out).later HBB.out).later HB.out
              have e0 := hTU' t _ hx 0 _ rfl
              have e1 := hTU' t _ hx 1 _ rfl
              obtain ⟨hx0, hx1⟩ := HUW.out _ (List.mem_of_getElem? hx)
              simp only [Nat.add_zero] at hx0 hx1 e0 e1
              have HNX : Hid ((us.take (t + 1)).map (txOf j) = (us.take t).map (txOf j) ++ [txOf j (uf, ut)]) := by
                show _ = _
                rw [List.take_add_one, hx]
                simp
              have HLN : Hid (((us.take t).map (txOf j)).length = t) := by
                show _ = _
                rw [List.length_map, List.length_take, HU.out]
                omega
              clear hTU hTU' hx
              have hsz : wB.heap.size < wr.heap.size := HS.out
              have r0 : 0 ≤ (uf : Int) % ((j : Int) + 1) := Int.emod_nonneg _ (by omega)
              have r1 : (uf : Int) % ((j : Int) + 1) < (j : Int) + 1 := Int.emod_lt_of_pos _ (by omega)
              have r2 : 0 ≤ (ut : Int) % ((j : Int) + 1 - (uf : Int) % ((j : Int) + 1)) := Int.emod_nonneg _ (by omega)
              have r3 : (ut : Int) % ((j : Int) + 1 - (uf : Int) % ((j : Int) + 1)) < (j : Int) + 1 - (uf : Int) % ((j : Int) + 1) := Int.emod_lt_of_pos _ (by omega)
              obtain ⟨v0, c0⟩ := HF.out.room (t * 4) (by omega)
              obtain ⟨v1, c1⟩ := HF.out.room (t * 4 + 1) (by omega)
              obtain ⟨v2, c2⟩ := HF.out.room (t * 4 + 2) (by omega)
              obtain ⟨v3, c3⟩ := HF.out.room (t * 4 + 3) (by omega)
              have fz := HF.out.free
              obtain ⟨t1, t2⟩ := tx_cast j uf ut
              have hst := HF.out.stepAlloc encT_len (txOf j (uf, ut)) (by rw [HLN.out]; exact hlt) hsz (.cells #[.int .u8 (uf : Int), .int .u8 (ut : Int)] 34)
              rw [HLN.out, ← HNX.out] at hst
              have HST : Hid (Fill ((stores wr wB.heap.size (t * 4) (encT (txOf j (uf, ut)))).alloc (.cells #[.int .u8 (uf : Int), .int .u8 (ut : Int)] 34)) wB.heap.size 4 m encT ((us.take (t + 1)).map (txOf j))) := hst
              have HBT : Hid (Below wB.heap.size wB ((stores wr wB.heap.size (t * 4) (encT (txOf j (uf, ut)))).alloc (.cells #[.int .u8 (uf : Int), .int .u8 (ut : Int)] 34))) := stores_below_alloc (Nat.le_refl _) _ _ HB.out (by omega) _
              have HSZ : Hid (wB.heap.size < ((stores wr wB.heap.size (t * 4) (encT (txOf j (uf, ut)))).alloc (.cells #[.int .u8 (uf : Int), .int .u8 (ut : Int)] 34)).heap.size) := stores_lt_alloc _ _ _ hsz _
              clear hst
              simp only [stores, encT, t1, t2, Nat.add_assoc, Nat.reduceAdd] at HST HBT HSZ
              clear HF HB HS t1 t2
              go_wp2
              go_roundw
              case rel => exact ⟨t + 1, by omega, by go_num, HST, HBT, HSZ⟩
              case measure => simp [intOf]; omega
            · obtain rfl : t = m := by omega
              clear HF3 HB3 HS3 ht hlt
              obtain ⟨wC, rfl⟩ : ∃ wC : World, wC = wr := ⟨_, rfl⟩
              have hmo : (us.take t).map (txOf j) = us.map (txOf j) := by rw [List.take_of_length_le (by rw [HU.out]; omega)]
              obtain ⟨txs, htxs⟩ : ∃ txs, txs = us.map (txOf j) := ⟨_, rfl⟩
              have HFT : Hid (Fill wC wB.heap.size 4 t encT txs) := by rw [htxs, ← hmo]; exact HF
              have HBC : Hid (Below wB.heap.size wB wC) := HB
              have HSC : Hid (wB.heap.size < wC.heap.size) := HS
              have HTL : Hid (txs.length = t) := by show _ = _; rw [htxs, List.length_map, HU.out]
              have HTOK : Hid (∀ q, q < txs.length → (txs[q]?.getD (0, 0)).1 ≤ (txs[q]?.getD (0, 0)).2 ∧ (txs[q]?.getD (0, 0)).2 ≤ j) := by
                intro q hq
                rw [htxs] at hq ⊢
                simp only [List.length_map] at hq
                rw [List.getElem?_map, List.getElem?_eq_getElem hq]
                exact tx_ok j _
              clear HF HB HS hmo htxs HZ HU HZW HUW HO HUU HNK
              have TK : Tab wC w.heap.size 0 3 encL (List.range k) := (HFK.out.tab.below HBB.out HSA.out).below HBC.out (Nat.lt_trans HSA.out HSB.out)
              have TM : Tab wC wA.heap.size 0 6 encM ops := HFM.out.tab.below HBC.out HSB.out
              have TT : Tab wC wB.heap.size 0 4 encT txs := HFT.out.tab
              have WC : Below w.heap.size w wC := (HBA.out.trans (HBB.out.mono (Nat.le_of_lt HSA.out))).trans (HBC.out.mono (Nat.le_of_lt (Nat.lt_trans HSA.out HSB.out)))
              have HTK : Hid (Tab wC w.heap.size 0 3 encL (List.range k)) := TK
              have HTM : Hid (Tab wC wA.heap.size 0 6 encM ops) := TM
              have HTT : Hid (Tab wC wB.heap.size 0 4 encT txs) := TT
              have HWC : Hid (Below w.heap.size w wC) := WC
              have s1 : w.heap.size < wA.heap.size := HSA.out
              have s2 : wA.heap.size < wB.heap.size := HSB.out
              have s3 : wB.heap.size < wC.heap.size := HSC.out
              clear TK TM TT WC HFK HFM HFT HBA HBB HBC HSA HSB HSC
              go_wp2_with fail
              refine (clone_keys w.heap.size k k (List.range k) _ (by simp) (by omega) (by exact HTK.out.later ((Below.refl _ _).alloc (Nat.le_refl _) _))).mono ?_
              rintro e w5 ⟨g5, c5, rfl, hg5, T5, B5⟩
              have HT5 : Hid (Tab w5 g5 0 3 encL (List.range k)) := T5
              have b5 : Below (wC.heap.size + 1) (wC.alloc (.cells #[.slice (some ⟨wB.heap.size, 0, none⟩) t t, .slice (some ⟨w.heap.size, 0, none⟩) k k, .slice (some ⟨wA.heap.size, 0, none⟩) j j, .slice none 0 0, .int .i64 0, .int .i64 0, .int .i64 0] 43)) w5 := by simpa using B5
              have HB5 : Hid (Below (wC.heap.size + 1) (wC.alloc (.cells #[.slice (some ⟨wB.heap.size, 0, none⟩) t t, .slice (some ⟨w.heap.size, 0, none⟩) k k, .slice (some ⟨wA.heap.size, 0, none⟩) j j, .slice none 0 0, .int .i64 0, .int .i64 0, .int .i64 0] 43)) w5) := b5
              clear T5 B5 hg5 b5
              go_wp2_with fail
              refine (clone_mops wA.heap.size j j ops _ HOL.out (by omega) (by exact ((HTM.out.later ((Below.refl _ _).alloc (Nat.le_refl _) _)).below HB5.out (by omega)))).mono ?_
              rintro e w6 ⟨g6, c6, rfl, hg6, T6, B6⟩
              have HT6 : Hid (Tab w6 g6 0 6 encM ops) := T6
              have HB6 : Hid (Below w5.heap.size w5 w6) := B6
              clear T6 B6 hg6
              have z5 : wC.heap.size + 1 ≤ w5.heap.size := by have := HB5.out.size; simpa using this
              go_wp2_with fail
              refine (clone_txns wB.heap.size t t txs _ HTL.out (by omega) (by exact ((HTT.out.later ((Below.refl _ _).alloc (Nat.le_refl _) _)).below HB5.out (by omega)).below HB6.out (by omega))).mono ?_
              rintro e w7 ⟨g7, c7, rfl, hg7, T7, B7⟩
              have HT7 : Hid (Tab w7 g7 0 4 encT txs) := T7
              have HB7 : Hid (Below w6.heap.size w6 w7) := B7
              clear T7 B7 hg7
              have B57 : Below (wC.heap.size + 1) (wC.alloc (.cells #[.slice (some ⟨wB.heap.size, 0, none⟩) t t, .slice (some ⟨w.heap.size, 0, none⟩) k k, .slice (some ⟨wA.heap.size, 0, none⟩) j j, .slice none 0 0, .int .i64 0, .int .i64 0, .int .i64 0] 43)) w7 :=
                (HB5.out.trans (HB6.out.mono z5)).trans (HB7.out.mono (Nat.le_trans z5 HB6.out.size))
              have HD : Hid (Data w7 w.heap.size wA.heap.size wB.heap.size wC.heap.size g5 g6 g7 k j t ops txs) :=
                ⟨(HTK.out.later ((Below.refl _ _).alloc (Nat.le_refl _) _)).below B57 (by omega), (HTM.out.later ((Below.refl _ _).alloc (Nat.le_refl _) _)).below B57 (by omega), (HTT.out.later ((Below.refl _ _).alloc (Nat.le_refl _) _)).below B57 (by omega),
                  (HT5.out.later HB6.out).later HB7.out, HT6.out.later HB7.out, HT7.out,
                  by rw [B57.cell (p := ⟨wC.heap.size, 0, none⟩) (by simp)]; simp [go_sem], by rw [B57.cell (p := ⟨wC.heap.size, 1, none⟩) (by simp)]; simp [go_sem], by rw [B57.cell (p := ⟨wC.heap.size, 2, none⟩) (by simp)]; simp [go_sem]⟩
              have HW7 : Hid (Below w.heap.size w w7) := (HWC.out.alloc (by omega) _).trans (B57.mono (by omega))
              have z7 : wC.heap.size < w7.heap.size := by have := HB6.out.size; have := HB7.out.size; omega
              clear B57 HTK HTM HTT HT5 HT6 HT7 HB5 HB6 HB7 HWC z5
              obtain ⟨w8, hins, hb8, z8⟩ := junk_run w7
              have HB8 : Hid (Below w7.heap.size w7 w8) := hb8
              have hmm := @run_makeMap Yba.prog
              clear hb8
              go_wp2_with fail
              clear hins hmm
              have HBE : Hid (Below w8.heap.size w8 (w8.alloc (.cells #[.pointer (some ⟨wC.heap.size, 0, none⟩), .slice none 0 0, .map (some (w7.heap.size + 1)), .slice none 0 0, .slice none 0 0, .slice none 0 0, .int .i64 0, .slice none 0 0, .slice none 0 0, .slice none 0 0] 59))) := (Below.refl _ _).alloc (Nat.le_refl _) _
              have q0 : (w8.alloc (.cells #[.pointer (some ⟨wC.heap.size, 0, none⟩), .slice none 0 0, .map (some (w7.heap.size + 1)), .slice none 0 0, .slice none 0 0, .slice none 0 0, .int .i64 0, .slice none 0 0, .slice none 0 0, .slice none 0 0] 59)).cell? ⟨w8.heap.size, 0, none⟩ = some (.pointer (some ⟨wC.heap.size, 0, none⟩)) := by simp [go_sem]
              have q1 : (w8.alloc (.cells #[.pointer (some ⟨wC.heap.size, 0, none⟩), .slice none 0 0, .map (some (w7.heap.size + 1)), .slice none 0 0, .slice none 0 0, .slice none 0 0, .int .i64 0, .slice none 0 0, .slice none 0 0, .slice none 0 0] 59)).cell? ⟨w8.heap.size, 1, none⟩ = some (.slice none 0 0) := by simp [go_sem]
              have q2 : (w8.alloc (.cells #[.pointer (some ⟨wC.heap.size, 0, none⟩), .slice none 0 0, .map (some (w7.heap.size + 1)), .slice none 0 0, .slice none 0 0, .slice none 0 0, .int .i64 0, .slice none 0 0, .slice none 0 0, .slice none 0 0] 59)).cell? ⟨w8.heap.size, 2, none⟩ = some (.map (some (w7.heap.size + 1))) := by simp [go_sem]
              have q3 : (w8.alloc (.cells #[.pointer (some ⟨wC.heap.size, 0, none⟩), .slice none 0 0, .map (some (w7.heap.size + 1)), .slice none 0 0, .slice none 0 0, .slice none 0 0, .int .i64 0, .slice none 0 0, .slice none 0 0, .slice none 0 0] 59)).cell? ⟨w8.heap.size, 3, none⟩ = some (.slice none 0 0) := by simp [go_sem]
              have q4 : (w8.alloc (.cells #[.pointer (some ⟨wC.heap.size, 0, none⟩), .slice none 0 0, .map (some (w7.heap.size + 1)), .slice none 0 0, .slice none 0 0, .slice none 0 0, .int .i64 0, .slice none 0 0, .slice none 0 0, .slice none 0 0] 59)).cell? ⟨w8.heap.size, 4, none⟩ = some (.slice none 0 0) := by simp [go_sem]
              have q5 : (w8.alloc (.cells #[.pointer (some ⟨wC.heap.size, 0, none⟩), .slice none 0 0, .map (some (w7.heap.size + 1)), .slice none 0 0, .slice none 0 0, .slice none 0 0, .int .i64 0, .slice none 0 0, .slice none 0 0, .slice none 0 0] 59)).cell? ⟨w8.heap.size, 5, none⟩ = some (.slice none 0 0) := by simp [go_sem]
              have q6 : (w8.alloc (.cells #[.pointer (some ⟨wC.heap.size, 0, none⟩), .slice none 0 0, .map (some (w7.heap.size + 1)), .slice none 0 0, .slice none 0 0, .slice none 0 0, .int .i64 0, .slice none 0 0, .slice none 0 0, .slice none 0 0] 59)).cell? ⟨w8.heap.size, 6, none⟩ = some (.int .i64 0) := by simp [go_sem]
              have qf : (w8.alloc (.cells #[.pointer (some ⟨wC.heap.size, 0, none⟩), .slice none 0 0, .map (some (w7.heap.size + 1)), .slice none 0 0, .slice none 0 0, .slice none 0 0, .int .i64 0, .slice none 0 0, .slice none 0 0, .slice none 0 0] 59)).frozen? ⟨w8.heap.size, 2, none⟩ = false := by simp [go_sem]
              have qs : w8.heap.size + 1 = (w8.alloc (.cells #[.pointer (some ⟨wC.heap.size, 0, none⟩), .slice none 0 0, .map (some (w7.heap.size + 1)), .slice none 0 0, .slice none 0 0, .slice none 0 0, .int .i64 0, .slice none 0 0, .slice none 0 0, .slice none 0 0] 59)).heap.size := by simp
              obtain ⟨wE, hwE⟩ : ∃ wE : World, wE = w8.alloc (.cells #[.pointer (some ⟨wC.heap.size, 0, none⟩), .slice none 0 0, .map (some (w7.heap.size + 1)), .slice none 0 0, .slice none 0 0, .slice none 0 0, .int .i64 0, .slice none 0 0, .slice none 0 0, .slice none 0 0] 59) := ⟨_, rfl⟩
              rw [← hwE] at HBE q0 q1 q2 q3 q4 q5 q6 qf qs
              rw [← hwE]
              clear hwE
              obtain ⟨gd, hgd⟩ : ∃ gd, gd = w8.heap.size := ⟨_, rfl⟩
              rw [← hgd] at HBE q0 q1 q2 q3 q4 q5 q6 qf qs z8
              rw [← hgd]
              have HB7E : Hid (Below w7.heap.size w7 wE) := HB8.out.trans (HBE.out.mono (by omega))
              have HDE : Data wE w.heap.size wA.heap.size wB.heap.size wC.heap.size g5 g6 g7 k j t ops txs := HD.out.later HB7E.out
              clear hgd HBE HB8
              refine (appends_any gd wC.heap.size wB.heap.size w.heap.size wA.heap.size k j t (some (w7.heap.size + 1)) ops txs wE qs (by omega) (by omega) (by omega) HOL.out HTL.out HTOK.out HOW.out (by omega) (by omega) (by omega) q0 q2 qf HDE.h0 HDE.h1 HDE.h2 HDE.tm HDE.tt).mono ?_
              rintro e w9 ⟨rfl, S9, N9, hinv⟩
              have HB79 : Hid (Below w7.heap.size w7 w9) := HB7E.out.trans (hinv.below.mono (by omega))
              have p0 := (hinv.others 0 (by decide)).trans q0
              have p1 := (hinv.others 1 (by decide)).trans q1
              have p2 := hinv.ptr
              have p3 := (hinv.others 3 (by decide)).trans q3
              have p4 := (hinv.others 4 (by decide)).trans q4
              have p5 := (hinv.others 5 (by decide)).trans q5
              have p6 := (hinv.others 6 (by decide)).trans q6
              obtain ⟨ks, hma⟩ := hinv.map
              have z9 : wE.heap.size + 2 ≤ w9.heap.size := hinv.size
              have HD9 : Hid (Data w9 w.heap.size wA.heap.size wB.heap.size wC.heap.size g5 g6 g7 k j t ops txs) := HD.out.later HB79.out
              have HW9 : Hid (Below w.heap.size w w9) := HW7.out.trans (HB79.out.mono (by omega))
              obtain ⟨bm, hbm⟩ : ∃ bm, bm = wE.heap.size := ⟨_, rfl⟩
              rw [← hbm] at p2 hma z9
              have HMA : Hid (MapAt w9 bm N9 (fun p => look (seg ops txs) p t) ks) := hma
              clear hinv hma hbm q0 q1 q2 q3 q4 q5 q6 qf HDE HB7E HB79 HW7 HD qs
              have nq1 := neq_ptr ⟨wC.heap.size, 0, none⟩
              have u53 := Yba.underlying53
              have hh1 := HD9.out.h1
              go_wp2_with fail
              refine (equal_keys w.heap.size k g5 c5 k (List.range k) _ (by simp) (by omega) HD9.out.tk HD9.out.t5).mono ?_
              rintro e wa ⟨rfl, hba⟩
              have HBa : Hid (Below w9.heap.size w9 wa) := hba
              have hh2 := (HD9.out.later hba).h2
              clear hh1 hba
              go_wp2_with fail
              refine (equal_mops wA.heap.size j g6 c6 j ops _ HOL.out (by omega) (HD9.out.later HBa.out).tm (HD9.out.later HBa.out).t6).mono ?_
              rintro e wb ⟨rfl, hbb⟩
              have HBb : Hid (Below w9.heap.size w9 wb) := HBa.out.trans (hbb.mono HBa.out.size)
              have hh3 := (HD9.out.later HBb.out).h0
              clear hh2 hbb HBa
              go_wp2_with fail
              refine (txns_same wB.heap.size g7 t t c7 txs _ (by omega) HTL.out (HD9.out.later HBb.out).tt (HD9.out.later HBb.out).t7).mono ?_
              rintro e wc ⟨rfl, hbc⟩
              have HBc : Hid (Below w9.heap.size w9 wc) := HBb.out.trans (hbc.mono HBb.out.size)
              clear hh3 hbc HBb
              have y1 := cell_later HBc.out p1
              have y2 := cell_later HBc.out p2
              have y3 := cell_later HBc.out p3
              have y4 := cell_later HBc.out p4
              have y5 := cell_later HBc.out p5
              have y6 := cell_later HBc.out p6
              go_wp2_with fail
              have HDc : Hid (Data wc w.heap.size wA.heap.size wB.heap.size wC.heap.size g5 g6 g7 k j t ops txs) := HD9.out.later HBc.out
              have HMc : Hid (MapAt wc bm N9 (fun p => look (seg ops txs) p t) ks) := HMA.out.below HBc.out (by omega)
              have HWc : Hid (Below w.heap.size w wc) := HW9.out.trans (HBc.out.mono (by have := HW9.out.size; omega))
              have Y2 : Hid (wc.cell? ⟨gd, 2, none⟩ = some (.map (some bm))) := y2
              clear HD9 HMA HW9 y1 y2 y3 y4 y5 y6 p0 p1 p2 p3 p4 p5 p6 nq1 u53 HBc z9 z8
              go_loopw [25, 207] (fun pv tv wr => ∃ (T ln : Nat) (acc : List KE) (a : Option Addr) (c : Nat), T ≤ t ∧ tv = .int .i64 T ∧ pv = .slice a ln c ∧ Hid (acc.length = ln) ∧ Hid (acc = pairsTo (seg ops txs) T) ∧ Hid (Prs wr wc.heap.size a c acc) ∧ ln ≤ T * 256 ∧ Hid (Below wc.heap.size wc wr)) (fun _ tv _ => t - (intOf tv).toNat)
              case atStart => exact ⟨0, 0, [], none, 0, Nat.zero_le _, rfl, rfl, rfl, rfl, Prs.start _ _, Nat.zero_le _, Below.refl _ _⟩
              case round =>
                obtain ⟨T, ln, acc, pa, pc, hT, rfl, rfl, HLA, HA, HP, hln, HB⟩ := hrel
                by_cases hlt : T < t
                · obtain ⟨f, o, hfo, hf1, hf2, hS, hSl⟩ := seg_at (ops := ops) HOL.out (show T < txs.length by rw [HTL.out]; omega) HTOK.out
                  have hTr : Tab wr wB.heap.size 0 4 encT txs := HDc.out.tt.later HB.out
                  have c0 := hTr T _ hfo 0 _ rfl
                  have c1 := hTr T _ hfo 1 _ rfl
                  have c2 := hTr T _ hfo 2 _ rfl
                  have c3 := hTr T _ hfo 3 _ rfl
                  simp only [Nat.zero_add, Nat.add_zero] at c0 c1 c2 c3
                  obtain ⟨S, hSS⟩ : ∃ S, S = seg ops txs T := ⟨_, rfl⟩
                  have HS : Hid (S = seg ops txs T) := hSS
                  have HSL : Hid (S.length = o - f) := by show _ = _; rw [hSS]; exact hSl
                  have HSG : Hid (∀ i, i < o - f → S[i]? = ops[f + i]?) := by
                    intro i hi
                    rw [hSS, hS, List.getElem?_take, if_pos hi, List.getElem?_drop]
                  clear hS hSl hSS hfo hTr
                  go_wp2_with fail
                  have hqb : (wr.alloc (.cells #[.string ⟨#[]⟩, .int .u8 0, .int .i64 (f : Int), .int .i64 (o : Int)] 39)).heap[wr.heap.size]? = some (.cells #[.string ⟨#[]⟩, .int .u8 0, .int .i64 (f : Int), .int .i64 (o : Int)] 39 (0, 0)) := heap_alloc_new _ _
                  have HBX : Hid (Below wc.heap.size wc (wr.alloc (.cells #[.string ⟨#[]⟩, .int .u8 0, .int .i64 (f : Int), .int .i64 (o : Int)] 39))) := HB.out.alloc HB.out.size _
                  have HPX : Hid (Prs (wr.alloc (.cells #[.string ⟨#[]⟩, .int .u8 0, .int .i64 (f : Int), .int .i64 (o : Int)] 39)) wc.heap.size pa pc acc) := HP.out.later ((Below.refl _ _).alloc (Nat.le_refl _) _)
                  obtain ⟨q, hq⟩ : ∃ q, q = wr.heap.size := ⟨_, rfl⟩
                  rw [← hq] at hqb
                  rw [← hq]
                  obtain ⟨wx, hwx⟩ : ∃ wx : World, wx = wr.alloc (.cells #[.string ⟨#[]⟩, .int .u8 0, .int .i64 (f : Int), .int .i64 (o : Int)] 39) := ⟨_, rfl⟩
                  rw [← hwx] at HBX HPX hqb
                  rw [← hwx]
                  have HQ : Hid (wx.heap[q]? = some (.cells #[.string ⟨#[]⟩, .int .u8 0, .int .i64 (f : Int), .int .i64 (o : Int)] 39 (0, 0))) := hqb
                  clear hwx hq hqb HP HB c0 c1 c2 c3
                  go_loopw [25, 28] (fun pv kv wr => ∃ (kk ln : Nat) (ac2 : List KE) (a : Option Addr) (c : Nat), f ≤ kk ∧ kk ≤ o ∧ kv = .int .i64 kk ∧ pv = .slice a ln c ∧ Hid (ac2.length = ln) ∧ Hid (ac2 = (S.take (kk - f)).foldl addP acc) ∧ Hid (Prs wr wc.heap.size a c ac2) ∧ ln ≤ T * 256 + (kk - f) ∧ Hid (wr.heap[q]? = some (.cells #[.string ⟨#[]⟩, .int .u8 0, .int .i64 (f : Int), .int .i64 (o : Int)] 39 (0, 0))) ∧ Hid (Below wc.heap.size wc wr)) (fun _ kv _ => o - (intOf kv).toNat)
                  case atStart => exact ⟨f, ln, acc, pa, pc, Nat.le_refl _, hf1, rfl, rfl, HLA, by show _ = _; simp, HPX, by omega, HQ, HBX⟩
                  case round =>
                    obtain ⟨kk, ln2, ac2, pa2, pc2, hk1, hk2, rfl, rfl, HL2, HA2, HP2, hln2, HQ2, HB2⟩ := hrel
                    have hq3 : wr.cell? ⟨q, 3, none⟩ = some (.int .i64 (o : Int)) := by simp [World.cell?, HQ2.out]
                    by_cases hko : kk < o
                    · obtain ⟨⟨xk, xr, xe⟩, hx⟩ : ∃ x, ops[kk]? = some x := ⟨_, List.getElem?_eq_getElem (by rw [HOL.out]; omega)⟩
                      obtain ⟨d0, d1, d2, d3, d4, d5⟩ := (HDc.out.tm.later HB2.out).mopAt hx
                      simp only [Nat.zero_add] at d0 d1 d2 d3 d4 d5
                      have HSX : Hid (S[kk - f]? = some ⟨xk, xr, xe⟩) := by
                        show _ = _
                        rw [HSG.out (kk - f) (by omega), show f + (kk - f) = kk by omega, hx]
                      have HWFX : Hid (WF (xk, xe)) := by
                        have := HOW.out _ (List.mem_of_getElem? hx)
                        exact ⟨WalkArith.wf_i64 (by simp only at this; omega), this.2.2⟩
                      have HNX : Hid ((S.take (kk + 1 - f)).foldl addP acc = addP ac2 ⟨xk, xr, xe⟩) := by
                        show _ = _
                        rw [show kk + 1 - f = (kk - f) + 1 by omega, fold_next acc HSX.out, ← HA2.out]
                      have hqs : q < wr.heap.size := (Array.getElem?_eq_some_iff.1 HQ2.out).1
                      have hkj : kk < j := by omega
                      clear hx
                      cases xr with
                      | true =>
                        have HE : Hid (ac2 = (S.take (kk + 1 - f)).foldl addP acc) := by show _ = _; rw [HNX.out, addP_read rfl]
                        have HP3 : Hid (Prs (wr.alloc (.cells #[.int .i64 xk, .bool true, .bool false, .int .i64 xe, .int .i64 0, .int .i64 0] 31)) wc.heap.size pa2 pc2 ac2) := HP2.out.later ((Below.refl _ _).alloc (Nat.le_refl _) _)
                        have HQ3 : Hid ((wr.alloc (.cells #[.int .i64 xk, .bool true, .bool false, .int .i64 xe, .int .i64 0, .int .i64 0] 31)).heap[q]? = some (.cells #[.string ⟨#[]⟩, .int .u8 0, .int .i64 (f : Int), .int .i64 (o : Int)] 39 (0, 0))) := (Below.heap_alloc _ _ _ hqs).trans HQ2.out
                        have HB3 : Hid (Below wc.heap.size wc (wr.alloc (.cells #[.int .i64 xk, .bool true, .bool false, .int .i64 xe, .int .i64 0, .int .i64 0] 31))) := HB2.out.alloc HB2.out.size _
                        clear HP2 HQ2 HB2 HA2 HNX HSX
                        go_wp2_with fail
                        go_roundw
                        case rel => exact ⟨kk + 1, ln2, ac2, pa2, pc2, by omega, by omega, by go_num, rfl, HL2, HE, HP3, by omega, HQ3, HB3⟩
                        case measure => simp [intOf]; omega
                      | false =>
                        have HBY : Hid (Below wr.heap.size wr ((wr.alloc (.cells #[.int .i64 xk, .bool false, .bool false, .int .i64 xe, .int .i64 0, .int .i64 0] 31)).alloc (.cells #[.int .i64 xk, .int .i64 xe] 48))) := ((Below.refl _ _).alloc (Nat.le_refl _) _).alloc (by simp) _
                        go_wp2_with fail
                        refine (contains_any pa2 ln2 pc2 ac2 (xk, xe) _ HL2.out (by omega) (by exact (HL2.out ▸ (HP2.out.later HBY.out).tab))).mono ?_
                        rintro e wy ⟨rfl, hby⟩
                        have HBZ : Hid (Below wr.heap.size wr wy) := HBY.out.trans (hby.mono (by simp; omega))
                        have m0 : wy.cell? ⟨wr.heap.size + 1, 0, none⟩ = some (.int .i64 xk) := by
                          rw [hby.cell (p := ⟨wr.heap.size + 1, 0, none⟩) (by simp)]
                          have e : (wr.alloc (.cells #[.int .i64 xk, .bool false, .bool false, .int .i64 xe, .int .i64 0, .int .i64 0] 31)).heap.size = wr.heap.size + 1 := by simp
                          rw [← e]
                          simp [go_sem]
                        have m1 : wy.cell? ⟨wr.heap.size + 1, 1, none⟩ = some (.int .i64 xe) := by
                          rw [hby.cell (p := ⟨wr.heap.size + 1, 1, none⟩) (by simp)]
                          have e : (wr.alloc (.cells #[.int .i64 xk, .bool false, .bool false, .int .i64 xe, .int .i64 0, .int .i64 0] 31)).heap.size = wr.heap.size + 1 := by simp
                          rw [← e]
                          simp [go_sem]
                        have HP3 : Hid (Prs wy wc.heap.size pa2 pc2 ac2) := HP2.out.later HBZ.out
                        have HQ3 : Hid (wy.heap[q]? = some (.cells #[.string ⟨#[]⟩, .int .u8 0, .int .i64 (f : Int), .int .i64 (o : Int)] 39 (0, 0))) := (HBZ.out.block q hqs).trans HQ2.out
                        have HB3 : Hid (Below wc.heap.size wc wy) := HB2.out.trans (HBZ.out.mono HB2.out.size)
                        clear hby HBY HBZ HP2 HQ2 HB2 d0 d1 d2 d3 d4 d5 hq3
                        obtain ⟨b, hb⟩ : ∃ b, ac2.any (eqP (xk, xe)) = b := ⟨_, rfl⟩
                        rw [hb]
                        have HBB : Hid (ac2.any (eqP (xk, xe)) = b) := hb
                        clear hb
                        cases b with
                        | true =>
                          have HE : Hid (ac2 = (S.take (kk + 1 - f)).foldl addP acc) := by show _ = _; rw [HNX.out, addP_old rfl (by exact HBB.out)]
                          clear HA2 HNX HSX HBB m0 m1
                          go_wp2_with fail
                          go_roundw
                          case rel => exact ⟨kk + 1, ln2, ac2, pa2, pc2, by omega, by omega, by go_num, rfl, HL2, HE, HP3, by omega, HQ3, HB3⟩
                          case measure => simp [intOf]; omega
                        | false =>
                          have HE : Hid (ac2 ++ [(xk, xe)] = (S.take (kk + 1 - f)).foldl addP acc) := by show _ = _; rw [HNX.out, addP_new rfl (by exact HBB.out)]
                          clear HA2 HNX HSX HBB
                          obtain ⟨i48, hi48, hz48, hs48, hb48⟩ := info_parts info48
                          have HOW2 : Hid ((wy.alloc (.cells #[.int .i64 xk, .int .i64 xe] 48)).ownsRow wc.heap.size 48 2 (.slice pa2 ln2 pc2) ln2 (ac2.flatMap encP)) := by
                            have h := (HP3.out.later ((Below.refl _ _).alloc (Nat.le_refl _) (.cells #[.int .i64 xk, .int .i64 xe] 48))).own
                            rw [HL2.out] at h
                            exact h
                          go_wp2_with (at_builtin; refine wpList_append_own _ rfl (.tmp 234) (.tmp 236) 63 rfl wc.heap.size 48 i48 _ 2 16 Yba.underlying63 hi48 hz48 hs48 hb48 rfl (by omega) _ ln2 (ac2.flatMap encP) rfl HOW2.out ⟨wy.heap.size, 0, none⟩ 1 1 (encP (xk, xe)) rfl ?hl ?hnews ?h1 ?h63 ?hby ?hbase ?_)
                          case hl => rfl
                          case hnews =>
                            intro jj u hu
                            rw [Addr.add_lit, Nat.zero_add]
                            match jj, hu with
                            | 0, hu => simp [encP] at hu; subst hu; simp [go_sem]
                            | 1, hu => simp [encP] at hu; subst hu; simp [go_sem]
                            | jj + 2, hu => simp [encP] at hu
                          case h1 => intro u hu; simp [encP] at hu; rcases hu with rfl | rfl <;> rfl
                          case h63 => unfold maxLen; omega
                          case hby => omega
                          case hbase => have := HB3.out.size; simp; omega
                          intro v' wz howz hgz hnz
                          clear hnz
                          rw [← HL2.out] at howz
                          obtain ⟨a', c', hv, HPZ⟩ := Prs.push (w := wy) howz
                          rw [hv]
                          have HPA : Prs (wy.alloc (.cells #[.int .i64 xk, .int .i64 xe] 48)) wc.heap.size pa2 pc2 ac2 := HP3.out.later ((Below.refl _ _).alloc (Nat.le_refl _) _)
                          have hqy : q < wy.heap.size := (Array.getElem?_eq_some_iff.1 HQ3.out).1
                          have hqa : (wy.alloc (.cells #[.int .i64 xk, .int .i64 xe] 48)).heap[q]? = some (.cells #[.string ⟨#[]⟩, .int .u8 0, .int .i64 (f : Int), .int .i64 (o : Int)] 39 (0, 0)) := (Below.heap_alloc _ _ _ hqy).trans HQ3.out
                          have HQ4 : Hid (wz.heap[q]? = some (.cells #[.string ⟨#[]⟩, .int .u8 0, .int .i64 (f : Int), .int .i64 (o : Int)] 39 (0, 0))) := by
                            refine (hgz.block q (by simp; omega) ?_).trans hqa
                            rw [← HL2.out]
                            exact HPA.ne hqa (by decide)
                          have HB4 : Hid (Below wc.heap.size wc wz) := by
                            refine (HB3.out.alloc HB3.out.size _).grown hgz (by have := HB3.out.size; simp; omega) ?_
                            rw [← HL2.out]
                            exact HPA.base_le
                          have HP4 : Hid (Prs wz wc.heap.size a' c' (ac2 ++ [(xk, xe)])) := HPZ
                          obtain ⟨ln3, hln3⟩ : ∃ ln3, ac2.length + 1 = ln3 := ⟨_, rfl⟩
                          rw [hln3]
                          have HL3 : Hid ((ac2 ++ [(xk, xe)]).length = ln3) := by show _ = _; rw [← hln3]; simp
                          have hl3 : ln3 ≤ T * 256 + (kk + 1 - f) := by rw [← hln3, HL2.out]; omega
                          clear hv howz hgz HPZ HPA hqa hqy HOW2 hi48 hz48 hs48 hb48 hln3 HP3 HQ3 HB3 m0 m1
                          go_wp2_with fail
                          go_roundw
                          case rel => exact ⟨kk + 1, ln3, ac2 ++ [(xk, xe)], a', c', by omega, by omega, by go_num, rfl, HL3, HE, HP4, hl3, HQ4, HB4⟩
                          case measure => simp [intOf]; omega
                    · obtain rfl : kk = o := by omega
                      have HAN : Hid (ac2 = pairsTo (seg ops txs) (T + 1)) := by
                        show _ = _
                        rw [HA2.out, List.take_of_length_le (by rw [HSL.out]; omega), HA.out, pairsTo, HS.out]
                      clear HS HSL HSG HA HA2 HPX HQ HBX HQ2
                      go_wp2_with fail
                      go_roundw
                      case rel => exact ⟨T + 1, ln2, ac2, pa2, pc2, by omega, by go_num, rfl, HL2, HAN, HP2, by omega, HB2⟩
                      case measure => simp [intOf]; omega
                · obtain rfl : T = t := by omega
                  obtain ⟨wF, rfl⟩ : ∃ wF : World, wF = wr := ⟨_, rfl⟩
                  have HDF : Hid (Data wF w.heap.size wA.heap.size wB.heap.size wC.heap.size g5 g6 g7 k j T ops txs) := HDc.out.later HB.out
                  have HMF : Hid (MapAt wF bm N9 (fun p => look (seg ops txs) p T) ks) := HMc.out.below HB.out (by obtain ⟨D, ho, _⟩ := HMc.out; exact ho.lt)
                  have HWF : Hid (Below w.heap.size w wF) := HWc.out.trans (HB.out.mono (by have := HWc.out.size; omega))
                  have y2 := cell_later HB.out Y2.out
                  have Y3 : Hid (wF.cell? ⟨gd, 2, none⟩ = some (.map (some bm))) := y2
                  have hcnt : ks.length = ln := by rw [mapAt_count HMF.out (fun p hp => pairs_wf nk2 HOW.out hp), ← HLA.out, HA.out]
                  have hlen := fun ty => HMF.out.len ty
                  rw [hcnt] at hlen
                  have hnn : ((ln : Int) != (ln : Int)) = false := by simp
                  clear HDc HMc HWc Y2 HB hlt hT hcnt
                  go_wp2_with fail
                  clear hlen hnn y2
                  go_loopw [249] (fun iv wr => ∃ i : Nat, i ≤ ln ∧ iv = .int .i64 i ∧ Hid (Below wF.heap.size wF wr)) (fun iv _ => ln - (intOf iv).toNat)
                  case atStart => exact ⟨0, Nat.zero_le _, rfl, Below.refl _ _⟩
                  case round =>
                    obtain ⟨i, hi, rfl, HB⟩ := hrel
                    by_cases hlt : i < ln
                    · obtain ⟨⟨pk, pe⟩, hp⟩ : ∃ p, acc[i]? = some p := ⟨_, List.getElem?_eq_getElem (by rw [HLA.out]; omega)⟩
                      obtain ⟨gp, rfl, hTP⟩ := HP.out.tab (by rw [HLA.out]; omega)
                      have hTP' : Tab wr gp 0 2 encP acc := hTP.later HB.out
                      have d0 := hTP' i _ hp 0 _ rfl
                      have d1 := hTP' i _ hp 1 _ rfl
                      simp only [Nat.zero_add, Nat.add_zero] at d0 d1
                      have hpm : (pk, pe) ∈ pairsTo (seg ops txs) T := by rw [← HA.out]; exact List.mem_of_getElem? hp
                      have HWP : Hid (WF (pk, pe)) := pairs_wf nk2 HOW.out hpm
                      obtain ⟨⟨Tp, l⟩, hlk⟩ := Option.isSome_iff_exists.1 ((pairs_mem _ _ _).1 hpm)
                      have HLK : Hid (look (seg ops txs) (pk, pe) T = some (Tp, l)) := hlk
                      clear hTP hTP' hp hpm hlk
                      go_wp2_with fail
                      have HBX : Hid (Below wF.heap.size wF (wr.alloc (.cells #[.int .i64 pk, .int .i64 pe] 48))) := HB.out.alloc HB.out.size _
                      have n0 : (wr.alloc (.cells #[.int .i64 pk, .int .i64 pe] 48)).cell? ⟨wr.heap.size, 0, none⟩ = some (.int .i64 pk) := by simp [go_sem]
                      have n1 : (wr.alloc (.cells #[.int .i64 pk, .int .i64 pe] 48)).cell? ⟨wr.heap.size, 1, none⟩ = some (.int .i64 pe) := by simp [go_sem]
                      obtain ⟨q, hq⟩ : ∃ q, q = wr.heap.size := ⟨_, rfl⟩
                      rw [← hq] at n0 n1
                      rw [← hq]
                      obtain ⟨wx, hwx⟩ : ∃ wx : World, wx = wr.alloc (.cells #[.int .i64 pk, .int .i64 pe] 48) := ⟨_, rfl⟩
                      rw [← hwx] at HBX n0 n1
                      rw [← hwx]
                      clear hwx hq HB d0 d1
                      have y3 := cell_later HBX.out Y3.out
                      have HMX : Hid (MapAt wx bm N9 (fun p => look (seg ops txs) p T) ks) := HMF.out.below HBX.out (by obtain ⟨D, ho, _⟩ := HMF.out; exact ho.lt)
                      have hbx : bm < wx.heap.size := by obtain ⟨D, ho, _⟩ := HMX.out; exact ho.lt
                      have l1 := (HMX.out.below (B := wx.heap.size) ((Below.refl _ _).drew) hbx).look HWP.out HLK.out
                      have l2 := (HMX.out.below (B := wx.heap.size) (((Below.refl _ _).alloc (Nat.le_refl _) (.cells #[.int .i64 0, .int .i64 0, .bool false] 51)).drew) hbx).look HWP.out HLK.out
                      simp only [keyV, eaV] at l1 l2
                      have n2 := cell_later ((Below.refl wx.heap.size wx).alloc (Nat.le_refl _) (.cells #[.int .i64 0, .int .i64 0, .bool false] 51)) n0
                      have n3 := cell_later ((Below.refl wx.heap.size wx).alloc (Nat.le_refl _) (.cells #[.int .i64 0, .int .i64 0, .bool false] 51)) n1
                      have y4 := cell_later ((Below.refl wx.heap.size wx).alloc (Nat.le_refl _) (.cells #[.int .i64 0, .int .i64 0, .bool false] 51)) y3
                      clear hbx
                      go_region
                      all_goals clear l1 l2 n2 n3 y4 y3
                      all_goals go_wp2_with fail
                      all_goals (
                        have HBY : Hid (Below wF.heap.size wF ((wx.alloc (.cells #[.int .i64 (Tp : Int), .int .i64 (-1), .bool l] 51)).drew)) := (HBX.out.alloc HBX.out.size _).drew
                        have o0 : ((wx.alloc (.cells #[.int .i64 (Tp : Int), .int .i64 (-1), .bool l] 51)).drew).cell? ⟨wx.heap.size, 0, none⟩ = some (.int .i64 (Tp : Int)) := by simp [go_sem]
                        have o1 : ((wx.alloc (.cells #[.int .i64 (Tp : Int), .int .i64 (-1), .bool l] 51)).drew).cell? ⟨wx.heap.size, 1, none⟩ = some (.int .i64 (-1)) := by simp [go_sem]
                        have o2 : ((wx.alloc (.cells #[.int .i64 (Tp : Int), .int .i64 (-1), .bool l] 51)).drew).cell? ⟨wx.heap.size, 2, none⟩ = some (.bool l) := by simp [go_sem]
                        have n4 := cell_later (((Below.refl wx.heap.size wx).alloc (Nat.le_refl _) (.cells #[.int .i64 (Tp : Int), .int .i64 (-1), .bool l] 51)).drew) n0
                        have n5 := cell_later (((Below.refl wx.heap.size wx).alloc (Nat.le_refl _) (.cells #[.int .i64 (Tp : Int), .int .i64 (-1), .bool l] 51)).drew) n1
                        obtain ⟨qe, hqe⟩ : ∃ qe, qe = wx.heap.size := ⟨_, rfl⟩
                        rw [← hqe] at o0 o1 o2
                        rw [← hqe]
                        obtain ⟨wy, hwy⟩ : ∃ wy : World, wy = (wx.alloc (.cells #[.int .i64 (Tp : Int), .int .i64 (-1), .bool l] 51)).drew := ⟨_, rfl⟩
                        rw [← hwy] at HBY o0 o1 o2 n4 n5
                        rw [← hwy]
                        clear hqe hwy n0 n1 HBX HMX
                        have HCALL : Hid (∀ W, Below wy.heap.size wy W → Calls Yba.prog 13 #[.slice (some ⟨wA.heap.size, 0, none⟩) j j, .slice (some ⟨wB.heap.size, 0, none⟩) T T, .agg #[.int .i64 pk, .int .i64 pe]] W fun e w' => e = .returned (.agg #[.int .i64 (Tp : Int), .int .i64 (-1), .bool l]) ∧ Below wy.heap.size wy w') := by
                          intro W hW
                          refine (model_any wA.heap.size wB.heap.size j T ops txs (pk, pe) W hn hm HOL.out HTL.out HTOK.out ((HDF.out.later HBY.out).tm.later hW) ((HDF.out.later HBY.out).tt.later hW)).mono ?_
                          rintro e w' ⟨rfl, hb⟩
                          rw [HLK.out]
                          exact ⟨rfl, hW.trans (hb.mono hW.size)⟩
                        have ne := neqE Tp (-1) l
                        have gu := fun op x y => guardE op x y Tp (-1) l
                        go_region_with (go_at_call 13; refine (HCALL.out _ ?_).mono ?_; exact (Below.refl _ _).drew; rintro e wz ⟨rfl, hz⟩; have c0 := cell_later hz o0; have c1 := cell_later hz o1; have c2 := cell_later hz o2; have HZ : Hid (Below wy.heap.size wy wz) := hz; clear hz)
                        all_goals clear ne gu
                        all_goals go_wp2_with fail
                        all_goals (
                          have HBN : Hid (Below wF.heap.size wF wz) := HBY.out.trans (HZ.out.mono HBY.out.size)
                          go_roundw
                          case rel => exact ⟨i + 1, by omega, by go_num, HBN⟩
                          case measure => simp [intOf]; omega))
                    · obtain rfl : i = ln := by omega
                      have HEND : Hid (Below w.heap.size w wr) := HWF.out.trans (HB.out.mono HWF.out.size)
                      go_wp2_with fail
                      go_ret
                      exact ⟨rfl, HEND.out⟩
end Go.Proofs.Ybulkdlum.lawA
