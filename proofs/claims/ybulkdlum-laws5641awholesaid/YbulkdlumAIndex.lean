/- LawS5641AWhole: the contract of 'indexAppends'. -/
import Derived.Test.YbulkdlumAModel
import Derived.Test.YbulkdlumAMap
import Derived.BigRegion
namespace Go.Proofs.Ybulkdlum.lawA
open Go.RowKit Go.Maps
set_option linter.unusedVariables false

theorem info3 : (Yba.prog.info? 3).map (fun i => (i.zero, i.size, i.bytes)) = some (some (.int .i64 0), 1, 8) := by kernel_rfl

/-- WHAT HOLDS WHILE indexAppends RUNS: below the receiver's block gd nothing has turned; its third field leads to the map, block B; 'seen' is block B + 1. -/
structure Inv (w wr : World) (gd B nk N : Nat) (L : KE → Option (Nat × Bool)) (S : Int → Int) : Prop where
  below : Below gd w wr
  size : B + 2 ≤ wr.heap.size
  ptr : wr.cell? ⟨gd, 2, none⟩ = some (.map (some B))
  others : ∀ o, o ≠ 2 → wr.cell? ⟨gd, o, none⟩ = w.cell? ⟨gd, o, none⟩
  map : ∃ ks, MapAt wr B N L ks
  seen : ∀ i : Nat, i < nk → wr.cell? ⟨B + 1, i, none⟩ = some (.int .i64 (S i))
  free : ∀ o, wr.frozen? ⟨B + 1, o, none⟩ = false

theorem Inv.more {w wr w' : World} {gd B nk N : Nat} {L : KE → Option (Nat × Bool)} {S : Int → Int} (h : Inv w wr gd B nk N L S) (hgd : gd < B) (hb : Below wr.heap.size wr w') : Inv w w' gd B nk N L S where
  below := h.below.trans (hb.mono (by have := h.size; omega))
  size := Nat.le_trans h.size hb.size
  ptr := cell_later hb h.ptr
  others := fun o ho => (hb.cell (p := ⟨gd, o, none⟩) (by have := h.size; simp; omega)).trans (h.others o ho)
  map := let ⟨ks, hm⟩ := h.map; ⟨ks, hm.below hb (by have := h.size; omega)⟩
  seen := fun i hi => cell_later hb (h.seen i hi)
  free := fun o => (hb.frozen (p := ⟨B + 1, o, none⟩) (by have := h.size; simp; omega)).trans (h.free o)
theorem Inv.congr {w wr : World} {gd B nk N N' : Nat} {L L' : KE → Option (Nat × Bool)} {S S' : Int → Int} (h : Inv w wr gd B nk N L S) (hN : N ≤ N') (hL : ∀ p, L p = L' p) (hS : ∀ i : Nat, i < nk → S i = S' i) : Inv w wr gd B nk N' L' S' where
  below := h.below
  size := h.size
  ptr := h.ptr
  others := h.others
  map := let ⟨ks, hm⟩ := h.map; ⟨ks, (hm.congr hL).mono hN⟩
  seen := fun i hi => by rw [← hS i hi]; exact h.seen i hi
  free := h.free

/-- the two stores of a round -/
theorem Inv.step {w wr w1 : World} {gd B nk N : Nat} {L L1 : KE → Option (Nat × Bool)} {S : Int → Int} (h : Inv w wr gd B nk N L S) (hgd : gd < B) (hg : wr.grownBy w1 (some B)) (hm : ∃ ks, MapAt w1 B (N + 1) L1 ks) (i : Nat) (hi : i < nk) (x : Int) :
    Inv w (w1.setCell ⟨B + 1, i, none⟩ (.int .i64 x)) gd B nk (N + 1) L1 (fun k => if k = (i : Int) then x else S k) := by
  have hsz := h.size
  have blk : ∀ k, k < wr.heap.size → k ≠ B → w1.heap[k]? = wr.heap[k]? := fun k hk hne => hg.block k hk (fun e => hne (Option.some.inj e))
  have cel : ∀ (a : Addr), a.block < wr.heap.size → a.block ≠ B → w1.cell? a = wr.cell? a := fun a ha hne => World.cell?_of_block (blk a.block ha hne)
  refine ⟨?_, ?_, ?_, ?_, ?_, ?_, ?_⟩
  · exact (h.below.grown hg (by omega) (fun k hk => by cases hk; omega)).setCell (by show gd ≤ B + 1; omega) _
  · have := hg.size
    simp [World.setCell]
    omega
  · rw [World.cell?_setCell_other _ _ _ _ (by simp <;> omega), cel ⟨gd, 2, none⟩ (by simp; omega) (by simp; omega)]
    exact h.ptr
  · intro o ho
    rw [World.cell?_setCell_other _ _ _ _ (by simp <;> omega), cel ⟨gd, o, none⟩ (by simp; omega) (by simp; omega)]
    exact h.others o ho
  · obtain ⟨ks, hm⟩ := hm
    exact ⟨ks, hm.setCell (by simp) _⟩
  · intro j hj
    have hc : w1.cell? ⟨B + 1, j, none⟩ = some (.int .i64 (S j)) := by
      rw [cel ⟨B + 1, j, none⟩ (by simp; omega) (by simp)]; exact h.seen j hj
    by_cases e : j = i
    · subst e
      rw [World.cell?_setCell_same _ _ _ hc]
      simp
    · rw [World.cell?_setCell_other _ _ _ _ (by simp <;> omega), hc]
      have : ¬ (j : Int) = (i : Int) := by omega
      simp [this]
  · intro o
    rw [World.frozen?_setCell, World.frozen?_of_block (w := wr) (blk (B + 1) (by omega) (by omega))]
    exact h.free o

/-- behind 'make(map..)', the store into the receiver's field, and 'make([]int, len(h.keys))' -/
theorem inv_start {w w2 : World} {gd nk : Nat} {mv : Option Nat} (hgd : gd + 1 = w.heap.size) (d2 : w.cell? ⟨gd, 2, none⟩ = some (.map mv))
    (hown : w2.ownsRow (w.heap.size + 1) 3 1 (.slice (some ⟨w.heap.size + 1, 0, none⟩) nk nk) nk (madeCells #[Value.int IntKind.i64 0] nk).toList)
    (hg : ((w.setCell ⟨gd, 2, none⟩ (Value.map (some w.heap.size))).alloc (Obj.map #[] 0)).grownBy w2 none) :
    Inv w w2 gd w.heap.size nk 0 (fun _ => none) (fun _ => 0) := by
  have e : ((w.setCell ⟨gd, 2, none⟩ (Value.map (some w.heap.size))).alloc (Obj.map #[] 0)).heap.size = w.heap.size + 1 := by simp [World.setCell]
  have es : (w.setCell ⟨gd, 2, none⟩ (Value.map (some w.heap.size))).heap.size = w.heap.size := by simp [World.setCell]
  have hb : Below (w.heap.size + 1) ((w.setCell ⟨gd, 2, none⟩ (Value.map (some w.heap.size))).alloc (Obj.map #[] 0)) w2 := (Below.refl _ _).grown hg (by omega) (fun k h => by cases h)
  rw [toList_madeCells_one] at hown
  refine ⟨?_, ?_, ?_, ?_, ?_, ?_, ?_⟩
  · exact (((Below.refl _ _).setCell (by simp) _).alloc (by omega) _).trans (hb.mono (by omega))
  · rcases hown.2 with ⟨h, _⟩ | ⟨g, cap, cur, hv, _, hh, _⟩
    · cases h
    · cases hv
      have := (Array.getElem?_eq_some_iff.1 hh).1
      omega
  · rw [hb.cell (p := ⟨gd, 2, none⟩) (by simp; omega), World.cell?_alloc_past _ _ _ (by simp [es]; omega), World.cell?_setCell_same _ _ _ d2]
  · intro o ho
    rw [hb.cell (p := ⟨gd, o, none⟩) (by simp; omega), World.cell?_alloc_past _ _ _ (by simp [es]; omega), World.cell?_setCell_other _ _ _ _ (by simp <;> omega)]
  · have hm := MapAt.made (w.setCell ⟨gd, 2, none⟩ (Value.map (some w.heap.size)))
    rw [es] at hm
    exact ⟨[], hm.below hb (by omega)⟩
  · intro i hi
    have := hown.cellAt i (by omega)
    rw [this]
    simp [hi]
  · intro o
    exact hown.frozenAt o

set_option maxRecDepth 100000 in
set_option maxHeartbeats 3200000 in
theorem appends_any (gd gh gt gk gm nk n m : Nat) (mv : Option Nat) (ops : List Mop) (txs : List (Nat × Nat)) (w : World) (hgd : gd + 1 = w.heap.size) (hn : n ≤ 256) (hm : m ≤ 256) (hnk : nk ≤ 8) (ho : ops.length = n) (hx : txs.length = m)
    (hok : ∀ t, t < txs.length → (txs[t]?.getD (0, 0)).1 ≤ (txs[t]?.getD (0, 0)).2 ∧ (txs[t]?.getD (0, 0)).2 ≤ n)
    (hwf : ∀ x ∈ ops, 0 ≤ x.k ∧ x.k < nk ∧ (Lit.int .i64 x.e).wf = true)
    (hh : gh < gd) (hgt : gt < gd) (hgm : gm < gd)
    (d0 : w.cell? ⟨gd, 0, none⟩ = some (.pointer (some ⟨gh, 0, none⟩))) (d2 : w.cell? ⟨gd, 2, none⟩ = some (.map mv)) (df : w.frozen? ⟨gd, 2, none⟩ = false)
    (h0 : w.cell? ⟨gh, 0, none⟩ = some (.slice (some ⟨gt, 0, none⟩) m m)) (h1 : w.cell? ⟨gh, 1, none⟩ = some (.slice (some ⟨gk, 0, none⟩) nk nk)) (h2 : w.cell? ⟨gh, 2, none⟩ = some (.slice (some ⟨gm, 0, none⟩) n n))
    (hM : Tab w gm 0 6 encM ops) (hT : Tab w gt 0 4 encT txs) :
    Calls Yba.prog 8 #[.pointer (some ⟨gd, 0, none⟩)] w fun e w' => e = .returned (.tuple #[]) ∧ ∃ S N, Inv w w' gd w.heap.size nk N (fun p => look (seg ops txs) p m) S := by
  have HGD : Hid (gd + 1 = w.heap.size) := hgd
  have HO : Hid (ops.length = n) := ho
  have HX : Hid (txs.length = m) := hx
  have HOK : Hid (∀ t, t < txs.length → (txs[t]?.getD (0, 0)).1 ≤ (txs[t]?.getD (0, 0)).2 ∧ (txs[t]?.getD (0, 0)).2 ≤ n) := hok
  have HWF : Hid (∀ x ∈ ops, 0 ≤ x.k ∧ x.k < nk ∧ (Lit.int .i64 x.e).wf = true) := hwf
  have HM : Hid (Tab w gm 0 6 encM ops) := hM
  have HT : Hid (Tab w gt 0 4 encT txs) := hT
  have g1 : gd < w.heap.size := by omega
  have g2 : gh < w.heap.size := by omega
  have hne : ¬ gh = gd := by omega
  clear ho hx hok hwf hM hT hgd
  obtain ⟨i0, hi, hz0, hz1, hz2⟩ := info_parts info3
  have hmm := @run_makeMap Yba.prog
  go_enter Yba.func8, Yba.ntmps8
  go_wp2_with (at_make; refine wpList_make_full _ rfl _ _ 55 rfl (w.heap.size + 1) 3 i0 (.int .i64 0) 1 Yba.underlying55 hi hz0 hz1 _ _ _ _ nk rfl rfl (by omega) (by omega) ?b2 ?b3 ?b4 ?_)
  case b2 => rw [hz2]; omega
  case b3 => unfold maxLen; omega
  case b4 => simp [World.setCell]
  intro w2 hown2 hgrow2
  have hinv := inv_start HGD.out d2 hown2 hgrow2
  have HI : Hid (Inv w w2 gd w.heap.size nk 0 (fun _ => none) (fun _ => 0)) := hinv
  have h0' : w2.cell? ⟨gh, 0, none⟩ = some (.slice (some ⟨gt, 0, none⟩) m m) := (hinv.below.cell (p := ⟨gh, 0, none⟩) (by simpa using hh)).trans h0
  clear hinv hown2 hgrow2 hi hz0 hz1 hz2 hmm
  go_wp2
  go_loopw [27] (fun t wr => ∃ (T N : Nat), T ≤ m ∧ N ≤ T * 256 ∧ t = .int .i64 T ∧ Hid (Inv w wr gd w.heap.size nk N (fun p => look (seg ops txs) p T) (fun k => seenAt (seg ops txs) k T))) (fun t _ => m - (intOf t).toNat)
  case atStart => exact ⟨0, 0, Nat.zero_le _, Nat.zero_le _, rfl, HI.out⟩
  case round =>
    obtain ⟨T, N, hTm, hN, rfl, HI⟩ := hrel
    by_cases hlt : T < m
    · obtain ⟨f, o, hfo, hf1, hf2, hS, hSl⟩ := seg_at (ops := ops) HO.out (show T < txs.length by rw [HX.out]; omega) HOK.out
      have hTr : Tab wr gt 0 4 encT txs := HT.out.below HI.out.below hgt
      have c2 := hTr T _ hfo 2 _ rfl
      have c3 := hTr T _ hfo 3 _ rfl
      simp only [Nat.zero_add] at c2 c3
      have e0 : wr.cell? ⟨gh, 0, none⟩ = some (.slice (some ⟨gt, 0, none⟩) m m) := (HI.out.below.cell (p := ⟨gh, 0, none⟩) (by simpa using hh)).trans h0
      have e2 : wr.cell? ⟨gh, 2, none⟩ = some (.slice (some ⟨gm, 0, none⟩) n n) := (HI.out.below.cell (p := ⟨gh, 2, none⟩) (by simpa using hh)).trans h2
      obtain ⟨S, hSS⟩ : ∃ S, S = seg ops txs T := ⟨_, rfl⟩
      have HS : Hid (S = seg ops txs T) := hSS
      have HSL : Hid (S.length = o - f) := by show _ = _; rw [hSS]; exact hSl
      have HSM : Hid (∀ x ∈ S, x ∈ ops) := by
        intro x hx
        rw [hSS, hS] at hx
        exact List.mem_of_mem_drop (List.mem_of_mem_take hx)
      have HTB : Hid (∀ (w' : World), Below gd w w' → Tab w' gm (opOff f n) 6 encM S) := by
        intro w' hb
        exact seg_tab (HM.out.below hb hgm) HO.out hf1 hf2 (by rw [hSS, hS])
      clear hS hSl hSS hfo hTr
      have H2 : Hid (wr.cell? ⟨gt, T * 4 + 2, none⟩ = some (.int .i64 f)) := c2
      have H3 : Hid (wr.cell? ⟨gt, T * 4 + 3, none⟩ = some (.int .i64 o)) := c3
      clear c2 c3
      go_wp2_with fail
      refine (ops_core gh gt gm n m f o T wr hlt hn hm hf1 hf2 e0 e2 H2.out H3.out).mono ?_
      rintro e w3 ⟨rfl, hb3⟩
      have HI3 : Hid (Inv w w3 gd w.heap.size nk N (fun p => look (seg ops txs) p T) (fun k => seenAt (seg ops txs) k T)) := HI.out.more (by omega) hb3
      clear hb3 HI e0 e2 H2 H3
      obtain ⟨g, hg⟩ : ∃ g, opOff f n = g := ⟨_, rfl⟩
      rw [hg]
      rw [hg] at HTB
      clear hg
      have hlen : o - f ≤ 256 := by omega
      obtain ⟨ln, hln⟩ : ∃ ln, ln = o - f := ⟨_, rfl⟩
      rw [← hln] at HSL hlen
      rw [← hln]
      clear hln
      go_wp2_with fail
      go_loopw [6] (fun kk wr => ∃ (j N : Nat), j ≤ ln ∧ N ≤ T * 256 + (ln - j) ∧ kk = .int .i64 ((j : Int) - 1) ∧ Hid (Inv w wr gd w.heap.size nk N (fun p => part (seg ops txs) p T (S.drop j)) (fun k => seenIn (seg ops txs) k T (S.drop j)))) (fun kk _ => (intOf kk + 1).toNat)
      case atStart =>
        refine ⟨ln, N, Nat.le_refl _, by omega, rfl, ?_⟩
        refine HI3.out.congr (Nat.le_refl _) (fun p => ?_) (fun i hi => ?_)
        · rw [List.drop_eq_nil_of_le (by rw [HSL.out]; omega), part_nil]
        · rw [List.drop_eq_nil_of_le (by rw [HSL.out]; omega), seenIn_nil]
      case round =>
        obtain ⟨j, N2, hj, hN2, rfl, HI⟩ := hrel
        cases j with
        | zero =>
          have HI4 : Hid (Inv w wr gd w.heap.size nk N2 (fun p => look (seg ops txs) p (T + 1)) (fun k => seenAt (seg ops txs) k (T + 1))) := by
            refine HI.out.congr (Nat.le_refl _) (fun p => ?_) (fun i hi => ?_)
            · rw [List.drop_zero, HS.out, part_all]
            · rw [List.drop_zero, HS.out, seenIn_all]
          clear HI HI3 HTB HSM HS HSL
          go_wp2
          go_roundw
          case rel => exact ⟨T + 1, N2, by omega, by omega, by go_num, HI4⟩
          case measure => simp [intOf]; omega
        | succ j =>
          obtain ⟨⟨xk, xr, xe⟩, hx⟩ : ∃ x, S[j]? = some x := ⟨_, List.getElem?_eq_getElem (by rw [HSL.out]; omega)⟩
          obtain ⟨d0', d1', d2', d3', d4', d5'⟩ := (HTB.out wr HI.out.below).mopAt hx
          have hd : S.drop j = ⟨xk, xr, xe⟩ :: S.drop (j + 1) := by
            rw [List.drop_eq_getElem_cons (List.getElem?_eq_some_iff.1 hx).1]
            congr 1
            exact (List.getElem?_eq_some_iff.1 hx).2
          have HD : Hid (S.drop j = ⟨xk, xr, xe⟩ :: S.drop (j + 1)) := hd
          obtain ⟨hk0, hk1, hwe⟩ := HWF.out _ (HSM.out _ (List.mem_of_getElem? hx))
          simp only at hk0 hk1 hwe d0' d1' d3'
          have hsz : w.heap.size + 2 ≤ wr.heap.size := HI.out.size
          clear hx hd
          rw [show ((j + 1 : Nat) : Int) - 1 = (j : Int) by omega]
          cases xr with
          | true =>
            have HI4 : Hid (Inv w (wr.alloc (.cells #[.int .i64 xk, .bool true, .bool false, .int .i64 xe, .int .i64 0, .int .i64 0] 31)) gd w.heap.size nk N2 (fun p => part (seg ops txs) p T (S.drop j)) (fun k => seenIn (seg ops txs) k T (S.drop j))) := by
              refine (HI.out.more (by omega) ((Below.refl _ _).alloc (Nat.le_refl _) _)).congr (Nat.le_refl _) (fun p => ?_) (fun i hi => ?_)
              · rw [HD.out, part_read _ _ _ _ _ rfl]
              · rw [HD.out, seenIn_read _ _ _ _ _ rfl]
            clear HI HI3 HTB HSM HS HSL
            go_wp2
            go_roundw
            case rel => exact ⟨j, N2, by omega, by omega, rfl, HI4⟩
            case measure => simp [intOf]
          | false =>
            obtain ⟨i, rfl⟩ := Int.eq_ofNat_of_zero_le hk0
            have hi : i < nk := by omega
            have hia : Inv w (wr.alloc (.cells #[.int .i64 (i : Int), .bool false, .bool false, .int .i64 xe, .int .i64 0, .int .i64 0] 31)) gd w.heap.size nk N2 (fun p => part (seg ops txs) p T (S.drop (j + 1))) (fun k => seenIn (seg ops txs) k T (S.drop (j + 1))) :=
              HI.out.more (by omega) ((Below.refl _ _).alloc (Nat.le_refl _) _)
            have HIA : Hid (Inv w (wr.alloc (.cells #[.int .i64 (i : Int), .bool false, .bool false, .int .i64 xe, .int .i64 0, .int .i64 0] 31)) gd w.heap.size nk N2 (fun p => part (seg ops txs) p T (S.drop (j + 1))) (fun k => seenIn (seg ops txs) k T (S.drop (j + 1)))) := hia
            clear HI3 HTB HSM hia
            go_wp2
            have f0 : (wr.alloc (.cells #[.int .i64 (i : Int), .bool false, .bool false, .int .i64 xe, .int .i64 0, .int .i64 0] 31)).cell? ⟨wr.heap.size, 0, none⟩ = some (.int .i64 (i : Int)) := by simp [go_sem]
            have f3 : (wr.alloc (.cells #[.int .i64 (i : Int), .bool false, .bool false, .int .i64 xe, .int .i64 0, .int .i64 0] 31)).cell? ⟨wr.heap.size, 3, none⟩ = some (.int .i64 xe) := by simp [go_sem]
            obtain ⟨q, hq⟩ : ∃ q, q = wr.heap.size := ⟨_, rfl⟩
            rw [← hq] at f0 f3
            rw [← hq]
            obtain ⟨wa, hwa⟩ : ∃ wa : World, wa = wr.alloc (.cells #[.int .i64 (i : Int), .bool false, .bool false, .int .i64 xe, .int .i64 0, .int .i64 0] 31) := ⟨_, rfl⟩
            rw [← hwa] at HIA f0 f3
            rw [← hwa]
            have hqB : w.heap.size + 2 ≤ q := by rw [hq]; exact hsz
            clear hwa hq hsz d0' d1' d2' d3' d4' d5'
            have hs1 := HIA.out.seen i hi
            have hp1 := HIA.out.ptr
            have hfr := HIA.out.free i
            obtain ⟨sv, hsv⟩ : ∃ sv, seenIn (seg ops txs) (i : Int) T (S.drop (j + 1)) = sv := ⟨_, rfl⟩
            rw [hsv] at hs1
            obtain ⟨ks, hma⟩ := HIA.out.map
            obtain ⟨w1, hrun, hm1, hg1⟩ := MapAt.store (w := wa.drew) (b := w.heap.size) (n := N2) (L := fun p => part (seg ops txs) p T (S.drop (j + 1))) (ks := ks) hma (p := ((i : Int), xe)) ⟨WalkArith.wf_i64 (by omega), hwe⟩ (by unfold maxLen; omega) T (sv != (T : Int) + 1)
            simp only [keyV, eaV] at hrun
            have HSV : Hid (seenIn (seg ops txs) (i : Int) T (S.drop (j + 1)) = sv) := hsv
            have HM1 : Hid (∃ ks', MapAt w1 w.heap.size (N2 + 1) (fun q => if q = ((i : Int), xe) then some (T, sv != (T : Int) + 1) else part (seg ops txs) q T (S.drop (j + 1))) ks') := hm1
            have HG1 : Hid (wa.drew.grownBy w1 (some w.heap.size)) := hg1
            clear hsv hma hm1 hg1 HI
            have HF0 : Hid (w1.cell? ⟨q, 0, none⟩ = some (.int .i64 (i : Int))) := (World.cell?_of_block (w := wa.drew) (HG1.out.block q (World.block_lt_of_cell? _ _ f0) (by simp; omega))).trans f0
            have HF1 : Hid (w1.cell? ⟨w.heap.size + 1, i, none⟩ = some (.int .i64 sv)) := (World.cell?_of_block (w := wa.drew) (HG1.out.block (w.heap.size + 1) (World.block_lt_of_cell? _ _ hs1) (by simp))).trans hs1
            have HF2 : Hid (w1.frozen? ⟨w.heap.size + 1, i, none⟩ = false) := (World.frozen?_of_block (w := wa.drew) (HG1.out.block (w.heap.size + 1) (World.block_lt_of_cell? _ _ hs1) (by simp))).trans hfr
            go_region
            have k0 := HF0.out
            have k1 := HF1.out
            have k2 := HF2.out
            clear hrun f0 f3 hs1 hp1 hfr
            go_wp2
            have HI5 : Hid (Inv w (w1.setCell ⟨w.heap.size + 1, i, none⟩ (.int .i64 ((T : Int) + 1))) gd w.heap.size nk (N2 + 1) (fun p => part (seg ops txs) p T (S.drop j)) (fun k => seenIn (seg ops txs) k T (S.drop j))) := by
              have hdr : Inv w wa.drew gd w.heap.size nk N2 (fun p => part (seg ops txs) p T (S.drop (j + 1))) (fun k => seenIn (seg ops txs) k T (S.drop (j + 1))) := HIA.out.more (by omega) (Below.refl _ _).drew
              refine (hdr.step (by omega) HG1.out HM1.out i hi ((T : Int) + 1)).congr (Nat.le_refl _) (fun p => ?_) (fun i' hi' => ?_)
              · rw [HD.out]
                by_cases e : p = ((i : Int), xe)
                · subst e
                  have hps : part (seg ops txs) ((i : Int), xe) T (⟨(i : Int), false, xe⟩ :: S.drop (j + 1)) = some (T, !((S.drop (j + 1)).any (app (i : Int)))) := part_same (seg ops txs) T ⟨(i : Int), false, xe⟩ (S.drop (j + 1)) rfl
                  rw [if_pos rfl, hps, ← HSV.out, seenIn_last]
                · rw [if_neg e, part_other (seg ops txs) p T ⟨(i : Int), false, xe⟩ (S.drop (j + 1)) e]
              · rw [HD.out]
                by_cases e : (i' : Int) = (i : Int)
                · have hss : seenIn (seg ops txs) (i : Int) T (⟨(i : Int), false, xe⟩ :: S.drop (j + 1)) = (T : Int) + 1 := seenIn_same (seg ops txs) T ⟨(i : Int), false, xe⟩ (S.drop (j + 1)) rfl
                  rw [if_pos e, e, hss]
                · rw [if_neg e, seenIn_other (seg ops txs) (i' : Int) T ⟨(i : Int), false, xe⟩ (S.drop (j + 1)) e]
            go_roundw
            case rel => exact ⟨j, N2 + 1, by omega, by omega, rfl, HI5⟩
            case measure => simp [intOf]
    · obtain rfl : T = m := by omega
      go_wp2
      go_end0
      exact ⟨rfl, _, N, HI.out⟩
end Go.Proofs.Ybulkdlum.lawA
