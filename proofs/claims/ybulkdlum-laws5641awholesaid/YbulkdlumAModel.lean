/- LawS5641AWhole: the contract of 'zzs5641amodel'. -/
import Derived.Test.YbulkdlumAOps
namespace Go.Proofs.Ybulkdlum.lawA
open Go.RowKit
set_option linter.unusedVariables false

/-- the operations of transaction t -/
def seg (ops : List Mop) (txs : List (Nat × Nat)) (t : Nat) : List Mop := (ops.drop (txs[t]?.getD (0, 0)).1).take ((txs[t]?.getD (0, 0)).2 - (txs[t]?.getD (0, 0)).1)

def ansT : Option (Nat × Bool) → Int | some x => x.1 | none => -1
def ansB : Option (Nat × Bool) → Bool | some x => x.2 | none => false

/-- two worlds apart by new blocks from B on; the two boxes of the model's frame -/
def box2 (w : World) (p : KE) : World := (w.alloc (.cells #[.int .i64 p.1, .int .i64 p.2] 48)).alloc (.cells #[.int .i64 0, .int .i64 0, .bool false] 51)

theorem box2_size (w : World) (p : KE) : (box2 w p).heap.size = w.heap.size + 2 := by simp [box2]
theorem box2_below (w : World) (p : KE) : Below w.heap.size w (box2 w p) := ((Below.refl _ _).alloc (Nat.le_refl _) _).alloc (by simp) _
theorem box2_cells {w wr : World} {p : KE} (h : Below (w.heap.size + 2) (box2 w p) wr) :
    wr.cell? ⟨w.heap.size, 0, none⟩ = some (.int .i64 p.1) ∧ wr.cell? ⟨w.heap.size, 1, none⟩ = some (.int .i64 p.2) := by
  constructor
  · rw [h.cell (p := ⟨w.heap.size, 0, none⟩) (by simp)]; simp [box2, go_sem]
  · rw [h.cell (p := ⟨w.heap.size, 1, none⟩) (by simp)]; simp [box2, go_sem]

theorem box2_res {w wr : World} {p : KE} (h : Below (w.heap.size + 2) (box2 w p) wr) :
    wr.cell? ⟨w.heap.size + 1, 0, none⟩ = some (.int .i64 0) ∧ wr.cell? ⟨w.heap.size + 1, 1, none⟩ = some (.int .i64 0) ∧ wr.cell? ⟨w.heap.size + 1, 2, none⟩ = some (.bool false) ∧ ∀ o, wr.frozen? ⟨w.heap.size + 1, o, none⟩ = false := by
  have e : (w.alloc (.cells #[.int .i64 p.1, .int .i64 p.2] 48)).heap.size = w.heap.size + 1 := by simp
  refine ⟨?_, ?_, ?_, fun o => ?_⟩
  · rw [h.cell (p := ⟨w.heap.size + 1, 0, none⟩) (by simp)]; unfold box2; rw [← e]; simp [go_sem]
  · rw [h.cell (p := ⟨w.heap.size + 1, 1, none⟩) (by simp)]; unfold box2; rw [← e]; simp [go_sem]
  · rw [h.cell (p := ⟨w.heap.size + 1, 2, none⟩) (by simp)]; unfold box2; rw [← e]; simp [go_sem]
  · rw [h.frozen (p := ⟨w.heap.size + 1, o, none⟩) (by simp)]; unfold box2; rw [← e]; simp [go_sem]
theorem box2_end {w wr : World} {p : KE} (h : Below (w.heap.size + 2) (box2 w p) wr) (v0 v1 v2 : Value) :
    Below w.heap.size w (((wr.setCell ⟨w.heap.size + 1, 0, none⟩ v0).setCell ⟨w.heap.size + 1, 1, none⟩ v1).setCell ⟨w.heap.size + 1, 2, none⟩ v2) :=
  ((((box2_below w p).trans (h.mono (by omega))).setCell (by simp) _).setCell (by simp) _).setCell (by simp) _

theorem Tab.mopAt {w : World} {g off : Nat} {xs : List Mop} (h : Tab w g off 6 encM xs) {j : Nat} {x : Mop} (hj : xs[j]? = some x) :
    w.cell? ⟨g, off + j * 6, none⟩ = some (.int .i64 x.k) ∧ w.cell? ⟨g, off + j * 6 + 1, none⟩ = some (.bool x.r) ∧ w.cell? ⟨g, off + j * 6 + 2, none⟩ = some (.bool false) ∧
    w.cell? ⟨g, off + j * 6 + 3, none⟩ = some (.int .i64 x.e) ∧ w.cell? ⟨g, off + j * 6 + 4, none⟩ = some (.int .i64 0) ∧ w.cell? ⟨g, off + j * 6 + 5, none⟩ = some (.int .i64 0) :=
  ⟨h j _ hj 0 _ rfl, h j _ hj 1 _ rfl, h j _ hj 2 _ rfl, h j _ hj 3 _ rfl, h j _ hj 4 _ rfl, h j _ hj 5 _ rfl⟩

/-- what transaction t is -/
theorem seg_at {ops : List Mop} {txs : List (Nat × Nat)} {n t : Nat} (ho : ops.length = n) (ht : t < txs.length)
    (hok : ∀ t, t < txs.length → (txs[t]?.getD (0, 0)).1 ≤ (txs[t]?.getD (0, 0)).2 ∧ (txs[t]?.getD (0, 0)).2 ≤ n) :
    ∃ f o, txs[t]? = some (f, o) ∧ f ≤ o ∧ o ≤ n ∧ seg ops txs t = (ops.drop f).take (o - f) ∧ (seg ops txs t).length = o - f := by
  have h := hok t ht
  obtain ⟨x, hx⟩ : ∃ x, txs[t]? = some x := ⟨_, List.getElem?_eq_getElem ht⟩
  rw [hx] at h
  refine ⟨x.1, x.2, hx, h.1, h.2, by simp [seg, hx], ?_⟩
  have := h.1
  have := h.2
  simp only [Option.getD_some] at *
  simp [seg, hx]
  omega
theorem seg_tab {w : World} {gm n f o : Nat} {ops : List Mop} {S : List Mop} (hM : Tab w gm 0 6 encM ops) (ho : ops.length = n) (h1 : f ≤ o) (h2 : o ≤ n) (hS : S = (ops.drop f).take (o - f)) : Tab w gm (opOff f n) 6 encM S := by
  subst hS
  subst ho
  exact hM.cut f o h1 h2

/-- at the end of the model's search -/
theorem look_found {segs : Nat → List Mop} {p : KE} {m T k : Nat} {x : Mop} (h1 : look segs p m = look segs p (T + 1)) (h2 : lastB p (segs T) = lastB p ((segs T).drop k)) (hx : (segs T)[k]? = some x) (hh : hit p x = true) :
    look segs p m = some (T, !(((segs T).drop (k + 1)).any (app p.1))) := by
  have hd : (segs T).drop k = x :: (segs T).drop (k + 1) := by
    rw [List.drop_eq_getElem_cons (List.getElem?_eq_some_iff.1 hx).1]
    congr 1
    exact (List.getElem?_eq_some_iff.1 hx).2
  rw [h1]
  unfold look
  rw [h2, hd]
  simp [lastB, hh]
theorem lastB_next {segs : List Mop} {p : KE} {k : Nat} {x : Mop} (h2 : lastB p segs = lastB p (segs.drop k)) (hx : segs[k]? = some x) (hh : hit p x = false) : lastB p segs = lastB p (segs.drop (k + 1)) := by
  have hd : segs.drop k = x :: segs.drop (k + 1) := by
    rw [List.drop_eq_getElem_cons (List.getElem?_eq_some_iff.1 hx).1]
    congr 1
    exact (List.getElem?_eq_some_iff.1 hx).2
  rw [h2, hd]
  simp [lastB, hh]
theorem look_none {segs : Nat → List Mop} {p : KE} {m T k : Nat} (h1 : look segs p m = look segs p (T + 1)) (h2 : lastB p (segs T) = lastB p ((segs T).drop k)) (hk : (segs T).length ≤ k) : look segs p m = look segs p T := by
  rw [h1]
  rw [List.drop_eq_nil_of_le hk] at h2
  show (match lastB p (segs T) with | some b => some (T, b) | none => look segs p T) = _
  rw [h2]
  rfl
theorem any_next {S : List Mop} {q : Mop → Bool} {a j : Nat} {x : Mop} (haj : a ≤ j) (hx : S[j]? = some x) : ((S.drop a).take (j + 1 - a)).any q = (((S.drop a).take (j - a)).any q || q x) := by
  rw [show j + 1 - a = (j - a) + 1 by omega, List.take_add_one, List.any_append]
  rw [List.getElem?_drop, show a + (j - a) = j by omega, hx]
  simp

theorem hit_false_of {p : KE} {x : Mop} (h : x.r = true ∨ x.k ≠ p.1 ∨ x.e ≠ p.2) : hit p x = false := by
  unfold hit
  rcases h with h | h | h <;> simp [h]
theorem hit_true_of {p : KE} {x : Mop} (h1 : x.r = false) (h2 : x.k = p.1) (h3 : x.e = p.2) : hit p x = true := by simp [hit, h1, h2, h3]

set_option maxRecDepth 100000 in
set_option maxHeartbeats 3200000 in
theorem model_any (gm gt n m : Nat) (ops : List Mop) (txs : List (Nat × Nat)) (p : KE) (w : World) (hn : n ≤ 256) (hm : m ≤ 256) (ho : ops.length = n) (hx : txs.length = m)
    (hok : ∀ t, t < txs.length → (txs[t]?.getD (0, 0)).1 ≤ (txs[t]?.getD (0, 0)).2 ∧ (txs[t]?.getD (0, 0)).2 ≤ n)
    (hM : Tab w gm 0 6 encM ops) (hT : Tab w gt 0 4 encT txs) :
    Calls Yba.prog 13 #[.slice (some ⟨gm, 0, none⟩) n n, .slice (some ⟨gt, 0, none⟩) m m, .agg #[.int .i64 p.1, .int .i64 p.2]] w fun e w' =>
      e = .returned (.agg #[.int .i64 (ansT (look (seg ops txs) p m)), .int .i64 (-1), .bool (ansB (look (seg ops txs) p m))]) ∧ Below w.heap.size w w' := by
  have HO : Hid (ops.length = n) := ho
  have HX : Hid (txs.length = m) := hx
  have HOK : Hid (∀ t, t < txs.length → (txs[t]?.getD (0, 0)).1 ≤ (txs[t]?.getD (0, 0)).2 ∧ (txs[t]?.getD (0, 0)).2 ≤ n) := hok
  have HM : Hid (Tab w gm 0 6 encM ops) := hM
  have HT : Hid (Tab w gt 0 4 encT txs) := hT
  clear ho hx hok hM hT
  go_enter Yba.func13, Yba.ntmps13
  go_wp2
  go_loopw [7] (fun t wr => ∃ T : Nat, T ≤ m ∧ t = .int .i64 ((T : Int) - 1) ∧ Hid (look (seg ops txs) p m = look (seg ops txs) p T) ∧ Hid (Below (w.heap.size + 2) (box2 w p) wr)) (fun t _ => (intOf t + 1).toNat)
  case atStart => exact ⟨m, Nat.le_refl _, rfl, rfl, Below.refl _ _⟩
  case round =>
    obtain ⟨T, hT1, rfl, HL, HB⟩ := hrel
    obtain ⟨r0, r1, r2, rf⟩ := box2_res HB.out
    cases T with
    | zero =>
      have hL0 : look (seg ops txs) p m = none := HL.out
      have HL0 : Hid (look (seg ops txs) p m = none) := hL0
      clear hL0 HL
      go_wp2
      refine bodyPost_ret (v := .agg #[.int .i64 (-1), .int .i64 (-1), .bool false]) (by simp [results, Yba.results13, go_sem, r0, r1, r2]) rfl ?_
      rw [HL0.out]
      exact ⟨rfl, box2_end HB.out _ _ _⟩
    | succ T =>
      obtain ⟨f, o, hfo, h1, h2, hS, hSl⟩ := seg_at (ops := ops) HO.out (show T < txs.length by rw [HX.out]; omega) HOK.out
      have hTr : Tab wr gt 0 4 encT txs := (HT.out.later (box2_below w p)).below HB.out (by
        have := World.block_lt_of_cell? _ _ (HT.out T _ hfo 2 _ rfl)
        exact Nat.lt_of_lt_of_le this (by omega))
      have c2 := hTr T _ hfo 2 _ rfl
      have c3 := hTr T _ hfo 3 _ rfl
      simp only [Nat.zero_add] at c2 c3
      obtain ⟨S, hSS⟩ : ∃ S, S = seg ops txs T := ⟨_, rfl⟩
      obtain ⟨g, hg⟩ : ∃ g, g = opOff f n := ⟨_, rfl⟩
      have HS : Hid (S = seg ops txs T) := hSS
      have HSL : Hid (S.length = o - f) := by show _ = _; rw [hSS]; exact hSl
      have HG : Hid (g = opOff f n) := hg
      have HTB : Hid (∀ (w' : World), Below (w.heap.size + 2) (box2 w p) w' → ∀ (j : Nat) (x : Mop), S[j]? = some x → Tab w' gm g 6 encM S) := by
        intro w' hb j x hj
        have hn0 : 0 < ops.length := by
          have : 0 < S.length := by have := (List.getElem?_eq_some_iff.1 hj).1; omega
          rw [HSL.out] at this
          rw [HO.out]; omega
        have hb0 := World.block_lt_of_cell? _ _ (HM.out 0 _ (List.getElem?_eq_getElem hn0) 0 _ rfl)
        have hM' : Tab w' gm 0 6 encM ops := (HM.out.later (box2_below w p)).below hb (Nat.lt_of_lt_of_le hb0 (by omega))
        rw [hg]
        exact seg_tab hM' HO.out h1 h2 (by rw [hSS, hS])
      clear hS hSl hSS hfo hTr hg
      have hTm : T < m := by omega
      clear hT1
      rw [show ((T + 1 : Nat) : Int) - 1 = (T : Int) by omega]
      by_cases hfn : f = n
      · have HLN : Hid (look (seg ops txs) p m = look (seg ops txs) p T) := by
          have hz : S = [] := List.eq_nil_of_length_eq_zero (by rw [HSL.out]; omega)
          have hz2 : (seg ops txs T).length ≤ 0 := by rw [← HS.out, hz]; simp
          exact look_none (k := 0) HL.out rfl hz2
        clear HTB HG HS HSL HL
        go_wp2
        go_quiet (fail)
        go_wp2
        refine wp_loop_rounds 1 ?_
        rw [rounds_succ]
        go_wp2
        go_roundw
        case rel => exact ⟨T, by omega, rfl, HLN, below_drewN HB.out _⟩
        case measure => simp [intOf]
      · have hg6 : g = f * 6 := by rw [HG.out]; simp [opOff, hfn]
        subst hg6
        clear HG
        go_wp2
        go_quiet (fail)
        go_wp2
        obtain ⟨wo, hwo⟩ : ∃ wo : World, wo = wr.drewN nq := ⟨_, rfl⟩
        have HBo : Hid (Below (w.heap.size + 2) (box2 w p) wo) := by show Below _ _ _; rw [hwo]; exact below_drewN HB.out _
        rw [← hwo]
        clear hwo HB r0 r1 r2 rf c2 c3
        go_loopw [9] (fun kk wr => ∃ k : Nat, k ≤ o - f ∧ kk = .int .i64 k ∧ Hid (lastB p S = lastB p (S.drop k)) ∧ Hid (Below (w.heap.size + 2) (box2 w p) wr)) (fun kk _ => (o - f) - (intOf kk).toNat)
        case atStart => exact ⟨0, Nat.zero_le _, rfl, rfl, HBo⟩
        case round =>
          obtain ⟨k, hk, rfl, HK, HB⟩ := hrel
          by_cases hlt : k < o - f
          · obtain ⟨⟨xk, xr, xe⟩, hx⟩ : ∃ x, S[k]? = some x := ⟨_, List.getElem?_eq_getElem (by rw [HSL.out]; omega)⟩
            obtain ⟨d0, d1, d2, d3, d4, d5⟩ := (HTB.out wr HB.out k _ hx).mopAt hx
            obtain ⟨q0, q1⟩ := box2_cells HB.out
            have hsz : w.heap.size + 1 < wr.heap.size := by have := HB.out.size; rw [box2_size] at this; omega
            have hsz0 : w.heap.size < wr.heap.size := by omega
            have HXX : Hid (S[k]? = some ⟨xk, xr, xe⟩) := hx
            clear hx
            have hcont : ∀ (hh : hit p ⟨xk, xr, xe⟩ = false), Hid (lastB p S = lastB p (S.drop (k + 1))) := fun hh => lastB_next HK.out HXX.out hh
            have HCONT : Hid (∀ (hh : hit p ⟨xk, xr, xe⟩ = false), Hid (lastB p S = lastB p (S.drop (k + 1)))) := hcont
            clear hcont
            simp only at d0 d1 d3
            cases xr with
            | true =>
              have HN := HCONT.out (hit_false_of (.inl rfl))
              go_wp2
              go_roundw
              case rel => exact ⟨k + 1, by omega, by go_num, HN, HB.out.alloc (by omega) _⟩
              case measure => simp [intOf]; omega
            | false =>
              by_cases hk1 : xk = p.1
              · by_cases hk2 : xe = p.2
                · have b1 : (xk != p.1) = false := by simp [hk1]
                  have b2 : (xe != p.2) = false := by simp [hk2]
                  have HF := look_found (p := p) HL.out (by rw [← HS.out]; exact HK.out) (by rw [← HS.out]; exact HXX.out) (hit_true_of rfl hk1 hk2)
                  rw [← HS.out] at HF
                  have HF2 : Hid (look (seg ops txs) p m = some (T, !((S.drop (k + 1)).any (app p.1)))) := HF
                  clear HF HCONT hk1 hk2 HL HK
                  go_wp2
                  clear d0 d1 d2 d3 d4 d5 q0 q1 b1 b2
                  have HB3 : Hid (Below (w.heap.size + 2) (box2 w p) (wr.alloc (Obj.cells #[Value.int IntKind.i64 xk, Value.bool false, Value.bool false, Value.int IntKind.i64 xe, Value.int IntKind.i64 0, Value.int IntKind.i64 0] 31))) := HB.out.alloc (by omega) _
                  obtain ⟨wp, hwp⟩ : ∃ wp : World, wp = wr.alloc (Obj.cells #[Value.int IntKind.i64 xk, Value.bool false, Value.bool false, Value.int IntKind.i64 xe, Value.int IntKind.i64 0, Value.int IntKind.i64 0] 31) := ⟨_, rfl⟩
                  rw [← hwp]
                  rw [← hwp] at HB3
                  clear hwp HB hsz hsz0
                  go_loopw [11, 12] (fun l jv wr => ∃ (j : Nat) (b : Bool), k + 1 ≤ j ∧ j ≤ o - f ∧ jv = .int .i64 j ∧ l = .bool b ∧ Hid (b = !(((S.drop (k + 1)).take (j - (k + 1))).any (app p.1))) ∧ Hid (Below (w.heap.size + 2) (box2 w p) wr)) (fun _ jv _ => (o - f) - (intOf jv).toNat)
                  case atStart => exact ⟨k + 1, true, Nat.le_refl _, by omega, by go_num, rfl, by show _ = _; simp, HB3⟩
                  case round =>
                    obtain ⟨j, b, hkj, hjl, rfl, rfl, HJ, HB⟩ := hrel
                    by_cases hj : j < o - f
                    · obtain ⟨⟨yk, yr, ye⟩, hy⟩ : ∃ x, S[j]? = some x := ⟨_, List.getElem?_eq_getElem (by rw [HSL.out]; omega)⟩
                      obtain ⟨d0, d1, d2, d3, d4, d5⟩ := (HTB.out wr HB.out j _ hy).mopAt hy
                      obtain ⟨q0, q1⟩ := box2_cells HB.out
                      have hnx := any_next (q := app p.1) hkj hy
                      have HNX : Hid (((S.drop (k + 1)).take (j + 1 - (k + 1))).any (app p.1) = (((S.drop (k + 1)).take (j - (k + 1))).any (app p.1) || app p.1 ⟨yk, yr, ye⟩)) := hnx
                      clear hnx hy d2 d3 d4 d5 q1
                      simp only at d0 d1
                      cases yr with
                      | true =>
                        have HE : Hid (b = !(((S.drop (k + 1)).take (j + 1 - (k + 1))).any (app p.1))) := by show _ = _; rw [HNX.out, HJ.out]; simp [app]
                        go_wp2
                        go_quiet (fail)
                        go_wp2
                        go_roundw
                        case rel => exact ⟨j + 1, b, by omega, by omega, by go_num, rfl, HE, below_drewN HB.out _⟩
                        case measure => simp [intOf]; omega
                      | false =>
                        by_cases hyk : yk = p.1
                        · have HE : Hid (false = !(((S.drop (k + 1)).take (j + 1 - (k + 1))).any (app p.1))) := by show _ = _; rw [HNX.out]; simp [app, hyk]
                          have b1 : (yk == p.1) = true := by simp [hyk]
                          clear hyk
                          go_wp2
                          go_quiet (fail)
                          go_wp2
                          go_roundw
                          case rel => exact ⟨j + 1, false, by omega, by omega, by go_num, rfl, HE, below_drewN HB.out _⟩
                          case measure => simp [intOf]; omega
                        · have HE : Hid (b = !(((S.drop (k + 1)).take (j + 1 - (k + 1))).any (app p.1))) := by show _ = _; rw [HNX.out, HJ.out]; simp [app, hyk]
                          have b1 : (yk == p.1) = false := by simpa using hyk
                          clear hyk
                          go_wp2
                          go_quiet (fail)
                          go_wp2
                          go_roundw
                          case rel => exact ⟨j + 1, b, by omega, by omega, by go_num, rfl, HE, below_drewN HB.out _⟩
                          case measure => simp [intOf]; omega
                    · have hb : b = !((S.drop (k + 1)).any (app p.1)) := by
                        rw [HJ.out, List.take_of_length_le (by rw [List.length_drop, HSL.out]; omega)]
                      have HE : Hid (look (seg ops txs) p m = some (T, b)) := by show _ = _; rw [HF2.out, hb]
                      obtain ⟨r0, r1, r2, rf⟩ := box2_res HB.out
                      clear hb HF2 HJ
                      go_wp2
                      refine bodyPost_ret (v := .agg #[.int .i64 (T : Int), .int .i64 (-1), .bool b]) (by simp [results, Yba.results13, go_sem, r0, r1, r2]) rfl ?_
                      rw [HE.out]
                      exact ⟨rfl, box2_end HB.out _ _ _⟩
                · have b1 : (xk != p.1) = false := by simp [hk1]
                  have b2 : (xe != p.2) = true := by simpa using hk2
                  have HN := HCONT.out (hit_false_of (.inr (.inr hk2)))
                  clear hk1 hk2
                  go_wp2
                  go_roundw
                  case rel => exact ⟨k + 1, by omega, by go_num, HN, HB.out.alloc (by omega) _⟩
                  case measure => simp [intOf]; omega
              · have b1 : (xk != p.1) = true := by simpa using hk1
                have HN := HCONT.out (hit_false_of (.inr (.inl hk1)))
                clear hk1
                go_wp2
                go_roundw
                case rel => exact ⟨k + 1, by omega, by go_num, HN, HB.out.alloc (by omega) _⟩
                case measure => simp [intOf]; omega
          · have HLN : Hid (look (seg ops txs) p m = look (seg ops txs) p T) :=
              look_none (k := k) HL.out (by rw [← HS.out]; exact HK.out) (by rw [← HS.out, HSL.out]; omega)
            clear HTB HS HSL HL HK
            go_wp2
            go_roundw
            case rel => exact ⟨T, by omega, rfl, HLN, HB⟩
            case measure => simp [intOf]
end Go.Proofs.Ybulkdlum.lawA
