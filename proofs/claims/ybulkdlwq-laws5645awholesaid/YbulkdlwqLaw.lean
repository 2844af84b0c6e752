/- LawS5645AWhole: the law's walk. -/
import Derived.Test.YbulkdlwqOwn
import Derived.Test.YbulkdlwqShape
import Derived.Test.YbulkdlwqLib
import Derived.Test.YbulkdlwqZz
import Derived.Test.YbulkdlwqBits
import Derived.Test.YbulkdlwqStep
import Derived.Test.YbulkdlwqMake
import Derived.Deep.DeepCutAuto
import Derived.Deep.CutBlock
import Derived.BigQuiet
namespace Go.Proofs.Ybulkdlwq.huff
open Go.RowKit
set_option linter.unusedVariables false

/-- a slice of integers that came in -/
def Arg (w : World) (a : Option Addr) (n : Nat) (k : IntKind) (f : Nat → Nat) : Prop := 0 < n → ∃ g o, a = some ⟨g, o, none⟩ ∧ Rd w g o n k f
/-- the value of symbol i -/
def val (f2 : Nat → Nat) (n2 i : Nat) : Nat := (if n2 = 0 then i * 65536 else f2 (i % n2)) &&& 4294966256
set_option maxRecDepth 100000 in
theorem info32 : (Yba.prog.info? 32).map (fun i => (i.zero, i.size)) = some (some (.agg (ofN 1024 .u32 (fun _ => 0) ++ #[.slice none 0 0, .int .u64 ((0 : Nat) : Int)])), 1026) := by kernel_rfl
theorem Sub.later {w w' : World} {h size : Nat} {sl : Value} {f : Nat → Nat} (hs : Sub w h sl size f) (hb : Below w.heap.size w w') : Sub w' h sl size f := by
  rcases hs with h0 | ⟨gs, h1, h2, h3⟩
  · exact .inl h0
  · exact .inr ⟨gs, h1, h2, h3.later hb⟩
theorem val_get (f2 : Nat → Nat) (n2 n : Nat) (s : Nat) : ((List.range n).map (val f2 n2)).getD s 0 = if s < n then val f2 n2 s else 0 := by
  rw [List.getD_eq_getElem?_getD]
  by_cases h : s < n
  · simp [h]
  · simp [h]
theorem val_clear (f2 : Nat → Nat) (n2 n : Nat) : Clear ((List.range n).map (val f2 n2)) := by
  intro s
  rw [val_get]
  split
  · exact ⟨(clear_and _).1, (clear_and _).2.1⟩
  · exact ⟨rfl, rfl⟩
theorem val_32 (f2 : Nat → Nat) (n2 n : Nat) (s : Nat) : ((List.range n).map (val f2 n2)).getD s 0 < 4294967296 := by
  rw [val_get]
  split
  · exact (clear_and _).2.2
  · decide
/-- a load whose value is known, in a region walked quietly: as if the value were assigned -/
theorem quiet_load {P : Program} {o : Oper} {a : Act} {C : World → Prop} {K : Act → Prop} (t : TypeId) (x : Operand) (ho : o.op = .load t x) (p v : Value) (hp : a.eval x = p) (o' : Oper) (hd : o'.dst = o.dst) (ho' : o'.op = .assign (.const v))
    (h : ∀ w, C w → (Instr.loadAt t p).run P w = .ok v w) (hk : o'.quiet P a C K) : o.quiet P a C K := by
  obtain ⟨u, h1, h2⟩ := hk
  refine ⟨u, fun w hw => ?_, by rw [← hd]; exact h2⟩
  have e : (execOp a.eval o).run P w = (execOp a.eval o').run P w := by
    have ec : a.eval (.const v) = v := rfl
    unfold execOp
    rw [ho, ho']
    simp [hp, h w hw, ec]
  have h3 := h1 w hw
  unfold Oper.quietAt at h3 ⊢
  rw [e]
  exact h3
theorem info5 : (Yba.prog.info? 5).map (fun i => (i.zero, i.size, i.bytes)) = some (some (.int .u8 0), 1, 1) := by kernel_rfl

set_option maxRecDepth 100000 in
set_option maxHeartbeats 3200000 in
theorem law_any (a0 a1 a2 : Option Addr) (n0 c0 n1 c1 n2 c2 b : Nat) (f0 f1 f2 : Nat → Nat) (one : Bool) (w : World) (h0 : Arg w a0 n0 .u16 f0) (h1 : Arg w a1 n1 .u8 f1) (h2 : Arg w a2 n2 .u32 f2) (hf0 : ∀ i, f0 i < 65536) (hf1 : ∀ i, f1 i < 256) (hf2 : ∀ i, f2 i < 4294967296) (hb : b < 18446744073709551616)
    (hn0 : n0 ≤ 1048576) (hn1 : n1 ≤ 1048576) (hn2 : n2 ≤ 1048576) :
    Calls Yba.prog 3 #[.slice a0 n0 c0, .slice a1 n1 c1, .slice a2 n2 c2, .bool one, .int .u64 (b : Nat)] w fun e w' => e = .returned (.bool true) ∧ Below w.heap.size w w' := by
  have HA0 : Hid (Arg w a0 n0 .u16 f0) := h0
  have HA1 : Hid (Arg w a1 n1 .u8 f1) := h1
  have HA2 : Hid (Arg w a2 n2 .u32 f2) := h2
  have HF0 : Hid (∀ i, f0 i < 65536) := hf0
  have HF1 : Hid (∀ i, f1 i < 256) := hf1
  have HF2 : Hid (∀ i, f2 i < 4294967296) := hf2
  clear h0 h1 h2 hf0 hf1 hf2
  go_enter Yba.func3, Yba.ntmps3
  go_upto_if 47 with fail
  obtain ⟨i5, hi5, hz5, hs5, hb5⟩ := info_parts info5
  go_cut [11] (fun s11 wc => Hid (∃ (A : List Nat) (nA g cap : Nat), s11 = .slice (some ⟨g, 0, none⟩) nA cap ∧ 1 ≤ nA ∧ nA ≤ 288 ∧ A.length = nA ∧ Leaves A ∧ Own wc w.heap.size g cap A ∧ Below w.heap.size w wc))
  case first =>
    have HB0 : Hid (Below w.heap.size w (w.alloc (.cells #[.int .u8 0] 5))) := (Below.refl _ _).alloc (Nat.le_refl _) _
    cases one with
    | true =>
      go_wp2_with fail
      go_meet
      refine ⟨[1], 1, w.heap.size + 1, 1, rfl, by omega, by omega, rfl, .inl rfl, ?_, HB0.out.alloc (by simp) _⟩
      have h := (Own.new (w.alloc (.cells #[.int .u8 0] 5)) 1).mono (base' := w.heap.size) (by simp)
      rw [show (w.alloc (.cells #[.int .u8 0] 5)).heap.size = w.heap.size + 1 by simp] at h
      exact h
    | false =>
      have HO0 : Hid (Own (w.alloc (.cells #[.int .u8 0] 5)) w.heap.size w.heap.size 1 [0]) := Own.new w 0
      go_wp2_with fail
      go_loopw [51, 11] (fun iv s11 wr => ∃ (k : Nat) (A : List Nat) (nA g cap : Nat), k ≤ n0 ∧ iv = .int .i64 k ∧ s11 = .slice (some ⟨g, 0, none⟩) nA cap ∧ 1 ≤ nA ∧ nA ≤ 288 ∧ Hid (A.length = nA) ∧ Hid (Tree A) ∧ Hid (Own wr w.heap.size g cap A) ∧ Hid (Below w.heap.size w wr)) (fun iv _ _ => n0 - (intOf iv).toNat)
      case atStart => exact ⟨0, [0], 1, w.heap.size, 1, Nat.zero_le _, rfl, rfl, by omega, by omega, rfl, .inl rfl, HO0, HB0⟩
      case round =>
        obtain ⟨k, A, nA, g, cap, hk, rfl, rfl, hA1, hA2, HLEN, HT, HO, HB⟩ := hrel
        clear HO0 HB0
        have HMET : Hid (∃ (A : List Nat) (nA' g' cap' : Nat), (.slice (some ⟨g, 0, none⟩) nA cap : Value) = .slice (some ⟨g', 0, none⟩) nA' cap' ∧ 1 ≤ nA' ∧ nA' ≤ 288 ∧ A.length = nA' ∧ Leaves A ∧ Own wr w.heap.size g' cap' A ∧ Below w.heap.size w wr) := ⟨A, nA, g, cap, rfl, hA1, hA2, HLEN.out, .inr HT.out, HO.out, HB.out⟩
        by_cases hlt : k < n0
        · obtain ⟨g0, o0, rfl, hR0⟩ := HA0.out (by omega)
          obtain ⟨v, hv⟩ : ∃ v, v = f0 k := ⟨_, rfl⟩
          have cv : wr.cell? ⟨g0, o0 + k, none⟩ = some (.int .u16 (v : Nat)) := by rw [hv]; exact (hR0.later HB.out) k hlt
          have hv16 : v < 65536 := by rw [hv]; exact HF0.out k
          clear hR0 hv
          by_cases hful : nA < 288
          · obtain ⟨vm, hvm⟩ : ∃ vm, vm = v % nA := ⟨_, rfl⟩
            have hm : vm < nA := by rw [hvm]; exact Nat.mod_lt _ (by omega)
            have emod : (v : Int) % (nA : Int) = (vm : Nat) := by rw [hvm]; simp
            obtain ⟨ix, hix⟩ : ∃ ix, ix = nA - 1 - vm := ⟨_, rfl⟩
            have hix1 : ix < nA := by omega
            have eix : (nA : Int) - 1 - (vm : Int) = (ix : Nat) := by omega
            clear hix hvm
            obtain ⟨a, ha⟩ : ∃ a, A[ix]? = some a := ⟨_, List.getElem?_eq_getElem (by rw [HLEN.out]; exact hix1)⟩
            have HA : Hid (A[ix]? = some a) := ha
            have ca := HO.out.cell ha
            have cf := HO.out.free ix
            have ha15 : a ≤ 15 := HT.out.le a (List.mem_of_getElem? ha)
            clear ha
            go_upto_if 71 with fail
            go_cut [11] (fun s11 wc => Hid (∃ (A : List Nat) (nA g cap : Nat), s11 = .slice (some ⟨g, 0, none⟩) nA cap ∧ 1 ≤ nA ∧ nA ≤ 288 ∧ A.length = nA ∧ Tree A ∧ Own wc w.heap.size g cap A ∧ Below w.heap.size w wc))
            case first =>
              by_cases hlt15 : a < 15
              · have hlt15' : a < 15 := hlt15
                obtain ⟨x1, hx1⟩ : ∃ x1, x1 = a + 1 := ⟨_, rfl⟩
                have ex1 : (a : Int) + 1 = (x1 : Nat) := by omega
                have HXE : Hid (x1 = a + 1) := hx1
                have hx1b : x1 ≤ 15 := by omega
                have wx1 := wr_u8 x1 (by omega)
                clear hx1
                have HOW : Hid (((wr.setCell ⟨g, ix, none⟩ (.int .u8 (x1 : Nat))).alloc (.cells #[.int .u8 (x1 : Nat)] 5)).ownsRow w.heap.size 5 1 (.slice (some ⟨g, 0, none⟩) nA cap) nA (u8s (A.set ix x1))) := by
                  have h := ((HO.out.set (b := x1) (by rw [HLEN.out]; exact hix1)).alloc (.cells #[.int .u8 (x1 : Nat)] 5))
                  unfold Own at h
                  rw [List.length_set, HLEN.out] at h
                  exact h
                go_wp2_with (at_builtin; refine wpList_append_own _ rfl (.tmp 78) (.tmp 83) 23 rfl w.heap.size 5 i5 _ 1 1 Yba.underlying23 hi5 hz5 hs5 hb5 rfl (by omega) _ nA (u8s (A.set ix x1)) rfl HOW.out ⟨wr.heap.size, 0, none⟩ 1 1 [.int .u8 (x1 : Nat)] rfl ?hl ?hnews ?h1 ?h63 ?hby ?hbase ?_)
                case hl => rfl
                case hnews => exact news_one _ _ _ _ (by simp)
                case h1 => exact ones_one _ _
                case h63 => unfold maxLen; omega
                case hby => omega
                case hbase => have := HB.out.size; simp; omega
                intro v' w1 hown hgrow _
                obtain ⟨g', cap', hv', ho'⟩ := Own.grown (A := A.set ix x1) (d := x1) (by rw [List.length_set, HLEN.out]; exact hown)
                rw [List.length_set, HLEN.out] at hv'
                subst hv'
                have HO1 : Hid (Own w1 w.heap.size g' cap' (A.set ix x1 ++ [x1])) := ho'
                have HB1 : Hid (Below w.heap.size w w1) := ((HB.out.setCell (p := ⟨g, ix, none⟩) HO.out.ge _).alloc (by have := HB.out.size; simp; omega) _).trans (Below.grow hgrow HO.out.ge (by have := HB.out.size; simp; omega))
                have HT1 : Hid (Tree (A.set ix x1 ++ [x1])) := by rw [HXE.out]; exact HT.out.split HA.out hlt15
                have HL1 : Hid ((A.set ix x1 ++ [x1]).length = nA + 1) := by show _ = _; rw [List.length_append, List.length_set, HLEN.out]; rfl
                clear hown hgrow ho' HOW
                go_wp2_with fail
                go_meet
                exact ⟨A.set ix x1 ++ [x1], nA + 1, g', cap', rfl, by omega, by omega, HL1.out, HT1.out, HO1.out, HB1.out⟩
              · go_wp2_with fail
                go_meet
                exact ⟨A, nA, g, cap, rfl, hA1, hA2, HLEN.out, HT.out, HO.out, HB.out⟩
            case rest =>
              clear HMET HO HB HT HLEN HA ca cf ha15 emod eix hm hix1 cv hv16 hA1 hA2
              obtain ⟨A2, m2, g2, cap2, rfl, hm1, hm2, hlen2, ht2, ho2, hb2⟩ := hcut.out
              have HLEN2 : Hid (A2.length = m2) := hlen2
              have HT2 : Hid (Tree A2) := ht2
              have HO2 : Hid (Own wc w.heap.size g2 cap2 A2) := ho2
              have HB2 : Hid (Below w.heap.size w wc) := hb2
              obtain ⟨lx, hlx⟩ : ∃ lx, lx = m2 - 1 := ⟨_, rfl⟩
              have hlx1 : lx < m2 := by omega
              have elx : (m2 : Int) - 1 = (lx : Nat) := by omega
              clear hlx hlen2 ht2 ho2 hb2 hcut
              obtain ⟨y, hy⟩ : ∃ y, A2[lx]? = some y := ⟨_, List.getElem?_eq_getElem (by rw [HLEN2.out]; exact hlx1)⟩
              have HY : Hid (A2[lx]? = some y) := hy
              have cy := HO2.out.cell hy
              have cf := HO2.out.free lx
              have hy15 : y ≤ 15 := HT2.out.le y (List.mem_of_getElem? hy)
              clear hy
              by_cases hm288 : m2 < 288
              · by_cases hylt : y < 15
                · have hylt' : y < 15 := hylt
                  obtain ⟨x2, hx1⟩ : ∃ x2, x2 = y + 1 := ⟨_, rfl⟩
                  have ex1 : (y : Int) + 1 = (x2 : Nat) := by omega
                  have HXE : Hid (x2 = y + 1) := hx1
                  have hx1b : x2 ≤ 15 := by omega
                  have wx1 := wr_u8 x2 (by omega)
                  clear hx1
                  have HOW : Hid (((wc.setCell ⟨g2, lx, none⟩ (.int .u8 (x2 : Nat))).alloc (.cells #[.int .u8 (x2 : Nat)] 5)).ownsRow w.heap.size 5 1 (.slice (some ⟨g2, 0, none⟩) m2 cap2) m2 (u8s (A2.set lx x2))) := by
                    have h := ((HO2.out.set (b := x2) (by rw [HLEN2.out]; exact hlx1)).alloc (.cells #[.int .u8 (x2 : Nat)] 5))
                    unfold Own at h
                    rw [List.length_set, HLEN2.out] at h
                    exact h
                  go_wp2_with (at_builtin; refine wpList_append_own _ rfl (.tmp 104) (.tmp 109) 23 rfl w.heap.size 5 i5 _ 1 1 Yba.underlying23 hi5 hz5 hs5 hb5 rfl (by omega) _ m2 (u8s (A2.set lx x2)) rfl HOW.out ⟨wc.heap.size, 0, none⟩ 1 1 [.int .u8 (x2 : Nat)] rfl ?hl ?hnews ?h1 ?h63 ?hby ?hbase ?_)
                  case hl => rfl
                  case hnews => exact news_one _ _ _ _ (by simp)
                  case h1 => exact ones_one _ _
                  case h63 => unfold maxLen; omega
                  case hby => omega
                  case hbase => have := HB2.out.size; simp; omega
                  intro v' w1 hown hgrow _
                  obtain ⟨g', cap', hv', ho'⟩ := Own.grown (A := A2.set lx x2) (d := x2) (by rw [List.length_set, HLEN2.out]; exact hown)
                  rw [List.length_set, HLEN2.out] at hv'
                  subst hv'
                  have HO1 : Hid (Own w1 w.heap.size g' cap' (A2.set lx x2 ++ [x2])) := ho'
                  have HB1 : Hid (Below w.heap.size w w1) := ((HB2.out.setCell (p := ⟨g2, lx, none⟩) HO2.out.ge _).alloc (by have := HB2.out.size; simp; omega) _).trans (Below.grow hgrow HO2.out.ge (by have := HB2.out.size; simp; omega))
                  have HT1 : Hid (Tree (A2.set lx x2 ++ [x2])) := by rw [HXE.out]; exact HT2.out.split HY.out hylt
                  have HL1 : Hid ((A2.set lx x2 ++ [x2]).length = m2 + 1) := by show _ = _; rw [List.length_append, List.length_set, HLEN2.out]; rfl
                  clear hown hgrow ho' HOW
                  go_wp2_with fail
                  go_roundw
                  case rel => exact ⟨k + 1, A2.set lx x2 ++ [x2], m2 + 1, g', cap', by omega, by go_num, rfl, by omega, by omega, HL1, HT1, HO1, HB1⟩
                  case measure => simp [intOf]; omega
                · go_wp2_with fail
                  go_roundw
                  case rel => exact ⟨k + 1, A2, m2, g2, cap2, by omega, by go_num, rfl, hm1, hm2, HLEN2, HT2, HO2, HB2⟩
                  case measure => simp [intOf]; omega
              · go_wp2_with fail
                go_roundw
                case rel => exact ⟨k + 1, A2, m2, g2, cap2, by omega, by go_num, rfl, hm1, hm2, HLEN2, HT2, HO2, HB2⟩
                case measure => simp [intOf]; omega
          · go_wp2_with fail
            go_meet
            exact HMET
        · go_wp2_with fail
          go_meet
          exact HMET
  case rest =>
    obtain ⟨A, nA, gA, capA, rfl, hA1, hA2, hlenA, htA, hoA, hbA⟩ := hcut.out
    have HLEN : Hid (A.length = nA) := hlenA
    have HLV : Hid (Leaves A) := htA
    have hgA : gA < wc.heap.size := hoA.lt
    have HRA : Hid (Rd wc gA 0 nA .u8 (fun i => A.getD i 0)) := by rw [← hlenA]; exact hoA.rd
    have HBA : Hid (Below w.heap.size w wc) := hbA
    have hbs : w.heap.size ≤ wc.heap.size := hbA.size
    clear hlenA htA hoA hbA hcut
    go_wp2_with (at_make; refine wpList_make_own _ rfl _ _ 23 rfl wc.heap.size 5 i5 _ 1 Yba.underlying23 hi5 hz5 hs5 _ _ _ 288 rfl rfl rfl ?b2 ?b3 (Nat.le_refl _) ?_)
    case b2 => rw [hb5]; omega
    case b3 => unfold maxLen; omega
    intro w3 hown hgrow
    have HO3 : Hid (Own w3 wc.heap.size wc.heap.size 288 []) := hown
    have hb3 : Below wc.heap.size wc w3 := (Below.refl _ _).grown hgrow (Nat.le_refl _) (fun k h => by cases h)
    have HR3 : Hid (Rd w3 gA 0 nA .u8 (fun i => A.getD i 0)) := HRA.out.later hb3
    have HB3 : Hid (Below w.heap.size w w3) := HBA.out.trans (hb3.mono hbs)
    obtain ⟨gl, hgl⟩ : ∃ gl, gl = wc.heap.size := ⟨_, rfl⟩
    rw [← hgl] at HO3 hgA hbs
    rw [← hgl]
    have hs3 : gl < w3.heap.size := HO3.out.lt
    clear hgl hown hgrow hb3 HRA HBA
    go_wp2_with fail
    go_loopw [115, 16] (fun iv s16 wr => ∃ (k : Nat) (L : List Nat) (nL : Nat), k ≤ nA ∧ iv = .int .i64 k ∧ s16 = .slice (some ⟨gl, 0, none⟩) nL 288 ∧ nL + nA ≤ 288 + k ∧ Hid (L.length = nL) ∧ Hid (Laid A k L) ∧ Hid (Own wr gl gl 288 L) ∧ Hid (Below gl w3 wr)) (fun iv _ _ => nA - (intOf iv).toNat)
    case atStart => exact ⟨0, [], 0, Nat.zero_le _, rfl, rfl, by omega, rfl, Laid.start (by rw [HLEN.out]; exact hA2), HO3, Below.refl _ _⟩
    case round =>
      obtain ⟨k, L, nL, hk, rfl, rfl, hroom, HLL, HLD, HOL, HBL⟩ := hrel
      clear HO3
      by_cases hlt : k < nA
      · obtain ⟨d, hd⟩ : ∃ d, A[k]? = some d := ⟨_, List.getElem?_eq_getElem (by rw [HLEN.out]; exact hlt)⟩
        have HD : Hid (A[k]? = some d) := hd
        have hd15 : d ≤ 15 := HLV.out.le d (List.mem_of_getElem? hd)
        have cd : wr.cell? ⟨gA, k, none⟩ = some (.int .u8 (d : Nat)) := by
          have e : A.getD k 0 = d := by rw [List.getD_eq_getElem?_getD, hd]; rfl
          have h : wr.cell? ⟨gA, 0 + k, none⟩ = some (.int .u8 ((A.getD k 0 : Nat) : Int)) := (HR3.out.below HBL.out hgA) k hlt
          rwa [Nat.zero_add, e] at h
        clear hd
        go_upto_if 122 with fail
        go_cut [16] (fun s16 wc => Hid (∃ (L : List Nat) (nL : Nat), s16 = .slice (some ⟨gl, 0, none⟩) nL 288 ∧ nL + nA ≤ 288 + k ∧ L.length = nL ∧ Laid A k L ∧ Own wc gl gl 288 L ∧ Below gl w3 wc))
        case first =>
          by_cases hp1 : 0 < n1
          · obtain ⟨g1, o1, rfl, hR1⟩ := HA1.out hp1
            obtain ⟨km, hkm⟩ : ∃ km, km = k % n1 := ⟨_, rfl⟩
            have hkm1 : km < n1 := by rw [hkm]; exact Nat.mod_lt _ hp1
            have ekm : (k : Int) % (n1 : Int) = (km : Nat) := by rw [hkm]; simp
            obtain ⟨z0, hz0⟩ : ∃ z0, z0 = f1 km := ⟨_, rfl⟩
            have cz : wr.cell? ⟨g1, o1 + km, none⟩ = some (.int .u8 (z0 : Nat)) := by
              rw [hz0]
              exact (hR1.later (HB3.out.trans (HBL.out.mono hbs))) km hkm1
            have hz256 : z0 < 256 := by rw [hz0]; exact HF1.out km
            obtain ⟨z, hz⟩ : ∃ z, z = z0 % 3 := ⟨_, rfl⟩
            have ez : (z0 : Int) % 3 = (z : Nat) := by omega
            have hz2 : z ≤ 2 := by omega
            clear hz hz0 hkm hR1
            go_wp2_with fail
            rw [decide_eq_true hp1]
            obtain ⟨wo, rfl⟩ : ∃ wo : World, wo = wr := ⟨_, rfl⟩
            go_loopw [19, 16] (fun zv s16 wr => ∃ (z : Nat) (L : List Nat) (nL : Nat), z ≤ 2 ∧ zv = .int .i64 z ∧ s16 = .slice (some ⟨gl, 0, none⟩) nL 288 ∧ nL + nA ≤ 288 + k ∧ Hid (L.length = nL) ∧ Hid (Laid A k L) ∧ Hid (Own wr gl gl 288 L) ∧ Hid (Below gl w3 wr)) (fun zv _ _ => (intOf zv).toNat)
            case atStart => exact ⟨z, L, nL, hz2, rfl, rfl, hroom, HLL, HLD, HOL, HBL⟩
            case round =>
              obtain ⟨z, L, nL, hz2, rfl, rfl, hroom, HLL, HLD, HOL, HBL⟩ := hrel
              clear cz cd ekm ez
              have HMET : Hid (∃ (L' : List Nat) (nL' : Nat), (.slice (some ⟨gl, 0, none⟩) nL 288 : Value) = .slice (some ⟨gl, 0, none⟩) nL' 288 ∧ nL' + nA ≤ 288 + k ∧ L'.length = nL' ∧ Laid A k L' ∧ Own wr gl gl 288 L' ∧ Below gl w3 wr) := ⟨L, nL, rfl, hroom, HLL.out, HLD.out, HOL.out, HBL.out⟩
              by_cases hz0 : z = 0
              · subst hz0
                go_wp2_with fail
                go_meet
                exact HMET
              · have hzp : 0 < z := by omega
                obtain ⟨rm, hrm⟩ : ∃ rm, rm = nL + nA - k := ⟨_, rfl⟩
                have erm : (nL : Int) + (nA : Int) - (k : Int) = (rm : Nat) := by omega
                by_cases hr : rm < 288
                · have hlt288 : nL + nA < 288 + k := by omega
                  clear hrm
                  have HOW : Hid ((wr.alloc (.cells #[.int .u8 0] 5)).ownsRow gl 5 1 (.slice (some ⟨gl, 0, none⟩) nL 288) nL (u8s L)) := by
                    have h := HOL.out.alloc (.cells #[.int .u8 0] 5)
                    unfold Own at h
                    rw [HLL.out] at h
                    exact h
                  go_wp2_with (at_builtin; refine wpList_append_fits _ rfl (.tmp 144) (.tmp 145) 23 rfl gl 5 i5 1 Yba.underlying23 hi5 hs5 gl nL 288 (u8s L) rfl HOW.out ⟨wr.heap.size, 0, none⟩ 1 1 [.int .u8 0] rfl ?hl ?hnews ?h1 ?b1 ?_)
                  case hl => rfl
                  case hnews => exact news_one _ _ _ _ (by simp)
                  case h1 => exact ones_one _ _
                  case b1 => omega
                  intro w4 hown hgrow
                  have HO4 : Hid (Own w4 gl gl 288 (L ++ [0])) := by
                    show Own w4 gl gl 288 (L ++ [0])
                    unfold Own
                    rw [u8s_append, List.length_append, HLL.out]
                    exact hown
                  have HB4 : Hid (Below gl w3 w4) := (HBL.out.alloc (by have := HBL.out.size; omega) _).trans (Below.grow hgrow (Nat.le_refl _) (by have := HBL.out.size; simp; omega))
                  clear hown hgrow HOW HMET
                  go_wp2_with fail
                  go_roundw
                  case rel => exact ⟨z - 1, L ++ [0], nL + 1, by omega, by go_num, rfl, by omega, by show _ = _; rw [List.length_append, HLL.out]; rfl, HLD.out.zero (by rw [HLL.out, HLEN.out]; exact hlt288), HO4, HB4⟩
                  case measure => simp [intOf]; omega
                · clear hrm
                  go_wp2_with fail
                  go_meet
                  exact HMET
          · obtain rfl : n1 = 0 := by omega
            go_wp2_with fail
            go_meet
            exact ⟨L, nL, rfl, hroom, HLL.out, HLD.out, HOL.out, HBL.out⟩
        case rest =>
          obtain ⟨L2, m2, rfl, hroom2, hl2, hd2, ho2, hb2⟩ := hcut.out
          have HL2 : Hid (L2.length = m2) := hl2
          have HD2 : Hid (Laid A k L2) := hd2
          have HB2 : Hid (Below gl w3 wc) := hb2
          have HOW : Hid ((wc.alloc (.cells #[.int .u8 (d : Nat)] 5)).ownsRow gl 5 1 (.slice (some ⟨gl, 0, none⟩) m2 288) m2 (u8s L2)) := by
            have h := ho2.alloc (.cells #[.int .u8 (d : Nat)] 5)
            unfold Own at h
            rw [hl2] at h
            exact h
          clear hl2 hd2 ho2 hb2 hcut HLL HLD HOL HBL hroom cd
          go_wp2_with (at_builtin; refine wpList_append_fits _ rfl (.tmp 149) (.tmp 151) 23 rfl gl 5 i5 1 Yba.underlying23 hi5 hs5 gl m2 288 (u8s L2) rfl HOW.out ⟨wc.heap.size, 0, none⟩ 1 1 [.int .u8 (d : Nat)] rfl ?hl ?hnews ?h1 ?b1 ?_)
          case hl => rfl
          case hnews => exact news_one _ _ _ _ rfl
          case h1 => exact ones_one _ _
          case b1 => omega
          intro w4 hown hgrow
          have HO4 : Hid (Own w4 gl gl 288 (L2 ++ [d])) := by
            show Own w4 gl gl 288 (L2 ++ [d])
            unfold Own
            rw [u8s_append, List.length_append, HL2.out]
            exact hown
          have HB4 : Hid (Below gl w3 w4) := (HB2.out.alloc (by have := HB2.out.size; omega) _).trans (Below.grow hgrow (Nat.le_refl _) (by have := HB2.out.size; simp; omega))
          clear hown hgrow HOW
          go_wp2_with fail
          go_roundw
          case rel => exact ⟨k + 1, L2 ++ [d], m2 + 1, by omega, by go_num, rfl, by omega, by show _ = _; rw [List.length_append, HL2.out]; rfl, HD2.out.leaf HD.out, HO4, HB4⟩
          case measure => simp [intOf]; omega
      · obtain rfl : k = nA := by omega
        obtain ⟨i27, hi27, hz27, hs27, hb27⟩ := info_parts27
        have hnL : nL ≤ 288 := by omega
        go_wp2_with (at_make; refine wpList_make_full _ rfl _ _ 24 rfl wr.heap.size 27 i27 _ 1 Yba.underlying24 hi27 hz27 hs27 _ _ _ _ nL rfl rfl rfl rfl ?b2 ?b3 (Nat.le_refl _) ?_)
        case b2 => rw [hb27]; omega
        case b3 => unfold maxLen; omega
        intro w5 hown hgrow
        rw [made_ints] at hown
        have hs5 := HBL.out.size
        have hlt5 : gl < wr.heap.size := HOL.out.lt
        have HV5 : Hid (Blk w5 wr.heap.size 27 (ofN nL .u32 (fun j => if j < 0 then val f2 n2 j else 0))) := (Blk.of_full (ofN_size _ _ _) hown).to (fun j _ => by simp)
        have hb5 : Below wr.heap.size wr w5 := (Below.refl _ _).grown hgrow (Nat.le_refl _) (fun k h => by cases h)
        have HRL : Hid (Rd w5 gl 0 nL .u8 (fun i => L.getD i 0)) := by
          have h := HOL.out.rd
          rw [HLL.out] at h
          exact h.later hb5
        have HB5 : Hid (Below w.heap.size w w5) := (HB3.out.trans (HBL.out.mono hbs)).trans (hb5.mono (by omega))
        have hgood := Laid.good HLV.out (by rw [HLEN.out]; exact HLD.out)
        have HG : Hid (Good L) := hgood.1
        have HFU : Hid (first L 15 + cnt L 15 = 2 ^ 15 ∨ ∀ s, L.getD s 0 ≤ 1) := hgood.2
        obtain ⟨gv, hgv⟩ : ∃ gv, gv = wr.heap.size := ⟨_, rfl⟩
        rw [← hgv] at HV5 hlt5
        rw [← hgv]
        have hgw : w.heap.size ≤ gv := by omega
        have hs6 : gv < w5.heap.size := HV5.out.lt
        clear hown hgrow hb5 hgood hgv hs5 HBL HOL HLD HR3 HB3 HLEN HLV hroom hs3 hlt hk hA1 hA2 hgA hbs
        go_wp2_with fail
        go_loopw [159] (fun iv wr => ∃ i : Nat, i ≤ nL ∧ iv = .int .i64 i ∧ Hid (Blk wr gv 27 (ofN nL .u32 (fun j => if j < i then val f2 n2 j else 0))) ∧ Hid (Below gv w5 wr)) (fun iv _ => nL - (intOf iv).toNat)
        case atStart => exact ⟨0, Nat.zero_le _, rfl, HV5, Below.refl _ _⟩
        case round =>
          obtain ⟨i, hi, rfl, HV, HBV⟩ := hrel
          clear HV5
          by_cases hlt : i < nL
          · obtain ⟨y, hy⟩ : ∃ y, y = val f2 n2 i := ⟨_, rfl⟩
            have HY : Hid (y = val f2 n2 i) := hy
            have cy := HV.out.int i hlt
            have cf := HV.out.free i
            have wi := wr_u32 i (by omega)
            have hput : ∀ j, j < nL → (if j < i + 1 then val f2 n2 j else 0) = if j = i then y else if j < i then val f2 n2 j else 0 := by
              intro j _
              by_cases e : j = i
              · subst e; rw [if_pos (by omega), if_pos rfl, hy]
              · rw [if_neg e]
                by_cases e2 : j < i
                · rw [if_pos e2, if_pos (by omega)]
                · rw [if_neg e2, if_neg (by omega)]
            have HPUT : Hid (∀ j, j < nL → (if j < i + 1 then val f2 n2 j else 0) = if j = i then y else if j < i then val f2 n2 j else 0) := hput
            clear hput
            by_cases hp2 : 0 < n2
            · obtain ⟨g2, o2, rfl, hR2⟩ := HA2.out hp2
              obtain ⟨im, him⟩ : ∃ im, im = i % n2 := ⟨_, rfl⟩
              have him1 : im < n2 := by rw [him]; exact Nat.mod_lt _ hp2
              have eim : (i : Int) % (n2 : Int) = (im : Nat) := by rw [him]; simp
              obtain ⟨v, hv⟩ : ∃ v, v = f2 im := ⟨_, rfl⟩
              have cv : wr.cell? ⟨g2, o2 + im, none⟩ = some (.int .u32 (v : Nat)) := by
                rw [hv]
                exact (hR2.later (HB5.out.trans (HBV.out.mono hgw))) im him1
              have hv32 : v < 4294967296 := by rw [hv]; exact HF2.out im
              have ey : bits .and .u32 (v : Int) 4294966256 = (y : Nat) := by
                have h := and_u32 v 4294966256 hv32 (by decide)
                rw [hy, val, if_neg (by omega), ← him, ← hv]
                exact h
              clear hv him hy hR2
              go_wp2_with fail
              go_roundw
              case rel => exact ⟨i + 1, by omega, by go_num, HV.out.put i y hlt HPUT.out, HBV.out.setCell (Nat.le_refl _) _⟩
              case measure => simp [intOf]; omega
            · obtain rfl : n2 = 0 := by omega
              have ey : bits .and .u32 ((i : Int) * 65536) 4294966256 = (y : Nat) := by
                have h := and_u32 (i * 65536) 4294966256 (by omega) (by decide)
                rw [hy, val, if_pos rfl]
                rw [← h]
                congr 1
              clear hy
              go_wp2_with fail
              go_roundw
              case rel => exact ⟨i + 1, by omega, by go_num, HV.out.put i y hlt HPUT.out, HBV.out.setCell (Nat.le_refl _) _⟩
              case measure => simp [intOf]; omega
          · obtain rfl : i = nL := by omega
            have z32 := zero_of_info info32
            go_wp2_with fail
            obtain ⟨V, hV⟩ : ∃ V, V = (List.range i).map (val f2 n2) := ⟨_, rfl⟩
            have HCL : Hid (Clear V) := by rw [hV]; exact val_clear f2 n2 i
            have HV32 : Hid (∀ s, V.getD s 0 < 4294967296) := by rw [hV]; exact val_32 f2 n2 i
            have hrv : Rd wr gv 0 i .u32 (fun j => V.getD j 0) := HV.out.rd.congr (fun j hj => by rw [if_pos hj, hV, val_get, if_pos hj])
            have hrl : Rd wr gl 0 i .u8 (fun j => L.getD j 0) := HRL.out.below HBV.out hlt5
            have hgvl : gv < wr.heap.size := HV.out.lt
            have hba : Below wr.heap.size wr (wr.alloc (.cells (ofN 1024 .u32 (fun _ => 0) ++ #[.slice none 0 0, .int .u64 ((0 : Nat) : Int)]) 32)) := (Below.refl _ _).alloc (Nat.le_refl _) _
            have HD6 : Hid (Dec (wr.alloc (.cells (ofN 1024 .u32 (fun _ => 0) ++ #[.slice none 0 0, .int .u64 ((0 : Nat) : Int)]) 32)) wr.heap.size (fun _ => 0) (.slice none 0 0) 0) := Blk.new _ _ 32
            have HRL6 : Hid (Rd (wr.alloc (.cells (ofN 1024 .u32 (fun _ => 0) ++ #[.slice none 0 0, .int .u64 ((0 : Nat) : Int)]) 32)) gl 0 i .u8 (fun j => L.getD j 0)) := hrl.later hba
            have HRV6 : Hid (Rd (wr.alloc (.cells (ofN 1024 .u32 (fun _ => 0) ++ #[.slice none 0 0, .int .u64 ((0 : Nat) : Int)]) 32)) gv 0 i .u32 (fun j => V.getD j 0)) := hrv.later hba
            have HB6 : Hid (Below w.heap.size w (wr.alloc (.cells (ofN 1024 .u32 (fun _ => 0) ++ #[.slice none 0 0, .int .u64 ((0 : Nat) : Int)]) 32))) := (HB5.out.trans (HBV.out.mono hgw)).trans (hba.mono (by omega))
            have hsz6 : wr.heap.size + 1 = (wr.alloc (.cells (ofN 1024 .u32 (fun _ => 0) ++ #[.slice none 0 0, .int .u64 ((0 : Nat) : Int)]) 32)).heap.size := by simp
            rw [show (.int .u64 0 : Value) = .int .u64 ((0 : Nat) : Int) from rfl]
            obtain ⟨wa, hwa⟩ : ∃ wa : World, wa = wr.alloc (.cells (ofN 1024 .u32 (fun _ => 0) ++ #[.slice none 0 0, .int .u64 ((0 : Nat) : Int)]) 32) := ⟨_, rfl⟩
            obtain ⟨h, hh⟩ : ∃ h, h = wr.heap.size := ⟨_, rfl⟩
            rw [← hwa, ← hh] at hsz6 HD6
            rw [← hwa] at HRL6 HRV6 HB6
            rw [← hh] at hgvl
            rw [← hwa, ← hh]
            clear hwa hh hba hrl hrv hV HV HBV HRL HB5 z32
            refine (init_any h gl 0 i 288 gv 0 i L V wa HLL.out hnL HG.out HFU.out HCL.out HV32.out HRL6.out HRV6.out (by omega) hgvl hsz6 HD6.out).mono ?_
            rintro e w6 ⟨rfl, hb6, m, sl, hd6, hs6'⟩
            have hh6 : h < w6.heap.size := hd6.lt
            obtain ⟨sb, hsb⟩ : ∃ sb, sb = sbits L i := ⟨_, rfl⟩
            rw [← hsb] at hd6 hs6'
            have HSB : Hid (sb = sbits L i) := hsb
            have hoff : off sb 1024 ≤ 32768 := by
              have := off_le (sb := sb) (fun j => by rw [hsb]; exact sbits_le HG.out.le j i) 1024
              omega
            obtain ⟨sz, hsz⟩ : ∃ sz, sz = off sb 1024 := ⟨_, rfl⟩
            rw [← hsz] at hs6' hoff
            have HSZ : Hid (sz = off sb 1024) := hsz
            have HD7 : Hid (Dec w6 h (prim L V sb i) sl m) := hd6
            have HS7 : Hid (Sub w6 h sl sz (second L V sb i)) := hs6'
            have HRL7 : Hid (Rd w6 gl 0 i .u8 (fun j => L.getD j 0)) := HRL6.out.below hb6 (by omega)
            have HRV7 : Hid (Rd w6 gv 0 i .u32 (fun j => V.getD j 0)) := HRV6.out.below hb6 hgvl
            have HB7 : Hid (Below w.heap.size w w6) := HB6.out.trans (hb6.mono (by omega))
            have hld : (Instr.loadAt 30 (.pointer (some ⟨h, 0, none⟩))).run Yba.prog w6 = .ok (.agg (ofN 1024 .u32 (prim L V sb i))) w6 := load_prim hd6
            obtain ⟨cp, hcp⟩ : ∃ cp, cp = ofN 1024 .u32 (prim L V sb i) := ⟨_, rfl⟩
            rw [← hcp] at hld
            have HCP : Hid (cp = ofN 1024 .u32 (prim L V sb i)) := hcp
            clear hcp hsz hsb hd6 hs6' hb6 HRL6 HRV6 HB6 HD6 hsz6
            go_wp2_with fail
            refine wp_load 30 (.tmp 189) rfl _ (.agg cp) rfl hld ?_
            have z30 := zero_of_info info30
            have hcs : cp.size = 1024 := by rw [HCP.out]; exact ofN_size _ _ _
            have hsc := run_storeCells_new (P := Yba.prog) w6 30 (ofN 1024 .u32 (fun _ => 0)) cp (by rw [hcs]; exact z30.2) (by rw [hcs, ofN_size]) (by rw [HCP.out]; exact ofN_one _ _ _)
            have c7 := HD7.out.sub
            go_wp2_with fail
            have hba : Below w6.heap.size w6 (w6.alloc (.cells cp 30)) := (Below.refl _ _).alloc (Nat.le_refl _) _
            have HP8 : Hid (Blk (w6.alloc (.cells cp 30)) w6.heap.size 30 cp) := Blk.new _ _ 30
            have HD8 : Hid (Dec (w6.alloc (.cells cp 30)) h (prim L V sb i) sl m) := HD7.out.later hba
            have HS8 : Hid (Sub (w6.alloc (.cells cp 30)) h sl sz (second L V sb i)) := HS7.out.later hba
            have HRL8 : Hid (Rd (w6.alloc (.cells cp 30)) gl 0 i .u8 (fun j => L.getD j 0)) := HRL7.out.later hba
            have HRV8 : Hid (Rd (w6.alloc (.cells cp 30)) gv 0 i .u32 (fun j => V.getD j 0)) := HRV7.out.later hba
            have HB8 : Hid (Below w.heap.size w (w6.alloc (.cells cp 30))) := HB7.out.trans (hba.mono (by omega))
            obtain ⟨gp, hgp⟩ : ∃ gp, gp = w6.heap.size := ⟨_, rfl⟩
            obtain ⟨w8, hw8⟩ : ∃ w8 : World, w8 = w6.alloc (.cells cp 30) := ⟨_, rfl⟩
            rw [← hw8, ← hgp] at HP8
            rw [← hw8] at HD8 HS8 HRL8 HRV8 HB8
            rw [← hw8, ← hgp]
            clear hgp hw8 hba hsc hcs z30 c7 hld HD7 HS7 HRL7 HRV7 HB7
            refine (clone_sub h sz sl _ w8 HS8.out (by omega)).mono ?_
            rintro e w9 ⟨sl', rfl, htw, hb9⟩
            have HTW : Hid (Twin w9 sl sl' sz (second L V sb i)) := htw
            have HP9 : Hid (Blk w9 gp 30 cp) := HP8.out.later hb9
            have HD9 : Hid (Dec w9 h (prim L V sb i) sl m) := HD8.out.later hb9
            have HS9 : Hid (Sub w9 h sl sz (second L V sb i)) := HS8.out.later hb9
            have HRL9 : Hid (Rd w9 gl 0 i .u8 (fun j => L.getD j 0)) := HRL8.out.later hb9
            have HRV9 : Hid (Rd w9 gv 0 i .u32 (fun j => V.getD j 0)) := HRV8.out.later hb9
            have HB9 : Hid (Below w.heap.size w w9) := HB8.out.trans (hb9.mono HB8.out.size)
            have c9 := HD9.out.max
            clear htw hb9 HP8 HD8 HS8 HRL8 HRV8 HB8
            go_wp2_with fail
            refine (look_any h b m L V sl w9 HG.out HCL.out HV32.out (by rw [HLL.out, ← HSB.out]; exact HD9.out) (by rw [HLL.out, ← HSB.out, ← HSZ.out]; exact HS9.out) hb).mono ?_
            rintro e wk ⟨rfl, hbk⟩
            obtain ⟨lk, hlk⟩ : ∃ lk, lk = lookup L V (sbits L L.length) b := ⟨_, rfl⟩
            have HLK : Hid (lk = lookup L V (sbits L L.length) b) := hlk
            rw [← hlk]
            have HTW1 : Hid (Twin wk sl sl' sz (second L V sb i)) := HTW.out.later hbk
            have HP1 : Hid (Blk wk gp 30 cp) := HP9.out.later hbk
            have HD1 : Hid (Dec wk h (prim L V sb i) sl m) := HD9.out.later hbk
            have HRL1 : Hid (Rd wk gl 0 i .u8 (fun j => L.getD j 0)) := HRL9.out.later hbk
            have HRV1 : Hid (Rd wk gv 0 i .u32 (fun j => V.getD j 0)) := HRV9.out.later hbk
            have HB1 : Hid (Below w.heap.size w wk) := HB9.out.trans (hbk.mono HB9.out.size)
            clear hlk hbk c9 HTW HP9 HD9 HS9 HRL9 HRV9 HB9
            go_upto_block 8 with fail
            go_cut [28] (fun s28 wc => s28 = .int .u32 lk ∧ Hid (Below wk.heap.size wk wc))
            case first =>
              go_wp2_with fail
              go_loopw [205, 28] (fun iv s28 wr => ∃ s : Nat, s ≤ i ∧ iv = .int .i64 s ∧ s28 = .int .u32 2048 ∧ Hid (∀ t, t < s → ¬ M L b t) ∧ Hid (Below wk.heap.size wk wr)) (fun iv _ _ => i - (intOf iv).toNat)
              case atStart => exact ⟨0, Nat.zero_le _, rfl, rfl, fun t h => by omega, Below.refl _ _⟩
              case round =>
                obtain ⟨s, hs, rfl, rfl, HNM, HBW⟩ := hrel
                by_cases hlt : s < i
                · obtain ⟨l, hl⟩ : ∃ l, l = L.getD s 0 := ⟨_, rfl⟩
                  have HLE : Hid (l = L.getD s 0) := hl
                  have hl15 : l ≤ 15 := by rw [hl]; exact HG.out.le s
                  have c0 : wr.cell? ⟨gl, s, none⟩ = some (.int .u8 (l : Nat)) := by
                    have h := (HRL1.out.later HBW.out) s hlt
                    rw [Nat.zero_add] at h
                    rw [hl]
                    exact h
                  have HSTEP : Hid (¬ M L b s → ∀ t, t < s + 1 → ¬ M L b t) := by
                    intro h t ht
                    by_cases e : t = s
                    · rw [e]; exact h
                    · exact HNM.out t (by omega)
                  clear hl
                  by_cases h0 : l = 0
                  · subst h0
                    have HN1 : Hid (∀ t, t < s + 1 → ¬ M L b t) := HSTEP.out (fun hm => hm.2.1 HLE.out.symm)
                    go_wp2_with fail
                    go_roundw
                    case rel => exact ⟨s + 1, by omega, by go_num, rfl, HN1, HBW⟩
                    case measure => simp [intOf]; omega
                  · go_wp2_with fail
                    obtain ⟨wo, hwo⟩ : ∃ wo : World, wo = wr := ⟨_, rfl⟩
                    rw [← hwo] at HBW c0
                    rw [← hwo]
                    clear hwo
                    go_loopw [32, 31] (fun iv rv wr => ∃ j r : Nat, j ≤ l ∧ iv = .int .u8 j ∧ rv = .int .u32 r ∧ Hid (r = rd b j) ∧ wr = wo) (fun iv _ _ => l - (intOf iv).toNat)
                    case atStart => exact ⟨0, 0, Nat.zero_le _, rfl, rfl, rfl, rfl⟩
                    case round =>
                      obtain ⟨j, r, hj, rfl, rfl, HRD, rfl⟩ := hrel
                      by_cases hjl : j < l
                      · have hr15 : r < 32768 := by
                          have h1 := rd_lt b j
                          have h2 : 2 ^ j ≤ 2 ^ 15 := Nat.pow_le_pow_right (by omega) (by omega)
                          rw [HRD.out]
                          omega
                        obtain ⟨q, hq⟩ : ∃ q, q = b / 2 ^ j := ⟨_, rfl⟩
                        have hqb : q < 18446744073709551616 := by
                          rw [hq]
                          exact Nat.lt_of_le_of_lt (Nat.div_le_self _ _) hb
                        have eq1 : (b : Int) / 2 ^ j = (q : Nat) := by rw [hq]; simp
                        obtain ⟨t, ht⟩ : ∃ t, t = q % 2 := ⟨_, rfl⟩
                        have ht2 : t < 2 := by omega
                        have eq2 : bits .and .u64 (q : Int) 1 = (t : Nat) := by rw [show (1 : Int) = 2 ^ 1 - 1 by decide, mask_u64 1 (by omega) q hqb, ht]
                        have wt := wr_u32 t (by omega)
                        obtain ⟨r', hr'⟩ : ∃ r', r' = rd b (j + 1) := ⟨_, rfl⟩
                        have HR' : Hid (r' = rd b (j + 1)) := hr'
                        have er' : r' = r * 2 + t := by rw [hr', rd, ← HRD.out, ← hq, ← ht]; omega
                        have eq3 : bits .or .u32 ((r : Int) * 2) (t : Int) = (r' : Nat) := by
                          have h := join_u32 1 (r * 2) t (by omega) (by omega) (by omega) (by omega)
                          rw [er', ← h]
                          congr 1
                        clear hq ht hr' er'
                        go_wp2_with fail
                        go_roundw
                        case rel => exact ⟨j + 1, r', by omega, by go_num, rfl, HR', trivial⟩
                        case measure => simp [intOf]; omega
                      · obtain rfl : j = l := by omega
                        have hs0 : Hid (L.getD s 0 ≠ 0) := by rw [← HLE.out]; exact h0
                        have hsl : Hid (s < L.length) := by show _ < _; rw [HLL.out]; exact hlt
                        have HMI : Hid (M L b s ↔ rd b (L.getD s 0) = code L s) := M_iff HG.out hsl.out hs0.out
                        have hrlo : Rd wr gl 0 i .u8 (fun j => L.getD j 0) := HRL1.out.later HBW.out
                        go_wp2_with fail
                        refine (zz_any gl 0 i 288 s L wr HLL.out hnL HG.out.le hlt hs0.out hrlo).mono ?_
                        rintro e wz ⟨rfl, hbz⟩
                        have HBZ : Hid (Below wk.heap.size wk wz) := HBW.out.trans (hbz.mono HBW.out.size)
                        obtain ⟨cq, hcq⟩ : ∃ cq, cq = code L s := ⟨_, rfl⟩
                        rw [← hcq]
                        clear hbz hrlo c0
                        by_cases hrq : r = cq
                        · have hm : M L b s := HMI.out.2 (by rw [← HLE.out, ← HRD.out, hrq, hcq])
                          obtain ⟨v, hv⟩ : ∃ v, v = V.getD s 0 := ⟨_, rfl⟩
                          have cV : wz.cell? ⟨gv, s, none⟩ = some (.int .u32 (v : Nat)) := by
                            have h := (HRV1.out.later HBZ.out) s hlt
                            rw [Nat.zero_add] at h
                            rw [hv]
                            exact h
                          have hv32 : v < 4294967296 := by rw [hv]; exact HV32.out s
                          have hvc : v % 16 = 0 := by rw [hv]; exact (HCL.out s).1
                          have wj := wr_u32 j (by omega)
                          have jy : bits .or .u32 (v : Int) (j : Int) = (lk : Nat) := by
                            rw [join_u32 4 v j hvc (by omega) hv32 (by omega), HLK.out, lookup_of_M HG.out HCL.out hm, leaf, ← hv, ← HLE.out]
                          clear hv hvc hm hcq
                          subst hrq
                          go_wp2_with fail
                          go_meet
                          exact ⟨rfl, HBZ⟩
                        · have HN1 : Hid (∀ t, t < s + 1 → ¬ M L b t) := HSTEP.out (fun hm => hrq (by rw [hcq, HRD.out, HLE.out]; exact HMI.out.1 hm))
                          clear hcq
                          have hne : ¬ (r : Int) = (cq : Int) := by omega
                          go_wp2_with fail
                          go_roundw
                          case rel => exact ⟨s + 1, by omega, by go_num, rfl, HN1, HBZ⟩
                          case measure => simp [intOf]; omega
                · obtain rfl : s = i := by omega
                  have hnone : ∀ t, ¬ M L b t := fun t hm => HNM.out t (by have := hm.1; rw [HLL.out] at this; exact this) hm
                  have hlk : lk = 2048 := by
                    rw [HLK.out]
                    refine lookup_none HG.out hnone ?_
                    rcases HFU.out with h | h
                    · exact .inl h
                    · exact .inr (fun s => by have := h s; omega)
                  have HLK2 : Hid (lk = 2048) := hlk
                  clear hlk hnone
                  go_wp2_with fail
                  go_meet
                  exact ⟨by rw [HLK2.out]; rfl, HBW⟩
            case rest =>
              obtain ⟨rfl, HBW⟩ := hcut
              have HD2 : Hid (∀ n, Dec (wc.drewN n) h (prim L V sb i) sl m) := fun n => (HD1.out.later HBW.out).later (below_drewN (Below.refl _ _) n)
              have hq1 : ∀ w, (Op.equalIn 10000 30 (.agg cp) (.agg cp)).run Yba.prog w = .ok true w := fun w => by rw [HCP.out]; exact equal_prim _ w
              have hq2 : ∀ w, (binOp .eql 30 (.agg cp) (.agg cp)).run Yba.prog w = .ok (.bool true) w := fun w => by rw [HCP.out]; exact eql_prim _ w
              have hq3 : ∀ op a b w, (eqGuard op 30 a b (.agg cp) (.agg cp)).run Yba.prog w = .ok () w := fun op a b w => guard_prim op a b cp cp w
              have c1 := (HD1.out.later HBW.out).sub
              have c2 := (HD1.out.later HBW.out).max
              have HEQ : Hid (∀ n, Calls Yba.prog 8 #[sl, sl'] (wc.drewN n) fun e w' => e = .returned (.bool true) ∧ ∃ m, w' = (wc.drewN n).drewN m) := fun n => equal_twin sl sl' sz _ _ ((HTW1.out.later HBW.out).later (below_drewN (Below.refl _ _) n)) (by omega)
              have HB2 : Hid (Below w.heap.size w wc) := HB1.out.trans (HBW.out.mono HB1.out.size)
              have hld1 : ∀ w, (∃ n, w = wc.drewN n) → (Instr.loadAt 30 (.pointer (some ⟨h, 0, none⟩))).run Yba.prog w = .ok (.agg cp) w := by
                rintro _ ⟨n, rfl⟩
                rw [HCP.out]
                exact load_prim (HD2.out n)
              have hld2 : ∀ w, (∃ n, w = wc.drewN n) → (Instr.loadAt 30 (.pointer (some ⟨gp, 0, none⟩))).run Yba.prog w = .ok (.agg cp) w := by
                rintro _ ⟨n, rfl⟩
                have hp := (HP1.out.later HBW.out).later (below_drewN (Below.refl _ _) n)
                exact load_blk hp Yba.underlying30 (by rw [HCP.out, ofN_size]; exact (zero_of_info info30).2)
              have HLD1 : Hid (∀ w, (∃ n, w = wc.drewN n) → (Instr.loadAt 30 (.pointer (some ⟨h, 0, none⟩))).run Yba.prog w = .ok (.agg cp) w) := hld1
              have HLD2 : Hid (∀ w, (∃ n, w = wc.drewN n) → (Instr.loadAt 30 (.pointer (some ⟨gp, 0, none⟩))).run Yba.prog w = .ok (.agg cp) w) := hld2
              clear hld1 hld2
              go_wp2_with fail
              refine wp_region_quiet_lit (by kernel_rfl) (by kernel_rfl) ?_
              repeat (go_big_quiet_step (fail))
              go_big_quiet_want
              refine quiet_load 30 (.tmp 244) rfl _ (.agg cp) rfl { dst := some 245, op := .assign (.const (.agg cp)), type := 30, pos := "", after := #[], guard := none } rfl rfl HLD1.out ?_
              go_big_quiet_op
              go_big_quiet_on
              go_big_quiet_want
              refine quiet_load 30 (.tmp 24) rfl _ (.agg cp) rfl { dst := some 246, op := .assign (.const (.agg cp)), type := 30, pos := "", after := #[], guard := none } rfl rfl HLD2.out ?_
              go_big_quiet_op
              go_big_quiet_on
              repeat (go_big_quiet_step (first | (refine Calls.quiet_of (HEQ.out _))))
              refine wpQuiet_nil ?_
              intro _ hw'
              obtain ⟨nq, hw''⟩ := hw'
              subst hw''
              go_wp2_with fail
              go_ret
              exact ⟨rfl, below_drewN HB2.out _⟩
end Go.Proofs.Ybulkdlwq.huff
