/- LawS5645AWhole: slices.Clone and slices.Equal at the second-level tables; the primary table out of the decoder, and '==' of two of them; lookup's answer. -/
import Derived.Test.YbulkdlwqInit
import Derived.Test.YbulkdlwqShelf
import Derived.ChangeKeysEq
import Derived.Laws.StructEq
namespace Go.Proofs.Ybulkdlwq.huff
open Go.RowKit Go.Shelf
set_option linter.unusedVariables false

/-- a slice and its copy -/
def Twin (w : World) (sl sl' : Value) (size : Nat) (f : Nat → Nat) : Prop :=
  (size = 0 ∧ sl = .slice none 0 0 ∧ sl' = .slice none 0 0) ∨ ∃ g g' c', sl = .slice (some ⟨g, 0, none⟩) size size ∧ sl' = .slice (some ⟨g', 0, none⟩) size c' ∧ Rd w g 0 size .u32 f ∧ Rd w g' 0 size .u32 f
theorem Twin.later {w w' : World} {sl sl' : Value} {size : Nat} {f : Nat → Nat} (h : Twin w sl sl' size f) (hb : Below w.heap.size w w') : Twin w' sl sl' size f := by
  rcases h with h | ⟨g, g', c', h1, h2, h3, h4⟩
  · exact .inl h
  · exact .inr ⟨g, g', c', h1, h2, h3.later hb, h4.later hb⟩

theorem clone_sub (h size : Nat) (sl : Value) (f : Nat → Nat) (w : World) (hs : Sub w h sl size f) (hn : size ≤ 65536) :
    Calls Yba.prog 5 #[sl] w fun e w' => ∃ sl', e = .returned sl' ∧ Twin w' sl sl' size f ∧ Below w.heap.size w w' := by
  rcases hs with ⟨rfl, rfl⟩ | ⟨gs, h1, rfl, h3⟩
  · refine (Yba.slices_Clone_nil 0 0 w).mono ?_
    rintro e w' ⟨rfl, rfl⟩
    exact ⟨_, rfl, .inl ⟨rfl, rfl, rfl⟩, Below.refl _ _⟩
  · obtain ⟨i0, hi, hz0, hz1, hz2⟩ := info_parts27
    have hsz : ∀ w, (Go.sizeOf 27).run Yba.prog w = .ok 1 w := by exact Yba.sizeOf27
    refine (Yba.slices_Clone i0 _ 1 4 hi hz0 hz1 hz2 rfl (by decide) hsz gs 0 size size (ofN size .u32 f).toList w (by simp [ofN_size]) (by unfold maxLen; omega) (by omega) ?_ ?_).mono ?_
    · intro j u hj
      rw [Nat.zero_add]
      exact h3.cell j (by simpa using hj)
    · intro u hu
      obtain ⟨i, _, rfl⟩ : ∃ i, i < size ∧ Value.int .u32 (f i : Nat) = u := by simpa [ofN] using hu
      rfl
    · rintro e w' ⟨v', rfl, ho, hne, hb⟩
      rcases ho.2 with ⟨h0, _⟩ | ⟨g', c', cur, rfl, hg, _⟩
      · exact absurd h0 hne
      · refine ⟨_, rfl, .inr ⟨gs, g', c', rfl, rfl, (h3.later hb).rd, ?_⟩, hb⟩
        intro i hi'
        rw [Nat.zero_add, ho.cellAt i (by omega)]
        have := ofN_get size .u32 f i hi'
        simpa using this

theorem allEq_self {α : Type} (eq : α → α → Bool) (h : ∀ x, eq x x = true) : ∀ xs : List α, Lib.allEq eq xs xs = true
  | [] => rfl
  | x :: xs => by simp [Lib.allEq, h, allEq_self eq h xs]
theorem equal_nil (w : World) : Calls Yba.prog 8 #[.slice none 0 0, .slice none 0 0] w fun e w' => e = .returned (.bool true) ∧ w' = w := by
  go_enter Yba.func8, Yba.ntmps8
  go_wp2_with fail
  go_loopw [13] (fun iv wr => iv = .int .i64 0 ∧ wr = w) (fun _ _ => 0)
  case atStart => exact ⟨rfl, rfl⟩
  case round =>
    obtain ⟨rfl, rfl⟩ := hrel
    go_wp2_with fail
    go_ret
    exact ⟨rfl, rfl⟩
theorem equal_twin (sl sl' : Value) (size : Nat) (f : Nat → Nat) (w : World) (h : Twin w sl sl' size f) (hn : size ≤ 65536) :
    Calls Yba.prog 8 #[sl, sl'] w fun e w' => e = .returned (.bool true) ∧ ∃ m, w' = w.drewN m := by
  rcases h with ⟨_, rfl, rfl⟩ | ⟨g, g', c', rfl, rfl, h1, h2⟩
  · exact (equal_nil w).mono fun e w' ⟨he, hw⟩ => ⟨he, 0, hw⟩
  · obtain ⟨xs, hxs⟩ : ∃ xs : List Int, xs = (List.range size).map (fun i => ((f i : Nat) : Int)) := ⟨_, rfl⟩
    have hl : xs.length = size := by rw [hxs]; simp
    have hg : ∀ j, j < xs.length → xs[j]! = ((f j : Nat) : Int) := by
      intro j hj
      rw [hl] at hj
      rw [hxs, List.getElem!_eq_getElem?_getD]
      simp [hj]
    refine (Yba.slices_Equal (Value.int .u32) (fun x y => x == y) (NeqAt.int _ _ _) g 0 size size g' 0 size c' xs xs w (by omega) (by omega) (by omega) (by omega) ?_ ?_).mono ?_
    · intro j hj
      rw [hg j hj]
      exact h1 j (by omega)
    · intro j hj
      rw [hg j hj]
      exact h2 j (by omega)
    · rintro e w' ⟨rfl, q, rfl⟩
      rw [allEq_self _ (fun x => by simp)]
      exact ⟨rfl, q, rfl⟩

/-! ### the primary table by value -/
set_option maxRecDepth 100000 in
theorem info30 : (Yba.prog.info? 30).map (fun i => (i.zero, i.size)) = some (some (.agg (ofN 1024 .u32 (fun _ => 0))), 1024) := by kernel_rfl
theorem equal_u32 (d : Nat) (x : Int) (w : World) : (Op.equalIn (d + 1) 27 (.int .u32 x) (.int .u32 x)).run Yba.prog w = .ok true w := by
  simp [Op.equalIn, run_underlying Yba.underlying27]
theorem equal_row (f : Nat → Nat) (w : World) : ∀ (is : List Nat), (∀ i ∈ is, i < 1024) → (Op.eqItems 9999 27 1 (ofN 1024 .u32 f) (ofN 1024 .u32 f) is).run Yba.prog w = .ok true w
  | [], _ => by simp [Op.eqItems]
  | i :: is, h => by
    have hi := h i List.mem_cons_self
    have hg := ofN_get 1024 .u32 f i hi
    have hp : (part 27 (ofN 1024 .u32 f) (i * 1)).run Yba.prog w = .ok (.int .u32 (f i : Nat)) w := by
      rw [Nat.mul_one]
      simp [part, isAgg, run_underlying Yba.underlying27, hg]
    have he : (Op.equalIn 9999 27 (.int .u32 (f i : Nat)) (.int .u32 (f i : Nat))).run Yba.prog w = .ok true w := equal_u32 9998 _ w
    simp only [Op.eqItems, Sem.run_bind, hp, he, Result.andThen_ok]
    simpa using equal_row f w is (fun j hj => h j (List.mem_cons_of_mem _ hj))
theorem equal_prim (f : Nat → Nat) (w : World) : (Op.equalIn 10000 30 (.agg (ofN 1024 .u32 f)) (.agg (ofN 1024 .u32 f))).run Yba.prog w = .ok true w := by
  obtain ⟨i0, hi, _⟩ := info_parts27
  have hc : Yba.prog.cellsOf 27 = 1 := by kernel_rfl
  rw [show (10000 : Nat) = 9999 + 1 from rfl, run_equalIn_array w 9999 _ _ Yba.underlying30 hi, hc]
  exact equal_row f w _ (fun i hi => List.mem_range.1 hi)
theorem eql_prim (f : Nat → Nat) (w : World) : (binOp .eql 30 (.agg (ofN 1024 .u32 f)) (.agg (ofN 1024 .u32 f))).run Yba.prog w = .ok (.bool true) w := by
  rw [run_eql_struct, equal_prim]
  rfl
theorem guard_prim (op : BinOp) (a b : Operand) (xs ys : Array Value) (w : World) : (eqGuard op 30 a b (.agg xs) (.agg ys)).run Yba.prog w = .ok () w :=
  run_eqGuard_agg w op 30 a b xs ys (by kernel_rfl)
theorem cells_prim {w : World} {h m : Nat} {f : Nat → Nat} {sl : Value} (hd : Dec w h f sl m) : (loadCellsFrom ⟨h, 0, none⟩ 0 1024 #[]).run Yba.prog w = .ok (ofN 1024 .u32 f) w := by
  have hl : (loadCells ⟨h, 0, none⟩ (ofN 1024 .u32 f).toList.length).run Yba.prog w = .ok (ofN 1024 .u32 f).toList.toArray w :=
    run_loadCells_list (P := Yba.prog) w ⟨h, 0, none⟩ (ofN 1024 .u32 f).toList (fun j v hv => by
      have hadd : (⟨h, 0, none⟩ : Addr).add j = ⟨h, j, none⟩ := by unfold Addr.add; split <;> simp_all
      have hj : j < 1024 := by
        have := (List.getElem?_eq_some_iff.1 hv).1
        rw [Array.length_toList, ofN_size] at this
        exact this
      have h1 := ofN_get 1024 .u32 f j hj
      rw [hadd, hd.prim j hj]
      rw [Array.getElem?_toList, h1] at hv
      exact hv)
  rw [Array.length_toList, ofN_size, Array.toArray_toList] at hl
  unfold loadCells at hl
  exact hl
theorem cells_blk {w : World} {g : Nat} {f : Nat → Nat} (hb : Blk w g 30 (ofN 1024 .u32 f)) : (loadCellsFrom ⟨g, 0, none⟩ 0 1024 #[]).run Yba.prog w = .ok (ofN 1024 .u32 f) w := by
  have hl : (loadCells ⟨g, 0, none⟩ (ofN 1024 .u32 f).toList.length).run Yba.prog w = .ok (ofN 1024 .u32 f).toList.toArray w :=
    run_loadCells_list (P := Yba.prog) w ⟨g, 0, none⟩ (ofN 1024 .u32 f).toList (fun j v hv => by
      have hadd : (⟨g, 0, none⟩ : Addr).add j = ⟨g, j, none⟩ := by unfold Addr.add; split <;> simp_all
      rw [hadd]
      exact hb.cell j (by simpa using hv))
  rw [Array.length_toList, ofN_size, Array.toArray_toList] at hl
  unfold loadCells at hl
  exact hl
theorem load_prim {w : World} {h m : Nat} {f : Nat → Nat} {sl : Value} (hd : Dec w h f sl m) : (Instr.loadAt 30 (.pointer (some ⟨h, 0, none⟩))).run Yba.prog w = .ok (.agg (ofN 1024 .u32 f)) w := by
  have hl : (loadCells ⟨h, 0, none⟩ (ofN 1024 .u32 f).toList.length).run Yba.prog w = .ok (ofN 1024 .u32 f).toList.toArray w :=
    run_loadCells_list (P := Yba.prog) w ⟨h, 0, none⟩ (ofN 1024 .u32 f).toList (fun j v hv => by
      have hadd : (⟨h, 0, none⟩ : Addr).add j = ⟨h, j, none⟩ := by unfold Addr.add; split <;> simp_all
      have hj : j < 1024 := by
        have := (List.getElem?_eq_some_iff.1 hv).1
        rw [Array.length_toList, ofN_size] at this
        exact this
      have h1 := ofN_get 1024 .u32 f j hj
      rw [hadd, hd.prim j hj]
      rw [Array.getElem?_toList, h1] at hv
      exact hv)
  rw [Array.length_toList, ofN_size] at hl
  simp only [Instr.loadAt, Instr.sureAddr, Sem.run_bind, Sem.run_pure, Result.andThen]
  have ha : ∀ w, (isAgg 30).run Yba.prog w = .ok true w := by exact Yba.isAgg30
  have hz : ∀ w, (Go.sizeOf 30).run Yba.prog w = .ok 1024 w := by exact Yba.sizeOf30
  simp [loadVar, ha, hz, hl, Result.andThen]
theorem prim_cases {L V : List Nat} {sb : Nat → Nat} {i : Nat} : ∀ k, prim L V sb k i = base sb i ∨ ∃ s, prim L V sb k i = leaf L V s
  | 0 => .inl rfl
  | k + 1 => by
    rw [prim]
    split
    · exact .inr ⟨k, rfl⟩
    · exact prim_cases k
theorem look_any (h b m : Nat) (L V : List Nat) (sl : Value) (w : World) (hG : Good L) (hV : Clear V) (hV32 : ∀ s, V.getD s 0 < 4294967296) (hd : Dec w h (prim L V (sbits L L.length) L.length) sl m)
    (hs : Sub w h sl (off (sbits L L.length) 1024) (second L V (sbits L L.length) L.length)) (hb : b < 18446744073709551616) :
    Calls Yba.prog 6 #[.pointer (some ⟨h, 0, none⟩), .int .u64 (b : Nat)] w fun r w' => r = .returned (.int .u32 (lookup L V (sbits L L.length) b : Nat)) ∧ Below w.heap.size w w' := by
  obtain ⟨sb, hsb⟩ : ∃ sb, sb = sbits L L.length := ⟨_, rfl⟩
  have h5 : ∀ i, sb i ≤ 5 := fun i => by rw [hsb]; exact sbits_le hG.le i _
  rw [← hsb] at hd hs
  rw [← hsb]
  have hoff := off_le h5 1024
  have hle := off_mono sb (show b % 1024 ≤ 1024 by omega)
  obtain ⟨e, he⟩ : ∃ e, prim L V sb L.length (b % 1024) = e := ⟨_, rfl⟩
  have hlf : ∀ s, leaf L V s < 4294967296 := fun s => by
    have h1 := hV s
    have h2 := hV32 s
    have h3 := hG.le s
    unfold leaf
    omega
  have hbs : base sb (b % 1024) < 4294967296 := by
    have := h5 (b % 1024)
    unfold base
    split <;> omega
  have he32 : e < 4294967296 := by
    rcases prim_cases (L := L) (V := V) (sb := sb) (i := b % 1024) L.length with h1 | ⟨s, h1⟩
    · rw [← he, h1]; exact hbs
    · rw [← he, h1]; exact hlf s
  unfold lookup
  rw [he]
  by_cases hf : e / 1024 % 2 = 0
  · rw [if_pos hf]
    exact look_leaf h b e m _ sl w hd hb he he32 hf
  · rw [if_neg hf]
    have hlink : e = base sb (b % 1024) := by
      rcases prim_cases (L := L) (V := V) (sb := sb) (i := b % 1024) L.length with h1 | ⟨s, h1⟩
      · rw [← he, h1]
      · rw [he] at h1
        rw [h1, leaf_flag hG hV s] at hf
        exact absurd rfl hf
    have hne : sb (b % 1024) ≠ 0 := by
      intro h0
      rw [hlink, base, if_pos h0] at hf
      exact hf (by decide)
    rw [base, if_neg hne] at hlink
    have e1 : e / 65536 = off sb (b % 1024) := by rw [hlink]; exact link_div (h5 _)
    have e2 : e % 16 = sb (b % 1024) := by rw [hlink]; exact link_mod (h5 _)
    have hin := off_in sb (show b % 1024 < 1024 by omega)
    rw [tsize, if_neg hne] at hin
    have hlt : b / 1024 % 2 ^ (sb (b % 1024)) < 2 ^ (sb (b % 1024)) := Nat.mod_lt _ (Nat.two_pow_pos _)
    rw [e1, e2]
    rcases hs with ⟨h0, _⟩ | ⟨gs, _, rfl, h3⟩
    · exfalso; omega
    · exact look_link h b e m gs _ _ _ _ _ _ w hd h3.rd hb he he32 (by omega) e2 e1 rfl (by omega) (by omega)
end Go.Proofs.Ybulkdlwq.huff
