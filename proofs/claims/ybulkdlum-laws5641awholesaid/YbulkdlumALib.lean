/- LawS5641AWhole: the contracts of slices.Clone, slices.Equal, slices.Contains at the project's structs. -/
import Derived.Test.YbulkdlumAMem
import Derived.Test.YbulkdlumAShelf
import Derived.Laws.StructEq
namespace Go.Proofs.Ybulkdlum.lawA
open Go.RowKit Go.Shelf
set_option linter.unusedVariables false

theorem flat_get {α : Type} {enc : α → List Value} {k : Nat} (hk : ∀ x, (enc x).length = k) : ∀ (xs : List α) (j i : Nat), i < k → (xs.flatMap enc)[j * k + i]? = (xs[j]?).bind (fun x => (enc x)[i]?)
  | [], j, i, _ => by simp
  | x :: xs, 0, i, hi => by
    simp only [List.flatMap_cons, Nat.zero_mul, Nat.zero_add, List.getElem?_cons_zero, Option.bind_some]
    exact List.getElem?_append_left (by rw [hk]; exact hi)
  | x :: xs, j + 1, i, hi => by
    simp only [List.flatMap_cons, List.getElem?_cons_succ]
    rw [List.getElem?_append_right (by rw [hk, Nat.add_mul]; omega), hk, ← flat_get hk xs j i hi]
    congr 1
    rw [Nat.add_mul]; omega
theorem flat_length {α : Type} {enc : α → List Value} {k : Nat} (hk : ∀ x, (enc x).length = k) : ∀ (xs : List α), (xs.flatMap enc).length = xs.length * k
  | [] => by simp
  | x :: xs => by
    simp only [List.flatMap_cons, List.length_append, hk, List.length_cons, flat_length hk xs, Nat.add_mul]
    omega
theorem flat_cells {α : Type} {enc : α → List Value} {k g : Nat} {w : World} {xs : List α} (hk : ∀ x, (enc x).length = k) (h0 : 0 < k) (h : Tab w g 0 k enc xs) :
    ∀ j u, (xs.flatMap enc)[j]? = some u → w.cell? ⟨g, 0 + j, none⟩ = some u := by
  intro j u hj
  have e : j = j / k * k + j % k := by rw [Nat.mul_comm]; exact (Nat.div_add_mod j k).symm
  rw [e, flat_get hk xs _ _ (Nat.mod_lt _ h0)] at hj
  obtain ⟨x, hx, hv⟩ := Option.bind_eq_some_iff.1 hj
  have := h _ x hx _ u hv
  rw [show 0 + j = 0 + j / k * k + j % k by omega]
  exact this
theorem Tab.of_row {α : Type} {enc : α → List Value} {k g n c base : Nat} {e : TypeId} {w : World} {xs : List α} (hk : ∀ x, (enc x).length = k) (hn : xs.length = n)
    (h : w.ownsRow base e k (.slice (some ⟨g, 0, none⟩) n c) n (xs.flatMap enc)) : Tab w g 0 k enc xs := by
  intro j x hj i v hi
  have hik : i < k := by have := (List.getElem?_eq_some_iff.1 hi).1; rw [hk] at this; exact this
  have hjn : j < n := by have := (List.getElem?_eq_some_iff.1 hj).1; omega
  have hlt : j * k + i < n * k := by
    have : (j + 1) * k ≤ n * k := Nat.mul_le_mul_right k hjn
    rw [Nat.add_mul] at this
    omega
  rw [Nat.zero_add, h.cellAt (j * k + i) hlt, flat_get hk xs j i hik, hj]
  exact hi

theorem encM_len (x : Mop) : (encM x).length = 6 := rfl
theorem encT_len (x : Nat × Nat) : (encT x).length = 4 := rfl
theorem encL_len (x : Nat) : (encL x).length = 3 := rfl
theorem encP_len (x : KE) : (encP x).length = 2 := rfl
theorem flat_one {α : Type} {enc : α → List Value} (h : ∀ x, ∀ v ∈ enc x, v.oneCell' = true) (xs : List α) : ∀ u ∈ xs.flatMap enc, u.oneCell' = true := by
  intro u hu
  obtain ⟨x, _, hx⟩ := List.mem_flatMap.1 hu
  exact h x u hx

theorem info31 : (Yba.prog.info? 31).map (fun i => (i.zero, i.size, i.bytes)) = some (some (.agg #[.int .i64 0, .bool false, .bool false, .int .i64 0, .int .i64 0, .int .i64 0]), 6, 40) := by kernel_rfl
theorem info39 : (Yba.prog.info? 39).map (fun i => (i.zero, i.size, i.bytes)) = some (some (.agg #[.string ⟨#[]⟩, .int .u8 0, .int .i64 0, .int .i64 0]), 4, 40) := by kernel_rfl
theorem info26 : (Yba.prog.info? 26).map (fun i => (i.zero, i.size, i.bytes)) = some (some (.agg #[.string ⟨#[]⟩, .int .i64 0, .bool false]), 3, 32) := by kernel_rfl

theorem clone_mops (g n c : Nat) (xs : List Mop) (w : World) (hx : xs.length = n) (hn : n ≤ 256) (h : Tab w g 0 6 encM xs) :
    Calls Yba.prog 6 #[.slice (some ⟨g, 0, none⟩) n c] w fun e w' => ∃ g' c', e = .returned (.slice (some ⟨g', 0, none⟩) n c') ∧ w.heap.size ≤ g' ∧ Tab w' g' 0 6 encM xs ∧ Below w.heap.size w w' := by
  obtain ⟨i0, hi, hz0, hz1, hz2⟩ := info_parts info31
  refine (AnyE.slices_Clone Yba.cloneM i0 _ 6 40 hi hz0 hz1 hz2 rfl (by decide) (by exact Yba.sizeOf31) g 0 n c (xs.flatMap encM) w (by rw [flat_length encM_len, hx]) (by unfold maxLen; omega) (by omega) (flat_cells encM_len (by decide) h) (flat_one (fun x v hv => by simp [encM] at hv; rcases hv with rfl | rfl | rfl | rfl | rfl <;> rfl) xs)).mono ?_
  rintro e w' ⟨v, rfl, ho, hne, hb⟩
  rcases ho.2 with ⟨h0, _⟩ | ⟨g', c', cur, rfl, hg, _⟩
  · exact absurd h0 hne
  · exact ⟨g', c', rfl, hg, Tab.of_row encM_len hx ho, hb⟩

theorem clone_txns (g n c : Nat) (xs : List (Nat × Nat)) (w : World) (hx : xs.length = n) (hn : n ≤ 256) (h : Tab w g 0 4 encT xs) :
    Calls Yba.prog 7 #[.slice (some ⟨g, 0, none⟩) n c] w fun e w' => ∃ g' c', e = .returned (.slice (some ⟨g', 0, none⟩) n c') ∧ w.heap.size ≤ g' ∧ Tab w' g' 0 4 encT xs ∧ Below w.heap.size w w' := by
  obtain ⟨i0, hi, hz0, hz1, hz2⟩ := info_parts info39
  refine (AnyE.slices_Clone Yba.cloneT i0 _ 4 40 hi hz0 hz1 hz2 rfl (by decide) (by exact Yba.sizeOf39) g 0 n c (xs.flatMap encT) w (by rw [flat_length encT_len, hx]) (by unfold maxLen; omega) (by omega) (flat_cells encT_len (by decide) h) (flat_one (fun x v hv => by simp [encT] at hv; rcases hv with rfl | rfl | rfl | rfl <;> rfl) xs)).mono ?_
  rintro e w' ⟨v, rfl, ho, hne, hb⟩
  rcases ho.2 with ⟨h0, _⟩ | ⟨g', c', cur, rfl, hg, _⟩
  · exact absurd h0 hne
  · exact ⟨g', c', rfl, hg, Tab.of_row encT_len hx ho, hb⟩

theorem clone_keys (g n c : Nat) (xs : List Nat) (w : World) (hx : xs.length = n) (hn : n ≤ 256) (h : Tab w g 0 3 encL xs) :
    Calls Yba.prog 5 #[.slice (some ⟨g, 0, none⟩) n c] w fun e w' => ∃ g' c', e = .returned (.slice (some ⟨g', 0, none⟩) n c') ∧ w.heap.size ≤ g' ∧ Tab w' g' 0 3 encL xs ∧ Below w.heap.size w w' := by
  obtain ⟨i0, hi, hz0, hz1, hz2⟩ := info_parts info26
  refine (AnyE.slices_Clone Yba.cloneL i0 _ 3 32 hi hz0 hz1 hz2 rfl (by decide) (by exact Yba.sizeOf26) g 0 n c (xs.flatMap encL) w (by rw [flat_length encL_len, hx]) (by unfold maxLen; omega) (by omega) (flat_cells encL_len (by decide) h) (flat_one (fun x v hv => by simp [encL] at hv; rcases hv with rfl | rfl | rfl <;> rfl) xs)).mono ?_
  rintro e w' ⟨v, rfl, ho, hne, hb⟩
  rcases ho.2 with ⟨h0, _⟩ | ⟨g', c', cur, rfl, hg, _⟩
  · exact absurd h0 hne
  · exact ⟨g', c', rfl, hg, Tab.of_row encL_len hx ho, hb⟩

theorem allEq_self {α : Type} (eq : α → α → Bool) (h : ∀ x, eq x x = true) : ∀ xs : List α, Lib.allEq eq xs xs = true
  | [] => rfl
  | x :: xs => by simp [Lib.allEq, h, allEq_self eq h xs]

def eqM (x y : Mop) : Bool := x.k == y.k && x.r == y.r && x.e == y.e
theorem neqM : NeqAt Yba.prog 31 (fun x => .agg (encM x).toArray) eqM := by
  refine ⟨fun x y w => ?_, GuardAt.agg _ (by kernel_rfl)⟩
  have hS : Yba.prog.underlying 31 = some (.struct (Yba.prog.fieldsOf 31)) := by kernel_rfl
  have hp : Yba.prog.stoodInHeld 31 = false := by kernel_rfl
  have u3 := Yba.underlying3
  have u2 := Yba.underlying2
  have u4 := Yba.underlying4
  simp only [encM]
  rw [run_neq_struct, show (10000 : Nat) = 9999 + 1 from rfl, run_equalIn_agg w 9999 31 _ _ hS hp]
  simp only [Program.fieldsOf, Yba.underlying31]
  go_simp
  by_cases h1 : x.k = y.k <;> by_cases h2 : x.r = y.r <;> by_cases h3 : x.e = y.e <;> simp [h1, h2, h3, eqM]

def eqL (x y : Nat) : Bool := x == y
theorem neqL : NeqAt Yba.prog 26 (fun x => .agg (encL x).toArray) eqL := by
  refine ⟨fun x y w => ?_, GuardAt.agg _ (by kernel_rfl)⟩
  have hS : Yba.prog.underlying 26 = some (.struct (Yba.prog.fieldsOf 26)) := by kernel_rfl
  have hp : Yba.prog.stoodInHeld 26 = false := by kernel_rfl
  have u9 := Yba.underlying9
  have u2 := Yba.underlying2
  have u4 := Yba.underlying4
  simp only [encL]
  rw [run_neq_struct, show (10000 : Nat) = 9999 + 1 from rfl, run_equalIn_agg w 9999 26 _ _ hS hp]
  simp only [Program.fieldsOf, Yba.underlying26]
  go_simp
  by_cases h1 : x = y
  · simp [h1, eqL]
  · have h2 : ¬ (x : Int) = (y : Int) := by omega
    rw [if_neg h2]
    simp [h1, eqL]

theorem Tab.bang {α : Type} [Inhabited α] {w : World} {g k : Nat} {enc : α → List Value} {xs : List α} (h : Tab w g 0 k enc xs) : ∀ j, j < xs.length → ∀ i v, (enc xs[j]!)[i]? = some v → w.cell? ⟨g, 0 + j * k + i, none⟩ = some v := by
  intro j hj i v hi
  refine h j _ ?_ i v hi
  rw [List.getElem!_eq_getElem?_getD, List.getElem?_eq_getElem hj]
  rfl

theorem equal_mops (g1 c1 g2 c2 n : Nat) (xs : List Mop) (w : World) (hx : xs.length = n) (hn : n ≤ 256) (h1 : Tab w g1 0 6 encM xs) (h2 : Tab w g2 0 6 encM xs) :
    Calls Yba.prog 10 #[.slice (some ⟨g1, 0, none⟩) n c1, .slice (some ⟨g2, 0, none⟩) n c2] w fun e w' => e = .returned (.bool true) ∧ Below w.heap.size w w' := by
  haveI : Inhabited Mop := ⟨⟨0, false, 0⟩⟩
  refine (AnyQ.slices_Equal Yba.equalM 6 (by exact Yba.isAgg31) (by exact Yba.sizeOf31) encM encM_len eqM neqM g1 0 n c1 g2 0 n c2 xs xs w (by omega) (by omega) (by omega) (by omega) h1.bang h2.bang).mono ?_
  rintro e w' ⟨rfl, q, rfl⟩
  rw [allEq_self eqM (fun x => by simp [eqM])]
  exact ⟨rfl, below_drewN (Below.refl _ _) _⟩
theorem equal_keys (g1 c1 g2 c2 n : Nat) (xs : List Nat) (w : World) (hx : xs.length = n) (hn : n ≤ 256) (h1 : Tab w g1 0 3 encL xs) (h2 : Tab w g2 0 3 encL xs) :
    Calls Yba.prog 9 #[.slice (some ⟨g1, 0, none⟩) n c1, .slice (some ⟨g2, 0, none⟩) n c2] w fun e w' => e = .returned (.bool true) ∧ Below w.heap.size w w' := by
  refine (AnyQ.slices_Equal Yba.equalL 3 (by exact Yba.isAgg26) (by exact Yba.sizeOf26) encL encL_len eqL neqL g1 0 n c1 g2 0 n c2 xs xs w (by omega) (by omega) (by omega) (by omega) h1.bang h2.bang).mono ?_
  rintro e w' ⟨rfl, q, rfl⟩
  rw [allEq_self eqL (fun x => by simp [eqL])]
  exact ⟨rfl, below_drewN (Below.refl _ _) _⟩

/-! ### slices.Index, slices.Contains at keyElement: by their own walks -/
def eqP (x y : KE) : Bool := x.1 == y.1 && x.2 == y.2
theorem eqP_iff {x y : KE} : eqP x y = true ↔ x = y := by
  obtain ⟨a, b⟩ := x; obtain ⟨c, d⟩ := y
  simp [eqP]
theorem eqlP (x y : KE) (w : World) : (binOp .eql 48 (.agg #[.int .i64 x.1, .int .i64 x.2]) (.agg #[.int .i64 y.1, .int .i64 y.2])).run Yba.prog w = .ok (.bool (eqP x y)) w := by
  have hS : Yba.prog.underlying 48 = some (.struct (Yba.prog.fieldsOf 48)) := by kernel_rfl
  have hp : Yba.prog.stoodInHeld 48 = false := by kernel_rfl
  have u3 := Yba.underlying3
  have u2 := Yba.underlying2
  rw [run_eql_struct, show (10000 : Nat) = 9999 + 1 from rfl, run_equalIn_agg w 9999 48 _ _ hS hp]
  simp only [Program.fieldsOf, Yba.underlying48]
  go_simp
  by_cases h1 : x.1 = y.1 <;> by_cases h2 : x.2 = y.2 <;> simp [h1, h2, eqP]
theorem guardP (op : BinOp) (a b : Operand) (x y : KE) (w : World) : (eqGuard op 48 a b (.agg #[.int .i64 x.1, .int .i64 x.2]) (.agg #[.int .i64 y.1, .int .i64 y.2])).run Yba.prog w = .ok () w :=
  GuardAt.agg (P := Yba.prog) (T := 48) (fun x : KE => #[.int .i64 x.1, .int .i64 x.2]) (by kernel_rfl) op a b x y w

/-- where p stands -/
def idx (p : KE) (l : List KE) : Int := if l.any (eqP p) then 0 else -1

set_option maxHeartbeats 800000 in
theorem index_any (a : Option Addr) (n c : Nat) (xs : List KE) (p : KE) (w : World) (hx : xs.length = n) (hn : n ≤ 70000) (h : 0 < n → ∃ g, a = some ⟨g, 0, none⟩ ∧ Tab w g 0 2 encP xs) :
    Calls Yba.prog 18 #[.slice a n c, .agg #[.int .i64 p.1, .int .i64 p.2]] w fun e w' => ∃ i : Int, e = .returned (.int .i64 i) ∧ (0 ≤ i ↔ xs.any (eqP p) = true) ∧ Below w.heap.size w w' := by
  have HX : Hid (xs.length = n) := hx
  have HH : Hid (0 < n → ∃ g, a = some ⟨g, 0, none⟩ ∧ Tab w g 0 2 encP xs) := h
  clear hx h
  go_enter Yba.func18, Yba.ntmps18
  go_wp2
  have HB0 : Hid (Below (w.heap.size + 1) (w.alloc (.cells #[.int .i64 p.1, .int .i64 p.2] 48)) (w.alloc (.cells #[.int .i64 p.1, .int .i64 p.2] 48))) := Below.refl _ _
  go_loopw [8, 5] (fun i _ wr => ∃ k : Nat, k ≤ n ∧ i = .int .i64 k ∧ Hid ((xs.take k).any (eqP p) = false) ∧ Hid (Below (w.heap.size + 1) (w.alloc (.cells #[.int .i64 p.1, .int .i64 p.2] 48)) wr)) (fun i _ _ => n - (intOf i).toNat)
  case atStart => exact ⟨0, Nat.zero_le _, rfl, rfl, HB0⟩
  case round =>
    obtain ⟨k, hk, rfl, HK, HB⟩ := hrel
    have hbw : Below w.heap.size w wr := ((Below.refl _ _).alloc (Nat.le_refl _) _).trans (HB.out.mono (by omega))
    have HBW : Hid (Below w.heap.size w wr) := hbw
    by_cases hlt : k < n
    · obtain ⟨g, rfl, hT⟩ := HH.out (by omega)
      obtain ⟨⟨y1, y2⟩, hy⟩ : ∃ y, xs[k]? = some y := ⟨_, List.getElem?_eq_getElem (by rw [HX.out]; omega)⟩
      have c0 := (hT.later hbw) k _ hy 0 _ rfl
      have c1 := (hT.later hbw) k _ hy 1 _ rfl
      simp only [Nat.zero_add, Nat.add_zero] at c0 c1
      have q0 : wr.cell? ⟨w.heap.size, 0, none⟩ = some (.int .i64 p.1) := by rw [HB.out.cell (p := ⟨w.heap.size, 0, none⟩) (by simp)]; simp [go_sem]
      have q1 : wr.cell? ⟨w.heap.size, 1, none⟩ = some (.int .i64 p.2) := by rw [HB.out.cell (p := ⟨w.heap.size, 1, none⟩) (by simp)]; simp [go_sem]
      have hnx : (xs.take (k + 1)).any (eqP p) = ((xs.take k).any (eqP p) || eqP p (y1, y2)) := by rw [List.take_add_one, hy, List.any_append]; simp
      have hany : eqP p (y1, y2) = true → xs.any (eqP p) = true := fun h => List.any_eq_true.2 ⟨_, List.mem_of_getElem? hy, h⟩
      have eq1 := eqlP p (y1, y2)
      have eg1 := fun op a b => guardP op a b p (y1, y2)
      have HNX : Hid ((xs.take (k + 1)).any (eqP p) = ((xs.take k).any (eqP p) || eqP p (y1, y2))) := hnx
      have HANY : Hid (eqP p (y1, y2) = true → xs.any (eqP p) = true) := hany
      clear hnx hany hbw hT hy
      obtain ⟨b, hb⟩ : ∃ b, eqP p (y1, y2) = b := ⟨_, rfl⟩
      simp only [hb] at eq1
      have HBB : Hid (eqP p (y1, y2) = b) := hb
      clear hb
      cases b with
      | true =>
        go_wp2
        go_quiet (fail)
        go_wp2
        go_ret
        exact ⟨_, rfl, ⟨fun _ => HANY.out HBB.out, fun _ => by omega⟩, below_drewN HBW.out _⟩
      | false =>
        have HE : Hid ((xs.take (k + 1)).any (eqP p) = false) := by show _ = _; rw [HNX.out, HK.out, HBB.out]; rfl
        go_wp2
        go_quiet (fail)
        go_wp2
        go_roundw
        case rel => exact ⟨k + 1, by omega, by go_num, HE, below_drewN HB.out _⟩
        case measure => simp [intOf]; omega
    · have hall : xs.any (eqP p) = false := by
        have := HK.out
        rwa [List.take_of_length_le (by rw [HX.out]; omega)] at this
      have HALL : Hid (xs.any (eqP p) = false) := hall
      clear hall hbw
      go_wp2
      go_ret
      exact ⟨-1, rfl, by rw [HALL.out]; simp, HBW.out⟩

set_option maxHeartbeats 400000 in
theorem contains_any (a : Option Addr) (n c : Nat) (xs : List KE) (p : KE) (w : World) (hx : xs.length = n) (hn : n ≤ 70000) (h : 0 < n → ∃ g, a = some ⟨g, 0, none⟩ ∧ Tab w g 0 2 encP xs) :
    Calls Yba.prog 12 #[.slice a n c, .agg #[.int .i64 p.1, .int .i64 p.2]] w fun e w' => e = .returned (.bool (xs.any (eqP p))) ∧ Below w.heap.size w w' := by
  have HX : Hid (xs.length = n) := hx
  have HH : Hid (0 < n → ∃ g, a = some ⟨g, 0, none⟩ ∧ Tab w g 0 2 encP xs) := h
  clear hx h
  go_enter Yba.func12, Yba.ntmps12
  go_wp2_with fail
  refine (index_any a n c xs p _ HX.out hn (fun h0 => by obtain ⟨g, e, hT⟩ := HH.out h0; exact ⟨g, e, hT.later ((Below.refl _ _).alloc (Nat.le_refl _) _)⟩)).mono ?_
  rintro e w1 ⟨i, rfl, hi, hb⟩
  have hbw : Below w.heap.size w w1 := ((Below.refl _ _).alloc (Nat.le_refl _) _).trans (hb.mono (by simp))
  have HI : Hid (0 ≤ i ↔ xs.any (eqP p) = true) := hi
  clear hi hb
  by_cases h0 : 0 ≤ i
  · have HE : Hid (xs.any (eqP p) = true) := HI.out.1 h0
    go_wp2
    go_ret
    rw [HE.out]
    exact ⟨rfl, hbw⟩
  · have HE : Hid (xs.any (eqP p) = false) := by
      show _ = _
      cases hh : xs.any (eqP p)
      · rfl
      · exact absurd (HI.out.2 hh) h0
    have hd : decide (0 ≤ i) = false := decide_eq_false h0
    go_wp2
    go_ret
    rw [HE.out]
    exact ⟨rfl, hbw⟩
end Go.Proofs.Ybulkdlum.lawA
