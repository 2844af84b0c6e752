/- LawS5645AWhole: the contract of zzs5645acode. -/
import Derived.Test.YbulkdlwqBlk
import Derived.Test.YbulkdlwqBits
namespace Go.Proofs.Ybulkdlwq.huff
open Go.RowKit
set_option linter.unusedVariables false

def zzTerm (L : List Nat) (l s k : Nat) : Nat := if L.getD k 0 = 0 then 0 else if L.getD k 0 < l then 2 ^ (l - L.getD k 0) else if L.getD k 0 = l ∧ k < s then 1 else 0
def zzTo (L : List Nat) (l s : Nat) : Nat → Nat
  | 0 => 0
  | k + 1 => zzTo L l s k + zzTerm L l s k
theorem short_append (A B : List Nat) (l : Nat) : short (A ++ B) l = short A l + short B l := by
  induction A with
  | nil => simp [short]
  | cons a A ih => simp only [List.cons_append, short, ih]; omega
theorem zzTo_eq (L : List Nat) (l s : Nat) (h0 : l ≠ 0) : ∀ k, k ≤ L.length → zzTo L l s k = short (L.take k) l + (L.take (min s k)).count l
  | 0, _ => by simp [zzTo, short]
  | k + 1, hk => by
    have hx : L[k]? = some (L.getD k 0) := by simp [List.getD, List.getElem?_eq_getElem (show k < L.length by omega)]
    rw [zzTo, zzTo_eq L l s h0 k (by omega)]
    have e1 : short (L.take (k + 1)) l = short (L.take k) l + (if L.getD k 0 = 0 then 0 else if L.getD k 0 < l then 2 ^ (l - L.getD k 0) else 0) := by
      rw [List.take_add_one, hx, short_append]
      simp [short]
    have e2 : (L.take (min s (k + 1))).count l = (L.take (min s k)).count l + (if L.getD k 0 = l ∧ k < s then 1 else 0) := by
      by_cases hs : k < s
      · rw [show min s (k + 1) = k + 1 by omega, show min s k = k by omega, List.take_add_one, hx, List.count_append]
        by_cases e : L.getD k 0 = l
        · rw [if_pos ⟨e, hs⟩, e]
          simp
        · rw [if_neg (fun h => e h.1)]
          have : ([L.getD k 0] : List Nat).count l = 0 := by rw [List.count_cons_of_ne e]; rfl
          simpa using this
      · rw [show min s (k + 1) = s by omega, show min s k = s by omega, if_neg (fun h => hs h.2)]
        rfl
    rw [e1, e2]
    unfold zzTerm
    by_cases a : L.getD k 0 = 0
    · rw [if_pos a, if_pos a, if_neg (fun h => h0 (h.1.symm.trans a))]
      omega
    · rw [if_neg a, if_neg a]
      by_cases b : L.getD k 0 < l
      · rw [if_pos b, if_pos b, if_neg (fun h => by omega)]
        omega
      · rw [if_neg b, if_neg b]
        omega
theorem zzTo_code {L : List Nat} {s : Nat} (hs : s < L.length) (h0 : L.getD s 0 ≠ 0) : zzTo L (L.getD s 0) s L.length = code L s := by
  rw [zzTo_eq L _ s h0 _ (Nat.le_refl _), List.take_length, show min s L.length = s by omega, ← first_eq]
  rfl
theorem zzTerm_le (L : List Nat) (l s k : Nat) (hl : l ≤ 15) : zzTerm L l s k ≤ 32768 := by
  unfold zzTerm
  split
  · omega
  · split
    · exact Nat.pow_le_pow_right (show 2 > 0 by omega) (show l - _ ≤ 15 by omega)
    · split <;> omega
theorem zzTo_le (L : List Nat) (l s : Nat) (hl : l ≤ 15) : ∀ k, zzTo L l s k ≤ k * 32768
  | 0 => by simp [zzTo]
  | k + 1 => by
    have := zzTo_le L l s hl k
    have := zzTerm_le L l s k hl
    rw [zzTo]
    omega

set_option maxRecDepth 100000 in
set_option maxHeartbeats 800000 in
theorem zz_any (g o n c s : Nat) (L : List Nat) (w : World) (hL : L.length = n) (hn : n ≤ 288) (h15 : ∀ s, L.getD s 0 ≤ 15) (hs : s < n) (hs0 : L.getD s 0 ≠ 0) (hR : Rd w g o n .u8 (fun i => L.getD i 0)) :
    Calls Yba.prog 7 #[.slice (some ⟨g, o, none⟩) n c, .int .i64 (s : Nat)] w fun e w' => e = .returned (.int .u32 (code L s : Nat)) ∧ Below w.heap.size w w' := by
  have HL : Hid (L.length = n) := hL
  have HR : Hid (Rd w g o n .u8 (fun i => L.getD i 0)) := hR
  have H15 : Hid (∀ s, L.getD s 0 ≤ 15) := h15
  obtain ⟨l, hl⟩ : ∃ l, l = L.getD s 0 := ⟨_, rfl⟩
  have hl15 : l ≤ 15 := by rw [hl]; exact h15 s
  have HC : Hid (zzTo L l s n = code L s) := by show _ = _; rw [hl, ← hL]; exact zzTo_code (by omega) hs0
  have c0 : w.cell? ⟨g, o + s, none⟩ = some (.int .u8 (l : Nat)) := by rw [hl]; exact hR s hs
  clear hL hR h15 hl hs0
  go_enter Yba.func7, Yba.ntmps7
  go_wp2_with fail
  clear c0
  go_loopw [6, 15] (fun cv kv wr => ∃ k : Nat, k ≤ n ∧ kv = .int .i64 k ∧ cv = .int .u32 (zzTo L l s k : Nat) ∧ Hid (Below w.heap.size w wr)) (fun _ kv _ => n - (intOf kv).toNat)
  case atStart => exact ⟨0, Nat.zero_le _, rfl, rfl, Below.refl _ _⟩
  case round =>
    obtain ⟨k, hk, rfl, rfl, HB⟩ := hrel
    by_cases hlt : k < n
    · obtain ⟨m, hm⟩ : ∃ m, m = L.getD k 0 := ⟨_, rfl⟩
      have c0 : wr.cell? ⟨g, o + k, none⟩ = some (.int .u8 (m : Nat)) := by rw [hm]; exact (HR.out.later HB.out) k hlt
      have hm15 : m ≤ 15 := by rw [hm]; exact H15.out k
      have hb := zzTo_le L l s hl15 k
      have HT : Hid (zzTo L l s (k + 1) = zzTo L l s k + (if m = 0 then 0 else if m < l then 2 ^ (l - m) else if m = l ∧ k < s then 1 else 0)) := by
        show _ = _
        rw [zzTo, zzTerm, hm]
      clear hm
      by_cases h0 : m = 0
      · subst h0
        go_wp2_with fail
        go_roundw
        case rel => exact ⟨k + 1, by omega, by go_num, by rw [HT.out]; simp, HB⟩
        case measure => simp [intOf]; omega
      · by_cases h1 : m < l
        · have hp : 2 ^ (l - m) ≤ 32768 := Nat.pow_le_pow_right (show 2 > 0 by omega) (show l - _ ≤ 15 by omega)
          have HP : Hid (((2 : Int)) ^ (l - m) = ((2 ^ (l - m) : Nat) : Int)) := by show _ = _; simp
          go_wp2_with fail
          go_roundw
          case rel =>
            refine ⟨k + 1, by omega, by go_num, ?_, HB⟩
            rw [HT.out, HP.out, if_neg h0, if_pos h1]
            clear HT HP
            generalize 2 ^ (l - m) = q at hp ⊢
            congr 1
            omega
          case measure => simp [intOf]; omega
        · by_cases h2 : m = l
          · subst h2
            by_cases h3 : k < s
            · go_wp2_with fail
              go_roundw
              case rel => exact ⟨k + 1, by omega, by go_num, by rw [HT.out, if_neg h0, if_neg h1, if_pos ⟨rfl, h3⟩]; simp, HB⟩
              case measure => simp [intOf]; omega
            · go_wp2_with fail
              go_roundw
              case rel => exact ⟨k + 1, by omega, by go_num, by rw [HT.out, if_neg h0, if_neg h1, if_neg (fun h => h3 h.2)]; simp, HB⟩
              case measure => simp [intOf]; omega
          · go_wp2_with fail
            go_roundw
            case rel => exact ⟨k + 1, by omega, by go_num, by rw [HT.out, if_neg h0, if_neg h1, if_neg (fun h => h2 h.1)]; simp, HB⟩
            case measure => simp [intOf]; omega
    · obtain rfl : k = n := by omega
      go_wp2_with fail
      go_ret
      rw [HC.out]
      exact ⟨rfl, HB.out⟩
end Go.Proofs.Ybulkdlwq.huff
