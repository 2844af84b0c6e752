/- LawS5645AWhole: one operation by hand: a whole array out of memory or into it. -/
import Derived.Test.YbulkdlwqBlk
namespace Go.Proofs.Ybulkdlwq.huff
open Go.RowKit
set_option linter.unusedVariables false

theorem wp_load {P : Program} {o : Oper} {a : Act} {w : World} {next : Act → World → Prop} {Q : Exit → Act → World → Prop} (t : TypeId) (x : Operand) (ho : o.op = .load t x) (p v : Value) (hp : a.eval x = p)
    (h : (Instr.loadAt t p).run P w = .ok v w) (hn : next (a.put o.dst v) w) : Oper.wp P o a w next Q := by
  have e : (execOp a.eval o).run P w = .ok (.value v) w := by
    unfold execOp
    rw [ho]
    simp [hp, h]
  unfold Oper.wp
  rw [e, Oper.upon_value]
  exact hn
theorem wp_store {P : Program} {o : Oper} {a : Act} {w w' : World} {next : Act → World → Prop} {Q : Exit → Act → World → Prop} (t : TypeId) (x y : Operand) (ho : o.op = .store t x y) (p v : Value) (hp : a.eval x = p) (hv : a.eval y = v)
    (h : (Instr.storeAt t p v).run P w = .ok () w') (hn : next (a.put o.dst undef) w') : Oper.wp P o a w next Q := by
  have e : (execOp a.eval o).run P w = .ok .skip w' := by
    unfold execOp
    rw [ho]
    simp [hp, hv, h]
  unfold Oper.wp
  rw [e, Oper.upon_skip]
  exact hn
set_option maxRecDepth 100000 in
theorem index43 (cb : Array Value) (i v : Nat) (hi : i < 1024) (h : cb[i]? = some (.int .u8 (v : Nat))) (w : World) : (Instr.index 43 (.agg cb) (.int .i64 (i : Nat))).run Yba.prog w = .ok (.int .u8 (v : Nat)) w := by
  simp [Instr.index, run_underlying Yba.underlying43, asIntOf, hi, part, isAgg, run_underlying Yba.underlying5, h]
theorem wrap_id (n : Nat) (h : n ≤ 1048576) : wrap64 ((n : Nat) : Int) = ((n : Nat) : Int) := by
  unfold wrap64
  omega
theorem wrap_sum (a q : Nat) (ha : a ≤ 65536) (hq : q ≤ 65536) : wrap64 ((a : Int) + wrap64 (q : Int)) = ((a + q : Nat) : Int) := by
  rw [wrap_id q (by omega), show (a : Int) + (q : Int) = ((a + q : Nat) : Int) by omega, wrap_id _ (by omega)]
theorem pow_cast (n : Nat) : (2 : Int) ^ n = ((2 ^ n : Nat) : Int) := by simp
end Go.Proofs.Ybulkdlwq.huff
