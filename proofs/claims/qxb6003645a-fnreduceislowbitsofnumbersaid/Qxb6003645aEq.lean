import Derived.Test.Qxb6003645aR2
import Derived.Laws.StructEq
namespace Go.Proofs.Qxb6003645a
open Go.RowKit
set_option linter.unusedVariables false

theorem all_range_int : ∀ (xs ys : List Int), xs.length = ys.length → ((List.range xs.length).all fun i => xs.getD i 0 == ys.getD i 0) = (xs == ys)
  | [], [], _ => rfl
  | x :: xs, y :: ys, h => by
    have ih := all_range_int xs ys (by simpa using h)
    rw [List.length_cons, List.range_succ_eq_map, List.all_cons, List.all_map]
    simp only [List.getD_cons_zero, Function.comp_def, List.getD_cons_succ, ih]
    simp [List.cons_beq_cons]
  | [], _ :: _, h => by simp at h
  | _ :: _, [], h => by simp at h

theorem sizeByte (w : World) : (sizeOf 5).run Try.prog w = .ok 1 w := by kernel_rfl

theorem equalIn_idc (xs ys : List Int) (hx : xs.length = 20) (hy : ys.length = 20) (w : World) :
    (Op.equalIn 10000 26 (.agg (idc xs)) (.agg (idc ys))).run Try.prog w = .ok (xs == ys) w := by
  rw [← all_range_int xs ys (hx.trans hy.symm), hx, List.range_eq_range', Op.equalIn]
  simp only [Sem.run_bind, run_underlying Try.underlying26, Result.andThen_ok, sizeByte, Std.Legacy.Range.forIn_eq_forIn_range', Std.Legacy.Range.size, Nat.sub_zero, Nat.add_sub_cancel, Nat.div_one]
  have hl : ∀ i ∈ List.range' 0 20 1, i < 20 := fun i hi => by simpa using (List.mem_range'_1.1 hi).2
  generalize List.range' 0 20 1 = l at hl ⊢
  induction l with
  | nil => simp
  | cons i l ih =>
    have hi : i < 20 := hl i (by simp)
    have px : (Go.part 5 (idc xs) (i * 1)).run Try.prog w = .ok (.int .u8 (xs.getD i 0)) w := by
      simp [Go.part, isAgg, run_underlying Try.underlying5, idc, List.getD, List.getElem?_eq_getElem (show i < xs.length by omega)]
    have py : (Go.part 5 (idc ys) (i * 1)).run Try.prog w = .ok (.int .u8 (ys.getD i 0)) w := by
      simp [Go.part, isAgg, run_underlying Try.underlying5, idc, List.getD, List.getElem?_eq_getElem (show i < ys.length by omega)]
    have pe : (Op.equalIn 9999 5 (.int .u8 (xs.getD i 0)) (.int .u8 (ys.getD i 0))).run Try.prog w = .ok (xs.getD i 0 == ys.getD i 0) w :=
      run_equalIn_int w 9998 5 .u8 .u8 _ _ Try.underlying5
    simp only [List.forIn_cons, Sem.run_bind, px, py, pe, Result.andThen_ok, List.all_cons]
    cases hb : (xs.getD i 0 == ys.getD i 0)
    · simp
    · simp only [Bool.not_true, Bool.false_eq_true, if_false, Sem.run_pure, Result.andThen_ok, Bool.true_and]
      exact ih fun j hj => hl j (by simp [hj])
end Go.Proofs.Qxb6003645a
