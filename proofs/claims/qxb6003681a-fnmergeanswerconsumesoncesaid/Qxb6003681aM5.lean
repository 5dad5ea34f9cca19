import Derived.Test.Qxb6003681aM4
namespace Go.Proofs.Qxb6003681a
open Go.RowKit
set_option linter.unusedVariables false

/-- An entry that names u stands in the view. -/
def held (vs : List (Int × Int)) (u : Int) : Bool := vs.any fun e => e.1 == u

theorem place_held (vs : List (Int × Int)) (u : Int) : decide (0 ≤ place vs u) = held vs u := by
  unfold place held
  split <;> rename_i h
  · rw [h]; simp
  · rw [Bool.eq_false_iff.2 h]; rfl

theorem contF_any (ao : Option Addr) (n c : Nat) (vs : List (Int × Int)) (u : Int) (gu : Nat) (w : World) (hn : vs.length = n) (hm : n ≤ 10000000) (hv : HasE w ao vs) (hu : w.cell? ⟨gu, 0, none⟩ = some (.int .i64 u)) :
    Calls Try.prog 30 #[.slice ao n c, .func (.func 31) #[] #[.pointer (some ⟨gu, 0, none⟩)]] w fun e w' => e = .returned (.bool (held vs u)) ∧ Below w.heap.size w w' := by
  have hI := index31_any ao n c vs u gu w hn hm hv hu
  rw [← place_held]
  clear hn hv hu
  generalize place vs u = p at hI ⊢
  go_enter Try.func30, Try.ntmps30
  go_wp2_with (go_at_call 27; refine hI.mono ?_; rintro e w2 ⟨rfl, hb2⟩)
  go_ret
  exact ⟨rfl, hb2⟩

theorem holds_any (gn : Nat) (ao : Option Addr) (n c : Nat) (vs : List (Int × Int)) (u : Int) (w : World) (hn : vs.length = n) (hm : n ≤ 10000000) (hv : HasE w ao vs) (hg : w.cell? ⟨gn, 0, none⟩ = some (.slice ao n c)) :
    Calls Try.prog 29 #[.pointer (some ⟨gn, 0, none⟩), .int .i64 u] w fun e w' => e = .returned (.bool (held vs u)) ∧ Below w.heap.size w w' := by
  have hb1 := below_alloc w (.cells #[.int .i64 u] 2)
  have hC := contF_any ao n c vs u w.heap.size _ hn hm (hv.below hb1) (by rw [cell_of_row _ _ 0 _ _ _ (heap_alloc_new w (.cells #[.int .i64 u] 2))]; rfl)
  have hg2 := Lib.cell?_alloc_some (.cells #[.int .i64 u] 2) hg
  clear hn hv
  generalize held vs u = p at hC ⊢
  go_enter Try.func29, Try.ntmps29
  go_wp2_with (go_at_call 30; refine hC.mono ?_; rintro e w2 ⟨rfl, hb2⟩)
  go_ret
  exact ⟨rfl, below_next hb1 hb2⟩
end Go.Proofs.Qxb6003681a
