import Derived.Test.Qxb6003645aRows
import Derived.Test.Qxb6003645aR5
import Derived.WalkKit
import Derived.ProofKit
import Derived.OpenShut
import Derived.ShutString
import Derived.ChangeOld
import Derived.Below
namespace Go.Proofs.Qxb6003645a.fnShiftDownUndoesShiftUp
open Go.ChangeShapes Go.WideShapes Go.ChangeAt Go.RowKit
open Go.ChangeMaps (open_string shut_string)
set_option linter.unusedVariables false

theorem own : ownKnob Try.prog.godebug = none := by kernel_rfl
theorem laidOut : laidOutB Try.prog = true := by kernel_rfl

theorem cells5 : Try.prog.cellsOf 5 = 1 := by kernel_rfl
theorem cells25 : Try.prog.cellsOf 25 = 20 := by kernel_rfl

/-- An array of twenty bytes by value: its cells are twenty bytes. -/
theorem open_id {H : Type} {enc : TypeId × Value → H} {W : World} {base b : Nat} {v : Value} {d : DataW H} {ps : List MemPlace} {spare : Nat → Bool} {held : Bool}
    (ho : Value.okWide Try.prog W .any base 25 v) (h : DataW.Trod enc Try.prog W b spare held 25 v d ps) : ∃ n : List Int, v = .agg (idc n) ∧ n.length = 20 ∧ Bytes n := by
  obtain ⟨cs, rfl, hsz, _⟩ : ∃ cs, v = .agg cs ∧ cs.size = Try.prog.cellsOf 25 ∧ Row.okWide Try.prog W .any base 25 cs := by
    simpa [Value.okWide, Try.underlying25] using ho
  rw [cells25] at hsz
  obtain ⟨fuel, hf⟩ := h
  obtain ⟨xs, m, _, _, _, hl, hel⟩ := DataW.trod_array Try.underlying25 hf
  have hc : ∀ i, i < 20 → ∃ z, cs[i]? = some (.int .u8 z) ∧ (Lit.int .u8 z).wf = true := by
    intro i hi
    have hE := hel i hi
    rw [cells5, Nat.mul_one, List.getElem?_eq_getElem (by omega)] at hE
    obtain ⟨z, e1, _, e3⟩ := DataW.trod_int Try.underlying5 hE
    refine ⟨z, ?_, e3⟩
    have h0 : ((cs.toList.drop i).take 1)[0]? = some (.int .u8 z) := by
      have : Value.cells (.agg cs) = cs := rfl
      rw [this] at e1
      rw [e1]; rfl
    simpa using h0
  refine ⟨cs.toList.map fun v => (match v with | .int _ z => z | _ => 0), ?_, by simpa using hsz, ?_⟩
  · congr 1
    apply Array.ext_getElem?
    intro i
    by_cases hi : i < 20
    · obtain ⟨z, hz, _⟩ := hc i hi
      simp [idc, hz]
    · rw [Array.getElem?_eq_none (by omega), Array.getElem?_eq_none (by simp [idc]; omega)]
  · intro j
    by_cases hj : j < 20
    · obtain ⟨z, hz, hw⟩ := hc j hj
      have := bounds_u8 hw
      simp [List.getD, hz]
      omega
    · rw [List.getD_eq_getElem?_getD, List.getElem?_eq_none (by simp; omega)]
      simp

/-! ### THE ROW's STEP: WRITTEN OUT: LEAVE IT -/
set_option maxRecDepth 100000 in
theorem lifted (os : Os) (started : os.Started) (H : Type) (enc : TypeId × Value → H) :
    ReturnsInHanded {} Try.checked os 6 .any (Rows.fnShiftDownUndoesShiftUpSpec.pre6 enc Try.prog Try.f6 Rows.fnShiftDownUndoesShiftUpRow.domain false) (Rows.fnShiftDownUndoesShiftUpSpec.post enc Try.prog Try.f6 false true false false) := by
  refine returnsInHanded_of_change (C := Try.checked) own started (by kernel_rfl) Try.func6
    (ChangeSpec.witness6 (enc := enc) (C := Try.checked) false ⟨#[], #[.int .i64 0, .agg (idc zeros), .int .i64 0], []⟩ 8 (by kernel_rfl) (by kernel_rfl) (by kernel_rfl) (by kernel_rfl)) ?_
  intro W base args ds gs before hval0 hW hcnd _
  have hval : ∀ (j : Nat) t v, Try.f6.params[j]? = some t → args[j]? = some v → Value.okWide Try.prog W .any base t v := hval0
  have hW' := hW
  obtain ⟨p, q, hA0, hV, rfl, hfz, hnd⟩ := hW
  have hA : DataW.TrodAll enc Try.prog W 0 (fun _ => true) true Try.f6.params.toList args.toList ds p := hA0
  rw [Try.params6] at hA hval
  obtain ⟨v0, vs0, d0, ds0, p0, q0, hargs, rfl, rfl, h0, r0⟩ := trodAll_cons hA
  obtain ⟨v1, vs1, d1, ds1, p1, q1, rfl, rfl, rfl, h1, r1⟩ := trodAll_cons r0
  obtain ⟨v2, vs2, d2, ds2, p2, q2, rfl, rfl, rfl, h2, r2⟩ := trodAll_cons r1
  obtain ⟨rfl, rfl, rfl⟩ := trodAll_nil r2
  obtain rfl : args = #[v0, v1, v2] := by cases args; simp_all
  obtain ⟨rfl, rfl⟩ := trodVars_none hV
  obtain ⟨a0, rfl, rfl, rfl, w0⟩ := open_int Try.underlying3 (hval 0 3 v0 rfl rfl) h0
  obtain ⟨n, rfl, hn, hby⟩ := open_id (hval 1 25 v1 rfl rfl) h1
  have lt1 : ∀ x ∈ p1, x.block < W.heap.size := by obtain ⟨m, hm⟩ := h1; exact DataW.trod_lt m _ _ _ hm
  obtain ⟨a2, rfl, rfl, rfl, w2⟩ := open_int Try.underlying3 (hval 2 3 v2 rfl rfl) h2
  clear hA0 hval0
  refine (law6_any a0 a2 n W hn hby (bounds_i64 w2).2).mono fun e W' ⟨he, bel⟩ => ?_
  subst he
  exact ⟨_, rfl, _, _, _, [], _, [], hW', trodAll_mk1 (shut_bool Try.underlying4 _), (trodAll_cons_mk (shut_int Try.underlying3 w0) (trodAll_cons_mk (Below.trod laidOut (by kernel_rfl) (of_decide_eq_true (by kernel_rfl)) h1 bel lt1) (trodAll_cons_mk (shut_int Try.underlying3 w2) trodAll_mk0))), rfl, bel.frame _, fun h => by cases h⟩

theorem over : Rows.fnShiftDownUndoesShiftUpRow.holds Try.pinned (OpenSpec.ofChange Rows.fnShiftDownUndoesShiftUpSpec) :=
  OpenClaim.holds_of_wide 6 Try.f6 rfl rfl rfl rfl rfl rfl rfl ⟨rfl, rfl, rfl, rfl, rfl⟩ rfl rfl rfl rfl rfl (by kernel_rfl) Try.func6 (by kernel_rfl)
    (of_decide_eq_true (by kernel_rfl)) (by unfold Func.isWrapper; first | (rw [if_pos (by decide +kernel)]; kernel_rfl) | (rw [if_neg (by decide +kernel)]; exact ⟨rfl, rfl⟩))
    (fun os started H enc _ => lifted os started H enc)

/-- ████ THE STATEMENT ████ -/
theorem proved : Rows.FnShiftDownUndoesShiftUpSaid := over
end Go.Proofs.Qxb6003645a.fnShiftDownUndoesShiftUp
