import Derived.Test.Qxb6003681aN2
namespace Go.Proofs.Qxb6003681a
open Go.RowKit
set_option linter.unusedVariables false

theorem nodes_zip {l s : List Int} (h : l.length = s.length) : nodesOf (l.zip s) = l := by
  unfold nodesOf
  exact List.map_fst_zip (by omega)
theorem ages_zip {l s : List Int} (h : l.length = s.length) : agesOf (l.zip s) = s := by
  unfold agesOf
  exact List.map_snd_zip (by omega)

theorem step_length (v c : Int) : ∀ (es vs : List (Int × Int)) (rs : List Int), (step v c vs rs es).length ≤ vs.length + es.length
  | [], vs, rs => by
    have e : step v c vs rs [] = vs := by cases rs <;> rfl
    rw [e]; simp
  | e :: es, vs, rs => by
    rw [step_cons]
    split
    · have := step_length v c es vs rs
      simp; omega
    · split
      · have := step_length v c es (vs ++ [e]) rs
        simp at this ⊢; omega
      · cases rs with
        | nil => simp
        | cons r rs' =>
          have := step_length v c es (vs.set r.toNat e) rs'
          simp at this ⊢; omega

/-- Some bool, and nothing touched. -/
def SomeB (w : World) (e : Ending) (w' : World) : Prop := ∃ b, e = .returned (.bool b) ∧ w' = w

set_option maxRecDepth 20000 in
set_option maxHeartbeats 1000000 in
theorem bytes7_any (a0 a1 a3 a4 a5 : Option Addr) (n0 c0 n1 c1 n3 c3 n4 c4 n5 c5 : Nat) (v c : Int) (w : World) (h0 : n0 ≤ maxLen) (h1 : n1 ≤ maxLen) (h3 : n3 ≤ maxLen) (h4 : n4 ≤ maxLen) (h5 : n5 ≤ maxLen) :
    Calls Try.prog 7 #[.slice a0 n0 c0, .slice a1 n1 c1, .int .i64 v, .slice a3 n3 c3, .slice a4 n4 c4, .slice a5 n5 c5, .int .i64 c] w fun e w' => SomeB w e w' := by
  unfold maxLen at h0 h1 h3 h4 h5
  have hh : (¬ n0 ≤ 1048576) ∨ (n0 ≤ 1048576 ∧ ¬ n1 ≤ 1048576) ∨ (n0 ≤ 1048576 ∧ n1 ≤ 1048576 ∧ ¬ n0 + n1 ≤ 1048576)
      ∨ (n0 + n1 ≤ 1048576 ∧ ¬ n3 ≤ 1048576) ∨ (n0 + n1 ≤ 1048576 ∧ n3 ≤ 1048576 ∧ ¬ n0 + n1 + n3 ≤ 1048576)
      ∨ (n0 + n1 + n3 ≤ 1048576 ∧ ¬ n4 ≤ 1048576) ∨ (n0 + n1 + n3 ≤ 1048576 ∧ n4 ≤ 1048576 ∧ ¬ n0 + n1 + n3 + n4 ≤ 1048576)
      ∨ (n0 + n1 + n3 + n4 ≤ 1048576 ∧ ¬ n5 ≤ 1048576) ∨ (n0 + n1 + n3 + n4 ≤ 1048576 ∧ n5 ≤ 1048576 ∧ ¬ n0 + n1 + n3 + n4 + n5 ≤ 1048576) ∨ (n0 + n1 + n3 + n4 + n5 ≤ 1048576) := by omega
  rcases hh with hh | ⟨hh, hi⟩ | ⟨hh, hi, hj⟩ | ⟨hh, hi⟩ | ⟨hh, hi, hj⟩ | ⟨hh, hi⟩ | ⟨hh, hi, hj⟩ | ⟨hh, hi⟩ | ⟨hh, hi, hj⟩ | hh
  all_goals
    go_enter Try.func7, Try.ntmps7
    go_wp2
    go_ret
    exact ⟨_, rfl, rfl⟩

end Go.Proofs.Qxb6003681a
