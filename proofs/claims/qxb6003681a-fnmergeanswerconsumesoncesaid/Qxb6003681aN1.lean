import Derived.Test.Qxb6003681aN0
namespace Go.Proofs.Qxb6003681a
open Go.RowKit
set_option linter.unusedVariables false

theorem zipc_true {l s : List Int} {x y : Int} {n k : Nat} (hl : l.length = n) (hs : s.length = n) (hk : k < n) (h1 : x = l.getD k 0) (h2 : y = s.getD k 0) : (l.zip s).contains (x, y) = true := by
  rw [List.contains_iff_mem]
  have h := zip_at l s k n hl hs hk
  rw [← h1, ← h2] at h
  rw [← h, List.getD_eq_getElem?_getD, List.getElem?_eq_getElem (by simp; omega), Option.getD_some]
  exact List.getElem_mem _

theorem zipc_false {l s : List Int} {x y : Int} {n : Nat} (hl : l.length = n) (hs : s.length = n) (h : ∀ j, j < n → ¬ (l.getD j 0 = x ∧ s.getD j 0 = y)) : (l.zip s).contains (x, y) = false := by
  rw [Bool.eq_false_iff, ne_eq, List.contains_iff_mem]
  intro hm
  obtain ⟨j, hj, e⟩ := List.getElem_of_mem hm
  have hj2 : j < n := by simp at hj; omega
  have hz := zip_at l s j n hl hs hj2
  rw [List.getD_eq_getElem?_getD, List.getElem?_eq_getElem hj, Option.getD_some, e] at hz
  simp only [Prod.mk.injEq] at hz
  exact h j hj2 ⟨hz.1.symm, hz.2.symm⟩

set_option maxRecDepth 20000 in
set_option maxHeartbeats 1000000 in
theorem isEntry_bool (a b : Option Addr) (n c m d : Nat) (l s : List Int) (x y : Int) (w : World) (hn : l.length = n) (hs : s.length = n) (hm : n ≤ 1048576) (hl : HasI w a l) (hsl : HasI w b s) :
    Calls Try.prog 24 #[.slice a n c, .slice b n d, .int .i64 x, .int .i64 y] w fun e w' => e = .returned (.bool ((l.zip s).contains (x, y))) ∧ w' = w := by
  have HL : Hid (l.length = n ∧ HasI w a l) := ⟨hn, hl⟩
  have HS : Hid (s.length = n ∧ HasI w b s) := ⟨hs, hsl⟩
  clear hn hl hs hsl
  obtain ⟨res, hres⟩ : ∃ res, res = (l.zip s).contains (x, y) := ⟨_, rfl⟩
  rw [← hres]
  have HRES : Hid (res = (l.zip s).contains (x, y)) := hres
  clear hres
  go_enter Try.func24, Try.ntmps24
  go_wp2_with fail
  go_loopw [9] (fun iv wr => ∃ k : Nat, iv = .int .i64 k ∧ k ≤ n ∧ wr = w ∧ Hid (∀ j, j < k → ¬ (l.getD j 0 = x ∧ s.getD j 0 = y))) (fun iv _ => n - (intOf iv).toNat)
  case atStart => exact ⟨0, rfl, Nat.zero_le _, rfl, fun j hj => by omega⟩
  case round =>
    obtain ⟨k, rfl, hk, hwr, HR⟩ := hrel
    obtain rfl := hwr.symm
    by_cases hlt : k < n
    · obtain ⟨g, o, e, hc⟩ := HL.out.2 (by rw [HL.out.1]; omega)
      cases e
      obtain ⟨g2, o2, e, hc2⟩ := HS.out.2 (by rw [HS.out.1]; omega)
      cases e
      have hck := hc k (by rw [HL.out.1]; omega)
      have hck2 := hc2 k (by rw [HS.out.1]; omega)
      obtain ⟨z, hz⟩ : ∃ z, z = l.getD k 0 := ⟨_, rfl⟩
      have HZ : Hid (z = l.getD k 0) := hz
      rw [← hz] at hck
      obtain ⟨z2, hz2⟩ : ∃ z, z = s.getD k 0 := ⟨_, rfl⟩
      have HZ2 : Hid (z2 = s.getD k 0) := hz2
      rw [← hz2] at hck2
      clear hz hc hz2 hc2
      by_cases hzx : z = x
      · by_cases hzy : z2 = y
        · subst hzx hzy
          go_wp2
          go_ret
          have e : res = true := by rw [HRES.out]; exact zipc_true HL.out.1 HS.out.1 hlt HZ.out HZ2.out
          rw [e]
          exact ⟨rfl, rfl⟩
        · subst hzx
          go_wp2
          refine ⟨⟨k + 1, by go_num, by omega, trivial, ?_⟩, by simp [intOf]; omega⟩
          show ∀ j, _
          intro j hj
          by_cases hj2 : j < k
          · exact HR.out j hj2
          · obtain rfl : j = k := by omega
            rw [← HZ.out, ← HZ2.out]; exact fun h => hzy h.2
      · go_wp2
        refine ⟨⟨k + 1, by go_num, by omega, trivial, ?_⟩, by simp [intOf]; omega⟩
        show ∀ j, _
        intro j hj
        by_cases hj2 : j < k
        · exact HR.out j hj2
        · obtain rfl : j = k := by omega
          rw [← HZ.out, ← HZ2.out]; exact fun h => hzx h.1
    · obtain rfl : n = k := by omega
      go_wp2
      go_ret
      have e : res = false := by rw [HRES.out]; exact zipc_false HL.out.1 HS.out.1 HR.out
      rw [e]
      exact ⟨rfl, rfl⟩
end Go.Proofs.Qxb6003681a
