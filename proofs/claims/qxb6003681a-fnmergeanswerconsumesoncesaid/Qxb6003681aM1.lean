import Derived.Test.Qxb6003681aZ2
namespace Go.Proofs.Qxb6003681a
open Go.RowKit
set_option linter.unusedVariables false

/-! Reading walks over rows of integers. -/

theorem contains_true {l : List Int} {x : Int} {j : Nat} (hj : j < l.length) (h : l.getD j 0 = x) : l.contains x = true := by
  rw [List.contains_iff_mem, ← h, List.getD_eq_getElem?_getD, List.getElem?_eq_getElem hj]
  exact List.getElem_mem hj

theorem contains_false {l : List Int} {x : Int} (h : ∀ j, j < l.length → ¬ l.getD j 0 = x) : l.contains x = false := by
  rw [Bool.eq_false_iff, ne_eq, List.contains_iff_mem]
  intro hm
  obtain ⟨j, hj, e⟩ := List.getElem_of_mem hm
  refine h j hj ?_
  rw [List.getD_eq_getElem?_getD, List.getElem?_eq_getElem hj]
  exact e

set_option maxRecDepth 20000 in
set_option maxHeartbeats 1000000 in
theorem contains_any (a : Option Addr) (n c : Nat) (l : List Int) (x : Int) (w : World) (hn : l.length = n) (hm : n ≤ 1048576) (hl : HasI w a l) :
    Calls Try.prog 20 #[.slice a n c, .int .i64 x] w fun e w' => e = .returned (.bool (l.contains x)) ∧ w' = w := by
  have HL : Hid (l.length = n ∧ HasI w a l) := ⟨hn, hl⟩
  clear hn hl
  obtain ⟨res, hres⟩ : ∃ res, res = l.contains x := ⟨_, rfl⟩
  rw [← hres]
  have HRES : Hid (res = l.contains x) := hres
  clear hres
  go_enter Try.func20, Try.ntmps20
  go_wp2_with fail
  go_loopw [5] (fun iv wr => ∃ k : Nat, iv = .int .i64 k ∧ k ≤ n ∧ wr = w ∧ Hid (∀ j, j < k → ¬ l.getD j 0 = x)) (fun iv _ => n - (intOf iv).toNat)
  case atStart => exact ⟨0, rfl, Nat.zero_le _, rfl, fun j hj => by omega⟩
  case round =>
    obtain ⟨k, rfl, hk, hwr, HR⟩ := hrel
    obtain rfl := hwr.symm
    by_cases hlt : k < n
    · obtain ⟨g, o, e, hc⟩ := HL.out.2 (by rw [HL.out.1]; omega)
      cases e
      have hck := hc k (by rw [HL.out.1]; omega)
      obtain ⟨z, hz⟩ : ∃ z, z = l.getD k 0 := ⟨_, rfl⟩
      have HZ : Hid (z = l.getD k 0) := hz
      rw [← hz] at hck
      clear hz hc
      by_cases hzx : z = x
      · subst hzx
        go_wp2
        go_ret
        refine ⟨?_, rfl⟩
        rw [HRES.out, contains_true (by rw [HL.out.1]; exact hlt) HZ.out.symm]
        rfl
      · go_wp2
        refine ⟨⟨k + 1, by go_num, by omega, trivial, ?_⟩, by simp [intOf]; omega⟩
        show ∀ j, _
        intro j hj
        by_cases hj2 : j < k
        · exact HR.out j hj2
        · obtain rfl : j = k := by omega
          rw [← HZ.out]; exact hzx
    · obtain rfl : n = k := by omega
      go_wp2
      go_ret
      refine ⟨?_, rfl⟩
      rw [HRES.out, contains_false (fun j hj => HR.out j (by rw [← HL.out.1]; exact hj))]
      rfl

theorem nodup_false {l : List Int} {i j : Nat} (hij : i < j) (hj : j < l.length) (h : l.getD i 0 = l.getD j 0) : decide l.Nodup = false := by
  rw [decide_eq_false_iff_not]
  intro hn
  rw [List.getD_eq_getElem?_getD, List.getD_eq_getElem?_getD, List.getElem?_eq_getElem hj, List.getElem?_eq_getElem (by omega)] at h
  have hi : i < l.length := by omega
  have h2 : l[i] = l[j] := by simpa using h
  exact List.pairwise_iff_getElem.1 hn i j hi hj hij h2

theorem nodup_true {l : List Int} (h : ∀ i j, i < j → j < l.length → ¬ l.getD i 0 = l.getD j 0) : decide l.Nodup = true := by
  rw [decide_eq_true_iff, List.Nodup, List.pairwise_iff_getElem]
  intro i j hi hj hij e
  refine h i j hij hj ?_
  rw [List.getD_eq_getElem?_getD, List.getD_eq_getElem?_getD, List.getElem?_eq_getElem hj, List.getElem?_eq_getElem hi, e]

set_option maxRecDepth 20000 in
set_option maxHeartbeats 1000000 in
theorem distinct_any (a : Option Addr) (n c : Nat) (l : List Int) (w : World) (hn : l.length = n) (hm : n ≤ 1048576) (hl : HasI w a l) :
    Calls Try.prog 9 #[.slice a n c] w fun e w' => e = .returned (.bool (decide l.Nodup)) ∧ ∃ q, w' = w.drewN q := by
  have HL : Hid (l.length = n ∧ HasI w a l) := ⟨hn, hl⟩
  clear hn hl
  obtain ⟨res, hres⟩ : ∃ res, res = decide l.Nodup := ⟨_, rfl⟩
  rw [← hres]
  have HRES : Hid (res = decide l.Nodup) := hres
  clear hres
  go_enter Try.func9, Try.ntmps9
  go_wp2_with fail
  go_loopw [3] (fun iv wr => ∃ k q : Nat, iv = .int .i64 k ∧ k ≤ n ∧ wr = w.drewN q ∧ Hid (∀ i j, i < k → i < j → j < n → ¬ l.getD i 0 = l.getD j 0)) (fun iv _ => n - (intOf iv).toNat)
  case atStart => exact ⟨0, 0, rfl, Nat.zero_le _, rfl, fun i j hi => by omega⟩
  case round =>
    obtain ⟨k, q, rfl, hk, rfl, HR⟩ := hrel
    by_cases hlt : k < n
    · obtain ⟨g, o, e, hc⟩ := HL.out.2 (by rw [HL.out.1]; omega)
      cases e
      have hck := hc k (by rw [HL.out.1]; omega)
      obtain ⟨z, hz⟩ : ∃ z, z = l.getD k 0 := ⟨_, rfl⟩
      have HZ : Hid (z = l.getD k 0) := hz
      have HC : Hid (∀ j, j < l.length → w.cell? ⟨g, o + j, none⟩ = some (.int .i64 (l.getD j 0))) := hc
      rw [← hz] at hck
      clear hz hc
      go_wp2_with fail
      go_loopw [4] (fun iv wv => ∃ j q : Nat, iv = .int .i64 j ∧ k < j ∧ j ≤ n ∧ wv = w.drewN q ∧ Hid (∀ i, k < i → i < j → ¬ z = l.getD i 0)) (fun iv _ => n - (intOf iv).toNat)
      case atStart => exact ⟨k + 1, q, by go_num, by omega, by omega, rfl, fun i h1 h2 => by omega⟩
      case round =>
        obtain ⟨j, q2, rfl, hkj, hj, rfl, HR2⟩ := hrel
        by_cases hjn : j < n
        · have hcj := HC.out j (by rw [HL.out.1]; omega)
          obtain ⟨y, hy⟩ : ∃ y, y = l.getD j 0 := ⟨_, rfl⟩
          have HY : Hid (y = l.getD j 0) := hy
          rw [← hy] at hcj
          clear hy
          by_cases hzy : z = y
          · subst hzy
            go_upto_region 7 with fail
            go_quiet (fail)
            go_wp2
            go_ret
            refine ⟨?_, q2 + nq, World.drewN_drewN _ _ _⟩
            rw [HRES.out, nodup_false hkj (by rw [HL.out.1]; exact hjn) (by rw [← HZ.out, ← HY.out])]
            rfl
          · go_upto_region 7 with fail
            go_quiet (fail)
            go_wp2
            refine ⟨⟨j + 1, _, by go_num, by omega, by omega, rfl, ?_⟩, by simp [intOf]; omega⟩
            show ∀ i, _
            intro i h1 h2
            by_cases hi2 : i < j
            · exact HR2.out i h1 hi2
            · obtain rfl : i = j := by omega
              rw [← HY.out]; exact hzy
        · obtain rfl : n = j := by omega
          go_wp2
          refine ⟨⟨k + 1, _, by go_num, by omega, rfl, ?_⟩, by simp [intOf]; omega⟩
          show ∀ i j, _
          intro i j h1 h2 h3
          by_cases hi2 : i < k
          · exact HR.out i j hi2 h2 h3
          · obtain rfl : i = k := by omega
            rw [← HZ.out]; exact HR2.out j h2 h3
    · obtain rfl : n = k := by omega
      go_wp2
      go_ret
      refine ⟨?_, _, rfl⟩
      rw [HRES.out, nodup_true (fun i j h1 h2 => HR.out i j (by have := HL.out.1; omega) h1 (by have := HL.out.1; omega))]
      rfl
end Go.Proofs.Qxb6003681a
