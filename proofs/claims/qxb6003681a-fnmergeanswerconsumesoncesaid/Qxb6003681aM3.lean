import Derived.Test.Qxb6003681aM2
namespace Go.Proofs.Qxb6003681a
open Go.RowKit
set_option linter.unusedVariables false

theorem ext20 {x y : List Int} {n : Nat} (hx : x.length = n) (hy : y.length = n) (h : ∀ i, i < n → x.getD i 0 = y.getD i 0) : x = y := by
  apply List.ext_getElem?
  intro i
  by_cases hi : i < n
  · have := h i hi
    rw [List.getD_eq_getElem?_getD, List.getD_eq_getElem?_getD, List.getElem?_eq_getElem (by omega), List.getElem?_eq_getElem (by omega)] at this
    rw [List.getElem?_eq_getElem (by omega), List.getElem?_eq_getElem (by omega)]
    simpa using this
  · rw [List.getElem?_eq_none (by omega), List.getElem?_eq_none (by omega)]

theorem getD_set (x : List Int) (k i : Nat) (z : Int) : (x.set k z).getD i 0 = if i = k ∧ k < x.length then z else x.getD i 0 := by
  simp only [List.getD_eq_getElem?_getD, List.getElem?_set]
  by_cases h : k = i
  · subst h
    by_cases hk : k < x.length
    · simp [hk]
    · simp [hk]
  · have h' : ¬ i = k := fun e => h e.symm
    simp [h, h']

/-- The first k of l, then zeros. -/
def part (k : Nat) (l : List Int) : List Int := l.take k ++ List.replicate (l.length - k) 0

theorem part_zero (l : List Int) : part 0 l = List.replicate l.length 0 := by simp [part]
theorem part_all (l : List Int) : part l.length l = l := by simp [part]
theorem part_length (k : Nat) (l : List Int) (h : k ≤ l.length) : (part k l).length = l.length := by simp [part]; omega
theorem part_succ (k : Nat) (l : List Int) (h : k < l.length) : (part k l).set k (l.getD k 0) = part (k + 1) l := by
  refine ext20 (n := l.length) (by rw [List.length_set, part_length _ _ (by omega)]) (part_length _ _ (by omega)) fun i hi => ?_
  rw [getD_set, part_length _ _ (by omega)]
  unfold part
  simp only [List.getD_eq_getElem?_getD]
  by_cases h1 : i = k
  · subst h1
    rw [if_pos ⟨rfl, h⟩, List.getElem?_append_left (by simp; omega), List.getElem?_take_of_lt (by omega)]
  · rw [if_neg (fun e => h1 e.1)]
    by_cases h2 : i < k
    · rw [List.getElem?_append_left (by simp; omega), List.getElem?_append_left (by simp; omega), List.getElem?_take_of_lt (by omega), List.getElem?_take_of_lt (by omega)]
    · rw [List.getElem?_append_right (by simp; omega), List.getElem?_append_right (by simp; omega), List.getElem?_replicate, List.getElem?_replicate]
      simp only [List.length_take]
      split <;> split <;> first | rfl | (simp; done) | omega

def Cloned (n : Nat) (l : List Int) (w : World) (e : Ending) (w' : World) : Prop :=
  ∃ a c, e = .returned (.slice a n c) ∧ HasI w' a l ∧ Below w.heap.size w w' ∧ (a = none → n = 0 ∧ c = 0)

set_option maxRecDepth 20000 in
set_option maxHeartbeats 1000000 in
theorem clone10_any (ao : Option Addr) (n c : Nat) (l : List Int) (w : World) (hn : l.length = n) (hb : n ≤ 1048576) (hl : HasI w ao l) (hnil : ao = none → n = 0 ∧ c = 0) :
    Calls Try.prog 10 #[.slice ao n c] w fun e w' => Cloned n l w e w' := by
  have hnl := fun W a n c => Lib.run_eql_slice_nil (P := Try.prog) W 22 2 a n c 0 0 Try.underlying22
  cases ao with
  | none =>
    obtain ⟨rfl, rfl⟩ := hnil rfl
    have HL : Hid (HasI w none l) := hl
    clear hnil hl hn
    go_enter Try.func10, Try.ntmps10
    go_wp2
    go_ret
    exact ⟨none, 0, rfl, HL.out, Below.refl _ _, fun _ => ⟨rfl, rfl⟩⟩
  | some a =>
    have hmk := run_make_row' (P := Try.prog) 22 2 (.int .i64 0) 8 Try.underlying22 (by kernel_rfl) rfl .i64 .i64 n (by omega) (by omega)
    have HN : Hid (l.length = n) := hn
    clear hn hnil
    rw [made_zeros] at hmk
    go_enter Try.func10, Try.ntmps10
    go_wp2
    have h0 : Hid ((w.alloc (.cells (ic (List.replicate n 0)) 2)).heap[w.heap.size]? = some (.cells (ic (part 0 l)) 2 (0, 0))) := by show _ = _; rw [heap_alloc_new, part_zero, HN.out]
    have hb0 := below_alloc w (.cells (ic (List.replicate n 0)) 2)
    go_loopw [4] (fun iv wr => ∃ k : Nat, iv = .int .i64 k ∧ k ≤ n ∧ Hid (wr.heap[w.heap.size]? = some (.cells (ic (part k l)) 2 (0, 0))) ∧ Below w.heap.size w wr) (fun iv _ => n - (intOf iv).toNat)
    case atStart => exact ⟨0, rfl, Nat.zero_le _, h0, hb0⟩
    case round =>
      obtain ⟨k, rfl, hk, HK, hbk⟩ := hrel
      by_cases hlt : k < n
      · obtain ⟨g, o, e, hc⟩ := (hl.below hbk) (by have := HN.out; omega)
        cases e
        have hck := hc k (by have := HN.out; omega)
        have hck2 := cell_ic (k := k) HK.out (by rw [part_length _ _ (by have := HN.out; omega)]; have := HN.out; omega)
        have hfz := frozen_of_row wr w.heap.size k _ _ HK.out
        obtain ⟨z, hz⟩ : ∃ z, z = l.getD k 0 := ⟨_, rfl⟩
        have HZ : Hid (z = l.getD k 0) := hz
        rw [← hz] at hck
        obtain ⟨v, hv⟩ : ∃ v, v = (part k l).getD k 0 := ⟨_, rfl⟩
        rw [← hv] at hck2
        clear hz hv hc
        go_wp2
        go_roundw
        case rel => exact ⟨k + 1, by go_num, by omega, ic_set HK.out (by rw [HZ.out]; exact part_succ k l (by have := HN.out; omega)), hbk.setCell (Nat.le_refl _) _⟩
        case measure => simp [intOf]; omega
      · obtain rfl : n = k := by omega
        go_wp2
        go_ret
        have hfin := HK.out
        rw [← HN.out, part_all] at hfin
        exact ⟨some ⟨w.heap.size, 0, none⟩, n, rfl, hasI_of_heap hfin, hbk, fun h => by cases h⟩

set_option maxRecDepth 20000 in
set_option maxHeartbeats 1000000 in
theorem clone11_any (ao : Option Addr) (n c : Nat) (l : List Int) (w : World) (hn : l.length = n) (hb : n ≤ 1048576) (hl : HasI w ao l) (hnil : ao = none → n = 0 ∧ c = 0) :
    Calls Try.prog 11 #[.slice ao n c] w fun e w' => Cloned n l w e w' := by
  have hnl := fun W a n c => Lib.run_eql_slice_nil (P := Try.prog) W 23 3 a n c 0 0 Try.underlying23
  cases ao with
  | none =>
    obtain ⟨rfl, rfl⟩ := hnil rfl
    have HL : Hid (HasI w none l) := hl
    clear hnil hl hn
    go_enter Try.func11, Try.ntmps11
    go_wp2
    go_ret
    exact ⟨none, 0, rfl, HL.out, Below.refl _ _, fun _ => ⟨rfl, rfl⟩⟩
  | some a =>
    have hmk := run_make_row' (P := Try.prog) 23 3 (.int .i64 0) 8 Try.underlying23 (by kernel_rfl) rfl .i64 .i64 n (by omega) (by omega)
    have HN : Hid (l.length = n) := hn
    clear hn hnil
    rw [made_zeros] at hmk
    go_enter Try.func11, Try.ntmps11
    go_wp2
    have h0 : Hid ((w.alloc (.cells (ic (List.replicate n 0)) 3)).heap[w.heap.size]? = some (.cells (ic (part 0 l)) 3 (0, 0))) := by show _ = _; rw [heap_alloc_new, part_zero, HN.out]
    have hb0 := below_alloc w (.cells (ic (List.replicate n 0)) 3)
    go_loopw [4] (fun iv wr => ∃ k : Nat, iv = .int .i64 k ∧ k ≤ n ∧ Hid (wr.heap[w.heap.size]? = some (.cells (ic (part k l)) 3 (0, 0))) ∧ Below w.heap.size w wr) (fun iv _ => n - (intOf iv).toNat)
    case atStart => exact ⟨0, rfl, Nat.zero_le _, h0, hb0⟩
    case round =>
      obtain ⟨k, rfl, hk, HK, hbk⟩ := hrel
      by_cases hlt : k < n
      · obtain ⟨g, o, e, hc⟩ := (hl.below hbk) (by have := HN.out; omega)
        cases e
        have hck := hc k (by have := HN.out; omega)
        have hck2 := cell_ic (k := k) HK.out (by rw [part_length _ _ (by have := HN.out; omega)]; have := HN.out; omega)
        have hfz := frozen_of_row wr w.heap.size k _ _ HK.out
        obtain ⟨z, hz⟩ : ∃ z, z = l.getD k 0 := ⟨_, rfl⟩
        have HZ : Hid (z = l.getD k 0) := hz
        rw [← hz] at hck
        obtain ⟨v, hv⟩ : ∃ v, v = (part k l).getD k 0 := ⟨_, rfl⟩
        rw [← hv] at hck2
        clear hz hv hc
        go_wp2
        go_roundw
        case rel => exact ⟨k + 1, by go_num, by omega, ic_set HK.out (by rw [HZ.out]; exact part_succ k l (by have := HN.out; omega)), hbk.setCell (Nat.le_refl _) _⟩
        case measure => simp [intOf]; omega
      · obtain rfl : n = k := by omega
        go_wp2
        go_ret
        have hfin := HK.out
        rw [← HN.out, part_all] at hfin
        exact ⟨some ⟨w.heap.size, 0, none⟩, n, rfl, hasI_of_heap hfin, hbk, fun h => by cases h⟩

end Go.Proofs.Qxb6003681a
