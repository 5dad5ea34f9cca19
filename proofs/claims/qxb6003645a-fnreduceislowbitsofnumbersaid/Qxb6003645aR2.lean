import Derived.Test.Qxb6003645aR1
namespace Go.Proofs.Qxb6003645a
open Go.RowKit
set_option linter.unusedVariables false

theorem infoByte : (Try.prog.info? 5).map (fun i => (i.zero, i.size, i.bytes)) = some (some (.int .u8 0), 1, 1) := by kernel_rfl

theorem made_zeros (n : Nat) : madeCells #[Value.int .u8 0] n = idc (List.replicate n 0) := by
  unfold madeCells idc
  apply Array.ext'
  simp [List.map_replicate]
  apply List.ext_getElem
  · simp
  · intro i h1 h2
    simp [Nat.mod_one]

/-- The first k of l, then zeros. -/
def part (k : Nat) (l : List Int) : List Int := l.take k ++ List.replicate (l.length - k) 0

theorem part_zero (l : List Int) : part 0 l = List.replicate l.length 0 := by simp [part]
theorem part_all (l : List Int) : part l.length l = l := by simp [part]
theorem part_length (k : Nat) (l : List Int) (h : k ≤ l.length) : (part k l).length = l.length := by simp [part]; omega
theorem part_succ (k : Nat) (l : List Int) (h : k < l.length) : (part k l).set k (l.getD k 0) = part (k + 1) l := by
  refine ext20 (n := l.length) (by rw [List.length_set, part_length _ _ (by omega)]) (part_length _ _ (by omega)) fun i hi => ?_
  rw [getD_set, part_length _ _ (by omega)]
  unfold part
  simp only [List.getD_eq_getElem?_getD]
  by_cases h1 : i = k
  · subst h1
    rw [if_pos ⟨rfl, h⟩, List.getElem?_append_left (by simp; omega), List.getElem?_take_of_lt (by omega)]
  · rw [if_neg (fun e => h1 e.1)]
    by_cases h2 : i < k
    · rw [List.getElem?_append_left (by simp; omega), List.getElem?_append_left (by simp; omega), List.getElem?_take_of_lt (by omega), List.getElem?_take_of_lt (by omega)]
    · rw [List.getElem?_append_right (by simp; omega), List.getElem?_append_right (by simp; omega), List.getElem?_replicate, List.getElem?_replicate]
      simp only [List.length_take]
      split <;> split <;> first | rfl | (simp; done) | omega

theorem cell_idc' {w : World} {g k : Nat} {x : List Int} {t : TypeId} (h : w.heap[g]? = some (.cells (idc x) t (0, 0))) (hk : k < x.length) : w.cell? ⟨g, k, none⟩ = some (.int .u8 (x.getD k 0)) :=
  (cell_of_row w g k _ _ _ h).trans (idc_at x k hk)

theorem idc_set' {w : World} {g k : Nat} {x y : List Int} {z : Int} {t : TypeId} (h : w.heap[g]? = some (.cells (idc x) t (0, 0))) (e : x.set k z = y) : Hid ((w.setCell ⟨g, k, none⟩ (.int .u8 z)).heap[g]? = some (.cells (idc y) t (0, 0))) := by
  show _ = _
  rw [heap_setCell_same w g k _ _ _ h, ← e]
  unfold idc
  simp [List.map_set]

theorem hasZ_of_heap {w : World} {g : Nat} {x : List Int} {t : TypeId} (h : w.heap[g]? = some (.cells (idc x) t (0, 0))) : HasZ w (some ⟨g, 0, none⟩) x := fun _ =>
  ⟨g, 0, rfl, fun j hj => by rw [Nat.zero_add]; exact cell_idc' h hj⟩

def Cloned (n : Nat) (l : List Int) (w : World) (e : Ending) (w' : World) : Prop :=
  ∃ a c, e = .returned (.slice a n c) ∧ HasZ w' a l ∧ Below w.heap.size w w' ∧ n ≤ c ∧ c ≤ 10000000

set_option maxHeartbeats 1000000 in
theorem clone_any (ao : Option Addr) (n c : Nat) (l : List Int) (w : World) (hn : l.length = n) (hb : n ≤ 10000000) (hl : HasZ w ao l) (hnil : ao = none → n = 0 ∧ c = 0) :
    Calls Try.prog 10 #[.slice ao n c] w fun e w' => Cloned n l w e w' := by
  have hnl := fun W a n c => Lib.run_eql_slice_nil (P := Try.prog) W 22 5 a n c 0 0 Try.underlying22
  cases ao with
  | none =>
    obtain ⟨rfl, rfl⟩ := hnil rfl
    have HL : Hid (HasZ w none l) := hl
    clear hnil hl hn
    go_enter Try.func10, Try.ntmps10
    go_wp2
    go_ret
    exact ⟨none, 0, rfl, HL.out, Below.refl _ _, Nat.le_refl _, by omega⟩
  | some a =>
    have hmk := run_make_row' (P := Try.prog) 22 5 (.int .u8 0) 1 Try.underlying22 infoByte rfl .i64 .i64 n (by omega) (by omega)
    have HN : Hid (l.length = n) := hn
    clear hn hnil
    rw [made_zeros] at hmk
    go_enter Try.func10, Try.ntmps10
    go_wp2
    obtain ⟨N, hN⟩ : ∃ N, N = w.heap.size := ⟨_, rfl⟩
    have h0 : Hid ((w.alloc (.cells (idc (List.replicate n 0)) 5)).heap[w.heap.size]? = some (.cells (idc (part 0 l)) 5 (0, 0))) := by show _ = _; rw [heap_alloc_new, part_zero, HN.out]
    have hb0 := below_alloc w (.cells (idc (List.replicate n 0)) 5)
    go_loopw [4] (fun iv wr => ∃ k : Nat, iv = .int .i64 k ∧ k ≤ n ∧ Hid (wr.heap[w.heap.size]? = some (.cells (idc (part k l)) 5 (0, 0))) ∧ Below w.heap.size w wr) (fun iv _ => n - (intOf iv).toNat)
    case atStart => exact ⟨0, rfl, Nat.zero_le _, h0, hb0⟩
    case round =>
      obtain ⟨k, rfl, hk, HK, hbk⟩ := hrel
      by_cases hlt : k < n
      · obtain ⟨g, o, e, hc⟩ := (hl.below hbk) (by have := HN.out; omega)
        cases e
        have hck := hc k (by have := HN.out; omega)
        have hck2 := cell_idc' (k := k) HK.out (by rw [part_length _ _ (by have := HN.out; omega)]; have := HN.out; omega)
        have hfz := frozen_of_row wr w.heap.size k _ _ HK.out
        obtain ⟨z, hz⟩ : ∃ z, z = l.getD k 0 := ⟨_, rfl⟩
        have HZ : Hid (z = l.getD k 0) := hz
        rw [← hz] at hck
        obtain ⟨v, hv⟩ : ∃ v, v = (part k l).getD k 0 := ⟨_, rfl⟩
        rw [← hv] at hck2
        clear hz hv hc
        go_wp2
        go_roundw
        case rel => exact ⟨k + 1, by go_num, by omega, idc_set' HK.out (by rw [HZ.out]; exact part_succ k l (by have := HN.out; omega)), hbk.setCell (Nat.le_refl _) _⟩
        case measure => simp [intOf]; omega
      · obtain rfl : n = k := by omega
        go_wp2
        go_ret
        have hfin := HK.out
        rw [← HN.out, part_all] at hfin
        exact ⟨some ⟨w.heap.size, 0, none⟩, n, rfl, hasZ_of_heap hfin, hbk, Nat.le_refl _, hb⟩

set_option maxHeartbeats 1000000 in
theorem bytesN_any (ao : Option Addr) (n c : Nat) (p q : Int) (w : World) (hn : n ≤ maxLen) :
    Calls Try.prog 14 #[.int .i64 p, .int .i64 q, .slice ao n c] w fun e w' => e = .returned (.bool (decide (n ≤ 1048576))) ∧ w' = w := by
  unfold maxLen at hn
  by_cases h : n ≤ 1048576
  · have hd : decide (n ≤ 1048576) = true := by simpa using h
    rw [hd]
    clear hd
    go_enter Try.func14, Try.ntmps14
    go_wp2
    go_ret
    exact ⟨rfl, rfl⟩
  · have h2 : (1048576 : Int) < (n : Int) := by omega
    have hd : decide (n ≤ 1048576) = false := by simpa using h
    rw [hd]
    clear hd
    go_enter Try.func14, Try.ntmps14
    go_wp2
    go_ret
    exact ⟨rfl, rfl⟩
end Go.Proofs.Qxb6003645a
