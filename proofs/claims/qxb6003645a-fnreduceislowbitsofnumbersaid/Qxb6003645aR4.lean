import Derived.Test.Qxb6003645aR3
import Derived.Test.Qxb6003645aVal
namespace Go.Proofs.Qxb6003645a
open Go.RowKit
set_option linter.unusedVariables false

/-- The world in which shift's own three variables lie. -/
structure Boxes (w W : World) (bits : Int) (x : List Int) (gs g5 g8 : Nat) : Prop where
  es : gs = w.heap.size
  e5 : g5 = w.heap.size + 1
  e8 : g8 = w.heap.size + 1 + 1
  bel : Below w.heap.size w W
  size : W.heap.size = w.heap.size + 3
  hs : W.heap[gs]? = some (.cells #[.int .i64 bits] 28 (0, 0))
  h5 : W.heap[g5]? = some (.cells (idc x) 26 (0, 0))
  h8 : W.heap[g8]? = some (.cells (idc zeros) 26 (0, 0))

theorem boxes (w : World) (bits : Int) (x : List Int) : Boxes w (((w.alloc (.cells #[.int .i64 bits] 28)).alloc (.cells (idc x) 26)).alloc (.cells (idc zeros) 26)) bits x w.heap.size (w.heap.size + 1) (w.heap.size + 1 + 1) := by
  refine ⟨rfl, rfl, rfl, ?_, by simp, ?_, ?_, ?_⟩
  · exact ((below_alloc w _).alloc (by simp) _).alloc (by simp; omega) _
  · rw [Below.heap_alloc _ _ _ (by simp; omega), Below.heap_alloc _ _ _ (by simp), heap_alloc_new]
  · rw [Below.heap_alloc _ _ _ (by simp)]
    have := heap_alloc_new (w.alloc (.cells #[.int .i64 bits] 28)) (.cells (idc x) 26)
    simpa using this
  · have := heap_alloc_new ((w.alloc (.cells #[.int .i64 bits] 28)).alloc (.cells (idc x) 26)) (.cells (idc zeros) 26)
    simpa using this

theorem carry_zero (k : Nat) (y : List Int) : carry k 0 y = y := by
  cases k with
  | zero => rfl
  | succ k => simp [carry]

theorem pow8_bounds (sgn : Int) (r : Nat) (h : sgn = 1 ∨ sgn = -1) (hr : r < 8) : -128 ≤ sgn * 2 ^ r ∧ sgn * 2 ^ r ≤ 128 := by
  match r, hr with
  | 0, _ | 1, _ | 2, _ | 3, _ | 4, _ | 5, _ | 6, _ | 7, _ => rcases h with rfl | rfl <;> decide

set_option maxHeartbeats 2000000 in
theorem shift_any (bits : Nat) (x : List Int) (i : Nat) (sgn : Int) (w : World) (hb : bits ≤ 160) (hx : x.length = 20) (hby : Bytes x) (hi : (i : Int) < 9223372036854775808) (hs : sgn = 1 ∨ sgn = -1) :
    Calls Try.prog 18 #[.agg #[.int .i64 bits], .agg (idc x), .int .i64 i, .int .i64 sgn] w fun e w' => e = .returned (.agg (idc (red bits (shl i sgn x)))) ∧ Below w.heap.size w w' := by
  have HT := boxes w bits x
  go_enter Try.func18, Try.ntmps18
  go_upto_region 1 with fail
  rw [idc_zeros]
  generalize hW : (((w.alloc (.cells #[.int .i64 bits] 28)).alloc (.cells (idc x) 26)).alloc (.cells (idc zeros) 26)) = W at HT ⊢
  generalize hg5 : w.heap.size + 1 + 1 = g8 at HT ⊢
  generalize hg4 : w.heap.size + 1 = g5 at HT ⊢
  generalize hgs : w.heap.size = gs at HT ⊢
  clear hW hg5 hg4 hgs
  obtain ⟨c0, hc0⟩ : ∃ c0, c0 = sgn * 2 ^ (i % 8) := ⟨_, rfl⟩
  have hcb := pow8_bounds sgn (i % 8) hs (by omega)
  rw [← hc0] at hcb
  have HCH : Hid (wrap64 (sgn * 2 ^ (i % 8)) = c0) := by show _ = _; rw [← hc0]; unfold wrap64; omega
  have HC : Hid (carry (20 - i / 8) c0 x = shl i sgn x) := by show _ = _; rw [hc0]; rfl
  have HS : Hid (sgn = 1 ∨ sgn = -1) := hs
  have HI : Hid ((i : Int) < 9223372036854775808) := hi
  have HX : Hid (x.length = 20 ∧ Bytes x) := ⟨hx, hby⟩
  obtain ⟨q, hq⟩ : ∃ q : Int, q = 19 - (i : Int) / 8 := ⟨_, rfl⟩
  have hq' : (19 : Int) - (i : Int) / 8 = q := hq.symm
  have HQ : Hid (q = ((20 - i / 8 : Nat) : Int) - 1 ∨ (q < 0 ∧ (20 - i / 8 : Nat) = 0)) := by show _ ∨ _; omega
  clear hs hx hc0 hq
  go_wp2
  go_loopw [9, 10] (fun av cv wr => ∃ (k : Nat) (a ch : Int) (y : List Int), av = .int .i64 a ∧ cv = .int .i64 ch ∧ k ≤ 20 ∧ Hid (a = (k : Int) - 1 ∨ (a < 0 ∧ k = 0)) ∧ -128 ≤ ch ∧ ch ≤ 128 ∧ Hid (wr.heap[g5]? = some (.cells (idc y) 26 (0, 0))) ∧ Hid (y.length = 20 ∧ Bytes y) ∧ Hid (carry k ch y = shl i sgn x) ∧ Hid (wr.heap[g8]? = some (.cells (idc zeros) 26 (0, 0))) ∧ Below g5 W wr) (fun av _ _ => (intOf av + 1).toNat)
  case atStart => exact ⟨20 - i / 8, _, _, x, rfl, rfl, by omega, HQ, by rw [HCH.out]; exact hcb.1, by rw [HCH.out]; exact hcb.2, HT.h5, HX, by rw [HCH.out]; exact HC, HT.h8, Below.refl _ _⟩
  case round =>
    obtain ⟨k, a, ch, y, rfl, rfl, hk, HA, c1, c2, HY, HYB, HCY, H8, hbk⟩ := hrel
    by_cases ha : 0 ≤ a
    · by_cases hz : ch = 0
      · have hz' : (ch != 0) = false := by rw [hz]; rfl
        subst hz
        have eY : y = shl i sgn x := by rw [← HCY.out, carry_zero]
        go_upto_region 8 with fail
        have hR := reduce_any (some ⟨g5, 0, none⟩) 20 20 y bits wr.drew HYB.out.1 (by omega) (by unfold maxLen; omega) hb (hasZ_of_heap HY.out) (by omega) HYB.out.2
        rw [eY] at hR
        have hcs : wr.cell? ⟨gs, 0, none⟩ = some (.int .i64 bits) := by
          rw [hbk.cell (p := ⟨gs, 0, none⟩) (by have := HT.es; have := HT.e5; show gs < g5; omega), cell_of_row W gs 0 _ _ _ HT.hs]
          rfl
        obtain ⟨out, hout⟩ : ∃ out, out = red bits (shl i sgn x) := ⟨_, rfl⟩
        rw [← hout] at hR
        have hol : out.length = 20 := by rw [hout]; exact red_length _ _ hb
        have hos : (idc out).size = 20 := by rw [idc_size, hol]
        have HO : Hid (out = red bits (shl i sgn x)) := hout
        clear hout
        go_region_with (go_at_call 12; refine hR.mono ?_; rintro e w4 ⟨rfl, hb4⟩; have hst := storeCells_idc out hol w4 g8 (by rw [hb4.block g8 (Array.getElem?_eq_some_iff.1 H8.out).1]; exact H8.out))
        all_goals
          go_wp2_with fail
          have h8 : w4.heap[g8]? = some (.cells (idc zeros) 26 (0, 0)) := by rw [hb4.block g8 (Array.getElem?_eq_some_iff.1 H8.out).1]; exact H8.out
          have hres : (w4.setRow g8 (idc out)).heap[g8]? = some (.cells (idc out) 26 (0, 0)) := setRow_heap _ g8 _ _ 26 _ h8
          refine bodyPost_ret (v := .agg (idc out)) (results_cell_row Try.results18 _ _ g8 26 _ (0, 0) _ rfl hres Try.underlying26 rfl (size20 hol)) rfl ⟨by rw [HO.out], ?_⟩
          exact below_setRow ((HT.bel.trans (hbk.mono (by have := HT.e5; omega))).drew.trans (hb4.mono (by show w.heap.size ≤ wr.heap.size; have := hbk.size; have := HT.size; omega))) (by have := HT.e8; omega) _
      · have hz' : (ch != 0) = true := by rw [bne_iff_ne]; exact hz
        obtain ⟨j, rfl⟩ : ∃ j, k = j + 1 := ⟨k - 1, by have := HA.out; omega⟩
        have ea : a = (j : Int) := by have := HA.out; omega
        subst ea
        have hcj := cell_idc' (k := j) HY.out (by have := HYB.out.1; omega)
        have hfz := frozen_of_row wr g5 j _ _ HY.out
        have hzb := HYB.out.2 j
        obtain ⟨z, hzd⟩ : ∃ z, z = y.getD j 0 := ⟨_, rfl⟩
        rw [← hzd] at hcj hzb
        have HZ : Hid (z = y.getD j 0) := hzd
        obtain ⟨z0, z1⟩ := hzb
        have j20 : j < 20 := by omega
        clear hzd
        go_wp2
        go_roundw
        case rel =>
          refine ⟨j, (j : Int) - 1, (z + ch) / 256, y.set j ((z + ch) % 256), rfl, rfl, by omega, .inl rfl, by omega, by omega, idc_set' HY.out rfl, ⟨by rw [List.length_set]; exact HYB.out.1, bytes_set HYB.out.2 j (by omega) (by omega)⟩, ?_, ?_, hbk.setCell (Nat.le_refl _) _⟩
          · have hcy := HCY.out
            simp only [carry] at hcy
            rw [if_neg hz, ← HZ.out] at hcy
            exact hcy
          · show _ = _
            rw [heap_setCell_other _ _ g8 _ (by have := HT.e5; have := HT.e8; show g8 ≠ g5; omega)]
            exact H8.out
        case measure => simp [intOf]
    · have eY : y = shl i sgn x := by
        have h1 := HA.out
        have hk0 : k = 0 := by omega
        have h2 := HCY.out
        rw [hk0] at h2
        exact h2
      have ha' : a < 0 := by omega
      go_upto_region 8 with fail
      have hR := reduce_any (some ⟨g5, 0, none⟩) 20 20 y bits wr.drew HYB.out.1 (by omega) (by unfold maxLen; omega) hb (hasZ_of_heap HY.out) (by omega) HYB.out.2
      rw [eY] at hR
      have hcs : wr.cell? ⟨gs, 0, none⟩ = some (.int .i64 bits) := by
        rw [hbk.cell (p := ⟨gs, 0, none⟩) (by have := HT.es; have := HT.e5; show gs < g5; omega), cell_of_row W gs 0 _ _ _ HT.hs]
        rfl
      obtain ⟨out, hout⟩ : ∃ out, out = red bits (shl i sgn x) := ⟨_, rfl⟩
      rw [← hout] at hR
      have hol : out.length = 20 := by rw [hout]; exact red_length _ _ hb
      have hos : (idc out).size = 20 := by rw [idc_size, hol]
      have HO : Hid (out = red bits (shl i sgn x)) := hout
      clear hout
      go_region_with (go_at_call 12; refine hR.mono ?_; rintro e w4 ⟨rfl, hb4⟩; have hst := storeCells_idc out hol w4 g8 (by rw [hb4.block g8 (Array.getElem?_eq_some_iff.1 H8.out).1]; exact H8.out))
      all_goals
        go_wp2_with fail
        have h8 : w4.heap[g8]? = some (.cells (idc zeros) 26 (0, 0)) := by rw [hb4.block g8 (Array.getElem?_eq_some_iff.1 H8.out).1]; exact H8.out
        have hres : (w4.setRow g8 (idc out)).heap[g8]? = some (.cells (idc out) 26 (0, 0)) := setRow_heap _ g8 _ _ 26 _ h8
        refine bodyPost_ret (v := .agg (idc out)) (results_cell_row Try.results18 _ _ g8 26 _ (0, 0) _ rfl hres Try.underlying26 rfl (size20 hol)) rfl ⟨by rw [HO.out], ?_⟩
        exact below_setRow ((HT.bel.trans (hbk.mono (by have := HT.e5; omega))).drew.trans (hb4.mono (by show w.heap.size ≤ wr.heap.size; have := hbk.size; have := HT.size; omega))) (by have := HT.e8; omega) _

set_option maxHeartbeats 1000000 in
theorem zshift_any (bits : Nat) (x : List Int) (i : Nat) (sgn : Int) (w : World) (hb : bits ≤ 160) (hx : x.length = 20) (hby : Bytes x) (hi : (i : Int) < 9223372036854775808) (hs : sgn = 1 ∨ sgn = -1) :
    Calls Try.prog 15 #[.agg #[.int .i64 bits], .agg (idc x), .int .i64 i, .int .i64 sgn] w fun e w' => e = .returned (.agg (idc (red bits (shl i sgn x)))) ∧ Below w.heap.size w w' := by
  have H := fun W => shift_any bits x i sgn W hb hx hby hi hs
  have HT := boxes w bits x
  obtain ⟨out, hout⟩ : ∃ out, out = red bits (shl i sgn x) := ⟨_, rfl⟩
  have hol : out.length = 20 := by rw [hout]; exact red_length _ _ hb
  rw [← hout] at H ⊢
  have HX : Hid (x.length = 20) := hx
  clear hi hs hb hx hby hout
  go_enter Try.func15, Try.ntmps15
  go_upto_region 1 with fail
  rw [idc_zeros]
  generalize hW : (((w.alloc (.cells #[.int .i64 bits] 28)).alloc (.cells (idc x) 26)).alloc (.cells (idc zeros) 26)) = W at HT ⊢
  generalize hg5 : w.heap.size + 1 + 1 = g8 at HT ⊢
  generalize hg4 : w.heap.size + 1 = g5 at HT ⊢
  generalize hgs : w.heap.size = gs at HT ⊢
  clear hW hg5 hg4 hgs
  have hcs : W.cell? ⟨gs, 0, none⟩ = some (.int .i64 bits) := by rw [cell_of_row W gs 0 _ _ _ HT.hs]; rfl
  have h5 := HT.h5
  go_wp2_with (refine wpList_load_row rfl 26 _ rfl g5 rfl 26 _ (0, 0) _ h5 Try.underlying26 rfl (size20 HX.out) ?_)
  refine (H _).mono ?_
  rintro e w4 ⟨rfl, hb4⟩
  have h8 : w4.heap[g8]? = some (.cells (idc zeros) 26 (0, 0)) := by rw [hb4.block g8 (Array.getElem?_eq_some_iff.1 HT.h8).1]; exact HT.h8
  go_wp2_with (refine wpList_store_row rfl 26 _ _ rfl g8 _ rfl rfl 26 _ h8 (size20 hol) ?c3 (idc_one _) ?_)
  case c3 => rw [idc_size, idc_size, hol]; rfl
  have hres : (w4.setRow g8 (idc out)).heap[g8]? = some (.cells (idc out) 26 (0, 0)) := setRow_heap _ g8 _ _ 26 _ h8
  refine bodyPost_ret (v := .agg (idc out)) (results_cell_row Try.results15 _ _ g8 26 _ (0, 0) _ rfl hres Try.underlying26 rfl (size20 hol)) rfl ⟨rfl, ?_⟩
  exact below_setRow (HT.bel.trans (hb4.mono (by have := HT.size; omega))) (by have := HT.e8; omega) _
end Go.Proofs.Qxb6003645a
