import Derived.Test.Qxb6003681aM6
namespace Go.Proofs.Qxb6003681a
open Go.RowKit
set_option linter.unusedVariables false

def nodesOf (vs : List (Int × Int)) : List Int := vs.map (·.1)
def agesOf (vs : List (Int × Int)) : List Int := vs.map (·.2)

theorem nodesOf_at (vs : List (Int × Int)) (k : Nat) : (nodesOf vs).getD k 0 = (vs.getD k (0, 0)).1 := by
  simp only [nodesOf, List.getD_eq_getElem?_getD, List.getElem?_map]
  cases vs[k]? <;> rfl
theorem agesOf_at (vs : List (Int × Int)) (k : Nat) : (agesOf vs).getD k 0 = (vs.getD k (0, 0)).2 := by
  simp only [agesOf, List.getD_eq_getElem?_getD, List.getElem?_map]
  cases vs[k]? <;> rfl

def Split (vs : List (Int × Int)) (w : World) (e : Ending) (w' : World) : Prop :=
  ∃ g h, e = .returned (.tuple #[.slice (some ⟨g, 0, none⟩) vs.length vs.length, .slice (some ⟨h, 0, none⟩) vs.length vs.length]) ∧ HasI w' (some ⟨g, 0, none⟩) (nodesOf vs) ∧ HasI w' (some ⟨h, 0, none⟩) (agesOf vs) ∧ Below w.heap.size w w'

theorem set_other {w : World} {g k h : Nat} {v : Value} {o : Obj} (hh : w.heap[h]? = some o) (hne : h ≠ g) : (w.setCell ⟨g, k, none⟩ v).heap[h]? = some o := by
  rw [heap_setCell_other _ _ _ _ hne]; exact hh

set_option maxRecDepth 20000 in
set_option maxHeartbeats 1000000 in
theorem split_any (a : Option Addr) (n c : Nat) (vs : List (Int × Int)) (w : World) (hn : vs.length = n) (hb : n ≤ 10000000) (hv : HasE w a vs) :
    Calls Try.prog 23 #[.slice a n c] w fun e w' => Split vs w e w' := by
  have hmk := run_make_row' (P := Try.prog) 22 2 (.int .i64 0) 8 Try.underlying22 (by kernel_rfl) rfl .i64 .i64 n (by omega) (by omega)
  have hmk2 := run_make_row' (P := Try.prog) 23 3 (.int .i64 0) 8 Try.underlying23 (by kernel_rfl) rfl .i64 .i64 n (by omega) (by omega)
  rw [made_zeros] at hmk hmk2
  have HN : Hid (vs.length = n ∧ HasE w a vs ∧ (nodesOf vs).length = n ∧ (agesOf vs).length = n) := ⟨hn, hv, by simp [nodesOf, hn], by simp [agesOf, hn]⟩
  clear hn hv
  go_enter Try.func23, Try.ntmps23
  go_wp2_with fail
  have hg0 : Hid (((w.alloc (.cells (ic (List.replicate n 0)) 2)).alloc (.cells (ic (List.replicate n 0)) 3)).heap[w.heap.size]? = some (.cells (ic (part 0 (nodesOf vs))) 2 (0, 0))) := by
    show _ = _
    rw [Below.heap_alloc _ _ _ (by simp), heap_alloc_new, part_zero, HN.out.2.2.1]
  have hg1 : Hid (((w.alloc (.cells (ic (List.replicate n 0)) 2)).alloc (.cells (ic (List.replicate n 0)) 3)).heap[w.heap.size + 1]? = some (.cells (ic (part 0 (agesOf vs))) 3 (0, 0))) := by
    show _ = _
    have := heap_alloc_new (w.alloc (.cells (ic (List.replicate n 0)) 2)) (.cells (ic (List.replicate n 0)) 3)
    rw [part_zero, HN.out.2.2.2]
    simpa using this
  have hb0 : Below w.heap.size w ((w.alloc (.cells (ic (List.replicate n 0)) 2)).alloc (.cells (ic (List.replicate n 0)) 3)) := (below_alloc w _).alloc (by simp) _
  generalize (w.alloc (.cells (ic (List.replicate n 0)) 2)).alloc (.cells (ic (List.replicate n 0)) 3) = W at hg0 hg1 hb0 ⊢
  obtain ⟨G, hG⟩ : ∃ G, G = w.heap.size := ⟨_, rfl⟩
  obtain ⟨H, hH⟩ : ∃ H, H = w.heap.size + 1 := ⟨_, rfl⟩
  rw [← hG] at hg0
  rw [← hH] at hg1 ⊢
  rw [← hG]
  have HG : Hid (G = w.heap.size ∧ H = w.heap.size + 1) := ⟨hG, hH⟩
  have hGH : ¬ G = H := by omega
  clear hG hH hmk hmk2
  go_loopw [6] (fun iv wr => ∃ k : Nat, iv = .int .i64 k ∧ k ≤ n ∧ Hid (wr.heap[G]? = some (.cells (ic (part k (nodesOf vs))) 2 (0, 0))) ∧ Hid (wr.heap[H]? = some (.cells (ic (part k (agesOf vs))) 3 (0, 0))) ∧ Below w.heap.size w wr) (fun iv _ => n - (intOf iv).toNat)
  case atStart => exact ⟨0, rfl, Nat.zero_le _, hg0, hg1, hb0⟩
  case round =>
    clear hg0 hg1 hb0
    obtain ⟨k, rfl, hk, HK, HK2, hbk⟩ := hrel
    by_cases hlt : k < n
    · obtain ⟨g, o, e, hc⟩ := (HN.out.2.1.below hbk) (by have := HN.out; omega)
      cases e
      obtain ⟨hc1, hc2⟩ := hc k (by have := HN.out; omega)
      obtain ⟨x, hx⟩ : ∃ x, x = (vs.getD k (0, 0)).1 := ⟨_, rfl⟩
      obtain ⟨y, hy⟩ : ∃ y, y = (vs.getD k (0, 0)).2 := ⟨_, rfl⟩
      have HX : Hid (x = (nodesOf vs).getD k 0 ∧ y = (agesOf vs).getD k 0) := ⟨by rw [nodesOf_at, hx], by rw [agesOf_at, hy]⟩
      rw [← hx] at hc1
      rw [← hy] at hc2
      have hcG := cell_ic (k := k) HK.out (by rw [part_length _ _ (by have := HN.out; omega)]; have := HN.out; omega)
      have hfG := frozen_of_row wr G k _ _ HK.out
      have HK3 : Hid ((wr.setCell ⟨G, k, none⟩ (.int .i64 x)).heap[H]? = some (.cells (ic (part k (agesOf vs))) 3 (0, 0))) := set_other HK2.out (fun e => hGH e.symm)
      have hcH := cell_ic (k := k) HK3.out (by rw [part_length _ _ (by have := HN.out; omega)]; have := HN.out; omega)
      have hfH := frozen_of_row _ H k _ _ HK3.out
      have hgG : ¬ g = G := by
        have h1 : g < w.heap.size := by
          obtain ⟨g', o', e', hc'⟩ := HN.out.2.1 (by have := HN.out; omega)
          cases e'
          exact World.block_lt_of_cell? _ _ (hc' k (by have := HN.out; omega)).1
        have := HG.out
        omega
      have hc3 : (wr.setCell ⟨G, k, none⟩ (.int .i64 x)).cell? ⟨g, o + k * 2 + 1, none⟩ = some (.int .i64 y) := by
        have h1 : (wr.setCell ⟨G, k, none⟩ (.int .i64 x)).heap[g]? = wr.heap[g]? := heap_setCell_other _ _ _ _ hgG
        rw [← hc2]
        unfold World.cell?
        rw [h1]
      clear hx hy hc hc2
      generalize (part k (nodesOf vs)).getD k 0 = p1 at hcG
      generalize (part k (agesOf vs)).getD k 0 = p2 at hcH
      go_wp2
      refine ⟨⟨k + 1, by go_num, by omega, ?_, ?_, (hbk.setCell (p := ⟨G, k, none⟩) (by have := HG.out; simp; omega) _).setCell (p := ⟨H, k, none⟩) (by have := HG.out; simp; omega) _⟩, by simp [intOf]; omega⟩
      · exact set_other (ic_set HK.out (by rw [HX.out.1]; exact part_succ k _ (by have := HN.out; omega))).out hGH
      · exact ic_set HK3.out (by rw [HX.out.2]; exact part_succ k _ (by have := HN.out; omega))
    · obtain rfl : n = k := by omega
      have hf1 := HK.out
      have hf2 := HK2.out
      rw [show part n (nodesOf vs) = nodesOf vs by have := part_all (nodesOf vs); rwa [HN.out.2.2.1] at this] at hf1
      rw [show part n (agesOf vs) = agesOf vs by have := part_all (agesOf vs); rwa [HN.out.2.2.2] at this] at hf2
      have HF1 : Hid (HasI wr (some ⟨G, 0, none⟩) (nodesOf vs) ∧ HasI wr (some ⟨H, 0, none⟩) (agesOf vs)) := ⟨hasI_of_heap hf1, hasI_of_heap hf2⟩
      clear hf1 hf2
      go_wp2
      go_ret2
      exact ⟨G, H, by rw [HN.out.1]; rfl, HF1.out.1, HF1.out.2, hbk⟩
end Go.Proofs.Qxb6003681a
