import Derived.Test.Qxb6003681aN4
import Derived.Deep.RegionWith
namespace Go.Proofs.Qxb6003681a
open Go.RowKit
set_option linter.unusedVariables false

/-- The node's answer is laid down. -/
theorem node_down {w : World} {gn : Nat} {x0 x1 x2 x3 x4 x5 x6 : Value} (h : w.heap[gn]? = some (.cells #[x0, x1, x2, x3, x4, x5, x6] 45 (0, 0))) :
    ((w.setCell ⟨gn, 5, none⟩ (.slice none 0 0)).setCell ⟨gn, 6, none⟩ (.bool false)).heap[gn]? = some (.cells #[x0, x1, x2, x3, x4, .slice none 0 0, .bool false] 45 (0, 0)) := by
  rw [heap_setCell_same _ gn _ _ _ _ (heap_setCell_same w gn _ _ _ _ h)]
  rfl

theorem node_down1 {w : World} {gn : Nat} {x0 x1 x2 x3 x4 x5 x6 : Value} (h : w.heap[gn]? = some (.cells #[x0, x1, x2, x3, x4, x5, x6] 45 (0, 0))) :
    (w.setCell ⟨gn, 5, none⟩ (.slice none 0 0)).heap[gn]? = some (.cells #[x0, x1, x2, x3, x4, .slice none 0 0, x6] 45 (0, 0)) := by
  rw [heap_setCell_same w gn _ _ _ _ h]
  rfl

/-- Cells of another type's block are another block's. -/
theorem own_aside {B : Nat} {w : World} {a : Option Addr} {n cap gn : Nat} {vs : List (Int × Int)} {cs : Array Value} {p : Nat × Nat} (h : OwnV B w a n cap vs) (hn : w.heap[gn]? = some (.cells cs 45 p)) (i j : Nat) (x y : Value) :
    OwnV B ((w.setCell ⟨gn, i, none⟩ x).setCell ⟨gn, j, none⟩ y) a n cap vs := by
  obtain ⟨hl, h⟩ := h
  refine ⟨hl, ?_⟩
  rcases h with h | ⟨g, cp, cur, e, hB, hg, hr⟩
  · exact .inl h
  · have hne : g ≠ gn := by
      intro e
      rw [e, hn] at hg
      injection hg with hg
      injection hg with _ h2
      cases h2
    refine .inr ⟨g, cp, cur, e, hB, ?_, hr⟩
    rw [heap_setCell_other _ _ _ _ hne, heap_setCell_other _ _ _ _ hne]
    exact hg

/-- What mergeAnswer leaves. -/
def Answd (w0 : World) (gn : Nat) (r1 r2 r3 r4 : Value) (out : List (Int × Int)) (e : Ending) (w' : World) : Prop :=
  ∃ va n cap, e = .returned (.tuple #[]) ∧ w'.heap[gn]? = some (.cells #[.slice va n cap, r1, r2, r3, r4, .slice none 0 0, .bool false] 45 (0, 0)) ∧ OwnV w0.heap.size w' va n cap out ∧ Below w0.heap.size w0 w' ∧ n ≤ 4194304

set_option maxRecDepth 20000 in
set_option maxHeartbeats 4000000 in
theorem answer_no (w0 w : World) (gn : Nat) (va : Option Addr) (n vcap : Nat) (vs : List (Int × Int)) (r1 r2 r3 r4 r5 : Value) (v c : Int)
    (hb0 : Below w0.heap.size w0 w) (hnode : w.heap[gn]? = some (.cells #[.slice va n vcap, r1, r2, r3, r4, r5, .bool false] 45 (0, 0)))
    (hview : OwnV w0.heap.size w va n vcap vs) (hgn0 : w0.heap.size ≤ gn) (hn : n ≤ 1048576) :
    Calls Try.prog 25 #[.pointer (some ⟨gn, 0, none⟩), .int .i64 v, .int .i64 c] w fun e w' => Answd w0 gn r1 r2 r3 r4 vs e w' := by
  have hc6 : w.cell? ⟨gn, 6, none⟩ = some (.bool false) := by rw [cell_of_row _ _ 6 _ _ _ hnode]; rfl
  have hc5 : w.cell? ⟨gn, 5, none⟩ = some r5 := by rw [cell_of_row _ _ 5 _ _ _ hnode]; rfl
  have hf5 := frozen_of_row w gn 5 _ _ hnode
  have hc6' : (w.setCell ⟨gn, 5, none⟩ (.slice none 0 0)).cell? ⟨gn, 6, none⟩ = some (.bool false) := by rw [cell_of_row _ _ 6 _ _ _ (node_down1 hnode)]; rfl
  have hf6 := frozen_of_row (w.setCell ⟨gn, 5, none⟩ (.slice none 0 0)) gn 6 _ _ (node_down1 hnode)
  have HN : Hid (w.heap[gn]? = some (.cells #[.slice va n vcap, r1, r2, r3, r4, r5, .bool false] 45 (0, 0)) ∧ OwnV w0.heap.size w va n vcap vs) := ⟨hnode, hview⟩
  clear hnode hview
  go_enter Try.func25, Try.ntmps25
  go_wp2
  refine bodyPost_ret (v := .tuple #[]) (by simp [results, Try.results25, go_sem]) rfl ?_
  exact ⟨va, n, vcap, rfl, node_down HN.out.1, own_aside HN.out.2 HN.out.1 _ _ _ _, (hb0.setCell (p := ⟨gn, 5, none⟩) hgn0 _).setCell (p := ⟨gn, 6, none⟩) hgn0 _, by omega⟩

theorem HasE.heap {w w' : World} {a : Option Addr} {l : List (Int × Int)} (h : HasE w a l) (hs : w'.heap = w.heap) : HasE w' a l := h.same fun y _ => by rw [hs]

set_option maxRecDepth 20000 in
set_option maxHeartbeats 4000000 in
theorem answer_yes (w0 w : World) (gn : Nat) (va : Option Addr) (n vcap : Nat) (vs : List (Int × Int)) (r1 r2 r4 : Value) (v c : Int)
    (ea : Option Addr) (en ecap : Nat) (es : List (Int × Int)) (sa : Option Addr) (sn scap : Nat) (sent : List Int)
    (hb0 : Below w0.heap.size w0 w) (hnode : w.heap[gn]? = some (.cells #[.slice va n vcap, r1, r2, .slice sa sn scap, r4, .slice ea en ecap, .bool true] 45 (0, 0)))
    (hview : OwnV w0.heap.size w va n vcap vs) (hes : es.length = en) (he : HasE w ea es) (hsl : sent.length = sn) (hsent : HasI w0 sa sent)
    (hgn0 : w0.heap.size ≤ gn) (hap : ∀ x, va = some x → x.block ≠ gn ∧ ∀ y, ea = some y → y.block ≠ x.block) (hfar : ∀ y, ea = some y → y.block ≠ gn ∧ y.block < w.heap.size)
    (hn : n ≤ 1048576) (hen : en ≤ 1048576) (hsn : sn ≤ 1048576) :
    Calls Try.prog 25 #[.pointer (some ⟨gn, 0, none⟩), .int .i64 v, .int .i64 c] w fun e w' => Answd w0 gn r1 r2 (.slice sa sn scap) r4 (step v c vs (reps vs sent) es) e w' := by
  have hc6 : w.cell? ⟨gn, 6, none⟩ = some (.bool true) := by rw [cell_of_row _ _ 6 _ _ _ hnode]; rfl
  have hc5 : w.cell? ⟨gn, 5, none⟩ = some (.slice ea en ecap) := by rw [cell_of_row _ _ 5 _ _ _ hnode]; rfl
  have hc3 : w.cell? ⟨gn, 3, none⟩ = some (.slice sa sn scap) := by rw [cell_of_row _ _ 3 _ _ _ hnode]; rfl
  have hM : Hid (∀ W : World, Below w0.heap.size w0 W → W.heap = w.heap → Calls Try.prog 22 #[.pointer (some ⟨gn, 0, none⟩), .int .i64 v, .slice ea en ecap, .slice sa sn scap, .int .i64 c] W fun e w' => Merged w0 gn r1 r2 (.slice sa sn scap) r4 (.slice ea en ecap) (.bool true) (step v c vs (reps vs sent) es) e w') :=
    fun W hbW hW => merge_any w0 W gn va n vcap vs r1 r2 (.slice sa sn scap) r4 (.slice ea en ecap) (.bool true) v c ea en ecap es sa sn scap sent hbW (by rw [hW]; exact hnode) (own_heap hview hW) hes (he.heap hW) hsl hsent hgn0 hap (fun y hy => by rw [hW]; exact hfar y hy) hn hen hsn
  have HB0 : Hid (∀ W : World, W.heap = w.heap → W.os = w.os → W.tape = w.tape → W.output = w.output → Below w0.heap.size w0 W) := fun W h1 h2 h3 h4 => ⟨by rw [h2]; exact hb0.os, by rw [h3]; exact hb0.tape, by rw [h4]; exact hb0.output, by rw [h1]; exact hb0.size, fun k hk => by rw [h1]; exact hb0.block k hk⟩
  generalize step v c vs (reps vs sent) es = out at hM ⊢
  clear hnode hview hes he hsl hsent hap hfar hb0
  go_enter Try.func25, Try.ntmps25
  go_upto_region 1 with fail
  go_region_with (go_at_call 22; refine (hM.out _ ?_ ?_).mono ?_; exact HB0.out _ rfl rfl rfl rfl; exact rfl; rintro e w3 ⟨va3, n3, cap3, rfl, hnode3, hown3, hb3, hn3⟩)
  all_goals
    have HN3 : Hid (_ ∧ OwnV w0.heap.size w3 va3 n3 cap3 out) := ⟨hnode3, hown3⟩
    have hc5' : w3.cell? ⟨gn, 5, none⟩ = some (.slice ea en ecap) := by rw [cell_of_row _ _ 5 _ _ _ hnode3]; rfl
    have hf5 := frozen_of_row w3 gn 5 _ _ hnode3
    have hc6' : (w3.setCell ⟨gn, 5, none⟩ (.slice none 0 0)).cell? ⟨gn, 6, none⟩ = some (.bool true) := by rw [cell_of_row _ _ 6 _ _ _ (node_down1 hnode3)]; rfl
    have hf6 := frozen_of_row (w3.setCell ⟨gn, 5, none⟩ (.slice none 0 0)) gn 6 _ _ (node_down1 hnode3)
    clear hnode3 hown3 hc6 hc5 hc3 hM HB0
    go_wp2
    refine bodyPost_ret (v := .tuple #[]) (by simp [results, Try.results25, go_sem]) rfl ?_
    exact ⟨va3, n3, cap3, rfl, node_down HN3.out.1, own_aside HN3.out.2 HN3.out.1 _ _ _ _, (hb3.setCell (p := ⟨gn, 5, none⟩) hgn0 _).setCell (p := ⟨gn, 6, none⟩) hgn0 _, hn3⟩
end Go.Proofs.Qxb6003681a
