import Derived.Test.Qxb6003681aM7
import Derived.Deep.AppendLies
namespace Go.Proofs.Qxb6003681a
open Go.RowKit
set_option linter.unusedVariables false

/-- The places in the view of the entries that name the nodes of sent. -/
def reps (vs : List (Int × Int)) (sent : List Int) : List Int := (sent.map (place vs)).filter fun p => decide (0 ≤ p)

theorem reps_take (vs : List (Int × Int)) (sent : List Int) (k : Nat) (hk : k < sent.length) :
    reps vs (sent.take (k + 1)) = reps vs (sent.take k) ++ (if 0 ≤ place vs (sent.getD k 0) then [place vs (sent.getD k 0)] else []) := by
  unfold reps
  have h : sent.getD k 0 = sent[k] := by rw [List.getD_eq_getElem?_getD, List.getElem?_eq_getElem hk]; rfl
  rw [List.take_succ_eq_append_getElem hk, List.map_append, List.filter_append, h]
  congr 1
  by_cases hp : 0 ≤ place vs sent[k] <;> simp [hp]

theorem reps_length (vs : List (Int × Int)) (sent : List Int) : (reps vs sent).length ≤ sent.length := by
  unfold reps
  exact Nat.le_trans (List.length_filter_le _ _) (by simp)

/-- The placing of the entries. -/
def step (v : Int) (c : Int) : List (Int × Int) → List Int → List (Int × Int) → List (Int × Int)
  | vs, _, [] => vs
  | vs, rs, e :: es =>
    if e.1 = v ∨ held vs e.1 = true then step v c vs rs es
    else if (vs.length : Int) < c then step v c (vs ++ [e]) rs es
    else match rs with
      | [] => vs
      | r :: rs' => step v c (vs.set r.toNat e) rs' es

theorem step_cons (v c : Int) (vs : List (Int × Int)) (rs : List Int) (e : Int × Int) (es : List (Int × Int)) :
    step v c vs rs (e :: es) = if e.1 = v ∨ held vs e.1 = true then step v c vs rs es
      else if (vs.length : Int) < c then step v c (vs ++ [e]) rs es
      else match rs with
        | [] => vs
        | r :: rs' => step v c (vs.set r.toNat e) rs' es := by
  cases rs <;> simp only [step]

/-- A slice of entries of the call's own, in its own block. -/
def OwnV (B : Nat) (w : World) (a : Option Addr) (n cap : Nat) (vs : List (Int × Int)) : Prop := w.ownsRow B 51 2 (.slice a n cap) n (ec vs)

theorem OwnV.has {B : Nat} {w : World} {a : Option Addr} {n cap : Nat} {vs : List (Int × Int)} (h : OwnV B w a n cap vs) : vs.length = n ∧ HasE w a vs := by
  obtain ⟨hl, h⟩ := h
  have hn : vs.length = n := by rw [ec_length] at hl; omega
  refine ⟨hn, fun hp => ?_⟩
  rcases h with ⟨_, h0⟩ | ⟨g, cp, cur, e, _, hg, hnc, _, hcs, ht⟩
  · omega
  · cases e
    refine ⟨g, 0, rfl, fun j hj => ?_⟩
    have h2 := ec_at vs j hj
    rw [← ht] at h2
    rw [List.getElem?_take_of_lt (by omega), List.getElem?_take_of_lt (by omega)] at h2
    rw [cell_of_row w g _ _ _ _ hg, cell_of_row w g _ _ _ _ hg]
    simpa using h2

theorem grown_below {w w' : World} (h : Below w.heap.size w w') : w.grownBy w' none := ⟨h.os, h.tape, h.output, h.size, fun k hk _ => h.block k hk⟩

theorem below_grown {w wA w3 : World} {row : Option Nat} (hb : Below w.heap.size w wA) (hg : wA.grownBy w3 row) (hr : ∀ k, row = some k → w.heap.size ≤ k) : Below w.heap.size w w3 := by
  have hS := hb.size
  refine hb.trans ⟨hg.os, hg.tape, hg.output, hg.size, fun k hk => hg.block k (by omega) fun e => by have := hr k e.symm; omega⟩

/-- What holds between two entries. -/
structure L2 (w0 : World) (gn : Nat) (r1 r2 r3 r4 r5 r6 : Value) (v c : Int) (ea : Option Addr) (es out : List (Int × Int)) (top : Nat) (wx : World) (k : Nat) (ra : Option Addr) (rs : List Int) (va : Option Addr) (n cap : Nat) (cur : List (Int × Int)) : Prop where
  reps : HasI wx ra rs
  node : wx.heap[gn]? = some (.cells #[.slice va n cap, r1, r2, r3, r4, r5, r6] 45 (0, 0))
  base : w0.heap.size ≤ gn
  view : OwnV w0.heap.size wx va n cap cur
  ents : HasE wx ea es
  apart : ∀ x, va = some x → x.block ≠ gn ∧ (∀ y, ea = some y → y.block ≠ x.block) ∧ (∀ y, ra = some y → y.block ≠ x.block)
  far : (∀ y, ea = some y → y.block ≠ gn ∧ y.block < wx.heap.size) ∧ (∀ y, ra = some y → y.block ≠ gn ∧ y.block < wx.heap.size)
  below : Below w0.heap.size w0 wx
  law : step v c cur rs (es.drop k) = out
  bound : n ≤ top + k
  inside : ∀ r ∈ rs, 0 ≤ r ∧ r < n

theorem L2.next' {w0 : World} {gn : Nat} {r1 r2 r3 r4 r5 r6 : Value} {v c : Int} {ea : Option Addr} {es out : List (Int × Int)} {top : Nat} {wx : World} {k : Nat} {ra : Option Addr} {rs : List Int} {va : Option Addr} {n cap : Nat} {cur : List (Int × Int)}
    (h : L2 w0 gn r1 r2 r3 r4 r5 r6 v c ea es out top wx k ra rs va n cap cur) {w' : World} (hb : Below wx.heap.size wx w') :
    L2 w0 gn r1 r2 r3 r4 r5 r6 v c ea es out top w' k ra rs va n cap cur where
  reps := h.reps.below hb
  node := by rw [hb.block gn (Array.getElem?_eq_some_iff.1 h.node).1]; exact h.node
  base := h.base
  view := World.ownsRow.kept h.view (grown_below hb) (by cases va <;> simp [Value.ownBlock])
  ents := h.ents.below hb
  apart := h.apart
  far := ⟨fun y hy => ⟨(h.far.1 y hy).1, Nat.lt_of_lt_of_le (h.far.1 y hy).2 hb.size⟩, fun y hy => ⟨(h.far.2 y hy).1, Nat.lt_of_lt_of_le (h.far.2 y hy).2 hb.size⟩⟩
  below := below_next h.below hb
  law := h.law
  bound := h.bound
  inside := h.inside

theorem L2.next {w0 : World} {gn : Nat} {r1 r2 r3 r4 r5 r6 : Value} {v c : Int} {ea : Option Addr} {es out : List (Int × Int)} {top : Nat} {wx : World} {k : Nat} {ra : Option Addr} {rs : List Int} {va : Option Addr} {n cap : Nat} {cur : List (Int × Int)}
    (h : L2 w0 gn r1 r2 r3 r4 r5 r6 v c ea es out top wx k ra rs va n cap cur) {w' : World} (hb : Below wx.heap.size wx w') (hk : k < es.length) (hs : (es.getD k (0, 0)).1 = v ∨ held cur (es.getD k (0, 0)).1 = true) :
    L2 w0 gn r1 r2 r3 r4 r5 r6 v c ea es out top w' (k + 1) ra rs va n cap cur where
  reps := h.reps.below hb
  node := by rw [hb.block gn (Array.getElem?_eq_some_iff.1 h.node).1]; exact h.node
  base := h.base
  view := World.ownsRow.kept h.view (grown_below hb) (by cases va <;> simp [Value.ownBlock])
  ents := h.ents.below hb
  apart := h.apart
  far := ⟨fun y hy => ⟨(h.far.1 y hy).1, Nat.lt_of_lt_of_le (h.far.1 y hy).2 hb.size⟩, fun y hy => ⟨(h.far.2 y hy).1, Nat.lt_of_lt_of_le (h.far.2 y hy).2 hb.size⟩⟩
  below := below_next h.below hb
  law := by
    have e : es.drop k = es.getD k (0, 0) :: es.drop (k + 1) := by
      rw [List.drop_eq_getElem_cons hk, List.getD_eq_getElem?_getD, List.getElem?_eq_getElem hk]; rfl
    have := h.law
    rw [e, step_cons, if_pos hs] at this
    exact this
  bound := by have := h.bound; omega
  inside := h.inside

theorem cell_keep {w w' : World} {a : Addr} {v : Value} (h : w.cell? a = some v) (hb : Below w.heap.size w w') : w'.cell? a = some v := by
  rw [hb.cell (p := a) (World.block_lt_of_cell? _ _ h)]; exact h

theorem own_heap {S : Nat} {e : TypeId} {size : Nat} {v : Value} {n : Nat} {xs : List Value} {w w' : World} (h : w.ownsRow S e size v n xs) (hw : w'.heap = w.heap) : w'.ownsRow S e size v n xs := by
  unfold World.ownsRow at h ⊢
  rw [hw]
  exact h

theorem news_two (w W : World) (x y : Int) (hW : W.heap = (w.alloc (.cells #[.int .i64 x, .int .i64 y] 51)).heap) : ∀ (j : Nat) (u : Value), [Value.int .i64 x, .int .i64 y][j]? = some u → W.cell? ((⟨w.heap.size, 0, none⟩ : Addr).add j) = some u := by
  intro j u hu
  have hg : W.heap[w.heap.size]? = some (.cells #[.int .i64 x, .int .i64 y] 51 (0, 0)) := by rw [hW]; exact heap_alloc_new w _
  rw [add_plain, Nat.zero_add, cell_of_row _ _ j _ _ _ hg]
  simpa using hu

theorem HasI.same {w w' : World} {a : Option Addr} {l : List Int} (h : HasI w a l) (hs : ∀ y, a = some y → w'.heap[y.block]? = w.heap[y.block]?) : HasI w' a l := fun hp => by
  obtain ⟨g, o, e, hc⟩ := h hp
  refine ⟨g, o, e, fun j hj => ?_⟩
  have h2 := hs _ e
  rw [← hc j hj]
  unfold World.cell?
  simp only at h2 ⊢
  rw [h2]

theorem HasE.same {w w' : World} {a : Option Addr} {l : List (Int × Int)} (h : HasE w a l) (hs : ∀ y, a = some y → w'.heap[y.block]? = w.heap[y.block]?) : HasE w' a l := fun hp => by
  obtain ⟨g, o, e, hc⟩ := h hp
  refine ⟨g, o, e, fun j hj => ?_⟩
  have h2 := hs _ e
  rw [← (hc j hj).1, ← (hc j hj).2]
  unfold World.cell?
  simp only at h2 ⊢
  rw [h2]
  exact ⟨rfl, rfl⟩

theorem grown_setCell (w : World) (g k : Nat) (v : Value) : w.grownBy (w.setCell ⟨g, k, none⟩ v) (some g) :=
  have hb : Below w.heap.size w w := Below.refl _ _
  ⟨rfl, rfl, rfl, by simp, fun j hj hne => heap_setCell_other _ _ _ _ (fun e => hne (by rw [e]))⟩

theorem drop_at {es : List (Int × Int)} {k : Nat} (hk : k < es.length) : es.drop k = es.getD k (0, 0) :: es.drop (k + 1) := by
  rw [List.drop_eq_getElem_cons hk, List.getD_eq_getElem?_getD, List.getElem?_eq_getElem hk]; rfl

theorem hasI_tail {w : World} {g o : Nat} {r : Int} {rs : List Int} (h : HasI w (some ⟨g, o, none⟩) (r :: rs)) : HasI w (some ⟨g, o + 1, none⟩) rs := fun _ => by
  obtain ⟨g', o', e, hc⟩ := h (by simp)
  cases e
  refine ⟨g, o + 1, rfl, fun j hj => ?_⟩
  have := hc (j + 1) (by simpa using hj)
  rw [show o + 1 + j = o + (j + 1) by omega, this]
  simp

theorem own_ints {w : World} {S n : Nat} {v : Value} {l : List Int} (h : w.ownsRow S 3 1 v n (ic l).toList) :
    ∃ a c, v = .slice a n c ∧ l.length = n ∧ n ≤ c ∧ HasI w a l ∧ ∀ y, a = some y → S ≤ y.block ∧ y.block < w.heap.size := by
  obtain ⟨hl, h⟩ := h
  have hl2 : l.length = n := by simpa [ic] using hl
  rcases h with ⟨e, h0⟩ | ⟨g, cp, cur, e, hb, hg, hnc, _, hcs, ht⟩
  · subst h0
    exact ⟨none, 0, e, hl2, Nat.le_refl _, fun hp => by omega, fun y hy => by cases hy⟩
  · refine ⟨_, cp, e, hl2, hnc, fun hp => ⟨g, 0, rfl, fun j hj => ?_⟩, fun y hy => by cases hy; exact ⟨hb, (Array.getElem?_eq_some_iff.1 hg).1⟩⟩
    have h2 := ic_at l j hj
    rw [Nat.zero_add, cell_of_row w g _ _ _ _ hg]
    rw [← Array.getElem?_toList] at h2 ⊢
    rw [← ht, List.getElem?_take_of_lt (by omega)] at h2
    exact h2

theorem place_lt (vs : List (Int × Int)) (u : Int) : place vs u < (vs.length : Int) := by
  unfold place
  split
  · rename_i h
    have := List.findIdx_lt_length_of_exists (List.any_eq_true.1 h)
    omega
  · omega

theorem reps_in {vs : List (Int × Int)} {sent : List Int} {r : Int} (h : r ∈ reps vs sent) : 0 ≤ r ∧ r < (vs.length : Int) := by
  unfold reps at h
  rw [List.mem_filter, List.mem_map] at h
  obtain ⟨⟨u, _, rfl⟩, h2⟩ := h
  exact ⟨by simpa using h2, place_lt vs u⟩

theorem own_put {B : Nat} {w : World} {gv n cap R : Nat} {cur : List (Int × Int)} {x y : Int} (h : OwnV B w (some ⟨gv, 0, none⟩) n cap cur) (hR : R < n) :
    OwnV B ((w.setCell ⟨gv, R * 2, none⟩ (.int .i64 x)).setCell ⟨gv, R * 2 + 1, none⟩ (.int .i64 y)) (some ⟨gv, 0, none⟩) n cap (cur.set R (x, y)) := by
  have hl := h.has.1
  obtain ⟨_, h⟩ := h
  refine ⟨by rw [ec_length, List.length_set, hl], .inr ?_⟩
  rcases h with ⟨e, _⟩ | ⟨g, cp, cs, e, hb, hg, hnc, hm, hcs, ht⟩
  · cases e
  · cases e
    refine ⟨gv, cap, _, rfl, hb, heap_setCell_same _ _ _ _ _ _ (heap_setCell_same w _ _ _ _ _ hg), hnc, hm, by simpa using hcs, ?_⟩
    rw [← ec_set, ← ht]
    simp [List.take_set]

theorem own_cells {B : Nat} {w : World} {a : Option Addr} {n cap R : Nat} {cur : List (Int × Int)} (h : OwnV B w a n cap cur) (hR : R < n) :
    ∃ gv x y, a = some ⟨gv, 0, none⟩ ∧ B ≤ gv ∧ gv < w.heap.size ∧ w.cell? ⟨gv, R * 2, none⟩ = some (.int .i64 x) ∧ w.cell? ⟨gv, R * 2 + 1, none⟩ = some (.int .i64 y) ∧ w.frozen? ⟨gv, R * 2, none⟩ = false ∧ w.frozen? ⟨gv, R * 2 + 1, none⟩ = false := by
  obtain ⟨hl, hh⟩ := h.has
  obtain ⟨g, o, e, hc⟩ := hh (by omega)
  obtain ⟨_, h⟩ := h
  rcases h with ⟨e2, h0⟩ | ⟨g2, cp, cs, e2, hb, hg, hnc, hm, hcs, ht⟩
  · omega
  · cases e2
    cases e
    have := hc R (by omega)
    rw [Nat.zero_add] at this
    exact ⟨_, _, _, rfl, hb, (Array.getElem?_eq_some_iff.1 hg).1, this.1, this.2, frozen_of_row _ _ _ _ _ hg, frozen_of_row _ _ _ _ _ hg⟩

theorem node_keep {w2 W w3 : World} {gn : Nat} {va : Option Addr} {n cap : Nat} {o o' : Obj} (hn : w2.heap[gn]? = some o) (ha : ∀ z, va = some z → z.block ≠ gn) (hg : W.grownBy w3 (Value.slice va n cap).ownBlock) (hW : W.heap = (w2.alloc o').heap) : w3.heap[gn]? = some o := by
  have hlt := (Array.getElem?_eq_some_iff.1 hn).1
  rw [hg.block gn (by rw [hW]; simp; omega) ?_, hW, Below.heap_alloc _ _ _ hlt]
  · exact hn
  · cases va with
    | none => simp [Value.ownBlock]
    | some z => simp [Value.ownBlock]; exact fun e => ha z rfl e.symm

theorem L2.grow {w0 : World} {gn : Nat} {r1 r2 r3 r4 r5 r6 : Value} {v c : Int} {ea : Option Addr} {es out : List (Int × Int)} {top : Nat} {w2 : World} {k : Nat} {ra : Option Addr} {rs : List Int} {va : Option Addr} {n cap : Nat} {cur : List (Int × Int)}
    (h : L2 w0 gn r1 r2 r3 r4 r5 r6 v c ea es out top w2 k ra rs va n cap cur) {W w3 : World} (hWb : Below w2.heap.size w2 W) {x y : Int} {g cap3 : Nat}
    (hgrow : W.grownBy w3 (Value.slice va n cap).ownBlock) (hown : w3.ownsRow w0.heap.size 51 2 (.slice (some ⟨g, 0, none⟩) (n + 1) cap3) (n + 1) (ec cur ++ [.int .i64 x, .int .i64 y]))
    (hat : (Value.slice va n cap).ownBlock = some g ∨ g = W.heap.size) (hk : k < es.length) (hx : (es.getD k (0, 0)) = (x, y)) (hxv : ¬ x = v) (hh : held cur x = false) (hc : (n : Int) < c) :
    L2 w0 gn r1 r2 r3 r4 r5 r6 v c ea es out top (w3.setCell ⟨gn, 0, none⟩ (.slice (some ⟨g, 0, none⟩) (n + 1) cap3)) (k + 1) ra rs (some ⟨g, 0, none⟩) (n + 1) cap3 (cur ++ [(x, y)]) := by
  have hsz := hWb.size
  have hsz3 := hgrow.size
  have hgn : gn < w2.heap.size := (Array.getElem?_eq_some_iff.1 h.node).1
  have hown0 : W.ownsRow w0.heap.size 51 2 (.slice va n cap) n (ec cur) := World.ownsRow.kept h.view (grown_below hWb) (by cases va <;> simp [Value.ownBlock])
  have hgne : g ≠ gn := by
    rcases hat with e | e
    · cases va with
      | none => simp [Value.ownBlock] at e
      | some z => simp [Value.ownBlock] at e; rw [← e]; exact (h.apart z rfl).1
    · omega
  -- a block that lay at w2, apart from the view's and from the node
  have hkeep : ∀ b, b < w2.heap.size → b ≠ gn → (∀ z, va = some z → b ≠ z.block) → (w3.setCell ⟨gn, 0, none⟩ (.slice (some ⟨g, 0, none⟩) (n + 1) cap3)).heap[b]? = w2.heap[b]? := by
    intro b hb h1 h2
    rw [heap_setCell_other _ _ _ _ h1, hgrow.block b (by omega) ?_, hWb.block b hb]
    cases va with
    | none => simp [Value.ownBlock]
    | some z => simp [Value.ownBlock]; exact h2 z rfl
  have hnode3 : w3.heap[gn]? = some (.cells #[.slice va n cap, r1, r2, r3, r4, r5, r6] 45 (0, 0)) := by
    rw [hgrow.block gn (by omega) ?_, hWb.block gn hgn]
    · exact h.node
    · cases va with
      | none => simp [Value.ownBlock]
      | some z => simp [Value.ownBlock]; exact fun e => (h.apart z rfl).1 e.symm
  refine ⟨?_, ?_, h.base, ?_, ?_, ?_, ?_, ?_, ?_, ?_, ?_⟩
  · exact h.reps.same fun y hy => hkeep y.block (h.far.2 y hy).2 (h.far.2 y hy).1 (fun z hz => ((h.apart z hz).2.2 y hy))
  · rw [heap_setCell_same _ _ _ _ _ _ hnode3]
    simp
  · have e : ec (cur ++ [(x, y)]) = ec cur ++ [.int .i64 x, .int .i64 y] := by rw [ec_append]; rfl
    show World.ownsRow _ _ _ _ _ _ _
    rw [e]
    exact World.ownsRow.kept hown (grown_setCell w3 gn 0 _) (by simp [Value.ownBlock]; exact hgne)
  · exact h.ents.same fun y hy => hkeep y.block (h.far.1 y hy).2 (h.far.1 y hy).1 (fun z hz => ((h.apart z hz).2.1 y hy))
  · intro z hz
    cases hz
    refine ⟨hgne, fun y hy => ?_, fun y hy => ?_⟩
    · show y.block ≠ g
      rcases hat with e | e
      · cases va with
        | none => simp [Value.ownBlock] at e
        | some z => simp [Value.ownBlock] at e; rw [← e]; exact (h.apart z rfl).2.1 y hy
      · have := (h.far.1 y hy).2; omega
    · show y.block ≠ g
      rcases hat with e | e
      · cases va with
        | none => simp [Value.ownBlock] at e
        | some z => simp [Value.ownBlock] at e; rw [← e]; exact (h.apart z rfl).2.2 y hy
      · have := (h.far.2 y hy).2; omega
  · refine ⟨fun y hy => ⟨(h.far.1 y hy).1, ?_⟩, fun y hy => ⟨(h.far.2 y hy).1, ?_⟩⟩
    · have := (h.far.1 y hy).2; simp; omega
    · have := (h.far.2 y hy).2; simp; omega
  · exact (below_grown (below_next h.below hWb) hgrow (fun j hj => (hown0.lt j hj).1)).setCell (p := ⟨gn, 0, none⟩) h.base _
  · have hl := h.law
    rw [drop_at hk, hx, step_cons, if_neg (by simp [hxv, hh]), if_pos (by rw [(h.view.has).1]; exact hc)] at hl
    exact hl
  · have := h.bound; omega
  · intro r hr; have := h.inside r hr; omega

theorem L2.put {w0 : World} {gn : Nat} {r1 r2 r3 r4 r5 r6 : Value} {v c : Int} {ea : Option Addr} {es out : List (Int × Int)} {top : Nat} {w2 : World} {k : Nat} {ra ra' : Option Addr} {rs : List Int} {gv n cap R : Nat} {cur : List (Int × Int)}
    (h : L2 w0 gn r1 r2 r3 r4 r5 r6 v c ea es out top w2 k ra ((R : Int) :: rs) (some ⟨gv, 0, none⟩) n cap cur) {W : World} {x y : Int} (hW : W.heap = ((w2.setCell ⟨gv, R * 2, none⟩ (.int .i64 x)).setCell ⟨gv, R * 2 + 1, none⟩ (.int .i64 y)).heap)
    (hWb : Below w0.heap.size w0 W) (hra : HasI w2 ra' rs) (hrb : ∀ y, ra' = some y → ∃ z, ra = some z ∧ y.block = z.block)
    (hk : k < es.length) (hx : (es.getD k (0, 0)) = (x, y)) (hxv : ¬ x = v) (hh : held cur x = false) (hc : ¬ (n : Int) < c) (hR : R < n) :
    L2 w0 gn r1 r2 r3 r4 r5 r6 v c ea es out top W (k + 1) ra' rs (some ⟨gv, 0, none⟩) n cap (cur.set R (x, y)) := by
  have hkeep : ∀ b, b ≠ gv → W.heap[b]? = w2.heap[b]? := fun b hb => by
    rw [hW, heap_setCell_other _ _ _ _ hb, heap_setCell_other _ _ _ _ hb]
  have hsz : W.heap.size = w2.heap.size := by rw [hW]; simp
  have hap := h.apart _ rfl
  refine ⟨?_, ?_, h.base, ?_, ?_, ?_, ?_, hWb, ?_, ?_, ?_⟩
  · exact hra.same fun y hy => by
      obtain ⟨z, hz, e⟩ := hrb y hy
      exact hkeep y.block (by rw [e]; exact hap.2.2 z hz)
  · rw [hkeep gn (fun e => hap.1 e.symm)]; exact h.node
  · exact own_heap (own_put h.view hR) hW
  · exact h.ents.same fun y hy => hkeep y.block (hap.2.1 y hy)
  · intro z hz
    cases hz
    refine ⟨hap.1, hap.2.1, fun y hy => ?_⟩
    obtain ⟨z, hz, e⟩ := hrb y hy
    rw [e]; exact hap.2.2 z hz
  · refine ⟨fun y hy => by rw [hsz]; exact h.far.1 y hy, fun y hy => ?_⟩
    obtain ⟨z, hz, e⟩ := hrb y hy
    rw [hsz, e]; exact h.far.2 z hz
  · have hl := h.law
    rw [drop_at hk, hx, step_cons, if_neg (by simp [hxv, hh]), if_neg (by rw [(h.view.has).1]; exact hc)] at hl
    exact hl
  · have := h.bound; omega
  · intro r hr; exact h.inside r (by simp [hr])

theorem news_one (w : World) (p : Int) : ∀ (j : Nat) (u : Value), [Value.int .i64 p][j]? = some u → (w.alloc (.cells #[.int .i64 p] 3)).cell? ((⟨w.heap.size, 0, none⟩ : Addr).add j) = some u := by
  intro j u hu
  match j, hu with
  | 0, hu =>
    rw [add_plain, Nat.add_zero, cell_of_row _ _ 0 _ _ _ (heap_alloc_new w (.cells #[.int .i64 p] 3))]
    simpa using hu
  | j + 1, hu => simp at hu

theorem own_below {S : Nat} {e : TypeId} {size : Nat} {v : Value} {n : Nat} {xs : List Value} {w w' w0 : World} (h : Hid (w.ownsRow S e size v n xs)) (hb : Below w0.heap.size w0 w) (hb2 : Below w.heap.size w w') : Hid (w'.ownsRow S e size v n xs) :=
  h.out.kept (grown_below hb2) (by cases v.ownBlock <;> simp)

/-- What merge leaves: the node with the new view, in blocks of the call's own. -/
def Merged (w0 : World) (gn : Nat) (r1 r2 r3 r4 r5 r6 : Value) (out : List (Int × Int)) (e : Ending) (w' : World) : Prop :=
  ∃ va n cap, e = .returned (.tuple #[]) ∧ w'.heap[gn]? = some (.cells #[.slice va n cap, r1, r2, r3, r4, r5, r6] 45 (0, 0)) ∧ OwnV w0.heap.size w' va n cap out ∧ Below w0.heap.size w0 w' ∧ n ≤ 4194304

set_option maxRecDepth 20000 in
set_option maxHeartbeats 4000000 in
theorem merge_any (w0 w : World) (gn : Nat) (va : Option Addr) (n vcap : Nat) (vs : List (Int × Int)) (r1 r2 r3 r4 r5 r6 : Value) (v c : Int)
    (ea : Option Addr) (en ecap : Nat) (es : List (Int × Int)) (sa : Option Addr) (sn scap : Nat) (sent : List Int)
    (hb0 : Below w0.heap.size w0 w) (hnode : w.heap[gn]? = some (.cells #[.slice va n vcap, r1, r2, r3, r4, r5, r6] 45 (0, 0)))
    (hview : OwnV w0.heap.size w va n vcap vs) (hes : es.length = en) (he : HasE w ea es) (hsl : sent.length = sn) (hsent : HasI w0 sa sent)
    (hgn0 : w0.heap.size ≤ gn) (hap : ∀ x, va = some x → x.block ≠ gn ∧ ∀ y, ea = some y → y.block ≠ x.block) (hfar : ∀ y, ea = some y → y.block ≠ gn ∧ y.block < w.heap.size)
    (hn : n ≤ 1048576) (hen : en ≤ 1048576) (hsn : sn ≤ 1048576) :
    Calls Try.prog 22 #[.pointer (some ⟨gn, 0, none⟩), .int .i64 v, .slice ea en ecap, .slice sa sn scap, .int .i64 c] w fun e w' => Merged w0 gn r1 r2 r3 r4 r5 r6 (step v c vs (reps vs sent) es) e w' := by
  obtain ⟨i3, hi3, hzz⟩ := Option.map_eq_some_iff.1 infoInt
  simp only [Prod.mk.injEq] at hzz
  obtain ⟨hz3, hs3, hb3⟩ := hzz
  have HI3 : Hid (Try.prog.info? 3 = some i3 ∧ i3.zero = some (.int .i64 0) ∧ i3.size = 1 ∧ i3.bytes = 8) := ⟨hi3, hz3, hs3, hb3⟩
  clear hi3 hz3 hs3 hb3
  obtain ⟨i51, hi5, hzz⟩ := Option.map_eq_some_iff.1 infoEnt
  simp only [Prod.mk.injEq] at hzz
  obtain ⟨hz5, hs5, hb5⟩ := hzz
  have HI5 : Hid (Try.prog.info? 51 = some i51 ∧ i51.zero = some (.agg #[.int .i64 0, .int .i64 0]) ∧ i51.size = 2 ∧ i51.bytes = 16) := ⟨hi5, hz5, hs5, hb5⟩
  clear hi5 hz5 hs5 hb5
  have HV : Hid (OwnV w0.heap.size w va n vcap vs) := hview
  have HS : Hid (sent.length = sn ∧ HasI w sa sent) := ⟨hsl, hsent.below hb0⟩
  have HE : Hid (es.length = en ∧ HasE w ea es) := ⟨hes, he⟩
  have hnc : w.cell? ⟨gn, 0, none⟩ = some (.slice va n vcap) := by rw [cell_of_row w gn 0 _ _ _ hnode]; rfl
  have HNC : Hid (w.cell? ⟨gn, 0, none⟩ = some (.slice va n vcap)) := hnc
  have HND : Hid (w.heap[gn]? = some (.cells #[.slice va n vcap, r1, r2, r3, r4, r5, r6] 45 (0, 0))) := hnode
  have HAP : Hid (w0.heap.size ≤ gn ∧ (∀ x, va = some x → x.block ≠ gn ∧ ∀ y, ea = some y → y.block ≠ x.block) ∧ (∀ y, ea = some y → y.block ≠ gn ∧ y.block < w.heap.size)) := ⟨hgn0, hap, hfar⟩
  clear hview hsl hsent hes he hnc hnode hgn0 hap hfar
  go_enter Try.func22, Try.ntmps22
  go_wp2_with fail
  go_loopw [10, 18] (fun rv iv wr => ∃ k : Nat, iv = .int .i64 k ∧ k ≤ sn ∧ Hid (wr.ownsRow w.heap.size 3 1 rv (reps vs (sent.take k)).length (ic (reps vs (sent.take k))).toList) ∧ Below w.heap.size w wr) (fun _ iv _ => sn - (intOf iv).toNat)
  case atStart => exact ⟨0, rfl, Nat.zero_le _, ⟨by simp [ic, reps], .inl ⟨rfl, by simp [reps]⟩⟩, Below.refl _ _⟩
  case round =>
    obtain ⟨k, rfl, hk, HR, hbr⟩ := hrel
    by_cases hlt : k < sn
    · obtain ⟨g, o, e, hc⟩ := (HS.out.2.below hbr) (by have := HS.out; omega)
      cases e
      have hck := hc k (by have := HS.out; omega)
      have HT := reps_take vs sent k (by have := HS.out; omega)
      obtain ⟨u, hu⟩ : ∃ u, u = sent.getD k 0 := ⟨_, rfl⟩
      rw [← hu] at hck HT
      have HT2 : Hid (reps vs (sent.take (k + 1)) = reps vs (sent.take k) ++ (if 0 ≤ place vs u then [place vs u] else [])) := HT
      clear hu hc HT
      have hba := below_alloc wr (.cells #[.int .i64 u] 2)
      have hI := index28_any va n vcap vs u wr.heap.size _ HV.out.has.1 (by omega) ((HV.out.has.2.below hbr).below hba) (by rw [cell_of_row _ _ 0 _ _ _ (heap_alloc_new wr (.cells #[.int .i64 u] 2))]; rfl)
      have hnr : (wr.alloc (.cells #[.int .i64 u] 2)).cell? ⟨gn, 0, none⟩ = some (.slice va n vcap) := by
        rw [(below_next hbr hba).cell (p := ⟨gn, 0, none⟩) (World.block_lt_of_cell? _ _ HNC.out)]; exact HNC.out
      obtain ⟨p, hp⟩ : ∃ p, p = place vs u := ⟨_, rfl⟩
      have HP : Hid (p = place vs u) := hp
      rw [← hp] at hI
      clear hp
      by_cases hp0 : 0 ≤ p
      · go_wp2_with fail
        refine hI.mono ?_
        rintro e w2 ⟨rfl, hb2⟩
        have hbw2 := below_next hbr (below_next hba hb2)
        have hown : (w2.alloc (.cells #[.int .i64 p] 3)).ownsRow w.heap.size 3 1 u10 (reps vs (sent.take k)).length (ic (reps vs (sent.take k))).toList := (own_below HR hbr (below_next (below_next hba hb2) (below_alloc w2 (.cells #[.int .i64 p] 3)))).out
        clear hI hnr
        go_upto_region 6 with fail
        go_wp2_with (refine wpList_append_lies _ rfl _ _ 23 rfl w.heap.size 3 i3 (.int .i64 0) 1 8 Try.underlying23 HI3.out.1 HI3.out.2.1 HI3.out.2.2.1 HI3.out.2.2.2 rfl (by omega) _ _ _ rfl hown ⟨w2.heap.size, 0, none⟩ 1 1 [.int .i64 p] rfl rfl ?news ?one (by omega) ?c1 ?c2 ?c3 _ rfl ?_)
        case news => exact news_one w2 p
        case one => intro u hu; rw [List.mem_singleton] at hu; rw [hu]; rfl
        case c1 => have := reps_length vs (sent.take k); have h2 := List.length_take_le k sent; unfold maxLen; omega
        case c2 => have := reps_length vs (sent.take k); have h2 := List.length_take_le k sent; omega
        case c3 => have := hbw2.size; simp; omega
        intro g3 cap3 w3 hown3 hgrow hat hlt3
        have hb3 := below_grown (below_next hbw2 (below_alloc w2 (.cells #[.int .i64 p] 3))) hgrow (fun j hj => (hown.lt j hj).1)
        have HO3 : Hid _ := hown3
        clear hown hown3 hgrow hat hlt3
        go_wp2
        refine ⟨⟨k + 1, by go_num, by omega, ?_, hb3⟩, by simp [intOf]; omega⟩
        rw [HT2.out, ← HP.out, if_pos hp0]
        have := HO3.out
        have e1 : (reps vs (sent.take k) ++ [p]).length = (reps vs (sent.take k)).length + 1 := by simp
        have e2 : (ic (reps vs (sent.take k) ++ [p])).toList = (ic (reps vs (sent.take k))).toList ++ [.int .i64 p] := by simp [ic]
        rw [e1, e2]
        exact this
      · go_upto_region 4 with fail
        go_wp2_with (go_at_call 27; refine hI.mono ?_; rintro e w2 ⟨rfl, hb2⟩)
        have hbw2 := below_next hbr (below_next hba hb2)
        refine ⟨⟨k + 1, by go_num, by omega, ?_, hbw2⟩, by simp [intOf]; omega⟩
        rw [HT2.out, ← HP.out, if_neg (by omega), List.append_nil]
        exact own_below HR hbr (below_next hba hb2)
    · obtain rfl : sn = k := by omega
      go_wp2_with fail
      have HL0 : Hid (∃ ra rcap rs va' n' cap' cur, u10 = .slice ra rs.length rcap ∧ rs.length ≤ rcap ∧ L2 w0 gn r1 r2 r3 r4 r5 r6 v c ea es (step v c vs (reps vs sent) es) n wr 0 ra rs va' n' cap' cur) := by
        have hrow := HR.out
        rw [List.take_of_length_le (by rw [HS.out.1]; exact Nat.le_refl _)] at hrow
        obtain ⟨ra, rc, e, e1, e2, e3, e4⟩ := own_ints hrow
        obtain ⟨q1, q2, q3⟩ := HAP.out
        have hgnw : gn < w.heap.size := (Array.getElem?_eq_some_iff.1 HND.out).1
        refine ⟨ra, rc, reps vs sent, va, n, vcap, vs, e, e2, ?_⟩
        refine ⟨e3, by rw [hbr.block gn hgnw]; exact HND.out, q1, World.ownsRow.kept HV.out (grown_below hbr) (by cases va <;> simp [Value.ownBlock]), HE.out.2.below hbr, ?_, ?_, below_next hb0 hbr, by rw [List.drop_zero], by omega, fun r hr => ?_⟩
        · intro x hx
          refine ⟨(q2 x hx).1, (q2 x hx).2, fun y hy => ?_⟩
          have h1 := (e4 y hy).1
          have h2 := (World.ownsRow.lt HV.out x.block (by rw [hx]; rfl)).2
          omega
        · refine ⟨fun y hy => ⟨(q3 y hy).1, Nat.lt_of_lt_of_le (q3 y hy).2 hbr.size⟩, fun y hy => ?_⟩
          have h1 := e4 y hy
          omega
        · have := reps_in hr
          rw [HV.out.has.1] at this
          exact this
      clear HR
      go_loopw [10, 37] (fun rv iv wx => ∃ k ra rcap rs va' n' cap' cur, rv = .slice ra rs.length rcap ∧ iv = .int .i64 ((k : Nat) : Int) ∧ k ≤ en ∧ rs.length ≤ rcap ∧ Hid (L2 w0 gn r1 r2 r3 r4 r5 r6 v c ea es (step v c vs (reps vs sent) es) n wx k ra rs va' n' cap' cur)) (fun _ iv _ => en - (intOf iv).toNat)
      case atStart =>
        obtain ⟨ra, rcap, rs, va', n', cap', cur, e, h1, h⟩ := HL0.out
        exact ⟨0, ra, rcap, rs, va', n', cap', cur, e, rfl, Nat.zero_le _, h1, h⟩
      case round =>
        clear HL0
        obtain ⟨k, ra, rcap, rs, va', n', cap', cur, rfl, rfl, hk, hrc, HL⟩ := hrel
        by_cases hlt2 : k < en
        · obtain ⟨ge, oe, e, hc⟩ := HL.out.ents (by have := HE.out.1; omega)
          obtain ⟨hc1, hc2⟩ := hc k (by have := HE.out.1; omega)
          cases e
          obtain ⟨x, hx⟩ : ∃ x, x = (es.getD k (0, 0)).1 := ⟨_, rfl⟩
          obtain ⟨y, hy⟩ : ∃ y, y = (es.getD k (0, 0)).2 := ⟨_, rfl⟩
          have HX : Hid (x = (es.getD k (0, 0)).1 ∧ y = (es.getD k (0, 0)).2) := ⟨hx, hy⟩
          rw [← hx] at hc1
          rw [← hy] at hc2
          clear hc hx hy
          have hba := below_alloc wr (.cells #[.int .i64 x, .int .i64 y] 51)
          have hgn : gn < wr.heap.size := (Array.getElem?_eq_some_iff.1 HL.out.node).1
          have hnr : (wr.alloc (.cells #[.int .i64 x, .int .i64 y] 51)).cell? ⟨gn, 0, none⟩ = some (.slice va' n' cap') := by
            rw [hba.cell (p := ⟨gn, 0, none⟩) hgn, cell_of_row _ _ 0 _ _ _ HL.out.node]; rfl
          have hn' : n' ≤ 4194304 := by have := HL.out.bound; omega
          have hH := holds_any gn va' n' cap' cur x _ (HL.out.view.has.1) (by omega) (HL.out.view.has.2.below hba) hnr
          by_cases hxv : x = v
          · subst hxv
            go_wp2
            refine ⟨⟨k + 1, ra, rcap, rs, va', n', cap', cur, rfl, by go_num, by omega, hrc, HL.out.next hba (by rw [HE.out.1]; exact hlt2) (.inl HX.out.1.symm)⟩, by simp [intOf]; omega⟩
          · obtain ⟨b, hb⟩ : ∃ b, b = held cur x := ⟨_, rfl⟩
            have HB : Hid (b = held cur x) := hb
            rw [← hb] at hH
            clear hb
            cases b with
            | true =>
              go_wp2_with (go_at_call 29; refine hH.mono ?_; rintro e w2 ⟨rfl, hb2⟩)
              refine ⟨⟨k + 1, ra, rcap, rs, va', n', cap', cur, rfl, by go_num, by omega, hrc, HL.out.next (below_next hba hb2) (by rw [HE.out.1]; exact hlt2) (.inr (by rw [← HX.out.1]; exact HB.out.symm))⟩, by simp [intOf]; omega⟩
            | false =>
              have hx1 : (wr.alloc (.cells #[.int .i64 x, .int .i64 y] 51)).cell? ⟨wr.heap.size, 0, none⟩ = some (.int .i64 x) := by rw [cell_of_row _ _ 0 _ _ _ (heap_alloc_new wr _)]; rfl
              have hy1 : (wr.alloc (.cells #[.int .i64 x, .int .i64 y] 51)).cell? ⟨wr.heap.size, 1, none⟩ = some (.int .i64 y) := by rw [cell_of_row _ _ 1 _ _ _ (heap_alloc_new wr _)]; rfl
              by_cases hnc : (n' : Int) < c
              · go_upto_region 13 with (go_at_call 29; refine hH.mono ?_; rintro e w2 ⟨rfl, hb2⟩; have hnr2 := cell_keep hnr hb2; have hx2 := cell_keep hx1 hb2; have hy2 := cell_keep hy1 hb2)
                clear hnr hx1 hy1 hH
                have hbw := below_next hba hb2
                have HL2 := HL.out.next' hbw
                have HL3 : Hid _ := HL2
                clear HL2
                have HOWN : Hid (∀ W : World, W.heap = (w2.alloc (.cells #[.int .i64 x, .int .i64 y] 51)).heap → W.ownsRow w0.heap.size 51 2 (.slice va' n' cap') n' (ec cur)) := fun W hW => own_heap (own_below (w0 := w0) HL3.out.view HL3.out.below (below_alloc w2 _)).out hW
                have HNEWS : Hid (∀ W : World, W.heap = (w2.alloc (.cells #[.int .i64 x, .int .i64 y] 51)).heap → ∀ (j : Nat) (u : Value), [Value.int .i64 x, .int .i64 y][j]? = some u → W.cell? ((⟨w2.heap.size, 0, none⟩ : Addr).add j) = some u) := fun W hW => news_two w2 W x y hW
                have HN3 : Hid (∀ (W w3 : World), W.grownBy w3 (Value.slice va' n' cap').ownBlock → W.heap = (w2.alloc (.cells #[.int .i64 x, .int .i64 y] 51)).heap → w3.heap[gn]? = some (.cells #[.slice va' n' cap', r1, r2, r3, r4, r5, r6] 45 (0, 0))) := fun W w3 hg hW => node_keep HL3.out.node (fun z hz => (HL3.out.apart z hz).1) hg hW
                have hnrA := cell_keep hnr2 (below_alloc w2 (.cells #[.int .i64 x, .int .i64 y] 51))
                have hxA := cell_keep hx2 (below_alloc w2 (.cells #[.int .i64 x, .int .i64 y] 51))
                have hyA := cell_keep hy2 (below_alloc w2 (.cells #[.int .i64 x, .int .i64 y] 51))
                have h63 : n' + 1 ≤ maxLen := by unfold maxLen; omega
                have hbytes : (n' + 1) * 16 ≤ 140737488355328 := by omega
                have hbase : Hid (∀ W : World, W.heap = (w2.alloc (.cells #[.int .i64 x, .int .i64 y] 51)).heap → w0.heap.size ≤ W.heap.size) := fun W hW => by rw [hW]; have := HL3.out.below.size; simp; omega
                have hone : Hid (∀ u ∈ [Value.int .i64 x, .int .i64 y], u.oneCell' = true) := fun u hu => ec_one [(x, y)] u hu
                go_region_law (refine step_append_lies _ rfl (.tmp 64) (.tmp 66) 41 rfl w0.heap.size 51 i51 (.agg #[.int .i64 0, .int .i64 0]) 2 16 Try.underlying41 HI5.out.1 HI5.out.2.1 HI5.out.2.2.1 HI5.out.2.2.2 rfl (by omega) (.slice va' n' cap') n' (ec cur) (by simp [Act.eval]) (HOWN.out _ rfl) ⟨w2.heap.size, 0, none⟩ 1 1 [.int .i64 x, .int .i64 y] (by simp [Act.eval]) rfl (HNEWS.out _ rfl) hone.out (by omega) h63 hbytes (hbase.out _ rfl) _ rfl ?_; intro g3 cap3 w3 hown3 hgrow hat hlt3; have hN3 := HN3.out _ w3 hgrow rfl; have hnr3 : w3.cell? ⟨gn, 0, none⟩ = some (.slice va' n' cap') := (by rw [cell_of_row _ _ 0 _ _ _ hN3]; rfl); have hfz3 := frozen_of_row _ gn 0 _ _ hN3)
                all_goals clear HOWN HNEWS HN3 hbase hone hN3 hnr3 hfz3
                all_goals go_wp2
                all_goals refine ⟨⟨k + 1, ra, rcap, rs, some ⟨g3, 0, none⟩, n' + 1, cap3, cur ++ [(x, y)], rfl, by go_num, by omega, hrc, L2.grow HL3.out ?_ hgrow hown3 hat (by rw [HE.out.1]; exact hlt2) (by rw [HX.out.1, HX.out.2]) hxv HB.out.symm hnc⟩, by simp [intOf]; omega⟩
                all_goals first | exact below_alloc _ _ | exact (below_alloc _ _).drew
              · cases rs with
                | nil =>
                  go_wp2_with (go_at_call 29; refine hH.mono ?_; rintro e w2 ⟨rfl, hb2⟩; have hnr2 := cell_keep hnr hb2; have hx2 := cell_keep hx1 hb2; have hy2 := cell_keep hy1 hb2)
                  refine bodyPost_ret (v := .tuple #[]) (by simp [results, Try.results22, go_sem]) rfl ?_
                  have HL2 := HL.out.next' (below_next hba hb2)
                  have hlaw := HL2.law
                  rw [drop_at (by rw [HE.out.1]; exact hlt2), step_cons, ← HX.out.1, if_neg (by simp [hxv, ← HB.out]), if_neg (by rw [HL2.view.has.1]; omega)] at hlaw
                  have hv2 := HL2.view
                  have hlaw2 : cur = _ := hlaw
                  rw [hlaw2] at hv2
                  exact ⟨va', n', cap', rfl, HL2.node, hv2, HL2.below, hn'⟩
                | cons r rs' =>
                  go_upto_region 15 with (go_at_call 29; refine hH.mono ?_; rintro e w2 ⟨rfl, hb2⟩; have hnr2 := cell_keep hnr hb2; have hx2 := cell_keep hx1 hb2; have hy2 := cell_keep hy1 hb2)
                  have HL2 := HL.out.next' (below_next hba hb2)
                  have HL3 : Hid _ := HL2
                  obtain ⟨R, hR⟩ := Int.eq_ofNat_of_zero_le (HL2.inside r (by simp)).1
                  subst hR
                  have hRn : R < n' := by have := (HL2.inside (R : Int) (by simp)).2; omega
                  obtain ⟨gv, x0, y0, rfl, hBv, hgv, hv1, hv2, hf1, hf2⟩ := own_cells HL2.view hRn
                  obtain ⟨gr, or, e, hcr⟩ := HL2.reps (by simp)
                  cases e
                  have hr0 := hcr 0 (by simp)
                  simp only [Nat.add_zero, List.getD_cons_zero] at hr0
                  clear hnr hx1 hy1 hH HL2 hcr
                  have hrc2 : rs'.length + 1 ≤ rcap := by simpa using hrc
                  by_cases hc1 : rcap = 1
                  · subst hc1
                    obtain rfl : rs' = [] := List.eq_nil_of_length_eq_zero (by omega)
                    go_region
                    all_goals go_wp2
                    all_goals exact ⟨⟨k + 1, _, 0, [], some ⟨gv, 0, none⟩, n', cap', cur.set R (x, y), rfl, by go_num, by omega, Nat.le_refl _, L2.put HL3.out rfl ((HL3.out.below.setCell (p := ⟨gv, R * 2, none⟩) hBv _).setCell (p := ⟨gv, R * 2 + 1, none⟩) hBv _).drew (fun h => absurd h (by simp)) (fun y hy => ⟨_, rfl, by cases hy; rfl⟩) (by rw [HE.out.1]; exact hlt2) (by rw [HX.out.1, HX.out.2]) hxv HB.out.symm (by omega) hRn⟩, by simp [intOf]; omega⟩
                  · go_region
                    all_goals go_wp2
                    all_goals exact ⟨⟨k + 1, _, rcap - 1, rs', some ⟨gv, 0, none⟩, n', cap', cur.set R (x, y), rfl, by go_num, by omega, by omega, L2.put HL3.out rfl ((HL3.out.below.setCell (p := ⟨gv, R * 2, none⟩) hBv _).setCell (p := ⟨gv, R * 2 + 1, none⟩) hBv _).drew (hasI_tail HL3.out.reps) (fun y hy => ⟨_, rfl, by cases hy; rfl⟩) (by rw [HE.out.1]; exact hlt2) (by rw [HX.out.1, HX.out.2]) hxv HB.out.symm (by omega) hRn⟩, by simp [intOf]; omega⟩
        · obtain rfl : en = k := by omega
          go_wp2
          refine bodyPost_ret (v := .tuple #[]) (by simp [results, Try.results22, go_sem]) rfl ?_
          have hlaw := HL.out.law
          rw [List.drop_eq_nil_of_le (by rw [HE.out.1]; exact Nat.le_refl _)] at hlaw
          have hv2 := HL.out.view
          have hlaw2 : cur = step v c vs (reps vs sent) es := by rw [← hlaw]; cases rs <;> rfl
          rw [hlaw2] at hv2
          exact ⟨va', n', cap', rfl, HL.out.node, hv2, HL.out.below, by have := HL.out.bound; omega⟩
end Go.Proofs.Qxb6003681a
