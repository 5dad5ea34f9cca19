import Derived.Test.Qxb6003681aM8
namespace Go.Proofs.Qxb6003681a
open Go.RowKit
set_option linter.unusedVariables false

theorem ents_has {n : Nat} {vs : List (Int × Int)} {w w' : World} {a : Option Addr} (hl : vs.length = n) (h : (a = none ∧ n = 0) ∨ (a = some ⟨w.heap.size, 0, none⟩ ∧ w'.heap[w.heap.size]? = some (.cells (ec vs).toArray 51 (0, 0)))) : HasE w' a vs := by
  rcases h with ⟨_, h⟩ | ⟨rfl, h⟩
  · intro hp; omega
  · exact hasE_of_heap h

theorem ents_own {n : Nat} {vs : List (Int × Int)} {w w' w2 : World} {a : Option Addr} (hl : vs.length = n) (h : (a = none ∧ n = 0) ∨ (a = some ⟨w.heap.size, 0, none⟩ ∧ w'.heap[w.heap.size]? = some (.cells (ec vs).toArray 51 (0, 0))))
    (hb1 : Below w.heap.size w w') (hb : Below w'.heap.size w' w2) (hn : n ≤ 1048576) : OwnV w.heap.size w2 a n n vs := by
  refine ⟨by rw [ec_length, hl], ?_⟩
  rcases h with ⟨rfl, rfl⟩ | ⟨rfl, h⟩
  · exact .inl ⟨rfl, rfl⟩
  · refine .inr ⟨w.heap.size, n, _, rfl, Nat.le_refl _, by rw [hb.block _ (Array.getElem?_eq_some_iff.1 h).1]; exact h, Nat.le_refl _, by unfold maxLen; omega, by simp [ec_length, hl], ?_⟩
    rw [List.take_of_length_le (by simp [ec_length, hl])]

set_option maxRecDepth 20000 in
set_option maxHeartbeats 1000000 in
theorem zzmerge_any (va vb ea eb sa : Option Addr) (n vc vd en ec1 ed sn sc : Nat) (vn vg en1 eg sent : List Int) (v c : Int) (w : World)
    (h1 : vn.length = n) (h2 : vg.length = n) (h3 : en1.length = en) (h4 : eg.length = en) (h5 : sent.length = sn)
    (k1 : HasI w va vn) (k2 : HasI w vb vg) (k3 : HasI w ea en1) (k4 : HasI w eb eg) (k5 : HasI w sa sent)
    (m1 : va = none → n = 0 ∧ vc = 0) (m3 : ea = none → en = 0 ∧ ec1 = 0) (hn : n ≤ 1048576) (hen : en ≤ 1048576) (hsn : sn ≤ 1048576) :
    Calls Try.prog 12 #[.slice va n vc, .slice vb n vd, .int .i64 v, .slice ea en ec1, .slice eb en ed, .slice sa sn sc, .int .i64 c] w fun e w' =>
      Split (step v c (vn.zip vg) (reps (vn.zip vg) sent) (en1.zip eg)) w e w' := by
  have hE1 := entries_any va vb n vc vd vn vg w h1 h2 hn k1 k2 m1
  have HK : Hid (en1.length = en ∧ eg.length = en ∧ sent.length = sn ∧ HasI w ea en1 ∧ HasI w eb eg ∧ HasI w sa sent ∧ (ea = none → en = 0 ∧ ec1 = 0) ∧ (vn.zip vg).length = n ∧ (en1.zip eg).length = en) := ⟨h3, h4, h5, k3, k4, k5, m3, by simp [h1, h2], by simp [h3, h4]⟩
  clear h1 h2 h3 h4 h5 k1 k2 k3 k4 k5 m1 m3
  go_enter Try.func12, Try.ntmps12
  go_wp2_with fail
  refine hE1.mono ?_
  rintro e w1 ⟨a1, rfl, hd1, hb1⟩
  clear hE1
  go_wp2_with fail
  have hgn := heap_alloc_new w1 (.cells #[.slice a1 n n, .int .i64 0, .int .i64 0, .slice none 0 0, .slice none 0 0, .slice none 0 0, .bool false] 45)
  have hbn := below_alloc w1 (.cells #[.slice a1 n n, .int .i64 0, .int .i64 0, .slice none 0 0, .slice none 0 0, .slice none 0 0, .bool false] 45)
  have hgs : (w1.alloc (.cells #[.slice a1 n n, .int .i64 0, .int .i64 0, .slice none 0 0, .slice none 0 0, .slice none 0 0, .bool false] 45)).heap.size = w1.heap.size + 1 := by simp
  generalize (w1.alloc (.cells #[.slice a1 n n, .int .i64 0, .int .i64 0, .slice none 0 0, .slice none 0 0, .slice none 0 0, .bool false] 45)) = W1 at hgn hbn hgs ⊢
  have hbW := below_next hb1 hbn
  refine (entries_any ea eb en ec1 ed en1 eg W1 HK.out.1 HK.out.2.1 hen (HK.out.2.2.2.1.below hbW) (HK.out.2.2.2.2.1.below hbW) HK.out.2.2.2.2.2.2.1).mono ?_
  rintro e w2 ⟨a2, rfl, hd2, hb2⟩
  have hb02 := below_next hbW hb2
  have hsz1 := hb1.size
  have hnode : w2.heap[w1.heap.size]? = some (.cells #[.slice a1 n n, .int .i64 0, .int .i64 0, .slice none 0 0, .slice none 0 0, .slice none 0 0, .bool false] 45 (0, 0)) := by
    rw [hb2.block _ (by omega)]; exact hgn
  have hM := merge_any w w2 w1.heap.size a1 n n (vn.zip vg) _ _ _ _ _ _ v c a2 en en (en1.zip eg) sa sn sc sent hb02 hnode
    (ents_own HK.out.2.2.2.2.2.2.2.1 hd1 hb1 (below_next hbn hb2) hn) HK.out.2.2.2.2.2.2.2.2 (ents_has HK.out.2.2.2.2.2.2.2.2 hd2) HK.out.2.2.1 HK.out.2.2.2.2.2.1 hsz1
    (by
      intro x hx
      rcases hd1 with ⟨e, _⟩ | ⟨e, hh⟩
      · rw [e] at hx; cases hx
      · rw [e] at hx; cases hx
        have h0 := (Array.getElem?_eq_some_iff.1 hh).1
        refine ⟨by simp; omega, fun y hy => ?_⟩
        rcases hd2 with ⟨e, _⟩ | ⟨e, _⟩
        · rw [e] at hy; cases hy
        · rw [e] at hy; cases hy
          simp; omega)
    (by
      intro y hy
      rcases hd2 with ⟨e, _⟩ | ⟨e, hh⟩
      · rw [e] at hy; cases hy
      · rw [e] at hy; cases hy
        have h0 := (Array.getElem?_eq_some_iff.1 hh).1
        exact ⟨by simp; omega, h0⟩) hn hen hsn
  clear hd1 hd2 hgn hbn hgs hbW hb2 hb1 hnode
  generalize w1.heap.size = gn at hM ⊢
  go_wp2_with fail
  refine hM.mono ?_
  rintro e w3 ⟨va3, n3, cap3, rfl, hnode3, hown3, hb3, hn3⟩
  clear hM
  have hS := split_any va3 n3 cap3 _ w3 hown3.has.1 (by omega) hown3.has.2
  have hc3 : w3.cell? ⟨gn, 0, none⟩ = some (.slice va3 n3 cap3) := by rw [cell_of_row _ _ 0 _ _ _ hnode3]; rfl
  clear hown3 hnode3
  go_wp2_with fail
  refine hS.mono ?_
  rintro e w4 ⟨g, h, rfl, i1, i2, hb4⟩
  go_wp2
  go_ret2
  exact ⟨g, h, rfl, i1, i2, below_next hb3 hb4⟩
end Go.Proofs.Qxb6003681a
