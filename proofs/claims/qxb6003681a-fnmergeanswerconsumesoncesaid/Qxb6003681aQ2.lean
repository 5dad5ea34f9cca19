import Derived.Test.Qxb6003681aQ1
namespace Go.Proofs.Qxb6003681a
open Go.RowKit
set_option linter.unusedVariables false

/-- The view after mergeAnswer. -/
def after (ans : Bool) (v c : Int) (vs : List (Int × Int)) (sent : List Int) (es : List (Int × Int)) : List (Int × Int) :=
  match ans with
  | true => step v c vs (reps vs sent) es
  | false => vs

def Split4 (vs : List (Int × Int)) (w : World) (e : Ending) (w' : World) : Prop :=
  ∃ g h, e = .returned (.tuple #[.slice (some ⟨g, 0, none⟩) vs.length vs.length, .slice (some ⟨h, 0, none⟩) vs.length vs.length, .bool true, .bool false]) ∧ HasI w' (some ⟨g, 0, none⟩) (nodesOf vs) ∧ HasI w' (some ⟨h, 0, none⟩) (agesOf vs) ∧ Below w.heap.size w w'

theorem answer_any (ans : Bool) (w0 w : World) (gn : Nat) (va : Option Addr) (n vcap : Nat) (vs : List (Int × Int)) (r1 r2 r4 : Value) (v c : Int)
    (ea : Option Addr) (en ecap : Nat) (es : List (Int × Int)) (sa : Option Addr) (sn scap : Nat) (sent : List Int)
    (hb0 : Below w0.heap.size w0 w) (hnode : w.heap[gn]? = some (.cells #[.slice va n vcap, r1, r2, .slice sa sn scap, r4, .slice ea en ecap, .bool ans] 45 (0, 0)))
    (hview : OwnV w0.heap.size w va n vcap vs) (hes : es.length = en) (he : HasE w ea es) (hsl : sent.length = sn) (hsent : HasI w0 sa sent)
    (hgn0 : w0.heap.size ≤ gn) (hap : ∀ x, va = some x → x.block ≠ gn ∧ ∀ y, ea = some y → y.block ≠ x.block) (hfar : ∀ y, ea = some y → y.block ≠ gn ∧ y.block < w.heap.size)
    (hn : n ≤ 1048576) (hen : en ≤ 1048576) (hsn : sn ≤ 1048576) :
    Calls Try.prog 25 #[.pointer (some ⟨gn, 0, none⟩), .int .i64 v, .int .i64 c] w fun e w' => Answd w0 gn r1 r2 (.slice sa sn scap) r4 (after ans v c vs sent es) e w' := by
  cases ans with
  | true => exact answer_yes w0 w gn va n vcap vs r1 r2 r4 v c ea en ecap es sa sn scap sent hb0 hnode hview hes he hsl hsent hgn0 hap hfar hn hen hsn
  | false => exact answer_no w0 w gn va n vcap vs r1 r2 _ r4 _ v c hb0 hnode hview hgn0 hn

theorem ents_has2 {n : Nat} {vs : List (Int × Int)} {w w' w2 : World} {a : Option Addr} (hl : vs.length = n) (h : (a = none ∧ n = 0) ∨ (a = some ⟨w.heap.size, 0, none⟩ ∧ w'.heap[w.heap.size]? = some (.cells (ec vs).toArray 51 (0, 0)))) (hb : Below w'.heap.size w' w2) : HasE w2 a vs :=
  (ents_has hl h).same fun y hy => by
    rcases h with ⟨e, _⟩ | ⟨e, h⟩
    · rw [e] at hy; cases hy
    · rw [e] at hy; cases hy
      exact hb.block _ (Array.getElem?_eq_some_iff.1 h).1

set_option maxRecDepth 20000 in
set_option maxHeartbeats 1000000 in
theorem zzanswer_any (ans : Bool) (va vb ea eb sa : Option Addr) (n vc vd en ec1 ed sn sc : Nat) (vn vg en1 eg sent : List Int) (v c : Int) (w : World)
    (h1 : vn.length = n) (h2 : vg.length = n) (h3 : en1.length = en) (h4 : eg.length = en) (h5 : sent.length = sn)
    (k1 : HasI w va vn) (k2 : HasI w vb vg) (k3 : HasI w ea en1) (k4 : HasI w eb eg) (k5 : HasI w sa sent)
    (m1 : va = none → n = 0 ∧ vc = 0) (m3 : ea = none → en = 0 ∧ ec1 = 0) (hn : n ≤ 1048576) (hen : en ≤ 1048576) (hsn : sn ≤ 1048576) :
    Calls Try.prog 17 #[.slice va n vc, .slice vb n vd, .int .i64 v, .slice ea en ec1, .slice eb en ed, .bool ans, .slice sa sn sc, .int .i64 c] w fun e w' =>
      Split4 (after ans v c (vn.zip vg) sent (en1.zip eg)) w e w' := by
  have hE1 := entries_any va vb n vc vd vn vg w h1 h2 hn k1 k2 m1
  have hnl := fun W a n c => Lib.run_eql_slice_nil (P := Try.prog) W 41 51 a n c 0 0 Try.underlying41
  have HK : Hid (en1.length = en ∧ eg.length = en ∧ sent.length = sn ∧ HasI w ea en1 ∧ HasI w eb eg ∧ HasI w sa sent ∧ (ea = none → en = 0 ∧ ec1 = 0) ∧ (vn.zip vg).length = n ∧ (en1.zip eg).length = en) := ⟨h3, h4, h5, k3, k4, k5, m3, by simp [h1, h2], by simp [h3, h4]⟩
  clear h1 h2 h3 h4 h5 k1 k2 k3 k4 k5 m1 m3
  obtain ⟨out, hout⟩ : ∃ out, out = after ans v c (vn.zip vg) sent (en1.zip eg) := ⟨_, rfl⟩
  rw [← hout]
  have HOUT : Hid (out = after ans v c (vn.zip vg) sent (en1.zip eg)) := hout
  clear hout
  go_enter Try.func17, Try.ntmps17
  go_wp2_with fail
  refine hE1.mono ?_
  rintro e w1 ⟨a1, rfl, hd1, hb1⟩
  clear hE1
  go_wp2_with fail
  refine (entries_any ea eb en ec1 ed en1 eg w1 HK.out.1 HK.out.2.1 hen (HK.out.2.2.2.1.below hb1) (HK.out.2.2.2.2.1.below hb1) HK.out.2.2.2.2.2.2.1).mono ?_
  rintro e w2 ⟨a2, rfl, hd2, hb2⟩
  have hb02 := below_next hb1 hb2
  have hsz1 := hb1.size
  have hsz2 := hb2.size
  go_wp2_with fail
  have hgn := heap_alloc_new w2 (.cells #[.slice a1 n n, .int .i64 0, .int .i64 0, .slice sa sn sc, .slice none 0 0, .slice a2 en en, .bool ans] 45)
  have hbn := below_alloc w2 (.cells #[.slice a1 n n, .int .i64 0, .int .i64 0, .slice sa sn sc, .slice none 0 0, .slice a2 en en, .bool ans] 45)
  have hgs : (w2.alloc (.cells #[.slice a1 n n, .int .i64 0, .int .i64 0, .slice sa sn sc, .slice none 0 0, .slice a2 en en, .bool ans] 45)).heap.size = w2.heap.size + 1 := by simp
  generalize (w2.alloc (.cells #[.slice a1 n n, .int .i64 0, .int .i64 0, .slice sa sn sc, .slice none 0 0, .slice a2 en en, .bool ans] 45)) = W2 at hgn hbn hgs ⊢
  have hb0W := below_next hb02 hbn
  have hM := answer_any ans w W2 w2.heap.size a1 n n (vn.zip vg) _ _ _ v c a2 en en (en1.zip eg) sa sn sc sent hb0W hgn
    (ents_own HK.out.2.2.2.2.2.2.2.1 hd1 hb1 (below_next hb2 hbn) hn) HK.out.2.2.2.2.2.2.2.2 (ents_has2 HK.out.2.2.2.2.2.2.2.2 hd2 hbn) HK.out.2.2.1 HK.out.2.2.2.2.2.1 (by omega)
    (by
      intro x hx
      rcases hd1 with ⟨e, _⟩ | ⟨e, hh⟩
      · rw [e] at hx; cases hx
      · rw [e] at hx; cases hx
        have h0 := (Array.getElem?_eq_some_iff.1 hh).1
        refine ⟨by simp; omega, fun y hy => ?_⟩
        rcases hd2 with ⟨e, _⟩ | ⟨e, _⟩
        · rw [e] at hy; cases hy
        · rw [e] at hy; cases hy
          simp; omega)
    (by
      intro y hy
      rcases hd2 with ⟨e, _⟩ | ⟨e, hh⟩
      · rw [e] at hy; cases hy
      · rw [e] at hy; cases hy
        have h0 := (Array.getElem?_eq_some_iff.1 hh).1
        exact ⟨by simp; omega, by simp; omega⟩) hn hen hsn
  rw [← HOUT.out] at hM
  refine hM.mono ?_
  rintro e w3 ⟨va3, n3, cap3, rfl, hnode3, hown3, hb3, hn3⟩
  clear hd1 hd2 hgn hbn hgs hb0W hb2 hb1 hb02 hM hsz1 hsz2
  generalize w2.heap.size = gn at hnode3 ⊢
  have hS := split_any va3 n3 cap3 _ w3 hown3.has.1 (by omega) hown3.has.2
  have hc3 : w3.cell? ⟨gn, 0, none⟩ = some (.slice va3 n3 cap3) := by rw [cell_of_row _ _ 0 _ _ _ hnode3]; rfl
  have hlt : gn < w3.heap.size := (Array.getElem?_eq_some_iff.1 hnode3).1
  have HN3 : Hid (w3.heap[gn]? = some _) := hnode3
  clear hown3 hnode3
  go_wp2_with fail
  refine hS.mono ?_
  rintro e w4 ⟨g, h, rfl, i1, i2, hb4⟩
  have hnode4 : w4.heap[gn]? = some _ := (hb4.block gn hlt).trans HN3.out
  have hc5 : w4.cell? ⟨gn, 5, none⟩ = some (.slice none 0 0) := by rw [cell_of_row _ _ 5 _ _ _ hnode4]; rfl
  have hc6 : w4.cell? ⟨gn, 6, none⟩ = some (.bool false) := by rw [cell_of_row _ _ 6 _ _ _ hnode4]; rfl
  have HI : Hid (HasI w4 (some ⟨g, 0, none⟩) (nodesOf out) ∧ HasI w4 (some ⟨h, 0, none⟩) (agesOf out) ∧ Below w.heap.size w w4) := ⟨i1, i2, below_next hb3 hb4⟩
  clear hnode4 HN3 hS hc3 i1 i2 hb3 hb4
  go_upto_region 4 with fail
  go_quiet (fail)
  go_wp2
  refine bodyPost_ret (v := .tuple #[.slice (some ⟨g, 0, none⟩) out.length out.length, .slice (some ⟨h, 0, none⟩) out.length out.length, .bool true, .bool false]) (by simp [results, Try.results17, go_sem]) rfl ?_
  exact ⟨g, h, rfl, HI.out.1, HI.out.2.1, HI.out.2.2.trans (bel_draw _ _ _)⟩

set_option maxRecDepth 20000 in
set_option maxHeartbeats 1000000 in
/-- Two views that hold the same answer true. -/
theorem same_any (a b d f : Option Addr) (n m c1 c2 c3 c4 : Nat) (l s : List Int) (w : World) (hl : l.length = n) (hs : s.length = m) (hn : n ≤ 1048576) (hm : m ≤ 1048576)
    (ka : HasI w a l) (kb : HasI w b s) (kd : HasI w d l) (kf : HasI w f s) :
    Calls Try.prog 15 #[.slice a n c1, .slice b m c2, .slice d n c3, .slice f m c4] w fun e w' => e = .returned (.bool true) ∧ ∃ q, w' = w.drewN q := by
  have HK : Hid (l.length = n ∧ s.length = m ∧ HasI w a l ∧ HasI w b s ∧ HasI w d l ∧ HasI w f s) := ⟨hl, hs, ka, kb, kd, kf⟩
  clear hl hs ka kb kd kf
  go_enter Try.func15, Try.ntmps15
  go_wp2_with fail
  go_loopw [9] (fun iv wr => ∃ i q : Nat, iv = .int .i64 i ∧ i ≤ n ∧ wr = w.drewN q) (fun iv _ => n - (intOf iv).toNat)
  case atStart => exact ⟨0, 0, rfl, Nat.zero_le _, rfl⟩
  case round =>
    obtain ⟨i, q, rfl, hi, rfl⟩ := hrel
    by_cases hlt : i < n
    · obtain ⟨g0, o0, e, hc0⟩ := HK.out.2.2.1 (by have := HK.out.1; omega)
      cases e
      obtain ⟨g1, o1, e, hc1⟩ := HK.out.2.2.2.2.1 (by have := HK.out.1; omega)
      cases e
      have hd0 := hc0 i (by have := HK.out.1; omega)
      have hd1 := hc1 i (by have := HK.out.1; omega)
      clear hc0 hc1
      generalize l.getD i 0 = x at hd0 hd1
      go_upto_region 6 with fail
      go_quiet (fail)
      go_wp2
      first | exact ⟨⟨i + 1, q + _, by go_num, by omega, rfl⟩, by simp [intOf]; omega⟩ | exact ⟨⟨i + 1, by omega, by omega, _, rfl⟩, by simp [intOf]; omega⟩
    · obtain rfl : n = i := by omega
      go_wp2_with fail
      go_loopw [10] (fun iv wr => ∃ i q : Nat, iv = .int .i64 i ∧ i ≤ m ∧ wr = w.drewN q) (fun iv _ => m - (intOf iv).toNat)
      case atStart => exact ⟨0, q, rfl, Nat.zero_le _, rfl⟩
      case round =>
        obtain ⟨i, q, rfl, hi2, rfl⟩ := hrel
        by_cases hlm : i < m
        · obtain ⟨g0, o0, e, hc0⟩ := HK.out.2.2.2.1 (by have := HK.out.2.1; omega)
          cases e
          obtain ⟨g1, o1, e, hc1⟩ := HK.out.2.2.2.2.2 (by have := HK.out.2.1; omega)
          cases e
          have hd0 := hc0 i (by have := HK.out.2.1; omega)
          have hd1 := hc1 i (by have := HK.out.2.1; omega)
          clear hc0 hc1
          generalize s.getD i 0 = x at hd0 hd1
          go_upto_region 11 with fail
          go_quiet (fail)
          go_wp2
          first | exact ⟨⟨i + 1, q + _, by go_num, by omega, rfl⟩, by simp [intOf]; omega⟩ | exact ⟨⟨i + 1, by omega, by omega, _, rfl⟩, by simp [intOf]; omega⟩
        · obtain rfl : m = i := by omega
          go_wp2
          go_ret
          exact ⟨rfl, q, rfl⟩

set_option maxRecDepth 20000 in
set_option maxHeartbeats 1000000 in
theorem bytes16_any (a0 a1 a3 a4 a5 : Option Addr) (n0 c0 n1 c1 n3 c3 n4 c4 n5 c5 : Nat) (v c : Int) (ans : Bool) (w : World) (h0 : n0 ≤ maxLen) (h1 : n1 ≤ maxLen) (h3 : n3 ≤ maxLen) (h4 : n4 ≤ maxLen) (h5 : n5 ≤ maxLen) :
    Calls Try.prog 16 #[.slice a0 n0 c0, .slice a1 n1 c1, .int .i64 v, .slice a3 n3 c3, .slice a4 n4 c4, .bool ans, .slice a5 n5 c5, .int .i64 c] w fun e w' => SomeB w e w' := by
  unfold maxLen at h0 h1 h3 h4 h5
  have hh : (¬ n0 ≤ 1048576) ∨ (n0 ≤ 1048576 ∧ ¬ n1 ≤ 1048576) ∨ (n0 ≤ 1048576 ∧ n1 ≤ 1048576 ∧ ¬ n0 + n1 ≤ 1048576)
      ∨ (n0 + n1 ≤ 1048576 ∧ ¬ n3 ≤ 1048576) ∨ (n0 + n1 ≤ 1048576 ∧ n3 ≤ 1048576 ∧ ¬ n0 + n1 + n3 ≤ 1048576)
      ∨ (n0 + n1 + n3 ≤ 1048576 ∧ ¬ n4 ≤ 1048576) ∨ (n0 + n1 + n3 ≤ 1048576 ∧ n4 ≤ 1048576 ∧ ¬ n0 + n1 + n3 + n4 ≤ 1048576)
      ∨ (n0 + n1 + n3 + n4 ≤ 1048576 ∧ ¬ n5 ≤ 1048576) ∨ (n0 + n1 + n3 + n4 ≤ 1048576 ∧ n5 ≤ 1048576 ∧ ¬ n0 + n1 + n3 + n4 + n5 ≤ 1048576) ∨ (n0 + n1 + n3 + n4 + n5 ≤ 1048576) := by omega
  rcases hh with hh | ⟨hh, hi⟩ | ⟨hh, hi, hj⟩ | ⟨hh, hi⟩ | ⟨hh, hi, hj⟩ | ⟨hh, hi⟩ | ⟨hh, hi, hj⟩ | ⟨hh, hi⟩ | ⟨hh, hi, hj⟩ | hh
  all_goals
    go_enter Try.func16, Try.ntmps16
    go_wp2
    go_ret
    exact ⟨_, rfl, rfl⟩

theorem zip_back (vs : List (Int × Int)) : (nodesOf vs).zip (agesOf vs) = vs := by
  unfold nodesOf agesOf
  induction vs with
  | nil => rfl
  | cons e r ih => simp only [List.map_cons, List.zip_cons_cons, ih]

theorem ages_len (l : List (Int × Int)) : (agesOf l).length = l.length := by simp [agesOf]

theorem after_length (ans : Bool) (v c : Int) (vs es : List (Int × Int)) (sent : List Int) : (after ans v c vs sent es).length ≤ vs.length + es.length := by
  cases ans with
  | true => exact step_length v c es vs _
  | false => show vs.length ≤ _; omega
end Go.Proofs.Qxb6003681a
