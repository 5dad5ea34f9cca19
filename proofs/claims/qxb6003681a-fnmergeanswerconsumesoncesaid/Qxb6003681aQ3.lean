import Derived.Test.Qxb6003681aQ2
namespace Go.Proofs.Qxb6003681a
open Go.RowKit
set_option linter.unusedVariables false

set_option maxRecDepth 20000 in
set_option maxHeartbeats 4000000 in
theorem law5_main (a0 a1 a3 a4 a5 : Option Addr) (n c0 c1 m c3 c4 n5 c5 : Nat) (l0 l1 l3 l4 l5 : List Int) (v c : Int) (ans : Bool) (w : World)
    (e0 : l0.length = n) (e1 : l1.length = n) (e3 : l3.length = m) (e4 : l4.length = m) (e5 : l5.length = n5)
    (q0 : n ≤ 65536) (q3 : m ≤ 65536) (q5 : n5 ≤ 65536) (qs : n + n + m + m + n5 ≤ 131072)
    (k0 : HasI w a0 l0) (k1 : HasI w a1 l1) (k3 : HasI w a3 l3) (k4 : HasI w a4 l4) (k5 : HasI w a5 l5)
    (p0 : a0 = none → n = 0 ∧ c0 = 0) (p1 : a1 = none → n = 0 ∧ c1 = 0) (p3 : a3 = none → m = 0 ∧ c3 = 0) (p4 : a4 = none → m = 0 ∧ c4 = 0) (p5 : a5 = none → n5 = 0 ∧ c5 = 0) :
    Calls Try.prog 5 #[.slice a0 n c0, .slice a1 n c1, .int .i64 v, .slice a3 m c3, .slice a4 m c4, .bool ans, .slice a5 n5 c5, .int .i64 c] w fun e w' => e = .returned (.bool true) ∧ Below w.heap.size w w' := by
  have hB := bytes16_any a0 a1 a3 a4 a5 n c0 n c1 m c3 m c4 n5 c5 v c ans w (by unfold maxLen; omega) (by unfold maxLen; omega) (by unfold maxLen; omega) (by unfold maxLen; omega) (by unfold maxLen; omega)
  have hW := wf_any a0 n c0 l0 v c w e0 (by omega) k0
  have hD := fun W (h : HasI W a5 l5) => distinct_any a5 n5 c5 l5 W e5 (by omega) h
  have HP : Hid ((a0 = none → n = 0 ∧ c0 = 0) ∧ (a1 = none → n = 0 ∧ c1 = 0) ∧ (a3 = none → m = 0 ∧ c3 = 0) ∧ (a4 = none → m = 0 ∧ c4 = 0) ∧ (a5 = none → n5 = 0 ∧ c5 = 0)) := ⟨p0, p1, p3, p4, p5⟩
  have HK : Hid (HasI w a0 l0 ∧ HasI w a1 l1 ∧ HasI w a3 l3 ∧ HasI w a4 l4 ∧ HasI w a5 l5) := ⟨k0, k1, k3, k4, k5⟩
  have HE : Hid (l0.length = n ∧ l1.length = n ∧ l3.length = m ∧ l4.length = m ∧ l5.length = n5) := ⟨e0, e1, e3, e4, e5⟩
  clear e0 e1 e3 e4 e5 k0 k1 k3 k4 k5 p0 p1 p3 p4 p5
  go_enter Try.func5, Try.ntmps5
  go_wp2_with fail
  refine hB.mono ?_
  rintro e w1 ⟨b, rfl, hw⟩
  obtain rfl := hw.symm
  clear hB hw
  cases b with
  | false =>
    go_wp2
    go_ret
    exact ⟨rfl, Below.refl _ _⟩
  | true =>
    by_cases hwf : WF l0 v c
    case neg =>
      rw [decide_eq_false hwf] at hW
      clear hwf
      go_wp2_with fail
      refine hW.mono ?_
      rintro e w1 ⟨rfl, qa, hw1⟩
      subst hw1
      go_wp2
      go_ret
      exact ⟨rfl, bel_draw _ _ _⟩
    rw [decide_eq_true hwf] at hW
    have HWF : Hid (WF l0 v c) := hwf
    clear hwf
    go_wp2_with fail
    refine hW.mono ?_
    rintro e w1 ⟨rfl, qa, hw1⟩
    subst hw1
    clear hW
    by_cases hnd : l5.Nodup
    case neg =>
      rw [decide_eq_false hnd] at hD
      clear hnd
      go_wp2_with fail
      refine (hD (w.drewN qa) HK.out.2.2.2.2).mono ?_
      rintro e w2 ⟨rfl, qb, hw2⟩
      rw [World.drewN_drewN] at hw2
      subst hw2
      go_wp2
      go_ret
      exact ⟨rfl, bel_draw _ _ _⟩
    rw [decide_eq_true hnd] at hD
    clear hnd
    go_wp2_with fail
    refine (hD (w.drewN qa) HK.out.2.2.2.2).mono ?_
    rintro e w2 ⟨rfl, qb, hw2⟩
    rw [World.drewN_drewN] at hw2
    subst hw2
    clear hD
    generalize qa + qb = qq
    have hbel := bel_draw w.heap.size w qq
    generalize w.drewN qq = W0 at hbel ⊢
    go_wp2_with fail
    refine (clone10_any a0 n c0 l0 W0 HE.out.1 (by omega) (HK.out.1.below hbel) HP.out.1).mono ?_
    rintro e w1 ⟨b0, d0, rfl, k0, hb1, p0⟩
    have hbel1 := below_next hbel hb1
    clear hbel
    go_wp2_with fail
    refine (clone11_any a1 n c1 l1 w1 HE.out.2.1 (by omega) (HK.out.2.1.below hbel1) HP.out.2.1).mono ?_
    rintro e w2 ⟨b1, d1, rfl, k1, hb2, p1⟩
    have hbel2 := below_next hbel1 hb2
    have k02 := k0.below hb2
    clear k0 hbel1 hb1 hb2
    go_wp2_with fail
    refine (clone10_any a3 m c3 l3 w2 HE.out.2.2.1 (by omega) (HK.out.2.2.1.below hbel2) HP.out.2.2.1).mono ?_
    rintro e w3 ⟨b3, d3, rfl, k3, hb3, p3⟩
    have hbel3 := below_next hbel2 hb3
    have k03 := k02.below hb3
    have k13 := k1.below hb3
    clear k02 k1 hbel2 hb3
    go_wp2_with fail
    refine (clone11_any a4 m c4 l4 w3 HE.out.2.2.2.1 (by omega) (HK.out.2.2.2.1.below hbel3) HP.out.2.2.2.1).mono ?_
    rintro e w4 ⟨b4, d4, rfl, k4, hb4, p4⟩
    have hbel4 := below_next hbel3 hb4
    have k04 := k03.below hb4
    have k14 := k13.below hb4
    have k34 := k3.below hb4
    clear k03 k13 k3 hbel3 hb4
    go_wp2_with fail
    refine (clone10_any a5 n5 c5 l5 w4 HE.out.2.2.2.2 (by omega) (HK.out.2.2.2.2.below hbel4) HP.out.2.2.2.2).mono ?_
    rintro e w5 ⟨b5, d5, rfl, k5, hb5, p5⟩
    have hbel5 := below_next hbel4 hb5
    have k05 := k04.below hb5
    have k15 := k14.below hb5
    have k35 := k34.below hb5
    have k45 := k4.below hb5
    clear k04 k14 k34 k4 hbel4 hb5
    have HK5 : Hid (HasI w5 b0 l0 ∧ HasI w5 b1 l1 ∧ HasI w5 b3 l3 ∧ HasI w5 b4 l4 ∧ HasI w5 b5 l5) := ⟨k05, k15, k35, k45, k5⟩
    have hM := zzanswer_any ans b0 b1 b3 b4 b5 n d0 d1 m d3 d4 n5 d5 l0 l1 l3 l4 l5 v c w5 HE.out.1 HE.out.2.1 HE.out.2.2.1 HE.out.2.2.2.1 HE.out.2.2.2.2 k05 k15 k35 k45 k5 p0 p3 (by omega) (by omega) (by omega)
    have HP3 : Hid (b3 = none → m = 0 ∧ d3 = 0) := p3
    clear k05 k15 k35 k45 k5 p0 p1 p3 p4 p5
    have hx := merge_ok (l0.zip l1) (l3.zip l4) v c l5 (by rw [nodes_zip (by rw [HE.out.1, HE.out.2.1])]; exact HWF.out)
    have hlen := after_length ans v c (l0.zip l1) (l3.zip l4) l5
    obtain ⟨out, hout⟩ : ∃ out, out = after ans v c (l0.zip l1) l5 (l3.zip l4) := ⟨_, rfl⟩
    have HX : Hid (ans = true → XOk (l0.zip l1) (l3.zip l4) out v c l5) := fun e => by rw [hout, e]; exact hx
    have HY : Hid (ans = false → out = l0.zip l1) := fun e => by rw [hout, e]; rfl
    rw [← hout] at hM hlen
    have hk : out.length ≤ 131072 := by
      simp only [List.length_zip, HE.out.1, HE.out.2.1, HE.out.2.2.1, HE.out.2.2.2.1] at hlen
      omega
    clear hlen hx hout
    go_wp2_with fail
    refine hM.mono ?_
    rintro e w6 ⟨g, h, rfl, i1, i2, hb6⟩
    clear hM
    have hbel6 := below_next hbel5 hb6
    have HK6 : Hid (HasI w6 b0 l0 ∧ HasI w6 b1 l1 ∧ HasI w6 b3 l3 ∧ HasI w6 b4 l4 ∧ HasI w6 b5 l5) := ⟨HK5.out.1.below hb6, HK5.out.2.1.below hb6, HK5.out.2.2.1.below hb6, HK5.out.2.2.2.1.below hb6, HK5.out.2.2.2.2.below hb6⟩
    have HI6 : Hid (HasI w6 (some ⟨g, 0, none⟩) (nodesOf out) ∧ HasI w6 (some ⟨h, 0, none⟩) (agesOf out)) := ⟨i1, i2⟩
    have hM2 : Hid (∀ q, Calls Try.prog 17 #[.slice (some ⟨g, 0, none⟩) out.length out.length, .slice (some ⟨h, 0, none⟩) out.length out.length, .int .i64 v, .slice b3 m d3, .slice b4 m d4, .bool false, .slice b5 n5 d5, .int .i64 c] (w6.drewN q) fun e w' => Split4 out (w6.drewN q) e w') := fun q => by
      have := zzanswer_any false (some ⟨g, 0, none⟩) (some ⟨h, 0, none⟩) b3 b4 b5 out.length out.length out.length m d3 d4 n5 d5 (nodesOf out) (agesOf out) l3 l4 l5 v c (w6.drewN q) (nodes_len _) (ages_len _) HE.out.2.2.1 HE.out.2.2.2.1 HE.out.2.2.2.2 i1 i2 HK6.out.2.2.1 HK6.out.2.2.2.1 HK6.out.2.2.2.2 (fun h => by cases h) HP3.out (by omega) (by omega) (by omega)
      rw [show after false v c ((nodesOf out).zip (agesOf out)) l5 (l3.zip l4) = out from zip_back out] at this
      exact this
    clear hb6 hbel5 i1 i2 HK5
    cases ans with
    | false =>
      obtain rfl : out = l0.zip l1 := HY.out rfl
      have hn2 : (l0.zip l1).length = n := by rw [List.length_zip, HE.out.1, HE.out.2.1]; omega
      have hS := same_any (some ⟨g, 0, none⟩) (some ⟨h, 0, none⟩) b0 b1 n n n n d0 d1 l0 l1 w6 HE.out.1 HE.out.2.1 (by omega) (by omega)
        (by have := HI6.out.1; rwa [nodes_zip (by rw [HE.out.1, HE.out.2.1])] at this) (by have := HI6.out.2; rwa [ages_zip (by rw [HE.out.1, HE.out.2.1])] at this) HK6.out.1 HK6.out.2.1
      rw [hn2] at hM2 ⊢
      go_wp2_with fail
      refine hS.mono ?_
      rintro e w7 ⟨rfl, q, hw7⟩
      subst hw7
      clear hS
      go_wp2_with fail
      refine (hM2.out q).mono ?_
      rintro e w8 ⟨g2, h2, rfl, j1, j2, hb8⟩
      rw [hn2]
      have hS2 := same_any (some ⟨g, 0, none⟩) (some ⟨h, 0, none⟩) (some ⟨g2, 0, none⟩) (some ⟨h2, 0, none⟩) n n n n n n (nodesOf (l0.zip l1)) (agesOf (l0.zip l1)) w8 (by rw [nodes_len]; exact hn2) (by rw [ages_len]; exact hn2) (by omega) (by omega)
        ((HI6.out.1.drewN q).below hb8) ((HI6.out.2.drewN q).below hb8) j1 j2
      have hbel8 : Below w.heap.size w w8 := below_next (hbel6.trans (bel_draw _ _ q)) hb8
      clear hb8 hM2 j1 j2
      go_wp2_with fail
      refine hS2.mono ?_
      rintro e w9 ⟨rfl, q9, hw9⟩
      subst hw9
      clear hS2
      go_wp2
      go_ret
      exact ⟨rfl, hbel8.trans (bel_draw _ _ _)⟩
    | true =>
      have hX := exch_any b0 b1 b3 b4 b5 (some ⟨g, 0, none⟩) (some ⟨h, 0, none⟩) n d0 d1 m d3 d4 n5 d5 out.length out.length out.length l0 l1 l3 l4 l5 out v c w6 ⟨HE.out.1, HK6.out.1⟩ ⟨HE.out.2.1, HK6.out.2.1⟩
        ⟨HE.out.2.2.1, HK6.out.2.2.1⟩ ⟨HE.out.2.2.2.1, HK6.out.2.2.2.1⟩ ⟨HE.out.2.2.2.2, HK6.out.2.2.2.2⟩ ⟨rfl, HI6.out.1⟩ HI6.out.2 (by omega) (by omega) (by omega) (by omega) (HX.out rfl)
      go_wp2_with fail
      refine hX.mono ?_
      rintro e w7 ⟨rfl, q, hw7⟩
      subst hw7
      clear hX
      go_wp2_with fail
      refine (hM2.out q).mono ?_
      rintro e w8 ⟨g2, h2, rfl, j1, j2, hb8⟩
      have hS2 := same_any (some ⟨g, 0, none⟩) (some ⟨h, 0, none⟩) (some ⟨g2, 0, none⟩) (some ⟨h2, 0, none⟩) out.length out.length out.length out.length out.length out.length (nodesOf out) (agesOf out) w8 (nodes_len _) (ages_len _) (by omega) (by omega)
        ((HI6.out.1.drewN q).below hb8) ((HI6.out.2.drewN q).below hb8) j1 j2
      have hbel8 : Below w.heap.size w w8 := below_next (hbel6.trans (bel_draw _ _ q)) hb8
      clear hb8 hM2 j1 j2
      go_wp2_with fail
      refine hS2.mono ?_
      rintro e w9 ⟨rfl, q9, hw9⟩
      subst hw9
      clear hS2
      go_wp2
      go_ret
      exact ⟨rfl, hbel8.trans (bel_draw _ _ _)⟩

set_option maxRecDepth 20000 in
set_option maxHeartbeats 4000000 in
theorem law5_any (a0 a1 a3 a4 a5 : Option Addr) (n0 c0 n1 c1 n3 c3 n4 c4 n5 c5 : Nat) (l0 l1 l3 l4 l5 : List Int) (v c : Int) (ans : Bool) (w : World)
    (e0 : l0.length = n0) (e1 : l1.length = n1) (e3 : l3.length = n3) (e4 : l4.length = n4) (e5 : l5.length = n5)
    (m0 : n0 ≤ maxLen) (m1 : n1 ≤ maxLen) (m3 : n3 ≤ maxLen) (m4 : n4 ≤ maxLen) (m5 : n5 ≤ maxLen)
    (k0 : HasI w a0 l0) (k1 : HasI w a1 l1) (k3 : HasI w a3 l3) (k4 : HasI w a4 l4) (k5 : HasI w a5 l5)
    (p0 : a0 = none → n0 = 0 ∧ c0 = 0) (p1 : a1 = none → n1 = 0 ∧ c1 = 0) (p3 : a3 = none → n3 = 0 ∧ c3 = 0) (p4 : a4 = none → n4 = 0 ∧ c4 = 0) (p5 : a5 = none → n5 = 0 ∧ c5 = 0) :
    Calls Try.prog 5 #[.slice a0 n0 c0, .slice a1 n1 c1, .int .i64 v, .slice a3 n3 c3, .slice a4 n4 c4, .bool ans, .slice a5 n5 c5, .int .i64 c] w fun e w' => e = .returned (.bool true) ∧ Below w.heap.size w w' := by
  by_cases hg : n0 ≤ 65536 ∧ n1 ≤ 65536 ∧ n3 ≤ 65536 ∧ n4 ≤ 65536 ∧ n5 ≤ 65536 ∧ n0 + n1 + n3 + n4 + n5 ≤ 131072 ∧ n0 = n1 ∧ n3 = n4
  case pos =>
    obtain ⟨q0, q1, q3, q4, q5, qs, qe, qf⟩ := hg
    subst qe qf
    exact law5_main a0 a1 a3 a4 a5 n0 c0 c1 n3 c3 c4 n5 c5 l0 l1 l3 l4 l5 v c ans w e0 e1 e3 e4 e5 q0 q3 q5 qs k0 k1 k3 k4 k5 p0 p1 p3 p4 p5
  have hB := bytes16_any a0 a1 a3 a4 a5 n0 c0 n1 c1 n3 c3 n4 c4 n5 c5 v c ans w m0 m1 m3 m4 m5
  unfold maxLen at m0 m1 m3 m4 m5
  have HG : Hid (¬ (n0 ≤ 65536 ∧ n1 ≤ 65536 ∧ n3 ≤ 65536 ∧ n4 ≤ 65536 ∧ n5 ≤ 65536 ∧ n0 + n1 + n3 + n4 + n5 ≤ 131072 ∧ n0 = n1 ∧ n3 = n4)) := hg
  clear hg e0 e1 e3 e4 e5 k0 k1 k3 k4 k5 p0 p1 p3 p4 p5
  go_enter Try.func5, Try.ntmps5
  go_wp2_with fail
  refine hB.mono ?_
  rintro e w1 ⟨b, rfl, hw⟩
  obtain rfl := hw.symm
  clear hB hw
  cases b with
  | false =>
    go_wp2
    go_ret
    exact ⟨rfl, Below.refl _ _⟩
  | true =>
    by_cases q0 : n0 ≤ 65536
    case neg =>
      go_wp2
      go_ret
      exact ⟨rfl, Below.refl _ _⟩
    by_cases q1 : n1 ≤ 65536
    case neg =>
      go_wp2
      go_ret
      exact ⟨rfl, Below.refl _ _⟩
    by_cases q3 : n3 ≤ 65536
    case neg =>
      go_wp2
      go_ret
      exact ⟨rfl, Below.refl _ _⟩
    by_cases q4 : n4 ≤ 65536
    case neg =>
      go_wp2
      go_ret
      exact ⟨rfl, Below.refl _ _⟩
    by_cases q5 : n5 ≤ 65536
    case neg =>
      go_wp2
      go_ret
      exact ⟨rfl, Below.refl _ _⟩
    by_cases qs : n0 + n1 + n3 + n4 + n5 ≤ 131072
    case neg =>
      go_wp2
      go_ret
      exact ⟨rfl, Below.refl _ _⟩
    by_cases qe : n0 = n1
    case neg =>
      go_wp2
      go_ret
      exact ⟨rfl, Below.refl _ _⟩
    by_cases qf : n3 = n4
    case neg =>
      go_wp2
      go_ret
      exact ⟨rfl, Below.refl _ _⟩
    exact absurd ⟨q0, q1, q3, q4, q5, qs, qe, qf⟩ HG.out
end Go.Proofs.Qxb6003681a
