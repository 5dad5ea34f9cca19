import Derived.Test.Qxb6003681aN3
namespace Go.Proofs.Qxb6003681a
open Go.RowKit
set_option linter.unusedVariables false

theorem bel_draw (B : Nat) (w : World) (n : Nat) : Below B w (w.drewN n) := ⟨rfl, rfl, rfl, Nat.le_refl _, fun _ _ => rfl⟩

set_option maxRecDepth 20000 in
set_option maxHeartbeats 4000000 in
theorem law3_main (a0 a1 a3 a4 a5 : Option Addr) (n c0 c1 m c3 c4 n5 c5 : Nat) (l0 l1 l3 l4 l5 : List Int) (v c : Int) (w : World)
    (e0 : l0.length = n) (e1 : l1.length = n) (e3 : l3.length = m) (e4 : l4.length = m) (e5 : l5.length = n5)
    (q0 : n ≤ 65536) (q3 : m ≤ 65536) (q5 : n5 ≤ 65536) (qs : n + n + m + m + n5 ≤ 131072)
    (k0 : HasI w a0 l0) (k1 : HasI w a1 l1) (k3 : HasI w a3 l3) (k4 : HasI w a4 l4) (k5 : HasI w a5 l5)
    (p0 : a0 = none → n = 0 ∧ c0 = 0) (p1 : a1 = none → n = 0 ∧ c1 = 0) (p3 : a3 = none → m = 0 ∧ c3 = 0) (p4 : a4 = none → m = 0 ∧ c4 = 0) (p5 : a5 = none → n5 = 0 ∧ c5 = 0) :
    Calls Try.prog 3 #[.slice a0 n c0, .slice a1 n c1, .int .i64 v, .slice a3 m c3, .slice a4 m c4, .slice a5 n5 c5, .int .i64 c] w fun e w' => e = .returned (.bool true) ∧ Below w.heap.size w w' := by
  have hB := bytes7_any a0 a1 a3 a4 a5 n c0 n c1 m c3 m c4 n5 c5 v c w (by unfold maxLen; omega) (by unfold maxLen; omega) (by unfold maxLen; omega) (by unfold maxLen; omega) (by unfold maxLen; omega)
  have hW := wf_any a0 n c0 l0 v c w e0 (by omega) k0
  have hD := fun W (h : HasI W a5 l5) => distinct_any a5 n5 c5 l5 W e5 (by omega) h
  have HP : Hid ((a0 = none → n = 0 ∧ c0 = 0) ∧ (a1 = none → n = 0 ∧ c1 = 0) ∧ (a3 = none → m = 0 ∧ c3 = 0) ∧ (a4 = none → m = 0 ∧ c4 = 0) ∧ (a5 = none → n5 = 0 ∧ c5 = 0)) := ⟨p0, p1, p3, p4, p5⟩
  have HK : Hid (HasI w a0 l0 ∧ HasI w a1 l1 ∧ HasI w a3 l3 ∧ HasI w a4 l4 ∧ HasI w a5 l5) := ⟨k0, k1, k3, k4, k5⟩
  have HE : Hid (l0.length = n ∧ l1.length = n ∧ l3.length = m ∧ l4.length = m ∧ l5.length = n5) := ⟨e0, e1, e3, e4, e5⟩
  clear e0 e1 e3 e4 e5 k0 k1 k3 k4 k5 p0 p1 p3 p4 p5
  go_enter Try.func3, Try.ntmps3
  go_wp2_with fail
  refine hB.mono ?_
  rintro e w1 ⟨b, rfl, hw⟩
  obtain rfl := hw.symm
  clear hB hw
  cases b with
  | false =>
    go_wp2
    go_ret
    exact ⟨rfl, Below.refl _ _⟩
  | true =>
    by_cases hwf : WF l0 v c
    case neg =>
      rw [decide_eq_false hwf] at hW
      clear hwf
      go_wp2_with fail
      refine hW.mono ?_
      rintro e w1 ⟨rfl, qa, hw1⟩
      subst hw1
      go_wp2
      go_ret
      exact ⟨rfl, bel_draw _ _ _⟩
    rw [decide_eq_true hwf] at hW
    have HWF : Hid (WF l0 v c) := hwf
    clear hwf
    go_wp2_with fail
    refine hW.mono ?_
    rintro e w1 ⟨rfl, qa, hw1⟩
    subst hw1
    clear hW
    by_cases hnd : l5.Nodup
    case neg =>
      rw [decide_eq_false hnd] at hD
      clear hnd
      go_wp2_with fail
      refine (hD (w.drewN qa) HK.out.2.2.2.2).mono ?_
      rintro e w2 ⟨rfl, qb, hw2⟩
      rw [World.drewN_drewN] at hw2
      subst hw2
      go_wp2
      go_ret
      exact ⟨rfl, bel_draw _ _ _⟩
    rw [decide_eq_true hnd] at hD
    clear hnd
    go_wp2_with fail
    refine (hD (w.drewN qa) HK.out.2.2.2.2).mono ?_
    rintro e w2 ⟨rfl, qb, hw2⟩
    rw [World.drewN_drewN] at hw2
    subst hw2
    clear hD
    generalize qa + qb = qq
    have hbel := bel_draw w.heap.size w qq
    generalize w.drewN qq = W0 at hbel ⊢
    go_wp2_with fail
    refine (clone10_any a0 n c0 l0 W0 HE.out.1 (by omega) (HK.out.1.below hbel) HP.out.1).mono ?_
    rintro e w1 ⟨b0, d0, rfl, k0, hb1, p0⟩
    have hbel1 := below_next hbel hb1
    clear hbel
    go_wp2_with fail
    refine (clone11_any a1 n c1 l1 w1 HE.out.2.1 (by omega) (HK.out.2.1.below hbel1) HP.out.2.1).mono ?_
    rintro e w2 ⟨b1, d1, rfl, k1, hb2, p1⟩
    have hbel2 := below_next hbel1 hb2
    have k02 := k0.below hb2
    clear k0 hbel1 hb1 hb2
    go_wp2_with fail
    refine (clone10_any a3 m c3 l3 w2 HE.out.2.2.1 (by omega) (HK.out.2.2.1.below hbel2) HP.out.2.2.1).mono ?_
    rintro e w3 ⟨b3, d3, rfl, k3, hb3, p3⟩
    have hbel3 := below_next hbel2 hb3
    have k03 := k02.below hb3
    have k13 := k1.below hb3
    clear k02 k1 hbel2 hb3
    go_wp2_with fail
    refine (clone11_any a4 m c4 l4 w3 HE.out.2.2.2.1 (by omega) (HK.out.2.2.2.1.below hbel3) HP.out.2.2.2.1).mono ?_
    rintro e w4 ⟨b4, d4, rfl, k4, hb4, p4⟩
    have hbel4 := below_next hbel3 hb4
    have k04 := k03.below hb4
    have k14 := k13.below hb4
    have k34 := k3.below hb4
    clear k03 k13 k3 hbel3 hb4
    go_wp2_with fail
    refine (clone10_any a5 n5 c5 l5 w4 HE.out.2.2.2.2 (by omega) (HK.out.2.2.2.2.below hbel4) HP.out.2.2.2.2).mono ?_
    rintro e w5 ⟨b5, d5, rfl, k5, hb5, p5⟩
    have hbel5 := below_next hbel4 hb5
    have k05 := k04.below hb5
    have k15 := k14.below hb5
    have k35 := k34.below hb5
    have k45 := k4.below hb5
    clear k04 k14 k34 k4 hbel4 hb5
    have HK5 : Hid (HasI w5 b0 l0 ∧ HasI w5 b1 l1 ∧ HasI w5 b3 l3 ∧ HasI w5 b4 l4 ∧ HasI w5 b5 l5) := ⟨k05, k15, k35, k45, k5⟩
    have hM := zzmerge_any b0 b1 b3 b4 b5 n d0 d1 m d3 d4 n5 d5 l0 l1 l3 l4 l5 v c w5 HE.out.1 HE.out.2.1 HE.out.2.2.1 HE.out.2.2.2.1 HE.out.2.2.2.2 k05 k15 k35 k45 k5 p0 p3 (by omega) (by omega) (by omega)
    clear k05 k15 k35 k45 k5 p0 p1 p3 p4 p5
    have hx := merge_ok (l0.zip l1) (l3.zip l4) v c l5 (by rw [nodes_zip (by rw [HE.out.1, HE.out.2.1])]; exact HWF.out)
    have hlen := step_length v c (l3.zip l4) (l0.zip l1) (reps (l0.zip l1) l5)
    generalize step v c (l0.zip l1) (reps (l0.zip l1) l5) (l3.zip l4) = out at hM hx hlen
    have hk : out.length ≤ 1048576 := by
      simp only [List.length_zip, HE.out.1, HE.out.2.1, HE.out.2.2.1, HE.out.2.2.2.1] at hlen
      omega
    clear hlen
    have HX : Hid _ := hx
    clear hx
    go_wp2_with fail
    refine hM.mono ?_
    rintro e w6 ⟨g, h, rfl, i1, i2, hb6⟩
    clear hM
    have hX := exch_any b0 b1 b3 b4 b5 (some ⟨g, 0, none⟩) (some ⟨h, 0, none⟩) n d0 d1 m d3 d4 n5 d5 out.length out.length out.length l0 l1 l3 l4 l5 out v c w6 ⟨HE.out.1, HK5.out.1.below hb6⟩ ⟨HE.out.2.1, HK5.out.2.1.below hb6⟩
      ⟨HE.out.2.2.1, HK5.out.2.2.1.below hb6⟩ ⟨HE.out.2.2.2.1, HK5.out.2.2.2.1.below hb6⟩ ⟨HE.out.2.2.2.2, HK5.out.2.2.2.2.below hb6⟩ ⟨rfl, i1⟩ i2 (by omega) (by omega) (by omega) hk HX.out
    have hbel6 := below_next hbel5 hb6
    clear i1 i2 hb6 hbel5
    go_wp2_with fail
    refine hX.mono ?_
    rintro e w7 ⟨rfl, q, hw7⟩
    subst hw7
    go_wp2
    go_ret
    exact ⟨rfl, hbel6.trans (bel_draw _ _ _)⟩

set_option maxRecDepth 20000 in
set_option maxHeartbeats 4000000 in
theorem law3_any (a0 a1 a3 a4 a5 : Option Addr) (n0 c0 n1 c1 n3 c3 n4 c4 n5 c5 : Nat) (l0 l1 l3 l4 l5 : List Int) (v c : Int) (w : World)
    (e0 : l0.length = n0) (e1 : l1.length = n1) (e3 : l3.length = n3) (e4 : l4.length = n4) (e5 : l5.length = n5)
    (m0 : n0 ≤ maxLen) (m1 : n1 ≤ maxLen) (m3 : n3 ≤ maxLen) (m4 : n4 ≤ maxLen) (m5 : n5 ≤ maxLen)
    (k0 : HasI w a0 l0) (k1 : HasI w a1 l1) (k3 : HasI w a3 l3) (k4 : HasI w a4 l4) (k5 : HasI w a5 l5)
    (p0 : a0 = none → n0 = 0 ∧ c0 = 0) (p1 : a1 = none → n1 = 0 ∧ c1 = 0) (p3 : a3 = none → n3 = 0 ∧ c3 = 0) (p4 : a4 = none → n4 = 0 ∧ c4 = 0) (p5 : a5 = none → n5 = 0 ∧ c5 = 0) :
    Calls Try.prog 3 #[.slice a0 n0 c0, .slice a1 n1 c1, .int .i64 v, .slice a3 n3 c3, .slice a4 n4 c4, .slice a5 n5 c5, .int .i64 c] w fun e w' => e = .returned (.bool true) ∧ Below w.heap.size w w' := by
  by_cases hg : n0 ≤ 65536 ∧ n1 ≤ 65536 ∧ n3 ≤ 65536 ∧ n4 ≤ 65536 ∧ n5 ≤ 65536 ∧ n0 + n1 + n3 + n4 + n5 ≤ 131072 ∧ n0 = n1 ∧ n3 = n4
  case pos =>
    obtain ⟨q0, q1, q3, q4, q5, qs, qe, qf⟩ := hg
    subst qe qf
    exact law3_main a0 a1 a3 a4 a5 n0 c0 c1 n3 c3 c4 n5 c5 l0 l1 l3 l4 l5 v c w e0 e1 e3 e4 e5 q0 q3 q5 qs k0 k1 k3 k4 k5 p0 p1 p3 p4 p5
  have hB := bytes7_any a0 a1 a3 a4 a5 n0 c0 n1 c1 n3 c3 n4 c4 n5 c5 v c w m0 m1 m3 m4 m5
  unfold maxLen at m0 m1 m3 m4 m5
  have HG : Hid (¬ (n0 ≤ 65536 ∧ n1 ≤ 65536 ∧ n3 ≤ 65536 ∧ n4 ≤ 65536 ∧ n5 ≤ 65536 ∧ n0 + n1 + n3 + n4 + n5 ≤ 131072 ∧ n0 = n1 ∧ n3 = n4)) := hg
  clear hg e0 e1 e3 e4 e5 k0 k1 k3 k4 k5 p0 p1 p3 p4 p5
  go_enter Try.func3, Try.ntmps3
  go_wp2_with fail
  refine hB.mono ?_
  rintro e w1 ⟨b, rfl, hw⟩
  obtain rfl := hw.symm
  clear hB hw
  cases b with
  | false =>
    go_wp2
    go_ret
    exact ⟨rfl, Below.refl _ _⟩
  | true =>
    by_cases q0 : n0 ≤ 65536
    case neg =>
      go_wp2
      go_ret
      exact ⟨rfl, Below.refl _ _⟩
    by_cases q1 : n1 ≤ 65536
    case neg =>
      go_wp2
      go_ret
      exact ⟨rfl, Below.refl _ _⟩
    by_cases q3 : n3 ≤ 65536
    case neg =>
      go_wp2
      go_ret
      exact ⟨rfl, Below.refl _ _⟩
    by_cases q4 : n4 ≤ 65536
    case neg =>
      go_wp2
      go_ret
      exact ⟨rfl, Below.refl _ _⟩
    by_cases q5 : n5 ≤ 65536
    case neg =>
      go_wp2
      go_ret
      exact ⟨rfl, Below.refl _ _⟩
    by_cases qs : n0 + n1 + n3 + n4 + n5 ≤ 131072
    case neg =>
      go_wp2
      go_ret
      exact ⟨rfl, Below.refl _ _⟩
    by_cases qe : n0 = n1
    case neg =>
      go_wp2
      go_ret
      exact ⟨rfl, Below.refl _ _⟩
    by_cases qf : n3 = n4
    case neg =>
      go_wp2
      go_ret
      exact ⟨rfl, Below.refl _ _⟩
    exact absurd ⟨q0, q1, q3, q4, q5, qs, qe, qf⟩ HG.out
end Go.Proofs.Qxb6003681a
