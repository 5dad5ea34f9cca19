import Derived.Test.Qxb6003635aDoorC4
import Derived.Lib.SlBytesConst
import Derived.Lib.SmallJoins
namespace Go.Proofs.Qxb6003635aDoor
open Go.RowKit Go.Sort
set_option linter.unusedVariables false

theorem rowF (w : World) (t : TypeId) (fr : Nat × Nat) : RowB (w.alloc (.cells #[.int .u8 38, .int .u8 101, .int .u8 118, .int .u8 101, .int .u8 110, .int .u8 116, .int .u8 61, .int .u8 115, .int .u8 116, .int .u8 97, .int .u8 114, .int .u8 116, .int .u8 101, .int .u8 100] t fr)) w.heap.size 0 txtF := fun j hj => by
  rw [World.cell?_alloc_mark]
  have hj' : j < 14 := hj
  match j, hj' with
  | 0, _ | 1, _ | 2, _ | 3, _ | 4, _ | 5, _ | 6, _ | 7, _ | 8, _ | 9, _ | 10, _ | 11, _ | 12, _ | 13, _ => rfl

theorem wrap64_max (p : Int) (h : 1 ≤ p) (h2 : p ≤ 9223372036854775807) : wrap64 (9223372036854775807 - p) = 9223372036854775807 - p := by unfold wrap64; omega

theorem noAmp_at {ss : List ByteArray} {n r : Nat} (h : NoAmp ss n) (hr : r < n) : ∀ x ∈ (ss.getD r ByteArray.empty).data.toList, x ≠ 38 := by
  intro x hx
  obtain ⟨j, hj, rfl⟩ := List.getElem_of_mem hx
  have hj' : j < (ss.getD r ByteArray.empty).size := by simpa using hj
  have := h r hr j hj'
  rw [Array.getElem_toList]
  exact this

set_option maxHeartbeats 2000000 in
set_option maxRecDepth 100000 in
theorem law4_any (ao : Option Addr) (n c : Nat) (ss : List ByteArray) (peers torrents i : Int) (w : World) (hn : ss.length = n) (hnm : n ≤ maxLen) (hs : HasS w ao ss) (hsz : ∀ j, j < n → (ss.getD j ByteArray.empty).size ≤ maxLen)
    (bp : peers ≤ 9223372036854775807) (bi : i ≤ 9223372036854775807) (htab : Lib.TabIs Tryd.prog w pow10Name .u64 Lib.pow10Tab) :
    Calls Tryd.prog 4 #[.int .i64 peers, .int .i64 torrents, .slice ao n c, .int .i64 i] w fun e w' => e = .returned (.bool true) ∧ Below w.heap.size w w' := by
  have hB0 := bytesR_any ao n c ss peers torrents i w hn hnm hs hsz
  have BP : Hid (peers ≤ 9223372036854775807) := bp
  have BI : Hid (i ≤ 9223372036854775807) := bi
  have HN : Hid (ss.length = n) := hn
  clear hnm hsz bp bi hn
  go_enter Tryd.func4, Tryd.ntmps4
  go_wp2_with (go_at_call 12; refine hB0.mono ?_; rintro e w1 ⟨b, rfl, hw1, hbd⟩; obtain rfl := hw1.symm; refine Hid.out ?_)
  refine Lib.hid ?_
  clear hB0
  cases b with
  | false =>
    clear hbd
    go_wp2
    go_ret
    exact ⟨rfl, Below.refl _ _⟩
  | true =>
    obtain ⟨hn20, hsh⟩ := hbd rfl
    clear hbd
    by_cases hn12 : n ≤ 4096
    · go_wp2
      go_loop [9, 10] (fun zv jv => ∃ (k : Nat) (z : Int), k ≤ n ∧ jv = .int .i64 k ∧ zv = .int .i64 z ∧ 0 ≤ z ∧ z ≤ 3000000) (fun _ jv => n - (intOf jv).toNat)
      case atStart => exact ⟨0, _, Nat.zero_le _, rfl, rfl, by omega, by omega⟩
      case round =>
        obtain ⟨k, z, hk, rfl, rfl, hz0, hz1⟩ := hrel
        by_cases hlt : k < n
        · by_cases hz20 : z ≤ 1048576
          · obtain ⟨g, o, e, hc⟩ := hs.at (k := k) (by rw [HN.out]; exact hlt)
            have hszk := hsh k hlt
            subst e
            obtain ⟨s, hsd⟩ : ∃ s, s = ss.getD k ByteArray.empty := ⟨_, rfl⟩
            rw [← hsd] at hc hszk
            clear hsd
            go_wp2
            go_round
            case rel => exact ⟨k + 1, _, by omega, by go_num, rfl, by omega, by omega⟩
            case measure => simp [intOf]; omega
          · go_wp2
            go_ret
            exact ⟨rfl, Below.refl _ _⟩
        · by_cases hz20 : z ≤ 1048576
          · have hPr := premise_any ao n c ss peers torrents i w HN.out hn20 hs hsh
            go_wp2_with (go_at_call 6; refine hPr.mono ?_; rintro e w1 ⟨b, rfl, hw1, hpm⟩; obtain rfl := hw1.symm; refine Hid.out ?_)
            refine Lib.hid ?_
            clear hPr
            cases b with
            | false =>
              clear hpm
              go_wp2
              go_ret
              exact ⟨rfl, Below.refl _ _⟩
            | true =>
              obtain ⟨p1, p2, p3, p4, hna⟩ := hpm rfl
              clear hpm
              obtain ⟨M, hM⟩ : ∃ M : Int, wrap64 (9223372036854775807 - peers) = M := ⟨_, rfl⟩
              have HM : Hid (M = 9223372036854775807 - peers) := by show M = _; rw [← hM, wrap64_max peers p1 BP.out]
              by_cases hov : i ≤ M
              · obtain ⟨g, o, e, hrow⟩ := hs (by rw [HN.out]; omega)
                subst e
                have HOV : Hid (i ≤ M) := hov
                go_upto_region 16 with fail
                clear hM hov
                obtain ⟨P, hP⟩ : ∃ P : Nat, (P : Int) = peers := ⟨peers.toNat, by omega⟩
                obtain ⟨T, hT⟩ : ∃ T : Nat, (T : Int) = torrents := ⟨torrents.toNat, by omega⟩
                obtain ⟨I, hI⟩ : ∃ I : Nat, (I : Int) = i := ⟨i.toNat, by omega⟩
                have HP : Hid ((P : Int) = peers) := hP
                have HT : Hid ((T : Int) = torrents) := hT
                have HI : Hid ((I : Int) = i) := hI
                have P1 : 1 ≤ P := by omega
                have T1 : 1 ≤ T := by omega
                have T2 : T ≤ n := by omega
                have IB : Hid (((I + P : Nat) : Int) < 9223372036854775808) := by show ((I + P : Nat) : Int) < 9223372036854775808; have := HM.out; have := HOV.out; omega
                have N1 : 1 ≤ n := by omega
                clear hP hT hI
                have hc1 := cloneS_any g o n c ss w HN.out N1 (by omega) hrow
                have hT0 := Lib.tabBelow_of_tabIs htab
                go_wp2_with fail
                refine hc1.mono ?_
                rintro e w1 ⟨rfl, hsz1, hrow1, hb1⟩
                clear hc1
                have hc2 := cloneS_any w.heap.size 0 n n ss w1 HN.out N1 (by omega) hrow1
                go_wp2_with fail
                refine hc2.mono ?_
                rintro e w2 ⟨rfl, hsz2, hrow2, hb2⟩
                clear hc2
                have hrow1b := hrow1.below hsz1 hb2
                have hb02 := below_next hb1 hb2
                have htab2 := Lib.tabBelow_of_tabIs (hT0.on hb02).here
                have hr1 : I % P % T < T := Nat.mod_lt _ (by omega)
                have hsl := hsh (I % P % T) (by omega)
                have hamp := noAmp_at hna (show I % P % T < n by omega)
                clear hna hsh
                obtain ⟨A1, hA1⟩ : ∃ A, A = txt (annFields (ss.getD (I % P % T) ByteArray.empty).data.toList (I % P) (I % P / T) (I < P)) := ⟨_, rfl⟩
                obtain ⟨A2, hA2⟩ : ∃ A, A = txt (annFields (ss.getD (I % P % T) ByteArray.empty).data.toList (I % P) (I % P / T) (I + P < P)) := ⟨_, rfl⟩
                have eIP : (I + P) % P = I % P := Nat.add_mod_right I P
                have hpb : I % P < 18446744073709551616 := by have h1 := IB.out; have h2 := Nat.mod_le I P; omega
                have sz1 := ann_size (ss.getD (I % P % T) ByteArray.empty).data.toList (I % P) (I % P / T) (I < P) hpb
                have sz2 := ann_size (ss.getD (I % P % T) ByteArray.empty).data.toList (I % P) (I % P / T) (I + P < P) hpb
                have hdl : (ss.getD (I % P % T) ByteArray.empty).data.toList.length = (ss.getD (I % P % T) ByteArray.empty).size := by simp
                rw [hdl, ← hA1] at sz1
                rw [hdl, ← hA2] at sz2
                have hq1 := zzq_any w2.heap.size w.heap.size 0 n n ss P T I (.slice none 0 0) [] w2 (by simp [Value.ownBlock]) (by have := hb2.size; omega) HN.out hrow1b P1 T1 T2 (by omega) (by have := IB.out; omega) (World.ownsRow_nil _ _ _ _) (Nat.le_refl _) (by simp) htab2 _ rfl (by omega) A1 (by show A1 = _; rw [List.nil_append]; exact hA1)
                rw [HP.out, HT.out, HI.out] at hq1
                go_wp2_with fail
                refine hq1.mono ?_
                rintro e w3 ⟨v1, rfl, hD1⟩
                clear hq1
                have hb3 : Below w2.heap.size w2 w3 := below_of_dst hD1
                have hb03 := below_next hb02 hb3
                have htab3 := Lib.tabBelow_of_tabIs (hT0.on hb03).here
                have hrow1c := hrow1b.below (by have := hb2.size; omega) hb3
                have hrow2c := hrow2.below hsz2 hb3
                have hq2 := zzq_any w3.heap.size w.heap.size 0 n n ss P T (I + P) (.slice none 0 0) [] w3 (by simp [Value.ownBlock]) (by have := hb2.size; have := hb3.size; omega) HN.out hrow1c P1 T1 T2 (by omega) IB.out (World.ownsRow_nil _ _ _ _) (Nat.le_refl _) (by simp) htab3 _ rfl (by rw [eIP]; omega) A2 (by show A2 = _; rw [List.nil_append, eIP]; exact hA2)
                obtain ⟨J, hJ⟩ : ∃ J : Int, wrap64 (i + peers) = J := ⟨_, rfl⟩
                have HJ : Hid (((I + P : Nat) : Int) = J) := by show ((I + P : Nat) : Int) = J; rw [← hJ, ← HP.out, ← HI.out, ← Int.natCast_add, wrap64_nat _ IB.out]
                rw [HJ.out, HP.out, HT.out] at hq2
                clear htab2 htab3
                go_wp2_with fail
                refine hq2.mono ?_
                rintro e w4 ⟨v2, rfl, hD2⟩
                clear hq2
                have hb4 : Below w3.heap.size w3 w4 := below_of_dst hD2
                have hb04 := below_next hb03 hb4
                have hrow2d := hrow2c.below (by have := hb3.size; omega) hb4
                obtain ⟨g2, c2, e2, cc2, cm2, rA2, gl2⟩ := own_at hD2.own sz2.2
                obtain ⟨g1, c1, e1, cc1, cm1, rA1, gl1⟩ := own_at hD1.own sz1.2
                subst e1 e2
                have rA1b := rA1.below gl1 hb4
                have hA2' : txt (annFields (ss.getD ((I + P) % P % T) ByteArray.empty).data.toList ((I + P) % P) ((I + P) % P / T) (I + P < P)) = A2 := by rw [eIP]; exact hA2.symm
                have hrd := reads_ann g2 c2 A2.length w1.heap.size 0 n n ss P T (I + P) w4 (by rw [hA2']; exact rA2) (by rw [hA2']) cc2 cm2 (by omega) HN.out hrow2d (by omega) P1 T1 T2 (by rw [eIP]; omega) IB.out (by rw [eIP]; exact hamp)
                rw [HJ.out, HP.out, HT.out] at hrd
                have hfin1 : I < P → A1 = A2 ++ txtF := fun h => by rw [hA1, hA2]; exact ann_more _ _ _ _ _ h (by omega)
                have hfin2 : ¬ I < P → A1 = A2 := fun h => by rw [hA1, hA2]; exact ann_none _ _ _ _ _ h (by omega)
                have HF : Hid ((I < P → A1 = A2 ++ txtF) ∧ (¬ I < P → A1 = A2)) := ⟨hfin1, hfin2⟩
                have HIP : Hid ((I : Int) = i ∧ (P : Int) = peers) := ⟨HI.out, HP.out⟩
                have hl1 : A1.length ≤ 2000000 := by omega
                have hl2 : A2.length ≤ 2000000 := by omega
                clear hfin1 hfin2 hA1 hA2 hA2' hamp hsl hdl hpb eIP hD1 hD2 hrow1 hrow2 hrow1b hrow1c hrow2c hrow2d hT0 htab
                go_wp2_with fail
                refine hrd.mono ?_
                rintro e w5 ⟨rfl, m5, rfl⟩
                clear hrd
                have rA1c := rA1b.drewN m5
                have rA2c := rA2.drewN m5
                have hb05 := below_next hb04 (below_drewN' w4 m5)
                by_cases hip : i < peers
                · have eA := HF.out.1 (by have := HIP.out; omega)
                  have hlen : A1.length = A2.length + 14 := by rw [eA, List.length_append]; rfl
                  have hb6 := below_alloc (w4.drewN m5) (.cells #[.int .u8 38, .int .u8 101, .int .u8 118, .int .u8 101, .int .u8 110, .int .u8 116, .int .u8 61, .int .u8 115, .int .u8 116, .int .u8 97, .int .u8 114, .int .u8 116, .int .u8 101, .int .u8 100] 5 (14, 15))
                  have gl1' : g1 < (w4.drewN m5).heap.size := Nat.lt_of_lt_of_le gl1 hb4.size
                  have hpf := prefix_any (some ⟨g1, 0, none⟩) (some ⟨g2, 0, none⟩) (some ⟨(w4.drewN m5).heap.size, 0, none⟩) A1.length A2.length 14 c1 c2 14 A2 txtF _ hlen rfl rfl (by omega) (fun _ => ⟨g1, 0, rfl, by rw [← eA]; exact rA1c.below gl1' hb6⟩) (fun _ => ⟨g2, 0, rfl, rA2c.below gl2 hb6⟩) (fun _ => ⟨_, 0, rfl, rowF (w4.drewN m5) 5 (14, 15)⟩)
                  have hb06 := below_next hb05 hb6
                  clear eA hlen rA1c rA2c
                  have hcv : (convert 23 23 (.slice (some ⟨w4.heap.size, 0, none⟩) 14 14)).run Tryd.prog ((w4.drewN m5).alloc (.cells #[.int .u8 38, .int .u8 101, .int .u8 118, .int .u8 101, .int .u8 110, .int .u8 116, .int .u8 61, .int .u8 115, .int .u8 116, .int .u8 97, .int .u8 114, .int .u8 116, .int .u8 101, .int .u8 100] 5)) = .ok (.slice (some ⟨w4.heap.size, 0, none⟩) 14 14) ((w4.drewN m5).alloc (.cells #[.int .u8 38, .int .u8 101, .int .u8 118, .int .u8 101, .int .u8 110, .int .u8 116, .int .u8 61, .int .u8 115, .int .u8 116, .int .u8 97, .int .u8 114, .int .u8 116, .int .u8 101, .int .u8 100] 5 (14, 15))) := Lib.run_convert_bytes_const (P := Tryd.prog) (w4.drewN m5) 23 5 _ 14 14 Tryd.underlying23 Tryd.underlying5
                  go_wp2_with fail
                  refine hpf.mono ?_
                  rintro e w6 ⟨rfl, m6, rfl⟩
                  have hb07 := below_next hb06 (below_drewN' _ m6)
                  go_wp2
                  go_ret
                  exact ⟨rfl, hb07⟩
                · have eA := HF.out.2 (by have := HIP.out; omega)
                  have hpf := prefix_any (some ⟨g1, 0, none⟩) (some ⟨g2, 0, none⟩) none A1.length A2.length 0 c1 c2 0 A2 [] (w4.drewN m5) (by rw [eA]; rfl) rfl rfl (by omega) (fun _ => ⟨g1, 0, rfl, by rw [List.append_nil, ← eA]; exact rA1c⟩) (fun _ => ⟨g2, 0, rfl, rA2c⟩) (fun h => absurd h (by simp))
                  have HPF := Lib.hid hpf
                  have hip' : decide (i < peers) = false := by rw [decide_eq_false_iff_not]; exact hip
                  clear eA rA1c rA2c hpf
                  go_upto_region 22 with fail
                  go_wp2_with fail
                  refine HPF.out.mono ?_
                  rintro e w6 ⟨rfl, m6, rfl⟩
                  have hb07 := below_next hb04 (below_drewN' w4 (m5 + m6))
                  go_wp2
                  go_ret
                  exact ⟨rfl, hb07⟩
              · have hov' : M < i := by omega
                go_wp2
                go_ret
                exact ⟨rfl, Below.refl _ _⟩
          · go_wp2
            go_ret
            exact ⟨rfl, Below.refl _ _⟩
    · go_wp2
      go_ret
      exact ⟨rfl, Below.refl _ _⟩
end Go.Proofs.Qxb6003635aDoor
