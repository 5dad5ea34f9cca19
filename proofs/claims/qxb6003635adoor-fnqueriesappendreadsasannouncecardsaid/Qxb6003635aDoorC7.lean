import Derived.Test.Qxb6003635aDoorC6
namespace Go.Proofs.Qxb6003635aDoor
open Go.RowKit Go.Sort
set_option linter.unusedVariables false

theorem tabBelow_up {B0 B : Nat} {w w4 : World} (h : Lib.TabBelow Tryd.prog B0 w pow10Name .u64 Lib.pow10Tab) (hb : Below B0 w w4) (hB : B0 ≤ B) : Lib.TabBelow Tryd.prog B w4 pow10Name .u64 Lib.pow10Tab :=
  fun w' h' => h w' (hb.trans (h'.mono hB))

theorem RowS.on {w w' : World} {g o : Nat} {ss : List ByteArray} (h : RowS w g o ss) (hb : w'.heap[g]? = w.heap[g]?) : RowS w' g o ss := fun j hj => by
  rw [World.cell?_of_block (w := w) (a := ⟨g, o + j, none⟩) hb]
  exact h j hj

theorem hasB_of_own {w : World} {B n c : Nat} {a : Option Addr} {l : List UInt8} (h : w.ownsRow B 5 1 (.slice a n c) l.length (Lib.byteCells l)) : HasB w a l := fun hp => by
  obtain ⟨g, cap, e, _, _, hr, _⟩ := own_at h hp
  cases e
  exact ⟨g, 0, rfl, hr⟩

set_option maxHeartbeats 4000000 in
set_option maxRecDepth 100000 in
theorem law3_any (ao da : Option Addr) (n c nd cd : Nat) (ss : List ByteArray) (l : List UInt8) (peers torrents i : Int) (w : World) (hn : ss.length = n) (hnm : n ≤ maxLen) (hs : HasS w ao ss) (hsz : ∀ j, j < n → (ss.getD j ByteArray.empty).size ≤ maxLen)
    (hdm : nd ≤ maxLen) (hdl : l.length = nd) (hd : HasB w da l) (hdn : da = none → nd = 0 ∧ cd = 0) (bi : i ≤ 9223372036854775807) (htab : Lib.TabIs Tryd.prog w pow10Name .u64 Lib.pow10Tab) :
    Calls Tryd.prog 3 #[.int .i64 peers, .int .i64 torrents, .slice ao n c, .slice da nd cd, .int .i64 i] w fun e w' => e = .returned (.bool true) ∧ Below w.heap.size w w' := by
  have hB0 := bytesD_any ao da n c nd cd ss peers torrents i w hn hnm hs hsz hdm
  have BI : Hid (i ≤ 9223372036854775807) := bi
  have HN : Hid (ss.length = n) := hn
  have HDL : Hid (l.length = nd) := hdl
  have HDN : Hid (da = none → nd = 0 ∧ cd = 0) := hdn
  have HDM : Hid (nd ≤ maxLen) := hdm
  clear hnm hsz bi hn hdl hdn hdm
  go_enter Tryd.func3, Tryd.ntmps3
  go_wp2_with (go_at_call 5; refine hB0.mono ?_; rintro e w1 ⟨b, rfl, hw1, hbd⟩; obtain rfl := hw1.symm; refine Hid.out ?_)
  refine Lib.hid ?_
  clear hB0
  cases b with
  | false =>
    clear hbd
    go_wp2
    go_ret
    exact ⟨rfl, Below.refl _ _⟩
  | true =>
    obtain ⟨hn20, hsh⟩ := hbd rfl
    clear hbd
    by_cases hd20 : nd ≤ 1048576
    · by_cases hn12 : n ≤ 4096
      · go_wp2
        go_loop [11, 12] (fun zv jv => ∃ (k : Nat) (z : Int), k ≤ n ∧ jv = .int .i64 k ∧ zv = .int .i64 z ∧ 0 ≤ z ∧ z ≤ 3000000) (fun _ jv => n - (intOf jv).toNat)
        case atStart => exact ⟨0, _, Nat.zero_le _, rfl, rfl, by omega, by omega⟩
        case round =>
          obtain ⟨k, z, hk, rfl, rfl, hz0, hz1⟩ := hrel
          by_cases hlt : k < n
          · by_cases hz20 : z ≤ 1048576
            · obtain ⟨g, o, e, hc⟩ := hs.at (k := k) (by rw [HN.out]; exact hlt)
              have hszk := hsh k hlt
              subst e
              obtain ⟨s, hsd⟩ : ∃ s, s = ss.getD k ByteArray.empty := ⟨_, rfl⟩
              rw [← hsd] at hc hszk
              clear hsd
              go_wp2
              go_round
              case rel => exact ⟨k + 1, _, by omega, by go_num, rfl, by omega, by omega⟩
              case measure => simp [intOf]; omega
            · go_wp2
              go_ret
              exact ⟨rfl, Below.refl _ _⟩
          · by_cases hz20 : z ≤ 1048576
            · have hPr := premise_any ao n c ss peers torrents i w HN.out hn20 hs hsh
              go_wp2_with (go_at_call 6; refine hPr.mono ?_; rintro e w1 ⟨b, rfl, hw1, hpm⟩; obtain rfl := hw1.symm; refine Hid.out ?_)
              refine Lib.hid ?_
              clear hPr
              cases b with
              | false =>
                clear hpm
                go_wp2
                go_ret
                exact ⟨rfl, Below.refl _ _⟩
              | true =>
                obtain ⟨p1, p2, p3, p4, hna⟩ := hpm rfl
                clear hpm
                obtain ⟨g, o, e, hrow⟩ := hs (by rw [HN.out]; omega)
                subst e
                obtain ⟨P, hP⟩ : ∃ P : Nat, (P : Int) = peers := ⟨peers.toNat, by omega⟩
                obtain ⟨T, hT⟩ : ∃ T : Nat, (T : Int) = torrents := ⟨torrents.toNat, by omega⟩
                obtain ⟨I, hI⟩ : ∃ I : Nat, (I : Int) = i := ⟨i.toNat, by omega⟩
                have HP : Hid ((P : Int) = peers) := hP
                have HT : Hid ((T : Int) = torrents) := hT
                have HI : Hid ((I : Int) = i) := hI
                have P1 : 1 ≤ P := by omega
                have T1 : 1 ≤ T := by omega
                have T2 : T ≤ n := by omega
                have IB : Hid ((I : Int) < 9223372036854775808) := by show (I : Int) < 9223372036854775808; have := BI.out; omega
                have N1 : 1 ≤ n := by omega
                clear hP hT hI
                have hc1 := cloneS_any g o n c ss w HN.out N1 (by omega) hrow
                have hT0 := Lib.tabBelow_of_tabIs htab
                go_wp2_with fail
                refine hc1.mono ?_
                rintro e w1 ⟨rfl, hsz1, hrow1, hb1⟩
                clear hc1
                have hc2 := cloneB_any da nd cd l w1 HDL.out (by omega) (hd.below hb1) HDN.out
                go_wp2_with fail
                refine hc2.mono ?_
                rintro e w2 ⟨a2, cc2, rfl, own2, hb2, hn2⟩
                clear hc2
                have HN2 : Hid (a2 = none → nd = 0 ∧ cc2 = 0) := hn2
                clear hn2
                have hc3 := cloneB_any a2 nd cc2 l w2 HDL.out (by omega) (hasB_of_own own2) HN2.out
                go_wp2_with fail
                refine hc3.mono ?_
                rintro e w3 ⟨a3, cc3, rfl, own3, hb3, hn3⟩
                clear hc3
                have HN3 : Hid (a3 = none → nd = 0 ∧ cc3 = 0) := hn3
                clear hn3
                have hrow1b := (hrow1.below hsz1 hb2).below (by have := hb2.size; omega) hb3
                have hc4 := cloneS_any w.heap.size 0 n n ss w3 HN.out N1 (by omega) hrow1b
                go_wp2_with fail
                refine hc4.mono ?_
                rintro e w4 ⟨rfl, hsz4, hrow4, hb4⟩
                clear hc4
                have s2 := hb2.size
                have s3 := hb3.size
                have s4 := hb4.size
                have hrow1c := hrow1b.below (by omega) hb4
                have own2b := ownsRow_below (ownsRow_below own2 hb3) hb4
                have hB3 := (hasB_of_own own3).below hb4
                have hb04 := below_next (below_next (below_next hb1 hb2) hb3) hb4
                have hr1 : I % P % T < T := Nat.mod_lt _ (by omega)
                have hsl := hsh (I % P % T) (by omega)
                have hamp := noAmp_at hna (show I % P % T < n by omega)
                clear hna hsh
                obtain ⟨A, hA⟩ : ∃ A, A = txt (annFields (ss.getD (I % P % T) ByteArray.empty).data.toList (I % P) (I % P / T) (I < P)) := ⟨_, rfl⟩
                have hpb : I % P < 18446744073709551616 := by have h1 := IB.out; have h2 := Nat.mod_le I P; omega
                have szA := ann_size (ss.getD (I % P % T) ByteArray.empty).data.toList (I % P) (I % P / T) (I < P) hpb
                have hdl : (ss.getD (I % P % T) ByteArray.empty).data.toList.length = (ss.getD (I % P % T) ByteArray.empty).size := by simp
                rw [hdl, ← hA] at szA
                have hlo2 := own2.lt
                obtain ⟨L5, hL5⟩ : ∃ L, L = l ++ A := ⟨_, rfl⟩
                have HL5 : Hid (L5 = l ++ A) := hL5
                have hlA : L5.length = nd + A.length := by rw [hL5, List.length_append, HDL.out]
                have HLA : Hid (L5.length = nd + A.length) := hlA
                have hq1 := zzq_any w1.heap.size w.heap.size 0 n n ss P T I (.slice a2 nd cc2) l w4 (fun e => by have := (hlo2 _ e).1; omega) (by omega) HN.out hrow1c P1 T1 T2 (by omega) IB.out own2b (by omega) (by have := HDL.out; omega) (tabBelow_up hT0 hb04 (by omega)) _ rfl (by omega) L5 (by show L5 = _; rw [hL5, hA])
                clear hL5
                rw [HP.out, HT.out, HI.out] at hq1
                go_wp2_with fail
                refine hq1.mono ?_
                rintro e w5 ⟨v5, rfl, hD5⟩
                clear hq1
                have hb45 : Below w1.heap.size w4 w5 := hD5.below (by omega) (fun b e => (hlo2 b e).1)
                have hb05 : Below w.heap.size w w5 := hb04.trans (hb45.mono (by omega))
                have s5 := hD5.fr.size
                have hrow1d : RowS w5 w.heap.size 0 ss := hrow1c.on (hD5.fr.block _ (by omega) (fun e => by have := (hlo2 _ e.symm).1; omega))
                have hrow4b : RowS w5 w3.heap.size 0 ss := hrow4.on (hD5.fr.block _ (by omega) (fun e => by have := (hlo2 _ e.symm).2; omega))
                have hB5 : HasB w5 a3 l := fun hp => by
                  obtain ⟨g3, c3, e3, _, _, hr3, _⟩ := own_at own3 hp
                  cases e3
                  have hlo3 := own3.lt g3 rfl
                  obtain ⟨g3', o3', e3', hr3'⟩ := hB3 hp
                  cases e3'
                  exact ⟨g3, 0, rfl, hr3'.on (hD5.fr.block _ (by omega) (fun e => by have := (hlo2 _ e.symm).2; omega))⟩
                have hq2 := zzq_any w5.heap.size w.heap.size 0 n n ss P T I (.slice none 0 0) [] w5 (by simp [Value.ownBlock]) (by omega) HN.out hrow1d P1 T1 T2 (by omega) IB.out (World.ownsRow_nil _ _ _ _) (Nat.le_refl _) (by simp) (tabBelow_up hT0 hb05 (by omega)) _ rfl (by omega) A (by show A = _; rw [List.nil_append]; exact hA)
                rw [HP.out, HT.out, HI.out] at hq2
                go_wp2_with fail
                refine hq2.mono ?_
                rintro e w6 ⟨v6, rfl, hD6⟩
                clear hq2
                have hb6 : Below w5.heap.size w5 w6 := below_of_dst hD6
                have hb06 := below_next hb05 hb6
                obtain ⟨g6, c6, e6, cc6, cm6, rA6, gl6⟩ := own_at hD6.own szA.2
                obtain ⟨g5, c5, e5, cc5, cm5, rA5, gl5⟩ := own_at hD5.own (by omega)
                subst e5 e6
                have rA5b := rA5.below gl5 hb6
                have hB6 := hB5.below hb6
                have hrow4c := hrow4b.below (by omega) hb6
                have hpf := prefix_any (some ⟨g5, 0, none⟩) a3 (some ⟨g6, 0, none⟩) L5.length nd A.length c5 cc3 c6 l A w6 HLA.out HDL.out rfl (by omega) (fun _ => ⟨g5, 0, rfl, by rw [← HL5.out]; exact rA5b⟩) hB6 (fun _ => ⟨g6, 0, rfl, rA6⟩)
                have hrd := fun m5 => reads_ann g6 c6 A.length w3.heap.size 0 n n ss P T I (w6.drewN m5) (by rw [← hA]; exact rA6.drewN m5) (by rw [← hA]) cc6 cm6 (by omega) HN.out (hrow4c.drewN m5) (by omega) P1 T1 T2 (by omega) IB.out hamp
                rw [HP.out, HT.out, HI.out] at hrd
                have HRD := Lib.hid hrd
                clear hlA hA hamp hsl hdl hpb hD5 hD6 hrow1 hrow1b hrow1c hrow1d hrow4 hrow4b hrow4c hT0 htab hrd hB5 hB6 hB3 rA5 rA5b rA6 own2 own2b own3 hlo2
                go_wp2_with fail
                refine hpf.mono ?_
                rintro e w7 ⟨rfl, m7, rfl⟩
                clear hpf
                go_wp2_with fail
                refine (HRD.out m7).mono ?_
                rintro e w8 ⟨rfl, m8, rfl⟩
                have hb08 := below_next hb06 (below_drewN' w6 (m7 + m8))
                go_wp2
                go_ret
                exact ⟨rfl, hb08⟩
            · go_wp2
              go_ret
              exact ⟨rfl, Below.refl _ _⟩
      · have hn12' : (4096 : Int) < (n : Int) := by omega
        go_wp2
        go_ret
        exact ⟨rfl, Below.refl _ _⟩
    · have hd20' : (1048576 : Int) < (nd : Int) := by omega
      go_wp2
      go_ret
      exact ⟨rfl, Below.refl _ _⟩
end Go.Proofs.Qxb6003635aDoor
