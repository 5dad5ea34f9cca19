import Derived.Test.Qxb6003681aN1
namespace Go.Proofs.Qxb6003681a
open Go.RowKit
set_option linter.unusedVariables false

theorem quiet_of' {P : Program} {f : FuncId} {args : Array Value} {w : World} {m a : Nat} {v : Value}
    (h : Calls P f args (w.drewN (m + a)) fun e w' => e = .returned v ∧ ∃ k, w' = (w.drewN (m + a)).drewN k) : Calls P f args (w.drewN (m + a)) fun e w'' => e = .returned v ∧ ∃ n, w'' = w.drewN (m + n) :=
  h.mono fun _ _ ⟨he, k, hk⟩ => ⟨he, a + k, by rw [hk, World.drewN_drewN, Nat.add_assoc]⟩

theorem quiet_same {P : Program} {f : FuncId} {args : Array Value} {w : World} {m a : Nat} {v : Value}
    (h : Calls P f args (w.drewN (m + a)) fun e w' => e = .returned v ∧ w' = w.drewN (m + a)) : Calls P f args (w.drewN (m + a)) fun e w'' => e = .returned v ∧ ∃ n, w'' = w.drewN (m + n) :=
  h.mono fun _ _ ⟨he, hk⟩ => ⟨he, a, hk⟩

set_option maxRecDepth 20000 in
set_option maxHeartbeats 4000000 in
/-- exchangeOK answers true where the exchange is as it should be. -/
theorem exch_any (a0 a1 a3 a4 a5 a7 a8 : Option Addr) (n c0 c1 m c3 c4 sn c5 k c7 c8 : Nat) (vn vg en1 eg sent : List Int) (out : List (Int × Int)) (v c : Int) (w : World)
    (h0 : vn.length = n ∧ HasI w a0 vn) (h1 : vg.length = n ∧ HasI w a1 vg) (h3 : en1.length = m ∧ HasI w a3 en1) (h4 : eg.length = m ∧ HasI w a4 eg) (h5 : sent.length = sn ∧ HasI w a5 sent)
    (h7 : out.length = k ∧ HasI w a7 (nodesOf out)) (h8 : HasI w a8 (agesOf out)) (hn : n ≤ 1048576) (hm : m ≤ 1048576) (hsn : sn ≤ 1048576) (hk : k ≤ 1048576)
    (hx : XOk (vn.zip vg) (en1.zip eg) out v c sent) :
    Calls Try.prog 13 #[.slice a0 n c0, .slice a1 n c1, .int .i64 v, .slice a3 m c3, .slice a4 m c4, .slice a5 sn c5, .int .i64 c, .slice a7 k c7, .slice a8 k c8] w fun e w' => e = .returned (.bool true) ∧ ∃ q, w' = w.drewN q := by
  have hW := wf_any a7 k c7 (nodesOf out) v c w (by rw [nodes_len]; exact h7.1) hk h7.2
  rw [decide_eq_true hx.wf] at hW
  have H0 : Hid (vn.length = n ∧ HasI w a0 vn) := h0
  have H1 : Hid (vg.length = n ∧ HasI w a1 vg) := h1
  have H3 : Hid (en1.length = m ∧ HasI w a3 en1) := h3
  have H4 : Hid (eg.length = m ∧ HasI w a4 eg) := h4
  have H5 : Hid (sent.length = sn ∧ HasI w a5 sent) := h5
  have H7 : Hid ((nodesOf out).length = k ∧ HasI w a7 (nodesOf out)) := ⟨by rw [nodes_len]; exact h7.1, h7.2⟩
  have H8 : Hid ((agesOf out).length = k ∧ HasI w a8 (agesOf out)) := ⟨by simp [agesOf, h7.1], h8⟩
  have HX : Hid (XOk (vn.zip vg) (en1.zip eg) out v c sent) := hx
  have hnk : n ≤ k := by have := hx.grow; simp only [List.length_zip, h0.1, h1.1, h7.1] at this; omega
  clear h0 h1 h3 h4 h5 h7 h8 hx
  go_enter Try.func13, Try.ntmps13
  go_wp2_with (go_at_call 8; refine hW.mono ?_; rintro e w1 ⟨rfl, q0, hw1⟩)
  clear hW
  rw [show (decide (k < n)) = false from decide_eq_false (by omega)]
  go_loopw [19] (fun iv wr => ∃ i q : Nat, iv = .int .i64 i ∧ i ≤ n ∧ wr = w.drewN q) (fun iv _ => n - (intOf iv).toNat)
  case atStart => exact ⟨0, q0, rfl, Nat.zero_le _, rfl⟩
  case round =>
    obtain ⟨i, q, rfl, hi, rfl⟩ := hrel
    by_cases hlt : i < n
    · obtain ⟨g0, o0, e, hc0⟩ := H0.out.2 (by have := H0.out.1; omega)
      cases e
      obtain ⟨g1, o1, e, hc1⟩ := H1.out.2 (by have := H1.out.1; omega)
      cases e
      obtain ⟨g7, o7, e, hc7⟩ := H7.out.2 (by have := H7.out.1; omega)
      cases e
      obtain ⟨g8, o8, e, hc8⟩ := H8.out.2 (by have := H8.out.1; omega)
      cases e
      have hd0 := hc0 i (by have := H0.out.1; omega)
      have hd1 := hc1 i (by have := H1.out.1; omega)
      have hd7 := hc7 i (by have := H7.out.1; omega)
      have hd8 := hc8 i (by have := H8.out.1; omega)
      have hold := HX.out.old i (by simp only [List.length_zip, H0.out.1, H1.out.1]; omega)
      rw [zip_at vn vg i n H0.out.1 H1.out.1 hlt, show out.getD i (0, 0) = ((nodesOf out).getD i 0, (agesOf out).getD i 0) by rw [nodesOf_at, agesOf_at]] at hold
      have hS := fun W (hW : HasI W a5 sent) => contains_any a5 sn c5 sent (vn.getD i 0) W H5.out.1 hsn hW
      have hT := fun W (hW : HasI W a3 en1) (hW2 : HasI W a4 eg) => isEntry_bool a3 a4 m c3 m c4 en1 eg ((nodesOf out).getD i 0) ((agesOf out).getD i 0) W H3.out.1 H4.out.1 hm hW hW2
      clear hc0 hc1 hc7 hc8
      generalize vn.getD i 0 = b1 at hd0 hold hS
      generalize vg.getD i 0 = b2 at hd1 hold
      generalize (nodesOf out).getD i 0 = x1 at hd7 hold hT
      generalize (agesOf out).getD i 0 = x2 at hd8 hold hT
      have HOLD : Hid _ := hold
      generalize sent.contains b1 = sb at HOLD hS
      have HTB : Hid (sb = true ∧ (x1, x2) ∈ en1.zip eg → sb = true ∧ (en1.zip eg).contains (x1, x2) = true) := fun h => ⟨h.1, List.contains_iff_mem.2 h.2⟩
      have HT : Hid _ := hT
      have HS : Hid _ := hS
      clear hold hT hS
      generalize (en1.zip eg).contains (x1, x2) = tb at HT HTB
      by_cases e1 : x1 = b1
      · subst e1
        by_cases e2 : x2 = b2
        · subst e2
          cases sb with
          | false =>
            go_upto_region 10 with fail
            go_quiet (fail)
            go_upto_region 11 with fail
            go_quiet ((first | (go_at_call 20; exact quiet_same (HS.out _ H5.out.2)) | (go_at_call 24; exact quiet_same (HT.out _ H3.out.2 H4.out.2))))
            go_wp2
            first | exact ⟨⟨i + 1, q + _ + _, by go_num, by omega, rfl⟩, by simp [intOf]; omega⟩ | exact ⟨⟨i + 1, by omega, by omega, _, rfl⟩, by simp [intOf]; omega⟩
          | true =>
            go_upto_region 10 with fail
            go_quiet (fail)
            go_upto_region 11 with fail
            go_quiet ((first | (go_at_call 20; exact quiet_same (HS.out _ H5.out.2)) | (go_at_call 24; exact quiet_same (HT.out _ H3.out.2 H4.out.2))))
            go_wp2
            first | exact ⟨⟨i + 1, q + _ + _, by go_num, by omega, rfl⟩, by simp [intOf]; omega⟩ | exact ⟨⟨i + 1, by omega, by omega, _, rfl⟩, by simp [intOf]; omega⟩
        · have hh := HOLD.out
          have h2 : sb = true ∧ tb = true := HTB.out (hh.resolve_left (fun h => e2 (Prod.mk.inj h).2))
          obtain ⟨rfl, rfl⟩ := h2
          go_upto_region 10 with fail
          go_quiet (fail)
          go_upto_region 11 with fail
          go_quiet ((first | (go_at_call 20; exact quiet_same (HS.out _ H5.out.2)) | (go_at_call 24; exact quiet_same (HT.out _ H3.out.2 H4.out.2))))
          go_wp2
          first | exact ⟨⟨i + 1, q + _ + _, by go_num, by omega, rfl⟩, by simp [intOf]; omega⟩ | exact ⟨⟨i + 1, by omega, by omega, _, rfl⟩, by simp [intOf]; omega⟩
      · have hh := HOLD.out
        have e1b : (x1 == b1) = false := by simpa using e1
        have h2 : sb = true ∧ tb = true := HTB.out (hh.resolve_left (fun h => e1 (Prod.mk.inj h).1))
        obtain ⟨rfl, rfl⟩ := h2
        go_upto_region 10 with fail
        go_quiet (fail)
        go_upto_region 11 with fail
        go_quiet ((first | (go_at_call 20; exact quiet_same (HS.out _ H5.out.2)) | (go_at_call 24; exact quiet_same (HT.out _ H3.out.2 H4.out.2))))
        go_wp2
        first | exact ⟨⟨i + 1, q + _ + _, by go_num, by omega, rfl⟩, by simp [intOf]; omega⟩ | exact ⟨⟨i + 1, by omega, by omega, _, rfl⟩, by simp [intOf]; omega⟩
    · obtain rfl : n = i := by omega
      go_wp2_with fail
      go_loopw [22] (fun iv wr => ∃ i q : Nat, iv = .int .i64 i ∧ n ≤ i ∧ i ≤ k ∧ wr = w.drewN q) (fun iv _ => k - (intOf iv).toNat)
      case atStart => exact ⟨n, q, rfl, Nat.le_refl _, hnk, rfl⟩
      case round =>
        obtain ⟨i, q, rfl, hni, hik, rfl⟩ := hrel
        by_cases hlt : i < k
        · obtain ⟨g7, o7, e, hc7⟩ := H7.out.2 (by have := H7.out.1; omega)
          cases e
          obtain ⟨g8, o8, e, hc8⟩ := H8.out.2 (by have := H8.out.1; omega)
          cases e
          have hd7 := hc7 i (by have := H7.out.1; omega)
          have hd8 := hc8 i (by have := H8.out.1; omega)
          have hnew := HX.out.new i (by simp only [List.length_zip, H0.out.1, H1.out.1]; omega) (by have := H7.out.1; rw [nodes_len] at this; omega)
          rw [show out.getD i (0, 0) = ((nodesOf out).getD i 0, (agesOf out).getD i 0) by rw [nodesOf_at, agesOf_at]] at hnew
          have hT := fun W (hW : HasI W a3 en1) (hW2 : HasI W a4 eg) => isEntry_bool a3 a4 m c3 m c4 en1 eg ((nodesOf out).getD i 0) ((agesOf out).getD i 0) W H3.out.1 H4.out.1 hm hW hW2
          rw [List.contains_iff_mem.2 hnew] at hT
          clear hc7 hc8 hnew
          generalize (nodesOf out).getD i 0 = x1 at hd7 hT
          generalize (agesOf out).getD i 0 = x2 at hd8 hT
          have HT : Hid _ := hT
          clear hT
          go_upto_region 17 with fail
          go_quiet ((go_at_call 24; exact quiet_same (HT.out _ H3.out.2 H4.out.2)))
          go_wp2
          first | exact ⟨⟨i + 1, q + _, by go_num, by omega, by omega, rfl⟩, by simp [intOf]; omega⟩ | exact ⟨⟨i + 1, by omega, by omega, by omega, _, rfl⟩, by simp [intOf]; omega⟩
        · obtain rfl : k = i := by omega
          by_cases hkc : (k : Int) < c
          · have hfull := HX.out.full (by have := H7.out.1; rw [nodes_len] at this; omega)
            have HF : Hid _ := hfull
            clear hfull
            go_wp2_with fail
            go_loopw [23] (fun iv wr => ∃ i q : Nat, iv = .int .i64 i ∧ i ≤ m ∧ wr = w.drewN q) (fun iv _ => m - (intOf iv).toNat)
            case atStart => exact ⟨0, q, rfl, Nat.zero_le _, rfl⟩
            case round =>
              obtain ⟨i, q, rfl, him, rfl⟩ := hrel
              by_cases hlm : i < m
              · obtain ⟨g3, o3, e, hc3⟩ := H3.out.2 (by have := H3.out.1; omega)
                cases e
                have hd3 := hc3 i (by have := H3.out.1; omega)
                have hin := HF.out ((en1.zip eg).getD i (0, 0)) (by
                  rw [List.getD_eq_getElem?_getD, List.getElem?_eq_getElem (by simp only [List.length_zip, H3.out.1, H4.out.1]; omega), Option.getD_some]
                  exact List.getElem_mem _)
                rw [zip_at en1 eg i m H3.out.1 H4.out.1 hlm] at hin
                have hS := fun W (hW : HasI W a7 (nodesOf out)) => contains_any a7 k c7 (nodesOf out) (en1.getD i 0) W H7.out.1 hk hW
                have HIN : Hid _ := hin
                clear hc3 hin
                generalize en1.getD i 0 = x at hd3 hS HIN
                generalize (nodesOf out).contains x = b at hS HIN
                have HS : Hid _ := hS
                clear hS
                by_cases hxv : x = v
                · subst hxv
                  go_wp2_with fail
                  first | exact ⟨⟨i + 1, q, by go_num, by omega, rfl⟩, by simp [intOf]; omega⟩ | exact ⟨⟨i + 1, by omega, by omega, _, rfl⟩, by simp [intOf]; omega⟩
                · obtain rfl : b = true := HIN.out.resolve_left hxv
                  go_wp2_with (go_at_call 20; refine (HS.out (w.drewN q) H7.out.2).mono ?_; rintro e w1 ⟨rfl, hw⟩; obtain rfl := hw)
                  go_roundw
                  case rel => exact ⟨i + 1, q, by go_num, by omega, rfl⟩
                  case measure => simp [intOf]; omega
              · obtain rfl : m = i := by omega
                go_wp2_with fail
                go_ret
                exact ⟨rfl, q, rfl⟩
          · go_wp2_with fail
            go_ret
            exact ⟨rfl, q, rfl⟩
end Go.Proofs.Qxb6003681a
