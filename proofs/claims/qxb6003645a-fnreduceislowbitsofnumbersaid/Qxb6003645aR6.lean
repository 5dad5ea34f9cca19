import Derived.Test.Qxb6003645aR5
namespace Go.Proofs.Qxb6003645a
open Go.RowKit
set_option linter.unusedVariables false

/-- Bit k of a row of twenty bytes, the last byte lowest. -/
def bitAt (x : List Int) (k : Nat) : Int := x.getD (19 - k / 8) 0 / 2 ^ (k % 8) % 2

theorem bit_mod (x : Int) (h0 : 0 ≤ x) (e r : Nat) : (x % 2 ^ e) / 2 ^ r % 2 = if r < e then x / 2 ^ r % 2 else 0 := by
  obtain ⟨n, rfl⟩ := Int.eq_ofNat_of_zero_le h0
  have h := Nat.testBit_mod_two_pow n e r
  rw [Nat.testBit_eq_decide_div_mod_eq, Nat.testBit_eq_decide_div_mod_eq] at h
  have e1 : ((n : Int) % 2 ^ e) / 2 ^ r % 2 = ((n % 2 ^ e / 2 ^ r % 2 : Nat) : Int) := by simp
  have e2 : (n : Int) / 2 ^ r % 2 = ((n / 2 ^ r % 2 : Nat) : Int) := by simp
  rw [e1, e2]
  clear e1 e2
  generalize n % 2 ^ e / 2 ^ r = p at h ⊢
  generalize n / 2 ^ r = q at h ⊢
  split <;> rename_i hr
  · rw [decide_eq_true hr, Bool.true_and] at h
    have : (p % 2 = 1) ↔ (q % 2 = 1) := by simpa using h
    omega
  · rw [decide_eq_false hr, Bool.false_and] at h
    have : ¬ (p % 2 = 1) := by simpa using h
    omega

theorem red_bit (B : Nat) (l : List Int) (hl : Bytes l) (hB : B ≤ 160) (k : Nat) (hk : k < 160) :
    bitAt (red B l) k = if k < B ∧ k / 8 < l.length then l.getD (l.length - 1 - k / 8) 0 / 2 ^ (k % 8) % 2 else 0 := by
  unfold bitAt
  rw [red_at B l hl hB (19 - k / 8) (by omega), bit_mod _ (pad20_bytes hl _).1, pad20_at l _ (by omega)]
  have e1 : 19 - (19 - k / 8) = k / 8 := by omega
  rw [e1]
  by_cases h1 : k < B
  · rw [if_pos (by omega)]
    by_cases h2 : k / 8 < l.length
    · rw [if_pos h2, if_pos ⟨h1, h2⟩]
    · rw [if_neg h2, if_neg (fun h => h2 h.2)]
      simp
  · rw [if_neg (by omega), if_neg (fun h => h1 h.1)]

theorem and_one (x : Int) (h0 : 0 ≤ x) (h1 : x < 256) : bits .and .i64 x 1 = x % 2 := by
  obtain ⟨a, rfl⟩ := Int.eq_ofNat_of_zero_le h0
  have hx : a &&& 1 = a % 2 := Nat.and_one_is_mod a
  show IntKind.i64.wrap ((BitVec.ofInt 64 (a : Int) &&& BitVec.ofInt 64 ((1 : Nat) : Int)).toNat : Int) = _
  rw [BitVec.toNat_and, BitVec.ofInt_natCast, BitVec.ofInt_natCast, BitVec.toNat_ofNat, BitVec.toNat_ofNat, Nat.mod_eq_of_lt (show a < 2 ^ 64 by omega), show 1 % 2 ^ 64 = 1 from rfl, hx]
  have : a % 2 = 0 ∨ a % 2 = 1 := by omega
  rcases this with h | h <;> rw [h] <;> (have : (a : Int) % 2 = ((a % 2 : Nat) : Int) := by simp) <;> rw [this, h] <;> rfl

set_option maxHeartbeats 1000000 in
theorem bytes3_any (ao : Option Addr) (n c : Nat) (p : Int) (w : World) (hn : n ≤ maxLen) :
    Calls Try.prog 9 #[.int .i64 p, .slice ao n c] w fun e w' => e = .returned (.bool (decide (n ≤ 1048576))) ∧ w' = w := by
  unfold maxLen at hn
  by_cases h : n ≤ 1048576
  · have hd : decide (n ≤ 1048576) = true := by simpa using h
    rw [hd]
    clear hd
    go_enter Try.func9, Try.ntmps9
    go_wp2
    go_ret
    exact ⟨rfl, rfl⟩
  · have h2 : (1048576 : Int) < (n : Int) := by omega
    have hd : decide (n ≤ 1048576) = false := by simpa using h
    rw [hd]
    clear hd
    go_enter Try.func9, Try.ntmps9
    go_wp2
    go_ret
    exact ⟨rfl, rfl⟩

theorem shifted_bit (z : Int) (r : Nat) (h0 : 0 ≤ z) (h1 : z < 256) : bits .and .i64 (wrap64 (z / 2 ^ r)) 1 = z / 2 ^ r % 2 := by
  have hp : (0 : Int) < 2 ^ r := Int.pow_pos (by omega)
  have a0 : 0 ≤ z / 2 ^ r := Int.ediv_nonneg h0 (by omega)
  have a1 : z / 2 ^ r ≤ z := Int.ediv_le_self _ h0
  generalize z / 2 ^ r = y at a0 a1 ⊢
  have : wrap64 y = y := by unfold wrap64; omega
  rw [this, and_one y a0 (by omega)]

theorem bitOf_any (x : List Int) (k : Nat) (w : World) (hx : x.length = 20) (hb : Bytes x) (hk : k < 160) :
    Calls Try.prog 13 #[.agg (idc x), .int .i64 k] w fun e w' => e = .returned (.int .i64 (bitAt x k)) ∧ Below w.heap.size w w' := by
  obtain ⟨q, hq⟩ : ∃ q, q = k / 8 := ⟨_, rfl⟩
  obtain ⟨r, hr⟩ : ∃ r, r = k % 8 := ⟨_, rfl⟩
  have q0 : (k : Int) / 8 = (q : Int) := by omega
  have r0 : (k : Int) % 8 = (r : Int) := by omega
  have q1 : q ≤ 19 := by omega
  have r1 : r < 8 := by omega
  obtain ⟨t, ht⟩ : ∃ t, t = 19 - q := ⟨_, rfl⟩
  have t0 : (19 : Int) - (q : Int) = (t : Int) := by omega
  have t1 : t < 20 := by omega
  obtain ⟨z, hz⟩ : ∃ z, z = x.getD t 0 := ⟨_, rfl⟩
  have HZ : Hid (bitAt x k = z / 2 ^ r % 2) := by show _ = _; unfold bitAt; rw [hz, ht, hq, hr]
  have hzb := hb t
  rw [← hz] at hzb
  have hc : (w.alloc (.cells (idc x) 26)).cell? ⟨w.heap.size, t, none⟩ = some (.int .u8 z) := by rw [hz]; exact cell_idc' (heap_alloc_new w _) (by omega)
  have HB : Hid (0 ≤ z ∧ z < 256) := hzb
  clear hk hx hq hr ht hb hz hzb
  go_enter Try.func13, Try.ntmps13
  go_upto_region 1 with fail
  go_wp2
  go_ret
  refine ⟨?_, below_alloc _ _⟩
  show Ending.returned (.int .i64 (bits .and .i64 (wrap64 (z / 2 ^ r)) 1)) = _
  rw [shifted_bit z r HB.out.1 HB.out.2, HZ.out]

set_option maxHeartbeats 4000000 in
set_option maxRecDepth 20000 in
theorem law3_any (c : Int) (ao : Option Addr) (n cp : Nat) (l : List Int) (w : World) (hn : l.length = n) (hnm : n ≤ maxLen) (hl : HasZ w ao l) (hby : Bytes l) (hnil : ao = none → n = 0 ∧ cp = 0) :
    Calls Try.prog 3 #[.int .i64 c, .slice ao n cp] w fun e w' => e = .returned (.bool true) ∧ Below w.heap.size w w' := by
  have hB := bytes3_any ao n cp c w hnm
  by_cases hbig : n ≤ 1048576
  · have hd0 : decide (n ≤ 1048576) = true := by simpa using hbig
    rw [hd0] at hB
    by_cases hcd : 0 ≤ c ∧ c ≤ 160
    · obtain ⟨c0, c1⟩ := hcd
      obtain ⟨C, rfl⟩ := Int.eq_ofNat_of_zero_le c0
      have c2 : C ≤ 160 := by omega
      clear c0 c1
      have hC := clone_any ao n cp l w hn (by omega) hl hnil
      have HN : Hid (l.length = n) := hn
      have HBY : Hid (Bytes l) := hby
      clear hd0 hnm hn hl hnil hby
      go_enter Try.func3, Try.ntmps3
      go_wp2_with fail
      refine hB.mono ?_
      rintro e w1 ⟨rfl, hw⟩
      obtain rfl := hw.symm
      clear hB
      go_wp2_with fail
      refine hC.mono ?_
      rintro e w1 ⟨a', c', rfl, hl1, hb1, hnc, hcm⟩
      clear hC hw
      have HL1 : Hid (HasZ w1 a' l) := hl1
      clear hl1
      go_wp2_with fail
      refine (space_any C _).mono ?_
      rintro e wx ⟨rfl, rfl⟩
      obtain ⟨m, hm⟩ : ∃ m, m = red C l := ⟨_, rfl⟩
      have hbS := below_alloc w1 (.cells #[.int .i64 (C : Int)] 28)
      have hR := reduce_any a' n c' l C _ HN.out hnc (by unfold maxLen; omega) c2 (HL1.out.below hbS) (by omega) HBY.out
      rw [← hm] at hR
      have hml : m.length = 20 := by rw [hm]; exact red_length C l c2
      have HMB : Hid (Bytes m) := by rw [hm]; exact red_bytes C l HBY.out c2
      have HBIT : Hid (∀ k, k < 160 → bitAt m k = if k < C ∧ k / 8 < n then l.getD (n - 1 - k / 8) 0 / 2 ^ (k % 8) % 2 else 0) := by
        show ∀ k, _
        intro k hk
        rw [hm, red_bit C l HBY.out c2 k hk, HN.out]
      have hms : (idc m).size = 20 := by rw [idc_size, hml]
      have hst := store_new m hml
      clear hm
      generalize w1.alloc (.cells #[.int .i64 (C : Int)] 28) = W1 at hbS hR ⊢
      go_wp2_with fail
      refine hR.mono ?_
      rintro e w2 ⟨rfl, hb2⟩
      clear hR
      go_upto_region 9 with fail
      have HM : Hid ((w2.alloc (.cells (idc m) 26)).heap[w2.heap.size]? = some (.cells (idc m) 26 (0, 0))) := heap_alloc_new _ _
      have hb3 := below_next hbS (below_next hb2 (below_alloc w2 (.cells (idc m) 26)))
      generalize w2.alloc (.cells (idc m) 26) = W2 at HM hb3 ⊢
      generalize w2.heap.size = g5 at HM ⊢
      have HL2 : Hid (HasZ W2 a' l) := HL1.out.below hb3
      have hb0 := below_next hb1 hb3
      clear HL1 hbS hb1 hb2 hb3 hst
      go_wp2_with fail
      go_loopw [6] (fun iv wr => ∃ k : Nat, iv = .int .i64 k ∧ k ≤ 160 ∧ Below W2.heap.size W2 wr) (fun iv _ => 160 - (intOf iv).toNat)
      case atStart => exact ⟨0, rfl, Nat.zero_le _, Below.refl _ _⟩
      case round =>
        obtain ⟨k, rfl, hk, hbk⟩ := hrel
        by_cases hlt : k < 160
        · have hBO := bitOf_any m k wr hml HMB.out hlt
          rw [HBIT.out k hlt] at hBO
          have MR := hid_below HM hbk
          have HLr := HL2.out.below hbk
          obtain ⟨q, hq⟩ : ∃ q, q = k / 8 := ⟨_, rfl⟩
          obtain ⟨r, hr⟩ : ∃ r, r = k % 8 := ⟨_, rfl⟩
          have q0 : (k : Int) / 8 = (q : Int) := by omega
          have r0 : (k : Int) % 8 = (r : Int) := by omega
          have r1 : r < 8 := by omega
          have q1 : q < 20 := by omega
          rw [← hq, ← hr] at hBO
          by_cases h1 : k < C
          · by_cases h2 : q < n
            · rw [if_pos ⟨h1, h2⟩] at hBO
              obtain ⟨t, ht⟩ : ∃ t, t = n - 1 - q := ⟨_, rfl⟩
              rw [← ht] at hBO
              have t0 : (n : Int) - 1 - (q : Int) = (t : Int) := by omega
              have t1 : t < n := by omega
              obtain ⟨g, o, e, hc⟩ := HLr (by rw [HN.out]; omega)
              cases e
              have hck := hc t (by rw [HN.out]; omega)
              obtain ⟨z, hz⟩ : ∃ z, z = l.getD t 0 := ⟨_, rfl⟩
              have hzb := HBY.out t
              rw [← hz] at hck hzb hBO
              have hsb := shifted_bit z r hzb.1 hzb.2
              generalize z / 2 ^ r % 2 = bt at hsb hBO
              clear hq hr ht hz hzb hc
              go_upto_region 15 with fail
              go_wp2_with (first | (refine wpList_load_row rfl 26 _ rfl g5 rfl 26 _ (0, 0) _ MR.out Try.underlying26 rfl (size20 hml) ?_) | (go_at_call 13; refine hBO.mono ?_; rintro e w3 ⟨rfl, hb3⟩))
              refine ⟨⟨k + 1, by go_num, by omega, below_next hbk hb3⟩, ?_⟩
              simp [intOf]
              omega
            · rw [if_neg (fun h => h2 h.2)] at hBO
              clear hq hr HLr
              go_upto_region 15 with fail
              go_wp2_with (first | (refine wpList_load_row rfl 26 _ rfl g5 rfl 26 _ (0, 0) _ MR.out Try.underlying26 rfl (size20 hml) ?_) | (go_at_call 13; refine hBO.mono ?_; rintro e w3 ⟨rfl, hb3⟩))
              refine ⟨⟨k + 1, by go_num, by omega, below_next hbk hb3⟩, ?_⟩
              simp [intOf]
              omega
          · rw [if_neg (fun h => h1 h.1)] at hBO
            clear hq hr HLr
            go_upto_region 15 with fail
            go_wp2_with (first | (refine wpList_load_row rfl 26 _ rfl g5 rfl 26 _ (0, 0) _ MR.out Try.underlying26 rfl (size20 hml) ?_) | (go_at_call 13; refine hBO.mono ?_; rintro e w3 ⟨rfl, hb3⟩))
            refine ⟨⟨k + 1, by go_num, by omega, below_next hbk hb3⟩, ?_⟩
            simp [intOf]
            omega
        · obtain rfl : k = 160 := by omega
          go_wp2
          go_ret
          exact ⟨rfl, below_next hb0 hbk⟩
    · have HX : Hid (¬ (0 ≤ c ∧ c ≤ 160)) := hcd
      clear hd0 hnm hn hl hnil hcd
      by_cases c0 : 0 ≤ c
      · have c1 : 160 < c := by have := HX.out; omega
        go_enter Try.func3, Try.ntmps3
        go_wp2_with (go_at_call 9; refine hB.mono ?_; rintro e w1 ⟨rfl, hw⟩; obtain rfl := hw.symm)
        all_goals (go_ret; exact ⟨rfl, Below.refl _ _⟩)
      · go_enter Try.func3, Try.ntmps3
        go_wp2_with (go_at_call 9; refine hB.mono ?_; rintro e w1 ⟨rfl, hw⟩; obtain rfl := hw.symm)
        all_goals (go_ret; exact ⟨rfl, Below.refl _ _⟩)
  · have hd0 : decide (n ≤ 1048576) = false := by simpa using hbig
    rw [hd0] at hB
    clear hd0 hnm hn hl hnil
    go_enter Try.func3, Try.ntmps3
    go_wp2_with (go_at_call 9; refine hB.mono ?_; rintro e w1 ⟨rfl, hw⟩; obtain rfl := hw.symm)
    go_ret
    exact ⟨rfl, Below.refl _ _⟩
end Go.Proofs.Qxb6003645a
