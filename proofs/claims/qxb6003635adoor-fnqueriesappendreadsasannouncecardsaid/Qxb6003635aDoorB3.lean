import Derived.Test.Qxb6003635aDoorB2
namespace Go.Proofs.Qxb6003635aDoor
open Go.RowKit Go.Sort
set_option linter.unusedVariables false

set_option maxHeartbeats 1000000 in
theorem dstUint_small (B u : Nat) (hu : u < 100) (v : Value) (l : List UInt8) (w : World) (hown : w.ownsRow B 5 1 v l.length (Lib.byteCells l)) (hB : B ≤ w.heap.size) (hlim : l.length ≤ 1000000000) :
    Calls Tryd.prog 22 #[v, .int .u64 u, .int .i64 10] w fun e w' => ∃ v', e = .returned v' ∧ Dst B w v.ownBlock w' v' (l ++ Lib.decDigits u) := by
  have hlen : (Lib.decDigits u).length ≤ 2 := by
    rw [Lib.decDigits_length]
    by_cases h10 : u < 10
    · rw [Lib.nDigits_small h10]; omega
    · rw [Lib.nDigits_big h10, Lib.nDigits_small (show u / 10 < 10 by omega)]; omega
  have hsz : (⟨(Lib.decDigits u).toArray⟩ : ByteArray).size = (Lib.decDigits u).length := by simp [ByteArray.size]
  go_enter Tryd.func22, Tryd.ntmps22
  go_wp2_with (first
    | (go_at_call 23; refine (Tryd.internal_strconv_small u hu _).mono ?_; rintro e w' ⟨rfl, rfl⟩)
    | (at_builtin; refine wpList_dst_string _ rfl _ _ rfl B _ l rfl hown ⟨(Lib.decDigits u).toArray⟩ rfl ?c1 hB ?_))
  case c1 => rw [hsz]; omega
  intro v' w1 hd
  go_wp2
  go_ret
  exact ⟨v', rfl, hd⟩

set_option maxHeartbeats 2000000 in
set_option maxRecDepth 100000 in
theorem dstUint_big (B u : Nat) (hu : 100 ≤ u) (hu64 : u < 18446744073709551616) (v : Value) (l : List UInt8) (w : World) (hown : w.ownsRow B 5 1 v l.length (Lib.byteCells l)) (hB : B ≤ w.heap.size) (hlim : l.length ≤ 1000000000) (htab : Lib.TabIs Tryd.prog w pow10Name .u64 Lib.pow10Tab) :
    Calls Tryd.prog 22 #[v, .int .u64 u, .int .i64 10] w fun e w' => ∃ v', e = .returned v' ∧ Dst B w v.ownBlock w' v' (l ++ Lib.decDigits u) := by
  have hu1 : 1 ≤ u := by omega
  have hnd20 : Lib.nDigits u ≤ 20 := by have := Lib.numDigits_eq u hu1 hu64; split at this <;> omega
  have hal : Tryd.prog.arrayLen 47 = 24 := by simp [Program.arrayLen, Tryd.underlying47]
  have hsl : ∀ W, (Instr.sliceAt 47 (.pointer (some ⟨w.heap.size, 0, none⟩)) none (some (.int .i64 (Lib.nDigits u : Int))) none).run Tryd.prog W = .ok (.slice (some ⟨w.heap.size, 0, none⟩) (Lib.nDigits u) 24) W := fun W => by
    rw [run_sliceAt_array_h W 47 ⟨w.heap.size, 0, none⟩ (by simp [Program.arrayLen, Program.elem, Tryd.underlying47]) .i64 (Lib.nDigits u : Int) (by omega) (by rw [hal]; omega)]
    go_simp
  have hH0 := Lib.holds_zero0 w 47 (Lib.nDigits u) (by omega)
  have hfmt := Tryd.internal_strconv_formatBase10 w.heap.size 0 24 u (Array.replicate (Lib.nDigits u) 0) (w.alloc (.cells Lib.zeros24 47)) hH0 (by rw [Array.size_replicate]; exact Lib.lt_pow_nDigits u) hu64 (by rw [Array.size_replicate]; omega)
  rw [Array.size_replicate] at hfmt
  have HH0 := Lib.hid hH0
  have iu : (100 : Int) ≤ (u : Int) := by omega
  clear hH0 hal
  go_enter Tryd.func22, Tryd.ntmps22
  go_wp2_with (first
    | (go_at_call 24; refine (Tryd.internal_strconv_numDigits u hu1 hu64 _ (Lib.tabIs_alloc htab _)).mono ?_; rintro e w' ⟨rfl, rfl⟩))
  go_at_call 25
  refine hfmt.mono ?_
  rintro e w' ⟨rfl, k, v', dk, rfl, hF⟩
  have hcells : RowB ((putRow (fun (b : UInt8) => Value.int .u8 (b.toNat : Int)) (w.alloc (.cells Lib.zeros24 47)) w.heap.size 0 dk).drewN k) w.heap.size 0 (Lib.decDigits u) := by
    intro j hjl
    rw [World.cell?_drewN, show (Lib.decDigits u).getD j 0 = (Lib.decDigits u)[j] from by simp [hjl], Lib.row_is_numeral hF j hjl]
    exact cell?_putRow (fun (b : UInt8) => Value.int .u8 (b.toNat : Int)) _ w.heap.size 0 _ dk HH0.out (by rw [hF.size, Array.size_replicate]) j (by rw [hF.size]; rw [Lib.decDigits_length] at hjl; exact hjl)
  obtain ⟨os, eo⟩ := Lib.fin_at w (.cells Lib.zeros24 47) dk k 0
  have hnx2 : Below w.heap.size w ((putRow (fun (b : UInt8) => Value.int .u8 (b.toNat : Int)) (w.alloc (.cells Lib.zeros24 47)) w.heap.size 0 dk).drewN k) := by rw [eo]; exact Lib.below_grow _ w (Nat.le_refl _) k os
  generalize (putRow (fun (b : UInt8) => Value.int .u8 (b.toNat : Int)) (w.alloc (.cells Lib.zeros24 47)) w.heap.size 0 dk).drewN k = W2 at hcells hnx2 ⊢
  clear eo HH0 hfmt
  have hD := (Dst.start hown).on hnx2
  have hsz := hnx2.size
  go_wp2_with (at_builtin; refine wpList_dst_slice _ rfl _ _ rfl B _ l rfl hD.own w.heap.size (Lib.decDigits u) (Lib.nDigits u) 24 rfl ?c1 hcells ?c2 ?c3 ?_)
  case c1 => rw [Lib.decDigits_length]
  case c2 => omega
  case c3 => omega
  intro v' w1 hd
  go_wp2
  go_ret
  exact ⟨v', rfl, hD.trans hd⟩

theorem dstUint (B u : Nat) (hu64 : u < 18446744073709551616) (v : Value) (l : List UInt8) (w : World) (hown : w.ownsRow B 5 1 v l.length (Lib.byteCells l)) (hB : B ≤ w.heap.size) (hlim : l.length ≤ 1000000000) (htab : Lib.TabIs Tryd.prog w pow10Name .u64 Lib.pow10Tab) :
    Calls Tryd.prog 22 #[v, .int .u64 u, .int .i64 10] w fun e w' => ∃ v', e = .returned v' ∧ Dst B w v.ownBlock w' v' (l ++ Lib.decDigits u) := by
  by_cases h : u < 100
  · exact dstUint_small B u h v l w hown hB hlim
  · exact dstUint_big B u (by omega) hu64 v l w hown hB hlim htab

set_option maxHeartbeats 1000000 in
/-- strconv.AppendInt(dst, u, 10), u not negative. -/
theorem dstInt (B : Nat) (u : Int) (hu0 : 0 ≤ u) (hu : u < 9223372036854775808) (v : Value) (l : List UInt8) (w : World) (hown : w.ownsRow B 5 1 v l.length (Lib.byteCells l)) (hB : B ≤ w.heap.size) (hlim : l.length ≤ 1000000000) (htab : Lib.TabIs Tryd.prog w pow10Name .u64 Lib.pow10Tab) :
    Calls Tryd.prog 16 #[v, .int .i64 u, .int .i64 10] w fun e w' => ∃ v', e = .returned v' ∧ Dst B w v.ownBlock w' v' (l ++ Lib.decDigits u.toNat) := by
  have H := dstUint B u.toNat (by omega) v l w hown hB hlim htab
  rw [Int.toNat_of_nonneg hu0] at H
  have hwr : IntKind.u64.wrap u = u := by rw [IntKind.wrap_u64]; omega
  clear htab hu
  go_enter Tryd.func16, Tryd.ntmps16
  go_wp2_with (first | (go_at_call 20; go_in) | (go_at_call 22; refine H.mono ?_; rintro e w' ⟨v', rfl, h1⟩))
  go_ret
  exact ⟨v', rfl, h1⟩
end Go.Proofs.Qxb6003635aDoor
