import Derived.Test.Qxb6003635aDoorA1
import Derived.Test.Qxb6003635aDoorPlain
namespace Go.Proofs.Qxb6003635aDoor
open Go.RowKit

set_option maxHeartbeats 400000 in
theorem digits_any (g o c n : Nat) (l : List UInt8) (want : Int) (w : World) (hl : l.length = n) (hc : RowB w g o l) (hn : n ≤ 10000000) (hd : Dig l) (hv : (dv l : Int) = want) (hw : want < 18446744073709551616) :
    Calls Tryd.prog 21 #[.slice (some ⟨g, o, none⟩) n c, .int .u64 want] w fun e w' => e = .returned (.bool true) ∧ w' = w := by
  have HV : Hid ((dv l : Int) = want) := hv
  have HL : Hid (l.length = n) := hl
  have HW : Hid (want < 18446744073709551616) := hw
  clear hv hl hw
  go_enter Tryd.func21, Tryd.ntmps21
  go_wp2
  go_loop [5, 6] (fun v i => ∃ (k : Nat) (a : Int), k ≤ n ∧ i = .int .i64 k ∧ v = .int .u64 a ∧ Hid (a = dv (l.take k)) ∧ 0 ≤ a) (fun _ i => n - (intOf i).toNat)
  case atStart => exact ⟨0, 0, Nat.zero_le _, rfl, rfl, rfl, by omega⟩
  case round =>
    obtain ⟨k, a, hk, rfl, rfl, ha, ha0⟩ := hrel
    by_cases hlt : k < n
    · have hll : k < l.length := by rw [HL.out]; exact hlt
      have hck := hc k hll
      obtain ⟨d, hd0⟩ : ∃ d : Int, d = ((l.getD k 0).toNat : Int) := ⟨_, rfl⟩
      rw [← hd0] at hck
      have hdk := hd (l.getD k 0) (by rw [List.getD_eq_getElem?_getD, List.getElem?_eq_getElem hll]; exact List.getElem_mem _)
      have hd1 : 48 ≤ d := by omega
      have hd2 : d ≤ 57 := by omega
      have hs := dv_take_succ l k hll
      have ht := dv_take_le l (k + 1)
      have hsum : a * 10 + (d - 48) = (dv (l.take (k + 1)) : Int) := by rw [ha.out]; omega
      have hle : (dv (l.take (k + 1)) : Int) ≤ want := by rw [← HV.out]; omega
      have hb : a * 10 + (d - 48) < 18446744073709551616 := by have := HW.out; omega
      have HS : Hid (a * 10 + (d - 48) = (dv (l.take (k + 1)) : Int)) := hsum
      clear hsum hle ht hs hdk hd0 hll ha
      go_wp2
      go_round
      case rel => exact ⟨k + 1, _, by omega, by go_num, rfl, HS, by omega⟩
      case measure => simp [intOf]; omega
    · have haw : a = want := by
        have h1 := ha.out
        rw [List.take_of_length_le (by rw [HL.out]; omega)] at h1
        rw [h1]; exact HV.out
      have hab : (a == want) = true := by simp [haw]
      clear haw
      go_wp2
      go_ret
      exact ⟨rfl, rfl⟩

set_option maxHeartbeats 400000 in
theorem minimal_any (g o c n : Nat) (l : List UInt8) (want : Int) (w : World) (hl : l.length = n) (hc : RowB w g o l) (hn : n ≤ 10000000) (h0 : 0 < n) (hh : 1 < n → l.getD 0 0 ≠ 48) (hd : Dig l) (hv : (dv l : Int) = want) (hw : want < 18446744073709551616) :
    Calls Tryd.prog 19 #[.slice (some ⟨g, o, none⟩) n c, .int .u64 want] w fun e w' => e = .returned (.bool true) ∧ w' = w := by
  have h0' : ((n : Int) == 0) = false := by simp; omega
  have H := digits_any g o c n l want w hl hc hn hd hv hw
  have hck : w.cell? ⟨g, o, none⟩ = some (.int .u8 ((l.getD 0 0).toNat : Int)) := hc 0 (by omega)
  have hb : 1 < n → (((l.getD 0 0).toNat : Int) == 48) = false := fun h => by
    have := hh h
    have e : (l.getD 0 0).toNat ≠ 48 := fun e => this (by apply UInt8.toNat_inj.1; rw [e]; rfl)
    simp only [beq_eq_false_iff_ne, ne_eq]
    omega
  obtain ⟨d, hd0⟩ : ∃ d : Int, d = ((l.getD 0 0).toNat : Int) := ⟨_, rfl⟩
  rw [← hd0] at hck hb
  clear hd0 hh hd hv hw hc hl
  by_cases h1 : 1 < n
  · have hb' := hb h1
    clear hb
    go_enter Tryd.func19, Tryd.ntmps19
    go_wp2_with (go_at_call 21; refine H.mono ?_; rintro e w' ⟨rfl, rfl⟩)
    go_ret
    exact ⟨rfl, rfl⟩
  · clear hb
    go_enter Tryd.func19, Tryd.ntmps19
    go_wp2_with (go_at_call 21; refine H.mono ?_; rintro e w' ⟨rfl, rfl⟩)
    go_ret
    exact ⟨rfl, rfl⟩

theorem RowB.drewN {w : World} {g o : Nat} {l : List UInt8} (h : RowB w g o l) (m : Nat) : RowB (w.drewN m) g o l := h

theorem RowB.left {w : World} {g o : Nat} {l m : List UInt8} (h : RowB w g o (l ++ m)) : RowB w g o l := fun j hj => by
  have := h j (by rw [List.length_append]; omega)
  rw [this, List.getD_eq_getElem?_getD, List.getD_eq_getElem?_getD, List.getElem?_append_left hj]

theorem RowB.right {w : World} {g o : Nat} {l m : List UInt8} (h : RowB w g o (l ++ m)) : RowB w g (o + l.length) m := fun j hj => by
  have := h (l.length + j) (by rw [List.length_append]; omega)
  rw [Nat.add_assoc, this, List.getD_eq_getElem?_getD, List.getD_eq_getElem?_getD, List.getElem?_append_right (by omega)]
  simp

/-- zzB1Is at equal bytes. -/
theorem is_at (g o c n : Nat) (l : List UInt8) (s : ByteArray) (w : World) (hs : s.data.toList = l) (hn : l.length = n) (hc : RowB w g o l) (hb : n ≤ 100000000) :
    Calls Tryd.prog 17 #[.slice (some ⟨g, o, none⟩) n c, .string s] w fun e w' => e = .returned (.bool true) ∧ ∃ m, w' = w.drewN m := by
  subst hs
  have e : n = s.size := by rw [← hn]; simp
  subst e
  exact is_eq g o c s w hc hb

def tl : List UInt8 := [45, 84, 76, 48, 48, 48, 49, 45]

set_option maxHeartbeats 400000 in
theorem peerID_any (g o c n : Nat) (p : Nat) (w : World) (hn : n = 8 + (pad12 p).length) (hcn : n ≤ c) (hcm : c ≤ maxLen) (hb : n ≤ 1000000) (hc : RowB w g o (tl ++ pad12 p)) (hp : (p : Int) < 9223372036854775808) :
    Calls Tryd.prog 18 #[.slice (some ⟨g, o, none⟩) n c, .int .i64 p] w fun e w' => e = .returned (.bool true) ∧ ∃ m, w' = w.drewN m := by
  have hlen := pad12_len p
  have h20 : 20 ≤ n := by omega
  have H1 : ∀ c', Calls Tryd.prog 17 #[.slice (some ⟨g, o, none⟩) 8 c', .string ⟨#[45, 84, 76, 48, 48, 48, 49, 45]⟩] w fun e w' => e = .returned (.bool true) ∧ ∃ m, w' = w.drewN m :=
    fun c' => is_at g o c' 8 tl _ w rfl rfl hc.left (by omega)
  have hr : RowB w g (o + 8) (pad12 p) := hc.right
  have hdg : ∀ m c', Calls Tryd.prog 21 #[.slice (some ⟨g, o + 8, none⟩) (n - 8) c', .int .u64 p] (w.drewN m) fun e w' => e = .returned (.bool true) ∧ w' = w.drewN m :=
    fun m c' => digits_any g (o + 8) c' (n - 8) (pad12 p) p (w.drewN m) (by omega) hr (by omega) (pad12_dig p) (by rw [pad12_dv]) (by omega)
  have hck : w.cell? ⟨g, o + 8, none⟩ = some (.int .u8 (((pad12 p).getD 0 0).toNat : Int)) := hr 0 (by omega)
  have hhd : ¬ n - 8 = 12 → ((((pad12 p).getD 0 0).toNat : Int) != 48) = true := fun h => by
    have h2 := pad12_head p (by omega)
    have e : ((pad12 p).getD 0 0).toNat ≠ 48 := fun e => h2 (by apply UInt8.toNat_inj.1; rw [e]; rfl)
    rw [bne_iff_ne]; omega
  obtain ⟨d, hd0⟩ : ∃ d : Int, d = (((pad12 p).getD 0 0).toNat : Int) := ⟨_, rfl⟩
  rw [← hd0] at hck hhd
  have HP : Hid ((p : Int) < 9223372036854775808) := hp
  clear hd0 hr hc hlen hn hp
  obtain ⟨q, hq⟩ : ∃ q : Int, q = (p : Int) := ⟨_, rfl⟩
  rw [← hq] at hdg HP ⊢
  have hq0 : 0 ≤ q := by omega
  clear hq
  unfold maxLen at hcm
  have hwr : IntKind.u64.wrap q = q := by rw [IntKind.wrap_u64]; have := HP.out; omega
  by_cases h12 : n - 8 = 12
  · have h12' : (((n - 8 : Nat) : Int) == 12) = true := by rw [h12]; rfl
    clear h12 hhd
    go_enter Tryd.func18, Tryd.ntmps18
    go_wp2_with (first | (go_at_call 17; refine (H1 _).mono ?_; rintro e w' ⟨rfl, m, rfl⟩) | (go_at_call 21; refine (hdg _ _).mono ?_; rintro e w' ⟨rfl, rfl⟩))
    go_ret
    exact ⟨rfl, _, rfl⟩
  · have hb48 := hhd h12
    have h12' : (((n - 8 : Nat) : Int) == 12) = false := by rw [beq_eq_false_iff_ne]; omega
    clear h12 hhd
    go_enter Tryd.func18, Tryd.ntmps18
    go_wp2_with (first | (go_at_call 17; refine (H1 _).mono ?_; rintro e w' ⟨rfl, m, rfl⟩) | (go_at_call 21; refine (hdg _ _).mono ?_; rintro e w' ⟨rfl, rfl⟩))
    go_ret
    exact ⟨rfl, _, rfl⟩
end Go.Proofs.Qxb6003635aDoor
