import Derived.Test.Qxb6003645aPlain
namespace Go.Proofs.Qxb6003645a

/-! A row of bytes as a number, the highest byte ahead. No program in sight. -/

def val : List Int → Int
  | [] => 0
  | x :: xs => x * 256 ^ xs.length + val xs

/-- 1 at place k - 1 (times ch), carried or borrowed to the left. -/
def carry : Nat → Int → List Int → List Int
  | 0, _, x => x
  | k + 1, ch, x => if ch = 0 then x else carry k ((x.getD k 0 + ch) / 256) (x.set k ((x.getD k 0 + ch) % 256))

/-- n + sgn * 2^i on twenty bytes. -/
def shl (i : Nat) (sgn : Int) (x : List Int) : List Int := carry (20 - i / 8) (sgn * 2 ^ (i % 8)) x

theorem bytes_tail {x : Int} {xs : List Int} (h : Bytes (x :: xs)) : (0 ≤ x ∧ x < 256) ∧ Bytes xs :=
  ⟨by simpa using h 0, fun j => by simpa using h (j + 1)⟩

theorem pow256_pos (n : Nat) : (0 : Int) < 256 ^ n := Int.pow_pos (by omega)

theorem val_bounds : ∀ (x : List Int), Bytes x → 0 ≤ val x ∧ val x < 256 ^ x.length
  | [], _ => by simp [val]
  | x :: xs, h => by
    obtain ⟨⟨h0, h1⟩, ht⟩ := bytes_tail h
    have ih := val_bounds xs ht
    have hp := pow256_pos xs.length
    have e : (256 : Int) ^ (x :: xs).length = 256 * 256 ^ xs.length := by rw [List.length_cons, Int.pow_succ, Int.mul_comm]
    rw [e]
    simp only [val]
    have a1 : 0 ≤ x * 256 ^ xs.length := Int.mul_nonneg h0 (Int.le_of_lt hp)
    have a2 : x * 256 ^ xs.length ≤ 255 * 256 ^ xs.length := Int.mul_le_mul_of_nonneg_right (by omega) (Int.le_of_lt hp)
    have a3 : (256 : Int) * 256 ^ xs.length = 255 * 256 ^ xs.length + 256 ^ xs.length := by omega
    omega

theorem val_inj : ∀ (x y : List Int), x.length = y.length → Bytes x → Bytes y → val x = val y → x = y
  | [], [], _, _, _, _ => rfl
  | x :: xs, y :: ys, hl, hx, hy, he => by
    obtain ⟨_, htx⟩ := bytes_tail hx
    obtain ⟨_, hty⟩ := bytes_tail hy
    have hl' : xs.length = ys.length := by simpa using hl
    have bx := val_bounds xs htx
    have by' := val_bounds ys hty
    simp only [val] at he
    rw [← hl'] at he by'
    have hp := pow256_pos xs.length
    generalize (256 : Int) ^ xs.length = W at *
    have exy : x = y := by
      have e1 : (x * W + val xs) / W = x := by rw [Int.add_comm, Int.add_mul_ediv_right _ _ (by omega), Int.ediv_eq_zero_of_lt bx.1 bx.2]; omega
      have e2 : (y * W + val ys) / W = y := by rw [Int.add_comm, Int.add_mul_ediv_right _ _ (by omega), Int.ediv_eq_zero_of_lt by'.1 by'.2]; omega
      rw [← e1, he, e2]
    subst exy
    have ev : val xs = val ys := by omega
    rw [val_inj xs ys hl' htx hty ev]
  | [], _ :: _, hl, _, _, _ => by simp at hl
  | _ :: _, [], hl, _, _, _ => by simp at hl

theorem val_set : ∀ (x : List Int) (k : Nat) (z : Int), k < x.length → val (x.set k z) = val x + (z - x.getD k 0) * 256 ^ (x.length - 1 - k)
  | [], _, _, h => by simp at h
  | x :: xs, 0, z, _ => by
    simp only [List.set_cons_zero, val, List.getD_cons_zero, List.length_cons, Nat.add_sub_cancel, Nat.sub_zero]
    rw [Int.sub_mul]
    omega
  | x :: xs, k + 1, z, h => by
    have hk : k < xs.length := by simpa using h
    have ih := val_set xs k z hk
    simp only [List.set_cons_succ, val, List.getD_cons_succ, List.length_set, List.length_cons, Nat.add_sub_cancel]
    rw [ih, show xs.length - (k + 1) = xs.length - 1 - k by omega]
    omega

theorem bytes_set {x : List Int} (h : Bytes x) (k : Nat) {z : Int} (h0 : 0 ≤ z) (h1 : z < 256) : Bytes (x.set k z) := fun j => by
  rw [getD_set]
  split
  · exact ⟨h0, h1⟩
  · exact h j

theorem carry_length : ∀ (k : Nat) (ch : Int) (x : List Int), (carry k ch x).length = x.length
  | 0, _, _ => rfl
  | k + 1, ch, x => by
    simp only [carry]
    split
    · rfl
    · rw [carry_length k]; simp

theorem carry_bytes : ∀ (k : Nat) (ch : Int) (x : List Int), Bytes x → Bytes (carry k ch x)
  | 0, _, _, h => h
  | k + 1, ch, x, h => by
    simp only [carry]
    split
    · exact h
    · exact carry_bytes k _ _ (bytes_set h k (by omega) (by omega))

/-- What the carry comes to, up to a multiple of 2^160. -/
theorem carry_val : ∀ (k : Nat) (ch : Int) (x : List Int), x.length = 20 → k ≤ 20 → Bytes x → ∃ c : Int, val (carry k ch x) = val x + ch * 256 ^ (20 - k) - c * 256 ^ 20
  | 0, ch, x, _, _, _ => ⟨ch, by simp only [carry, Nat.sub_zero]; omega⟩
  | k + 1, ch, x, hl, hk, hb => by
    simp only [carry]
    split
    · rename_i h0
      exact ⟨0, by rw [h0]; omega⟩
    · obtain ⟨c, hc⟩ := carry_val k ((x.getD k 0 + ch) / 256) (x.set k ((x.getD k 0 + ch) % 256)) (by simp [hl]) (by omega) (bytes_set hb k (by omega) (by omega))
      refine ⟨c, ?_⟩
      rw [hc, val_set x k _ (by omega), hl]
      have e1 : 20 - k = (20 - 1 - k) + 1 := by omega
      have e2 : 20 - (k + 1) = 20 - 1 - k := by omega
      rw [e1, e2, Int.pow_succ]
      generalize (256 : Int) ^ (20 - 1 - k) = W
      have e3 : (x.getD k 0 + ch) % 256 - x.getD k 0 = ch - 256 * ((x.getD k 0 + ch) / 256) := by omega
      rw [e3]
      generalize (x.getD k 0 + ch) / 256 = q
      have e4 : (ch - 256 * q) * W = ch * W - q * (W * 256) := by rw [Int.sub_mul]; congr 1; rw [Int.mul_comm 256 q, Int.mul_assoc, Int.mul_comm 256 W]
      rw [e4]
      omega

theorem pow256_two (n : Nat) : (256 : Int) ^ n = 2 ^ (8 * n) := by
  rw [show (256 : Int) = 2 ^ 8 from rfl, ← Int.pow_mul]

theorem shl_val (i : Nat) (sgn : Int) (x : List Int) (hl : x.length = 20) (hb : Bytes x) : ∃ c : Int, val (shl i sgn x) = val x + sgn * 2 ^ i + c * 2 ^ 160 := by
  unfold shl
  obtain ⟨c, hc⟩ := carry_val (20 - i / 8) (sgn * 2 ^ (i % 8)) x hl (by omega) hb
  have e160 : (256 : Int) ^ 20 = 2 ^ 160 := pow256_two 20
  by_cases h : i / 8 ≤ 20
  · refine ⟨-c, ?_⟩
    rw [hc, e160, show 20 - (20 - i / 8) = i / 8 by omega, pow256_two, Int.mul_assoc, ← Int.pow_add, show i % 8 + 8 * (i / 8) = i by omega, Int.neg_mul]
    omega
  · have e0 : 20 - i / 8 = 0 := by omega
    rw [e0]
    simp only [carry]
    refine ⟨-(sgn * 2 ^ (i - 160)), ?_⟩
    rw [Int.neg_mul, Int.mul_assoc, ← Int.pow_add, show i - 160 + 160 = i by omega]
    omega

theorem shl_length (i : Nat) (sgn : Int) (x : List Int) : (shl i sgn x).length = x.length := carry_length _ _ _
theorem shl_bytes (i : Nat) (sgn : Int) (x : List Int) (h : Bytes x) : Bytes (shl i sgn x) := carry_bytes _ _ _ h

theorem val_append : ∀ (a b : List Int), val (a ++ b) = val a * 256 ^ b.length + val b
  | [], b => by simp [val]
  | x :: a, b => by
    simp only [List.cons_append, val, val_append a b, List.length_append]
    rw [Int.pow_add, Int.add_mul, Int.mul_assoc]
    omega

theorem val_zeros (n : Nat) : val (List.replicate n 0) = 0 := by
  induction n with
  | zero => rfl
  | succ n ih => rw [List.replicate_succ]; simp [val, ih]

/-- Clearing the high bits is taking the rest of a division. -/
theorem maskL_val (h : Nat) (x : List Int) (hx : x.length = 20) (hb : Bytes x) (hh : h ≤ 160) : val (maskL h x) = val x % 2 ^ (160 - h) := by
  by_cases h20 : h / 8 = 20
  · have e : 160 - h = 0 := by omega
    have em : maskL h x = List.replicate 20 0 := by
      unfold maskL zeroTo
      rw [h20, List.drop_of_length_le (by omega), List.append_nil, List.set_eq_of_length_le (by simp)]
    rw [em, val_zeros, e]
    omega
  · have hq : h / 8 < 20 := by omega
    obtain ⟨q, hqd⟩ : ∃ q, q = h / 8 := ⟨_, rfl⟩
    rw [← hqd] at hq
    obtain ⟨y, hy⟩ : ∃ y, y = x.getD q 0 := ⟨_, rfl⟩
    have hxs : x = x.take q ++ y :: x.drop (q + 1) := by
      rw [hy, List.getD_eq_getElem?_getD, List.getElem?_eq_getElem (by omega)]
      simp
    have hld : (x.drop (q + 1)).length = 19 - q := by rw [List.length_drop]; omega
    have hms : maskL h x = List.replicate q 0 ++ (y % 2 ^ (8 - h % 8)) :: x.drop (q + 1) := by
      unfold maskL zeroTo
      rw [← hqd, ← hy]
      have hdr : x.drop q = y :: x.drop (q + 1) := by
        rw [List.drop_eq_getElem_cons (by omega), hy, List.getD_eq_getElem?_getD, List.getElem?_eq_getElem (by omega)]
        simp
      rw [hdr, List.set_append_right _ _ (by simp)]
      simp
    have hB : Bytes (x.drop (q + 1)) := fun j => by
      have := hb (q + 1 + j)
      rw [List.getD_eq_getElem?_getD] at this
      rw [List.getD_eq_getElem?_getD, List.getElem?_drop]
      exact this
    have bB := val_bounds _ hB
    have e1 : val (maskL h x) = (y % 2 ^ (8 - h % 8)) * 256 ^ (19 - q) + val (x.drop (q + 1)) := by
      rw [hms, val_append, val_zeros]
      simp only [val, hld]
      omega
    have e2 : val x = (val (x.take q) * 256 + y) * 256 ^ (19 - q) + val (x.drop (q + 1)) := by
      have e3 : val x = val (x.take q ++ y :: x.drop (q + 1)) := by rw [← hxs]
      rw [e3, val_append]
      simp only [val, List.length_cons, hld]
      rw [Int.pow_succ, Int.add_mul, Int.mul_assoc, Int.mul_comm (256 ^ (19 - q)) 256]
      omega
    rw [hld] at bB
    have ep : (2 : Int) ^ (160 - h) = 256 ^ (19 - q) * 2 ^ (8 - h % 8) := by
      rw [pow256_two, ← Int.pow_add]
      congr 1
      omega
    rw [e1, e2, ep]
    have hW := pow256_pos (19 - q)
    have hM : (0 : Int) < 2 ^ (8 - h % 8) := Int.pow_pos (by omega)
    have hdv : ∃ d : Int, (256 : Int) = 2 ^ (8 - h % 8) * d := ⟨2 ^ (h % 8), by rw [← Int.pow_add, show 8 - h % 8 + h % 8 = 8 by omega]; rfl⟩
    obtain ⟨d, hd⟩ := hdv
    generalize val (x.take q) = A at *
    generalize val (x.drop (q + 1)) = B at *
    generalize (256 : Int) ^ (19 - q) = W at *
    generalize (2 : Int) ^ (8 - h % 8) = M at *
    symm
    have hy' : (A * 256 + y) % M = y % M := by
      rw [hd, show A * (M * d) + y = y + M * (A * d) by rw [Int.add_comm]; congr 1; rw [← Int.mul_assoc, Int.mul_comm A M, Int.mul_assoc], Int.add_mul_emod_self_left]
    rw [← hy']
    generalize A * 256 + y = Y
    have h1 : Y * W + B = (Y % M) * W + B + (W * M) * (Y / M) := by
      have := Int.emod_add_mul_ediv Y M
      have e5 : Y * W = (Y % M + M * (Y / M)) * W := by rw [this]
      rw [e5, Int.add_mul]
      have e6 : M * (Y / M) * W = W * M * (Y / M) := by rw [Int.mul_comm (M * (Y / M)) W, Int.mul_assoc]
      omega
    rw [h1, Int.add_mul_emod_self_left]
    have r0 := Int.emod_nonneg Y (Int.ne_of_gt hM)
    have r1 := Int.emod_lt_of_pos Y hM
    have r2 : Y % M * W + W ≤ W * M := by
      have : (Y % M + 1) * W ≤ M * W := Int.mul_le_mul_of_nonneg_right (by omega) (Int.le_of_lt hW)
      rw [Int.add_mul, Int.one_mul, Int.mul_comm M W] at this
      exact this
    have r3 : 0 ≤ Y % M * W := Int.mul_nonneg r0 (Int.le_of_lt hW)
    exact Int.emod_eq_of_lt (by omega) (by omega)

theorem red_val (bits : Nat) (x : List Int) (hx : x.length = 20) (hb : Bytes x) (hw : bits ≤ 160) : val (red bits x) = val x % 2 ^ bits := by
  unfold red
  rw [pad20_self x hx, maskL_val (160 - bits) x hx hb (by omega), show 160 - (160 - bits) = bits by omega]

theorem mod_of_shift (bits : Nat) (hw : bits ≤ 160) (a c : Int) : (a + c * 2 ^ 160) % 2 ^ bits = a % 2 ^ bits := by
  rw [show (2 : Int) ^ 160 = 2 ^ bits * 2 ^ (160 - bits) by rw [← Int.pow_add, show bits + (160 - bits) = 160 by omega], ← Int.mul_assoc, Int.mul_comm c, Int.mul_assoc, Int.add_mul_emod_self_left]

theorem shift_val (bits i : Nat) (sgn : Int) (x : List Int) (hx : x.length = 20) (hb : Bytes x) (hw : bits ≤ 160) : val (red bits (shl i sgn x)) = (val x + sgn * 2 ^ i) % 2 ^ bits := by
  rw [red_val bits _ (by rw [shl_length, hx]) (shl_bytes i sgn x hb) hw]
  obtain ⟨c, hc⟩ := shl_val i sgn x hx hb
  rw [hc, mod_of_shift bits hw]

/-- Up and down again, down and up again; and what moves. -/
theorem shift_law (bits i : Nat) (n : List Int) (hn : n.length = 20) (hb : Bytes n) (hw : bits ≤ 160) :
    red bits (shl i (-1) (red bits (shl i 1 (red bits n)))) = red bits n ∧ red bits (shl i 1 (red bits (shl i (-1) (red bits n)))) = red bits n ∧ ((red bits (shl i 1 (red bits n)) = red bits n) ↔ bits ≤ i) := by
  have lm := red_length bits n hw
  have bm := red_bytes bits n hb hw
  have vm := red_val bits n hn hb hw
  have lu := red_length bits (shl i 1 (red bits n)) hw
  have bu := red_bytes bits (shl i 1 (red bits n)) (shl_bytes i 1 _ bm) hw
  have vu := shift_val bits i 1 (red bits n) lm bm hw
  have ld := red_length bits (shl i (-1) (red bits n)) hw
  have bd := red_bytes bits (shl i (-1) (red bits n)) (shl_bytes i (-1) _ bm) hw
  have vd := shift_val bits i (-1) (red bits n) lm bm hw
  have hB : (0 : Int) < 2 ^ bits := Int.pow_pos (by omega)
  have vmm : val (red bits n) % 2 ^ bits = val (red bits n) := by rw [vm]; exact Int.emod_emod_of_dvd _ (Int.dvd_refl _)
  refine ⟨?_, ?_, ?_⟩
  · refine val_inj _ _ (by rw [red_length _ _ hw, lm]) (red_bytes _ _ (shl_bytes _ _ _ bu) hw) bm ?_
    rw [shift_val bits i (-1) _ lu bu hw, vu, Int.emod_add_emod, show val (red bits n) + 1 * 2 ^ i + -1 * 2 ^ i = val (red bits n) by omega, vmm]
  · refine val_inj _ _ (by rw [red_length _ _ hw, lm]) (red_bytes _ _ (shl_bytes _ _ _ bd) hw) bm ?_
    rw [shift_val bits i 1 _ ld bd hw, vd, Int.emod_add_emod, show val (red bits n) + -1 * 2 ^ i + 1 * 2 ^ i = val (red bits n) by omega, vmm]
  · constructor
    · intro e
      have e1 := congrArg val e
      rw [vu] at e1
      rcases Nat.lt_or_ge i bits with hlt | hge
      · exfalso
        have h1 : ((2 : Int) ^ i) % 2 ^ bits = 0 := by
          have : (val (red bits n) + 1 * 2 ^ i - val (red bits n)) % 2 ^ bits = 0 := by
            rw [Int.sub_emod, e1, vmm]; simp
          rwa [show val (red bits n) + 1 * 2 ^ i - val (red bits n) = (2 : Int) ^ i by omega] at this
        have h2 : (2 : Int) ^ i < 2 ^ bits := by
          have := Nat.pow_lt_pow_right (show 1 < 2 by omega) hlt
          exact_mod_cast this
        have h3 : (0 : Int) < 2 ^ i := Int.pow_pos (by omega)
        rw [Int.emod_eq_of_lt (Int.le_of_lt h3) h2] at h1
        omega
      · exact hge
    · intro hge
      refine val_inj _ _ (by rw [lu, lm]) bu bm ?_
      rw [vu, show (1 : Int) * 2 ^ i = 2 ^ bits * 2 ^ (i - bits) by rw [← Int.pow_add, show bits + (i - bits) = i by omega]; omega, Int.add_mul_emod_self_left, vmm]
end Go.Proofs.Qxb6003645a
