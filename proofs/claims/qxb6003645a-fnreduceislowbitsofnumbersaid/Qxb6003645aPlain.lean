import GoSem.Core.Value
namespace Go.Proofs.Qxb6003645a

/-! The ring's arithmetic on rows of bytes. No program in sight. -/

/-- x with its first k places zero. -/
def zeroTo (k : Nat) (x : List Int) : List Int := List.replicate k 0 ++ x.drop k

/-- The last twenty bytes, zeros ahead. -/
def pad20 (l : List Int) : List Int := List.replicate (20 - l.length) 0 ++ l.drop (l.length - 20)

/-- The h high bits cleared. -/
def maskL (h : Nat) (x : List Int) : List Int := (zeroTo (h / 8) x).set (h / 8) (x.getD (h / 8) 0 % 2 ^ (8 - h % 8))

/-- Reduce at a width. -/
def red (bits : Nat) (l : List Int) : List Int := maskL (160 - bits) (pad20 l)

/-- Every number is a byte. -/
def Bytes (l : List Int) : Prop := ∀ j, 0 ≤ l.getD j 0 ∧ l.getD j 0 < 256

theorem pad20_length (l : List Int) : (pad20 l).length = 20 := by
  unfold pad20
  rw [List.length_append, List.length_replicate, List.length_drop]
  omega

theorem pad20_at (l : List Int) (i : Nat) (hi : i < 20) : (pad20 l).getD i 0 = if 19 - i < l.length then l.getD (l.length - 1 - (19 - i)) 0 else 0 := by
  unfold pad20
  simp only [List.getD_eq_getElem?_getD]
  by_cases h : i < 20 - l.length
  · rw [List.getElem?_append_left (by rw [List.length_replicate]; exact h), if_neg (by omega), List.getElem?_replicate, if_pos h]
    rfl
  · rw [List.getElem?_append_right (by rw [List.length_replicate]; omega), if_pos (by omega), List.length_replicate, List.getElem?_drop]
    congr 2
    omega

theorem pad20_bytes {l : List Int} (h : Bytes l) : Bytes (pad20 l) := by
  intro j
  by_cases hj : j < 20
  · rw [pad20_at l j hj]
    split
    · exact h _
    · omega
  · rw [List.getD_eq_getElem?_getD, List.getElem?_eq_none (by rw [pad20_length]; omega)]
    simp

theorem zeroTo_length (k : Nat) (x : List Int) (h : k ≤ x.length) : (zeroTo k x).length = x.length := by
  unfold zeroTo
  rw [List.length_append, List.length_replicate, List.length_drop]
  omega

theorem zeroTo_at (k : Nat) (x : List Int) (i : Nat) : (zeroTo k x).getD i 0 = if i < k then 0 else x.getD i 0 := by
  unfold zeroTo
  simp only [List.getD_eq_getElem?_getD]
  by_cases h : i < k
  · rw [List.getElem?_append_left (by rw [List.length_replicate]; exact h), if_pos h, List.getElem?_replicate, if_pos h]
    rfl
  · rw [List.getElem?_append_right (by rw [List.length_replicate]; omega), if_neg h, List.length_replicate, List.getElem?_drop]
    congr 2
    omega

theorem zeroTo_zero (x : List Int) : zeroTo 0 x = x := rfl

theorem ext20 {x y : List Int} {n : Nat} (hx : x.length = n) (hy : y.length = n) (h : ∀ i, i < n → x.getD i 0 = y.getD i 0) : x = y := by
  apply List.ext_getElem?
  intro i
  by_cases hi : i < n
  · have := h i hi
    rw [List.getD_eq_getElem?_getD, List.getD_eq_getElem?_getD, List.getElem?_eq_getElem (by omega), List.getElem?_eq_getElem (by omega)] at this
    rw [List.getElem?_eq_getElem (by omega), List.getElem?_eq_getElem (by omega)]
    simpa using this
  · rw [List.getElem?_eq_none (by omega), List.getElem?_eq_none (by omega)]

theorem getD_set (x : List Int) (k i : Nat) (z : Int) : (x.set k z).getD i 0 = if i = k ∧ k < x.length then z else x.getD i 0 := by
  simp only [List.getD_eq_getElem?_getD, List.getElem?_set]
  by_cases h : k = i
  · subst h
    by_cases hk : k < x.length
    · simp [hk]
    · simp [hk]
  · have h' : ¬ i = k := fun e => h e.symm
    simp [h, h']

theorem zeroTo_succ (k : Nat) (x : List Int) (h : k < x.length) : (zeroTo k x).set k 0 = zeroTo (k + 1) x := by
  refine ext20 (n := x.length) (by rw [List.length_set, zeroTo_length _ _ (by omega)]) (zeroTo_length _ _ (by omega)) fun i hi => ?_
  rw [getD_set, zeroTo_at, zeroTo_at, zeroTo_length _ _ (by omega)]
  by_cases h1 : i = k
  · rw [if_pos ⟨h1, h⟩, if_pos (by omega)]
  · rw [if_neg (fun e => h1 e.1)]
    by_cases h2 : i < k
    · rw [if_pos h2, if_pos (by omega)]
    · rw [if_neg h2, if_neg (by omega)]

theorem maskL_length (h : Nat) (x : List Int) (hx : x.length = 20) (hh : h ≤ 160) : (maskL h x).length = 20 := by
  unfold maskL
  rw [List.length_set, zeroTo_length _ _ (by omega), hx]

theorem red_length (bits : Nat) (l : List Int) (hb : bits ≤ 160) : (red bits l).length = 20 := maskL_length _ _ (pad20_length l) (by omega)

/-- Byte i of a row whose h high bits are cleared. -/
theorem maskL_at (h : Nat) (x : List Int) (hx : x.length = 20) (hb : Bytes x) (hh : h ≤ 160) (i : Nat) (hi : i < 20) : (maskL h x).getD i 0 = x.getD i 0 % 2 ^ (min 8 (8 * i + 8 - h)) := by
  have hbi := hb i
  unfold maskL
  rw [getD_set, zeroTo_at, zeroTo_length _ _ (by omega), hx]
  by_cases h1 : i = h / 8
  · rw [if_pos ⟨h1, by omega⟩, ← h1]
    congr 2
    omega
  · rw [if_neg (fun e => h1 e.1)]
    by_cases h2 : i < h / 8
    · rw [if_pos h2]
      have e : min 8 (8 * i + 8 - h) = 0 := by omega
      rw [e]
      omega
    · rw [if_neg h2]
      have e : min 8 (8 * i + 8 - h) = 8 := by omega
      rw [e]
      omega

theorem red_at (bits : Nat) (l : List Int) (hl : Bytes l) (hb : bits ≤ 160) (i : Nat) (hi : i < 20) : (red bits l).getD i 0 = (pad20 l).getD i 0 % 2 ^ (min 8 (8 * i + 8 - (160 - bits))) :=
  maskL_at _ _ (pad20_length l) (pad20_bytes hl) (by omega) i hi

theorem red_bytes (bits : Nat) (l : List Int) (hl : Bytes l) (hb : bits ≤ 160) : Bytes (red bits l) := by
  intro j
  by_cases hj : j < 20
  · rw [red_at bits l hl hb j hj]
    have h1 := pad20_bytes hl j
    have h2 : (0 : Int) < 2 ^ (min 8 (8 * j + 8 - (160 - bits))) := Int.pow_pos (by omega)
    have h3 := Int.emod_nonneg ((pad20 l).getD j 0) (Int.ne_of_gt h2)
    have h4 : (pad20 l).getD j 0 % 2 ^ (min 8 (8 * j + 8 - (160 - bits))) ≤ (pad20 l).getD j 0 := by
      rcases Int.lt_or_le ((pad20 l).getD j 0) (2 ^ (min 8 (8 * j + 8 - (160 - bits)))) with h5 | h5
      · rw [Int.emod_eq_of_lt h1.1 h5]; exact Int.le_refl _
      · have := Int.emod_lt_of_pos ((pad20 l).getD j 0) h2
        omega
    omega
  · rw [List.getD_eq_getElem?_getD, List.getElem?_eq_none (by rw [red_length bits l hb]; omega)]
    simp

theorem pad20_self (x : List Int) (h : x.length = 20) : pad20 x = x := by
  unfold pad20
  rw [h]
  rfl

/-- Reducing twice is reducing at the lesser width. -/
theorem red_red (c d : Nat) (l : List Int) (hl : Bytes l) (hc : c ≤ 160) (hd : d ≤ 160) : red c (red d l) = red (min c d) l := by
  refine ext20 (n := 20) (red_length _ _ hc) (red_length _ _ (by omega)) fun i hi => ?_
  rw [red_at c _ (red_bytes d l hl hd) hc i hi, pad20_self _ (red_length d l hd), red_at d l hl hd i hi, red_at _ l hl (by omega) i hi]
  by_cases h : d ≤ c
  · rw [Nat.min_eq_right h]
    have e : min 8 (8 * i + 8 - (160 - d)) ≤ min 8 (8 * i + 8 - (160 - c)) := by omega
    refine Int.emod_eq_of_lt ?_ ?_
    · exact Int.emod_nonneg _ (Int.ne_of_gt (Int.pow_pos (by omega)))
    · have h1 := Int.emod_lt_of_pos ((pad20 l).getD i 0) (show (0 : Int) < 2 ^ (min 8 (8 * i + 8 - (160 - d))) from Int.pow_pos (by omega))
      have h2 : (2 : Int) ^ (min 8 (8 * i + 8 - (160 - d))) ≤ 2 ^ (min 8 (8 * i + 8 - (160 - c))) := by
        have := Nat.pow_le_pow_right (show 0 < 2 by omega) e
        exact_mod_cast this
      omega
  · rw [Nat.min_eq_left (show c ≤ d by omega)]
    have e : min 8 (8 * i + 8 - (160 - c)) ≤ min 8 (8 * i + 8 - (160 - d)) := by omega
    refine Int.emod_emod_of_dvd _ ?_
    exact ⟨2 ^ (min 8 (8 * i + 8 - (160 - d)) - min 8 (8 * i + 8 - (160 - c))), by rw [← Int.pow_add]; congr 1; omega⟩

/-- The last byte of a reduced number. -/
theorem red_last (w : Nat) (l : List Int) (hl : Bytes l) (hw : w ≤ 160) : (red w l).getD 19 0 = (if 0 < l.length then l.getD (l.length - 1) 0 else 0) % 2 ^ (min 8 w) := by
  rw [red_at w l hl hw 19 (by omega), pad20_at l 19 (by omega)]
  have e : min 8 (8 * 19 + 8 - (160 - w)) = min 8 w := by omega
  rw [e]
  congr 2
end Go.Proofs.Qxb6003645a
