import Derived.Lib.ItoaNum
import Derived.Lib.ItoaMem
namespace Go.Proofs.Qxb6003635aDoor
open Go

/-! Decimal digits, read back. No program in sight. -/

/-- What a row of decimal digits reads as. -/
def dv (l : List UInt8) : Nat := l.foldl (fun v c => v * 10 + (c.toNat - 48)) 0

theorem dv_snoc (l : List UInt8) (c : UInt8) : dv (l ++ [c]) = dv l * 10 + (c.toNat - 48) := by
  simp [dv, List.foldl_append]

/-- Every byte of l is a decimal digit. -/
def Dig (l : List UInt8) : Prop := ∀ c ∈ l, 48 ≤ c.toNat ∧ c.toNat ≤ 57

theorem foldl_ge (l : List UInt8) : ∀ v : Nat, v ≤ l.foldl (fun v c => v * 10 + (c.toNat - 48)) v := by
  induction l with
  | nil => intro v; simp
  | cons c l ih => intro v; simp only [List.foldl_cons]; exact Nat.le_trans (by omega) (ih _)

theorem dv_append_ge (l m : List UInt8) : dv l ≤ dv (l ++ m) := by
  unfold dv
  rw [List.foldl_append]
  exact foldl_ge m _

theorem dv_take_le (l : List UInt8) (k : Nat) : dv (l.take k) ≤ dv l := by
  have := dv_append_ge (l.take k) (l.drop k)
  rwa [List.take_append_drop] at this

theorem dv_take_succ (l : List UInt8) (k : Nat) (h : k < l.length) : dv (l.take (k + 1)) = dv (l.take k) * 10 + ((l.getD k 0).toNat - 48) := by
  rw [List.take_succ_eq_append_getElem h, dv_snoc]
  simp [List.getD, h]

theorem ofNat48 (x : Nat) (h : x < 10) : (UInt8.ofNat (48 + x)).toNat = 48 + x := by
  simp [UInt8.toNat_ofNat]
  omega

theorem decDigits_step (u : Nat) (h : ¬ u < 10) : Lib.decDigits u = Lib.decDigits (u / 10) ++ [UInt8.ofNat (48 + u % 10)] := by
  rw [Lib.decDigits, dif_neg h]

theorem decDigits_dv (u : Nat) : dv (Lib.decDigits u) = u := by
  induction u using Nat.strongRecOn with
  | _ u ih =>
    by_cases h : u < 10
    · rw [Lib.decDigits_one h]
      have := ofNat48 u h
      simp only [dv, List.foldl_cons, List.foldl_nil]
      omega
    · rw [decDigits_step u h, dv_snoc, ih (u / 10) (by omega), ofNat48 _ (by omega)]
      omega

theorem decDigits_dig (u : Nat) : Dig (Lib.decDigits u) := by
  induction u using Nat.strongRecOn with
  | _ u ih =>
    by_cases h : u < 10
    · rw [Lib.decDigits_one h]
      intro c hc
      simp only [List.mem_singleton] at hc
      subst hc
      rw [ofNat48 u h]
      omega
    · rw [decDigits_step u h]
      intro c hc
      rcases List.mem_append.1 hc with hc | hc
      · exact ih (u / 10) (by omega) c hc
      · simp only [List.mem_singleton] at hc
        subst hc
        rw [ofNat48 _ (by omega)]
        omega

theorem decDigits_pos (u : Nat) : 0 < (Lib.decDigits u).length := by
  by_cases h : u < 10
  · rw [Lib.decDigits_one h]; simp
  · rw [decDigits_step u h]; simp

theorem decDigits_head (u : Nat) (h0 : 0 < u) : (Lib.decDigits u).getD 0 0 ≠ 48 := by
  induction u using Nat.strongRecOn with
  | _ u ih =>
    by_cases h : u < 10
    · rw [Lib.decDigits_one h]
      intro he
      have e2 : UInt8.ofNat (48 + u) = 48 := by simpa using he
      have e3 := ofNat48 u h
      rw [e2] at e3
      have : (48 : UInt8).toNat = 48 := by decide
      omega
    · rw [decDigits_step u h]
      have := ih (u / 10) (by omega) (by omega)
      have hp := decDigits_pos (u / 10)
      rw [show (Lib.decDigits (u / 10) ++ [UInt8.ofNat (48 + u % 10)]).getD 0 0 = (Lib.decDigits (u / 10)).getD 0 0 from by
        simp only [List.getD_eq_getElem?_getD, List.getElem?_append_left hp]]
      exact this

theorem decDigits_long (u : Nat) (h : 1 < (Lib.decDigits u).length) : (Lib.decDigits u).getD 0 0 ≠ 48 := by
  by_cases h1 : u < 10
  · rw [Lib.decDigits_one h1] at h; simp at h
  · exact decDigits_head u (by omega)

/-- n in decimal, with zeros before it up to twelve digits. -/
def pad12 (u : Nat) : List UInt8 := List.replicate (12 - (Lib.decDigits u).length) 48 ++ Lib.decDigits u

theorem foldl_zeros (n : Nat) : (List.replicate n (48 : UInt8)).foldl (fun v c => v * 10 + (c.toNat - 48)) 0 = 0 := by
  induction n with
  | zero => rfl
  | succ n ih => rw [List.replicate_succ, List.foldl_cons]; exact ih

theorem pad12_dv (u : Nat) : dv (pad12 u) = u := by
  have h := decDigits_dv u
  unfold dv at *
  unfold pad12
  rw [List.foldl_append, foldl_zeros]
  exact h

theorem pad12_dig (u : Nat) : Dig (pad12 u) := by
  intro c hc
  rcases List.mem_append.1 hc with hc | hc
  · rw [(List.mem_replicate.1 hc).2]; decide
  · exact decDigits_dig u c hc

theorem pad12_len (u : Nat) : 12 ≤ (pad12 u).length := by
  unfold pad12; rw [List.length_append, List.length_replicate]; omega

theorem pad12_head (u : Nat) (h : (pad12 u).length ≠ 12) : (pad12 u).getD 0 0 ≠ 48 := by
  have h1 : 12 - (Lib.decDigits u).length = 0 := by
    unfold pad12 at h; rw [List.length_append, List.length_replicate] at h; omega
  have h2 : pad12 u = Lib.decDigits u := by unfold pad12; rw [h1]; rfl
  rw [h2] at h ⊢
  refine decDigits_long u ?_
  omega
end Go.Proofs.Qxb6003635aDoor
