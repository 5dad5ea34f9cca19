import Derived.Test.Qxb6003635aDoorPlain
namespace Go.Proofs.Qxb6003635aDoor
open Go

/-! A query text: fields 'key=value', an ampersand between two. No program in sight. -/

def fld (f : List UInt8 × List UInt8) : List UInt8 := f.1 ++ 61 :: f.2

/-- The fields with an ampersand behind each. -/
def pre : List (List UInt8 × List UInt8) → List UInt8
  | [] => []
  | f :: fs => fld f ++ 38 :: pre fs

/-- The fields with an ampersand between two. -/
def txt : List (List UInt8 × List UInt8) → List UInt8
  | [] => []
  | f :: fs => fld f ++ (if fs = [] then [] else 38 :: txt fs)

theorem pre_snoc (d : List (List UInt8 × List UInt8)) (f : List UInt8 × List UInt8) : pre (d ++ [f]) = pre d ++ (fld f ++ [38]) := by
  induction d with
  | nil => simp [pre]
  | cons a d ih => simp [pre, ih]

theorem txt_split (d : List (List UInt8 × List UInt8)) (f : List UInt8 × List UInt8) (r : List (List UInt8 × List UInt8)) : txt (d ++ f :: r) = pre d ++ txt (f :: r) := by
  induction d with
  | nil => simp [pre]
  | cons a d ih => simp only [List.cons_append, txt, pre]; rw [if_neg (by simp), ih]; simp [txt]

/-- A field's key holds neither sign, its value no ampersand. -/
def Plainly (f : List UInt8 × List UInt8) : Prop := (∀ c ∈ f.1, c ≠ 61 ∧ c ≠ 38) ∧ ∀ c ∈ f.2, c ≠ 38

theorem getD_mid (a b c : List UInt8) (x : Nat) (h1 : a.length ≤ x) (h2 : x < a.length + b.length) : (a ++ (b ++ c)).getD x 0 ∈ b ∧ (a ++ (b ++ c)).getD x 0 = b.getD (x - a.length) 0 := by
  have e : (a ++ (b ++ c)).getD x 0 = b.getD (x - a.length) 0 := by
    simp only [List.getD_eq_getElem?_getD]
    rw [List.getElem?_append_right h1, List.getElem?_append_left (by omega)]
  refine ⟨?_, e⟩
  rw [e, List.getD_eq_getElem?_getD, List.getElem?_eq_getElem (by omega)]
  exact List.getElem_mem _

/-- WHAT THE READER MEETS AT A FIELD. -/
structure At (t : List UInt8) (P K V : Nat) (last : Bool) : Prop where
  amp : ∀ x, P ≤ x → x < P + (K + (V + 1)) → t.getD x 0 ≠ 38
  eqs : ∀ x, P ≤ x → x < P + K → t.getD x 0 ≠ 61
  eq : t.getD (P + K) 0 = 61
  fin : last = true → P + (K + (V + 1)) = t.length
  more : last = false → P + (K + (V + 1)) < t.length ∧ t.getD (P + (K + (V + 1))) 0 = 38

theorem fld_length (f : List UInt8 × List UInt8) : (fld f).length = f.1.length + (f.2.length + 1) := by simp [fld]

theorem at_field (d : List (List UInt8 × List UInt8)) (f : List UInt8 × List UInt8) (r : List (List UInt8 × List UInt8)) (h : Plainly f) :
    At (txt (d ++ f :: r)) (pre d).length f.1.length f.2.length r.isEmpty := by
  have ht : txt (d ++ f :: r) = pre d ++ (fld f ++ (if r = [] then [] else 38 :: txt r)) := by rw [txt_split]; rfl
  rw [ht]
  have hl := fld_length f
  refine ⟨fun x h1 h2 => ?_, fun x h1 h2 => ?_, ?_, fun hr => ?_, fun hr => ?_⟩
  · have hm := (getD_mid (pre d) (fld f) (if r = [] then [] else 38 :: txt r) x h1 (by omega)).1
    generalize (pre d ++ (fld f ++ (if r = [] then [] else 38 :: txt r))).getD x 0 = y at hm ⊢
    unfold fld at hm
    rcases List.mem_append.1 hm with hm | hm
    · exact (h.1 y hm).2
    · rcases List.mem_cons.1 hm with rfl | hm
      · decide
      · exact h.2 y hm
  · have hm := (getD_mid (pre d) f.1 (61 :: f.2 ++ (if r = [] then [] else 38 :: txt r)) x h1 (by omega)).1
    have e : pre d ++ (fld f ++ (if r = [] then [] else 38 :: txt r)) = pre d ++ (f.1 ++ (61 :: f.2 ++ (if r = [] then [] else 38 :: txt r))) := by unfold fld; rw [List.append_assoc]
    rw [e]
    exact (h.1 _ hm).1
  · have hm := (getD_mid (pre d ++ f.1) [61] (f.2 ++ (if r = [] then [] else 38 :: txt r)) ((pre d).length + f.1.length) (by simp) (by simp)).1
    have e : pre d ++ (fld f ++ (if r = [] then [] else 38 :: txt r)) = pre d ++ f.1 ++ ([61] ++ (f.2 ++ (if r = [] then [] else 38 :: txt r))) := by unfold fld; simp
    rw [e]
    simp
  · have : r = [] := List.isEmpty_iff.1 hr
    subst this
    simp [hl]
  · have hne : r ≠ [] := fun e => by rw [e] at hr; cases hr
    rw [if_neg hne]
    refine ⟨by simp only [List.length_append, List.length_cons, hl]; omega, ?_⟩
    have hm := (getD_mid (pre d ++ fld f) [38] (txt r) ((pre d).length + (f.1.length + (f.2.length + 1))) (by simp [hl]) (by simp [hl])).1
    have e : pre d ++ (fld f ++ 38 :: txt r) = pre d ++ fld f ++ ([38] ++ txt r) := by simp
    rw [e]
    simpa using hm

theorem txt_parts (d : List (List UInt8 × List UInt8)) (f : List UInt8 × List UInt8) (r : List (List UInt8 × List UInt8)) :
    ∃ x, txt (d ++ f :: r) = pre d ++ (f.1 ++ ([61] ++ (f.2 ++ x))) := ⟨if r = [] then [] else 38 :: txt r, by rw [txt_split]; simp [txt, fld]⟩

theorem pre_snoc_length (d : List (List UInt8 × List UInt8)) (f : List UInt8 × List UInt8) : (pre (d ++ [f])).length = (pre d).length + (f.1.length + (f.2.length + 1)) + 1 := by
  rw [pre_snoc, List.length_append, List.length_append, fld_length]; simp; omega

end Go.Proofs.Qxb6003635aDoor
