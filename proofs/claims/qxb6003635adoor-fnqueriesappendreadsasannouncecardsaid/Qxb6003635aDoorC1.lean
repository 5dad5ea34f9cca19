import Derived.Test.Qxb6003635aDoorB6
namespace Go.Proofs.Qxb6003635aDoor
open Go.RowKit Go.Sort
set_option linter.unusedVariables false

theorem rowB_at {w : World} {g : Nat} {fs d : List (List UInt8 × List UInt8)} {f : List UInt8 × List UInt8} {r : List (List UInt8 × List UInt8)} (h : RowB w g 0 (txt fs)) (hfs : fs = d ++ f :: r) :
    RowB w g (pre d).length f.1 ∧ RowB w g ((pre d).length + (f.1.length + 1)) f.2 := by
  obtain ⟨x, hx⟩ := txt_parts d f r
  rw [hfs, hx] at h
  have h1 := h.right
  rw [Nat.zero_add] at h1
  refine ⟨h1.left, ?_⟩
  have h2 := h1.right.right.left
  rwa [Nat.add_assoc] at h2

theorem get_at {fs d : List (List UInt8 × List UInt8)} {f : List UInt8 × List UInt8} {r : List (List UInt8 × List UInt8)} (hfs : fs = d ++ f :: r) {j : Nat} (hj : d.length = j) : fs[j]? = some f := by
  rw [hfs, ← hj]; simp

theorem dig_one (c : UInt8) (h : 48 ≤ c.toNat ∧ c.toNat ≤ 57) : Dig [c] := by
  intro x hx
  simp only [List.mem_singleton] at hx
  subst hx
  exact h

theorem ann_len (h : List UInt8) (p k : Nat) (first : Prop) [Decidable first] : (annFields h p k first).length = if first then 9 else 8 := by
  unfold annFields
  by_cases hf : first
  · rw [if_pos hf, if_pos hf]; rfl
  · rw [if_neg hf, if_neg hf]; rfl

set_option maxRecDepth 10000 in
theorem ann_ok (w : World) (g gh oh nh ch : Nat) (ss : List ByteArray) (p k torrents : Nat) (first : Prop) [Decidable first] (hrow : RowB w g 0 (txt (annFields (ss.getD (p % torrents) ByteArray.empty).data.toList p k first)))
    (hss : ss.length = nh) (hs : RowS w gh oh ss) (hnh : nh ≤ 10000000) (ht : 1 ≤ torrents) (hth : torrents ≤ nh) (hsl : (ss.getD (p % torrents) ByteArray.empty).size ≤ 10000000) (hp : (p : Int) < 9223372036854775808) :
    FieldsOK w g (annFields (ss.getD (p % torrents) ByteArray.empty).data.toList p k first) p k torrents (.slice (some ⟨gh, oh, none⟩) nh ch) := by
  intro d f r hfs jj pp kk P K Q V c1 c2 w1 hjj hpp hkk hP hK hQ hV hVc hcm hw1
  obtain ⟨m, rfl⟩ := hw1
  obtain ⟨r1, r2⟩ := rowB_at hrow hfs
  have hlen := ann_len (ss.getD (p % torrents) ByteArray.empty).data.toList p k first
  have hdl : d.length < 9 := by
    have e : (annFields (ss.getD (p % torrents) ByteArray.empty).data.toList p k first).length = d.length + (r.length + 1) := by rw [hfs]; simp
    rw [e] at hlen
    split at hlen <;> omega
  rw [← hP] at r1 r2
  rw [← hK, ← hQ] at r2
  obtain ⟨j, hj⟩ : ∃ j, d.length = j := ⟨_, rfl⟩
  have hget := get_at hfs hj
  rw [hj] at hjj hdl
  subst hpp hkk
  clear hfs hP hrow hlen hj
  have hsz : (ss.getD (p % torrents) ByteArray.empty).data.toList.length = (ss.getD (p % torrents) ByteArray.empty).size := by simp
  generalize hH : (ss.getD (p % torrents) ByteArray.empty).data.toList = H at *
  match j, hdl with
  | 0, _ =>
    have e : f = (key0, H) := by unfold annFields at hget; simpa using hget.symm
    subst e
    have hj' : jj = 0 := by omega
    subst hj'
    have hK' : K = 9 := hK
    subst hK'
    have hVb : V ≤ 10000000 := by have : V = H.length := hV; omega
    subst hH
    exact field0 g P c1 g Q c2 V gh oh nh ch ss p k torrents _ (r1.drewN m) hss (hs.drewN m) hnh ht hth hV.symm (r2.drewN m) hVb
  | 1, _ =>
    have e : f = (key1, tl ++ pad12 p) := by unfold annFields at hget; simpa using hget.symm
    subst e
    have hj' : jj = 1 := by omega
    subst hj'
    have hK' : K = 7 := hK
    subst hK'
    have hV' : V = 8 + (pad12 p).length := by rw [hV, List.length_append]; rfl
    have := pad12_le p (by omega)
    exact field1 g P c1 g Q c2 V p k torrents _ _ (r1.drewN m) hV' hVc hcm (by omega) (r2.drewN m) hp
  | 2, _ =>
    have e : f = (key2, Lib.decDigits (1024 + k % 60000)) := by unfold annFields at hget; simpa using hget.symm
    subst e
    have hj' : jj = 2 := by omega
    subst hj'
    have hK' : K = 4 := hK
    subst hK'
    have hd20 := decDigits_len20 (1024 + k % 60000) (by omega)
    have hd0 := decDigits_pos (1024 + k % 60000)
    have hdv := decDigits_dv (1024 + k % 60000)
    exact field2 g P c1 g Q c2 V (Lib.decDigits (1024 + k % 60000)) p k torrents _ _ (r1.drewN m) hV.symm (r2.drewN m) (by simp at hV; omega) (by simp at hV; omega) (fun h => decDigits_long _ (by simp at hV; omega)) (decDigits_dig _) (by rw [hdv]; omega)
  | 3, _ =>
    have e : f = (key3, [48]) := by unfold annFields at hget; simpa using hget.symm
    subst e
    have hj' : jj = 3 := by omega
    subst hj'
    have hK' : K = 8 := hK
    subst hK'
    have hV' : V = 1 := hV
    exact field3 g P c1 g Q c2 V [48] p k torrents _ _ (r1.drewN m) hV.symm (r2.drewN m) (by omega) (by omega) (fun h => by omega) (dig_one _ (by decide)) (by decide)
  | 4, _ =>
    have e : f = (key4, [48]) := by unfold annFields at hget; simpa using hget.symm
    subst e
    have hj' : jj = 4 := by omega
    subst hj'
    have hK' : K = 10 := hK
    subst hK'
    have hV' : V = 1 := hV
    exact field4 g P c1 g Q c2 V [48] p k torrents _ _ (r1.drewN m) hV.symm (r2.drewN m) (by omega) (by omega) (fun h => by omega) (dig_one _ (by decide)) (by decide)
  | 5, _ =>
    have hj' : jj = 5 := by omega
    subst hj'
    by_cases hk4 : k % 4 = 0
    · have e : f = (key5, Lib.decDigits 0) := by unfold annFields at hget; rw [if_pos hk4] at hget; simpa using hget.symm
      subst e
      have hK' : K = 4 := hK
      subst hK'
      have hd20 := decDigits_len20 0 (by omega)
      have hd0 := decDigits_pos 0
      have hdv := decDigits_dv 0
      exact field5z g P c1 g Q c2 V (Lib.decDigits 0) p k torrents _ _ (r1.drewN m) hV.symm (r2.drewN m) (by simp at hV; omega) (by simp at hV; omega) (fun h => decDigits_long _ (by simp at hV; omega)) (decDigits_dig _) hk4 (by rw [hdv]; rfl)
    · have e : f = (key5, Lib.decDigits 1048576) := by unfold annFields at hget; rw [if_neg hk4] at hget; simpa using hget.symm
      subst e
      have hK' : K = 4 := hK
      subst hK'
      have hd20 := decDigits_len20 1048576 (by omega)
      have hd0 := decDigits_pos 1048576
      have hdv := decDigits_dv 1048576
      exact field5n g P c1 g Q c2 V (Lib.decDigits 1048576) p k torrents _ _ (r1.drewN m) hV.symm (r2.drewN m) (by simp at hV; omega) (by simp at hV; omega) (fun h => decDigits_long _ (by simp at hV; omega)) (decDigits_dig _) hk4 (by rw [hdv]; omega)
  | 6, _ =>
    have e : f = (key6, [49]) := by unfold annFields at hget; simpa using hget.symm
    subst e
    have hj' : jj = 6 := by omega
    subst hj'
    have hK' : K = 7 := hK
    subst hK'
    have hV' : V = 1 := hV
    exact field6 g P c1 g Q c2 V [49] p k torrents _ _ (r1.drewN m) hV.symm (r2.drewN m) (by omega) (by omega) (fun h => by omega) (dig_one _ (by decide)) (by decide)
  | 7, _ =>
    have e : f = (key7, Lib.decDigits (50)) := by unfold annFields at hget; simpa using hget.symm
    subst e
    have hj' : jj = 7 := by omega
    subst hj'
    have hK' : K = 7 := hK
    subst hK'
    have hd20 := decDigits_len20 (50) (by omega)
    have hd0 := decDigits_pos (50)
    have hdv := decDigits_dv (50)
    exact field7 g P c1 g Q c2 V (Lib.decDigits (50)) p k torrents _ _ (r1.drewN m) hV.symm (r2.drewN m) (by simp at hV; omega) (by simp at hV; omega) (fun h => decDigits_long _ (by simp at hV; omega)) (decDigits_dig _) (by rw [hdv]; omega)
  | 8, _ =>
    have hj' : jj = 8 := by omega
    subst hj'
    have e : f = (key8, valStarted) := by
      unfold annFields at hget
      by_cases hf : first
      · rw [if_pos hf] at hget; simpa using hget.symm
      · rw [if_neg hf] at hget; simp at hget
    subst e
    have hK' : K = 5 := hK
    subst hK'
    have hV' : V = 7 := hV
    subst hV'
    exact field8 g P c1 g Q c2 p k torrents _ _ (r1.drewN m) (r2.drewN m)

end Go.Proofs.Qxb6003635aDoor
