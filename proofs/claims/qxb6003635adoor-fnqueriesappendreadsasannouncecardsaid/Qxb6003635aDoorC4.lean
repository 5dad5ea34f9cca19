import Derived.Test.Qxb6003635aDoorC3
namespace Go.Proofs.Qxb6003635aDoor
open Go.RowKit Go.Sort
set_option linter.unusedVariables false

theorem own_at {w : World} {B : Nat} {v : Value} {l : List UInt8} (h : w.ownsRow B 5 1 v l.length (Lib.byteCells l)) (hl : 0 < l.length) :
    ∃ g cap, v = .slice (some ⟨g, 0, none⟩) l.length cap ∧ l.length ≤ cap ∧ cap ≤ maxLen ∧ RowB w g 0 l ∧ g < w.heap.size := by
  rcases h.2 with ⟨_, h0⟩ | ⟨g, cap, cur, hv, hb, hg, h1, h2, h3, h4⟩
  · omega
  · refine ⟨g, cap, hv, h1, h2, fun j hj => ?_, (Array.getElem?_eq_some_iff.1 hg).1⟩
    have := h.cells (g := g) (by rw [hv]; rfl) j (.int .u8 ((l.getD j 0).toNat : Int)) (by simp [Lib.byteCells, hj])
    rwa [Lib.add_plain] at this

theorem RowB.below {w w' : World} {g o : Nat} {l : List UInt8} (h : RowB w g o l) (hg : g < w.heap.size) (hb : Below w.heap.size w w') : RowB w' g o l := h.on (hb.block g hg)

theorem RowS.below {w w' : World} {g o : Nat} {ss : List ByteArray} (h : RowS w g o ss) (hg : g < w.heap.size) (hb : Below w.heap.size w w') : RowS w' g o ss := fun j hj => by
  rw [hb.cell (p := ⟨g, o + j, none⟩) hg]; exact h j hj

theorem below_of_dst {B : Nat} {W w : World} {v : Value} {l : List UInt8} (h : Dst B W none w v l) : Below W.heap.size W w :=
  ⟨h.fr.os, h.fr.tape, h.fr.output, h.fr.size, fun k hk => h.fr.block k hk (by simp)⟩

theorem below_drewN' (w : World) (n : Nat) : Below w.heap.size w (w.drewN n) := ⟨rfl, rfl, rfl, Nat.le_refl _, fun _ _ => rfl⟩

theorem below_next {w0 w w' : World} (h : Below w0.heap.size w0 w) (k : Below w.heap.size w w') : Below w0.heap.size w0 w' := h.trans (k.mono h.size)

/-! The announce's fields, plainly. -/

theorem keys_plain : ∀ key ∈ [key0, key1, key2, key3, key4, key5, key6, key7, key8], ∀ c ∈ key, c ≠ (61 : UInt8) ∧ c ≠ (38 : UInt8) := by decide

theorem dig_plain {l : List UInt8} (h : Dig l) : ∀ c ∈ l, c ≠ (38 : UInt8) := fun c hc e => by
  have := (h c hc).1
  rw [e] at this
  revert this
  decide

theorem ann_plain (h : List UInt8) (p k : Nat) (first : Prop) [Decidable first] (hh : ∀ c ∈ h, c ≠ 38) : ∀ f ∈ annFields h p k first, Plainly f := by
  intro f hf
  unfold annFields at hf
  have hkey : ∀ key ∈ [key0, key1, key2, key3, key4, key5, key6, key7, key8], ∀ v : List UInt8, (∀ c ∈ v, c ≠ 38) → Plainly (key, v) := fun key hk v hv => ⟨keys_plain key hk, hv⟩
  have htl : ∀ c ∈ tl, c ≠ (38 : UInt8) := by decide
  rcases List.mem_append.1 hf with hf | hf
  · simp only [List.mem_cons, List.not_mem_nil, or_false] at hf
    rcases hf with rfl | rfl | rfl | rfl | rfl | rfl | rfl | rfl
    · exact hkey _ (by simp) _ hh
    · refine hkey _ (by simp) _ fun c hc => ?_
      rcases List.mem_append.1 hc with hc | hc
      · exact htl c hc
      · exact dig_plain (pad12_dig p) c hc
    · exact hkey _ (by simp) _ (dig_plain (decDigits_dig _))
    · exact hkey _ (by simp) _ (by decide)
    · exact hkey _ (by simp) _ (by decide)
    · exact hkey _ (by simp) _ (dig_plain (decDigits_dig _))
    · exact hkey _ (by simp) _ (by decide)
    · exact hkey _ (by simp) _ (dig_plain (decDigits_dig _))
  · split at hf
    · simp only [List.mem_singleton] at hf
      subst hf
      exact hkey _ (by simp) _ (by decide)
    · cases hf

theorem ann_last (h : List UInt8) (p k : Nat) (first : Prop) [Decidable first] : ∀ d f, annFields h p k first = d ++ [f] → f.2 ≠ [] := by
  intro d f hd
  have h1 : (annFields h p k first).getLast? = some f := by rw [hd]; simp
  unfold annFields at h1
  by_cases hf : first
  · rw [if_pos hf] at h1
    have e : f = (key8, valStarted) := by simpa using h1.symm
    rw [e]
    decide
  · rw [if_neg hf] at h1
    have e : f = (key7, Lib.decDigits 50) := by simpa using h1.symm
    rw [e]
    intro e2
    have := decDigits_pos 50
    have e3 : Lib.decDigits 50 = [] := e2
    rw [e3] at this
    simp at this

theorem ann_size (h : List UInt8) (p k : Nat) (first : Prop) [Decidable first] (hp : p < 18446744073709551616) : (txt (annFields h p k first)).length ≤ h.length + 1000 ∧ 0 < (txt (annFields h p k first)).length := by
  have e := ann_text [] h p k first
  rw [List.nil_append, List.nil_append] at e
  rw [← e]
  have h1 := pad12_le p hp
  have h2 := decDigits_len20 (1024 + k % 60000) (by omega)
  have h3 := decDigits_len20 (if k % 4 = 0 then 0 else 1048576) (by split <;> omega)
  have h4 := decDigits_len20 50 (by omega)
  have h5 : (if first then txtF else []).length ≤ 14 := by split <;> decide
  simp only [List.length_append]
  have a1 : txtA.length = 10 := rfl
  have a2 : txtB.length = 17 := rfl
  have a3 : txtC.length = 6 := rfl
  have a4 : txtD.length = 30 := rfl
  have a5 : txtE.length = 19 := rfl
  omega

theorem ann_more (h : List UInt8) (p k : Nat) (a b : Prop) [Decidable a] [Decidable b] (ha : a) (hb : ¬ b) : txt (annFields h p k a) = txt (annFields h p k b) ++ txtF := by
  have e1 := ann_text [] h p k a
  have e2 := ann_text [] h p k b
  rw [List.nil_append, List.nil_append] at e1 e2
  rw [← e1, ← e2, if_pos ha, if_neg hb, List.append_nil]

theorem ann_none (h : List UInt8) (p k : Nat) (a b : Prop) [Decidable a] [Decidable b] (ha : ¬ a) (hb : ¬ b) : txt (annFields h p k a) = txt (annFields h p k b) := by
  have e1 := ann_text [] h p k a
  have e2 := ann_text [] h p k b
  rw [List.nil_append, List.nil_append] at e1 e2
  rw [← e1, ← e2, if_neg ha, if_neg hb]

/-- zzB1ReadsAsAnnounce at the announce's own text. -/
theorem reads_ann (g c n gh oh nh ch : Nat) (ss : List ByteArray) (peers torrents i : Nat) (w : World)
    (hrow : RowB w g 0 (txt (annFields (ss.getD (i % peers % torrents) ByteArray.empty).data.toList (i % peers) (i % peers / torrents) (i < peers)))) (hn : (txt (annFields (ss.getD (i % peers % torrents) ByteArray.empty).data.toList (i % peers) (i % peers / torrents) (i < peers))).length = n)
    (hcn : n ≤ c) (hcm : c ≤ maxLen) (hb : n ≤ 10000000) (hss : ss.length = nh) (hs : RowS w gh oh ss) (hnh : nh ≤ 10000000) (h1 : 1 ≤ peers) (h2 : 1 ≤ torrents) (hth : torrents ≤ nh) (hsl : (ss.getD (i % peers % torrents) ByteArray.empty).size ≤ 10000000)
    (hi : (i : Int) < 9223372036854775808) (hamp : ∀ x ∈ (ss.getD (i % peers % torrents) ByteArray.empty).data.toList, x ≠ 38) :
    Calls Tryd.prog 11 #[.slice (some ⟨g, 0, none⟩) n c, .int .i64 peers, .int .i64 torrents, .slice (some ⟨gh, oh, none⟩) nh ch, .int .i64 i] w fun e w' => e = .returned (.bool true) ∧ ∃ m, w' = w.drewN m := by
  have hp : ((i % peers : Nat) : Int) < 9223372036854775808 := int_lt_of_le (Nat.mod_le _ _) hi
  have hlen := ann_len (ss.getD (i % peers % torrents) ByteArray.empty).data.toList (i % peers) (i % peers / torrents) (i < peers)
  refine reads_any g c n _ peers torrents i (i % peers) (i % peers / torrents) _ w hn hcn hcm hb hrow (ann_plain _ _ _ _ hamp) ?_ (ann_last _ _ _ _) h1 h2 rfl rfl hi ?_ (ann_ok w g gh oh nh ch ss (i % peers) (i % peers / torrents) torrents (i < peers) hrow hss hs hnh h2 hth hsl hp)
  · intro e
    rw [e] at hlen
    split at hlen <;> simp at hlen
  · rw [hlen]; split <;> rfl
end Go.Proofs.Qxb6003635aDoor
