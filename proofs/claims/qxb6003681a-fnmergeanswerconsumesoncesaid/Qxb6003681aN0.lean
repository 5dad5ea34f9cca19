import Derived.Test.Qxb6003681aM9
namespace Go.Proofs.Qxb6003681a
set_option linter.unusedVariables false

/-- What exchangeOK asks of the view after one exchange. -/
structure XOk (vs0 ents out : List (Int × Int)) (v c : Int) (sent : List Int) : Prop where
  wf : WF (nodesOf out) v c
  grow : vs0.length ≤ out.length
  old : ∀ i, i < vs0.length → out.getD i (0, 0) = vs0.getD i (0, 0) ∨ (sent.contains (vs0.getD i (0, 0)).1 = true ∧ out.getD i (0, 0) ∈ ents)
  new : ∀ i, vs0.length ≤ i → i < out.length → out.getD i (0, 0) ∈ ents
  full : (out.length : Int) < c → ∀ e ∈ ents, e.1 = v ∨ (nodesOf out).contains e.1 = true

theorem held_nodes (vs : List (Int × Int)) (u : Int) : held vs u = (nodesOf vs).contains u := by
  unfold held nodesOf
  induction vs with
  | nil => rfl
  | cons e r ih => simp only [List.any_cons, List.map_cons, List.contains_cons, ih]; rw [show (e.1 == u) = (u == e.1) from Bool.eq_iff_iff.2 ⟨fun h => by rw [beq_iff_eq] at h ⊢; exact h.symm, fun h => by rw [beq_iff_eq] at h ⊢; exact h.symm⟩]

theorem nodup_snoc {l : List Int} {x : Int} (h : l.Nodup) (hx : l.contains x = false) : (l ++ [x]).Nodup := by
  rw [List.nodup_append]
  refine ⟨h, by simp, ?_⟩
  intro a ha b hb e
  simp at hb
  subst hb
  subst e
  have : l.contains a = true := List.contains_iff_mem.2 ha
  rw [hx] at this; cases this

theorem nodup_set {l : List Int} {x : Int} (k : Nat) (h : l.Nodup) (hx : l.contains x = false) : (l.set k x).Nodup := by
  rw [List.Nodup, List.pairwise_iff_getElem] at h ⊢
  intro i j hi hj hij
  have hm : ∀ i (hi : i < l.length), ¬ l[i] = x := fun i hi e => by
    have : l.contains x = true := List.contains_iff_mem.2 (e ▸ List.getElem_mem hi)
    rw [hx] at this; cases this
  simp only [List.length_set] at hi hj
  rw [List.getElem_set, List.getElem_set]
  by_cases h1 : k = i
  · rw [if_pos h1, if_neg (by omega)]
    exact fun e => hm j hj e.symm
  · rw [if_neg h1]
    by_cases h2 : k = j
    · rw [if_pos h2]; exact hm i hi
    · rw [if_neg h2]; exact h i j hi hj hij

structure Inv (vs0 ents : List (Int × Int)) (v c : Int) (sent : List Int) (pre cur : List (Int × Int)) (rs : List Int) : Prop where
  wf : WF (nodesOf cur) v c
  grow : vs0.length ≤ cur.length
  old : ∀ i, i < vs0.length → cur.getD i (0, 0) = vs0.getD i (0, 0) ∨ (sent.contains (vs0.getD i (0, 0)).1 = true ∧ cur.getD i (0, 0) ∈ ents)
  new : ∀ i, vs0.length ≤ i → i < cur.length → cur.getD i (0, 0) ∈ ents
  full : (cur.length : Int) < c → ∀ e ∈ pre, e.1 = v ∨ (nodesOf cur).contains e.1 = true
  reps : ∀ r ∈ rs, r.toNat < vs0.length ∧ sent.contains (vs0.getD r.toNat (0, 0)).1 = true

theorem getD_snoc (l : List (Int × Int)) (e : Int × Int) (i : Nat) : (l ++ [e]).getD i (0, 0) = if i < l.length then l.getD i (0, 0) else if i = l.length then e else (0, 0) := by
  simp only [List.getD_eq_getElem?_getD, List.getElem?_append]
  split
  · rfl
  · split
    · rename_i h1 h2; subst h2; simp
    · rename_i h1 h2
      rw [List.getElem?_eq_none (by simp; omega)]; rfl

theorem getD_put (l : List (Int × Int)) (e : Int × Int) (k i : Nat) : (l.set k e).getD i (0, 0) = if i = k ∧ k < l.length then e else l.getD i (0, 0) := by
  simp only [List.getD_eq_getElem?_getD, List.getElem?_set]
  by_cases h : k = i
  · subst h
    by_cases hk : k < l.length <;> simp [hk]
  · have h' : ¬ i = k := fun e => h e.symm
    simp [h, h']

theorem nodes_len (l : List (Int × Int)) : (nodesOf l).length = l.length := by simp [nodesOf]
theorem nodes_snoc (l : List (Int × Int)) (e : Int × Int) : nodesOf (l ++ [e]) = nodesOf l ++ [e.1] := by simp [nodesOf]
theorem nodes_set (l : List (Int × Int)) (k : Nat) (e : Int × Int) : nodesOf (l.set k e) = (nodesOf l).set k e.1 := by simp [nodesOf, List.map_set]

theorem step_ok (vs0 ents : List (Int × Int)) (v c : Int) (sent : List Int) : ∀ (es pre cur : List (Int × Int)) (rs : List Int), ents = pre ++ es → Inv vs0 ents v c sent pre cur rs → XOk vs0 ents (step v c cur rs es) v c sent
  | [], pre, cur, rs, he, h => by
    have e : step v c cur rs [] = cur := by cases rs <;> rfl
    rw [e]
    rw [List.append_nil] at he
    subst he
    exact ⟨h.wf, h.grow, h.old, h.new, h.full⟩
  | e :: es, pre, cur, rs, he, h => by
    have hmem : e ∈ ents := by rw [he]; simp
    have he2 : ents = (pre ++ [e]) ++ es := by rw [he]; simp
    rw [step_cons]
    split
    · rename_i hs
      refine step_ok vs0 ents v c sent es (pre ++ [e]) cur rs he2 ⟨h.wf, h.grow, h.old, h.new, fun hl x hx => ?_, h.reps⟩
      rcases List.mem_append.1 hx with hx | hx
      · exact h.full hl x hx
      · rw [List.mem_singleton] at hx
        subst hx
        rw [held_nodes] at hs
        exact hs
    · rename_i hs
      have hev : ¬ e.1 = v := fun x => hs (.inl x)
      have hnh : (nodesOf cur).contains e.1 = false := by
        rw [← held_nodes]
        cases hx : held cur e.1 with
        | false => rfl
        | true => exact absurd (.inr hx) hs
      split
      · rename_i hc
        refine step_ok vs0 ents v c sent es (pre ++ [e]) (cur ++ [e]) rs he2 ⟨?_, ?_, ?_, ?_, ?_, h.reps⟩
        · refine ⟨by rw [nodes_len]; simp; omega, ?_, by rw [nodes_snoc]; exact nodup_snoc h.wf.2.2 hnh⟩
          rw [nodes_snoc, Bool.eq_false_iff, ne_eq, List.contains_iff_mem, List.mem_append]
          rintro (hx | hx)
          · have := List.contains_iff_mem.2 hx
            rw [h.wf.2.1] at this; cases this
          · simp at hx; exact hev hx.symm
        · have := h.grow; simp; omega
        · intro i hi
          have := h.grow
          rw [getD_snoc, if_pos (by omega)]
          exact h.old i hi
        · intro i h1 h2
          rw [getD_snoc]
          split
          · rename_i h3; exact h.new i h1 h3
          · rename_i h3
            rw [if_pos (by simp at h2; omega)]; exact hmem
        · intro hl x hx
          rw [nodes_snoc]
          rcases List.mem_append.1 hx with hx | hx
          · rcases h.full hc x hx with h1 | h1
            · exact .inl h1
            · refine .inr (List.contains_iff_mem.2 (List.mem_append.2 (.inl (List.contains_iff_mem.1 h1))))
          · rw [List.mem_singleton] at hx
            subst hx
            exact .inr (List.contains_iff_mem.2 (by simp))
      · rename_i hc
        cases rs with
        | nil => exact ⟨h.wf, h.grow, h.old, h.new, fun hl => absurd hl hc⟩
        | cons r rs' =>
          have hr := h.reps r (by simp)
          have hg := h.grow
          refine step_ok vs0 ents v c sent es (pre ++ [e]) (cur.set r.toNat e) rs' he2 ⟨?_, by rw [List.length_set]; exact hg, ?_, ?_, fun hl => absurd (by rw [List.length_set] at hl; exact hl) hc, fun x hx => h.reps x (by simp [hx])⟩
          · refine ⟨by rw [nodes_len, List.length_set, ← nodes_len]; exact h.wf.1, ?_, by rw [nodes_set]; exact nodup_set _ h.wf.2.2 hnh⟩
            rw [nodes_set, Bool.eq_false_iff, ne_eq, List.contains_iff_mem]
            intro hx
            rcases List.mem_or_eq_of_mem_set hx with hx | hx
            · have := List.contains_iff_mem.2 hx
              rw [h.wf.2.1] at this; cases this
            · exact hev hx.symm
          · intro i hi
            rw [getD_put]
            split
            · rename_i h3
              right
              rw [h3.1]
              exact ⟨hr.2, hmem⟩
            · exact h.old i hi
          · intro i h1 h2
            rw [getD_put, if_neg (by omega)]
            exact h.new i h1 (by rw [List.length_set] at h2; exact h2)

theorem reps_sent {vs : List (Int × Int)} {sent : List Int} {r : Int} (h : r ∈ reps vs sent) : r.toNat < vs.length ∧ sent.contains (vs.getD r.toNat (0, 0)).1 = true := by
  have h1 := reps_in h
  unfold reps at h
  rw [List.mem_filter, List.mem_map] at h
  obtain ⟨⟨u, hu, rfl⟩, h2⟩ := h
  have hlt : (place vs u).toNat < vs.length := by omega
  refine ⟨hlt, ?_⟩
  have h3 : 0 ≤ place vs u := h1.1
  unfold place at h3 hlt ⊢
  split at h3
  · rename_i ha
    rw [if_pos ha] at hlt ⊢
    rw [Int.toNat_natCast] at hlt ⊢
    have := List.findIdx_getElem (w := hlt)
    rw [List.getD_eq_getElem?_getD, List.getElem?_eq_getElem hlt, Option.getD_some, show (vs[List.findIdx (fun e => e.1 == u) vs]).1 = u by simpa using this]
    exact List.contains_iff_mem.2 hu
  · omega

theorem merge_ok (vs0 ents : List (Int × Int)) (v c : Int) (sent : List Int) (h : WF (nodesOf vs0) v c) : XOk vs0 ents (step v c vs0 (reps vs0 sent) ents) v c sent :=
  step_ok vs0 ents v c sent ents [] vs0 (reps vs0 sent) rfl ⟨h, Nat.le_refl _, fun _ _ => .inl rfl, fun i h1 h2 => by omega, fun _ e he => absurd he (by simp), fun r hr => reps_sent hr⟩
end Go.Proofs.Qxb6003681a
