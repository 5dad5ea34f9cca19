import Derived.Test.Qxb6003635aDoorB1
namespace Go.Proofs.Qxb6003635aDoor
open Go.RowKit Go.Sort
set_option linter.unusedVariables false

/-! ### A byte slice of the call's own that is appended to again and again: where it lies, and what else is as it was -/

/-- v holds l (its array of the call's own, from block B on); it lies in D, or in a block made since W; all other blocks of W are as they were. -/
structure Dst (B : Nat) (W : World) (D : Option Nat) (w : World) (v : Value) (l : List UInt8) : Prop where
  own : w.ownsRow B 5 1 v l.length (Lib.byteCells l)
  loc : ∀ b, v.ownBlock = some b → D = some b ∨ W.heap.size ≤ b
  fr : W.grownBy w D

theorem grownBy_refl (w : World) (r : Option Nat) : w.grownBy w r := ⟨rfl, rfl, rfl, Nat.le_refl _, fun _ _ _ => rfl⟩

theorem Dst.start {B : Nat} {w : World} {v : Value} {l : List UInt8} (h : w.ownsRow B 5 1 v l.length (Lib.byteCells l)) : Dst B w v.ownBlock w v l :=
  ⟨h, fun b hb => .inl hb, grownBy_refl _ _⟩

theorem Dst.trans {B : Nat} {W w w' : World} {D : Option Nat} {v v' : Value} {l l' : List UInt8} (h : Dst B W D w v l) (k : Dst B w v.ownBlock w' v' l') : Dst B W D w' v' l' := by
  refine ⟨k.own, fun b hb => ?_, k.fr.os.trans h.fr.os, k.fr.tape.trans h.fr.tape, k.fr.output.trans h.fr.output, Nat.le_trans h.fr.size k.fr.size, fun i hi hne => ?_⟩
  · rcases k.loc b hb with h1 | h1
    · exact h.loc b h1
    · exact .inr (Nat.le_trans h.fr.size h1)
  · rw [k.fr.block i (Nat.lt_of_lt_of_le hi h.fr.size) ?_]
    · exact h.fr.block i hi hne
    · intro e
      rcases h.loc i e.symm with h1 | h1
      · exact hne h1.symm
      · omega

theorem ownsRow_below {B : Nat} {w w' : World} {v : Value} {n : Nat} {xs : List Value} (h : w.ownsRow B 5 1 v n xs) (hb : Below w.heap.size w w') : w'.ownsRow B 5 1 v n xs :=
  h.kept (grownBy_of_below hb none) (by cases v.ownBlock <;> simp)

/-- Behind a step that turns no old block. -/
theorem Dst.on {B : Nat} {W w w' : World} {D : Option Nat} {v : Value} {l : List UInt8} (h : Dst B W D w v l) (hb : Below w.heap.size w w') : Dst B W D w' v l :=
  h.trans ⟨ownsRow_below h.own hb, fun b hb' => .inl hb', grownBy_of_below hb _⟩

theorem below_alloc (w : World) (o : Obj) : Below w.heap.size w (w.alloc o) := (Below.refl _ w).alloc (Nat.le_refl _) o

theorem Dst.alloc {B : Nat} {W w : World} {D : Option Nat} {v : Value} {l : List UInt8} (h : Dst B W D w v l) (o : Obj) : Dst B W D (w.alloc o) v l := h.on (below_alloc w o)

/-- Below B all is as it was. -/
theorem Dst.below {B : Nat} {W w : World} {D : Option Nat} {v : Value} {l : List UInt8} (h : Dst B W D w v l) (hB : B ≤ W.heap.size) (hD : ∀ b, D = some b → B ≤ b) : Below B W w :=
  (Below.refl B W).grown h.fr hB hD

section
variable {P : Program} (w : World)

theorem append_loc (t tx ty e : TypeId) (i : TypeInfo) (z : Value) (ht : P.underlying t = some (.slice e)) (hi : P.info? e = some i) (hz : i.zero = some z) (hsize : i.size = 1) (hby : i.bytes = 1) {base : Nat}
    (v : Value) (n : Nat) (xs : List Value) (hown : w.ownsRow base e 1 v n xs) (x : Value) (m : Nat) (news : List Value) (hs : Src P 1 tx x m news w)
    (h63 : n + m ≤ maxLen) (hbytes : n + m ≤ 140737488355328) {v' : Value} {w' : World} (hr : (Builtin.append_ #[t, tx] ty #[v, x]).run P w = .ok v' w') :
    ∀ b, v'.ownBlock = some b → v.ownBlock = some b ∨ b = w.heap.size := by
  have hs' : Src P i.size tx x m news w := by rw [hsize]; exact hs
  rcases hown.2 with ⟨rfl, rfl⟩ | ⟨g, cap, cur, rfl, hbg, hg, hnc, hcm, hcs, htake⟩
  · by_cases hm : m = 0
    · subst hm
      have hn : news = [] := List.eq_nil_of_length_eq_zero (by simpa using hs.newsLen)
      subst hn
      have := run_append_nothing (P := P) w t tx ty e i ht hi none 0 0 (Nat.le_refl _) x hs'
      rw [this] at hr
      cases hr
      intro b hb
      cases hb
    · have hf : (Builtin.firstCells i.size 0 (.slice none 0 0)).run P w.drew = .ok ([] : List Value).toArray w.drew := run_firstCells_none w.drew i.size 0 0 0
      have := run_append_grow_src (P := P) w t tx ty e i z ht hi hz none 0 0 [] hf x m news hs' (by omega) (by simp only [maxLen] at h63; omega) (growslice_fits (by omega) (by rw [hby]; omega))
      rw [this] at hr
      cases hr
      intro b hb
      simp only [Value.ownBlock, Option.some.injEq] at hb
      exact .inr hb.symm
  · by_cases hroom : n + m ≤ cap
    · have hcell : ∀ j, j < news.length → w.cell? ⟨g, 0 + n * i.size + j, none⟩ = some (cur[n + j]?.getD default) := fun j hj => by
        rw [Nat.zero_add, hsize, Nat.mul_one, cell_of_row w g (n + j) cur e (0, 0) hg]
        have : n + j < cur.size := by have := hs.newsLen; omega
        simp [this]
      have hfr : ∀ j, w.frozen? ⟨g, j, none⟩ = false := fun j => by simp [World.frozen?, hg]
      have := run_append_room_src (P := P) w t tx ty e i ht hi g 0 n cap x m news hs' hroom (fun j hj => by rw [hcell j hj]; rfl) (fun j _ => hfr _)
      rw [this] at hr
      cases hr
      intro b hb
      exact .inl hb
    · have holds : ∀ j u, xs[j]? = some u → w.cell? ((⟨g, 0, none⟩ : Addr).add j) = some u := hown.cells (g := g) rfl
      have hf : (Builtin.firstCells i.size n (.slice (some ⟨g, 0, none⟩) n cap)).run P w.drew = .ok xs.toArray w.drew := run_firstCells_some w.drew i.size n ⟨g, 0, none⟩ n cap xs (by rw [hsize]; exact hown.1) (by simpa using holds)
      have := run_append_grow_src (P := P) w t tx ty e i z ht hi hz (some ⟨g, 0, none⟩) n cap xs hf x m news hs' (by omega) (by simp only [maxLen] at h63; omega) (growslice_fits (by omega) (by rw [hby]; omega))
      rw [this] at hr
      cases hr
      intro b hb
      simp only [Value.ownBlock, Option.some.injEq] at hb
      exact .inr hb.symm
end

theorem loc_of {d : Option Nat} {b n : Nat} (h : d = some b ∨ b = n) : d = some b ∨ n ≤ b := by
  rcases h with h | h
  · exact .inl h
  · exact .inr (by omega)

section
variable (w : World)

/-- 'dst = append(dst, s...)', s a string. -/
theorem wpList_dst_string {ops : Array Oper} {rest : List Oper} {o : Oper} {a : Act} {Q : Exit → Act → World → Prop} (hgd : o.guard = none) (sl x : Operand)
    (ho : o.op = .call { callee := .builtin .append, args := #[sl, x], argTypes := #[23, 9] })
    (B : Nat) (v : Value) (l : List UInt8) (hs : a.eval sl = v) (hown : w.ownsRow B 5 1 v l.length (Lib.byteCells l)) (s : ByteArray) (hx : a.eval x = .string s) (hbytes : l.length + s.size ≤ 140737488355328) (hbase : B ≤ w.heap.size)
    (h : ∀ v' w', Dst B w v.ownBlock w' v' (l ++ s.data.toList) → wpList Tryd.prog ops Q rest (a.put o.dst v') w') : wpList Tryd.prog ops Q (o :: rest) a w := by
  obtain ⟨i0, hi, hz0, hz1, hz2⟩ := info_parts infoByte
  refine wpList_plain hgd fun K hK => ?_
  obtain ⟨v', w', hr, h2, h3, _⟩ := Lib.run_append_own_string (P := Tryd.prog) w B 23 9 o.type 5 i0 Tryd.underlying23 Tryd.underlying9 hi hz0 hz1 hz2 v l.length _ hown s (by unfold maxLen; omega) hbytes hbase
  have hl := append_loc (P := Tryd.prog) w 23 9 o.type 5 i0 _ Tryd.underlying23 hi hz0 hz1 hz2 v l.length _ hown (.string s) s.size _ (Src.ofString w Tryd.underlying9 s) (by unfold maxLen; omega) hbytes hr
  unfold Oper.wp execOp
  simp only [ho, resolve, invoke, builtin, Sem.run_bind, Sem.run_pure, Result.andThen_ok, List.map_toArray, List.map_cons, List.map_nil, hs, hx, hr]
  refine hK _ _ (h v' w' ⟨?_, fun b hb => loc_of (hl b hb), h3⟩)
  have e1 : Lib.byteCells (l ++ s.data.toList) = Lib.byteCells l ++ Lib.strCells s := by simp [Lib.byteCells, Lib.strCells]
  have e2 : (l ++ s.data.toList).length = l.length + s.size := by simp
  rw [e1, e2]
  exact h2

/-- 'dst = append(dst, t...)', t a slice that holds m. -/
theorem wpList_dst_slice {ops : Array Oper} {rest : List Oper} {o : Oper} {a : Act} {Q : Exit → Act → World → Prop} (hgd : o.guard = none) (sl x : Operand)
    (ho : o.op = .call { callee := .builtin .append, args := #[sl, x], argTypes := #[23, 23] })
    (B : Nat) (v : Value) (l : List UInt8) (hs : a.eval sl = v) (hown : w.ownsRow B 5 1 v l.length (Lib.byteCells l)) (g : Nat) (m : List UInt8) (n c : Nat) (hx : a.eval x = .slice (some ⟨g, 0, none⟩) n c) (hn : m.length = n) (hrow : RowB w g 0 m) (hbytes : l.length + n ≤ 140737488355328) (hbase : B ≤ w.heap.size)
    (h : ∀ v' w', Dst B w v.ownBlock w' v' (l ++ m) → wpList Tryd.prog ops Q rest (a.put o.dst v') w') : wpList Tryd.prog ops Q (o :: rest) a w := by
  obtain ⟨i0, hi, hz0, hz1, hz2⟩ := info_parts infoByte
  subst hn
  refine wpList_plain hgd fun K hK => ?_
  have hcells : ∀ j u', (Lib.byteCells m)[j]? = some u' → w.cell? ((⟨g, 0, none⟩ : Addr).add j) = some u' := by
    intro j u' hj
    have hjl : j < m.length := by
      have h5 := (List.getElem?_eq_some_iff.1 hj).1
      rwa [Lib.byteCells_length] at h5
    have e5 : (Lib.byteCells m)[j]? = some (Value.int .u8 ((m.getD j 0).toNat : Int)) := by simp [Lib.byteCells, hjl]
    rw [e5] at hj
    cases hj
    rw [Lib.add_plain]
    exact hrow j hjl
  have hml : (Lib.byteCells m).length = m.length * 1 := by rw [Lib.byteCells_length, Nat.mul_one]
  obtain ⟨v', w', hr, h2, h3, _⟩ := run_append_own (P := Tryd.prog) w B 23 o.type 5 i0 _ 1 1 Tryd.underlying23 hi hz0 hz1 hz2 rfl (by decide) v l.length _ hown ⟨g, 0, none⟩ m.length c (Lib.byteCells m) hml hcells (byteCells_one' m) (by unfold maxLen; omega) (by omega) hbase
  have hl := append_loc (P := Tryd.prog) w 23 23 o.type 5 i0 _ Tryd.underlying23 hi hz0 hz1 hz2 v l.length _ hown (.slice (some ⟨g, 0, none⟩) m.length c) m.length _ (Src.ofSlice w (e' := 5) Tryd.underlying23 _ _ _ _ hml hcells (byteCells_one' m)) (by unfold maxLen; omega) hbytes hr
  unfold Oper.wp execOp
  simp only [ho, resolve, invoke, builtin, Sem.run_bind, Sem.run_pure, Result.andThen_ok, List.map_toArray, List.map_cons, List.map_nil, hs, hx, hr]
  refine hK _ _ (h v' w' ⟨?_, fun b hb => loc_of (hl b hb), h3⟩)
  have e1 : Lib.byteCells (l ++ m) = Lib.byteCells l ++ Lib.byteCells m := by simp [Lib.byteCells]
  rw [e1, List.length_append]
  exact h2
end
end Go.Proofs.Qxb6003635aDoor
