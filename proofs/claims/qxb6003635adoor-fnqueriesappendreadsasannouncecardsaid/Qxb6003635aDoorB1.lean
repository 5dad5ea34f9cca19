import Derived.Test.Qxb6003635aDoorA5
import Derived.Test.Qxb6003635aDoorShelf
import Derived.Deep.AppendSrc
import Derived.Deep.Upon
import Derived.Lib.AppendIntMem
import Derived.Lib.ItoaLen
import Derived.Lib.Slices
import Derived.Lib.Hide
import Derived.Lib.EndianMore
import Derived.OwnWalk
namespace Go.Proofs.Qxb6003635aDoor
open Go.RowKit Go.Sort
set_option linter.unusedVariables false

section
variable {P : Program} (w : World)

/-- 'append' where there is room: the new cells are laid behind the length, in the slice's own block. -/
theorem wpList_append_room {ops : Array Oper} {rest : List Oper} {o : Oper} {a : Act} {Q : Exit → Act → World → Prop} (hgd : o.guard = none) (sl x : Operand) (t tx : TypeId)
    (ho : o.op = .call { callee := .builtin .append, args := #[sl, x], argTypes := #[t, tx] })
    (e : TypeId) (i : TypeInfo) (ht : P.underlying t = some (.slice e)) (hi : P.info? e = some i) (hsz : i.size = 1)
    (g off n cap : Nat) (hs : a.eval sl = .slice (some ⟨g, off, none⟩) n cap) (xv : Value) (hx : a.eval x = xv) (m : Nat) (news : List Value) (hsrc : Src P 1 tx xv m news w)
    (hroom : n + m ≤ cap) (hc : ∀ j, j < news.length → (w.cell? ⟨g, off + n + j, none⟩).isSome = true) (hf : ∀ j, j < news.length → w.frozen? ⟨g, off + n + j, none⟩ = false)
    (h : wpList P ops Q rest (a.put o.dst (.slice (some ⟨g, off, none⟩) (n + m) cap)) (w.setCells g (off + n) news)) : wpList P ops Q (o :: rest) a w := by
  refine wpList_plain hgd fun K hK => ?_
  have hr := run_append_room_src (P := P) w t tx o.type e i ht hi g off n cap xv m news (by rw [hsz]; exact hsrc) hroom (by rw [hsz, Nat.mul_one]; exact hc) (by rw [hsz, Nat.mul_one]; exact hf)
  rw [hsz, Nat.mul_one] at hr
  unfold Oper.wp execOp
  simp only [ho, resolve, invoke, builtin, Sem.run_bind, Sem.run_pure, Result.andThen_ok, List.map_toArray, List.map_cons, List.map_nil, hs, hx, hr]
  exact hK _ _ h
end

theorem size_setCells' (b : Nat) : ∀ (vs : List Value) (o : Nat) (w : World), (w.setCells b o vs).heap.size = w.heap.size
  | [], _, _ => rfl
  | v :: vs, o, w => by
    show ((w.setCell ⟨b, o, none⟩ v).setCells b (o + 1) vs).heap.size = _
    rw [size_setCells' b vs (o + 1)]
    simp [World.setCell]

theorem grownBy_setCells (w : World) (g o : Nat) (vs : List Value) : w.grownBy (w.setCells g o vs) (some g) := by
  have h := Lib.below_setCells_w (Nat.le_refl g) vs o w
  exact ⟨h.os, h.tape, h.output, by rw [size_setCells']; exact Nat.le_refl _, fun k hk hne => World.heap_setCells_other w g o vs hk (fun e => hne (by rw [e]))⟩

theorem grownBy_trans {a b c : World} {r : Option Nat} (h : a.grownBy b r) (k : b.grownBy c r) : a.grownBy c r :=
  ⟨k.os.trans h.os, k.tape.trans h.tape, k.output.trans h.output, Nat.le_trans h.size k.size, fun i hi hne => (k.block i (Nat.lt_of_lt_of_le hi h.size) hne).trans (h.block i hi hne)⟩

theorem grownBy_of_below {w w' : World} (h : Below w.heap.size w w') (r : Option Nat) : w.grownBy w' r := ⟨h.os, h.tape, h.output, h.size, fun k hk _ => h.block k hk⟩

/-- Room for twenty bytes in block g. -/
def Room20 (w : World) (g : Nat) : Prop := (∀ j, j < 20 → (w.cell? ⟨g, j, none⟩).isSome = true) ∧ ∀ j, j < 20 → w.frozen? ⟨g, j, none⟩ = false

theorem Room20.on {w w' : World} {g : Nat} (h : Room20 w g) (hb : Below w.heap.size w w') (hg : g < w.heap.size) : Room20 w' g :=
  ⟨fun j hj => by rw [hb.cell (p := ⟨g, j, none⟩) hg]; exact h.1 j hj, fun j hj => by rw [hb.frozen (p := ⟨g, j, none⟩) hg]; exact h.2 j hj⟩

theorem rowB_setCells (w : World) (g : Nat) (l : List UInt8) (h : ∀ j, j < l.length → (w.cell? ⟨g, j, none⟩).isSome = true) : RowB (w.setCells g 0 (Lib.byteCells l)) g 0 l := fun j hj => by
  have := World.cell?_setCells_in g (Lib.byteCells l) 0 w (fun j hj => by rw [Nat.zero_add]; exact h j (by rwa [Lib.byteCells_length] at hj)) j (by rw [Lib.byteCells_length]; exact hj)
  rw [this]
  simp [Lib.byteCells, hj]

theorem byteCells_one' (l : List UInt8) : ∀ u ∈ Lib.byteCells l, u.oneCell' = true := by
  intro u hu
  simp only [Lib.byteCells, List.mem_map] at hu
  obtain ⟨b, _, rfl⟩ := hu
  rfl

theorem infoByte : (Tryd.prog.info? 5).map (fun i => (i.zero, i.size, i.bytes)) = some (some (.int .u8 0), 1, 1) := by kernel_rfl

set_option maxHeartbeats 1000000 in
/-- internal/strconv.AppendUint at base 10 onto an empty slice with room for twenty, u below 100. -/
theorem appUint_small (g u : Nat) (hu : u < 100) (w : World) (hr : Room20 w g) :
    Calls Tryd.prog 22 #[.slice (some ⟨g, 0, none⟩) 0 20, .int .u64 u, .int .i64 10] w fun e w' => e = .returned (.slice (some ⟨g, 0, none⟩) (Lib.decDigits u).length 20) ∧ RowB w' g 0 (Lib.decDigits u) ∧ w.grownBy w' (some g) := by
  obtain ⟨i0, hi, hz0, hz1, hz2⟩ := info_parts infoByte
  have hlen : (Lib.decDigits u).length ≤ 2 := by
    rw [Lib.decDigits_length]
    by_cases h10 : u < 10
    · rw [Lib.nDigits_small h10]; omega
    · rw [Lib.nDigits_big h10, Lib.nDigits_small (show u / 10 < 10 by omega)]; omega
  have hsz : (⟨(Lib.decDigits u).toArray⟩ : ByteArray).size = (Lib.decDigits u).length := by simp [ByteArray.size]
  have hsrc : ∀ w, Src Tryd.prog 1 9 (.string ⟨(Lib.decDigits u).toArray⟩) (Lib.decDigits u).length (Lib.byteCells (Lib.decDigits u)) w := fun w => by
    have := Src.ofString (P := Tryd.prog) (w := w) (tx := 9) Tryd.underlying9 ⟨(Lib.decDigits u).toArray⟩
    rw [hsz] at this
    exact this
  go_enter Tryd.func22, Tryd.ntmps22
  go_wp2_with (first
    | (go_at_call 23; refine (Tryd.internal_strconv_small u hu _).mono ?_; rintro e w' ⟨rfl, rfl⟩)
    | (at_builtin; refine wpList_append_room _ rfl _ _ 23 9 rfl 5 i0 Tryd.underlying23 hi hz1 g 0 0 20 rfl _ rfl (Lib.decDigits u).length (Lib.byteCells (Lib.decDigits u)) (hsrc _) ?c1 ?c2 ?c3 ?_))
  case c1 => omega
  case c2 => intro j hj; rw [Lib.byteCells_length] at hj; simpa using hr.1 j (by omega)
  case c3 => intro j hj; rw [Lib.byteCells_length] at hj; simpa using hr.2 j (by omega)
  go_ret
  exact ⟨rfl, rowB_setCells _ g _ (fun j hj => hr.1 j (by omega)), grownBy_setCells _ _ _ _⟩

set_option maxHeartbeats 2000000 in
set_option maxRecDepth 100000 in
/-- internal/strconv.AppendUint at base 10 onto an empty slice with room for twenty, u from 100 on. -/
theorem appUint_big (g u : Nat) (hu : 100 ≤ u) (hu64 : u < 18446744073709551616) (w : World) (hg : g < w.heap.size) (hr : Room20 w g) (htab : Lib.TabIs Tryd.prog w pow10Name .u64 Lib.pow10Tab) :
    Calls Tryd.prog 22 #[.slice (some ⟨g, 0, none⟩) 0 20, .int .u64 u, .int .i64 10] w fun e w' => e = .returned (.slice (some ⟨g, 0, none⟩) (Lib.decDigits u).length 20) ∧ RowB w' g 0 (Lib.decDigits u) ∧ w.grownBy w' (some g) := by
  obtain ⟨i0, hi, hz0, hz1, hz2⟩ := info_parts infoByte
  have hu1 : 1 ≤ u := by omega
  have hnd20 : Lib.nDigits u ≤ 20 := by have := Lib.numDigits_eq u hu1 hu64; split at this <;> omega
  have hal : Tryd.prog.arrayLen 47 = 24 := by simp [Program.arrayLen, Tryd.underlying47]
  have hsl : ∀ W, (Instr.sliceAt 47 (.pointer (some ⟨w.heap.size, 0, none⟩)) none (some (.int .i64 (Lib.nDigits u : Int))) none).run Tryd.prog W = .ok (.slice (some ⟨w.heap.size, 0, none⟩) (Lib.nDigits u) 24) W := fun W => by
    rw [run_sliceAt_array_h W 47 ⟨w.heap.size, 0, none⟩ (by simp [Program.arrayLen, Program.elem, Tryd.underlying47]) .i64 (Lib.nDigits u : Int) (by omega) (by rw [hal]; omega)]
    go_simp
  have hH0 := Lib.holds_zero0 w 47 (Lib.nDigits u) (by omega)
  have hfmt := Tryd.internal_strconv_formatBase10 w.heap.size 0 24 u (Array.replicate (Lib.nDigits u) 0) (w.alloc (.cells Lib.zeros24 47)) hH0 (by rw [Array.size_replicate]; exact Lib.lt_pow_nDigits u) hu64 (by rw [Array.size_replicate]; omega)
  rw [Array.size_replicate] at hfmt
  have HH0 := Lib.hid hH0
  have iu : (100 : Int) ≤ (u : Int) := by omega
  clear hH0 hal
  go_enter Tryd.func22, Tryd.ntmps22
  go_wp2_with (first
    | (go_at_call 24; refine (Tryd.internal_strconv_numDigits u hu1 hu64 _ (Lib.tabIs_alloc htab _)).mono ?_; rintro e w' ⟨rfl, rfl⟩))
  go_at_call 25
  refine hfmt.mono ?_
  rintro e w' ⟨rfl, k, v', dk, rfl, hF⟩
  have hcells : ∀ j u', (Lib.byteCells (Lib.decDigits u))[j]? = some u' → ((putRow (fun (b : UInt8) => Value.int .u8 (b.toNat : Int)) (w.alloc (.cells Lib.zeros24 47)) w.heap.size 0 dk).drewN k).cell? ((⟨w.heap.size, 0, none⟩ : Addr).add j) = some u' := by
    intro j u' hj
    have hjl : j < (Lib.decDigits u).length := by
      have h5 := (List.getElem?_eq_some_iff.1 hj).1
      rwa [Lib.byteCells_length] at h5
    have e5 : (Lib.byteCells (Lib.decDigits u))[j]? = some (Value.int .u8 ((Lib.decDigits u)[j].toNat : Int)) := by simp [Lib.byteCells, hjl]
    rw [e5] at hj
    cases hj
    rw [Lib.row_is_numeral hF j hjl, Lib.add_plain, World.cell?_drewN]
    exact cell?_putRow (fun (b : UInt8) => Value.int .u8 (b.toNat : Int)) _ w.heap.size 0 _ dk HH0.out (by rw [hF.size, Array.size_replicate]) j (by rw [hF.size]; rw [Lib.decDigits_length] at hjl; exact hjl)
  obtain ⟨os, eo⟩ := Lib.fin_at w (.cells Lib.zeros24 47) dk k 0
  have hnx2 : Below w.heap.size w ((putRow (fun (b : UInt8) => Value.int .u8 (b.toNat : Int)) (w.alloc (.cells Lib.zeros24 47)) w.heap.size 0 dk).drewN k) := by rw [eo]; exact Lib.below_grow _ w (Nat.le_refl _) k os
  generalize (putRow (fun (b : UInt8) => Value.int .u8 (b.toNat : Int)) (w.alloc (.cells Lib.zeros24 47)) w.heap.size 0 dk).drewN k = W2 at hcells hnx2 ⊢
  clear eo HH0 hfmt
  have hr2 := hr.on hnx2 hg
  have hsrc : Src Tryd.prog 1 23 (.slice (some ⟨w.heap.size, 0, none⟩) (Lib.nDigits u) 24) (Lib.nDigits u) (Lib.byteCells (Lib.decDigits u)) W2 :=
    Src.ofSlice (P := Tryd.prog) (w := W2) (e' := 5) Tryd.underlying23 ⟨w.heap.size, 0, none⟩ (Lib.nDigits u) 24 _ (by rw [Lib.byteCells_length, Lib.decDigits_length, Nat.mul_one]) hcells (byteCells_one' _)
  go_wp2_with (at_builtin; refine wpList_append_room _ rfl _ _ 23 23 rfl 5 i0 Tryd.underlying23 hi hz1 g 0 0 20 rfl _ rfl (Lib.nDigits u) (Lib.byteCells (Lib.decDigits u)) hsrc ?c1 ?c2 ?c3 ?_)
  case c1 => omega
  case c2 => intro j hj; rw [Lib.byteCells_length, Lib.decDigits_length] at hj; simpa using hr2.1 j (by omega)
  case c3 => intro j hj; rw [Lib.byteCells_length, Lib.decDigits_length] at hj; simpa using hr2.2 j (by omega)
  go_ret
  refine ⟨?_, rowB_setCells _ g _ (fun j hj => hr2.1 j (by rw [Lib.decDigits_length] at hj; omega)), grownBy_trans (grownBy_of_below hnx2 _) (grownBy_setCells _ _ _ _)⟩
  rw [Lib.decDigits_length]; rfl

/-- strconv.AppendInt at base 10 onto an empty slice with room for twenty. -/
theorem appUint_any (g u : Nat) (hu64 : u < 18446744073709551616) (w : World) (hg : g < w.heap.size) (hr : Room20 w g) (htab : Lib.TabIs Tryd.prog w pow10Name .u64 Lib.pow10Tab) :
    Calls Tryd.prog 22 #[.slice (some ⟨g, 0, none⟩) 0 20, .int .u64 u, .int .i64 10] w fun e w' => e = .returned (.slice (some ⟨g, 0, none⟩) (Lib.decDigits u).length 20) ∧ RowB w' g 0 (Lib.decDigits u) ∧ w.grownBy w' (some g) := by
  by_cases h : u < 100
  · exact appUint_small g u h w hr
  · exact appUint_big g u (by omega) hu64 w hg hr htab

set_option maxHeartbeats 1000000 in
theorem appInt_room (g u : Nat) (hu : (u : Int) < 9223372036854775808) (w : World) (hg : g < w.heap.size) (hr : Room20 w g) (htab : Lib.TabIs Tryd.prog w pow10Name .u64 Lib.pow10Tab) :
    Calls Tryd.prog 16 #[.slice (some ⟨g, 0, none⟩) 0 20, .int .i64 u, .int .i64 10] w fun e w' => e = .returned (.slice (some ⟨g, 0, none⟩) (Lib.decDigits u).length 20) ∧ RowB w' g 0 (Lib.decDigits u) ∧ w.grownBy w' (some g) := by
  have H := appUint_any g u (by omega) w hg hr htab
  have hwr : IntKind.u64.wrap (u : Int) = (u : Int) := by rw [IntKind.wrap_u64]; omega
  clear htab hr hu
  go_enter Tryd.func16, Tryd.ntmps16
  go_wp2_with (first | (go_at_call 20; go_in) | (go_at_call 22; refine H.mono ?_; rintro e w' ⟨rfl, h1, h2⟩))
  go_ret
  exact ⟨rfl, h1, h2⟩
end Go.Proofs.Qxb6003635aDoor
