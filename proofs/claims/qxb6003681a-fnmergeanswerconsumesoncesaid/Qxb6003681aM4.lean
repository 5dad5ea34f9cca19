import Derived.Test.Qxb6003681aM3
namespace Go.Proofs.Qxb6003681a
open Go.RowKit
set_option linter.unusedVariables false

/-- A slice of entries (nil, or at an address) that holds vs. -/
def HasE (w : World) (ao : Option Addr) (vs : List (Int × Int)) : Prop := 0 < vs.length → ∃ g o, ao = some ⟨g, o, none⟩ ∧ ∀ j, j < vs.length →
  w.cell? ⟨g, o + j * 2, none⟩ = some (.int .i64 (vs.getD j (0, 0)).1) ∧ w.cell? ⟨g, o + j * 2 + 1, none⟩ = some (.int .i64 (vs.getD j (0, 0)).2)

theorem HasE.below {w w' : World} {ao : Option Addr} {vs : List (Int × Int)} (h : HasE w ao vs) (hb : Below w.heap.size w w') : HasE w' ao vs := fun hp => by
  obtain ⟨g, o, e, hr⟩ := h hp
  refine ⟨g, o, e, fun j hj => ?_⟩
  obtain ⟨h1, h2⟩ := hr j hj
  rw [hb.cell (p := ⟨g, o + j * 2, none⟩) (World.block_lt_of_cell? _ _ h1), hb.cell (p := ⟨g, o + j * 2 + 1, none⟩) (World.block_lt_of_cell? _ _ h2)]
  exact ⟨h1, h2⟩

/-- The place of the first entry that names u; -1 where there is none. -/
def place (vs : List (Int × Int)) (u : Int) : Int := if vs.any (fun e => e.1 == u) then ((vs.findIdx fun e => e.1 == u : Nat) : Int) else -1

theorem place_found {vs : List (Int × Int)} {u : Int} {k : Nat} (hk : k < vs.length) (h : ∀ j, j < k → ¬ (vs.getD j (0, 0)).1 = u) (e : (vs.getD k (0, 0)).1 = u) : place vs u = (k : Int) := by
  rw [List.getD_eq_getElem?_getD, List.getElem?_eq_getElem hk, Option.getD_some] at e
  unfold place
  rw [if_pos (List.any_eq_true.2 ⟨vs[k], List.getElem_mem hk, by simpa using e⟩)]
  congr 1
  rw [List.findIdx_eq hk]
  refine ⟨by simpa using e, fun j hj => ?_⟩
  have := h j hj
  rw [List.getD_eq_getElem?_getD, List.getElem?_eq_getElem (by omega), Option.getD_some] at this
  simpa using this

theorem place_none {vs : List (Int × Int)} {u : Int} (h : ∀ j, j < vs.length → ¬ (vs.getD j (0, 0)).1 = u) : place vs u = -1 := by
  unfold place
  rw [if_neg]
  intro ha
  obtain ⟨x, hx, e⟩ := List.any_eq_true.1 ha
  obtain ⟨j, hj, rfl⟩ := List.getElem_of_mem hx
  refine h j hj ?_
  rw [List.getD_eq_getElem?_getD, List.getElem?_eq_getElem hj, Option.getD_some]
  simpa using e


theorem eqNode28 (x y u : Int) (g : Nat) (w : World) (hu : w.cell? ⟨g, 0, none⟩ = some (.int .i64 u)) :
    Calls Try.prog 28 #[.agg #[.int .i64 x, .int .i64 y], .pointer (some ⟨g, 0, none⟩)] w fun e w' => e = .returned (.bool (x == u)) ∧ Below w.heap.size w w' := by
  have hu2 := Lib.cell?_alloc_some (.cells #[.int .i64 x, .int .i64 y] 51) hu
  have hg : g < w.heap.size := World.block_lt_of_cell? _ _ hu
  go_enter Try.func28, Try.ntmps28
  go_wp2
  go_ret
  exact ⟨rfl, below_alloc _ _⟩

set_option maxRecDepth 20000 in
set_option maxHeartbeats 1000000 in
theorem index28_any (ao : Option Addr) (n c : Nat) (vs : List (Int × Int)) (u : Int) (gu : Nat) (w : World) (hn : vs.length = n) (hm : n ≤ 10000000) (hv : HasE w ao vs) (hu : w.cell? ⟨gu, 0, none⟩ = some (.int .i64 u)) :
    Calls Try.prog 27 #[.slice ao n c, .func (.func 28) #[] #[.pointer (some ⟨gu, 0, none⟩)]] w fun e w' => e = .returned (.int .i64 (place vs u)) ∧ Below w.heap.size w w' := by
  have HV : Hid (vs.length = n ∧ HasE w ao vs) := ⟨hn, hv⟩
  have HU : Hid (w.cell? ⟨gu, 0, none⟩ = some (.int .i64 u)) := hu
  clear hn hv hu
  obtain ⟨res, hres⟩ : ∃ res, res = place vs u := ⟨_, rfl⟩
  rw [← hres]
  have HRES : Hid (res = place vs u) := hres
  clear hres
  go_enter Try.func27, Try.ntmps27
  go_wp2_with fail
  go_loopw [8] (fun iv wr => ∃ k : Nat, iv = .int .i64 k ∧ k ≤ n ∧ Hid (∀ j, j < k → ¬ (vs.getD j (0, 0)).1 = u) ∧ Below w.heap.size w wr) (fun iv _ => n - (intOf iv).toNat)
  case atStart => exact ⟨0, rfl, Nat.zero_le _, fun j hj => by omega, Below.refl _ _⟩
  case round =>
    obtain ⟨k, rfl, hk, HR, hbr⟩ := hrel
    by_cases hlt : k < n
    · obtain ⟨g, o, e, hc⟩ := (HV.out.2.below hbr) (by rw [HV.out.1]; omega)
      cases e
      obtain ⟨hc1, hc2⟩ := hc k (by rw [HV.out.1]; omega)
      have hur : wr.cell? ⟨gu, 0, none⟩ = some (.int .i64 u) := by
        rw [hbr.cell (p := ⟨gu, 0, none⟩) (World.block_lt_of_cell? _ _ HU.out)]; exact HU.out
      obtain ⟨x, hx⟩ : ∃ x, x = (vs.getD k (0, 0)).1 := ⟨_, rfl⟩
      have HX : Hid (x = (vs.getD k (0, 0)).1) := hx
      rw [← hx] at hc1
      generalize (vs.getD k (0, 0)).2 = y at hc2
      clear hx hc
      have hE := eqNode28 x y u gu wr hur
      clear hur
      by_cases hxu : x = u
      · subst hxu
        go_wp2_with (go_at_call 28; refine hE.mono ?_; rintro e w2 ⟨rfl, hb2⟩)
        go_ret
        refine ⟨?_, below_next hbr hb2⟩
        rw [HRES.out, place_found (k := k) (by rw [HV.out.1]; exact hlt) HR.out HX.out.symm]
        rfl
      · have hxb : (x == u) = false := by simpa using hxu
        rw [hxb] at hE
        go_wp2_with (go_at_call 28; refine hE.mono ?_; rintro e w2 ⟨rfl, hb2⟩)
        refine ⟨⟨k + 1, by go_num, by omega, ?_, below_next hbr hb2⟩, by simp [intOf]; omega⟩
        show ∀ j, _
        intro j hj
        by_cases hj2 : j < k
        · exact HR.out j hj2
        · obtain rfl : j = k := by omega
          rw [← HX.out]; exact hxu
    · obtain rfl : n = k := by omega
      go_wp2
      go_ret
      refine ⟨?_, hbr⟩
      rw [HRES.out, place_none (fun j hj => HR.out j (by rw [← HV.out.1]; exact hj))]
      rfl

theorem eqNode31 (x y u : Int) (g : Nat) (w : World) (hu : w.cell? ⟨g, 0, none⟩ = some (.int .i64 u)) :
    Calls Try.prog 31 #[.agg #[.int .i64 x, .int .i64 y], .pointer (some ⟨g, 0, none⟩)] w fun e w' => e = .returned (.bool (x == u)) ∧ Below w.heap.size w w' := by
  have hu2 := Lib.cell?_alloc_some (.cells #[.int .i64 x, .int .i64 y] 51) hu
  have hg : g < w.heap.size := World.block_lt_of_cell? _ _ hu
  go_enter Try.func31, Try.ntmps31
  go_wp2
  go_ret
  exact ⟨rfl, below_alloc _ _⟩

set_option maxRecDepth 20000 in
set_option maxHeartbeats 1000000 in
theorem index31_any (ao : Option Addr) (n c : Nat) (vs : List (Int × Int)) (u : Int) (gu : Nat) (w : World) (hn : vs.length = n) (hm : n ≤ 10000000) (hv : HasE w ao vs) (hu : w.cell? ⟨gu, 0, none⟩ = some (.int .i64 u)) :
    Calls Try.prog 27 #[.slice ao n c, .func (.func 31) #[] #[.pointer (some ⟨gu, 0, none⟩)]] w fun e w' => e = .returned (.int .i64 (place vs u)) ∧ Below w.heap.size w w' := by
  have HV : Hid (vs.length = n ∧ HasE w ao vs) := ⟨hn, hv⟩
  have HU : Hid (w.cell? ⟨gu, 0, none⟩ = some (.int .i64 u)) := hu
  clear hn hv hu
  obtain ⟨res, hres⟩ : ∃ res, res = place vs u := ⟨_, rfl⟩
  rw [← hres]
  have HRES : Hid (res = place vs u) := hres
  clear hres
  go_enter Try.func27, Try.ntmps27
  go_wp2_with fail
  go_loopw [8] (fun iv wr => ∃ k : Nat, iv = .int .i64 k ∧ k ≤ n ∧ Hid (∀ j, j < k → ¬ (vs.getD j (0, 0)).1 = u) ∧ Below w.heap.size w wr) (fun iv _ => n - (intOf iv).toNat)
  case atStart => exact ⟨0, rfl, Nat.zero_le _, fun j hj => by omega, Below.refl _ _⟩
  case round =>
    obtain ⟨k, rfl, hk, HR, hbr⟩ := hrel
    by_cases hlt : k < n
    · obtain ⟨g, o, e, hc⟩ := (HV.out.2.below hbr) (by rw [HV.out.1]; omega)
      cases e
      obtain ⟨hc1, hc2⟩ := hc k (by rw [HV.out.1]; omega)
      have hur : wr.cell? ⟨gu, 0, none⟩ = some (.int .i64 u) := by
        rw [hbr.cell (p := ⟨gu, 0, none⟩) (World.block_lt_of_cell? _ _ HU.out)]; exact HU.out
      obtain ⟨x, hx⟩ : ∃ x, x = (vs.getD k (0, 0)).1 := ⟨_, rfl⟩
      have HX : Hid (x = (vs.getD k (0, 0)).1) := hx
      rw [← hx] at hc1
      generalize (vs.getD k (0, 0)).2 = y at hc2
      clear hx hc
      have hE := eqNode31 x y u gu wr hur
      clear hur
      by_cases hxu : x = u
      · subst hxu
        go_wp2_with (go_at_call 31; refine hE.mono ?_; rintro e w2 ⟨rfl, hb2⟩)
        go_ret
        refine ⟨?_, below_next hbr hb2⟩
        rw [HRES.out, place_found (k := k) (by rw [HV.out.1]; exact hlt) HR.out HX.out.symm]
        rfl
      · have hxb : (x == u) = false := by simpa using hxu
        rw [hxb] at hE
        go_wp2_with (go_at_call 31; refine hE.mono ?_; rintro e w2 ⟨rfl, hb2⟩)
        refine ⟨⟨k + 1, by go_num, by omega, ?_, below_next hbr hb2⟩, by simp [intOf]; omega⟩
        show ∀ j, _
        intro j hj
        by_cases hj2 : j < k
        · exact HR.out j hj2
        · obtain rfl : j = k := by omega
          rw [← HX.out]; exact hxu
    · obtain rfl : n = k := by omega
      go_wp2
      go_ret
      refine ⟨?_, hbr⟩
      rw [HRES.out, place_none (fun j hj => HR.out j (by rw [← HV.out.1]; exact hj))]
      rfl

end Go.Proofs.Qxb6003681a
