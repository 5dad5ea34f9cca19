import Derived.Test.Qxb6003635aDoorC5
namespace Go.Proofs.Qxb6003635aDoor
open Go.RowKit Go.Sort
set_option linter.unusedVariables false

theorem byteCells_at {w : World} {a : Addr} {l : List UInt8} (h : HasB w (some a) l) : 0 < (Lib.byteCells l).length → ∃ ad, (some a : Option Addr) = some ad ∧ ∀ j v, (Lib.byteCells l)[j]? = some v → w.cell? (ad.add j) = some v := by
  intro hp
  rw [Lib.byteCells_length] at hp
  obtain ⟨g, o, e, hr⟩ := h hp
  cases e
  refine ⟨_, rfl, fun j v hj => ?_⟩
  have hjl : j < l.length := by
    have h5 := (List.getElem?_eq_some_iff.1 hj).1
    rwa [Lib.byteCells_length] at h5
  have e5 : (Lib.byteCells l)[j]? = some (Value.int .u8 ((l.getD j 0).toNat : Int)) := by simp [Lib.byteCells, hjl]
  rw [e5] at hj
  cases hj
  rw [Lib.add_plain]
  exact hr j hjl

theorem HasB.below {w w' : World} {ao : Option Addr} {l : List UInt8} (h : HasB w ao l) (hb : Below w.heap.size w w') : HasB w' ao l := fun hp => by
  obtain ⟨g, o, e, hr⟩ := h hp
  have := hr 0 hp
  exact ⟨g, o, e, hr.below (World.block_lt_of_cell? _ _ this) hb⟩

def Cloned (n : Nat) (l : List UInt8) (w : World) (e : Ending) (w' : World) : Prop :=
  ∃ a c, e = .returned (.slice a n c) ∧ w'.ownsRow w.heap.size 5 1 (.slice a n c) l.length (Lib.byteCells l) ∧ Below w.heap.size w w' ∧ (a = none → n = 0 ∧ c = 0)

set_option maxHeartbeats 1000000 in
theorem cloneB_any (ao : Option Addr) (n c : Nat) (l : List UInt8) (w : World) (hl : l.length = n) (hb : n ≤ 10000000) (h : HasB w ao l) (hnil : ao = none → n = 0 ∧ c = 0) :
    Calls Tryd.prog 8 #[.slice ao n c] w fun e w' => Cloned n l w e w' := by
  have hnl := fun W a n c => Lib.run_eql_slice_nil (P := Tryd.prog) W 23 5 a n c 0 0 Tryd.underlying23
  cases ao with
  | none =>
    obtain ⟨rfl, rfl⟩ := hnil rfl
    have el : l = [] := List.eq_nil_of_length_eq_zero hl
    subst el
    clear hnil h
    go_enter Tryd.func8, Tryd.ntmps8
    go_wp2
    go_ret
    exact ⟨none, 0, rfl, World.ownsRow_nil _ _ _ _, Below.refl _ _, fun _ => ⟨rfl, rfl⟩⟩
  | some a =>
    have hmk := run_make_row' (P := Tryd.prog) 23 5 (.int .u8 0) 1 Tryd.underlying23 infoByte rfl .i64 .i64 n (by omega) (by omega)
    have hb1 := below_alloc w (.cells (madeCells #[.int .u8 0] n) 5)
    have hsrc := byteCells_at (h.below hb1)
    have hcur : (w.alloc (.cells (madeCells #[.int .u8 0] n) 5)).heap[w.heap.size]? = some (.cells (madeCells #[.int .u8 0] n).toList.toArray 5 (0, 0)) := by
      rw [heap_alloc_new]
    have HML : Hid ((madeCells #[Value.int .u8 0] n).toList.length = n) := by show _ = _; simp [size_madeCells]
    have HVL : Hid ((Lib.byteCells l).length = n) := by show _ = _; rw [Lib.byteCells_length, hl]
    have HSRC : Hid _ := hsrc
    clear h hsrc hnil
    have HL : Hid (l.length = n) := hl
    clear hl
    go_enter Tryd.func8, Tryd.ntmps8
    go_upto_region 4 with fail
    go_wp2_with (refine wpList_copy_splice rfl _ _ 23 23 rfl 5 Tryd.underlying23 (by kernel_rfl) _ _ _ _ _ _ rfl rfl w.heap.size 0 _ 5 hcur (Lib.byteCells l) ?c1 ?c2 ?c3 ?c4 w.heap.size w hb1 (Nat.le_refl _) ?_)
    case c1 => rw [HVL.out]; simp
    case c2 =>
      intro hp
      have := HSRC.out hp
      obtain ⟨ad, e, hh⟩ := this
      cases e
      first | exact ⟨rfl, _, rfl, hh⟩ | exact hh
    case c3 => rw [HVL.out, HML.out]; omega
    case c4 => exact byteCells_one' l
    intro w2 HG hb2
    go_wp2
    go_ret
    have e : splice (madeCells #[Value.int .u8 0] n).toList 0 (Lib.byteCells l) = Lib.byteCells l := by
      unfold splice
      rw [List.drop_of_length_le (by rw [HVL.out, HML.out]; omega)]
      simp
    have hg := HG.out
    rw [e] at hg
    refine ⟨some ⟨w.heap.size, 0, none⟩, n, rfl, ⟨by rw [HVL.out, HL.out, Nat.mul_one], .inr ⟨w.heap.size, n, _, by rw [HL.out], Nat.le_refl _, hg, by rw [HL.out]; exact Nat.le_refl _, by unfold maxLen; omega, by simp [HVL.out], ?_⟩⟩, hb2, fun h => by cases h⟩
    rw [List.take_of_length_le]
    simp [HVL.out, HL.out]

set_option maxHeartbeats 1000000 in
theorem bytesD_any (ao da : Option Addr) (n c nd cd : Nat) (ss : List ByteArray) (peers torrents i : Int) (w : World) (hn : ss.length = n) (hnm : n ≤ maxLen) (hs : HasS w ao ss) (hsz : ∀ j, j < n → (ss.getD j ByteArray.empty).size ≤ maxLen) (hdm : nd ≤ maxLen) :
    Calls Tryd.prog 5 #[.int .i64 peers, .int .i64 torrents, .slice ao n c, .slice da nd cd, .int .i64 i] w fun e w' => Tells (Bd ss n) w e w' := by
  unfold maxLen at hnm hsz hdm
  by_cases hbig : n ≤ 1048576
  · have HN : Hid (ss.length = n) := hn
    have HD : Hid (nd ≤ 2 ^ 63 - 1) := hdm
    clear hn hnm hdm
    go_enter Tryd.func5, Tryd.ntmps5
    go_wp2
    go_loop [11, 12] (fun zv iv => ∃ (k : Nat) (z : Int), k ≤ n ∧ iv = .int .i64 k ∧ zv = .int .i64 z ∧ 0 ≤ z ∧ z ≤ 1048576 ∧ Short ss k) (fun _ iv => n - (intOf iv).toNat)
    case atStart => exact ⟨0, n, Nat.zero_le _, rfl, rfl, by omega, by omega, fun j hj => by omega⟩
    case round =>
      obtain ⟨k, z, hk, rfl, rfl, hz0, hz1, hsh⟩ := hrel
      by_cases hlt : k < n
      · obtain ⟨g, o, e, hc⟩ := hs.at (k := k) (by rw [HN.out]; exact hlt)
        have hszk := hsz k hlt
        subst e
        obtain ⟨s, hsd⟩ : ∃ s, s = ss.getD k ByteArray.empty := ⟨_, rfl⟩
        rw [← hsd] at hc hszk
        have HSD : Hid (s = ss.getD k ByteArray.empty) := hsd
        have HSZ : Hid (s.size ≤ 2 ^ 63 - 1) := hszk
        have HSZ2 : Hid (∀ j, j < n → (ss.getD j ByteArray.empty).size ≤ 2 ^ 63 - 1) := hsz
        clear hsd hszk hsz
        by_cases hs1 : s.size ≤ 1048576
        · by_cases hs2 : z + s.size ≤ 1048576
          · go_wp2
            go_round
            case rel => exact ⟨k + 1, z + s.size, by omega, by go_num, rfl, by omega, by omega, hsh.succ (by rw [← HSD.out]; exact hs1)⟩
            case measure => simp [intOf]; omega
          · go_wp2
            go_ret
            exact tells_no rfl
        · have hs3 : (1048576 : Int) < (s.size : Int) := by omega
          go_wp2
          go_ret
          exact tells_no rfl
      · have HEK : Hid (k = n) := by show k = n; omega
        clear hsz
        by_cases hd1 : nd ≤ 1048576
        · by_cases hd2 : z + nd ≤ 1048576
          · go_wp2
            go_ret
            exact tells_yes rfl ⟨hbig, by rw [← HEK.out]; exact hsh⟩
          · go_wp2
            go_ret
            exact tells_no rfl
        · have hd3 : (1048576 : Int) < (nd : Int) := by omega
          go_wp2
          go_ret
          exact tells_no rfl
  · have hbig' : (1048576 : Int) < (n : Int) := by omega
    clear hsz hn hdm
    go_enter Tryd.func5, Tryd.ntmps5
    go_wp2
    go_ret
    exact tells_no rfl
end Go.Proofs.Qxb6003635aDoor
