import Derived.Test.Qxb6003681aM5
import Derived.Laws.AppendOwn
import Derived.Laws.MakeOwn
namespace Go.Proofs.Qxb6003681a
open Go.RowKit
set_option linter.unusedVariables false

/-- The cells of a row of entries. -/
def ec (vs : List (Int × Int)) : List Value := vs.flatMap fun e => [Value.int .i64 e.1, Value.int .i64 e.2]

theorem ec_length (vs : List (Int × Int)) : (ec vs).length = vs.length * 2 := by
  induction vs with
  | nil => rfl
  | cons e r ih =>
    have : ec (e :: r) = [Value.int .i64 e.1, Value.int .i64 e.2] ++ ec r := rfl
    rw [this, List.length_append, ih]
    simp
    omega

theorem ec_at (vs : List (Int × Int)) : ∀ k, k < vs.length → (ec vs)[k * 2]? = some (.int .i64 (vs.getD k (0, 0)).1) ∧ (ec vs)[k * 2 + 1]? = some (.int .i64 (vs.getD k (0, 0)).2) := by
  induction vs with
  | nil => intro k hk; simp at hk
  | cons e r ih =>
    intro k hk
    have h : ec (e :: r) = Value.int .i64 e.1 :: Value.int .i64 e.2 :: ec r := rfl
    rw [h]
    match k, hk with
    | 0, _ => exact ⟨rfl, rfl⟩
    | k + 1, hk =>
      have := ih k (by simpa using hk)
      have e1 : (k + 1) * 2 = k * 2 + 2 := by omega
      rw [e1]
      simpa using this

theorem ec_set (vs : List (Int × Int)) : ∀ k x y, ((ec vs).set (k * 2) (.int .i64 x)).set (k * 2 + 1) (.int .i64 y) = ec (vs.set k (x, y)) := by
  induction vs with
  | nil => intro k x y; simp [ec]
  | cons e r ih =>
    intro k x y
    have h : ∀ e r, ec (e :: r) = Value.int .i64 e.1 :: Value.int .i64 e.2 :: ec r := fun _ _ => rfl
    match k with
    | 0 => simp [h]
    | k + 1 =>
      have e1 : (k + 1) * 2 = k * 2 + 2 := by omega
      rw [e1, List.set_cons_succ, h, h]
      simp [ih]

theorem ec_one (vs : List (Int × Int)) : ∀ v ∈ ec vs, v.oneCell' = true := by
  intro v hv
  simp only [ec, List.mem_flatMap] at hv
  obtain ⟨e, _, h⟩ := hv
  rcases List.mem_cons.1 h with rfl | h
  · rfl
  · rcases List.mem_cons.1 h with rfl | h
    · rfl
    · cases h

theorem ec_append (a b : List (Int × Int)) : ec (a ++ b) = ec a ++ ec b := by simp [ec]

theorem madeE (n : Nat) : madeCells #[Value.int .i64 0, Value.int .i64 0] (n * 2) = (ec (List.replicate n (0, 0))).toArray := by
  apply Array.ext_getElem?
  intro i
  by_cases hi : i < n * 2
  · have h2 := ec_at (List.replicate n (0, 0)) (i / 2) (by simp; omega)
    have h3 : (List.replicate n ((0 : Int), (0 : Int))).getD (i / 2) (0, 0) = (0, 0) := by simp [List.getD, show i / 2 < n by omega]
    rw [h3] at h2
    simp only [List.getElem?_toArray]
    rcases Nat.mod_two_eq_zero_or_one i with h | h
    · have e : (ec (List.replicate n (0, 0)))[i]? = some (.int .i64 0) := by
        have e : i = i / 2 * 2 := by omega
        rw [e]; exact h2.1
      rw [e]
      simp [madeCells, hi, h]
    · have e : (ec (List.replicate n (0, 0)))[i]? = some (.int .i64 0) := by
        have e : i = i / 2 * 2 + 1 := by omega
        rw [e]; exact h2.2
      rw [e]
      simp [madeCells, hi, h]
  · rw [Array.getElem?_eq_none (by rw [size_madeCells]; omega), Array.getElem?_eq_none (by simp [ec_length]; omega)]

/-- The first k of vs, then empty entries. -/
def partE (k : Nat) (vs : List (Int × Int)) : List (Int × Int) := vs.take k ++ List.replicate (vs.length - k) (0, 0)

theorem partE_zero (l : List (Int × Int)) : partE 0 l = List.replicate l.length (0, 0) := by simp [partE]
theorem partE_all (l : List (Int × Int)) : partE l.length l = l := by simp [partE]
theorem partE_length (k : Nat) (l : List (Int × Int)) (h : k ≤ l.length) : (partE k l).length = l.length := by simp [partE]; omega
theorem partE_succ (k : Nat) (l : List (Int × Int)) (h : k < l.length) : (partE k l).set k (l.getD k (0, 0)) = partE (k + 1) l := by
  apply List.ext_getElem?
  intro i
  unfold partE
  rw [List.getElem?_set, List.getD_eq_getElem?_getD, List.getElem?_eq_getElem h]
  by_cases h1 : k = i
  · subst h1
    rw [if_pos rfl, if_pos (by simp; omega), List.getElem?_append_left (by simp; omega), List.getElem?_take_of_lt (by omega), List.getElem?_eq_getElem h]
    rfl
  · rw [if_neg h1]
    by_cases h2 : i < k
    · rw [List.getElem?_append_left (by simp; omega), List.getElem?_append_left (by simp; omega), List.getElem?_take_of_lt (by omega), List.getElem?_take_of_lt (by omega)]
    · rw [List.getElem?_append_right (by simp; omega), List.getElem?_append_right (by simp; omega), List.getElem?_replicate, List.getElem?_replicate]
      simp only [List.length_take]
      split <;> split <;> first | rfl | omega

theorem infoEnt : (Try.prog.info? 51).map (fun i => (i.zero, i.size, i.bytes)) = some (some (.agg #[.int .i64 0, .int .i64 0]), 2, 16) := by kernel_rfl

theorem make_ent (n : Nat) (hn : n ≤ 10000000) (w : World) : (Instr.makeSlice 41 (.int .i64 (n : Int)) (.int .i64 (n : Int))).run Try.prog w = .ok (.slice (some ⟨w.heap.size, 0, none⟩) n n) (w.alloc (.cells (ec (List.replicate n (0, 0))).toArray 51)) := by
  obtain ⟨i, hi, hzz⟩ := Option.map_eq_some_iff.1 infoEnt
  simp only [Prod.mk.injEq] at hzz
  obtain ⟨hz, hs, hb⟩ := hzz
  have hr := run_make (P := Try.prog) w 41 51 i _ Try.underlying41 hi hz .i64 .i64 n n (by omega) (Int.le_refl _) (by rw [hb]; omega) (by omega)
  simp only [Int.toNat_natCast, hs, Value.cells, madeE] at hr
  exact hr

theorem cell_ec {w : World} {g k : Nat} {x : List (Int × Int)} {t : TypeId} (h : w.heap[g]? = some (.cells (ec x).toArray t (0, 0))) (hk : k < x.length) :
    w.cell? ⟨g, k * 2, none⟩ = some (.int .i64 (x.getD k (0, 0)).1) ∧ w.cell? ⟨g, k * 2 + 1, none⟩ = some (.int .i64 (x.getD k (0, 0)).2) := by
  have := ec_at x k hk
  exact ⟨by rw [cell_of_row w g _ _ _ _ h, List.getElem?_toArray]; exact this.1, by rw [cell_of_row w g _ _ _ _ h, List.getElem?_toArray]; exact this.2⟩

theorem hasE_of_heap {w : World} {g : Nat} {x : List (Int × Int)} {t : TypeId} (h : w.heap[g]? = some (.cells (ec x).toArray t (0, 0))) : HasE w (some ⟨g, 0, none⟩) x := fun _ =>
  ⟨g, 0, rfl, fun j hj => by rw [Nat.zero_add]; exact cell_ec h hj⟩

theorem ec_set2 {w : World} {g k : Nat} {vs us : List (Int × Int)} {x y : Int} {t : TypeId} (h : w.heap[g]? = some (.cells (ec vs).toArray t (0, 0))) (e : vs.set k (x, y) = us) :
    Hid (((w.setCell ⟨g, k * 2, none⟩ (.int .i64 x)).setCell ⟨g, k * 2 + 1, none⟩ (.int .i64 y)).heap[g]? = some (.cells (ec us).toArray t (0, 0))) := by
  show _ = _
  rw [heap_setCell_same _ g _ _ _ _ (heap_setCell_same w g _ _ _ _ h), ← e, ← ec_set]
  simp

/-- What zzEntries hands back: nil, or a new row of its own. -/
def Ents (n : Nat) (vs : List (Int × Int)) (w : World) (e : Ending) (w' : World) : Prop :=
  ∃ a, e = .returned (.slice a n n) ∧ ((a = none ∧ n = 0) ∨ (a = some ⟨w.heap.size, 0, none⟩ ∧ w'.heap[w.heap.size]? = some (.cells (ec vs).toArray 51 (0, 0)))) ∧ Below w.heap.size w w'

theorem zip_at (l s : List Int) (k n : Nat) (hl : l.length = n) (hs : s.length = n) (hk : k < n) : (l.zip s).getD k (0, 0) = (l.getD k 0, s.getD k 0) := by
  simp only [List.getD_eq_getElem?_getD, List.getElem?_eq_getElem (show k < l.length by omega), List.getElem?_eq_getElem (show k < s.length by omega), List.getElem?_eq_getElem (show k < (l.zip s).length by simp; omega)]
  simp

set_option maxRecDepth 20000 in
set_option maxHeartbeats 1000000 in
theorem entries_any (a b : Option Addr) (n c d : Nat) (l s : List Int) (w : World) (hn : l.length = n) (hs : s.length = n) (hb : n ≤ 1048576) (hl : HasI w a l) (hsl : HasI w b s) (hnil : a = none → n = 0 ∧ c = 0) :
    Calls Try.prog 21 #[.slice a n c, .slice b n d] w fun e w' => Ents n (l.zip s) w e w' := by
  have hnl := fun W a n c => Lib.run_eql_slice_nil (P := Try.prog) W 22 2 a n c 0 0 Try.underlying22
  cases a with
  | none =>
    obtain ⟨rfl, rfl⟩ := hnil rfl
    clear hnil hl hn hsl hs
    go_enter Try.func21, Try.ntmps21
    go_wp2
    go_ret
    exact ⟨none, rfl, .inl ⟨rfl, rfl⟩, Below.refl _ _⟩
  | some x =>
    have hmk := make_ent n (by omega)
    have HN : Hid ((l.zip s).length = n ∧ l.length = n ∧ s.length = n ∧ HasI w (some x) l ∧ HasI w b s) := ⟨by simp [hn, hs], hn, hs, hl, hsl⟩
    clear hn hnil hs hl hsl
    go_enter Try.func21, Try.ntmps21
    go_wp2
    have h0 : Hid ((w.alloc (.cells (ec (List.replicate n (0, 0))).toArray 51)).heap[w.heap.size]? = some (.cells (ec (partE 0 (l.zip s))).toArray 51 (0, 0))) := by show _ = _; rw [heap_alloc_new, partE_zero, HN.out.1]
    have hb0 := below_alloc w (.cells (ec (List.replicate n (0, 0))).toArray 51)
    go_loopw [7] (fun iv wr => ∃ k : Nat, iv = .int .i64 k ∧ k ≤ n ∧ Hid (wr.heap[w.heap.size]? = some (.cells (ec (partE k (l.zip s))).toArray 51 (0, 0))) ∧ Below w.heap.size w wr) (fun iv _ => n - (intOf iv).toNat)
    case atStart => exact ⟨0, rfl, Nat.zero_le _, h0, hb0⟩
    case round =>
      clear h0 hb0
      obtain ⟨k, rfl, hk, HK, hbk⟩ := hrel
      by_cases hlt : k < n
      · obtain ⟨g, o, e, hc⟩ := (HN.out.2.2.2.1.below hbk) (by have := HN.out; omega)
        cases e
        obtain ⟨g2, o2, e, hc2⟩ := (HN.out.2.2.2.2.below hbk) (by have := HN.out; omega)
        cases e
        have hck := hc k (by have := HN.out; omega)
        have hck2 := hc2 k (by have := HN.out; omega)
        obtain ⟨hck3, hck4⟩ := cell_ec (k := k) HK.out (by rw [partE_length _ _ (by have := HN.out; omega)]; have := HN.out; omega)
        have hfz := frozen_of_row wr w.heap.size (k * 2) _ _ HK.out
        have hfz2 := frozen_of_row wr w.heap.size (k * 2 + 1) _ _ HK.out
        obtain ⟨z, hz⟩ : ∃ z, z = l.getD k 0 := ⟨_, rfl⟩
        obtain ⟨y, hy⟩ : ∃ y, y = s.getD k 0 := ⟨_, rfl⟩
        have HZ : Hid (partE (k + 1) (l.zip s) = (partE k (l.zip s)).set k (z, y)) := by
          show _ = _
          rw [← partE_succ k _ (by rw [HN.out.1]; exact hlt), zip_at l s k n HN.out.2.1 HN.out.2.2.1 hlt, hz, hy]
        rw [← hz] at hck
        rw [← hy] at hck2
        clear hz hy hc hc2
        generalize ((partE k (l.zip s)).getD k (0, 0)).1 = p1 at hck3
        generalize ((partE k (l.zip s)).getD k (0, 0)).2 = p2 at hck4
        go_upto_region 10 with fail
        go_region
        all_goals go_wp2
        all_goals refine ⟨⟨k + 1, by go_num, by omega, ?_, ((hbk.setCell (Nat.le_refl _) _).setCell (Nat.le_refl _) _).drew⟩, by simp [intOf]; omega⟩
        all_goals exact ec_set2 HK.out HZ.out.symm
      · obtain rfl : n = k := by omega
        go_wp2
        go_ret
        have hfin := HK.out
        rw [show partE n (l.zip s) = l.zip s by have := partE_all (l.zip s); rwa [HN.out.1] at this] at hfin
        exact ⟨some ⟨w.heap.size, 0, none⟩, rfl, .inr ⟨rfl, hfin⟩, hbk⟩
end Go.Proofs.Qxb6003681a
