import Derived.Test.Qxb6003681aRows
import Derived.WalkKit
import Derived.WalkSpells
import Derived.WalkLawsBesides
import Derived.Deep.QuietTactic
import Derived.BigQuiet
import Derived.Laws.CopyOwn
import Derived.Laws.Tables
import Derived.Laws.Rows
import Derived.Deep.OwnRows
import Derived.Lib.SliceRun
import Derived.Lib.Hide
import Derived.Lib.EndianMore
import Derived.Deep.Upon
import Derived.Deep.CutRange
import Derived.Deep.RegionLaw
namespace Go.Proofs.Qxb6003681a
open Go.RowKit
set_option linter.unusedVariables false

theorem add_plain (b o j : Nat) : (⟨b, o, none⟩ : Addr).add j = ⟨b, o + j, none⟩ := by unfold Addr.add; split <;> simp_all

/-- A row of integers of 64 bits. -/
def ic (l : List Int) : Array Value := (l.map fun z => Value.int .i64 z).toArray

theorem ic_size (l : List Int) : (ic l).size = l.length := by simp [ic]

theorem ic_at (x : List Int) (k : Nat) (hk : k < x.length) : (ic x)[k]? = some (.int .i64 (x.getD k 0)) := by
  simp [ic, List.getD, List.getElem?_eq_getElem hk]

/-- A slice of integers (nil, or at an address) that holds l. -/
def HasI (w : World) (ao : Option Addr) (l : List Int) : Prop := 0 < l.length → ∃ g o, ao = some ⟨g, o, none⟩ ∧ ∀ j, j < l.length → w.cell? ⟨g, o + j, none⟩ = some (.int .i64 (l.getD j 0))

theorem HasI.below {w w' : World} {ao : Option Addr} {l : List Int} (h : HasI w ao l) (hb : Below w.heap.size w w') : HasI w' ao l := fun hp => by
  obtain ⟨g, o, e, hr⟩ := h hp
  refine ⟨g, o, e, fun j hj => ?_⟩
  have := hr j hj
  rw [hb.cell (p := ⟨g, o + j, none⟩) (World.block_lt_of_cell? _ _ this)]
  exact this

theorem cell_ic {w : World} {g k : Nat} {x : List Int} {t : TypeId} (h : w.heap[g]? = some (.cells (ic x) t (0, 0))) (hk : k < x.length) : w.cell? ⟨g, k, none⟩ = some (.int .i64 (x.getD k 0)) :=
  (cell_of_row w g k _ _ _ h).trans (ic_at x k hk)

theorem ic_set {w : World} {g k : Nat} {x y : List Int} {z : Int} {t : TypeId} (h : w.heap[g]? = some (.cells (ic x) t (0, 0))) (e : x.set k z = y) : Hid ((w.setCell ⟨g, k, none⟩ (.int .i64 z)).heap[g]? = some (.cells (ic y) t (0, 0))) := by
  show _ = _
  rw [heap_setCell_same w g k _ _ _ h, ← e]
  unfold ic
  simp [List.map_set]

theorem hasI_of_heap {w : World} {g : Nat} {x : List Int} {t : TypeId} (h : w.heap[g]? = some (.cells (ic x) t (0, 0))) : HasI w (some ⟨g, 0, none⟩) x := fun _ =>
  ⟨g, 0, rfl, fun j hj => by rw [Nat.zero_add]; exact cell_ic h hj⟩

theorem infoInt : (Try.prog.info? 3).map (fun i => (i.zero, i.size, i.bytes)) = some (some (.int .i64 0), 1, 8) := by kernel_rfl

theorem made_zeros (n : Nat) : madeCells #[Value.int .i64 0] n = ic (List.replicate n 0) := by
  unfold madeCells ic
  apply Array.ext'
  simp [List.map_replicate]
  apply List.ext_getElem
  · simp
  · intro i h1 h2
    simp [Nat.mod_one]

theorem zero3 (w : World) : (zeroValue 3).run Try.prog w = .ok (.int .i64 0) w := by kernel_rfl

/-- The scratch buffer: nil, or the front of a block of its own. -/
def Buf (B gs : Nat) (w : World) (a : Option Addr) (n c : Nat) (cur : List Int) : Prop :=
  (a = none ∧ n = 0 ∧ c = 0) ∨ ∃ g, a = some ⟨g, 0, none⟩ ∧ B ≤ g ∧ g ≠ gs ∧ w.heap[g]? = some (.cells (ic cur) 3 (0, 0)) ∧ cur.length = c ∧ n ≤ c ∧ c ≤ 65536

set_option maxHeartbeats 1000000 in
theorem bytes18_any (a b : Option Addr) (n c m d : Nat) (p : Int) (w : World) (hn : n ≤ maxLen) (hm : m ≤ maxLen) :
    Calls Try.prog 18 #[.slice a n c, .slice b m d, .int .i64 p] w fun e w' => e = .returned (.bool (decide (n + m ≤ 1048576))) ∧ w' = w := by
  unfold maxLen at hn hm
  by_cases h : n ≤ 1048576
  · by_cases h1 : m ≤ 1048576
    · by_cases h2 : n + m ≤ 1048576
      · have hd : decide (n + m ≤ 1048576) = true := by simpa using h2
        rw [hd]
        clear hd
        go_enter Try.func18, Try.ntmps18
        go_wp2
        go_ret
        exact ⟨rfl, rfl⟩
      · have hd : decide (n + m ≤ 1048576) = false := by simpa using h2
        rw [hd]
        clear hd
        go_enter Try.func18, Try.ntmps18
        go_wp2
        go_ret
        exact ⟨rfl, rfl⟩
    · have hd : decide (n + m ≤ 1048576) = false := by simp; omega
      rw [hd]
      clear hd
      go_enter Try.func18, Try.ntmps18
      go_wp2
      go_ret
      exact ⟨rfl, rfl⟩
  · have hd : decide (n + m ≤ 1048576) = false := by simp; omega
    rw [hd]
    clear hd
    go_enter Try.func18, Try.ntmps18
    go_wp2
    go_ret
    exact ⟨rfl, rfl⟩

/-- k zeros laid from place o on. -/
theorem setCells_zeros (g : Nat) : ∀ (k o : Nat) (w : World) (x : List Int) (t : TypeId), w.heap[g]? = some (.cells (ic x) t (0, 0)) →
    ∃ y : List Int, (w.setCells g o (List.replicate k (.int .i64 0))).heap[g]? = some (.cells (ic y) t (0, 0)) ∧ y.length = x.length ∧ (∀ j, j < o → y.getD j 0 = x.getD j 0) ∧ (∀ j, o ≤ j → j < o + k → y.getD j 0 = 0)
  | 0, o, w, x, t, h => ⟨x, h, rfl, fun _ _ => rfl, fun j h1 h2 => by omega⟩
  | k + 1, o, w, x, t, h => by
    obtain ⟨y, e1, e2, e3, e4⟩ := setCells_zeros g k (o + 1) (w.setCell ⟨g, o, none⟩ (.int .i64 0)) (x.set o 0) t (ic_set h rfl).out
    refine ⟨y, e1, by rw [e2, List.length_set], fun j hj => ?_, fun j h1 h2 => ?_⟩
    · rw [e3 j (by omega)]
      simp [List.getD, show ¬ o = j by omega]
    · by_cases hj : j = o
      · subst hj
        rw [e3 j (by omega)]
        simp only [List.getD, List.getElem?_set]
        rw [if_pos trivial]
        by_cases hx : j < x.length <;> simp [hx]
      · exact e4 j (by omega) (by omega)

theorem run_clear_empty (w : World) (ty : TypeId) (a : Option Addr) (c : Nat) : (Builtin.clear_ #[23] ty #[.slice a 0 c]).run Try.prog w = .ok (.tuple #[]) w := by
  cases a <;> simp [Builtin.clear_, run_underlying Try.underlying23]

def Zeroed (B gs m : Nat) (w : World) (e : Ending) (w' : World) : Prop :=
  ∃ a c cur, e = .returned (.slice a m c) ∧ Buf B gs w' a m c cur ∧ (∀ j, j < m → cur.getD j 0 = 0) ∧ w'.heap[gs]? = w.heap[gs]? ∧ Below B w w'

set_option maxHeartbeats 1000000 in
theorem zeroed_any (B gs : Nat) (a : Option Addr) (n c m : Nat) (cur : List Int) (w : World) (hB : B ≤ w.heap.size) (hgs : gs < w.heap.size) (hm : m ≤ 4096) (hb : Buf B gs w a n c cur) :
    Calls Try.prog 26 #[.slice a n c, .int .i64 m] w fun e w' => Zeroed B gs m w e w' := by
  by_cases hc : c < m
  · have hmk := run_make_row' (P := Try.prog) 23 3 (.int .i64 0) 8 Try.underlying23 infoInt rfl .i64 .i64 m (by omega) (by omega)
    rw [made_zeros] at hmk
    have HB : Hid (Buf B gs w a n c cur) := hb
    clear hb
    go_enter Try.func26, Try.ntmps26
    go_wp2
    go_ret
    refine ⟨_, m, List.replicate m 0, rfl, .inr ⟨w.heap.size, rfl, hB, by omega, heap_alloc_new _ _, by simp, Nat.le_refl _, by omega⟩, fun j hj => by simp [List.getD, hj], Below.heap_alloc _ _ _ hgs, (Below.refl _ _).alloc hB _⟩
  · have hce := run_clear_empty w
    rcases hb with ⟨rfl, rfl, rfl⟩ | ⟨g, rfl, hBg, hgg, hh, hl, hnc, hcm⟩
    · obtain rfl : m = 0 := by omega
      go_enter Try.func26, Try.ntmps26
      go_wp2
      go_ret
      exact ⟨none, 0, [], rfl, .inl ⟨rfl, rfl, rfl⟩, fun j hj => by omega, rfl, Below.refl _ _⟩
    · by_cases h0 : m = 0
      · subst h0
        by_cases h1 : c = 0
        · subst h1
          go_enter Try.func26, Try.ntmps26
          go_wp2
          go_ret
          exact ⟨_, 0, cur, rfl, .inr ⟨g, rfl, hBg, hgg, hh, hl, by omega, by omega⟩, fun j hj => by omega, rfl, Below.refl _ _⟩
        · go_enter Try.func26, Try.ntmps26
          go_wp2
          go_ret
          exact ⟨_, c, cur, rfl, .inr ⟨g, rfl, hBg, hgg, hh, hl, by omega, hcm⟩, fun j hj => by omega, rfl, Below.refl _ _⟩
      · have hcl := fun ty => Lib.run_clear_slice (P := Try.prog) w 23 3 ty (.int .i64 0) Try.underlying23 zero3 rfl rfl g 0 m c (by omega) (fun j hj => by rw [Nat.zero_add, cell_ic hh (by omega)]; rfl) (fun j hj => frozen_of_row w g _ _ _ hh)
        have HH : Hid (w.heap[g]? = some (.cells (ic cur) 3 (0, 0))) := hh
        clear hh
        go_enter Try.func26, Try.ntmps26
        go_wp2
        go_ret
        obtain ⟨y, e1, e2, e3, e4⟩ := setCells_zeros g m 0 w cur 3 HH.out
        exact ⟨_, c, y, rfl, .inr ⟨g, rfl, hBg, hgg, e1, by omega, by omega, hcm⟩, fun j hj => e4 j (by omega) (by omega), World.heap_setCells_other w g 0 _ hgs (by omega), Lib.below_setCells_w hBg _ _ _⟩

theorem zzeroed_any (B gs : Nat) (a : Option Addr) (n c m : Nat) (cur : List Int) (w : World) (hB : B ≤ w.heap.size) (hgs : gs < w.heap.size) (hm : m ≤ 4096) (hb : Buf B gs w a n c cur) :
    Calls Try.prog 19 #[.slice a n c, .int .i64 m] w fun e w' => Zeroed B gs m w e w' := by
  have hZ := zeroed_any B gs a n c m cur w hB hgs hm hb
  clear hb
  go_enter Try.func19, Try.ntmps19
  go_wp2_with fail
  refine hZ.mono ?_
  rintro e w' ⟨a', c', cur', rfl, h⟩
  go_wp2
  go_ret
  exact ⟨a', c', cur', rfl, h⟩
end Go.Proofs.Qxb6003681a
