import Derived.Test.Qxb6003635aDoorC1
import Derived.Laws.CopyOwn
import Derived.Deep.OwnRows
namespace Go.Proofs.Qxb6003635aDoor
open Go.RowKit Go.Sort
set_option linter.unusedVariables false

theorem infoStr : (Tryd.prog.info? 9).map (fun i => (i.zero, i.size, i.bytes)) = some (some (.string ByteArray.empty), 1, 16) := by kernel_rfl

def strVals (ss : List ByteArray) : List Value := ss.map fun s => Value.string s

theorem strVals_at {w : World} {g o : Nat} {ss : List ByteArray} (h : RowS w g o ss) : ∀ j v, (strVals ss)[j]? = some v → w.cell? ((⟨g, o, none⟩ : Addr).add j) = some v := by
  intro j v hj
  have hjl : j < ss.length := by
    have h5 := (List.getElem?_eq_some_iff.1 hj).1
    simpa [strVals] using h5
  have e5 : (strVals ss)[j]? = some (Value.string (ss.getD j ByteArray.empty)) := by simp [strVals, hjl]
  rw [e5] at hj
  cases hj
  rw [Lib.add_plain]
  exact h j hjl

theorem rowS_of_heap {w : World} {g : Nat} {ss : List ByteArray} {t : TypeId} (h : w.heap[g]? = some (.cells (strVals ss).toArray t (0, 0))) : RowS w g 0 ss := by
  intro j hj
  rw [Nat.zero_add, cell_of_row w g j _ t (0, 0) h]
  simp [strVals, hj]

set_option maxHeartbeats 1000000 in
theorem cloneS_any (g o n c : Nat) (ss : List ByteArray) (w : World) (hn : ss.length = n) (h0 : 1 ≤ n) (hb : n ≤ 10000000) (hrow : RowS w g o ss) :
    Calls Tryd.prog 7 #[.slice (some ⟨g, o, none⟩) n c] w fun e w' => e = .returned (.slice (some ⟨w.heap.size, 0, none⟩) n n) ∧ w.heap.size < w'.heap.size ∧ RowS w' w.heap.size 0 ss ∧ Below w.heap.size w w' := by
  have hmk := run_make_row' (P := Tryd.prog) 22 9 (.string ByteArray.empty) 16 Tryd.underlying22 infoStr rfl .i64 .i64 n (by omega) (by omega)
  have hnil := fun W => Lib.run_eql_slice_nil (P := Tryd.prog) W 22 9 (some ⟨g, o, none⟩) n c 0 0 Tryd.underlying22
  have hb1 := below_alloc w (.cells (madeCells #[.string ByteArray.empty] n) 9)
  have hsrc := strVals_at (w := w.alloc (.cells (madeCells #[.string ByteArray.empty] n) 9)) (g := g) (o := o) (ss := ss) (fun j hj => by
    have := hrow j hj
    rw [hb1.cell (p := ⟨g, o + j, none⟩) (World.block_lt_of_cell? _ _ this)]
    exact this)
  have hcur : (w.alloc (.cells (madeCells #[.string ByteArray.empty] n) 9)).heap[w.heap.size]? = some (.cells (madeCells #[.string ByteArray.empty] n).toList.toArray 9 (0, 0)) := by
    rw [heap_alloc_new]
  have hml : (madeCells #[Value.string ByteArray.empty] n).toList.length = n := by simp [size_madeCells]
  have hvl : (strVals ss).length = n := by simp [strVals, hn]
  have HVL : Hid ((strVals ss).length = n) := hvl
  have HML : Hid ((madeCells #[Value.string ByteArray.empty] n).toList.length = n) := hml
  clear hvl hml hrow
  go_enter Tryd.func7, Tryd.ntmps7
  go_upto_region 4 with fail
  go_wp2_with (refine wpList_copy_splice rfl _ _ 22 22 rfl 9 Tryd.underlying22 (by kernel_rfl) _ _ _ _ _ _ rfl rfl w.heap.size 0 _ 9 hcur (strVals ss) ?c1 ?c2 ?c3 ?c4 w.heap.size w hb1 (Nat.le_refl _) ?_)
  case c1 => rw [HVL.out]; simp
  case c2 => exact fun _ j v hj => by have := hsrc j v hj; rwa [Lib.add_plain] at this
  case c3 => rw [HVL.out, HML.out]; omega
  case c4 => intro v hv; simp only [strVals, List.mem_map] at hv; obtain ⟨s, _, rfl⟩ := hv; rfl
  intro w2 HG hb2
  go_wp2
  go_ret
  have e : splice (madeCells #[Value.string ByteArray.empty] n).toList 0 (strVals ss) = strVals ss := by
    unfold splice
    rw [List.drop_of_length_le (by rw [HVL.out, HML.out]; omega)]
    simp
  have hg := HG.out
  rw [e] at hg
  exact ⟨rfl, (Array.getElem?_eq_some_iff.1 hg).1, rowS_of_heap hg, hb2⟩
end Go.Proofs.Qxb6003635aDoor
