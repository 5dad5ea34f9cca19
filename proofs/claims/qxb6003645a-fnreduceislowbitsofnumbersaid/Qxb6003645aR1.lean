import Derived.Test.Qxb6003645aRows
import Derived.Test.Qxb6003645aPlain
import Derived.WalkKit
import Derived.WalkSpells
import Derived.WalkLawsBesides
import Derived.Deep.QuietTactic
import Derived.BigQuiet
import Derived.Laws.CopyOwn
import Derived.Laws.Tables
import Derived.Laws.Rows
import Derived.Deep.OwnRows
import Derived.Lib.SliceRun
import Derived.Lib.Hide
import Derived.Lib.Strings
import Derived.Deep.CutRange
import Derived.Deep.RegionLaw
namespace Go.Proofs.Qxb6003645a
open Go.RowKit
set_option linter.unusedVariables false

theorem add_plain (b o j : Nat) : (⟨b, o, none⟩ : Addr).add j = ⟨b, o + j, none⟩ := by unfold Addr.add; split <;> simp_all

def idc (l : List Int) : Array Value := (l.map fun z => Value.int .u8 z).toArray

theorem idc_size (l : List Int) : (idc l).size = l.length := by simp [idc]

/-- A slice of bytes (nil, or at an address) that holds l. -/
def HasZ (w : World) (ao : Option Addr) (l : List Int) : Prop := 0 < l.length → ∃ g o, ao = some ⟨g, o, none⟩ ∧ ∀ j, j < l.length → w.cell? ⟨g, o + j, none⟩ = some (.int .u8 (l.getD j 0))

theorem HasZ.below {w w' : World} {ao : Option Addr} {l : List Int} (h : HasZ w ao l) (hb : Below w.heap.size w w') : HasZ w' ao l := fun hp => by
  obtain ⟨g, o, e, hr⟩ := h hp
  refine ⟨g, o, e, fun j hj => ?_⟩
  have := hr j hj
  rw [hb.cell (p := ⟨g, o + j, none⟩) (World.block_lt_of_cell? _ _ this)]
  exact this

theorem hasZ_drop {w : World} {g o : Nat} {l : List Int} (h : ∀ j, j < l.length → w.cell? ⟨g, o + j, none⟩ = some (.int .u8 (l.getD j 0))) (d : Nat) : HasZ w (some ⟨g, o + d, none⟩) (l.drop d) := fun _ => by
  refine ⟨g, o + d, rfl, fun j hj => ?_⟩
  rw [List.length_drop] at hj
  rw [Nat.add_assoc, h (d + j) (by omega), List.getD_eq_getElem?_getD, List.getD_eq_getElem?_getD, List.getElem?_drop]

def zeros : List Int := List.replicate 20 0

theorem idc_zeros : (#[.int .u8 0, .int .u8 0, .int .u8 0, .int .u8 0, .int .u8 0, .int .u8 0, .int .u8 0, .int .u8 0, .int .u8 0, .int .u8 0, .int .u8 0, .int .u8 0, .int .u8 0, .int .u8 0, .int .u8 0, .int .u8 0, .int .u8 0, .int .u8 0, .int .u8 0, .int .u8 0] : Array Value) = idc zeros := rfl

theorem below_alloc (w : World) (o : Obj) : Below w.heap.size w (w.alloc o) := (Below.refl _ w).alloc (Nat.le_refl _) o

/-- The world in which Reduce's own three variables lie. -/
structure Three (w W : World) (bits : Int) (gs g4 g5 : Nat) : Prop where
  es : gs = w.heap.size
  e4 : g4 = w.heap.size + 1
  e5 : g5 = w.heap.size + 1 + 1
  bel : Below w.heap.size w W
  size : W.heap.size = w.heap.size + 3
  hs : W.heap[gs]? = some (.cells #[.int .i64 bits] 28 (0, 0))
  h4 : W.heap[g4]? = some (.cells (idc zeros) 26 (0, 0))
  h5 : W.heap[g5]? = some (.cells (idc zeros) 26 (0, 0))

theorem three (w : World) (bits : Int) : Three w (((w.alloc (.cells #[.int .i64 bits] 28)).alloc (.cells (idc zeros) 26)).alloc (.cells (idc zeros) 26)) bits w.heap.size (w.heap.size + 1) (w.heap.size + 1 + 1) := by
  refine ⟨rfl, rfl, rfl, ?_, by simp, ?_, ?_, ?_⟩
  · exact ((below_alloc w _).alloc (by simp) _).alloc (by simp; omega) _
  · rw [Below.heap_alloc _ _ _ (by simp; omega), Below.heap_alloc _ _ _ (by simp), heap_alloc_new]
  · rw [Below.heap_alloc _ _ _ (by simp)]
    have := heap_alloc_new (w.alloc (.cells #[.int .i64 bits] 28)) (.cells (idc zeros) 26)
    simpa using this
  · have := heap_alloc_new ((w.alloc (.cells #[.int .i64 bits] 28)).alloc (.cells (idc zeros) 26)) (.cells (idc zeros) 26)
    simpa using this

theorem splice_pad (l l' : List Int) (n n' d : Nat) (hn : l.length = n) (hn' : n' = min n 20) (hd : d + n' = 20) (hl' : l' = l.drop (n - 20)) :
    (splice (zeros.map fun z => Value.int .u8 z) d (l'.map fun z => Value.int .u8 z)).toArray = idc (pad20 l) := by
  have e1 : 20 - l.length = d := by omega
  have hl : l'.length = n' := by rw [hl', List.length_drop]; omega
  have hz : (zeros.map fun z => Value.int .u8 z).length = 20 := rfl
  have ht : (zeros.map fun z => Value.int .u8 z).take d = List.replicate d (Value.int .u8 0) := by
    unfold zeros
    rw [List.map_replicate, List.take_replicate]
    congr 1
    omega
  unfold splice idc pad20
  congr 1
  rw [List.length_map, hl, hd, e1, hn, ← hl', List.drop_of_length_le (by rw [hz]; exact Nat.le_refl _), List.append_nil, List.map_append, List.map_replicate, ht]

theorem idc_at (x : List Int) (k : Nat) (h : k < x.length) : (idc x)[k]? = some (.int .u8 (x.getD k 0)) := by
  simp [idc, h]

theorem cell_idc {w : World} {g k : Nat} {x : List Int} (h : w.heap[g]? = some (.cells (idc x) 26 (0, 0))) (hk : k < x.length) : ∃ v, w.cell? ⟨g, k, none⟩ = some v :=
  ⟨_, (cell_of_row w g k _ _ _ h).trans (idc_at x k hk)⟩

/-- A store into a row of bytes. -/
theorem idc_set {w : World} {g k : Nat} {x y : List Int} {z : Int} (h : w.heap[g]? = some (.cells (idc x) 26 (0, 0))) (e : x.set k z = y) : Hid ((w.setCell ⟨g, k, none⟩ (.int .u8 z)).heap[g]? = some (.cells (idc y) 26 (0, 0))) := by
  show _ = _
  rw [heap_setCell_same w g k _ _ _ h, ← e]
  unfold idc
  simp [List.map_set]

theorem and_mask (x : Int) (r : Nat) (h0 : 0 ≤ x) (h1 : x < 256) (hr : r < 8) : bits .and .u8 x (255 / 2 ^ r) = x % 2 ^ (8 - r) := by
  obtain ⟨a, rfl⟩ := Int.eq_ofNat_of_zero_le h0
  have e : (255 / 2 ^ r : Int) = ((2 ^ (8 - r) - 1 : Nat) : Int) := by
    match r, hr with
    | 0, _ | 1, _ | 2, _ | 3, _ | 4, _ | 5, _ | 6, _ | 7, _ => rfl
  have hb : 2 ^ (8 - r) - 1 < 256 := by
    match r, hr with
    | 0, _ | 1, _ | 2, _ | 3, _ | 4, _ | 5, _ | 6, _ | 7, _ => decide
  rw [e, u8_and_nat a _ (by omega) hb, Nat.and_two_pow_sub_one_eq_mod]
  simp

theorem maskL_zero (h q : Nat) (x : List Int) (hq : q = h / 8) (h8 : h % 8 = 0) (hx : x.length = 20) (hb : Bytes x) (hh : h ≤ 160) : zeroTo q x = maskL h x := by
  refine ext20 (n := 20) (by rw [zeroTo_length _ _ (by omega), hx]) (maskL_length h x hx hh) fun i hi => ?_
  rw [maskL_at h x hx hb hh i hi, zeroTo_at]
  have hbi := hb i
  by_cases h1 : i < q
  · rw [if_pos h1, show min 8 (8 * i + 8 - h) = 0 by omega]
    omega
  · rw [if_neg h1, show min 8 (8 * i + 8 - h) = 8 by omega]
    omega

theorem sliceAt_id (g d n : Nat) (h : d + n = 20) : ∃ dp, (0 < n → dp = some ⟨g, d, none⟩) ∧ ∀ W, (Instr.sliceAt 26 (.pointer (some ⟨g, 0, none⟩)) (some (.int .i64 (d : Int))) none none).run Try.prog W = .ok (.slice dp n n) W := by
  have hal : Try.prog.arrayLen 26 = 20 := by simp [Program.arrayLen, Try.underlying26]
  refine ⟨some (if 20 = d then ⟨g, 0, none⟩ else (⟨g, 0, none⟩ : Addr).add d), fun hn => ?_, fun W => ?_⟩
  · rw [if_neg (by omega), add_plain, Nat.zero_add]
  · rw [run_sliceAt_array_l W 26 ⟨g, 0, none⟩ (by simp [Program.arrayLen, Program.elem, Try.underlying26]) .i64 (d : Int) (by omega) (by rw [hal]; omega)]
    rw [hal]
    have e : 20 - d = n := by omega
    have hsz : (sizeOf (Try.prog.elem 26)).run Try.prog W = .ok 1 W := by kernel_rfl
    rw [hsz]
    simp only [Result.andThen_ok, slicedAt, Int.toNat_natCast, Nat.mul_one, e]

/-- What is known when Reduce has masked its number. -/
structure Fin (w W2 WM : World) (bits : Int) (gs g4 g5 h : Nat) (p : List Int) : Prop where
  h5 : WM.heap[g5]? = some (.cells (idc (maskL h p)) 26 (0, 0))
  bel : Below g5 W2 WM
  thr : ∃ W, Three w W bits gs g4 g5 ∧ Below g5 W W2

theorem Fin.h4 {w W2 WM : World} {bits : Int} {gs g4 g5 h : Nat} {p : List Int} (F : Fin w W2 WM bits gs g4 g5 h p) : WM.heap[g4]? = some (.cells (idc zeros) 26 (0, 0)) := by
  obtain ⟨W, T, hb⟩ := F.thr
  have h1 := T.e4
  have h2 := T.e5
  rw [F.bel.block g4 (by omega), hb.block g4 (by omega)]
  exact T.h4

theorem Fin.e4 {w W2 WM : World} {bits : Int} {gs g4 g5 h : Nat} {p : List Int} (F : Fin w W2 WM bits gs g4 g5 h p) : g4 = w.heap.size + 1 := by
  obtain ⟨W, T, hb⟩ := F.thr
  exact T.e4

theorem idc_one (x : List Int) : ((idc x).all fun v => v.oneCell') = true := by
  unfold idc
  simp [Value.oneCell']

theorem Fin.below {w W2 WM : World} {bits : Int} {gs g4 g5 h : Nat} {p : List Int} (F : Fin w W2 WM bits gs g4 g5 h p) : Below w.heap.size w WM := by
  obtain ⟨W, T, hb⟩ := F.thr
  have h2 := T.e5
  exact (T.bel.trans (hb.mono (by omega))).trans (F.bel.mono (by omega))

set_option maxHeartbeats 1000000 in
theorem reduce_any (ao : Option Addr) (n c : Nat) (l : List Int) (bits : Nat) (w : World) (hn : l.length = n) (hnc : n ≤ c) (hcm : c ≤ maxLen) (hb : bits ≤ 160) (hl : HasZ w ao l) (h20 : n ≤ 10000000) (hby : Bytes l) :
    Calls Try.prog 12 #[.agg #[.int .i64 bits], .slice ao n c] w fun e w' => e = .returned (.agg (idc (red bits l))) ∧ Below w.heap.size w w' := by
  have HT := three w bits
  unfold maxLen at hcm
  go_enter Try.func12, Try.ntmps12
  go_upto_region 2 with fail
  rw [idc_zeros]
  generalize hW : (((w.alloc (.cells #[.int .i64 bits] 28)).alloc (.cells (idc zeros) 26)).alloc (.cells (idc zeros) 26)) = W at HT ⊢
  generalize hg5 : w.heap.size + 1 + 1 = g5 at HT ⊢
  generalize hg4 : w.heap.size + 1 = g4 at HT ⊢
  generalize hgs : w.heap.size = gs at HT ⊢
  clear hW hg5 hg4 hgs
  have hlW : HasZ W ao l := hl.below HT.bel
  obtain ⟨n', hn'⟩ : ∃ n', n' = min n 20 := ⟨_, rfl⟩
  have hn2 : n' ≤ 20 := by omega
  have hn3 : n' ≤ n := by omega
  have HN' : Hid (n' = min n 20) := hn'
  obtain ⟨l', hl'd⟩ : ∃ l', l' = l.drop (n - 20) := ⟨_, rfl⟩
  have HLD : Hid (l' = l.drop (n - 20)) := hl'd
  clear hl'd
  have HN : Hid (l.length = n) := hn
  clear hn' hn hl
  go_upto_if 10 with fail
  go_cut [1] from 11 to 15 (fun bv wc => wc = W ∧ ∃ ao' c', bv = .slice ao' n' c' ∧ HasZ W ao' l')
  case first =>
    by_cases hbig : n ≤ 20
    · have e1 : n' = n := by have := HN'.out; omega
      subst e1
      go_wp2
      go_meet
      case rel => exact ⟨rfl, ao, c, rfl, by rw [HLD.out, show n' - 20 = 0 by omega]; exact hlW⟩
    · have e1 : n' = 20 := by have := HN'.out; omega
      subst e1
      obtain ⟨g, o, e, hcell⟩ := hlW (by have := HN.out; omega)
      subst e
      obtain ⟨d, hd⟩ : ∃ d, d = n - 20 := ⟨_, rfl⟩
      have i0 : (20 : Int) < (n : Int) := by omega
      have i1 : (n : Int) - 20 = (d : Int) := by omega
      have i2 : (d : Int) ≤ (n : Int) := by omega
      have i3 : ¬ c = d := by omega
      have i4 : n - d = 20 := by omega
      have HD : Hid (d = n - 20) := hd
      clear hd
      go_wp2
      go_meet
      case rel => exact ⟨rfl, some ⟨g, o + d, none⟩, c - d, rfl, by rw [HLD.out, ← HD.out]; exact hasZ_drop hcell d⟩
  case rest =>
    obtain ⟨hwc, ao', c', rfl, hl'⟩ := hcut
    obtain rfl := hwc.symm
    obtain ⟨d, hd⟩ : ∃ d, d = 20 - n' := ⟨_, rfl⟩
    have i1 : (20 : Int) - (n' : Int) = (d : Int) := by omega
    have hdn : d + n' = 20 := by omega
    obtain ⟨dp, hdp, hsl⟩ := sliceAt_id g5 d n' hdn
    have HDP : Hid (0 < n' → dp = some ⟨g5, d, none⟩) := hdp
    have HL' : Hid (l'.length = n') := by show _ = _; rw [HLD.out, List.length_drop, HN.out]; have := HN'.out; omega
    have Hl' : Hid (HasZ W ao' l') := hl'
    have h5 := HT.h5
    clear hdp hd hl' hlW hwc
    go_upto_region 4 with fail
    go_wp2_with (refine wpList_copy_splice rfl _ _ 22 22 rfl 5 Try.underlying22 (by kernel_rfl) _ _ _ _ _ _ rfl rfl g5 d (zeros.map fun z => Value.int .u8 z) 26 h5 (l'.map fun z => Value.int .u8 z) ?c1 ?c2 ?c3 ?c4 g5 W (Below.refl _ _) (Nat.le_refl _) ?_)
    case c1 => rw [List.length_map, HL'.out]; simp
    case c2 =>
      rw [List.length_map, HL'.out]
      intro hp
      obtain ⟨g, o, e, hc⟩ := Hl'.out (by rw [HL'.out]; exact hp)
      subst e
      refine ⟨HDP.out hp, _, rfl, fun j v hj => ?_⟩
      have hjl : j < l'.length := by
        have h5 := (List.getElem?_eq_some_iff.1 hj).1
        simpa using h5
      have e5 : (l'.map fun z => Value.int .u8 z)[j]? = some (Value.int .u8 (l'.getD j 0)) := by
        rw [List.getElem?_map, List.getD_eq_getElem?_getD, List.getElem?_eq_getElem hjl]; rfl
      rw [e5] at hj
      cases hj
      rw [add_plain]
      exact hc j hjl
    case c3 => rw [List.length_map, List.length_map, HL'.out]; show d + n' ≤ 20; omega
    case c4 => intro v hv; simp only [List.mem_map] at hv; obtain ⟨z, _, rfl⟩ := hv; rfl
    intro W2 HG hb2
    obtain ⟨p, hp⟩ : ∃ p, p = pad20 l := ⟨_, rfl⟩
    have HP : Hid (p = pad20 l) := hp
    have hpl : p.length = 20 := by rw [hp]; exact pad20_length l
    have HPL : Hid (p.length = 20) := hpl
    have HG0 : Hid (W2.heap[g5]? = some (.cells (idc (zeroTo 0 p)) 26 (0, 0))) := by
      show W2.heap[g5]? = _
      rw [HG.out, zeroTo_zero, hp, splice_pad l l' n n' d HN.out HN'.out hdn HLD.out]
    have hcs : W2.cell? ⟨gs, 0, none⟩ = some (.int .i64 bits) := by
      rw [hb2.cell (p := ⟨gs, 0, none⟩) (by have := HT.es; have := HT.e5; show gs < g5; omega), cell_of_row W gs 0 _ _ _ HT.hs]
      rfl
    have H45 : Hid (g4 ≠ g5 ∧ gs ≠ g5) := by have := HT.es; have := HT.e5; have := HT.e4; exact ⟨by omega, by omega⟩
    obtain ⟨h, hh⟩ : ∃ h : Nat, h = 160 - bits := ⟨_, rfl⟩
    have HH : Hid (h = 160 - bits) := hh
    have j1 : (160 : Int) - (bits : Int) = (h : Int) := by omega
    have j2 : h ≤ 160 := by omega
    obtain ⟨q, hq⟩ : ∃ q : Nat, q = h / 8 := ⟨_, rfl⟩
    have HQ : Hid (q = h / 8) := hq
    have j3 : (h : Int) / 8 = (q : Int) := by omega
    have j4 : q ≤ 20 := by omega
    clear hp hpl HG hh hq h5 Hl' HL' HDP hsl HN HN' i1 hdn
    go_upto_region 5 with fail
    go_wp2
    go_loopw [7] (fun iv wr => ∃ k : Nat, iv = .int .i64 k ∧ k ≤ q ∧ Hid (wr.heap[g5]? = some (.cells (idc (zeroTo k p)) 26 (0, 0))) ∧ Below g5 W2 wr) (fun iv _ => 20 - (intOf iv).toNat)
    case atStart => exact ⟨0, rfl, Nat.zero_le _, HG0, Below.refl _ _⟩
    case round =>
      obtain ⟨k, rfl, hk, HK, hbk⟩ := hrel
      by_cases hlt : k < q
      · have hck : ∃ v, wr.cell? ⟨g5, k, none⟩ = some v := cell_idc HK.out (by rw [zeroTo_length _ _ (by rw [HPL.out]; omega), HPL.out]; omega)
        obtain ⟨v, hck⟩ := hck
        have hfz := frozen_of_row wr g5 k _ _ HK.out
        go_wp2
        go_roundw
        case rel => exact ⟨k + 1, by go_num, by omega, idc_set HK.out (zeroTo_succ k p (by rw [HPL.out]; omega)), hbk.setCell (Nat.le_refl _) _⟩
        case measure => simp [intOf]; omega
      · obtain rfl : q = k := by omega
        obtain ⟨r, hr⟩ : ∃ r : Nat, r = h % 8 := ⟨_, rfl⟩
        have k1 : (h : Int) % 8 = (r : Int) := by omega
        have HR : Hid (r = h % 8) := hr
        have k2 : r < 8 := by omega
        by_cases hr0 : r = 0
        · have k3 : ((r : Int) != 0) = false := by rw [hr0]; rfl
          have HF : Fin w W2 wr bits gs g4 g5 h p := ⟨by rw [← maskL_zero h q p HQ.out (by omega) HPL.out (by rw [HP.out]; exact pad20_bytes hby) j2]; exact HK.out, hbk, W, HT, hb2⟩
          have h5m := HF.h5
          have h4m := HF.h4
          have hml : (idc (maskL h p)).size = 20 := by rw [idc_size]; exact maskL_length h p HPL.out j2
          clear HT hb2 hbk HG0 HK hr hr0
          go_wp2_with (first | (refine wpList_load_row rfl 26 _ rfl g5 rfl 26 _ (0, 0) _ h5m Try.underlying26 rfl ?c1 ?_) | (refine wpList_store_row rfl 26 _ _ rfl g4 _ rfl rfl 26 _ h4m ?c2 ?c3 ?c4 ?_))
          case c1 => rw [hml]; kernel_rfl
          case c2 => rw [hml]; kernel_rfl
          case c3 => rw [hml]; rfl
          case c4 => exact idc_one _
          have hres : (wr.setRow g4 (idc (maskL h p))).heap[g4]? = some (.cells (idc (maskL h p)) 26 (0, 0)) := setRow_heap _ g4 _ _ 26 _ h4m
          refine bodyPost_ret (v := .agg (idc (maskL h p))) (results_cell_row Try.results12 _ _ g4 26 _ (0, 0) _ rfl hres Try.underlying26 rfl (by rw [hml]; kernel_rfl)) rfl ⟨?_, ?_⟩
          · unfold red; rw [← HH.out, ← HP.out]
          · exact below_setRow HF.below (by have := HF.e4; omega) _
        · have k3 : ((r : Int) != 0) = true := by rw [bne_iff_ne]; omega
          have hq20 : q < 20 := by have := HQ.out; omega
          obtain ⟨x, hx⟩ : ∃ x : Int, x = p.getD q 0 := ⟨_, rfl⟩
          have HX : Hid (x = p.getD q 0) := hx
          have hcq : wr.cell? ⟨g5, q, none⟩ = some (.int .u8 x) := by
            rw [cell_of_row wr g5 q _ _ _ HK.out, idc_at _ _ (by rw [zeroTo_length _ _ (by rw [HPL.out]; omega), HPL.out]; exact hq20), zeroTo_at, if_neg (by omega), hx]
          have hfz := frozen_of_row wr g5 q _ _ HK.out
          have t1 : (h : Int).tdiv 8 = (q : Int) := by rw [Int.tdiv_eq_ediv_of_nonneg (Int.natCast_nonneg h)]; exact j3
          have t2 : (h : Int).tmod 8 = (r : Int) := by rw [Int.tmod_eq_emod_of_nonneg (Int.natCast_nonneg h)]; exact k1
          clear hr hx
          go_upto_region 11 with fail
          go_region
          go_upto_region 12 with fail
          have hxb := pad20_bytes hby q
          have HM : Hid ((wr.setCell ⟨g5, q, none⟩ (.int .u8 (Go.bits BinOp.and IntKind.u8 x (255 / 2 ^ r)))).heap[g5]? = some (.cells (idc (maskL h p)) 26 (0, 0))) :=
            idc_set HK.out (by rw [and_mask x r (by rw [HX.out, HP.out]; exact hxb.1) (by rw [HX.out, HP.out]; exact hxb.2) k2]; unfold maskL; rw [← HQ.out, ← HR.out, HX.out])
          have hbM := hbk.setCell (p := ⟨g5, q, none⟩) (Nat.le_refl _) (.int .u8 (Go.bits BinOp.and IntKind.u8 x (255 / 2 ^ r)))
          generalize (wr.setCell ⟨g5, q, none⟩ (.int .u8 (Go.bits BinOp.and IntKind.u8 x (255 / 2 ^ r)))) = WM at HM hbM ⊢
          have HF : Fin w W2 WM.drew bits gs g4 g5 h p := ⟨HM.out, hbM.drew, W, HT, hb2⟩
          have h5m := HF.h5
          have h4m := HF.h4
          have hml : (idc (maskL h p)).size = 20 := by rw [idc_size]; exact maskL_length h p HPL.out j2
          clear HT hbM hb2 hbk HG0 HK hcq hfz
          go_wp2_with (first | (refine wpList_load_row rfl 26 _ rfl g5 rfl 26 _ (0, 0) _ h5m Try.underlying26 rfl ?c1 ?_) | (refine wpList_store_row rfl 26 _ _ rfl g4 _ rfl rfl 26 _ h4m ?c2 ?c3 ?c4 ?_))
          case c1 => rw [hml]; kernel_rfl
          case c2 => rw [hml]; kernel_rfl
          case c3 => rw [hml]; rfl
          case c4 => exact idc_one _
          have hres : (WM.drew.setRow g4 (idc (maskL h p))).heap[g4]? = some (.cells (idc (maskL h p)) 26 (0, 0)) := setRow_heap _ g4 _ _ 26 _ h4m
          refine bodyPost_ret (v := .agg (idc (maskL h p))) (results_cell_row Try.results12 _ _ g4 26 _ (0, 0) _ rfl hres Try.underlying26 rfl (by rw [hml]; kernel_rfl)) rfl ⟨?_, ?_⟩
          · unfold red; rw [← HH.out, ← HP.out]
          · exact below_setRow HF.below (by have := HF.e4; omega) _
end Go.Proofs.Qxb6003645a
