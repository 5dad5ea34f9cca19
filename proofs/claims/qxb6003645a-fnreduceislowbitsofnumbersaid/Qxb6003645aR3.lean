import Derived.Test.Qxb6003645aEq
namespace Go.Proofs.Qxb6003645a
open Go.RowKit
set_option linter.unusedVariables false

set_option maxHeartbeats 400000 in
theorem space_any (b : Int) (w : World) : Calls Try.prog 11 #[.int .i64 b] w fun e w' => e = .returned (.agg #[.int .i64 b]) ∧ w' = w.alloc (.cells #[.int .i64 b] 28) := by
  go_enter Try.func11, Try.ntmps11
  go_wp2
  exact bodyPost_ret (v := .agg #[.int .i64 b]) (by simp [results, Try.results11, go_sem]) rfl ⟨rfl, rfl⟩

theorem setRow_new (w : World) (old cs : Array Value) (t : TypeId) : (w.alloc (.cells old t)).setRow w.heap.size cs = w.alloc (.cells cs t) := by
  unfold World.setRow World.alloc
  congr 1
  apply Array.ext
  · simp
  · intro i h1 h2
    simp only [Array.getElem_modify, Array.getElem_push]
    by_cases h : w.heap.size = i
    · subst h
      simp
    · have hi : i < w.heap.size := by simp at h1; omega
      simp [h, hi]

theorem storeCells_idc (x : List Int) (hx : x.length = 20) (w : World) (g : Nat) (hg : w.heap[g]? = some (.cells (idc zeros) 26 (0, 0))) :
    (storeCells ⟨g, 0, none⟩ (idc x).toList).run Try.prog w = .ok () (w.setRow g (idc x)) := by
  have h20 : (Try.prog.info? 26).map (·.size) = some (idc x).size := by rw [idc_size, hx]; kernel_rfl
  have := run_storeVar_row (P := Try.prog) w g 26 26 (idc zeros) (idc x) hg h20 (by rw [idc_size, idc_size, hx]; rfl) (idc_one x)
  cases hq : Try.prog.info? 26 with
  | none => rw [hq] at h20; cases h20
  | some i =>
    have hs : (idc x).size = i.size := by rw [hq] at h20; simpa using h20.symm
    simpa [storeVar, sizeOf, typeInfo, hq, Value.cells, hs] using this

theorem new_zeros (w : World) : (w.alloc (.cells #[.int .u8 0, .int .u8 0, .int .u8 0, .int .u8 0, .int .u8 0, .int .u8 0, .int .u8 0, .int .u8 0, .int .u8 0, .int .u8 0, .int .u8 0, .int .u8 0, .int .u8 0, .int .u8 0, .int .u8 0, .int .u8 0, .int .u8 0, .int .u8 0, .int .u8 0, .int .u8 0] 26)).heap[w.heap.size]? = some (.cells (idc zeros) 26 (0, 0)) := heap_alloc_new w _

theorem store_new (x : List Int) (hx : x.length = 20) (w : World) : (storeCells ⟨w.heap.size, 0, none⟩ (idc x).toList).run Try.prog (w.alloc (.cells #[.int .u8 0, .int .u8 0, .int .u8 0, .int .u8 0, .int .u8 0, .int .u8 0, .int .u8 0, .int .u8 0, .int .u8 0, .int .u8 0, .int .u8 0, .int .u8 0, .int .u8 0, .int .u8 0, .int .u8 0, .int .u8 0, .int .u8 0, .int .u8 0, .int .u8 0, .int .u8 0] 26)) = .ok () (w.alloc (.cells (idc x) 26)) := by
  rw [storeCells_idc x hx _ _ (new_zeros w), setRow_new]

theorem below_via1 {W w4 : World} {o : Obj} (h : Below ((W.alloc o).drew).heap.size ((W.alloc o).drew) w4) : Below W.heap.size W w4 :=
  (below_alloc W o).drew.trans (h.mono (by simp [World.drew]))

theorem below_via2 {W w4 : World} {o o2 : Obj} (h : Below (((W.alloc o).alloc o2).drew).heap.size (((W.alloc o).alloc o2).drew) w4) : Below W.heap.size W w4 :=
  ((below_alloc W o).alloc (by simp) o2).drew.trans (h.mono (by simp [World.drew]; omega))

theorem and_low (x : Int) (u : Nat) (h0 : 0 ≤ x) (h1 : x < 256) (hu : u < 8) : bits .and .u8 x (255 / 2 ^ (8 - u) % 256) = x % 2 ^ u := by
  obtain ⟨a, rfl⟩ := Int.eq_ofNat_of_zero_le h0
  have e : (255 / 2 ^ (8 - u) % 256 : Int) = ((2 ^ u - 1 : Nat) : Int) := by
    match u, hu with
    | 0, _ | 1, _ | 2, _ | 3, _ | 4, _ | 5, _ | 6, _ | 7, _ => rfl
  have hb : 2 ^ u - 1 < 256 := by
    match u, hu with
    | 0, _ | 1, _ | 2, _ | 3, _ | 4, _ | 5, _ | 6, _ | 7, _ => decide
  rw [e, u8_and_nat a _ (by omega) hb, Nat.and_two_pow_sub_one_eq_mod]
  simp

theorem two_zeros_b {W w4 : World} {o : Obj} (h : Below (((W.alloc o).alloc (.cells #[.int .u8 0, .int .u8 0, .int .u8 0, .int .u8 0, .int .u8 0, .int .u8 0, .int .u8 0, .int .u8 0, .int .u8 0, .int .u8 0, .int .u8 0, .int .u8 0, .int .u8 0, .int .u8 0, .int .u8 0, .int .u8 0, .int .u8 0, .int .u8 0, .int .u8 0, .int .u8 0] 26)).drew).heap.size (((W.alloc o).alloc (.cells #[.int .u8 0, .int .u8 0, .int .u8 0, .int .u8 0, .int .u8 0, .int .u8 0, .int .u8 0, .int .u8 0, .int .u8 0, .int .u8 0, .int .u8 0, .int .u8 0, .int .u8 0, .int .u8 0, .int .u8 0, .int .u8 0, .int .u8 0, .int .u8 0, .int .u8 0, .int .u8 0] 26)).drew) w4) : w4.heap[W.heap.size + 1]? = some (.cells (idc zeros) 26 (0, 0)) := by
  rw [h.block _ (by simp [World.drew])]
  have := new_zeros (W.alloc o)
  rw [show (W.alloc o).heap.size = W.heap.size + 1 by simp] at this
  exact this

theorem two_zeros_c {W w4 : World} {o : Obj} (h : Below (((W.alloc (.cells #[.int .u8 0, .int .u8 0, .int .u8 0, .int .u8 0, .int .u8 0, .int .u8 0, .int .u8 0, .int .u8 0, .int .u8 0, .int .u8 0, .int .u8 0, .int .u8 0, .int .u8 0, .int .u8 0, .int .u8 0, .int .u8 0, .int .u8 0, .int .u8 0, .int .u8 0, .int .u8 0] 26)).alloc o).drew).heap.size (((W.alloc (.cells #[.int .u8 0, .int .u8 0, .int .u8 0, .int .u8 0, .int .u8 0, .int .u8 0, .int .u8 0, .int .u8 0, .int .u8 0, .int .u8 0, .int .u8 0, .int .u8 0, .int .u8 0, .int .u8 0, .int .u8 0, .int .u8 0, .int .u8 0, .int .u8 0, .int .u8 0, .int .u8 0] 26)).alloc o).drew) w4) : w4.heap[W.heap.size]? = some (.cells (idc zeros) 26 (0, 0)) := by
  rw [h.block _ (by simp [World.drew]; omega)]
  show ((W.alloc _).alloc _).heap[W.heap.size]? = _
  rw [Below.heap_alloc _ _ _ (by simp)]
  exact new_zeros W

theorem size20 {x : List Int} (h : x.length = 20) : (Try.prog.info? 26).map (·.size) = some (idc x).size := by rw [idc_size, h]; kernel_rfl

theorem below_next {w0 w w' : World} (h : Below w0.heap.size w0 w) (k : Below w.heap.size w w') : Below w0.heap.size w0 w' := h.trans (k.mono h.size)

set_option maxHeartbeats 2000000 in
theorem law4_any (c d : Int) (ao : Option Addr) (n cp : Nat) (l : List Int) (w : World) (hn : l.length = n) (hnm : n ≤ maxLen) (hl : HasZ w ao l) (hby : Bytes l) (hnil : ao = none → n = 0 ∧ cp = 0) :
    Calls Try.prog 4 #[.int .i64 c, .int .i64 d, .slice ao n cp] w fun e w' => e = .returned (.bool true) ∧ Below w.heap.size w w' := by
  have hB := bytesN_any ao n cp c d w hnm
  by_cases hbig : n ≤ 1048576
  · have hd0 : decide (n ≤ 1048576) = true := by simpa using hbig
    rw [hd0] at hB
    by_cases hcd : 0 ≤ c ∧ c ≤ 160 ∧ 0 ≤ d ∧ d ≤ 160
    · obtain ⟨c0, c1, d0, d1⟩ := hcd
      obtain ⟨C, rfl⟩ := Int.eq_ofNat_of_zero_le c0
      obtain ⟨D, rfl⟩ := Int.eq_ofNat_of_zero_le d0
      have c2 : C ≤ 160 := by omega
      have d2 : D ≤ 160 := by omega
      clear c0 c1 d0 d1
      have hC := clone_any ao n cp l w hn (by omega) hl hnil
      have HN : Hid (l.length = n) := hn
      have HNIL : Hid (ao = none → n = 0 ∧ cp = 0) := hnil
      clear hd0 hnm hn hl hnil
      go_enter Try.func4, Try.ntmps4
      go_wp2_with fail
      refine hB.mono ?_
      rintro e w1 ⟨rfl, hw⟩
      obtain rfl := hw.symm
      clear hB
      go_wp2_with fail
      refine hC.mono ?_
      rintro e w1 ⟨a', c', rfl, hl1, hb1, hnc, hcm⟩
      clear hC hw
      obtain ⟨u, hu⟩ : ∃ u : Nat, u = min C D := ⟨_, rfl⟩
      have HU : Hid (u = min C D) := hu
      have u2 : u ≤ 160 := by omega
      clear hu
      go_upto_if 40 with fail
      go_cut [7] from 41 to 41 (fun v wc => wc = w1 ∧ v = .int .i64 (u : Int))
      case first =>
        by_cases hdc : D < C
        · have e : u = D := by have := HU.out; omega
          subst e
          go_wp2
          go_meet
          case rel => exact ⟨rfl, rfl⟩
        · have e : u = C := by have := HU.out; omega
          subst e
          go_wp2
          go_meet
          case rel => exact ⟨rfl, rfl⟩
      case rest =>
        obtain ⟨hwc, rfl⟩ := hcut
        obtain rfl := hwc.symm
        clear hwc
        have hbx := below_alloc w1 (.cells #[.int .i64 (D : Int)] 28)
        have hR1 := reduce_any a' n c' l D (w1.alloc (.cells #[.int .i64 (D : Int)] 28)) HN.out hnc (by unfold maxLen; omega) d2 (hl1.below hbx) (by omega) hby
        go_wp2_with fail
        refine (space_any D _).mono ?_
        rintro e wx ⟨rfl, rfl⟩
        go_wp2_with fail
        refine hR1.mono ?_
        rintro e w2 ⟨rfl, hb2⟩
        clear hR1
        have hb12 := below_next hbx hb2
        have hm20 : (red D l).length = 20 := red_length D l d2
        obtain ⟨m, hm⟩ : ∃ m, m = red D l := ⟨_, rfl⟩
        have HM : Hid (m = red D l) := hm
        rw [← hm] at hm20 ⊢
        have HM20 : Hid (m.length = 20) := hm20
        clear hm hm20
        go_upto_region 12 with (refine wpList_store_row rfl 26 _ _ rfl _ _ rfl rfl 26 _ (heap_alloc_new _ _) ?c2 ?c3 ?c4 ?_)
        case c2 => exact size20 HM20.out
        case c3 => rw [idc_size, HM20.out]; rfl
        case c4 => exact idc_one _
        rw [setRow_new]
        simp only [Act.put]
        have hm3 : (w2.alloc (.cells (idc m) 26)).heap[w2.heap.size]? = some (.cells (idc m) 26 (0, 0)) := heap_alloc_new _ _
        have hb3 := below_next hb12 (below_alloc w2 (.cells (idc m) 26))
        generalize w2.alloc (.cells (idc m) 26) = W3 at hm3 hb3 ⊢
        generalize w2.heap.size = gm at hm3 ⊢
        have hz3 := hasZ_of_heap hm3
        have hR2 : ∀ W, Below W3.heap.size W3 W → Calls Try.prog 12 #[.agg #[.int .i64 (C : Int)], .slice (some ⟨gm, 0, none⟩) 20 20] W fun e w' => e = .returned (.agg (idc (red C m))) ∧ Below W.heap.size W w' :=
          fun W hW => reduce_any (some ⟨gm, 0, none⟩) 20 20 m C W HM20.out (by omega) (by unfold maxLen; omega) c2 (hz3.below hW) (by omega) (by rw [HM.out]; exact red_bytes D l hby d2)
        have HR2 := Lib.hid hR2
        obtain ⟨got, hgot⟩ : ∃ got, got = red C m := ⟨_, rfl⟩
        have HGOT : Hid (got = red C m) := hgot
        have hg20 : got.length = 20 := by rw [hgot]; exact red_length C m c2
        rw [← hgot] at HR2
        have hW3 : gm < W3.heap.size := (Array.getElem?_eq_some_iff.1 hm3).1
        have hnew := new_zeros
        have hgs : (idc got).size = 20 := by rw [idc_size, hg20]
        have hst := store_new got hg20
        have HM3 : Hid (W3.heap[gm]? = some (.cells (idc m) 26 (0, 0))) := hm3
        clear hgot hR2 hz3 hm3
        go_cut [9] from 46 to 49 (fun v wc => ∃ g9, v = .pointer (some ⟨g9, 0, none⟩) ∧ Hid (wc.heap[g9]? = some (.cells (idc got) 26 (0, 0))) ∧ Below W3.heap.size W3 wc)
        case first =>
          go_region_with (first
            | (go_at_call 11; refine (space_any C _).mono ?_; rintro e wx ⟨rfl, rfl⟩)
            | (go_at_call 12; refine (HR2.out _ ?_).mono ?_; (repeat (first | exact Below.refl _ _ | refine Below.drew ?_ | refine Below.alloc ?_ (by simp) _)); rintro e w4 ⟨rfl, hb4⟩; (try have hgA := storeCells_idc got hg20 w4 _ (two_zeros_b hb4)); (try have hgB := storeCells_idc got hg20 w4 _ (two_zeros_c hb4))))
          · go_wp2_with fail
            go_meet
            case rel => exact ⟨w4.heap.size, rfl, heap_alloc_new _ _, below_next (below_via1 hb4) (below_alloc _ _)⟩
          · go_wp2_with fail
            go_meet
            case rel => exact ⟨W3.heap.size + 1, rfl, setRow_heap _ _ _ _ 26 _ (two_zeros_b hb4), below_setRow (below_via2 hb4) (by omega) _⟩
          · go_wp2_with fail
            go_meet
            case rel => exact ⟨W3.heap.size, rfl, setRow_heap _ _ _ _ 26 _ (two_zeros_c hb4), below_setRow (below_via2 hb4) (Nat.le_refl _) _⟩
        case rest =>
          obtain ⟨g9, rfl, HG9, hb4⟩ := hcut
          have hb04 := below_next hb3 hb4
          have hl4 := (hl1.below hb3).below hb4
          have hby5 := below_alloc wc (.cells #[.int .i64 (u : Int)] 28)
          have hR3 := reduce_any a' n c' l u (wc.alloc (.cells #[.int .i64 (u : Int)] 28)) HN.out hnc (by unfold maxLen; omega) u2 (hl4.below hby5) (by omega) hby
          have eg : red u l = got := by rw [HGOT.out, HM.out, red_red C D l hby c2 d2, ← HU.out]
          rw [eg] at hR3
          go_wp2_with fail
          refine (space_any u _).mono ?_
          rintro e wx ⟨rfl, rfl⟩
          go_wp2_with fail
          refine hR3.mono ?_
          rintro e w5 ⟨rfl, hb5⟩
          clear hR3
          have hb45 := below_next hby5 hb5
          have hl5 := (hl4.below hb45).below (below_alloc w5 (.cells (idc got) 26))
          have h9 : (w5.alloc (.cells (idc got) 26)).heap[g9]? = some (.cells (idc got) 26 (0, 0)) := by
            have hlt := (Array.getElem?_eq_some_iff.1 HG9.out).1
            rw [(below_alloc w5 _).block g9 (by have := hb45.size; omega), hb45.block g9 hlt]
            exact HG9.out
          have h10 : (w5.alloc (.cells (idc got) 26)).heap[w5.heap.size]? = some (.cells (idc got) 26 (0, 0)) := heap_alloc_new _ _
          have hb06 := below_next (below_next hb04 hb45) (below_alloc w5 (.cells (idc got) 26))
          go_upto_region 14 with fail
          generalize w5.alloc (.cells (idc got) 26) = W6 at hl5 h9 h10 hb06 ⊢
          generalize w5.heap.size = g10 at h10 ⊢
          have H9 : Hid (W6.heap[g9]? = some (.cells (idc got) 26 (0, 0))) := h9
          have H10 : Hid (W6.heap[g10]? = some (.cells (idc got) 26 (0, 0))) := h10
          obtain ⟨low, hlow⟩ : ∃ low : Int, low = got.getD 19 0 := ⟨_, rfl⟩
          have HLOW : Hid (low = (if 0 < n then l.getD (n - 1) 0 else 0) % 2 ^ (min 8 u)) := by show low = _; rw [hlow, ← eg, red_last u l hby u2, HN.out]
          have hc19 : W6.cell? ⟨g10, 19, none⟩ = some (.int .u8 low) := by rw [cell_idc' h10 (by rw [hg20]; omega), hlow]
          have heq : ∀ W, (Op.equalIn 10000 26 (.agg (idc got)) (.agg (idc got))).run Try.prog W = .ok true W := fun W => by rw [equalIn_idc got got hg20 hg20 W]; simp
          clear h9 h10 hl4 hby5 hb5 hb45 hb4 HG9 hnew hst hl1 eg hlow hb04
          by_cases hn0 : 0 < n
          · obtain ⟨g, o, e, hc⟩ := hl5 (by have := HN.out; omega)
            subst e
            obtain ⟨j, hj⟩ : ∃ j, j = n - 1 := ⟨_, rfl⟩
            have j1 : (n : Int) - 1 = (j : Int) := by omega
            have j2 : j < n := by omega
            have hcj := hc j (by have := HN.out; omega)
            have hbb := hby j
            obtain ⟨b, hb⟩ : ∃ b, b = l.getD j 0 := ⟨_, rfl⟩
            rw [← hb] at hcj hbb
            have HB : Hid ((if 0 < n then l.getD (n - 1) 0 else 0) = b) := by show _ = _; rw [if_pos hn0, hb, hj]
            clear hc hl5 hj hb
            by_cases hu8 : u < 8
            · obtain ⟨t, ht⟩ : ∃ t, t = 8 - u := ⟨_, rfl⟩
              have t1 : (8 : Int) - (u : Int) = (t : Int) := by omega
              have t2 : t ≤ 8 := by omega
              have hbits : bits .and .u8 b (255 / 2 ^ t % 256) = low := by
                rw [ht, and_low b u hbb.1 hbb.2 hu8, HLOW.out, HB.out, Nat.min_eq_right (by omega)]
              clear ht
              go_upto_region 20 with fail
              go_wp2_with (first | (refine wpList_load_row rfl 26 _ rfl g9 rfl 26 _ (0, 0) _ H9.out Try.underlying26 rfl (size20 hg20) ?_) | (refine wpList_load_row rfl 26 _ rfl g10 rfl 26 _ (0, 0) _ H10.out Try.underlying26 rfl (size20 hg20) ?_))
              go_ret
              exact ⟨rfl, below_next hb1 hb06⟩
            · have hbl : b = low := by
                rw [HLOW.out, HB.out, Nat.min_eq_left (by omega)]
                omega
              subst hbl
              go_upto_region 20 with fail
              go_wp2_with (first | (refine wpList_load_row rfl 26 _ rfl g9 rfl 26 _ (0, 0) _ H9.out Try.underlying26 rfl (size20 hg20) ?_) | (refine wpList_load_row rfl 26 _ rfl g10 rfl 26 _ (0, 0) _ H10.out Try.underlying26 rfl (size20 hg20) ?_))
              go_ret
              exact ⟨rfl, below_next hb1 hb06⟩
          · have HB : Hid ((if 0 < n then l.getD (n - 1) 0 else 0) = 0) := by show _ = _; rw [if_neg hn0]
            have hl0 : low = 0 := by rw [HLOW.out, HB.out]; simp
            subst hl0
            obtain rfl : n = 0 := by omega
            by_cases hu8 : u < 8
            · obtain ⟨t, ht⟩ : ∃ t, t = 8 - u := ⟨_, rfl⟩
              have t1 : (8 : Int) - (u : Int) = (t : Int) := by omega
              have t2 : t ≤ 8 := by omega
              have hbits : bits .and .u8 0 (255 / 2 ^ t % 256) = 0 := by
                rw [ht, and_low 0 u (by omega) (by omega) hu8]; simp
              clear ht
              go_upto_region 20 with fail
              go_wp2_with (first | (refine wpList_load_row rfl 26 _ rfl g9 rfl 26 _ (0, 0) _ H9.out Try.underlying26 rfl (size20 hg20) ?_) | (refine wpList_load_row rfl 26 _ rfl g10 rfl 26 _ (0, 0) _ H10.out Try.underlying26 rfl (size20 hg20) ?_))
              go_ret
              exact ⟨rfl, below_next hb1 hb06⟩
            · go_upto_region 20 with fail
              go_wp2_with (first | (refine wpList_load_row rfl 26 _ rfl g9 rfl 26 _ (0, 0) _ H9.out Try.underlying26 rfl (size20 hg20) ?_) | (refine wpList_load_row rfl 26 _ rfl g10 rfl 26 _ (0, 0) _ H10.out Try.underlying26 rfl (size20 hg20) ?_))
              go_ret
              exact ⟨rfl, below_next hb1 hb06⟩
    · have HX : Hid (¬ (0 ≤ c ∧ c ≤ 160 ∧ 0 ≤ d ∧ d ≤ 160)) := hcd
      clear hd0 hnm hn hl hnil hcd
      by_cases c0 : 0 ≤ c
      · by_cases c1 : c ≤ 160
        · by_cases d0 : 0 ≤ d
          · have d1 : 160 < d := by have := HX.out; omega
            go_enter Try.func4, Try.ntmps4
            go_wp2_with (go_at_call 14; refine hB.mono ?_; rintro e w1 ⟨rfl, hw⟩; obtain rfl := hw.symm)
            go_ret
            exact ⟨rfl, Below.refl _ _⟩
          · go_enter Try.func4, Try.ntmps4
            go_wp2_with (go_at_call 14; refine hB.mono ?_; rintro e w1 ⟨rfl, hw⟩; obtain rfl := hw.symm)
            all_goals (go_ret; exact ⟨rfl, Below.refl _ _⟩)
        · go_enter Try.func4, Try.ntmps4
          go_wp2_with (go_at_call 14; refine hB.mono ?_; rintro e w1 ⟨rfl, hw⟩; obtain rfl := hw.symm)
          all_goals (go_ret; exact ⟨rfl, Below.refl _ _⟩)
      · go_enter Try.func4, Try.ntmps4
        go_wp2_with (go_at_call 14; refine hB.mono ?_; rintro e w1 ⟨rfl, hw⟩; obtain rfl := hw.symm)
        all_goals (go_ret; exact ⟨rfl, Below.refl _ _⟩)
  · have hd0 : decide (n ≤ 1048576) = false := by simpa using hbig
    rw [hd0] at hB
    clear hd0 hnm hn hl hnil
    go_enter Try.func4, Try.ntmps4
    go_wp2_with (go_at_call 14; refine hB.mono ?_; rintro e w1 ⟨rfl, hw⟩; obtain rfl := hw.symm)
    go_ret
    exact ⟨rfl, Below.refl _ _⟩
end Go.Proofs.Qxb6003645a
