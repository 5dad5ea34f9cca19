import Derived.Test.Qxb6003645aR4
namespace Go.Proofs.Qxb6003645a
open Go.RowKit
set_option linter.unusedVariables false

theorem below_drew1 {W w4 : World} (h : Below W.drew.heap.size W.drew w4) : Below W.heap.size W w4 := (Below.refl _ W).drew.trans h

theorem hid_below {w w' : World} {g : Nat} {o : Obj} (h : Hid (w.heap[g]? = some o)) (hb : Below w.heap.size w w') : Hid (w'.heap[g]? = some o) := by
  show _ = _
  rw [hb.block g (Array.getElem?_eq_some_iff.1 h.out).1]
  exact h.out

theorem one_zero {W w4 : World} (h : Below ((W.alloc (.cells #[.int .u8 0, .int .u8 0, .int .u8 0, .int .u8 0, .int .u8 0, .int .u8 0, .int .u8 0, .int .u8 0, .int .u8 0, .int .u8 0, .int .u8 0, .int .u8 0, .int .u8 0, .int .u8 0, .int .u8 0, .int .u8 0, .int .u8 0, .int .u8 0, .int .u8 0, .int .u8 0] 26)).drew).heap.size ((W.alloc (.cells #[.int .u8 0, .int .u8 0, .int .u8 0, .int .u8 0, .int .u8 0, .int .u8 0, .int .u8 0, .int .u8 0, .int .u8 0, .int .u8 0, .int .u8 0, .int .u8 0, .int .u8 0, .int .u8 0, .int .u8 0, .int .u8 0, .int .u8 0, .int .u8 0, .int .u8 0, .int .u8 0] 26)).drew) w4) : w4.heap[W.heap.size]? = some (.cells (idc zeros) 26 (0, 0)) := by
  rw [h.block _ (by simp [World.drew])]
  exact new_zeros W

/-- A whole row read out of a variable by a GUARDED operation whose guard holds. -/
theorem wpList_load_row_g {P : Program} {ops : Array Oper} {rest : List Oper} {o : Oper} {a : Act} {w : World} {Q : Exit → Act → World → Prop} (hgd : Region.wanted o (yielded ops a.tmps) = true) (ty : TypeId) (x : Operand) (ho : o.op = .load ty x)
    (g : Nat) (hx : a.eval x = .pointer (some ⟨g, 0, none⟩)) (t : TypeId) (cs : Array Value) (fr : Nat × Nat) (d : TypeDesc) (hg : w.heap[g]? = some (.cells cs t fr))
    (hu : P.underlying ty = some d) (hd : (match d with | .struct _ | .array _ _ => true | _ => false) = true) (hi : (P.info? ty).map (·.size) = some cs.size)
    (h : wpList P ops Q rest (a.put o.dst (.agg cs)) w) : wpList P ops Q (o :: rest) a w :=
  wpList_step fun K hK => by rw [if_pos hgd]; exact wp_load_row ty x ho g hx t cs fr d hg hu hd hi (hK _ _ h)

set_option maxHeartbeats 4000000 in
theorem law6_any (bits i : Int) (n : List Int) (w : World) (hn : n.length = 20) (hby : Bytes n) (bi : i ≤ 9223372036854775807) :
    Calls Try.prog 6 #[.int .i64 bits, .agg (idc n), .int .i64 i] w fun e w' => e = .returned (.bool true) ∧ Below w.heap.size w w' := by
  by_cases b0 : 0 ≤ bits
  · by_cases b1 : bits ≤ 160
    · by_cases i0 : 0 ≤ i
      · obtain ⟨B, rfl⟩ := Int.eq_ofNat_of_zero_le b0
        obtain ⟨I, rfl⟩ := Int.eq_ofNat_of_zero_le i0
        have B2 : B ≤ 160 := by omega
        have HZ : Hid (∀ sgn, (sgn = 1 ∨ sgn = -1) → ∀ (x : List Int) (W : World), x.length = 20 → Bytes x → Calls Try.prog 15 #[.agg #[.int .i64 B], .agg (idc x), .int .i64 I, .int .i64 sgn] W fun e w' => e = .returned (.agg (idc (red B (shl I sgn x)))) ∧ Below W.heap.size W w') :=
          fun sgn hs x W hx hb => zshift_any B x I sgn W B2 hx hb (by omega) hs
        have HNB : Hid (n.length = 20 ∧ Bytes n) := ⟨hn, hby⟩
        clear b0 b1 i0 bi hn hby
        go_enter Try.func6, Try.ntmps6
        go_wp2_with fail
        refine (space_any B _).mono ?_
        rintro e wx ⟨rfl, rfl⟩
        go_upto_region 6 with fail
        have hnW : (((w.alloc (.cells (idc n) 25)).alloc (.cells #[.int .i64 (B : Int)] 28)).alloc (.cells #[.int .i64 (B : Int)] 28)).heap[w.heap.size]? = some (.cells (idc n) 25 (0, 0)) := by
          rw [Below.heap_alloc _ _ _ (by simp; omega), Below.heap_alloc _ _ _ (by simp), heap_alloc_new]
        have hsp : (((w.alloc (.cells (idc n) 25)).alloc (.cells #[.int .i64 (B : Int)] 28)).alloc (.cells #[.int .i64 (B : Int)] 28)).heap[w.heap.size + 1 + 1]? = some (.cells #[.int .i64 (B : Int)] 28 (0, 0)) := by
          have := heap_alloc_new ((w.alloc (.cells (idc n) 25)).alloc (.cells #[.int .i64 (B : Int)] 28)) (.cells #[.int .i64 (B : Int)] 28)
          simpa using this
        have hbW : Below w.heap.size w (((w.alloc (.cells (idc n) 25)).alloc (.cells #[.int .i64 (B : Int)] 28)).alloc (.cells #[.int .i64 (B : Int)] 28)) := ((below_alloc w _).alloc (by simp) _).alloc (by simp; omega) _
        generalize (((w.alloc (.cells (idc n) 25)).alloc (.cells #[.int .i64 (B : Int)] 28)).alloc (.cells #[.int .i64 (B : Int)] 28)) = W at hnW hsp hbW ⊢
        generalize w.heap.size + 1 + 1 = gsp at hsp ⊢
        generalize hgn : w.heap.size = gn at hnW ⊢
        clear hgn
        have hcs : W.cell? ⟨gsp, 0, none⟩ = some (.int .i64 (B : Int)) := by rw [cell_of_row W gsp 0 _ _ _ hsp]; rfl
        have hca : ∀ o, (W.alloc o).cell? ⟨gsp, 0, none⟩ = some (.int .i64 (B : Int)) := fun o => by rw [(below_alloc W o).cell (p := ⟨gsp, 0, none⟩) (Array.getElem?_eq_some_iff.1 hsp).1]; exact hcs
        have HSP : Hid (W.heap[gsp]? = some (.cells #[.int .i64 (B : Int)] 28 (0, 0))) := hsp
        obtain ⟨m, hm⟩ : ∃ m, m = red B n := ⟨_, rfl⟩
        have HM : Hid (m = red B n) := hm
        have hml : m.length = 20 := by rw [hm]; exact red_length B n B2
        have HMB : Hid (Bytes m) := by rw [hm]; exact red_bytes B n HNB.out.2 B2
        have HR : Hid (∀ W', Below W.heap.size W W' → Calls Try.prog 12 #[.agg #[.int .i64 (B : Int)], .slice (some ⟨gn, 0, none⟩) 20 20] W' fun e w' => e = .returned (.agg (idc m)) ∧ Below W'.heap.size W' w') :=
          fun W' hW => by rw [hm]; exact reduce_any (some ⟨gn, 0, none⟩) 20 20 n B W' HNB.out.1 (by omega) (by unfold maxLen; omega) B2 ((hasZ_of_heap hnW).below hW) (by omega) HNB.out.2
        have hms : (idc m).size = 20 := by rw [idc_size, hml]
        have hst := store_new m hml
        clear hm hsp hnW
        go_cut [8] from 23 to 25 (fun v wc => ∃ g8, v = .pointer (some ⟨g8, 0, none⟩) ∧ Hid (wc.heap[g8]? = some (.cells (idc m) 26 (0, 0))) ∧ Below W.heap.size W wc)
        case first =>
          go_region_with (go_at_call 12; refine (HR.out _ ?_).mono ?_; (repeat (first | exact Below.refl _ _ | refine Below.drew ?_ | refine Below.alloc ?_ (by simp) _)); rintro e w4 ⟨rfl, hb4⟩; (try have hgA := storeCells_idc m hml w4 _ (one_zero hb4)))
          · go_wp2_with fail
            go_meet
            case rel => exact ⟨w4.heap.size, rfl, heap_alloc_new _ _, below_next (below_drew1 hb4) (below_alloc _ _)⟩
          · go_wp2_with fail
            go_meet
            case rel => exact ⟨W.heap.size, rfl, setRow_heap _ _ _ _ 26 _ (one_zero hb4), below_setRow (below_via1 hb4) (Nat.le_refl _) _⟩
          · go_wp2_with fail
            go_meet
            case rel => exact ⟨W.heap.size, rfl, setRow_heap _ _ _ _ 26 _ (one_zero hb4), below_setRow (below_via1 hb4) (Nat.le_refl _) _⟩
        case rest =>
          obtain ⟨g8, rfl, G8, hbc⟩ := hcut
          have s7 : wc.heap[gsp]? = some (.cells #[.int .i64 (B : Int)] 28 (0, 0)) := by rw [hbc.block gsp (Array.getElem?_eq_some_iff.1 HSP.out).1]; exact HSP.out
          have hb0 := below_next hbW hbc
          clear hcs hca hst hbc hbW HR HSP
          have S0 : Hid (wc.heap[gsp]? = some (.cells #[.int .i64 (B : Int)] 28 (0, 0))) := s7
          clear s7
          have M0 : Hid (wc.heap[g8]? = some (.cells (idc m) 26 (0, 0))) := G8
          clear G8
          have hcs0 : wc.cell? ⟨gsp, 0, none⟩ = some (.int .i64 (B : Int)) := by rw [cell_of_row wc gsp 0 _ _ _ S0.out]; rfl
          obtain ⟨u, hu⟩ : ∃ u, u = red B (shl I (1) m) := ⟨_, rfl⟩
          have Eu : Hid (u = red B (shl I (1) m)) := hu
          have hlu : u.length = 20 := by rw [hu]; exact red_length _ _ B2
          have Bu : Hid (Bytes u) := by rw [hu]; exact red_bytes _ _ (shl_bytes _ _ _ HMB.out) B2
          have hZ0 := HZ.out (1) (.inl rfl) m wc hml HMB.out
          rw [← hu] at hZ0
          have hszu : (idc u).size = 20 := by rw [idc_size, hlu]
          have hst0 := store_new u hlu
          clear hu
          go_wp2_with (refine wpList_load_row rfl 26 _ rfl g8 rfl 26 _ (0, 0) _ M0.out Try.underlying26 rfl (size20 hml) ?_)
          refine hZ0.mono ?_
          rintro e wx0 ⟨rfl, hbu⟩
          clear hZ0
          go_upto_region 8 with fail
          have hbn0 := below_next hbu (below_alloc wx0 (.cells (idc u) 26))
          have hb00 := below_next hb0 hbn0
          have Nu : Hid ((wx0.alloc (.cells (idc u) 26)).heap[wx0.heap.size]? = some (.cells (idc u) 26 (0, 0))) := heap_alloc_new _ _
          have S1 := hid_below S0 hbn0
          have M1 := hid_below M0 hbn0
          generalize wx0.alloc (.cells (idc u) 26) = V1 at Nu hb00 S1 M1 ⊢
          generalize wx0.heap.size = g9 at Nu ⊢
          have U1 := Nu
          clear Nu hbn0 hbu hcs0 hst0 S0 M0
          have hcs1 : V1.cell? ⟨gsp, 0, none⟩ = some (.int .i64 (B : Int)) := by rw [cell_of_row V1 gsp 0 _ _ _ S1.out]; rfl
          obtain ⟨bk, hbk⟩ : ∃ bk, bk = red B (shl I (-1) u) := ⟨_, rfl⟩
          have Ebk : Hid (bk = red B (shl I (-1) u)) := hbk
          have hlbk : bk.length = 20 := by rw [hbk]; exact red_length _ _ B2
          have Bbk : Hid (Bytes bk) := by rw [hbk]; exact red_bytes _ _ (shl_bytes _ _ _ Bu.out) B2
          have hZ1 := HZ.out (-1) (.inr rfl) u V1 hlu Bu.out
          rw [← hbk] at hZ1
          have hszbk : (idc bk).size = 20 := by rw [idc_size, hlbk]
          have hst1 := store_new bk hlbk
          clear hbk
          go_wp2_with (refine wpList_load_row rfl 26 _ rfl g9 rfl 26 _ (0, 0) _ U1.out Try.underlying26 rfl (size20 hlu) ?_)
          refine hZ1.mono ?_
          rintro e wx1 ⟨rfl, hbbk⟩
          clear hZ1
          go_upto_region 9 with fail
          have hbn1 := below_next hbbk (below_alloc wx1 (.cells (idc bk) 26))
          have hb01 := below_next hb00 hbn1
          have Nbk : Hid ((wx1.alloc (.cells (idc bk) 26)).heap[wx1.heap.size]? = some (.cells (idc bk) 26 (0, 0))) := heap_alloc_new _ _
          have S2 := hid_below S1 hbn1
          have M2 := hid_below M1 hbn1
          have U2 := hid_below U1 hbn1
          generalize wx1.alloc (.cells (idc bk) 26) = V2 at Nbk hb01 S2 M2 U2 ⊢
          generalize wx1.heap.size = g10 at Nbk ⊢
          have BK2 := Nbk
          clear Nbk hbn1 hbbk hcs1 hst1 S1 M1 U1
          have hcs2 : V2.cell? ⟨gsp, 0, none⟩ = some (.int .i64 (B : Int)) := by rw [cell_of_row V2 gsp 0 _ _ _ S2.out]; rfl
          obtain ⟨dn, hdn⟩ : ∃ dn, dn = red B (shl I (-1) m) := ⟨_, rfl⟩
          have Edn : Hid (dn = red B (shl I (-1) m)) := hdn
          have hldn : dn.length = 20 := by rw [hdn]; exact red_length _ _ B2
          have Bdn : Hid (Bytes dn) := by rw [hdn]; exact red_bytes _ _ (shl_bytes _ _ _ HMB.out) B2
          have hZ2 := HZ.out (-1) (.inr rfl) m V2 hml HMB.out
          rw [← hdn] at hZ2
          have hszdn : (idc dn).size = 20 := by rw [idc_size, hldn]
          have hst2 := store_new dn hldn
          clear hdn
          go_wp2_with (refine wpList_load_row rfl 26 _ rfl g8 rfl 26 _ (0, 0) _ M2.out Try.underlying26 rfl (size20 hml) ?_)
          refine hZ2.mono ?_
          rintro e wx2 ⟨rfl, hbdn⟩
          clear hZ2
          go_upto_region 10 with fail
          have hbn2 := below_next hbdn (below_alloc wx2 (.cells (idc dn) 26))
          have hb02 := below_next hb01 hbn2
          have Ndn : Hid ((wx2.alloc (.cells (idc dn) 26)).heap[wx2.heap.size]? = some (.cells (idc dn) 26 (0, 0))) := heap_alloc_new _ _
          have S3 := hid_below S2 hbn2
          have M3 := hid_below M2 hbn2
          have U3 := hid_below U2 hbn2
          have BK3 := hid_below BK2 hbn2
          generalize wx2.alloc (.cells (idc dn) 26) = V3 at Ndn hb02 S3 M3 U3 BK3 ⊢
          generalize wx2.heap.size = g11 at Ndn ⊢
          have DN3 := Ndn
          clear Ndn hbn2 hbdn hcs2 hst2 S2 M2 U2 BK2
          have hcs3 : V3.cell? ⟨gsp, 0, none⟩ = some (.int .i64 (B : Int)) := by rw [cell_of_row V3 gsp 0 _ _ _ S3.out]; rfl
          obtain ⟨up, hup⟩ : ∃ up, up = red B (shl I (1) dn) := ⟨_, rfl⟩
          have Eup : Hid (up = red B (shl I (1) dn)) := hup
          have hlup : up.length = 20 := by rw [hup]; exact red_length _ _ B2
          have Bup : Hid (Bytes up) := by rw [hup]; exact red_bytes _ _ (shl_bytes _ _ _ Bdn.out) B2
          have hZ3 := HZ.out (1) (.inl rfl) dn V3 hldn Bdn.out
          rw [← hup] at hZ3
          have hszup : (idc up).size = 20 := by rw [idc_size, hlup]
          have hst3 := store_new up hlup
          clear hup
          go_wp2_with (refine wpList_load_row rfl 26 _ rfl g11 rfl 26 _ (0, 0) _ DN3.out Try.underlying26 rfl (size20 hldn) ?_)
          refine hZ3.mono ?_
          rintro e wx3 ⟨rfl, hbup⟩
          clear hZ3
          go_upto_region 11 with fail
          have hbn3 := below_next hbup (below_alloc wx3 (.cells (idc up) 26))
          have hb03 := below_next hb02 hbn3
          have Nup : Hid ((wx3.alloc (.cells (idc up) 26)).heap[wx3.heap.size]? = some (.cells (idc up) 26 (0, 0))) := heap_alloc_new _ _
          have S4 := hid_below S3 hbn3
          have M4 := hid_below M3 hbn3
          have U4 := hid_below U3 hbn3
          have BK4 := hid_below BK3 hbn3
          have DN4 := hid_below DN3 hbn3
          generalize wx3.alloc (.cells (idc up) 26) = V4 at Nup hb03 S4 M4 U4 BK4 DN4 ⊢
          generalize wx3.heap.size = g12 at Nup ⊢
          have UP4 := Nup
          clear Nup hbn3 hbup hcs3 hst3 S3 M3 U3 BK3 DN3
          have HL := shift_law B I n HNB.out.1 HNB.out.2 B2
          rw [← HM.out, ← Eu.out, ← Ebk.out, ← Edn.out, ← Eup.out] at HL
          obtain ⟨e1, e2, e3⟩ := HL
          clear Eu Ebk Edn Eup HM HNB HZ S4 DN4 HMB Bu Bbk Bdn Bup
          subst e1
          subst e2
          have q1 := equalIn_idc up up hlup hlup V4
          have q2 := equalIn_idc u up hlu hlup V4
          have q0 : (up == up) = true := by simp
          rw [q0] at q1
          by_cases hI : I < B
          · have q3 : (u == up) = false := by
              have : ¬ u = up := fun h => by have := e3.1 h; omega
              simpa using this
            rw [q3] at q2
            clear e3 q0 q3
            go_wp2_with (first | (refine wpList_load_row_g rfl 26 _ rfl g8 rfl 26 _ (0, 0) _ M4.out Try.underlying26 rfl (size20 hlup) ?_) | (refine wpList_load_row_g rfl 26 _ rfl g9 rfl 26 _ (0, 0) _ U4.out Try.underlying26 rfl (size20 hlu) ?_) | (refine wpList_load_row_g rfl 26 _ rfl g10 rfl 26 _ (0, 0) _ BK4.out Try.underlying26 rfl (size20 hlup) ?_) | (refine wpList_load_row_g rfl 26 _ rfl g12 rfl 26 _ (0, 0) _ UP4.out Try.underlying26 rfl (size20 hlup) ?_))
            go_ret
            exact ⟨rfl, hb03⟩
          · have q3 : u = up := e3.2 (by omega)
            subst q3
            clear e3 q0 q2
            go_wp2_with (first | (refine wpList_load_row_g rfl 26 _ rfl g8 rfl 26 _ (0, 0) _ M4.out Try.underlying26 rfl (size20 hlu) ?_) | (refine wpList_load_row_g rfl 26 _ rfl g9 rfl 26 _ (0, 0) _ U4.out Try.underlying26 rfl (size20 hlu) ?_) | (refine wpList_load_row_g rfl 26 _ rfl g10 rfl 26 _ (0, 0) _ BK4.out Try.underlying26 rfl (size20 hlu) ?_) | (refine wpList_load_row_g rfl 26 _ rfl g12 rfl 26 _ (0, 0) _ UP4.out Try.underlying26 rfl (size20 hlu) ?_))
            go_ret
            exact ⟨rfl, hb03⟩
      · go_enter Try.func6, Try.ntmps6
        go_wp2
        all_goals (go_ret; exact ⟨rfl, below_alloc _ _⟩)
    · go_enter Try.func6, Try.ntmps6
      go_wp2
      all_goals (go_ret; exact ⟨rfl, below_alloc _ _⟩)
  · go_enter Try.func6, Try.ntmps6
    go_wp2
    all_goals (go_ret; exact ⟨rfl, below_alloc _ _⟩)
end Go.Proofs.Qxb6003645a
