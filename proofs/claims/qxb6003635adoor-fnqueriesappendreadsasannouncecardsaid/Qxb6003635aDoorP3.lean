import Derived.Test.Qxb6003635aDoorC7
import Derived.Test.Qxb6003635aDoorTie
import Derived.Test.Qxb6003635aDoorCards
import Derived.ProofKit
import Derived.OpenShut
import Derived.ShutString
import Derived.ChangeOld
import Derived.SliceStrings
import Derived.LaidMore
import Derived.Lib.LaidTab
import Derived.Stop.Joined
import Derived.Stop.LaidErr
import Derived.SevenTiedAt
namespace Go.Proofs.Qxb6003635aDoor
open Go.ChangeShapes Go.WideShapes Go.ChangeAt Go.RowKit
set_option linter.unusedVariables false

theorem own3 : ownKnob Tryd.prog.godebug = none := by kernel_rfl
theorem laidOut3 : laidOutB Tryd.prog = true := by kernel_rfl

/-- A slice of strings that came in, as the walk wants it. -/
theorem hasS_of3 {W : World} {a : Addr} {ss : List ByteArray} {len : Nat} (hl : len ≤ ss.length) (h : ∀ i, i < ss.length → W.cell? (a.add i) = some (.string (ss.getD i ByteArray.empty))) : HasS W (some a) (ss.take len) := by
  intro hp
  have hp' : 0 < len := by
    rw [List.length_take] at hp; omega
  obtain ⟨b, off, spot⟩ := a
  have hspot : spot = none := by simpa [Addr.add] using World.cell?_spot (h 0 (by omega))
  subst hspot
  refine ⟨b, off, rfl, fun j hj => ?_⟩
  rw [List.length_take] at hj
  have := h j (by omega)
  rw [Lib.add_plain] at this
  rw [this, List.getD_eq_getElem?_getD, List.getD_eq_getElem?_getD, List.getElem?_take_of_lt (by omega)]

theorem gPow3 : Tryd.prog.globalNamed pow10Name = some 0 := by kernel_rfl
theorem tPow3 : (Tryd.prog.globals[0]?).map (·.type) = some 54 := by kernel_rfl

theorem tab_of_laid3 {W : World} (h : laidMetH Tryd.prog Rows.fnQueriesAppendReadsAsAnnounceRow.laid W) : Lib.TabIs Tryd.prog W pow10Name .u64 Lib.pow10Tab := by
  rw [MakeChecks.laidMetH_plain _ _ _ (by kernel_rfl)] at h
  have h2 : laidMet Tryd.prog ((pow10Name, Lib.tabData .u64 Lib.pow10Tab) :: []) W := (laidMet.tail (laidMet.tail h))
  exact Lib.tabIs_of_head gPow3 tPow3 Tryd.underlying54 Tryd.underlying43 (by kernel_rfl) (by kernel_rfl) h2

theorem door_met3 (os : Os) (args : Array Value) : laidMetH Tryd.prog Rows.fnQueriesAppendReadsAsAnnounceRow.laid ((World.doorLaid Tryd.prog 24 os).forCall (fun _ _ => 0) ⟨#[], args, []⟩).memory :=
  laidMetH_of_parts3 (fuel := 8) (laidMet_of_run' 8 (by kernel_rfl) (by kernel_rfl)) (by kernel_rfl) (by kernel_rfl)


/-- A slice of bytes that came in, as the walk wants it. -/
theorem hasB_of3 {W : World} {a : Addr} {zs : List Int} {len : Nat} (hl : len ≤ zs.length) (h : ∀ i, i < zs.length → W.cell? (a.add i) = some (.int .u8 (zs.getD i 0))) (hw : ∀ n ∈ zs, (Lit.int .u8 n).wf = true) :
    ∃ l : List UInt8, l.length = len ∧ HasB W (some a) l := by
  refine ⟨(zs.take len).map fun z => UInt8.ofNat z.toNat, by rw [List.length_map, List.length_take]; omega, fun hp => ?_⟩
  rw [List.length_map, List.length_take] at hp
  obtain ⟨b, off, spot⟩ := a
  have hspot : spot = none := by simpa [Addr.add] using World.cell?_spot (h 0 (by omega))
  subst hspot
  refine ⟨b, off, rfl, fun j hj => ?_⟩
  rw [List.length_map, List.length_take] at hj
  have h1 := h j (by omega)
  rw [Lib.add_plain] at h1
  have h2 := bounds_u8 (hw (zs.getD j 0) (by rw [List.getD_eq_getElem?_getD, List.getElem?_eq_getElem (show j < zs.length by omega)]; exact List.getElem_mem _))
  rw [h1]
  have e : ((zs.take len).map fun z => UInt8.ofNat z.toNat).getD j 0 = UInt8.ofNat (zs.getD j 0).toNat := by
    rw [List.getD_eq_getElem?_getD, List.getElem?_map, List.getElem?_take_of_lt (by omega), List.getD_eq_getElem?_getD, List.getElem?_eq_getElem (show j < zs.length by omega)]
    rfl
  rw [e]
  congr 2
  simp only [UInt8.toNat_ofNat']
  omega

set_option maxRecDepth 100000 in
theorem lifted3 (os : Os) (started : os.Started) (H : Type) (enc : TypeId × Value → H) :
    ReturnsInHanded {} Tryd.checked os 3 .any (fun w args => (Rows.fnQueriesAppendReadsAsAnnounceSpec.pre enc Tryd.prog Tryd.f3 [] false w args ∧ laidMetH Tryd.prog Rows.fnQueriesAppendReadsAsAnnounceRow.laid w) ∧ sizedMet enc Tryd.prog Tryd.f3 (OpenSpec.ofChange Rows.fnQueriesAppendReadsAsAnnounceSpec) false w args)
      (Rows.fnQueriesAppendReadsAsAnnounceSpec.post enc Tryd.prog Tryd.f3 false true false false) := by
  refine returnsInHanded_of_change_and (C := Tryd.checked) (X := fun w _ => laidMetH Tryd.prog Rows.fnQueriesAppendReadsAsAnnounceRow.laid w) (fun _ _ _ hh h => h.of_heap hh) own3 started (by kernel_rfl) Tryd.func3
    (ChangeSpec.witness_shaped (enc := enc) (C := Tryd.checked) (os := os) (X := fun w _ => laidMetH Tryd.prog Rows.fnQueriesAppendReadsAsAnnounceRow.laid w) false (World.doorLaid Tryd.prog 24 os) #[.int .i64 0, .int .i64 0, .slice none 0 0, .slice none 0 0, .int .i64 0] 8 rfl (World.shaped_of_RefB (by kernel_rfl) (by kernel_rfl)) (by kernel_rfl) (by kernel_rfl) (by kernel_rfl) (door_met3 os _)) ?_
  intro W base args ds gs before hval0 hW _ _ hL _
  have hval : ∀ (j : Nat) t v, Tryd.f3.params[j]? = some t → args[j]? = some v → Value.okWide Tryd.prog W .any base t v := hval0
  have hW' := hW
  obtain ⟨p, q, hA0, hV, rfl, hfz, hnd⟩ := hW
  have hA : DataW.TrodAll enc Tryd.prog W 0 (fun _ => true) true Tryd.f3.params.toList args.toList ds p := hA0
  rw [Tryd.params3] at hA hval
  obtain ⟨v0, vs0, d0, ds0, p0, q0, hargs, rfl, rfl, h0, r0⟩ := trodAll_cons hA
  obtain ⟨v1, vs1, d1, ds1, p1, q1, rfl, rfl, rfl, h1, r1⟩ := trodAll_cons r0
  obtain ⟨v2, vs2, d2, ds2, p2, q2, rfl, rfl, rfl, h2, r2⟩ := trodAll_cons r1
  obtain ⟨v3, vs3, d3, ds3, p3, q3, rfl, rfl, rfl, h3, r3⟩ := trodAll_cons r2
  obtain ⟨v4, vs4, d4, ds4, p4, q4, rfl, rfl, rfl, h4, r4⟩ := trodAll_cons r3
  obtain ⟨rfl, rfl, rfl⟩ := trodAll_nil r4
  obtain rfl : args = #[v0, v1, v2, v3, v4] := by cases args; simp_all
  obtain ⟨rfl, rfl⟩ := trodVars_none hV
  obtain ⟨a0, rfl, rfl, rfl, w0⟩ := open_int Tryd.underlying3 (hval 0 3 v0 rfl rfl) h0
  obtain ⟨a1, rfl, rfl, rfl, w1⟩ := open_int Tryd.underlying3 (hval 1 3 v1 rfl rfl) h1
  obtain ⟨a2, len2, cap2, rfl⟩ := okWide_slice Tryd.underlying22 (hval 2 22 v2 rfl rfl)
  have k2 := h2
  have lt2 : ∀ x ∈ p2, x.block < W.heap.size := by obtain ⟨m, hm⟩ := k2; exact DataW.trod_lt m _ _ _ hm
  obtain ⟨ss, w2, l2, m2, z2⟩ : ∃ ss : List ByteArray, HasS W a2 ss ∧ ss.length = len2 ∧ len2 ≤ maxLen ∧ ∀ j, j < len2 → (ss.getD j ByteArray.empty).size ≤ maxLen := by
    obtain ⟨fuel, hf⟩ := h2
    rcases open_strings Tryd.underlying22 Tryd.underlying9 (by kernel_rfl) hf with ⟨hcs, _⟩ | ⟨x, l, c, ss, hcs, _, hl, hm, hz, _, hcell, hwz⟩
    · simp [Value.cells] at hcs
      obtain ⟨rfl, rfl, rfl⟩ := hcs
      exact ⟨[], fun h => absurd h (by simp), rfl, Nat.zero_le _, fun j hj => absurd hj (by omega)⟩
    · simp [Value.cells] at hcs
      obtain ⟨rfl, rfl, rfl⟩ := hcs
      have hz' : ss.length = cap2 := by simpa using hz
      refine ⟨ss.take len2, hasS_of3 (by omega) hcell, by rw [List.length_take]; omega, by omega, fun j hj => ?_⟩
      rw [List.getD_eq_getElem?_getD, List.getElem?_take_of_lt hj, List.getElem?_eq_getElem (by omega)]
      exact hwz _ (List.getElem_mem _)
  obtain ⟨a3, len3, cap3, rfl⟩ := okWide_slice Tryd.underlying23 (hval 3 23 v3 rfl rfl)
  have k3 := h3
  have lt3 : ∀ x ∈ p3, x.block < W.heap.size := by obtain ⟨m, hm⟩ := k3; exact DataW.trod_lt m _ _ _ hm
  obtain ⟨lb, w3, l3, m3, n3⟩ : ∃ lb : List UInt8, HasB W a3 lb ∧ lb.length = len3 ∧ len3 ≤ maxLen ∧ (a3 = none → len3 = 0 ∧ cap3 = 0) := by
    obtain ⟨fuel, hf⟩ := h3
    rcases open_ints Tryd.underlying23 Tryd.underlying5 (by kernel_rfl) hf with ⟨hcs, _⟩ | ⟨x, l, c, zs, hcs, _, hl, hm, hz, _, hcell, hwz⟩
    · simp [Value.cells] at hcs
      obtain ⟨rfl, rfl, rfl⟩ := hcs
      exact ⟨[], fun h => absurd h (by simp), rfl, Nat.zero_le _, fun _ => ⟨rfl, rfl⟩⟩
    · simp [Value.cells] at hcs
      obtain ⟨rfl, rfl, rfl⟩ := hcs
      have hz' : zs.length = cap3 := by simpa using hz
      obtain ⟨lb, hlb, hB⟩ := hasB_of3 (W := W) (a := x) (zs := zs) (len := len3) (by omega) hcell hwz
      exact ⟨lb, hB, hlb, by omega, fun h => by cases h⟩
  obtain ⟨a4, rfl, rfl, rfl, w4⟩ := open_int Tryd.underlying3 (hval 4 3 v4 rfl rfl) h4
  have b4 := bounds_i64 w4
  have htab := tab_of_laid3 hL
  clear hA0 hval0
  refine (law3_any a2 a3 len2 cap2 len3 cap3 ss lb a0 a1 a4 W l2 m2 w2 z2 m3 l3 w3 n3 b4.2 htab).mono fun e W' ⟨he, bel⟩ => ?_
  subst he
  exact ⟨_, rfl, _, _, _, [], _, [], hW', trodAll_mk1 (shut_bool Tryd.underlying4 _), (trodAll_cons_mk (shut_int Tryd.underlying3 w0) (trodAll_cons_mk (shut_int Tryd.underlying3 w1) (trodAll_cons_mk (Below.trod laidOut3 (by kernel_rfl) (of_decide_eq_true (by kernel_rfl)) k2 bel lt2) (trodAll_cons_mk (Below.trod laidOut3 (by kernel_rfl) (of_decide_eq_true (by kernel_rfl)) k3 bel lt3) (trodAll_cons_mk (shut_int Tryd.underlying3 w4) trodAll_mk0))))), rfl, bel.frame _, fun h => by cases h⟩

theorem row3 : Rows.FnQueriesAppendReadsAsAnnounceSaid :=
  OpenClaim.holds_of_wide 3 Tryd.f3 rfl rfl rfl rfl rfl rfl rfl ⟨rfl, rfl, rfl, rfl, rfl⟩ rfl rfl rfl rfl rfl (by kernel_rfl) Tryd.func3 (by kernel_rfl)
    (of_decide_eq_true (by kernel_rfl)) (by unfold Func.isWrapper; first | (rw [if_pos (by decide +kernel)]; kernel_rfl) | (rw [if_neg (by decide +kernel)]; exact ⟨rfl, rfl⟩))
    (fun os started H enc _ => lifted3 os started H enc)

theorem fname3 : Tryd.prog.funcNamed Rows.fnQueriesAppendReadsAsAnnounceRow.func = some 3 := by kernel_rfl

theorem reads_card : Rows.FnQueriesAppendReadsAsAnnounceCardSaid :=
  Claim7.holds_tied_plain_at .later [] [.data, .data, .data] true Rows.fnQueriesAppendReadsAsAnnounceCard.stood.harness false
    row3 (fun _ h => by cases h) (by kernel_rfl) (fun _ h => by cases h) fnQueriesAppendReadsAsAnnounce_row_tie rfl ⟨rfl, rfl⟩ (by kernel_rfl) rfl
    (fun f fn hf hfn => by
      obtain rfl : f = 3 := Option.some.inj (fname3.symm.trans hf) |>.symm
      obtain rfl : fn = Tryd.f3 := (Option.some.inj (Tryd.func3.symm.trans hfn)).symm
      exact ⟨by kernel_rfl, fun j t ht => by
        rw [Tryd.params3] at ht
        have h3 : t = 3 ∨ t = 22 ∨ t = 23 := by
          rcases j with _ | _ | _ | _ | _ | j
          · exact .inl (by simpa using ht.symm)
          · exact .inl (by simpa using ht.symm)
          · exact .inr (.inl (by simpa using ht.symm))
          · exact .inr (.inr (by simpa using ht.symm))
          · exact .inl (by simpa using ht.symm)
          · simp at ht
        rcases h3 with rfl | rfl | rfl
        · exact (show Tryd.prog.wantsStandIn 3 = false by kernel_rfl)
        · exact (show Tryd.prog.wantsStandIn 22 = false by kernel_rfl)
        · exact (show Tryd.prog.wantsStandIn 23 = false by kernel_rfl)⟩)
    (by kernel_rfl)
end Go.Proofs.Qxb6003635aDoor
