import Derived.Test.Qxb6003681aZ1
namespace Go.Proofs.Qxb6003681a
open Go.RowKit
set_option linter.unusedVariables false

theorem below_next {w w1 w2 : World} (h1 : Below w.heap.size w w1) (h2 : Below w1.heap.size w1 w2) : Below w.heap.size w w2 := h1.trans (h2.mono h1.size)

theorem below_alloc (w : World) (o : Obj) : Below w.heap.size w (w.alloc o) := (Below.refl _ _).alloc (Nat.le_refl _) _

theorem splice_all (ns : List Int) (m : Nat) (h : ns.length = m) : (splice (ic (List.replicate m 0)).toList 0 (ic ns).toList).toArray = ic ns := by
  subst h
  apply Array.ext'
  simp [splice, ic]

theorem ic_src {w : World} {x : Addr} {l : List Int} (h : HasI w (some x) l) : ∀ (j : Nat) (v : Value), (ic l)[j]? = some v → w.cell? (x.add j) = some v := by
  intro j v hv
  have hj : j < l.length := by
    have := (Array.getElem?_eq_some_iff.1 hv).1
    simpa [ic] using this
  obtain ⟨g, o, e, hc⟩ := h (by omega)
  cases e
  rw [add_plain, hc j hj, ← hv, ic_at l j hj]

theorem ic_one (l : List Int) : ∀ v ∈ ic l, v.oneCell' = true := by
  intro v hv
  simp only [ic, List.mem_toArray, List.mem_map] at hv
  obtain ⟨z, _, rfl⟩ := hv
  rfl

def Sizes (gs m : Nat) (ns : List Int) (w : World) (a : Option Addr) : Prop := m = 0 ∨ (a = some ⟨gs, 0, none⟩ ∧ w.heap[gs]? = some (.cells (ic ns) 3 (0, 0)))

theorem Buf.below {B gs : Nat} {w w' : World} {a : Option Addr} {n c : Nat} {cur : List Int} (h : Buf B gs w a n c cur) (hb : Below w.heap.size w w') : Buf B gs w' a n c cur := by
  rcases h with h | ⟨g, e1, e2, e3, e4, e5⟩
  · exact .inl h
  · exact .inr ⟨g, e1, e2, e3, by rw [hb.block g (Array.getElem?_eq_some_iff.1 e4).1]; exact e4, e5⟩

set_option maxRecDepth 20000 in
set_option maxHeartbeats 4000000 in
theorem law6_any (a : Option Addr) (n c : Nat) (l : List Int) (b : Option Addr) (m d : Nat) (ns : List Int) (p : Int) (w : World)
    (hn : l.length = n) (hnm : n ≤ maxLen) (hl : HasI w a l) (hnil : a = none → n = 0 ∧ c = 0)
    (hm : ns.length = m) (hmm : m ≤ maxLen) (hns : HasI w b ns) (hnilb : b = none → m = 0 ∧ d = 0) :
    Calls Try.prog 6 #[.slice a n c, .slice b m d, .int .i64 p] w fun e w' => e = .returned (.bool true) ∧ Below w.heap.size w w' := by
  have hB := bytes18_any a b n c m d p w hnm hmm
  by_cases hbig : n + m ≤ 1048576
  · have hd0 : decide (n + m ≤ 1048576) = true := by simpa using hbig
    rw [hd0] at hB
    clear hd0 hnm hmm
    by_cases h1 : n ≤ 65536
    · by_cases h2 : m ≤ 64
      · have HL : Hid (l.length = n ∧ HasI w a l ∧ (a = none → n = 0 ∧ c = 0)) := ⟨hn, hl, hnil⟩
        have HM : Hid (ns.length = m ∧ HasI w b ns ∧ (b = none → m = 0 ∧ d = 0)) := ⟨hm, hns, hnilb⟩
        clear hn hl hnil hm hns hnilb hbig
        go_enter Try.func6, Try.ntmps6
        go_wp2_with (go_at_call 18; refine hB.mono ?_; rintro e w1 ⟨rfl, hw⟩; obtain rfl := hw.symm)
        clear hB
        go_loopw [7] (fun iv wr => ∃ k : Nat, iv = .int .i64 k ∧ k ≤ m ∧ wr = w ∧ ∀ j, j < k → 0 ≤ ns.getD j 0 ∧ ns.getD j 0 ≤ 4096) (fun iv _ => m - (intOf iv).toNat)
        case atStart => exact ⟨0, rfl, Nat.zero_le _, rfl, fun j hj => by omega⟩
        case round =>
          obtain ⟨k, rfl, hk, hwr, hr⟩ := hrel
          obtain rfl := hwr.symm
          have HR : Hid (∀ j, j < k → 0 ≤ ns.getD j 0 ∧ ns.getD j 0 ≤ 4096) := hr
          clear hr
          by_cases hlt : k < m
          · obtain ⟨g, o, e, hc⟩ := HM.out.2.1 (by rw [HM.out.1]; omega)
            cases e
            have hck := hc k (by rw [HM.out.1]; omega)
            obtain ⟨z, hz⟩ : ∃ z, z = ns.getD k 0 := ⟨_, rfl⟩
            have HZ : Hid (z = ns.getD k 0) := hz
            rw [← hz] at hck
            clear hz hc
            by_cases z0 : 0 ≤ z
            · by_cases z1 : z ≤ 4096
              · go_wp2
                refine ⟨⟨k + 1, by go_num, by omega, trivial, fun j hj => ?_⟩, by simp [intOf]; omega⟩
                by_cases hj2 : j < k
                · exact HR.out j hj2
                · obtain rfl : j = k := by omega
                  rw [← HZ.out]; exact ⟨z0, z1⟩
              · go_wp2
                go_ret
                exact ⟨rfl, Below.refl _ _⟩
            · go_wp2
              go_ret
              exact ⟨rfl, Below.refl _ _⟩
          · obtain rfl : m = k := by omega
            have hmk := run_make_row' (P := Try.prog) 23 3 (.int .i64 0) 8 Try.underlying23 infoInt rfl .i64 .i64 n (by omega) (by omega)
            have hmk2 := run_make_row' (P := Try.prog) 23 3 (.int .i64 0) 8 Try.underlying23 infoInt rfl .i64 .i64 m (by omega) (by omega)
            rw [made_zeros] at hmk hmk2
            go_upto_if 54 with fail
            go_cut [8] from 55 to 60 (fun v wc => ∃ a' c' cur, v = .slice a' n c' ∧ Hid (Buf w.heap.size wc.heap.size wc a' n c' cur) ∧ Below w.heap.size w wc)
            case first =>
              cases a with
              | none =>
                go_wp2
                go_meet
                case rel =>
                  obtain ⟨e1, _⟩ := HL.out.2.2 (by trivial)
                  exact ⟨none, 0, [], by rw [e1], .inl ⟨rfl, e1, rfl⟩, Below.refl _ _⟩
              | some x =>
                have hb1 := below_alloc w (.cells (ic (List.replicate n 0)) 3)
                have hcur : (w.alloc (.cells (ic (List.replicate n 0)) 3)).heap[w.heap.size]? = some (.cells (ic (List.replicate n 0)).toList.toArray 3 (0, 0)) := by rw [heap_alloc_new]
                have HLn : Hid ((ic l).toList.length = n) := by show _ = _; simp [ic, HL.out.1]
                go_upto_region 15 with fail

                go_wp2_with (refine wpList_copy_splice rfl _ _ 23 23 rfl 3 Try.underlying23 (by kernel_rfl) _ _ _ _ _ _ rfl rfl w.heap.size 0 _ 3 hcur (ic l).toList ?c1 ?c2 ?c3 ?c4 w.heap.size w hb1 (Nat.le_refl _) ?_)
                case c1 => simp [ic_size, HL.out.1]
                case c2 => exact fun hp => ic_src (HL.out.2.1.below hb1)
                case c3 => simp [ic_size, HL.out.1]
                case c4 => exact ic_one l
                intro w2 HG hb2
                go_wp2
                go_meet
                case rel =>
                  have hG := HG.out
                  rw [splice_all l n HL.out.1] at hG
                  exact ⟨_, n, l, rfl, .inr ⟨w.heap.size, rfl, Nat.le_refl _, Nat.ne_of_lt (Array.getElem?_eq_some_iff.1 hG).1, hG, HL.out.1, Nat.le_refl _, h1⟩, hb2⟩
            case rest =>
              obtain ⟨a', c', cur, rfl, HBUF, hbc⟩ := hcut
              clear hmk HL
              obtain ⟨gs, hgs⟩ : ∃ gs, gs = wc.heap.size := ⟨_, rfl⟩
              rw [← hgs] at HBUF
              have HGS : Hid (gs = wc.heap.size) := hgs
              clear hgs
              go_upto_if 62 with fail
              go_cut [9] from 63 to 68 (fun v wd => ∃ b' d' , v = .slice b' m d' ∧ Hid (Sizes gs m ns wd b') ∧ Hid (Buf w.heap.size gs wd a' n c' cur) ∧ Below w.heap.size w wd)
              case first =>
                cases b with
                | none =>
                  go_wp2
                  go_meet
                  case rel =>
                    obtain ⟨e1, _⟩ := HM.out.2.2 (by trivial)
                    exact ⟨none, 0, by rw [e1], .inl e1, HBUF, hbc⟩
                | some x =>
                  have hb1 := below_alloc wc (.cells (ic (List.replicate m 0)) 3)
                  have hcur : (wc.alloc (.cells (ic (List.replicate m 0)) 3)).heap[wc.heap.size]? = some (.cells (ic (List.replicate m 0)).toList.toArray 3 (0, 0)) := by rw [heap_alloc_new]
                  go_upto_region 19 with fail
                  go_wp2_with (refine wpList_copy_splice rfl _ _ 23 23 rfl 3 Try.underlying23 (by kernel_rfl) _ _ _ _ _ _ rfl rfl wc.heap.size 0 _ 3 hcur (ic ns).toList ?c1 ?c2 ?c3 ?c4 wc.heap.size wc hb1 (Nat.le_refl _) ?_)
                  case c1 => simp [ic_size, HM.out.1]
                  case c2 => exact fun hp => ic_src (HM.out.2.1.below (below_next hbc hb1))
                  case c3 => simp [ic_size, HM.out.1]
                  case c4 => exact ic_one ns
                  intro w2 HG hb2
                  go_wp2
                  go_meet
                  case rel =>
                    have hG := HG.out
                    rw [splice_all ns m HM.out.1] at hG
                    exact ⟨_, m, rfl, .inr ⟨by rw [HGS.out], by rw [HGS.out]; exact hG⟩, HBUF.out.below hb2, below_next hbc hb2⟩
              case rest =>
                obtain ⟨b', d', rfl, HS, HB2, hbd⟩ := hcut
                clear hmk2 HBUF HGS
                go_wp2_with fail
                go_loopw [8, 10] (fun bv kv wr => ∃ a' n' c' cur' k, bv = .slice a' n' c' ∧ kv = .int .i64 ((k : Nat) : Int) ∧ k ≤ m ∧ Hid (Buf w.heap.size gs wr a' n' c' cur') ∧ Hid (Sizes gs m ns wr b') ∧ Below w.heap.size w wr) (fun _ kv _ => m - (intOf kv).toNat)
                case atStart => exact ⟨a', n, c', cur, 0, rfl, rfl, Nat.zero_le _, HB2, HS, hbd⟩
                case round =>
                  clear HB2 HS hbd
                  obtain ⟨a', n', c', cur, k, rfl, rfl, hk, HB, HS, hbr⟩ := hrel
                  by_cases hlt : k < m
                  · obtain ⟨rfl, hsz⟩ : b' = some ⟨gs, 0, none⟩ ∧ wr.heap[gs]? = some (.cells (ic ns) 3 (0, 0)) := by
                      rcases HS.out with h | h
                      · omega
                      · exact h
                    have hck := cell_ic (k := k) hsz (by rw [HM.out.1]; exact hlt)
                    have hzr := HR.out k hlt
                    obtain ⟨M, hM⟩ := Int.eq_ofNat_of_zero_le hzr.1
                    rw [hM] at hck
                    have M1 : M ≤ 4096 := by omega
                    have hgs : gs < wr.heap.size := (Array.getElem?_eq_some_iff.1 hsz).1
                    have hZ := zzeroed_any w.heap.size gs a' n' c' M cur wr hbr.size hgs M1 HB.out
                    have HSZ : Hid (wr.heap[gs]? = some (.cells (ic ns) 3 (0, 0))) := hsz
                    clear hsz hzr hM hgs
                    go_wp2_with (go_at_call 19; refine hZ.mono ?_; rintro e w3 ⟨a3, c3, cur3, rfl, hbuf3, hz3, hs3, hb3⟩)
                    have HB3 : Hid (Buf w.heap.size gs w3 a3 M c3 cur3) := hbuf3
                    have HZ3 : Hid (∀ j, j < M → cur3.getD j 0 = 0) := hz3
                    have HS3 : Hid (w3.heap[gs]? = some (.cells (ic ns) 3 (0, 0))) := by show _ = _; rw [hs3]; exact HSZ.out
                    have hbw3 := hbr.trans hb3
                    clear hbuf3 hz3 hs3 hb3 hZ HB HS HSZ hck hbr
                    go_loopw [12] (fun iv wv => ∃ i : Nat, iv = .int .i64 i ∧ i ≤ M ∧ wv = w3) (fun iv _ => M - (intOf iv).toNat)
                    case atStart => exact ⟨0, rfl, Nat.zero_le _, rfl⟩
                    case round =>
                      obtain ⟨i, rfl, hi, hwv⟩ := hrel
                      obtain rfl := hwv
                      by_cases hiM : i < M
                      · obtain ⟨g, rfl, q1, q2, q3, q4, q5, q6⟩ : ∃ g, a3 = some ⟨g, 0, none⟩ ∧ w.heap.size ≤ g ∧ g ≠ gs ∧ _ := by
                          rcases HB3.out with ⟨_, h, _⟩ | h
                          · omega
                          · exact h
                        have hci := cell_ic (k := i) q3 (by omega)
                        rw [HZ3.out i hiM] at hci
                        clear q1 q2 q3 q4 q5 q6
                        go_wp2
                        exact ⟨⟨i + 1, by go_num, by omega, trivial⟩, by simp [intOf]; omega⟩
                      · obtain rfl : M = i := by omega
                        go_wp2_with fail
                        go_loopw [13] (fun iv wv => ∃ (i : Nat) (cur4 : List Int), iv = .int .i64 i ∧ i ≤ M ∧ Hid (Buf w.heap.size gs wv a3 M c3 cur4) ∧ Hid (wv.heap[gs]? = some (.cells (ic ns) 3 (0, 0))) ∧ Below w.heap.size w wv) (fun iv _ => M - (intOf iv).toNat)
                        case atStart => exact ⟨0, cur3, rfl, Nat.zero_le _, HB3, HS3, hbw3⟩
                        case round =>
                          clear HB3 HZ3 HS3 hbw3
                          obtain ⟨i, cur4, rfl, hi2, HB4, HS4, hb4⟩ := hrel
                          by_cases hi3 : i < M
                          · obtain ⟨g, rfl, q1, q2, q3, q4, q5, q6⟩ : ∃ g, a3 = some ⟨g, 0, none⟩ ∧ w.heap.size ≤ g ∧ g ≠ gs ∧ _ := by
                              rcases HB4.out with ⟨_, h, _⟩ | h
                              · omega
                              · exact h
                            have hci := cell_ic (k := i) q3 (by omega)
                            have hfz := frozen_of_row _ g i _ _ q3
                            have HQ : Hid (_ ∧ _ ∧ _ ∧ _ ∧ _ ∧ _) := ⟨q1, q2, q3, q4, q5, q6⟩
                            clear q1 q2 q3 q4 q5 q6
                            generalize cur4.getD i 0 = y at hci
                            go_wp2
                            obtain ⟨q1, q2, q3, q4, q5, q6⟩ := HQ.out
                            refine ⟨⟨i + 1, cur4.set i _, by go_num, by omega, .inr ⟨g, rfl, q1, q2, (ic_set q3 rfl).out, by rw [List.length_set]; exact q4, q5, q6⟩, ?_, hb4.setCell q1 _⟩, by simp [intOf]; omega⟩
                            show _ = _
                            rw [heap_setCell_other]
                            · exact HS4.out
                            · exact fun e => q2 e.symm
                          · obtain rfl : M = i := by omega
                            go_wp2
                            exact ⟨⟨a3, M, c3, cur4, k + 1, rfl, by go_num, by omega, HB4, .inr ⟨rfl, HS4.out⟩, hb4⟩, by simp [intOf]; omega⟩
                  · obtain rfl : m = k := by omega
                    go_wp2
                    go_ret
                    exact ⟨rfl, hbr⟩
      · clear hn hl hnil hm hns hnilb
        go_enter Try.func6, Try.ntmps6
        go_wp2_with (go_at_call 18; refine hB.mono ?_; rintro e w1 ⟨rfl, hw⟩; obtain rfl := hw.symm)
        go_ret
        exact ⟨rfl, Below.refl _ _⟩
    · clear hn hl hnil hm hns hnilb
      go_enter Try.func6, Try.ntmps6
      go_wp2_with (go_at_call 18; refine hB.mono ?_; rintro e w1 ⟨rfl, hw⟩; obtain rfl := hw.symm)
      go_ret
      exact ⟨rfl, Below.refl _ _⟩
  · have hd0 : decide (n + m ≤ 1048576) = false := by simpa using hbig
    rw [hd0] at hB
    clear hd0 hn hnm hl hnil hm hmm hns hnilb
    go_enter Try.func6, Try.ntmps6
    go_wp2_with (go_at_call 18; refine hB.mono ?_; rintro e w1 ⟨rfl, hw⟩; obtain rfl := hw.symm)
    go_ret
    exact ⟨rfl, Below.refl _ _⟩
end Go.Proofs.Qxb6003681a
