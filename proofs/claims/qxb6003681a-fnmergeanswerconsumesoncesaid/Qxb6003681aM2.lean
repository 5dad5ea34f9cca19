import Derived.Test.Qxb6003681aM1
namespace Go.Proofs.Qxb6003681a
open Go.RowKit
set_option linter.unusedVariables false

/-- A view that cyclon keeps. -/
def WF (l : List Int) (v c : Int) : Prop := (l.length : Int) ≤ c ∧ l.contains v = false ∧ l.Nodup

instance (l : List Int) (v c : Int) : Decidable (WF l v c) := by unfold WF; infer_instance

theorem HasI.drewN {w : World} {a : Option Addr} {l : List Int} (h : HasI w a l) (q : Nat) : HasI (w.drewN q) a l := h

set_option maxRecDepth 20000 in
set_option maxHeartbeats 1000000 in
theorem wf_any (a : Option Addr) (n cp : Nat) (l : List Int) (v c : Int) (w : World) (hn : l.length = n) (hm : n ≤ 1048576) (hl : HasI w a l) :
    Calls Try.prog 8 #[.slice a n cp, .int .i64 v, .int .i64 c] w fun e w' => e = .returned (.bool (decide (WF l v c))) ∧ ∃ q, w' = w.drewN q := by
  have hC := contains_any a n cp l v w hn hm hl
  have hD := distinct_any a n cp l w hn hm hl
  have HN : Hid (l.length = n) := hn
  clear hn hl
  obtain ⟨res, hres⟩ : ∃ res, res = decide (WF l v c) := ⟨_, rfl⟩
  rw [← hres]
  have HRES : Hid (res = decide (WF l v c)) := hres
  clear hres
  by_cases h1 : (n : Int) ≤ c
  · obtain ⟨p, hp⟩ : ∃ p, p = l.contains v := ⟨_, rfl⟩
    have HP : Hid (p = l.contains v) := hp
    rw [← hp] at hC
    clear hp
    obtain ⟨d, hd⟩ : ∃ d, d = decide l.Nodup := ⟨_, rfl⟩
    have HD : Hid (d = decide l.Nodup) := hd
    rw [← hd] at hD
    clear hd
    cases p with
    | true =>
      go_enter Try.func8, Try.ntmps8
      go_wp2_with (go_at_call 20; refine hC.mono ?_; rintro e w1 ⟨rfl, hw⟩; obtain rfl := hw.symm)
      go_ret
      refine ⟨?_, 0, rfl⟩
      have e : res = false := by rw [HRES.out]; exact decide_eq_false (fun h : WF l v c => by have := h.2.1; rw [← HP.out] at this; cases this)
      rw [e]
      rfl
    | false =>
      go_enter Try.func8, Try.ntmps8
      go_wp2_with (first | (go_at_call 20; refine hC.mono ?_; rintro e w1 ⟨rfl, hw⟩; obtain rfl := hw.symm) | (go_at_call 9; refine hD.mono ?_; rintro e w2 ⟨rfl, q, hw2⟩))
      go_ret
      refine ⟨?_, q, rfl⟩
      have : d = res := by
        rw [HRES.out, HD.out]
        have : l.Nodup ↔ WF l v c := ⟨fun h => ⟨by rw [HN.out]; exact h1, HP.out.symm, h⟩, fun h => h.2.2⟩
        exact decide_eq_decide.2 this
      rw [← this]
      rfl
  · go_enter Try.func8, Try.ntmps8
    go_wp2
    go_ret
    refine ⟨?_, 0, rfl⟩
    have e : res = false := by rw [HRES.out]; exact decide_eq_false (fun h : WF l v c => by have := h.1; rw [HN.out] at this; omega)
    rw [e]
    rfl

/-- (x, y) stands among the pairs. -/
def Ent (ns ag : List Int) (x y : Int) : Prop := ∃ j, j < ns.length ∧ j < ag.length ∧ ns.getD j 0 = x ∧ ag.getD j 0 = y

set_option maxRecDepth 20000 in
set_option maxHeartbeats 1000000 in
theorem isEntry_any (a b : Option Addr) (n c m d : Nat) (l s : List Int) (x y : Int) (w : World) (hn : l.length = n) (hs : s.length = n) (hm : n ≤ 1048576) (hl : HasI w a l) (hsl : HasI w b s) (he : Ent l s x y) :
    Calls Try.prog 24 #[.slice a n c, .slice b n d, .int .i64 x, .int .i64 y] w fun e w' => e = .returned (.bool true) ∧ w' = w := by
  have HL : Hid (l.length = n ∧ HasI w a l) := ⟨hn, hl⟩
  have HS : Hid (s.length = n ∧ HasI w b s) := ⟨hs, hsl⟩
  have HE : Hid (Ent l s x y) := he
  clear hn hl hs hsl he
  go_enter Try.func24, Try.ntmps24
  go_wp2_with fail
  go_loopw [9] (fun iv wr => ∃ k : Nat, iv = .int .i64 k ∧ k ≤ n ∧ wr = w ∧ Hid (∀ j, j < k → ¬ (l.getD j 0 = x ∧ s.getD j 0 = y))) (fun iv _ => n - (intOf iv).toNat)
  case atStart => exact ⟨0, rfl, Nat.zero_le _, rfl, fun j hj => by omega⟩
  case round =>
    obtain ⟨k, rfl, hk, hwr, HR⟩ := hrel
    obtain rfl := hwr.symm
    by_cases hlt : k < n
    · obtain ⟨g, o, e, hc⟩ := HL.out.2 (by rw [HL.out.1]; omega)
      cases e
      obtain ⟨g2, o2, e, hc2⟩ := HS.out.2 (by rw [HS.out.1]; omega)
      cases e
      have hck := hc k (by rw [HL.out.1]; omega)
      have hck2 := hc2 k (by rw [HS.out.1]; omega)
      obtain ⟨z, hz⟩ : ∃ z, z = l.getD k 0 := ⟨_, rfl⟩
      have HZ : Hid (z = l.getD k 0) := hz
      rw [← hz] at hck
      obtain ⟨z2, hz2⟩ : ∃ z, z = s.getD k 0 := ⟨_, rfl⟩
      have HZ2 : Hid (z2 = s.getD k 0) := hz2
      rw [← hz2] at hck2
      clear hz hc hz2 hc2
      by_cases hzx : z = x
      · by_cases hzy : z2 = y
        · subst hzx hzy
          go_wp2
          go_ret
          exact ⟨rfl, rfl⟩
        · subst hzx
          go_wp2
          refine ⟨⟨k + 1, by go_num, by omega, trivial, ?_⟩, by simp [intOf]; omega⟩
          show ∀ j, _
          intro j hj
          by_cases hj2 : j < k
          · exact HR.out j hj2
          · obtain rfl : j = k := by omega
            rw [← HZ.out, ← HZ2.out]; exact fun h => hzy h.2
      · go_wp2
        refine ⟨⟨k + 1, by go_num, by omega, trivial, ?_⟩, by simp [intOf]; omega⟩
        show ∀ j, _
        intro j hj
        by_cases hj2 : j < k
        · exact HR.out j hj2
        · obtain rfl : j = k := by omega
          rw [← HZ.out, ← HZ2.out]; exact fun h => hzx h.1
    · exfalso
      obtain ⟨j, h1, h2, h3, h4⟩ := HE.out
      exact HR.out j (by rw [HL.out.1] at h1; omega) ⟨h3, h4⟩
end Go.Proofs.Qxb6003681a
