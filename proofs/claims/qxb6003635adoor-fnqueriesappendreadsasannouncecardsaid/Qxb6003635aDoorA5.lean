import Derived.Test.Qxb6003635aDoorA4
namespace Go.Proofs.Qxb6003635aDoor
open Go.RowKit
set_option linter.unusedVariables false

/-- A slice of bytes (nil, or at an address) that holds l. -/
def HasB (w : World) (ao : Option Addr) (l : List UInt8) : Prop := 0 < l.length → ∃ g o, ao = some ⟨g, o, none⟩ ∧ RowB w g o l

theorem HasB.at {w : World} {ao : Option Addr} {l : List UInt8} (h : HasB w ao l) {k : Nat} (hk : k < l.length) :
    ∃ g o, ao = some ⟨g, o, none⟩ ∧ w.cell? ⟨g, o + k, none⟩ = some (.int .u8 ((l.getD k 0).toNat : Int)) := by
  obtain ⟨g, o, e, h⟩ := h (by omega)
  exact ⟨g, o, e, h k hk⟩

set_option maxHeartbeats 1000000 in
theorem prefix_any (ao aa ab : Option Addr) (n na nb co ca cb : Nat) (la lb : List UInt8) (w : World) (hn : n = na + nb) (hna : la.length = na) (hnb : lb.length = nb) (hb : n ≤ 100000000)
    (ho : HasB w ao (la ++ lb)) (ha : HasB w aa la) (hbb : HasB w ab lb) :
    Calls Tryd.prog 10 #[.slice ao n co, .slice aa na ca, .slice ab nb cb] w fun e w' => e = .returned (.bool true) ∧ ∃ m, w' = w.drewN m := by
  have hnn : ((n : Int) != (na : Int) + (nb : Int)) = false := by rw [hn]; simp
  have HA : Hid (la.length = na) := hna
  have HB : Hid (lb.length = nb) := hnb
  have HN : Hid (n = na + nb) := hn
  have i1 : na ≤ 100000000 := by omega
  have i2 : nb ≤ 100000000 := by omega
  clear hna hnb hn
  go_enter Tryd.func10, Tryd.ntmps10
  go_wp2
  go_loopw [7] (fun i wr => ∃ k m : Nat, k ≤ na ∧ i = .int .i64 k ∧ wr = w.drewN m) (fun i _ => na - (intOf i).toNat)
  case atStart => exact ⟨0, 0, Nat.zero_le _, rfl, rfl⟩
  case round =>
    obtain ⟨k, m, hk, rfl, rfl⟩ := hrel
    by_cases hlt : k < na
    · obtain ⟨g1, o1, e1, c1⟩ := ho.at (k := k) (by rw [List.length_append]; have := HA.out; omega)
      obtain ⟨g2, o2, e2, c2⟩ := ha.at (k := k) (by have := HA.out; omega)
      have e3 : (la ++ lb).getD k 0 = la.getD k 0 := by simp only [List.getD_eq_getElem?_getD]; rw [List.getElem?_append_left (by have := HA.out; omega)]
      rw [e3] at c1
      obtain ⟨v, hv⟩ : ∃ v : Int, v = ((la.getD k 0).toNat : Int) := ⟨_, rfl⟩
      rw [← hv] at c1 c2
      have hlt' : k < n := by have := HN.out; omega
      subst e1
      subst e2
      clear hv e3
      go_wp2
      go_quiet (fail)
      go_wp2
      go_roundw
      case rel => exact ⟨k + 1, m + nq, by omega, by go_num, rfl⟩
      case measure => simp [intOf]; omega
    · go_wp2
      go_loopw [8] (fun i wr => ∃ k m : Nat, k ≤ nb ∧ i = .int .i64 k ∧ wr = w.drewN m) (fun i _ => nb - (intOf i).toNat)
      case atStart => exact ⟨0, m, Nat.zero_le _, rfl, rfl⟩
      case round =>
        obtain ⟨k2, m2, hk2, rfl, rfl⟩ := hrel
        by_cases hlt2 : k2 < nb
        · obtain ⟨g1, o1, e1, c1⟩ := ho.at (k := na + k2) (by rw [List.length_append]; have := HA.out; have := HB.out; omega)
          obtain ⟨g2, o2, e2, c2⟩ := hbb.at (k := k2) (by have := HB.out; omega)
          have e3 : (la ++ lb).getD (na + k2) 0 = lb.getD k2 0 := by
            simp only [List.getD_eq_getElem?_getD]; rw [List.getElem?_append_right (by have := HA.out; omega), HA.out]; simp
          rw [e3] at c1
          obtain ⟨v, hv⟩ : ∃ v : Int, v = ((lb.getD k2 0).toNat : Int) := ⟨_, rfl⟩
          rw [← hv] at c1 c2
          obtain ⟨x, hx⟩ : ∃ x : Nat, x = na + k2 := ⟨_, rfl⟩
          rw [← hx] at c1
          have hx' : (na : Int) + (k2 : Int) = (x : Int) := by omega
          have hxn : x < n := by have := HN.out; omega
          have hxw : IntKind.i64.wrap (x : Int) = (x : Int) := by rw [IntKind.wrap_i64]; omega
          subst e1
          subst e2
          clear hv e3 hx
          go_wp2
          go_quiet (fail)
          go_wp2
          go_roundw
          case rel => exact ⟨k2 + 1, m2 + nq, by omega, by go_num, rfl⟩
          case measure => simp [intOf]; omega
        · go_wp2
          go_ret
          exact ⟨rfl, _, rfl⟩
end Go.Proofs.Qxb6003635aDoor
