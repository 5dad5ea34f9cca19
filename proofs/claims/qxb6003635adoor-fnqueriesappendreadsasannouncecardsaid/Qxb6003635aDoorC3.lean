import Derived.Test.Qxb6003635aDoorC2
namespace Go.Proofs.Qxb6003635aDoor
open Go.RowKit Go.Sort
set_option linter.unusedVariables false

/-- A slice of strings (nil, or at an address) that holds ss. -/
def HasS (w : World) (ao : Option Addr) (ss : List ByteArray) : Prop := 0 < ss.length → ∃ g o, ao = some ⟨g, o, none⟩ ∧ RowS w g o ss

theorem HasS.at {w : World} {ao : Option Addr} {ss : List ByteArray} (h : HasS w ao ss) {k : Nat} (hk : k < ss.length) :
    ∃ g o, ao = some ⟨g, o, none⟩ ∧ w.cell? ⟨g, o + k, none⟩ = some (.string (ss.getD k ByteArray.empty)) := by
  obtain ⟨g, o, e, h⟩ := h (by omega)
  exact ⟨g, o, e, h k hk⟩

/-- The call hands back a bool, nothing turns, and true says p. -/
def Tells (p : Prop) (w : World) (e : Ending) (w' : World) : Prop := ∃ b, e = .returned (.bool b) ∧ w' = w ∧ (b = true → p)
theorem tells_no {p : Prop} {w : World} {e : Ending} (h : e = .returned (.bool false)) : Tells p w e w := ⟨false, h, rfl, fun h => by cases h⟩
theorem tells_yes {p : Prop} {w : World} {e : Ending} (h : e = .returned (.bool true)) (hp : p) : Tells p w e w := ⟨true, h, rfl, fun _ => hp⟩

/-- The first k strings are at most 2^20 bytes long. -/
def Short (ss : List ByteArray) (k : Nat) : Prop := ∀ j, j < k → (ss.getD j ByteArray.empty).size ≤ 1048576

def Bd (ss : List ByteArray) (n : Nat) : Prop := n ≤ 1048576 ∧ Short ss n

theorem Short.succ {ss : List ByteArray} {k : Nat} (h : Short ss k) (h1 : (ss.getD k ByteArray.empty).size ≤ 1048576) : Short ss (k + 1) := fun j hj => by
  rcases Nat.lt_or_ge j k with h2 | h2
  · exact h j h2
  · have : j = k := by omega
    subst this
    exact h1

set_option maxHeartbeats 1000000 in
theorem bytesR_any (ao : Option Addr) (n c : Nat) (ss : List ByteArray) (peers torrents i : Int) (w : World) (hn : ss.length = n) (hnm : n ≤ maxLen) (hs : HasS w ao ss) (hsz : ∀ j, j < n → (ss.getD j ByteArray.empty).size ≤ maxLen) :
    Calls Tryd.prog 12 #[.int .i64 peers, .int .i64 torrents, .slice ao n c, .int .i64 i] w fun e w' => Tells (Bd ss n) w e w' := by
  unfold maxLen at hnm hsz
  by_cases hbig : n ≤ 1048576
  · have HN : Hid (ss.length = n) := hn
    clear hn hnm
    go_enter Tryd.func12, Tryd.ntmps12
    go_wp2
    go_loop [9, 10] (fun zv iv => ∃ (k : Nat) (z : Int), k ≤ n ∧ iv = .int .i64 k ∧ zv = .int .i64 z ∧ 0 ≤ z ∧ z ≤ 1048576 ∧ Short ss k) (fun _ iv => n - (intOf iv).toNat)
    case atStart => exact ⟨0, n, Nat.zero_le _, rfl, rfl, by omega, by omega, fun j hj => by omega⟩
    case round =>
      obtain ⟨k, z, hk, rfl, rfl, hz0, hz1, hsh⟩ := hrel
      by_cases hlt : k < n
      · obtain ⟨g, o, e, hc⟩ := hs.at (k := k) (by rw [HN.out]; exact hlt)
        have hszk := hsz k hlt
        subst e
        obtain ⟨s, hsd⟩ : ∃ s, s = ss.getD k ByteArray.empty := ⟨_, rfl⟩
        rw [← hsd] at hc hszk
        have HSD : Hid (s = ss.getD k ByteArray.empty) := hsd
        have HSZ : Hid (s.size ≤ 2 ^ 63 - 1) := hszk
        have HSZ2 : Hid (∀ j, j < n → (ss.getD j ByteArray.empty).size ≤ 2 ^ 63 - 1) := hsz
        clear hsd hszk hsz
        by_cases hs1 : s.size ≤ 1048576
        · by_cases hs2 : z + s.size ≤ 1048576
          · go_wp2
            go_round
            case rel => exact ⟨k + 1, z + s.size, by omega, by go_num, rfl, by omega, by omega, hsh.succ (by rw [← HSD.out]; exact hs1)⟩
            case measure => simp [intOf]; omega
          · go_wp2
            go_ret
            exact tells_no rfl
        · have hs3 : (1048576 : Int) < (s.size : Int) := by omega
          go_wp2
          go_ret
          exact tells_no rfl
      · have ek : k = n := by omega
        have HEK : Hid (k = n) := ek
        clear ek hsz
        go_wp2
        go_ret
        exact tells_yes rfl ⟨hbig, by rw [← HEK.out]; exact hsh⟩
  · have hbig' : (1048576 : Int) < (n : Int) := by omega
    have HX : Hid (∀ j, j < n → (ss.getD j ByteArray.empty).size ≤ 2 ^ 63 - 1) := hsz
    clear hsz hn
    go_enter Tryd.func12, Tryd.ntmps12
    go_wp2
    go_ret
    exact tells_no rfl

/-- No byte of the first k strings is an ampersand. -/
def NoAmp (ss : List ByteArray) (k : Nat) : Prop := ∀ j, j < k → ∀ x (h : x < (ss.getD j ByteArray.empty).size), (ss.getD j ByteArray.empty)[x] ≠ 38

def Prem (ss : List ByteArray) (n : Nat) (peers torrents i : Int) : Prop := 1 ≤ peers ∧ 1 ≤ torrents ∧ torrents ≤ n ∧ 0 ≤ i ∧ NoAmp ss n

set_option maxHeartbeats 1000000 in
theorem premise_any (ao : Option Addr) (n c : Nat) (ss : List ByteArray) (peers torrents i : Int) (w : World) (hn : ss.length = n) (hb : n ≤ 1048576) (hs : HasS w ao ss) (hsh : Short ss n) :
    Calls Tryd.prog 6 #[.int .i64 peers, .int .i64 torrents, .slice ao n c, .int .i64 i] w fun e w' => Tells (Prem ss n peers torrents i) w e w' := by
  by_cases hp : 1 ≤ peers ∧ 1 ≤ torrents ∧ torrents ≤ n ∧ 0 ≤ i
  · obtain ⟨p1, p2, p3, p4⟩ := hp
    have HN : Hid (ss.length = n) := hn
    clear hn
    go_enter Tryd.func6, Tryd.ntmps6
    go_wp2
    go_loop [9] (fun jv => ∃ k : Nat, k ≤ n ∧ jv = .int .i64 k ∧ NoAmp ss k) (fun jv => n - (intOf jv).toNat)
    case atStart => exact ⟨0, Nat.zero_le _, rfl, fun j hj => by omega⟩
    case round =>
      obtain ⟨k, hk, rfl, hna⟩ := hrel
      by_cases hlt : k < n
      · obtain ⟨g, o, e, hc⟩ := hs.at (k := k) (by rw [HN.out]; exact hlt)
        have hszk := hsh k hlt
        subst e
        obtain ⟨s, hsd⟩ : ∃ s, s = ss.getD k ByteArray.empty := ⟨_, rfl⟩
        rw [← hsd] at hc hszk
        have HSD : Hid (s = ss.getD k ByteArray.empty) := hsd
        clear hsd
        go_wp2
        go_loop [11] (fun kv => ∃ x : Nat, x ≤ s.size ∧ kv = .int .i64 x ∧ ∀ y (h : y < s.size), y < x → s[y] ≠ 38) (fun kv => s.size - (intOf kv).toNat)
        case atStart => exact ⟨0, Nat.zero_le _, rfl, fun y _ hy => by omega⟩
        case round =>
          obtain ⟨x, hx, rfl, hno⟩ := hrel
          by_cases hxl : x < s.size
          · by_cases h38 : s[x] = 38
            · have h38' : ((s[x].toNat : Int) == 38) = true := by rw [h38]; rfl
              have H38 : Hid (s[x] = 38) := h38
              clear h38
              go_wp2
              go_ret
              exact tells_no rfl
            · have h38' : ((s[x].toNat : Int) == 38) = false := by
                rw [beq_eq_false_iff_ne]
                intro e
                exact h38 (by apply UInt8.toNat_inj.1; have : (38 : UInt8).toNat = 38 := rfl; omega)
              have H38 : Hid (s[x] ≠ 38) := h38
              clear h38
              go_wp2
              go_round
              case rel => exact ⟨x + 1, by omega, by go_num, fun y h hy => by
                rcases Nat.lt_or_ge y x with h2 | h2
                · exact hno y h h2
                · have : y = x := by omega
                  subst this
                  exact H38.out⟩
              case measure => simp [intOf]; omega
          · have HX : Hid (∀ y (h : y < s.size), s[y] ≠ 38) := fun y h => hno y h (by omega)
            clear hno
            go_wp2
            go_round
            case rel => exact ⟨k + 1, by omega, by go_num, fun j hj => by
                rcases Nat.lt_or_ge j k with h2 | h2
                · exact hna j h2
                · have : j = k := by omega
                  subst this
                  rw [← HSD.out]
                  exact HX.out⟩
            case measure => simp [intOf]; omega
      · have HK : Hid (k = n) := by show k = n; omega
        go_wp2
        go_ret
        exact tells_yes rfl ⟨p1, p2, p3, p4, by rw [← HK.out]; exact hna⟩
  · have HX : Hid (¬ (1 ≤ peers ∧ 1 ≤ torrents ∧ torrents ≤ n ∧ 0 ≤ i)) := hp
    clear hp
    by_cases p1 : 1 ≤ peers
    · by_cases p2 : 1 ≤ torrents
      · by_cases p3 : torrents ≤ n
        · have p4 : i < 0 := by have := HX.out; omega
          go_enter Tryd.func6, Tryd.ntmps6
          go_wp2
          go_ret
          exact tells_no rfl
        · go_enter Tryd.func6, Tryd.ntmps6
          go_wp2
          all_goals (go_ret; exact tells_no rfl)
      · go_enter Tryd.func6, Tryd.ntmps6
        go_wp2
        all_goals (go_ret; exact tells_no rfl)
    · go_enter Tryd.func6, Tryd.ntmps6
      go_wp2
      all_goals (go_ret; exact tells_no rfl)
end Go.Proofs.Qxb6003635aDoor
