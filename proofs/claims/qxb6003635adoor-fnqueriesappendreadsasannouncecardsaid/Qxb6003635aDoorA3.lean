import Derived.Test.Qxb6003635aDoorA2
namespace Go.Proofs.Qxb6003635aDoor
open Go.RowKit
set_option linter.unusedVariables false

/-- The cells from (g, o) on hold the strings ss. -/
def RowS (w : World) (g o : Nat) (ss : List ByteArray) : Prop := ∀ j, j < ss.length → w.cell? ⟨g, o + j, none⟩ = some (.string (ss.getD j ByteArray.empty))

theorem RowS.drewN {w : World} {g o : Nat} {l : List ByteArray} (h : RowS w g o l) (m : Nat) : RowS (w.drewN m) g o l := h

def key0 : List UInt8 := [105, 110, 102, 111, 95, 104, 97, 115, 104]
def key1 : List UInt8 := [112, 101, 101, 114, 95, 105, 100]
def key2 : List UInt8 := [112, 111, 114, 116]
def key3 : List UInt8 := [117, 112, 108, 111, 97, 100, 101, 100]
def key4 : List UInt8 := [100, 111, 119, 110, 108, 111, 97, 100, 101, 100]
def key5 : List UInt8 := [108, 101, 102, 116]
def key6 : List UInt8 := [99, 111, 109, 112, 97, 99, 116]
def key7 : List UInt8 := [110, 117, 109, 119, 97, 110, 116]
def key8 : List UInt8 := [101, 118, 101, 110, 116]
def valStarted : List UInt8 := [115, 116, 97, 114, 116, 101, 100]

set_option maxHeartbeats 400000 in
theorem field0 (g o c g2 o2 c2 n2 gh oh nh ch : Nat) (ss : List ByteArray) (p k torrents : Nat) (w : World) (hc : RowB w g o key0) (hss : ss.length = nh) (hs : RowS w gh oh ss) (hnh : nh ≤ 10000000) (ht : 1 ≤ torrents) (hth : torrents ≤ nh)
    (hl : (ss.getD (p % torrents) ByteArray.empty).data.toList.length = n2) (h2 : RowB w g2 o2 (ss.getD (p % torrents) ByteArray.empty).data.toList) (hn : n2 ≤ 10000000) :
    Calls Tryd.prog 14 #[.int .i64 0, .slice (some ⟨g, o, none⟩) 9 c, .slice (some ⟨g2, o2, none⟩) n2 c2, .int .i64 p, .int .i64 k, .int .i64 torrents, .slice (some ⟨gh, oh, none⟩) nh ch] w fun e w' => e = .returned (.bool true) ∧ ∃ m, w' = w.drewN m := by
  have H1 := is_at g o c 9 key0 ⟨#[105, 110, 102, 111, 95, 104, 97, 115, 104]⟩ w rfl rfl hc (by omega)
  have H2 : ∀ m, Calls Tryd.prog 17 #[.slice (some ⟨g2, o2, none⟩) n2 c2, .string (ss.getD (p % torrents) ByteArray.empty)] (w.drewN m) fun e w' => e = .returned (.bool true) ∧ ∃ m', w' = (w.drewN m).drewN m' :=
    fun m => is_at g2 o2 c2 n2 _ _ (w.drewN m) rfl hl (h2.drewN m) (by omega)
  have hlt : p % torrents < torrents := Nat.mod_lt _ (by omega)
  have hck := hs (p % torrents) (by omega)
  obtain ⟨s, hs0⟩ : ∃ s, s = ss.getD (p % torrents) ByteArray.empty := ⟨_, rfl⟩
  rw [← hs0] at H2 hck
  obtain ⟨r, hr0⟩ : ∃ r, r = p % torrents := ⟨_, rfl⟩
  have hrem : ((p : Int) % (torrents : Int)) = (r : Int) := by rw [hr0]; omega
  rw [← hr0] at hck hlt
  clear hs0 hr0 hl h2 hs hc
  go_enter Tryd.func14, Tryd.ntmps14
  go_wp2_with fail
  refine H1.mono ?_; rintro e w' ⟨rfl, m, rfl⟩
  go_wp2_with fail
  refine (H2 _).mono ?_; rintro e w' ⟨rfl, m2, rfl⟩
  go_wp2
  go_ret
  exact ⟨rfl, _, rfl⟩

set_option maxHeartbeats 400000 in
theorem field3 (g o c g2 o2 c2 n2 : Nat) (l : List UInt8) (p k torrents : Nat) (hs : Value) (w : World) (hc : RowB w g o key3) (hl : l.length = n2) (h2 : RowB w g2 o2 l) (hn : n2 ≤ 10000000) (h0 : 0 < n2) (hh : 1 < n2 → l.getD 0 0 ≠ 48) (hd : Dig l) (hv : (dv l : Int) = 0) :
    Calls Tryd.prog 14 #[.int .i64 3, .slice (some ⟨g, o, none⟩) 8 c, .slice (some ⟨g2, o2, none⟩) n2 c2, .int .i64 p, .int .i64 k, .int .i64 torrents, hs] w fun e w' => e = .returned (.bool true) ∧ ∃ m, w' = w.drewN m := by
  have H1 := is_at g o c 8 key3 ⟨#[117, 112, 108, 111, 97, 100, 101, 100]⟩ w rfl rfl hc (by omega)
  have H2 : ∀ m, Calls Tryd.prog 19 #[.slice (some ⟨g2, o2, none⟩) n2 c2, .int .u64 (0)] (w.drewN m) fun e w' => e = .returned (.bool true) ∧ w' = w.drewN m :=
    fun m => minimal_any g2 o2 c2 n2 l (0) (w.drewN m) hl (h2.drewN m) hn h0 hh hd hv (by omega)
  clear hc hl h2 hn h0 hh hd hv
  go_enter Tryd.func14, Tryd.ntmps14
  go_wp2_with (first | (go_at_call 17; refine H1.mono ?_; rintro e w' ⟨rfl, m, rfl⟩) | (go_at_call 19; refine (H2 _).mono ?_; rintro e w' ⟨rfl, rfl⟩))
  go_ret
  exact ⟨rfl, _, rfl⟩

set_option maxHeartbeats 400000 in
theorem field4 (g o c g2 o2 c2 n2 : Nat) (l : List UInt8) (p k torrents : Nat) (hs : Value) (w : World) (hc : RowB w g o key4) (hl : l.length = n2) (h2 : RowB w g2 o2 l) (hn : n2 ≤ 10000000) (h0 : 0 < n2) (hh : 1 < n2 → l.getD 0 0 ≠ 48) (hd : Dig l) (hv : (dv l : Int) = 0) :
    Calls Tryd.prog 14 #[.int .i64 4, .slice (some ⟨g, o, none⟩) 10 c, .slice (some ⟨g2, o2, none⟩) n2 c2, .int .i64 p, .int .i64 k, .int .i64 torrents, hs] w fun e w' => e = .returned (.bool true) ∧ ∃ m, w' = w.drewN m := by
  have H1 := is_at g o c 10 key4 ⟨#[100, 111, 119, 110, 108, 111, 97, 100, 101, 100]⟩ w rfl rfl hc (by omega)
  have H2 : ∀ m, Calls Tryd.prog 19 #[.slice (some ⟨g2, o2, none⟩) n2 c2, .int .u64 (0)] (w.drewN m) fun e w' => e = .returned (.bool true) ∧ w' = w.drewN m :=
    fun m => minimal_any g2 o2 c2 n2 l (0) (w.drewN m) hl (h2.drewN m) hn h0 hh hd hv (by omega)
  clear hc hl h2 hn h0 hh hd hv
  go_enter Tryd.func14, Tryd.ntmps14
  go_wp2_with (first | (go_at_call 17; refine H1.mono ?_; rintro e w' ⟨rfl, m, rfl⟩) | (go_at_call 19; refine (H2 _).mono ?_; rintro e w' ⟨rfl, rfl⟩))
  go_ret
  exact ⟨rfl, _, rfl⟩

set_option maxHeartbeats 400000 in
theorem field6 (g o c g2 o2 c2 n2 : Nat) (l : List UInt8) (p k torrents : Nat) (hs : Value) (w : World) (hc : RowB w g o key6) (hl : l.length = n2) (h2 : RowB w g2 o2 l) (hn : n2 ≤ 10000000) (h0 : 0 < n2) (hh : 1 < n2 → l.getD 0 0 ≠ 48) (hd : Dig l) (hv : (dv l : Int) = 1) :
    Calls Tryd.prog 14 #[.int .i64 6, .slice (some ⟨g, o, none⟩) 7 c, .slice (some ⟨g2, o2, none⟩) n2 c2, .int .i64 p, .int .i64 k, .int .i64 torrents, hs] w fun e w' => e = .returned (.bool true) ∧ ∃ m, w' = w.drewN m := by
  have H1 := is_at g o c 7 key6 ⟨#[99, 111, 109, 112, 97, 99, 116]⟩ w rfl rfl hc (by omega)
  have H2 : ∀ m, Calls Tryd.prog 19 #[.slice (some ⟨g2, o2, none⟩) n2 c2, .int .u64 (1)] (w.drewN m) fun e w' => e = .returned (.bool true) ∧ w' = w.drewN m :=
    fun m => minimal_any g2 o2 c2 n2 l (1) (w.drewN m) hl (h2.drewN m) hn h0 hh hd hv (by omega)
  clear hc hl h2 hn h0 hh hd hv
  go_enter Tryd.func14, Tryd.ntmps14
  go_wp2_with (first | (go_at_call 17; refine H1.mono ?_; rintro e w' ⟨rfl, m, rfl⟩) | (go_at_call 19; refine (H2 _).mono ?_; rintro e w' ⟨rfl, rfl⟩))
  go_ret
  exact ⟨rfl, _, rfl⟩

set_option maxHeartbeats 400000 in
theorem field7 (g o c g2 o2 c2 n2 : Nat) (l : List UInt8) (p k torrents : Nat) (hs : Value) (w : World) (hc : RowB w g o key7) (hl : l.length = n2) (h2 : RowB w g2 o2 l) (hn : n2 ≤ 10000000) (h0 : 0 < n2) (hh : 1 < n2 → l.getD 0 0 ≠ 48) (hd : Dig l) (hv : (dv l : Int) = 50) :
    Calls Tryd.prog 14 #[.int .i64 7, .slice (some ⟨g, o, none⟩) 7 c, .slice (some ⟨g2, o2, none⟩) n2 c2, .int .i64 p, .int .i64 k, .int .i64 torrents, hs] w fun e w' => e = .returned (.bool true) ∧ ∃ m, w' = w.drewN m := by
  have H1 := is_at g o c 7 key7 ⟨#[110, 117, 109, 119, 97, 110, 116]⟩ w rfl rfl hc (by omega)
  have H2 : ∀ m, Calls Tryd.prog 19 #[.slice (some ⟨g2, o2, none⟩) n2 c2, .int .u64 (50)] (w.drewN m) fun e w' => e = .returned (.bool true) ∧ w' = w.drewN m :=
    fun m => minimal_any g2 o2 c2 n2 l (50) (w.drewN m) hl (h2.drewN m) hn h0 hh hd hv (by omega)
  clear hc hl h2 hn h0 hh hd hv
  go_enter Tryd.func14, Tryd.ntmps14
  go_wp2_with (first | (go_at_call 17; refine H1.mono ?_; rintro e w' ⟨rfl, m, rfl⟩) | (go_at_call 19; refine (H2 _).mono ?_; rintro e w' ⟨rfl, rfl⟩))
  go_ret
  exact ⟨rfl, _, rfl⟩

set_option maxHeartbeats 400000 in
theorem field5z (g o c g2 o2 c2 n2 : Nat) (l : List UInt8) (p k torrents : Nat) (hs : Value) (w : World) (hc : RowB w g o key5) (hl : l.length = n2) (h2 : RowB w g2 o2 l) (hn : n2 ≤ 10000000) (h0 : 0 < n2) (hh : 1 < n2 → l.getD 0 0 ≠ 48) (hd : Dig l) (hk : k % 4 = 0) (hv : (dv l : Int) = 0) :
    Calls Tryd.prog 14 #[.int .i64 5, .slice (some ⟨g, o, none⟩) 4 c, .slice (some ⟨g2, o2, none⟩) n2 c2, .int .i64 p, .int .i64 k, .int .i64 torrents, hs] w fun e w' => e = .returned (.bool true) ∧ ∃ m, w' = w.drewN m := by
  have H1 := is_at g o c 4 key5 ⟨#[108, 101, 102, 116]⟩ w rfl rfl hc (by omega)
  have H2 : ∀ m, Calls Tryd.prog 19 #[.slice (some ⟨g2, o2, none⟩) n2 c2, .int .u64 (0)] (w.drewN m) fun e w' => e = .returned (.bool true) ∧ w' = w.drewN m :=
    fun m => minimal_any g2 o2 c2 n2 l (0) (w.drewN m) hl (h2.drewN m) hn h0 hh hd hv (by omega)
  have hk' : (((k : Int) % 4) == 0) = true := by rw [beq_iff_eq]; omega
  clear hk
  clear hc hl h2 hn h0 hh hd hv
  go_enter Tryd.func14, Tryd.ntmps14
  go_wp2_with (first | (go_at_call 17; refine H1.mono ?_; rintro e w' ⟨rfl, m, rfl⟩) | (go_at_call 19; refine (H2 _).mono ?_; rintro e w' ⟨rfl, rfl⟩))
  go_ret
  exact ⟨rfl, _, rfl⟩

set_option maxHeartbeats 400000 in
theorem field5n (g o c g2 o2 c2 n2 : Nat) (l : List UInt8) (p k torrents : Nat) (hs : Value) (w : World) (hc : RowB w g o key5) (hl : l.length = n2) (h2 : RowB w g2 o2 l) (hn : n2 ≤ 10000000) (h0 : 0 < n2) (hh : 1 < n2 → l.getD 0 0 ≠ 48) (hd : Dig l) (hk : ¬ k % 4 = 0) (hv : (dv l : Int) = 1048576) :
    Calls Tryd.prog 14 #[.int .i64 5, .slice (some ⟨g, o, none⟩) 4 c, .slice (some ⟨g2, o2, none⟩) n2 c2, .int .i64 p, .int .i64 k, .int .i64 torrents, hs] w fun e w' => e = .returned (.bool true) ∧ ∃ m, w' = w.drewN m := by
  have H1 := is_at g o c 4 key5 ⟨#[108, 101, 102, 116]⟩ w rfl rfl hc (by omega)
  have H2 : ∀ m, Calls Tryd.prog 19 #[.slice (some ⟨g2, o2, none⟩) n2 c2, .int .u64 (1048576)] (w.drewN m) fun e w' => e = .returned (.bool true) ∧ w' = w.drewN m :=
    fun m => minimal_any g2 o2 c2 n2 l (1048576) (w.drewN m) hl (h2.drewN m) hn h0 hh hd hv (by omega)
  have hk' : (((k : Int) % 4) == 0) = false := by rw [beq_eq_false_iff_ne]; omega
  clear hk
  clear hc hl h2 hn h0 hh hd hv
  go_enter Tryd.func14, Tryd.ntmps14
  go_wp2_with (first | (go_at_call 17; refine H1.mono ?_; rintro e w' ⟨rfl, m, rfl⟩) | (go_at_call 19; refine (H2 _).mono ?_; rintro e w' ⟨rfl, rfl⟩))
  go_ret
  exact ⟨rfl, _, rfl⟩

set_option maxHeartbeats 400000 in
theorem field2 (g o c g2 o2 c2 n2 : Nat) (l : List UInt8) (p k torrents : Nat) (hs : Value) (w : World) (hc : RowB w g o key2) (hl : l.length = n2) (h2 : RowB w g2 o2 l) (hn : n2 ≤ 10000000) (h0 : 0 < n2) (hh : 1 < n2 → l.getD 0 0 ≠ 48) (hd : Dig l) (hv : (dv l : Int) = 1024 + (k : Int) % 60000) :
    Calls Tryd.prog 14 #[.int .i64 2, .slice (some ⟨g, o, none⟩) 4 c, .slice (some ⟨g2, o2, none⟩) n2 c2, .int .i64 p, .int .i64 k, .int .i64 torrents, hs] w fun e w' => e = .returned (.bool true) ∧ ∃ m, w' = w.drewN m := by
  have H1 := is_at g o c 4 key2 ⟨#[112, 111, 114, 116]⟩ w rfl rfl hc (by omega)
  have H2 : ∀ m, Calls Tryd.prog 19 #[.slice (some ⟨g2, o2, none⟩) n2 c2, .int .u64 (1024 + (k : Int) % 60000)] (w.drewN m) fun e w' => e = .returned (.bool true) ∧ w' = w.drewN m :=
    fun m => minimal_any g2 o2 c2 n2 l (1024 + (k : Int) % 60000) (w.drewN m) hl (h2.drewN m) hn h0 hh hd hv (by omega)
  have hwr : IntKind.u64.wrap (1024 + (k : Int) % 60000) = 1024 + (k : Int) % 60000 := by rw [IntKind.wrap_u64]; omega
  clear hc hl h2 hn h0 hh hd hv
  go_enter Tryd.func14, Tryd.ntmps14
  go_wp2_with (first | (go_at_call 17; refine H1.mono ?_; rintro e w' ⟨rfl, m, rfl⟩) | (go_at_call 19; refine (H2 _).mono ?_; rintro e w' ⟨rfl, rfl⟩))
  go_ret
  exact ⟨rfl, _, rfl⟩

set_option maxHeartbeats 400000 in
theorem field1 (g o c g2 o2 c2 n2 : Nat) (p k torrents : Nat) (hs : Value) (w : World) (hc : RowB w g o key1) (hn : n2 = 8 + (pad12 p).length) (hcn : n2 ≤ c2) (hcm : c2 ≤ maxLen) (hb : n2 ≤ 1000000) (h2 : RowB w g2 o2 (tl ++ pad12 p)) (hp : (p : Int) < 9223372036854775808) :
    Calls Tryd.prog 14 #[.int .i64 1, .slice (some ⟨g, o, none⟩) 7 c, .slice (some ⟨g2, o2, none⟩) n2 c2, .int .i64 p, .int .i64 k, .int .i64 torrents, hs] w fun e w' => e = .returned (.bool true) ∧ ∃ m, w' = w.drewN m := by
  have H1 := is_at g o c 7 key1 ⟨#[112, 101, 101, 114, 95, 105, 100]⟩ w rfl rfl hc (by omega)
  have H2 : ∀ m, Calls Tryd.prog 18 #[.slice (some ⟨g2, o2, none⟩) n2 c2, .int .i64 p] (w.drewN m) fun e w' => e = .returned (.bool true) ∧ ∃ m', w' = (w.drewN m).drewN m' :=
    fun m => peerID_any g2 o2 c2 n2 p (w.drewN m) hn hcn hcm hb (h2.drewN m) hp
  clear hc hn hcn hcm hb h2 hp
  go_enter Tryd.func14, Tryd.ntmps14
  go_wp2_with (first | (go_at_call 17; refine H1.mono ?_; rintro e w' ⟨rfl, m, rfl⟩) | (go_at_call 18; refine (H2 _).mono ?_; rintro e w' ⟨rfl, m2, rfl⟩))
  go_ret
  exact ⟨rfl, _, rfl⟩

set_option maxHeartbeats 400000 in
theorem field8 (g o c g2 o2 c2 : Nat) (p k torrents : Nat) (hs : Value) (w : World) (hc : RowB w g o key8) (h2 : RowB w g2 o2 valStarted) :
    Calls Tryd.prog 14 #[.int .i64 8, .slice (some ⟨g, o, none⟩) 5 c, .slice (some ⟨g2, o2, none⟩) 7 c2, .int .i64 p, .int .i64 k, .int .i64 torrents, hs] w fun e w' => e = .returned (.bool true) ∧ ∃ m, w' = w.drewN m := by
  have H1 := is_at g o c 5 key8 ⟨#[101, 118, 101, 110, 116]⟩ w rfl rfl hc (by omega)
  have H2 : ∀ m, Calls Tryd.prog 17 #[.slice (some ⟨g2, o2, none⟩) 7 c2, .string ⟨#[115, 116, 97, 114, 116, 101, 100]⟩] (w.drewN m) fun e w' => e = .returned (.bool true) ∧ ∃ m', w' = (w.drewN m).drewN m' :=
    fun m => is_at g2 o2 c2 7 valStarted _ (w.drewN m) rfl rfl (h2.drewN m) (by omega)
  clear hc h2
  go_enter Tryd.func14, Tryd.ntmps14
  go_wp2_with fail
  refine H1.mono ?_; rintro e w' ⟨rfl, m, rfl⟩
  go_wp2_with fail
  refine (H2 _).mono ?_; rintro e w' ⟨rfl, m2, rfl⟩
  go_wp2
  go_ret
  exact ⟨rfl, _, rfl⟩

end Go.Proofs.Qxb6003635aDoor
