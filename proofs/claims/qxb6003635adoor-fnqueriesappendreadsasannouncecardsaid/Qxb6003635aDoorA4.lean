import Derived.Test.Qxb6003635aDoorA3
import Derived.Test.Qxb6003635aDoorPlain2
namespace Go.Proofs.Qxb6003635aDoor
open Go.RowKit
set_option linter.unusedVariables false

theorem ret_bool {a b : Bool} (h : a = b) : Ending.returned (.bool a) = .returned (.bool b) := by rw [h]

/-- What zzB1FieldRight is asked at field j. -/
def FieldsOK (w : World) (g : Nat) (fs : List (List UInt8 × List UInt8)) (p k torrents : Nat) (hs : Value) : Prop :=
  ∀ d f r, fs = d ++ f :: r → ∀ (jj pp kk : Int) (P K Q V c1 c2 : Nat) (w1 : World), jj = d.length → pp = p → kk = k → P = (pre d).length → K = f.1.length → Q = P + (K + 1) → V = f.2.length → V ≤ c2 → c2 ≤ maxLen → (∃ m, w1 = w.drewN m) →
    Calls Tryd.prog 14 #[.int .i64 jj, .slice (some ⟨g, P, none⟩) K c1, .slice (some ⟨g, Q, none⟩) V c2, .int .i64 pp, .int .i64 kk, .int .i64 torrents, hs] w1 fun e w' => e = .returned (.bool true) ∧ ∃ m, w' = w1.drewN m

theorem quiet_of' {P : Program} {f : FuncId} {args : Array Value} {w : World} {m a : Nat} {v : Value}
    (h : Calls P f args (w.drewN (m + a)) fun e w' => e = .returned v ∧ ∃ k, w' = (w.drewN (m + a)).drewN k) : Calls P f args (w.drewN (m + a)) fun e w'' => e = .returned v ∧ ∃ n, w'' = w.drewN (m + n) :=
  h.mono fun _ _ ⟨he, k, hk⟩ => ⟨he, a + k, by rw [hk, World.drewN_drewN, Nat.add_assoc]⟩

set_option maxHeartbeats 1000000 in
theorem reads_any (g c n : Nat) (fs : List (List UInt8 × List UInt8)) (peers torrents i p k : Nat) (hs : Value) (w : World)
    (hn : (txt fs).length = n) (hcn : n ≤ c) (hcm : c ≤ maxLen) (hb : n ≤ 10000000) (hrow : RowB w g 0 (txt fs)) (hpl : ∀ f ∈ fs, Plainly f) (hne : fs ≠ []) (hlast : ∀ d f, fs = d ++ [f] → f.2 ≠ [])
    (h1 : 1 ≤ peers) (h2 : 1 ≤ torrents) (hp : p = i % peers) (hk : k = p / torrents) (hi : (i : Int) < 9223372036854775808) (hlen : (fs.length : Int) = if i < peers then 9 else 8)
    (HF : FieldsOK w g fs p k torrents hs) :
    Calls Tryd.prog 11 #[.slice (some ⟨g, 0, none⟩) n c, .int .i64 peers, .int .i64 torrents, hs, .int .i64 i] w fun e w' => e = .returned (.bool true) ∧ ∃ m, w' = w.drewN m := by
  have hp' : ((i : Int) % (peers : Int)) = (p : Int) := by rw [hp]; omega
  have hk' : ((p : Int) / (torrents : Int)) = (k : Int) := by rw [hk]; omega
  have hkw : wrap64 (k : Int) = (k : Int) := by
    have a1 : p ≤ i := by rw [hp]; exact Nat.mod_le _ _
    have a2 : k ≤ p := by rw [hk]; exact Nat.div_le_self _ _
    unfold wrap64; omega
  have HKW : Hid (wrap64 (k : Int) = (k : Int)) := hkw
  clear hkw
  unfold maxLen at hcm
  have HN : Hid ((txt fs).length = n) := hn
  have HL : Hid ((fs.length : Int) = if i < peers then 9 else 8) := hlen
  have HFS : Hid (fs ≠ []) := hne
  have HP' : Hid (((i : Int) % (peers : Int)) = (p : Int)) := hp'
  clear hp hk hn hlen hne
  by_cases hip : i < peers
  · have HIP : Hid (i < peers) := hip
    go_enter Tryd.func11, Tryd.ntmps11
    go_wp2
    go_loopw [14, 15] (fun jv pv wr => ∃ (d : List (List UInt8 × List UInt8)) (f : List UInt8 × List UInt8) (r : List (List UInt8 × List UInt8)) (m P j : Nat), Hid (fs = d ++ f :: r) ∧ Hid (P = (pre d).length) ∧ Hid (j = d.length) ∧ jv = .int .i64 j ∧ pv = .int .i64 P ∧ wr = w.drewN m) (fun jv _ _ => fs.length - (intOf jv).toNat)
    case atStart =>
      cases fs with
      | nil => exact absurd rfl HFS.out
      | cons f r => exact ⟨[], f, r, 0, 0, 0, rfl, rfl, rfl, rfl, rfl, rfl⟩
    case round =>
      obtain ⟨d, f, r, m, P, j, hfs, hP, hj, rfl, rfl, rfl⟩ := hrel
      have hA : At (txt fs) P f.1.length f.2.length r.isEmpty := by rw [hfs.out, hP.out]; exact at_field d f r (hpl f (by rw [hfs.out]; simp))
      have hcell : ∀ x, x < n → w.cell? ⟨g, x, none⟩ = some (.int .u8 (((txt fs).getD x 0).toNat : Int)) := fun x hx => by
        have := hrow x (by rw [HN.out]; exact hx)
        rwa [Nat.zero_add] at this
      obtain ⟨K, hK⟩ : ∃ K, K = f.1.length := ⟨_, rfl⟩
      obtain ⟨V, hV⟩ : ∃ V, V = f.2.length := ⟨_, rfl⟩
      rw [← hK, ← hV] at hA
      have hE : P + (K + (V + 1)) ≤ n := by
        cases hr : r.isEmpty with
        | true => have := hA.fin hr; have := HN.out; omega
        | false => have := hA.more hr; have := HN.out; omega
      have hXn : P + K + 1 < n := by
        cases hr : r.isEmpty with
        | true =>
          have := hA.fin hr; have := HN.out
          have hr' : r = [] := List.isEmpty_iff.1 hr
          have := hlast d f (by rw [hfs.out, hr'])
          have : 0 < f.2.length := List.length_pos_iff.2 this
          omega
        | false => have := hA.more hr; have := HN.out; omega
      have HH : Hid (K = f.1.length ∧ V = f.2.length) := ⟨hK, hV⟩
      have hbx : ∀ x, ((txt fs).getD x 0).toNat < 256 := fun x => UInt8.toNat_lt _
      clear hK hV
      obtain ⟨tb, htb⟩ : ∃ tb : Nat → Int, tb = fun x => (((txt fs).getD x 0).toNat : Int) := ⟨_, rfl⟩
      have hcell' : ∀ x, x < n → w.cell? ⟨g, x, none⟩ = some (.int .u8 (tb x)) := fun x hx => by rw [htb]; exact hcell x hx
      have hamp : ∀ x, P ≤ x → x < P + (K + (V + 1)) → (tb x != 38) = true := fun x a b => by
        have := hA.amp x a b
        rw [htb, bne_iff_ne]
        intro e
        have e' : (((txt fs).getD x 0).toNat : Int) = 38 := e
        exact this (by apply UInt8.toNat_inj.1; have : (38 : UInt8).toNat = 38 := rfl; omega)
      have heqs : ∀ x, P ≤ x → x < P + K → (tb x != 61) = true := fun x a b => by
        have := hA.eqs x a b
        rw [htb, bne_iff_ne]
        intro e
        have e' : (((txt fs).getD x 0).toNat : Int) = 61 := e
        exact this (by apply UInt8.toNat_inj.1; have : (61 : UInt8).toNat = 61 := rfl; omega)
      have heq : (tb (P + K) != 61) = false := by rw [htb]; simp only [hA.eq]; rfl
      have hfin : r.isEmpty = true → P + (K + (V + 1)) = n := fun h => by have := hA.fin h; have := HN.out; omega
      have hmore : r.isEmpty = false → P + (K + (V + 1)) < n ∧ (tb (P + (K + (V + 1))) != 38) = false := fun h => by
        have h1 := hA.more h
        have h2 := HN.out
        refine ⟨by omega, ?_⟩
        rw [htb]; simp only [h1.2]; rfl
      clear htb hcell hbx hA
      obtain ⟨E, hEd⟩ : ∃ E, E = P + (K + (V + 1)) := ⟨_, rfl⟩
      rw [← hEd] at hE hamp hfin hmore
      have HED : Hid (E = P + (K + (V + 1))) := hEd
      have hPE : P + K < E := by omega
      have HALL : Hid ((∀ x, x < n → w.cell? ⟨g, x, none⟩ = some (.int .u8 (tb x))) ∧ (∀ x, P ≤ x → x < E → (tb x != 38) = true) ∧ (∀ x, P ≤ x → x < P + K → (tb x != 61) = true) ∧ (tb (P + K) != 61) = false ∧
        (r.isEmpty = true → E = n) ∧ (r.isEmpty = false → E < n ∧ (tb E != 38) = false)) := ⟨hcell', hamp, heqs, heq, hfin, hmore⟩
      clear hEd hcell' hamp heqs heq hfin hmore hi hp' hk' hip h1 h2
      go_wp2
      go_loop [16] (fun ev => ∃ e : Nat, ev = .int .i64 e ∧ P ≤ e ∧ e ≤ E) (fun ev => n - (intOf ev).toNat)
      case atStart => exact ⟨P, rfl, Nat.le_refl _, by omega⟩
      case round =>
        obtain ⟨e, rfl, he1, he2⟩ := hrel
        by_cases heE : e < E
        · have hce := HALL.out.1 e (by omega)
          have hne38 := HALL.out.2.1 e he1 heE
          go_wp2
          go_round
          case rel => exact ⟨e + 1, by go_num, by omega, by omega⟩
          case measure => simp [intOf]; omega
        · obtain rfl : E = e := by omega
          have hEc := HALL.out.1
          cases hr : r.isEmpty with
          | true =>
            have hfin' : n ≤ E := by have := HALL.out.2.2.2.2.1 hr; omega
            clear hEc
            go_wp2
            go_loop [17] (fun qv => ∃ q : Nat, qv = .int .i64 q ∧ P ≤ q ∧ q ≤ P + K) (fun qv => n - (intOf qv).toNat)
            case atStart => exact ⟨P, rfl, Nat.le_refl _, by omega⟩
            case round =>
              obtain ⟨q, rfl, hq1, hq2⟩ := hrel
              by_cases hqK : q < P + K
              · have hce := HALL.out.1 q (by omega)
                have hne61 := HALL.out.2.2.1 q hq1 hqK
                go_wp2
                go_round
                case rel => exact ⟨q + 1, by go_num, by omega, by omega⟩
                case measure => simp [intOf]; omega
              · obtain rfl : P + K = q := by omega
                have hce := HALL.out.1 (P + K) (by omega)
                have hne61 := HALL.out.2.2.2.1
                obtain ⟨X, hX⟩ : ∃ X, X = P + K := ⟨_, rfl⟩
                rw [← hX] at hce hne61 ⊢
                have HX : Hid (X = P + K) := hX
                have hXE : X < E := by omega
                have hXn' : X + 1 < n := by omega
                have hPX : P ≤ X := by omega
                clear hX hq1 hq2 hqK hPE he1 he2 heE hXn
                have hqE : ((X : Int) == (E : Int)) = false := by rw [beq_eq_false_iff_ne]; omega
                go_wp2
                obtain ⟨Y, hY⟩ : ∃ Y : Nat, Y = X + 1 := ⟨_, rfl⟩
                have HY : Hid (Y = X + 1) := hY
                have hY1 : (X : Int) + 1 = (Y : Int) := by omega
                have i1 : (X : Int) ≤ (c : Int) := by omega
                have i2 : (E : Int) ≤ (c : Int) := by omega
                have i3 : (Y : Int) ≤ (E : Int) := by omega
                have i5 : ¬ c = P := by omega
                have i6 : ¬ c = Y := by omega
                clear hY
                have hYw : IntKind.i64.wrap (Y : Int) = (Y : Int) := by rw [IntKind.wrap_i64]; omega
                have HSD : Hid ((j : Int) = d.length ∧ ((i : Int) % (peers : Int)) = p ∧ P = (pre d).length ∧ X - P = f.1.length ∧ Y = P + ((X - P) + 1) ∧ E - Y = f.2.length ∧ E - Y ≤ c - Y ∧ c - Y ≤ maxLen) := by
                  have a1 := HX.out; have a2 := HY.out; have a3 := HED.out; have a4 := HH.out; have a5 := hj.out; have a6 := HP'.out; have a7 := hP.out
                  unfold maxLen
                  refine ⟨by omega, a6, a7, by omega, by omega, by omega, by omega, by omega⟩
                go_quiet ((go_at_call 14; exact quiet_of' (HF d f r hfs.out _ _ _ _ _ _ _ _ _ _ HSD.out.1 HSD.out.2.1 HKW.out HSD.out.2.2.1 HSD.out.2.2.2.1 HSD.out.2.2.2.2.1 HSD.out.2.2.2.2.2.1 HSD.out.2.2.2.2.2.2.1 HSD.out.2.2.2.2.2.2.2 ⟨_, rfl⟩)))
                have hj9 : (j : Int) + 1 = 9 := by
                  have a1 := HL.out; have a2 := hj.out; have a3 := hfs.out
                  have a4 : r = [] := List.isEmpty_iff.1 hr
                  rw [a3, a4] at a1
                  rw [if_pos HIP.out] at a1
                  simp only [List.length_append, List.length_cons, List.length_nil] at a1
                  omega
                have hjb : (j : Int) ≤ 9 := by omega
                have hjw : ((j : Int) + 1 == 9) = true := by rw [beq_iff_eq]; exact hj9
                clear hj9
                go_wp2
                go_ret
                exact ⟨rfl, _, rfl⟩
          | false =>
            have hfin' : E < n := (HALL.out.2.2.2.2.2 hr).1
            have hE38 := (HALL.out.2.2.2.2.2 hr).2
            have hEcell := hEc E hfin'
            clear hEc
            go_wp2
            go_loop [17] (fun qv => ∃ q : Nat, qv = .int .i64 q ∧ P ≤ q ∧ q ≤ P + K) (fun qv => n - (intOf qv).toNat)
            case atStart => exact ⟨P, rfl, Nat.le_refl _, by omega⟩
            case round =>
              obtain ⟨q, rfl, hq1, hq2⟩ := hrel
              by_cases hqK : q < P + K
              · have hce := HALL.out.1 q (by omega)
                have hne61 := HALL.out.2.2.1 q hq1 hqK
                go_wp2
                go_round
                case rel => exact ⟨q + 1, by go_num, by omega, by omega⟩
                case measure => simp [intOf]; omega
              · obtain rfl : P + K = q := by omega
                have hce := HALL.out.1 (P + K) (by omega)
                have hne61 := HALL.out.2.2.2.1
                obtain ⟨X, hX⟩ : ∃ X, X = P + K := ⟨_, rfl⟩
                rw [← hX] at hce hne61 ⊢
                have HX : Hid (X = P + K) := hX
                have hXE : X < E := by omega
                have hXn' : X + 1 < n := by omega
                have hPX : P ≤ X := by omega
                clear hX hq1 hq2 hqK hPE he1 he2 heE hXn
                have hqE : ((X : Int) == (E : Int)) = false := by rw [beq_eq_false_iff_ne]; omega
                go_wp2
                obtain ⟨Y, hY⟩ : ∃ Y : Nat, Y = X + 1 := ⟨_, rfl⟩
                have HY : Hid (Y = X + 1) := hY
                have hY1 : (X : Int) + 1 = (Y : Int) := by omega
                have i1 : (X : Int) ≤ (c : Int) := by omega
                have i2 : (E : Int) ≤ (c : Int) := by omega
                have i3 : (Y : Int) ≤ (E : Int) := by omega
                have i5 : ¬ c = P := by omega
                have i6 : ¬ c = Y := by omega
                clear hY
                have hYw : IntKind.i64.wrap (Y : Int) = (Y : Int) := by rw [IntKind.wrap_i64]; omega
                have HSD : Hid ((j : Int) = d.length ∧ ((i : Int) % (peers : Int)) = p ∧ P = (pre d).length ∧ X - P = f.1.length ∧ Y = P + ((X - P) + 1) ∧ E - Y = f.2.length ∧ E - Y ≤ c - Y ∧ c - Y ≤ maxLen) := by
                  have a1 := HX.out; have a2 := HY.out; have a3 := HED.out; have a4 := HH.out; have a5 := hj.out; have a6 := HP'.out; have a7 := hP.out
                  unfold maxLen
                  refine ⟨by omega, a6, a7, by omega, by omega, by omega, by omega, by omega⟩
                go_quiet ((go_at_call 14; exact quiet_of' (HF d f r hfs.out _ _ _ _ _ _ _ _ _ _ HSD.out.1 HSD.out.2.1 HKW.out HSD.out.2.2.1 HSD.out.2.2.2.1 HSD.out.2.2.2.2.1 HSD.out.2.2.2.2.2.1 HSD.out.2.2.2.2.2.2.1 HSD.out.2.2.2.2.2.2.2 ⟨_, rfl⟩)))
                have hjb : (j : Int) ≤ 9 := by
                  have a1 := HL.out; have a2 := hj.out; have a3 := hfs.out
                  rw [a3] at a1
                  rw [if_pos HIP.out] at a1
                  simp only [List.length_append, List.length_cons] at a1
                  omega
                have hjl : j < fs.length := by
                  have a2 := hj.out
                  rw [hfs.out, List.length_append, List.length_cons]
                  omega
                go_wp2
                go_roundw
                case rel =>
                  have hrne : r ≠ [] := fun e => by rw [e] at hr; cases hr
                  obtain ⟨f', r', hr'⟩ : ∃ f' r', r = f' :: r' := by cases r with
                    | nil => exact absurd rfl hrne
                    | cons a b => exact ⟨a, b, rfl⟩
                  refine ⟨d ++ [f], f', r', _, E + 1, j + 1, ?_, ?_, ?_, ?_, ?_, rfl⟩
                  · show fs = d ++ [f] ++ f' :: r'
                    rw [hfs.out, hr']; simp
                  · show E + 1 = (pre (d ++ [f])).length
                    have a3 := HED.out; have a4 := HH.out; have a7 := hP.out
                    rw [pre_snoc_length]; omega
                  · show j + 1 = (d ++ [f]).length
                    have a5 := hj.out
                    simp; omega
                  · go_num
                  · go_num
                case measure => simp [intOf]; omega
  · have HIP : Hid (¬ i < peers) := hip
    go_enter Tryd.func11, Tryd.ntmps11
    go_wp2
    go_loopw [14, 15] (fun jv pv wr => ∃ (d : List (List UInt8 × List UInt8)) (f : List UInt8 × List UInt8) (r : List (List UInt8 × List UInt8)) (m P j : Nat), Hid (fs = d ++ f :: r) ∧ Hid (P = (pre d).length) ∧ Hid (j = d.length) ∧ jv = .int .i64 j ∧ pv = .int .i64 P ∧ wr = w.drewN m) (fun jv _ _ => fs.length - (intOf jv).toNat)
    case atStart =>
      cases fs with
      | nil => exact absurd rfl HFS.out
      | cons f r => exact ⟨[], f, r, 0, 0, 0, rfl, rfl, rfl, rfl, rfl, rfl⟩
    case round =>
      obtain ⟨d, f, r, m, P, j, hfs, hP, hj, rfl, rfl, rfl⟩ := hrel
      have hA : At (txt fs) P f.1.length f.2.length r.isEmpty := by rw [hfs.out, hP.out]; exact at_field d f r (hpl f (by rw [hfs.out]; simp))
      have hcell : ∀ x, x < n → w.cell? ⟨g, x, none⟩ = some (.int .u8 (((txt fs).getD x 0).toNat : Int)) := fun x hx => by
        have := hrow x (by rw [HN.out]; exact hx)
        rwa [Nat.zero_add] at this
      obtain ⟨K, hK⟩ : ∃ K, K = f.1.length := ⟨_, rfl⟩
      obtain ⟨V, hV⟩ : ∃ V, V = f.2.length := ⟨_, rfl⟩
      rw [← hK, ← hV] at hA
      have hE : P + (K + (V + 1)) ≤ n := by
        cases hr : r.isEmpty with
        | true => have := hA.fin hr; have := HN.out; omega
        | false => have := hA.more hr; have := HN.out; omega
      have hXn : P + K + 1 < n := by
        cases hr : r.isEmpty with
        | true =>
          have := hA.fin hr; have := HN.out
          have hr' : r = [] := List.isEmpty_iff.1 hr
          have := hlast d f (by rw [hfs.out, hr'])
          have : 0 < f.2.length := List.length_pos_iff.2 this
          omega
        | false => have := hA.more hr; have := HN.out; omega
      have HH : Hid (K = f.1.length ∧ V = f.2.length) := ⟨hK, hV⟩
      have hbx : ∀ x, ((txt fs).getD x 0).toNat < 256 := fun x => UInt8.toNat_lt _
      clear hK hV
      obtain ⟨tb, htb⟩ : ∃ tb : Nat → Int, tb = fun x => (((txt fs).getD x 0).toNat : Int) := ⟨_, rfl⟩
      have hcell' : ∀ x, x < n → w.cell? ⟨g, x, none⟩ = some (.int .u8 (tb x)) := fun x hx => by rw [htb]; exact hcell x hx
      have hamp : ∀ x, P ≤ x → x < P + (K + (V + 1)) → (tb x != 38) = true := fun x a b => by
        have := hA.amp x a b
        rw [htb, bne_iff_ne]
        intro e
        have e' : (((txt fs).getD x 0).toNat : Int) = 38 := e
        exact this (by apply UInt8.toNat_inj.1; have : (38 : UInt8).toNat = 38 := rfl; omega)
      have heqs : ∀ x, P ≤ x → x < P + K → (tb x != 61) = true := fun x a b => by
        have := hA.eqs x a b
        rw [htb, bne_iff_ne]
        intro e
        have e' : (((txt fs).getD x 0).toNat : Int) = 61 := e
        exact this (by apply UInt8.toNat_inj.1; have : (61 : UInt8).toNat = 61 := rfl; omega)
      have heq : (tb (P + K) != 61) = false := by rw [htb]; simp only [hA.eq]; rfl
      have hfin : r.isEmpty = true → P + (K + (V + 1)) = n := fun h => by have := hA.fin h; have := HN.out; omega
      have hmore : r.isEmpty = false → P + (K + (V + 1)) < n ∧ (tb (P + (K + (V + 1))) != 38) = false := fun h => by
        have h1 := hA.more h
        have h2 := HN.out
        refine ⟨by omega, ?_⟩
        rw [htb]; simp only [h1.2]; rfl
      clear htb hcell hbx hA
      obtain ⟨E, hEd⟩ : ∃ E, E = P + (K + (V + 1)) := ⟨_, rfl⟩
      rw [← hEd] at hE hamp hfin hmore
      have HED : Hid (E = P + (K + (V + 1))) := hEd
      have hPE : P + K < E := by omega
      have HALL : Hid ((∀ x, x < n → w.cell? ⟨g, x, none⟩ = some (.int .u8 (tb x))) ∧ (∀ x, P ≤ x → x < E → (tb x != 38) = true) ∧ (∀ x, P ≤ x → x < P + K → (tb x != 61) = true) ∧ (tb (P + K) != 61) = false ∧
        (r.isEmpty = true → E = n) ∧ (r.isEmpty = false → E < n ∧ (tb E != 38) = false)) := ⟨hcell', hamp, heqs, heq, hfin, hmore⟩
      clear hEd hcell' hamp heqs heq hfin hmore hi hp' hk' hip h1 h2
      go_wp2
      go_loop [16] (fun ev => ∃ e : Nat, ev = .int .i64 e ∧ P ≤ e ∧ e ≤ E) (fun ev => n - (intOf ev).toNat)
      case atStart => exact ⟨P, rfl, Nat.le_refl _, by omega⟩
      case round =>
        obtain ⟨e, rfl, he1, he2⟩ := hrel
        by_cases heE : e < E
        · have hce := HALL.out.1 e (by omega)
          have hne38 := HALL.out.2.1 e he1 heE
          go_wp2
          go_round
          case rel => exact ⟨e + 1, by go_num, by omega, by omega⟩
          case measure => simp [intOf]; omega
        · obtain rfl : E = e := by omega
          have hEc := HALL.out.1
          cases hr : r.isEmpty with
          | true =>
            have hfin' : n ≤ E := by have := HALL.out.2.2.2.2.1 hr; omega
            clear hEc
            go_wp2
            go_loop [17] (fun qv => ∃ q : Nat, qv = .int .i64 q ∧ P ≤ q ∧ q ≤ P + K) (fun qv => n - (intOf qv).toNat)
            case atStart => exact ⟨P, rfl, Nat.le_refl _, by omega⟩
            case round =>
              obtain ⟨q, rfl, hq1, hq2⟩ := hrel
              by_cases hqK : q < P + K
              · have hce := HALL.out.1 q (by omega)
                have hne61 := HALL.out.2.2.1 q hq1 hqK
                go_wp2
                go_round
                case rel => exact ⟨q + 1, by go_num, by omega, by omega⟩
                case measure => simp [intOf]; omega
              · obtain rfl : P + K = q := by omega
                have hce := HALL.out.1 (P + K) (by omega)
                have hne61 := HALL.out.2.2.2.1
                obtain ⟨X, hX⟩ : ∃ X, X = P + K := ⟨_, rfl⟩
                rw [← hX] at hce hne61 ⊢
                have HX : Hid (X = P + K) := hX
                have hXE : X < E := by omega
                have hXn' : X + 1 < n := by omega
                have hPX : P ≤ X := by omega
                clear hX hq1 hq2 hqK hPE he1 he2 heE hXn
                have hqE : ((X : Int) == (E : Int)) = false := by rw [beq_eq_false_iff_ne]; omega
                go_wp2
                obtain ⟨Y, hY⟩ : ∃ Y : Nat, Y = X + 1 := ⟨_, rfl⟩
                have HY : Hid (Y = X + 1) := hY
                have hY1 : (X : Int) + 1 = (Y : Int) := by omega
                have i1 : (X : Int) ≤ (c : Int) := by omega
                have i2 : (E : Int) ≤ (c : Int) := by omega
                have i3 : (Y : Int) ≤ (E : Int) := by omega
                have i5 : ¬ c = P := by omega
                have i6 : ¬ c = Y := by omega
                clear hY
                have hYw : IntKind.i64.wrap (Y : Int) = (Y : Int) := by rw [IntKind.wrap_i64]; omega
                have HSD : Hid ((j : Int) = d.length ∧ ((i : Int) % (peers : Int)) = p ∧ P = (pre d).length ∧ X - P = f.1.length ∧ Y = P + ((X - P) + 1) ∧ E - Y = f.2.length ∧ E - Y ≤ c - Y ∧ c - Y ≤ maxLen) := by
                  have a1 := HX.out; have a2 := HY.out; have a3 := HED.out; have a4 := HH.out; have a5 := hj.out; have a6 := HP'.out; have a7 := hP.out
                  unfold maxLen
                  refine ⟨by omega, a6, a7, by omega, by omega, by omega, by omega, by omega⟩
                go_quiet ((go_at_call 14; exact quiet_of' (HF d f r hfs.out _ _ _ _ _ _ _ _ _ _ HSD.out.1 HSD.out.2.1 HKW.out HSD.out.2.2.1 HSD.out.2.2.2.1 HSD.out.2.2.2.2.1 HSD.out.2.2.2.2.2.1 HSD.out.2.2.2.2.2.2.1 HSD.out.2.2.2.2.2.2.2 ⟨_, rfl⟩)))
                have hj9 : (j : Int) + 1 = 8 := by
                  have a1 := HL.out; have a2 := hj.out; have a3 := hfs.out
                  have a4 : r = [] := List.isEmpty_iff.1 hr
                  rw [a3, a4] at a1
                  rw [if_neg HIP.out] at a1
                  simp only [List.length_append, List.length_cons, List.length_nil] at a1
                  omega
                have hjb : (j : Int) ≤ 9 := by omega
                have hjw : ((j : Int) + 1 == 8) = true := by rw [beq_iff_eq]; exact hj9
                clear hj9
                go_wp2
                go_ret
                exact ⟨rfl, _, rfl⟩
          | false =>
            have hfin' : E < n := (HALL.out.2.2.2.2.2 hr).1
            have hE38 := (HALL.out.2.2.2.2.2 hr).2
            have hEcell := hEc E hfin'
            clear hEc
            go_wp2
            go_loop [17] (fun qv => ∃ q : Nat, qv = .int .i64 q ∧ P ≤ q ∧ q ≤ P + K) (fun qv => n - (intOf qv).toNat)
            case atStart => exact ⟨P, rfl, Nat.le_refl _, by omega⟩
            case round =>
              obtain ⟨q, rfl, hq1, hq2⟩ := hrel
              by_cases hqK : q < P + K
              · have hce := HALL.out.1 q (by omega)
                have hne61 := HALL.out.2.2.1 q hq1 hqK
                go_wp2
                go_round
                case rel => exact ⟨q + 1, by go_num, by omega, by omega⟩
                case measure => simp [intOf]; omega
              · obtain rfl : P + K = q := by omega
                have hce := HALL.out.1 (P + K) (by omega)
                have hne61 := HALL.out.2.2.2.1
                obtain ⟨X, hX⟩ : ∃ X, X = P + K := ⟨_, rfl⟩
                rw [← hX] at hce hne61 ⊢
                have HX : Hid (X = P + K) := hX
                have hXE : X < E := by omega
                have hXn' : X + 1 < n := by omega
                have hPX : P ≤ X := by omega
                clear hX hq1 hq2 hqK hPE he1 he2 heE hXn
                have hqE : ((X : Int) == (E : Int)) = false := by rw [beq_eq_false_iff_ne]; omega
                go_wp2
                obtain ⟨Y, hY⟩ : ∃ Y : Nat, Y = X + 1 := ⟨_, rfl⟩
                have HY : Hid (Y = X + 1) := hY
                have hY1 : (X : Int) + 1 = (Y : Int) := by omega
                have i1 : (X : Int) ≤ (c : Int) := by omega
                have i2 : (E : Int) ≤ (c : Int) := by omega
                have i3 : (Y : Int) ≤ (E : Int) := by omega
                have i5 : ¬ c = P := by omega
                have i6 : ¬ c = Y := by omega
                clear hY
                have hYw : IntKind.i64.wrap (Y : Int) = (Y : Int) := by rw [IntKind.wrap_i64]; omega
                have HSD : Hid ((j : Int) = d.length ∧ ((i : Int) % (peers : Int)) = p ∧ P = (pre d).length ∧ X - P = f.1.length ∧ Y = P + ((X - P) + 1) ∧ E - Y = f.2.length ∧ E - Y ≤ c - Y ∧ c - Y ≤ maxLen) := by
                  have a1 := HX.out; have a2 := HY.out; have a3 := HED.out; have a4 := HH.out; have a5 := hj.out; have a6 := HP'.out; have a7 := hP.out
                  unfold maxLen
                  refine ⟨by omega, a6, a7, by omega, by omega, by omega, by omega, by omega⟩
                go_quiet ((go_at_call 14; exact quiet_of' (HF d f r hfs.out _ _ _ _ _ _ _ _ _ _ HSD.out.1 HSD.out.2.1 HKW.out HSD.out.2.2.1 HSD.out.2.2.2.1 HSD.out.2.2.2.2.1 HSD.out.2.2.2.2.2.1 HSD.out.2.2.2.2.2.2.1 HSD.out.2.2.2.2.2.2.2 ⟨_, rfl⟩)))
                have hjb : (j : Int) ≤ 9 := by
                  have a1 := HL.out; have a2 := hj.out; have a3 := hfs.out
                  rw [a3] at a1
                  rw [if_neg HIP.out] at a1
                  simp only [List.length_append, List.length_cons] at a1
                  omega
                have hjl : j < fs.length := by
                  have a2 := hj.out
                  rw [hfs.out, List.length_append, List.length_cons]
                  omega
                go_wp2
                go_roundw
                case rel =>
                  have hrne : r ≠ [] := fun e => by rw [e] at hr; cases hr
                  obtain ⟨f', r', hr'⟩ : ∃ f' r', r = f' :: r' := by cases r with
                    | nil => exact absurd rfl hrne
                    | cons a b => exact ⟨a, b, rfl⟩
                  refine ⟨d ++ [f], f', r', _, E + 1, j + 1, ?_, ?_, ?_, ?_, ?_, rfl⟩
                  · show fs = d ++ [f] ++ f' :: r'
                    rw [hfs.out, hr']; simp
                  · show E + 1 = (pre (d ++ [f])).length
                    have a3 := HED.out; have a4 := HH.out; have a7 := hP.out
                    rw [pre_snoc_length]; omega
                  · show j + 1 = (d ++ [f]).length
                    have a5 := hj.out
                    simp; omega
                  · go_num
                  · go_num
                case measure => simp [intOf]; omega
end Go.Proofs.Qxb6003635aDoor
