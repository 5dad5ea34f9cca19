import Derived.Test.Qxb6003635aDoorB4
import Derived.Deep.RegionLaw
import Derived.Deep.CutRange
namespace Go.Proofs.Qxb6003635aDoor
open Go.RowKit Go.Sort
set_option linter.unusedVariables false

/-- 'dst = append(dst, s...)' as one step of a region that draws. -/
theorem step_dst_string {ops : Array Oper} {o : Oper} {a : Act} {w : World} {K : Act → World → Prop} {Q : Exit → Act → World → Prop} {E : Prop} (hg : o.guard = none) (sl x : Operand)
    (ho : o.op = .call { callee := .builtin .append, args := #[sl, x], argTypes := #[23, 9] })
    (B : Nat) (v : Value) (l : List UInt8) (hs : a.eval sl = v) (hown : w.ownsRow B 5 1 v l.length (Lib.byteCells l)) (s : ByteArray) (hx : a.eval x = .string s) (hbytes : l.length + s.size ≤ 140737488355328) (hbase : B ≤ w.heap.size)
    (hK : ∀ v' w', Dst B w v.ownBlock w' v' (l ++ s.data.toList) → K (a.put o.dst v') w') :
    if Region.wanted o (yielded ops a.tmps) = true then Oper.wp Tryd.prog o a w K Q else E := by
  have hw : Region.wanted o (yielded ops a.tmps) = true := by simp [Region.wanted, hg]
  rw [if_pos hw]
  obtain ⟨i0, hi, hz0, hz1, hz2⟩ := info_parts infoByte
  obtain ⟨v', w', hr, h2, h3, _⟩ := Lib.run_append_own_string (P := Tryd.prog) w B 23 9 o.type 5 i0 Tryd.underlying23 Tryd.underlying9 hi hz0 hz1 hz2 v l.length _ hown s (by unfold maxLen; omega) hbytes hbase
  have hl := append_loc (P := Tryd.prog) w 23 9 o.type 5 i0 _ Tryd.underlying23 hi hz0 hz1 hz2 v l.length _ hown (.string s) s.size _ (Src.ofString w Tryd.underlying9 s) (by unfold maxLen; omega) hbytes hr
  unfold Oper.wp
  simp only [execOp, ho, resolve, invoke, builtin, Sem.run_bind, Sem.run_pure, Result.andThen_ok, List.map_toArray, List.map_cons, List.map_nil, hs, hx, hr]
  refine hK v' w' ⟨?_, fun b hb => loc_of (hl b hb), h3⟩
  have e1 : Lib.byteCells (l ++ s.data.toList) = Lib.byteCells l ++ Lib.strCells s := by simp [Lib.byteCells, Lib.strCells]
  have e2 : (l ++ s.data.toList).length = l.length + s.size := by simp
  rw [e1, e2]
  exact h2

theorem wrap64_nat (k : Nat) (h : (k : Int) < 9223372036854775808) : wrap64 (k : Int) = (k : Int) := by unfold wrap64; omega

theorem int_lt_of_le {k i : Nat} (h : k ≤ i) (hi : (i : Int) < 9223372036854775808) : (k : Int) < 9223372036854775808 := by omega

theorem beq4_t {k : Nat} (h : k % 4 = 0) : ((k : Int) % 4 == 0) = true := by rw [beq_iff_eq]; omega
theorem beq4_f {k : Nat} (h : ¬ k % 4 = 0) : ((k : Int) % 4 == 0) = false := by rw [beq_eq_false_iff_ne]; omega

def txtA : List UInt8 := [105, 110, 102, 111, 95, 104, 97, 115, 104, 61]

def txtB : List UInt8 := [38, 112, 101, 101, 114, 95, 105, 100, 61, 45, 84, 76, 48, 48, 48, 49, 45]
def txtC : List UInt8 := [38, 112, 111, 114, 116, 61]
def txtD : List UInt8 := [38, 117, 112, 108, 111, 97, 100, 101, 100, 61, 48, 38, 100, 111, 119, 110, 108, 111, 97, 100, 101, 100, 61, 48, 38, 108, 101, 102, 116, 61]
def txtE : List UInt8 := [38, 99, 111, 109, 112, 97, 99, 116, 61, 49, 38, 110, 117, 109, 119, 97, 110, 116, 61]
def txtF : List UInt8 := [38, 101, 118, 101, 110, 116, 61, 115, 116, 97, 114, 116, 101, 100]

theorem ownsRow_drew {w : World} {B : Nat} {v : Value} {n : Nat} {xs : List Value} (h : w.ownsRow B 5 1 v n xs) : w.drew.ownsRow B 5 1 v n xs := h

theorem below_drew (w : World) : Below w.heap.size w w.drew := (Below.refl _ w).drew

theorem pad12_le (u : Nat) (h : u < 18446744073709551616) : (pad12 u).length ≤ 20 := by
  have := decDigits_len20 u h
  unfold pad12
  rw [List.length_append, List.length_replicate]
  omega

theorem toNat_port (k : Nat) : (1024 + (k : Int) % 60000).toNat = 1024 + k % 60000 := by omega

theorem Dst.cellOf {B : Nat} {W w : World} {D : Option Nat} {v : Value} {l : List UInt8} (h : Dst B W D w v l) {b o : Nat} {x : Value} (hc : W.cell? ⟨b, o, none⟩ = some x) (hD : D ≠ some b) : w.cell? ⟨b, o, none⟩ = some x :=
  h.fr.cell hc (fun e => hD e.symm)

set_option maxHeartbeats 4000000 in
set_option maxRecDepth 100000 in
theorem qappend_any (B gq gh oh nh ch : Nat) (ss : List ByteArray) (peers torrents i : Nat) (v0 : Value) (l : List UInt8) (w : World)
    (q0 : w.cell? ⟨gq, 0, none⟩ = some (.int .i64 peers)) (q1 : w.cell? ⟨gq, 1, none⟩ = some (.int .i64 torrents)) (q2 : w.cell? ⟨gq, 2, none⟩ = some (.slice (some ⟨gh, oh, none⟩) nh ch))
    (hgq : v0.ownBlock ≠ some gq) (hgh : v0.ownBlock ≠ some gh) (hss : ss.length = nh) (hrow : RowS w gh oh ss) (h1 : 1 ≤ peers) (h2 : 1 ≤ torrents) (h3 : torrents ≤ nh) (hnh : nh ≤ 10000000) (hi : (i : Int) < 9223372036854775808)
    (hown : w.ownsRow B 5 1 v0 l.length (Lib.byteCells l)) (hB : B ≤ w.heap.size) (hlim : l.length ≤ 10000000) (htab : Lib.TabBelow Tryd.prog B w pow10Name .u64 Lib.pow10Tab)
    (s : ByteArray) (hs : s = ss.getD (i % peers % torrents) ByteArray.empty) (hsl : s.size ≤ 10000000)
    (T : List UInt8) (HT : Hid (T = l ++ (txtA ++ s.data.toList) ++ txtB ++ pad12 (i % peers) ++ txtC ++ Lib.decDigits (1024 + (i % peers / torrents) % 60000) ++ txtD ++ Lib.decDigits (if (i % peers / torrents) % 4 = 0 then 0 else 1048576) ++ txtE ++ Lib.decDigits 50 ++ if i < peers then txtF else [])) :
    Calls Tryd.prog 13 #[.pointer (some ⟨gq, 0, none⟩), v0, .int .i64 i] w fun e w' => ∃ v', e = .returned v' ∧ Dst B w v0.ownBlock w' v' T := by
  obtain ⟨p, hp⟩ : ∃ p, p = i % peers := ⟨_, rfl⟩
  obtain ⟨k, hk⟩ : ∃ k, k = p / torrents := ⟨_, rfl⟩
  obtain ⟨r, hr⟩ : ∃ r, r = p % torrents := ⟨_, rfl⟩
  have hp' : ((i : Int) % (peers : Int)) = (p : Int) := by rw [hp]; omega
  have hk' : ((p : Int) / (torrents : Int)) = (k : Int) := by rw [hk]; omega
  have hr' : ((p : Int) % (torrents : Int)) = (r : Int) := by rw [hr]; omega
  have hlt : r < torrents := by rw [hr]; exact Nat.mod_lt _ (by omega)
  have hck : w.cell? ⟨gh, oh + r, none⟩ = some (.string s) := by
    have := hrow r (by omega)
    rw [this, hs, ← hp, ← hr]
  have hpi : p ≤ i := by rw [hp]; exact Nat.mod_le _ _
  have hkp : k ≤ p := by rw [hk]; exact Nat.div_le_self _ _
  have hkw : wrap64 (k : Int) = (k : Int) := wrap64_nat k (int_lt_of_le (Nat.le_trans hkp hpi) hi)
  have HI : Hid ((i : Int) < 9223372036854775808) := hi
  have HP : Hid (((i : Int) % (peers : Int)) = (p : Int)) := hp'
  have HK : Hid (wrap64 ((p : Int).tdiv (torrents : Int)) = (k : Int)) := by
    show wrap64 ((p : Int).tdiv (torrents : Int)) = (k : Int)
    rw [Int.tdiv_eq_ediv_of_nonneg (Int.natCast_nonneg p), hk', hkw]
  have HR : Hid (((p : Int) % (torrents : Int)) = (r : Int)) := hr'
  have HPI : Hid (p = i % peers) := hp
  have HKI : Hid (k = p / torrents) := hk
  have hpb : (p : Int) < 9223372036854775808 := int_lt_of_le hpi hi
  have HPB : Hid ((p : Int) < 9223372036854775808) := hpb
  have hDo : ∀ b, v0.ownBlock = some b → B ≤ b := fun b hb => (hown.lt b hb).1
  clear hp hk hr hs hrow hi hp' hk' hr' hkw hpb
  by_cases hk4 : k % 4 = 0
  · have hk4' : ((k : Int) % 4 == 0) = true := beq4_t hk4
    go_enter Tryd.func13, Tryd.ntmps13
    go_upto_region 3 with fail
    rw [HP.out, HK.out]
    go_upto_region 6 with fail
    go_upto_region 7 with (at_builtin; refine wpList_dst_string _ rfl _ _ rfl B _ l rfl hown _ rfl ?c1 hB ?_)
    case c1 => simp [ByteArray.size]; omega
    intro v1 w1 hD1
    have q0a := hD1.cellOf q0 hgq
    have q1a := hD1.cellOf q1 hgq
    have q2a := hD1.cellOf q2 hgq
    have hcka := hD1.cellOf hck hgh
    go_upto_region 7 with fail
    go_cut [1] from 29 to 43 (fun dv wc => Dst B w v0.ownBlock wc dv (l ++ (txtA ++ s.data.toList)))
    case first =>
      have hrr : ((p : Int).tmod (torrents : Int)) = (r : Int) := by rw [Int.tmod_eq_emod_of_nonneg (Int.natCast_nonneg p)]; exact HR.out
      have ht0 : ¬ torrents = 0 := by omega
      have hrn : r < nh := by omega
      go_region_law (refine step_dst_string rfl (.tmp 29) (.tmp 42) rfl B v1 (l ++ txtA) (by simp [Act.eval]) (ownsRow_drew hD1.own) s (by simp [Act.eval]) (by simp [txtA]; omega) (by have := hD1.fr.size; simp; omega) ?_; intro v2 w2 hD2)
      all_goals
        go_wp2_with fail
        go_meet
        case rel =>
          have hx := (hD1.on (below_drew w1)).trans hD2
          rw [List.append_assoc] at hx
          exact hx
    case rest =>
      have hD2 := hcut
      obtain ⟨L2, hL2⟩ : ∃ L, L = l ++ (txtA ++ s.data.toList) := ⟨_, rfl⟩
      rw [show l ++ (txtA ++ s.data.toList) = L2 from hL2.symm] at hD2
      have HL2 : Hid (L2 = l ++ (txtA ++ s.data.toList)) := hL2
      have hl2 : L2.length ≤ 20000100 := by rw [hL2]; simp [txtA]; omega
      clear hL2 hcut hD1 q1a q2a hcka q0a
      have hk1 : 0 ≤ (k : Int) % 60000 := by omega
      have hk2 : (k : Int) % 60000 < 60000 := by omega
      have HKM : Hid ((1024 + (k : Int) % 60000).toNat = 1024 + k % 60000) := toNat_port k
      clear hk4' hkp hpi hlt
      go_wp2_with (at_builtin; refine wpList_dst_string _ rfl _ _ rfl B _ L2 rfl hD2.own _ rfl ?c1 ?c2 ?_)
      case c1 => simp [ByteArray.size]; omega
      case c2 => exact Nat.le_trans hB hD2.fr.size
      intro v3 w3 hd3
      change Dst B _ _ _ _ (L2 ++ txtB) at hd3
      have hD3 := hD2.trans hd3
      obtain ⟨L3, hL3⟩ : ∃ L, L = L2 ++ txtB := ⟨_, rfl⟩
      rw [show L2 ++ txtB = L3 from hL3.symm] at hD3
      have HL3 : Hid (L3 = L2 ++ txtB) := hL3
      have hl3 : L3.length ≤ 20000200 := by rw [hL3, List.length_append]; simp [txtB]; omega
      clear hL3 hd3 hD2
      have hT3 := (htab.on (hD3.below hB hDo)).here
      have hB3 : B ≤ w3.heap.size := Nat.le_trans hB hD3.fr.size
      have hC3 := padded_any B p HPB.out v3 L3 w3 hD3.own hB3 (by omega) hT3
      clear hT3
      go_wp2_with (go_at_call 15; refine hC3.mono ?_; rintro e w4 ⟨v4, rfl, hd4⟩; refine Hid.out ?_)
      refine Lib.hid ?_
      clear hC3
      change Dst B _ _ _ _ (L3 ++ pad12 p) at hd4
      have hD4 := hD3.trans hd4
      obtain ⟨L4, hL4⟩ : ∃ L, L = L3 ++ pad12 p := ⟨_, rfl⟩
      rw [show L3 ++ pad12 p = L4 from hL4.symm] at hD4
      have HL4 : Hid (L4 = L3 ++ pad12 p) := hL4
      have hl4 : L4.length ≤ 20000300 := by rw [hL4, List.length_append]; have := pad12_le p (by have := HPB.out; omega); omega
      clear hL4 hd4 hD3
      go_wp2_with (at_builtin; refine wpList_dst_string _ rfl _ _ rfl B _ L4 rfl hD4.own _ rfl ?c1 ?c2 ?_)
      case c1 => simp [ByteArray.size]; omega
      case c2 => exact Nat.le_trans hB hD4.fr.size
      intro v5 w5 hd5
      change Dst B _ _ _ _ (L4 ++ txtC) at hd5
      have hD5 := hD4.trans hd5
      obtain ⟨L5, hL5⟩ : ∃ L, L = L4 ++ txtC := ⟨_, rfl⟩
      rw [show L4 ++ txtC = L5 from hL5.symm] at hD5
      have HL5 : Hid (L5 = L4 ++ txtC) := hL5
      have hl5 : L5.length ≤ 20000400 := by rw [hL5, List.length_append]; simp [txtC]; omega
      clear hL5 hd5 hD4
      have hT5 := (htab.on (hD5.below hB hDo)).here
      have hB5 : B ≤ w5.heap.size := Nat.le_trans hB hD5.fr.size
      have hC5 := dstInt B (1024 + (k : Int) % 60000) (by omega) (by omega) v5 L5 w5 hD5.own hB5 (by omega) hT5
      clear hT5
      go_wp2_with (go_at_call 16; refine hC5.mono ?_; rintro e w6 ⟨v6, rfl, hd6⟩; refine Hid.out ?_)
      refine Lib.hid ?_
      clear hC5
      change Dst B _ _ _ _ (L5 ++ Lib.decDigits (1024 + (k : Int) % 60000).toNat) at hd6
      have hD6 := hD5.trans hd6
      obtain ⟨L6, hL6⟩ : ∃ L, L = L5 ++ Lib.decDigits (1024 + (k : Int) % 60000).toNat := ⟨_, rfl⟩
      rw [show L5 ++ Lib.decDigits (1024 + (k : Int) % 60000).toNat = L6 from hL6.symm] at hD6
      have HL6 : Hid (L6 = L5 ++ Lib.decDigits (1024 + (k : Int) % 60000).toNat) := hL6
      have hl6 : L6.length ≤ 20000500 := by rw [hL6, List.length_append]; have := decDigits_len20 (1024 + (k : Int) % 60000).toNat (by omega); omega
      clear hL6 hd6 hD5
      go_wp2_with (at_builtin; refine wpList_dst_string _ rfl _ _ rfl B _ L6 rfl hD6.own _ rfl ?c1 ?c2 ?_)
      case c1 => simp [ByteArray.size]; omega
      case c2 => exact Nat.le_trans hB hD6.fr.size
      intro v7 w7 hd7
      change Dst B _ _ _ _ (L6 ++ txtD) at hd7
      have hD7 := hD6.trans hd7
      obtain ⟨L7, hL7⟩ : ∃ L, L = L6 ++ txtD := ⟨_, rfl⟩
      rw [show L6 ++ txtD = L7 from hL7.symm] at hD7
      have HL7 : Hid (L7 = L6 ++ txtD) := hL7
      have hl7 : L7.length ≤ 20000600 := by rw [hL7, List.length_append]; simp [txtD]; omega
      clear hL7 hd7 hD6
      have hT7 := (htab.on (hD7.below hB hDo)).here
      have hB7 : B ≤ w7.heap.size := Nat.le_trans hB hD7.fr.size
      have hC7 := dstInt B 0 (by omega) (by omega) v7 L7 w7 hD7.own hB7 (by omega) hT7
      clear hT7
      go_wp2_with (go_at_call 16; refine hC7.mono ?_; rintro e w8 ⟨v8, rfl, hd8⟩; refine Hid.out ?_)
      refine Lib.hid ?_
      clear hC7
      change Dst B _ _ _ _ (L7 ++ Lib.decDigits 0) at hd8
      have hD8 := hD7.trans hd8
      obtain ⟨L8, hL8⟩ : ∃ L, L = L7 ++ Lib.decDigits 0 := ⟨_, rfl⟩
      rw [show L7 ++ Lib.decDigits 0 = L8 from hL8.symm] at hD8
      have HL8 : Hid (L8 = L7 ++ Lib.decDigits 0) := hL8
      have hl8 : L8.length ≤ 20000700 := by rw [hL8, List.length_append]; have := decDigits_len20 0 (by omega); omega
      clear hL8 hd8 hD7
      go_wp2_with (at_builtin; refine wpList_dst_string _ rfl _ _ rfl B _ L8 rfl hD8.own _ rfl ?c1 ?c2 ?_)
      case c1 => simp [ByteArray.size]; omega
      case c2 => exact Nat.le_trans hB hD8.fr.size
      intro v9 w9 hd9
      change Dst B _ _ _ _ (L8 ++ txtE) at hd9
      have hD9 := hD8.trans hd9
      obtain ⟨L9, hL9⟩ : ∃ L, L = L8 ++ txtE := ⟨_, rfl⟩
      rw [show L8 ++ txtE = L9 from hL9.symm] at hD9
      have HL9 : Hid (L9 = L8 ++ txtE) := hL9
      have hl9 : L9.length ≤ 20000800 := by rw [hL9, List.length_append]; simp [txtE]; omega
      clear hL9 hd9 hD8
      have hT9 := (htab.on (hD9.below hB hDo)).here
      have hB9 : B ≤ w9.heap.size := Nat.le_trans hB hD9.fr.size
      have hC9 := dstInt B 50 (by omega) (by omega) v9 L9 w9 hD9.own hB9 (by omega) hT9
      clear hT9
      go_wp2_with (go_at_call 16; refine hC9.mono ?_; rintro e w10 ⟨v10, rfl, hd10⟩; refine Hid.out ?_)
      refine Lib.hid ?_
      clear hC9
      change Dst B _ _ _ _ (L9 ++ Lib.decDigits 50) at hd10
      have hD10 := hD9.trans hd10
      obtain ⟨L10, hL10⟩ : ∃ L, L = L9 ++ Lib.decDigits 50 := ⟨_, rfl⟩
      rw [show L9 ++ Lib.decDigits 50 = L10 from hL10.symm] at hD10
      have HL10 : Hid (L10 = L9 ++ Lib.decDigits 50) := hL10
      have hl10 : L10.length ≤ 20000900 := by rw [hL10, List.length_append]; have := decDigits_len20 50 (by omega); omega
      clear hL10 hd10 hD9
      have q0z := hD10.cellOf q0 hgq
      by_cases hip : i < peers
      · have HIP : Hid (i < peers) := hip
        go_wp2_with (at_builtin; refine wpList_dst_string _ rfl _ _ rfl B _ L10 rfl hD10.own _ rfl ?c1 ?c2 ?_)
        case c1 => simp [ByteArray.size]; omega
        case c2 => exact Nat.le_trans hB hD10.fr.size
        intro v11 w11 hd11
        have hD11 := hD10.trans hd11
        go_wp2
        go_ret
        refine ⟨v11, rfl, ?_⟩
        rw [HT.out, if_pos HIP.out, ← HPI.out, ← HKI.out, if_pos hk4, ← HKM.out, ← HL2.out, ← HL3.out, ← HL4.out, ← HL5.out, ← HL6.out, ← HL7.out, ← HL8.out, ← HL9.out, ← HL10.out]
        exact hD11
      · have HIP : Hid (¬ i < peers) := hip
        go_wp2
        go_ret
        refine ⟨v10, rfl, ?_⟩
        rw [HT.out, if_neg HIP.out, ← HPI.out, ← HKI.out, if_pos hk4, ← HKM.out, ← HL2.out, ← HL3.out, ← HL4.out, ← HL5.out, ← HL6.out, ← HL7.out, ← HL8.out, ← HL9.out, ← HL10.out, List.append_nil]
        exact hD10
  · have hk4' : ((k : Int) % 4 == 0) = false := beq4_f hk4
    go_enter Tryd.func13, Tryd.ntmps13
    go_upto_region 3 with fail
    rw [HP.out, HK.out]
    go_upto_region 6 with fail
    go_upto_region 7 with (at_builtin; refine wpList_dst_string _ rfl _ _ rfl B _ l rfl hown _ rfl ?c1 hB ?_)
    case c1 => simp [ByteArray.size]; omega
    intro v1 w1 hD1
    have q0a := hD1.cellOf q0 hgq
    have q1a := hD1.cellOf q1 hgq
    have q2a := hD1.cellOf q2 hgq
    have hcka := hD1.cellOf hck hgh
    go_upto_region 7 with fail
    go_cut [1] from 29 to 43 (fun dv wc => Dst B w v0.ownBlock wc dv (l ++ (txtA ++ s.data.toList)))
    case first =>
      have hrr : ((p : Int).tmod (torrents : Int)) = (r : Int) := by rw [Int.tmod_eq_emod_of_nonneg (Int.natCast_nonneg p)]; exact HR.out
      have ht0 : ¬ torrents = 0 := by omega
      have hrn : r < nh := by omega
      go_region_law (refine step_dst_string rfl (.tmp 29) (.tmp 42) rfl B v1 (l ++ txtA) (by simp [Act.eval]) (ownsRow_drew hD1.own) s (by simp [Act.eval]) (by simp [txtA]; omega) (by have := hD1.fr.size; simp; omega) ?_; intro v2 w2 hD2)
      all_goals
        go_wp2_with fail
        go_meet
        case rel =>
          have hx := (hD1.on (below_drew w1)).trans hD2
          rw [List.append_assoc] at hx
          exact hx
    case rest =>
      have hD2 := hcut
      obtain ⟨L2, hL2⟩ : ∃ L, L = l ++ (txtA ++ s.data.toList) := ⟨_, rfl⟩
      rw [show l ++ (txtA ++ s.data.toList) = L2 from hL2.symm] at hD2
      have HL2 : Hid (L2 = l ++ (txtA ++ s.data.toList)) := hL2
      have hl2 : L2.length ≤ 20000100 := by rw [hL2]; simp [txtA]; omega
      clear hL2 hcut hD1 q1a q2a hcka q0a
      have hk1 : 0 ≤ (k : Int) % 60000 := by omega
      have hk2 : (k : Int) % 60000 < 60000 := by omega
      have HKM : Hid ((1024 + (k : Int) % 60000).toNat = 1024 + k % 60000) := toNat_port k
      clear hk4' hkp hpi hlt
      go_wp2_with (at_builtin; refine wpList_dst_string _ rfl _ _ rfl B _ L2 rfl hD2.own _ rfl ?c1 ?c2 ?_)
      case c1 => simp [ByteArray.size]; omega
      case c2 => exact Nat.le_trans hB hD2.fr.size
      intro v3 w3 hd3
      change Dst B _ _ _ _ (L2 ++ txtB) at hd3
      have hD3 := hD2.trans hd3
      obtain ⟨L3, hL3⟩ : ∃ L, L = L2 ++ txtB := ⟨_, rfl⟩
      rw [show L2 ++ txtB = L3 from hL3.symm] at hD3
      have HL3 : Hid (L3 = L2 ++ txtB) := hL3
      have hl3 : L3.length ≤ 20000200 := by rw [hL3, List.length_append]; simp [txtB]; omega
      clear hL3 hd3 hD2
      have hT3 := (htab.on (hD3.below hB hDo)).here
      have hB3 : B ≤ w3.heap.size := Nat.le_trans hB hD3.fr.size
      have hC3 := padded_any B p HPB.out v3 L3 w3 hD3.own hB3 (by omega) hT3
      clear hT3
      go_wp2_with (go_at_call 15; refine hC3.mono ?_; rintro e w4 ⟨v4, rfl, hd4⟩; refine Hid.out ?_)
      refine Lib.hid ?_
      clear hC3
      change Dst B _ _ _ _ (L3 ++ pad12 p) at hd4
      have hD4 := hD3.trans hd4
      obtain ⟨L4, hL4⟩ : ∃ L, L = L3 ++ pad12 p := ⟨_, rfl⟩
      rw [show L3 ++ pad12 p = L4 from hL4.symm] at hD4
      have HL4 : Hid (L4 = L3 ++ pad12 p) := hL4
      have hl4 : L4.length ≤ 20000300 := by rw [hL4, List.length_append]; have := pad12_le p (by have := HPB.out; omega); omega
      clear hL4 hd4 hD3
      go_wp2_with (at_builtin; refine wpList_dst_string _ rfl _ _ rfl B _ L4 rfl hD4.own _ rfl ?c1 ?c2 ?_)
      case c1 => simp [ByteArray.size]; omega
      case c2 => exact Nat.le_trans hB hD4.fr.size
      intro v5 w5 hd5
      change Dst B _ _ _ _ (L4 ++ txtC) at hd5
      have hD5 := hD4.trans hd5
      obtain ⟨L5, hL5⟩ : ∃ L, L = L4 ++ txtC := ⟨_, rfl⟩
      rw [show L4 ++ txtC = L5 from hL5.symm] at hD5
      have HL5 : Hid (L5 = L4 ++ txtC) := hL5
      have hl5 : L5.length ≤ 20000400 := by rw [hL5, List.length_append]; simp [txtC]; omega
      clear hL5 hd5 hD4
      have hT5 := (htab.on (hD5.below hB hDo)).here
      have hB5 : B ≤ w5.heap.size := Nat.le_trans hB hD5.fr.size
      have hC5 := dstInt B (1024 + (k : Int) % 60000) (by omega) (by omega) v5 L5 w5 hD5.own hB5 (by omega) hT5
      clear hT5
      go_wp2_with (go_at_call 16; refine hC5.mono ?_; rintro e w6 ⟨v6, rfl, hd6⟩; refine Hid.out ?_)
      refine Lib.hid ?_
      clear hC5
      change Dst B _ _ _ _ (L5 ++ Lib.decDigits (1024 + (k : Int) % 60000).toNat) at hd6
      have hD6 := hD5.trans hd6
      obtain ⟨L6, hL6⟩ : ∃ L, L = L5 ++ Lib.decDigits (1024 + (k : Int) % 60000).toNat := ⟨_, rfl⟩
      rw [show L5 ++ Lib.decDigits (1024 + (k : Int) % 60000).toNat = L6 from hL6.symm] at hD6
      have HL6 : Hid (L6 = L5 ++ Lib.decDigits (1024 + (k : Int) % 60000).toNat) := hL6
      have hl6 : L6.length ≤ 20000500 := by rw [hL6, List.length_append]; have := decDigits_len20 (1024 + (k : Int) % 60000).toNat (by omega); omega
      clear hL6 hd6 hD5
      go_wp2_with (at_builtin; refine wpList_dst_string _ rfl _ _ rfl B _ L6 rfl hD6.own _ rfl ?c1 ?c2 ?_)
      case c1 => simp [ByteArray.size]; omega
      case c2 => exact Nat.le_trans hB hD6.fr.size
      intro v7 w7 hd7
      change Dst B _ _ _ _ (L6 ++ txtD) at hd7
      have hD7 := hD6.trans hd7
      obtain ⟨L7, hL7⟩ : ∃ L, L = L6 ++ txtD := ⟨_, rfl⟩
      rw [show L6 ++ txtD = L7 from hL7.symm] at hD7
      have HL7 : Hid (L7 = L6 ++ txtD) := hL7
      have hl7 : L7.length ≤ 20000600 := by rw [hL7, List.length_append]; simp [txtD]; omega
      clear hL7 hd7 hD6
      have hT7 := (htab.on (hD7.below hB hDo)).here
      have hB7 : B ≤ w7.heap.size := Nat.le_trans hB hD7.fr.size
      have hC7 := dstInt B 1048576 (by omega) (by omega) v7 L7 w7 hD7.own hB7 (by omega) hT7
      clear hT7
      go_wp2_with (go_at_call 16; refine hC7.mono ?_; rintro e w8 ⟨v8, rfl, hd8⟩; refine Hid.out ?_)
      refine Lib.hid ?_
      clear hC7
      change Dst B _ _ _ _ (L7 ++ Lib.decDigits 1048576) at hd8
      have hD8 := hD7.trans hd8
      obtain ⟨L8, hL8⟩ : ∃ L, L = L7 ++ Lib.decDigits 1048576 := ⟨_, rfl⟩
      rw [show L7 ++ Lib.decDigits 1048576 = L8 from hL8.symm] at hD8
      have HL8 : Hid (L8 = L7 ++ Lib.decDigits 1048576) := hL8
      have hl8 : L8.length ≤ 20000700 := by rw [hL8, List.length_append]; have := decDigits_len20 1048576 (by omega); omega
      clear hL8 hd8 hD7
      go_wp2_with (at_builtin; refine wpList_dst_string _ rfl _ _ rfl B _ L8 rfl hD8.own _ rfl ?c1 ?c2 ?_)
      case c1 => simp [ByteArray.size]; omega
      case c2 => exact Nat.le_trans hB hD8.fr.size
      intro v9 w9 hd9
      change Dst B _ _ _ _ (L8 ++ txtE) at hd9
      have hD9 := hD8.trans hd9
      obtain ⟨L9, hL9⟩ : ∃ L, L = L8 ++ txtE := ⟨_, rfl⟩
      rw [show L8 ++ txtE = L9 from hL9.symm] at hD9
      have HL9 : Hid (L9 = L8 ++ txtE) := hL9
      have hl9 : L9.length ≤ 20000800 := by rw [hL9, List.length_append]; simp [txtE]; omega
      clear hL9 hd9 hD8
      have hT9 := (htab.on (hD9.below hB hDo)).here
      have hB9 : B ≤ w9.heap.size := Nat.le_trans hB hD9.fr.size
      have hC9 := dstInt B 50 (by omega) (by omega) v9 L9 w9 hD9.own hB9 (by omega) hT9
      clear hT9
      go_wp2_with (go_at_call 16; refine hC9.mono ?_; rintro e w10 ⟨v10, rfl, hd10⟩; refine Hid.out ?_)
      refine Lib.hid ?_
      clear hC9
      change Dst B _ _ _ _ (L9 ++ Lib.decDigits 50) at hd10
      have hD10 := hD9.trans hd10
      obtain ⟨L10, hL10⟩ : ∃ L, L = L9 ++ Lib.decDigits 50 := ⟨_, rfl⟩
      rw [show L9 ++ Lib.decDigits 50 = L10 from hL10.symm] at hD10
      have HL10 : Hid (L10 = L9 ++ Lib.decDigits 50) := hL10
      have hl10 : L10.length ≤ 20000900 := by rw [hL10, List.length_append]; have := decDigits_len20 50 (by omega); omega
      clear hL10 hd10 hD9
      have q0z := hD10.cellOf q0 hgq
      by_cases hip : i < peers
      · have HIP : Hid (i < peers) := hip
        go_wp2_with (at_builtin; refine wpList_dst_string _ rfl _ _ rfl B _ L10 rfl hD10.own _ rfl ?c1 ?c2 ?_)
        case c1 => simp [ByteArray.size]; omega
        case c2 => exact Nat.le_trans hB hD10.fr.size
        intro v11 w11 hd11
        have hD11 := hD10.trans hd11
        go_wp2
        go_ret
        refine ⟨v11, rfl, ?_⟩
        rw [HT.out, if_pos HIP.out, ← HPI.out, ← HKI.out, if_neg hk4, ← HKM.out, ← HL2.out, ← HL3.out, ← HL4.out, ← HL5.out, ← HL6.out, ← HL7.out, ← HL8.out, ← HL9.out, ← HL10.out]
        exact hD11
      · have HIP : Hid (¬ i < peers) := hip
        go_wp2
        go_ret
        refine ⟨v10, rfl, ?_⟩
        rw [HT.out, if_neg HIP.out, ← HPI.out, ← HKI.out, if_neg hk4, ← HKM.out, ← HL2.out, ← HL3.out, ← HL4.out, ← HL5.out, ← HL6.out, ← HL7.out, ← HL8.out, ← HL9.out, ← HL10.out, List.append_nil]
        exact hD10
end Go.Proofs.Qxb6003635aDoor
