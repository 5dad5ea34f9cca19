import Derived.Test.Qxb6003635aDoorB3
namespace Go.Proofs.Qxb6003635aDoor
open Go.RowKit Go.Sort
set_option linter.unusedVariables false

theorem room20_new (w : World) (t : TypeId) : Room20 (w.alloc (.cells #[.int .u8 0, .int .u8 0, .int .u8 0, .int .u8 0, .int .u8 0, .int .u8 0, .int .u8 0, .int .u8 0, .int .u8 0, .int .u8 0, .int .u8 0, .int .u8 0, .int .u8 0, .int .u8 0, .int .u8 0, .int .u8 0, .int .u8 0, .int .u8 0, .int .u8 0, .int .u8 0] t)) w.heap.size :=
  ⟨fun j hj => by rw [World.cell?_alloc_new, Array.getElem?_eq_getElem (by simpa using hj)]; rfl, fun j hj => World.frozen?_alloc_new _ _ _ _⟩

theorem decDigits_len20 (u : Nat) (h : u < 18446744073709551616) : (Lib.decDigits u).length ≤ 20 := by
  rw [Lib.decDigits_length]
  by_cases h0 : u = 0
  · subst h0; rw [Lib.nDigits_small (by omega)]; omega
  · have := Lib.numDigits_eq u (by omega) h; split at this <;> omega

theorem rowB_one (w : World) (c : UInt8) (t : TypeId) : RowB (w.alloc (.cells #[.int .u8 (c.toNat : Int)] t)) w.heap.size 0 [c] := fun j hj => by
  have : j = 0 := by simpa using hj
  subst this
  rw [World.cell?_alloc_new]
  rfl

theorem RowB.on {w w' : World} {g o : Nat} {l : List UInt8} (h : RowB w g o l) (hb : w'.heap[g]? = w.heap[g]?) : RowB w' g o l := fun j hj => by
  rw [World.cell?_of_block (w := w) (a := ⟨g, o + j, none⟩) hb]
  exact h j hj

set_option maxHeartbeats 2000000 in
theorem padded_any (B p : Nat) (hp : (p : Int) < 9223372036854775808) (v0 : Value) (l : List UInt8) (w : World) (hown : w.ownsRow B 5 1 v0 l.length (Lib.byteCells l)) (hB : B ≤ w.heap.size) (hlim : l.length ≤ 100000000) (htab : Lib.TabIs Tryd.prog w pow10Name .u64 Lib.pow10Tab) :
    Calls Tryd.prog 15 #[v0, .int .i64 p, .int .i64 12] w fun e w' => ∃ v', e = .returned v' ∧ Dst B w v0.ownBlock w' v' (l ++ pad12 p) := by
  have hL := decDigits_len20 p (by omega)
  have hL1 := decDigits_pos p
  have H := appInt_room w.heap.size p hp (w.alloc (.cells #[.int .u8 0, .int .u8 0, .int .u8 0, .int .u8 0, .int .u8 0, .int .u8 0, .int .u8 0, .int .u8 0, .int .u8 0, .int .u8 0, .int .u8 0, .int .u8 0, .int .u8 0, .int .u8 0, .int .u8 0, .int .u8 0, .int .u8 0, .int .u8 0, .int .u8 0, .int .u8 0] 44)) (by simp) (room20_new w 44) (Lib.tabIs_alloc htab _)
  obtain ⟨L, hLd⟩ : ∃ L, L = (Lib.decDigits p).length := ⟨_, rfl⟩
  rw [← hLd] at hL hL1 H
  have HLD : Hid (L = (Lib.decDigits p).length) := hLd
  clear hLd hp htab
  go_enter Tryd.func15, Tryd.ntmps15
  go_wp2_with fail
  refine H.mono ?_
  rintro e w1 ⟨rfl, hrow, hgr⟩
  have hb1 : Below w.heap.size w w1 := (below_alloc w _).grown hgr (by simp) (fun k hk => by cases hk; exact Nat.le_refl _)
  have hD1 := (Dst.start hown).on hb1
  have hlt1 : w.heap.size < w1.heap.size := by have := hgr.size; simp at this; omega
  have hv0 : v0.ownBlock ≠ some w.heap.size := fun e => by have := (hown.lt _ e).2; omega
  clear H hgr
  go_wp2
  go_loopw [0, 16] (fun dv iv wr => ∃ k : Nat, iv = .int .i64 k ∧ k ≤ 12 - L ∧ Dst B w v0.ownBlock wr dv (l ++ List.replicate k 48) ∧ RowB wr w.heap.size 0 (Lib.decDigits p) ∧ w.heap.size < wr.heap.size ∧ dv.ownBlock ≠ some w.heap.size) (fun _ iv _ => 12 - (intOf iv).toNat)
  case atStart => exact ⟨0, rfl, Nat.zero_le _, by simpa using hD1, hrow, hlt1, hv0⟩
  case round =>
    obtain ⟨k, rfl, hk, hD, hrowk, hltk, hvk⟩ := hrel
    have hBw : B ≤ wr.heap.size := Nat.le_trans hB hD.fr.size
    have hlk : (l ++ List.replicate k (48 : UInt8)).length ≤ 100000100 := by simp; omega
    by_cases hlt : k < 12 - L
    · have hlt' : (k : Int) < 12 - (L : Int) := by omega
      have hDa := hD.alloc (.cells #[.int .u8 48] 5)
      have hone := rowB_one wr 48 5
      go_wp2_with (at_builtin; refine wpList_dst_slice _ rfl _ _ rfl B _ _ rfl hDa.own wr.heap.size [48] 1 1 rfl rfl hone ?c2 ?c3 ?_)
      case c2 => omega
      case c3 => simp; omega
      intro v' w2 hd2
      have hD2 := hDa.trans hd2
      have hne : some w.heap.size ≠ Value.ownBlock _ := fun e => hvk e.symm
      have hblk : w2.heap[w.heap.size]? = wr.heap[w.heap.size]? := by
        rw [hd2.fr.block w.heap.size (by simp; omega) hne]
        exact (below_alloc wr _).block _ hltk
      have hrow2 := hrowk.on hblk
      have hsz2 := hd2.fr.size
      have hv2 : v'.ownBlock ≠ some w.heap.size := fun e => by
        rcases hd2.loc _ e with h1 | h1
        · exact hvk h1
        · simp at h1; omega
      go_wp2
      go_roundw
      case rel => exact ⟨k + 1, by go_num, by omega, by rw [List.replicate_succ', ← List.append_assoc]; first | exact hD2 | (rw [List.append_assoc]; exact hD2), hrow2, by simp at hsz2; omega, hv2⟩
      case measure => simp [intOf]; omega
    · have hlt' : ¬ (k : Int) < 12 - (L : Int) := by omega
      have ek : k = 12 - L := by omega
      go_wp2_with (at_builtin; refine wpList_dst_slice _ rfl _ _ rfl B _ _ rfl hD.own w.heap.size (Lib.decDigits p) L 20 rfl ?c1 hrowk ?c2 hBw ?_)
      case c1 => exact HLD.out.symm
      case c2 => omega
      intro v' w2 hd2
      have hD2 := hD.trans hd2
      go_wp2
      go_ret
      refine ⟨v', rfl, ?_⟩
      unfold pad12
      rw [← HLD.out]
      first | exact hD2 | (rw [← ek, ← List.append_assoc]; exact hD2)
end Go.Proofs.Qxb6003635aDoor
