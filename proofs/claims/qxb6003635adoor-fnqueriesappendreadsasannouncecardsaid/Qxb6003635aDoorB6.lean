import Derived.Test.Qxb6003635aDoorB5
namespace Go.Proofs.Qxb6003635aDoor
open Go.RowKit Go.Sort
set_option linter.unusedVariables false

/-- The announce's fields, as the population documents them. -/
def annFields (h : List UInt8) (p k : Nat) (first : Prop) [Decidable first] : List (List UInt8 × List UInt8) :=
  [(key0, h), (key1, tl ++ pad12 p), (key2, Lib.decDigits (1024 + k % 60000)), (key3, [48]), (key4, [48]), (key5, Lib.decDigits (if k % 4 = 0 then 0 else 1048576)), (key6, [49]), (key7, Lib.decDigits 50)] ++ if first then [(key8, valStarted)] else []

theorem ann_text (l h : List UInt8) (p k : Nat) (first : Prop) [Decidable first] :
    l ++ (txtA ++ h) ++ txtB ++ pad12 p ++ txtC ++ Lib.decDigits (1024 + k % 60000) ++ txtD ++ Lib.decDigits (if k % 4 = 0 then 0 else 1048576) ++ txtE ++ Lib.decDigits 50 ++ (if first then txtF else []) = l ++ txt (annFields h p k first) := by
  unfold annFields
  generalize pad12 p = a
  generalize Lib.decDigits (1024 + k % 60000) = b
  generalize Lib.decDigits (if k % 4 = 0 then 0 else 1048576) = c
  generalize Lib.decDigits 50 = d
  by_cases hf : first
  · rw [if_pos hf, if_pos hf]
    simp [txt, fld, key0, key1, key2, key3, key4, key5, key6, key7, key8, valStarted, tl, txtA, txtB, txtC, txtD, txtE, txtF]
  · rw [if_neg hf, if_neg hf]
    simp [txt, fld, key0, key1, key2, key3, key4, key5, key6, key7, tl, txtA, txtB, txtC, txtD, txtE]

set_option maxHeartbeats 1000000 in
set_option maxRecDepth 100000 in
theorem zzq_any (B gh oh nh ch : Nat) (ss : List ByteArray) (peers torrents i : Nat) (v0 : Value) (l : List UInt8) (w : World)
    (hgh : v0.ownBlock ≠ some gh) (hghw : gh < w.heap.size) (hss : ss.length = nh) (hrow : RowS w gh oh ss) (h1 : 1 ≤ peers) (h2 : 1 ≤ torrents) (h3 : torrents ≤ nh) (hnh : nh ≤ 10000000) (hi : (i : Int) < 9223372036854775808)
    (hown : w.ownsRow B 5 1 v0 l.length (Lib.byteCells l)) (hB : B ≤ w.heap.size) (hlim : l.length ≤ 10000000) (htab : Lib.TabBelow Tryd.prog B w pow10Name .u64 Lib.pow10Tab)
    (s : ByteArray) (hs : s = ss.getD (i % peers % torrents) ByteArray.empty) (hsl : s.size ≤ 10000000)
    (T : List UInt8) (HT : Hid (T = l ++ txt (annFields s.data.toList (i % peers) (i % peers / torrents) (i < peers)))) :
    Calls Tryd.prog 9 #[.int .i64 peers, .int .i64 torrents, .slice (some ⟨gh, oh, none⟩) nh ch, v0, .int .i64 i] w fun e w' => ∃ v', e = .returned v' ∧ Dst B w v0.ownBlock w' v' T := by
  have hb := below_alloc w (.cells #[.int .i64 peers, .int .i64 torrents, .slice (some ⟨gh, oh, none⟩) nh ch] 35)
  have hD := (Dst.start hown).on hb
  have hv0 : v0.ownBlock ≠ some w.heap.size := fun e => by have := (hown.lt _ e).2; omega
  have H := qappend_any B w.heap.size gh oh nh ch ss peers torrents i v0 l (w.alloc (.cells #[.int .i64 peers, .int .i64 torrents, .slice (some ⟨gh, oh, none⟩) nh ch] 35))
    (by rw [World.cell?_alloc_new]; rfl) (by rw [World.cell?_alloc_new]; rfl) (by rw [World.cell?_alloc_new]; rfl) hv0 hgh hss (fun j hj => by rw [hb.cell (p := ⟨gh, oh + j, none⟩) hghw]; exact hrow j hj) h1 h2 h3 hnh hi hD.own (by simp; omega) hlim (htab.on (hb.mono hB)) s hs hsl T
    (by show T = _; rw [HT.out, ann_text])
  clear hrow HT hs htab hb
  go_enter Tryd.func9, Tryd.ntmps9
  go_wp2_with (go_at_call 13; refine H.mono ?_; rintro e w' ⟨v', rfl, hd⟩; refine Hid.out ?_)
  refine Lib.hid ?_
  have hD2 := hD.trans hd
  go_wp2
  go_ret
  exact ⟨v', rfl, hD2⟩
end Go.Proofs.Qxb6003635aDoor
