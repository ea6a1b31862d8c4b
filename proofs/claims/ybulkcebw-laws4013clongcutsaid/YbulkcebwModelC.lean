import Derived.Test.YbulkcebwReplyC
namespace Go.Proofs.Ybulkcebw
open Go.RowKit

theorem bcells_later {w wx : World} {a : Option Addr} {l : List UInt8} (h : BCells w a l) (hb : Below w.heap.size w wx) : BCells wx a l :=
  ⟨h.1, fun ad had j u hj => cell_later hb (h.2 ad had j u hj)⟩

theorem klassP (z : Int) (h : z ≤ 32 ∨ 127 ≤ z ∨ z = 37) : z ≤ 32 ∨ 127 ≤ z ∨ ((32 < z ∧ z < 127) ∧ (z != 37) = false) := by
  rcases h with h | h | h
  · exact .inl h
  · exact .inr (.inl h)
  · exact .inr (.inr ⟨by omega, by rw [bne_eq_false_iff_eq]; exact h⟩)

set_option maxRecDepth 1000000 in
set_option maxHeartbeats 2000000 in
theorem model_any (a : Option Addr) (n cd : Nat) (l : List UInt8) (code text : ByteArray) (w : World) (hl : l.length = n) (hc : BCells w a l) (hcap : a = none → cd = 0) (hn : n ≤ 65536) (hcs : code.size ≤ 65536) (hts : text.size ≤ 65536) :
    Calls Yba.prog 10 #[.slice a n cd, .string code, .string text] w fun e w' => ∃ a' c' : _, ∃ m : Nat, e = .returned (.slice a' m c') ∧ w'.ownsRow w.heap.size 5 1 (.slice a' m c') m (vb (reply l code.data.toList text.data.toList)) ∧ Below w.heap.size w w' := by
  obtain ⟨i0, hi, hz0, hz1, hz2⟩ := info_parts Yba.info5c
  have hcl : code.data.toList.length = code.size := by simp
  go_enter Yba.func10, Yba.ntmps10
  go_wp2_with (first
    | (at_make; refine wpList_make_own _ rfl _ _ 23 rfl w.heap.size 5 i0 (.int .u8 0) 1 Yba.underlying23 hi hz0 hz1 _ _ _ (n + code.size + 2) rfl rfl (by omega) (by rw [hz2]; omega) (by unfold maxLen; omega) (Nat.le_refl _) ?_; intro w1 hown1 hgrow1; have hb1 : Below w.heap.size w w1 := (Below.refl _ _).grown hgrow1 (Nat.le_refl _) (fun k h => by cases h); clear hgrow1)
    | (at_builtin; refine wpList_appB _ rfl (.tmp 19) (.tmp 20) 23 23 rfl w.heap.size 5 i0 Yba.underlying23 hi hz0 hz1 hz2 _ _ _ [] rfl (.inl hown1) _ l rfl (.inr ⟨rfl, a, cd, by rw [hl]; rfl, hcap, bcells_later hc hb1⟩) n hl (by omega) hb1.size ?_; intro a2 c2 w2 hd2 _ hb2; simp only [Nat.zero_add, List.nil_append] at hd2)
    | (at_builtin; refine wpList_appB _ rfl (.tmp 22) (.tmp 23) 23 9 rfl w.heap.size 5 i0 Yba.underlying23 hi hz0 hz1 hz2 _ _ _ _ rfl hd2 _ code.data.toList rfl (.inl ⟨Yba.underlying9, code, rfl, rfl⟩) code.size hcl (by omega) (by have := hb1.size; have := hb2.size; omega) ?_; intro a3 c3 w3 hd3 _ hb3)
    | (at_builtin; refine wpList_appB _ rfl (.tmp 25) (.tmp 26) 23 23 rfl w.heap.size 5 i0 Yba.underlying23 hi hz0 hz1 hz2 _ _ _ _ rfl (dst_alloc hd3 _) _ [32] rfl (bsrc_one _ 32 _ rfl) 1 rfl (by omega) (by have := hb1.size; have := hb2.size; have := hb3.size; simp; omega) ?_; intro a4 c4 w4 _ hown4 hb4))
  have hbel : Below w.heap.size w w4 := ((hb1.trans (hb2.trans hb3)).alloc (by have := hb1.size; have := hb2.size; have := hb3.size; omega) _).trans hb4
  have hown := hown4 (by decide)
  clear hd2 hd3 hb1 hb2 hb3 hb4 hown4 hown1 hc
  have HR : Hid (reply l code.data.toList text.data.toList = (l ++ code.data.toList ++ [32] ++ body (4094 - code.data.toList.length) text.data.toList) ++ [10]) := hide rfl
  have hst : Hid ((l ++ code.data.toList ++ [32]) ++ body (4095 - (code.size : Int) - 1) (text.data.toList.drop 0) = l ++ code.data.toList ++ [32] ++ body (4094 - code.data.toList.length) text.data.toList) := hide (by
    rw [List.drop_zero, show (4095 - (code.size : Int) - 1) = 4094 - (code.data.toList.length : Int) by rw [hcl]; omega])
  generalize l ++ code.data.toList ++ [32] ++ body (4094 - code.data.toList.length) text.data.toList = T at *
  generalize l ++ code.data.toList ++ [32] = o0 at *
  generalize hN0 : n + code.size + 1 = N0 at *
  have hN : N0 ≤ 131073 := by omega
  clear hN0 hcl
  go_loopw [7, 8, 9] (fun d ro i wr => ∃ (k m : Nat) (a' : Option Addr) (c' : Nat) (out : List UInt8) (r : Int), k ≤ text.size ∧ i = .int .i64 k ∧ ro = .int .i64 r ∧ -100000 ≤ r ∧ r ≤ 4095 ∧ d = .slice a' m c' ∧ m ≤ N0 + 3 * k ∧ wr.ownsRow w.heap.size 5 1 (.slice a' m c') m (vb out) ∧ Below w.heap.size w wr ∧
      Hid (out ++ body r (text.data.toList.drop k) = T)) (fun _ _ i _ => text.size - (intOf i).toNat)
  case atStart => exact ⟨0, N0, a4, c4, o0, _, Nat.zero_le _, rfl, rfl, by omega, by omega, rfl, by omega, hown, hbel, hst⟩
  case round =>
    clear hown hbel hst
    obtain ⟨k, m, a', c', out, r, hk, rfl, rfl, hr1, hr2, rfl, hm, hown, hb, hx⟩ := hrel
    have hsz := hb.size
    by_cases hlt : k < text.size
    · obtain ⟨b, hbk⟩ : ∃ b : UInt8, (text[k]'hlt) = b := ⟨_, rfl⟩
      have hdr := drop_cons text k hlt
      rw [hbk] at hdr
      have HX : Hid (out ++ body r (b :: text.data.toList.drop (k + 1)) = T) := hide (by rw [← hdr]; exact unhide hx)
      clear hx hdr
      have hE : body r (b :: text.data.toList.drop (k + 1)) = [] → Hid (reply l code.data.toList text.data.toList = out ++ [10]) := fun h0 => hide (by
            have := unhide HX
            rw [h0, List.append_nil] at this
            rw [unhide HR, ← this])
      have h256 : b.toNat < 256 := b.toNat_lt
      have hq3 := and15 b
      obtain ⟨z, hz⟩ : ∃ z : Int, (b.toNat : Int) = z := ⟨_, rfl⟩
      have HZ := hide hz
      have hz256 : 0 ≤ z ∧ z < 256 := by omega
      have hb37 : Hid ((37 : Int) = ((37 : UInt8).toNat : Int)) := hide rfl
      have HZ1 : Hid (((hexd (z / 16).toNat).toNat : Int) = ((hexd (b.toNat / 16)).toNat : Int)) := hide (by rw [show (z / 16).toNat = b.toNat / 16 by omega])
      have HZ2 : Hid (((hexd (z % 16).toNat).toNat : Int) = ((hexd (b.toNat % 16)).toNat : Int)) := hide (by rw [show (z % 16).toNat = b.toNat % 16 by omega])
      rw [hz] at hq3
      cases hp : plB b
      · have hpz := klassP z (by have := plB_false hp; omega)
        by_cases hroom : 3 ≤ r
        · have HY : Hid ((out ++ encB b) ++ body (r - 3) (text.data.toList.drop (k + 1)) = T) := hide (by
            have := unhide HX
            rw [body_enc hp hroom] at this
            rw [← this]
            simp)
          clear hp HX hE h256 hb37
          rcases hpz with hpz | hpz | ⟨hpz, hne⟩
          all_goals
            go_wp2_with (first
              | (go_at_call 13; refine (chex_any _ _ (by omega) (by omega)).mono ?_; rintro e w' ⟨rfl, rfl⟩)
              | (at_builtin; refine wpList_appB _ rfl (.tmp 62) (.tmp 69) 23 23 rfl w.heap.size 5 i0 Yba.underlying23 hi hz0 hz1 hz2 _ _ _ out rfl (.inl (hown.alloc _)) _ (encB b) rfl (bsrc_three _ 37 _ _ _ _ _ rfl (unhide HZ1) (unhide HZ2)) 3 rfl (by omega) (by simp; omega) ?_; intro a3 c3 w3 _ hown3 hb3))
            go_roundw
            case rel => exact ⟨k + 1, m + 3, a3, c3, out ++ encB b, r - 3, by omega, by go_num, rfl, by omega, by omega, rfl, by omega, hown3 (by decide), (hb.alloc hsz _).trans hb3, HY⟩
            case measure => simp [intOf]; omega
        · have HY := hE (body_enc_stop hp (by omega))
          clear hp HX hE h256 hb37
          rcases hpz with hpz | hpz | ⟨hpz, hne⟩
          all_goals
            go_wp2_with (at_builtin; refine wpList_appB _ rfl (.tmp 73) (.tmp 74) 23 23 rfl w.heap.size 5 i0 Yba.underlying23 hi hz0 hz1 hz2 _ _ _ out rfl (.inl (hown.alloc _)) _ [10] rfl (bsrc_one _ 10 _ rfl) 1 rfl (by omega) (by simp; omega) ?_; intro a3 c3 w3 _ hown3 hb3)
            go_ret
            exact ⟨a3, c3, m + 1, rfl, by rw [unhide HY]; exact hown3 (by decide), (hb.alloc hsz _).trans hb3⟩
      · have hpz : 32 < z ∧ z < 127 ∧ z ≠ 37 := by have := plB_true hp; omega
        obtain ⟨hp1, hp2, hp3⟩ := hpz
        have hne : (z != 37) = true := by rw [bne_iff_ne]; exact hp3
        by_cases hroom : 1 ≤ r
        · have HY : Hid ((out ++ [b]) ++ body (r - 1) (text.data.toList.drop (k + 1)) = T) := hide (by
            have := unhide HX
            rw [body_plain hp hroom] at this
            rw [← this]
            simp)
          clear hp HX hE h256 hb37 hp3
          go_wp2_with (at_builtin; refine wpList_appB _ rfl (.tmp 54) (.tmp 56) 23 23 rfl w.heap.size 5 i0 Yba.underlying23 hi hz0 hz1 hz2 _ _ _ out rfl (.inl (hown.alloc _)) _ [b] rfl (bsrc_one _ b _ (unhide HZ).symm) 1 rfl (by omega) (by simp; omega) ?_; intro a3 c3 w3 _ hown3 hb3)
          go_roundw
          case rel => exact ⟨k + 1, m + 1, a3, c3, out ++ [b], r - 1, by omega, by go_num, rfl, by omega, by omega, rfl, by omega, hown3 (by decide), (hb.alloc hsz _).trans hb3, HY⟩
          case measure => simp [intOf]; omega
        · have HY := hE (body_plain_stop hp (by omega))
          clear hp HX hE h256 hb37 hp3
          go_wp2_with (at_builtin; refine wpList_appB _ rfl (.tmp 73) (.tmp 74) 23 23 rfl w.heap.size 5 i0 Yba.underlying23 hi hz0 hz1 hz2 _ _ _ out rfl (.inl (hown.alloc _)) _ [10] rfl (bsrc_one _ 10 _ rfl) 1 rfl (by omega) (by simp; omega) ?_; intro a3 c3 w3 _ hown3 hb3)
          go_ret
          exact ⟨a3, c3, m + 1, rfl, by rw [unhide HY]; exact hown3 (by decide), (hb.alloc hsz _).trans hb3⟩
    · have HY : Hid (reply l code.data.toList text.data.toList = out ++ [10]) := hide (by
        have := unhide hx
        rw [drop_end text k (by omega), body_nil, List.append_nil] at this
        rw [unhide HR, ← this])
      clear hx
      go_wp2_with (at_builtin; refine wpList_appB _ rfl (.tmp 73) (.tmp 74) 23 23 rfl w.heap.size 5 i0 Yba.underlying23 hi hz0 hz1 hz2 _ _ _ out rfl (.inl (hown.alloc _)) _ [10] rfl (bsrc_one _ 10 _ rfl) 1 rfl (by omega) (by simp; omega) ?_; intro a3 c3 w3 _ hown3 hb3)
      go_ret
      exact ⟨a3, c3, m + 1, rfl, by rw [unhide HY]; exact hown3 (by decide), (hb.alloc hsz _).trans hb3⟩
end Go.Proofs.Ybulkcebw
