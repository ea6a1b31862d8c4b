import Derived.Test.YbulkcebwSmallC
namespace Go.Proofs.Ybulkcebw
open Go.RowKit

theorem Yba.info5c : (Yba.prog.info? 5).map (fun i => (i.zero, i.size, i.bytes)) = some (some (.int .u8 0), 1, 1) := by kernel_rfl

theorem bcells_alloc {w : World} {a : Option Addr} {l : List UInt8} (h : BCells w a l) (o : Obj) : BCells (w.alloc o) a l := by
  refine ⟨h.1, fun ad had j u hj => ?_⟩
  have hc := h.2 ad had j u hj
  exact cell_later ((Below.refl _ _).alloc (Nat.le_refl _) _) hc

theorem dst_alloc {w : World} {B : Nat} {e : TypeId} {a : Option Addr} {n c : Nat} {l : List UInt8} (h : Dst w B e a n c l) (o : Obj) : Dst (w.alloc o) B e a n c l := by
  rcases h with h | ⟨h1, h2, h3⟩
  · exact .inl (h.alloc o)
  · exact .inr ⟨h1, h2, bcells_alloc h3 o⟩

theorem bsrc_one {P : Program} {t e : TypeId} (w : World) (b : UInt8) (z : Int) (hz : z = (b.toNat : Int)) : BSrc P t t (w.alloc (.cells #[.int .u8 z] e)) (.slice (some ⟨w.heap.size, 0, none⟩) 1 1) [b] := by
  subst hz
  refine .inr ⟨rfl, _, _, rfl, fun h => (by cases h), fun h => (by cases h), fun ad had j u hj => ?_⟩
  cases had
  match j, hj with
  | 0, hj => simp [vb] at hj; subst hj; simp [Addr.add]

theorem bsrc_three {P : Program} {t e : TypeId} (w : World) (b0 b1 b2 : UInt8) (z0 z1 z2 : Int) (h0 : z0 = (b0.toNat : Int)) (h1 : z1 = (b1.toNat : Int)) (h2 : z2 = (b2.toNat : Int)) :
    BSrc P t t (w.alloc (.cells #[.int .u8 z0, .int .u8 z1, .int .u8 z2] e)) (.slice (some ⟨w.heap.size, 0, none⟩) 3 3) [b0, b1, b2] := by
  subst h0 h1 h2
  refine .inr ⟨rfl, _, _, rfl, fun h => (by cases h), fun h => (by cases h), fun ad had j u hj => ?_⟩
  cases had
  match j, hj with
  | 0, hj => simp [vb] at hj; subst hj; simp [Addr.add]
  | 1, hj => simp [vb] at hj; subst hj; simp [Addr.add]
  | 2, hj => simp [vb] at hj; subst hj; simp [Addr.add]

theorem and15 (b : UInt8) : bits .and .u8 (b.toNat : Int) 15 = (b.toNat : Int) % 16 := by
  have := b.toNat_lt
  exact u8_and15 _ (by omega) (by omega)
theorem hexq (b : UInt8) (h : ((b.toNat : Int) / 16).toNat < 16) : (⟨#[48, 49, 50, 51, 52, 53, 54, 55, 56, 57, 65, 66, 67, 68, 69, 70]⟩ : ByteArray)[((b.toNat : Int) / 16).toNat]'h = hexd (b.toNat / 16) := by
  rw [hexd_get_all _ h]
  congr 1
theorem hexr (b : UInt8) (h : ((b.toNat : Int) % 16).toNat < 16) : (⟨#[48, 49, 50, 51, 52, 53, 54, 55, 56, 57, 65, 66, 67, 68, 69, 70]⟩ : ByteArray)[((b.toNat : Int) % 16).toNat]'h = hexd (b.toNat % 16) := by
  rw [hexd_get_all _ h]
  congr 1

set_option maxRecDepth 1000000 in
set_option maxHeartbeats 1000000 in
theorem reply_any (a : Option Addr) (n : Nat) (l : List UInt8) (code text : ByteArray) (w : World) (hl : l.length = n) (hc : BCells w a l) (hn : n ≤ 65536) (hcs : code.size ≤ 65536) (hts : text.size ≤ 65536) :
    Calls Yba.prog 9 #[.slice a n n, .string code, .string text] w fun e w' => ∃ a' c' : _, ∃ m : Nat, e = .returned (.slice a' m c') ∧ w'.ownsRow w.heap.size 5 1 (.slice a' m c') m (vb (reply l code.data.toList text.data.toList)) ∧ Below w.heap.size w w' := by
  obtain ⟨i0, hi, hz0, hz1, hz2⟩ := info_parts Yba.info5c
  have hd0 : Dst w w.heap.size 5 a n n l := .inr ⟨rfl, hl, hc⟩
  clear hc
  have hcl : code.data.toList.length = code.size := by simp
  go_enter Yba.func9, Yba.ntmps9
  go_wp2_with (first
    | (at_builtin; refine wpList_appB _ rfl (.tmp 14) (.tmp 15) 23 9 rfl w.heap.size 5 i0 Yba.underlying23 hi hz0 hz1 hz2 _ _ _ l rfl hd0 _ code.data.toList rfl (.inl ⟨Yba.underlying9, code, rfl, rfl⟩) code.size hcl (by omega) (Nat.le_refl _) ?_; intro a1 c1 w1 hd1 _ hb1)
    | (at_builtin; refine wpList_appB _ rfl (.tmp 17) (.tmp 18) 23 23 rfl w.heap.size 5 i0 Yba.underlying23 hi hz0 hz1 hz2 _ _ _ _ rfl (dst_alloc hd1 _) _ [32] rfl (bsrc_one _ 32 _ rfl) 1 rfl (by omega) (by have := hb1.size; simp; omega) ?_; intro a2 c2 w2 _ hown2 hb2))
  have hbel : Below w.heap.size w w2 := (hb1.alloc hb1.size _).trans hb2
  have hown := hown2 (by decide)
  clear hd0 hd1 hb1 hb2 hown2
  have HR : Hid (reply l code.data.toList text.data.toList = (l ++ code.data.toList ++ [32] ++ body (4094 - code.data.toList.length) text.data.toList) ++ [10]) := hide rfl
  have hst : Hid ((l ++ code.data.toList ++ [32]) ++ body ((n : Int) + 4095 - ((n + code.size + 1 : Nat) : Int)) (text.data.toList.drop 0) = l ++ code.data.toList ++ [32] ++ body (4094 - code.data.toList.length) text.data.toList) := hide (by
    rw [List.drop_zero, show ((n : Int) + 4095 - ((n + code.size + 1 : Nat) : Int)) = 4094 - (code.data.toList.length : Int) by rw [hcl]; omega])
  generalize l ++ code.data.toList ++ [32] ++ body (4094 - code.data.toList.length) text.data.toList = T at *
  generalize l ++ code.data.toList ++ [32] = o0 at *
  generalize hN0 : n + code.size + 1 = N0 at *
  have hN : N0 ≤ 131073 := by omega
  clear hN0 hcl
  go_loopw [0, 22] (fun d i wr => ∃ (k m : Nat) (a' : Option Addr) (c' : Nat) (out : List UInt8), k ≤ text.size ∧ i = .int .i64 k ∧ d = .slice a' m c' ∧ m ≤ N0 + 3 * k ∧ wr.ownsRow w.heap.size 5 1 (.slice a' m c') m (vb out) ∧ Below w.heap.size w wr ∧
      Hid (out ++ body ((n : Int) + 4095 - m) (text.data.toList.drop k) = T)) (fun _ i _ => text.size - (intOf i).toNat)
  case atStart => exact ⟨0, N0, a2, c2, o0, Nat.zero_le _, rfl, rfl, by omega, hown, hbel, hst⟩
  case round =>
    clear hown hbel hst
    obtain ⟨k, m, a', c', out, hk, rfl, rfl, hm, hown, hb, hx⟩ := hrel
    have hsz := hb.size
    by_cases hlt : k < text.size
    · obtain ⟨b, hbk⟩ : ∃ b : UInt8, (text[k]'hlt) = b := ⟨_, rfl⟩
      have hdr := drop_cons text k hlt
      rw [hbk] at hdr
      have HX : Hid (out ++ body ((n : Int) + 4095 - m) (b :: text.data.toList.drop (k + 1)) = T) := hide (by rw [← hdr]; exact unhide hx)
      clear hx hdr
      cases hp : plB b
      · by_cases hroom : m + 3 ≤ n + 4095
        · have HY : Hid ((out ++ encB b) ++ body ((n : Int) + 4095 - ((m + 3 : Nat) : Int)) (text.data.toList.drop (k + 1)) = T) := hide (by
            have := unhide HX
            rw [body_enc hp (by omega)] at this
            rw [← this, show ((n : Int) + 4095 - ((m + 3 : Nat) : Int)) = (n : Int) + 4095 - m - 3 by omega]
            simp)
          have HP := hide hp
          have h256 : b.toNat < 256 := b.toNat_lt
          have hq1 : 0 ≤ (b.toNat : Int) / 16 ∧ (b.toNat : Int) / 16 < 16 := by omega
          have hr1 : 0 ≤ (b.toNat : Int) % 16 ∧ (b.toNat : Int) % 16 < 16 := by omega
          have hq3 := and15 b
          have hq2 := hexq b
          have hr2 := hexr b
          clear hp HX h256
          go_wp2_with (go_at_call 12; refine (plain_no b (unhide HP) _).mono ?_; rintro e w' ⟨rfl, rfl⟩)
          go_region_law (refine step_appB rfl (.tmp 56) (.tmp 63) 23 23 rfl w.heap.size 5 i0 Yba.underlying23 hi hz0 hz1 hz2 _ _ _ out (by simp [Act.eval]) (.inl (hown.drew.alloc _)) _ (encB b) (by simp [Act.eval]) (bsrc_three _ 37 _ _ _ _ _ rfl rfl rfl) 3 rfl (by omega) (by simp; omega) ?_; intro a3 c3 w3 _ hown3 hb3)
          all_goals
            go_wp2
            go_roundw
            case rel => exact ⟨k + 1, m + 3, a3, c3, out ++ encB b, by omega, by go_num, rfl, by omega, hown3 (by decide), (hb.alloc hsz _).drew.trans hb3, HY⟩
            case measure => simp [intOf]; omega
        · have HY : Hid (reply l code.data.toList text.data.toList = out ++ [10]) := hide (by
            have := unhide HX
            rw [body_enc_stop hp (by omega), List.append_nil] at this
            rw [unhide HR, ← this])
          have HP := hide hp
          clear hp HX
          go_wp2_with (first
            | (go_at_call 12; refine (plain_no b (unhide HP) _).mono ?_; rintro e w' ⟨rfl, rfl⟩)
            | (at_builtin; refine wpList_appB _ rfl (.tmp 28) (.tmp 29) 23 23 rfl w.heap.size 5 i0 Yba.underlying23 hi hz0 hz1 hz2 _ _ _ out rfl (.inl (hown.alloc _)) _ [10] rfl (bsrc_one _ 10 _ rfl) 1 rfl (by omega) (by simp; omega) ?_; intro a3 c3 w3 _ hown3 hb3))
          go_ret
          exact ⟨a3, c3, m + 1, rfl, by rw [unhide HY]; exact hown3 (by decide), (hb.alloc hsz _).trans hb3⟩
      · by_cases hroom : m + 1 ≤ n + 4095
        · have HY : Hid ((out ++ [b]) ++ body ((n : Int) + 4095 - ((m + 1 : Nat) : Int)) (text.data.toList.drop (k + 1)) = T) := hide (by
            have := unhide HX
            rw [body_plain hp (by omega)] at this
            rw [← this, show ((n : Int) + 4095 - ((m + 1 : Nat) : Int)) = (n : Int) + 4095 - m - 1 by omega]
            simp)
          have HP := hide hp
          clear hp HX
          go_wp2_with (first
            | (go_at_call 12; refine (plain_yes b (unhide HP) _).mono ?_; rintro e w' ⟨rfl, rfl⟩)
            | (at_builtin; refine wpList_appB _ rfl (.tmp 41) (.tmp 43) 23 23 rfl w.heap.size 5 i0 Yba.underlying23 hi hz0 hz1 hz2 _ _ _ out rfl (.inl (hown.alloc _)) _ [b] rfl (bsrc_one _ b _ rfl) 1 rfl (by omega) (by simp; omega) ?_; intro a3 c3 w3 _ hown3 hb3))
          go_roundw
          case rel => exact ⟨k + 1, m + 1, a3, c3, out ++ [b], by omega, by go_num, rfl, by omega, hown3 (by decide), (hb.alloc hsz _).trans hb3, HY⟩
          case measure => simp [intOf]; omega
        · have HY : Hid (reply l code.data.toList text.data.toList = out ++ [10]) := hide (by
            have := unhide HX
            rw [body_plain_stop hp (by omega), List.append_nil] at this
            rw [unhide HR, ← this])
          have HP := hide hp
          clear hp HX
          go_wp2_with (first
            | (go_at_call 12; refine (plain_yes b (unhide HP) _).mono ?_; rintro e w' ⟨rfl, rfl⟩)
            | (at_builtin; refine wpList_appB _ rfl (.tmp 28) (.tmp 29) 23 23 rfl w.heap.size 5 i0 Yba.underlying23 hi hz0 hz1 hz2 _ _ _ out rfl (.inl (hown.alloc _)) _ [10] rfl (bsrc_one _ 10 _ rfl) 1 rfl (by omega) (by simp; omega) ?_; intro a3 c3 w3 _ hown3 hb3))
          go_ret
          exact ⟨a3, c3, m + 1, rfl, by rw [unhide HY]; exact hown3 (by decide), (hb.alloc hsz _).trans hb3⟩
    · have HY : Hid (reply l code.data.toList text.data.toList = out ++ [10]) := hide (by
        have := unhide hx
        rw [drop_end text k (by omega), body_nil, List.append_nil] at this
        rw [unhide HR, ← this])
      clear hx
      go_wp2_with (at_builtin; refine wpList_appB _ rfl (.tmp 66) (.tmp 67) 23 23 rfl w.heap.size 5 i0 Yba.underlying23 hi hz0 hz1 hz2 _ _ _ out rfl (.inl (hown.alloc _)) _ [10] rfl (bsrc_one _ 10 _ rfl) 1 rfl (by omega) (by simp; omega) ?_; intro a3 c3 w3 _ hown3 hb3)
      go_ret
      exact ⟨a3, c3, m + 1, rfl, by rw [unhide HY]; exact hown3 (by decide), (hb.alloc hsz _).trans hb3⟩
end Go.Proofs.Ybulkcebw
