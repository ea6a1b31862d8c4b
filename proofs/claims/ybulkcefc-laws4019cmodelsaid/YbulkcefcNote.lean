import Derived.Test.YbulkcefcProg
import Derived.Test.YbulkcefcKit
import Derived.Test.YbulkcefcPlain
namespace Go.Proofs.Ybulkcefc
open Go.RowKit

theorem Yba.info5 : (Yba.prog.info? 5).map (fun i => (i.zero, i.size, i.bytes)) = some (some (.int .u8 0), 1, 1) := by kernel_rfl

theorem own_take {w : World} {B : Nat} {e : TypeId} {g n c : Nat} {l : List UInt8} (h : w.ownsRow B e 1 (.slice (some ⟨g, 0, none⟩) n c) n (vb l)) (m : Nat) (hm : m ≤ n) : w.ownsRow B e 1 (.slice (some ⟨g, 0, none⟩) m c) m (vb (l.take m)) := by
  have hl := own_len h
  rcases h.2 with ⟨hv, _⟩ | ⟨g', cap, cur, hv, hB, hg, h1, h2, h3, h4⟩
  · cases hv
  · simp at hv
    obtain ⟨rfl, rfl⟩ := hv
    refine ⟨by simp [vb]; omega, .inr ⟨g, c, cur, rfl, hB, hg, by omega, h2, h3, ?_⟩⟩
    have : vb (l.take m) = (vb l).take m := by simp [vb]
    rw [this, ← h4, List.take_take]
    congr 1
    omega

theorem own_le {w : World} {B : Nat} {e : TypeId} {a : Option Addr} {n c : Nat} {xs : List Value} (h : w.ownsRow B e 1 (.slice a n c) n xs) : n ≤ c := by
  rcases h.2 with ⟨hv, rfl⟩ | ⟨g, cap, cur, hv, _, _, hle, _⟩
  · omega
  · simp at hv
    omega

set_option maxRecDepth 1000000 in
set_option maxHeartbeats 2000000 in
theorem note_any (s : ByteArray) (w : World) (hs : s.size ≤ 4096) :
    Calls Yba.prog 5 #[.string s] w fun e w' => e = .returned (.string ⟨(noted s.data.toList).toArray⟩) ∧ Below w.heap.size w w' := by
  obtain ⟨i0, hi, hz0, hz1, hz2⟩ := info_parts Yba.info5
  go_enter Yba.func5, Yba.ntmps5
  go_wp2_with (at_make; refine wpList_make_own _ rfl _ _ 24 rfl w.heap.size 5 i0 (.int .u8 0) 1 Yba.underlying24 hi hz0 hz1 _ _ _ s.size rfl rfl rfl (by rw [hz2]; omega) (by unfold maxLen; omega) (Nat.le_refl _) ?_; intro w1 hown1 hgrow1; have hb1 : Below w.heap.size w w1 := (Below.refl _ _).grown hgrow1 (Nat.le_refl _) (fun k h => by cases h); clear hgrow1)
  go_loopw [3, 4, 5] (fun o sp i wr => ∃ (k m r : Nat) (a : Option Addr) (c : Nat) (b : List UInt8), k ≤ s.size ∧ i = .int .i64 k ∧ sp = .int .i64 r ∧ o = .slice a m c ∧ m ≤ k ∧ r ≤ m ∧ Hid (m = b.length + r) ∧
      wr.ownsRow w.heap.size 5 1 (.slice a m c) m (vb (b ++ List.replicate r 32)) ∧ Below w.heap.size w wr ∧ Hid (stt (s.data.toList.take k) = (b, r))) (fun _ _ i _ => s.size - (intOf i).toNat)
  case atStart => exact ⟨0, 0, 0, _, _, [], Nat.zero_le _, rfl, rfl, rfl, by omega, by omega, hide rfl, hown1, hb1, hide rfl⟩
  case round =>
    clear hown1 hb1
    obtain ⟨k, m, r, a, c, b, hk, rfl, rfl, rfl, hmk, hrm, HM, hown, hb, HS⟩ := hrel
    have hsz := hb.size
    by_cases hlt : k < s.size
    · have HT := hide (stt_snoc s k hlt)
      obtain ⟨x, hx⟩ : ∃ x : UInt8, (s[k]'hlt) = x := ⟨_, rfl⟩
      have HT2 : Hid (stt (s.data.toList.take (k + 1)) = stp (b, r) x) := hide (by rw [unhide HT, unhide HS, hx])
      clear HT HS
      obtain ⟨z, hz⟩ : ∃ z : Int, (x.toNat : Int) = z := ⟨_, rfl⟩
      have HZ := hide hz
      by_cases h32 : z = 32
      · have hx32 : x = 32 := byte_32.2 (by omega)
        have HV : Hid (stt (s.data.toList.take (k + 1)) = (b, r + 1)) := hide (by rw [unhide HT2, stp_sp b r x hx32])
        have HL : Hid (b ++ List.replicate r 32 ++ [x] = b ++ List.replicate (r + 1) 32) := hide (by rw [hx32, List.append_assoc, rep_succ])
        have hb1 : (z == 32) = true := by rw [beq_iff_eq]; exact h32
        have hb2 : (z == 59) = false := by rw [beq_eq_false_iff_ne]; omega
        clear h32 hx32 HT2
        go_wp2_with (at_builtin; refine wpList_appO _ rfl (.tmp 36) (.tmp 40) 24 24 rfl w.heap.size 5 i0 Yba.underlying24 hi hz0 hz1 hz2 _ _ _ _ rfl (hown.alloc _) _ [x] rfl (bsrc_one _ x _ (unhide HZ).symm) 1 rfl (by omega) (by simp; omega) ?_; intro a2 c2 w2 hown2 hb2')
        go_roundw
        case rel => exact ⟨k + 1, m + 1, r + 1, a2, c2, b, by omega, by go_num, by go_num, rfl, by omega, by omega, hide (by have := unhide HM; omega), by rw [← unhide HL]; exact hown2, (hb.alloc hsz _).trans hb2', HV⟩
        case measure => simp [intOf]; omega
      · have hb1 : (z == 32) = false := by rw [beq_eq_false_iff_ne]; exact h32
        have hx32 : x ≠ 32 := fun h => h32 (by rw [← hz]; exact byte_32.1 h)
        by_cases h59 : z = 59
        · have hx59 : x = 59 := byte_59.2 (by omega)
          have hb2 : (z == 59) = true := by rw [beq_iff_eq]; exact h59
          by_cases hr : 2 ≤ r
          · have HV : Hid (stt (s.data.toList.take (k + 1)) = (b ++ [32] ++ [x], 0)) := hide (by rw [unhide HT2, stp_semi b r x hx59 hr])
            obtain ⟨g, rfl⟩ := own_head hown (by omega)
            have hle := own_le hown
            have hmr : m - r + 1 ≤ m := by omega
            have hown' : wr.ownsRow w.heap.size 5 1 (.slice (some ⟨g, 0, none⟩) (m - r + 1) c) (m - r + 1) (vb (b ++ [32])) := by
              have := own_take hown (m - r + 1) hmr
              have e : (b ++ List.replicate r 32).take (m - r + 1) = b ++ [32] := by
                rw [show m - r + 1 = b.length + 1 by have := unhide HM; omega, List.take_length_add_append]
                obtain ⟨r', rfl⟩ : ∃ r', r = r' + 1 := ⟨r - 1, by omega⟩
                rw [List.replicate_succ]
                simp
              rw [e] at this
              exact this
            clear h59 hx59 HT2 h32
            go_wp2_with (at_builtin; refine wpList_appO _ rfl (.tmp 36) (.tmp 40) 24 24 rfl w.heap.size 5 i0 Yba.underlying24 hi hz0 hz1 hz2 _ _ _ _ rfl (hown'.alloc _) _ [x] rfl (bsrc_one _ x _ (unhide HZ).symm) 1 rfl (by omega) (by simp; omega) ?_; intro a2 c2 w2 hown2 hb2')
            go_roundw
            case rel => exact ⟨k + 1, m - r + 1 + 1, 0, a2, c2, b ++ [32] ++ [x], by omega, by go_num, rfl, rfl, by omega, by omega, hide (by have := unhide HM; simp; omega), by simpa using hown2, (hb.alloc hsz _).trans hb2', HV⟩
            case measure => simp [intOf]; omega
          · have HV : Hid (stt (s.data.toList.take (k + 1)) = (b ++ List.replicate r 32 ++ [x], 0)) := hide (by rw [unhide HT2, stp_other b r x hx32 (by omega)])
            clear h59 hx59 HT2 h32
            go_wp2_with (at_builtin; refine wpList_appO _ rfl (.tmp 36) (.tmp 40) 24 24 rfl w.heap.size 5 i0 Yba.underlying24 hi hz0 hz1 hz2 _ _ _ _ rfl (hown.alloc _) _ [x] rfl (bsrc_one _ x _ (unhide HZ).symm) 1 rfl (by omega) (by simp; omega) ?_; intro a2 c2 w2 hown2 hb2')
            go_roundw
            case rel => exact ⟨k + 1, m + 1, 0, a2, c2, b ++ List.replicate r 32 ++ [x], by omega, by go_num, rfl, rfl, by omega, by omega, hide (by have := unhide HM; simp; omega), by simpa using hown2, (hb.alloc hsz _).trans hb2', HV⟩
            case measure => simp [intOf]; omega
        · have hb2 : (z == 59) = false := by rw [beq_eq_false_iff_ne]; exact h59
          have hx59 : x ≠ 59 := fun h => h59 (by rw [← hz]; exact byte_59.1 h)
          have HV : Hid (stt (s.data.toList.take (k + 1)) = (b ++ List.replicate r 32 ++ [x], 0)) := hide (by rw [unhide HT2, stp_other b r x hx32 (fun h => hx59 h.1)])
          clear h59 hx59 HT2 h32
          go_wp2_with (at_builtin; refine wpList_appO _ rfl (.tmp 36) (.tmp 40) 24 24 rfl w.heap.size 5 i0 Yba.underlying24 hi hz0 hz1 hz2 _ _ _ _ rfl (hown.alloc _) _ [x] rfl (bsrc_one _ x _ (unhide HZ).symm) 1 rfl (by omega) (by simp; omega) ?_; intro a2 c2 w2 hown2 hb2')
          go_roundw
          case rel => exact ⟨k + 1, m + 1, 0, a2, c2, b ++ List.replicate r 32 ++ [x], by omega, by go_num, rfl, rfl, by omega, by omega, hide (by have := unhide HM; simp; omega), by simpa using hown2, (hb.alloc hsz _).trans hb2', HV⟩
          case measure => simp [intOf]; omega
    · have HV : Hid (noted s.data.toList = b ++ List.replicate r 32) := hide (by
        have := unhide HS
        rw [stt_end s k (by omega)] at this
        unfold noted
        rw [this])
      have hcv : (convert 24 9 (.slice a m c)).run Yba.prog wr = .ok (.string ⟨(b ++ List.replicate r 32).toArray⟩) wr := conv_cells Yba.underlying24 Yba.underlying5 Yba.underlying9 (own_cells hown) (own_len hown)
      generalize b ++ List.replicate r 32 = L at *
      go_wp2
      go_ret
      exact ⟨by rw [unhide HV]; rfl, hb⟩
end Go.Proofs.Ybulkcefc
