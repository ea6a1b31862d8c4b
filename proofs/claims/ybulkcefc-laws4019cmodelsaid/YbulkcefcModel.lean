import Derived.Test.YbulkcefcNote
namespace Go.Proofs.Ybulkcefc
open Go.RowKit

set_option maxRecDepth 1000000 in
set_option maxHeartbeats 2000000 in
theorem model_any (s : ByteArray) (w : World) (hs : s.size ≤ 4096) :
    Calls Yba.prog 6 #[.string s] w fun e w' => e = .returned (.string ⟨(noted s.data.toList).toArray⟩) ∧ Below w.heap.size w w' := by
  obtain ⟨i0, hi, hz0, hz1, hz2⟩ := info_parts Yba.info5
  go_enter Yba.func6, Yba.ntmps6
  go_wp2
  go_loopw [3, 4, 5] (fun o sp i wr => ∃ (k n r : Nat) (a : Option Addr) (c : Nat) (b : List UInt8), k ≤ s.size ∧ i = .int .i64 k ∧ sp = .int .i64 r ∧ o = .slice a n c ∧ n + r ≤ k ∧
      wr.ownsRow w.heap.size 5 1 (.slice a n c) n (vb b) ∧ Below w.heap.size w wr ∧ Hid (stt (s.data.toList.take k) = (b, r))) (fun _ _ i _ => s.size - (intOf i).toNat)
  case atStart => exact ⟨0, 0, 0, _, _, [], Nat.zero_le _, rfl, rfl, rfl, by omega, World.ownsRow_nil _ _ _ _, Below.refl _ _, hide rfl⟩
  case round =>
    obtain ⟨k, n, r, a, c, b, hk, rfl, rfl, rfl, hnk, hown, hb, HS⟩ := hrel
    have hsz := hb.size
    by_cases hlt : k < s.size
    · have HT := hide (stt_snoc s k hlt)
      obtain ⟨x, hx⟩ : ∃ x : UInt8, (s[k]'hlt) = x := ⟨_, rfl⟩
      have HT2 : Hid (stt (s.data.toList.take (k + 1)) = stp (b, r) x) := hide (by rw [unhide HT, unhide HS, hx])
      clear HT HS
      obtain ⟨z, hz⟩ : ∃ z : Int, (x.toNat : Int) = z := ⟨_, rfl⟩
      have HZ := hide hz
      by_cases h32 : z = 32
      · have hx32 : x = 32 := byte_32.2 (by omega)
        have HV : Hid (stt (s.data.toList.take (k + 1)) = (b, r + 1)) := hide (by rw [unhide HT2, stp_sp b r x hx32])
        have hb1 : (z == 32) = true := by rw [beq_iff_eq]; exact h32
        clear h32 hx32 HT2
        go_wp2
        go_roundw
        case rel => exact ⟨k + 1, n, r + 1, a, c, b, by omega, by go_num, by go_num, rfl, by omega, hown, hb, HV⟩
        case measure => simp [intOf]; omega
      · have hb1 : (z == 32) = false := by rw [beq_eq_false_iff_ne]; exact h32
        have hx32 : x ≠ 32 := fun h => h32 (by rw [← hz]; exact byte_32.1 h)
        by_cases h59 : z = 59 ∧ 2 ≤ r
        · obtain ⟨h59, hr⟩ := h59
          have hx59 : x = 59 := byte_59.2 (by omega)
          have hb2 : (z == 59) = true := by rw [beq_iff_eq]; exact h59
          have HV : Hid (stt (s.data.toList.take (k + 1)) = (b ++ [32] ++ [x], 0)) := hide (by rw [unhide HT2, stp_semi b r x hx59 hr])
          clear h59 hx59 HT2 h32
          go_wp2_with (first
            | (at_builtin; refine wpList_appO _ rfl (.tmp 28) (.tmp 29) 24 24 rfl w.heap.size 5 i0 Yba.underlying24 hi hz0 hz1 hz2 _ _ _ _ rfl (hown.alloc _) _ [32] rfl (bsrc_one _ 32 _ rfl) 1 rfl (by omega) (by simp; omega) ?_; intro a2 c2 w2 hown2 hb2'; have hbw2 := (hb.alloc hsz _).trans hb2'; have hsz2 := hbw2.size)
            | (at_builtin; refine wpList_appO _ rfl (.tmp 39) (.tmp 41) 24 24 rfl w.heap.size 5 i0 Yba.underlying24 hi hz0 hz1 hz2 _ _ _ _ rfl (hown2.alloc _) _ [x] rfl (bsrc_one _ x _ (unhide HZ).symm) 1 rfl (by omega) (by simp; omega) ?_; intro a3 c3 w3 hown3 hb3'))
          go_roundw
          case rel => exact ⟨k + 1, n + 1 + 1, 0, a3, c3, b ++ [32] ++ [x], by omega, by go_num, rfl, rfl, by omega, hown3, (hbw2.alloc hsz2 _).trans hb3', HV⟩
          case measure => simp [intOf]; omega
        · have HV : Hid (stt (s.data.toList.take (k + 1)) = (b ++ List.replicate r 32 ++ [x], 0)) := hide (by rw [unhide HT2, stp_other b r x hx32 (fun h => h59 ⟨by rw [← hz]; exact byte_59.1 h.1, h.2⟩)])
          have hbb : ((z == 59) = false ∨ ((z == 59) = true ∧ r < 2)) := by
            by_cases h : z = 59
            · exact .inr ⟨by rw [beq_iff_eq]; exact h, by omega⟩
            · exact .inl (by rw [beq_eq_false_iff_ne]; exact h)
          clear h59 HT2 h32
          rcases hbb with hb2 | ⟨hb2, hr2⟩
          all_goals
            go_wp2
            go_loopw [3, 7] (fun v j w2 => ∃ (q : Nat) (a' : Option Addr) (c' : Nat), q ≤ r ∧ j = .int .i64 q ∧ v = .slice a' (n + q) c' ∧ w2.ownsRow w.heap.size 5 1 (.slice a' (n + q) c') (n + q) (vb (b ++ List.replicate q 32)) ∧ Below w.heap.size w w2) (fun _ j _ => r - (intOf j).toNat)
            case atStart => exact ⟨0, a, c, Nat.zero_le _, rfl, rfl, by simpa using hown, hb⟩
            case round =>
              clear hown hb hsz
              obtain ⟨q, a', c', hq, rfl, rfl, hown, hb⟩ := hrel
              have hsz := hb.size
              by_cases hqr : q < r
              · have HL : Hid (b ++ List.replicate q 32 ++ [32] = b ++ List.replicate (q + 1) 32) := hide (by rw [List.append_assoc, rep_succ])
                go_wp2_with (at_builtin; refine wpList_appO _ rfl (.tmp 36) (.tmp 37) 24 24 rfl w.heap.size 5 i0 Yba.underlying24 hi hz0 hz1 hz2 _ _ _ _ rfl (hown.alloc _) _ [32] rfl (bsrc_one _ 32 _ rfl) 1 rfl (by omega) (by simp; omega) ?_; intro a2 c2 w2' hown2 hb2')
                go_roundw
                case rel => exact ⟨q + 1, a2, c2, by omega, by go_num, rfl, by rw [← unhide HL]; exact hown2, (hb.alloc hsz _).trans hb2'⟩
                case measure => simp [intOf]; omega
              · have hqr' : q = r := by omega
                subst hqr'
                go_wp2_with (at_builtin; refine wpList_appO _ rfl (.tmp 39) (.tmp 41) 24 24 rfl w.heap.size 5 i0 Yba.underlying24 hi hz0 hz1 hz2 _ _ _ _ rfl (hown.alloc _) _ [x] rfl (bsrc_one _ x _ (unhide HZ).symm) 1 rfl (by omega) (by simp; omega) ?_; intro a3 c3 w3 hown3 hb3')
                go_roundw
                case rel => exact ⟨k + 1, n + q + 1, 0, a3, c3, b ++ List.replicate q 32 ++ [x], by omega, by go_num, rfl, rfl, by omega, hown3, (hb.alloc hsz _).trans hb3', HV⟩
                case measure => simp [intOf]; omega
    · have HV : Hid (noted s.data.toList = b ++ List.replicate r 32) := hide (by
        have := unhide HS
        rw [stt_end s k (by omega)] at this
        unfold noted
        rw [this])
      clear HS
      go_wp2
      go_loopw [3, 8] (fun v j w2 => ∃ (q : Nat) (a' : Option Addr) (c' : Nat), q ≤ r ∧ j = .int .i64 q ∧ v = .slice a' (n + q) c' ∧ w2.ownsRow w.heap.size 5 1 (.slice a' (n + q) c') (n + q) (vb (b ++ List.replicate q 32)) ∧ Below w.heap.size w w2) (fun _ j _ => r - (intOf j).toNat)
      case atStart => exact ⟨0, a, c, Nat.zero_le _, rfl, rfl, by simpa using hown, hb⟩
      case round =>
        clear hown hb hsz
        obtain ⟨q, a', c', hq, rfl, rfl, hown, hb⟩ := hrel
        have hsz := hb.size
        by_cases hqr : q < r
        · have HL : Hid (b ++ List.replicate q 32 ++ [32] = b ++ List.replicate (q + 1) 32) := hide (by rw [List.append_assoc, rep_succ])
          go_wp2_with (at_builtin; refine wpList_appO _ rfl (.tmp 48) (.tmp 49) 24 24 rfl w.heap.size 5 i0 Yba.underlying24 hi hz0 hz1 hz2 _ _ _ _ rfl (hown.alloc _) _ [32] rfl (bsrc_one _ 32 _ rfl) 1 rfl (by omega) (by simp; omega) ?_; intro a2 c2 w2' hown2 hb2')
          go_roundw
          case rel => exact ⟨q + 1, a2, c2, by omega, by go_num, rfl, by rw [← unhide HL]; exact hown2, (hb.alloc hsz _).trans hb2'⟩
          case measure => simp [intOf]; omega
        · have hqr' : q = r := by omega
          subst hqr'
          have hcv : (convert 24 9 (.slice a' (n + q) c')).run Yba.prog wr = .ok (.string ⟨(b ++ List.replicate q 32).toArray⟩) wr := conv_cells Yba.underlying24 Yba.underlying5 Yba.underlying9 (own_cells hown) (own_len hown)
          generalize b ++ List.replicate q 32 = L at *
          go_wp2
          go_ret
          exact ⟨by rw [unhide HV]; rfl, hb⟩
end Go.Proofs.Ybulkcefc
