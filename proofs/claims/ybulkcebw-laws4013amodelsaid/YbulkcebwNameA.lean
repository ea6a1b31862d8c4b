import Derived.Test.YbulkcebwProg
import Derived.Test.YbulkcebwPlainA
import Derived.Test.YbulkcebwKit
namespace Go.Proofs.Ybulkcebw
open Go.RowKit

theorem klass (c : Nat) : c = 45 ∨ (48 ≤ c ∧ c ≤ 57) ∨ (97 ≤ c ∧ c ≤ 122) ∨ (65 ≤ c ∧ c ≤ 90) ∨ c < 45 ∨ (45 < c ∧ c < 48) ∨ (57 < c ∧ c < 65) ∨ (90 < c ∧ c < 97) ∨ 122 < c := by omega

theorem klassB (c : Nat) : (c = 45 ∧ ((c : Int) != 45) = false) ∨ ((48 ≤ c ∧ c ≤ 57) ∧ ((c : Int) != 45) = true) ∨ ((97 ≤ c ∧ c ≤ 122) ∧ ((c : Int) != 45) = true) ∨ ((65 ≤ c ∧ c ≤ 90) ∧ ((c : Int) != 45) = true) ∨
    (c < 45 ∧ ((c : Int) != 45) = true) ∨ ((45 < c ∧ c < 48) ∧ ((c : Int) != 45) = true) ∨ ((57 < c ∧ c < 65) ∧ ((c : Int) != 45) = true) ∨ ((90 < c ∧ c < 97) ∧ ((c : Int) != 45) = true) ∨ (122 < c ∧ ((c : Int) != 45) = true) := by
  have h0 : c = 45 → ((c : Int) != 45) = false := fun h => by rw [bne_eq_false_iff_eq]; omega
  have h1 : c ≠ 45 → ((c : Int) != 45) = true := fun h => by rw [bne_iff_ne]; omega
  rcases klass c with h | h | h | h | h | h | h | h | h
  · exact .inl ⟨h, h0 h⟩
  · exact .inr (.inl ⟨h, h1 (by omega)⟩)
  · exact .inr (.inr (.inl ⟨h, h1 (by omega)⟩))
  · exact .inr (.inr (.inr (.inl ⟨h, h1 (by omega)⟩)))
  · exact .inr (.inr (.inr (.inr (.inl ⟨h, h1 (by omega)⟩))))
  · exact .inr (.inr (.inr (.inr (.inr (.inl ⟨h, h1 (by omega)⟩)))))
  · exact .inr (.inr (.inr (.inr (.inr (.inr (.inl ⟨h, h1 (by omega)⟩))))))
  · exact .inr (.inr (.inr (.inr (.inr (.inr (.inr (.inl ⟨h, h1 (by omega)⟩)))))))
  · exact .inr (.inr (.inr (.inr (.inr (.inr (.inr (.inr ⟨h, h1 (by omega)⟩)))))))

set_option maxHeartbeats 1000000 in
theorem aok_any (s : ByteArray) (w : World) (hs : s.size ≤ maxLen) :
    Calls Yba.prog 8 #[.string s] w fun e w' => e = .returned (.bool (nl s.data.toList)) ∧ w' = w := by
  unfold maxLen at hs
  by_cases h0 : s.size = 0
  · have hz : nl s.data.toList = false := by
      have : s.data.toList = [] := List.eq_nil_of_length_eq_zero (by simpa using h0)
      rw [this]; rfl
    have HZ := hide hz
    clear hz
    have h1 : (s.size : Int) = 0 := by omega
    go_enter Yba.func8, Yba.ntmps8
    go_wp2
    go_ret
    exact ⟨by rw [unhide HZ]; rfl, rfl⟩
  · have hne : s.data.toList.isEmpty = false := by
      cases hl : s.data.toList with
      | nil => exfalso; apply h0; have := congrArg List.length hl; simpa using this
      | cons a b => rfl
    have HNE := hide hne
    clear hne
    have h1 : ((s.size : Int) == 0) = false := by rw [beq_eq_false_iff_ne]; omega
    go_enter Yba.func8, Yba.ntmps8
    go_wp2
    go_loop [3] (fun i => ∃ k : Nat, k ≤ s.size ∧ i = .int .i64 k ∧ Hid ((s.data.toList.take k).all (fun c => okN c.toNat) = true)) (fun i => s.size - (intOf i).toNat)
    case atStart => exact ⟨0, Nat.zero_le _, rfl, hide (by simp)⟩
    case round =>
      obtain ⟨k, hk, rfl, ha⟩ := hrel
      by_cases hlt : k < s.size
      · obtain ⟨c, hc⟩ : ∃ c : Nat, (s[k]'hlt).toNat = c := ⟨_, rfl⟩
        have hc256 : c < 256 := by have := (s[k]'hlt).toNat_lt; omega
        have hT : okN c = true → Hid ((s.data.toList.take (k + 1)).all (fun c => okN c.toNat) = true) := fun h => hide (all_take_succ s k hlt (unhide ha) (by rw [hc]; exact h))
        have hF : okN c = false → Hid (nl s.data.toList = false) := fun h => hide (nl_false s k hlt (by rw [hc]; exact h))
        rcases klass c with h | h | h | h | h | h | h | h | h
        all_goals go_wp2
        all_goals first
          | (go_ret; exact ⟨by rw [unhide (hF (okN_false (by omega)))]; rfl, rfl⟩)
          | (go_round; (case rel => exact ⟨k + 1, by omega, by go_num, hT (okN_true (by omega))⟩); (case measure => simp [intOf]; omega))
      · have hend : Hid (nl s.data.toList = true) := hide (by rw [nl_end s k (by omega) (unhide ha), unhide HNE]; rfl)
        go_wp2
        go_ret
        exact ⟨by rw [unhide hend]; rfl, rfl⟩

set_option maxRecDepth 1000000 in
set_option maxHeartbeats 1000000 in
theorem nameLike_any (s : ByteArray) (w : World) :
    Calls Yba.prog 7 #[.string s] w fun e w' => e = .returned (.bool (nl s.data.toList)) ∧ ∃ pos, w' = w.iter s pos := by
  go_enter Yba.func7, Yba.ntmps7
  go_wp2
  go_loopw [] (fun w' => ∃ k : Nat, k ≤ s.size ∧ w' = w.iter s k ∧ Hid ((s.data.toList.take k).all (fun c => okN c.toNat) = true)) (fun w' => s.size - w'.iterPos w.heap.size)
  case atStart => exact ⟨0, Nat.zero_le _, rfl, hide (by simp)⟩
  case round =>
    obtain ⟨k, hk, rfl, ha⟩ := hrel
    by_cases hlt : k < s.size
    · by_cases hA : (s[k]'hlt).toNat < 128
      · obtain ⟨c, hc⟩ : ∃ c : Nat, (s[k]'hlt).toNat = c := ⟨_, rfl⟩
        have hc256 : c < 128 := by omega
        have hT : okN c = true → Hid ((s.data.toList.take (k + 1)).all (fun c => okN c.toNat) = true) := fun h => hide (all_take_succ s k hlt (unhide ha) (by rw [hc]; exact h))
        have hF : okN c = false → Hid (nl s.data.toList = false) := fun h => hide (nl_false s k hlt (by rw [hc]; exact h))
        have hnx : ∀ ty, (Instr.next (.pointer (some ⟨w.heap.size, 0, none⟩)) true ty).run Yba.prog (w.iter s k) = .ok (.tuple #[.bool true, .int .i64 k, .int .i32 c]) (w.iter s (k + 1)) := fun ty => by rw [run_next_ascii w s k ty hlt hA, hc]
        clear hA hc
        rcases klassB c with ⟨h, h45⟩ | ⟨h, h45⟩ | ⟨h, h45⟩ | ⟨h, h45⟩ | ⟨h, h45⟩ | ⟨h, h45⟩ | ⟨h, h45⟩ | ⟨h, h45⟩ | ⟨h, h45⟩
        all_goals go_wp2
        all_goals first
          | (go_ret; exact ⟨by rw [unhide (hF (okN_false (by omega)))]; rfl, _, rfl⟩)
          | (go_roundw; (case rel => exact ⟨k + 1, by omega, rfl, hT (okN_true (by omega))⟩); (case measure => simp; omega))
      · have hd := (decode_high s k hlt (by omega)).1
        have hF : Hid (nl s.data.toList = false) := hide (nl_false s k hlt (okN_false (by omega)))
        have hnx : ∀ ty, (Instr.next (.pointer (some ⟨w.heap.size, 0, none⟩)) true ty).run Yba.prog (w.iter s k) = _ := fun ty => run_next_any w s k ty hlt
        generalize Utf8.decode s k = d at hd hnx
        obtain ⟨r, n⟩ := d
        simp only at hd hnx
        have h45 : ((r : Int) != 45) = true := by rw [bne_iff_ne]; omega
        go_wp2
        go_ret
        exact ⟨by rw [unhide hF]; rfl, _, rfl⟩
    · have hnx : ∀ ty, (Instr.next (.pointer (some ⟨w.heap.size, 0, none⟩)) true ty).run Yba.prog (w.iter s k) = _ := fun ty => run_next_end w s k ty hlt
      have hend : Hid (nl s.data.toList = !s.data.toList.isEmpty) := hide (nl_end s k (by omega) (unhide ha))
      go_wp2
      go_ret
      exact ⟨by rw [unhide hend]; simp [ByteArray.toList_eq], _, rfl⟩
end Go.Proofs.Ybulkcebw
