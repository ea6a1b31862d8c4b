import Derived.Test.YbulkcebwProg
import Derived.Test.YbulkcebwPlainC
import Derived.Test.YbulkcebwBytes
namespace Go.Proofs.Ybulkcebw
open Go.RowKit

set_option maxHeartbeats 400000 in
theorem plain_yes' (n : Int) (h1 : 32 < n) (h2 : n < 127) (h3 : (n != 37) = true) (w : World) :
    Calls Yba.prog 12 #[.int .u8 n] w fun e w' => e = .returned (.bool true) ∧ w' = w := by
  go_enter Yba.func12, Yba.ntmps12
  go_wp2
  go_ret
  exact ⟨rfl, rfl⟩

set_option maxHeartbeats 400000 in
theorem plain_no' (n : Int) (h : n ≤ 32 ∨ 127 ≤ n ∨ n = 37) (w : World) :
    Calls Yba.prog 12 #[.int .u8 n] w fun e w' => e = .returned (.bool false) ∧ w' = w := by
  by_cases h1 : 32 < n
  · by_cases h2 : n < 127
    · have h4 : n = 37 := by omega
      subst h4
      clear h
      go_enter Yba.func12, Yba.ntmps12
      go_wp2
      go_ret
      exact ⟨rfl, rfl⟩
    · clear h
      go_enter Yba.func12, Yba.ntmps12
      go_wp2
      go_ret
      exact ⟨rfl, rfl⟩
  · clear h
    go_enter Yba.func12, Yba.ntmps12
    go_wp2
    go_ret
    exact ⟨rfl, rfl⟩

theorem plain_yes (b : UInt8) (h : plB b = true) (w : World) :
    Calls Yba.prog 12 #[.int .u8 (b.toNat : Int)] w fun e w' => e = .returned (.bool true) ∧ w' = w := by
  obtain ⟨h1, h2, h3⟩ := plB_true h
  exact plain_yes' _ (by omega) (by omega) (by rw [bne_iff_ne]; omega) w

theorem plain_no (b : UInt8) (h : plB b = false) (w : World) :
    Calls Yba.prog 12 #[.int .u8 (b.toNat : Int)] w fun e w' => e = .returned (.bool false) ∧ w' = w := by
  have h := plB_false h
  exact plain_no' _ (by omega) w

theorem ret_u8 {a b : Int} (h : a = b) : Ending.returned (.int .u8 a) = .returned (.int .u8 b) := by rw [h]

set_option maxHeartbeats 400000 in
theorem chex_any (n : Int) (w : World) (h0 : 0 ≤ n) (h1 : n < 16) :
    Calls Yba.prog 13 #[.int .u8 n] w fun e w' => e = .returned (.int .u8 ((hexd n.toNat).toNat : Int)) ∧ w' = w := by
  by_cases h : n < 10
  · have H := hide (hexd_low (n := n.toNat) (by omega))
    go_enter Yba.func13, Yba.ntmps13
    go_wp2
    go_ret
    exact ⟨ret_u8 (by rw [unhide H]; omega), rfl⟩
  · have H := hide (hexd_high (n := n.toNat) (by omega) (by omega))
    go_enter Yba.func13, Yba.ntmps13
    go_wp2
    go_ret
    exact ⟨ret_u8 (by rw [unhide H]; omega), rfl⟩

set_option maxHeartbeats 400000 in
theorem equal_any (va vb' : Value) (la lb : List UInt8) (w : World) (ha : (convert 23 9 va).run Yba.prog w = .ok (.string ⟨la.toArray⟩) w) (hb : (convert 23 9 vb').run Yba.prog w = .ok (.string ⟨lb.toArray⟩) w) :
    Calls Yba.prog 11 #[va, vb'] w fun e w' => e = .returned (.bool (la == lb)) ∧ w' = w := by
  go_enter Yba.func11, Yba.ntmps11
  go_wp2
  go_ret
  exact ⟨ret_bool (by simp), rfl⟩
end Go.Proofs.Ybulkcebw
