import Derived.Test.YbulkcefqRow
namespace Go.Proofs.Ybulkcefq
open Go.RowKit

set_option maxRecDepth 100000 in
set_option maxHeartbeats 2000000 in
theorem build_nil (a0 : Bool) (p q r : Nat) (hp : p ≤ 65535) (hq : q ≤ 65535) (hr : r ≤ 65535) (a5 a6 : Int) (w : World) :
    Calls Yba.prog 5 #[.bool a0, .int .u16 p, .int .u16 q, .int .u16 r, .slice none 0 0, .int .i64 a5, .int .i64 a6] w fun e w' => ∃ U x y z, e = .returned (.pointer (some ⟨U, 0, none⟩)) ∧
      UH w' U (p % 700) (q % 700) (r % 700) x y z a0 a5 a6 (.slice none 0 0) ∧ w.heap.size ≤ U ∧ Below w.heap.size w w' := by
  obtain ⟨c1, m1⟩ := make_eq Yba.underlying29 Yba.z5 (p % 700) (by omega) (by omega)
  obtain ⟨c2, m2⟩ := make_eq Yba.underlying30 Yba.z43 (q % 700) (by omega) (by omega)
  obtain ⟨c3, m3⟩ := make_eq Yba.underlying33 Yba.z45 (r % 700) (by omega) (by omega)
  simp only [Int.natCast_emod, Int.cast_ofNat_Int] at m1 m2 m3
  have hnn := fun (w : World) (a : Option Addr) (n c n' c' : Nat) => run_neq_slice_nil_any (P := Yba.prog) w 23 3 a n c n' c' Yba.underlying23
  go_enter Yba.func5, Yba.ntmps5
  go_wp2
  go_region
  all_goals (
    go_wp2
    go_ret
    exact ⟨_, _, _, _, rfl, uh_at _ _ _ _ _ _ _ _ _ _ _ _ _ _ _ rfl, by omega, below4 _ _ _ _ _⟩)

end Go.Proofs.Ybulkcefq
