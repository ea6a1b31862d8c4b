import Derived.Test.YbulkcefqRow
namespace Go.Proofs.Ybulkcefq
open Go.RowKit

set_option maxRecDepth 100000 in
set_option maxHeartbeats 2000000 in
theorem build_some (a0 : Bool) (p q r : Nat) (hp : p ≤ 65535) (hq : q ≤ 65535) (hr : r ≤ 65535) (ad : Addr) (len cap : Nat) (l : List Int) (hl : l.length = len) (hlen : len ≤ 1024) (a5 a6 : Int) (w : World) (hc : ICells w (some ad) l) :
    Calls Yba.prog 5 #[.bool a0, .int .u16 p, .int .u16 q, .int .u16 r, .slice (some ad) len cap, .int .i64 a5, .int .i64 a6] w fun e w' => ∃ U x y z g, e = .returned (.pointer (some ⟨U, 0, none⟩)) ∧
      UH w' U (p % 700) (q % 700) (r % 700) x y z a0 a5 a6 (.slice (some ⟨g, 0, none⟩) len len) ∧ w.heap.size ≤ U ∧ w'.ownsRow w.heap.size 3 1 (.slice (some ⟨g, 0, none⟩) len len) len (vi l) ∧ Below w.heap.size w w' := by
  obtain ⟨c1, m1⟩ := make_eq Yba.underlying29 Yba.z5 (p % 700) (by omega) (by omega)
  obtain ⟨c2, m2⟩ := make_eq Yba.underlying30 Yba.z43 (q % 700) (by omega) (by omega)
  obtain ⟨c3, m3⟩ := make_eq Yba.underlying33 Yba.z45 (r % 700) (by omega) (by omega)
  simp only [Int.natCast_emod, Int.cast_ofNat_Int] at m1 m2 m3
  obtain ⟨i0, hi, hz0, hz1, hz2⟩ := info_parts Yba.info3
  have hnn := fun (w : World) (a : Option Addr) (n c n' c' : Nat) => run_neq_slice_nil_any (P := Yba.prog) w 23 3 a n c n' c' Yba.underlying23
  go_enter Yba.func5, Yba.ntmps5
  go_wp2_with (first
    | (at_make; refine wpList_make_full _ rfl _ _ 23 rfl w.heap.size 3 i0 _ 1 Yba.underlying23 hi hz0 hz1 _ _ _ _ len rfl rfl rfl rfl (by rw [hz2]; omega) (by unfold maxLen; omega) (Nat.le_refl _) ?_; intro w1 hown1 hgrow1; have hb1 : Below w.heap.size w w1 := (Below.refl _ _).grown hgrow1 (Nat.le_refl _) (fun k h => by cases h); clear hgrow1)
    | (refine wpList_copyI _ rfl (.tmp 21) (.tmp 22) 23 rfl Yba.underlying23 hsz3 w.heap.size _ len _ rfl hown1 _ _ l rfl (icells_later hc hb1) hl ?_; intro w2 hown2 hb2))
  have hsz2 : w.heap.size ≤ w2.heap.size := Nat.le_trans hb1.size hb2.size
  have hbl : Below w.heap.size w w2 := hb1.trans hb2
  clear hown1 hb1 hb2
  have HO := hide hown2
  have HB := hide hbl
  clear hown2 hbl
  conv => arg 4; simp [Act.put]
  go_region
  all_goals (
    go_wp2
    go_ret
    exact ⟨_, _, _, _, _, rfl, uh_at _ _ _ _ _ _ _ _ _ _ _ _ _ _ _ rfl, by omega, own4 (unhide HO) _ _ _ _, (unhide HB).trans ((below4 w2 _ _ _ _).mono hsz2)⟩)
end Go.Proofs.Ybulkcefq
