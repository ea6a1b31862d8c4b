import Derived.Test.YbulkcefqUndo
namespace Go.Proofs.Ybulkcefq
open Go.RowKit

set_option maxRecDepth 100000 in
set_option maxHeartbeats 2000000 in
theorem back_walk (a0 : Int) (a1 : Int) (a2 : Int) (a3 : Option Addr) (len3 cap3 : Nat) (z3 : List Int) (a4 : Int) (a5 : Int) (w : World) (w0 : (Lit.int .u16 a0).wf = true) (w1 : (Lit.int .u16 a1).wf = true) (w2 : (Lit.int .u16 a2).wf = true) (w3 : IsRow .i64 w a3 len3 cap3 z3) (_w4 : (Lit.int .i64 a4).wf = true) (_w5 : (Lit.int .i64 a5).wf = true) :
    Calls Yba.prog 4 #[.int .u16 a0, .int .u16 a1, .int .u16 a2, .slice a3 len3 cap3, .int .i64 a4, .int .i64 a5] w fun e w' => e = .returned (.bool true) ∧ Below w.heap.size w w' := by
  obtain ⟨p, rfl, hp⟩ := u16_nat w0
  obtain ⟨q, rfl, hq⟩ := u16_nat w1
  obtain ⟨r, rfl, hr⟩ := u16_nat w2
  obtain ⟨l, hl, hc, hnone, _, _⟩ := isRow_i64 w3
  clear w0 w1 w2 w3
  by_cases hlen : len3 ≤ 1024
  · have hgt : (decide ((len3 : Int) > 1024)) = false := by simp; omega
    go_enter Yba.func4, Yba.ntmps4
    go_wp2_with (first
      | (go_at_call 5; refine (build_any true p q r hp hq hr a3 len3 cap3 l hl hlen hnone a4 a5 w hc).mono ?_; rintro e w1 ⟨U, x, y, z, a, c, rfl, hU1, hwU, hown1, haa, hb1⟩; have hUlt1 := uh_lt hU1; have HU1 := hide hU1; have HO1 := hide hown1; have HB1 := hide hb1; clear hU1 hown1 hb1)
      | (go_at_call 6; refine (mark_true w.heap.size U (p % 700) (q % 700) (r % 700) len3 x y z a4 a5 _ l w1 (unhide HU1) (unhide HO1) hwU (by omega)).mono ?_; rintro e w2 ⟨rfl, k2, v2, hk1, hk2, hk3, hU2, hown2, hb2⟩; obtain ⟨b, c2, rfl⟩ := own_shape hown2; have hUlt := uh_lt hU2; have HU2 := hide hU2; have HB2 := hide hb2; have g1 : (decide ((k2 : Int) ≥ (q : Int) % 700)) = true := (by simp; omega); have g2 : (decide ((k2 : Int) ≥ (len3 : Int))) = true := (by simp; omega); clear hU2 hown2 hb2 hk3)
      | (go_at_call 7; refine (undo_any w.heap.size U (p % 700) (q % 700) (r % 700) x y z _ _ (.slice b k2 c2) _ (uh_later (unhide HU2) ((Below.refl _ _).alloc (Nat.le_refl _) _)) hwU (by omega)).mono ?_; rintro e w3 ⟨⟨u, rfl⟩, hU3, hb3⟩; obtain ⟨d3, d4, d7, d8, d9, d10, d11⟩ := uh_cells hU3; have HB3 := hide hb3; clear hU3 hb3))
    go_ret
    exact ⟨rfl, (unhide HB1).trans ((unhide HB2).trans ((((Below.refl w.heap.size w2).alloc (Nat.le_trans (unhide HB1).size (unhide HB2).size) _)).trans (unhide HB3)))⟩
  · have hgt : (decide ((len3 : Int) > 1024)) = true := by simp; omega
    clear hc hnone hl
    go_enter Yba.func4, Yba.ntmps4
    go_wp2
    go_ret
    exact ⟨rfl, Below.refl _ _⟩
end Go.Proofs.Ybulkcefq
