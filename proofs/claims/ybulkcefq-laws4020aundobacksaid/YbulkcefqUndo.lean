import Derived.Test.YbulkcefqBuilt
namespace Go.Proofs.Ybulkcefq
open Go.RowKit

set_option maxRecDepth 100000 in
set_option maxHeartbeats 2000000 in
theorem undo_any (B U b n s : Nat) (x y z : Addr) (k0 s0 : Int) (v : Value) (w : World) (h : UH w U b n s x y z true k0 s0 v) (hB : B ≤ U) (hs : s ≤ 700) :
    Calls Yba.prog 7 #[.pointer (some ⟨U, 0, none⟩), .agg #[.int .i64 b, .int .i64 n, .int .i64 s]] w fun e w' => (∃ u, e = .returned u) ∧ UH w' U b n s x y z true n s v ∧ Below B w w' := by
  obtain ⟨W, hW⟩ : ∃ W, W = w.alloc (.cells #[.int .i64 b, .int .i64 n, .int .i64 s] 27) := ⟨_, rfl⟩
  have hbW : Below w.heap.size w W := by rw [hW]; exact (Below.refl _ _).alloc (Nat.le_refl _) _
  have hRW : RH W w.heap.size b n s := by rw [hW]; exact rh_alloc _ _ _ _
  have hUW := uh_later h hbW
  have hlt := uh_lt h
  have HW := hide hW
  obtain ⟨c3, c4, c7, c8, c9, c10, c11⟩ := uh_cells h
  have hge : (decide ((s : Int) - 1 ≥ (s : Int))) = false := by simp; omega
  go_enter Yba.func7, Yba.ntmps7
  go_wp2_with fail
  rw [← hW]
  obtain ⟨d3, d4, d7, d8, d9, d10, d11⟩ := uh_cells hUW
  obtain ⟨r0, r1, r2, _⟩ := rh_cells hRW
  clear c3 c4 c7 c8 c9 c10 c11 h hW
  refine wp_loop_rounds 1 ?_
  rw [rounds_succ]
  go_wp2_with fail
  have f3 := uh_free hUW 3
  have f4 := uh_free hUW 4
  have f10 := uh_free hUW 10
  have HUW := hide hUW
  have HRW := hide hRW
  have HBW := hide hbW
  clear hUW hRW hbW
  obtain ⟨V, hV⟩ : ∃ V, V = (((W.setCell ⟨U, 3, none⟩ (.slice (some x) b b)).setCell ⟨U, 4, none⟩ (.slice (some y) n n)).setCell ⟨U, 10, none⟩ (.slice (some z) s s)).drew := ⟨_, rfl⟩
  have HV := hide hV
  clear hV
  go_region
  rw [← unhide HV]
  have hUV : UH V U b n s x y z true k0 s0 v := by rw [unhide HV]; exact uh_set10 (uh_set4 (uh_set3 (unhide HUW)))
  have hRV : RH V w.heap.size b n s := by
    rw [unhide HV]
    have hne := (rh_ne (unhide HUW) (unhide HRW)).symm
    exact rh_far (rh_far (rh_far (unhide HRW) hne) hne) hne
  have hbV : Below B w V := by rw [unhide HV]; exact (((((unhide HBW).mono (by omega)).setCell hB _).setCell hB _).setCell hB _).drew
  clear d3 d4 d7 d8 d9 d10 d11 r0 r1 r2 f3 f4 f10 HV HUW HRW HBW HW
  obtain ⟨d3, d4, d7, d8, d9, d10, d11⟩ := uh_cells hUV
  obtain ⟨r0, r1, r2, _⟩ := rh_cells hRV
  have f8 := uh_free hUV 8
  have f9 := uh_free hUV 9
  have HUV := hide hUV
  have HBV := hide hbV
  clear hUV hRV hbV
  go_wp2_with fail
  obtain ⟨X, hX⟩ : ∃ X, X = ((V.setCell ⟨U, 8, none⟩ (.int .i64 n)).setCell ⟨U, 9, none⟩ (.int .i64 s)).drew := ⟨_, rfl⟩
  have HX := hide hX
  clear hX
  go_region
  rw [← unhide HX]
  have hUX : UH X U b n s x y z true n s v := by rw [unhide HX]; exact uh_set9 (uh_set8 (unhide HUV) _) _
  have hbX : Below B w X := by rw [unhide HX]; exact (((unhide HBV).setCell hB _).setCell hB _).drew
  clear d3 d4 d7 d8 d9 d10 d11 r0 r1 r2 f8 f9
  go_wp2
  go_end0
  exact ⟨⟨_, rfl⟩, hUX, hbX⟩
end Go.Proofs.Ybulkcefq
