import Derived.Test.YbulkcefqHeap
import Derived.Deep.QuietTactic
import Derived.BigQuiet
namespace Go.Proofs.Ybulkcefq
open Go.RowKit

theorem rh_alloc (w : World) (p q r : Int) : RH (w.alloc (.cells #[.int .i64 p, .int .i64 q, .int .i64 r] 27)) w.heap.size p q r := by
  show (w.heap.push _)[w.heap.size]? = _
  simp

theorem rh_set3 {w : World} {R : Nat} {p q r : Int} (h : RH w R p q r) (p' q' r' : Int) : RH (((w.setCell ⟨R, 0, none⟩ (.int .i64 p')).setCell ⟨R, 1, none⟩ (.int .i64 q')).setCell ⟨R, 2, none⟩ (.int .i64 r')) R p' q' r' :=
  heap_setCell_same _ R 2 _ 27 _ (heap_setCell_same _ R 1 _ 27 _ (heap_setCell_same _ R 0 _ 27 _ h))

theorem rh_ne {w : World} {U R b n s : Nat} {x y z : Addr} {und : Bool} {k0 s0 : Int} {v : Value} {p q r : Int} (h : UH w U b n s x y z und k0 s0 v) (hR : RH w R p q r) : U ≠ R := by
  rintro rfl
  unfold RH at hR
  unfold UH at h
  rw [h] at hR
  simp at hR

set_option maxRecDepth 100000 in
set_option maxHeartbeats 2000000 in
theorem mark_false (U b n s : Nat) (x y z : Addr) (k0 s0 : Int) (v : Value) (w : World) (h : UH w U b n s x y z false k0 s0 v) :
    Calls Yba.prog 6 #[.pointer (some ⟨U, 0, none⟩)] w fun e w' => e = .returned (.agg #[.int .i64 b, .int .i64 n, .int .i64 s]) ∧ Below w.heap.size w w' := by
  obtain ⟨W, hW⟩ : ∃ W, W = w.alloc (.cells #[.int .i64 0, .int .i64 0, .int .i64 0] 27) := ⟨_, rfl⟩
  have hbW : Below w.heap.size w W := by rw [hW]; exact (Below.refl _ _).alloc (Nat.le_refl _) _
  have hRW : RH W w.heap.size 0 0 0 := by rw [hW]; exact rh_alloc _ _ _ _
  obtain ⟨c3, c4, c7, c8, c9, c10, c11⟩ := uh_cells h
  obtain ⟨d3, d4, d7, d8, d9, d10, d11⟩ := uh_cells (uh_later h hbW)
  obtain ⟨r0, r1, r2, rf⟩ := rh_cells hRW
  have f0 := rf 0
  have f1 := rf 1
  have f2 := rf 2
  have hlt := uh_lt h
  have HW := hide hW
  have HR := hide hRW
  have HB := hide hbW
  clear hW hRW hbW rf h
  go_enter Yba.func6, Yba.ntmps6
  go_wp2_with fail
  rw [← unhide HW]
  clear c3 c4 c7 c8 c9 c10 c11
  go_wp2_with fail
  obtain ⟨V, hV⟩ : ∃ V, V = (((W.setCell ⟨w.heap.size, 0, none⟩ (.int .i64 b)).setCell ⟨w.heap.size, 1, none⟩ (.int .i64 n)).setCell ⟨w.heap.size, 2, none⟩ (.int .i64 s)).drew := ⟨_, rfl⟩
  have HV := hide hV
  clear hV
  go_region
  rw [← unhide HV]
  have hRV : RH V w.heap.size b n s := by rw [unhide HV]; exact rh_set3 (unhide HR) _ _ _
  have hbV : Below w.heap.size w V := by rw [unhide HV]; exact ((((unhide HB).setCell (Nat.le_refl _) _).setCell (Nat.le_refl _) _).setCell (Nat.le_refl _) _).drew
  obtain ⟨q0, q1, q2, _⟩ := rh_cells hRV
  clear d3 d4 d7 d8 d9 d10 d11 r0 r1 r2 f0 f1 f2
  go_wp2
  refine bodyPost_ret (v := .agg #[.int .i64 b, .int .i64 n, .int .i64 s]) ?_ rfl ⟨rfl, hbV⟩
  simp [results, Yba.results6, go_sem, q0, q1, q2]
end Go.Proofs.Ybulkcefq
