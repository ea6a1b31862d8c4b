import Derived.Test.YbulkcefcDoorFmt
namespace Go.Proofs.YbulkcefcDoor
open Go.RowKit

theorem four_below (w : World) (o1 o2 o3 o4 : Obj) : Below w.heap.size w ((((w.alloc o1).alloc o2).alloc o3).alloc o4) :=
  ((((Below.refl _ _).alloc (Nat.le_refl _) _).alloc (by simp) _).alloc (by simp; omega) _).alloc (by simp; omega) _

theorem four_cells (w : World) (u v : Value) (t : TypeId) (o3 o4 : Obj) : ((((w.alloc (.cells #[u] t)).alloc (.cells #[v] t)).alloc o3).alloc o4).cell? ⟨w.heap.size, 0, none⟩ = some u ∧
    ((((w.alloc (.cells #[u] t)).alloc (.cells #[v] t)).alloc o3).alloc o4).cell? ⟨w.heap.size + 1, 0, none⟩ = some v ∧ w.heap.size + 1 < ((((w.alloc (.cells #[u] t)).alloc (.cells #[v] t)).alloc o3).alloc o4).heap.size := by
  refine ⟨?_, ?_, by simp⟩
  · rw [World.cell?_alloc_past _ _ _ (by simp; omega), World.cell?_alloc_past _ _ _ (by simp; omega), World.cell?_alloc_past _ _ _ (by simp)]
    simp
  · rw [World.cell?_alloc_past _ _ _ (by simp), World.cell?_alloc_past _ _ _ (by simp), World.cell?_alloc_at _ _ _ _ (by simp)]
    rfl

set_option maxRecDepth 100000 in
set_option maxHeartbeats 1000000 in
theorem line_true (name amt : ByteArray) (w : World) :
    Calls Ybad.prog 6 #[.string name, .bool true, .string amt] w fun e w' => e = .returned (.agg #[.pointer (some ⟨w.heap.size, 0, none⟩), .pointer none, .pointer (some ⟨w.heap.size + 1, 0, none⟩)]) ∧
      (w'.cell? ⟨w.heap.size, 0, none⟩ = some (.string name) ∧ w'.cell? ⟨w.heap.size + 1, 0, none⟩ = some (.string amt) ∧ w.heap.size + 1 < w'.heap.size) ∧ Below w.heap.size w w' := by
  go_enter Ybad.func6, Ybad.ntmps6
  go_wp2
  exact bodyPost_ret (v := .agg #[.pointer (some ⟨w.heap.size, 0, none⟩), .pointer none, .pointer (some ⟨w.heap.size + 1, 0, none⟩)]) (by simp [results, Ybad.results6, go_sem]) rfl ⟨rfl, four_cells w _ _ _ _ _, four_below w _ _ _ _⟩

set_option maxRecDepth 100000 in
set_option maxHeartbeats 1000000 in
theorem line_false (name amt : ByteArray) (w : World) :
    Calls Ybad.prog 6 #[.string name, .bool false, .string amt] w fun e w' => e = .returned (.agg #[.pointer (some ⟨w.heap.size, 0, none⟩), .pointer (some ⟨w.heap.size + 1, 0, none⟩), .pointer none]) ∧
      (w'.cell? ⟨w.heap.size, 0, none⟩ = some (.string name) ∧ w'.cell? ⟨w.heap.size + 1, 0, none⟩ = some (.string amt) ∧ w.heap.size + 1 < w'.heap.size) ∧ Below w.heap.size w w' := by
  go_enter Ybad.func6, Ybad.ntmps6
  go_wp2
  exact bodyPost_ret (v := .agg #[.pointer (some ⟨w.heap.size, 0, none⟩), .pointer (some ⟨w.heap.size + 1, 0, none⟩), .pointer none]) (by simp [results, Ybad.results6, go_sem]) rfl ⟨rfl, four_cells w _ _ _ _ _, four_below w _ _ _ _⟩
end Go.Proofs.YbulkcefcDoor
