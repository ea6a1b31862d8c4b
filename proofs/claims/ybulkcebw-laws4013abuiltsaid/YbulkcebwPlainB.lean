import Derived.Test.YbulkcebwPlainA
namespace Go.Proofs.Ybulkcebw

def tbl : List UInt8 := [97, 65, 122, 90, 48, 109, 57, 45, 81, 47, 58, 64, 91, 96, 123, 44, 46, 32, 95, 61, 126]
def pick (z : UInt8) : UInt8 := tbl.getD (z.toNat % 21) 0
def built (l : List UInt8) (k : Nat) : List UInt8 := (l.take k).map pick
def allB (l : List UInt8) (k : Nat) : Bool := (l.take k).all (fun z => decide (z.toNat % 21 < 9))

theorem pick_get_all : ∀ m, (h : m < 21) → (⟨#[97, 65, 122, 90, 48, 109, 57, 45, 81, 47, 58, 64, 91, 96, 123, 44, 46, 32, 95, 61, 126]⟩ : ByteArray)[m]'h = tbl.getD m 0 := by decide

theorem pick_get (z : UInt8) (h : z.toNat % 21 < 21) : (⟨#[97, 65, 122, 90, 48, 109, 57, 45, 81, 47, 58, 64, 91, 96, 123, 44, 46, 32, 95, 61, 126]⟩ : ByteArray)[z.toNat % 21]'h = pick z :=
  pick_get_all _ h

theorem built_length (l : List UInt8) (k : Nat) (h : k ≤ l.length) : (built l k).length = k := by
  simp [built]; omega

theorem built_succ (l : List UInt8) (k : Nat) (h : k < l.length) : built l (k + 1) = built l k ++ [pick l[k]] := by
  unfold built
  rw [List.take_add_one, List.getElem?_eq_getElem h, List.map_append]
  rfl

theorem allB_succ (l : List UInt8) (k : Nat) (h : k < l.length) : allB l (k + 1) = (allB l k && decide (l[k].toNat % 21 < 9)) := by
  unfold allB
  rw [List.take_add_one, List.getElem?_eq_getElem h, List.all_append]
  simp

theorem allB_low (l : List UInt8) (k : Nat) (h : k < l.length) (h9 : l[k].toNat % 21 < 9) : allB l (k + 1) = allB l k := by
  rw [allB_succ l k h]; simp [h9]
theorem allB_high (l : List UInt8) (k : Nat) (h : k < l.length) (h9 : ¬ l[k].toNat % 21 < 9) : allB l (k + 1) = false := by
  rw [allB_succ l k h]; simp [h9]

theorem ok_pick_all : (List.range 21).all (fun m => okN (tbl.getD m 0).toNat == decide (m < 9)) = true := by decide

theorem ok_pick (z : UInt8) : okN (pick z).toNat = decide (z.toNat % 21 < 9) := by
  have h := List.all_eq_true.1 ok_pick_all (z.toNat % 21) (List.mem_range.2 (Nat.mod_lt _ (by decide)))
  exact eq_of_beq h

theorem nl_built (l : List UInt8) : nl (built l l.length) = (decide (0 < l.length) && allB l l.length) := by
  have h1 : (built l l.length).all (fun c => okN c.toNat) = allB l l.length := by
    simp only [built, allB, List.all_map, Function.comp_def, ok_pick]
  unfold nl
  rw [h1]
  cases l <;> simp [built]
end Go.Proofs.Ybulkcebw
