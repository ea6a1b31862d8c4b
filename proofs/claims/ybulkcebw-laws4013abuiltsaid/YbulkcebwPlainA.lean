import Derived.Laws.RangeAny
namespace Go.Proofs.Ybulkcebw

def okN (c : Nat) : Bool := decide (c = 45) || (decide (48 ≤ c) && decide (c ≤ 57)) || (decide (97 ≤ c) && decide (c ≤ 122)) || (decide (65 ≤ c) && decide (c ≤ 90))

def nl (l : List UInt8) : Bool := !l.isEmpty && l.all (fun c => okN c.toNat)

theorem okN_true {c : Nat} (h : c = 45 ∨ (48 ≤ c ∧ c ≤ 57) ∨ (97 ≤ c ∧ c ≤ 122) ∨ (65 ≤ c ∧ c ≤ 90)) : okN c = true := by
  unfold okN; simp; omega

theorem okN_false {c : Nat} (h : ¬ (c = 45 ∨ (48 ≤ c ∧ c ≤ 57) ∨ (97 ≤ c ∧ c ≤ 122) ∨ (65 ≤ c ∧ c ≤ 90))) : okN c = false := by
  unfold okN; simp; omega

theorem bytes_get (s : ByteArray) (k : Nat) (h : k < s.size) : s.data.toList[k]? = some (s[k]'h) := by
  have hk : k < s.data.toList.length := by simpa using h
  rw [List.getElem?_eq_getElem hk]
  rfl

theorem all_take_succ (s : ByteArray) (k : Nat) (h : k < s.size) (ha : (s.data.toList.take k).all (fun c => okN c.toNat) = true) (hc : okN (s[k]'h).toNat = true) :
    (s.data.toList.take (k + 1)).all (fun c => okN c.toNat) = true := by
  rw [List.take_add_one, bytes_get s k h, List.all_append, ha]
  simp [hc]

theorem nl_false (s : ByteArray) (k : Nat) (h : k < s.size) (hc : okN (s[k]'h).toNat = false) : nl s.data.toList = false := by
  have hm : s[k]'h ∈ s.data.toList := List.mem_of_getElem? (bytes_get s k h)
  have : s.data.toList.all (fun c => okN c.toNat) = false := by
    rw [List.all_eq_false]
    exact ⟨_, hm, by simp [hc]⟩
  simp [nl, this]

theorem nl_end (s : ByteArray) (k : Nat) (hk : s.size ≤ k) (ha : (s.data.toList.take k).all (fun c => okN c.toNat) = true) : nl s.data.toList = !s.data.toList.isEmpty := by
  rw [List.take_of_length_le (by simpa using hk)] at ha
  simp [nl, ha]
end Go.Proofs.Ybulkcebw
