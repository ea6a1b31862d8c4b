import Derived.Laws.RangeAny
namespace Go.Proofs.Ybulkcefc

def stp (p : List UInt8 × Nat) (c : UInt8) : List UInt8 × Nat :=
  if c = 32 then (p.1, p.2 + 1)
  else (p.1 ++ (if c = 59 ∧ 2 ≤ p.2 then [32] else List.replicate p.2 32) ++ [c], 0)
def stt (l : List UInt8) : List UInt8 × Nat := l.foldl stp ([], 0)
def noted (l : List UInt8) : List UInt8 := (stt l).1 ++ List.replicate (stt l).2 32

theorem stt_snoc (s : ByteArray) (k : Nat) (h : k < s.size) : stt (s.data.toList.take (k + 1)) = stp (stt (s.data.toList.take k)) (s[k]'h) := by
  have hk : k < s.data.toList.length := by simpa using h
  rw [List.take_add_one, List.getElem?_eq_getElem hk]
  unfold stt
  rw [List.foldl_append]
  rfl

theorem stt_end (s : ByteArray) (k : Nat) (h : s.size ≤ k) : stt (s.data.toList.take k) = stt s.data.toList := by
  rw [List.take_of_length_le (by simpa using h)]

theorem stp_sp (b : List UInt8) (r : Nat) (c : UInt8) (h : c = 32) : stp (b, r) c = (b, r + 1) := by
  unfold stp; rw [if_pos h]
theorem stp_semi (b : List UInt8) (r : Nat) (c : UInt8) (h : c = 59) (hr : 2 ≤ r) : stp (b, r) c = (b ++ [32] ++ [c], 0) := by
  subst h
  unfold stp; rw [if_neg (by decide), if_pos ⟨rfl, hr⟩]
theorem stp_other (b : List UInt8) (r : Nat) (c : UInt8) (h : c ≠ 32) (hr : ¬ (c = 59 ∧ 2 ≤ r)) : stp (b, r) c = (b ++ List.replicate r 32 ++ [c], 0) := by
  unfold stp; rw [if_neg h, if_neg hr]

theorem rep_succ (r : Nat) : List.replicate r (32 : UInt8) ++ [32] = List.replicate (r + 1) 32 := by
  rw [List.replicate_succ']

theorem byte_of {c : UInt8} {n : Nat} (hn : n < 256) (h : (c.toNat : Int) = n) : c = UInt8.ofNat n := by
  apply UInt8.toNat_inj.1
  rw [UInt8.toNat_ofNat']
  omega
theorem byte_32 {c : UInt8} : c = 32 ↔ (c.toNat : Int) = 32 := ⟨fun h => by rw [h]; rfl, fun h => byte_of (n := 32) (by decide) h⟩
theorem byte_59 {c : UInt8} : c = 59 ↔ (c.toNat : Int) = 59 := ⟨fun h => by rw [h]; rfl, fun h => byte_of (n := 59) (by decide) h⟩
end Go.Proofs.Ybulkcefc
