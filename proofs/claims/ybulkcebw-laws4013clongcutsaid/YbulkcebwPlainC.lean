import Derived.Laws.RangeAny
namespace Go.Proofs.Ybulkcebw

def plB (b : UInt8) : Bool := decide (32 < b.toNat) && decide (b.toNat < 127) && !decide (b.toNat = 37)
def hexd (n : Nat) : UInt8 := if n < 10 then UInt8.ofNat (48 + n) else UInt8.ofNat (55 + n)
def encB (b : UInt8) : List UInt8 := [37, hexd (b.toNat / 16), hexd (b.toNat % 16)]
def body (room : Int) : List UInt8 → List UInt8
  | [] => []
  | b :: t => if plB b = true then (if room < 1 then [] else b :: body (room - 1) t) else (if room < 3 then [] else encB b ++ body (room - 3) t)
def reply (d code text : List UInt8) : List UInt8 := d ++ code ++ [32] ++ body (4094 - code.length) text ++ [10]

theorem body_nil (r : Int) : body r [] = [] := rfl
theorem body_plain {r : Int} {b : UInt8} {t : List UInt8} (h : plB b = true) (hr : 1 ≤ r) : body r (b :: t) = b :: body (r - 1) t := by
  rw [body, if_pos h, if_neg (by omega)]
theorem body_plain_stop {r : Int} {b : UInt8} {t : List UInt8} (h : plB b = true) (hr : r < 1) : body r (b :: t) = [] := by
  rw [body, if_pos h, if_pos hr]
theorem body_enc {r : Int} {b : UInt8} {t : List UInt8} (h : plB b = false) (hr : 3 ≤ r) : body r (b :: t) = encB b ++ body (r - 3) t := by
  rw [body, if_neg (by simp [h]), if_neg (by omega)]
theorem body_enc_stop {r : Int} {b : UInt8} {t : List UInt8} (h : plB b = false) (hr : r < 3) : body r (b :: t) = [] := by
  rw [body, if_neg (by simp [h]), if_pos hr]

theorem body_length : ∀ (t : List UInt8) (r : Int), 0 ≤ r → ((body r t).length : Int) ≤ r
  | [], r, h => by simp [body]; omega
  | b :: t, r, h => by
    rw [body]
    split
    · split
      · simp; omega
      · have := body_length t (r - 1) (by omega)
        simp; omega
    · split
      · simp; omega
      · have := body_length t (r - 3) (by omega)
        simp [encB]; omega

theorem body_neg : ∀ (t : List UInt8) (r : Int), r < 1 → body r t = []
  | [], _, _ => rfl
  | b :: t, r, h => by
    cases hp : plB b
    · exact body_enc_stop hp (by omega)
    · exact body_plain_stop hp h

theorem plB_true {b : UInt8} (h : plB b = true) : 32 < b.toNat ∧ b.toNat < 127 ∧ b.toNat ≠ 37 := by
  unfold plB at h; simp at h; omega
theorem plB_false {b : UInt8} (h : plB b = false) : b.toNat ≤ 32 ∨ 127 ≤ b.toNat ∨ b.toNat = 37 := by
  unfold plB at h; simp at h; omega

theorem drop_cons (s : ByteArray) (k : Nat) (h : k < s.size) : s.data.toList.drop k = (s[k]'h) :: s.data.toList.drop (k + 1) := by
  have hk : k < s.data.toList.length := by simpa using h
  rw [List.drop_eq_getElem_cons hk]
  rfl
theorem drop_end (s : ByteArray) (k : Nat) (h : s.size ≤ k) : s.data.toList.drop k = [] := List.drop_eq_nil_of_le (by simpa using h)

theorem hexd_get_all : ∀ m, (h : m < 16) → (⟨#[48, 49, 50, 51, 52, 53, 54, 55, 56, 57, 65, 66, 67, 68, 69, 70]⟩ : ByteArray)[m]'h = hexd m := by decide
theorem hexd_low {n : Nat} (h : n < 10) : ((hexd n).toNat : Int) = 48 + n := by
  have : (hexd n).toNat = 48 + n := by
    rw [hexd, if_pos h, UInt8.toNat_ofNat']; omega
  omega
theorem hexd_high {n : Nat} (h : ¬ n < 10) (h2 : n < 16) : ((hexd n).toNat : Int) = 55 + n := by
  have : (hexd n).toNat = 55 + n := by
    rw [hexd, if_neg h, UInt8.toNat_ofNat']; omega
  omega
end Go.Proofs.Ybulkcebw
