import Derived.WalkKit
import Derived.WalkLawsBesides
import Derived.WalkSpells
import Derived.OpenShut
namespace Go.Proofs.Ybulkcebw
open Go.RowKit

theorem hide {p : Prop} (h : p) : Hid p := h
theorem unhide {p : Prop} (h : Hid p) : p := h.out

theorem ret_bool {a b : Bool} (h : a = b) : Ending.returned (.bool a) = .returned (.bool b) := by rw [h]

def IsRow (k : IntKind) (w : World) (a : Option Addr) (len cap : Nat) (zs : List Int) : Prop :=
  (a = none ∧ len = 0 ∧ cap = 0 ∧ zs = []) ∨
  ∃ x, a = some x ∧ len ≤ cap ∧ cap ≤ maxLen ∧ zs.length = cap ∧ (∀ i, i < zs.length → w.cell? (x.add i) = some (.int k (zs.getD i 0))) ∧ ∀ n ∈ zs, (Lit.int k n).wf = true

def vb (l : List UInt8) : List Value := l.map (fun b => Value.int .u8 (b.toNat : Int))

theorem vb_length (l : List UInt8) : (vb l).length = l.length := by simp [vb]
theorem vb_append (l m : List UInt8) : vb (l ++ m) = vb l ++ vb m := by simp [vb]
theorem vb_get {l : List UInt8} {j : Nat} {u : Value} (h : (vb l)[j]? = some u) : ∃ hj : j < l.length, u = .int .u8 (l[j].toNat : Int) := by
  have hj : j < l.length := by
    have := (List.getElem?_eq_some_iff.1 h).1
    simpa [vb] using this
  refine ⟨hj, ?_⟩
  simp [vb, List.getElem?_eq_getElem hj] at h
  exact h.symm
theorem vb_one (l : List UInt8) : ∀ u ∈ vb l, u.oneCell' = true := by
  intro u hu
  simp [vb] at hu
  obtain ⟨b, _, rfl⟩ := hu
  rfl

theorem isRow_u8 {w : World} {a : Option Addr} {len cap : Nat} {zs : List Int} (h : IsRow .u8 w a len cap zs) :
    len ≤ cap ∧ cap ≤ maxLen ∧ ∃ l : List UInt8, l.length = len ∧ (a = none → len = 0 ∧ cap = 0) ∧ (0 < len → ∃ b off, a = some ⟨b, off, none⟩ ∧ b < w.heap.size ∧ ∀ i (hi : i < l.length), w.cell? ⟨b, off + i, none⟩ = some (.int .u8 (l[i].toNat : Int))) := by
  rcases h with ⟨rfl, rfl, rfl, rfl⟩ | ⟨x, rfl, hl, hm, hz, hc, hw⟩
  · exact ⟨Nat.le_refl _, by simp [maxLen], [], rfl, fun _ => ⟨rfl, rfl⟩, fun h => by omega⟩
  · refine ⟨hl, hm, (zs.take len).map (fun z => UInt8.ofNat z.toNat), by simp; omega, fun h => by simp at h, fun hp => ?_⟩
    obtain ⟨b, off, rfl, hcell⟩ := ints_at hc (by omega)
    refine ⟨b, off, rfl, World.block_lt_of_cell? w _ (hcell 0 (by omega)), fun i hi => ?_⟩
    have hi' : i < zs.length := by simp at hi; omega
    have hil : i < len := by simp at hi; omega
    rw [hcell i hi']
    have hr := bounds_u8 (hw zs[i] (List.getElem_mem hi'))
    have e : zs.getD i 0 = zs[i] := by simp [List.getD, hi']
    rw [e]
    congr 2
    simp
    omega

theorem own_string {P : Program} {w : World} {base : Nat} {src dst e : TypeId} {v : Value} {n : Nat} {l : List UInt8} (hs : P.underlying src = some (.slice e)) (he : P.underlying e = some (.int .u8)) (hd : P.underlying dst = some .string)
    (h : w.ownsRow base e 1 v n (vb l)) (hn : l.length = n) : (convert src dst v).run P w = .ok (.string ⟨l.toArray⟩) w := by
  subst hn
  rcases h.2 with ⟨rfl, hl⟩ | ⟨g, cap, cur, rfl, r⟩
  · have : l = [] := List.eq_nil_of_length_eq_zero hl
    subst this
    have h0 := run_convert_bytes_string (P := P) w src dst e none 0 0 hs he hd
    rw [h0]
    simp [Conv.bytesToString]
    rfl
  · refine run_convert_bytes_back w src dst e ⟨g, 0, none⟩ cap l hs he hd fun j hj => ?_
    have := h.cells (g := g) rfl j (.int .u8 (l[j].toNat : Int)) (by simp [vb, hj])
    exact this
end Go.Proofs.Ybulkcebw
