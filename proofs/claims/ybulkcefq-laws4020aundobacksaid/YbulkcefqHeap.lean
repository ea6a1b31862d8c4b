import Derived.Test.YbulkcefqRow
import Derived.Deep.AppendLies
import Derived.OneCell
import Derived.Lib.OwnKind
namespace Go.Proofs.Ybulkcefq
open Go.RowKit

section
variable {w w' : World} {U b n s : Nat} {x y z : Addr} {und : Bool} {k0 s0 : Int} {v : Value}

theorem uh_cells (h : UH w U b n s x y z und k0 s0 v) : w.cell? ⟨U, 3, none⟩ = some (.slice (some x) b b) ∧ w.cell? ⟨U, 4, none⟩ = some (.slice (some y) n n) ∧ w.cell? ⟨U, 7, none⟩ = some (.bool und) ∧
    w.cell? ⟨U, 8, none⟩ = some (.int .i64 k0) ∧ w.cell? ⟨U, 9, none⟩ = some (.int .i64 s0) ∧ w.cell? ⟨U, 10, none⟩ = some (.slice (some z) s s) ∧ w.cell? ⟨U, 11, none⟩ = some v := by
  unfold UH at h
  simp [World.cell?, h]

theorem uh_free (h : UH w U b n s x y z und k0 s0 v) (j : Nat) : w.frozen? ⟨U, j, none⟩ = false := by
  unfold UH at h
  simp [World.frozen?, h]

theorem uh_lt (h : UH w U b n s x y z und k0 s0 v) : U < w.heap.size := lt_of_block h

theorem uh_later (h : UH w U b n s x y z und k0 s0 v) (hb : Below w.heap.size w w') : UH w' U b n s x y z und k0 s0 v := by
  unfold UH
  rw [hb.block U (uh_lt h)]
  exact h

theorem uh_far {a : Addr} {u : Value} (h : UH w U b n s x y z und k0 s0 v) (hne : U ≠ a.block) : UH (w.setCell a u) U b n s x y z und k0 s0 v := by
  unfold UH
  rw [heap_setCell_other w a U u hne]
  exact h

theorem uh_drew (h : UH w U b n s x y z und k0 s0 v) : UH w.drew U b n s x y z und k0 s0 v := h

theorem uh_set3 (h : UH w U b n s x y z und k0 s0 v) : UH (w.setCell ⟨U, 3, none⟩ (.slice (some x) b b)) U b n s x y z und k0 s0 v := heap_setCell_same w U 3 _ 35 _ h
theorem uh_set4 (h : UH w U b n s x y z und k0 s0 v) : UH (w.setCell ⟨U, 4, none⟩ (.slice (some y) n n)) U b n s x y z und k0 s0 v := heap_setCell_same w U 4 _ 35 _ h
theorem uh_set10 (h : UH w U b n s x y z und k0 s0 v) : UH (w.setCell ⟨U, 10, none⟩ (.slice (some z) s s)) U b n s x y z und k0 s0 v := heap_setCell_same w U 10 _ 35 _ h
theorem uh_set8 (h : UH w U b n s x y z und k0 s0 v) (k1 : Int) : UH (w.setCell ⟨U, 8, none⟩ (.int .i64 k1)) U b n s x y z und k1 s0 v := heap_setCell_same w U 8 _ 35 _ h
theorem uh_set9 (h : UH w U b n s x y z und k0 s0 v) (s1 : Int) : UH (w.setCell ⟨U, 9, none⟩ (.int .i64 s1)) U b n s x y z und k0 s1 v := heap_setCell_same w U 9 _ 35 _ h
theorem uh_set11 (h : UH w U b n s x y z und k0 s0 v) (v' : Value) : UH (w.setCell ⟨U, 11, none⟩ v') U b n s x y z und k0 s0 v' := heap_setCell_same w U 11 _ 35 _ h

theorem blk_kept {k : Nat} {cs : Array Value} {t : TypeId} {fz : Nat × Nat} {B m : Nat} {vv : Value} {xs : List Value} (h : w.heap[k]? = some (.cells cs t fz)) (ht : t ≠ 3) (hown : w.ownsRow B 3 1 vv m xs) (hg : w.grownBy w' vv.ownBlock) : w'.heap[k]? = some (.cells cs t fz) := by
  rw [hg.block k (lt_of_block h) (fun e => ?_)]
  · exact h
  · obtain ⟨c, f, hk⟩ := Lib.ownsRow_kind hown k e.symm
    rw [h] at hk
    simp at hk
    exact ht hk.2.1

theorem own_ne {k : Nat} {cs : Array Value} {t : TypeId} {fz : Nat × Nat} {B m : Nat} {vv : Value} {xs : List Value} (h : w.heap[k]? = some (.cells cs t fz)) (ht : t ≠ 3) (hown : w.ownsRow B 3 1 vv m xs) : vv.ownBlock ≠ some k := by
  intro e
  obtain ⟨c, f, hk⟩ := Lib.ownsRow_kind hown k e
  rw [h] at hk
  simp at hk
  exact ht hk.2.1
end

theorem own_laterN {w wx : World} {B : Nat} {e : TypeId} {sz : Nat} {v : Value} {n : Nat} {xs : List Value} (h : w.ownsRow B e sz v n xs) (hb : Below w.heap.size w wx) : wx.ownsRow B e sz v n xs := by
  refine ⟨h.1, ?_⟩
  rcases h.2 with h2 | ⟨g, cap, cur, hv, hg, hh, r⟩
  · exact .inl h2
  · exact .inr ⟨g, cap, cur, hv, hg, by rw [hb.block g (Array.getElem?_eq_some_iff.1 hh).1]; exact hh, r⟩

def RH (w : World) (R : Nat) (p q r : Int) : Prop := w.heap[R]? = some (.cells #[.int .i64 p, .int .i64 q, .int .i64 r] 27)

theorem rh_cells {w : World} {R : Nat} {p q r : Int} (h : RH w R p q r) : w.cell? ⟨R, 0, none⟩ = some (.int .i64 p) ∧ w.cell? ⟨R, 1, none⟩ = some (.int .i64 q) ∧ w.cell? ⟨R, 2, none⟩ = some (.int .i64 r) ∧ ∀ j, w.frozen? ⟨R, j, none⟩ = false := by
  unfold RH at h
  simp [World.cell?, World.frozen?, h]

theorem rh_far {w : World} {R : Nat} {p q r : Int} {a : Addr} {u : Value} (h : RH w R p q r) (hne : R ≠ a.block) : RH (w.setCell a u) R p q r := by
  unfold RH
  rw [heap_setCell_other w a R u hne]
  exact h

theorem rh_later {w w' : World} {R : Nat} {p q r : Int} (h : RH w R p q r) (hb : Below w.heap.size w w') : RH w' R p q r := by
  unfold RH
  rw [hb.block R (lt_of_block h)]
  exact h

def svLen (w : World) (U : Nat) : Nat := match w.cell? ⟨U, 11, none⟩ with
  | some (.slice _ m _) => m
  | _ => 0

theorem svLen_eq {w : World} {U b n s : Nat} {x y z : Addr} {und : Bool} {k0 s0 : Int} {v : Value} {B m : Nat} {xs : List Value} (h : UH w U b n s x y z und k0 s0 v) (hown : w.ownsRow B 3 1 v m xs) : svLen w U = m := by
  obtain ⟨a, c, rfl⟩ := own_shape hown
  unfold svLen
  rw [(uh_cells h).2.2.2.2.2.2]

theorem rep_snoc (l : List Int) (m k : Nat) (h : m ≤ k) : vi (l ++ List.replicate (k - m) 0) ++ [Value.int .i64 0] = vi (l ++ List.replicate (k + 1 - m) 0) := by
  have : k + 1 - m = (k - m) + 1 := by omega
  rw [this, List.replicate_succ', ← List.append_assoc, vi_append _ [0]]
  rfl

theorem mark_step {w wr w3 : World} {U R B b n s m k g cap : Nat} {x y z : Addr} {v : Value} {l : List Int} (nq : Nat) (h : UH wr U b n s x y z true n s v) (hR : RH wr R 0 0 0) (hown : wr.ownsRow B 3 1 v k (vi (l ++ List.replicate (k - m) 0)))
    (hb : Below B w wr) (hmk : m ≤ k) (hB : B ≤ U) (hBs : B ≤ wr.heap.size)
    (hown3 : w3.ownsRow B 3 1 (.slice (some ⟨g, 0, none⟩) (k + 1) cap) (k + 1) (vi (l ++ List.replicate (k - m) 0) ++ [Value.int .i64 0])) (hgrow : ((wr.drewN nq).alloc (.cells #[.int .i64 0] 3)).grownBy w3 v.ownBlock) :
    w3.cell? ⟨U, 11, none⟩ = some v ∧ w3.frozen? ⟨U, 11, none⟩ = false ∧ UH (w3.setCell ⟨U, 11, none⟩ (.slice (some ⟨g, 0, none⟩) (k + 1) cap)) U b n s x y z true n s (.slice (some ⟨g, 0, none⟩) (k + 1) cap) ∧ RH (w3.setCell ⟨U, 11, none⟩ (.slice (some ⟨g, 0, none⟩) (k + 1) cap)) R 0 0 0 ∧
    (w3.setCell ⟨U, 11, none⟩ (.slice (some ⟨g, 0, none⟩) (k + 1) cap)).ownsRow B 3 1 (.slice (some ⟨g, 0, none⟩) (k + 1) cap) (k + 1) (vi (l ++ List.replicate (k + 1 - m) 0)) ∧ Below B w (w3.setCell ⟨U, 11, none⟩ (.slice (some ⟨g, 0, none⟩) (k + 1) cap)) := by
  have hb2 : Below wr.heap.size wr ((wr.drewN nq).alloc (.cells #[.int .i64 0] 3)) := (below_drewN (Below.refl _ _) nq).alloc (Nat.le_refl _) _
  have hown2 := own_laterN hown hb2
  have h3 : UH w3 U b n s x y z true n s v := blk_kept (uh_later h hb2) (by decide) hown2 hgrow
  have hR3 : RH w3 R 0 0 0 := blk_kept (rh_later hR hb2) (by decide) hown2 hgrow
  have hne : R ≠ U := by
    rintro rfl
    unfold RH at hR
    unfold UH at h
    rw [h] at hR
    simp at hR
  rw [rep_snoc l m k hmk] at hown3
  have hneU : (Value.slice (some ⟨g, 0, none⟩) (k + 1) cap).ownBlock ≠ some U := own_ne (show w3.heap[U]? = _ from h3) (by decide) hown3
  refine ⟨(uh_cells h3).2.2.2.2.2.2, uh_free h3 11, uh_set11 h3 _, rh_far hR3 hne, ownsRow_setCell_other hown3 hneU _, ?_⟩
  exact ((hb.trans (hb2.mono hBs)).grown hgrow (Nat.le_trans hBs hb2.size) (fun k' hk' => (hown.lt k' hk').1)).setCell hB _

end Go.Proofs.Ybulkcefq
