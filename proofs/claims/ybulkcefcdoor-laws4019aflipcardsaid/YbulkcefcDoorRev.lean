import Derived.Test.YbulkcefcDoorLine
import Derived.Deep.RegionHeld3
namespace Go.Proofs.YbulkcefcDoor
open Go.RowKit

theorem Ybad.info49 : (Ybad.prog.info? 49).map (fun i => (i.zero, i.size, i.bytes)) = some (some (.agg #[.pointer none, .pointer none, .pointer none]), 3, 24) := by kernel_rfl

structure Laid (w : World) (T LB n : Nat) (name : Nat → ByteArray) (cr : Nat → Bool) (sc acc cur : Nat → Nat) : Prop where
  lines : w.cell? ⟨T, 6, none⟩ = some (.slice (some ⟨LB, 0, none⟩) n n)
  l0 : ∀ i, i < n → w.cell? ⟨LB, i * 4, none⟩ = some (.pointer (some ⟨acc i, 0, none⟩))
  l1 : ∀ i, i < n → w.cell? ⟨LB, i * 4 + 1, none⟩ = some (.bool (cr i))
  l2 : ∀ i, i < n → w.cell? ⟨LB, i * 4 + 2, none⟩ = some (.int .u64 0)
  l3 : ∀ i, i < n → w.cell? ⟨LB, i * 4 + 3, none⟩ = some (.int .u64 0)
  a0 : ∀ i, i < n → w.cell? ⟨acc i, 0, none⟩ = some (.string (name i))
  a3 : ∀ i, i < n → w.cell? ⟨acc i, 3, none⟩ = some (.pointer (some ⟨cur i, 0, none⟩))
  c1 : ∀ i, i < n → w.cell? ⟨cur i, 1, none⟩ = some (.int .i64 (sc i))

theorem Laid.later {w wx : World} {T LB n : Nat} {name : Nat → ByteArray} {cr : Nat → Bool} {sc acc cur : Nat → Nat} (h : Laid w T LB n name cr sc acc cur) (hb : Below w.heap.size w wx) : Laid wx T LB n name cr sc acc cur :=
  ⟨cell_later hb h.lines, fun i hi => cell_later hb (h.l0 i hi), fun i hi => cell_later hb (h.l1 i hi), fun i hi => cell_later hb (h.l2 i hi), fun i hi => cell_later hb (h.l3 i hi), fun i hi => cell_later hb (h.a0 i hi),
    fun i hi => cell_later hb (h.a3 i hi), fun i hi => cell_later hb (h.c1 i hi)⟩

theorem keepS {w wx : World} (hb : Below w.heap.size w wx) {a0 a1 a2 a3 a4 a5 a6 : Addr} {v0 v1 v2 v3 v4 v5 v6 : Value}
    (h : w.cell? a0 = some v0 ∧ w.cell? a1 = some v1 ∧ w.cell? a2 = some v2 ∧ w.cell? a3 = some v3 ∧ w.cell? a4 = some v4 ∧ w.cell? a5 = some v5 ∧ w.cell? a6 = some v6) :
    wx.cell? a0 = some v0 ∧ wx.cell? a1 = some v1 ∧ wx.cell? a2 = some v2 ∧ wx.cell? a3 = some v3 ∧ wx.cell? a4 = some v4 ∧ wx.cell? a5 = some v5 ∧ wx.cell? a6 = some v6 := by
  obtain ⟨h0, h1, h2, h3, h4, h5, h6⟩ := h
  exact ⟨cell_later hb h0, cell_later hb h1, cell_later hb h2, cell_later hb h3, cell_later hb h4, cell_later hb h5, cell_later hb h6⟩

theorem far_set {w : World} {O j : Nat} {u v : Value} {a : Addr} (h : w.cell? a = some v) (hne : a.block ≠ O) : (w.setCell ⟨O, j, none⟩ u).cell? a = some v := by
  rw [World.cell?_of_block (w := w) (Below.heap_setCell w ⟨O, j, none⟩ u a.block hne)]
  exact h

theorem far_set3 {w : World} {O j0 j1 j2 : Nat} {u0 u1 u2 v : Value} {a : Addr} (h : w.cell? a = some v) (hne : a.block ≠ O) : (((w.setCell ⟨O, j0, none⟩ u0).setCell ⟨O, j1, none⟩ u1).setCell ⟨O, j2, none⟩ u2).cell? a = some v :=
  far_set (far_set (far_set h hne) hne) hne

theorem keepSt {w : World} {O j0 j1 j2 L A C : Nat} {u0 u1 u2 : Value} {o0 o1 o2 o3 o4 o5 o6 : Nat} {v0 v1 v2 v3 v4 v5 v6 : Value} (hL : L ≠ O) (hA : A ≠ O) (hC : C ≠ O)
    (h : w.cell? ⟨L, o0, none⟩ = some v0 ∧ w.cell? ⟨L, o1, none⟩ = some v1 ∧ w.cell? ⟨L, o2, none⟩ = some v2 ∧ w.cell? ⟨L, o3, none⟩ = some v3 ∧ w.cell? ⟨A, o4, none⟩ = some v4 ∧ w.cell? ⟨A, o5, none⟩ = some v5 ∧ w.cell? ⟨C, o6, none⟩ = some v6) :
    (((w.setCell ⟨O, j0, none⟩ u0).setCell ⟨O, j1, none⟩ u1).setCell ⟨O, j2, none⟩ u2).cell? ⟨L, o0, none⟩ = some v0 ∧ (((w.setCell ⟨O, j0, none⟩ u0).setCell ⟨O, j1, none⟩ u1).setCell ⟨O, j2, none⟩ u2).cell? ⟨L, o1, none⟩ = some v1 ∧
    (((w.setCell ⟨O, j0, none⟩ u0).setCell ⟨O, j1, none⟩ u1).setCell ⟨O, j2, none⟩ u2).cell? ⟨L, o2, none⟩ = some v2 ∧ (((w.setCell ⟨O, j0, none⟩ u0).setCell ⟨O, j1, none⟩ u1).setCell ⟨O, j2, none⟩ u2).cell? ⟨L, o3, none⟩ = some v3 ∧
    (((w.setCell ⟨O, j0, none⟩ u0).setCell ⟨O, j1, none⟩ u1).setCell ⟨O, j2, none⟩ u2).cell? ⟨A, o4, none⟩ = some v4 ∧ (((w.setCell ⟨O, j0, none⟩ u0).setCell ⟨O, j1, none⟩ u1).setCell ⟨O, j2, none⟩ u2).cell? ⟨A, o5, none⟩ = some v5 ∧
    (((w.setCell ⟨O, j0, none⟩ u0).setCell ⟨O, j1, none⟩ u1).setCell ⟨O, j2, none⟩ u2).cell? ⟨C, o6, none⟩ = some v6 := by
  obtain ⟨h0, h1, h2, h3, h4, h5, h6⟩ := h
  exact ⟨far_set3 h0 hL, far_set3 h1 hL, far_set3 h2 hL, far_set3 h3 hL, far_set3 h4 hA, far_set3 h5 hA, far_set3 h6 hC⟩

theorem own_laterN {w wx : World} {B : Nat} {e : TypeId} {sz : Nat} {v : Value} {n : Nat} {xs : List Value} (h : w.ownsRow B e sz v n xs) (hb : Below w.heap.size w wx) : wx.ownsRow B e sz v n xs := by
  refine ⟨h.1, ?_⟩
  rcases h.2 with h2 | ⟨g, cap, cur, hv, hg, hh, r⟩
  · exact .inl h2
  · exact .inr ⟨g, cap, cur, hv, hg, by rw [hb.block g (Array.getElem?_eq_some_iff.1 hh).1]; exact hh, r⟩

theorem own_cell3 {w : World} {B : Nat} {e : TypeId} {g n : Nat} {xs : List Value} (h : w.ownsRow B e 3 (.slice (some ⟨g, 0, none⟩) n n) n xs) (j : Nat) (hj : j < n * 3) : ∃ v, w.cell? ⟨g, j, none⟩ = some v := by
  rw [h.cellAt j hj]
  have := h.1
  exact ⟨_, List.getElem?_eq_getElem (by omega)⟩

def ResAt (w : World) (O : Nat) (xs : List Value) (i : Nat) (name : ByteArray) (cr : Bool) (amt : ByteArray) : Prop :=
  ∃ p q, xs[i * 3]? = some (.pointer (some ⟨p, 0, none⟩)) ∧ xs[i * 3 + 1]? = some (.pointer (if cr then some ⟨q, 0, none⟩ else none)) ∧ xs[i * 3 + 2]? = some (.pointer (if cr then none else some ⟨q, 0, none⟩)) ∧
    w.cell? ⟨p, 0, none⟩ = some (.string name) ∧ w.cell? ⟨q, 0, none⟩ = some (.string amt) ∧ p ≠ O ∧ q ≠ O

def amtOf (s : Nat) : ByteArray := ⟨(zs s).toArray⟩

theorem set3_ne {xs : List Value} {a i : Nat} {u0 u1 u2 : Value} (h0 : i ≠ a) (h1 : i ≠ a + 1) (h2 : i ≠ a + 2) : (((xs.set a u0).set (a + 1) u1).set (a + 2) u2)[i]? = xs[i]? := by
  rw [List.getElem?_set_ne (by omega), List.getElem?_set_ne (by omega), List.getElem?_set_ne (by omega)]

theorem rev_step {w wr w5 : World} {B O n k p q : Nat} {xs : List Value} {name : Nat → ByteArray} {cr : Nat → Bool} {amt : Nat → ByteArray} (d c : Option Addr)
    (hres : ∀ i, i < k → ResAt wr O xs i (name i) (cr i) (amt i)) (hb5 : Below wr.heap.size wr w5) (hown5 : w5.ownsRow B 49 3 (.slice (some ⟨O, 0, none⟩) n n) n xs) (hk : k < n)
    (hp : w5.cell? ⟨p, 0, none⟩ = some (.string (name k))) (hq : w5.cell? ⟨q, 0, none⟩ = some (.string (amt k))) (hpO : p ≠ O) (hqO : q ≠ O)
    (hd : d = if cr k then some ⟨q, 0, none⟩ else none) (hc : c = if cr k then none else some ⟨q, 0, none⟩) (hB : B ≤ O) (hbw : Below B w w5) :
    (((w5.setCell ⟨O, k * 3, none⟩ (.pointer (some ⟨p, 0, none⟩))).setCell ⟨O, k * 3 + 1, none⟩ (.pointer d)).setCell ⟨O, k * 3 + 2, none⟩ (.pointer c)).ownsRow B 49 3 (.slice (some ⟨O, 0, none⟩) n n) n (((xs.set (k * 3) (.pointer (some ⟨p, 0, none⟩))).set (k * 3 + 1) (.pointer d)).set (k * 3 + 2) (.pointer c)) ∧
    (∀ i, i < k + 1 → ResAt (((w5.setCell ⟨O, k * 3, none⟩ (.pointer (some ⟨p, 0, none⟩))).setCell ⟨O, k * 3 + 1, none⟩ (.pointer d)).setCell ⟨O, k * 3 + 2, none⟩ (.pointer c)) O (((xs.set (k * 3) (.pointer (some ⟨p, 0, none⟩))).set (k * 3 + 1) (.pointer d)).set (k * 3 + 2) (.pointer c)) i (name i) (cr i) (amt i)) ∧
    Below B w (((w5.setCell ⟨O, k * 3, none⟩ (.pointer (some ⟨p, 0, none⟩))).setCell ⟨O, k * 3 + 1, none⟩ (.pointer d)).setCell ⟨O, k * 3 + 2, none⟩ (.pointer c)) := by
  have hlen := hown5.1
  refine ⟨(((hown5.stored _ _).1.stored _ _).1.stored _ _).1, fun i hi => ?_, ((hbw.setCell hB _).setCell hB _).setCell hB _⟩
  by_cases hik : i = k
  · subst hik
    refine ⟨p, q, ?_, ?_, ?_, far_set3 hp hpO, far_set3 hq hqO, hpO, hqO⟩
    · rw [List.getElem?_set_ne (by omega), List.getElem?_set_ne (by omega), List.getElem?_set_self (by omega)]
    · rw [List.getElem?_set_ne (by omega), List.getElem?_set_self (by simp; omega), hd]
    · rw [List.getElem?_set_self (by simp; omega), hc]
  · obtain ⟨p', q', h0, h1, h2, hp', hq', hp'O, hq'O⟩ := hres i (by omega)
    refine ⟨p', q', ?_, ?_, ?_, far_set3 (cell_later hb5 hp') hp'O, far_set3 (cell_later hb5 hq') hq'O, hp'O, hq'O⟩
    · rw [set3_ne (by omega) (by omega) (by omega)]; exact h0
    · rw [set3_ne (by omega) (by omega) (by omega)]; exact h1
    · rw [set3_ne (by omega) (by omega) (by omega)]; exact h2

set_option maxRecDepth 100000 in
set_option maxHeartbeats 2000000 in
theorem reversal_any (T LB n : Nat) (name : Nat → ByteArray) (cr : Nat → Bool) (sc acc cur : Nat → Nat) (w : World) (hn : n ≤ 1024) (hsc : ∀ i, i < n → sc i ≤ 18) (hL : Laid w T LB n name cr sc acc cur) :
    Calls Ybad.prog 4 #[.pointer (some ⟨T, 0, none⟩)] w fun e w' => ∃ O xs, e = .returned (.slice (some ⟨O, 0, none⟩) n n) ∧ w'.ownsRow w.heap.size 49 3 (.slice (some ⟨O, 0, none⟩) n n) n xs ∧
      (∀ i, i < n → ResAt w' O xs i (name i) (cr i) (amtOf (sc i))) ∧ Below w.heap.size w w' := by
  obtain ⟨i0, hi, hz0, hz1, hz2⟩ := info_parts Ybad.info49
  have hlines := hL.lines
  go_enter Ybad.func4, Ybad.ntmps4
  go_wp2_with (at_make; refine wpList_make_full _ rfl _ _ 45 rfl w.heap.size 49 i0 _ 3 Ybad.underlying45 hi hz0 hz1 _ _ _ _ n rfl rfl rfl rfl (by rw [hz2]; omega) (by unfold maxLen; omega) (Nat.le_refl _) ?_; intro w1 hown1 hgrow1; have hb1 : Below w.heap.size w w1 := (Below.refl _ _).grown hgrow1 (Nat.le_refl _) (fun k h => by cases h); have hlines1 := (hL.later hb1).lines; clear hgrow1)
  go_loopw [17] (fun i wr => ∃ (k : Nat) (xs : List Value), k ≤ n ∧ i = .int .i64 k ∧ wr.ownsRow w.heap.size 49 3 (.slice (some ⟨w.heap.size, 0, none⟩) n n) n xs ∧
      (∀ i, i < k → ResAt wr w.heap.size xs i (name i) (cr i) (amtOf (sc i))) ∧ Below w.heap.size w wr) (fun i _ => n - (intOf i).toNat)
  case atStart => exact ⟨0, _, Nat.zero_le _, rfl, hown1, fun i hi => by omega, hb1⟩
  case round =>
    clear hown1 hb1 hlines1 hlines
    obtain ⟨k, xs, hk, rfl, hown, hres, hb⟩ := hrel
    have HR := hide hres
    clear hres
    by_cases hlt : k < n
    · have hLr := hL.later hb
      have q0 := hLr.l0 k hlt
      have q1 := hLr.l1 k hlt
      have q2 := hLr.l2 k hlt
      have q3 := hLr.l3 k hlt
      have q4 := hLr.a0 k hlt
      have q5 := hLr.a3 k hlt
      have q6 := hLr.c1 k hlt
      have hs18 := hsc k hlt
      clear hLr
      have hO := hown.lt _ rfl
      have hAb := World.block_lt_of_cell? w _ (hL.a0 k hlt)
      have hCb := World.block_lt_of_cell? w _ (hL.c1 k hlt)
      generalize acc k = A at *
      generalize cur k = C at *
      generalize hsk : sc k = s at *
      generalize hnk : name k = nm at *
      have HSK := hide hsk
      have HNK := hide hnk
      clear hsk hnk
      obtain ⟨W, hW⟩ : ∃ W, W = wr.alloc (.cells #[.pointer (some ⟨A, 0, none⟩), .bool (cr k), .int .u64 0, .int .u64 0] 39) := ⟨_, rfl⟩
      have hbW : Below wr.heap.size wr W := by rw [hW]; exact (Below.refl _ _).alloc (Nat.le_refl _) _
      have hS0 : W.drew.cell? ⟨wr.heap.size, 0, none⟩ = some (.pointer (some ⟨A, 0, none⟩)) ∧ W.drew.cell? ⟨wr.heap.size, 1, none⟩ = some (.bool (cr k)) ∧ W.drew.cell? ⟨wr.heap.size, 2, none⟩ = some (.int .u64 0) ∧ W.drew.cell? ⟨wr.heap.size, 3, none⟩ = some (.int .u64 0) ∧
          W.drew.cell? ⟨A, 0, none⟩ = some (.string nm) ∧ W.drew.cell? ⟨A, 3, none⟩ = some (.pointer (some ⟨C, 0, none⟩)) ∧ W.drew.cell? ⟨C, 1, none⟩ = some (.int .i64 s) := by
        refine ⟨?_, ?_, ?_, ?_, cell_later hbW.drew q4, cell_later hbW.drew q5, cell_later hbW.drew q6⟩ <;> (rw [hW]; simp)
      have HW := hide hW
      clear hW
      go_wp2_with fail
      rw [← unhide HW]
      clear q0 q1 q2 q3 q4 q5 q6
      have HB := hide hb
      have HO := hide hown
      clear hb hown
      have hne1 : wr.heap.size ≠ w.heap.size := by omega
      have hne2 : A ≠ w.heap.size := by omega
      have hne3 : C ≠ w.heap.size := by omega
      cases hcr : cr k
      · rw [hcr] at hS0
        go_region_held3 (fun w' => w'.cell? ⟨wr.heap.size, 0, none⟩ = some (.pointer (some ⟨A, 0, none⟩)) ∧ w'.cell? ⟨wr.heap.size, 1, none⟩ = some (.bool false) ∧ w'.cell? ⟨wr.heap.size, 2, none⟩ = some (.int .u64 0) ∧ w'.cell? ⟨wr.heap.size, 3, none⟩ = some (.int .u64 0) ∧
          w'.cell? ⟨A, 0, none⟩ = some (.string nm) ∧ w'.cell? ⟨A, 3, none⟩ = some (.pointer (some ⟨C, 0, none⟩)) ∧ w'.cell? ⟨C, 1, none⟩ = some (.int .i64 s))
          (first | (with_reducible exact hS0) | (with_reducible exact keepSt hne1 hne2 hne3 (by assumption)) | (with_reducible exact keepS hbL (by assumption)) | (with_reducible exact keepS hbF (by assumption)))
          (first
            | (go_at_call 7; refine (format_any s hs18 _).mono ?_; rintro e w4 ⟨rfl, hbF⟩)
            | (go_at_call 6; refine (line_true nm _ _).mono ?_; rintro e w5 ⟨rfl, hcL, hbL⟩; have hb5 : Below wr.heap.size wr w5 := hbW.drew.trans ((hbF.trans (hbL.mono hbF.size)).mono hbW.size); have hown5 := own_laterN (unhide HO) hb5; obtain ⟨x0, o0⟩ := own_cell3 hown5 (k * 3) (by omega); obtain ⟨x1, o1⟩ := own_cell3 hown5 (k * 3 + 1) (by omega); obtain ⟨x2, o2⟩ := own_cell3 hown5 (k * 3 + 2) (by omega); have f0 := hown5.frozenAt (k * 3); have f1 := hown5.frozenAt (k * 3 + 1); have f2 := hown5.frozenAt (k * 3 + 2)))
        have hs4 : wr.heap.size ≤ w4.heap.size := Nat.le_trans hbW.size hbF.size
        have R := rev_step (amt := fun i => amtOf (sc i)) (p := w4.heap.size) (q := w4.heap.size + 1) none (some ⟨w4.heap.size + 1, 0, none⟩) (unhide HR) hb5 hown5 hlt (by rw [unhide HNK]; exact hcL.1) (by rw [unhide HSK]; exact hcL.2.1) (by omega) (by omega) (by rw [hcr]; rfl) (by rw [hcr]; rfl) (Nat.le_refl _) ((unhide HB).trans (hb5.mono (Nat.le_of_lt hO.2)))
        have HRR := hide R
        clear R hcL hbL hbF hb5 hown5 o0 o1 o2 f0 f1 f2 hS0
        go_wp2
        go_roundw
        case rel => exact ⟨k + 1, _, by omega, by go_num, (unhide HRR).1, (unhide HRR).2.1, (unhide HRR).2.2⟩
        case measure => simp [intOf]; omega
      · rw [hcr] at hS0
        go_region_held3 (fun w' => w'.cell? ⟨wr.heap.size, 0, none⟩ = some (.pointer (some ⟨A, 0, none⟩)) ∧ w'.cell? ⟨wr.heap.size, 1, none⟩ = some (.bool true) ∧ w'.cell? ⟨wr.heap.size, 2, none⟩ = some (.int .u64 0) ∧ w'.cell? ⟨wr.heap.size, 3, none⟩ = some (.int .u64 0) ∧
          w'.cell? ⟨A, 0, none⟩ = some (.string nm) ∧ w'.cell? ⟨A, 3, none⟩ = some (.pointer (some ⟨C, 0, none⟩)) ∧ w'.cell? ⟨C, 1, none⟩ = some (.int .i64 s))
          (first | (with_reducible exact hS0) | (with_reducible exact keepSt hne1 hne2 hne3 (by assumption)) | (with_reducible exact keepS hbL (by assumption)) | (with_reducible exact keepS hbF (by assumption)))
          (first
            | (go_at_call 7; refine (format_any s hs18 _).mono ?_; rintro e w4 ⟨rfl, hbF⟩)
            | (go_at_call 6; refine (line_false nm _ _).mono ?_; rintro e w5 ⟨rfl, hcL, hbL⟩; have hb5 : Below wr.heap.size wr w5 := hbW.drew.trans ((hbF.trans (hbL.mono hbF.size)).mono hbW.size); have hown5 := own_laterN (unhide HO) hb5; obtain ⟨x0, o0⟩ := own_cell3 hown5 (k * 3) (by omega); obtain ⟨x1, o1⟩ := own_cell3 hown5 (k * 3 + 1) (by omega); obtain ⟨x2, o2⟩ := own_cell3 hown5 (k * 3 + 2) (by omega); have f0 := hown5.frozenAt (k * 3); have f1 := hown5.frozenAt (k * 3 + 1); have f2 := hown5.frozenAt (k * 3 + 2)))
        have hs4 : wr.heap.size ≤ w4.heap.size := Nat.le_trans hbW.size hbF.size
        have R := rev_step (amt := fun i => amtOf (sc i)) (p := w4.heap.size) (q := w4.heap.size + 1) (some ⟨w4.heap.size + 1, 0, none⟩) none (unhide HR) hb5 hown5 hlt (by rw [unhide HNK]; exact hcL.1) (by rw [unhide HSK]; exact hcL.2.1) (by omega) (by omega) (by rw [hcr]; rfl) (by rw [hcr]; rfl) (Nat.le_refl _) ((unhide HB).trans (hb5.mono (Nat.le_of_lt hO.2)))
        have HRR := hide R
        clear R hcL hbL hbF hb5 hown5 o0 o1 o2 f0 f1 f2 hS0
        go_wp2
        go_roundw
        case rel => exact ⟨k + 1, _, by omega, by go_num, (unhide HRR).1, (unhide HRR).2.1, (unhide HRR).2.2⟩
        case measure => simp [intOf]; omega
    · have hkn : k = n := by omega
      subst hkn
      go_wp2
      go_ret
      exact ⟨w.heap.size, xs, rfl, hown, unhide HR, hb⟩
end Go.Proofs.YbulkcefcDoor
