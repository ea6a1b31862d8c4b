import Derived.Test.YbulkcefcDoorFill
import Derived.Deep.QuietTactic
import Derived.BigQuiet
namespace Go.Proofs.YbulkcefcDoor
open Go.RowKit

theorem Ybad.info4 : (Ybad.prog.info? 4).map (fun i => (i.zero, i.size, i.bytes)) = some (some (.bool false), 1, 1) := by kernel_rfl
theorem Ybad.info3 : (Ybad.prog.info? 3).map (fun i => (i.zero, i.size, i.bytes)) = some (some (.int .i64 0), 1, 8) := by kernel_rfl
theorem Ybad.info28 : (Ybad.prog.info? 28).map (fun i => (i.zero, i.size, i.bytes)) = some (some (.pointer none), 1, 8) := by kernel_rfl
theorem Ybad.info39 : (Ybad.prog.info? 39).map (fun i => (i.zero, i.size, i.bytes)) = some (some (.agg #[.pointer none, .bool false, .int .u64 0, .int .u64 0]), 4, 32) := by kernel_rfl

theorem own_cellN {w : World} {B : Nat} {e : TypeId} {sz g n : Nat} {xs : List Value} (h : w.ownsRow B e sz (.slice (some ⟨g, 0, none⟩) n n) n xs) (j : Nat) (hj : j < n * sz) : ∃ v, w.cell? ⟨g, j, none⟩ = some v := by
  rw [h.cellAt j hj]
  have := h.1
  exact ⟨_, List.getElem?_eq_getElem (by omega)⟩

def Row (w : World) (a : Option Addr) (n : Nat) (f : Nat → Value) : Prop := 0 < n → ∃ b off, a = some ⟨b, off, none⟩ ∧ ∀ i, i < n → w.cell? ⟨b, off + i, none⟩ = some (f i)

set_option maxRecDepth 100000 in
set_option maxHeartbeats 8000000 in
theorem flip_walk (a0 a1 a2 : Option Addr) (n cap0 n1 cap1 n2 cap2 : Nat) (name : Nat → ByteArray) (cb : Nat → Bool) (sb : Nat → Nat) (w : World) (hm0 : n ≤ maxLen) (hm1 : n1 ≤ maxLen) (hm2 : n2 ≤ maxLen)
    (h0 : Row w a0 n (fun i => .string (name i))) (h1 : Row w a1 n1 (fun i => .bool (cb i))) (h2 : Row w a2 n2 (fun i => .int .u8 (sb i))) (hsb : ∀ i, sb i < 256) :
    Calls Ybad.prog 3 #[.slice a0 n cap0, .slice a1 n1 cap1, .slice a2 n2 cap2] w fun e w' => e = .returned (.bool true) ∧ Below w.heap.size w w' := by
  unfold maxLen at hm0 hm1 hm2
  obtain ⟨cr, hcr⟩ : ∃ cr : Nat → Bool, ∀ i, cr i = (decide (i < n1) && cb i) := ⟨_, fun _ => rfl⟩
  obtain ⟨sc, hsc⟩ : ∃ sc : Nat → Nat, ∀ i, sc i = if 0 < n2 then sb (i % n2) % 19 else 0 := ⟨_, fun _ => rfl⟩
  have HCR := hide hcr
  have HSC := hide hsc
  clear hcr hsc
  by_cases hbig : n ≤ 1024
  · obtain ⟨i4, hi4, hz40, hz41, hz42⟩ := info_parts Ybad.info4
    obtain ⟨i3, hi3, hz30, hz31, hz32⟩ := info_parts Ybad.info3
    obtain ⟨i28, hi28, hz280, hz281, hz282⟩ := info_parts Ybad.info28
    obtain ⟨i39, hi39, hz390, hz391, hz392⟩ := info_parts Ybad.info39
    go_enter Ybad.func3, Ybad.ntmps3
    go_wp2_with (first
      | (at_make; refine wpList_make_full _ rfl (.tmp 26) (.tmp 26) 23 rfl w.heap.size 4 i4 _ 1 Ybad.underlying23 hi4 hz40 hz41 _ _ _ _ n rfl rfl rfl rfl (by rw [hz42]; omega) (by unfold maxLen; omega) (Nat.le_refl _) ?_; intro w1 hown1 hgrow1; have hb1 : Below w.heap.size w w1 := (Below.refl _ _).grown hgrow1 (Nat.le_refl _) (fun k h => by cases h); have hs1 := hb1.size)
      | (at_make; refine wpList_make_full _ rfl (.tmp 28) (.tmp 28) 25 rfl w.heap.size 3 i3 _ 1 Ybad.underlying25 hi3 hz30 hz31 _ _ _ _ n rfl rfl rfl rfl (by rw [hz32]; omega) (by unfold maxLen; omega) hs1 ?_; intro w2 hown2 hgrow2; have hb2 : Below w1.heap.size w1 w2 := (Below.refl _ _).grown hgrow2 (Nat.le_refl _) (fun k h => by cases h); have hs2 := hb2.size)
      | (at_make; refine wpList_make_full _ rfl (.tmp 30) (.tmp 30) 26 rfl w.heap.size 28 i28 _ 1 Ybad.underlying26 hi28 hz280 hz281 _ _ _ _ n rfl rfl rfl rfl (by rw [hz282]; omega) (by unfold maxLen; omega) (by omega) ?_; intro w3 hown3 hgrow3; have hb3 : Below w2.heap.size w2 w3 := (Below.refl _ _).grown hgrow3 (Nat.le_refl _) (fun k h => by cases h); have hs3 := hb3.size)
      | (at_make; refine wpList_make_full _ rfl (.tmp 32) (.tmp 32) 27 rfl w.heap.size 39 i39 _ 4 Ybad.underlying27 hi39 hz390 hz391 _ _ _ _ n rfl rfl rfl rfl (by rw [hz392]; omega) (by unfold maxLen; omega) (by omega) ?_; intro w4 hown4 hgrow4; have hb4 : Below w3.heap.size w3 w4 := (Below.refl _ _).grown hgrow4 (Nat.le_refl _) (fun k h => by cases h); have hs4 := hb4.size))
    have hlt1 : w.heap.size < w1.heap.size := (hown1.lt _ rfl).2
    have hlt2 : w1.heap.size < w2.heap.size := (hown2.lt _ rfl).2
    have hlt3 : w2.heap.size < w3.heap.size := (hown3.lt _ rfl).2
    have hlt4 : w3.heap.size < w4.heap.size := (hown4.lt _ rfl).2
    have hF0 : Fill w.heap.size w w4 n 0 w.heap.size w1.heap.size w2.heap.size w3.heap.size name cr sc (fun _ => 0) (fun _ => 0) := by
      have q1 := own_laterN (own_laterN (own_laterN hown1 hb2) hb3) hb4
      have q2 := own_laterN (own_laterN hown2 hb3) hb4
      have q3 := own_laterN hown3 hb4
      exact ⟨hb1.trans ((hb2.trans ((hb3.trans (hb4.mono hs3)).mono hs2)).mono hs1), ⟨_, q1⟩, ⟨_, q2⟩, ⟨_, q3⟩, ⟨_, hown4⟩, fun i h => by omega, fun i h => by omega, fun i h => by omega, fun i h => by omega, fun i h => by omega, fun i h => by omega, fun i h => by omega, fun i h => by omega, fun i h => by omega, fun i h => by omega, fun i h => by omega⟩
    clear hown1 hown2 hown3 hown4 hgrow1 hgrow2 hgrow3 hgrow4 hb1 hb2 hb3 hb4 hs1 hs2 hs3 hs4
    have hsz4 : w3.heap.size < w4.heap.size := hlt4
    clear hlt4
    obtain ⟨R2, hR2⟩ : ∃ R, R = w1.heap.size := ⟨_, rfl⟩
    obtain ⟨R3, hR3⟩ : ∃ R, R = w2.heap.size := ⟨_, rfl⟩
    obtain ⟨R4, hR4⟩ : ∃ R, R = w3.heap.size := ⟨_, rfl⟩
    rw [← hR2] at hlt1 hlt2
    rw [← hR3] at hlt2 hlt3
    rw [← hR4] at hlt3 hsz4
    rw [← hR2, ← hR3, ← hR4] at hF0
    rw [← hR2, ← hR3, ← hR4]
    clear hR2 hR3 hR4
    go_loopw [12] (fun i wr => ∃ (k : Nat) (acc cur : Nat → Nat), k ≤ n ∧ i = .int .i64 k ∧ R4 < wr.heap.size ∧ Fill w.heap.size w wr n k w.heap.size R2 R3 R4 name cr sc acc cur) (fun i _ => n - (intOf i).toNat)
    case atStart => exact ⟨0, _, _, Nat.zero_le _, rfl, hsz4, hF0⟩
    case round =>
      clear hF0 hsz4
      obtain ⟨k, acc, cur, hk, rfl, hR4w, hF⟩ := hrel
      have HF := hide hF
      by_cases hlt : k < n
      · obtain ⟨b0, off0, rfl, hc0⟩ := h0 (by omega)
        have hb0 := World.block_lt_of_cell? w _ (hc0 k hlt)
        have g0 := cell_later hF.below (hc0 k hlt)
        obtain ⟨xs1, o1⟩ := hF.o1
        obtain ⟨xs2, o2⟩ := hF.o2
        obtain ⟨xs3, o3⟩ := hF.o3
        obtain ⟨xs4, o4⟩ := hF.o4
        obtain ⟨v1, d1⟩ := own_cellN o1 k (by omega)
        obtain ⟨v2, d2⟩ := own_cellN o2 k (by omega)
        obtain ⟨v3, d3⟩ := own_cellN o3 k (by omega)
        obtain ⟨y0, e0⟩ := own_cellN o4 (k * 4) (by omega)
        obtain ⟨y1, e1⟩ := own_cellN o4 (k * 4 + 1) (by omega)
        obtain ⟨y2, e2⟩ := own_cellN o4 (k * 4 + 2) (by omega)
        obtain ⟨y3, e3⟩ := own_cellN o4 (k * 4 + 3) (by omega)
        have f1 := o1.frozenAt k
        have f2 := o2.frozenAt k
        have f3 := o3.frozenAt k
        have p0 := o4.frozenAt (k * 4)
        have p1 := o4.frozenAt (k * 4 + 1)
        have p2 := o4.frozenAt (k * 4 + 2)
        have p3 := o4.frozenAt (k * 4 + 3)
        clear o1 o2 o3 o4
        have hR3w : R3 < wr.heap.size := by omega
        have hR3v : R3 < wr.heap.size + 1 := by omega
        have hR4v : R4 < wr.heap.size + 1 := by omega
        by_cases hk1 : k < n1
        · obtain ⟨b1, off1, rfl, hc1⟩ := h1 (by omega)
          have g1 := cell_later hF.below (hc1 k hk1)
          have hcrk : cr k = cb k := by rw [unhide HCR k]; simp [hk1]
          have HCK := hide hcrk
          clear hcrk
          by_cases hp2 : 0 < n2
          · obtain ⟨b2, off2, rfl, hc2⟩ := h2 hp2
            have hmod : k % n2 < n2 := Nat.mod_lt _ hp2
            have g2 := cell_later hF.below (hc2 (k % n2) hmod)
            have h256 := hsb (k % n2)
            have HSK : Hid ((sc k : Int) = (sb (k % n2) : Int) % 19) := hide (by rw [unhide HSC k, if_pos hp2]; omega)
            clear hF
            go_wp2
            go_roundw
            case rel => exact ⟨k + 1, _, _, by omega, by go_num, fill_lt (R1 := w.heap.size) (R2 := R2) (R3 := R3) (k := k) (c := (cb k)) (s := ((sb (k % n2) : Int) % 19)) (nm := name k) hR4w, fill_step (unhide HF) hlt (Nat.le_refl _) hlt1 hlt2 hlt3 hR4w (cb k) ((sb (k % n2) : Int) % 19) (unhide HCK) (unhide HSK)⟩
            case measure => simp [intOf]; omega
          · have HSK : Hid ((sc k : Int) = 0) := hide (by rw [unhide HSC k, if_neg hp2]; rfl)
            clear hF
            go_wp2
            go_roundw
            case rel => exact ⟨k + 1, _, _, by omega, by go_num, fill_lt (R1 := w.heap.size) (R2 := R2) (R3 := R3) (k := k) (c := (cb k)) (s := 0) (nm := name k) hR4w, fill_step (unhide HF) hlt (Nat.le_refl _) hlt1 hlt2 hlt3 hR4w (cb k) 0 (unhide HCK) (unhide HSK)⟩
            case measure => simp [intOf]; omega
        · have HCK : Hid (cr k = false) := hide (by rw [unhide HCR k]; simp [hk1])
          by_cases hp2 : 0 < n2
          · obtain ⟨b2, off2, rfl, hc2⟩ := h2 hp2
            have hmod : k % n2 < n2 := Nat.mod_lt _ hp2
            have g2 := cell_later hF.below (hc2 (k % n2) hmod)
            have h256 := hsb (k % n2)
            have HSK : Hid ((sc k : Int) = (sb (k % n2) : Int) % 19) := hide (by rw [unhide HSC k, if_pos hp2]; omega)
            clear hF
            go_wp2
            go_roundw
            case rel => exact ⟨k + 1, _, _, by omega, by go_num, fill_lt (R1 := w.heap.size) (R2 := R2) (R3 := R3) (k := k) (c := false) (s := ((sb (k % n2) : Int) % 19)) (nm := name k) hR4w, fill_step (unhide HF) hlt (Nat.le_refl _) hlt1 hlt2 hlt3 hR4w false ((sb (k % n2) : Int) % 19) (unhide HCK) (unhide HSK)⟩
            case measure => simp [intOf]; omega
          · have HSK : Hid ((sc k : Int) = 0) := hide (by rw [unhide HSC k, if_neg hp2]; rfl)
            clear hF
            go_wp2
            go_roundw
            case rel => exact ⟨k + 1, _, _, by omega, by go_num, fill_lt (R1 := w.heap.size) (R2 := R2) (R3 := R3) (k := k) (c := false) (s := 0) (nm := name k) hR4w, fill_step (unhide HF) hlt (Nat.le_refl _) hlt1 hlt2 hlt3 hR4w false 0 (unhide HCK) (unhide HSK)⟩
            case measure => simp [intOf]; omega
      · have hkn : k = n := by omega
        subst hkn
        have hsc18 : ∀ i, i < k → sc i ≤ 18 := fun i _ => by
          rw [unhide HSC i]
          split <;> omega
        have HS18 := hide hsc18
        clear hsc18
        have hsz := hF.below.size
        go_wp2_with (go_at_call 4; refine (reversal_any _ R4 k name cr sc acc cur _ hbig (unhide HS18) (laid_of (unhide HF) _ _ rfl)).mono ?_; rintro e w5 ⟨O, ys, rfl, hownO, hres, hb5⟩; have hA := all_of (unhide HF) (laid_of (unhide HF) _ _ rfl) hb5 hownO hres hsz; have hTl := hA.lines; clear hres hownO hb5)
        have HA := hide hA
        clear hA hTl HF hF hlt hk hR4w
        generalize wr.heap.size = T at *
        go_loopw [18] (fun i wr2 => ∃ j : Nat, j ≤ k ∧ i = .int .i64 j ∧ All w.heap.size w wr2 k w.heap.size R2 R3 R4 T O ys name cr sc acc cur) (fun i _ => k - (intOf i).toNat)
        case atStart => exact ⟨0, Nat.zero_le _, rfl, unhide HA⟩
        case round =>
          clear HA
          obtain ⟨j, hj, rfl, hA⟩ := hrel
          have HA := hide hA
          by_cases hlt : j < k
          · obtain ⟨b0, off0, rfl, hc0⟩ := h0 (by omega)
            have g0 := cell_later hA.fill.below (hc0 j hlt)
            obtain ⟨p, q, r0, r1, r2, r3, r4⟩ := hA.at j hlt
            cases hcr : cr j
            · rw [hcr] at r1 r2
              simp only [if_false, Bool.false_eq_true] at r1 r2
              obtain ⟨W, hW⟩ : ∃ W, W = wr.alloc (.cells #[.pointer (some ⟨p, 0, none⟩), .pointer none, .pointer (some ⟨q, 0, none⟩)] 49) := ⟨_, rfl⟩
              have hbW : Below wr.heap.size wr W := by rw [hW]; exact (Below.refl _ _).alloc (Nat.le_refl _) _
              have z0 : W.cell? ⟨wr.heap.size, 0, none⟩ = some (.pointer (some ⟨p, 0, none⟩)) := by rw [hW]; simp
              have z1 : W.cell? ⟨wr.heap.size, 1, none⟩ = some (.pointer none) := by rw [hW]; simp
              have z2 : W.cell? ⟨wr.heap.size, 2, none⟩ = some (.pointer (some ⟨q, 0, none⟩)) := by rw [hW]; simp
              have s3 := cell_later hbW r3
              have sg := cell_later hbW g0
              have s2 := cell_later hbW (hA.fill.c2 j hlt)
              have s4 : W.cell? ⟨q, 0, none⟩ = some (.string ⟨(zs (sc j)).toArray⟩) := cell_later hbW r4
              have hAW := hA.later hbW
              have HAW := hide hAW
              have HW := hide hW
              clear hA hW hAW
              go_wp2_with fail
              rw [← unhide HW]
              clear r0 r1 r2 r3 r4 g0
              go_quiet (fail)
              go_wp2_with fail
              refine (azero_any (sc j) (unhide HS18 j hlt) _).mono ?_
              rintro e w6 ⟨rfl, hb6⟩
              have hb6' : Below W.heap.size W w6 := (below_drewN (Below.refl _ W) nq).trans hb6
              have HA6 := hide ((unhide HAW).later hb6')
              have t0 := cell_later hb6' z0
              have t1 := cell_later hb6' z1
              have t2 := cell_later hb6' z2
              have t3 := cell_later hb6' s4
              have t4 := cell_later hb6' sg
              have u1 := (unhide HA6).fill.c1 j hlt
              have u2 := (unhide HA6).fill.c2 j hlt
              have u3 := (unhide HA6).fill.c3 j hlt
              have v0 := (unhide HA6).fill.l0 j hlt
              have v1 := (unhide HA6).fill.l1 j hlt
              have x0 := (unhide HA6).fill.a0 j hlt
              have x3 := (unhide HA6).fill.a3 j hlt
              have x1 := (unhide HA6).fill.s1 j hlt
              have xl := (unhide HA6).lines
              have hpe := fun w => ptr_same w ⟨acc j, 0, none⟩
              clear z0 z1 z2 s2 s3 s4 sg HAW hb6 hb6' hbW HW HA
              go_wp2_with fail
              go_quiet (fail)
              go_wp2_with fail
              go_quiet (fail)
              go_wp2_with fail
              go_roundw
              case rel => exact ⟨j + 1, by omega, by go_num, (unhide HA6).later (below_drewN (Below.refl _ _) _)⟩
              case measure => simp [intOf]; omega
            · rw [hcr] at r1 r2
              simp only [if_true] at r1 r2
              obtain ⟨W, hW⟩ : ∃ W, W = wr.alloc (.cells #[.pointer (some ⟨p, 0, none⟩), .pointer (some ⟨q, 0, none⟩), .pointer none] 49) := ⟨_, rfl⟩
              have hbW : Below wr.heap.size wr W := by rw [hW]; exact (Below.refl _ _).alloc (Nat.le_refl _) _
              have z0 : W.cell? ⟨wr.heap.size, 0, none⟩ = some (.pointer (some ⟨p, 0, none⟩)) := by rw [hW]; simp
              have z1 : W.cell? ⟨wr.heap.size, 1, none⟩ = some (.pointer (some ⟨q, 0, none⟩)) := by rw [hW]; simp
              have z2 : W.cell? ⟨wr.heap.size, 2, none⟩ = some (.pointer none) := by rw [hW]; simp
              have s3 := cell_later hbW r3
              have sg := cell_later hbW g0
              have s2 := cell_later hbW (hA.fill.c2 j hlt)
              have s4 : W.cell? ⟨q, 0, none⟩ = some (.string ⟨(zs (sc j)).toArray⟩) := cell_later hbW r4
              have hAW := hA.later hbW
              have HAW := hide hAW
              have HW := hide hW
              clear hA hW hAW
              go_wp2_with fail
              rw [← unhide HW]
              clear r0 r1 r2 r3 r4 g0
              go_quiet (fail)
              go_wp2_with fail
              refine (azero_any (sc j) (unhide HS18 j hlt) _).mono ?_
              rintro e w6 ⟨rfl, hb6⟩
              have hb6' : Below W.heap.size W w6 := (below_drewN (Below.refl _ W) nq).trans hb6
              have HA6 := hide ((unhide HAW).later hb6')
              have t0 := cell_later hb6' z0
              have t1 := cell_later hb6' z1
              have t2 := cell_later hb6' z2
              have t3 := cell_later hb6' s4
              have t4 := cell_later hb6' sg
              have u1 := (unhide HA6).fill.c1 j hlt
              have u2 := (unhide HA6).fill.c2 j hlt
              have u3 := (unhide HA6).fill.c3 j hlt
              have v0 := (unhide HA6).fill.l0 j hlt
              have v1 := (unhide HA6).fill.l1 j hlt
              have x0 := (unhide HA6).fill.a0 j hlt
              have x3 := (unhide HA6).fill.a3 j hlt
              have x1 := (unhide HA6).fill.s1 j hlt
              have xl := (unhide HA6).lines
              have hpe := fun w => ptr_same w ⟨acc j, 0, none⟩
              clear z0 z1 z2 s2 s3 s4 sg HAW hb6 hb6' hbW HW HA
              go_wp2_with fail
              go_quiet (fail)
              go_wp2_with fail
              go_quiet (fail)
              go_wp2_with fail
              go_roundw
              case rel => exact ⟨j + 1, by omega, by go_num, (unhide HA6).later (below_drewN (Below.refl _ _) _)⟩
              case measure => simp [intOf]; omega
          · have hb := hA.fill.below
            go_wp2
            go_ret
            exact ⟨rfl, hb⟩
  · go_enter Ybad.func3, Ybad.ntmps3
    go_wp2
    go_ret
    exact ⟨rfl, Below.refl _ _⟩
end Go.Proofs.YbulkcefcDoor
