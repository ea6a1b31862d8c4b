import Derived.Test.YbulkcebwNameA
import Derived.Test.YbulkcebwPlainB
namespace Go.Proofs.Ybulkcebw
open Go.RowKit

theorem Yba.info5 : (Yba.prog.info? 5).map (fun i => (i.zero, i.size, i.bytes)) = some (some (.int .u8 0), 1, 1) := by kernel_rfl

set_option maxRecDepth 1000000 in
set_option maxHeartbeats 1000000 in
theorem built_walk (a0 : Option Addr) (len0 cap0 : Nat) (z0 : List Int) (w : World) (w0 : IsRow .u8 w a0 len0 cap0 z0) :
    Calls Yba.prog 4 #[.slice a0 len0 cap0] w fun e w' => e = .returned (.bool true) ∧ Below w.heap.size w w' := by
  obtain ⟨hlc, hcm, l, hl, hnil, hcells⟩ := isRow_u8 w0
  clear w0 hnil
  subst hl
  unfold maxLen at hcm
  by_cases hbig : l.length ≤ 1024
  · obtain ⟨i0, hi, hz0, hz1, hz2⟩ := info_parts Yba.info5
    go_enter Yba.func4, Yba.ntmps4
    go_wp2_with (at_make; refine wpList_make_own _ rfl _ _ 23 rfl w.heap.size 5 i0 (.int .u8 0) 1 Yba.underlying23 hi hz0 hz1 _ _ _ l.length rfl rfl rfl ?b2 ?b3 (Nat.le_refl _) ?_)
    case b2 => rw [hz2]; omega
    case b3 => unfold maxLen; omega
    intro w1 hown1 hgrow1
    have hb1 : Below w.heap.size w w1 := (Below.refl _ _).grown hgrow1 (Nat.le_refl _) (fun k h => by cases h)
    clear hgrow1
    go_wp2
    go_loopw [3, 4, 17] (fun b al i wr => ∃ k : Nat, k ≤ l.length ∧ i = .int .i64 k ∧ al = .bool (allB l k) ∧ b = .slice (some ⟨w.heap.size, 0, none⟩) k l.length ∧ wr.ownsRow w.heap.size 5 1 (.slice (some ⟨w.heap.size, 0, none⟩) k l.length) k (vb (built l k)) ∧ Below w.heap.size w wr)
      (fun _ _ i _ => l.length - (intOf i).toNat)
    case atStart => exact ⟨0, Nat.zero_le _, rfl, rfl, rfl, hown1, hb1⟩
    case round =>
      obtain ⟨k, hk, rfl, rfl, rfl, hown, hb⟩ := hrel
      clear hown1 hb1
      by_cases hlt : k < l.length
      · obtain ⟨b, off, rfl, hbw, hc⟩ := hcells (by omega)
        have hcx : wr.cell? ⟨b, off + k, none⟩ = some (.int .u8 (l[k].toNat : Int)) := (hb.cell (by exact hbw)).trans (hc k hlt)
        have h256 : l[k].toNat < 256 := l[k].toNat_lt
        clear hc hcells
        have HL := fun h9 => hide (allB_low l k hlt h9)
        have HH := fun h9 => hide (allB_high l k hlt h9)
        have HB := hide (built_succ l k hlt)
        generalize hz : l[k] = z at *
        clear hz
        have hpk := pick_get z
        have hgo : ∀ w2 : World, w2.ownsRow w.heap.size 5 1 (.slice (some ⟨w.heap.size, 0, none⟩) (k + 1) l.length) (k + 1) (vb (built l k) ++ [.int .u8 ((pick z).toNat : Int)]) →
            w2.ownsRow w.heap.size 5 1 (.slice (some ⟨w.heap.size, 0, none⟩) (k + 1) l.length) (k + 1) (vb (built l (k + 1))) := fun w2 h => by
          rw [unhide HB, vb_append]; exact h
        have hsz := hb.size
        by_cases h9 : z.toNat % 21 < 9
        · have HF := HL h9
          clear HL HH
          go_wp2_with (at_builtin; refine wpList_append_fits _ rfl (.tmp 26) (.tmp 29) 23 rfl w.heap.size 5 i0 1 Yba.underlying23 hi hz1 w.heap.size k l.length _ rfl (hown.alloc _) ⟨wr.heap.size, 0, none⟩ 1 1 [.int .u8 ((pick z).toNat : Int)] rfl rfl (by intro t u ht; match t, ht with | 0, ht => simp at ht; subst ht; simp [Addr.add]) (by intro u hu; simp at hu; subst hu; rfl) (by omega) ?_; intro w2 hown2 hgrow2)
          go_roundw
          case rel => exact ⟨k + 1, by omega, by go_num, by rw [unhide HF], rfl, hgo _ hown2, (hb.alloc hsz _).grown hgrow2 (by simp; omega) (fun k hk => by cases hk; exact Nat.le_refl _)⟩
          case measure => simp [intOf]; omega
        · have HF := HH h9
          clear HL HH
          go_wp2_with (at_builtin; refine wpList_append_fits _ rfl (.tmp 26) (.tmp 29) 23 rfl w.heap.size 5 i0 1 Yba.underlying23 hi hz1 w.heap.size k l.length _ rfl (hown.alloc _) ⟨wr.heap.size, 0, none⟩ 1 1 [.int .u8 ((pick z).toNat : Int)] rfl rfl (by intro t u ht; match t, ht with | 0, ht => simp at ht; subst ht; simp [Addr.add]) (by intro u hu; simp at hu; subst hu; rfl) (by omega) ?_; intro w2 hown2 hgrow2)
          go_roundw
          case rel => exact ⟨k + 1, by omega, by go_num, by rw [unhide HF], rfl, hgo _ hown2, (hb.alloc hsz _).grown hgrow2 (by simp; omega) (fun k hk => by cases hk; exact Nat.le_refl _)⟩
          case measure => simp [intOf]; omega
      · have hkl : k = l.length := by omega
        subst hkl
        have hcv : (convert 23 9 (.slice (some ⟨w.heap.size, 0, none⟩) l.length l.length)).run Yba.prog wr = .ok (.string ⟨(built l l.length).toArray⟩) wr :=
          own_string Yba.underlying23 Yba.underlying5 Yba.underlying9 hown (built_length l _ (Nat.le_refl _))
        have HN := hide (nl_built l)
        by_cases hp : 0 < l.length
        all_goals
          go_wp2_with (go_at_call 7; refine (nameLike_any _ _).mono ?_; rintro e w2 ⟨rfl, pos, rfl⟩)
          go_ret
          refine ⟨?_, hb.alloc hb.size _⟩
          apply ret_bool
          rw [unhide HN]; simp [hp]
  · go_enter Yba.func4, Yba.ntmps4
    go_wp2
    go_ret
    exact ⟨rfl, Below.refl _ _⟩
end Go.Proofs.Ybulkcebw
