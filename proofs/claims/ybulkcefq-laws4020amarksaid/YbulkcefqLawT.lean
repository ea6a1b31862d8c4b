import Derived.Test.YbulkcefqLawF
namespace Go.Proofs.Ybulkcefq
open Go.RowKit

theorem rep_at (l : List Int) (len d k : Nat) (hl : l.length = len) (hk : len ≤ k) : ∀ h, (l ++ List.replicate d 0)[k]'h = 0 := by
  intro h
  rw [List.getElem_append_right (by omega)]
  simp

set_option maxRecDepth 100000 in
set_option maxHeartbeats 2000000 in
theorem law_more (p q r : Nat) (hp : p ≤ 65535) (hq : q ≤ 65535) (hr : r ≤ 65535) (a4 : Option Addr) (len cap : Nat) (l : List Int) (hl : l.length = len) (hlen : len ≤ 1024) (hnone : a4 = none → len = 0 ∧ cap = 0) (a5 a6 : Int) (w : World) (hc : ICells w a4 l)
    (hside : len < q % 700) :
    Calls Yba.prog 3 #[.bool true, .int .u16 p, .int .u16 q, .int .u16 r, .slice a4 len cap, .int .i64 a5, .int .i64 a6] w fun e w' => e = .returned (.bool true) ∧ Below w.heap.size w w' := by
  have hgt : (decide ((len : Int) > 1024)) = false := by simp; omega
  have hdec : (decide ((q : Int) % 700 > (len : Int))) = true := by simp; omega
  go_enter Yba.func3, Yba.ntmps3
  go_wp2_with (first
    | (go_at_call 5; refine (build_any true p q r hp hq hr a4 len cap l hl hlen hnone a5 a6 w hc).mono ?_; rintro e w1 ⟨U, x, y, z, a, c, rfl, hU1, hwU, hown1, haa, hb1⟩; have hUlt1 := uh_lt hU1; have HU1 := hide hU1; have HO1 := hide hown1; have HB1 := hide hb1; clear hU1 hown1 hb1)
    | (go_at_call 6; refine (mark_true w.heap.size U (p % 700) (q % 700) (r % 700) len x y z a5 a6 _ l w1 (unhide HU1) (unhide HO1) hwU (by omega)).mono ?_; rintro e w2 ⟨rfl, k2, v2, hk1, hk2, hk3, hU2, hown2, hb2⟩; obtain ⟨b, c2, rfl⟩ := own_shape hown2; obtain rfl : q % 700 = k2 := (by omega); obtain ⟨d3, d4, d7, d8, d9, d10, d11⟩ := uh_cells hU2; have hUlt := uh_lt hU2; have HO2 := hide hown2; have HB2 := hide hb2; clear hU2 hown2 hb2 hk1 hk2 hk3))
  go_loopw [22] (fun i wr => ∃ (k : Nat), k ≤ q % 700 ∧ i = .int .i64 k ∧ Below w2.heap.size w2 wr) (fun i _ => q % 700 - (intOf i).toNat)
  case atStart => exact ⟨0, Nat.zero_le _, rfl, (Below.refl _ _).alloc (Nat.le_refl _) _⟩
  case round =>
    obtain ⟨k, hk, rfl, hb⟩ := hrel
    have hbw : Below w.heap.size w wr := (unhide HB1).trans ((unhide HB2).trans (hb.mono (Nat.le_trans (unhide HB1).size (unhide HB2).size)))
    by_cases hlt : k < q % 700
    · obtain ⟨g, rfl⟩ := own_head (unhide HO2) (by omega)
      have hL : (l ++ List.replicate (q % 700 - len) 0).length = q % 700 := by simp; omega
      have hor := own_at (own_laterN (unhide HO2) hb) k (by omega)
      have e11 := cell_later hb d11
      have hkI : (k : Int) < (q : Int) % 700 := by omega
      have HB := hide hb
      clear d3 d4 d7 d8 d9 d10 d11 hb
      by_cases hin : k < len
      · cases a4 with
        | none => have := (hnone rfl).1; omega
        | some ad =>
          have hcr := icell_at (icells_later hc hbw) k (by omega)
          rw [List.getElem_append_left (by omega)] at hor
          obtain ⟨z, hz⟩ : ∃ z, z = l[k]'(by omega) := ⟨_, rfl⟩
          rw [← hz] at hcr hor
          have hinI : (k : Int) < (len : Int) := by omega
          clear hz hL
          go_wp2_with fail
          go_quiet (fail)
          go_wp2
          go_roundw
          case rel => exact ⟨k + 1, by omega, by go_num, below_drewN (unhide HB) _⟩
          case measure => simp [intOf]; omega
      · rw [rep_at l len (q % 700 - len) k hl (by omega)] at hor
        clear hL
        go_wp2
        go_roundw
        case rel => exact ⟨k + 1, by omega, by go_num, unhide HB⟩
        case measure => simp [intOf]; omega
    · have hkn : k = q % 700 := by omega
      subst hkn
      clear d3 d4 d7 d8 d9 d10 d11 hb
      go_wp2
      go_ret
      exact ⟨rfl, hbw⟩

set_option maxRecDepth 100000 in
set_option maxHeartbeats 2000000 in
theorem law_less (p q r : Nat) (hp : p ≤ 65535) (hq : q ≤ 65535) (hr : r ≤ 65535) (a4 : Option Addr) (len cap : Nat) (l : List Int) (hl : l.length = len) (hlen : len ≤ 1024) (hnone : a4 = none → len = 0 ∧ cap = 0) (a5 a6 : Int) (w : World) (hc : ICells w a4 l)
    (hside : q % 700 ≤ len) :
    Calls Yba.prog 3 #[.bool true, .int .u16 p, .int .u16 q, .int .u16 r, .slice a4 len cap, .int .i64 a5, .int .i64 a6] w fun e w' => e = .returned (.bool true) ∧ Below w.heap.size w w' := by
  have hgt : (decide ((len : Int) > 1024)) = false := by simp; omega
  have hdec : (decide ((q : Int) % 700 > (len : Int))) = false := by simp; omega
  go_enter Yba.func3, Yba.ntmps3
  go_wp2_with (first
    | (go_at_call 5; refine (build_any true p q r hp hq hr a4 len cap l hl hlen hnone a5 a6 w hc).mono ?_; rintro e w1 ⟨U, x, y, z, a, c, rfl, hU1, hwU, hown1, haa, hb1⟩; have hUlt1 := uh_lt hU1; have HU1 := hide hU1; have HO1 := hide hown1; have HB1 := hide hb1; clear hU1 hown1 hb1)
    | (go_at_call 6; refine (mark_true w.heap.size U (p % 700) (q % 700) (r % 700) len x y z a5 a6 _ l w1 (unhide HU1) (unhide HO1) hwU (by omega)).mono ?_; rintro e w2 ⟨rfl, k2, v2, hk1, hk2, hk3, hU2, hown2, hb2⟩; obtain ⟨b, c2, rfl⟩ := own_shape hown2; obtain rfl : len = k2 := (by omega); obtain ⟨d3, d4, d7, d8, d9, d10, d11⟩ := uh_cells hU2; have hUlt := uh_lt hU2; have HO2 := hide hown2; have HB2 := hide hb2; clear hU2 hown2 hb2 hk1 hk2 hk3))
  go_loopw [22] (fun i wr => ∃ (k : Nat), k ≤ len ∧ i = .int .i64 k ∧ Below w2.heap.size w2 wr) (fun i _ => len - (intOf i).toNat)
  case atStart => exact ⟨0, Nat.zero_le _, rfl, (Below.refl _ _).alloc (Nat.le_refl _) _⟩
  case round =>
    obtain ⟨k, hk, rfl, hb⟩ := hrel
    have hbw : Below w.heap.size w wr := (unhide HB1).trans ((unhide HB2).trans (hb.mono (Nat.le_trans (unhide HB1).size (unhide HB2).size)))
    by_cases hlt : k < len
    · obtain ⟨g, rfl⟩ := own_head (unhide HO2) (by omega)
      have hL : (l ++ List.replicate (len - len) 0).length = len := by simp; omega
      have hor := own_at (own_laterN (unhide HO2) hb) k (by omega)
      have e11 := cell_later hb d11
      have hkI : (k : Int) < (len : Int) := by omega
      have HB := hide hb
      clear d3 d4 d7 d8 d9 d10 d11 hb
      by_cases hin : k < len
      · cases a4 with
        | none => have := (hnone rfl).1; omega
        | some ad =>
          have hcr := icell_at (icells_later hc hbw) k (by omega)
          rw [List.getElem_append_left (by omega)] at hor
          obtain ⟨z, hz⟩ : ∃ z, z = l[k]'(by omega) := ⟨_, rfl⟩
          rw [← hz] at hcr hor
          have hinI : (k : Int) < (len : Int) := by omega
          clear hz hL
          go_wp2_with fail
          go_quiet (fail)
          go_wp2
          go_roundw
          case rel => exact ⟨k + 1, by omega, by go_num, below_drewN (unhide HB) _⟩
          case measure => simp [intOf]; omega
      · exact absurd hlt hin
    · have hkn : k = len := by omega
      subst hkn
      clear d3 d4 d7 d8 d9 d10 d11 hb
      go_wp2
      go_ret
      exact ⟨rfl, hbw⟩

end Go.Proofs.Ybulkcefq
