import Derived.Test.YbulkcefqBuilt
import Derived.Lib.SliceRun
namespace Go.Proofs.Ybulkcefq
open Go.RowKit

theorem own_at {w : World} {B g n c : Nat} {l : List Int} (h : w.ownsRow B 3 1 (.slice (some ⟨g, 0, none⟩) n c) n (vi l)) (k : Nat) (hk : k < l.length) : w.cell? ⟨g, k, none⟩ = some (.int .i64 l[k]) := by
  have hx := h.1
  rw [vi_length] at hx
  rw [h.cellAt k (by omega)]
  simp [vi, hk]

theorem icell_at {w : World} {ad : Addr} {l : List Int} (h : ICells w (some ad) l) (k : Nat) (hk : k < l.length) : w.cell? (ad.add k) = some (.int .i64 l[k]) :=
  h.2 ad rfl k _ (by simp [vi, hk])

set_option maxRecDepth 100000 in
set_option maxHeartbeats 2000000 in
theorem law_false (p q r : Nat) (hp : p ≤ 65535) (hq : q ≤ 65535) (hr : r ≤ 65535) (a4 : Option Addr) (len cap : Nat) (l : List Int) (hl : l.length = len) (hlen : len ≤ 1024) (hnone : a4 = none → len = 0 ∧ cap = 0) (a5 a6 : Int) (w : World) (hc : ICells w a4 l) :
    Calls Yba.prog 3 #[.bool false, .int .u16 p, .int .u16 q, .int .u16 r, .slice a4 len cap, .int .i64 a5, .int .i64 a6] w fun e w' => e = .returned (.bool true) ∧ Below w.heap.size w w' := by
  have hen := fun (w : World) (a : Option Addr) (n c n' c' : Nat) => Lib.run_eql_slice_nil (P := Yba.prog) w 23 3 a n c n' c' Yba.underlying23
  have hgt : (decide ((len : Int) > 1024)) = false := by simp; omega
  go_enter Yba.func3, Yba.ntmps3
  go_wp2_with (first
    | (go_at_call 5; refine (build_any false p q r hp hq hr a4 len cap l hl hlen hnone a5 a6 w hc).mono ?_; rintro e w1 ⟨U, x, y, z, a, c, rfl, hU1, hwU, hown1, haa, hb1⟩; have hUlt1 := uh_lt hU1; have HU1 := hide hU1; have HO1 := hide hown1; have HB1 := hide hb1; clear hU1 hown1 hb1)
    | (go_at_call 6; refine (mark_false U (p % 700) (q % 700) (r % 700) x y z a5 a6 _ w1 (unhide HU1)).mono ?_; rintro e w2 ⟨rfl, hb2⟩; obtain ⟨d3, d4, d7, d8, d9, d10, d11⟩ := uh_cells (uh_later (unhide HU1) hb2); have hUlt := uh_lt (uh_later (unhide HU1) hb2)))
  go_loopw [20] (fun i wr => ∃ (k : Nat), k ≤ len ∧ i = .int .i64 k ∧ Below w2.heap.size w2 wr) (fun i _ => len - (intOf i).toNat)
  case atStart => exact ⟨0, Nat.zero_le _, rfl, (Below.refl _ _).alloc (Nat.le_refl _) _⟩
  case round =>
    obtain ⟨k, hk, rfl, hb⟩ := hrel
    by_cases hlt : k < len
    · cases a4 with
      | none => have := (hnone rfl).1; omega
      | some ad =>
        obtain ⟨g, rfl⟩ := own_head (unhide HO1) (by omega)
        have hbw := (unhide HB1).trans ((hb2.trans (hb.mono hb2.size)).mono (unhide HB1).size)
        have hcr := icell_at (icells_later hc hbw) k (by omega)
        have hor := own_at (own_laterN (own_laterN (unhide HO1) hb2) hb) k (by omega)
        obtain ⟨z, hz⟩ : ∃ z, z = l[k]'(by omega) := ⟨_, rfl⟩
        rw [← hz] at hcr hor
        clear hz hbw
        have e11 := cell_later hb d11
        clear d3 d4 d7 d8 d9 d10 d11
        have HB2 := hide hb2
        have HB := hide hb
        clear hb2 hb hen
        go_wp2_with fail
        go_quiet (fail)
        go_wp2
        go_roundw
        case rel => exact ⟨k + 1, by omega, by go_num, below_drewN (unhide HB) _⟩
        case measure => simp [intOf]; omega
    · have hkn : k = len := by omega
      have hbw := (unhide HB1).trans ((hb2.trans (hb.mono hb2.size)).mono (unhide HB1).size)
      subst hkn
      clear d3 d4 d7 d8 d9 d10 d11 hen hb2 hb
      go_wp2
      go_ret
      exact ⟨rfl, hbw⟩
end Go.Proofs.Ybulkcefq
