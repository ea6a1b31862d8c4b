import Derived.Test.YbulkcefqLawT
namespace Go.Proofs.Ybulkcefq
open Go.RowKit

set_option maxRecDepth 100000 in
theorem mark_walk (a0 : Bool) (a1 : Int) (a2 : Int) (a3 : Int) (a4 : Option Addr) (len4 cap4 : Nat) (z4 : List Int) (a5 : Int) (a6 : Int) (w : World) (w1 : (Lit.int .u16 a1).wf = true) (w2 : (Lit.int .u16 a2).wf = true) (w3 : (Lit.int .u16 a3).wf = true) (w4 : IsRow .i64 w a4 len4 cap4 z4) (_w5 : (Lit.int .i64 a5).wf = true) (_w6 : (Lit.int .i64 a6).wf = true) :
    Calls Yba.prog 3 #[.bool a0, .int .u16 a1, .int .u16 a2, .int .u16 a3, .slice a4 len4 cap4, .int .i64 a5, .int .i64 a6] w fun e w' => e = .returned (.bool true) ∧ Below w.heap.size w w' := by
  obtain ⟨p, rfl, hp⟩ := u16_nat w1
  obtain ⟨q, rfl, hq⟩ := u16_nat w2
  obtain ⟨r, rfl, hr⟩ := u16_nat w3
  obtain ⟨l, hl, hc, hnone, _, _⟩ := isRow_i64 w4
  clear w1 w2 w3 w4
  by_cases hlen : len4 ≤ 1024
  · cases a0
    · exact law_false p q r hp hq hr a4 len4 cap4 l hl hlen hnone a5 a6 w hc
    · by_cases hs : len4 < q % 700
      · exact law_more p q r hp hq hr a4 len4 cap4 l hl hlen hnone a5 a6 w hc hs
      · exact law_less p q r hp hq hr a4 len4 cap4 l hl hlen hnone a5 a6 w hc (by omega)
  · have hgt : (decide ((len4 : Int) > 1024)) = true := by simp; omega
    clear hc hnone hl
    go_enter Yba.func3, Yba.ntmps3
    go_wp2
    go_ret
    exact ⟨rfl, Below.refl _ _⟩
end Go.Proofs.Ybulkcefq
