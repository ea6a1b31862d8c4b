import Derived.Test.YbulkcefqBuildN
import Derived.Test.YbulkcefqBuildS
import Derived.Test.YbulkcefqMarkT
namespace Go.Proofs.Ybulkcefq
open Go.RowKit

theorem build_any (a0 : Bool) (p q r : Nat) (hp : p ≤ 65535) (hq : q ≤ 65535) (hr : r ≤ 65535) (a4 : Option Addr) (len cap : Nat) (l : List Int) (hl : l.length = len) (hlen : len ≤ 1024) (hnone : a4 = none → len = 0 ∧ cap = 0) (a5 a6 : Int) (w : World) (hc : ICells w a4 l) :
    Calls Yba.prog 5 #[.bool a0, .int .u16 p, .int .u16 q, .int .u16 r, .slice a4 len cap, .int .i64 a5, .int .i64 a6] w fun e w' => ∃ U x y z a c, e = .returned (.pointer (some ⟨U, 0, none⟩)) ∧
      UH w' U (p % 700) (q % 700) (r % 700) x y z a0 a5 a6 (.slice a len c) ∧ w.heap.size ≤ U ∧ w'.ownsRow w.heap.size 3 1 (.slice a len c) len (vi l) ∧ a.isNone = a4.isNone ∧ Below w.heap.size w w' := by
  cases a4 with
  | none =>
    obtain ⟨rfl, rfl⟩ := hnone rfl
    obtain rfl := hc.1 rfl
    refine (build_nil a0 p q r hp hq hr a5 a6 w).mono ?_
    rintro e w' ⟨U, x, y, z, rfl, h1, h2, h3⟩
    exact ⟨U, x, y, z, none, 0, rfl, h1, h2, World.ownsRow_nil _ _ _ _, rfl, h3⟩
  | some ad =>
    refine (build_some a0 p q r hp hq hr ad len cap l hl hlen a5 a6 w hc).mono ?_
    rintro e w' ⟨U, x, y, z, g, rfl, h1, h2, h3, h4⟩
    exact ⟨U, x, y, z, some ⟨g, 0, none⟩, len, rfl, h1, h2, h3, rfl, h4⟩

theorem u16_nat {a : Int} (h : (Lit.int .u16 a).wf = true) : ∃ p : Nat, a = (p : Int) ∧ p ≤ 65535 := by
  have := bounds_u16 h
  exact ⟨a.toNat, by omega, by omega⟩

end Go.Proofs.Ybulkcefq
