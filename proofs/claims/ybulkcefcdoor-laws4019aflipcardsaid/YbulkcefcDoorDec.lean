import Derived.Test.YbulkcefcDoorProg
import Derived.Test.YbulkcefcDoorKit
namespace Go.Proofs.YbulkcefcDoor
open Go.RowKit

theorem Ybad.info5 : (Ybad.prog.info? 5).map (fun i => (i.zero, i.size, i.bytes)) = some (some (.int .u8 0), 1, 1) := by kernel_rfl
theorem Ybad.info35 : (Ybad.prog.info? 35).map (fun i => (i.zero, i.size, i.bytes)) = some (some (.int .u64 0), 1, 8) := by kernel_rfl

set_option maxRecDepth 100000 in
set_option maxHeartbeats 400000 in
theorem negative_zero (w : World) :
    Calls Ybad.prog 8 #[.agg #[.int .u64 0, .int .u64 0]] w fun e w' => e = .returned (.bool false) ∧ Below w.heap.size w w' := by
  go_enter Ybad.func8, Ybad.ntmps8
  go_wp2
  go_ret
  exact ⟨rfl, (Below.refl _ _).alloc (Nat.le_refl _) _⟩

set_option maxRecDepth 100000 in
set_option maxHeartbeats 400000 in
theorem div_zero (w : World) :
    Calls Ybad.prog 13 #[.int .u64 0, .int .u64 0, .int .u64 10000000000000000000] w fun e w' => e = .returned (.tuple #[.int .u64 0, .int .u64 0]) ∧ Below w.heap.size w w' := by
  go_enter Ybad.func13, Ybad.ntmps13
  go_wp2
  go_region
  all_goals
    go_wp2
    go_ret2
    exact ⟨rfl, (Below.refl _ _).drew⟩

set_option maxRecDepth 100000 in
set_option maxHeartbeats 400000 in
theorem small_zero (w : World) :
    Calls Ybad.prog 22 #[.int .i64 0] w fun e w' => e = .returned (.string ⟨#[48]⟩) ∧ w' = w := by
  go_enter Ybad.func22, Ybad.ntmps22
  go_wp2
  go_ret
  exact ⟨by kernel_rfl, rfl⟩

set_option maxRecDepth 100000 in
set_option maxHeartbeats 400000 in
theorem iappend_zero (w : World) :
    Calls Ybad.prog 18 #[.slice none 0 0, .int .u64 0, .int .i64 10] w fun e w' => ∃ a c, e = .returned (.slice a 1 c) ∧ w'.ownsRow w.heap.size 5 1 (.slice a 1 c) 1 (vb [48]) ∧ Below w.heap.size w w' := by
  obtain ⟨i0, hi, hz0, hz1, hz2⟩ := info_parts Ybad.info5
  go_enter Ybad.func18, Ybad.ntmps18
  go_wp2_with (first
    | (go_at_call 22; refine (small_zero _).mono ?_; rintro e w1 ⟨rfl, rfl⟩)
    | (at_builtin; refine wpList_appO _ rfl (.tmp 13) (.tmp 16) 24 9 rfl _ 5 i0 Ybad.underlying24 hi hz0 hz1 hz2 _ _ _ [] rfl (World.ownsRow_nil _ _ _ _) _ [48] rfl (.inl ⟨Ybad.underlying9, ⟨#[48]⟩, rfl, rfl⟩) 1 rfl (by omega) (Nat.le_refl _) ?_; intro a2 c2 w2 hown2 hb2))
  go_ret
  exact ⟨a2, c2, rfl, by simpa using hown2, hb2⟩

set_option maxRecDepth 100000 in
set_option maxHeartbeats 400000 in
theorem append_zero (w : World) :
    Calls Ybad.prog 14 #[.slice none 0 0, .int .u64 0, .int .i64 10] w fun e w' => ∃ a c, e = .returned (.slice a 1 c) ∧ w'.ownsRow w.heap.size 5 1 (.slice a 1 c) 1 (vb [48]) ∧ Below w.heap.size w w' := by
  go_enter Ybad.func14, Ybad.ntmps14
  go_wp2_with (go_at_call 18; refine (iappend_zero _).mono ?_; rintro e w1 ⟨a, c, rfl, hown, hb⟩)
  go_ret
  exact ⟨a, c, rfl, hown, hb⟩

theorem wpList_first {P : Program} (w : World) {ops : Array Oper} {rest : List Oper} {o : Oper} {a : Act} {Q : Exit → Act → World → Prop} (hgd : o.guard = none) (s x : Operand) (t : TypeId)
    (ho : o.op = .call { callee := .builtin .append, args := #[s, x], argTypes := #[t, t] })
    (e : TypeId) (i : TypeInfo) (z : Value) (bytes : Nat) (ht : P.underlying t = some (.slice e)) (hi : P.info? e = some i) (hz : i.zero = some z)
    (hsize : i.size = 1) (hby : i.bytes = bytes) (hzs : z.cells.size = 1) (hbb : bytes ≤ 140737488355328) (hs : a.eval s = .slice none 0 0) (B : Nat) (hB : B ≤ w.heap.size)
    (u : Value) (h1 : u.oneCell' = true) (ad : Addr) (hx : a.eval x = .slice (some ad) 1 1) (hc : w.cell? ad = some u)
    (h : ∀ g c w', w'.cell? ⟨g, 0, none⟩ = some u → B ≤ g → Below B w w' → wpList P ops Q rest (a.put o.dst (.slice (some ⟨g, 0, none⟩) 1 c)) w') : wpList P ops Q (o :: rest) a w := by
  refine wpList_append_own w hgd s x t ho B e i z 1 bytes ht hi hz hsize hby hzs (by decide) _ 0 [] hs (World.ownsRow_nil _ _ _ _) ad 1 1 [u] hx rfl ?_ ?_ (by unfold maxLen; omega) (by omega) hB ?_
  · intro j v hj
    match j, hj with
    | 0, hj => simp at hj; subst hj; simpa [Addr.add] using hc
  · intro v hv
    simp at hv
    subst hv
    exact h1
  · intro v' w' hown hg _
    have hb : Below B w w' := (Below.refl _ _).grown hg hB (fun k hk => by simp [Value.ownBlock] at hk)
    have hown1 : w'.ownsRow B e 1 v' 1 [u] := hown
    rcases hown1.2 with ⟨_, h0⟩ | ⟨g, cap, cur, rfl, hBg, _⟩
    · omega
    · exact h g cap w' (by rw [hown1.cellAt 0 (by omega)]; rfl) hBg hb

set_option maxRecDepth 100000 in
set_option maxHeartbeats 800000 in
theorem decimal_zero (w : World) :
    Calls Ybad.prog 10 #[.agg #[.int .u64 0, .int .u64 0]] w fun e w' => ∃ a c, e = .returned (.slice a 1 c) ∧ w'.ownsRow w.heap.size 5 1 (.slice a 1 c) 1 (vb [48]) ∧ Below w.heap.size w w' := by
  obtain ⟨i0, hi, hz0, hz1, hz2⟩ := info_parts Ybad.info35
  go_enter Ybad.func10, Ybad.ntmps10
  go_wp2
  go_region
  all_goals
    go_wp2
    refine wp_loop_rounds 1 ?_
    rw [rounds_succ]
    go_wp2_with (first
      | (go_at_call 13; refine (div_zero _).mono ?_; rintro e w1 ⟨rfl, hb1⟩; have hbw1 : Below w.heap.size w w1 := ((Below.refl _ _).alloc (Nat.le_refl _) _).drew.trans (hb1.mono (by simp)); have hs1 := hbw1.size; clear hb1)
      | (at_builtin; refine wpList_first _ rfl (.tmp 25) (.tmp 27) 61 rfl 35 i0 (.int .u64 0) 8 Ybad.underlying61 hi hz0 hz1 hz2 rfl (by decide) rfl w.heap.size (by simp; omega) (.int .u64 0) rfl ⟨w1.heap.size, 0, none⟩ rfl (by simp) ?_; intro g c w2 hg hBg hb2; have hbw2 : Below w.heap.size w w2 := (hbw1.alloc hs1 _).trans hb2)
      | (go_at_call 14; refine (append_zero _).mono ?_; rintro e w3 ⟨a3, c3, rfl, hown3, hb3⟩; have hbw3 : Below w.heap.size w w3 := hbw2.trans (hb3.mono hbw2.size)))
    refine wp_loop_rounds 1 ?_
    rw [rounds_succ]
    go_wp2
    go_ret
    exact ⟨a3, c3, rfl, own_mono hown3 hbw2.size, hbw3⟩
end Go.Proofs.YbulkcefcDoor
