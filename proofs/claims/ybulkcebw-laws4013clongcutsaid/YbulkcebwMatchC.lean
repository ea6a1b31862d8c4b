import Derived.Test.YbulkcebwModelC
namespace Go.Proofs.Ybulkcebw
open Go.RowKit

theorem isRow_bytes {w : World} {a : Option Addr} {len cap : Nat} {zs : List Int} (h : IsRow .u8 w a len cap zs) :
    ∃ l : List UInt8, l.length = len ∧ BCells w a l ∧ (a = none → len = 0 ∧ cap = 0) := by
  obtain ⟨_, _, l, hl, hn, hc⟩ := isRow_u8 h
  refine ⟨l, hl, ⟨fun ha => List.eq_nil_of_length_eq_zero (by rw [hl]; exact (hn ha).1), fun ad had j u hj => ?_⟩, hn⟩
  obtain ⟨hjl, rfl⟩ := vb_get hj
  obtain ⟨b, off, hab, _, hcell⟩ := hc (by omega)
  rw [had] at hab
  cases hab
  rw [← hcell j hjl]
  congr 1
  simp [Addr.add]

theorem equal_same (va vb' : Value) (l : List UInt8) (w : World) (ha : (convert 23 9 va).run Yba.prog w = .ok (.string ⟨l.toArray⟩) w) (hb : (convert 23 9 vb').run Yba.prog w = .ok (.string ⟨l.toArray⟩) w) :
    Calls Yba.prog 11 #[va, vb'] w fun e w' => e = .returned (.bool true) ∧ w' = w := by
  refine (equal_any va vb' l l w ha hb).mono ?_
  rintro e w' ⟨rfl, rfl⟩
  exact ⟨by simp, rfl⟩

theorem hsz5 : (Yba.prog.info? 5).map (·.size) = some 1 := by kernel_rfl

theorem made_vb {w : World} {g n : Nat} {l : List UInt8} (hl : l.length = n) (hn : n ≤ maxLen) {B : Nat} (hB : B ≤ g) {cur : List Value} (hcur : cur.length = n) (hg : w.heap[g]? = some (.cells (splice cur 0 (vb l)).toArray 5 (0, 0))) :
    w.ownsRow B 5 1 (.slice (some ⟨g, 0, none⟩) n n) n (vb l) := by
  have hs : splice cur 0 (vb l) = vb l := by
    unfold splice
    rw [List.drop_eq_nil_of_le (by rw [vb_length]; omega)]
    simp
  rw [hs] at hg
  refine ⟨by rw [vb_length]; omega, .inr ⟨g, n, _, rfl, hB, hg, Nat.le_refl _, hn, by simp [vb_length]; omega, ?_⟩⟩
  have : n * 1 = (vb l).length := by rw [vb_length]; omega
  rw [this]
  simp

theorem wpList_copyB {P : Program} (w : World) {ops : Array Oper} {rest : List Oper} {o : Oper} {ac : Act} {Q : Exit → Act → World → Prop} (hgd : o.guard = none) (d s : Operand) (t : TypeId)
    (ho : o.op = .call { callee := .builtin .copy, args := #[d, s], argTypes := #[t, t] }) (ht : P.underlying t = some (.slice 5)) (hsz : (P.info? 5).map (·.size) = some 1)
    (B g n : Nat) (xs : List Value) (hd : ac.eval d = .slice (some ⟨g, 0, none⟩) n n) (hown : w.ownsRow B 5 1 (.slice (some ⟨g, 0, none⟩) n n) n xs)
    (a : Option Addr) (c : Nat) (l : List UInt8) (hs : ac.eval s = .slice a n c) (hc : BCells w a l) (hl : l.length = n)
    (h : ∀ w', w'.ownsRow B 5 1 (.slice (some ⟨g, 0, none⟩) n n) n (vb l) → Below B w w' → wpList P ops Q rest (ac.put o.dst (goInt n)) w') : wpList P ops Q (o :: rest) ac w := by
  rcases hown.2 with ⟨hv, _⟩ | ⟨g', cap, cur, hv, hBg, hg, h1, h2, h3, h4⟩
  · cases hv
  · simp at hv
    obtain ⟨rfl, rfl⟩ := hv
    have hvl := vb_length l
    refine wpList_copy_splice hgd d s t t ho 5 ht hsz _ a n n n c hd hs g 0 cur.toList 5 (by simpa using hg) (vb l) (by rw [hvl, hl]; simp) (fun hp => ⟨rfl, ?_⟩) (by simp [hvl]; omega) (vb_one l) B w (Below.refl _ _) hBg ?_
    · cases a with
      | none => have := hc.1 rfl; subst this; simp [vb] at hp
      | some ad => exact ⟨ad, rfl, hc.2 ad rfl⟩
    · intro w' HG hb
      rw [hvl, hl]
      exact h w' (made_vb hl h2 hBg (by simpa using h3) HG.out) hb

set_option maxRecDepth 1000000 in
set_option maxHeartbeats 2000000 in
theorem match_walk (a0 : Option Addr) (len0 cap0 : Nat) (z0 : List Int) (code text : ByteArray) (w : World) (w0 : IsRow .u8 w a0 len0 cap0 z0) (_w1 : code.size ≤ maxLen) (_w2 : text.size ≤ maxLen) :
    Calls Yba.prog 5 #[.slice a0 len0 cap0, .string code, .string text] w fun e w' => e = .returned (.bool true) ∧ Below w.heap.size w w' := by
  obtain ⟨l, hl, hc, hnone⟩ := isRow_bytes w0
  clear w0
  by_cases h1 : len0 ≤ 16384
  · by_cases h2 : code.size ≤ 16384
    · by_cases h3 : text.size ≤ 16384
      · obtain ⟨i0, hi, hz0, hz1, hz2⟩ := info_parts Yba.info5c
        have hnn := fun (w : World) (a : Option Addr) (n c n' c' : Nat) => run_neq_slice_nil_any (P := Yba.prog) w 23 5 a n c n' c' Yba.underlying23
        cases a0 with
        | none =>
          obtain ⟨rfl, rfl⟩ := hnone rfl
          go_enter Yba.func5, Yba.ntmps5
          go_wp2_with (first
            | (go_at_call 9; refine (reply_any none 0 l code text _ hl hc (by omega) (by omega) (by omega)).mono ?_; rintro e w3 ⟨a3, c3, m3, rfl, hown3, hb3⟩)
            | (go_at_call 10; refine (model_any none 0 0 l code text _ hl (bcells_later hc hb3) (fun _ => rfl) (by omega) (by omega) (by omega)).mono ?_; rintro e w4 ⟨a4, c4, m4, rfl, hown4, hb4⟩))
          refine (equal_same _ _ (reply l code.data.toList text.data.toList) _ (conv_cells Yba.underlying23 Yba.underlying5 Yba.underlying9 (bcells_later (own_cells hown3) hb4) (own_len hown3)) (conv_cells Yba.underlying23 Yba.underlying5 Yba.underlying9 (own_cells hown4) (own_len hown4))).mono ?_
          rintro e w5 ⟨rfl, rfl⟩
          go_wp2_with fail
          refine (equal_same _ _ l _ (conv_cells Yba.underlying23 Yba.underlying5 Yba.underlying9 ⟨hc.1, fun ad had => (by cases had)⟩ hl) (conv_cells Yba.underlying23 Yba.underlying5 Yba.underlying9 ⟨hc.1, fun ad had => (by cases had)⟩ hl)).mono ?_
          rintro e w6 ⟨rfl, rfl⟩
          go_wp2_with fail
          go_ret
          exact ⟨rfl, hb3.trans (hb4.mono hb3.size)⟩
        | some ad =>
          have hmx : len0 ≤ maxLen := by unfold maxLen; omega
          go_enter Yba.func5, Yba.ntmps5
          go_wp2_with (first
            | (at_make; refine wpList_make_full _ rfl _ _ 23 rfl w.heap.size 5 i0 (.int .u8 0) 1 Yba.underlying23 hi hz0 hz1 _ _ _ _ len0 rfl rfl rfl rfl (by rw [hz2]; omega) hmx (Nat.le_refl _) ?_; intro w3 hown3 hgrow3; have hb3 : Below w.heap.size w w3 := (Below.refl _ _).grown hgrow3 (Nat.le_refl _) (fun k h => by cases h); clear hgrow3)
            | (refine wpList_copyB _ rfl (.tmp 28) (.tmp 29) 23 rfl Yba.underlying23 hsz5 w.heap.size _ len0 _ rfl hown3 _ _ l rfl (bcells_later hc hb3) hl ?_; intro w4 hown4 hb4)
            | (go_at_call 9; refine (reply_any _ len0 l code text _ hl (own_cells hown4) (by omega) (by omega) (by omega)).mono ?_; rintro e w5 ⟨a5, c5, m5, rfl, hown5, hb5⟩; have hbw5 : Below w.heap.size w w5 := (hb3.trans hb4).trans (hb5.mono (Nat.le_trans hb3.size hb4.size)))
            | (go_at_call 10; refine (model_any _ len0 _ l code text _ hl (bcells_later hc hbw5) (fun h => (by cases h)) (by omega) (by omega) (by omega)).mono ?_; rintro e w6 ⟨a6, c6, m6, rfl, hown6, hb6⟩))
          have hbw6 : Below w.heap.size w w6 := hbw5.trans (hb6.mono hbw5.size)
          have hbw46 : Below w4.heap.size w4 w6 := hb5.trans (hb6.mono hb5.size)
          refine (equal_same _ _ (reply l code.data.toList text.data.toList) _ (conv_cells Yba.underlying23 Yba.underlying5 Yba.underlying9 (bcells_later (own_cells hown5) hb6) (own_len hown5)) (conv_cells Yba.underlying23 Yba.underlying5 Yba.underlying9 (own_cells hown6) (own_len hown6))).mono ?_
          rintro e w7 ⟨rfl, rfl⟩
          go_wp2_with fail
          refine (equal_same _ _ l _ (conv_cells Yba.underlying23 Yba.underlying5 Yba.underlying9 (bcells_later (own_cells hown4) hbw46) hl) (conv_cells Yba.underlying23 Yba.underlying5 Yba.underlying9 (bcells_later hc hbw6) hl)).mono ?_
          rintro e w8 ⟨rfl, rfl⟩
          go_wp2_with fail
          go_ret
          exact ⟨rfl, hbw6⟩
      · go_enter Yba.func5, Yba.ntmps5
        go_wp2
        go_ret
        exact ⟨rfl, Below.refl _ _⟩
    · go_enter Yba.func5, Yba.ntmps5
      go_wp2
      go_ret
      exact ⟨rfl, Below.refl _ _⟩
  · go_enter Yba.func5, Yba.ntmps5
    go_wp2
    go_ret
    exact ⟨rfl, Below.refl _ _⟩
end Go.Proofs.Ybulkcebw
