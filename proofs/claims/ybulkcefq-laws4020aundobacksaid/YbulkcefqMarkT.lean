import Derived.Test.YbulkcefqMarkF
namespace Go.Proofs.Ybulkcefq
open Go.RowKit

theorem wpList_app0 (wr : World) (nq B k : Nat) (xs : List Value) (a : Option Addr) (c : Nat) (hown : wr.ownsRow B 3 1 (.slice a k c) k xs) (hBs : B ≤ wr.heap.size) (hk : k ≤ 2000) {ops : Array Oper} {rest : List Oper} {o : Oper} {ac : Act} {Q : Exit → Act → World → Prop} (hgd : o.guard = none)
    (ho : o.op = .call { callee := .builtin .append, args := #[.tmp 38, .tmp 39], argTypes := #[23, 23] }) (hs : ac.eval (.tmp 38) = .slice a k c) (hx : ac.eval (.tmp 39) = .slice (some ⟨wr.heap.size, 0, none⟩) 1 1)
    (h : ∀ g cap w3, w3.ownsRow B 3 1 (.slice (some ⟨g, 0, none⟩) (k + 1) cap) (k + 1) (xs ++ [.int .i64 0]) → ((wr.drewN nq).alloc (.cells #[.int .i64 0] 3)).grownBy w3 (Value.slice a k c).ownBlock → wpList Yba.prog ops Q rest (ac.put o.dst (.slice (some ⟨g, 0, none⟩) (k + 1) cap)) w3) :
    wpList Yba.prog ops Q (o :: rest) ac ((wr.drewN nq).alloc (.cells #[.int .i64 0] 3)) := by
  obtain ⟨i0, hi, hz0, hz1, hz2⟩ := info_parts Yba.info3
  have hb2 : Below wr.heap.size wr ((wr.drewN nq).alloc (.cells #[.int .i64 0] 3)) := (below_drewN (Below.refl _ _) nq).alloc (Nat.le_refl _) _
  refine wpList_append_lies _ hgd (.tmp 38) (.tmp 39) 23 ho B 3 i0 _ 1 8 Yba.underlying23 hi hz0 hz1 hz2 rfl (by omega) _ k _ hs (own_laterN hown hb2) ⟨wr.heap.size, 0, none⟩ 1 1 [.int .i64 0] hx rfl (fun j u hj => ?_) (by simp [Value.oneCell']) (by omega) (by unfold maxLen; omega) (by omega) (Nat.le_trans hBs hb2.size) _ rfl ?_
  · have hblk : ((wr.drewN nq).alloc (.cells #[.int .i64 0] 3)).heap[wr.heap.size]? = some (.cells #[.int .i64 0] 3) := by
      show (wr.heap.push _)[wr.heap.size]? = _
      simp
    exact World.news_of_block hblk j u hj
  · intro g cap w3 h1 h2 _ _
    exact h g cap w3 h1 h2

set_option maxRecDepth 100000 in
set_option maxHeartbeats 2000000 in
theorem mark_true (B U b n s m : Nat) (x y z : Addr) (k0 s0 : Int) (v : Value) (l : List Int) (w : World) (h : UH w U b n s x y z true k0 s0 v) (hown : w.ownsRow B 3 1 v m (vi l)) (hB : B ≤ U) (hn : n ≤ 700) :
    Calls Yba.prog 6 #[.pointer (some ⟨U, 0, none⟩)] w fun e w' => e = .returned (.agg #[.int .i64 b, .int .i64 n, .int .i64 s]) ∧ ∃ k v', m ≤ k ∧ n ≤ k ∧ (k = m ∨ k = n) ∧ UH w' U b n s x y z true n s v' ∧ w'.ownsRow B 3 1 v' k (vi (l ++ List.replicate (k - m) 0)) ∧ Below B w w' := by
  obtain ⟨i0, hi, hz0, hz1, hz2⟩ := info_parts Yba.info3
  have hlt := uh_lt h
  obtain ⟨W, hW⟩ : ∃ W, W = w.alloc (.cells #[.int .i64 0, .int .i64 0, .int .i64 0] 27) := ⟨_, rfl⟩
  have hbW : Below w.heap.size w W := by rw [hW]; exact (Below.refl _ _).alloc (Nat.le_refl _) _
  have hRW : RH W w.heap.size 0 0 0 := by rw [hW]; exact rh_alloc _ _ _ _
  have hUW := uh_later h hbW
  have hownW := own_laterN hown hbW
  obtain ⟨c3, c4, c7, c8, c9, c10, c11⟩ := uh_cells h
  obtain ⟨d3, d4, d7, d8, d9, d10, d11⟩ := uh_cells hUW
  have f8 := uh_free hUW 8
  have f9 := uh_free hUW 9
  have HW := hide hW
  have HS : Hid (∀ V : World, V = ((W.setCell ⟨U, 8, none⟩ (.int .i64 n)).setCell ⟨U, 9, none⟩ (.int .i64 s)).drew ∨ V = ((W.setCell ⟨U, 9, none⟩ (.int .i64 s)).setCell ⟨U, 8, none⟩ (.int .i64 n)).drew →
      UH V U b n s x y z true n s v ∧ RH V w.heap.size 0 0 0 ∧ V.ownsRow B 3 1 v m (vi l) ∧ Below B w V) := by
    have hne := rh_ne hUW hRW
    have hno := own_ne (show W.heap[U]? = _ from hUW) (by decide) hownW
    rintro V (rfl | rfl)
    · exact ⟨uh_set9 (uh_set8 hUW _) _, rh_far (rh_far hRW hne.symm) hne.symm, (ownsRow_setCell_other (ownsRow_setCell_other hownW hno _) hno _).drew, ((((hbW.mono (by omega)).setCell hB _).setCell hB _)).drew⟩
    · exact ⟨uh_set8 (uh_set9 hUW _) _, rh_far (rh_far hRW hne.symm) hne.symm, (ownsRow_setCell_other (ownsRow_setCell_other hownW hno _) hno _).drew, ((((hbW.mono (by omega)).setCell hB _).setCell hB _)).drew⟩
  clear hW hRW hbW hUW hownW hown h
  go_enter Yba.func6, Yba.ntmps6
  go_wp2_with fail
  rw [← unhide HW]
  clear c3 c4 c7 c8 c9 c10 c11
  obtain ⟨V, hV⟩ : ∃ V, V = ((W.setCell ⟨U, 8, none⟩ (.int .i64 n)).setCell ⟨U, 9, none⟩ (.int .i64 s)).drew := ⟨_, rfl⟩
  have HV := hide hV
  clear hV
  go_region
  rw [← unhide HV]
  obtain ⟨hU0, hR0, hown0, hb0⟩ := unhide HS V (.inl (unhide HV))
  clear HS HV HW d3 d4 d7 d8 d9 d10 d11 f8 f9
  go_wp2_with fail
  go_loopw [] (fun wr => ∃ (k : Nat) (v' : Value), m ≤ k ∧ (k = m ∨ k ≤ n) ∧ UH wr U b n s x y z true n s v' ∧ RH wr w.heap.size 0 0 0 ∧ wr.ownsRow B 3 1 v' k (vi (l ++ List.replicate (k - m) 0)) ∧ Below B w wr) (fun wr => n - svLen wr U)
  case atStart => exact ⟨m, v, Nat.le_refl _, .inl rfl, hU0, hR0, by simpa using hown0, hb0⟩
  case round =>
    clear hU0 hR0 hown0 hb0
    obtain ⟨k, v', hmk, hkn, hU, hR, hown, hb⟩ := hrel
    obtain ⟨a, c, rfl⟩ := own_shape hown
    obtain ⟨d3, d4, d7, d8, d9, d10, d11⟩ := uh_cells hU
    obtain ⟨r0, r1, r2, rf⟩ := rh_cells hR
    have f0 := rf 0
    have f1 := rf 1
    have f2 := rf 2
    have hBs : B ≤ wr.heap.size := by have := uh_lt hU; omega
    have HU := hide hU
    have HR := hide hR
    have HO := hide hown
    have HB := hide hb
    have HM := hide (svLen_eq hU hown)
    clear hU hR hown hb rf
    by_cases hlt2 : (k : Int) < (n : Int)
    · go_wp2_with fail
      go_quiet (fail)
      have HRo : Hid (B ≤ wr.heap.size) := hBs
      go_wp2_with (at_builtin; refine wpList_app0 wr nq B k _ a c (unhide HO) hBs (by omega) rfl rfl rfl rfl ?_; intro g cap w3 hown3 hgrow3; obtain ⟨e11, ef, T⟩ := mark_step nq (unhide HU) (unhide HR) (unhide HO) (unhide HB) hmk hB hBs hown3 hgrow3; have HT := hide T; clear T hown3 hgrow3)
      obtain ⟨t1, t2, t3, t4⟩ := unhide HT
      refine ⟨⟨k + 1, _, by omega, .inr (by omega), t1, t2, t3, t4⟩, ?_⟩
      rw [svLen_eq t1 t3, unhide HM]
      omega
    · go_wp2_with fail
      have hd : decide ((k : Int) < (n : Int)) = false := by simpa using hlt2
      go_quiet (fail)
      go_wp2_with fail
      obtain ⟨Y, hY⟩ : ∃ Y, Y = wr.drewN nq := ⟨_, rfl⟩
      rw [← hY]
      have hbY : Below wr.heap.size wr Y := by rw [hY]; exact below_drewN (Below.refl _ _) _
      have hUY := uh_later (unhide HU) hbY
      have hRY := rh_later (unhide HR) hbY
      have hOY := own_laterN (unhide HO) hbY
      have hne := rh_ne hUY hRY
      have HQ : Hid (∀ V : World, V = (((Y.setCell ⟨w.heap.size, 0, none⟩ (.int .i64 b)).setCell ⟨w.heap.size, 1, none⟩ (.int .i64 n)).setCell ⟨w.heap.size, 2, none⟩ (.int .i64 s)).drew →
          RH V w.heap.size b n s ∧ UH V U b n s x y z true n s (.slice a k c) ∧ V.ownsRow B 3 1 (.slice a k c) k (vi (l ++ List.replicate (k - m) 0)) ∧ Below B w V) := by
        rintro V rfl
        have hno := own_ne (show Y.heap[w.heap.size]? = _ from hRY) (by decide) hOY
        have hBw : B ≤ w.heap.size := by omega
        exact ⟨rh_set3 hRY _ _ _, uh_far (uh_far (uh_far hUY hne) hne) hne, (ownsRow_setCell_other (ownsRow_setCell_other (ownsRow_setCell_other hOY hno _) hno _) hno _).drew,
          ((((((unhide HB).trans (hbY.mono hBs)).setCell hBw _).setCell hBw _).setCell hBw _)).drew⟩
      clear d3 d4 d7 d8 d9 d10 d11 r0 r1 r2 f0 f1 f2
      obtain ⟨d3, d4, d7, d8, d9, d10, d11⟩ := uh_cells hUY
      obtain ⟨r0, r1, r2, rf⟩ := rh_cells hRY
      have f0 := rf 0
      have f1 := rf 1
      have f2 := rf 2
      have hnk : n ≤ k := by omega
      obtain ⟨V5, hV5⟩ : ∃ V5, V5 = (((Y.setCell ⟨w.heap.size, 0, none⟩ (.int .i64 b)).setCell ⟨w.heap.size, 1, none⟩ (.int .i64 n)).setCell ⟨w.heap.size, 2, none⟩ (.int .i64 s)).drew := ⟨_, rfl⟩
      have HV5 := hide hV5
      clear hV5 hY hbY hUY hRY hOY rf hne HU HR HO HB HM
      go_region
      rw [← unhide HV5]
      obtain ⟨hR5, hU5, hO5, hb5⟩ := unhide HQ V5 (unhide HV5)
      obtain ⟨q0, q1, q2, _⟩ := rh_cells hR5
      clear d3 d4 d7 d8 d9 d10 d11 r0 r1 r2 f0 f1 f2
      go_wp2
      refine bodyPost_ret (v := .agg #[.int .i64 b, .int .i64 n, .int .i64 s]) ?_ rfl ⟨rfl, k, _, hmk, hnk, by omega, hU5, hO5, hb5⟩
      simp [results, Yba.results6, go_sem, q0, q1, q2]
end Go.Proofs.Ybulkcefq
