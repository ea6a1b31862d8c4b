import Derived.Test.YbulkcefcDoorRep
namespace Go.Proofs.YbulkcefcDoor
open Go.RowKit

def zs (s : Nat) : List UInt8 := if s = 0 then [48] else [48, 46] ++ List.replicate s 48

def AtZero (w : World) (b : Nat) : Prop := w.cell? ⟨b, 0, none⟩ = some (.int .u64 0) ∧ w.cell? ⟨b, 1, none⟩ = some (.int .u64 0)

theorem AtZero.later {w wx : World} {b : Nat} (h : AtZero w b) (hb : Below w.heap.size w wx) : AtZero wx b := ⟨cell_later hb h.1, cell_later hb h.2⟩

theorem two_zero (w : World) : AtZero ((w.alloc (.cells #[.int .u64 0, .int .u64 0] 37)).alloc (.cells #[.int .u64 0, .int .u64 0] 37)) w.heap.size ∧ AtZero ((w.alloc (.cells #[.int .u64 0, .int .u64 0] 37)).alloc (.cells #[.int .u64 0, .int .u64 0] 37)) (w.heap.size + 1) := by
  refine ⟨⟨?_, ?_⟩, ⟨?_, ?_⟩⟩
  · rw [World.cell?_alloc_past _ _ _ (by simp)]; simp
  · rw [World.cell?_alloc_past _ _ _ (by simp)]; simp
  · rw [World.cell?_alloc_at _ _ _ _ (by simp)]; rfl
  · rw [World.cell?_alloc_at _ _ _ _ (by simp)]; rfl

theorem two_below (w : World) {w1 : World} (hb : Below ((w.alloc (.cells #[.int .u64 0, .int .u64 0] 37)).alloc (.cells #[.int .u64 0, .int .u64 0] 37)).heap.size ((w.alloc (.cells #[.int .u64 0, .int .u64 0] 37)).alloc (.cells #[.int .u64 0, .int .u64 0] 37)) w1) : Below w.heap.size w w1 :=
  (((Below.refl _ _).alloc (Nat.le_refl _) _).alloc (by simp) _).trans (hb.mono (by simp; omega))

theorem own_later {w wx : World} {B : Nat} {e : TypeId} {v : Value} {n : Nat} {xs : List Value} (h : w.ownsRow B e 1 v n xs) (hb : Below w.heap.size w wx) : wx.ownsRow B e 1 v n xs := by
  refine ⟨h.1, ?_⟩
  rcases h.2 with h2 | ⟨g, cap, cur, hv, hg, hh, r⟩
  · exact .inl h2
  · exact .inr ⟨g, cap, cur, hv, hg, by rw [hb.block g (Array.getElem?_eq_some_iff.1 hh).1]; exact hh, r⟩

theorem own_le {w : World} {B : Nat} {e : TypeId} {a : Option Addr} {n c : Nat} {xs : List Value} (h : w.ownsRow B e 1 (.slice a n c) n xs) : n ≤ c := by
  rcases h.2 with ⟨hv, rfl⟩ | ⟨g, cap, cur, hv, _, _, hle, _⟩
  · omega
  · simp at hv
    omega

theorem bcells_take {w : World} {a : Option Addr} {l : List UInt8} (h : BCells w a l) (k : List UInt8) (hk : k <+: l) (ha : a ≠ none) : BCells w a k := by
  refine ⟨fun h0 => absurd h0 ha, fun ad had j u hj => h.2 ad had j u ?_⟩
  obtain ⟨r, rfl⟩ := hk
  rw [vb_append, List.getElem?_append_left (by obtain ⟨hj1, _⟩ := vb_get hj; simpa [vb] using hj1)]
  exact hj

theorem bcells_drop {w : World} {g n : Nat} {l k : List UInt8} (h : BCells w (some ⟨g, 0, none⟩) (l ++ k)) (hn : l.length = n) : BCells w (some ⟨g, n, none⟩) k := by
  refine ⟨fun h0 => (by cases h0), fun ad had j u hj => ?_⟩
  cases had
  have h1 := h.2 _ rfl (n + j) u (by rw [vb_append, List.getElem?_append_right (by simp [vb]; omega)]; simp only [vb_length, hn, Nat.add_sub_cancel_left]; exact hj)
  rw [← h1]
  congr 1
  simp only [Addr.add]
  split <;> split <;> simp <;> omega

set_option maxRecDepth 100000 in
set_option maxHeartbeats 1000000 in
theorem format_0 (w : World) :
    Calls Ybad.prog 7 #[.agg #[.int .u64 0, .int .u64 0], .int .i64 0] w fun e w' => e = .returned (.string ⟨#[48]⟩) ∧ Below w.heap.size w w' := by
  obtain ⟨i0, hi, hz0, hz1, hz2⟩ := info_parts Ybad.info5
  obtain ⟨zA, zD⟩ := two_zero w
  have HA := hide zA
  have HD := hide zD
  clear zA zD
  go_enter Ybad.func7, Ybad.ntmps7
  go_wp2_with fail
  refine (negative_zero _).mono ?_
  rintro e w1 ⟨rfl, hb1⟩
  have hbw1 := two_below w hb1
  have hA1 := (unhide HA).later hb1
  obtain ⟨d0, d1⟩ := (unhide HD).later hb1
  clear hb1 HA HD
  go_wp2_with fail
  refine (decimal_zero _).mono ?_
  rintro e w2 ⟨a2, c2, rfl, hown2, hb2⟩
  obtain ⟨g, rfl⟩ := own_head hown2 (by decide)
  have hbw2 : Below w.heap.size w w2 := hbw1.trans (hb2.mono hbw1.size)
  have hA2 := hA1.later hb2
  clear d0 d1 hb2 hA1
  have hs2 := hbw2.size
  have hle2 := own_le hown2
  go_wp2_with (first
    | (at_make; refine wpList_make_own _ rfl _ _ 24 rfl w2.heap.size 5 i0 (.int .u8 0) 1 Ybad.underlying24 hi hz0 hz1 _ _ _ 3 rfl rfl rfl (by rw [hz2]; omega) (by unfold maxLen; omega) (Nat.le_refl _) ?_; intro w3 hown3 hgrow3; have hb3 : Below w2.heap.size w2 w3 := (Below.refl _ _).grown hgrow3 (Nat.le_refl _) (fun k h => by cases h); obtain ⟨e0, e1⟩ := hA2.later hb3; clear hgrow3)
    | (go_at_call 8; refine (negative_zero _).mono ?_; rintro e w4 ⟨rfl, hb4⟩; have hb24 : Below w2.heap.size w2 w4 := hb3.trans (hb4.mono hb3.size); have hown4 := own_later hown3 hb4; clear e0 e1)
    | (at_builtin; refine wpList_appO _ rfl (.tmp 41) (.tmp 47) 24 24 rfl w2.heap.size 5 i0 Ybad.underlying24 hi hz0 hz1 hz2 _ _ _ [] rfl hown4 _ [48] rfl (.inr ⟨rfl, some ⟨g, 0, none⟩, c2, rfl, fun h => (by cases h), bcells_later (own_cells hown2) hb24⟩) 1 rfl (by omega) hb24.size ?_; intro a5 c5 w5 hown5 hb5; have hcv : (convert 24 9 (.slice a5 1 c5)).run Ybad.prog w5 = .ok (.string ⟨[48].toArray⟩) w5 := conv_cells Ybad.underlying24 Ybad.underlying5 Ybad.underlying9 (own_cells hown5) rfl))
  go_ret
  exact ⟨rfl, (hbw2.trans (hb24.mono hs2)).trans (hb5.mono hs2)⟩

theorem new_one (w : World) (v : Value) (t : TypeId) : (w.alloc (.cells #[v] t)).cell? ⟨w.heap.size, 0, none⟩ = some v := by simp

set_option maxRecDepth 100000 in
set_option maxHeartbeats 2000000 in
theorem format_s (s : Nat) (h1 : 1 ≤ s) (hs : s ≤ 18) (w : World) :
    Calls Ybad.prog 7 #[.agg #[.int .u64 0, .int .u64 0], .int .i64 s] w fun e w' => e = .returned (.string ⟨(([48, 46] : List UInt8) ++ List.replicate s 48).toArray⟩) ∧ Below w.heap.size w w' := by
  obtain ⟨i0, hi, hz0, hz1, hz2⟩ := info_parts Ybad.info5
  obtain ⟨zA, zD⟩ := two_zero w
  have HA := hide zA
  have HD := hide zD
  clear zA zD
  go_enter Ybad.func7, Ybad.ntmps7
  go_wp2_with fail
  refine (negative_zero _).mono ?_
  rintro e w1 ⟨rfl, hb1⟩
  have hbw1 := two_below w hb1
  have hA1 := (unhide HA).later hb1
  obtain ⟨d0, d1⟩ := (unhide HD).later hb1
  clear hb1 HA HD
  go_wp2_with fail
  refine (decimal_zero _).mono ?_
  rintro e w2 ⟨a2, c2, rfl, hown2, hb2⟩
  obtain ⟨g, rfl⟩ := own_head hown2 (by decide)
  have hbw2 : Below w.heap.size w w2 := hbw1.trans (hb2.mono hbw1.size)
  have hA2 := hA1.later hb2
  have hs2 := hbw2.size
  have hle2 := own_le hown2
  clear d0 d1 hb2 hA1
  go_wp2_with fail
  refine (repeat_any _ s _ h1 (by omega) (new_one _ _ _)).mono ?_
  rintro e w3 ⟨g3, rfl, hbc3, hb3⟩
  have hb23 : Below w2.heap.size w2 w3 := ((Below.refl _ _).alloc (Nat.le_refl _) _).trans (hb3.mono (by simp))
  have hdst : Dst w3 w3.heap.size 5 (some ⟨g3, 0, none⟩) s s (List.replicate s 48) := .inr ⟨rfl, by simp, hbc3⟩
  clear hb3
  have hs23 := hb23.size
  have hA3 := hA2.later hb23
  have hdig := bcells_later (own_cells hown2) hb23
  have HE : Hid (List.replicate s (48 : UInt8) ++ [48] = [48] ++ List.replicate s 48) := hide (by rw [← List.replicate_succ', List.replicate_succ]; rfl)
  have hsub : (s : Int) + 1 - (s : Int) = 1 := by omega
  clear hA2 hown2 hbc3
  go_wp2_with (first
    | (at_builtin; refine wpList_appB _ rfl (.tmp 29) (.tmp 30) 24 24 rfl w3.heap.size 5 i0 Ybad.underlying24 hi hz0 hz1 hz2 _ _ _ (List.replicate s 48) rfl hdst _ [48] rfl (.inr ⟨rfl, some ⟨g, 0, none⟩, c2, rfl, fun h => (by cases h), hdig⟩) 1 rfl (by omega) (Nat.le_refl _) ?_; intro a4 c4 w4 _ hown4' hb4; have hown4 := hown4' (by decide); obtain ⟨g4, rfl⟩ := own_head hown4 (by omega); rw [unhide HE] at hown4; have hle4 := own_le hown4; have hc41 : ¬ c4 = 1 := (by omega); have hA4 := hA3.later hb4; have hbc4 := own_cells hown4; clear hown4' hA3 hdst hdig)
    | (at_make; refine wpList_make_own _ rfl _ _ 24 rfl w4.heap.size 5 i0 (.int .u8 0) 1 Ybad.underlying24 hi hz0 hz1 _ _ _ (s + 3) rfl rfl (by omega) (by rw [hz2]; omega) (by unfold maxLen; omega) (Nat.le_refl _) ?_; intro w5 hown5 hgrow5; have hb5 : Below w4.heap.size w4 w5 := (Below.refl _ _).grown hgrow5 (Nat.le_refl _) (fun k h => by cases h); obtain ⟨e0, e1⟩ := hA4.later hb5; clear hgrow5 hA4)
    | (go_at_call 8; refine (negative_zero _).mono ?_; rintro e w6 ⟨rfl, hb6⟩; have hb46 : Below w4.heap.size w4 w6 := hb5.trans (hb6.mono hb5.size); have hown6 := own_later hown5 hb6; have hs6 := hb46.size; have hbc6 := bcells_later hbc4 hb46; clear e0 e1)
    | (at_builtin; refine wpList_appO _ rfl (.tmp 41) (.tmp 47) 24 24 rfl w4.heap.size 5 i0 Ybad.underlying24 hi hz0 hz1 hz2 _ _ _ [] rfl hown6 _ [48] rfl (.inr ⟨rfl, some ⟨g4, 0, none⟩, c4, rfl, fun h => (by cases h), bcells_take hbc6 _ ⟨_, rfl⟩ (by simp)⟩) 1 rfl (by omega) hs6 ?_; intro a7 c7 w7 hown7 hb7; have hb47 := hb46.trans hb7; have hs7 := hb47.size)
    | (at_builtin; refine wpList_appO _ rfl (.tmp 51) (.tmp 52) 24 24 rfl w4.heap.size 5 i0 Ybad.underlying24 hi hz0 hz1 hz2 _ _ _ _ rfl (hown7.alloc _) _ [46] rfl (bsrc_one _ 46 _ rfl) 1 rfl (by omega) (by simp; omega) ?_; intro a8 c8 w8 hown8 hb8; have hb48 := (hb47.alloc hs7 _).trans hb8; have hs8 := hb48.size; have hbc8 := bcells_drop (l := [48]) (n := 1) (bcells_later hbc4 hb48) rfl)
    | (at_builtin; refine wpList_appO _ rfl (.tmp 54) (.tmp 60) 24 24 rfl w4.heap.size 5 i0 Ybad.underlying24 hi hz0 hz1 hz2 _ _ _ _ rfl hown8 (.slice (some ⟨g4, 1, none⟩) s (c4 - 1)) (List.replicate s 48) (by simp [Act.eval]) (.inr ⟨rfl, some ⟨g4, 1, none⟩, c4 - 1, (by simp), fun h => (by cases h), hbc8⟩) s (by simp) (by omega) hs8 ?_; intro a9 c9 w9 hown9 hb9; have hb49 := hb48.trans hb9; have hcv : (convert 24 9 (.slice a9 (2 + s) c9)).run Ybad.prog w9 = .ok (.string ⟨(([48, 46] : List UInt8) ++ List.replicate s 48).toArray⟩) w9 := conv_cells Ybad.underlying24 Ybad.underlying5 Ybad.underlying9 (own_cells hown9) (by simp; omega)))
  go_ret
  exact ⟨rfl, hbw2.trans ((hb23.trans ((hb4.trans (hb49.mono hb4.size)).mono hs23)).mono hs2)⟩

theorem format_any (s : Nat) (hs : s ≤ 18) (w : World) :
    Calls Ybad.prog 7 #[.agg #[.int .u64 0, .int .u64 0], .int .i64 s] w fun e w' => e = .returned (.string ⟨(zs s).toArray⟩) ∧ Below w.heap.size w w' := by
  by_cases h : s = 0
  · subst h
    exact format_0 w
  · refine (format_s s (by omega) hs w).mono ?_
    rintro e w' ⟨rfl, hb⟩
    refine ⟨?_, hb⟩
    rw [zs, if_neg h]

set_option maxRecDepth 100000 in
set_option maxHeartbeats 1000000 in
theorem azero_any (s : Nat) (hs : s ≤ 18) (w : World) :
    Calls Ybad.prog 5 #[.int .i64 s] w fun e w' => e = .returned (.string ⟨(zs s).toArray⟩) ∧ Below w.heap.size w w' := by
  obtain ⟨i0, hi, hz0, hz1, hz2⟩ := info_parts Ybad.info5
  have hd0 : Dst (w.alloc (.cells #[.int .u8 48] 5)) w.heap.size 5 (some ⟨w.heap.size, 0, none⟩) 1 1 [48] := .inr ⟨rfl, rfl, ⟨fun h => (by cases h), fun ad had j u hj => (by
    cases had
    match j, hj with
    | 0, hj => simp [vb] at hj; subst hj; simp [Addr.add])⟩⟩
  have HD := hide hd0
  have hcv0 : (convert 24 9 (.slice (some ⟨w.heap.size, 0, none⟩) 1 1)).run Ybad.prog (w.alloc (.cells #[.int .u8 48] 5)) = .ok (.string ⟨([48] : List UInt8).toArray⟩) (w.alloc (.cells #[.int .u8 48] 5)) := by
    rcases hd0 with h | ⟨_, _, h⟩
    · exact conv_cells Ybad.underlying24 Ybad.underlying5 Ybad.underlying9 (own_cells h) rfl
    · exact conv_cells Ybad.underlying24 Ybad.underlying5 Ybad.underlying9 h rfl
  clear hd0
  by_cases h : s = 0
  · subst h
    go_enter Ybad.func5, Ybad.ntmps5
    go_wp2
    go_ret
    exact ⟨rfl, (Below.refl _ _).alloc (Nat.le_refl _) _⟩
  · clear hcv0
    have HZ : Hid (zs s = [48] ++ [46] ++ List.replicate s 48) := hide (by rw [zs, if_neg h]; rfl)
    have hpos : 0 < s := by omega
    have hsrc : BSrc Ybad.prog 24 24 ((w.alloc (.cells #[.int .u8 48] 5)).alloc (.cells #[.int .u8 46] 5)) (.slice (some ⟨w.heap.size + 1, 0, none⟩) 1 1) [46] := by
      have := bsrc_one (P := Ybad.prog) (t := 24) (e := 5) (w.alloc (.cells #[.int .u8 48] 5)) 46 46 rfl
      simpa using this
    go_enter Ybad.func5, Ybad.ntmps5
    go_wp2_with (at_builtin; refine wpList_appB _ rfl (.tmp 8) (.tmp 9) 24 24 rfl w.heap.size 5 i0 Ybad.underlying24 hi hz0 hz1 hz2 _ _ _ [48] rfl (dst_alloc (unhide HD) _) _ [46] rfl hsrc 1 rfl (by omega) (by simp; omega) ?_; intro a2 c2 w2 _ hown2' hb2)
    have hown2 := hown2' (by decide)
    have hbw2 : Below w.heap.size w w2 := (((Below.refl _ _).alloc (Nat.le_refl _) _).alloc (by simp) _).trans hb2
    clear hown2' hb2 HD
    go_loopw [3, 4] (fun v i wr => ∃ (k : Nat) (a : Option Addr) (c : Nat), k ≤ s ∧ i = .int .i64 k ∧ v = .slice a (2 + k) c ∧ wr.ownsRow w.heap.size 5 1 (.slice a (2 + k) c) (2 + k) (vb ([48] ++ [46] ++ List.replicate k 48)) ∧ Below w.heap.size w wr) (fun _ i _ => s - (intOf i).toNat)
    case atStart => exact ⟨0, a2, c2, Nat.zero_le _, rfl, rfl, by simpa using hown2, hbw2⟩
    case round =>
      clear hown2 hbw2
      obtain ⟨k, a, c, hk, rfl, rfl, hown, hb⟩ := hrel
      have hsz := hb.size
      by_cases hlt : k < s
      · have HL : Hid ([48] ++ [46] ++ List.replicate k 48 ++ [48] = ([48] ++ [46] ++ List.replicate (k + 1) 48 : List UInt8)) := hide (by rw [List.append_assoc, List.replicate_succ'])
        go_wp2_with (at_builtin; refine wpList_appO _ rfl (.tmp 16) (.tmp 17) 24 24 rfl w.heap.size 5 i0 Ybad.underlying24 hi hz0 hz1 hz2 _ _ _ _ rfl (hown.alloc _) _ [48] rfl (bsrc_one _ 48 _ rfl) 1 rfl (by omega) (by simp; omega) ?_; intro a3 c3 w3 hown3 hb3)
        go_roundw
        case rel => exact ⟨k + 1, a3, c3, by omega, by go_num, rfl, by rw [← unhide HL]; exact hown3, (hb.alloc hsz _).trans hb3⟩
        case measure => simp [intOf]; omega
      · have hk' : k = s := by omega
        subst hk'
        have hcv : (convert 24 9 (.slice a (2 + k) c)).run Ybad.prog wr = .ok (.string ⟨(([48] : List UInt8) ++ [46] ++ List.replicate k 48).toArray⟩) wr := conv_cells Ybad.underlying24 Ybad.underlying5 Ybad.underlying9 (own_cells hown) (by simp; omega)
        generalize [48] ++ [46] ++ List.replicate k 48 = L at *
        go_wp2
        go_ret
        exact ⟨by rw [unhide HZ]; rfl, hb⟩
end Go.Proofs.YbulkcefcDoor
