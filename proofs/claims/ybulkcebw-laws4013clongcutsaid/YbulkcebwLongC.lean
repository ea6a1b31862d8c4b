import Derived.Test.YbulkcebwMatchC
namespace Go.Proofs.Ybulkcebw
open Go.RowKit

theorem run_appO {P : Program} {w : World} {B : Nat} {t tx e : TypeId} (ty : TypeId) {i : TypeInfo} (ht : P.underlying t = some (.slice e)) (hi : P.info? e = some i) (hz : i.zero = some (.int .u8 0)) (hsize : i.size = 1) (hby : i.bytes = 1)
    {a : Option Addr} {n c : Nat} {l : List UInt8} (hown : w.ownsRow B e 1 (.slice a n c) n (vb l)) {x : Value} {k : List UInt8} (hs : BSrc P t tx w x k) (m : Nat) (hm : k.length = m) (hb : n + m ≤ 140737488355328) (hB : B ≤ w.heap.size) :
    ∃ a' c' w', (Builtin.append_ #[t, tx] ty #[.slice a n c, x]).run P w = .ok (.slice a' (n + m) c') w' ∧ w'.ownsRow B e 1 (.slice a' (n + m) c') (n + m) (vb (l ++ k)) ∧ Below B w w' := by
  by_cases h0 : 0 < m
  · obtain ⟨a', c', w', h1, _, h3, h4⟩ := run_appB (P := P) (w := w) ty ht hi hz hsize hby (.inl hown) hs m hm hb hB
    exact ⟨a', c', w', h1, h3 h0, h4⟩
  · obtain rfl : k = [] := List.eq_nil_of_length_eq_zero (by omega)
    obtain rfl : m = 0 := by omega
    have hsrc := src_of ht hs
    have hle : n ≤ c := by
      rcases hown.2 with ⟨hv, rfl⟩ | ⟨g, cap, cur, hv, _, _, hle, _⟩
      · omega
      · simp at hv
        omega
    have hr := run_append_nothing (P := P) w t tx ty e i ht hi a n c hle x (by rw [hsize]; exact hsrc)
    exact ⟨a, c, w, hr, by simpa using hown, Below.refl _ _⟩

theorem wpList_appO {P : Program} (w : World) {ops : Array Oper} {rest : List Oper} {o : Oper} {ac : Act} {Q : Exit → Act → World → Prop} (hgd : o.guard = none) (s x : Operand) (t tx : TypeId)
    (ho : o.op = .call { callee := .builtin .append, args := #[s, x], argTypes := #[t, tx] }) (B : Nat) (e : TypeId) (i : TypeInfo) (ht : P.underlying t = some (.slice e)) (hi : P.info? e = some i) (hz : i.zero = some (.int .u8 0)) (hsize : i.size = 1) (hby : i.bytes = 1)
    (a : Option Addr) (n c : Nat) (l : List UInt8) (hsv : ac.eval s = .slice a n c) (hd : w.ownsRow B e 1 (.slice a n c) n (vb l)) (xv : Value) (k : List UInt8) (hxv : ac.eval x = xv) (hs : BSrc P t tx w xv k) (m : Nat) (hm : k.length = m) (hb : n + m ≤ 140737488355328) (hB : B ≤ w.heap.size)
    (h : ∀ a' c' w', w'.ownsRow B e 1 (.slice a' (n + m) c') (n + m) (vb (l ++ k)) → Below B w w' → wpList P ops Q rest (ac.put o.dst (.slice a' (n + m) c')) w') : wpList P ops Q (o :: rest) ac w := by
  refine wpList_plain hgd fun K hK => ?_
  obtain ⟨a', c', w', hr, h1, h2⟩ := run_appO (P := P) (w := w) o.type ht hi hz hsize hby hd hs m hm hb hB
  unfold Oper.wp execOp
  simp only [ho, resolve, invoke, builtin, Sem.run_bind, Sem.run_pure, Result.andThen_ok, List.map_toArray, List.map_cons, List.map_nil, hsv, hxv, hr]
  exact hK _ _ (h a' c' w' h1 h2)

theorem own_head {w : World} {B : Nat} {e : TypeId} {a : Option Addr} {n c : Nat} {xs : List Value} (h : w.ownsRow B e 1 (.slice a n c) n xs) (hn : 0 < n) : ∃ g, a = some ⟨g, 0, none⟩ := by
  rcases h.2 with ⟨_, rfl⟩ | ⟨g, cap, cur, hv, _⟩
  · omega
  · simp at hv
    exact ⟨g, hv.1⟩

theorem reply_last {w wx : World} {g m : Nat} {c : Nat} {B : Nat} {l code text : List UInt8} (h : w.ownsRow B 5 1 (.slice (some ⟨g, 0, none⟩) m c) m (vb (reply l code text))) (hb : Below w.heap.size w wx) :
    wx.cell? ⟨g, m - 1, none⟩ = some (.int .u8 10) := by
  have hc := bcells_later (own_cells h) hb
  have hl := own_len h
  have hm : (vb (reply l code text))[m - 1]? = some (.int .u8 10) := by
    have : m - 1 = (l ++ code ++ [32] ++ body (4094 - code.length) text).length := by
      rw [← hl]; unfold reply; simp; omega
    rw [this]
    unfold reply
    rw [vb_append]
    simp [vb]
  have := hc.2 _ rfl _ _ hm
  rw [← this]
  congr 1
  simp [Addr.add]

theorem reply_pos (l code text : List UInt8) : 0 < (reply l code text).length := by unfold reply; simp; omega

theorem reply_len (l code text : List UInt8) (h : code.length < 4095) : (reply l code text).length ≤ l.length + 4096 := by
  have := body_length text (4094 - code.length) (by omega)
  unfold reply
  simp
  omega

theorem reply_len2 (l code text : List UInt8) : (reply l code text).length ≤ l.length + code.length + 4100 := by
  by_cases h : code.length < 4095
  · have := reply_len l code text h
    omega
  · unfold reply
    rw [body_neg _ _ (by omega)]
    simp
    omega

theorem mul_bound {s n N M : Nat} (h : s * N = M) (hn : n < N) (hM : M ≤ 32768) {m : Nat} (hm : m = s * n) : m + s ≤ 32768 ∧ m + s = s * (n + 1) := by
  have : s * (n + 1) ≤ s * N := Nat.mul_le_mul_left _ hn
  rw [Nat.mul_add, Nat.mul_one] at this ⊢
  omega

theorem count2 (s : Nat) : ∃ N2 M2 : Nat, (32768 : Int) / ((s : Int) + 1) = N2 ∧ (s : Int) * (N2 : Int) = M2 ∧ s * N2 = M2 ∧ N2 ≤ 32768 ∧ M2 ≤ 32768 := by
  refine ⟨32768 / (s + 1), s * (32768 / (s + 1)), by simp, by simp, rfl, Nat.div_le_self _ _, ?_⟩
  have h1 : (s + 1) * (32768 / (s + 1)) ≤ 32768 := Nat.mul_div_le _ _
  have h2 : s * (32768 / (s + 1)) ≤ (s + 1) * (32768 / (s + 1)) := Nat.mul_le_mul_right _ (by omega)
  omega

theorem count1 (s : Nat) (r : Int) (_h0 : 0 ≤ r) (_h1 : r < 65536) (hs : s ≤ 4096) : ∃ N M : Nat, r % 300 + 1 = N ∧ (s : Int) * (N : Int) = M ∧ s * N = M ∧ N ≤ 300 ∧ M ≤ 1228800 := by
  refine ⟨(r % 300 + 1).toNat, s * (r % 300 + 1).toNat, by omega, by simp, rfl, by omega, ?_⟩
  exact Nat.le_trans (Nat.mul_le_mul hs (show (r % 300 + 1).toNat ≤ 300 by omega)) (by decide)

set_option maxRecDepth 1000000 in
set_option maxHeartbeats 4000000 in
theorem long_walk (a0 : Option Addr) (len0 cap0 : Nat) (z0 : List Int) (code text : ByteArray) (a3 : Int) (w : World) (w0 : IsRow .u8 w a0 len0 cap0 z0) (_w1 : code.size ≤ maxLen) (_w2 : text.size ≤ maxLen) (w3 : (Lit.int .u16 a3).wf = true) :
    Calls Yba.prog 6 #[.slice a0 len0 cap0, .string code, .string text, .int .u16 a3] w fun e w' => e = .returned (.bool true) ∧ Below w.heap.size w w' := by
  obtain ⟨l, hl, hc, hnone⟩ := isRow_bytes w0
  have hr := bounds_u16 w3
  clear w0 w3
  by_cases h1 : len0 ≤ 4096
  · by_cases h2 : code.size ≤ 4096
    · by_cases h3 : text.size ≤ 4096
      · obtain ⟨i0, hi, hz0, hz1, hz2⟩ := info_parts Yba.info5c
        have hnn := fun (w : World) (a : Option Addr) (n c n' c' : Nat) => run_neq_slice_nil_any (P := Yba.prog) w 23 5 a n c n' c' Yba.underlying23
        obtain ⟨N1, M1, hN1, hM1, hNM1, hNb1, hMb1⟩ := count1 text.size a3 (by omega) (by omega) h3
        have HNM1 := hide hNM1
        clear hNM1
        by_cases hbig : M1 ≤ 32768
        · go_enter Yba.func6, Yba.ntmps6
          go_wp2_with (at_make; refine wpList_make_own _ rfl _ _ 23 rfl w.heap.size 5 i0 (.int .u8 0) 1 Yba.underlying23 hi hz0 hz1 _ _ _ M1 rfl rfl rfl (by rw [hz2]; omega) (by unfold maxLen; omega) (Nat.le_refl _) ?_; intro w1 hown1 hgrow1; have hb1 : Below w.heap.size w w1 := (Below.refl _ _).grown hgrow1 (Nat.le_refl _) (fun k h => by cases h); clear hgrow1)
          go_loopw [10, 11] (fun d i wr => ∃ (k m : Nat) (a' : Option Addr) (c' : Nat) (L : List UInt8), k ≤ N1 ∧ i = .int .i64 k ∧ d = .slice a' m c' ∧ m ≤ 32768 ∧ Hid (m = text.size * k) ∧ wr.ownsRow w.heap.size 5 1 (.slice a' m c') m (vb L) ∧ Below w.heap.size w wr)
            (fun _ i _ => N1 - (intOf i).toNat)
          case atStart => exact ⟨0, 0, _, _, [], Nat.zero_le _, rfl, rfl, by omega, hide (by simp), hown1, hb1⟩
          case round =>
            clear hown1 hb1
            obtain ⟨k, m, a', c', L, hk, rfl, rfl, hm, HM, hown, hb⟩ := hrel
            have hsz := hb.size
            by_cases hlt : k < N1
            · have hmb := mul_bound (unhide HNM1) hlt hbig (unhide HM)
              have HM2 := hide hmb.2
              have hmb1 := hmb.1
              clear hmb
              go_wp2_with (at_builtin; refine wpList_appO _ rfl (.tmp 51) (.tmp 52) 23 9 rfl w.heap.size 5 i0 Yba.underlying23 hi hz0 hz1 hz2 _ _ _ L rfl hown _ text.data.toList rfl (.inl ⟨Yba.underlying9, text, rfl, rfl⟩) text.size (by simp) (by omega) hsz ?_; intro a2 c2 w2 hown2 hb2)
              go_roundw
              case rel => exact ⟨k + 1, m + text.size, a2, c2, L ++ text.data.toList, by omega, by go_num, rfl, hmb1, HM2, hown2, hb.trans hb2⟩
              case measure => simp [intOf]; omega
            · have hLm := own_len hown
              have hcv : (convert 23 9 (.slice a' m c')).run Yba.prog wr = .ok (.string ⟨L.toArray⟩) wr := conv_cells Yba.underlying23 Yba.underlying5 Yba.underlying9 (own_cells hown) hLm
              obtain ⟨S, hS⟩ : ∃ S : ByteArray, S = ⟨L.toArray⟩ := ⟨_, rfl⟩
              have hSs : S.size ≤ 32768 := by rw [hS]; show L.toArray.size ≤ _; simp; omega
              rw [← hS] at hcv
              clear hS hLm HM hown
              have hR1 := reply_pos l code.data.toList S.data.toList
              have hR2 : code.size < 4095 → (reply l code.data.toList S.data.toList).length ≤ l.length + 4096 := fun h => reply_len _ _ _ (by simpa using h)
              have hR3 : (reply l code.data.toList S.data.toList).length ≤ l.length + code.size + 4100 := by have := reply_len2 l code.data.toList S.data.toList; simpa using this
              have hc1 := bcells_later hc hb
              cases a0 with
              | none =>
                obtain ⟨rfl, rfl⟩ := hnone rfl
                go_wp2_with (first
                  | (go_at_call 9; refine (reply_any none 0 l code S _ hl hc1 (by omega) (by omega) (by omega)).mono ?_; rintro e w5 ⟨a5, c5, m5, rfl, hown5, hb5⟩; obtain ⟨g, rfl⟩ := own_head hown5 (by rw [← own_len hown5]; exact hR1))
                  | (go_at_call 10; refine (model_any none 0 0 l code S _ hl (bcells_later hc1 hb5) (fun _ => rfl) (by omega) (by omega) (by omega)).mono ?_; rintro e w6 ⟨a6, c6, m6, rfl, hown6, hb6⟩))
                refine (equal_same _ _ (reply l code.data.toList S.data.toList) _ (conv_cells Yba.underlying23 Yba.underlying5 Yba.underlying9 (bcells_later (own_cells hown5) hb6) (own_len hown5)) (conv_cells Yba.underlying23 Yba.underlying5 Yba.underlying9 (own_cells hown6) (own_len hown6))).mono ?_
                rintro e w7 ⟨rfl, rfl⟩
                have hlast := reply_last hown5 hb6
                have hm5 := own_len hown5
                have hm50 : ((m5 : Int) == 0) = false := by rw [beq_eq_false_iff_ne]; omega
                have hm51 : 0 < m5 := by omega
                have hm52 : code.size < 4095 → m5 ≤ 0 + 4096 := fun h => by have := hR2 h; omega
                have hm54 : m5 ≤ 20000 := by omega
                clear hm5 hR1 hR2 hR3 hown5 hown6 hnn hcv
                by_cases hcode : code.size < 4095
                · have hm53 := hm52 hcode
                  clear hm52
                  go_wp2
                  go_ret
                  exact ⟨rfl, hb.trans ((hb5.trans (hb6.mono hb5.size)).mono hb.size)⟩
                · clear hm52
                  go_wp2
                  go_ret
                  exact ⟨rfl, hb.trans ((hb5.trans (hb6.mono hb5.size)).mono hb.size)⟩
              | some ad =>
                have hmx : len0 ≤ maxLen := by unfold maxLen; omega
                go_wp2_with (first
                  | (at_make; refine wpList_make_full _ rfl _ _ 23 rfl wr.heap.size 5 i0 (.int .u8 0) 1 Yba.underlying23 hi hz0 hz1 _ _ _ _ len0 rfl rfl rfl rfl (by rw [hz2]; omega) hmx (Nat.le_refl _) ?_; intro w3 hown3 hgrow3; have hb3 : Below wr.heap.size wr w3 := (Below.refl _ _).grown hgrow3 (Nat.le_refl _) (fun k h => by cases h); clear hgrow3)
                  | (go_at_call 9; refine (reply_any _ len0 l code S _ hl (own_cells hown4) (by omega) (by omega) (by omega)).mono ?_; rintro e w5 ⟨a5, c5, m5, rfl, hown5, hb5⟩; obtain ⟨g, rfl⟩ := own_head hown5 (by rw [← own_len hown5]; exact hR1); have hbw5 : Below wr.heap.size wr w5 := (hb3.trans hb4).trans (hb5.mono (Nat.le_trans hb3.size hb4.size)))
                  | (go_at_call 10; refine (model_any _ len0 _ l code S _ hl (bcells_later hc1 hbw5) (fun h => (by cases h)) (by omega) (by omega) (by omega)).mono ?_; rintro e w6 ⟨a6, c6, m6, rfl, hown6, hb6⟩)
                  | (refine wpList_copyB _ rfl (.tmp 61) (.tmp 62) 23 rfl Yba.underlying23 hsz5 wr.heap.size _ len0 _ rfl hown3 _ _ l rfl (bcells_later hc1 hb3) hl ?_; intro w4 hown4 hb4))
                refine (equal_same _ _ (reply l code.data.toList S.data.toList) _ (conv_cells Yba.underlying23 Yba.underlying5 Yba.underlying9 (bcells_later (own_cells hown5) hb6) (own_len hown5)) (conv_cells Yba.underlying23 Yba.underlying5 Yba.underlying9 (own_cells hown6) (own_len hown6))).mono ?_
                rintro e w7 ⟨rfl, rfl⟩
                have hlast := reply_last hown5 hb6
                have hm5 := own_len hown5
                have hm50 : ((m5 : Int) == 0) = false := by rw [beq_eq_false_iff_ne]; omega
                have hm51 : 0 < m5 := by omega
                have hm52 : code.size < 4095 → m5 ≤ len0 + 4096 := fun h => by have := hR2 h; omega
                have hm54 : m5 ≤ 20000 := by omega
                clear hm5 hR1 hR2 hR3 hown5 hown6 hnn hcv
                by_cases hcode : code.size < 4095
                · have hm53 := hm52 hcode
                  clear hm52
                  go_wp2
                  go_ret
                  exact ⟨rfl, hb.trans ((hbw5.trans (hb6.mono hbw5.size)).mono hb.size)⟩
                · clear hm52
                  go_wp2
                  go_ret
                  exact ⟨rfl, hb.trans ((hbw5.trans (hb6.mono hbw5.size)).mono hb.size)⟩
        · obtain ⟨N2, M2, hN2, hM2, hNM2, hNb2, hMb2⟩ := count2 text.size
          have HNM2 := hide hNM2
          clear hNM2
          go_enter Yba.func6, Yba.ntmps6
          go_wp2_with (at_make; refine wpList_make_own _ rfl _ _ 23 rfl w.heap.size 5 i0 (.int .u8 0) 1 Yba.underlying23 hi hz0 hz1 _ _ _ M2 rfl rfl rfl (by rw [hz2]; omega) (by unfold maxLen; omega) (Nat.le_refl _) ?_; intro w1 hown1 hgrow1; have hb1 : Below w.heap.size w w1 := (Below.refl _ _).grown hgrow1 (Nat.le_refl _) (fun k h => by cases h); clear hgrow1)
          go_loopw [10, 11] (fun d i wr => ∃ (k m : Nat) (a' : Option Addr) (c' : Nat) (L : List UInt8), k ≤ N2 ∧ i = .int .i64 k ∧ d = .slice a' m c' ∧ m ≤ 32768 ∧ Hid (m = text.size * k) ∧ wr.ownsRow w.heap.size 5 1 (.slice a' m c') m (vb L) ∧ Below w.heap.size w wr)
            (fun _ i _ => N2 - (intOf i).toNat)
          case atStart => exact ⟨0, 0, _, _, [], Nat.zero_le _, rfl, rfl, by omega, hide (by simp), hown1, hb1⟩
          case round =>
            clear hown1 hb1
            obtain ⟨k, m, a', c', L, hk, rfl, rfl, hm, HM, hown, hb⟩ := hrel
            have hsz := hb.size
            by_cases hlt : k < N2
            · have hmb := mul_bound (unhide HNM2) hlt hMb2 (unhide HM)
              have HM2 := hide hmb.2
              have hmb1 := hmb.1
              clear hmb
              go_wp2_with (at_builtin; refine wpList_appO _ rfl (.tmp 51) (.tmp 52) 23 9 rfl w.heap.size 5 i0 Yba.underlying23 hi hz0 hz1 hz2 _ _ _ L rfl hown _ text.data.toList rfl (.inl ⟨Yba.underlying9, text, rfl, rfl⟩) text.size (by simp) (by omega) hsz ?_; intro a2 c2 w2 hown2 hb2)
              go_roundw
              case rel => exact ⟨k + 1, m + text.size, a2, c2, L ++ text.data.toList, by omega, by go_num, rfl, hmb1, HM2, hown2, hb.trans hb2⟩
              case measure => simp [intOf]; omega
            · have hLm := own_len hown
              have hcv : (convert 23 9 (.slice a' m c')).run Yba.prog wr = .ok (.string ⟨L.toArray⟩) wr := conv_cells Yba.underlying23 Yba.underlying5 Yba.underlying9 (own_cells hown) hLm
              obtain ⟨S, hS⟩ : ∃ S : ByteArray, S = ⟨L.toArray⟩ := ⟨_, rfl⟩
              have hSs : S.size ≤ 32768 := by rw [hS]; show L.toArray.size ≤ _; simp; omega
              rw [← hS] at hcv
              clear hS hLm HM hown
              have hR1 := reply_pos l code.data.toList S.data.toList
              have hR2 : code.size < 4095 → (reply l code.data.toList S.data.toList).length ≤ l.length + 4096 := fun h => reply_len _ _ _ (by simpa using h)
              have hR3 : (reply l code.data.toList S.data.toList).length ≤ l.length + code.size + 4100 := by have := reply_len2 l code.data.toList S.data.toList; simpa using this
              have hc1 := bcells_later hc hb
              cases a0 with
              | none =>
                obtain ⟨rfl, rfl⟩ := hnone rfl
                go_wp2_with (first
                  | (go_at_call 9; refine (reply_any none 0 l code S _ hl hc1 (by omega) (by omega) (by omega)).mono ?_; rintro e w5 ⟨a5, c5, m5, rfl, hown5, hb5⟩; obtain ⟨g, rfl⟩ := own_head hown5 (by rw [← own_len hown5]; exact hR1))
                  | (go_at_call 10; refine (model_any none 0 0 l code S _ hl (bcells_later hc1 hb5) (fun _ => rfl) (by omega) (by omega) (by omega)).mono ?_; rintro e w6 ⟨a6, c6, m6, rfl, hown6, hb6⟩))
                refine (equal_same _ _ (reply l code.data.toList S.data.toList) _ (conv_cells Yba.underlying23 Yba.underlying5 Yba.underlying9 (bcells_later (own_cells hown5) hb6) (own_len hown5)) (conv_cells Yba.underlying23 Yba.underlying5 Yba.underlying9 (own_cells hown6) (own_len hown6))).mono ?_
                rintro e w7 ⟨rfl, rfl⟩
                have hlast := reply_last hown5 hb6
                have hm5 := own_len hown5
                have hm50 : ((m5 : Int) == 0) = false := by rw [beq_eq_false_iff_ne]; omega
                have hm51 : 0 < m5 := by omega
                have hm52 : code.size < 4095 → m5 ≤ 0 + 4096 := fun h => by have := hR2 h; omega
                have hm54 : m5 ≤ 20000 := by omega
                clear hm5 hR1 hR2 hR3 hown5 hown6 hnn hcv
                by_cases hcode : code.size < 4095
                · have hm53 := hm52 hcode
                  clear hm52
                  go_wp2
                  go_ret
                  exact ⟨rfl, hb.trans ((hb5.trans (hb6.mono hb5.size)).mono hb.size)⟩
                · clear hm52
                  go_wp2
                  go_ret
                  exact ⟨rfl, hb.trans ((hb5.trans (hb6.mono hb5.size)).mono hb.size)⟩
              | some ad =>
                have hmx : len0 ≤ maxLen := by unfold maxLen; omega
                go_wp2_with (first
                  | (at_make; refine wpList_make_full _ rfl _ _ 23 rfl wr.heap.size 5 i0 (.int .u8 0) 1 Yba.underlying23 hi hz0 hz1 _ _ _ _ len0 rfl rfl rfl rfl (by rw [hz2]; omega) hmx (Nat.le_refl _) ?_; intro w3 hown3 hgrow3; have hb3 : Below wr.heap.size wr w3 := (Below.refl _ _).grown hgrow3 (Nat.le_refl _) (fun k h => by cases h); clear hgrow3)
                  | (go_at_call 9; refine (reply_any _ len0 l code S _ hl (own_cells hown4) (by omega) (by omega) (by omega)).mono ?_; rintro e w5 ⟨a5, c5, m5, rfl, hown5, hb5⟩; obtain ⟨g, rfl⟩ := own_head hown5 (by rw [← own_len hown5]; exact hR1); have hbw5 : Below wr.heap.size wr w5 := (hb3.trans hb4).trans (hb5.mono (Nat.le_trans hb3.size hb4.size)))
                  | (go_at_call 10; refine (model_any _ len0 _ l code S _ hl (bcells_later hc1 hbw5) (fun h => (by cases h)) (by omega) (by omega) (by omega)).mono ?_; rintro e w6 ⟨a6, c6, m6, rfl, hown6, hb6⟩)
                  | (refine wpList_copyB _ rfl (.tmp 61) (.tmp 62) 23 rfl Yba.underlying23 hsz5 wr.heap.size _ len0 _ rfl hown3 _ _ l rfl (bcells_later hc1 hb3) hl ?_; intro w4 hown4 hb4))
                refine (equal_same _ _ (reply l code.data.toList S.data.toList) _ (conv_cells Yba.underlying23 Yba.underlying5 Yba.underlying9 (bcells_later (own_cells hown5) hb6) (own_len hown5)) (conv_cells Yba.underlying23 Yba.underlying5 Yba.underlying9 (own_cells hown6) (own_len hown6))).mono ?_
                rintro e w7 ⟨rfl, rfl⟩
                have hlast := reply_last hown5 hb6
                have hm5 := own_len hown5
                have hm50 : ((m5 : Int) == 0) = false := by rw [beq_eq_false_iff_ne]; omega
                have hm51 : 0 < m5 := by omega
                have hm52 : code.size < 4095 → m5 ≤ len0 + 4096 := fun h => by have := hR2 h; omega
                have hm54 : m5 ≤ 20000 := by omega
                clear hm5 hR1 hR2 hR3 hown5 hown6 hnn hcv
                by_cases hcode : code.size < 4095
                · have hm53 := hm52 hcode
                  clear hm52
                  go_wp2
                  go_ret
                  exact ⟨rfl, hb.trans ((hbw5.trans (hb6.mono hbw5.size)).mono hb.size)⟩
                · clear hm52
                  go_wp2
                  go_ret
                  exact ⟨rfl, hb.trans ((hbw5.trans (hb6.mono hbw5.size)).mono hb.size)⟩
      · go_enter Yba.func6, Yba.ntmps6
        go_wp2
        go_ret
        exact ⟨rfl, Below.refl _ _⟩
    · go_enter Yba.func6, Yba.ntmps6
      go_wp2
      go_ret
      exact ⟨rfl, Below.refl _ _⟩
  · go_enter Yba.func6, Yba.ntmps6
    go_wp2
    go_ret
    exact ⟨rfl, Below.refl _ _⟩
end Go.Proofs.Ybulkcebw
