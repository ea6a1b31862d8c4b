import Derived.WalkKit
import Derived.WalkLawsBesides
import Derived.WalkSpells
import Derived.OpenShut
import Derived.Lib.AppendStr
import Derived.Deep.AppendSrc
import Derived.Deep.Upon
import Derived.Deep.RegionLaw
import Derived.Laws.CopyOwn
namespace Go.Proofs.Ybulkcefq
open Go.RowKit

theorem hide {p : Prop} (h : p) : Hid p := h
theorem unhide {p : Prop} (h : Hid p) : p := h.out

theorem ret_bool {a b : Bool} (h : a = b) : Ending.returned (.bool a) = .returned (.bool b) := by rw [h]

def IsRow (k : IntKind) (w : World) (a : Option Addr) (len cap : Nat) (zs : List Int) : Prop :=
  (a = none ∧ len = 0 ∧ cap = 0 ∧ zs = []) ∨
  ∃ x, a = some x ∧ len ≤ cap ∧ cap ≤ maxLen ∧ zs.length = cap ∧ (∀ i, i < zs.length → w.cell? (x.add i) = some (.int k (zs.getD i 0))) ∧ ∀ n ∈ zs, (Lit.int k n).wf = true

def vb (l : List UInt8) : List Value := l.map (fun b => Value.int .u8 (b.toNat : Int))

theorem vb_length (l : List UInt8) : (vb l).length = l.length := by simp [vb]
theorem vb_append (l m : List UInt8) : vb (l ++ m) = vb l ++ vb m := by simp [vb]
theorem vb_get {l : List UInt8} {j : Nat} {u : Value} (h : (vb l)[j]? = some u) : ∃ hj : j < l.length, u = .int .u8 (l[j].toNat : Int) := by
  have hj : j < l.length := by
    have := (List.getElem?_eq_some_iff.1 h).1
    simpa [vb] using this
  refine ⟨hj, ?_⟩
  simp [vb, List.getElem?_eq_getElem hj] at h
  exact h.symm
theorem vb_one (l : List UInt8) : ∀ u ∈ vb l, u.oneCell' = true := by
  intro u hu
  simp [vb] at hu
  obtain ⟨b, _, rfl⟩ := hu
  rfl

theorem isRow_u8 {w : World} {a : Option Addr} {len cap : Nat} {zs : List Int} (h : IsRow .u8 w a len cap zs) :
    len ≤ cap ∧ cap ≤ maxLen ∧ ∃ l : List UInt8, l.length = len ∧ (a = none → len = 0 ∧ cap = 0) ∧ (0 < len → ∃ b off, a = some ⟨b, off, none⟩ ∧ b < w.heap.size ∧ ∀ i (hi : i < l.length), w.cell? ⟨b, off + i, none⟩ = some (.int .u8 (l[i].toNat : Int))) := by
  rcases h with ⟨rfl, rfl, rfl, rfl⟩ | ⟨x, rfl, hl, hm, hz, hc, hw⟩
  · exact ⟨Nat.le_refl _, by simp [maxLen], [], rfl, fun _ => ⟨rfl, rfl⟩, fun h => by omega⟩
  · refine ⟨hl, hm, (zs.take len).map (fun z => UInt8.ofNat z.toNat), by simp; omega, fun h => by simp at h, fun hp => ?_⟩
    obtain ⟨b, off, rfl, hcell⟩ := ints_at hc (by omega)
    refine ⟨b, off, rfl, World.block_lt_of_cell? w _ (hcell 0 (by omega)), fun i hi => ?_⟩
    have hi' : i < zs.length := by simp at hi; omega
    have hil : i < len := by simp at hi; omega
    rw [hcell i hi']
    have hr := bounds_u8 (hw zs[i] (List.getElem_mem hi'))
    have e : zs.getD i 0 = zs[i] := by simp [List.getD, hi']
    rw [e]
    congr 2
    simp
    omega

theorem own_string {P : Program} {w : World} {base : Nat} {src dst e : TypeId} {v : Value} {n : Nat} {l : List UInt8} (hs : P.underlying src = some (.slice e)) (he : P.underlying e = some (.int .u8)) (hd : P.underlying dst = some .string)
    (h : w.ownsRow base e 1 v n (vb l)) (hn : l.length = n) : (convert src dst v).run P w = .ok (.string ⟨l.toArray⟩) w := by
  subst hn
  rcases h.2 with ⟨rfl, hl⟩ | ⟨g, cap, cur, rfl, r⟩
  · have : l = [] := List.eq_nil_of_length_eq_zero hl
    subst this
    have h0 := run_convert_bytes_string (P := P) w src dst e none 0 0 hs he hd
    rw [h0]
    simp [Conv.bytesToString]
    rfl
  · refine run_convert_bytes_back w src dst e ⟨g, 0, none⟩ cap l hs he hd fun j hj => ?_
    have := h.cells (g := g) rfl j (.int .u8 (l[j].toNat : Int)) (by simp [vb, hj])
    exact this

def BCells (w : World) (a : Option Addr) (l : List UInt8) : Prop :=
  (a = none → l = []) ∧ ∀ ad, a = some ad → ∀ j u, (vb l)[j]? = some u → w.cell? (ad.add j) = some u

def BSrc (P : Program) (t tx : TypeId) (w : World) (x : Value) (k : List UInt8) : Prop :=
  (P.underlying tx = some .string ∧ ∃ s : ByteArray, x = .string s ∧ s.data.toList = k) ∨ (tx = t ∧ ∃ a c, x = .slice a k.length c ∧ (a = none → c = 0) ∧ BCells w a k)

def Dst (w : World) (B : Nat) (e : TypeId) (a : Option Addr) (n c : Nat) (l : List UInt8) : Prop :=
  w.ownsRow B e 1 (.slice a n c) n (vb l) ∨ (c = n ∧ l.length = n ∧ BCells w a l)

theorem strCells_vb (s : ByteArray) : Lib.strCells s = vb s.data.toList := rfl
theorem byteCells_vb (s : ByteArray) : byteCells s = vb s.data.toList := rfl

theorem own_shape {w : World} {B : Nat} {e : TypeId} {v : Value} {n : Nat} {xs : List Value} (h : w.ownsRow B e 1 v n xs) : ∃ a c, v = .slice a n c := by
  rcases h.2 with ⟨rfl, rfl⟩ | ⟨g, cap, cur, rfl, _⟩
  · exact ⟨_, _, rfl⟩
  · exact ⟨_, _, rfl⟩

theorem own_ge {w : World} {B : Nat} {e : TypeId} {v : Value} {n : Nat} {xs : List Value} (h : w.ownsRow B e 1 v n xs) : ∀ k, v.ownBlock = some k → B ≤ k := fun k hk => (h.lt k hk).1

theorem own_mono {w : World} {B B' : Nat} {e : TypeId} {v : Value} {n : Nat} {xs : List Value} (h : w.ownsRow B e 1 v n xs) (hB : B' ≤ B) : w.ownsRow B' e 1 v n xs := by
  refine ⟨h.1, ?_⟩
  rcases h.2 with h2 | ⟨g, cap, cur, hv, hg, r⟩
  · exact .inl h2
  · exact .inr ⟨g, cap, cur, hv, by omega, r⟩

theorem own_cells {w : World} {B : Nat} {e : TypeId} {a : Option Addr} {n c : Nat} {l : List UInt8} (h : w.ownsRow B e 1 (.slice a n c) n (vb l)) : BCells w a l := by
  rcases h.2 with ⟨hv, rfl⟩ | ⟨g, cap, cur, hv, r⟩
  · refine ⟨fun _ => ?_, fun ad had => ?_⟩
    · have := h.1
      simp [vb] at this
      exact List.eq_nil_of_length_eq_zero (by simpa using this)
    · simp at hv
      rw [hv.1] at had
      cases had
  · simp at hv
    obtain ⟨rfl, rfl⟩ := hv
    refine ⟨fun h => (by cases h), fun ad had => ?_⟩
    cases had
    exact h.cells (g := g) rfl

theorem own_len {w : World} {B : Nat} {e : TypeId} {v : Value} {n : Nat} {l : List UInt8} (h : w.ownsRow B e 1 v n (vb l)) : l.length = n := by
  have := h.1
  simpa [vb] using this

theorem bcells_kept {w w' : World} {B : Nat} {a : Option Addr} {l : List UInt8} (h : BCells w a l) (hb : Below B w w') (ha : ∀ ad, a = some ad → 0 < l.length → ad.block < B) : BCells w' a l := by
  refine ⟨h.1, fun ad had j u hj => ?_⟩
  obtain ⟨hjl, _⟩ := vb_get hj
  rw [hb.cell (p := ad.add j) (by have := ha ad had (by omega); unfold Addr.add; split <;> exact this)]
  exact h.2 ad had j u hj

section
variable {P : Program}

theorem conv_cells {w : World} {src dst e : TypeId} (hs : P.underlying src = some (.slice e)) (he : P.underlying e = some (.int .u8)) (hd : P.underlying dst = some .string)
    {a : Option Addr} {n c : Nat} {l : List UInt8} (h : BCells w a l) (hn : l.length = n) : (convert src dst (.slice a n c)).run P w = .ok (.string ⟨l.toArray⟩) w := by
  subst hn
  cases a with
  | none =>
    obtain rfl := h.1 rfl
    have h0 := run_convert_bytes_string (P := P) w src dst e none 0 c hs he hd
    show Sem.run P (convert src dst (.slice none 0 c)) w = _
    rw [h0]
    simp [Conv.bytesToString]
    rfl
  | some ad =>
    refine run_convert_bytes_back w src dst e ad c l hs he hd fun j hj => ?_
    exact h.2 ad rfl j _ (by simp [vb, hj])

theorem src_of {t tx : TypeId} {e : TypeId} {w : World} {x : Value} {k : List UInt8} (ht : P.underlying t = some (.slice e)) (h : BSrc P t tx w x k) : Src P 1 tx x k.length (vb k) w := by
  rcases h with ⟨hu, s, rfl, rfl⟩ | ⟨rfl, a, c, rfl, hc, hb⟩
  · have := Src.ofString w hu s
    have e1 : s.data.toList.length = s.size := by simp
    rw [e1]
    exact this
  · cases a with
    | none =>
      obtain rfl := hb.1 rfl
      exact Src.ofNil w ht c
    | some ad => exact Src.ofSlice w ht ad k.length c (vb k) (by simp [vb]) (hb.2 ad rfl) (vb_one k)

theorem run_appB {w : World} {B : Nat} {t tx e : TypeId} (ty : TypeId) {i : TypeInfo} (ht : P.underlying t = some (.slice e)) (hi : P.info? e = some i) (hz : i.zero = some (.int .u8 0)) (hsize : i.size = 1) (hby : i.bytes = 1)
    {a : Option Addr} {n c : Nat} {l : List UInt8} (hd : Dst w B e a n c l) {x : Value} {k : List UInt8} (hs : BSrc P t tx w x k) (m : Nat) (hm : k.length = m) (hb : n + m ≤ 140737488355328) (hB : B ≤ w.heap.size) :
    ∃ a' c' w', (Builtin.append_ #[t, tx] ty #[.slice a n c, x]).run P w = .ok (.slice a' (n + m) c') w' ∧ Dst w' B e a' (n + m) c' (l ++ k) ∧
      (0 < m → w'.ownsRow B e 1 (.slice a' (n + m) c') (n + m) (vb (l ++ k))) ∧ Below B w w' := by
  subst hm
  have h63 : n + k.length ≤ maxLen := by unfold maxLen; omega
  have hsrc := src_of ht hs
  rcases hd with hown | ⟨rfl, hl, hc⟩
  · have fin : ∀ v' w', (Builtin.append_ #[t, tx] ty #[.slice a n c, x]).run P w = .ok v' w' → w'.ownsRow B e 1 v' (n + k.length) (vb (l ++ k)) → Below B w w' →
        ∃ a' c' w', (Builtin.append_ #[t, tx] ty #[.slice a n c, x]).run P w = .ok (.slice a' (n + k.length) c') w' ∧ Dst w' B e a' (n + k.length) c' (l ++ k) ∧
      (0 < k.length → w'.ownsRow B e 1 (.slice a' (n + k.length) c') (n + k.length) (vb (l ++ k))) ∧ Below B w w' := by
      intro v' w' hr ho hbel
      obtain ⟨a', c', rfl⟩ := own_shape ho
      exact ⟨a', c', w', hr, .inl ho, fun _ => ho, hbel⟩
    rcases hs with ⟨hu, s, rfl, rfl⟩ | ⟨rfl, a2, c2, rfl, hc2, hb2⟩
    · have e1 : s.data.toList.length = s.size := by simp
      obtain ⟨v', w', hr, ho, hg, _⟩ := Lib.run_append_own_string (P := P) w B t tx ty e i ht hu hi hz hsize hby _ n _ hown s (by rw [e1] at h63; exact h63) (by rw [e1] at hb; exact hb) hB
      refine fin v' w' hr ?_ ((Below.refl _ _).grown hg hB (own_ge hown))
      rw [vb_append, e1]
      exact ho
    · cases a2 with
      | none =>
        obtain rfl := hb2.1 rfl
        obtain rfl := hc2 rfl
        have hr := run_append_owned_none (P := P) (w := w) B tx ty e i 1 ht hi _ n _ hown
        exact fin _ w hr (by simpa using hown) (Below.refl _ _)
      | some ad =>
        obtain ⟨v', w', hr, ho, hg, _⟩ := run_append_own (P := P) w B tx ty e i (.int .u8 0) 1 1 ht hi hz hsize hby rfl (by decide) _ n _ hown ad k.length c2 (vb k) (by simp [vb]) (hb2.2 ad rfl) (vb_one k) h63 (by omega) hB
        exact fin v' w' hr (by rw [vb_append]; exact ho) ((Below.refl _ _).grown hg hB (own_ge hown))
  · by_cases hk : k.length = 0
    · obtain rfl : k = [] := List.eq_nil_of_length_eq_zero hk
      have hr := run_append_nothing (P := P) w t tx ty e i ht hi a c c (Nat.le_refl _) x (by rw [hsize]; exact hsrc)
      exact ⟨a, c, w, hr, .inr ⟨rfl, by simpa using hl, by simpa using hc⟩, fun h => by simp at h, Below.refl _ _⟩
    · have hold : (Builtin.firstCells i.size c (.slice a c c)).run P w.drew = .ok (vb l).toArray w.drew := by
        rw [hsize]
        cases a with
        | none =>
          obtain rfl := hc.1 rfl
          obtain rfl : c = 0 := by simpa using hl.symm
          exact run_firstCells_none w.drew 1 0 0 0
        | some ad => exact run_firstCells_some w.drew 1 c ad c c (vb l) (by simp [vb]; exact hl) (by simpa using hc.2 ad rfl)
      have hr := run_append_grow_src (P := P) w t tx ty e i (.int .u8 0) ht hi hz a c c (vb l) hold x k.length (vb k) (by rw [hsize]; exact hsrc) (by omega) (by omega) (by rw [hby]; exact growslice_fits (by omega) (by omega))
      have hge := grownCap_ge w (c + k.length) c e
      have hcm : grownCap w (c + k.length) c e ≤ maxLen := grownCap_le_maxLen w (c + k.length) c e h63
      have ho : (w.drew.alloc (.cells ((vb l ++ vb k).toArray ++ Builtin.zeroCells (Value.int .u8 0).cells (grownCap w (c + k.length) c e - (c + k.length))) e)).ownsRow B e 1
          (.slice (some ⟨w.heap.size, 0, none⟩) (c + k.length) (grownCap w (c + k.length) c e)) (c + k.length) (vb (l ++ k)) := by
        refine ⟨by simp [vb]; omega, .inr ⟨w.heap.size, _, _, rfl, hB, heap_alloc_new w.drew _, hge, hcm, ?_, ?_⟩⟩
        · have hz1 : (Value.int IntKind.u8 0).cells.size = 1 := rfl
          simp only [Array.size_append, List.size_toArray, size_zeroCells, hz1, List.length_append, vb_length]
          omega
        · simp only [Array.toList_append, vb_append]
          have : (vb l ++ vb k).length = (c + k.length) * 1 := by simp [vb]; omega
          rw [← this]
          exact List.take_left
      exact ⟨_, _, _, hr, .inl ho, fun _ => ho, ((Below.refl B w).drew.alloc hB _)⟩

theorem wpList_appB (w : World) {ops : Array Oper} {rest : List Oper} {o : Oper} {ac : Act} {Q : Exit → Act → World → Prop} (hgd : o.guard = none) (s x : Operand) (t tx : TypeId)
    (ho : o.op = .call { callee := .builtin .append, args := #[s, x], argTypes := #[t, tx] }) (B : Nat) (e : TypeId) (i : TypeInfo) (ht : P.underlying t = some (.slice e)) (hi : P.info? e = some i) (hz : i.zero = some (.int .u8 0)) (hsize : i.size = 1) (hby : i.bytes = 1)
    (a : Option Addr) (n c : Nat) (l : List UInt8) (hsv : ac.eval s = .slice a n c) (hd : Dst w B e a n c l) (xv : Value) (k : List UInt8) (hxv : ac.eval x = xv) (hs : BSrc P t tx w xv k) (m : Nat) (hm : k.length = m) (hb : n + m ≤ 140737488355328) (hB : B ≤ w.heap.size)
    (h : ∀ a' c' w', Dst w' B e a' (n + m) c' (l ++ k) → (0 < m → w'.ownsRow B e 1 (.slice a' (n + m) c') (n + m) (vb (l ++ k))) → Below B w w' → wpList P ops Q rest (ac.put o.dst (.slice a' (n + m) c')) w') : wpList P ops Q (o :: rest) ac w := by
  refine wpList_plain hgd fun K hK => ?_
  obtain ⟨a', c', w', hr, h1, h2, h3⟩ := run_appB (P := P) (w := w) o.type ht hi hz hsize hby hd hs m hm hb hB
  unfold Oper.wp execOp
  simp only [ho, resolve, invoke, builtin, Sem.run_bind, Sem.run_pure, Result.andThen_ok, List.map_toArray, List.map_cons, List.map_nil, hsv, hxv, hr]
  exact hK _ _ (h a' c' w' h1 h2 h3)

theorem step_appB {w : World} {ops : Array Oper} {o : Oper} {ac : Act} {K : Act → World → Prop} {Q : Exit → Act → World → Prop} {E : Prop} (hgd : o.guard = none) (s x : Operand) (t tx : TypeId)
    (ho : o.op = .call { callee := .builtin .append, args := #[s, x], argTypes := #[t, tx] }) (B : Nat) (e : TypeId) (i : TypeInfo) (ht : P.underlying t = some (.slice e)) (hi : P.info? e = some i) (hz : i.zero = some (.int .u8 0)) (hsize : i.size = 1) (hby : i.bytes = 1)
    (a : Option Addr) (n c : Nat) (l : List UInt8) (hsv : ac.eval s = .slice a n c) (hd : Dst w B e a n c l) (xv : Value) (k : List UInt8) (hxv : ac.eval x = xv) (hs : BSrc P t tx w xv k) (m : Nat) (hm : k.length = m) (hb : n + m ≤ 140737488355328) (hB : B ≤ w.heap.size)
    (h : ∀ a' c' w', Dst w' B e a' (n + m) c' (l ++ k) → (0 < m → w'.ownsRow B e 1 (.slice a' (n + m) c') (n + m) (vb (l ++ k))) → Below B w w' → K (ac.put o.dst (.slice a' (n + m) c')) w') :
    if Region.wanted o (yielded ops ac.tmps) = true then Oper.wp P o ac w K Q else E := by
  have hw : Region.wanted o (yielded ops ac.tmps) = true := by simp [Region.wanted, hgd]
  rw [if_pos hw]
  obtain ⟨a', c', w', hr, h1, h2, h3⟩ := run_appB (P := P) (w := w) o.type ht hi hz hsize hby hd hs m hm hb hB
  unfold Oper.wp execOp
  simp only [ho, resolve, invoke, builtin, Sem.run_bind, Sem.run_pure, Result.andThen_ok, List.map_toArray, List.map_cons, List.map_nil, hsv, hxv, hr]
  exact h a' c' w' h1 h2 h3

end

theorem bcells_alloc {w : World} {a : Option Addr} {l : List UInt8} (h : BCells w a l) (o : Obj) : BCells (w.alloc o) a l := by
  refine ⟨h.1, fun ad had j u hj => ?_⟩
  have hc := h.2 ad had j u hj
  exact cell_later ((Below.refl _ _).alloc (Nat.le_refl _) _) hc

theorem dst_alloc {w : World} {B : Nat} {e : TypeId} {a : Option Addr} {n c : Nat} {l : List UInt8} (h : Dst w B e a n c l) (o : Obj) : Dst (w.alloc o) B e a n c l := by
  rcases h with h | ⟨h1, h2, h3⟩
  · exact .inl (h.alloc o)
  · exact .inr ⟨h1, h2, bcells_alloc h3 o⟩

theorem bsrc_one {P : Program} {t e : TypeId} (w : World) (b : UInt8) (z : Int) (hz : z = (b.toNat : Int)) : BSrc P t t (w.alloc (.cells #[.int .u8 z] e)) (.slice (some ⟨w.heap.size, 0, none⟩) 1 1) [b] := by
  subst hz
  refine .inr ⟨rfl, _, _, rfl, fun h => (by cases h), fun h => (by cases h), fun ad had j u hj => ?_⟩
  cases had
  match j, hj with
  | 0, hj => simp [vb] at hj; subst hj; simp [Addr.add]

theorem bsrc_three {P : Program} {t e : TypeId} (w : World) (b0 b1 b2 : UInt8) (z0 z1 z2 : Int) (h0 : z0 = (b0.toNat : Int)) (h1 : z1 = (b1.toNat : Int)) (h2 : z2 = (b2.toNat : Int)) :
    BSrc P t t (w.alloc (.cells #[.int .u8 z0, .int .u8 z1, .int .u8 z2] e)) (.slice (some ⟨w.heap.size, 0, none⟩) 3 3) [b0, b1, b2] := by
  subst h0 h1 h2
  refine .inr ⟨rfl, _, _, rfl, fun h => (by cases h), fun h => (by cases h), fun ad had j u hj => ?_⟩
  cases had
  match j, hj with
  | 0, hj => simp [vb] at hj; subst hj; simp [Addr.add]
  | 1, hj => simp [vb] at hj; subst hj; simp [Addr.add]
  | 2, hj => simp [vb] at hj; subst hj; simp [Addr.add]

theorem bcells_later {w wx : World} {a : Option Addr} {l : List UInt8} (h : BCells w a l) (hb : Below w.heap.size w wx) : BCells wx a l :=
  ⟨h.1, fun ad had j u hj => cell_later hb (h.2 ad had j u hj)⟩

theorem run_appO {P : Program} {w : World} {B : Nat} {t tx e : TypeId} (ty : TypeId) {i : TypeInfo} (ht : P.underlying t = some (.slice e)) (hi : P.info? e = some i) (hz : i.zero = some (.int .u8 0)) (hsize : i.size = 1) (hby : i.bytes = 1)
    {a : Option Addr} {n c : Nat} {l : List UInt8} (hown : w.ownsRow B e 1 (.slice a n c) n (vb l)) {x : Value} {k : List UInt8} (hs : BSrc P t tx w x k) (m : Nat) (hm : k.length = m) (hb : n + m ≤ 140737488355328) (hB : B ≤ w.heap.size) :
    ∃ a' c' w', (Builtin.append_ #[t, tx] ty #[.slice a n c, x]).run P w = .ok (.slice a' (n + m) c') w' ∧ w'.ownsRow B e 1 (.slice a' (n + m) c') (n + m) (vb (l ++ k)) ∧ Below B w w' := by
  by_cases h0 : 0 < m
  · obtain ⟨a', c', w', h1, _, h3, h4⟩ := run_appB (P := P) (w := w) ty ht hi hz hsize hby (.inl hown) hs m hm hb hB
    exact ⟨a', c', w', h1, h3 h0, h4⟩
  · obtain rfl : k = [] := List.eq_nil_of_length_eq_zero (by omega)
    obtain rfl : m = 0 := by omega
    have hsrc := src_of ht hs
    have hle : n ≤ c := by
      rcases hown.2 with ⟨hv, rfl⟩ | ⟨g, cap, cur, hv, _, _, hle, _⟩
      · omega
      · simp at hv
        omega
    have hr := run_append_nothing (P := P) w t tx ty e i ht hi a n c hle x (by rw [hsize]; exact hsrc)
    exact ⟨a, c, w, hr, by simpa using hown, Below.refl _ _⟩

theorem wpList_appO {P : Program} (w : World) {ops : Array Oper} {rest : List Oper} {o : Oper} {ac : Act} {Q : Exit → Act → World → Prop} (hgd : o.guard = none) (s x : Operand) (t tx : TypeId)
    (ho : o.op = .call { callee := .builtin .append, args := #[s, x], argTypes := #[t, tx] }) (B : Nat) (e : TypeId) (i : TypeInfo) (ht : P.underlying t = some (.slice e)) (hi : P.info? e = some i) (hz : i.zero = some (.int .u8 0)) (hsize : i.size = 1) (hby : i.bytes = 1)
    (a : Option Addr) (n c : Nat) (l : List UInt8) (hsv : ac.eval s = .slice a n c) (hd : w.ownsRow B e 1 (.slice a n c) n (vb l)) (xv : Value) (k : List UInt8) (hxv : ac.eval x = xv) (hs : BSrc P t tx w xv k) (m : Nat) (hm : k.length = m) (hb : n + m ≤ 140737488355328) (hB : B ≤ w.heap.size)
    (h : ∀ a' c' w', w'.ownsRow B e 1 (.slice a' (n + m) c') (n + m) (vb (l ++ k)) → Below B w w' → wpList P ops Q rest (ac.put o.dst (.slice a' (n + m) c')) w') : wpList P ops Q (o :: rest) ac w := by
  refine wpList_plain hgd fun K hK => ?_
  obtain ⟨a', c', w', hr, h1, h2⟩ := run_appO (P := P) (w := w) o.type ht hi hz hsize hby hd hs m hm hb hB
  unfold Oper.wp execOp
  simp only [ho, resolve, invoke, builtin, Sem.run_bind, Sem.run_pure, Result.andThen_ok, List.map_toArray, List.map_cons, List.map_nil, hsv, hxv, hr]
  exact hK _ _ (h a' c' w' h1 h2)

theorem own_head {w : World} {B : Nat} {e : TypeId} {a : Option Addr} {n c : Nat} {xs : List Value} (h : w.ownsRow B e 1 (.slice a n c) n xs) (hn : 0 < n) : ∃ g, a = some ⟨g, 0, none⟩ := by
  rcases h.2 with ⟨_, rfl⟩ | ⟨g, cap, cur, hv, _⟩
  · omega
  · simp at hv
    exact ⟨g, hv.1⟩

end Go.Proofs.Ybulkcefq
