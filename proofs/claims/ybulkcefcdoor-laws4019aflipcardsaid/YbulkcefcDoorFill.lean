import Derived.Test.YbulkcefcDoorRev
import Derived.LaidEqlPtr
namespace Go.Proofs.YbulkcefcDoor
open Go.RowKit

structure Fill (B : Nat) (w0 w : World) (n k R1 R2 R3 R4 : Nat) (name : Nat → ByteArray) (cr : Nat → Bool) (sc acc cur : Nat → Nat) : Prop where
  below : Below B w0 w
  o1 : ∃ xs, w.ownsRow B 4 1 (.slice (some ⟨R1, 0, none⟩) n n) n xs
  o2 : ∃ xs, w.ownsRow B 3 1 (.slice (some ⟨R2, 0, none⟩) n n) n xs
  o3 : ∃ xs, w.ownsRow B 28 1 (.slice (some ⟨R3, 0, none⟩) n n) n xs
  o4 : ∃ xs, w.ownsRow B 39 4 (.slice (some ⟨R4, 0, none⟩) n n) n xs
  c1 : ∀ i, i < k → w.cell? ⟨R1, i, none⟩ = some (.bool (cr i))
  c2 : ∀ i, i < k → w.cell? ⟨R2, i, none⟩ = some (.int .i64 (sc i))
  c3 : ∀ i, i < k → w.cell? ⟨R3, i, none⟩ = some (.pointer (some ⟨acc i, 0, none⟩))
  l0 : ∀ i, i < k → w.cell? ⟨R4, i * 4, none⟩ = some (.pointer (some ⟨acc i, 0, none⟩))
  l1 : ∀ i, i < k → w.cell? ⟨R4, i * 4 + 1, none⟩ = some (.bool (cr i))
  l2 : ∀ i, i < k → w.cell? ⟨R4, i * 4 + 2, none⟩ = some (.int .u64 0)
  l3 : ∀ i, i < k → w.cell? ⟨R4, i * 4 + 3, none⟩ = some (.int .u64 0)
  a0 : ∀ i, i < k → w.cell? ⟨acc i, 0, none⟩ = some (.string (name i))
  a3 : ∀ i, i < k → w.cell? ⟨acc i, 3, none⟩ = some (.pointer (some ⟨cur i, 0, none⟩))
  s1 : ∀ i, i < k → w.cell? ⟨cur i, 1, none⟩ = some (.int .i64 (sc i))
  far : ∀ i, i < k → R4 < acc i ∧ R4 < cur i

theorem run_neq_ptr_same {P : Program} (w : World) {tp te : TypeId} {j : TypeInfo} (a : Addr) (hp : P.underlying tp = some (.pointer te)) (hte : P.info? te = some j) :
    (binOp .neq tp (.pointer (some a)) (.pointer (some a))).run P w = .ok (.bool false) w := by
  have h : ∀ d : Nat, (Op.equalIn (d + 1) tp (.pointer (some a)) (.pointer (some a))).run P w = .ok true w := fun d => by
    simp [Op.equalIn, run_underlying hp, sizeOf, typeInfo, hte, run_sameAddr_same]
  simp only [binOp]
  simp [Op.equal, Op.maxDepth, h 9999]

theorem info34 : ∃ j, Ybad.prog.info? 34 = some j := Option.isSome_iff_exists.1 (by kernel_rfl)

theorem ptr_same (w : World) (a : Addr) : (binOp .neq 28 (.pointer (some a)) (.pointer (some a))).run Ybad.prog w = .ok (.bool false) w := by
  obtain ⟨j, hj⟩ := info34
  exact run_neq_ptr_same w a Ybad.underlying28 hj

theorem addr_ne {b o b' o' : Nat} (h : b ≠ b' ∨ o ≠ o') : (⟨b, o, none⟩ : Addr) ≠ ⟨b', o', none⟩ := by
  intro e
  injection e with e1 e2
  omega

theorem set_ne {w : World} {b o b' o' : Nat} {u v : Value} (h : w.cell? ⟨b, o, none⟩ = some v) (hne : b ≠ b' ∨ o ≠ o') : (w.setCell ⟨b', o', none⟩ u).cell? ⟨b, o, none⟩ = some v := by
  rw [World.cell?_setCell_other _ _ _ _ (Ne.symm (addr_ne hne))]
  exact h

theorem own_set {w : World} {B : Nat} {e : TypeId} {sz g n : Nat} {xs : List Value} (h : w.ownsRow B e sz (.slice (some ⟨g, 0, none⟩) n n) n xs) (b j : Nat) (u : Value) :
    ∃ xs', (w.setCell ⟨b, j, none⟩ u).ownsRow B e sz (.slice (some ⟨g, 0, none⟩) n n) n xs' := by
  by_cases hb : b = g
  · subst hb
    exact ⟨_, (h.stored j u).1⟩
  · refine ⟨xs, h.1, ?_⟩
    rcases h.2 with ⟨hv, _⟩ | ⟨g', cap, cur, hv, hB, hg, r⟩
    · cases hv
    · simp at hv
      obtain ⟨rfl, rfl⟩ := hv
      exact .inr ⟨g, n, cur, rfl, hB, by rw [Below.heap_setCell _ _ _ _ (fun e => hb e.symm)]; exact hg, r⟩

def V7 (wr : World) (R1 R2 R3 R4 k : Nat) (c : Bool) (s : Int) : World :=
  ((((((wr.setCell ⟨R1, k, none⟩ (.bool c)).setCell ⟨R2, k, none⟩ (.int .i64 s)).setCell ⟨R3, k, none⟩ (.pointer (some ⟨wr.heap.size + 1, 0, none⟩))).setCell ⟨R4, k * 4, none⟩ (.pointer (some ⟨wr.heap.size + 1, 0, none⟩))).setCell ⟨R4, k * 4 + 1, none⟩ (.bool c)).setCell ⟨R4, k * 4 + 2, none⟩ (.int .u64 0)).setCell ⟨R4, k * 4 + 3, none⟩ (.int .u64 0)

theorem V7_size (wr : World) (R1 R2 R3 R4 k : Nat) (c : Bool) (s : Int) : (V7 wr R1 R2 R3 R4 k c s).heap.size = wr.heap.size := by simp [V7, World.setCell]

theorem V7_keep {wr : World} {R1 R2 R3 R4 k : Nat} {c : Bool} {s : Int} {b o : Nat} {v : Value} (h : wr.cell? ⟨b, o, none⟩ = some v) (h1 : b ≠ R1 ∨ o ≠ k) (h2 : b ≠ R2 ∨ o ≠ k) (h3 : b ≠ R3 ∨ o ≠ k) (h4 : b ≠ R4 ∨ o < k * 4 ∨ k * 4 + 3 < o) :
    (V7 wr R1 R2 R3 R4 k c s).cell? ⟨b, o, none⟩ = some v := by
  unfold V7
  exact set_ne (set_ne (set_ne (set_ne (set_ne (set_ne (set_ne h h1) h2) h3) (by omega)) (by omega)) (by omega)) (by omega)

theorem V7_own {wr : World} {R1 R2 R3 R4 k : Nat} {c : Bool} {s : Int} {B : Nat} {e : TypeId} {sz g n : Nat} (h : ∃ xs, wr.ownsRow B e sz (.slice (some ⟨g, 0, none⟩) n n) n xs) : ∃ xs, (V7 wr R1 R2 R3 R4 k c s).ownsRow B e sz (.slice (some ⟨g, 0, none⟩) n n) n xs := by
  obtain ⟨x0, h⟩ := h
  obtain ⟨x1, h⟩ := own_set h R1 k (.bool c)
  obtain ⟨x2, h⟩ := own_set h R2 k (.int .i64 s)
  obtain ⟨x3, h⟩ := own_set h R3 k (.pointer (some ⟨wr.heap.size + 1, 0, none⟩))
  obtain ⟨x4, h⟩ := own_set h R4 (k * 4) (.pointer (some ⟨wr.heap.size + 1, 0, none⟩))
  obtain ⟨x5, h⟩ := own_set h R4 (k * 4 + 1) (.bool c)
  obtain ⟨x6, h⟩ := own_set h R4 (k * 4 + 2) (.int .u64 0)
  obtain ⟨x7, h⟩ := own_set h R4 (k * 4 + 3) (.int .u64 0)
  exact ⟨x7, h⟩

theorem row_cellN {w : World} {B : Nat} {e : TypeId} {sz g n : Nat} (h : ∃ xs, w.ownsRow B e sz (.slice (some ⟨g, 0, none⟩) n n) n xs) (j : Nat) (hj : j < n * sz) : ∃ v, w.cell? ⟨g, j, none⟩ = some v := by
  obtain ⟨xs, h⟩ := h
  rw [h.cellAt j hj]
  have := h.1
  exact ⟨_, List.getElem?_eq_getElem (by omega)⟩

theorem V7_new {wr : World} {B n R1 R2 R3 R4 k : Nat} {c : Bool} {s : Int} (hk : k < n) (h12 : R1 < R2) (h23 : R2 < R3) (h34 : R3 < R4)
    (o1 : ∃ xs, wr.ownsRow B 4 1 (.slice (some ⟨R1, 0, none⟩) n n) n xs) (o2 : ∃ xs, wr.ownsRow B 3 1 (.slice (some ⟨R2, 0, none⟩) n n) n xs) (o3 : ∃ xs, wr.ownsRow B 28 1 (.slice (some ⟨R3, 0, none⟩) n n) n xs) (o4 : ∃ xs, wr.ownsRow B 39 4 (.slice (some ⟨R4, 0, none⟩) n n) n xs) :
    (V7 wr R1 R2 R3 R4 k c s).cell? ⟨R1, k, none⟩ = some (.bool c) ∧ (V7 wr R1 R2 R3 R4 k c s).cell? ⟨R2, k, none⟩ = some (.int .i64 s) ∧ (V7 wr R1 R2 R3 R4 k c s).cell? ⟨R3, k, none⟩ = some (.pointer (some ⟨wr.heap.size + 1, 0, none⟩)) ∧
    (V7 wr R1 R2 R3 R4 k c s).cell? ⟨R4, k * 4, none⟩ = some (.pointer (some ⟨wr.heap.size + 1, 0, none⟩)) ∧ (V7 wr R1 R2 R3 R4 k c s).cell? ⟨R4, k * 4 + 1, none⟩ = some (.bool c) ∧ (V7 wr R1 R2 R3 R4 k c s).cell? ⟨R4, k * 4 + 2, none⟩ = some (.int .u64 0) ∧
    (V7 wr R1 R2 R3 R4 k c s).cell? ⟨R4, k * 4 + 3, none⟩ = some (.int .u64 0) := by
  obtain ⟨v1, d1⟩ := row_cellN o1 k (by omega)
  obtain ⟨v2, d2⟩ := row_cellN o2 k (by omega)
  obtain ⟨v3, d3⟩ := row_cellN o3 k (by omega)
  obtain ⟨y0, e0⟩ := row_cellN o4 (k * 4) (by omega)
  obtain ⟨y1, e1⟩ := row_cellN o4 (k * 4 + 1) (by omega)
  obtain ⟨y2, e2⟩ := row_cellN o4 (k * 4 + 2) (by omega)
  obtain ⟨y3, e3⟩ := row_cellN o4 (k * 4 + 3) (by omega)
  unfold V7
  refine ⟨?_, ?_, ?_, ?_, ?_, ?_, ?_⟩
  · exact set_ne (set_ne (set_ne (set_ne (set_ne (set_ne (World.cell?_setCell_same wr _ _ d1) (by omega)) (by omega)) (by omega)) (by omega)) (by omega)) (by omega)
  · exact set_ne (set_ne (set_ne (set_ne (set_ne (World.cell?_setCell_same _ _ _ (set_ne d2 (by omega))) (by omega)) (by omega)) (by omega)) (by omega)) (by omega)
  · exact set_ne (set_ne (set_ne (set_ne (World.cell?_setCell_same _ _ _ (set_ne (set_ne d3 (by omega)) (by omega))) (by omega)) (by omega)) (by omega)) (by omega)
  · exact set_ne (set_ne (set_ne (World.cell?_setCell_same _ _ _ (set_ne (set_ne (set_ne e0 (by omega)) (by omega)) (by omega))) (by omega)) (by omega)) (by omega)
  · exact set_ne (set_ne (World.cell?_setCell_same _ _ _ (set_ne (set_ne (set_ne (set_ne e1 (by omega)) (by omega)) (by omega)) (by omega))) (by omega)) (by omega)
  · exact set_ne (World.cell?_setCell_same _ _ _ (set_ne (set_ne (set_ne (set_ne (set_ne e2 (by omega)) (by omega)) (by omega)) (by omega)) (by omega))) (by omega)
  · exact World.cell?_setCell_same _ _ _ (set_ne (set_ne (set_ne (set_ne (set_ne (set_ne e3 (by omega)) (by omega)) (by omega)) (by omega)) (by omega)) (by omega))

def fillWorld (wr : World) (R1 R2 R3 R4 k : Nat) (c : Bool) (s : Int) (nm : ByteArray) : World :=
  ((V7 wr R1 R2 R3 R4 k c s).alloc (.cells #[.string ⟨#[85, 83, 68]⟩, .int .i64 s] 31)).alloc (.cells #[.string nm, .string ⟨#[]⟩, .bool false, .pointer (some ⟨wr.heap.size, 0, none⟩), .int .i64 0] 34)

theorem fill_old {wr : World} {R1 R2 R3 R4 k : Nat} {c : Bool} {s : Int} {nm : ByteArray} {a : Addr} {v : Value} (h : (V7 wr R1 R2 R3 R4 k c s).cell? a = some v) : (fillWorld wr R1 R2 R3 R4 k c s nm).cell? a = some v :=
  cell_later (((Below.refl _ _).alloc (Nat.le_refl _) _).alloc (by simp) _) h

theorem fill_size (wr : World) (R1 R2 R3 R4 k : Nat) (c : Bool) (s : Int) (nm : ByteArray) : (fillWorld wr R1 R2 R3 R4 k c s nm).heap.size = wr.heap.size + 2 := by
  simp [fillWorld, V7_size]

theorem fill_lt {wr : World} {R1 R2 R3 R4 k : Nat} {c : Bool} {s : Int} {nm : ByteArray} (h : R4 < wr.heap.size) : R4 < (fillWorld wr R1 R2 R3 R4 k c s nm).heap.size := by
  rw [fill_size]; omega

theorem fill_new (wr : World) (R1 R2 R3 R4 k : Nat) (c : Bool) (s : Int) (nm : ByteArray) :
    (fillWorld wr R1 R2 R3 R4 k c s nm).cell? ⟨wr.heap.size + 1, 0, none⟩ = some (.string nm) ∧ (fillWorld wr R1 R2 R3 R4 k c s nm).cell? ⟨wr.heap.size + 1, 3, none⟩ = some (.pointer (some ⟨wr.heap.size, 0, none⟩)) ∧
    (fillWorld wr R1 R2 R3 R4 k c s nm).cell? ⟨wr.heap.size, 1, none⟩ = some (.int .i64 s) := by
  have hz := V7_size wr R1 R2 R3 R4 k c s
  unfold fillWorld
  refine ⟨?_, ?_, ?_⟩
  · rw [World.cell?_alloc_at _ _ _ _ (by simp [hz])]; rfl
  · rw [World.cell?_alloc_at _ _ _ _ (by simp [hz])]; rfl
  · rw [World.cell?_alloc_past _ _ _ (by simp [hz]), World.cell?_alloc_at _ _ _ _ hz.symm]; rfl

theorem fill_step {B : Nat} {w0 wr : World} {n k R1 R2 R3 R4 : Nat} {name : Nat → ByteArray} {cr : Nat → Bool} {sc acc cur : Nat → Nat} (hF : Fill B w0 wr n k R1 R2 R3 R4 name cr sc acc cur)
    (hk : k < n) (hB : B ≤ R1) (h12 : R1 < R2) (h23 : R2 < R3) (h34 : R3 < R4) (h4 : R4 < wr.heap.size) (c : Bool) (s : Int) (hc : cr k = c) (hs : (sc k : Int) = s) :
    Fill B w0 (fillWorld wr R1 R2 R3 R4 k c s (name k)) n (k + 1) R1 R2 R3 R4 name cr sc (fun i => if i = k then wr.heap.size + 1 else acc i) (fun i => if i = k then wr.heap.size else cur i) := by
  obtain ⟨n1, n2, n3, n4, n5, n6, n7⟩ := V7_new (c := c) (s := s) hk h12 h23 h34 hF.o1 hF.o2 hF.o3 hF.o4
  obtain ⟨m1, m2, m3⟩ := fill_new wr R1 R2 R3 R4 k c s (name k)
  have hz := V7_size wr R1 R2 R3 R4 k c s
  have own : ∀ {e : TypeId} {sz g : Nat}, (∃ xs, wr.ownsRow B e sz (.slice (some ⟨g, 0, none⟩) n n) n xs) → ∃ xs, (fillWorld wr R1 R2 R3 R4 k c s (name k)).ownsRow B e sz (.slice (some ⟨g, 0, none⟩) n n) n xs := fun h => by
    obtain ⟨xs, h⟩ := V7_own (R1 := R1) (R2 := R2) (R3 := R3) (R4 := R4) (k := k) (c := c) (s := s) h
    exact ⟨xs, (h.alloc _).alloc _⟩
  have hbV : Below B w0 (V7 wr R1 R2 R3 R4 k c s) := by
    unfold V7
    exact ((((((hF.below.setCell hB _).setCell (by simp; omega) _).setCell (by simp; omega) _).setCell (by simp; omega) _).setCell (by simp; omega) _).setCell (by simp; omega) _).setCell (by simp; omega) _
  have part : ∀ {p : Nat → Prop} , (∀ i, i < k → p i) → p k → ∀ i, i < k + 1 → p i := fun h0 h1 i hi => by
    by_cases h : i = k
    · subst h; exact h1
    · exact h0 i (by omega)
  refine ⟨(hbV.alloc (by rw [hz]; omega) _).alloc (by simp [hz]; omega) _, own hF.o1, own hF.o2, own hF.o3, own hF.o4, ?_, ?_, ?_, ?_, ?_, ?_, ?_, ?_, ?_, ?_, ?_⟩
  · exact part (fun i hi => fill_old (V7_keep (hF.c1 i hi) (by omega) (by omega) (by omega) (by omega))) (by rw [hc]; exact fill_old n1)
  · exact part (fun i hi => fill_old (V7_keep (hF.c2 i hi) (by omega) (by omega) (by omega) (by omega))) (by rw [hs]; exact fill_old n2)
  · refine part (fun i hi => ?_) ?_
    · simp only [if_neg (show i ≠ k by omega)]
      exact fill_old (V7_keep (hF.c3 i hi) (by omega) (by omega) (by omega) (by omega))
    · simp only [if_true]
      exact fill_old n3
  · refine part (fun i hi => ?_) ?_
    · simp only [if_neg (show i ≠ k by omega)]
      exact fill_old (V7_keep (hF.l0 i hi) (by omega) (by omega) (by omega) (by omega))
    · simp only [if_true]
      exact fill_old n4
  · exact part (fun i hi => fill_old (V7_keep (hF.l1 i hi) (by omega) (by omega) (by omega) (by omega))) (by rw [hc]; exact fill_old n5)
  · exact part (fun i hi => fill_old (V7_keep (hF.l2 i hi) (by omega) (by omega) (by omega) (by omega))) (fill_old n6)
  · exact part (fun i hi => fill_old (V7_keep (hF.l3 i hi) (by omega) (by omega) (by omega) (by omega))) (fill_old n7)
  · refine part (fun i hi => ?_) ?_
    · have := hF.far i hi
      simp only [if_neg (show i ≠ k by omega)]
      exact fill_old (V7_keep (hF.a0 i hi) (by omega) (by omega) (by omega) (by omega))
    · simp only [if_true]
      exact m1
  · refine part (fun i hi => ?_) ?_
    · have := hF.far i hi
      simp only [if_neg (show i ≠ k by omega)]
      exact fill_old (V7_keep (hF.a3 i hi) (by omega) (by omega) (by omega) (by omega))
    · simp only [if_true]
      exact m2
  · refine part (fun i hi => ?_) ?_
    · have := hF.far i hi
      simp only [if_neg (show i ≠ k by omega)]
      exact fill_old (V7_keep (hF.s1 i hi) (by omega) (by omega) (by omega) (by omega))
    · simp only [if_true]
      rw [hs]
      exact m3
  · refine part (fun i hi => ?_) ?_
    · have := hF.far i hi
      simp only [if_neg (show i ≠ k by omega)]
      exact this
    · simp only [if_true]
      omega

theorem Fill.later {B : Nat} {w0 w wx : World} {n k R1 R2 R3 R4 : Nat} {name : Nat → ByteArray} {cr : Nat → Bool} {sc acc cur : Nat → Nat} (h : Fill B w0 w n k R1 R2 R3 R4 name cr sc acc cur) (hb : Below w.heap.size w wx) (hB : B ≤ w.heap.size) : Fill B w0 wx n k R1 R2 R3 R4 name cr sc acc cur := by
  obtain ⟨x1, o1⟩ := h.o1
  obtain ⟨x2, o2⟩ := h.o2
  obtain ⟨x3, o3⟩ := h.o3
  obtain ⟨x4, o4⟩ := h.o4
  exact ⟨h.below.trans (hb.mono hB), ⟨_, own_laterN o1 hb⟩, ⟨_, own_laterN o2 hb⟩, ⟨_, own_laterN o3 hb⟩, ⟨_, own_laterN o4 hb⟩, fun i hi => cell_later hb (h.c1 i hi), fun i hi => cell_later hb (h.c2 i hi), fun i hi => cell_later hb (h.c3 i hi),
    fun i hi => cell_later hb (h.l0 i hi), fun i hi => cell_later hb (h.l1 i hi), fun i hi => cell_later hb (h.l2 i hi), fun i hi => cell_later hb (h.l3 i hi), fun i hi => cell_later hb (h.a0 i hi), fun i hi => cell_later hb (h.a3 i hi), fun i hi => cell_later hb (h.s1 i hi), h.far⟩

theorem ResAt.later {w wx : World} {O : Nat} {ys : List Value} {i : Nat} {nm : ByteArray} {c : Bool} {amt : ByteArray} (h : ResAt w O ys i nm c amt) (hb : Below w.heap.size w wx) : ResAt wx O ys i nm c amt := by
  obtain ⟨p, q, h0, h1, h2, h3, h4, h5, h6⟩ := h
  exact ⟨p, q, h0, h1, h2, cell_later hb h3, cell_later hb h4, h5, h6⟩

theorem laid_of {B : Nat} {w0 wr : World} {n R1 R2 R3 R4 : Nat} {name : Nat → ByteArray} {cr : Nat → Bool} {sc acc cur : Nat → Nat} (hF : Fill B w0 wr n n R1 R2 R3 R4 name cr sc acc cur) (cs : Array Value) (t : TypeId) (h6 : cs[6]? = some (.slice (some ⟨R4, 0, none⟩) n n)) :
    Laid (wr.alloc (.cells cs t)) wr.heap.size R4 n name cr sc acc cur := by
  have hb : Below wr.heap.size wr (wr.alloc (.cells cs t)) := (Below.refl _ _).alloc (Nat.le_refl _) _
  exact ⟨by rw [World.cell?_alloc_at _ _ _ _ rfl]; exact h6, fun i hi => cell_later hb (hF.l0 i hi), fun i hi => cell_later hb (hF.l1 i hi), fun i hi => cell_later hb (hF.l2 i hi), fun i hi => cell_later hb (hF.l3 i hi),
    fun i hi => cell_later hb (hF.a0 i hi), fun i hi => cell_later hb (hF.a3 i hi), fun i hi => cell_later hb (hF.s1 i hi)⟩

structure All (B : Nat) (w0 w : World) (n R1 R2 R3 R4 T O : Nat) (ys : List Value) (name : Nat → ByteArray) (cr : Nat → Bool) (sc acc cur : Nat → Nat) : Prop where
  fill : Fill B w0 w n n R1 R2 R3 R4 name cr sc acc cur
  lines : w.cell? ⟨T, 6, none⟩ = some (.slice (some ⟨R4, 0, none⟩) n n)
  own : ∃ C, w.ownsRow C 49 3 (.slice (some ⟨O, 0, none⟩) n n) n ys
  res : ∀ i, i < n → ResAt w O ys i (name i) (cr i) (amtOf (sc i))
  size : B ≤ w.heap.size

theorem all_of {B C : Nat} {w0 wr w5 : World} {n R1 R2 R3 R4 O : Nat} {ys : List Value} {name : Nat → ByteArray} {cr : Nat → Bool} {sc acc cur : Nat → Nat} (hF : Fill B w0 wr n n R1 R2 R3 R4 name cr sc acc cur) {cs : Array Value} {t : TypeId}
    (hL : Laid (wr.alloc (.cells cs t)) wr.heap.size R4 n name cr sc acc cur) (hb : Below (wr.alloc (.cells cs t)).heap.size (wr.alloc (.cells cs t)) w5) (ho : w5.ownsRow C 49 3 (.slice (some ⟨O, 0, none⟩) n n) n ys)
    (hr : ∀ i, i < n → ResAt w5 O ys i (name i) (cr i) (amtOf (sc i))) (hB : B ≤ wr.heap.size) : All B w0 w5 n R1 R2 R3 R4 wr.heap.size O ys name cr sc acc cur := by
  have hb1 : Below wr.heap.size wr w5 := ((Below.refl _ _).alloc (Nat.le_refl _) _).trans (hb.mono (by simp))
  exact ⟨hF.later hb1 hB, cell_later hb hL.lines, ⟨_, ho⟩, hr, Nat.le_trans hB hb1.size⟩

theorem All.later {B : Nat} {w0 w wx : World} {n R1 R2 R3 R4 T O : Nat} {ys : List Value} {name : Nat → ByteArray} {cr : Nat → Bool} {sc acc cur : Nat → Nat} (h : All B w0 w n R1 R2 R3 R4 T O ys name cr sc acc cur) (hb : Below w.heap.size w wx) : All B w0 wx n R1 R2 R3 R4 T O ys name cr sc acc cur := by
  obtain ⟨C, ho⟩ := h.own
  exact ⟨h.fill.later hb h.size, cell_later hb h.lines, ⟨C, own_laterN ho hb⟩, fun i hi => (h.res i hi).later hb, Nat.le_trans h.size hb.size⟩

theorem All.at {B : Nat} {w0 w : World} {n R1 R2 R3 R4 T O : Nat} {ys : List Value} {name : Nat → ByteArray} {cr : Nat → Bool} {sc acc cur : Nat → Nat} (h : All B w0 w n R1 R2 R3 R4 T O ys name cr sc acc cur) (k : Nat) (hk : k < n) :
    ∃ p q, w.cell? ⟨O, k * 3, none⟩ = some (.pointer (some ⟨p, 0, none⟩)) ∧ w.cell? ⟨O, k * 3 + 1, none⟩ = some (.pointer (if cr k then some ⟨q, 0, none⟩ else none)) ∧ w.cell? ⟨O, k * 3 + 2, none⟩ = some (.pointer (if cr k then none else some ⟨q, 0, none⟩)) ∧
      w.cell? ⟨p, 0, none⟩ = some (.string (name k)) ∧ w.cell? ⟨q, 0, none⟩ = some (.string (amtOf (sc k))) := by
  obtain ⟨C, ho⟩ := h.own
  obtain ⟨p, q, h0, h1, h2, h3, h4, _, _⟩ := h.res k hk
  exact ⟨p, q, by rw [ho.cellAt _ (by omega)]; exact h0, by rw [ho.cellAt _ (by omega)]; exact h1, by rw [ho.cellAt _ (by omega)]; exact h2, h3, h4⟩
end Go.Proofs.YbulkcefcDoor
