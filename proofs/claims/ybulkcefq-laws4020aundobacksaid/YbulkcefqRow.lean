import Derived.Test.YbulkcefqKit
import Derived.Test.YbulkcefqRows
import Derived.RegionTactic
import Derived.BigRegion
namespace Go.Proofs.Ybulkcefq
open Go.RowKit

theorem Yba.info3 : (Yba.prog.info? 3).map (fun i => (i.zero, i.size, i.bytes)) = some (some (.int .i64 0), 1, 8) := by kernel_rfl
theorem Yba.z5 : ((Yba.prog.info? 5).map (fun i => (i.zero.isSome, i.bytes))) = some (true, 1) := by kernel_rfl
theorem Yba.z43 : ((Yba.prog.info? 43).map (fun i => (i.zero.isSome, i.bytes))) = some (true, 24) := by kernel_rfl
theorem Yba.z45 : ((Yba.prog.info? 45).map (fun i => (i.zero.isSome, i.bytes))) = some (true, 24) := by kernel_rfl
theorem hsz3 : (Yba.prog.info? 3).map (·.size) = some 1 := by kernel_rfl

def vi (l : List Int) : List Value := l.map (fun z => Value.int .i64 z)

theorem vi_length (l : List Int) : (vi l).length = l.length := by simp [vi]
theorem vi_append (l m : List Int) : vi (l ++ m) = vi l ++ vi m := by simp [vi]
theorem vi_one (l : List Int) : ∀ u ∈ vi l, u.oneCell' = true := by
  intro u hu
  simp only [vi, List.mem_map] at hu
  obtain ⟨b, _, rfl⟩ := hu
  rfl

def ICells (w : World) (a : Option Addr) (l : List Int) : Prop :=
  (a = none → l = []) ∧ ∀ ad, a = some ad → ∀ j u, (vi l)[j]? = some u → w.cell? (ad.add j) = some u

theorem icells_later {w wx : World} {a : Option Addr} {l : List Int} (h : ICells w a l) (hb : Below w.heap.size w wx) : ICells wx a l :=
  ⟨h.1, fun ad had j u hj => cell_later hb (h.2 ad had j u hj)⟩

theorem isRow_i64 {w : World} {a : Option Addr} {len cap : Nat} {zs : List Int} (h : IsRow .i64 w a len cap zs) :
    ∃ l : List Int, l.length = len ∧ ICells w a l ∧ (a = none → len = 0 ∧ cap = 0) ∧ len ≤ cap ∧ ∀ z ∈ l, (Lit.int .i64 z).wf = true := by
  rcases h with ⟨rfl, rfl, rfl, rfl⟩ | ⟨x, rfl, h1, h2, h3, h4, h5⟩
  · exact ⟨[], rfl, ⟨fun _ => rfl, fun ad h => by cases h⟩, fun _ => ⟨rfl, rfl⟩, Nat.le_refl _, fun z hz => by cases hz⟩
  · refine ⟨zs.take len, by simp; omega, ⟨(fun h => by cases h), fun ad had j u hj => ?_⟩, (fun h => by cases h), h1, fun z hz => h5 z (List.mem_of_mem_take hz)⟩
    cases had
    simp only [vi, List.getElem?_map, Option.map_eq_some_iff] at hj
    obtain ⟨z, hz, rfl⟩ := hj
    have hjl : j < len := by
      rcases Nat.lt_or_ge j len with h | h
      · exact h
      · rw [List.getElem?_eq_none (by simp; omega)] at hz
        cases hz
    rw [List.getElem?_take_of_lt hjl] at hz
    rw [h4 j (by omega)]
    simp [List.getD, hz]

theorem made_vi {w : World} {g n : Nat} {l : List Int} (hl : l.length = n) (hn : n ≤ maxLen) {B : Nat} (hB : B ≤ g) {cur : List Value} (hcur : cur.length = n) (hg : w.heap[g]? = some (.cells (splice cur 0 (vi l)).toArray 3 (0, 0))) :
    w.ownsRow B 3 1 (.slice (some ⟨g, 0, none⟩) n n) n (vi l) := by
  have hs : splice cur 0 (vi l) = vi l := by
    unfold splice
    rw [List.drop_eq_nil_of_le (by rw [vi_length]; omega)]
    simp
  rw [hs] at hg
  refine ⟨by rw [vi_length]; omega, .inr ⟨g, n, _, rfl, hB, hg, Nat.le_refl _, hn, by simp [vi_length]; omega, ?_⟩⟩
  have : n * 1 = (vi l).length := by rw [vi_length]; omega
  rw [this]
  simp

theorem wpList_copyI {P : Program} (w : World) {ops : Array Oper} {rest : List Oper} {o : Oper} {ac : Act} {Q : Exit → Act → World → Prop} (hgd : o.guard = none) (d s : Operand) (t : TypeId)
    (ho : o.op = .call { callee := .builtin .copy, args := #[d, s], argTypes := #[t, t] }) (ht : P.underlying t = some (.slice 3)) (hsz : (P.info? 3).map (·.size) = some 1)
    (B g n : Nat) (xs : List Value) (hd : ac.eval d = .slice (some ⟨g, 0, none⟩) n n) (hown : w.ownsRow B 3 1 (.slice (some ⟨g, 0, none⟩) n n) n xs)
    (a : Option Addr) (c : Nat) (l : List Int) (hs : ac.eval s = .slice a n c) (hc : ICells w a l) (hl : l.length = n)
    (h : ∀ w', w'.ownsRow B 3 1 (.slice (some ⟨g, 0, none⟩) n n) n (vi l) → Below B w w' → wpList P ops Q rest (ac.put o.dst (goInt n)) w') : wpList P ops Q (o :: rest) ac w := by
  rcases hown.2 with ⟨hv, _⟩ | ⟨g', cap, cur, hv, hBg, hg, h1, h2, h3, h4⟩
  · cases hv
  · simp at hv
    obtain ⟨rfl, rfl⟩ := hv
    have hvl := vi_length l
    refine wpList_copy_splice hgd d s t t ho 3 ht hsz _ a n n n c hd hs g 0 cur.toList 3 (by simpa using hg) (vi l) (by rw [hvl, hl]; simp) (fun hp => ⟨rfl, ?_⟩) (by simp [hvl]; omega) (vi_one l) B w (Below.refl _ _) hBg ?_
    · cases a with
      | none => have := hc.1 rfl; subst this; simp [vi] at hp
      | some ad => exact ⟨ad, rfl, hc.2 ad rfl⟩
    · intro w' HG hb
      rw [hvl, hl]
      exact h w' (made_vi hl h2 hBg (by simpa using h3) HG.out) hb

theorem make_eq {P : Program} {t e : TypeId} {bytes : Nat} (ht : P.underlying t = some (.slice e)) (hinfo : (P.info? e).map (fun i => (i.zero.isSome, i.bytes)) = some (true, bytes)) (n : Nat) (hb : bytes * n ≤ 281474976710656) (h63 : n ≤ 9223372036854775807) :
    ∃ cs : Array Value, ∀ w : World, (Instr.makeSlice t (.int .i64 (n : Int)) (.int .i64 (n : Int))).run P w = .ok (.slice (some ⟨w.heap.size, 0, none⟩) n n) (w.alloc (.cells cs e)) := by
  obtain ⟨i, hi, hzz⟩ := Option.map_eq_some_iff.1 hinfo
  simp only [Prod.mk.injEq] at hzz
  obtain ⟨hz, hby⟩ := hzz
  obtain ⟨z, hz⟩ := Option.isSome_iff_exists.1 hz
  refine ⟨madeCells z.cells (n * i.size), fun w => ?_⟩
  have hb' : (i.bytes : Int) * (n : Int) ≤ 281474976710656 := by
    have h : ((i.bytes * n : Nat) : Int) ≤ 281474976710656 := by rw [hby]; omega
    rwa [Int.natCast_mul] at h
  have hr := run_make (P := P) w t e i z ht hi hz .i64 .i64 n n (by omega) (Int.le_refl _) hb' (by omega)
  simp only [Int.toNat_natCast] at hr
  exact hr

def UH (w : World) (U b n s : Nat) (x y z : Addr) (und : Bool) (k0 s0 : Int) (v : Value) : Prop :=
  w.heap[U]? = some (.cells #[.int .i64 8, .int .i64 0, .int .i64 1, .slice (some x) b b, .slice (some y) n n, .slice none 0 0, .slice none 0 0, .bool und, .int .i64 k0, .int .i64 s0, .slice (some z) s s, v] 35)

theorem uh_at (w : World) (o1 o2 o3 : Obj) (b n s : Nat) (x y z : Addr) (und : Bool) (k0 s0 : Int) (v : Value) (U : Nat) (hU : U = w.heap.size + 1 + 1 + 1) :
    UH ((((w.alloc o1).alloc o2).alloc o3).alloc (.cells #[.int .i64 8, .int .i64 0, .int .i64 1, .slice (some x) b b, .slice (some y) n n, .slice none 0 0, .slice none 0 0, .bool und, .int .i64 k0, .int .i64 s0, .slice (some z) s s, v] 35)).drew U b n s x y z und k0 s0 v := by
  subst hU
  have h (w : World) (o : Obj) (k : Nat) (hk : k = w.heap.size) : (w.alloc o).drew.heap[k]? = some o := by
    subst hk
    show (w.heap.push o)[w.heap.size]? = some o
    simp
  exact h _ _ _ (by simp)

theorem below4 (w : World) (o1 o2 o3 o4 : Obj) : Below w.heap.size w ((((w.alloc o1).alloc o2).alloc o3).alloc o4).drew :=
  (((((Below.refl _ _).alloc (Nat.le_refl _) _).alloc (by simp) _).alloc (by simp; omega) _).alloc (by simp; omega) _).drew

theorem own4 {w : World} {B : Nat} {e : TypeId} {v : Value} {n : Nat} {xs : List Value} (h : w.ownsRow B e 1 v n xs) (o1 o2 o3 o4 : Obj) : ((((w.alloc o1).alloc o2).alloc o3).alloc o4).drew.ownsRow B e 1 v n xs :=
  ((((h.alloc o1).alloc o2).alloc o3).alloc o4).drew

end Go.Proofs.Ybulkcefq
