import Derived.Test.YbulkcefcDoorDec
import Derived.Lib.MakeNoZero
import Derived.Laws.Externs
namespace Go.Proofs.YbulkcefcDoor
open Go.RowKit

theorem and32 (n : Nat) (h : n < 4294967296) : bits .and .u64 (n : Int) 4294967295 = (n : Int) := by
  have h2 := u64_and_nat n 4294967295 (by omega) (by decide)
  rw [show (4294967295 : Int) = ((4294967295 : Nat) : Int) from rfl, h2]
  congr 1
  have := Nat.and_two_pow_sub_one_eq_mod n 32
  simp at this
  rw [this]
  omega

set_option maxRecDepth 100000 in
set_option maxHeartbeats 400000 in
theorem mul64_one (n : Nat) (w : World) (hn : n ≤ 1000) :
    Calls Ybad.prog 20 #[.int .u64 1, .int .u64 n] w fun e w' => e = .returned (.tuple #[.int .u64 0, .int .u64 n]) ∧ w' = w := by
  have h1 : bits .and .u64 (n : Int) 4294967295 = (n : Int) := and32 n (by omega)
  have h2 : bits .and .u64 1 4294967295 = 1 := by decide
  have h3 : (n : Int) / 4294967296 = 0 := by omega
  have h4 : bits .and .u64 0 4294967295 = 0 := by decide
  go_enter Ybad.func20, Ybad.ntmps20
  go_wp2
  go_ret2
  exact ⟨rfl, rfl⟩

set_option maxRecDepth 100000 in
set_option maxHeartbeats 400000 in
theorem mul_one (n : Nat) (w : World) (hn : n ≤ 1000) :
    Calls Ybad.prog 15 #[.int .u64 1, .int .u64 n] w fun e w' => e = .returned (.tuple #[.int .u64 0, .int .u64 n]) ∧ w' = w := by
  go_enter Ybad.func15, Ybad.ntmps15
  go_wp2_with (go_at_call 20; refine (mul64_one _ _ hn).mono ?_; rintro e w' ⟨rfl, rfl⟩)
  go_ret2
  exact ⟨rfl, rfl⟩

theorem cell_row {w : World} {g : Nat} {L : List Value} {t : TypeId} (h : w.heap[g]? = some (.cells L.toArray t (0, 0))) (j : Nat) : w.cell? ⟨g, j, none⟩ = L[j]? := by
  unfold World.cell?
  rw [h]
  simp

theorem row_bcells {w : World} {g k : Nat} {L : List Value} {t : TypeId} {l : List UInt8} (h : w.heap[g]? = some (.cells L.toArray t (0, 0))) (hT : L.take k = vb l) : BCells w (some ⟨g, 0, none⟩) l := by
  refine ⟨fun h => (by cases h), fun ad had j u hj => ?_⟩
  cases had
  have e : ((⟨g, 0, none⟩ : Addr).add j) = ⟨g, j, none⟩ := by
    simp [Addr.add]
    intro h0
    exact h0.symm
  rw [e, cell_row h]
  have hj2 := hj
  rw [← hT] at hj
  have hjk : j < k := by
    have := (List.getElem?_eq_some_iff.1 hj).1
    simp at this
    omega
  rw [List.getElem?_take_of_lt hjk] at hj
  exact hj

theorem bcells_le {w : World} {a : Option Addr} {c : UInt8} {k m : Nat} (h : BCells w a (List.replicate k c)) (hm : m ≤ k) (hk : 0 < k) : BCells w a (List.replicate m c) := by
  refine ⟨fun ha => ?_, fun ad had j u hj => h.2 ad had j u ?_⟩
  · have := h.1 ha
    have := congrArg List.length this
    simp at this
    omega
  · obtain ⟨hj1, rfl⟩ := vb_get hj
    have hj2 : j < m := by simpa using hj1
    have e1 : (List.replicate m c)[j] = c := by simp
    rw [e1]
    unfold vb
    rw [List.getElem?_map, List.getElem?_replicate, if_pos (by omega)]
    rfl

theorem splice_rep {L : List Value} {k m : Nat} {c : UInt8} (hT : L.take k = vb (List.replicate k c)) : (splice L k (vb (List.replicate m c))).take (k + m) = vb (List.replicate (k + m) c) := by
  unfold splice
  rw [hT, ← List.append_assoc, List.take_append_of_le_length (by simp [vb]), List.take_of_length_le (by simp [vb]), ← vb_append, List.replicate_append_replicate]

theorem hsz5 : (Ybad.prog.info? 5).map (·.size) = some 1 := by kernel_rfl

set_option maxRecDepth 100000 in
set_option maxHeartbeats 1000000 in
theorem repeat_any (b n : Nat) (w : World) (h1 : 1 ≤ n) (hn : n ≤ 1000) (hc : w.cell? ⟨b, 0, none⟩ = some (.int .u8 48)) :
    Calls Ybad.prog 11 #[.slice (some ⟨b, 0, none⟩) 1 1, .int .i64 n] w fun e w' => ∃ g, e = .returned (.slice (some ⟨g, 0, none⟩) n n) ∧ BCells w' (some ⟨g, 0, none⟩) (List.replicate n 48) ∧ Below w.heap.size w w' := by
  obtain ⟨cs, hrun, hle, hmax⟩ := Lib.run_makeNoZero (P := Ybad.prog) w #[3] 24 5 Ybad.underlying24 n (by omega)
  have hcall : (callFunc 16 #[.int .i64 n]).run Ybad.prog w = .ok (.value (.slice (some ⟨w.heap.size, 0, none⟩) n cs.size)) (w.drew.drew.alloc (.cells cs 5)) := by
    rw [run_callFunc_extern Ybad.func16 (by kernel_rfl) (by kernel_rfl) (by kernel_rfl) (e := Extern.BytealgMakeNoZero.makeNoZero #[3] #[24]) (by kernel_rfl), hrun]
    rfl
  have hn0 : ((n : Int) == 0) = false := by rw [beq_eq_false_iff_ne]; omega
  go_enter Ybad.func11, Ybad.ntmps11
  have hbc : Below w.heap.size w (w.alloc (.cells cs 5)).drew.drew := ((Below.refl _ _).alloc (Nat.le_refl _) _).drew.drew
  go_wp2_with (first
    | (go_at_call 15; refine (mul_one _ _ hn).mono ?_; rintro e w' ⟨rfl, hw'⟩; obtain rfl := hw'.symm)
    | (refine wpList_copy_splice rfl (.tmp 58) (.tmp 59) 24 24 rfl 5 Ybad.underlying24 hsz5 _ _ _ _ _ _ rfl rfl w.heap.size 0 cs.toList 5 ?hg [.int .u8 48] ?hn ?hpos ?hfit ?h1 w.heap.size w ?hb (Nat.le_refl _) ?_))
  case hg =>
    show (w.alloc (.cells cs 5)).heap[w.heap.size]? = _
    rw [heap_alloc_new]
  case hn => show 1 = min 1 n; omega
  case hpos =>
    intro j v hj
    match j, hj with
    | 0, hj => simp at hj; subst hj; exact cell_later ((Below.refl _ _).alloc (Nat.le_refl _) _) hc
  case hfit => simp; omega
  case h1 => intro v hv; simp at hv; subst hv; rfl
  case hb => exact hbc
  intro w3 HG hb3
  clear hcall hrun hbc
  go_wp2
  go_loopw [10] (fun bp wr => ∃ (k : Nat) (L : List Value), 1 ≤ k ∧ k ≤ n ∧ bp = .int .i64 k ∧ Hid (L.length = cs.size) ∧ Hid (wr.heap[w.heap.size]? = some (.cells L.toArray 5 (0, 0))) ∧ Hid (L.take k = vb (List.replicate k 48)) ∧ Below w.heap.size w wr) (fun bp _ => n - (intOf bp).toNat)
  case atStart => exact ⟨1, splice cs.toList 0 [.int .u8 48], Nat.le_refl _, h1, rfl, hide (by rw [length_splice _ _ _ (by simp; omega)]; simp), HG, hide (by simp [splice, vb]), hb3⟩
  case round =>
    clear HG hb3
    obtain ⟨k, L, hk1, hkn, rfl, HL, HG, HT, hb⟩ := hrel
    by_cases hlt : k < n
    · have hmin : min (k : Int) (n : Int) = k := by omega
      obtain ⟨m, hm⟩ : ∃ m : Nat, m = min k (n - k) := ⟨_, rfl⟩
      have HM := hide hm
      have hm1 : 1 ≤ m := by omega
      have hm2 : m ≤ k := by omega
      have hm3 : k + m ≤ n := by omega
      clear hm
      have hsrc : BCells wr.drew (some ⟨w.heap.size, 0, none⟩) (List.replicate m 48) := bcells_le (row_bcells (w := wr.drew) (unhide HG) (unhide HT)) hm2 hk1
      have hlv : (vb (List.replicate m 48)).length = m := by simp [vb]
      have hfit : k + (vb (List.replicate m 48)).length ≤ L.length := by rw [hlv, unhide HL]; omega
      have HS := hide (splice_rep (m := m) (unhide HT))
      have HLS := hide ((length_splice L k (vb (List.replicate m 48)) hfit).trans (unhide HL))
      have hc := hsrc.2 _ rfl
      have hone := vb_one (List.replicate m 48)
      generalize vb (List.replicate m 48) = V at *
      have hwr : IntKind.i64.wrap ((k : Int) + (m : Int)) = (k : Int) + (m : Int) := by rw [IntKind.wrap_i64]; omega
      go_wp2
      go_region_law (refine step_copy_splice rfl (.tmp 70) (.tmp 73) 24 24 rfl 5 Ybad.underlying24 hsz5 (some ⟨w.heap.size, k, none⟩) (some ⟨w.heap.size, 0, none⟩) (n - k) (n - k) k n (by simp [Act.eval, Act.put]; omega) (by simp [Act.eval, Act.put]) w.heap.size k L 5 (show wr.drew.heap[_]? = _ from unhide HG) V (by rw [hlv, unhide HM]) (fun _ => ⟨rfl, _, rfl, hc⟩) hfit hone w.heap.size w hb.drew (Nat.le_refl _) ?_; intro w4 HG4 hb4)
      go_wp2
      go_roundw
      case rel => exact ⟨k + m, by omega, by omega, by omega, splice L k V, HLS, HG4, HS⟩
      case measure => simp [intOf]; omega
    · have hkn' : k = n := by omega
      subst hkn'
      go_wp2
      go_ret
      exact ⟨w.heap.size, rfl, row_bcells (unhide HG) (unhide HT), hb⟩
end Go.Proofs.YbulkcefcDoor
