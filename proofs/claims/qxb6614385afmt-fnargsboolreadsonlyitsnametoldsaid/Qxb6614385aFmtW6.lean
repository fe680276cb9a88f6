/-
  Seat b6614385aF: zzAppendStr, zzAppendBool.
-/
import Derived.Test.Qxb6614385aFmtW5
namespace Go.Proofs.Qxb6614385aFmt
open Go.RowKit Go.WideMaps Go.Maps Go.Extern.Stop Go.Stop Go.Extern

theorem idx22 (b off len cap k : Nat) (w : World) (h : k < len) : (Instr.indexAt 22 (.slice (some ⟨b, off, none⟩) len cap) (.int .i64 (k : Int))).run Tryf.prog w = .ok (.pointer (some ⟨b, off + k, none⟩)) w := by
  have h1 : (0 : Int) ≤ (k : Int) ∧ (k : Int) < (len : Int) := ⟨by omega, by omega⟩
  have h2 : (sizeOf 9).run Tryf.prog w = .ok 1 w := by kernel_rfl
  have h3 : Tryf.prog.elem 22 = 9 := by simp [Program.elem, Tryf.underlying22]
  rw [run_indexAt_slice _ _ _ _ _ _ _ (by rw [h3]; exact Tryf.underlying22), if_pos h1, h3, h2]
  simp [Result.andThen, Addr.add]
theorem idx23 (b off len cap k : Nat) (w : World) (h : k < len) : (Instr.indexAt 23 (.slice (some ⟨b, off, none⟩) len cap) (.int .i64 (k : Int))).run Tryf.prog w = .ok (.pointer (some ⟨b, off + k, none⟩)) w := by
  have h1 : (0 : Int) ≤ (k : Int) ∧ (k : Int) < (len : Int) := ⟨by omega, by omega⟩
  have h2 : (sizeOf 4).run Tryf.prog w = .ok 1 w := by kernel_rfl
  have h3 : Tryf.prog.elem 23 = 4 := by simp [Program.elem, Tryf.underlying23]
  rw [run_indexAt_slice _ _ _ _ _ _ _ (by rw [h3]; exact Tryf.underlying23), if_pos h1, h3, h2]
  simp [Result.andThen, Addr.add]

/-- A row that the call owns, as a slice of strings. -/
theorem SV.ofOwn {w : World} {base g n cap : Nat} {ss : List ByteArray} (h : w.ownsRow base 9 1 (.slice (some ⟨g, 0, none⟩) n cap) n (ss.map .string)) (hs : ∀ s ∈ ss, s.size ≤ maxLen) (hn : n ≤ 140737488351232) : SV w (some ⟨g, 0, none⟩) n cap g 0 ss := by
  have hl : ss.length = n := by simpa using h.1
  refine ⟨⟨by simpa using hl, fun k w hk => idx22 g 0 n cap k w hk, fun k v hk => ?_, fun _ => (World.ownsRow.lt h g rfl).2, hn, (fun e => by cases e), fun _ => rfl⟩, hs⟩
  have hkl := (List.getElem?_eq_some_iff.1 hk).1
  rw [List.length_map, hl] at hkl
  rw [Nat.zero_add, World.ownsRow.cellAt h k (by omega)]
  exact hk
theorem BV.ofOwn {w : World} {base g n cap : Nat} {ss : List Bool} (h : w.ownsRow base 4 1 (.slice (some ⟨g, 0, none⟩) n cap) n (ss.map .bool)) (hn : n ≤ 140737488351232) : BV w (some ⟨g, 0, none⟩) n cap g 0 ss := by
  have hl : ss.length = n := by simpa using h.1
  refine ⟨by simpa using hl, fun k w hk => idx23 g 0 n cap k w hk, fun k v hk => ?_, fun _ => (World.ownsRow.lt h g rfl).2, hn, (fun e => by cases e), fun _ => rfl⟩
  have hkl := (List.getElem?_eq_some_iff.1 hk).1
  rw [List.length_map, hl] at hkl
  rw [Nat.zero_add, World.ownsRow.cellAt h k (by omega)]
  exact hk

/-- The first k of vs, then z. -/
def filled (vs : List Value) (z : Value) (n k : Nat) : List Value := vs.take k ++ List.replicate (n - k) z
theorem filled_zero (vs : List Value) (z : Value) (n : Nat) : filled vs z n 0 = List.replicate n z := by simp [filled]
theorem filled_set {vs : List Value} {z : Value} {n k : Nat} (hk : k < vs.length) (hkn : k < n) {v : Value} (hv : vs[k]? = some v) : (filled vs z n k).set k v = filled vs z n (k + 1) := by
  unfold filled
  have e1 : vs.take (k + 1) = vs.take k ++ [v] := by
    rw [List.take_add_one, hv]; rfl
  have e2 : List.replicate (n - k) z = z :: List.replicate (n - (k + 1)) z := by
    rw [← List.replicate_succ]; congr 1; omega
  rw [e1, e2, List.set_append_right _ _ (by simp; omega)]
  have : k - (vs.take k).length = 0 := by simp; omega
  rw [this]
  simp

theorem Tryf.info9 : (Tryf.prog.info? 9).map (fun i => (i.zero, i.size, i.bytes)) = some (some (.string ByteArray.empty), 1, 16) := by kernel_rfl
theorem Tryf.info4 : (Tryf.prog.info? 4).map (fun i => (i.zero, i.size, i.bytes)) = some (some (.bool false), 1, 1) := by kernel_rfl

theorem filled_get {vs : List Value} {z : Value} {n k : Nat} (hk : k < n) (hl : k ≤ vs.length) : (filled vs z n k)[k]? = some z := by
  unfold filled
  rw [List.getElem?_append_right (by simp; omega)]
  have : k - (vs.take k).length = 0 := by simp; omega
  rw [this, List.getElem?_replicate, if_pos (by omega)]
theorem filled_last {vs : List Value} {z v : Value} : (filled vs z (vs.length + 1) vs.length).set vs.length v = vs ++ [v] := by
  unfold filled
  rw [List.take_length, Nat.add_sub_cancel_left, List.set_append_right _ _ (Nat.le_refl _), Nat.sub_self]
  rfl

set_option maxHeartbeats 800000 in
theorem appendStr_any {w : World} {a1 : Option Addr} {n1 c1 b1 off1 : Nat} {ss : List ByteArray} (h1 : SV w a1 n1 c1 b1 off1 ss) (m1 : n1 ≤ 65536) {x : ByteArray} (hx : x.size ≤ maxLen) :
    Calls Tryf.prog 10 #[.slice a1 n1 c1, .string x] w fun e w' => e = .returned (.slice (some ⟨w.heap.size, 0, none⟩) (n1 + 1) (n1 + 1)) ∧ SV w' (some ⟨w.heap.size, 0, none⟩) (n1 + 1) (n1 + 1) w.heap.size 0 (ss ++ [x]) ∧ Below w.heap.size w w' := by
  obtain ⟨i0, hi, hz0, hz1, hz2⟩ := info_parts Tryf.info9
  have i1 := h1.1.idx
  have i2 := fun (k : Nat) (w' : World) (h : k < n1 + 1) => idx22 w.heap.size 0 (n1 + 1) (n1 + 1) k w' h
  simp only [Nat.zero_add] at i2
  have hll : (ss.map Value.string).length = n1 := h1.1.len
  go_enter Tryf.func10, Tryf.ntmps10
  go_wp2_with (first
    | (at_make; refine wpList_make_full _ rfl _ _ 22 rfl w.heap.size 9 i0 (.string ByteArray.empty) 1 Tryf.underlying22 hi hz0 hz1 .i64 .i64 _ _ (n1 + 1) rfl rfl (by omega) (by omega) (by rw [hz2]; omega) (by unfold maxLen; omega) (Nat.le_refl _) ?_; intro w0 hown0 hgrow0))
  go_loopw [6] (fun i wr => ∃ k : Nat, k ≤ n1 ∧ i = .int .i64 k ∧ wr.ownsRow w.heap.size 9 1 (.slice (some ⟨w.heap.size, 0, none⟩) (n1 + 1) (n1 + 1)) (n1 + 1) (filled (ss.map .string) (.string ByteArray.empty) (n1 + 1) k) ∧ Below w.heap.size w wr) (fun i _ => n1 - (intOf i).toNat)
  case atStart =>
    refine ⟨0, Nat.zero_le _, rfl, ?_, (Below.refl _ _).grown hgrow0 (Nat.le_refl _) (fun k h => by cases h)⟩
    rw [filled_zero]
    have e1 : (madeCells (Value.string ByteArray.empty).cells ((n1 + 1) * 1)).toList = List.replicate (n1 + 1) (.string ByteArray.empty) := by
      rw [Nat.mul_one]; exact toList_madeCells_one _ _
    rw [← e1]
    exact hown0
  case round =>
    obtain ⟨k, hkk, rfl, hown, hbk⟩ := hrel
    have hfz := World.ownsRow.frozenAt hown k
    have hoc : wr.cell? ⟨w.heap.size, k, none⟩ = some (.string ByteArray.empty) := by
      rw [World.ownsRow.cellAt hown k (by omega)]; exact filled_get (by omega) (by omega)
    by_cases hlt : k < n1
    · obtain ⟨y, hy⟩ : ∃ y, y = ss.getD k ByteArray.empty := ⟨_, rfl⟩
      have hc : wr.cell? ⟨b1, off1 + k, none⟩ = some (.string y) := by rw [hy]; exact (h1.below hbk).cell k hlt
      obtain ⟨R1, hg1⟩ := World.ownsRow.stored hown k (.string y)
      have R2 : Below w.heap.size w (wr.setCell ⟨w.heap.size, k, none⟩ (.string y)) := hbk.grown hg1 hbk.size (fun j hj => by cases hj; exact Nat.le_refl _)
      have hyv : (ss.map Value.string)[k]? = some (.string y) := by
        rw [List.length_map] at hll
        rw [hy, List.getElem?_map, List.getD, List.getElem?_eq_getElem (by omega)]; rfl
      have R3 : (wr.setCell ⟨w.heap.size, k, none⟩ (.string y)).ownsRow w.heap.size 9 1 (.slice (some ⟨w.heap.size, 0, none⟩) (n1 + 1) (n1 + 1)) (n1 + 1) (filled (ss.map .string) (.string ByteArray.empty) (n1 + 1) (k + 1)) := by
        rw [← filled_set (by omega) (by omega) hyv]; exact R1
      clear R1 hg1 hyv hy
      go_wp2
      go_roundw
      case rel => exact ⟨k + 1, by omega, by go_num, R3, R2⟩
      case measure => simp [intOf]; omega
    · have hkn : k = n1 := by omega
      obtain ⟨R1, hg1⟩ := World.ownsRow.stored hown n1 (.string x)
      have R2 : Below w.heap.size w (wr.setCell ⟨w.heap.size, n1, none⟩ (.string x)) := hbk.grown hg1 hbk.size (fun j hj => by cases hj; exact Nat.le_refl _)
      have R3 : (wr.setCell ⟨w.heap.size, n1, none⟩ (.string x)).ownsRow w.heap.size 9 1 (.slice (some ⟨w.heap.size, 0, none⟩) (n1 + 1) (n1 + 1)) (n1 + 1) ((ss ++ [x]).map .string) := by
        have e1 : (ss ++ [x]).map Value.string = (filled (ss.map .string) (.string ByteArray.empty) (n1 + 1) n1).set n1 (.string x) := by
          rw [← hll, filled_last, List.map_append]; rfl
        rw [e1, ← hkn]
        rw [← hkn] at R1
        exact R1
      rw [hkn] at hoc hfz
      clear hkn R1 hg1
      go_wp2
      go_ret
      exact ⟨rfl, SV.ofOwn R3 (fun s hs => (List.mem_append.1 hs).elim (h1.2 s) (fun h => by rw [List.mem_singleton.1 h]; exact hx)) (by omega), R2⟩

set_option maxHeartbeats 800000 in
theorem appendBool_any {w : World} {a1 : Option Addr} {n1 c1 b1 off1 : Nat} {ss : List Bool} (h1 : BV w a1 n1 c1 b1 off1 ss) (m1 : n1 ≤ 65536) (x : Bool) :
    Calls Tryf.prog 11 #[.slice a1 n1 c1, .bool x] w fun e w' => e = .returned (.slice (some ⟨w.heap.size, 0, none⟩) (n1 + 1) (n1 + 1)) ∧ BV w' (some ⟨w.heap.size, 0, none⟩) (n1 + 1) (n1 + 1) w.heap.size 0 (ss ++ [x]) ∧ Below w.heap.size w w' := by
  obtain ⟨i0, hi, hz0, hz1, hz2⟩ := info_parts Tryf.info4
  have i1 := GV.idx h1
  have i2 := fun (k : Nat) (w' : World) (h : k < n1 + 1) => idx23 w.heap.size 0 (n1 + 1) (n1 + 1) k w' h
  simp only [Nat.zero_add] at i2
  have hll : (ss.map Value.bool).length = n1 := GV.len h1
  go_enter Tryf.func11, Tryf.ntmps11
  go_wp2_with (first
    | (at_make; refine wpList_make_full _ rfl _ _ 23 rfl w.heap.size 4 i0 (.bool false) 1 Tryf.underlying23 hi hz0 hz1 .i64 .i64 _ _ (n1 + 1) rfl rfl (by omega) (by omega) (by rw [hz2]; omega) (by unfold maxLen; omega) (Nat.le_refl _) ?_; intro w0 hown0 hgrow0))
  go_loopw [6] (fun i wr => ∃ k : Nat, k ≤ n1 ∧ i = .int .i64 k ∧ wr.ownsRow w.heap.size 4 1 (.slice (some ⟨w.heap.size, 0, none⟩) (n1 + 1) (n1 + 1)) (n1 + 1) (filled (ss.map .bool) (.bool false) (n1 + 1) k) ∧ Below w.heap.size w wr) (fun i _ => n1 - (intOf i).toNat)
  case atStart =>
    refine ⟨0, Nat.zero_le _, rfl, ?_, (Below.refl _ _).grown hgrow0 (Nat.le_refl _) (fun k h => by cases h)⟩
    rw [filled_zero]
    have e1 : (madeCells (Value.bool false).cells ((n1 + 1) * 1)).toList = List.replicate (n1 + 1) (.bool false) := by
      rw [Nat.mul_one]; exact toList_madeCells_one _ _
    rw [← e1]
    exact hown0
  case round =>
    obtain ⟨k, hkk, rfl, hown, hbk⟩ := hrel
    have hfz := World.ownsRow.frozenAt hown k
    have hoc : wr.cell? ⟨w.heap.size, k, none⟩ = some (.bool false) := by
      rw [World.ownsRow.cellAt hown k (by omega)]; exact filled_get (by omega) (by omega)
    by_cases hlt : k < n1
    · obtain ⟨y, hy⟩ : ∃ y, y = ss.getD k false := ⟨_, rfl⟩
      have hc : wr.cell? ⟨b1, off1 + k, none⟩ = some (.bool y) := by rw [hy]; exact (h1.below hbk).cell k hlt
      obtain ⟨R1, hg1⟩ := World.ownsRow.stored hown k (.bool y)
      have R2 : Below w.heap.size w (wr.setCell ⟨w.heap.size, k, none⟩ (.bool y)) := hbk.grown hg1 hbk.size (fun j hj => by cases hj; exact Nat.le_refl _)
      have hyv : (ss.map Value.bool)[k]? = some (.bool y) := by
        rw [List.length_map] at hll
        rw [hy, List.getElem?_map, List.getD, List.getElem?_eq_getElem (by omega)]; rfl
      have R3 : (wr.setCell ⟨w.heap.size, k, none⟩ (.bool y)).ownsRow w.heap.size 4 1 (.slice (some ⟨w.heap.size, 0, none⟩) (n1 + 1) (n1 + 1)) (n1 + 1) (filled (ss.map .bool) (.bool false) (n1 + 1) (k + 1)) := by
        rw [← filled_set (by omega) (by omega) hyv]; exact R1
      clear R1 hg1 hyv hy
      go_wp2
      go_roundw
      case rel => exact ⟨k + 1, by omega, by go_num, R3, R2⟩
      case measure => simp [intOf]; omega
    · have hkn : k = n1 := by omega
      obtain ⟨R1, hg1⟩ := World.ownsRow.stored hown n1 (.bool x)
      have R2 : Below w.heap.size w (wr.setCell ⟨w.heap.size, n1, none⟩ (.bool x)) := hbk.grown hg1 hbk.size (fun j hj => by cases hj; exact Nat.le_refl _)
      have R3 : (wr.setCell ⟨w.heap.size, n1, none⟩ (.bool x)).ownsRow w.heap.size 4 1 (.slice (some ⟨w.heap.size, 0, none⟩) (n1 + 1) (n1 + 1)) (n1 + 1) ((ss ++ [x]).map .bool) := by
        have e1 : (ss ++ [x]).map Value.bool = (filled (ss.map .bool) (.bool false) (n1 + 1) n1).set n1 (.bool x) := by
          rw [← hll, filled_last, List.map_append]; rfl
        rw [e1, ← hkn]
        rw [← hkn] at R1
        exact R1
      rw [hkn] at hoc hfz
      clear hkn R1 hg1
      go_wp2
      go_ret
      exact ⟨rfl, BV.ofOwn R3 (by omega), R2⟩

end Go.Proofs.Qxb6614385aFmt
