/-
  Seat b6614385aF: the first law's walk.
-/
import Derived.Test.Qxb6614385aFmtW7
import Derived.Deep.OwnRows
import Derived.Laws.CopyOwn
import Derived.Deep.DeepCutAuto
namespace Go.Proofs.Qxb6614385aFmt
open Go.RowKit Go.WideMaps Go.Maps Go.Extern.Stop Go.Stop Go.Extern

theorem neq22 (w : World) (a : Option Addr) (n c : Nat) : (binOp .neq 22 (.slice a n c) (.slice none 0 0)).run Tryf.prog w = .ok (.bool (!a.isNone)) w := run_neq_slice_nil w _ _ a n c Tryf.underlying22
theorem neq23 (w : World) (a : Option Addr) (n c : Nat) : (binOp .neq 23 (.slice a n c) (.slice none 0 0)).run Tryf.prog w = .ok (.bool (!a.isNone)) w := run_neq_slice_nil w _ _ a n c Tryf.underlying23
theorem one9 : (Tryf.prog.info? 9).map (·.size) = some 1 := by kernel_rfl
theorem one4 : (Tryf.prog.info? 4).map (·.size) = some 1 := by kernel_rfl

/-- What the copies leave. -/
structure Copied (t : TypeId) (w wx : World) (n : Nat) (vs : List Value) (s : Value) : Prop where
  ex : ∃ a c b off, s = .slice a n c ∧ GV t wx a n c b off vs
  below : Below w.heap.size w wx

theorem row_list (z : Value) (n : Nat) : (madeCells #[z] n) = (List.replicate n z).toArray := by
  rw [← toList_madeCells_one z n]

theorem splice_all {cs : List Value} {n : Nat} (z : Value) (h : cs.length = n) : splice (List.replicate n z) 0 cs = cs := by
  simp [splice, h]

theorem GV.ofRow {w : World} {t g n : Nat} {vs : List Value} {e : TypeId} (hidx : ∀ (k : Nat) (w : World), k < n → (Instr.indexAt t (.slice (some ⟨g, 0, none⟩) n n) (.int .i64 (k : Int))).run Tryf.prog w = .ok (.pointer (some ⟨g, 0 + k, none⟩)) w)
    (hg : w.heap[g]? = some (.cells vs.toArray e (0, 0))) (hl : vs.length = n) (hn : n ≤ 140737488351232) : GV t w (some ⟨g, 0, none⟩) n n g 0 vs := by
  refine ⟨hl, hidx, fun k v hk => ?_, fun _ => ?_, hn, (fun h => by cases h), fun _ => rfl⟩
  · rw [Nat.zero_add, cell_of_row w g k vs.toArray e (0, 0) hg]
    simpa using hk
  · by_cases h : g < w.heap.size
    · exact h
    · rw [Array.getElem?_eq_none (by omega)] at hg; cases hg

theorem hpos_of {t : TypeId} {w w' : World} {a : Option Addr} {n c b off : Nat} {vs : List Value} (h : GV t w a n c b off vs) (g : Nat) (hb : Below w.heap.size w w') :
    0 < vs.length → (some ⟨g, 0, none⟩ : Option Addr) = some ⟨g, 0, none⟩ ∧ ∃ ad, a = some ad ∧ ∀ j v, vs[j]? = some v → w'.cell? (ad.add j) = some v := by
  intro hp
  refine ⟨rfl, ⟨b, off, none⟩, h.adr (by rw [← h.len]; exact hp), fun j v hj => ?_⟩
  have ea : (⟨b, off, none⟩ : Addr).add j = ⟨b, off + j, none⟩ := by simp [Addr.add]
  rw [ea]
  exact (h.below hb).cell j v hj


theorem oneCell_string (l : List ByteArray) : ∀ v ∈ l.map Value.string, v.oneCell' = true := by
  intro v hv
  obtain ⟨x, _, rfl⟩ := List.mem_map.1 hv
  rfl
theorem oneCell_bool (l : List Bool) : ∀ v ∈ l.map Value.bool, v.oneCell' = true := by
  intro v hv
  obtain ⟨x, _, rfl⟩ := List.mem_map.1 hv
  rfl


theorem argsBool_pq {w : World} {a1 : Option Addr} {n1 c1 b1 off1 : Nat} {bk : List ByteArray} {a2 : Option Addr} { c2 b2 off2 : Nat} {bv : List Bool} {a3 : Option Addr} {n3 c3 b3 off3 : Nat} {sk : List ByteArray} {a4 : Option Addr} { c4 b4 off4 : Nat} {sv : List ByteArray}
    (h1 : SV w a1 n1 c1 b1 off1 bk) (h2 : BV w a2 n1 c2 b2 off2 bv) (h3 : SV w a3 n3 c3 b3 off3 sk) (h4 : SV w a4 n3 c4 b4 off4 sv) (m1 : n1 ≤ 70000) (m3 : n3 ≤ 70000)
    {s : ByteArray} (hs : s.size ≤ maxLen) (F : Interp) (hF : F.answers w.tape) {p q : Bool} (H : Hid (ans (gB bk bv sk n3 n1 s) = (p, q))) :
    Calls Tryf.prog 8 #[.slice a1 n1 c1, .slice a2 n1 c2, .slice a3 n3 c3, .slice a4 n3 c4, .string s] w fun e w' => e = .returned (.tuple #[.bool p, .bool q]) ∧ Below w.heap.size w w' := by
  have h := argsBool_any h1 h2 h3 h4 m1 m3 hs F hF
  rw [H.out] at h
  exact h
theorem model_pq {w : World} {a1 : Option Addr} {n1 c1 b1 off1 : Nat} {bk : List ByteArray} {a2 : Option Addr} {c2 b2 off2 : Nat} {bv : List Bool} {a3 : Option Addr} {n3 c3 b3 off3 : Nat} {sk : List ByteArray}
    (h1 : SV w a1 n1 c1 b1 off1 bk) (h2 : BV w a2 n1 c2 b2 off2 bv) (h3 : SV w a3 n3 c3 b3 off3 sk) (m1 : n1 ≤ 70000) (m3 : n3 ≤ 70000) {s : ByteArray} {p q : Bool} (H : Hid (ans (gB bk bv sk n3 n1 s) = (p, q))) :
    Calls Tryf.prog 9 #[.slice a1 n1 c1, .slice a2 n1 c2, .slice a3 n3 c3, .string s] w fun e w' => e = .returned (.tuple #[.bool p, .bool q]) ∧ w' = w := by
  have h := model_any h1 h2 h3 m1 m3 s
  rw [H.out] at h
  exact h

theorem getD_snoc {α : Type} (l : List α) (x d : α) (n : Nat) (h : l.length = n) : (l ++ [x]).getD n d = x := by
  subst h
  simp [List.getD]
theorem getD_snoc_lt {α : Type} (l : List α) (x d : α) (n : Nat) (h : n < l.length) : (l ++ [x]).getD n d = l.getD n d := by
  simp [List.getD, List.getElem?_append_left h]

theorem put_get {bk : List ByteArray} {bv : List Bool} {sk : List ByteArray} {n1 n3 : Nat} {s : ByteArray} {v : Bool} (e1 : bk.length = n1) (e2 : bv.length = n1) :
    ans (gB (bk ++ [s]) (bv ++ [v]) sk n3 (n1 + 1) s) = (v, false) := by
  refine ans_hit ?_
  rw [lastB, getD_snoc _ _ _ _ e1, if_pos rfl, getD_snoc _ _ _ _ e2]

set_option maxRecDepth 100000 in
set_option maxHeartbeats 3200000 in
theorem law1_main {w : World} {a1 : Option Addr} {n1 c1 b1 off1 : Nat} {bk : List ByteArray} {a2 : Option Addr} { c2 b2 off2 : Nat} {bv : List Bool} {a3 : Option Addr} {n3 c3 b3 off3 : Nat} {sk : List ByteArray} {a4 : Option Addr} { c4 b4 off4 : Nat} {sv : List ByteArray}
    (h1 : SV w a1 n1 c1 b1 off1 bk) (h2 : BV w a2 n1 c2 b2 off2 bv) (h3 : SV w a3 n3 c3 b3 off3 sk) (h4 : SV w a4 n3 c4 b4 off4 sv) (m1 : n1 ≤ 65536) (m3 : n3 ≤ 65536)
    {s : ByteArray} (hs : s.size ≤ 1048576) (v : Bool) (F : Interp) (hF : F.answers w.tape) :
    Calls Tryf.prog 3 #[.slice a1 n1 c1, .slice a2 n1 c2, .slice a3 n3 c3, .slice a4 n3 c4, .string s, .bool v] w fun e w' => e = .returned (.bool true) ∧ Below w.heap.size w w' := by
  obtain ⟨i9, hi9, hz90, hz91, hz92⟩ := info_parts Tryf.info9
  obtain ⟨i4, hi4, hz40, hz41, hz42⟩ := info_parts Tryf.info4
  have q2 := neq22
  have q3 := neq23
  have h2g : GV 23 w a2 n1 c2 b2 off2 (bv.map Value.bool) := h2
  have hmm : s.size ≤ maxLen := by unfold maxLen; omega
  go_enter Tryf.func3, Tryf.ntmps3
  go_upto_if 77 with (first
    | (go_at_call 6; refine (zzb1_any h1 h2 h3 h4 s v).mono ?_; rintro e w' ⟨⟨r, rfl⟩, hw⟩; obtain rfl := hw.symm)
    | (go_at_call 7; refine (bytesFit_any h1 h2 h3 h4 _).mono ?_; rintro e w' ⟨⟨r2, rfl⟩, hw⟩; obtain rfl := hw.symm))
  all_goals first | (go_ret; exact ⟨rfl, Below.refl _ _⟩) | skip
  go_cut [0, 13] (fun s0 _ wx => Copied 22 w wx n1 (bk.map Value.string) s0)
  case first =>
    cases hz : a1.isSome
    rotate_left
    · have hbA : Below w.heap.size w (w.alloc (.cells (madeCells #[Value.string ByteArray.empty] n1) 9)) := (Below.refl _ _).alloc (Nat.le_refl _) _
      go_wp2_with (first
        | (at_make; refine wpList_make_row _ rfl _ _ 22 rfl 9 i9 (Value.string ByteArray.empty) Tryf.underlying22 hi9 hz90 hz91 rfl .i64 .i64 n1 rfl rfl (by rw [hz92]; omega) (by omega) ?_)
        | ((refine wpList_copy_splice rfl _ _ 22 22 rfl 9 Tryf.underlying22 one9 (some ⟨w.heap.size, 0, none⟩) a1 n1 n1 n1 c1 rfl rfl w.heap.size 0 (List.replicate n1 (Value.string ByteArray.empty)) 9 (by rw [← row_list]; exact heap_alloc_new _ _) (bk.map Value.string) (by rw [h1.1.len]; simp) (hpos_of h1.1 _ (hbA)) (by simp [h1.len]) (oneCell_string bk) w.heap.size w hbA (Nat.le_refl _) ?_); intro w1 hg1 hb1))
      go_meet
      have hg2 := hg1.out
      rw [splice_all _ h1.1.len] at hg2
      exact ⟨⟨_, _, _, _, rfl, GV.ofRow (fun k w' hk => idx22 _ _ _ _ k w' hk) hg2 h1.1.len h1.1.small⟩, hb1⟩
    · go_wp2
      go_meet
      exact ⟨⟨_, _, _, _, rfl, h1.1⟩, Below.refl _ _⟩
  case rest =>
  rename World => W1
  obtain ⟨⟨x1, y1, p1, o1, rfl, H1⟩, hW1⟩ := hcut
  have B1 : Below w.heap.size w W1 := hW1
  go_upto_if 86 with fail
  go_cut [1, 14] (fun s0 _ wx => Copied 23 W1 wx n1 (bv.map Value.bool) s0)
  case first =>
    cases hz : a2.isSome
    rotate_left
    · have hbA : Below W1.heap.size W1 (W1.alloc (.cells (madeCells #[Value.bool false] n1) 4)) := (Below.refl _ _).alloc (Nat.le_refl _) _
      go_wp2_with (first
        | (at_make; refine wpList_make_row _ rfl _ _ 23 rfl 4 i4 (Value.bool false) Tryf.underlying23 hi4 hz40 hz41 rfl .i64 .i64 n1 rfl rfl (by rw [hz42]; omega) (by omega) ?_)
        | ((refine wpList_copy_splice rfl _ _ 23 23 rfl 4 Tryf.underlying23 one4 (some ⟨W1.heap.size, 0, none⟩) a2 n1 n1 n1 c2 rfl rfl W1.heap.size 0 (List.replicate n1 (Value.bool false)) 4 (by rw [← row_list]; exact heap_alloc_new _ _) (bv.map Value.bool) (by rw [h2g.len]; simp) (hpos_of h2g _ (B1.trans ((hbA).mono B1.size))) (by simp [h2g.len]) (oneCell_bool bv) W1.heap.size W1 hbA (Nat.le_refl _) ?_); intro w1 hg1 hb1))
      go_meet
      have hg2 := hg1.out
      rw [splice_all _ h2g.len] at hg2
      exact ⟨⟨_, _, _, _, rfl, GV.ofRow (fun k w' hk => idx23 _ _ _ _ k w' hk) hg2 h2g.len h2g.small⟩, hb1⟩
    · go_wp2
      go_meet
      exact ⟨⟨_, _, _, _, rfl, h2g.below (B1.trans ((Below.refl _ _).mono B1.size))⟩, Below.refl _ _⟩
  case rest =>
  rename World => W2
  obtain ⟨⟨x2, y2, p2, o2, rfl, H2⟩, hW2⟩ := hcut
  have B2 : Below w.heap.size w W2 := B1.trans ((hW2).mono B1.size)
  go_upto_if 95 with fail
  go_cut [2, 15] (fun s0 _ wx => Copied 22 W2 wx n3 (sk.map Value.string) s0)
  case first =>
    cases hz : a3.isSome
    rotate_left
    · have hbA : Below W2.heap.size W2 (W2.alloc (.cells (madeCells #[Value.string ByteArray.empty] n3) 9)) := (Below.refl _ _).alloc (Nat.le_refl _) _
      go_wp2_with (first
        | (at_make; refine wpList_make_row _ rfl _ _ 22 rfl 9 i9 (Value.string ByteArray.empty) Tryf.underlying22 hi9 hz90 hz91 rfl .i64 .i64 n3 rfl rfl (by rw [hz92]; omega) (by omega) ?_)
        | ((refine wpList_copy_splice rfl _ _ 22 22 rfl 9 Tryf.underlying22 one9 (some ⟨W2.heap.size, 0, none⟩) a3 n3 n3 n3 c3 rfl rfl W2.heap.size 0 (List.replicate n3 (Value.string ByteArray.empty)) 9 (by rw [← row_list]; exact heap_alloc_new _ _) (sk.map Value.string) (by rw [h3.1.len]; simp) (hpos_of h3.1 _ (B2.trans ((hbA).mono B2.size))) (by simp [h3.len]) (oneCell_string sk) W2.heap.size W2 hbA (Nat.le_refl _) ?_); intro w1 hg1 hb1))
      go_meet
      have hg2 := hg1.out
      rw [splice_all _ h3.1.len] at hg2
      exact ⟨⟨_, _, _, _, rfl, GV.ofRow (fun k w' hk => idx22 _ _ _ _ k w' hk) hg2 h3.1.len h3.1.small⟩, hb1⟩
    · go_wp2
      go_meet
      exact ⟨⟨_, _, _, _, rfl, h3.1.below (B2.trans ((Below.refl _ _).mono B2.size))⟩, Below.refl _ _⟩
  case rest =>
  rename World => W3
  obtain ⟨⟨x3, y3, p3, o3, rfl, H3⟩, hW3⟩ := hcut
  have B3 : Below w.heap.size w W3 := B2.trans ((hW3).mono B2.size)
  go_upto_if 104 with fail
  go_cut [3, 16] (fun s0 _ wx => Copied 22 W3 wx n3 (sv.map Value.string) s0)
  case first =>
    cases hz : a4.isSome
    rotate_left
    · have hbA : Below W3.heap.size W3 (W3.alloc (.cells (madeCells #[Value.string ByteArray.empty] n3) 9)) := (Below.refl _ _).alloc (Nat.le_refl _) _
      go_wp2_with (first
        | (at_make; refine wpList_make_row _ rfl _ _ 22 rfl 9 i9 (Value.string ByteArray.empty) Tryf.underlying22 hi9 hz90 hz91 rfl .i64 .i64 n3 rfl rfl (by rw [hz92]; omega) (by omega) ?_)
        | ((refine wpList_copy_splice rfl _ _ 22 22 rfl 9 Tryf.underlying22 one9 (some ⟨W3.heap.size, 0, none⟩) a4 n3 n3 n3 c4 rfl rfl W3.heap.size 0 (List.replicate n3 (Value.string ByteArray.empty)) 9 (by rw [← row_list]; exact heap_alloc_new _ _) (sv.map Value.string) (by rw [h4.1.len]; simp) (hpos_of h4.1 _ (B3.trans ((hbA).mono B3.size))) (by simp [h4.len]) (oneCell_string sv) W3.heap.size W3 hbA (Nat.le_refl _) ?_); intro w1 hg1 hb1))
      go_meet
      have hg2 := hg1.out
      rw [splice_all _ h4.1.len] at hg2
      exact ⟨⟨_, _, _, _, rfl, GV.ofRow (fun k w' hk => idx22 _ _ _ _ k w' hk) hg2 h4.1.len h4.1.small⟩, hb1⟩
    · go_wp2
      go_meet
      exact ⟨⟨_, _, _, _, rfl, h4.1.below (B3.trans ((Below.refl _ _).mono B3.size))⟩, Below.refl _ _⟩
  case rest =>
  rename World => W4
  obtain ⟨⟨x4, y4, p4, o4, rfl, H4⟩, hW4⟩ := hcut
  have B4 : Below w.heap.size w W4 := B3.trans ((hW4).mono B3.size)
  have S1 : SV W4 x1 n1 y1 p1 o1 bk := ⟨((H1.below hW2).below hW3).below hW4, h1.2⟩
  have S2 : BV W4 x2 n1 y2 p2 o2 bv := (H2.below hW3).below hW4
  have S3 : SV W4 x3 n3 y3 p3 o3 sk := ⟨H3.below hW4, h3.2⟩
  have S4 : SV W4 x4 n3 y4 p4 o4 sv := ⟨H4, h4.2⟩
  have hF4 : F.answers W4.tape := by rw [B4.tape]; exact hF
  have hPG : Hid (ans (gB (bk ++ [s]) (bv ++ [v]) sk n3 (n1 + 1) s) = (v, false)) := put_get h1.len h2.len
  obtain ⟨p, q, HP⟩ : ∃ p q, Hid (ans (gB bk bv sk n3 n1 s) = (p, q)) := ⟨_, _, rfl⟩
  clear H1 H2 H3 H4 hW1 hW2 hW3 hW4 B1 B2 B3 h1 h2 h3 h4 h2g q2 q3 hi9 hz90 hz91 hz92 hi4 hz40 hz41 hz42
  have t1 : True := trivial
  go_wp2_with (first
    | (go_at_call 8; have _u := t1; clear t1; refine (argsBool_pq S1 S2 S3 S4 (by omega) (by omega) hmm F hF4 HP).mono ?_; rintro e w2 ⟨rfl, hb2⟩)
    | (go_at_call 9; refine (model_pq (S1.below hb2) (S2.below hb2) (S3.below hb2) (by omega) (by omega) HP).mono ?_; rintro e w3 ⟨rfl, hw⟩; obtain rfl := hw.symm)
    | (go_at_call 10; refine (appendStr_any (S1.below hb2) m1 hmm).mono ?_; rintro e w4 ⟨rfl, K1, hb4⟩)
    | (go_at_call 11; refine (appendBool_any ((S2.below hb2).below hb4) m1 v).mono ?_; rintro e w5 ⟨rfl, K2, hb5⟩)
    | (go_at_call 8; refine (argsBool_pq (K1.below hb5) K2 (((S3.below hb2).below hb4).below hb5) (((S4.below hb2).below hb4).below hb5) (by omega) (by omega) hmm F (by rw [hb5.tape, hb4.tape, hb2.tape]; exact hF4) hPG).mono ?_; rintro e w6 ⟨rfl, hb6⟩))
  go_ret
  have B5 := B4.trans (hb2.mono B4.size)
  have B6 := B5.trans (hb4.mono B5.size)
  have B7 := B6.trans (hb5.mono B6.size)
  exact ⟨rfl, B7.trans (hb6.mono B7.size)⟩

end Go.Proofs.Qxb6614385aFmt
