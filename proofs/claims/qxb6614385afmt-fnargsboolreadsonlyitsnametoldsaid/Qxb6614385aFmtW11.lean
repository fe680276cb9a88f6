/-
  Seat b6614385aF: the second law's walk.
-/
import Derived.Test.Qxb6614385aFmtW8
import Derived.Test.Qxb6614385aFmtW10
namespace Go.Proofs.Qxb6614385aFmt
open Go.RowKit Go.WideMaps Go.Maps Go.Extern.Stop Go.Stop Go.Extern

theorem lastB_app {bk : List ByteArray} {bv : List Bool} {s o : ByteArray} {v : Bool} : ∀ (n : Nat), n ≤ bk.length → n ≤ bv.length → lastB (bk ++ [o]) (bv ++ [v]) s n = lastB bk bv s n
  | 0, _, _ => rfl
  | n + 1, h1, h2 => by
    rw [lastB, lastB, lastB_app n (by omega) (by omega), getD_snoc_lt _ _ _ _ (by omega), getD_snoc_lt _ _ _ _ (by omega)]
theorem hasS_app {sk : List ByteArray} {s o : ByteArray} : ∀ (n : Nat), n ≤ sk.length → hasS (sk ++ [o]) s n = hasS sk s n
  | 0, _ => rfl
  | n + 1, h1 => by
    rw [hasS, hasS, hasS_app n (by omega), getD_snoc_lt _ _ _ _ (by omega)]

theorem other_same {bk : List ByteArray} {bv : List Bool} {sk : List ByteArray} {n1 n3 : Nat} {s o : ByteArray} {v : Bool} (e1 : bk.length = n1) (e2 : bv.length = n1) (e3 : sk.length = n3) (ne : ¬ o = s) :
    ans (gB (bk ++ [o]) (bv ++ [v]) (sk ++ [o]) (n3 + 1) (n1 + 1) s) = ans (gB bk bv sk n3 n1 s) := by
  unfold gB gS
  rw [lastB, getD_snoc _ _ _ _ e1, if_neg ne, lastB_app n1 (by omega) (by omega), hasS, getD_snoc _ _ _ _ e3, if_neg ne, hasS_app n3 (by omega)]

theorem lastB_none {kk : List ByteArray} {kv : List Bool} {s : ByteArray} (no : ∀ k ∈ kk, k ≠ s) : ∀ (n : Nat), n ≤ kk.length → lastB kk kv s n = none
  | 0, _ => rfl
  | n + 1, h => by
    have hm : kk.getD n ByteArray.empty ∈ kk := by
      rw [List.getD, List.getElem?_eq_getElem (by omega)]
      exact List.getElem_mem _
    rw [lastB, if_neg (no _ hm), lastB_none no n (by omega)]

theorem string_refused {kk : List ByteArray} {kv : List Bool} {sk : List ByteArray} {m n3 : Nat} {s : ByteArray} (no : ∀ k ∈ kk, k ≠ s) (e1 : kk.length = m) (e3 : sk.length = n3) :
    ans (gB kk kv (sk ++ [s]) (n3 + 1) m s) = (false, true) := by
  rw [ans_str (lastB_none no m (by omega)), hasS, getD_snoc _ _ _ _ e3, if_pos rfl]

set_option maxRecDepth 100000 in
set_option maxHeartbeats 6400000 in
theorem law2_main {w : World} {a1 : Option Addr} {n1 c1 b1 off1 : Nat} {bk : List ByteArray} {a2 : Option Addr} { c2 b2 off2 : Nat} {bv : List Bool} {a3 : Option Addr} {n3 c3 b3 off3 : Nat} {sk : List ByteArray} {a4 : Option Addr} { c4 b4 off4 : Nat} {sv : List ByteArray}
    (h1 : SV w a1 n1 c1 b1 off1 bk) (h2 : BV w a2 n1 c2 b2 off2 bv) (h3 : SV w a3 n3 c3 b3 off3 sk) (h4 : SV w a4 n3 c4 b4 off4 sv) (m1 : n1 ≤ 65536) (m3 : n3 ≤ 65536)
    {s o : ByteArray} (hs : s.size ≤ 1048576) (ho : o.size ≤ 1048576) (v : Bool) {x : ByteArray} (hx : x.size ≤ 1048576) (eb : (o.toList == s.toList) = false) (ne : Hid (¬ o = s)) (F : Interp) (hF : F.answers w.tape) :
    Calls Tryf.prog 4 #[.slice a1 n1 c1, .slice a2 n1 c2, .slice a3 n3 c3, .slice a4 n3 c4, .string s, .string o, .bool v, .string x] w fun e w' => e = .returned (.bool true) ∧ Below w.heap.size w w' := by
  obtain ⟨i9, hi9, hz90, hz91, hz92⟩ := info_parts Tryf.info9
  obtain ⟨i4, hi4, hz40, hz41, hz42⟩ := info_parts Tryf.info4
  have q2 := neq22
  have q3 := neq23
  have h2g : GV 23 w a2 n1 c2 b2 off2 (bv.map Value.bool) := h2
  have hmm : s.size ≤ maxLen := by unfold maxLen; omega
  have hmo : o.size ≤ maxLen := by unfold maxLen; omega
  have hmx : x.size ≤ maxLen := by unfold maxLen; omega
  go_enter Tryf.func4, Tryf.ntmps4
  go_upto_if 110 with (first
    | (go_at_call 12; refine (zzb2_any h1 h2 h3 h4 s o v x).mono ?_; rintro e w' ⟨⟨r, rfl⟩, hw⟩; obtain rfl := hw.symm)
    | (go_at_call 7; refine (bytesFit_any h1 h2 h3 h4 _).mono ?_; rintro e w' ⟨⟨r2, rfl⟩, hw⟩; obtain rfl := hw.symm))
  all_goals first | (go_ret; exact ⟨rfl, Below.refl _ _⟩) | skip
  go_cut [0, 17] (fun s0 _ wx => Copied 22 w wx n1 (bk.map Value.string) s0)
  case first =>
    cases hz : a1.isSome
    rotate_left
    · have hbA : Below w.heap.size w (w.alloc (.cells (madeCells #[Value.string ByteArray.empty] n1) 9)) := (Below.refl _ _).alloc (Nat.le_refl _) _
      go_wp2_with (first
        | (at_make; refine wpList_make_row _ rfl _ _ 22 rfl 9 i9 (Value.string ByteArray.empty) Tryf.underlying22 hi9 hz90 hz91 rfl .i64 .i64 n1 rfl rfl (by rw [hz92]; omega) (by omega) ?_)
        | ((refine wpList_copy_splice rfl _ _ 22 22 rfl 9 Tryf.underlying22 one9 (some ⟨w.heap.size, 0, none⟩) a1 n1 n1 n1 c1 rfl rfl w.heap.size 0 (List.replicate n1 (Value.string ByteArray.empty)) 9 (by rw [← row_list]; exact heap_alloc_new _ _) (bk.map Value.string) (by rw [h1.1.len]; simp) (hpos_of h1.1 _ (hbA)) (by simp [h1.len]) (oneCell_string bk) w.heap.size w hbA (Nat.le_refl _) ?_); intro w1 hg1 hb1))
      go_meet
      have hg2 := hg1.out
      rw [splice_all _ h1.1.len] at hg2
      exact ⟨⟨_, _, _, _, rfl, GV.ofRow (fun k w' hk => idx22 _ _ _ _ k w' hk) hg2 h1.1.len h1.1.small⟩, hb1⟩
    · go_wp2
      go_meet
      exact ⟨⟨_, _, _, _, rfl, h1.1⟩, Below.refl _ _⟩
  case rest =>
  rename World => W1
  obtain ⟨⟨x1, y1, p1, o1, rfl, H1⟩, hW1⟩ := hcut
  have B1 : Below w.heap.size w W1 := hW1
  go_upto_if 119 with fail
  go_cut [1, 18] (fun s0 _ wx => Copied 23 W1 wx n1 (bv.map Value.bool) s0)
  case first =>
    cases hz : a2.isSome
    rotate_left
    · have hbA : Below W1.heap.size W1 (W1.alloc (.cells (madeCells #[Value.bool false] n1) 4)) := (Below.refl _ _).alloc (Nat.le_refl _) _
      go_wp2_with (first
        | (at_make; refine wpList_make_row _ rfl _ _ 23 rfl 4 i4 (Value.bool false) Tryf.underlying23 hi4 hz40 hz41 rfl .i64 .i64 n1 rfl rfl (by rw [hz42]; omega) (by omega) ?_)
        | ((refine wpList_copy_splice rfl _ _ 23 23 rfl 4 Tryf.underlying23 one4 (some ⟨W1.heap.size, 0, none⟩) a2 n1 n1 n1 c2 rfl rfl W1.heap.size 0 (List.replicate n1 (Value.bool false)) 4 (by rw [← row_list]; exact heap_alloc_new _ _) (bv.map Value.bool) (by rw [h2g.len]; simp) (hpos_of h2g _ (B1.trans ((hbA).mono B1.size))) (by simp [h2g.len]) (oneCell_bool bv) W1.heap.size W1 hbA (Nat.le_refl _) ?_); intro w1 hg1 hb1))
      go_meet
      have hg2 := hg1.out
      rw [splice_all _ h2g.len] at hg2
      exact ⟨⟨_, _, _, _, rfl, GV.ofRow (fun k w' hk => idx23 _ _ _ _ k w' hk) hg2 h2g.len h2g.small⟩, hb1⟩
    · go_wp2
      go_meet
      exact ⟨⟨_, _, _, _, rfl, h2g.below (B1.trans ((Below.refl _ _).mono B1.size))⟩, Below.refl _ _⟩
  case rest =>
  rename World => W2
  obtain ⟨⟨x2, y2, p2, o2, rfl, H2⟩, hW2⟩ := hcut
  have B2 : Below w.heap.size w W2 := B1.trans ((hW2).mono B1.size)
  go_upto_if 128 with fail
  go_cut [2, 19] (fun s0 _ wx => Copied 22 W2 wx n3 (sk.map Value.string) s0)
  case first =>
    cases hz : a3.isSome
    rotate_left
    · have hbA : Below W2.heap.size W2 (W2.alloc (.cells (madeCells #[Value.string ByteArray.empty] n3) 9)) := (Below.refl _ _).alloc (Nat.le_refl _) _
      go_wp2_with (first
        | (at_make; refine wpList_make_row _ rfl _ _ 22 rfl 9 i9 (Value.string ByteArray.empty) Tryf.underlying22 hi9 hz90 hz91 rfl .i64 .i64 n3 rfl rfl (by rw [hz92]; omega) (by omega) ?_)
        | ((refine wpList_copy_splice rfl _ _ 22 22 rfl 9 Tryf.underlying22 one9 (some ⟨W2.heap.size, 0, none⟩) a3 n3 n3 n3 c3 rfl rfl W2.heap.size 0 (List.replicate n3 (Value.string ByteArray.empty)) 9 (by rw [← row_list]; exact heap_alloc_new _ _) (sk.map Value.string) (by rw [h3.1.len]; simp) (hpos_of h3.1 _ (B2.trans ((hbA).mono B2.size))) (by simp [h3.len]) (oneCell_string sk) W2.heap.size W2 hbA (Nat.le_refl _) ?_); intro w1 hg1 hb1))
      go_meet
      have hg2 := hg1.out
      rw [splice_all _ h3.1.len] at hg2
      exact ⟨⟨_, _, _, _, rfl, GV.ofRow (fun k w' hk => idx22 _ _ _ _ k w' hk) hg2 h3.1.len h3.1.small⟩, hb1⟩
    · go_wp2
      go_meet
      exact ⟨⟨_, _, _, _, rfl, h3.1.below (B2.trans ((Below.refl _ _).mono B2.size))⟩, Below.refl _ _⟩
  case rest =>
  rename World => W3
  obtain ⟨⟨x3, y3, p3, o3, rfl, H3⟩, hW3⟩ := hcut
  have B3 : Below w.heap.size w W3 := B2.trans ((hW3).mono B2.size)
  go_upto_if 137 with fail
  go_cut [3, 20] (fun s0 _ wx => Copied 22 W3 wx n3 (sv.map Value.string) s0)
  case first =>
    cases hz : a4.isSome
    rotate_left
    · have hbA : Below W3.heap.size W3 (W3.alloc (.cells (madeCells #[Value.string ByteArray.empty] n3) 9)) := (Below.refl _ _).alloc (Nat.le_refl _) _
      go_wp2_with (first
        | (at_make; refine wpList_make_row _ rfl _ _ 22 rfl 9 i9 (Value.string ByteArray.empty) Tryf.underlying22 hi9 hz90 hz91 rfl .i64 .i64 n3 rfl rfl (by rw [hz92]; omega) (by omega) ?_)
        | ((refine wpList_copy_splice rfl _ _ 22 22 rfl 9 Tryf.underlying22 one9 (some ⟨W3.heap.size, 0, none⟩) a4 n3 n3 n3 c4 rfl rfl W3.heap.size 0 (List.replicate n3 (Value.string ByteArray.empty)) 9 (by rw [← row_list]; exact heap_alloc_new _ _) (sv.map Value.string) (by rw [h4.1.len]; simp) (hpos_of h4.1 _ (B3.trans ((hbA).mono B3.size))) (by simp [h4.len]) (oneCell_string sv) W3.heap.size W3 hbA (Nat.le_refl _) ?_); intro w1 hg1 hb1))
      go_meet
      have hg2 := hg1.out
      rw [splice_all _ h4.1.len] at hg2
      exact ⟨⟨_, _, _, _, rfl, GV.ofRow (fun k w' hk => idx22 _ _ _ _ k w' hk) hg2 h4.1.len h4.1.small⟩, hb1⟩
    · go_wp2
      go_meet
      exact ⟨⟨_, _, _, _, rfl, h4.1.below (B3.trans ((Below.refl _ _).mono B3.size))⟩, Below.refl _ _⟩
  case rest =>
  rename World => W4
  obtain ⟨⟨x4, y4, p4, o4, rfl, H4⟩, hW4⟩ := hcut
  have B4 : Below w.heap.size w W4 := B3.trans ((hW4).mono B3.size)
  have S1 : SV W4 x1 n1 y1 p1 o1 bk := ⟨((H1.below hW2).below hW3).below hW4, h1.2⟩
  have S2 : BV W4 x2 n1 y2 p2 o2 bv := (H2.below hW3).below hW4
  have S3 : SV W4 x3 n3 y3 p3 o3 sk := ⟨H3.below hW4, h3.2⟩
  have S4 : SV W4 x4 n3 y4 p4 o4 sv := ⟨H4, h4.2⟩
  have hF4 : F.answers W4.tape := by rw [B4.tape]; exact hF
  have l3 : Hid (sk.length = n3) := h3.len
  obtain ⟨p, q, HP⟩ : ∃ p q, Hid (ans (gB bk bv sk n3 n1 s) = (p, q)) := ⟨_, _, rfl⟩
  have HQ : Hid (ans (gB (bk ++ [o]) (bv ++ [v]) (sk ++ [o]) (n3 + 1) (n1 + 1) s) = (p, q)) := (other_same h1.len h2.len h3.len ne.out).trans HP.out
  clear H1 H2 H3 H4 hW1 hW2 hW3 hW4 B1 B2 B3 h1 h2 h3 h4 h2g q2 q3 hi9 hz90 hz91 hz92 hi4 hz40 hz41 hz42 eb ne
  have t1 : True := trivial
  have t2 : True := trivial
  have k1 : True := trivial
  have k2 : True := trivial
  have k3 : True := trivial
  have k4 : True := trivial
  go_wp2_with (first
    | (go_at_call 8; have _u := t1; clear t1; refine (argsBool_pq S1 S2 S3 S4 (by omega) (by omega) hmm F hF4 HP).mono ?_; rintro e w2 ⟨rfl, hb2⟩
       have S1 := S1.below hb2
       have S2 := S2.below hb2
       have S3 := S3.below hb2
       have S4 := S4.below hb2)
    | (go_at_call 10; have _u := k1; clear k1; refine (appendStr_any S1 m1 hmo).mono ?_; rintro e w3 ⟨rfl, K1, hb3⟩
       have S1 := S1.below hb3
       have S2 := S2.below hb3
       have S3 := S3.below hb3
       have S4 := S4.below hb3)
    | (go_at_call 11; refine (appendBool_any S2 m1 v).mono ?_; rintro e w4 ⟨rfl, K2, hb4⟩
       have S1 := S1.below hb4
       have S2 := S2.below hb4
       have S3 := S3.below hb4
       have S4 := S4.below hb4
       have K1 := K1.below hb4)
    | (go_at_call 10; have _u := k2; clear k2; refine (appendStr_any S3 m3 hmo).mono ?_; rintro e w5 ⟨rfl, K3, hb5⟩
       have S1 := S1.below hb5
       have S2 := S2.below hb5
       have S3 := S3.below hb5
       have S4 := S4.below hb5
       have K1 := K1.below hb5
       have K2 := K2.below hb5)
    | (go_at_call 10; have _u := k3; clear k3; refine (appendStr_any S4 m3 hmx).mono ?_; rintro e w6 ⟨rfl, K4, hb6⟩
       have S1 := S1.below hb6
       have S2 := S2.below hb6
       have S3 := S3.below hb6
       have S4 := S4.below hb6
       have K1 := K1.below hb6
       have K2 := K2.below hb6
       have K3 := K3.below hb6
       have hF6 : F.answers w6.tape := by rw [hb6.tape, hb5.tape, hb4.tape, hb3.tape, hb2.tape]; exact hF4)
    | (go_at_call 8; have _u := t2; clear t2; refine (argsBool_pq K1 K2 K3 K4 (by omega) (by omega) hmm F hF6 HQ).mono ?_; rintro e w7 ⟨rfl, hb7⟩
       have S1 := S1.below hb7
       have S2 := S2.below hb7
       have S3 := S3.below hb7
       have S4 := S4.below hb7)
    | (go_at_call 13; refine (without_any S1 S2 m1 s).mono ?_; rintro e w8 ⟨g8, g9, m, kk, kv, rfl, hmn, hK⟩
       have hb8 := hK.below
       have S3 := S3.below hb8
       have S4 := S4.below hb8
       have L1 := SV.ofOwn hK.o8 hK.sz (by omega)
       have L2 := BV.ofOwn hK.o9 (by omega)
       have HR : Hid (ans (gB kk kv (sk ++ [s]) (n3 + 1) m s) = (false, true)) := string_refused hK.no L1.len l3.out)
    | (go_at_call 10; have _u := k4; clear k4; refine (appendStr_any S3 m3 hmm).mono ?_; rintro e w9 ⟨rfl, K5, hb9⟩
       have S4 := S4.below hb9
       have L1 := L1.below hb9
       have L2 := L2.below hb9)
    | (go_at_call 10; refine (appendStr_any S4 m3 hmx).mono ?_; rintro e w10 ⟨rfl, K6, hb10⟩
       have L1 := L1.below hb10
       have L2 := L2.below hb10
       have K5 := K5.below hb10
       have hF10 : F.answers w10.tape := by rw [hb10.tape, hb9.tape, hb8.tape, hb7.tape]; exact hF6)
    | (go_at_call 8; refine (argsBool_pq L1 L2 K5 K6 (by omega) (by omega) hmm F hF10 HR).mono ?_; rintro e w11 ⟨rfl, hb11⟩))
  go_ret
  have C2 := B4.trans (hb2.mono B4.size)
  have C3 := C2.trans (hb3.mono C2.size)
  have C4 := C3.trans (hb4.mono C3.size)
  have C5 := C4.trans (hb5.mono C4.size)
  have C6 := C5.trans (hb6.mono C5.size)
  have C7 := C6.trans (hb7.mono C6.size)
  have C8 := C7.trans (hb8.mono C7.size)
  have C9 := C8.trans (hb9.mono C8.size)
  have C10 := C9.trans (hb10.mono C9.size)
  exact ⟨rfl, C10.trans (hb11.mono C10.size)⟩

end Go.Proofs.Qxb6614385aFmt
