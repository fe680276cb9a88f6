/-
  Seat b6605717a: the law's walk.
-/
import Derived.Test.Qxb6605717aW5c
import Derived.Deep.CutBlock
import Derived.Deep.DeepCutAuto
import Derived.Deep.QuietTactic
import Derived.BigQuiet
namespace Go.Proofs.Qxb6605717a
open Go.RowKit

set_option maxRecDepth 100000 in
set_option maxHeartbeats 40000000 in
theorem law_main {w : World} {a1 : Option Addr} {n c1 b1 off1 : Nat} {hc : Nat → Bool} {a2 : Option Addr} {m c2 b2 off2 : Nat} {cl : Nat → Int} {sn : Nat → Bool}
    (h1 : BV w a1 n c1 b1 off1 hc) (h2 : PV w a2 m c2 b2 off2 cl sn) (hn : n ≤ 4096) (hm : m ≤ 4096) :
    Calls Try.prog 3 #[.slice a1 n c1, .slice a2 m c2] w fun e w' => e = .returned (.bool true) ∧ Below w.heap.size w w' := by
  have i1 := h1.idx
  have i2 := h2.idx
  have l1 := h1.small
  have l2 := h2.small
  obtain ⟨i42, hi42, hz420, hz421, hz422⟩ := info_parts Try.info42
  obtain ⟨i9, hi9, hz90, hz91, hz92⟩ := info_parts Try.info9
  obtain ⟨i3, hi3, hz30, hz31, hz32⟩ := info_parts Try.info3
  obtain ⟨i4, hi4, hz40, hz41, hz42⟩ := info_parts Try.info4
  have t1 : True := trivial
  have t2 : True := trivial
  have t3 : True := trivial
  have t4 : True := trivial
  go_enter Try.func3, Try.ntmps3
  go_wp2_with (first
    | (go_at_call 4; refine (zzb_any l1 l2).mono ?_; rintro e w' ⟨⟨r, rfl⟩, hw⟩; obtain rfl := hw.symm)
    | (at_make; have _u := t1; clear t1; refine wpList_make_full _ rfl _ _ 27 rfl w.heap.size 42 i42 zero42 10 Try.underlying27 hi42 hz420 hz421 .i64 .i64 _ _ n rfl rfl rfl rfl (by rw [hz422]; omega) (by unfold maxLen; omega) (Nat.le_refl _) ?_; intro w1 o1 g1)
    | (at_make; have _u := t2; clear t2; refine wpList_make_row _ rfl _ _ 32 rfl 9 i9 (.string ⟨#[]⟩) Try.underlying32 hi9 hz90 hz91 rfl .i64 .i64 n rfl rfl (by rw [hz92]; omega) (by omega) ?_)
    | (at_make; have _u := t3; clear t3; refine wpList_make_row _ rfl _ _ 33 rfl 3 i3 (.int .i64 0) Try.underlying33 hi3 hz30 hz31 rfl .i64 .i64 n rfl rfl (by rw [hz32]; omega) (by omega) ?_)
    | (at_make; have _u := t4; clear t4; refine wpList_make_row _ rfl _ _ 33 rfl 3 i3 (.int .i64 0) Try.underlying33 hi3 hz30 hz31 rfl .i64 .i64 n rfl rfl (by rw [hz32]; omega) (by omega) ?_)
    | (at_make; refine wpList_make_row _ rfl _ _ 22 rfl 4 i4 (.bool false) Try.underlying22 hi4 hz40 hz41 rfl .i64 .i64 n rfl rfl (by rw [hz42]; omega) (by omega) ?_))
  all_goals first | (go_ret; exact ⟨rfl, Below.refl _ _⟩) | skip
  have hs1 : w.heap.size < w1.heap.size := (World.ownsRow.lt o1 _ rfl).2
  obtain ⟨rb, hrb⟩ : ∃ rb, rb = w1.heap.size := ⟨_, rfl⟩
  rw [← hrb]
  have hB1 : Below w.heap.size w w1 := (Below.refl _ _).grown g1 (Nat.le_refl _) (fun k h => by cases h)
  have HP : RecP (startW w1 w.heap.size n) w1.heap.size w.heap.size n 0 (fun _ => none) := start_rec o1
  have HM := start_mach w1 w.heap.size n
  have HB : Below w.heap.size w (startW w1 w.heap.size n) := start_below hB1
  obtain ⟨W, hW⟩ : ∃ W, W = startW w1 w.heap.size n := ⟨_, rfl⟩
  rw [← hW] at HP HM HB
  rw [← hrb] at HP HM
  have hW' := hW
  unfold startW recCells at hW'
  rw [← hW']
  clear hW'
  obtain ⟨tb, htb⟩ : ∃ tb, tb = rb + 1 := ⟨_, rfl⟩
  rw [← htb] at HM ⊢
  obtain ⟨ab, hab⟩ : ∃ ab, ab = tb + 1 := ⟨_, rfl⟩
  rw [← hab] at HM ⊢
  obtain ⟨cb, hcb⟩ : ∃ cb, cb = ab + 1 := ⟨_, rfl⟩
  rw [← hcb] at HM ⊢
  obtain ⟨nb, hnb⟩ : ∃ nb, nb = cb + 1 := ⟨_, rfl⟩
  rw [← hnb] at HM ⊢
  obtain ⟨sb, hsb⟩ : ∃ sb, sb = w.heap.size := ⟨_, rfl⟩
  have q1 : sb < rb := by omega
  have q2 : rb < tb := by omega
  have q3 : Hid (sb = w.heap.size) := hsb
  have q4 : Below w.heap.size w W := HB
  rw [← hsb] at HP
  have ix := fun k w => idx27 sb n k w
  have ix2 := fun k w => idx32 tb n k w
  clear hW hrb htb hab hcb hnb hsb o1 g1 hs1 HB hi42 hz420 hz421 hz422 hi9 hz90 hz91 hz92 hi3 hz30 hz31 hz32 hi4 hz40 hz41 hz42
  go_loopw [11, 12] (fun i _ wr => ∃ (k : Nat) (cmp : Nat → Option Addr) (st : Nat → ByteArray), k ≤ n ∧ i = .int .i64 k ∧ RecP wr rb sb n k cmp ∧ Mach wr tb ab cb nb n st (fun _ => 0) (fun _ => 0) (fun _ => false) ∧ Below w.heap.size w wr ∧ Hid (∀ i, i < k → st i = ⟨#[80, 69, 78, 68, 73, 78, 71]⟩ ∧ (cmp i).isSome = hc i)) (fun i _ _ => n - (intOf i).toNat)
  case atStart => exact ⟨0, _, _, Nat.zero_le _, rfl, HP, HM, q4, fun i h => absurd h (by omega)⟩
  case round =>
    obtain ⟨k, cmp, st, hk, rfl, hP, hM, hB, hH⟩ := hrel
    clear HP HM q4
    by_cases hlt : k < n
    · obtain ⟨v0, e0⟩ := hP.has (10 * k) (by omega)
      obtain ⟨v1, e1⟩ := hP.has (10 * k + 1) (by omega)
      obtain ⟨v2, e2⟩ := hP.has (10 * k + 2) (by omega)
      obtain ⟨v3, e3⟩ := hP.has (10 * k + 3) (by omega)
      obtain ⟨v4, e4⟩ := hP.has (10 * k + 4) (by omega)
      obtain ⟨v5, e5⟩ := hP.has (10 * k + 5) (by omega)
      obtain ⟨v6, e6⟩ := hP.has (10 * k + 6) (by omega)
      obtain ⟨v7, e7⟩ := hP.has (10 * k + 7) (by omega)
      obtain ⟨v8, e8⟩ := hP.has (10 * k + 8) (by omega)
      obtain ⟨v9, e9⟩ := hP.has (10 * k + 9) (by omega)
      have d := (h1.below hB).cell k hlt
      have fs := hP.fs
      have fT := hM.fT
      have cT := hM.cT k hlt
      have cL := hP.cL
      have rl := hP.rl
      have sl := hP.sl
      have nl := hM.lt
      have o1 := hM.o1
      have o2 := hM.o2
      have o3 := hM.o3
      have bl : b1 < wr.heap.size := (h1.below hB).low (by omega)
      have tl : tb < wr.heap.size := by omega
      have q0 : w.heap.size ≤ sb := by rw [q3.out]; exact Nat.le_refl _
      have q12 : sb < tb := by omega
      have hsz := hB.size
      cases e : hc k
      · rw [e] at d
        have M1 := ((((((((((hM.other q12 (10 * k) (.string ⟨#[115, 116, 101, 112]⟩)).other q12 (10 * k + 1) (.string ⟨#[80, 69, 78, 68, 73, 78, 71]⟩)).other q12 (10 * k + 2) (.int .i64 0)).other q12 (10 * k + 3) (.int .i64 0)).other q12 (10 * k + 4) (.string ⟨#[]⟩)).other q12 (10 * k + 5) (.string ⟨#[]⟩)).other q12 (10 * k + 6) (.map none)).other q12 (10 * k + 7) (.slice none 0 0)).other q12 (10 * k + 8) (.pointer (none))).other q12 (10 * k + 9) (.bool false)).setT k ⟨#[80, 69, 78, 68, 73, 78, 71]⟩
        have P1 := (hP.put hlt (none)).other (b := tb) (by omega) (by omega) k (.string ⟨#[80, 69, 78, 68, 73, 78, 71]⟩)
        have B1 := ((((((((((hB.setCell (p := ⟨sb, 10 * k, none⟩) q0 (.string ⟨#[115, 116, 101, 112]⟩)).setCell (p := ⟨sb, 10 * k + 1, none⟩) q0 (.string ⟨#[80, 69, 78, 68, 73, 78, 71]⟩)).setCell (p := ⟨sb, 10 * k + 2, none⟩) q0 (.int .i64 0)).setCell (p := ⟨sb, 10 * k + 3, none⟩) q0 (.int .i64 0)).setCell (p := ⟨sb, 10 * k + 4, none⟩) q0 (.string ⟨#[]⟩)).setCell (p := ⟨sb, 10 * k + 5, none⟩) q0 (.string ⟨#[]⟩)).setCell (p := ⟨sb, 10 * k + 6, none⟩) q0 (.map none)).setCell (p := ⟨sb, 10 * k + 7, none⟩) q0 (.slice none 0 0)).setCell (p := ⟨sb, 10 * k + 8, none⟩) q0 (.pointer (none))).setCell (p := ⟨sb, 10 * k + 9, none⟩) q0 (.bool false)).setCell (p := ⟨tb, k, none⟩) (show w.heap.size ≤ tb by omega) (.string ⟨#[80, 69, 78, 68, 73, 78, 71]⟩)
        have HH : Hid (∀ i, i < k + 1 → upd st k ⟨#[80, 69, 78, 68, 73, 78, 71]⟩ i = ⟨#[80, 69, 78, 68, 73, 78, 71]⟩ ∧ (upd cmp k (none) i).isSome = hc i) := fun i hi => by
          by_cases ei : i = k
          · rw [ei, upd_same, upd_same, e]; exact ⟨rfl, rfl⟩
          · rw [upd_other _ _ ei, upd_other _ _ ei]; exact hH.out i (by omega)
        go_wp2
        go_roundw
        case rel =>
          refine ⟨k + 1, _, _, by omega, by go_num, P1.below ((Below.refl _ _).alloc (Nat.le_refl _) _), M1.below ((Below.refl _ _).alloc (Nat.le_refl _) _), B1.alloc (by simp <;> omega) _, HH⟩
        case measure => simp [intOf]; omega
      · rw [e] at d
        have M1 := ((((((((((hM.other q12 (10 * k) (.string ⟨#[115, 116, 101, 112]⟩)).other q12 (10 * k + 1) (.string ⟨#[80, 69, 78, 68, 73, 78, 71]⟩)).other q12 (10 * k + 2) (.int .i64 0)).other q12 (10 * k + 3) (.int .i64 0)).other q12 (10 * k + 4) (.string ⟨#[]⟩)).other q12 (10 * k + 5) (.string ⟨#[]⟩)).other q12 (10 * k + 6) (.map none)).other q12 (10 * k + 7) (.slice none 0 0)).other q12 (10 * k + 8) (.pointer (some ⟨wr.heap.size + 1, 0, none⟩))).other q12 (10 * k + 9) (.bool false)).setT k ⟨#[80, 69, 78, 68, 73, 78, 71]⟩
        have P1 := (hP.put hlt (some ⟨wr.heap.size + 1, 0, none⟩)).other (b := tb) (by omega) (by omega) k (.string ⟨#[80, 69, 78, 68, 73, 78, 71]⟩)
        have B1 := ((((((((((hB.setCell (p := ⟨sb, 10 * k, none⟩) q0 (.string ⟨#[115, 116, 101, 112]⟩)).setCell (p := ⟨sb, 10 * k + 1, none⟩) q0 (.string ⟨#[80, 69, 78, 68, 73, 78, 71]⟩)).setCell (p := ⟨sb, 10 * k + 2, none⟩) q0 (.int .i64 0)).setCell (p := ⟨sb, 10 * k + 3, none⟩) q0 (.int .i64 0)).setCell (p := ⟨sb, 10 * k + 4, none⟩) q0 (.string ⟨#[]⟩)).setCell (p := ⟨sb, 10 * k + 5, none⟩) q0 (.string ⟨#[]⟩)).setCell (p := ⟨sb, 10 * k + 6, none⟩) q0 (.map none)).setCell (p := ⟨sb, 10 * k + 7, none⟩) q0 (.slice none 0 0)).setCell (p := ⟨sb, 10 * k + 8, none⟩) q0 (.pointer (some ⟨wr.heap.size + 1, 0, none⟩))).setCell (p := ⟨sb, 10 * k + 9, none⟩) q0 (.bool false)).setCell (p := ⟨tb, k, none⟩) (show w.heap.size ≤ tb by omega) (.string ⟨#[80, 69, 78, 68, 73, 78, 71]⟩)
        have HH : Hid (∀ i, i < k + 1 → upd st k ⟨#[80, 69, 78, 68, 73, 78, 71]⟩ i = ⟨#[80, 69, 78, 68, 73, 78, 71]⟩ ∧ (upd cmp k (some ⟨wr.heap.size + 1, 0, none⟩) i).isSome = hc i) := fun i hi => by
          by_cases ei : i = k
          · rw [ei, upd_same, upd_same, e]; exact ⟨rfl, rfl⟩
          · rw [upd_other _ _ ei, upd_other _ _ ei]; exact hH.out i (by omega)
        go_wp2
        go_roundw
        case rel =>
          refine ⟨k + 1, _, _, by omega, by go_num, P1.below (((Below.refl _ _).alloc (Nat.le_refl _) _).alloc (by simp <;> omega) _), M1.below (((Below.refl _ _).alloc (Nat.le_refl _) _).alloc (by simp <;> omega) _), (B1.alloc (by simp <;> omega) _).alloc (by simp <;> omega) _, HH⟩
        case measure => simp [intOf]; omega
    · have hkn : k = n := by omega
      have HR : Rec wr rb sb n ⟨#[82, 85, 78, 78, 73, 78, 71]⟩ ⟨#[102, 111, 114, 119, 97, 114, 100]⟩ (fun _ => ⟨#[80, 69, 78, 68, 73, 78, 71]⟩) (fun _ => 0) (fun _ => 0) cmp (fun _ => false) := by
        have h := hP
        rw [hkn] at h
        exact h.full
      have HC : Hid (∀ i, i < n → (cmp i).isSome = hc i) := fun i hi => (hH.out i (by omega)).2
      have HM2 : Mach wr tb ab cb nb n (fun _ => ⟨#[80, 69, 78, 68, 73, 78, 71]⟩) (fun _ => 0) (fun _ => 0) (fun _ => false) :=
        ⟨fun i hi => by rw [hM.cT i hi, (hH.out i (by omega)).1], hM.cA, hM.cC, hM.cN, hM.fT, hM.fA, hM.fC, hM.fN, hM.o1, hM.o2, hM.o3, hM.lt⟩
      clear hP hM hkn hH ix2
      by_cases hn0 : n = 0
      · have z0 : ((n : Int) == 0) = true := by simp [hn0]
        clear hn0
        go_wp2_with (go_at_call 5; refine (Working_fwd HR rfl (r := true) (beq_tt rfl)).mono ?_; rintro e w2 ⟨rfl, hb2⟩)
        go_ret
        exact ⟨rfl, hB.trans (hb2.mono hB.size)⟩
      · have z0 : ((n : Int) == 0) = false := by simp; omega
        have n0 : 0 < n := by omega
        clear hn0
        have A0 : All w wr rb sb tb ab cb nb n 0 hc ⟨#[82, 85, 78, 78, 73, 78, 71]⟩ ⟨#[102, 111, 114, 119, 97, 114, 100]⟩ (fun _ => ⟨#[80, 69, 78, 68, 73, 78, 71]⟩) (fun _ => 0) (fun _ => 0) cmp (fun _ => false) := ⟨HR, HM2, hB, fun _ => ⟨by omega, by omega⟩, fun _ => ⟨by omega, by omega⟩, HC.out⟩
        have ia := fun k w => idx33 ab n k w
        have ic := fun k w => idx33 cb n k w
        have inn := fun k w => idx22 nb n k w
        have it := fun k w => idx32 tb n k w
        clear HR HM2 hB HC ix
        go_upto_block 2 with fail
        go_cut [13, 14, 15, 16, 17, 18, 19, 20, 21] (fun _ _ _ _ _ _ _ _ _ wx => Fin w wx rb sb tb ab cb nb n)
        case first =>
          go_wp2_with fail
          go_loopg [13, 14, 15, 16, 17, 18, 19, 20, 21] m (fun g pos bk pz en es i _ _ _ wx => LoopI w rb sb tb ab cb nb n m hc g pos bk pz en es i wx)
          case atStart => exact ⟨0, false, _, _, _, _, _, _, _, Nat.zero_le _, rfl, rfl, rfl, A0, fun _ => ⟨0, false, false, rfl, rfl, rfl, rfl, Sit.start n0 hc, rfl, rfl⟩⟩
          case round =>
            clear A0
            obtain ⟨k, e, status, dir, st, att, catt, cmp, snt, hk, rfl, rfl, rfl, hA, hE⟩ := hrel
            by_cases hlt : k < m
            · cases e
              · obtain ⟨p, b, z, rfl, rfl, rfl, rfl, hS, hst, hdr⟩ := hE rfl
                clear hE
                rw [hst, hdr] at hA
                clear hst hdr status dir
                cases b
                · -- forward
                  go_upto_if 100 with fail
                  go_cut [15] (fun s15 wx => s15 = .bool false ∧ All w wx rb sb tb ab cb nb n k hc ⟨#[82, 85, 78, 78, 73, 78, 71]⟩ ⟨#[102, 111, 114, 119, 97, 114, 100]⟩ st att catt cmp snt)
                  case first =>
                    have rl := hA.r.rl
                    have cS := hA.r.cS
                    have fr := hA.r.fr
                    have q0 : w.heap.size ≤ rb := by have := q3.out; omega
                    cases z
                    · go_wp2
                      go_meet
                      exact ⟨rfl, hA⟩
                    · go_wp2
                      go_meet
                      exact ⟨rfl, hA.r.setS _, hA.m.other q2 _ _, hA.b.setCell (p := ⟨rb, 4, none⟩) q0 _, hA.bA, hA.bC, hA.hm⟩
                  case rest =>
                  rename World => X
                  obtain ⟨rfl, hX⟩ := hcut
                  clear hA
                  have hp := hS.lt
                  obtain ⟨c, hc0⟩ : ∃ c, c = cl k := ⟨_, rfl⟩
                  obtain ⟨s, hs0⟩ : ∃ s, s = sn k := ⟨_, rfl⟩
                  have d0 : X.cell? ⟨b2, off2 + 2 * k, none⟩ = some (.int .i64 c) := by rw [hc0]; exact (h2.below hX.b).cell k hlt
                  have d1 : X.cell? ⟨b2, off2 + 2 * k + 1, none⟩ = some (.bool s) := by rw [hs0]; exact (h2.below hX.b).cell1 k hlt
                  have bl2 : b2 < X.heap.size := (h2.below hX.b).low (by omega)
                  clear hc0 hs0
                  have rl := hX.r.rl
                  have sl := hX.r.sl
                  have nl := hX.m.lt
                  have o1 := hX.m.o1
                  have o2 := hX.m.o2
                  have o3 := hX.m.o3
                  have q0 : w.heap.size ≤ sb := by rw [q3.out]; exact Nat.le_refl _
                  have bp := hX.bA p
                  have bq := hX.bC p
                  obtain ⟨x, hx⟩ : ∃ x, x = snt p := ⟨_, rfl⟩
                  have HX : Hid (x = snt p) := hx
                  clear hx
                  have BA : Below w.heap.size w (X.alloc (.cells #[.int .i64 c, .bool s] 45)) := hX.b.alloc hX.b.size _
                  have RA := hX.r.below ((Below.refl _ X).alloc (Nat.le_refl _) (.cells #[.int .i64 c, .bool s] 45))
                  have MA := hX.m.below ((Below.refl _ X).alloc (Nat.le_refl _) (.cells #[.int .i64 c, .bool s] 45))
                  have hsA : w.heap.size ≤ (X.alloc (.cells #[.int .i64 c, .bool s] 45)).heap.size := BA.size
                  by_cases c0 : c = 0
                  · subst c0
                    cases x
                    · as_aux_lemma =>
                        go_wp2_with (first
                          | (go_at_call 6; refine (zz_of (settle_F0 RA rfl hp ⟨by omega, by omega⟩ s)).mono ?_; rintro e w2 ⟨rfl, R2, T2⟩
                             have M2 := MA.touch T2 (by omega) (by omega)
                             have B2 := Tch.below BA T2 (by omega) q0 hsA
                             have hblk := T2.block X.heap.size (by simp) (by omega) (by omega)
                             rw [heap_alloc_new] at hblk
                             have eA0 : w2.cell? ⟨X.heap.size, 0, none⟩ = some (.int .i64 0) := cell_of_row w2 _ 0 _ _ _ hblk
                             have eA1 : w2.cell? ⟨X.heap.size, 1, none⟩ = some (.bool s) := cell_of_row w2 _ 1 _ _ _ hblk
                             have cA := M2.cA p hp
                             have cC := M2.cC p hp
                             have cT := M2.cT p hp
                             have cN : w2.cell? ⟨nb, p, none⟩ = some (.bool false) := by rw [M2.cN p hp, ← HX.out]
                             have fA := M2.fA
                             have fC := M2.fC
                             have fN := M2.fN
                             have fT := M2.fT
                             rw [← HX.out, Bool.false_or] at R2
                             have R2 : Rec w2 rb sb n ⟨#[70, 65, 73, 76, 69, 68, 95, 87, 73, 84, 72, 95, 82, 69, 84, 82, 89, 65, 66, 76, 69, 95, 69, 82, 82, 79, 82]⟩ ⟨#[102, 111, 114, 119, 97, 114, 100]⟩ st (upd att p (att p + 1)) catt cmp (upd snt p s) := R2
                             have R3 := (R2.other (b := ab) (by omega) (by omega) p (.int .i64 (att p + 1))).other (b := nb) (by omega) (by omega) p (.bool s)
                             have M3 := (M2.setA p (att p + 1)).setN p s
                             have B3 := (B2.setCell (p := ⟨ab, p, none⟩) (show w.heap.size ≤ ab by omega) (.int .i64 (att p + 1))).setCell (p := ⟨nb, p, none⟩) (show w.heap.size ≤ nb by omega) (.bool s)
                             clear R2 T2 hblk)
                          | (go_at_call 5; refine (Working_fwd R3 rfl (r := false) (beq_ff (s := ⟨#[82, 85, 78, 78, 73, 78, 71]⟩) (by decide))).mono ?_; rintro e w4 ⟨rfl, hb4⟩
                             have R4 := R3.below hb4
                             have cS4 := R4.cS
                             have cD4 := R4.cD))
                        go_roundg (m - (k + 1))
                        case measure => omega
                        case rel => exact ⟨k + 1, false, _, _, _, _, _, _, _, by omega, rfl, by go_num, rfl, ⟨R4, M3.below hb4, B3.trans (hb4.mono B3.size), bump hX.bA p, keep1 hX.bC, hX.hm⟩, fun _ => ⟨p, false, true, by first | rfl | go_num, rfl, rfl, rfl, hS, rfl, rfl⟩⟩
                    · as_aux_lemma =>
                        go_wp2_with (first
                          | (go_at_call 6; refine (zz_of (settle_F0 RA rfl hp ⟨by omega, by omega⟩ s)).mono ?_; rintro e w2 ⟨rfl, R2, T2⟩
                             have M2 := MA.touch T2 (by omega) (by omega)
                             have B2 := Tch.below BA T2 (by omega) q0 hsA
                             have hblk := T2.block X.heap.size (by simp) (by omega) (by omega)
                             rw [heap_alloc_new] at hblk
                             have eA0 : w2.cell? ⟨X.heap.size, 0, none⟩ = some (.int .i64 0) := cell_of_row w2 _ 0 _ _ _ hblk
                             have eA1 : w2.cell? ⟨X.heap.size, 1, none⟩ = some (.bool s) := cell_of_row w2 _ 1 _ _ _ hblk
                             have cA := M2.cA p hp
                             have cC := M2.cC p hp
                             have cT := M2.cT p hp
                             have cN : w2.cell? ⟨nb, p, none⟩ = some (.bool true) := by rw [M2.cN p hp, ← HX.out]
                             have fA := M2.fA
                             have fC := M2.fC
                             have fN := M2.fN
                             have fT := M2.fT
                             rw [← HX.out, Bool.true_or] at R2
                             have R2 : Rec w2 rb sb n ⟨#[70, 65, 73, 76, 69, 68, 95, 87, 73, 84, 72, 95, 82, 69, 84, 82, 89, 65, 66, 76, 69, 95, 69, 82, 82, 79, 82]⟩ ⟨#[102, 111, 114, 119, 97, 114, 100]⟩ st (upd att p (att p + 1)) catt cmp (upd snt p true) := R2
                             have R3 := (R2.other (b := ab) (by omega) (by omega) p (.int .i64 (att p + 1))).other (b := nb) (by omega) (by omega) p (.bool true)
                             have M3 := (M2.setA p (att p + 1)).setN p true
                             have B3 := (B2.setCell (p := ⟨ab, p, none⟩) (show w.heap.size ≤ ab by omega) (.int .i64 (att p + 1))).setCell (p := ⟨nb, p, none⟩) (show w.heap.size ≤ nb by omega) (.bool true)
                             clear R2 T2 hblk)
                          | (go_at_call 5; refine (Working_fwd R3 rfl (r := false) (beq_ff (s := ⟨#[82, 85, 78, 78, 73, 78, 71]⟩) (by decide))).mono ?_; rintro e w4 ⟨rfl, hb4⟩
                             have R4 := R3.below hb4
                             have cS4 := R4.cS
                             have cD4 := R4.cD))
                        go_roundg (m - (k + 1))
                        case measure => omega
                        case rel => exact ⟨k + 1, false, _, _, _, _, _, _, _, by omega, rfl, by go_num, rfl, ⟨R4, M3.below hb4, B3.trans (hb4.mono B3.size), bump hX.bA p, keep1 hX.bC, hX.hm⟩, fun _ => ⟨p, false, true, by first | rfl | go_num, rfl, rfl, rfl, hS, rfl, rfl⟩⟩
                  by_cases c1 : c = 1
                  · subst c1
                    clear c0
                    by_cases hp1 : p + 1 < n
                    · have z1 : (((p : Int) + 1) == (n : Int)) = false := by simp; omega
                      have HC : Hid (true = true ↔ ∃ k, k < n ∧ upd st p ⟨#[83, 85, 67, 67, 69, 69, 68, 69, 68]⟩ k ≠ ⟨#[83, 85, 67, 67, 69, 69, 68, 69, 68]⟩) := show _ ↔ _ by rw [← hS.f1_c]; simp [hp1]
                      cases x
                      · as_aux_lemma =>
                          go_wp2_with (first
                            | (go_at_call 6; refine (zz_of (settle_F1 RA rfl hn hp ⟨by omega, by omega⟩ s HC)).mono ?_; rintro e w2 ⟨rfl, R2, T2⟩
                               have M2 := MA.touch T2 (by omega) (by omega)
                               have B2 := Tch.below BA T2 (by omega) q0 hsA
                               have hblk := T2.block X.heap.size (by simp) (by omega) (by omega)
                               rw [heap_alloc_new] at hblk
                               have eA0 : w2.cell? ⟨X.heap.size, 0, none⟩ = some (.int .i64 1) := cell_of_row w2 _ 0 _ _ _ hblk
                               have eA1 : w2.cell? ⟨X.heap.size, 1, none⟩ = some (.bool s) := cell_of_row w2 _ 1 _ _ _ hblk
                               have cA := M2.cA p hp
                               have cC := M2.cC p hp
                               have cT := M2.cT p hp
                               have cN : w2.cell? ⟨nb, p, none⟩ = some (.bool false) := by rw [M2.cN p hp, ← HX.out]
                               have fA := M2.fA
                               have fC := M2.fC
                               have fN := M2.fN
                               have fT := M2.fT
                               rw [← HX.out, Bool.false_or] at R2
                               have R2 : Rec w2 rb sb n ⟨#[82, 85, 78, 78, 73, 78, 71]⟩ ⟨#[102, 111, 114, 119, 97, 114, 100]⟩ (upd st p ⟨#[83, 85, 67, 67, 69, 69, 68, 69, 68]⟩) (upd att p (att p + 1)) catt cmp (upd snt p s) := R2
                               have R3 := ((R2.other (b := ab) (by omega) (by omega) p (.int .i64 (att p + 1))).other (b := nb) (by omega) (by omega) p (.bool s)).other (b := tb) (by omega) (by omega) p (.string ⟨#[83, 85, 67, 67, 69, 69, 68, 69, 68]⟩)
                               have M3 := ((M2.setA p (att p + 1)).setN p s).setT p ⟨#[83, 85, 67, 67, 69, 69, 68, 69, 68]⟩
                               have B3 := ((B2.setCell (p := ⟨ab, p, none⟩) (show w.heap.size ≤ ab by omega) (.int .i64 (att p + 1))).setCell (p := ⟨nb, p, none⟩) (show w.heap.size ≤ nb by omega) (.bool s)).setCell (p := ⟨tb, p, none⟩) (show w.heap.size ≤ tb by omega) (.string ⟨#[83, 85, 67, 67, 69, 69, 68, 69, 68]⟩)
                               clear R2 T2 hblk)
                            | (go_at_call 5; refine (Working_fwd R3 rfl (r := true) (beq_tt rfl)).mono ?_; rintro e w4 ⟨rfl, hb4⟩
                               have R4 := R3.below hb4
                               have cS4 := R4.cS
                               have cD4 := R4.cD))
                          go_roundg (m - (k + 1))
                          case measure => omega
                          case rel => exact ⟨k + 1, false, _, _, _, _, _, _, _, by omega, rfl, by go_num, rfl, ⟨R4, M3.below hb4, B3.trans (hb4.mono B3.size), bump hX.bA p, keep1 hX.bC, hX.hm⟩, fun _ => ⟨p + 1, false, false, by first | rfl | go_num, rfl, rfl, rfl, hS.f1 hp1, rfl, rfl⟩⟩
                      · as_aux_lemma =>
                          go_wp2_with (first
                            | (go_at_call 6; refine (zz_of (settle_F1 RA rfl hn hp ⟨by omega, by omega⟩ s HC)).mono ?_; rintro e w2 ⟨rfl, R2, T2⟩
                               have M2 := MA.touch T2 (by omega) (by omega)
                               have B2 := Tch.below BA T2 (by omega) q0 hsA
                               have hblk := T2.block X.heap.size (by simp) (by omega) (by omega)
                               rw [heap_alloc_new] at hblk
                               have eA0 : w2.cell? ⟨X.heap.size, 0, none⟩ = some (.int .i64 1) := cell_of_row w2 _ 0 _ _ _ hblk
                               have eA1 : w2.cell? ⟨X.heap.size, 1, none⟩ = some (.bool s) := cell_of_row w2 _ 1 _ _ _ hblk
                               have cA := M2.cA p hp
                               have cC := M2.cC p hp
                               have cT := M2.cT p hp
                               have cN : w2.cell? ⟨nb, p, none⟩ = some (.bool true) := by rw [M2.cN p hp, ← HX.out]
                               have fA := M2.fA
                               have fC := M2.fC
                               have fN := M2.fN
                               have fT := M2.fT
                               rw [← HX.out, Bool.true_or] at R2
                               have R2 : Rec w2 rb sb n ⟨#[82, 85, 78, 78, 73, 78, 71]⟩ ⟨#[102, 111, 114, 119, 97, 114, 100]⟩ (upd st p ⟨#[83, 85, 67, 67, 69, 69, 68, 69, 68]⟩) (upd att p (att p + 1)) catt cmp (upd snt p true) := R2
                               have R3 := ((R2.other (b := ab) (by omega) (by omega) p (.int .i64 (att p + 1))).other (b := nb) (by omega) (by omega) p (.bool true)).other (b := tb) (by omega) (by omega) p (.string ⟨#[83, 85, 67, 67, 69, 69, 68, 69, 68]⟩)
                               have M3 := ((M2.setA p (att p + 1)).setN p true).setT p ⟨#[83, 85, 67, 67, 69, 69, 68, 69, 68]⟩
                               have B3 := ((B2.setCell (p := ⟨ab, p, none⟩) (show w.heap.size ≤ ab by omega) (.int .i64 (att p + 1))).setCell (p := ⟨nb, p, none⟩) (show w.heap.size ≤ nb by omega) (.bool true)).setCell (p := ⟨tb, p, none⟩) (show w.heap.size ≤ tb by omega) (.string ⟨#[83, 85, 67, 67, 69, 69, 68, 69, 68]⟩)
                               clear R2 T2 hblk)
                            | (go_at_call 5; refine (Working_fwd R3 rfl (r := true) (beq_tt rfl)).mono ?_; rintro e w4 ⟨rfl, hb4⟩
                               have R4 := R3.below hb4
                               have cS4 := R4.cS
                               have cD4 := R4.cD))
                          go_roundg (m - (k + 1))
                          case measure => omega
                          case rel => exact ⟨k + 1, false, _, _, _, _, _, _, _, by omega, rfl, by go_num, rfl, ⟨R4, M3.below hb4, B3.trans (hb4.mono B3.size), bump hX.bA p, keep1 hX.bC, hX.hm⟩, fun _ => ⟨p + 1, false, false, by first | rfl | go_num, rfl, rfl, rfl, hS.f1 hp1, rfl, rfl⟩⟩
                    · have z1 : (((p : Int) + 1) == (n : Int)) = true := by simp; omega
                      have HC : Hid (false = true ↔ ∃ k, k < n ∧ upd st p ⟨#[83, 85, 67, 67, 69, 69, 68, 69, 68]⟩ k ≠ ⟨#[83, 85, 67, 67, 69, 69, 68, 69, 68]⟩) := show _ ↔ _ by rw [← hS.f1_c]; simp [hp1]
                      clear hp1
                      cases x
                      · as_aux_lemma =>
                          go_wp2_with (first
                            | (go_at_call 6; refine (zz_of (settle_F1 RA rfl hn hp ⟨by omega, by omega⟩ s HC)).mono ?_; rintro e w2 ⟨rfl, R2, T2⟩
                               have M2 := MA.touch T2 (by omega) (by omega)
                               have B2 := Tch.below BA T2 (by omega) q0 hsA
                               have hblk := T2.block X.heap.size (by simp) (by omega) (by omega)
                               rw [heap_alloc_new] at hblk
                               have eA0 : w2.cell? ⟨X.heap.size, 0, none⟩ = some (.int .i64 1) := cell_of_row w2 _ 0 _ _ _ hblk
                               have eA1 : w2.cell? ⟨X.heap.size, 1, none⟩ = some (.bool s) := cell_of_row w2 _ 1 _ _ _ hblk
                               have cA := M2.cA p hp
                               have cC := M2.cC p hp
                               have cT := M2.cT p hp
                               have cN : w2.cell? ⟨nb, p, none⟩ = some (.bool false) := by rw [M2.cN p hp, ← HX.out]
                               have fA := M2.fA
                               have fC := M2.fC
                               have fN := M2.fN
                               have fT := M2.fT
                               rw [← HX.out, Bool.false_or] at R2
                               have R2 : Rec w2 rb sb n ⟨#[67, 79, 77, 80, 76, 69, 84, 69, 68]⟩ ⟨#[102, 111, 114, 119, 97, 114, 100]⟩ (upd st p ⟨#[83, 85, 67, 67, 69, 69, 68, 69, 68]⟩) (upd att p (att p + 1)) catt cmp (upd snt p s) := R2
                               have R3 := ((R2.other (b := ab) (by omega) (by omega) p (.int .i64 (att p + 1))).other (b := nb) (by omega) (by omega) p (.bool s)).other (b := tb) (by omega) (by omega) p (.string ⟨#[83, 85, 67, 67, 69, 69, 68, 69, 68]⟩)
                               have M3 := ((M2.setA p (att p + 1)).setN p s).setT p ⟨#[83, 85, 67, 67, 69, 69, 68, 69, 68]⟩
                               have B3 := ((B2.setCell (p := ⟨ab, p, none⟩) (show w.heap.size ≤ ab by omega) (.int .i64 (att p + 1))).setCell (p := ⟨nb, p, none⟩) (show w.heap.size ≤ nb by omega) (.bool s)).setCell (p := ⟨tb, p, none⟩) (show w.heap.size ≤ tb by omega) (.string ⟨#[83, 85, 67, 67, 69, 69, 68, 69, 68]⟩)
                               clear R2 T2 hblk)
                            | (go_at_call 5; refine (Working_fwd R3 rfl (r := false) (beq_ff (s := ⟨#[82, 85, 78, 78, 73, 78, 71]⟩) (by decide))).mono ?_; rintro e w4 ⟨rfl, hb4⟩
                               have R4 := R3.below hb4
                               have cS4 := R4.cS
                               have cD4 := R4.cD))
                          go_roundg (m - (k + 1))
                          case measure => omega
                          case rel => exact ⟨k + 1, true, _, _, _, _, _, _, _, by omega, rfl, by go_num, rfl, ⟨R4, M3.below hb4, B3.trans (hb4.mono B3.size), bump hX.bA p, keep1 hX.bC, hX.hm⟩, fun h => by cases h⟩
                      · as_aux_lemma =>
                          go_wp2_with (first
                            | (go_at_call 6; refine (zz_of (settle_F1 RA rfl hn hp ⟨by omega, by omega⟩ s HC)).mono ?_; rintro e w2 ⟨rfl, R2, T2⟩
                               have M2 := MA.touch T2 (by omega) (by omega)
                               have B2 := Tch.below BA T2 (by omega) q0 hsA
                               have hblk := T2.block X.heap.size (by simp) (by omega) (by omega)
                               rw [heap_alloc_new] at hblk
                               have eA0 : w2.cell? ⟨X.heap.size, 0, none⟩ = some (.int .i64 1) := cell_of_row w2 _ 0 _ _ _ hblk
                               have eA1 : w2.cell? ⟨X.heap.size, 1, none⟩ = some (.bool s) := cell_of_row w2 _ 1 _ _ _ hblk
                               have cA := M2.cA p hp
                               have cC := M2.cC p hp
                               have cT := M2.cT p hp
                               have cN : w2.cell? ⟨nb, p, none⟩ = some (.bool true) := by rw [M2.cN p hp, ← HX.out]
                               have fA := M2.fA
                               have fC := M2.fC
                               have fN := M2.fN
                               have fT := M2.fT
                               rw [← HX.out, Bool.true_or] at R2
                               have R2 : Rec w2 rb sb n ⟨#[67, 79, 77, 80, 76, 69, 84, 69, 68]⟩ ⟨#[102, 111, 114, 119, 97, 114, 100]⟩ (upd st p ⟨#[83, 85, 67, 67, 69, 69, 68, 69, 68]⟩) (upd att p (att p + 1)) catt cmp (upd snt p true) := R2
                               have R3 := ((R2.other (b := ab) (by omega) (by omega) p (.int .i64 (att p + 1))).other (b := nb) (by omega) (by omega) p (.bool true)).other (b := tb) (by omega) (by omega) p (.string ⟨#[83, 85, 67, 67, 69, 69, 68, 69, 68]⟩)
                               have M3 := ((M2.setA p (att p + 1)).setN p true).setT p ⟨#[83, 85, 67, 67, 69, 69, 68, 69, 68]⟩
                               have B3 := ((B2.setCell (p := ⟨ab, p, none⟩) (show w.heap.size ≤ ab by omega) (.int .i64 (att p + 1))).setCell (p := ⟨nb, p, none⟩) (show w.heap.size ≤ nb by omega) (.bool true)).setCell (p := ⟨tb, p, none⟩) (show w.heap.size ≤ tb by omega) (.string ⟨#[83, 85, 67, 67, 69, 69, 68, 69, 68]⟩)
                               clear R2 T2 hblk)
                            | (go_at_call 5; refine (Working_fwd R3 rfl (r := false) (beq_ff (s := ⟨#[82, 85, 78, 78, 73, 78, 71]⟩) (by decide))).mono ?_; rintro e w4 ⟨rfl, hb4⟩
                               have R4 := R3.below hb4
                               have cS4 := R4.cS
                               have cD4 := R4.cD))
                          go_roundg (m - (k + 1))
                          case measure => omega
                          case rel => exact ⟨k + 1, true, _, _, _, _, _, _, _, by omega, rfl, by go_num, rfl, ⟨R4, M3.below hb4, B3.trans (hb4.mono B3.size), bump hX.bA p, keep1 hX.bC, hX.hm⟩, fun h => by cases h⟩
                  by_cases c2 : c = 2
                  · subst c2
                    clear c0 c1
                    have HT : Hid (∀ k, k < n → upd st p ⟨#[70, 65, 73, 76, 69, 68]⟩ k ≠ ⟨#[84, 73, 77, 69, 68, 95, 79, 85, 84]⟩) := hS.f2_t
                    cases hq : prevC hc p with
                    | none =>
                      have HQ : Hid (prevC hc p = none) := hq
                      have HC : Hid (false = true ↔ ∃ k, k < n ∧ upd st p ⟨#[70, 65, 73, 76, 69, 68]⟩ k = ⟨#[83, 85, 67, 67, 69, 69, 68, 69, 68]⟩ ∧ (cmp k).isSome = true) := hS.f2_c hX.hm hq
                      clear hq
                      cases x
                      · as_aux_lemma =>
                          go_wp2_with (first
                            | (go_at_call 6; refine (zz_of (settle_F2 RA rfl hn hp ⟨by omega, by omega⟩ s HT HC)).mono ?_; rintro e w2 ⟨rfl, R2, T2⟩
                               have M2 := MA.touch T2 (by omega) (by omega)
                               have B2 := Tch.below BA T2 (by omega) q0 hsA
                               have hblk := T2.block X.heap.size (by simp) (by omega) (by omega)
                               rw [heap_alloc_new] at hblk
                               have eA0 : w2.cell? ⟨X.heap.size, 0, none⟩ = some (.int .i64 2) := cell_of_row w2 _ 0 _ _ _ hblk
                               have eA1 : w2.cell? ⟨X.heap.size, 1, none⟩ = some (.bool s) := cell_of_row w2 _ 1 _ _ _ hblk
                               have cA := M2.cA p hp
                               have cC := M2.cC p hp
                               have cT := M2.cT p hp
                               have cN : w2.cell? ⟨nb, p, none⟩ = some (.bool false) := by rw [M2.cN p hp, ← HX.out]
                               have fA := M2.fA
                               have fC := M2.fC
                               have fN := M2.fN
                               have fT := M2.fT
                               rw [← HX.out, Bool.false_or] at R2
                               have R2 : Rec w2 rb sb n ⟨#[67, 79, 77, 80, 69, 78, 83, 65, 84, 69, 68]⟩ ⟨#[98, 97, 99, 107, 119, 97, 114, 100]⟩ (upd st p ⟨#[70, 65, 73, 76, 69, 68]⟩) (upd att p (att p + 1)) catt cmp (upd snt p s) := R2
                               have R3 := ((R2.other (b := ab) (by omega) (by omega) p (.int .i64 (att p + 1))).other (b := nb) (by omega) (by omega) p (.bool s)).other (b := tb) (by omega) (by omega) p (.string ⟨#[70, 65, 73, 76, 69, 68]⟩)
                               have M3 := ((M2.setA p (att p + 1)).setN p s).setT p ⟨#[70, 65, 73, 76, 69, 68]⟩
                               have B3 := ((B2.setCell (p := ⟨ab, p, none⟩) (show w.heap.size ≤ ab by omega) (.int .i64 (att p + 1))).setCell (p := ⟨nb, p, none⟩) (show w.heap.size ≤ nb by omega) (.bool s)).setCell (p := ⟨tb, p, none⟩) (show w.heap.size ≤ tb by omega) (.string ⟨#[70, 65, 73, 76, 69, 68]⟩)
                               clear R2 T2 hblk)
                            | (go_at_call 7; refine (prev_none (h1.below B3) (by omega) hn HQ).mono ?_; rintro e w5 ⟨rfl, hw⟩; obtain rfl := hw.symm)
                            | (go_at_call 5; refine (Working_back R3 rfl (r := false) (beq_ff (s := ⟨#[67, 79, 77, 80, 69, 78, 83, 65, 84, 73, 78, 71]⟩) (by decide))).mono ?_; rintro e w4 ⟨rfl, hb4⟩
                               have R4 := R3.below hb4
                               have cS4 := R4.cS
                               have cD4 := R4.cD))
                          go_roundg (m - (k + 1))
                          case measure => omega
                          case rel => exact ⟨k + 1, true, _, _, _, _, _, _, _, by omega, rfl, by go_num, rfl, ⟨R4, M3.below hb4, B3.trans (hb4.mono B3.size), bump hX.bA p, keep1 hX.bC, hX.hm⟩, fun h => by cases h⟩
                      · as_aux_lemma =>
                          go_wp2_with (first
                            | (go_at_call 6; refine (zz_of (settle_F2 RA rfl hn hp ⟨by omega, by omega⟩ s HT HC)).mono ?_; rintro e w2 ⟨rfl, R2, T2⟩
                               have M2 := MA.touch T2 (by omega) (by omega)
                               have B2 := Tch.below BA T2 (by omega) q0 hsA
                               have hblk := T2.block X.heap.size (by simp) (by omega) (by omega)
                               rw [heap_alloc_new] at hblk
                               have eA0 : w2.cell? ⟨X.heap.size, 0, none⟩ = some (.int .i64 2) := cell_of_row w2 _ 0 _ _ _ hblk
                               have eA1 : w2.cell? ⟨X.heap.size, 1, none⟩ = some (.bool s) := cell_of_row w2 _ 1 _ _ _ hblk
                               have cA := M2.cA p hp
                               have cC := M2.cC p hp
                               have cT := M2.cT p hp
                               have cN : w2.cell? ⟨nb, p, none⟩ = some (.bool true) := by rw [M2.cN p hp, ← HX.out]
                               have fA := M2.fA
                               have fC := M2.fC
                               have fN := M2.fN
                               have fT := M2.fT
                               rw [← HX.out, Bool.true_or] at R2
                               have R2 : Rec w2 rb sb n ⟨#[67, 79, 77, 80, 69, 78, 83, 65, 84, 69, 68]⟩ ⟨#[98, 97, 99, 107, 119, 97, 114, 100]⟩ (upd st p ⟨#[70, 65, 73, 76, 69, 68]⟩) (upd att p (att p + 1)) catt cmp (upd snt p true) := R2
                               have R3 := ((R2.other (b := ab) (by omega) (by omega) p (.int .i64 (att p + 1))).other (b := nb) (by omega) (by omega) p (.bool true)).other (b := tb) (by omega) (by omega) p (.string ⟨#[70, 65, 73, 76, 69, 68]⟩)
                               have M3 := ((M2.setA p (att p + 1)).setN p true).setT p ⟨#[70, 65, 73, 76, 69, 68]⟩
                               have B3 := ((B2.setCell (p := ⟨ab, p, none⟩) (show w.heap.size ≤ ab by omega) (.int .i64 (att p + 1))).setCell (p := ⟨nb, p, none⟩) (show w.heap.size ≤ nb by omega) (.bool true)).setCell (p := ⟨tb, p, none⟩) (show w.heap.size ≤ tb by omega) (.string ⟨#[70, 65, 73, 76, 69, 68]⟩)
                               clear R2 T2 hblk)
                            | (go_at_call 7; refine (prev_none (h1.below B3) (by omega) hn HQ).mono ?_; rintro e w5 ⟨rfl, hw⟩; obtain rfl := hw.symm)
                            | (go_at_call 5; refine (Working_back R3 rfl (r := false) (beq_ff (s := ⟨#[67, 79, 77, 80, 69, 78, 83, 65, 84, 73, 78, 71]⟩) (by decide))).mono ?_; rintro e w4 ⟨rfl, hb4⟩
                               have R4 := R3.below hb4
                               have cS4 := R4.cS
                               have cD4 := R4.cD))
                          go_roundg (m - (k + 1))
                          case measure => omega
                          case rel => exact ⟨k + 1, true, _, _, _, _, _, _, _, by omega, rfl, by go_num, rfl, ⟨R4, M3.below hb4, B3.trans (hb4.mono B3.size), bump hX.bA p, keep1 hX.bC, hX.hm⟩, fun h => by cases h⟩
                    | some j =>
                      have HQ : Hid (prevC hc p = some j) := hq
                      have HC : Hid (true = true ↔ ∃ k, k < n ∧ upd st p ⟨#[70, 65, 73, 76, 69, 68]⟩ k = ⟨#[83, 85, 67, 67, 69, 69, 68, 69, 68]⟩ ∧ (cmp k).isSome = true) := hS.f2_c hX.hm hq
                      clear hq
                      cases x
                      · as_aux_lemma =>
                          go_wp2_with (first
                            | (go_at_call 6; refine (zz_of (settle_F2 RA rfl hn hp ⟨by omega, by omega⟩ s HT HC)).mono ?_; rintro e w2 ⟨rfl, R2, T2⟩
                               have M2 := MA.touch T2 (by omega) (by omega)
                               have B2 := Tch.below BA T2 (by omega) q0 hsA
                               have hblk := T2.block X.heap.size (by simp) (by omega) (by omega)
                               rw [heap_alloc_new] at hblk
                               have eA0 : w2.cell? ⟨X.heap.size, 0, none⟩ = some (.int .i64 2) := cell_of_row w2 _ 0 _ _ _ hblk
                               have eA1 : w2.cell? ⟨X.heap.size, 1, none⟩ = some (.bool s) := cell_of_row w2 _ 1 _ _ _ hblk
                               have cA := M2.cA p hp
                               have cC := M2.cC p hp
                               have cT := M2.cT p hp
                               have cN : w2.cell? ⟨nb, p, none⟩ = some (.bool false) := by rw [M2.cN p hp, ← HX.out]
                               have fA := M2.fA
                               have fC := M2.fC
                               have fN := M2.fN
                               have fT := M2.fT
                               rw [← HX.out, Bool.false_or] at R2
                               have R2 : Rec w2 rb sb n ⟨#[67, 79, 77, 80, 69, 78, 83, 65, 84, 73, 78, 71]⟩ ⟨#[98, 97, 99, 107, 119, 97, 114, 100]⟩ (upd st p ⟨#[70, 65, 73, 76, 69, 68]⟩) (upd att p (att p + 1)) catt cmp (upd snt p s) := R2
                               have R3 := ((R2.other (b := ab) (by omega) (by omega) p (.int .i64 (att p + 1))).other (b := nb) (by omega) (by omega) p (.bool s)).other (b := tb) (by omega) (by omega) p (.string ⟨#[70, 65, 73, 76, 69, 68]⟩)
                               have M3 := ((M2.setA p (att p + 1)).setN p s).setT p ⟨#[70, 65, 73, 76, 69, 68]⟩
                               have B3 := ((B2.setCell (p := ⟨ab, p, none⟩) (show w.heap.size ≤ ab by omega) (.int .i64 (att p + 1))).setCell (p := ⟨nb, p, none⟩) (show w.heap.size ≤ nb by omega) (.bool s)).setCell (p := ⟨tb, p, none⟩) (show w.heap.size ≤ tb by omega) (.string ⟨#[70, 65, 73, 76, 69, 68]⟩)
                               clear R2 T2 hblk)
                            | (go_at_call 7; refine (prev_some (h1.below B3) (by omega) hn HQ).mono ?_; rintro e w5 ⟨rfl, hw⟩; obtain rfl := hw.symm)
                            | (go_at_call 5; refine (Working_back R3 rfl (r := true) (beq_tt rfl)).mono ?_; rintro e w4 ⟨rfl, hb4⟩
                               have R4 := R3.below hb4
                               have cS4 := R4.cS
                               have cD4 := R4.cD))
                          go_roundg (m - (k + 1))
                          case measure => omega
                          case rel => exact ⟨k + 1, false, _, _, _, _, _, _, _, by omega, rfl, by go_num, rfl, ⟨R4, M3.below hb4, B3.trans (hb4.mono B3.size), bump hX.bA p, keep1 hX.bC, hX.hm⟩, fun _ => ⟨j, true, false, by first | rfl | go_num, rfl, rfl, rfl, hS.f2 HQ.out, rfl, rfl⟩⟩
                      · as_aux_lemma =>
                          go_wp2_with (first
                            | (go_at_call 6; refine (zz_of (settle_F2 RA rfl hn hp ⟨by omega, by omega⟩ s HT HC)).mono ?_; rintro e w2 ⟨rfl, R2, T2⟩
                               have M2 := MA.touch T2 (by omega) (by omega)
                               have B2 := Tch.below BA T2 (by omega) q0 hsA
                               have hblk := T2.block X.heap.size (by simp) (by omega) (by omega)
                               rw [heap_alloc_new] at hblk
                               have eA0 : w2.cell? ⟨X.heap.size, 0, none⟩ = some (.int .i64 2) := cell_of_row w2 _ 0 _ _ _ hblk
                               have eA1 : w2.cell? ⟨X.heap.size, 1, none⟩ = some (.bool s) := cell_of_row w2 _ 1 _ _ _ hblk
                               have cA := M2.cA p hp
                               have cC := M2.cC p hp
                               have cT := M2.cT p hp
                               have cN : w2.cell? ⟨nb, p, none⟩ = some (.bool true) := by rw [M2.cN p hp, ← HX.out]
                               have fA := M2.fA
                               have fC := M2.fC
                               have fN := M2.fN
                               have fT := M2.fT
                               rw [← HX.out, Bool.true_or] at R2
                               have R2 : Rec w2 rb sb n ⟨#[67, 79, 77, 80, 69, 78, 83, 65, 84, 73, 78, 71]⟩ ⟨#[98, 97, 99, 107, 119, 97, 114, 100]⟩ (upd st p ⟨#[70, 65, 73, 76, 69, 68]⟩) (upd att p (att p + 1)) catt cmp (upd snt p true) := R2
                               have R3 := ((R2.other (b := ab) (by omega) (by omega) p (.int .i64 (att p + 1))).other (b := nb) (by omega) (by omega) p (.bool true)).other (b := tb) (by omega) (by omega) p (.string ⟨#[70, 65, 73, 76, 69, 68]⟩)
                               have M3 := ((M2.setA p (att p + 1)).setN p true).setT p ⟨#[70, 65, 73, 76, 69, 68]⟩
                               have B3 := ((B2.setCell (p := ⟨ab, p, none⟩) (show w.heap.size ≤ ab by omega) (.int .i64 (att p + 1))).setCell (p := ⟨nb, p, none⟩) (show w.heap.size ≤ nb by omega) (.bool true)).setCell (p := ⟨tb, p, none⟩) (show w.heap.size ≤ tb by omega) (.string ⟨#[70, 65, 73, 76, 69, 68]⟩)
                               clear R2 T2 hblk)
                            | (go_at_call 7; refine (prev_some (h1.below B3) (by omega) hn HQ).mono ?_; rintro e w5 ⟨rfl, hw⟩; obtain rfl := hw.symm)
                            | (go_at_call 5; refine (Working_back R3 rfl (r := true) (beq_tt rfl)).mono ?_; rintro e w4 ⟨rfl, hb4⟩
                               have R4 := R3.below hb4
                               have cS4 := R4.cS
                               have cD4 := R4.cD))
                          go_roundg (m - (k + 1))
                          case measure => omega
                          case rel => exact ⟨k + 1, false, _, _, _, _, _, _, _, by omega, rfl, by go_num, rfl, ⟨R4, M3.below hb4, B3.trans (hb4.mono B3.size), bump hX.bA p, keep1 hX.bC, hX.hm⟩, fun _ => ⟨j, true, false, by first | rfl | go_num, rfl, rfl, rfl, hS.f2 HQ.out, rfl, rfl⟩⟩
                  have x0 : (c == 0) = false := by simp; exact c0
                  have x1 : (c == 1) = false := by simp; exact c1
                  have x2 : (c == 2) = false := by simp; exact c2
                  have HC : Hid (true = true ↔ ∃ k, k < n ∧ st k ≠ ⟨#[83, 85, 67, 67, 69, 69, 68, 69, 68]⟩) := hS.fx_c
                  clear c0 c1 c2
                  cases x
                  · as_aux_lemma =>
                      go_wp2_with (first
                        | (go_at_call 6; refine (zz_of (settle_FX RA rfl hn hp ⟨by omega, by omega⟩ x0 x1 x2 s HC)).mono ?_; rintro e w2 ⟨rfl, R2, T2⟩
                           have M2 := MA.touch T2 (by omega) (by omega)
                           have B2 := Tch.below BA T2 (by omega) q0 hsA
                           have hblk := T2.block X.heap.size (by simp) (by omega) (by omega)
                           rw [heap_alloc_new] at hblk
                           have eA0 : w2.cell? ⟨X.heap.size, 0, none⟩ = some (.int .i64 c) := cell_of_row w2 _ 0 _ _ _ hblk
                           have eA1 : w2.cell? ⟨X.heap.size, 1, none⟩ = some (.bool s) := cell_of_row w2 _ 1 _ _ _ hblk
                           have cA := M2.cA p hp
                           have cC := M2.cC p hp
                           have cT := M2.cT p hp
                           have cN : w2.cell? ⟨nb, p, none⟩ = some (.bool false) := by rw [M2.cN p hp, ← HX.out]
                           have fA := M2.fA
                           have fC := M2.fC
                           have fN := M2.fN
                           have fT := M2.fT
                           rw [← HX.out, Bool.false_or] at R2
                           have R2 : Rec w2 rb sb n ⟨#[82, 85, 78, 78, 73, 78, 71]⟩ ⟨#[102, 111, 114, 119, 97, 114, 100]⟩ st (upd att p (att p + 1)) catt cmp (upd snt p s) := R2
                           have R3 := (R2.other (b := ab) (by omega) (by omega) p (.int .i64 (att p + 1))).other (b := nb) (by omega) (by omega) p (.bool s)
                           have M3 := (M2.setA p (att p + 1)).setN p s
                           have B3 := (B2.setCell (p := ⟨ab, p, none⟩) (show w.heap.size ≤ ab by omega) (.int .i64 (att p + 1))).setCell (p := ⟨nb, p, none⟩) (show w.heap.size ≤ nb by omega) (.bool s)
                           clear R2 T2 hblk)
                        | (go_at_call 5; refine (Working_fwd R3 rfl (r := true) (beq_tt rfl)).mono ?_; rintro e w4 ⟨rfl, hb4⟩
                           have R4 := R3.below hb4
                           have cS4 := R4.cS
                           have cD4 := R4.cD))
                      go_roundg (m - (k + 1))
                      case measure => omega
                      case rel => exact ⟨k + 1, false, _, _, _, _, _, _, _, by omega, rfl, by go_num, rfl, ⟨R4, M3.below hb4, B3.trans (hb4.mono B3.size), bump hX.bA p, keep1 hX.bC, hX.hm⟩, fun _ => ⟨p, false, false, by first | rfl | go_num, rfl, rfl, rfl, hS, rfl, rfl⟩⟩
                  · as_aux_lemma =>
                      go_wp2_with (first
                        | (go_at_call 6; refine (zz_of (settle_FX RA rfl hn hp ⟨by omega, by omega⟩ x0 x1 x2 s HC)).mono ?_; rintro e w2 ⟨rfl, R2, T2⟩
                           have M2 := MA.touch T2 (by omega) (by omega)
                           have B2 := Tch.below BA T2 (by omega) q0 hsA
                           have hblk := T2.block X.heap.size (by simp) (by omega) (by omega)
                           rw [heap_alloc_new] at hblk
                           have eA0 : w2.cell? ⟨X.heap.size, 0, none⟩ = some (.int .i64 c) := cell_of_row w2 _ 0 _ _ _ hblk
                           have eA1 : w2.cell? ⟨X.heap.size, 1, none⟩ = some (.bool s) := cell_of_row w2 _ 1 _ _ _ hblk
                           have cA := M2.cA p hp
                           have cC := M2.cC p hp
                           have cT := M2.cT p hp
                           have cN : w2.cell? ⟨nb, p, none⟩ = some (.bool true) := by rw [M2.cN p hp, ← HX.out]
                           have fA := M2.fA
                           have fC := M2.fC
                           have fN := M2.fN
                           have fT := M2.fT
                           rw [← HX.out, Bool.true_or] at R2
                           have R2 : Rec w2 rb sb n ⟨#[82, 85, 78, 78, 73, 78, 71]⟩ ⟨#[102, 111, 114, 119, 97, 114, 100]⟩ st (upd att p (att p + 1)) catt cmp (upd snt p true) := R2
                           have R3 := (R2.other (b := ab) (by omega) (by omega) p (.int .i64 (att p + 1))).other (b := nb) (by omega) (by omega) p (.bool true)
                           have M3 := (M2.setA p (att p + 1)).setN p true
                           have B3 := (B2.setCell (p := ⟨ab, p, none⟩) (show w.heap.size ≤ ab by omega) (.int .i64 (att p + 1))).setCell (p := ⟨nb, p, none⟩) (show w.heap.size ≤ nb by omega) (.bool true)
                           clear R2 T2 hblk)
                        | (go_at_call 5; refine (Working_fwd R3 rfl (r := true) (beq_tt rfl)).mono ?_; rintro e w4 ⟨rfl, hb4⟩
                           have R4 := R3.below hb4
                           have cS4 := R4.cS
                           have cD4 := R4.cD))
                      go_roundg (m - (k + 1))
                      case measure => omega
                      case rel => exact ⟨k + 1, false, _, _, _, _, _, _, _, by omega, rfl, by go_num, rfl, ⟨R4, M3.below hb4, B3.trans (hb4.mono B3.size), bump hX.bA p, keep1 hX.bC, hX.hm⟩, fun _ => ⟨p, false, false, by first | rfl | go_num, rfl, rfl, rfl, hS, rfl, rfl⟩⟩
                · -- backward
                  go_upto_if 100 with fail
                  go_cut [15] (fun s15 wx => s15 = .bool false ∧ All w wx rb sb tb ab cb nb n k hc ⟨#[67, 79, 77, 80, 69, 78, 83, 65, 84, 73, 78, 71]⟩ ⟨#[98, 97, 99, 107, 119, 97, 114, 100]⟩ st att catt cmp snt)
                  case first =>
                    have rl := hA.r.rl
                    have cS := hA.r.cS
                    have fr := hA.r.fr
                    have q0 : w.heap.size ≤ rb := by have := q3.out; omega
                    cases z
                    · go_wp2
                      go_meet
                      exact ⟨rfl, hA⟩
                    · go_wp2
                      go_meet
                      exact ⟨rfl, hA.r.setS _, hA.m.other q2 _ _, hA.b.setCell (p := ⟨rb, 4, none⟩) q0 _, hA.bA, hA.bC, hA.hm⟩
                  case rest =>
                  rename World => X
                  obtain ⟨rfl, hX⟩ := hcut
                  clear hA
                  have hp := hS.lt
                  obtain ⟨c, hc0⟩ : ∃ c, c = cl k := ⟨_, rfl⟩
                  obtain ⟨s, hs0⟩ : ∃ s, s = sn k := ⟨_, rfl⟩
                  have d0 : X.cell? ⟨b2, off2 + 2 * k, none⟩ = some (.int .i64 c) := by rw [hc0]; exact (h2.below hX.b).cell k hlt
                  have d1 : X.cell? ⟨b2, off2 + 2 * k + 1, none⟩ = some (.bool s) := by rw [hs0]; exact (h2.below hX.b).cell1 k hlt
                  have bl2 : b2 < X.heap.size := (h2.below hX.b).low (by omega)
                  clear hc0 hs0
                  have rl := hX.r.rl
                  have sl := hX.r.sl
                  have nl := hX.m.lt
                  have o1 := hX.m.o1
                  have o2 := hX.m.o2
                  have o3 := hX.m.o3
                  have q0 : w.heap.size ≤ sb := by rw [q3.out]; exact Nat.le_refl _
                  have bp := hX.bA p
                  have bq := hX.bC p
                  obtain ⟨x, hx⟩ : ∃ x, x = snt p := ⟨_, rfl⟩
                  have HX : Hid (x = snt p) := hx
                  clear hx
                  have BA : Below w.heap.size w (X.alloc (.cells #[.int .i64 c, .bool s] 45)) := hX.b.alloc hX.b.size _
                  have RA := hX.r.below ((Below.refl _ X).alloc (Nat.le_refl _) (.cells #[.int .i64 c, .bool s] 45))
                  have MA := hX.m.below ((Below.refl _ X).alloc (Nat.le_refl _) (.cells #[.int .i64 c, .bool s] 45))
                  have hsA : w.heap.size ≤ (X.alloc (.cells #[.int .i64 c, .bool s] 45)).heap.size := BA.size
                  by_cases c0 : c = 0
                  · subst c0
                    as_aux_lemma =>
                      go_wp2_with (first
                        | (go_at_call 6; refine (zz_of (settle_B0 RA rfl hp ⟨by omega, by omega⟩ s)).mono ?_; rintro e w2 ⟨rfl, R2, T2⟩
                           have M2 := MA.touch T2 (by omega) (by omega)
                           have B2 := Tch.below BA T2 (by omega) q0 hsA
                           have hblk := T2.block X.heap.size (by simp) (by omega) (by omega)
                           rw [heap_alloc_new] at hblk
                           have eA0 : w2.cell? ⟨X.heap.size, 0, none⟩ = some (.int .i64 0) := cell_of_row w2 _ 0 _ _ _ hblk
                           have eA1 : w2.cell? ⟨X.heap.size, 1, none⟩ = some (.bool s) := cell_of_row w2 _ 1 _ _ _ hblk
                           have cA := M2.cA p hp
                           have cC := M2.cC p hp
                           have cT := M2.cT p hp
                           have fA := M2.fA
                           have fC := M2.fC
                           have fN := M2.fN
                           have fT := M2.fT
                           have R2 : Rec w2 rb sb n ⟨#[70, 65, 73, 76, 69, 68, 95, 87, 73, 84, 72, 95, 82, 69, 84, 82, 89, 65, 66, 76, 69, 95, 69, 82, 82, 79, 82]⟩ ⟨#[98, 97, 99, 107, 119, 97, 114, 100]⟩ st att (upd catt p (catt p + 1)) cmp snt := R2
                           have R3 := R2.other (b := cb) (by omega) (by omega) p (.int .i64 (catt p + 1))
                           have M3 := M2.setC p (catt p + 1)
                           have B3 := B2.setCell (p := ⟨cb, p, none⟩) (show w.heap.size ≤ cb by omega) (.int .i64 (catt p + 1))
                           clear R2 T2 hblk)
                        | (go_at_call 5; refine (Working_back R3 rfl (r := false) (beq_ff (s := ⟨#[67, 79, 77, 80, 69, 78, 83, 65, 84, 73, 78, 71]⟩) (by decide))).mono ?_; rintro e w4 ⟨rfl, hb4⟩
                           have R4 := R3.below hb4
                           have cS4 := R4.cS
                           have cD4 := R4.cD))
                      go_roundg (m - (k + 1))
                      case measure => omega
                      case rel => exact ⟨k + 1, false, _, _, _, _, _, _, _, by omega, rfl, by go_num, rfl, ⟨R4, M3.below hb4, B3.trans (hb4.mono B3.size), keep1 hX.bA, bump hX.bC p, hX.hm⟩, fun _ => ⟨p, true, true, by first | rfl | go_num, rfl, rfl, rfl, hS, rfl, rfl⟩⟩
                  by_cases c1 : c = 1
                  · subst c1
                    clear c0
                    have HT : Hid (∀ k, k < n → (upd (upd st p ⟨#[83, 85, 67, 67, 69, 69, 68, 69, 68]⟩) p ⟨#[67, 79, 77, 80, 69, 78, 83, 65, 84, 69, 68]⟩) k ≠ ⟨#[84, 73, 77, 69, 68, 95, 79, 85, 84]⟩) := by rw [upd_upd]; exact hS.b1_t
                    cases hq : prevC hc p with
                    | none =>
                      have HQ : Hid (prevC hc p = none) := hq
                      have HC : Hid (false = true ↔ ∃ k, k < n ∧ (upd (upd st p ⟨#[83, 85, 67, 67, 69, 69, 68, 69, 68]⟩) p ⟨#[67, 79, 77, 80, 69, 78, 83, 65, 84, 69, 68]⟩) k = ⟨#[83, 85, 67, 67, 69, 69, 68, 69, 68]⟩ ∧ (cmp k).isSome = true) := by rw [upd_upd]; exact hS.b1_c hX.hm hq
                      clear hq
                      as_aux_lemma =>
                        go_wp2_with (first
                          | (go_at_call 6; refine (zz_of (settle_B1 RA rfl hn hp ⟨by omega, by omega⟩ s HT HC)).mono ?_; rintro e w2 ⟨rfl, R2, T2⟩
                             have M2 := MA.touch T2 (by omega) (by omega)
                             have B2 := Tch.below BA T2 (by omega) q0 hsA
                             have hblk := T2.block X.heap.size (by simp) (by omega) (by omega)
                             rw [heap_alloc_new] at hblk
                             have eA0 : w2.cell? ⟨X.heap.size, 0, none⟩ = some (.int .i64 1) := cell_of_row w2 _ 0 _ _ _ hblk
                             have eA1 : w2.cell? ⟨X.heap.size, 1, none⟩ = some (.bool s) := cell_of_row w2 _ 1 _ _ _ hblk
                             have cA := M2.cA p hp
                             have cC := M2.cC p hp
                             have cT := M2.cT p hp
                             have fA := M2.fA
                             have fC := M2.fC
                             have fN := M2.fN
                             have fT := M2.fT
                             rw [upd_upd] at R2
                             have R2 : Rec w2 rb sb n ⟨#[67, 79, 77, 80, 69, 78, 83, 65, 84, 69, 68]⟩ ⟨#[98, 97, 99, 107, 119, 97, 114, 100]⟩ (upd st p ⟨#[67, 79, 77, 80, 69, 78, 83, 65, 84, 69, 68]⟩) att (upd catt p (catt p + 1)) cmp snt := R2
                             have R3 := (R2.other (b := cb) (by omega) (by omega) p (.int .i64 (catt p + 1))).other (b := tb) (by omega) (by omega) p (.string ⟨#[67, 79, 77, 80, 69, 78, 83, 65, 84, 69, 68]⟩)
                             have M3 := (M2.setC p (catt p + 1)).setT p ⟨#[67, 79, 77, 80, 69, 78, 83, 65, 84, 69, 68]⟩
                             have B3 := (B2.setCell (p := ⟨cb, p, none⟩) (show w.heap.size ≤ cb by omega) (.int .i64 (catt p + 1))).setCell (p := ⟨tb, p, none⟩) (show w.heap.size ≤ tb by omega) (.string ⟨#[67, 79, 77, 80, 69, 78, 83, 65, 84, 69, 68]⟩)
                             clear R2 T2 hblk)
                          | (go_at_call 7; refine (prev_none (h1.below B3) (by omega) hn HQ).mono ?_; rintro e w5 ⟨rfl, hw⟩; obtain rfl := hw.symm)
                          | (go_at_call 5; refine (Working_back R3 rfl (r := false) (beq_ff (s := ⟨#[67, 79, 77, 80, 69, 78, 83, 65, 84, 73, 78, 71]⟩) (by decide))).mono ?_; rintro e w4 ⟨rfl, hb4⟩
                             have R4 := R3.below hb4
                             have cS4 := R4.cS
                             have cD4 := R4.cD))
                        go_roundg (m - (k + 1))
                        case measure => omega
                        case rel => exact ⟨k + 1, true, _, _, _, _, _, _, _, by omega, rfl, by go_num, rfl, ⟨R4, M3.below hb4, B3.trans (hb4.mono B3.size), keep1 hX.bA, bump hX.bC p, hX.hm⟩, fun h => by cases h⟩
                    | some j =>
                      have HQ : Hid (prevC hc p = some j) := hq
                      have HC : Hid (true = true ↔ ∃ k, k < n ∧ (upd (upd st p ⟨#[83, 85, 67, 67, 69, 69, 68, 69, 68]⟩) p ⟨#[67, 79, 77, 80, 69, 78, 83, 65, 84, 69, 68]⟩) k = ⟨#[83, 85, 67, 67, 69, 69, 68, 69, 68]⟩ ∧ (cmp k).isSome = true) := by rw [upd_upd]; exact hS.b1_c hX.hm hq
                      clear hq
                      as_aux_lemma =>
                        go_wp2_with (first
                          | (go_at_call 6; refine (zz_of (settle_B1 RA rfl hn hp ⟨by omega, by omega⟩ s HT HC)).mono ?_; rintro e w2 ⟨rfl, R2, T2⟩
                             have M2 := MA.touch T2 (by omega) (by omega)
                             have B2 := Tch.below BA T2 (by omega) q0 hsA
                             have hblk := T2.block X.heap.size (by simp) (by omega) (by omega)
                             rw [heap_alloc_new] at hblk
                             have eA0 : w2.cell? ⟨X.heap.size, 0, none⟩ = some (.int .i64 1) := cell_of_row w2 _ 0 _ _ _ hblk
                             have eA1 : w2.cell? ⟨X.heap.size, 1, none⟩ = some (.bool s) := cell_of_row w2 _ 1 _ _ _ hblk
                             have cA := M2.cA p hp
                             have cC := M2.cC p hp
                             have cT := M2.cT p hp
                             have fA := M2.fA
                             have fC := M2.fC
                             have fN := M2.fN
                             have fT := M2.fT
                             rw [upd_upd] at R2
                             have R2 : Rec w2 rb sb n ⟨#[67, 79, 77, 80, 69, 78, 83, 65, 84, 73, 78, 71]⟩ ⟨#[98, 97, 99, 107, 119, 97, 114, 100]⟩ (upd st p ⟨#[67, 79, 77, 80, 69, 78, 83, 65, 84, 69, 68]⟩) att (upd catt p (catt p + 1)) cmp snt := R2
                             have R3 := (R2.other (b := cb) (by omega) (by omega) p (.int .i64 (catt p + 1))).other (b := tb) (by omega) (by omega) p (.string ⟨#[67, 79, 77, 80, 69, 78, 83, 65, 84, 69, 68]⟩)
                             have M3 := (M2.setC p (catt p + 1)).setT p ⟨#[67, 79, 77, 80, 69, 78, 83, 65, 84, 69, 68]⟩
                             have B3 := (B2.setCell (p := ⟨cb, p, none⟩) (show w.heap.size ≤ cb by omega) (.int .i64 (catt p + 1))).setCell (p := ⟨tb, p, none⟩) (show w.heap.size ≤ tb by omega) (.string ⟨#[67, 79, 77, 80, 69, 78, 83, 65, 84, 69, 68]⟩)
                             clear R2 T2 hblk)
                          | (go_at_call 7; refine (prev_some (h1.below B3) (by omega) hn HQ).mono ?_; rintro e w5 ⟨rfl, hw⟩; obtain rfl := hw.symm)
                          | (go_at_call 5; refine (Working_back R3 rfl (r := true) (beq_tt rfl)).mono ?_; rintro e w4 ⟨rfl, hb4⟩
                             have R4 := R3.below hb4
                             have cS4 := R4.cS
                             have cD4 := R4.cD))
                        go_roundg (m - (k + 1))
                        case measure => omega
                        case rel => exact ⟨k + 1, false, _, _, _, _, _, _, _, by omega, rfl, by go_num, rfl, ⟨R4, M3.below hb4, B3.trans (hb4.mono B3.size), keep1 hX.bA, bump hX.bC p, hX.hm⟩, fun _ => ⟨j, true, false, by first | rfl | go_num, rfl, rfl, rfl, hS.b1 HQ.out, rfl, rfl⟩⟩
                  by_cases c2 : c = 2
                  · subst c2
                    clear c0 c1
                    as_aux_lemma =>
                      go_wp2_with (first
                        | (go_at_call 6; refine (zz_of (settle_B2 RA rfl hp ⟨by omega, by omega⟩ s)).mono ?_; rintro e w2 ⟨rfl, R2, T2⟩
                           have M2 := MA.touch T2 (by omega) (by omega)
                           have B2 := Tch.below BA T2 (by omega) q0 hsA
                           have hblk := T2.block X.heap.size (by simp) (by omega) (by omega)
                           rw [heap_alloc_new] at hblk
                           have eA0 : w2.cell? ⟨X.heap.size, 0, none⟩ = some (.int .i64 2) := cell_of_row w2 _ 0 _ _ _ hblk
                           have eA1 : w2.cell? ⟨X.heap.size, 1, none⟩ = some (.bool s) := cell_of_row w2 _ 1 _ _ _ hblk
                           have cA := M2.cA p hp
                           have cC := M2.cC p hp
                           have cT := M2.cT p hp
                           have fA := M2.fA
                           have fC := M2.fC
                           have fN := M2.fN
                           have fT := M2.fT
                           have R2 : Rec w2 rb sb n ⟨#[67, 79, 77, 80, 69, 78, 83, 65, 84, 73, 79, 78, 95, 70, 65, 73, 76, 69, 68]⟩ ⟨#[98, 97, 99, 107, 119, 97, 114, 100]⟩ (upd st p ⟨#[67, 79, 77, 80, 69, 78, 83, 65, 84, 73, 79, 78, 95, 70, 65, 73, 76, 69, 68]⟩) att (upd catt p (catt p + 1)) cmp snt := R2
                           have R3 := (R2.other (b := cb) (by omega) (by omega) p (.int .i64 (catt p + 1))).other (b := tb) (by omega) (by omega) p (.string ⟨#[67, 79, 77, 80, 69, 78, 83, 65, 84, 73, 79, 78, 95, 70, 65, 73, 76, 69, 68]⟩)
                           have M3 := (M2.setC p (catt p + 1)).setT p ⟨#[67, 79, 77, 80, 69, 78, 83, 65, 84, 73, 79, 78, 95, 70, 65, 73, 76, 69, 68]⟩
                           have B3 := (B2.setCell (p := ⟨cb, p, none⟩) (show w.heap.size ≤ cb by omega) (.int .i64 (catt p + 1))).setCell (p := ⟨tb, p, none⟩) (show w.heap.size ≤ tb by omega) (.string ⟨#[67, 79, 77, 80, 69, 78, 83, 65, 84, 73, 79, 78, 95, 70, 65, 73, 76, 69, 68]⟩)
                           clear R2 T2 hblk)
                        | (go_at_call 5; refine (Working_back R3 rfl (r := false) (beq_ff (s := ⟨#[67, 79, 77, 80, 69, 78, 83, 65, 84, 73, 78, 71]⟩) (by decide))).mono ?_; rintro e w4 ⟨rfl, hb4⟩
                           have R4 := R3.below hb4
                           have cS4 := R4.cS
                           have cD4 := R4.cD))
                      go_roundg (m - (k + 1))
                      case measure => omega
                      case rel => exact ⟨k + 1, true, _, _, _, _, _, _, _, by omega, rfl, by go_num, rfl, ⟨R4, M3.below hb4, B3.trans (hb4.mono B3.size), keep1 hX.bA, bump hX.bC p, hX.hm⟩, fun h => by cases h⟩
                  have x0 : (c == 0) = false := by simp; exact c0
                  have x1 : (c == 1) = false := by simp; exact c1
                  have x2 : (c == 2) = false := by simp; exact c2
                  have HT : Hid (∀ k, k < n → st k ≠ ⟨#[84, 73, 77, 69, 68, 95, 79, 85, 84]⟩) := hS.noT
                  have HC : Hid (true = true ↔ ∃ k, k < n ∧ st k = ⟨#[83, 85, 67, 67, 69, 69, 68, 69, 68]⟩ ∧ (cmp k).isSome = true) := hS.bx_c hX.hm
                  clear c0 c1 c2
                  as_aux_lemma =>
                    go_wp2_with (first
                      | (go_at_call 6; refine (zz_of (settle_BX RA rfl hn hp ⟨by omega, by omega⟩ x0 x1 x2 s HT HC)).mono ?_; rintro e w2 ⟨rfl, R2, T2⟩
                         have M2 := MA.touch T2 (by omega) (by omega)
                         have B2 := Tch.below BA T2 (by omega) q0 hsA
                         have hblk := T2.block X.heap.size (by simp) (by omega) (by omega)
                         rw [heap_alloc_new] at hblk
                         have eA0 : w2.cell? ⟨X.heap.size, 0, none⟩ = some (.int .i64 c) := cell_of_row w2 _ 0 _ _ _ hblk
                         have eA1 : w2.cell? ⟨X.heap.size, 1, none⟩ = some (.bool s) := cell_of_row w2 _ 1 _ _ _ hblk
                         have cA := M2.cA p hp
                         have cC := M2.cC p hp
                         have cT := M2.cT p hp
                         have fA := M2.fA
                         have fC := M2.fC
                         have fN := M2.fN
                         have fT := M2.fT
                         have R2 : Rec w2 rb sb n ⟨#[67, 79, 77, 80, 69, 78, 83, 65, 84, 73, 78, 71]⟩ ⟨#[98, 97, 99, 107, 119, 97, 114, 100]⟩ st att (upd catt p (catt p + 1)) cmp snt := R2
                         have R3 := R2.other (b := cb) (by omega) (by omega) p (.int .i64 (catt p + 1))
                         have M3 := M2.setC p (catt p + 1)
                         have B3 := B2.setCell (p := ⟨cb, p, none⟩) (show w.heap.size ≤ cb by omega) (.int .i64 (catt p + 1))
                         clear R2 T2 hblk)
                      | (go_at_call 5; refine (Working_back R3 rfl (r := true) (beq_tt rfl)).mono ?_; rintro e w4 ⟨rfl, hb4⟩
                         have R4 := R3.below hb4
                         have cS4 := R4.cS
                         have cD4 := R4.cD))
                    go_roundg (m - (k + 1))
                    case measure => omega
                    case rel => exact ⟨k + 1, false, _, _, _, _, _, _, _, by omega, rfl, by go_num, rfl, ⟨R4, M3.below hb4, B3.trans (hb4.mono B3.size), keep1 hX.bA, bump hX.bC p, hX.hm⟩, fun _ => ⟨p, true, false, by first | rfl | go_num, rfl, rfl, rfl, hS, rfl, rfl⟩⟩

              · clear hE
                go_wp2
                go_meet
                exact ⟨_, _, _, _, _, _, _, hA.r, hA.m, hA.b⟩
            · clear hE
              cases e
              · go_wp2
                go_meet
                exact ⟨_, _, _, _, _, _, _, hA.r, hA.m, hA.b⟩
              · go_wp2
                go_meet
                exact ⟨_, _, _, _, _, _, _, hA.r, hA.m, hA.b⟩
        case rest =>
        rename World => Z
        obtain ⟨⟨status, dir, st, att, catt, cmp2, snt, R, M, BZ⟩⟩ := hcut
        have ix := fun k w => idx27 sb n k w
        go_wp2
        go_loopg [22, 23] n (fun g i _ wx => ∃ q : Nat, q ≤ n ∧ g = n - q ∧ i = .int .i64 q ∧ Rec wx rb sb n status dir st att catt cmp2 snt ∧ Mach wx tb ab cb nb n st att catt snt ∧ Below w.heap.size w wx)
        case atStart => exact ⟨0, Nat.zero_le _, rfl, rfl, R, M, BZ⟩
        case round =>
          obtain ⟨q, hq, rfl, rfl, hR, hM, hB⟩ := hrel
          clear R M BZ
          by_cases hlt : q < n
          · have d0 := hR.c0 q hlt
            have d1 := hR.c1 q hlt
            have d2 := hR.c2 q hlt
            have d3 := hR.c3 q hlt
            have d4 := hR.c4 q hlt
            have d5 := hR.c5 q hlt
            have d6 := hR.c6 q hlt
            have d7 := hR.c7 q hlt
            have d8 := hR.c8 q hlt
            have d9 := hR.c9 q hlt
            have cL := hR.cL
            have cT := hM.cT q hlt
            have cA := hM.cA q hlt
            have cC := hM.cC q hlt
            have cN := hM.cN q hlt
            have rl := hR.rl
            have nl := hM.lt
            have o1 := hM.o1
            have o2 := hM.o2
            have o3 := hM.o3
            have tl : tb < wr.heap.size := by omega
            have al : ab < wr.heap.size := by omega
            have cl2 : cb < wr.heap.size := by omega
            go_wp2_with fail
            go_quiet (fail)
            have hbq : Below wr.heap.size wr ((wr.alloc (.cells #[.string ⟨#[115, 116, 101, 112]⟩, .string (st q), .int .i64 (att q), .int .i64 (catt q), .string ⟨#[]⟩, .string ⟨#[]⟩, .map none, .slice none 0 0, .pointer (cmp2 q), .bool (snt q)] 42)).drewN nq) :=
              ((Below.refl _ wr).alloc (Nat.le_refl _) _).trans ((below_drewN _ _).mono (by simp))
            have hbs := hB.size
            go_wp2
            go_roundg (n - (q + 1))
            case measure => omega
            case rel => exact ⟨q + 1, by omega, rfl, by go_num, hR.below hbq, hM.below hbq, hB.trans (hbq.mono hbs)⟩
          · go_wp2
            go_ret
            exact ⟨rfl, hB⟩


end Go.Proofs.Qxb6605717a
