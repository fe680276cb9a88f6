/-
  Seat b6614385aF: zzWithoutKey: two slices of one length, no key among them is the key.
-/
import Derived.Test.Qxb6614385aFmtW6
namespace Go.Proofs.Qxb6614385aFmt
open Go.RowKit Go.WideMaps Go.Maps Go.Extern.Stop Go.Stop Go.Extern

theorem bne_tt {x s : ByteArray} (e : ¬ x = s) : (x.toList != s.toList) = true := by rw [bne, beq_ff e]; rfl
theorem bne_ff {x s : ByteArray} (e : x = s) : (x.toList != s.toList) = false := by rw [bne, beq_tt e]; rfl

/-- What the loop owns: kk and kv, of one length m, no key among them is s. -/
structure Kept (w wr : World) (g8 g9 n m : Nat) (s : ByteArray) (kk : List ByteArray) (kv : List Bool) : Prop where
  o8 : wr.ownsRow w.heap.size 9 1 (.slice (some ⟨g8, 0, none⟩) m n) m (kk.map .string)
  o9 : wr.ownsRow w.heap.size 4 1 (.slice (some ⟨g9, 0, none⟩) m n) m (kv.map .bool)
  no : ∀ k ∈ kk, k ≠ s
  sz : ∀ k ∈ kk, k.size ≤ maxLen
  below : Below w.heap.size w wr

set_option maxHeartbeats 1600000 in
theorem without_any {w : World} {a1 : Option Addr} {n1 c1 b1 off1 : Nat} {bk : List ByteArray} {a2 : Option Addr} {c2 b2 off2 : Nat} {bv : List Bool}
    (h1 : SV w a1 n1 c1 b1 off1 bk) (h2 : BV w a2 n1 c2 b2 off2 bv) (m1 : n1 ≤ 65536) (s : ByteArray) :
    Calls Tryf.prog 13 #[.slice a1 n1 c1, .slice a2 n1 c2, .string s] w fun e w' => ∃ g8 g9 m kk kv, e = .returned (.tuple #[.slice (some ⟨g8, 0, none⟩) m n1, .slice (some ⟨g9, 0, none⟩) m n1]) ∧ m ≤ n1 ∧ Kept w w' g8 g9 n1 m s kk kv := by
  obtain ⟨i9, hi9, hz90, hz91, hz92⟩ := info_parts Tryf.info9
  obtain ⟨i4, hi4, hz40, hz41, hz42⟩ := info_parts Tryf.info4
  have i1 := h1.1.idx
  have i2 := GV.idx h2
  have t1 : True := trivial
  go_enter Tryf.func13, Tryf.ntmps13
  go_wp2_with (first
    | (at_make; have _u := t1; clear t1; refine wpList_make_own _ rfl _ _ 22 rfl w.heap.size 9 i9 (.string ByteArray.empty) 1 Tryf.underlying22 hi9 hz90 hz91 .i64 .i64 _ n1 rfl rfl rfl (by rw [hz92]; omega) (by unfold maxLen; omega) (Nat.le_refl _) ?_; intro w0 hown0 hgrow0)
    | (at_make; refine wpList_make_own _ rfl _ _ 23 rfl w.heap.size 4 i4 (.bool false) 1 Tryf.underlying23 hi4 hz40 hz41 .i64 .i64 _ n1 rfl rfl rfl (by rw [hz42]; omega) (by unfold maxLen; omega) hgrow0.size ?_; intro w1 hown1 hgrow1))
  have hlt0 : w.heap.size < w0.heap.size := (World.ownsRow.lt hown0 _ rfl).2
  have hB0 : Below w.heap.size w w0 := (Below.refl _ _).grown hgrow0 (Nat.le_refl _) (fun k h => by cases h)
  have hB1 : Below w.heap.size w w1 := hB0.grown hgrow1 (by omega) (fun k h => by cases h)
  have hown0' : w1.ownsRow w.heap.size 9 1 (.slice (some ⟨w.heap.size, 0, none⟩) 0 n1) 0 [] := hown0.kept hgrow1 (.inr (by simp [Value.ownBlock]))
  have K0 : Kept w w1 w.heap.size w0.heap.size n1 0 s [] [] := ⟨hown0', hown1, (fun _ h => absurd h (by simp)), (fun _ h => absurd h (by simp)), hB1⟩
  obtain ⟨g9, hg9⟩ : ∃ g9, g9 = w0.heap.size := ⟨_, rfl⟩
  rw [← hg9] at K0 hlt0 ⊢
  clear hown0 hown0' hown1 hgrow0 hgrow1 hB0 hB1 hg9
  go_loopw [8, 9, 10] (fun s8 s9 i wr => ∃ (k m : Nat) (kk : List ByteArray) (kv : List Bool), k ≤ n1 ∧ m ≤ k ∧ s8 = .slice (some ⟨w.heap.size, 0, none⟩) m n1 ∧ s9 = .slice (some ⟨g9, 0, none⟩) m n1 ∧ i = .int .i64 k ∧ Kept w wr w.heap.size g9 n1 m s kk kv) (fun _ _ i _ => n1 - (intOf i).toNat)
  case atStart => exact ⟨0, 0, [], [], Nat.zero_le _, Nat.le_refl _, rfl, rfl, rfl, K0⟩
  case round =>
    obtain ⟨k, m, kk, kv, hk, hmk, rfl, rfl, rfl, hK⟩ := hrel
    clear K0
    by_cases hlt : k < n1
    · obtain ⟨y, hy⟩ : ∃ y, y = bk.getD k ByteArray.empty := ⟨_, rfl⟩
      obtain ⟨r, hr⟩ : ∃ r, r = bv.getD k false := ⟨_, rfl⟩
      have hsz : y.size ≤ maxLen := by rw [hy]; exact getD_size h1.2 k
      have hc : wr.cell? ⟨b1, off1 + k, none⟩ = some (.string y) := by rw [hy]; exact (h1.below hK.below).cell k hlt
      have HV : Hid (r = bv.getD k false) := hr
      clear hy hr
      by_cases e : y = s
      · have eb := beq_tt e
        clear e
        go_wp2
        go_roundw
        case rel => exact ⟨k + 1, m, kk, kv, by omega, by omega, rfl, rfl, by go_num, hK⟩
        case measure => simp [intOf]; omega
      · have eb := beq_ff e
        have HE : Hid (¬ y = s) := e
        have h8 := hK.o8
        have h9 := hK.o9
        have hbk := hK.below
        have hsz1 := hbk.size
        clear e
        go_wp2_with (first
          | (at_builtin; refine wpList_append_fits _ rfl (.tmp 35) (.tmp 40) 22 rfl w.heap.size 9 i9 1 Tryf.underlying22 hi9 hz91 w.heap.size m n1 _ rfl (h8.alloc _) ⟨wr.heap.size, 0, none⟩ 1 1 [.string y] rfl rfl (cell_one_new _ _ _) (by intro u hu; simp at hu; subst hu; rfl) (by omega) ?_
             intro w2 o2 g2
             have hb2 : Below w.heap.size w w2 := (hbk.alloc hsz1 _).grown g2 (by simp; omega) (fun j hj => by cases hj; exact Nat.le_refl _)
             have hc2 : w2.cell? ⟨b2, off2 + k, none⟩ = some (.bool r) := by rw [HV.out]; exact (h2.below hb2).cell k hlt
             have h92 := (h9.alloc (.cells #[.string y] 9)).kept g2 (.inr (by simp [Value.ownBlock]; omega))
             have hsz2 := hb2.size
             clear h8 h9 hc)
          | (at_builtin; refine wpList_append_fits _ rfl (.tmp 42) (.tmp 47) 23 rfl w.heap.size 4 i4 1 Tryf.underlying23 hi4 hz41 g9 m n1 _ rfl (h92.alloc _) ⟨w2.heap.size, 0, none⟩ 1 1 [.bool r] rfl rfl (cell_one_new _ _ _) (by intro u hu; simp at hu; subst hu; rfl) (by omega) ?_
             intro w3 o3 g3))
        have R : Kept w w3 w.heap.size g9 n1 (m + 1) s (kk ++ [y]) (kv ++ [r]) := by
          refine ⟨?_, ?_, ?_, ?_, ?_⟩
          · rw [List.map_append]; exact (o2.alloc (.cells #[.bool r] 4)).kept g3 (.inr (by simp [Value.ownBlock]; omega))
          · rw [List.map_append]; exact o3
          · intro q hq
            rcases List.mem_append.1 hq with h | h
            · exact hK.no q h
            · rw [List.mem_singleton.1 h]; exact HE.out
          · intro q hq
            rcases List.mem_append.1 hq with h | h
            · exact hK.sz q h
            · rw [List.mem_singleton.1 h]; exact hsz
          · exact (hb2.alloc hsz2 _).grown g3 (by simp; omega) (fun j hj => by cases hj; omega)
        clear o2 o3 g2 g3 h92 hK
        go_roundw
        case rel => exact ⟨k + 1, m + 1, kk ++ [y], kv ++ [r], by omega, by omega, rfl, rfl, by go_num, R⟩
        case measure => simp [intOf]; omega
    · go_wp2
      go_ret2
      exact ⟨_, _, _, _, _, rfl, by omega, hK⟩

end Go.Proofs.Qxb6614385aFmt
