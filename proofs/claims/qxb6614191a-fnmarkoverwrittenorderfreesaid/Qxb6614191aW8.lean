/-
  Seat b6614191a: the second law's walk.
-/
import Derived.Test.Qxb6614191aW7
namespace Go.Proofs.Qxb6614191a
open Go.RowKit Go.WideMaps Go.Maps


set_option maxRecDepth 100000 in
set_option maxHeartbeats 4000000 in
theorem law2_nn {w : World} {a1 : Option Addr} {n1 c1 b1 off1 : Nat} {ss1 : List ByteArray} {a2 : Option Addr} {n2 c2 b2 off2 : Nat} {ss2 : List ByteArray} {a3 : Option Addr} {n3 c3 b3 off3 : Nat} {ss3 : List ByteArray}
    (h1 : SV w a1 n1 c1 b1 off1 ss1) (h2 : SV w a2 n2 c2 b2 off2 ss2) (h3 : SV w a3 n3 c3 b3 off3 ss3) (m1 : n1 ≤ 65536) (m2 : n2 ≤ 65536) (m3 : n3 ≤ 65536) (hz : a1.isNone = false) :
    Calls Try.prog 4 #[.slice a1 n1 c1, .slice a2 n2 c2, .slice a3 n3 c3] w fun e w' => e = .returned (.bool true) ∧ Below w.heap.size w w' := by
  have i1 := h1.idx
  have i2 := h2.idx
  have i3 := h3.idx
  have l1 := h1.small
  have l2 := h2.small
  have l3 := h3.small
  have g1 := h1.cell
  have g2 := h2.cell
  have g3 := h3.cell
  have q1 := eqlS
  have q2 := neqS
  have q3 := eqlM
  have hmm := makeHint
  go_enter Try.func4, Try.ntmps4
  go_wp2_with (go_at_call 11; refine (zzb3_any h1 h2 h3).mono ?_; rintro e w' ⟨⟨r, rfl⟩, hw⟩; obtain rfl := hw.symm)
  · go_ret
    exact ⟨rfl, Below.refl _ _⟩
  go_loop [7, 8] (fun t i => ∃ (z : Int) (k : Nat), k ≤ n1 ∧ t = .int .i64 z ∧ i = .int .i64 k) (fun _ i => n1 - (intOf i).toNat)
  case atStart => exact ⟨_, 0, Nat.zero_le _, rfl, rfl⟩
  case round =>
    obtain ⟨zk1, k1, hkk1, rfl, rfl⟩ := hrel
    by_cases hltk1 : k1 < n1
    · go_wp2
      · go_ret
        exact ⟨rfl, Below.refl _ _⟩
      · go_round
        case rel => exact ⟨_, k1 + 1, by omega, rfl, by go_num⟩
        case measure => simp [intOf]; omega
    · clear g1
      go_wp2
      go_loop [7, 9] (fun t i => ∃ (z : Int) (k : Nat), k ≤ n2 ∧ t = .int .i64 z ∧ i = .int .i64 k) (fun _ i => n2 - (intOf i).toNat)
      case atStart => exact ⟨_, 0, Nat.zero_le _, rfl, rfl⟩
      case round =>
        obtain ⟨zk2, k2, hkk2, rfl, rfl⟩ := hrel
        by_cases hltk2 : k2 < n2
        · go_wp2
          · go_ret
            exact ⟨rfl, Below.refl _ _⟩
          · go_round
            case rel => exact ⟨_, k2 + 1, by omega, rfl, by go_num⟩
            case measure => simp [intOf]; omega
        · clear g2
          go_wp2
          go_loop [7, 10] (fun t i => ∃ (z : Int) (k : Nat), k ≤ n3 ∧ t = .int .i64 z ∧ i = .int .i64 k) (fun _ i => n3 - (intOf i).toNat)
          case atStart => exact ⟨_, 0, Nat.zero_le _, rfl, rfl⟩
          case round =>
            obtain ⟨zk3, k3, hkk3, rfl, rfl⟩ := hrel
            by_cases hltk3 : k3 < n3
            · go_wp2
              · go_ret
                exact ⟨rfl, Below.refl _ _⟩
              · go_round
                case rel => exact ⟨_, k3 + 1, by omega, rfl, by go_num⟩
                case measure => simp [intOf]; omega
            · clear g3
              go_wp2
              go_loopw [13] (fun i wr => ∃ (k : Nat), k ≤ n1 ∧ i = .int .i64 k ∧ OwnS wr w.heap.size (keysL (ss1.take k)) ∧ OwnS wr (w.heap.size + 1) (keysL (ss1.take k)) ∧ Below w.heap.size w wr) (fun i _ => n1 - (intOf i).toNat)
              case atStart => exact ⟨0, Nat.zero_le _, rfl, (OwnS.made w).block (Below.heap_alloc _ _ _ (by simp)), by have h := OwnS.made (w.alloc (.map #[] 0)); simp only [World.size_alloc] at h; exact h, ((Below.refl _ _).alloc (Nat.le_refl _) _).alloc (by simp) _⟩
              case round =>
                obtain ⟨t, ht, rfl, ho, hp, hbt⟩ := hrel
                by_cases htlt : t < n1
                · obtain ⟨s, hs⟩ : ∃ s, s = ss1.getD t ByteArray.empty := ⟨_, rfl⟩
                  have hsz : s.size ≤ maxLen := by rw [hs]; exact getD_size h1.sz t
                  have hc : wr.cell? ⟨b1, off1 + t, none⟩ = some (.string s) := by rw [hs]; exact (h1.below hbt).cell t htlt
                  have hc1 : ∀ w1, Below w.heap.size w w1 → w1.cell? ⟨b1, off1 + t, none⟩ = some (.string s) := by intro w1 hw1; rw [hs]; exact (h1.below hw1).cell t htlt
                  have hln : (keysL (ss1.take t)).length < 1000000 := by
                    have e1 := h1.len
                    rw [keysL_length, List.length_take]
                    omega
                  have hsn : keysL (ss1.take (t + 1)) = keysL (ss1.take t) ++ [keyL s] := by
                    rw [take_snoc ss1 t (by rw [h1.len]; exact htlt), keysL_append, ← hs]; rfl
                  have HSN : Hid (keysL (ss1.take (t + 1)) = keysL (ss1.take t) ++ [keyL s]) := hsn
                  have HC1 : Hid (∀ w1, Below w.heap.size w w1 → w1.cell? ⟨b1, off1 + t, none⟩ = some (.string s)) := hc1
                  clear hs hsn hc1
                  go_wp2_with (first
                    | (at_mapUpdate; refine wpList_put _ rfl (.tmp 104) _ _ rfl w.heap.size _ rfl ho hln s rfl rfl hsz ?_)
                    | go_in)
                  intro w1 ho1 hg1
                  have R2 := hbt.grown hg1 hbt.size (fun j hj => by cases hj; exact Nat.le_refl _)
                  have hp1 : OwnS w1 (w.heap.size + 1) (keysL (ss1.take t)) := hp.block (hg1.block _ hp.lt (by simp))
                  have hc2 := HC1.out w1 R2
                  clear hp ho hc hg1 hbt
                  go_wp2_with (first
                    | (at_mapUpdate; refine wpList_put _ rfl (.tmp 109) _ _ rfl (w.heap.size + 1) _ rfl hp1 hln s rfl rfl hsz ?_)
                    | go_in)
                  intro w5 ho5 hg5
                  have R1 : OwnS w5 w.heap.size (keysL (ss1.take (t + 1))) := by rw [HSN.out]; exact ho1.block (hg5.block _ ho1.lt (by simp))
                  have R3 : OwnS w5 (w.heap.size + 1) (keysL (ss1.take (t + 1))) := by rw [HSN.out]; exact ho5
                  have R4 := R2.grown hg5 R2.size (fun j hj => by cases hj; exact Nat.le_succ _)
                  clear ho1 hp1 ho5 hg5 hc2
                  go_wp2
                  go_roundw
                  case rel => exact ⟨t + 1, by omega, by go_num, R1, R3, R4⟩
                  case measure => simp [intOf]; omega
                · have hfull : ss1.take t = ss1 := List.take_of_length_le (by rw [h1.len]; omega)
                  rw [hfull] at ho hp
                  clear hfull
                  go_wp2_with (first
                    | (go_at_call 6; refine (union_any (h1.below hbt) (h2.below hbt) (h3.below hbt) m1 m2 m3).mono ?_; rintro e w2 ⟨rfl, hb2⟩)
                    | (go_at_call 7; refine (new_any _ _).mono ?_; rintro e w3 ⟨rfl, rfl⟩))
                  have hb3 : Below w.heap.size w w2 := (hbt).trans (hb2.mono (hbt).size)
                  have hT0 : Two w ((w2.alloc (.cells (pendCells (some w.heap.size)) 48)).alloc (.cells (pendCells (some (w.heap.size + 1))) 48)) true w2.heap.size (w2.heap.size + 1) (some w.heap.size) (some (w.heap.size + 1)) (keysL ss1) (keysL ss1) := by
                    have hbp := hb3.size
                    have k2 : PendAt ((w2.alloc (.cells (pendCells (some w.heap.size)) 48)).alloc (.cells (pendCells (some (w.heap.size + 1))) 48)) (w2.heap.size + 1) (some (w.heap.size + 1)) (keysL ss1) := by
                      have := PendAt.new (w2.alloc (.cells (pendCells (some w.heap.size)) 48)) (some (w.heap.size + 1)) (keysL ss1) (fun h => by cases h) (fun b h => by cases h; exact (hp.block (hb2.block _ hp.lt)).block (Below.heap_alloc _ _ _ (Nat.lt_of_lt_of_le hp.lt hb2.size)))
                      rwa [show (w2.alloc (.cells (pendCells (some w.heap.size)) 48)).heap.size = w2.heap.size + 1 by simp] at this
                    have k1 : PendAt ((w2.alloc (.cells (pendCells (some w.heap.size)) 48)).alloc (.cells (pendCells (some (w.heap.size + 1))) 48)) w2.heap.size (some w.heap.size) (keysL ss1) :=
                      (PendAt.new w2 (some w.heap.size) (keysL ss1) (fun h => by cases h) (fun b h => by cases h; exact ho.block (hb2.block _ ho.lt))).touch (S := fun _ => False) ⟨rfl, rfl, rfl, by simp, fun k hk _ => Below.heap_alloc _ _ k hk⟩ (fun h => h) (fun _ _ h => h)
                    exact ⟨k1, k2, (fun b h => by cases h; exact Nat.le_refl _), (fun b h => by cases h; exact Nat.le_succ _), (fun b h h2 => by cases h; injection h2 with h2; omega), hbp, by omega, by omega, rfl, rfl, (hb3.alloc hb3.size _).alloc (by simp; omega) _⟩
                  go_loopw [17] (fun i wr => ∃ (k : Nat) (m1 m2 : Option Nat), k ≤ n2 ∧ i = .int .i64 k ∧ Two w wr true w2.heap.size (w2.heap.size + 1) m1 m2 (keysL (ss1 ++ ss2.take k)) (keysL (ss1))) (fun i _ => n2 - (intOf i).toNat)
                  case atStart => exact ⟨0, (some w.heap.size), (some (w.heap.size + 1)), Nat.zero_le _, rfl, by rw [List.take_zero, List.append_nil]; exact hT0⟩
                  case round =>
                    clear hT0
                    obtain ⟨k5, m1, m2, hkk5, rfl, hT⟩ := hrel
                    by_cases hltk5 : k5 < n2
                    · obtain ⟨s, hs⟩ : ∃ s, s = ss2.getD k5 ByteArray.empty := ⟨_, rfl⟩
                      have hsz : s.size ≤ maxLen := by rw [hs]; exact getD_size h2.sz k5
                      have hc : wr.cell? ⟨b2, off2 + k5, none⟩ = some (.string s) := by rw [hs]; exact (h2.below hT.below).cell k5 hltk5
                      have hln : (keysL (ss1 ++ ss2.take k5)).length < 1000000 := by
                        have e1 := h1.len
                        have e2 := h2.len
                        have e3 := h3.len
                        rw [keysL_length]
                        simp only [List.length_append, List.length_take]
                        omega
                      have hsn : keysL (ss1 ++ ss2.take (k5 + 1)) = keysL (ss1 ++ ss2.take k5) ++ [keyL s] := by
                        rw [take_snoc ss2 k5 (by rw [h2.len]; exact hltk5), ← List.append_assoc, keysL_append, ← hs]; rfl
                      have HSN : Hid (keysL (ss1 ++ ss2.take (k5 + 1)) = keysL (ss1 ++ ss2.take k5) ++ [keyL s]) := hsn
                      clear hs hsn
                      go_wp2_with (go_at_call 8; refine (mark_any hT.P1 hln hsz).mono ?_; rintro e w4 ⟨rfl, b, hp4, hor, ht⟩)
                      have R : Two w w4 true w2.heap.size (w2.heap.size + 1) (some b) m2 (keysL (ss1 ++ ss2.take (k5 + 1))) (keysL (ss1)) := by
                        rw [HSN.out]; exact hT.mark1 hp4 hor ht
                      clear hp4 hor ht hT hc
                      go_wp2
                      go_roundw
                      case rel => exact ⟨k5 + 1, (some b), m2, by omega, by go_num, R⟩
                      case measure => simp [intOf]; omega
                    · have hfull : ss2.take k5 = ss2 := List.take_of_length_le (by rw [h2.len]; omega)
                      rw [hfull] at hT
                      clear hfull
                      go_wp2
                      go_loopw [18] (fun i wr => ∃ (k : Nat) (m1 m2 : Option Nat), k ≤ n3 ∧ i = .int .i64 k ∧ Two w wr true w2.heap.size (w2.heap.size + 1) m1 m2 (keysL (ss1 ++ ss2 ++ ss3.take k)) (keysL (ss1))) (fun i _ => n3 - (intOf i).toNat)
                      case atStart => exact ⟨0, m1, m2, Nat.zero_le _, rfl, by rw [List.take_zero, List.append_nil]; exact hT⟩
                      case round =>
  
                        obtain ⟨k6, m1, m2, hkk6, rfl, hT⟩ := hrel
                        by_cases hltk6 : k6 < n3
                        · obtain ⟨s, hs⟩ : ∃ s, s = ss3.getD k6 ByteArray.empty := ⟨_, rfl⟩
                          have hsz : s.size ≤ maxLen := by rw [hs]; exact getD_size h3.sz k6
                          have hc : wr.cell? ⟨b3, off3 + k6, none⟩ = some (.string s) := by rw [hs]; exact (h3.below hT.below).cell k6 hltk6
                          have hln : (keysL (ss1 ++ ss2 ++ ss3.take k6)).length < 1000000 := by
                            have e1 := h1.len
                            have e2 := h2.len
                            have e3 := h3.len
                            rw [keysL_length]
                            simp only [List.length_append, List.length_take]
                            omega
                          have hsn : keysL (ss1 ++ ss2 ++ ss3.take (k6 + 1)) = keysL (ss1 ++ ss2 ++ ss3.take k6) ++ [keyL s] := by
                            rw [take_snoc ss3 k6 (by rw [h3.len]; exact hltk6), ← List.append_assoc, keysL_append, ← hs]; rfl
                          have HSN : Hid (keysL (ss1 ++ ss2 ++ ss3.take (k6 + 1)) = keysL (ss1 ++ ss2 ++ ss3.take k6) ++ [keyL s]) := hsn
                          clear hs hsn
                          go_wp2_with (go_at_call 8; refine (mark_any hT.P1 hln hsz).mono ?_; rintro e w4 ⟨rfl, b, hp4, hor, ht⟩)
                          have R : Two w w4 true w2.heap.size (w2.heap.size + 1) (some b) m2 (keysL (ss1 ++ ss2 ++ ss3.take (k6 + 1))) (keysL (ss1)) := by
                            rw [HSN.out]; exact hT.mark1 hp4 hor ht
                          clear hp4 hor ht hT hc
                          go_wp2
                          go_roundw
                          case rel => exact ⟨k6 + 1, (some b), m2, by omega, by go_num, R⟩
                          case measure => simp [intOf]; omega
                        · have hfull : ss3.take k6 = ss3 := List.take_of_length_le (by rw [h3.len]; omega)
                          rw [hfull] at hT
                          clear hfull
                          go_wp2
                          go_loopw [19] (fun i wr => ∃ (k : Nat) (m1 m2 : Option Nat), k ≤ n3 ∧ i = .int .i64 k ∧ Two w wr true w2.heap.size (w2.heap.size + 1) m1 m2 (keysL (ss1 ++ ss2 ++ ss3)) (keysL (ss1 ++ ss3.take k))) (fun i _ => n3 - (intOf i).toNat)
                          case atStart => exact ⟨0, m1, m2, Nat.zero_le _, rfl, by rw [List.take_zero, List.append_nil]; exact hT⟩
                          case round =>
  
                            obtain ⟨k7, m1, m2, hkk7, rfl, hT⟩ := hrel
                            by_cases hltk7 : k7 < n3
                            · obtain ⟨s, hs⟩ : ∃ s, s = ss3.getD k7 ByteArray.empty := ⟨_, rfl⟩
                              have hsz : s.size ≤ maxLen := by rw [hs]; exact getD_size h3.sz k7
                              have hc : wr.cell? ⟨b3, off3 + k7, none⟩ = some (.string s) := by rw [hs]; exact (h3.below hT.below).cell k7 hltk7
                              have hln : (keysL (ss1 ++ ss3.take k7)).length < 1000000 := by
                                have e1 := h1.len
                                have e2 := h2.len
                                have e3 := h3.len
                                rw [keysL_length]
                                simp only [List.length_append, List.length_take]
                                omega
                              have hsn : keysL (ss1 ++ ss3.take (k7 + 1)) = keysL (ss1 ++ ss3.take k7) ++ [keyL s] := by
                                rw [take_snoc ss3 k7 (by rw [h3.len]; exact hltk7), ← List.append_assoc, keysL_append, ← hs]; rfl
                              have HSN : Hid (keysL (ss1 ++ ss3.take (k7 + 1)) = keysL (ss1 ++ ss3.take k7) ++ [keyL s]) := hsn
                              clear hs hsn
                              go_wp2_with (go_at_call 8; refine (mark_any hT.P2 hln hsz).mono ?_; rintro e w4 ⟨rfl, b, hp4, hor, ht⟩)
                              have R : Two w w4 true w2.heap.size (w2.heap.size + 1) m1 (some b) (keysL (ss1 ++ ss2 ++ ss3)) (keysL (ss1 ++ ss3.take (k7 + 1))) := by
                                rw [HSN.out]; exact hT.mark2 hp4 hor ht
                              clear hp4 hor ht hT hc
                              go_wp2
                              go_roundw
                              case rel => exact ⟨k7 + 1, m1, (some b), by omega, by go_num, R⟩
                              case measure => simp [intOf]; omega
                            · have hfull : ss3.take k7 = ss3 := List.take_of_length_le (by rw [h3.len]; omega)
                              rw [hfull] at hT
                              clear hfull
                              go_wp2
                              go_loopw [20] (fun i wr => ∃ (k : Nat) (m1 m2 : Option Nat), k ≤ n2 ∧ i = .int .i64 k ∧ Two w wr true w2.heap.size (w2.heap.size + 1) m1 m2 (keysL (ss1 ++ ss2 ++ ss3)) (keysL (ss1 ++ ss3 ++ ss2.take k))) (fun i _ => n2 - (intOf i).toNat)
                              case atStart => exact ⟨0, m1, m2, Nat.zero_le _, rfl, by rw [List.take_zero, List.append_nil]; exact hT⟩
                              case round =>
  
                                obtain ⟨k8, m1, m2, hkk8, rfl, hT⟩ := hrel
                                by_cases hltk8 : k8 < n2
                                · obtain ⟨s, hs⟩ : ∃ s, s = ss2.getD k8 ByteArray.empty := ⟨_, rfl⟩
                                  have hsz : s.size ≤ maxLen := by rw [hs]; exact getD_size h2.sz k8
                                  have hc : wr.cell? ⟨b2, off2 + k8, none⟩ = some (.string s) := by rw [hs]; exact (h2.below hT.below).cell k8 hltk8
                                  have hln : (keysL (ss1 ++ ss3 ++ ss2.take k8)).length < 1000000 := by
                                    have e1 := h1.len
                                    have e2 := h2.len
                                    have e3 := h3.len
                                    rw [keysL_length]
                                    simp only [List.length_append, List.length_take]
                                    omega
                                  have hsn : keysL (ss1 ++ ss3 ++ ss2.take (k8 + 1)) = keysL (ss1 ++ ss3 ++ ss2.take k8) ++ [keyL s] := by
                                    rw [take_snoc ss2 k8 (by rw [h2.len]; exact hltk8), ← List.append_assoc, keysL_append, ← hs]; rfl
                                  have HSN : Hid (keysL (ss1 ++ ss3 ++ ss2.take (k8 + 1)) = keysL (ss1 ++ ss3 ++ ss2.take k8) ++ [keyL s]) := hsn
                                  clear hs hsn
                                  go_wp2_with (go_at_call 8; refine (mark_any hT.P2 hln hsz).mono ?_; rintro e w4 ⟨rfl, b, hp4, hor, ht⟩)
                                  have R : Two w w4 true w2.heap.size (w2.heap.size + 1) m1 (some b) (keysL (ss1 ++ ss2 ++ ss3)) (keysL (ss1 ++ ss3 ++ ss2.take (k8 + 1))) := by
                                    rw [HSN.out]; exact hT.mark2 hp4 hor ht
                                  clear hp4 hor ht hT hc
                                  go_wp2
                                  go_roundw
                                  case rel => exact ⟨k8 + 1, m1, (some b), by omega, by go_num, R⟩
                                  case measure => simp [intOf]; omega
                                · have hfull : ss2.take k8 = ss2 := List.take_of_length_le (by rw [h2.len]; omega)
                                  rw [hfull] at hT
                                  clear hfull
                                  go_wp2
                                  go_loopw [21] (fun i wr => ∃ (k : Nat) (m1 m2 : Option Nat), k ≤ n2 ∧ i = .int .i64 k ∧ Two w wr true w2.heap.size (w2.heap.size + 1) m1 m2 (keysL (ss1 ++ ss2 ++ ss3)) (keysL (ss1 ++ ss3 ++ ss2 ++ ss2.take k))) (fun i _ => n2 - (intOf i).toNat)
                                  case atStart => exact ⟨0, m1, m2, Nat.zero_le _, rfl, by rw [List.take_zero, List.append_nil]; exact hT⟩
                                  case round =>
  
                                    obtain ⟨k9, m1, m2, hkk9, rfl, hT⟩ := hrel
                                    by_cases hltk9 : k9 < n2
                                    · obtain ⟨s, hs⟩ : ∃ s, s = ss2.getD k9 ByteArray.empty := ⟨_, rfl⟩
                                      have hsz : s.size ≤ maxLen := by rw [hs]; exact getD_size h2.sz k9
                                      have hc : wr.cell? ⟨b2, off2 + k9, none⟩ = some (.string s) := by rw [hs]; exact (h2.below hT.below).cell k9 hltk9
                                      have hln : (keysL (ss1 ++ ss3 ++ ss2 ++ ss2.take k9)).length < 1000000 := by
                                        have e1 := h1.len
                                        have e2 := h2.len
                                        have e3 := h3.len
                                        rw [keysL_length]
                                        simp only [List.length_append, List.length_take]
                                        omega
                                      have hsn : keysL (ss1 ++ ss3 ++ ss2 ++ ss2.take (k9 + 1)) = keysL (ss1 ++ ss3 ++ ss2 ++ ss2.take k9) ++ [keyL s] := by
                                        rw [take_snoc ss2 k9 (by rw [h2.len]; exact hltk9), ← List.append_assoc, keysL_append, ← hs]; rfl
                                      have HSN : Hid (keysL (ss1 ++ ss3 ++ ss2 ++ ss2.take (k9 + 1)) = keysL (ss1 ++ ss3 ++ ss2 ++ ss2.take k9) ++ [keyL s]) := hsn
                                      clear hs hsn
                                      go_wp2_with (go_at_call 8; refine (mark_any hT.P2 hln hsz).mono ?_; rintro e w4 ⟨rfl, b, hp4, hor, ht⟩)
                                      have R : Two w w4 true w2.heap.size (w2.heap.size + 1) m1 (some b) (keysL (ss1 ++ ss2 ++ ss3)) (keysL (ss1 ++ ss3 ++ ss2 ++ ss2.take (k9 + 1))) := by
                                        rw [HSN.out]; exact hT.mark2 hp4 hor ht
                                      clear hp4 hor ht hT hc
                                      go_wp2
                                      go_roundw
                                      case rel => exact ⟨k9 + 1, m1, (some b), by omega, by go_num, R⟩
                                      case measure => simp [intOf]; omega
                                    · have hfull : ss2.take k9 = ss2 := List.take_of_length_le (by rw [h2.len]; omega)
                                      rw [hfull] at hT
                                      clear hfull
                                      obtain ⟨d1, rfl⟩ : ∃ b, m1 = some b := Option.isSome_iff_exists.1 (by rw [hT.s1]; rfl)
                                      obtain ⟨d2, rfl⟩ : ∃ b, m2 = some b := Option.isSome_iff_exists.1 (by rw [hT.s2]; rfl)
                                      have c1 := hT.P1.cell
                                      have c2 := hT.P2.cell
                                      have o1 := hT.P1.own d1 rfl
                                      have o2 := hT.P2.own d2 rfl
                                      have hl1 := o1.len (isKeys _)
                                      have hl2 := o2.len (isKeys _)
                                      have hU1 : (((keysL (ss1 ++ ss2 ++ ss3)).foldl addKey []).length : Nat) = (U (ss1 ++ ss2 ++ ss3)).length := rfl
                                      have hU2 : (((keysL (ss1 ++ ss3 ++ ss2 ++ ss2)).foldl addKey []).length : Nat) = (U (ss1 ++ ss2 ++ ss3)).length := U_perm ss1 ss2 ss3
                                      rw [hU1] at hl1
                                      rw [hU2] at hl2
                                      have hb9 := hT.below
                                      have x1 : ∀ s ∈ ss1, inL (keysL (ss1 ++ ss2 ++ ss3)) (keyL s) = true := fun s hs => inL_mem (by simp [hs])
                                      have x2 : ∀ s ∈ ss2, inL (keysL (ss1 ++ ss2 ++ ss3)) (keyL s) = true := fun s hs => inL_mem (by simp [hs])
                                      have x3 : ∀ s ∈ ss3, inL (keysL (ss1 ++ ss2 ++ ss3)) (keyL s) = true := fun s hs => inL_mem (by simp [hs])
                                      have y1 : ∀ s ∈ ss1, inL (keysL (ss1 ++ ss3 ++ ss2 ++ ss2)) (keyL s) = true := fun s hs => inL_mem (by simp [hs])
                                      have y2 : ∀ s ∈ ss2, inL (keysL (ss1 ++ ss3 ++ ss2 ++ ss2)) (keyL s) = true := fun s hs => inL_mem (by simp [hs])
                                      have y3 : ∀ s ∈ ss3, inL (keysL (ss1 ++ ss3 ++ ss2 ++ ss2)) (keyL s) = true := fun s hs => inL_mem (by simp [hs])
                                      clear hU1 hU2 hT
                                      have t1 : True := trivial
                                      have t2 : True := trivial
                                      have t3 : True := trivial
                                      have t4 : True := trivial
                                      have t5 : True := trivial
                                      have t6 : True := trivial
                                      go_wp2_with (first
                                        | (go_at_call 10; have _u := t1; refine (allTrue_any (h1.below hb9) o1 (isKeys _) x1).mono ?_; rintro e w6 ⟨rfl, hw⟩; obtain rfl := hw.symm; clear t1)
                                        | (go_at_call 10; have _u := t2; refine (allTrue_any (h2.below hb9) o1 (isKeys _) x2).mono ?_; rintro e w6 ⟨rfl, hw⟩; obtain rfl := hw.symm; clear t2)
                                        | (go_at_call 10; have _u := t3; refine (allTrue_any (h3.below hb9) o1 (isKeys _) x3).mono ?_; rintro e w6 ⟨rfl, hw⟩; obtain rfl := hw.symm; clear t3)
                                        | (go_at_call 10; have _u := t4; refine (allTrue_any (h1.below hb9) o2 (isKeys _) y1).mono ?_; rintro e w6 ⟨rfl, hw⟩; obtain rfl := hw.symm; clear t4)
                                        | (go_at_call 10; have _u := t5; refine (allTrue_any (h2.below hb9) o2 (isKeys _) y2).mono ?_; rintro e w6 ⟨rfl, hw⟩; obtain rfl := hw.symm; clear t5)
                                        | (go_at_call 10; have _u := t6; refine (allTrue_any (h3.below hb9) o2 (isKeys _) y3).mono ?_; rintro e w6 ⟨rfl, hw⟩; obtain rfl := hw.symm; clear t6)
                                        | go_in)
                                      go_ret
                                      exact ⟨rfl, hb9⟩
set_option maxRecDepth 100000 in
theorem law2_any {w : World} {a1 : Option Addr} {n1 c1 b1 off1 : Nat} {ss1 : List ByteArray} {a2 : Option Addr} {n2 c2 b2 off2 : Nat} {ss2 : List ByteArray} {a3 : Option Addr} {n3 c3 b3 off3 : Nat} {ss3 : List ByteArray}
    (h1 : SV w a1 n1 c1 b1 off1 ss1) (h2 : SV w a2 n2 c2 b2 off2 ss2) (h3 : SV w a3 n3 c3 b3 off3 ss3) :
    Calls Try.prog 4 #[.slice a1 n1 c1, .slice a2 n2 c2, .slice a3 n3 c3] w fun e w' => e = .returned (.bool true) ∧ Below w.heap.size w w' := by
  by_cases m1 : n1 ≤ 65536
  rotate_left
  · go_enter Try.func4, Try.ntmps4
    go_wp2_with (go_at_call 11; refine (zzb3_any h1 h2 h3).mono ?_; rintro e w' ⟨⟨r, rfl⟩, hw⟩; obtain rfl := hw.symm)
    all_goals (go_ret; exact ⟨rfl, Below.refl _ _⟩)
  by_cases m2 : n2 ≤ 65536
  rotate_left
  · go_enter Try.func4, Try.ntmps4
    go_wp2_with (go_at_call 11; refine (zzb3_any h1 h2 h3).mono ?_; rintro e w' ⟨⟨r, rfl⟩, hw⟩; obtain rfl := hw.symm)
    all_goals (go_ret; exact ⟨rfl, Below.refl _ _⟩)
  by_cases m3 : n3 ≤ 65536
  rotate_left
  · go_enter Try.func4, Try.ntmps4
    go_wp2_with (go_at_call 11; refine (zzb3_any h1 h2 h3).mono ?_; rintro e w' ⟨⟨r, rfl⟩, hw⟩; obtain rfl := hw.symm)
    all_goals (go_ret; exact ⟨rfl, Below.refl _ _⟩)
  cases hz : a1.isNone
  · exact law2_nn h1 h2 h3 m1 m2 m3 hz
  · exact law2_nil h1 h2 h3 m1 m2 m3 hz

end Go.Proofs.Qxb6614191a
