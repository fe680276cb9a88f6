/-
  Seat b6614191a: the first law's walk.
-/
import Derived.Test.Qxb6614191aW4
import Derived.Deep.RegionWith
namespace Go.Proofs.Qxb6614191a
open Go.RowKit Go.WideMaps Go.Maps

theorem eqlS (w : World) (a : Option Addr) (n c : Nat) : (binOp .eql 22 (.slice a n c) (.slice none 0 0)).run Try.prog w = .ok (.bool a.isNone) w := Lib.run_eql_slice_nil w _ _ a n c 0 0 Try.underlying22
theorem neqS (w : World) (a : Option Addr) (n c : Nat) : (binOp .neq 22 (.slice a n c) (.slice none 0 0)).run Try.prog w = .ok (.bool (!a.isNone)) w := run_neq_slice_nil w _ _ a n c Try.underlying22
theorem makeHint (n : Int) (w : World) : (Instr.makeMap 24 (some (.int .i64 n))).run Try.prog w = .ok (.map (some w.heap.size)) (w.alloc (.map #[] 0)) := by kernel_rfl

theorem PendAt.new (w : World) (m : Option Nat) (L : List Lit) (hn : m = none → L = []) (ho : ∀ b, m = some b → OwnS w b L) : PendAt (w.alloc (.cells (pendCells m) 48)) w.heap.size m L := by
  refine ⟨?_, ?_, by simp, hn, fun b hb => (ho b hb).block (Below.heap_alloc _ _ b (ho b hb).lt)⟩
  · unfold World.cell?; rw [heap_alloc_new]; rfl
  · unfold World.frozen?; rw [heap_alloc_new]; rfl

theorem inL_mem {ss : List ByteArray} {s : ByteArray} (h : s ∈ ss) : inL (keysL ss) (keyL s) = true := by
  unfold inL
  exact List.any_eq_true.2 ⟨keyL s, List.mem_map.2 ⟨s, h, rfl⟩, WideAt.sameKey_self (isKey s)⟩

set_option maxHeartbeats 1600000 in
theorem law1_nil {w : World} {a1 : Option Addr} {n1 c1 b1 off1 : Nat} {ss1 : List ByteArray} {a2 : Option Addr} {n2 c2 b2 off2 : Nat} {ss2 : List ByteArray}
    (h1 : SV w a1 n1 c1 b1 off1 ss1) (h2 : SV w a2 n2 c2 b2 off2 ss2) (m1 : n1 ≤ 65536) (m2 : n2 ≤ 65536) (hz : a1.isNone = true) :
    Calls Try.prog 3 #[.slice a1 n1 c1, .slice a2 n2 c2] w fun e w' => e = .returned (.bool true) ∧ Below w.heap.size w w' := by
  have i1 := h1.idx
  have i2 := h2.idx
  have l1 := h1.small
  have l2 := h2.small
  have g1 := h1.cell
  have g2 := h2.cell
  have q1 := eqlS
  have q2 := neqS
  have q3 := eqlM
  have hmm := makeHint
  go_enter Try.func3, Try.ntmps3
  go_wp2_with (go_at_call 5; refine (zzb2_any h1 h2).mono ?_; rintro e w' ⟨⟨r, rfl⟩, hw⟩; obtain rfl := hw.symm)
  · go_ret
    exact ⟨rfl, Below.refl _ _⟩
  go_loop [5, 6] (fun t i => ∃ (z : Int) (k : Nat), k ≤ n1 ∧ t = .int .i64 z ∧ i = .int .i64 k) (fun _ i => n1 - (intOf i).toNat)
  case atStart => exact ⟨_, 0, Nat.zero_le _, rfl, rfl⟩
  case round =>
    obtain ⟨z, k, hk, rfl, rfl⟩ := hrel
    by_cases hlt : k < n1
    · go_wp2
      · go_ret
        exact ⟨rfl, Below.refl _ _⟩
      · go_round
        case rel => exact ⟨_, k + 1, by omega, rfl, by go_num⟩
        case measure => simp [intOf]; omega
    · clear g1
      go_wp2
      go_loop [5, 7] (fun t i => ∃ (z : Int) (k : Nat), k ≤ n2 ∧ t = .int .i64 z ∧ i = .int .i64 k) (fun _ i => n2 - (intOf i).toNat)
      case atStart => exact ⟨_, 0, Nat.zero_le _, rfl, rfl⟩
      case round =>
        obtain ⟨z, j, hj, rfl, rfl⟩ := hrel
        by_cases hjlt : j < n2
        · go_wp2
          · go_ret
            exact ⟨rfl, Below.refl _ _⟩
          · go_round
            case rel => exact ⟨_, j + 1, by omega, rfl, by go_num⟩
            case measure => simp [intOf]; omega
        · clear g2
          have hss : ss1 = [] := List.eq_nil_of_length_eq_zero (by
            rw [h1.len]
            exact h1.nil (by simpa using hz))
          have hb0 : Below w.heap.size w w := Below.refl _ _
          go_wp2_with (first
            | (go_at_call 6; refine (union_any (h1.below hb0) (h2.below hb0) (SV.ofNil _ _) m1 m2 (by omega)).mono ?_; rintro e w2 ⟨rfl, hb2⟩)
            | (go_at_call 7; refine (new_any _ _).mono ?_; rintro e w3 ⟨rfl, rfl⟩))
          have hb3 : Below w.heap.size w w2 := (hb0).trans (hb2.mono (hb0).size)
          have hpn : PendAt (w2.alloc (.cells (pendCells none) 48)) w2.heap.size none (keysL (ss1 ++ ss2.take 0)) := by
            rw [List.take_zero, List.append_nil]
            exact PendAt.new w2 none (keysL ss1) (fun _ => by rw [hss]; rfl) (fun b h => by cases h)
          have hb4 : Below w.heap.size w (w2.alloc (.cells (pendCells none) 48)) := hb3.alloc hb3.size _
          have hbp := hb3.size
          go_loopw [12] (fun i wr => ∃ (k : Nat) (m : Option Nat), k ≤ n2 ∧ i = .int .i64 k ∧ PendAt wr w2.heap.size m (keysL (ss1 ++ ss2.take k)) ∧ m.isSome = (false || decide (0 < k)) ∧ (∀ b, m = some b → w.heap.size ≤ b) ∧ Below w.heap.size w wr) (fun i _ => n2 - (intOf i).toNat)
          case atStart => exact ⟨0, none, Nat.zero_le _, rfl, hpn, rfl, (fun b h => by cases h), hb4⟩
          case round =>
            obtain ⟨q, m, hq, rfl, hp, hm, hmb, hbq⟩ := hrel
            clear hpn hb4
            by_cases hqlt : q < n2
            · obtain ⟨s, hs⟩ : ∃ s, s = ss2.getD q ByteArray.empty := ⟨_, rfl⟩
              have hsz : s.size ≤ maxLen := by rw [hs]; exact getD_size h2.sz q
              have hc : wr.cell? ⟨b2, off2 + q, none⟩ = some (.string s) := by rw [hs]; exact (h2.below hbq).cell q hqlt
              have hln : (keysL (ss1 ++ ss2.take q)).length < 1000000 := by
                have e1 := h1.len
                have e2 := h2.len
                rw [keysL_length, List.length_append, List.length_take]
                omega
              have hsn : keysL (ss1 ++ ss2.take (q + 1)) = keysL (ss1 ++ ss2.take q) ++ [keyL s] := by
                rw [take_snoc ss2 q (by rw [h2.len]; exact hqlt), ← List.append_assoc, keysL_append, ← hs]; rfl
              have HSN : Hid (keysL (ss1 ++ ss2.take (q + 1)) = keysL (ss1 ++ ss2.take q) ++ [keyL s]) := hsn
              have HM : Hid (m.isSome = (false || decide (0 < q))) := hm
              clear hs hsn hm
              go_wp2_with (go_at_call 8; refine (mark_any hp hln hsz).mono ?_; rintro e w4 ⟨rfl, b, hp4, hor, ht⟩)
              have R1 : PendAt w4 w2.heap.size (some b) (keysL (ss1 ++ ss2.take (q + 1))) := by rw [HSN.out]; exact hp4
              have R2 : ∀ b', some b = some b' → w.heap.size ≤ b' := by
                intro b' hb'
                cases hb'
                rcases hor with h | h
                · exact hmb b h
                · rw [h]; exact hbq.size
              have R3 : Below w.heap.size w w4 := ht.below hbq hbq.size (fun i hi => by
                rcases hi with h | h
                · rw [h]; exact hbp
                · exact hmb i h)
              clear hp4 hor ht hp hmb hbq hc
              go_wp2
              go_roundw
              case rel => exact ⟨q + 1, some b, by omega, by go_num, R1, by simp, R2, R3⟩
              case measure => simp [intOf]; omega
            · have hfull : ss2.take q = ss2 := List.take_of_length_le (by rw [h2.len]; omega)
              rw [hfull] at hp
              clear hfull
              have hc := hp.cell
              by_cases hn2 : n2 = 0
              · obtain rfl : m = none := by
                  have : m.isSome = false := by rw [hm]; simp; omega
                  simpa using this
                have hn2' : ((n2 : Int) == 0) = true := by simp [hn2]
                clear hm hn2
                go_wp2
                go_ret
                exact ⟨rfl, hbq⟩
              · have hn2' : ((n2 : Int) == 0) = false := by simp; omega
                obtain ⟨b, rfl⟩ : ∃ b, m = some b := Option.isSome_iff_exists.1 (by rw [hm]; simp; omega)
                have ho := hp.own b rfl
                have hlen := ho.len (isKeys _)
                have hU : (((keysL (ss1 ++ ss2)).foldl addKey []).length : Nat) = (U (ss1 ++ ss2 ++ [])).length := by rw [List.append_nil]; rfl
                rw [hU] at hlen
                have hin1 : ∀ s ∈ ss1, inL (keysL (ss1 ++ ss2)) (keyL s) = true := fun s hs => inL_mem (List.mem_append_left _ hs)
                have hin2 : ∀ s ∈ ss2, inL (keysL (ss1 ++ ss2)) (keyL s) = true := fun s hs => inL_mem (List.mem_append_right _ hs)
                clear hU hm
                go_wp2_with (first
                  | (go_at_call_of 10 (a1); refine (allTrue_any (h1.below hbq) ho (isKeys _) hin1).mono ?_; rintro e w6 ⟨rfl, hw⟩; obtain rfl := hw.symm)
                  | (go_at_call 10; refine (allTrue_any (h2.below hbq) ho (isKeys _) hin2).mono ?_; rintro e w6 ⟨rfl, hw⟩; obtain rfl := hw.symm)
                  | go_in)
                go_ret
                exact ⟨rfl, hbq⟩

set_option maxHeartbeats 1600000 in
theorem law1_nn {w : World} {a1 : Option Addr} {n1 c1 b1 off1 : Nat} {ss1 : List ByteArray} {a2 : Option Addr} {n2 c2 b2 off2 : Nat} {ss2 : List ByteArray}
    (h1 : SV w a1 n1 c1 b1 off1 ss1) (h2 : SV w a2 n2 c2 b2 off2 ss2) (m1 : n1 ≤ 65536) (m2 : n2 ≤ 65536) (hz : a1.isNone = false) :
    Calls Try.prog 3 #[.slice a1 n1 c1, .slice a2 n2 c2] w fun e w' => e = .returned (.bool true) ∧ Below w.heap.size w w' := by
  have i1 := h1.idx
  have i2 := h2.idx
  have l1 := h1.small
  have l2 := h2.small
  have g1 := h1.cell
  have g2 := h2.cell
  have q1 := eqlS
  have q2 := neqS
  have q3 := eqlM
  have hmm := makeHint
  go_enter Try.func3, Try.ntmps3
  go_wp2_with (go_at_call 5; refine (zzb2_any h1 h2).mono ?_; rintro e w' ⟨⟨r, rfl⟩, hw⟩; obtain rfl := hw.symm)
  · go_ret
    exact ⟨rfl, Below.refl _ _⟩
  go_loop [5, 6] (fun t i => ∃ (z : Int) (k : Nat), k ≤ n1 ∧ t = .int .i64 z ∧ i = .int .i64 k) (fun _ i => n1 - (intOf i).toNat)
  case atStart => exact ⟨_, 0, Nat.zero_le _, rfl, rfl⟩
  case round =>
    obtain ⟨z, k, hk, rfl, rfl⟩ := hrel
    by_cases hlt : k < n1
    · go_wp2
      · go_ret
        exact ⟨rfl, Below.refl _ _⟩
      · go_round
        case rel => exact ⟨_, k + 1, by omega, rfl, by go_num⟩
        case measure => simp [intOf]; omega
    · clear g1
      go_wp2
      go_loop [5, 7] (fun t i => ∃ (z : Int) (k : Nat), k ≤ n2 ∧ t = .int .i64 z ∧ i = .int .i64 k) (fun _ i => n2 - (intOf i).toNat)
      case atStart => exact ⟨_, 0, Nat.zero_le _, rfl, rfl⟩
      case round =>
        obtain ⟨z, j, hj, rfl, rfl⟩ := hrel
        by_cases hjlt : j < n2
        · go_wp2
          · go_ret
            exact ⟨rfl, Below.refl _ _⟩
          · go_round
            case rel => exact ⟨_, j + 1, by omega, rfl, by go_num⟩
            case measure => simp [intOf]; omega
        · clear g2
          go_wp2
          go_loopw [9] (fun i wr => ∃ (k : Nat), k ≤ n1 ∧ i = .int .i64 k ∧ OwnS wr w.heap.size (keysL (ss1.take k)) ∧ Below w.heap.size w wr) (fun i _ => n1 - (intOf i).toNat)
          case atStart => exact ⟨0, Nat.zero_le _, rfl, OwnS.made w, (Below.refl _ _).alloc (Nat.le_refl _) _⟩
          case round =>
            obtain ⟨t, ht, rfl, ho, hbt⟩ := hrel
            by_cases htlt : t < n1
            · obtain ⟨s, hs⟩ : ∃ s, s = ss1.getD t ByteArray.empty := ⟨_, rfl⟩
              have hsz : s.size ≤ maxLen := by rw [hs]; exact getD_size h1.sz t
              have hc : wr.cell? ⟨b1, off1 + t, none⟩ = some (.string s) := by rw [hs]; exact (h1.below hbt).cell t htlt
              have hln : (keysL (ss1.take t)).length < 1000000 := by
                have e1 := h1.len
                rw [keysL_length, List.length_take]
                omega
              have hsn : keysL (ss1.take (t + 1)) = keysL (ss1.take t) ++ [keyL s] := by
                rw [take_snoc ss1 t (by rw [h1.len]; exact htlt), keysL_append, ← hs]; rfl
              have HSN : Hid (keysL (ss1.take (t + 1)) = keysL (ss1.take t) ++ [keyL s]) := hsn
              clear hs hsn
              go_wp2_with (first
                | (at_mapUpdate; refine wpList_put _ rfl _ _ _ rfl w.heap.size _ rfl ho hln s rfl rfl hsz ?_)
                | go_in)
              intro w1 ho1 hg1
              have R1 : OwnS w1 w.heap.size (keysL (ss1.take (t + 1))) := by rw [HSN.out]; exact ho1
              have R2 := hbt.grown hg1 hbt.size (fun j hj => by cases hj; exact Nat.le_refl _)
              clear ho1 hg1 ho hbt hc
              go_wp2
              go_roundw
              case rel => exact ⟨t + 1, by omega, by go_num, R1, R2⟩
              case measure => simp [intOf]; omega
            · have hfull : ss1.take t = ss1 := List.take_of_length_le (by rw [h1.len]; omega)
              rw [hfull] at ho
              clear hfull
              go_wp2_with (first
                | (go_at_call 6; refine (union_any (h1.below hbt) (h2.below hbt) (SV.ofNil _ _) m1 m2 (by omega)).mono ?_; rintro e w2 ⟨rfl, hb2⟩)
                | (go_at_call 7; refine (new_any _ _).mono ?_; rintro e w3 ⟨rfl, rfl⟩))
              have hb3 : Below w.heap.size w w2 := (hbt).trans (hb2.mono (hbt).size)
              have hpn : PendAt (w2.alloc (.cells (pendCells (some w.heap.size)) 48)) w2.heap.size (some w.heap.size) (keysL (ss1 ++ ss2.take 0)) := by
                rw [List.take_zero, List.append_nil]
                exact PendAt.new w2 (some w.heap.size) (keysL ss1) (fun h => by cases h) (fun b h => by cases h; exact ho.block (hb2.block _ ho.lt))
              have hb4 : Below w.heap.size w (w2.alloc (.cells (pendCells (some w.heap.size)) 48)) := hb3.alloc hb3.size _
              have hbp := hb3.size
              go_loopw [12] (fun i wr => ∃ (k : Nat) (m : Option Nat), k ≤ n2 ∧ i = .int .i64 k ∧ PendAt wr w2.heap.size m (keysL (ss1 ++ ss2.take k)) ∧ m.isSome = (true || decide (0 < k)) ∧ (∀ b, m = some b → w.heap.size ≤ b) ∧ Below w.heap.size w wr) (fun i _ => n2 - (intOf i).toNat)
              case atStart => exact ⟨0, (some w.heap.size), Nat.zero_le _, rfl, hpn, rfl, (fun b h => by cases h; exact Nat.le_refl _), hb4⟩
              case round =>
                obtain ⟨q, m, hq, rfl, hp, hm, hmb, hbq⟩ := hrel
                clear hpn hb4
                by_cases hqlt : q < n2
                · obtain ⟨s, hs⟩ : ∃ s, s = ss2.getD q ByteArray.empty := ⟨_, rfl⟩
                  have hsz : s.size ≤ maxLen := by rw [hs]; exact getD_size h2.sz q
                  have hc : wr.cell? ⟨b2, off2 + q, none⟩ = some (.string s) := by rw [hs]; exact (h2.below hbq).cell q hqlt
                  have hln : (keysL (ss1 ++ ss2.take q)).length < 1000000 := by
                    have e1 := h1.len
                    have e2 := h2.len
                    rw [keysL_length, List.length_append, List.length_take]
                    omega
                  have hsn : keysL (ss1 ++ ss2.take (q + 1)) = keysL (ss1 ++ ss2.take q) ++ [keyL s] := by
                    rw [take_snoc ss2 q (by rw [h2.len]; exact hqlt), ← List.append_assoc, keysL_append, ← hs]; rfl
                  have HSN : Hid (keysL (ss1 ++ ss2.take (q + 1)) = keysL (ss1 ++ ss2.take q) ++ [keyL s]) := hsn
                  have HM : Hid (m.isSome = (true || decide (0 < q))) := hm
                  clear hs hsn hm
                  go_wp2_with (go_at_call 8; refine (mark_any hp hln hsz).mono ?_; rintro e w4 ⟨rfl, b, hp4, hor, ht⟩)
                  have R1 : PendAt w4 w2.heap.size (some b) (keysL (ss1 ++ ss2.take (q + 1))) := by rw [HSN.out]; exact hp4
                  have R2 : ∀ b', some b = some b' → w.heap.size ≤ b' := by
                    intro b' hb'
                    cases hb'
                    rcases hor with h | h
                    · exact hmb b h
                    · rw [h]; exact hbq.size
                  have R3 : Below w.heap.size w w4 := ht.below hbq hbq.size (fun i hi => by
                    rcases hi with h | h
                    · rw [h]; exact hbp
                    · exact hmb i h)
                  clear hp4 hor ht hp hmb hbq hc
                  go_wp2
                  go_roundw
                  case rel => exact ⟨q + 1, some b, by omega, by go_num, R1, by simp, R2, R3⟩
                  case measure => simp [intOf]; omega
                · have hfull : ss2.take q = ss2 := List.take_of_length_le (by rw [h2.len]; omega)
                  rw [hfull] at hp
                  clear hfull
                  have hc := hp.cell
                  obtain ⟨b, rfl⟩ : ∃ b, m = some b := Option.isSome_iff_exists.1 (by rw [hm]; rfl)
                  have ho := hp.own b rfl
                  have hlen := ho.len (isKeys _)
                  have hU : (((keysL (ss1 ++ ss2)).foldl addKey []).length : Nat) = (U (ss1 ++ ss2 ++ [])).length := by rw [List.append_nil]; rfl
                  rw [hU] at hlen
                  have hin1 : ∀ s ∈ ss1, inL (keysL (ss1 ++ ss2)) (keyL s) = true := fun s hs => inL_mem (List.mem_append_left _ hs)
                  have hin2 : ∀ s ∈ ss2, inL (keysL (ss1 ++ ss2)) (keyL s) = true := fun s hs => inL_mem (List.mem_append_right _ hs)
                  clear hU hm
                  go_wp2_with (first
                    | (go_at_call_of 10 (a1); refine (allTrue_any (h1.below hbq) ho (isKeys _) hin1).mono ?_; rintro e w6 ⟨rfl, hw⟩; obtain rfl := hw.symm)
                    | (go_at_call 10; refine (allTrue_any (h2.below hbq) ho (isKeys _) hin2).mono ?_; rintro e w6 ⟨rfl, hw⟩; obtain rfl := hw.symm)
                    | go_in)
                  go_ret
                  exact ⟨rfl, hbq⟩

theorem law1_any {w : World} {a1 : Option Addr} {n1 c1 b1 off1 : Nat} {ss1 : List ByteArray} {a2 : Option Addr} {n2 c2 b2 off2 : Nat} {ss2 : List ByteArray}
    (h1 : SV w a1 n1 c1 b1 off1 ss1) (h2 : SV w a2 n2 c2 b2 off2 ss2) :
    Calls Try.prog 3 #[.slice a1 n1 c1, .slice a2 n2 c2] w fun e w' => e = .returned (.bool true) ∧ Below w.heap.size w w' := by
  by_cases m1 : n1 ≤ 65536
  rotate_left
  · go_enter Try.func3, Try.ntmps3
    go_wp2_with (go_at_call 5; refine (zzb2_any h1 h2).mono ?_; rintro e w' ⟨⟨r, rfl⟩, hw⟩; obtain rfl := hw.symm)
    all_goals (go_ret; exact ⟨rfl, Below.refl _ _⟩)
  by_cases m2 : n2 ≤ 65536
  rotate_left
  · go_enter Try.func3, Try.ntmps3
    go_wp2_with (go_at_call 5; refine (zzb2_any h1 h2).mono ?_; rintro e w' ⟨⟨r, rfl⟩, hw⟩; obtain rfl := hw.symm)
    all_goals (go_ret; exact ⟨rfl, Below.refl _ _⟩)
  cases hz : a1.isNone
  · exact law1_nn h1 h2 m1 m2 hz
  · exact law1_nil h1 h2 m1 m2 hz
end Go.Proofs.Qxb6614191a
