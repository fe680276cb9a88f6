/-
  Seat b6614191a: unionCount counts the different strings of its three slices.
-/
import Derived.Test.Qxb6614191aW2
namespace Go.Proofs.Qxb6614191a
open Go.RowKit Go.WideMaps Go.Maps

/-- What a loop of unionCount has counted: behind the strings of P and the first k of ss. -/
def Cnt (w wr : World) (P ss : List ByteArray) (k : Nat) (n : Value) : Prop :=
  n = .int .i64 ((U (P ++ ss.take k)).length : Nat) ∧ OwnS wr w.heap.size (U (P ++ ss.take k)) ∧ Below w.heap.size w wr

theorem Cnt.start {w wr : World} (P ss : List ByteArray) (ho : OwnS wr w.heap.size (U P)) (hb : Below w.heap.size w wr) : Cnt w wr P ss 0 (.int .i64 ((U P).length : Nat)) := by
  unfold Cnt
  rw [List.take_zero, List.append_nil]
  exact ⟨rfl, ho, hb⟩

theorem Cnt.hit {w wr : World} {P ss : List ByteArray} {k : Nat} {n : Value} (h : Cnt w wr P ss k n) (hk : k < ss.length) (hin : inL (U (P ++ ss.take k)) (keyL (ss.getD k ByteArray.empty)) = true) : Cnt w wr P ss (k + 1) n := by
  unfold Cnt
  rw [U_take hk, hin]
  exact h

theorem Cnt.miss {w wr w1 : World} {P ss : List ByteArray} {k : Nat} (hk : k < ss.length) (hin : inL (U (P ++ ss.take k)) (keyL (ss.getD k ByteArray.empty)) = false)
    (hb : Below w.heap.size w wr) (ho : OwnS w1 w.heap.size (U (P ++ ss.take k) ++ [keyL (ss.getD k ByteArray.empty)])) (hg : wr.grownBy w1 (some w.heap.size)) :
    Cnt w w1 P ss (k + 1) (.int .i64 (((U (P ++ ss.take k)).length : Nat) + 1)) := by
  unfold Cnt
  rw [U_take hk, hin]
  refine ⟨?_, ho, hb.grown hg hb.size (fun j hj => by cases hj; exact Nat.le_refl _)⟩
  simp

set_option maxHeartbeats 1600000 in
theorem union_any {w : World} {a1 : Option Addr} {n1 c1 b1 off1 : Nat} {ss1 : List ByteArray} {a2 : Option Addr} {n2 c2 b2 off2 : Nat} {ss2 : List ByteArray} {a3 : Option Addr} {n3 c3 b3 off3 : Nat} {ss3 : List ByteArray}
    (h1 : SV w a1 n1 c1 b1 off1 ss1) (h2 : SV w a2 n2 c2 b2 off2 ss2) (h3 : SV w a3 n3 c3 b3 off3 ss3) (m1 : n1 ≤ 65536) (m2 : n2 ≤ 65536) (m3 : n3 ≤ 65536) :
    Calls Try.prog 6 #[.slice a1 n1 c1, .slice a2 n2 c2, .slice a3 n3 c3] w fun e w' => e = .returned (.int .i64 ((U (ss1 ++ ss2 ++ ss3)).length : Nat)) ∧ Below w.heap.size w w' := by
  have i1 := h1.idx
  have i2 := h2.idx
  have i3 := h3.idx
  have e1 := h1.len
  have e2 := h2.len
  have e3 := h3.len
  have hmm := @run_makeMap Try.prog
  go_enter Try.func6, Try.ntmps6
  go_wp2
  go_loopw [8, 9] (fun t i wr => ∃ k : Nat, k ≤ n1 ∧ i = .int .i64 k ∧ Cnt w wr [] ss1 k t) (fun _ i _ => n1 - (intOf i).toNat)
  case atStart => exact ⟨0, Nat.zero_le _, rfl, Cnt.start [] ss1 (OwnS.made w) ((Below.refl _ _).alloc (Nat.le_refl _) _)⟩
  case round =>
    obtain ⟨k, hkk, rfl, rfl, hok, hbk⟩ := hrel
    have hU : (U ([] ++ ss1.take k)).length ≤ 200000 := by
      have := U_take_length [] ss1 k
      try simp only [List.length_nil] at this
      omega
    by_cases hlt : k < n1
    · obtain ⟨s, hs⟩ : ∃ s, s = ss1.getD k ByteArray.empty := ⟨_, rfl⟩
      have hsz : s.size ≤ maxLen := by rw [hs]; exact getD_size h1.sz k
      have hc : wr.cell? ⟨b1, off1 + k, none⟩ = some (.string s) := by rw [hs]; exact (h1.below hbk).cell k hlt
      have hlook := hok.look (U_isKeys _) hsz
      have hll : k < ss1.length := by rw [h1.len]; exact hlt
      obtain ⟨L, hL⟩ : ∃ L, L = U ([] ++ ss1.take k) := ⟨_, rfl⟩
      rw [← hL] at hok hlook hU
      have HL : Hid (L = U ([] ++ ss1.take k)) := hL
      have HS : Hid (s = ss1.getD k ByteArray.empty) := hs
      have hU2 : (L.length : Int) ≤ 200000 := by omega
      rw [← hL]
      cases hin : inL L (keyL s)
      · rw [hin] at hlook
        clear hs hL
        go_wp2_with (first
          | (at_mapUpdate; refine wpList_put _ rfl _ _ _ rfl w.heap.size L rfl hok (by omega) s rfl rfl hsz ?_)
          | go_in)
        intro w1 ho1 hg1
        have R : Cnt w w1 [] ss1 (k + 1) (.int .i64 ((L.length : Nat) + 1)) := by
          have e1 := HL.out
          have e2 := HS.out
          subst e1
          subst e2
          exact Cnt.miss hll hin hbk ho1 hg1
        clear ho1 hg1 hok hlook hc
        go_wp2
        go_roundw
        case rel => exact ⟨k + 1, by omega, by go_num, R⟩
        case measure => simp [intOf]; omega
      · rw [hin] at hlook
        have R : Cnt w wr [] ss1 (k + 1) (.int .i64 (L.length : Nat)) := by
          subst hL
          subst hs
          exact Cnt.hit ⟨rfl, hok, hbk⟩ hll hin
        clear hs hL
        go_wp2
        go_roundw
        case rel => exact ⟨k + 1, by omega, by go_num, R⟩
        case measure => simp [intOf]; omega
    · have hfull : ss1.take k = ss1 := List.take_of_length_le (by rw [h1.len]; omega)
      rw [hfull] at hok hU ⊢
      clear hfull
      rw [List.nil_append] at hok ⊢
      go_wp2
      go_loopw [8, 10] (fun t i wr => ∃ k : Nat, k ≤ n2 ∧ i = .int .i64 k ∧ Cnt w wr ss1 ss2 k t) (fun _ i _ => n2 - (intOf i).toNat)
      case atStart => exact ⟨0, Nat.zero_le _, rfl, Cnt.start ss1 ss2 hok hbk⟩
      case round =>
        obtain ⟨j, hkj, rfl, rfl, hoj, hbj⟩ := hrel
        have hU : (U (ss1 ++ ss2.take j)).length ≤ 200000 := by
          have := U_take_length ss1 ss2 j
          try simp only [List.length_append] at this
          omega
        by_cases hlt : j < n2
        · obtain ⟨s, hs⟩ : ∃ s, s = ss2.getD j ByteArray.empty := ⟨_, rfl⟩
          have hsz : s.size ≤ maxLen := by rw [hs]; exact getD_size h2.sz j
          have hc : wr.cell? ⟨b2, off2 + j, none⟩ = some (.string s) := by rw [hs]; exact (h2.below hbj).cell j hlt
          have hlook := hoj.look (U_isKeys _) hsz
          have hll : j < ss2.length := by rw [h2.len]; exact hlt
          obtain ⟨L, hL⟩ : ∃ L, L = U (ss1 ++ ss2.take j) := ⟨_, rfl⟩
          rw [← hL] at hoj hlook hU
          have HL : Hid (L = U (ss1 ++ ss2.take j)) := hL
          have HS : Hid (s = ss2.getD j ByteArray.empty) := hs
          have hU2 : (L.length : Int) ≤ 200000 := by omega
          rw [← hL]
          cases hin : inL L (keyL s)
          · rw [hin] at hlook
            clear hs hL
            go_wp2_with (first
              | (at_mapUpdate; refine wpList_put _ rfl _ _ _ rfl w.heap.size L rfl hoj (by omega) s rfl rfl hsz ?_)
              | go_in)
            intro w1 ho1 hg1
            have R : Cnt w w1 ss1 ss2 (j + 1) (.int .i64 ((L.length : Nat) + 1)) := by
              have e1 := HL.out
              have e2 := HS.out
              subst e1
              subst e2
              exact Cnt.miss hll hin hbj ho1 hg1
            clear ho1 hg1 hoj hlook hc
            go_wp2
            go_roundw
            case rel => exact ⟨j + 1, by omega, by go_num, R⟩
            case measure => simp [intOf]; omega
          · rw [hin] at hlook
            have R : Cnt w wr ss1 ss2 (j + 1) (.int .i64 (L.length : Nat)) := by
              subst hL
              subst hs
              exact Cnt.hit ⟨rfl, hoj, hbj⟩ hll hin
            clear hs hL
            go_wp2
            go_roundw
            case rel => exact ⟨j + 1, by omega, by go_num, R⟩
            case measure => simp [intOf]; omega
        · have hfull : ss2.take j = ss2 := List.take_of_length_le (by rw [h2.len]; omega)
          rw [hfull] at hoj hU ⊢
          clear hfull
          go_wp2
          go_loopw [8, 11] (fun t i wr => ∃ k : Nat, k ≤ n3 ∧ i = .int .i64 k ∧ Cnt w wr (ss1 ++ ss2) ss3 k t) (fun _ i _ => n3 - (intOf i).toNat)
          case atStart => exact ⟨0, Nat.zero_le _, rfl, Cnt.start (ss1 ++ ss2) ss3 hoj hbj⟩
          case round =>
            obtain ⟨m, hkm, rfl, rfl, hom, hbm⟩ := hrel
            have hU : (U ((ss1 ++ ss2) ++ ss3.take m)).length ≤ 200000 := by
              have := U_take_length (ss1 ++ ss2) ss3 m
              try simp only [List.length_append] at this
              omega
            by_cases hlt : m < n3
            · obtain ⟨s, hs⟩ : ∃ s, s = ss3.getD m ByteArray.empty := ⟨_, rfl⟩
              have hsz : s.size ≤ maxLen := by rw [hs]; exact getD_size h3.sz m
              have hc : wr.cell? ⟨b3, off3 + m, none⟩ = some (.string s) := by rw [hs]; exact (h3.below hbm).cell m hlt
              have hlook := hom.look (U_isKeys _) hsz
              have hll : m < ss3.length := by rw [h3.len]; exact hlt
              obtain ⟨L, hL⟩ : ∃ L, L = U ((ss1 ++ ss2) ++ ss3.take m) := ⟨_, rfl⟩
              rw [← hL] at hom hlook hU
              have HL : Hid (L = U ((ss1 ++ ss2) ++ ss3.take m)) := hL
              have HS : Hid (s = ss3.getD m ByteArray.empty) := hs
              have hU2 : (L.length : Int) ≤ 200000 := by omega
              rw [← hL]
              cases hin : inL L (keyL s)
              · rw [hin] at hlook
                clear hs hL
                go_wp2_with (first
                  | (at_mapUpdate; refine wpList_put _ rfl _ _ _ rfl w.heap.size L rfl hom (by omega) s rfl rfl hsz ?_)
                  | go_in)
                intro w1 ho1 hg1
                have R : Cnt w w1 (ss1 ++ ss2) ss3 (m + 1) (.int .i64 ((L.length : Nat) + 1)) := by
                  have e1 := HL.out
                  have e2 := HS.out
                  subst e1
                  subst e2
                  exact Cnt.miss hll hin hbm ho1 hg1
                clear ho1 hg1 hom hlook hc
                go_wp2
                go_roundw
                case rel => exact ⟨m + 1, by omega, by go_num, R⟩
                case measure => simp [intOf]; omega
              · rw [hin] at hlook
                have R : Cnt w wr (ss1 ++ ss2) ss3 (m + 1) (.int .i64 (L.length : Nat)) := by
                  subst hL
                  subst hs
                  exact Cnt.hit ⟨rfl, hom, hbm⟩ hll hin
                clear hs hL
                go_wp2
                go_roundw
                case rel => exact ⟨m + 1, by omega, by go_num, R⟩
                case measure => simp [intOf]; omega
            · have hfull : ss3.take m = ss3 := List.take_of_length_le (by rw [h3.len]; omega)
              rw [hfull] at hom hU ⊢
              clear hfull
              go_wp2
              go_ret
              exact ⟨rfl, hbm⟩



end Go.Proofs.Qxb6614191a
