/-
  Seat b6614385aF: zzBoolModel says what the map says.
-/
import Derived.Test.Qxb6614385aFmtW4
namespace Go.Proofs.Qxb6614385aFmt
open Go.RowKit Go.WideMaps Go.Maps Go.Extern.Stop Go.Stop Go.Extern

theorem beq_ff {x s : ByteArray} (e : ¬ x = s) : (x.toList == s.toList) = false := by
  rw [beq_eq_false_iff_ne]
  intro h
  rw [ByteArray.toList_eq, ByteArray.toList_eq] at h
  exact e (Go.WideShapes.bytes_inj h)
theorem beq_tt {x s : ByteArray} (e : x = s) : (x.toList == s.toList) = true := by rw [e]; exact beq_self_eq_true _

theorem ans_hit {bk : List ByteArray} {bv : List Bool} {sk : List ByteArray} {n3 n1 : Nat} {s : ByteArray} {r : Bool} (h : lastB bk bv s n1 = some r) : ans (gB bk bv sk n3 n1 s) = (r, false) := by
  unfold gB
  rw [h]
  rfl
theorem ans_str {bk : List ByteArray} {bv : List Bool} {sk : List ByteArray} {n3 n1 : Nat} {s : ByteArray} (h : lastB bk bv s n1 = none) : ans (gB bk bv sk n3 n1 s) = (false, hasS sk s n3) := by
  unfold gB gS
  rw [h]
  cases hasS sk s n3 <;> rfl

theorem hasS_mono {sk : List ByteArray} {s : ByteArray} {i n : Nat} (hi : i ≤ n) (h : hasS sk s i = true) : hasS sk s n = true := by
  induction n with
  | zero => obtain rfl : i = 0 := by omega
            exact h
  | succ n ih =>
    by_cases e : i = n + 1
    · subst e; exact h
    · rw [hasS]
      split
      · rfl
      · exact ih (by omega)

set_option maxHeartbeats 800000 in
theorem model_any {w : World} {a1 : Option Addr} {n1 c1 b1 off1 : Nat} {bk : List ByteArray} {a2 : Option Addr} {c2 b2 off2 : Nat} {bv : List Bool} {a3 : Option Addr} {n3 c3 b3 off3 : Nat} {sk : List ByteArray}
    (h1 : SV w a1 n1 c1 b1 off1 bk) (h2 : BV w a2 n1 c2 b2 off2 bv) (h3 : SV w a3 n3 c3 b3 off3 sk) (m1 : n1 ≤ 70000) (m3 : n3 ≤ 70000) (s : ByteArray) :
    Calls Tryf.prog 9 #[.slice a1 n1 c1, .slice a2 n1 c2, .slice a3 n3 c3, .string s] w fun e w' => e = .returned (.tuple #[.bool (ans (gB bk bv sk n3 n1 s)).1, .bool (ans (gB bk bv sk n3 n1 s)).2]) ∧ w' = w := by
  have i1 := h1.1.idx
  have i2 := h2.idx
  have i3 := h3.1.idx
  obtain ⟨x, hx⟩ : ∃ x, x = ans (gB bk bv sk n3 n1 s) := ⟨_, rfl⟩
  have HX : Hid (x = ans (gB bk bv sk n3 n1 s)) := hx
  rw [← hx]
  clear hx
  go_enter Tryf.func9, Tryf.ntmps9
  go_wp2
  go_loop [10] (fun i => ∃ (k : Nat), k ≤ n1 ∧ i = .int .i64 ((k : Int) - 1) ∧ Hid (lastB bk bv s n1 = lastB bk bv s k)) (fun i => (intOf i + 1).toNat)
  case atStart => exact ⟨n1, Nat.le_refl _, rfl, rfl⟩
  case round =>
    obtain ⟨k, hk, rfl, hH⟩ := hrel
    rcases k with _ | q
    · have e0 : ((0 : Nat) : Int) - 1 = -1 := rfl
      rw [e0]
      clear e0
      go_wp2
      go_loop [11] (fun i => ∃ (k : Nat), k ≤ n3 ∧ i = .int .i64 k ∧ Hid (hasS sk s k = false)) (fun i => n3 - (intOf i).toNat)
      case atStart => exact ⟨0, Nat.zero_le _, rfl, rfl⟩
      case round =>
        obtain ⟨j, hj, rfl, hJ⟩ := hrel
        by_cases hlt : j < n3
        · obtain ⟨y, hy⟩ : ∃ y, y = sk.getD j ByteArray.empty := ⟨_, rfl⟩
          have hc : w.cell? ⟨b3, off3 + j, none⟩ = some (.string y) := by rw [hy]; exact h3.cell j hlt
          have HY : Hid (y = sk.getD j ByteArray.empty) := hy
          clear hy
          by_cases e : y = s
          · have eb := beq_tt e
            have HR : Hid (x = (false, true)) := (HX.out.trans (ans_str hH.out)).trans (by
              have : hasS sk s (j + 1) = true := by rw [hasS, ← HY.out, if_pos e]
              rw [hasS_mono (by omega) this])
            clear e
            go_wp2
            go_ret2
            rw [HR.out]
            exact ⟨rfl, rfl⟩
          · have eb := beq_ff e
            have HR : Hid (hasS sk s (j + 1) = false) := show _ = _ by rw [hasS, ← HY.out, if_neg e, hJ.out]
            clear e
            go_wp2
            go_round
            case rel => exact ⟨j + 1, by omega, by go_num, HR⟩
            case measure => simp [intOf]; omega
        · have HR : Hid (x = (false, false)) := (HX.out.trans (ans_str hH.out)).trans (by
            have : j = n3 := by omega
            rw [← this, hJ.out])
          go_wp2
          go_ret2
          rw [HR.out]
          exact ⟨rfl, rfl⟩
    · have e0 : ((q + 1 : Nat) : Int) - 1 = (q : Int) := by omega
      rw [e0]
      clear e0
      have hlt : q < n1 := by omega
      obtain ⟨y, hy⟩ : ∃ y, y = bk.getD q ByteArray.empty := ⟨_, rfl⟩
      obtain ⟨r, hr⟩ : ∃ r, r = bv.getD q false := ⟨_, rfl⟩
      have hc : w.cell? ⟨b1, off1 + q, none⟩ = some (.string y) := by rw [hy]; exact h1.cell q hlt
      have hc2 : w.cell? ⟨b2, off2 + q, none⟩ = some (.bool r) := by rw [hr]; exact h2.cell q hlt
      have HY : Hid (y = bk.getD q ByteArray.empty) := hy
      have HV : Hid (r = bv.getD q false) := hr
      clear hy hr
      by_cases e : y = s
      · have eb := beq_tt e
        have HR : Hid (x = (r, false)) := HX.out.trans (ans_hit (by rw [hH.out, lastB, ← HY.out, if_pos e, ← HV.out]))
        clear e
        go_wp2
        go_ret2
        rw [HR.out]
        exact ⟨rfl, rfl⟩
      · have eb := beq_ff e
        have HR : Hid (lastB bk bv s n1 = lastB bk bv s q) := hH.out.trans (by rw [lastB, ← HY.out, if_neg e])
        clear e
        go_wp2
        go_round
        case rel => exact ⟨q, by omega, by go_num, HR⟩
        case measure => simp [intOf]

end Go.Proofs.Qxb6614385aFmt
