/-
  Seat b6614385aF: the two zzBytes_: some bool, the world as it was.
-/
import Derived.Test.Qxb6614385aFmtW6
namespace Go.Proofs.Qxb6614385aFmt
open Go.RowKit Go.WideMaps Go.Maps Go.Extern.Stop Go.Stop Go.Extern

set_option maxRecDepth 100000 in
set_option maxHeartbeats 1600000 in
theorem zzb1_any {w : World} {a1 : Option Addr} {n1 c1 b1 off1 : Nat} {ss1 : List ByteArray} {a2 : Option Addr} {n2 c2 b2 off2 : Nat} {ss2 : List Bool} {a3 : Option Addr} {n3 c3 b3 off3 : Nat} {ss3 : List ByteArray} {a4 : Option Addr} {n4 c4 b4 off4 : Nat} {ss4 : List ByteArray}
    (h1 : SV w a1 n1 c1 b1 off1 ss1) (h2 : BV w a2 n2 c2 b2 off2 ss2) (h3 : SV w a3 n3 c3 b3 off3 ss3) (h4 : SV w a4 n4 c4 b4 off4 ss4) (s : ByteArray) (v : Bool) :
    Calls Tryf.prog 6 #[.slice a1 n1 c1, .slice a2 n2 c2, .slice a3 n3 c3, .slice a4 n4 c4, .string s, .bool v] w fun e w' => SomeBool e ∧ w' = w := by
  have i1 := h1.1.idx
  have i3 := h3.1.idx
  have i4 := h4.1.idx
  have g1 := h1.cell
  have g3 := h3.cell
  have g4 := h4.cell
  have l1 := h1.1.small
  have l2 := GV.small h2
  have l3 := h3.1.small
  have l4 := h4.1.small
  clear h1 h2 h3 h4
  go_enter Tryf.func6, Tryf.ntmps6
  go_wp2
  all_goals first | (go_ret; exact ⟨SomeBool.mk _, rfl⟩) | skip
  go_loop [13, 14] (fun t i => ∃ (z : Int) (k : Nat), k ≤ n1 ∧ t = .int .i64 z ∧ i = .int .i64 k) (fun _ i => n1 - (intOf i).toNat)
  case atStart => exact ⟨_, 0, Nat.zero_le _, rfl, rfl⟩
  case round =>
    obtain ⟨z, k, hk, rfl, rfl⟩ := hrel
    by_cases hklt : k < n1
    · go_wp2
      all_goals first | (go_ret; exact ⟨SomeBool.mk _, rfl⟩) | skip
      go_round
      case rel => exact ⟨_, k + 1, by omega, rfl, by go_num⟩
      case measure => simp [intOf]; omega
    · go_wp2
      all_goals first | (go_ret; exact ⟨SomeBool.mk _, rfl⟩) | skip
      clear i1 g1
      go_loop [13, 15] (fun t i => ∃ (z : Int) (k : Nat), k ≤ n3 ∧ t = .int .i64 z ∧ i = .int .i64 k) (fun _ i => n3 - (intOf i).toNat)
      case atStart => exact ⟨_, 0, Nat.zero_le _, rfl, rfl⟩
      case round =>
        obtain ⟨z, j, hj, rfl, rfl⟩ := hrel
        by_cases hjlt : j < n3
        · go_wp2
          all_goals first | (go_ret; exact ⟨SomeBool.mk _, rfl⟩) | skip
          go_round
          case rel => exact ⟨_, j + 1, by omega, rfl, by go_num⟩
          case measure => simp [intOf]; omega
        · go_wp2
          all_goals first | (go_ret; exact ⟨SomeBool.mk _, rfl⟩) | skip
          clear i3 g3
          go_loop [13, 16] (fun t i => ∃ (z : Int) (k : Nat), k ≤ n4 ∧ t = .int .i64 z ∧ i = .int .i64 k) (fun _ i => n4 - (intOf i).toNat)
          case atStart => exact ⟨_, 0, Nat.zero_le _, rfl, rfl⟩
          case round =>
            obtain ⟨z, q, hq, rfl, rfl⟩ := hrel
            by_cases hqlt : q < n4
            · go_wp2
              all_goals first | (go_ret; exact ⟨SomeBool.mk _, rfl⟩) | skip
              go_round
              case rel => exact ⟨_, q + 1, by omega, rfl, by go_num⟩
              case measure => simp [intOf]; omega
            · go_wp2
              all_goals (go_ret; exact ⟨SomeBool.mk _, rfl⟩)

set_option maxRecDepth 100000 in
set_option maxHeartbeats 1600000 in
theorem zzb2_any {w : World} {a1 : Option Addr} {n1 c1 b1 off1 : Nat} {ss1 : List ByteArray} {a2 : Option Addr} {n2 c2 b2 off2 : Nat} {ss2 : List Bool} {a3 : Option Addr} {n3 c3 b3 off3 : Nat} {ss3 : List ByteArray} {a4 : Option Addr} {n4 c4 b4 off4 : Nat} {ss4 : List ByteArray}
    (h1 : SV w a1 n1 c1 b1 off1 ss1) (h2 : BV w a2 n2 c2 b2 off2 ss2) (h3 : SV w a3 n3 c3 b3 off3 ss3) (h4 : SV w a4 n4 c4 b4 off4 ss4) (s o : ByteArray) (v : Bool) (x : ByteArray) :
    Calls Tryf.prog 12 #[.slice a1 n1 c1, .slice a2 n2 c2, .slice a3 n3 c3, .slice a4 n4 c4, .string s, .string o, .bool v, .string x] w fun e w' => SomeBool e ∧ w' = w := by
  have i1 := h1.1.idx
  have i3 := h3.1.idx
  have i4 := h4.1.idx
  have g1 := h1.cell
  have g3 := h3.cell
  have g4 := h4.cell
  have l1 := h1.1.small
  have l2 := GV.small h2
  have l3 := h3.1.small
  have l4 := h4.1.small
  clear h1 h2 h3 h4
  go_enter Tryf.func12, Tryf.ntmps12
  go_wp2
  all_goals first | (go_ret; exact ⟨SomeBool.mk _, rfl⟩) | skip
  go_loop [17, 18] (fun t i => ∃ (z : Int) (k : Nat), k ≤ n1 ∧ t = .int .i64 z ∧ i = .int .i64 k) (fun _ i => n1 - (intOf i).toNat)
  case atStart => exact ⟨_, 0, Nat.zero_le _, rfl, rfl⟩
  case round =>
    obtain ⟨z, k, hk, rfl, rfl⟩ := hrel
    by_cases hklt : k < n1
    · go_wp2
      all_goals first | (go_ret; exact ⟨SomeBool.mk _, rfl⟩) | skip
      go_round
      case rel => exact ⟨_, k + 1, by omega, rfl, by go_num⟩
      case measure => simp [intOf]; omega
    · go_wp2
      all_goals first | (go_ret; exact ⟨SomeBool.mk _, rfl⟩) | skip
      clear i1 g1
      go_loop [17, 19] (fun t i => ∃ (z : Int) (k : Nat), k ≤ n3 ∧ t = .int .i64 z ∧ i = .int .i64 k) (fun _ i => n3 - (intOf i).toNat)
      case atStart => exact ⟨_, 0, Nat.zero_le _, rfl, rfl⟩
      case round =>
        obtain ⟨z, j, hj, rfl, rfl⟩ := hrel
        by_cases hjlt : j < n3
        · go_wp2
          all_goals first | (go_ret; exact ⟨SomeBool.mk _, rfl⟩) | skip
          go_round
          case rel => exact ⟨_, j + 1, by omega, rfl, by go_num⟩
          case measure => simp [intOf]; omega
        · go_wp2
          all_goals first | (go_ret; exact ⟨SomeBool.mk _, rfl⟩) | skip
          clear i3 g3
          go_loop [17, 20] (fun t i => ∃ (z : Int) (k : Nat), k ≤ n4 ∧ t = .int .i64 z ∧ i = .int .i64 k) (fun _ i => n4 - (intOf i).toNat)
          case atStart => exact ⟨_, 0, Nat.zero_le _, rfl, rfl⟩
          case round =>
            obtain ⟨z, q, hq, rfl, rfl⟩ := hrel
            by_cases hqlt : q < n4
            · go_wp2
              all_goals first | (go_ret; exact ⟨SomeBool.mk _, rfl⟩) | skip
              go_round
              case rel => exact ⟨_, q + 1, by omega, rfl, by go_num⟩
              case measure => simp [intOf]; omega
            · go_wp2
              all_goals (go_ret; exact ⟨SomeBool.mk _, rfl⟩)

end Go.Proofs.Qxb6614385aFmt
