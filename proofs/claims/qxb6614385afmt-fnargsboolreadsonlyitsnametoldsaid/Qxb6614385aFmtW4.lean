/-
  Seat b6614385aF: zzAddStrs, zzBytesFit (some answer, the world as it was), zzBoolModel.
-/
import Derived.Test.Qxb6614385aFmtW3
namespace Go.Proofs.Qxb6614385aFmt
open Go.RowKit Go.WideMaps Go.Maps Go.Extern.Stop Go.Stop Go.Extern

/-- The call returns some bool. -/
def SomeBool (e : Ending) : Prop := ∃ r, e = .returned (.bool r)
theorem SomeBool.mk (r : Bool) : SomeBool (.returned (.bool r)) := ⟨r, rfl⟩
/-- The call returns some int. -/
def SomeInt (e : Ending) : Prop := ∃ r, e = .returned (.int .i64 r)
theorem SomeInt.mk (r : Int) : SomeInt (.returned (.int .i64 r)) := ⟨r, rfl⟩

set_option maxHeartbeats 800000 in
theorem addStrs_any {w : World} {a1 : Option Addr} {n1 c1 b1 off1 : Nat} {ss1 : List ByteArray} (h1 : SV w a1 n1 c1 b1 off1 ss1) (t : Int) :
    Calls Tryf.prog 19 #[.int .i64 t, .slice a1 n1 c1] w fun e w' => SomeInt e ∧ w' = w := by
  have i1 := h1.1.idx
  have g1 := h1.cell
  have l1 := h1.1.small
  clear h1
  go_enter Tryf.func19, Tryf.ntmps19
  go_wp2
  go_loop [0, 5] (fun t i => ∃ (z : Int) (k : Nat), k ≤ n1 ∧ t = .int .i64 z ∧ i = .int .i64 k) (fun _ i => n1 - (intOf i).toNat)
  case atStart => exact ⟨_, 0, Nat.zero_le _, rfl, rfl⟩
  case round =>
    obtain ⟨z, k, hk, rfl, rfl⟩ := hrel
    by_cases hlt : k < n1
    · go_wp2
      · go_ret
        exact ⟨⟨_, rfl⟩, rfl⟩
      · go_ret
        exact ⟨⟨_, rfl⟩, rfl⟩
      · go_round
        case rel => exact ⟨_, k + 1, by omega, rfl, by go_num⟩
        case measure => simp [intOf]; omega
    · go_wp2
      go_ret
      exact ⟨⟨_, rfl⟩, rfl⟩

set_option maxHeartbeats 800000 in
theorem bytesFit_any {w : World} {a1 : Option Addr} {n1 c1 b1 off1 : Nat} {ss1 : List ByteArray} {a2 : Option Addr} {n2 c2 b2 off2 : Nat} {ss2 : List Bool} {a3 : Option Addr} {n3 c3 b3 off3 : Nat} {ss3 : List ByteArray} {a4 : Option Addr} {n4 c4 b4 off4 : Nat} {ss4 : List ByteArray}
    (h1 : SV w a1 n1 c1 b1 off1 ss1) (_h2 : BV w a2 n2 c2 b2 off2 ss2) (h3 : SV w a3 n3 c3 b3 off3 ss3) (h4 : SV w a4 n4 c4 b4 off4 ss4) (t : Int) :
    Calls Tryf.prog 7 #[.slice a1 n1 c1, .slice a2 n2 c2, .slice a3 n3 c3, .slice a4 n4 c4, .int .i64 t] w fun e w' => SomeBool e ∧ w' = w := by
  have t1 : True := trivial
  have t2 : True := trivial
  go_enter Tryf.func7, Tryf.ntmps7
  go_wp2_with (first
    | (go_at_call 19; have _u := t1; clear t1; refine (addStrs_any h1 _).mono ?_; rintro e w' ⟨⟨r1, rfl⟩, hw⟩; obtain rfl := hw.symm)
    | (go_at_call 19; have _u := t2; clear t2; refine (addStrs_any h3 _).mono ?_; rintro e w' ⟨⟨r2, rfl⟩, hw⟩; obtain rfl := hw.symm)
    | (go_at_call 19; refine (addStrs_any h4 _).mono ?_; rintro e w' ⟨⟨r3, rfl⟩, hw⟩; obtain rfl := hw.symm))
  all_goals (go_ret; exact ⟨SomeBool.mk _, rfl⟩)

end Go.Proofs.Qxb6614385aFmt
