/-
  Seat b6614385aF: ZZArgsBool.
-/
import Derived.Test.Qxb6614385aFmtW2
namespace Go.Proofs.Qxb6614385aFmt
open Go.RowKit Go.WideMaps Go.Maps Go.Extern.Stop Go.Stop Go.Extern

/-- What Bool answers, and whether it refuses. -/
def ans : Option (Option Bool) → Bool × Bool
  | none => (false, false)
  | some none => (false, true)
  | some (some r) => (r, false)

set_option maxHeartbeats 800000 in
theorem argsBool_any {w : World} {a1 : Option Addr} {n1 c1 b1 off1 : Nat} {bk : List ByteArray} {a2 : Option Addr} {c2 b2 off2 : Nat} {bv : List Bool} {a3 : Option Addr} {n3 c3 b3 off3 : Nat} {sk : List ByteArray} {a4 : Option Addr} {c4 b4 off4 : Nat} {sv : List ByteArray}
    (h1 : SV w a1 n1 c1 b1 off1 bk) (h2 : BV w a2 n1 c2 b2 off2 bv) (h3 : SV w a3 n3 c3 b3 off3 sk) (h4 : SV w a4 n3 c4 b4 off4 sv) (m1 : n1 ≤ 70000) (m3 : n3 ≤ 70000)
    {s : ByteArray} (hs : s.size ≤ maxLen) (F : Interp) (hF : F.answers w.tape) :
    Calls Tryf.prog 8 #[.slice a1 n1 c1, .slice a2 n1 c2, .slice a3 n3 c3, .slice a4 n3 c4, .string s] w fun e w' => e = .returned (.tuple #[.bool (ans (gB bk bv sk n3 n1 s)).1, .bool (ans (gB bk bv sk n3 n1 s)).2]) ∧ Below w.heap.size w w' := by
  obtain ⟨x, hx⟩ : ∃ x, x = gB bk bv sk n3 n1 s := ⟨_, rfl⟩
  have HX : Hid (x = gB bk bv sk n3 n1 s) := hx
  rw [← hx]
  clear hx
  rcases x with _ | _ | r
  · go_enter Tryf.func8, Tryf.ntmps8
    go_wp2_with (first
      | (go_at_call 20; refine (argsOf_any h1 h2 h3 h4 m1 m3).mono ?_; rintro e w1 ⟨rfl, ho, hb⟩)
      | (go_at_call 21; refine (bool_none ho hs HX.out.symm).mono ?_; rintro e w2 ⟨rfl, hw⟩; obtain rfl := hw.symm))
    go_region
    go_wp2
    go_ret2
    exact ⟨rfl, hb.drew⟩
  · go_enter Tryf.func8, Tryf.ntmps8
    go_wp2_with (first
      | (go_at_call 20; refine (argsOf_any h1 h2 h3 h4 m1 m3).mono ?_; rintro e w1 ⟨rfl, ho, hb⟩)
      | (go_at_call 21; refine (bool_string ho hs HX.out.symm F (by rw [hb.tape]; exact hF)).mono ?_; rintro e w2 ⟨rfl, hb2⟩))
    go_region
    go_wp2
    go_ret2
    exact ⟨rfl, (hb.trans (hb2.mono hb.size)).drew⟩
  · go_enter Tryf.func8, Tryf.ntmps8
    go_wp2_with (first
      | (go_at_call 20; refine (argsOf_any h1 h2 h3 h4 m1 m3).mono ?_; rintro e w1 ⟨rfl, ho, hb⟩)
      | (go_at_call 21; refine (bool_bool ho hs HX.out.symm).mono ?_; rintro e w2 ⟨rfl, hw⟩; obtain rfl := hw.symm))
    go_region
    go_wp2
    go_ret2
    exact ⟨rfl, hb.drew⟩

end Go.Proofs.Qxb6614385aFmt
