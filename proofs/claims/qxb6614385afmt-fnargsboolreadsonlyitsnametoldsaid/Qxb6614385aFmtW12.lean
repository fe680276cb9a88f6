/-
  Seat b6614385aF: the second law at every input.
-/
import Derived.Test.Qxb6614385aFmtW11
namespace Go.Proofs.Qxb6614385aFmt
open Go.RowKit Go.WideMaps Go.Maps Go.Extern.Stop Go.Stop Go.Extern

set_option maxRecDepth 100000 in
set_option maxHeartbeats 3200000 in
theorem law2_e1 {w : World} {a1 : Option Addr} {n1 c1 b1 off1 : Nat} {bk : List ByteArray} {a2 : Option Addr} {n2 c2 b2 off2 : Nat} {bv : List Bool} {a3 : Option Addr} {n3 c3 b3 off3 : Nat} {sk : List ByteArray} {a4 : Option Addr} {n4 c4 b4 off4 : Nat} {sv : List ByteArray}
    (h1 : SV w a1 n1 c1 b1 off1 bk) (h2 : BV w a2 n2 c2 b2 off2 bv) (h3 : SV w a3 n3 c3 b3 off3 sk) (h4 : SV w a4 n4 c4 b4 off4 sv) (s o : ByteArray) (v : Bool) (x : ByteArray)  (m1 : ¬ n1 ≤ 65536) :
    Calls Tryf.prog 4 #[.slice a1 n1 c1, .slice a2 n2 c2, .slice a3 n3 c3, .slice a4 n4 c4, .string s, .string o, .bool v, .string x] w fun e w' => e = .returned (.bool true) ∧ Below w.heap.size w w' := by
  go_enter Tryf.func4, Tryf.ntmps4
  go_wp2_with (first
    | (go_at_call 12; refine (zzb2_any h1 h2 h3 h4 s o v x).mono ?_; rintro e w' ⟨⟨r, rfl⟩, hw⟩; obtain rfl := hw.symm)
    | (go_at_call 7; refine (bytesFit_any h1 h2 h3 h4 _).mono ?_; rintro e w' ⟨⟨r2, rfl⟩, hw⟩; obtain rfl := hw.symm))
  all_goals (go_ret; exact ⟨rfl, Below.refl _ _⟩)

set_option maxRecDepth 100000 in
set_option maxHeartbeats 3200000 in
theorem law2_e2 {w : World} {a1 : Option Addr} {n1 c1 b1 off1 : Nat} {bk : List ByteArray} {a2 : Option Addr} {n2 c2 b2 off2 : Nat} {bv : List Bool} {a3 : Option Addr} {n3 c3 b3 off3 : Nat} {sk : List ByteArray} {a4 : Option Addr} {n4 c4 b4 off4 : Nat} {sv : List ByteArray}
    (h1 : SV w a1 n1 c1 b1 off1 bk) (h2 : BV w a2 n2 c2 b2 off2 bv) (h3 : SV w a3 n3 c3 b3 off3 sk) (h4 : SV w a4 n4 c4 b4 off4 sv) (s o : ByteArray) (v : Bool) (x : ByteArray) (m1 : n1 ≤ 65536) (m2 : ¬ n2 ≤ 65536) :
    Calls Tryf.prog 4 #[.slice a1 n1 c1, .slice a2 n2 c2, .slice a3 n3 c3, .slice a4 n4 c4, .string s, .string o, .bool v, .string x] w fun e w' => e = .returned (.bool true) ∧ Below w.heap.size w w' := by
  go_enter Tryf.func4, Tryf.ntmps4
  go_wp2_with (first
    | (go_at_call 12; refine (zzb2_any h1 h2 h3 h4 s o v x).mono ?_; rintro e w' ⟨⟨r, rfl⟩, hw⟩; obtain rfl := hw.symm)
    | (go_at_call 7; refine (bytesFit_any h1 h2 h3 h4 _).mono ?_; rintro e w' ⟨⟨r2, rfl⟩, hw⟩; obtain rfl := hw.symm))
  all_goals (go_ret; exact ⟨rfl, Below.refl _ _⟩)

set_option maxRecDepth 100000 in
set_option maxHeartbeats 3200000 in
theorem law2_e3 {w : World} {a1 : Option Addr} {n1 c1 b1 off1 : Nat} {bk : List ByteArray} {a2 : Option Addr} {n2 c2 b2 off2 : Nat} {bv : List Bool} {a3 : Option Addr} {n3 c3 b3 off3 : Nat} {sk : List ByteArray} {a4 : Option Addr} {n4 c4 b4 off4 : Nat} {sv : List ByteArray}
    (h1 : SV w a1 n1 c1 b1 off1 bk) (h2 : BV w a2 n2 c2 b2 off2 bv) (h3 : SV w a3 n3 c3 b3 off3 sk) (h4 : SV w a4 n4 c4 b4 off4 sv) (s o : ByteArray) (v : Bool) (x : ByteArray) (m1 : n1 ≤ 65536) (m2 : n2 ≤ 65536) (m3 : ¬ n3 ≤ 65536) :
    Calls Tryf.prog 4 #[.slice a1 n1 c1, .slice a2 n2 c2, .slice a3 n3 c3, .slice a4 n4 c4, .string s, .string o, .bool v, .string x] w fun e w' => e = .returned (.bool true) ∧ Below w.heap.size w w' := by
  go_enter Tryf.func4, Tryf.ntmps4
  go_wp2_with (first
    | (go_at_call 12; refine (zzb2_any h1 h2 h3 h4 s o v x).mono ?_; rintro e w' ⟨⟨r, rfl⟩, hw⟩; obtain rfl := hw.symm)
    | (go_at_call 7; refine (bytesFit_any h1 h2 h3 h4 _).mono ?_; rintro e w' ⟨⟨r2, rfl⟩, hw⟩; obtain rfl := hw.symm))
  all_goals (go_ret; exact ⟨rfl, Below.refl _ _⟩)

set_option maxRecDepth 100000 in
set_option maxHeartbeats 3200000 in
theorem law2_e4 {w : World} {a1 : Option Addr} {n1 c1 b1 off1 : Nat} {bk : List ByteArray} {a2 : Option Addr} {n2 c2 b2 off2 : Nat} {bv : List Bool} {a3 : Option Addr} {n3 c3 b3 off3 : Nat} {sk : List ByteArray} {a4 : Option Addr} {n4 c4 b4 off4 : Nat} {sv : List ByteArray}
    (h1 : SV w a1 n1 c1 b1 off1 bk) (h2 : BV w a2 n2 c2 b2 off2 bv) (h3 : SV w a3 n3 c3 b3 off3 sk) (h4 : SV w a4 n4 c4 b4 off4 sv) (s o : ByteArray) (v : Bool) (x : ByteArray) (m1 : n1 ≤ 65536) (m2 : n2 ≤ 65536) (m3 : n3 ≤ 65536) (m4 : ¬ n4 ≤ 65536) :
    Calls Tryf.prog 4 #[.slice a1 n1 c1, .slice a2 n2 c2, .slice a3 n3 c3, .slice a4 n4 c4, .string s, .string o, .bool v, .string x] w fun e w' => e = .returned (.bool true) ∧ Below w.heap.size w w' := by
  go_enter Tryf.func4, Tryf.ntmps4
  go_wp2_with (first
    | (go_at_call 12; refine (zzb2_any h1 h2 h3 h4 s o v x).mono ?_; rintro e w' ⟨⟨r, rfl⟩, hw⟩; obtain rfl := hw.symm)
    | (go_at_call 7; refine (bytesFit_any h1 h2 h3 h4 _).mono ?_; rintro e w' ⟨⟨r2, rfl⟩, hw⟩; obtain rfl := hw.symm))
  all_goals (go_ret; exact ⟨rfl, Below.refl _ _⟩)

set_option maxRecDepth 100000 in
set_option maxHeartbeats 3200000 in
theorem law2_e5 {w : World} {a1 : Option Addr} {n1 c1 b1 off1 : Nat} {bk : List ByteArray} {a2 : Option Addr} {n2 c2 b2 off2 : Nat} {bv : List Bool} {a3 : Option Addr} {n3 c3 b3 off3 : Nat} {sk : List ByteArray} {a4 : Option Addr} {n4 c4 b4 off4 : Nat} {sv : List ByteArray}
    (h1 : SV w a1 n1 c1 b1 off1 bk) (h2 : BV w a2 n2 c2 b2 off2 bv) (h3 : SV w a3 n3 c3 b3 off3 sk) (h4 : SV w a4 n4 c4 b4 off4 sv) (s o : ByteArray) (v : Bool) (x : ByteArray) (m1 : n1 ≤ 65536) (m2 : n2 ≤ 65536) (m3 : n3 ≤ 65536) (m4 : n4 ≤ 65536) (ms : ¬ s.size ≤ 1048576) :
    Calls Tryf.prog 4 #[.slice a1 n1 c1, .slice a2 n2 c2, .slice a3 n3 c3, .slice a4 n4 c4, .string s, .string o, .bool v, .string x] w fun e w' => e = .returned (.bool true) ∧ Below w.heap.size w w' := by
  go_enter Tryf.func4, Tryf.ntmps4
  go_wp2_with (first
    | (go_at_call 12; refine (zzb2_any h1 h2 h3 h4 s o v x).mono ?_; rintro e w' ⟨⟨r, rfl⟩, hw⟩; obtain rfl := hw.symm)
    | (go_at_call 7; refine (bytesFit_any h1 h2 h3 h4 _).mono ?_; rintro e w' ⟨⟨r2, rfl⟩, hw⟩; obtain rfl := hw.symm))
  all_goals (go_ret; exact ⟨rfl, Below.refl _ _⟩)

set_option maxRecDepth 100000 in
set_option maxHeartbeats 3200000 in
theorem law2_e6 {w : World} {a1 : Option Addr} {n1 c1 b1 off1 : Nat} {bk : List ByteArray} {a2 : Option Addr} {n2 c2 b2 off2 : Nat} {bv : List Bool} {a3 : Option Addr} {n3 c3 b3 off3 : Nat} {sk : List ByteArray} {a4 : Option Addr} {n4 c4 b4 off4 : Nat} {sv : List ByteArray}
    (h1 : SV w a1 n1 c1 b1 off1 bk) (h2 : BV w a2 n2 c2 b2 off2 bv) (h3 : SV w a3 n3 c3 b3 off3 sk) (h4 : SV w a4 n4 c4 b4 off4 sv) (s o : ByteArray) (v : Bool) (x : ByteArray) (m1 : n1 ≤ 65536) (m2 : n2 ≤ 65536) (m3 : n3 ≤ 65536) (m4 : n4 ≤ 65536) (ms : s.size ≤ 1048576) (mo : ¬ o.size ≤ 1048576) :
    Calls Tryf.prog 4 #[.slice a1 n1 c1, .slice a2 n2 c2, .slice a3 n3 c3, .slice a4 n4 c4, .string s, .string o, .bool v, .string x] w fun e w' => e = .returned (.bool true) ∧ Below w.heap.size w w' := by
  go_enter Tryf.func4, Tryf.ntmps4
  go_wp2_with (first
    | (go_at_call 12; refine (zzb2_any h1 h2 h3 h4 s o v x).mono ?_; rintro e w' ⟨⟨r, rfl⟩, hw⟩; obtain rfl := hw.symm)
    | (go_at_call 7; refine (bytesFit_any h1 h2 h3 h4 _).mono ?_; rintro e w' ⟨⟨r2, rfl⟩, hw⟩; obtain rfl := hw.symm))
  all_goals (go_ret; exact ⟨rfl, Below.refl _ _⟩)

set_option maxRecDepth 100000 in
set_option maxHeartbeats 3200000 in
theorem law2_e7 {w : World} {a1 : Option Addr} {n1 c1 b1 off1 : Nat} {bk : List ByteArray} {a2 : Option Addr} {n2 c2 b2 off2 : Nat} {bv : List Bool} {a3 : Option Addr} {n3 c3 b3 off3 : Nat} {sk : List ByteArray} {a4 : Option Addr} {n4 c4 b4 off4 : Nat} {sv : List ByteArray}
    (h1 : SV w a1 n1 c1 b1 off1 bk) (h2 : BV w a2 n2 c2 b2 off2 bv) (h3 : SV w a3 n3 c3 b3 off3 sk) (h4 : SV w a4 n4 c4 b4 off4 sv) (s o : ByteArray) (v : Bool) (x : ByteArray) (m1 : n1 ≤ 65536) (m2 : n2 ≤ 65536) (m3 : n3 ≤ 65536) (m4 : n4 ≤ 65536) (ms : s.size ≤ 1048576) (mo : o.size ≤ 1048576) (mx : ¬ x.size ≤ 1048576) :
    Calls Tryf.prog 4 #[.slice a1 n1 c1, .slice a2 n2 c2, .slice a3 n3 c3, .slice a4 n4 c4, .string s, .string o, .bool v, .string x] w fun e w' => e = .returned (.bool true) ∧ Below w.heap.size w w' := by
  go_enter Tryf.func4, Tryf.ntmps4
  go_wp2_with (first
    | (go_at_call 12; refine (zzb2_any h1 h2 h3 h4 s o v x).mono ?_; rintro e w' ⟨⟨r, rfl⟩, hw⟩; obtain rfl := hw.symm)
    | (go_at_call 7; refine (bytesFit_any h1 h2 h3 h4 _).mono ?_; rintro e w' ⟨⟨r2, rfl⟩, hw⟩; obtain rfl := hw.symm))
  all_goals (go_ret; exact ⟨rfl, Below.refl _ _⟩)

set_option maxRecDepth 100000 in
set_option maxHeartbeats 3200000 in
theorem law2_e8 {w : World} {a1 : Option Addr} {n1 c1 b1 off1 : Nat} {bk : List ByteArray} {a2 : Option Addr} {n2 c2 b2 off2 : Nat} {bv : List Bool} {a3 : Option Addr} {n3 c3 b3 off3 : Nat} {sk : List ByteArray} {a4 : Option Addr} {n4 c4 b4 off4 : Nat} {sv : List ByteArray}
    (h1 : SV w a1 n1 c1 b1 off1 bk) (h2 : BV w a2 n2 c2 b2 off2 bv) (h3 : SV w a3 n3 c3 b3 off3 sk) (h4 : SV w a4 n4 c4 b4 off4 sv) (s o : ByteArray) (v : Bool) (x : ByteArray) (m1 : n1 ≤ 65536) (m2 : n2 ≤ 65536) (m3 : n3 ≤ 65536) (m4 : n4 ≤ 65536) (ms : s.size ≤ 1048576) (mo : o.size ≤ 1048576) (mx : x.size ≤ 1048576) (ne : ((n1 : Int) != (n2 : Int)) = true) :
    Calls Tryf.prog 4 #[.slice a1 n1 c1, .slice a2 n2 c2, .slice a3 n3 c3, .slice a4 n4 c4, .string s, .string o, .bool v, .string x] w fun e w' => e = .returned (.bool true) ∧ Below w.heap.size w w' := by
  go_enter Tryf.func4, Tryf.ntmps4
  go_wp2_with (first
    | (go_at_call 12; refine (zzb2_any h1 h2 h3 h4 s o v x).mono ?_; rintro e w' ⟨⟨r, rfl⟩, hw⟩; obtain rfl := hw.symm)
    | (go_at_call 7; refine (bytesFit_any h1 h2 h3 h4 _).mono ?_; rintro e w' ⟨⟨r2, rfl⟩, hw⟩; obtain rfl := hw.symm))
  all_goals (go_ret; exact ⟨rfl, Below.refl _ _⟩)

set_option maxRecDepth 100000 in
set_option maxHeartbeats 3200000 in
theorem law2_e9 {w : World} {a1 : Option Addr} {n1 c1 b1 off1 : Nat} {bk : List ByteArray} {a2 : Option Addr} {n2 c2 b2 off2 : Nat} {bv : List Bool} {a3 : Option Addr} {n3 c3 b3 off3 : Nat} {sk : List ByteArray} {a4 : Option Addr} {n4 c4 b4 off4 : Nat} {sv : List ByteArray}
    (h1 : SV w a1 n1 c1 b1 off1 bk) (h2 : BV w a2 n2 c2 b2 off2 bv) (h3 : SV w a3 n3 c3 b3 off3 sk) (h4 : SV w a4 n4 c4 b4 off4 sv) (s o : ByteArray) (v : Bool) (x : ByteArray) (m1 : n1 ≤ 65536) (m2 : n2 ≤ 65536) (m3 : n3 ≤ 65536) (m4 : n4 ≤ 65536) (ms : s.size ≤ 1048576) (mo : o.size ≤ 1048576) (mx : x.size ≤ 1048576) (ne : ((n3 : Int) != (n4 : Int)) = true) :
    Calls Tryf.prog 4 #[.slice a1 n1 c1, .slice a2 n2 c2, .slice a3 n3 c3, .slice a4 n4 c4, .string s, .string o, .bool v, .string x] w fun e w' => e = .returned (.bool true) ∧ Below w.heap.size w w' := by
  go_enter Tryf.func4, Tryf.ntmps4
  go_wp2_with (first
    | (go_at_call 12; refine (zzb2_any h1 h2 h3 h4 s o v x).mono ?_; rintro e w' ⟨⟨r, rfl⟩, hw⟩; obtain rfl := hw.symm)
    | (go_at_call 7; refine (bytesFit_any h1 h2 h3 h4 _).mono ?_; rintro e w' ⟨⟨r2, rfl⟩, hw⟩; obtain rfl := hw.symm))
  all_goals (go_ret; exact ⟨rfl, Below.refl _ _⟩)

set_option maxRecDepth 100000 in
set_option maxHeartbeats 3200000 in
theorem law2_e10 {w : World} {a1 : Option Addr} {n1 c1 b1 off1 : Nat} {bk : List ByteArray} {a2 : Option Addr} {n2 c2 b2 off2 : Nat} {bv : List Bool} {a3 : Option Addr} {n3 c3 b3 off3 : Nat} {sk : List ByteArray} {a4 : Option Addr} {n4 c4 b4 off4 : Nat} {sv : List ByteArray}
    (h1 : SV w a1 n1 c1 b1 off1 bk) (h2 : BV w a2 n2 c2 b2 off2 bv) (h3 : SV w a3 n3 c3 b3 off3 sk) (h4 : SV w a4 n4 c4 b4 off4 sv) (s o : ByteArray) (v : Bool) (x : ByteArray) (m1 : n1 ≤ 65536) (m2 : n2 ≤ 65536) (m3 : n3 ≤ 65536) (m4 : n4 ≤ 65536) (ms : s.size ≤ 1048576) (mo : o.size ≤ 1048576) (mx : x.size ≤ 1048576) (eb : (o.toList == s.toList) = true) :
    Calls Tryf.prog 4 #[.slice a1 n1 c1, .slice a2 n2 c2, .slice a3 n3 c3, .slice a4 n4 c4, .string s, .string o, .bool v, .string x] w fun e w' => e = .returned (.bool true) ∧ Below w.heap.size w w' := by
  go_enter Tryf.func4, Tryf.ntmps4
  go_wp2_with (first
    | (go_at_call 12; refine (zzb2_any h1 h2 h3 h4 s o v x).mono ?_; rintro e w' ⟨⟨r, rfl⟩, hw⟩; obtain rfl := hw.symm)
    | (go_at_call 7; refine (bytesFit_any h1 h2 h3 h4 _).mono ?_; rintro e w' ⟨⟨r2, rfl⟩, hw⟩; obtain rfl := hw.symm))
  all_goals (go_ret; exact ⟨rfl, Below.refl _ _⟩)

theorem law2_any {w : World} {a1 : Option Addr} {n1 c1 b1 off1 : Nat} {bk : List ByteArray} {a2 : Option Addr} {n2 c2 b2 off2 : Nat} {bv : List Bool} {a3 : Option Addr} {n3 c3 b3 off3 : Nat} {sk : List ByteArray} {a4 : Option Addr} {n4 c4 b4 off4 : Nat} {sv : List ByteArray}
    (h1 : SV w a1 n1 c1 b1 off1 bk) (h2 : BV w a2 n2 c2 b2 off2 bv) (h3 : SV w a3 n3 c3 b3 off3 sk) (h4 : SV w a4 n4 c4 b4 off4 sv) (s o : ByteArray) (v : Bool) (x : ByteArray) (F : Interp) (hF : F.answers w.tape) :
    Calls Tryf.prog 4 #[.slice a1 n1 c1, .slice a2 n2 c2, .slice a3 n3 c3, .slice a4 n4 c4, .string s, .string o, .bool v, .string x] w fun e w' => e = .returned (.bool true) ∧ Below w.heap.size w w' := by
  by_cases m1 : n1 ≤ 65536
  rotate_left
  · exact law2_e1 h1 h2 h3 h4 s o v x m1
  by_cases m2 : n2 ≤ 65536
  rotate_left
  · exact law2_e2 h1 h2 h3 h4 s o v x m1 m2
  by_cases m3 : n3 ≤ 65536
  rotate_left
  · exact law2_e3 h1 h2 h3 h4 s o v x m1 m2 m3
  by_cases m4 : n4 ≤ 65536
  rotate_left
  · exact law2_e4 h1 h2 h3 h4 s o v x m1 m2 m3 m4
  by_cases ms : s.size ≤ 1048576
  rotate_left
  · exact law2_e5 h1 h2 h3 h4 s o v x m1 m2 m3 m4 ms
  by_cases mo : o.size ≤ 1048576
  rotate_left
  · exact law2_e6 h1 h2 h3 h4 s o v x m1 m2 m3 m4 ms mo
  by_cases mx : x.size ≤ 1048576
  rotate_left
  · exact law2_e7 h1 h2 h3 h4 s o v x m1 m2 m3 m4 ms mo mx
  by_cases e1 : n1 = n2
  rotate_left
  · exact law2_e8 h1 h2 h3 h4 s o v x m1 m2 m3 m4 ms mo mx (by simp; omega)
  by_cases e2 : n3 = n4
  rotate_left
  · exact law2_e9 h1 h2 h3 h4 s o v x m1 m2 m3 m4 ms mo mx (by simp; omega)
  by_cases e3 : o = s
  · exact law2_e10 h1 h2 h3 h4 s o v x m1 m2 m3 m4 ms mo mx (beq_tt e3)
  subst e1
  subst e2
  exact law2_main h1 h2 h3 h4 m1 m3 ms mo v mx (beq_ff e3) e3 F hF

end Go.Proofs.Qxb6614385aFmt
