/-
  Seat b6614385aF: (Args).Bool.
-/
import Derived.Test.Qxb6614385aFmtBase
namespace Go.Proofs.Qxb6614385aFmt
open Go.RowKit Go.WideMaps Go.Maps Go.Extern.Stop Go.Stop Go.Extern

attribute [local go_sem] Tryf.call26 Tryf.guard Tryf.fmt0 Tryf.fmt0r Tryf.op9_115 Tryf.op9_115w Tryf.strict9 Tryf.ptr57 Tryf.elem57 Tryf.isError57'

theorem assertB (r : Bool) (w : World) : (Instr.typeAssert (.iface 4 (.bool r)) 20 4 true).run Tryf.prog w = .ok (.tuple #[.bool r, .bool true]) w := by kernel_rfl
theorem assertS (t : ByteArray) (w : World) : (Instr.typeAssert (.iface 9 (.string t)) 20 4 true).run Tryf.prog w = .ok (.tuple #[.bool false, .bool false]) w := by kernel_rfl

theorem bool_none {w : World} {b n : Nat} {g : ByteArray → Option (Option Bool)} (h : OwnA w b n g) {s : ByteArray} (hs : s.size ≤ maxLen) (hg : g s = none) :
    Calls Tryf.prog 21 #[.map (some b), .string s] w fun e w' => e = .returned (.tuple #[.bool false, .nilIface]) ∧ w' = w := by
  obtain ⟨v, hl, hv⟩ := h.look hs
  rw [hg] at hl hv
  obtain rfl : v = .nilIface := hv
  rw [Option.isSome_none] at hl
  clear hg h
  have q1 := assertB
  go_enter Tryf.func21, Tryf.ntmps21
  go_wp2
  go_ret2
  exact ⟨rfl, rfl⟩

theorem bool_bool {w : World} {b n : Nat} {g : ByteArray → Option (Option Bool)} (h : OwnA w b n g) {s : ByteArray} (hs : s.size ≤ maxLen) {r : Bool} (hg : g s = some (some r)) :
    Calls Tryf.prog 21 #[.map (some b), .string s] w fun e w' => e = .returned (.tuple #[.bool r, .nilIface]) ∧ w' = w := by
  obtain ⟨v, hl, hv⟩ := h.look hs
  rw [hg] at hl hv
  obtain rfl : v = .iface 4 (.bool r) := hv
  rw [Option.isSome_some] at hl
  clear hg h
  have q1 := assertB
  go_enter Tryf.func21, Tryf.ntmps21
  go_wp2
  go_ret2
  exact ⟨rfl, rfl⟩

theorem bool_string {w : World} {b n : Nat} {g : ByteArray → Option (Option Bool)} (h : OwnA w b n g) {s : ByteArray} (hs : s.size ≤ maxLen) (hg : g s = some none) (F : Interp) (hF : F.answers w.tape) :
    Calls Tryf.prog 21 #[.map (some b), .string s] w fun e w' => e = .returned (.tuple #[.bool false, .iface 57 (.pointer (some ⟨w.heap.size + 1, 0, none⟩))]) ∧ Below w.heap.size w w' := by
  obtain ⟨v, hl, hv⟩ := h.look hs
  rw [hg] at hl hv
  obtain ⟨t, rfl⟩ : ∃ t, v = .iface 9 (.string t) := hv
  rw [Option.isSome_some] at hl
  clear hg h
  have hF' := answers_open hF
  have q1 := assertS
  go_enter Tryf.func21, Tryf.ntmps21
  go_wp2
  go_ret2
  exact ⟨rfl, (((Below.refl _ w).alloc (Nat.le_refl _) _).alloc (by simp) _).drew⟩

end Go.Proofs.Qxb6614385aFmt
