/-
  Seat b6605717a: the arguments' slices; ZZsettle; zsb1PrevWithComp; zzBytes.
-/
import Derived.Test.Qxb6605717aW3
namespace Go.Proofs.Qxb6605717a
open Go.RowKit

/-- hasComp: its k-th bool is hc k. -/
structure BV (w : World) (a : Option Addr) (n c b off : Nat) (hc : Nat → Bool) : Prop where
  idx : ∀ (k : Nat) (w : World), k < n → (Instr.indexAt 22 (.slice a n c) (.int .i64 (k : Int))).run Try.prog w = .ok (.pointer (some ⟨b, off + k, none⟩)) w
  cell : ∀ k, k < n → w.cell? ⟨b, off + k, none⟩ = some (.bool (hc k))
  low : 0 < n → b < w.heap.size
  small : n ≤ 140737488351232

/-- script: its k-th answer is (cl k, sn k). -/
structure PV (w : World) (a : Option Addr) (m c b off : Nat) (cl : Nat → Int) (sn : Nat → Bool) : Prop where
  idx : ∀ (k : Nat) (w : World), k < m → (Instr.indexAt 23 (.slice a m c) (.int .i64 (k : Int))).run Try.prog w = .ok (.pointer (some ⟨b, off + 2 * k, none⟩)) w
  cell : ∀ k, k < m → w.cell? ⟨b, off + 2 * k, none⟩ = some (.int .i64 (cl k))
  cell1 : ∀ k, k < m → w.cell? ⟨b, off + 2 * k + 1, none⟩ = some (.bool (sn k))
  low : 0 < m → b < w.heap.size
  small : m ≤ 140737488351232

theorem BV.below {w w' : World} {a : Option Addr} {n c b off : Nat} {hc : Nat → Bool} (h : BV w a n c b off hc) (hb : Below w.heap.size w w') : BV w' a n c b off hc :=
  ⟨h.idx, fun k hk => (hb.cell (p := ⟨b, off + k, none⟩) (h.low (by omega))).trans (h.cell k hk), fun hn => Nat.lt_of_lt_of_le (h.low hn) hb.size, h.small⟩
theorem PV.below {w w' : World} {a : Option Addr} {m c b off : Nat} {cl : Nat → Int} {sn : Nat → Bool} (h : PV w a m c b off cl sn) (hb : Below w.heap.size w w') : PV w' a m c b off cl sn :=
  ⟨h.idx, fun k hk => (hb.cell (p := ⟨b, off + 2 * k, none⟩) (h.low (by omega))).trans (h.cell k hk), fun k hk => (hb.cell (p := ⟨b, off + 2 * k + 1, none⟩) (h.low (by omega))).trans (h.cell1 k hk), fun hn => Nat.lt_of_lt_of_le (h.low hn) hb.size, h.small⟩

theorem zz_of {w : World} {rb : Nat} {p : Nat} {c : Int} {s : Bool} {P : World → Prop} (h : Calls Try.prog 9 #[.pointer (some ⟨rb, 0, none⟩), .int .i64 p, .int .i64 c, .bool s] w fun e w' => e = .returned (.tuple #[]) ∧ P w') :
    Calls Try.prog 6 #[.pointer (some ⟨rb, 0, none⟩), .int .i64 p, .int .i64 c, .bool s] w fun e w' => e = .returned (.tuple #[]) ∧ P w' := by
  go_enter Try.func6, Try.ntmps6
  go_wp2_with (go_at_call 9; refine h.mono ?_; rintro e w1 ⟨rfl, hP⟩)
  go_end0
  exact ⟨rfl, hP⟩

/-- The highest position below p with a compensation. -/
def prevC (hc : Nat → Bool) : Nat → Option Nat
  | 0 => none
  | k + 1 => if hc k then some k else prevC hc k

theorem prevC_none {hc : Nat → Bool} : ∀ {p : Nat}, prevC hc p = none → ∀ i, i < p → hc i = false
  | 0, _, i, h => absurd h (by omega)
  | k + 1, h, i, hi => by
    rw [prevC] at h
    cases e : hc k
    · rw [e] at h
      by_cases ei : i = k
      · rw [ei]; exact e
      · exact prevC_none (by simpa using h) i (by omega)
    · rw [e] at h; simp at h

theorem prevC_some {hc : Nat → Bool} {j : Nat} : ∀ {p : Nat}, prevC hc p = some j → j < p ∧ hc j = true ∧ ∀ i, j < i → i < p → hc i = false
  | 0, h => by simp [prevC] at h
  | k + 1, h => by
    rw [prevC] at h
    cases e : hc k
    · rw [e] at h
      obtain ⟨h1, h2, h3⟩ := prevC_some (p := k) (by simpa using h)
      refine ⟨by omega, h2, fun i hi hik => ?_⟩
      by_cases ei : i = k
      · rw [ei]; exact e
      · exact h3 i hi (by omega)
    · rw [e] at h
      simp at h
      subst h
      exact ⟨by omega, e, fun i hi hik => absurd hi (by omega)⟩

/-- What zsb1PrevWithComp returns. -/
def prevI (q : Option Nat) : Int := match q with | some j => j | none => -1

set_option maxHeartbeats 800000 in
theorem prev_any {w : World} {a : Option Addr} {n c b off : Nat} {hc : Nat → Bool} (h : BV w a n c b off hc) {p : Nat} (hp : p ≤ n) (hn : n ≤ 4096) {q : Option Nat} (hq : Hid (prevC hc p = q)) :
    Calls Try.prog 7 #[.slice a n c, .int .i64 p] w fun e w' => e = .returned (.int .i64 (prevI q)) ∧ w' = w := by
  have ix := h.idx
  go_enter Try.func7, Try.ntmps7
  go_wp2
  go_loop [5] (fun i => ∃ (k : Nat), k ≤ p ∧ i = .int .i64 ((k : Int) - 1) ∧ Hid (prevC hc k = q)) (fun i => (intOf i + 1).toNat)
  case atStart => exact ⟨p, Nat.le_refl _, rfl, hq⟩
  case round =>
    obtain ⟨k0, hk, rfl, hH⟩ := hrel
    rcases k0 with _ | k
    · have e0 : ((0 : Nat) : Int) - 1 = -1 := rfl
      rw [e0]
      clear e0
      have HE : Hid (q = none) := hH.out.symm
      go_wp2
      go_ret
      exact ⟨by rw [HE.out]; rfl, rfl⟩
    · have e0 : ((k + 1 : Nat) : Int) - 1 = (k : Int) := by omega
      rw [e0]
      clear e0
      have hlt : k < n := by omega
      have d := h.cell k hlt
      cases e : hc k
      · have HE : Hid (prevC hc k = q) := show _ = _ by
          have := hH.out
          rw [prevC, e] at this
          simpa using this
        rw [e] at d
        clear e
        go_wp2
        go_round
        case rel => exact ⟨k, by omega, rfl, HE⟩
        case measure => simp [intOf]
      · have HE : Hid (q = some k) := show _ = _ by
          have := hH.out
          rw [prevC, e] at this
          exact (by simpa using this.symm)
        rw [e] at d
        clear e
        go_wp2
        go_ret
        exact ⟨by rw [HE.out]; rfl, rfl⟩

/-- The call returns some bool. -/
def SomeBool (e : Ending) : Prop := ∃ r, e = .returned (.bool r)
theorem SomeBool.mk (r : Bool) : SomeBool (.returned (.bool r)) := ⟨r, rfl⟩

theorem zzb_any {w : World} {a1 a2 : Option Addr} {n1 c1 n2 c2 : Nat} (l1 : n1 ≤ 140737488351232) (l2 : n2 ≤ 140737488351232) :
    Calls Try.prog 4 #[.slice a1 n1 c1, .slice a2 n2 c2] w fun e w' => SomeBool e ∧ w' = w := by
  go_enter Try.func4, Try.ntmps4
  go_wp2
  all_goals (go_ret; exact ⟨SomeBool.mk _, rfl⟩)

end Go.Proofs.Qxb6605717a
