/-
  Seat b6605717a: where the machine stands, and what each answer does to it. No Go here.
-/
import Derived.Test.Qxb6605717aW5b
namespace Go.Proofs.Qxb6605717a
open Go.RowKit

theorem upd_upd {α : Type} (f : Nat → α) (p : Nat) (a b : α) : upd (upd f p a) p b = upd f p b := by
  funext k
  unfold upd
  split <;> rfl

/-- Where the machine stands while the saga goes on. -/
structure Sit (n p : Nat) (bk : Bool) (hc : Nat → Bool) (st : Nat → ByteArray) : Prop where
  lt : p < n
  noT : ∀ k, k < n → st k ≠ ⟨#[84, 73, 77, 69, 68, 95, 79, 85, 84]⟩
  low : ∀ j, j < p → st j = ⟨#[83, 85, 67, 67, 69, 69, 68, 69, 68]⟩
  fwd : bk = false → ∀ j, p ≤ j → j < n → st j = ⟨#[80, 69, 78, 68, 73, 78, 71]⟩
  back : bk = true → st p = ⟨#[83, 85, 67, 67, 69, 69, 68, 69, 68]⟩ ∧ hc p = true ∧ ∀ j, p < j → j < n → ¬ (st j = ⟨#[83, 85, 67, 67, 69, 69, 68, 69, 68]⟩ ∧ hc j = true)

theorem pend_succ : ¬ ((⟨#[80, 69, 78, 68, 73, 78, 71]⟩ : ByteArray) = ⟨#[83, 85, 67, 67, 69, 69, 68, 69, 68]⟩) := by decide
theorem fail_succ : ¬ ((⟨#[70, 65, 73, 76, 69, 68]⟩ : ByteArray) = ⟨#[83, 85, 67, 67, 69, 69, 68, 69, 68]⟩) := by decide
theorem comp_succ : ¬ ((⟨#[67, 79, 77, 80, 69, 78, 83, 65, 84, 69, 68]⟩ : ByteArray) = ⟨#[83, 85, 67, 67, 69, 69, 68, 69, 68]⟩) := by decide
theorem succ_timed : ¬ ((⟨#[83, 85, 67, 67, 69, 69, 68, 69, 68]⟩ : ByteArray) = ⟨#[84, 73, 77, 69, 68, 95, 79, 85, 84]⟩) := by decide
theorem fail_timed : ¬ ((⟨#[70, 65, 73, 76, 69, 68]⟩ : ByteArray) = ⟨#[84, 73, 77, 69, 68, 95, 79, 85, 84]⟩) := by decide
theorem comp_timed : ¬ ((⟨#[67, 79, 77, 80, 69, 78, 83, 65, 84, 69, 68]⟩ : ByteArray) = ⟨#[84, 73, 77, 69, 68, 95, 79, 85, 84]⟩) := by decide
theorem pend_timed : ¬ ((⟨#[80, 69, 78, 68, 73, 78, 71]⟩ : ByteArray) = ⟨#[84, 73, 77, 69, 68, 95, 79, 85, 84]⟩) := by decide

theorem Sit.start {n : Nat} (h : 0 < n) (hc : Nat → Bool) : Sit n 0 false hc (fun _ => ⟨#[80, 69, 78, 68, 73, 78, 71]⟩) :=
  ⟨h, fun _ _ => pend_timed, fun j hj => absurd hj (by omega), fun _ _ _ _ => rfl, fun h => by cases h⟩

/-- success, forward -/
theorem Sit.f1_c {n p : Nat} {hc : Nat → Bool} {st : Nat → ByteArray} (h : Sit n p false hc st) : decide (p + 1 < n) = true ↔ ∃ k, k < n ∧ upd st p ⟨#[83, 85, 67, 67, 69, 69, 68, 69, 68]⟩ k ≠ ⟨#[83, 85, 67, 67, 69, 69, 68, 69, 68]⟩ := by
  rw [decide_eq_true_iff]
  constructor
  · intro hp
    refine ⟨p + 1, hp, ?_⟩
    rw [upd_other _ _ (by omega), h.fwd rfl (p + 1) (by omega) hp]
    exact pend_succ
  · rintro ⟨k, hk, hne⟩
    by_cases e : k = p
    · rw [e, upd_same] at hne; exact absurd rfl hne
    · rw [upd_other _ _ e] at hne
      by_cases e2 : k < p
      · exact absurd (h.low k e2) hne
      · omega
theorem Sit.f1 {n p : Nat} {hc : Nat → Bool} {st : Nat → ByteArray} (h : Sit n p false hc st) (hp : p + 1 < n) : Sit n (p + 1) false hc (upd st p ⟨#[83, 85, 67, 67, 69, 69, 68, 69, 68]⟩) := by
  refine ⟨hp, fun k hk => ?_, fun j hj => ?_, fun _ j h1 h2 => ?_, fun h => by cases h⟩
  · by_cases e : k = p
    · rw [e, upd_same]; exact succ_timed
    · rw [upd_other _ _ e]; exact h.noT k hk
  · by_cases e : j = p
    · rw [e, upd_same]
    · rw [upd_other _ _ e]; exact h.low j (by omega)
  · rw [upd_other _ _ (by omega)]; exact h.fwd rfl j (by omega) h2

theorem Sit.f2_t {n p : Nat} {hc : Nat → Bool} {st : Nat → ByteArray} (h : Sit n p false hc st) : ∀ k, k < n → upd st p ⟨#[70, 65, 73, 76, 69, 68]⟩ k ≠ ⟨#[84, 73, 77, 69, 68, 95, 79, 85, 84]⟩ := by
  intro k hk
  by_cases e : k = p
  · rw [e, upd_same]; exact fail_timed
  · rw [upd_other _ _ e]; exact h.noT k hk
theorem Sit.f2_up {n p : Nat} {hc : Nat → Bool} {st : Nat → ByteArray} (h : Sit n p false hc st) : ∀ k, p ≤ k → k < n → ¬ (upd st p ⟨#[70, 65, 73, 76, 69, 68]⟩ k = ⟨#[83, 85, 67, 67, 69, 69, 68, 69, 68]⟩ ∧ hc k = true) := by
  intro k h1 h2
  by_cases e : k = p
  · rw [e, upd_same]; exact fun h => fail_succ h.1
  · rw [upd_other _ _ e]
    rw [h.fwd rfl k h1 h2]; exact fun h => pend_succ h.1
theorem Sit.f2_c {n p : Nat} {hc : Nat → Bool} {st : Nat → ByteArray} {cmp : Nat → Option Addr} (h : Sit n p false hc st) (hm : ∀ k, k < n → (cmp k).isSome = hc k) {q : Option Nat} (hq : prevC hc p = q) : q.isSome = true ↔ ∃ k, k < n ∧ upd st p ⟨#[70, 65, 73, 76, 69, 68]⟩ k = ⟨#[83, 85, 67, 67, 69, 69, 68, 69, 68]⟩ ∧ (cmp k).isSome = true := by
  have hlt := h.lt
  constructor
  · intro hs
    obtain ⟨j, rfl⟩ := Option.isSome_iff_exists.1 hs
    obtain ⟨h1, h2, _⟩ := prevC_some hq
    refine ⟨j, by omega, ?_, by rw [hm j (by omega)]; exact h2⟩
    rw [upd_other _ _ (by omega)]; exact h.low j h1
  · rintro ⟨k, hk, h1, h2⟩
    rw [hm k hk] at h2
    by_cases e : p ≤ k
    · exact absurd ⟨h1, h2⟩ (h.f2_up k e hk)
    · cases q with
      | some j => rfl
      | none => have := prevC_none hq k (by omega); rw [this] at h2; cases h2
theorem Sit.f2 {n p j : Nat} {hc : Nat → Bool} {st : Nat → ByteArray} (h : Sit n p false hc st) (hq : prevC hc p = some j) : Sit n j true hc (upd st p ⟨#[70, 65, 73, 76, 69, 68]⟩) := by
  obtain ⟨h1, h2, h3⟩ := prevC_some hq
  have hlt := h.lt
  refine ⟨by omega, h.f2_t, fun i hi => ?_, (fun h => by cases h), fun _ => ⟨?_, h2, fun i hi hin => ?_⟩⟩
  · rw [upd_other _ _ (by omega)]; exact h.low i (by omega)
  · rw [upd_other _ _ (by omega)]; exact h.low j h1
  · by_cases e : p ≤ i
    · exact h.f2_up i e hin
    · rw [h3 i hi (by omega)]; exact fun h => by cases h.2

theorem Sit.b1_t {n p : Nat} {hc : Nat → Bool} {st : Nat → ByteArray} (h : Sit n p true hc st) : ∀ k, k < n → upd st p ⟨#[67, 79, 77, 80, 69, 78, 83, 65, 84, 69, 68]⟩ k ≠ ⟨#[84, 73, 77, 69, 68, 95, 79, 85, 84]⟩ := by
  intro k hk
  by_cases e : k = p
  · rw [e, upd_same]; exact comp_timed
  · rw [upd_other _ _ e]; exact h.noT k hk
theorem Sit.b1_up {n p : Nat} {hc : Nat → Bool} {st : Nat → ByteArray} (h : Sit n p true hc st) : ∀ k, p ≤ k → k < n → ¬ (upd st p ⟨#[67, 79, 77, 80, 69, 78, 83, 65, 84, 69, 68]⟩ k = ⟨#[83, 85, 67, 67, 69, 69, 68, 69, 68]⟩ ∧ hc k = true) := by
  intro k h1 h2
  by_cases e : k = p
  · rw [e, upd_same]; exact fun h => comp_succ h.1
  · rw [upd_other _ _ e]
    exact (h.back rfl).2.2 k (by omega) h2
theorem Sit.b1_c {n p : Nat} {hc : Nat → Bool} {st : Nat → ByteArray} {cmp : Nat → Option Addr} (h : Sit n p true hc st) (hm : ∀ k, k < n → (cmp k).isSome = hc k) {q : Option Nat} (hq : prevC hc p = q) : q.isSome = true ↔ ∃ k, k < n ∧ upd st p ⟨#[67, 79, 77, 80, 69, 78, 83, 65, 84, 69, 68]⟩ k = ⟨#[83, 85, 67, 67, 69, 69, 68, 69, 68]⟩ ∧ (cmp k).isSome = true := by
  have hlt := h.lt
  constructor
  · intro hs
    obtain ⟨j, rfl⟩ := Option.isSome_iff_exists.1 hs
    obtain ⟨h1, h2, _⟩ := prevC_some hq
    refine ⟨j, by omega, ?_, by rw [hm j (by omega)]; exact h2⟩
    rw [upd_other _ _ (by omega)]; exact h.low j h1
  · rintro ⟨k, hk, h1, h2⟩
    rw [hm k hk] at h2
    by_cases e : p ≤ k
    · exact absurd ⟨h1, h2⟩ (h.b1_up k e hk)
    · cases q with
      | some j => rfl
      | none => have := prevC_none hq k (by omega); rw [this] at h2; cases h2
theorem Sit.b1 {n p j : Nat} {hc : Nat → Bool} {st : Nat → ByteArray} (h : Sit n p true hc st) (hq : prevC hc p = some j) : Sit n j true hc (upd st p ⟨#[67, 79, 77, 80, 69, 78, 83, 65, 84, 69, 68]⟩) := by
  obtain ⟨h1, h2, h3⟩ := prevC_some hq
  have hlt := h.lt
  refine ⟨by omega, h.b1_t, fun i hi => ?_, (fun h => by cases h), fun _ => ⟨?_, h2, fun i hi hin => ?_⟩⟩
  · rw [upd_other _ _ (by omega)]; exact h.low i (by omega)
  · rw [upd_other _ _ (by omega)]; exact h.low j h1
  · by_cases e : p ≤ i
    · exact h.b1_up i e hin
    · rw [h3 i hi (by omega)]; exact fun h => by cases h.2

theorem Sit.fx_c {n p : Nat} {hc : Nat → Bool} {st : Nat → ByteArray} (h : Sit n p false hc st) : true = true ↔ ∃ k, k < n ∧ st k ≠ ⟨#[83, 85, 67, 67, 69, 69, 68, 69, 68]⟩ := by
  refine ⟨fun _ => ⟨p, h.lt, ?_⟩, fun _ => rfl⟩
  rw [h.fwd rfl p (Nat.le_refl _) h.lt]
  exact pend_succ
theorem Sit.bx_c {n p : Nat} {hc : Nat → Bool} {st : Nat → ByteArray} {cmp : Nat → Option Addr} (h : Sit n p true hc st) (hm : ∀ k, k < n → (cmp k).isSome = hc k) : true = true ↔ ∃ k, k < n ∧ st k = ⟨#[83, 85, 67, 67, 69, 69, 68, 69, 68]⟩ ∧ (cmp k).isSome = true :=
  ⟨fun _ => ⟨p, h.lt, (h.back rfl).1, by rw [hm p h.lt]; exact (h.back rfl).2.1⟩, fun _ => rfl⟩

theorem Tch.below {B : Nat} {w wA w2 : World} {rb sb : Nat} (h : Below B w wA) (t : Tch wA w2 rb sb) (hr : B ≤ rb) (hs : B ≤ sb) (hB : B ≤ wA.heap.size) : Below B w w2 :=
  h.trans ⟨t.os, t.tape, t.output, t.size, fun k hk => t.block k (by omega) (by omega) (by omega)⟩

/-- All that holds of the memory at a round's head. -/
structure All (w wr : World) (rb sb tb ab cb nb n k : Nat) (hc : Nat → Bool) (status dir : ByteArray) (st : Nat → ByteArray) (att catt : Nat → Int) (cmp : Nat → Option Addr) (snt : Nat → Bool) : Prop where
  r : Rec wr rb sb n status dir st att catt cmp snt
  m : Mach wr tb ab cb nb n st att catt snt
  b : Below w.heap.size w wr
  bA : ∀ j, 0 ≤ att j ∧ att j ≤ k
  bC : ∀ j, 0 ≤ catt j ∧ catt j ≤ k
  hm : ∀ j, j < n → (cmp j).isSome = hc j

theorem bump {f : Nat → Int} {k : Nat} (h : ∀ j, 0 ≤ f j ∧ f j ≤ k) (p : Nat) : ∀ j, 0 ≤ upd f p (f p + 1) j ∧ upd f p (f p + 1) j ≤ ((k + 1 : Nat) : Int) := by
  intro j
  have hj := h j
  have hp := h p
  unfold upd
  split <;> omega
theorem keep1 {f : Nat → Int} {k : Nat} (h : ∀ j, 0 ≤ f j ∧ f j ≤ k) : ∀ j, 0 ≤ f j ∧ f j ≤ ((k + 1 : Nat) : Int) := by
  intro j
  have hj := h j
  omega

def stOf (b z : Bool) : ByteArray := if z then ⟨#[70, 65, 73, 76, 69, 68, 95, 87, 73, 84, 72, 95, 82, 69, 84, 82, 89, 65, 66, 76, 69, 95, 69, 82, 82, 79, 82]⟩ else if b then ⟨#[67, 79, 77, 80, 69, 78, 83, 65, 84, 73, 78, 71]⟩ else ⟨#[82, 85, 78, 78, 73, 78, 71]⟩
def dirOf (b : Bool) : ByteArray := if b then ⟨#[98, 97, 99, 107, 119, 97, 114, 100]⟩ else ⟨#[102, 111, 114, 119, 97, 114, 100]⟩

/-- The main loop's relation: g rounds at the most are still to come. -/
def LoopI (w : World) (rb sb tb ab cb nb n m : Nat) (hc : Nat → Bool) (g : Nat) (pos bk pz en es i : Value) (wr : World) : Prop :=
  ∃ (k : Nat) (e : Bool) (status dir : ByteArray) (st : Nat → ByteArray) (att catt : Nat → Int) (cmp : Nat → Option Addr) (snt : Nat → Bool), k ≤ m ∧ g = m - k ∧ i = .int .i64 k ∧ en = .bool e ∧ All w wr rb sb tb ab cb nb n k hc status dir st att catt cmp snt ∧
    (e = false → ∃ (p : Nat) (b z : Bool), pos = .int .i64 p ∧ bk = .bool b ∧ pz = .bool z ∧ es = .string ⟨#[]⟩ ∧ Sit n p b hc st ∧ status = stOf b z ∧ dir = dirOf b)

/-- What the last loop needs. -/
structure Fin (w wr : World) (rb sb tb ab cb nb n : Nat) : Prop where
  ex : ∃ (status dir : ByteArray) (st : Nat → ByteArray) (att catt : Nat → Int) (cmp : Nat → Option Addr) (snt : Nat → Bool), Rec wr rb sb n status dir st att catt cmp snt ∧ Mach wr tb ab cb nb n st att catt snt ∧ Below w.heap.size w wr

theorem prev_some {w : World} {a : Option Addr} {n c b off : Nat} {hc : Nat → Bool} (h : BV w a n c b off hc) {p : Nat} (hp : p ≤ n) (hn : n ≤ 4096) {j : Nat} (hq : Hid (prevC hc p = some j)) :
    Calls Try.prog 7 #[.slice a n c, .int .i64 p] w fun e w' => e = .returned (.int .i64 j) ∧ w' = w := prev_any h hp hn hq
theorem prev_none {w : World} {a : Option Addr} {n c b off : Nat} {hc : Nat → Bool} (h : BV w a n c b off hc) {p : Nat} (hp : p ≤ n) (hn : n ≤ 4096) (hq : Hid (prevC hc p = none)) :
    Calls Try.prog 7 #[.slice a n c, .int .i64 p] w fun e w' => e = .returned (.int .i64 (-1)) ∧ w' = w := prev_any h hp hn hq

end Go.Proofs.Qxb6605717a
