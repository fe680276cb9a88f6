/-
  Seat b6605717a: what a store does to the record; Working; carryOn.
-/
import Derived.Test.Qxb6605717aW1
import Derived.Deep.QuietTactic
import Derived.BigQuiet
namespace Go.Proofs.Qxb6605717a
open Go.RowKit

/-- f, but v at p. -/
def upd {α : Type} (f : Nat → α) (p : Nat) (v : α) (k : Nat) : α := if k = p then v else f k
theorem upd_same {α : Type} (f : Nat → α) (p : Nat) (v : α) : upd f p v p = v := if_pos rfl
theorem upd_other {α : Type} (f : Nat → α) {p k : Nat} (v : α) (h : k ≠ p) : upd f p v k = f k := if_neg h

theorem cell_set {w : World} {a b : Addr} {v u : Value} (h : w.cell? b = some u) (ne : a ≠ b) : (w.setCell a v).cell? b = some u := (World.cell?_setCell_other _ _ _ _ ne).trans h

theorem ne_off {b i j : Nat} (h : i ≠ j) : (⟨b, i, none⟩ : Addr) ≠ ⟨b, j, none⟩ := fun e => h (by injection e)
theorem ne_blk {b c i j : Nat} (h : b ≠ c) : (⟨b, i, none⟩ : Addr) ≠ ⟨c, j, none⟩ := fun e => h (by injection e)

theorem Rec.setS {w : World} {rb sb n : Nat} {status dir : ByteArray} {st : Nat → ByteArray} {att catt : Nat → Int} {cmp : Nat → Option Addr} {snt : Nat → Bool} (h : Rec w rb sb n status dir st att catt cmp snt) (v : ByteArray) : Rec (w.setCell ⟨rb, 4, none⟩ (.string v)) rb sb n v dir st att catt cmp snt :=
  ⟨World.cell?_setCell_same _ _ _ h.cS, cell_set h.cD (ne_off (by omega)), cell_set h.cL (ne_off (by omega)), fun k => by rw [World.frozen?_setCell]; exact h.fr k, fun k => by rw [World.frozen?_setCell]; exact h.fs k,
fun k hk => cell_set (h.c0 k hk) (ne_blk h.ne), fun k hk => cell_set (h.c1 k hk) (ne_blk h.ne), fun k hk => cell_set (h.c2 k hk) (ne_blk h.ne), fun k hk => cell_set (h.c3 k hk) (ne_blk h.ne), fun k hk => cell_set (h.c4 k hk) (ne_blk h.ne), fun k hk => cell_set (h.c5 k hk) (ne_blk h.ne), fun k hk => cell_set (h.c6 k hk) (ne_blk h.ne), fun k hk => cell_set (h.c7 k hk) (ne_blk h.ne), fun k hk => cell_set (h.c8 k hk) (ne_blk h.ne), fun k hk => cell_set (h.c9 k hk) (ne_blk h.ne), by simpa using h.rl, by simpa using h.sl, h.ne⟩

theorem Rec.setD {w : World} {rb sb n : Nat} {status dir : ByteArray} {st : Nat → ByteArray} {att catt : Nat → Int} {cmp : Nat → Option Addr} {snt : Nat → Bool} (h : Rec w rb sb n status dir st att catt cmp snt) (v : ByteArray) : Rec (w.setCell ⟨rb, 5, none⟩ (.string v)) rb sb n status v st att catt cmp snt :=
  ⟨cell_set h.cS (ne_off (by omega)), World.cell?_setCell_same _ _ _ h.cD, cell_set h.cL (ne_off (by omega)), fun k => by rw [World.frozen?_setCell]; exact h.fr k, fun k => by rw [World.frozen?_setCell]; exact h.fs k,
fun k hk => cell_set (h.c0 k hk) (ne_blk h.ne), fun k hk => cell_set (h.c1 k hk) (ne_blk h.ne), fun k hk => cell_set (h.c2 k hk) (ne_blk h.ne), fun k hk => cell_set (h.c3 k hk) (ne_blk h.ne), fun k hk => cell_set (h.c4 k hk) (ne_blk h.ne), fun k hk => cell_set (h.c5 k hk) (ne_blk h.ne), fun k hk => cell_set (h.c6 k hk) (ne_blk h.ne), fun k hk => cell_set (h.c7 k hk) (ne_blk h.ne), fun k hk => cell_set (h.c8 k hk) (ne_blk h.ne), fun k hk => cell_set (h.c9 k hk) (ne_blk h.ne), by simpa using h.rl, by simpa using h.sl, h.ne⟩

theorem Rec.setSt {w : World} {rb sb n : Nat} {status dir : ByteArray} {st : Nat → ByteArray} {att catt : Nat → Int} {cmp : Nat → Option Addr} {snt : Nat → Bool} (h : Rec w rb sb n status dir st att catt cmp snt) (p : Nat) (hp : p < n) (v : ByteArray) : Rec (w.setCell ⟨sb, 10 * p + 1, none⟩ (.string v)) rb sb n status dir (upd st p v) att catt cmp snt := by
  refine ⟨cell_set h.cS (ne_blk (Ne.symm h.ne)), cell_set h.cD (ne_blk (Ne.symm h.ne)), cell_set h.cL (ne_blk (Ne.symm h.ne)), fun k => by rw [World.frozen?_setCell]; exact h.fr k, fun k => by rw [World.frozen?_setCell]; exact h.fs k,
    ?_, ?_, ?_, ?_, ?_, ?_, ?_, ?_, ?_, ?_, by simpa using h.rl, by simpa using h.sl, h.ne⟩
  · exact fun k hk => cell_set (h.c0 k hk) (ne_off (by omega))
  · intro k hk
    by_cases e : k = p
    · subst e
      rw [upd_same]
      exact World.cell?_setCell_same _ _ _ (h.c1 k hk)
    · rw [upd_other _ _ e]
      exact cell_set (h.c1 k hk) (ne_off (by omega))
  · exact fun k hk => cell_set (h.c2 k hk) (ne_off (by omega))
  · exact fun k hk => cell_set (h.c3 k hk) (ne_off (by omega))
  · exact fun k hk => cell_set (h.c4 k hk) (ne_off (by omega))
  · exact fun k hk => cell_set (h.c5 k hk) (ne_off (by omega))
  · exact fun k hk => cell_set (h.c6 k hk) (ne_off (by omega))
  · exact fun k hk => cell_set (h.c7 k hk) (ne_off (by omega))
  · exact fun k hk => cell_set (h.c8 k hk) (ne_off (by omega))
  · exact fun k hk => cell_set (h.c9 k hk) (ne_off (by omega))

theorem Rec.setAtt {w : World} {rb sb n : Nat} {status dir : ByteArray} {st : Nat → ByteArray} {att catt : Nat → Int} {cmp : Nat → Option Addr} {snt : Nat → Bool} (h : Rec w rb sb n status dir st att catt cmp snt) (p : Nat) (hp : p < n) (v : Int) : Rec (w.setCell ⟨sb, 10 * p + 2, none⟩ (.int .i64 v)) rb sb n status dir st (upd att p v) catt cmp snt := by
  refine ⟨cell_set h.cS (ne_blk (Ne.symm h.ne)), cell_set h.cD (ne_blk (Ne.symm h.ne)), cell_set h.cL (ne_blk (Ne.symm h.ne)), fun k => by rw [World.frozen?_setCell]; exact h.fr k, fun k => by rw [World.frozen?_setCell]; exact h.fs k,
    ?_, ?_, ?_, ?_, ?_, ?_, ?_, ?_, ?_, ?_, by simpa using h.rl, by simpa using h.sl, h.ne⟩
  · exact fun k hk => cell_set (h.c0 k hk) (ne_off (by omega))
  · exact fun k hk => cell_set (h.c1 k hk) (ne_off (by omega))
  · intro k hk
    by_cases e : k = p
    · subst e
      rw [upd_same]
      exact World.cell?_setCell_same _ _ _ (h.c2 k hk)
    · rw [upd_other _ _ e]
      exact cell_set (h.c2 k hk) (ne_off (by omega))
  · exact fun k hk => cell_set (h.c3 k hk) (ne_off (by omega))
  · exact fun k hk => cell_set (h.c4 k hk) (ne_off (by omega))
  · exact fun k hk => cell_set (h.c5 k hk) (ne_off (by omega))
  · exact fun k hk => cell_set (h.c6 k hk) (ne_off (by omega))
  · exact fun k hk => cell_set (h.c7 k hk) (ne_off (by omega))
  · exact fun k hk => cell_set (h.c8 k hk) (ne_off (by omega))
  · exact fun k hk => cell_set (h.c9 k hk) (ne_off (by omega))

theorem Rec.setCatt {w : World} {rb sb n : Nat} {status dir : ByteArray} {st : Nat → ByteArray} {att catt : Nat → Int} {cmp : Nat → Option Addr} {snt : Nat → Bool} (h : Rec w rb sb n status dir st att catt cmp snt) (p : Nat) (hp : p < n) (v : Int) : Rec (w.setCell ⟨sb, 10 * p + 3, none⟩ (.int .i64 v)) rb sb n status dir st att (upd catt p v) cmp snt := by
  refine ⟨cell_set h.cS (ne_blk (Ne.symm h.ne)), cell_set h.cD (ne_blk (Ne.symm h.ne)), cell_set h.cL (ne_blk (Ne.symm h.ne)), fun k => by rw [World.frozen?_setCell]; exact h.fr k, fun k => by rw [World.frozen?_setCell]; exact h.fs k,
    ?_, ?_, ?_, ?_, ?_, ?_, ?_, ?_, ?_, ?_, by simpa using h.rl, by simpa using h.sl, h.ne⟩
  · exact fun k hk => cell_set (h.c0 k hk) (ne_off (by omega))
  · exact fun k hk => cell_set (h.c1 k hk) (ne_off (by omega))
  · exact fun k hk => cell_set (h.c2 k hk) (ne_off (by omega))
  · intro k hk
    by_cases e : k = p
    · subst e
      rw [upd_same]
      exact World.cell?_setCell_same _ _ _ (h.c3 k hk)
    · rw [upd_other _ _ e]
      exact cell_set (h.c3 k hk) (ne_off (by omega))
  · exact fun k hk => cell_set (h.c4 k hk) (ne_off (by omega))
  · exact fun k hk => cell_set (h.c5 k hk) (ne_off (by omega))
  · exact fun k hk => cell_set (h.c6 k hk) (ne_off (by omega))
  · exact fun k hk => cell_set (h.c7 k hk) (ne_off (by omega))
  · exact fun k hk => cell_set (h.c8 k hk) (ne_off (by omega))
  · exact fun k hk => cell_set (h.c9 k hk) (ne_off (by omega))

theorem Rec.setSnt {w : World} {rb sb n : Nat} {status dir : ByteArray} {st : Nat → ByteArray} {att catt : Nat → Int} {cmp : Nat → Option Addr} {snt : Nat → Bool} (h : Rec w rb sb n status dir st att catt cmp snt) (p : Nat) (hp : p < n) (v : Bool) : Rec (w.setCell ⟨sb, 10 * p + 9, none⟩ (.bool v)) rb sb n status dir st att catt cmp (upd snt p v) := by
  refine ⟨cell_set h.cS (ne_blk (Ne.symm h.ne)), cell_set h.cD (ne_blk (Ne.symm h.ne)), cell_set h.cL (ne_blk (Ne.symm h.ne)), fun k => by rw [World.frozen?_setCell]; exact h.fr k, fun k => by rw [World.frozen?_setCell]; exact h.fs k,
    ?_, ?_, ?_, ?_, ?_, ?_, ?_, ?_, ?_, ?_, by simpa using h.rl, by simpa using h.sl, h.ne⟩
  · exact fun k hk => cell_set (h.c0 k hk) (ne_off (by omega))
  · exact fun k hk => cell_set (h.c1 k hk) (ne_off (by omega))
  · exact fun k hk => cell_set (h.c2 k hk) (ne_off (by omega))
  · exact fun k hk => cell_set (h.c3 k hk) (ne_off (by omega))
  · exact fun k hk => cell_set (h.c4 k hk) (ne_off (by omega))
  · exact fun k hk => cell_set (h.c5 k hk) (ne_off (by omega))
  · exact fun k hk => cell_set (h.c6 k hk) (ne_off (by omega))
  · exact fun k hk => cell_set (h.c7 k hk) (ne_off (by omega))
  · exact fun k hk => cell_set (h.c8 k hk) (ne_off (by omega))
  · intro k hk
    by_cases e : k = p
    · subst e
      rw [upd_same]
      exact World.cell?_setCell_same _ _ _ (h.c9 k hk)
    · rw [upd_other _ _ e]
      exact cell_set (h.c9 k hk) (ne_off (by omega))

/-- w' is w with new blocks, and with writes to the blocks rb and sb alone. -/
structure Tch (w w' : World) (rb sb : Nat) : Prop where
  os : w'.os = w.os
  tape : w'.tape = w.tape
  output : w'.output = w.output
  size : w.heap.size ≤ w'.heap.size
  block : ∀ k, k < w.heap.size → k ≠ rb → k ≠ sb → w'.heap[k]? = w.heap[k]?

theorem Tch.refl (w : World) (rb sb : Nat) : Tch w w rb sb := ⟨rfl, rfl, rfl, Nat.le_refl _, fun _ _ _ _ => rfl⟩
theorem Tch.trans {a b c : World} {rb sb : Nat} (h : Tch a b rb sb) (k : Tch b c rb sb) : Tch a c rb sb :=
  ⟨k.os.trans h.os, k.tape.trans h.tape, k.output.trans h.output, Nat.le_trans h.size k.size, fun i hi h1 h2 => (k.block i (Nat.lt_of_lt_of_le hi h.size) h1 h2).trans (h.block i hi h1 h2)⟩
theorem Tch.of {w w' : World} (rb sb : Nat) (h : Below w.heap.size w w') : Tch w w' rb sb := ⟨h.os, h.tape, h.output, h.size, fun i hi _ _ => h.block i hi⟩
theorem Tch.set {a w : World} {rb sb : Nat} (h : Tch a w rb sb) {b : Nat} (hb : b = rb ∨ b = sb) (o : Nat) (v : Value) : Tch a (w.setCell ⟨b, o, none⟩ v) rb sb :=
  h.trans ⟨rfl, rfl, rfl, by simp [World.setCell], fun i _ h1 h2 => Below.heap_setCell _ _ _ _ (fun e => by rcases hb with h | h <;> simp_all)⟩

/-- One of two texts. -/
def sel (c : Bool) (a b : ByteArray) : ByteArray := if c then a else b

theorem working_back (w : World) : Calls Try.prog 8 #[.string ⟨#[98, 97, 99, 107, 119, 97, 114, 100]⟩] w fun e w' => e = .returned (.string ⟨#[67, 79, 77, 80, 69, 78, 83, 65, 84, 73, 78, 71]⟩) ∧ w' = w := by
  go_enter Try.func8, Try.ntmps8
  go_wp2
  go_ret
  exact ⟨rfl, rfl⟩
theorem working_fwd (w : World) : Calls Try.prog 8 #[.string ⟨#[102, 111, 114, 119, 97, 114, 100]⟩] w fun e w' => e = .returned (.string ⟨#[82, 85, 78, 78, 73, 78, 71]⟩) ∧ w' = w := by
  go_enter Try.func8, Try.ntmps8
  go_wp2
  go_ret
  exact ⟨rfl, rfl⟩

theorem below_drewN (w : World) (k : Nat) : Below w.heap.size w (w.drewN k) := ⟨rfl, rfl, rfl, Nat.le_refl _, fun _ _ => rfl⟩

set_option maxHeartbeats 800000 in
theorem Working_back {w : World} {rb sb n : Nat} {status dir : ByteArray} {st : Nat → ByteArray} {att catt : Nat → Int} {cmp : Nat → Option Addr} {snt : Nat → Bool} (h : Rec w rb sb n status dir st att catt cmp snt) (hd : dir = ⟨#[98, 97, 99, 107, 119, 97, 114, 100]⟩) {r : Bool} (hr : (status.toList == [67, 79, 77, 80, 69, 78, 83, 65, 84, 73, 78, 71]) = r) :
    Calls Try.prog 5 #[.pointer (some ⟨rb, 0, none⟩)] w fun e w' => e = .returned (.bool r) ∧ Below w.heap.size w w' := by
  have cS := h.cS
  have cD := h.cD
  rw [hd] at cD
  have HR : Hid ((status.toList == [67, 79, 77, 80, 69, 78, 83, 65, 84, 73, 78, 71]) = r) := hr
  clear hr hd h
  go_enter Try.func5, Try.ntmps5
  go_wp2_with fail
  go_quiet ((go_at_call 8; exact Calls.quiet_of_same (working_back _)))
  go_wp2
  go_ret
  exact ⟨congrArg (fun x => Ending.returned (.bool x)) HR.out, below_drewN _ _⟩

set_option maxHeartbeats 800000 in
theorem carry_back {w : World} {rb sb n : Nat} {status dir : ByteArray} {st : Nat → ByteArray} {att catt : Nat → Int} {cmp : Nat → Option Addr} {snt : Nat → Bool} (h : Rec w rb sb n status dir st att catt cmp snt) (hd : dir = ⟨#[98, 97, 99, 107, 119, 97, 114, 100]⟩) (hn : n ≤ 4096) {c : Bool} (hT : Hid (∀ k, k < n → st k ≠ ⟨#[84, 73, 77, 69, 68, 95, 79, 85, 84]⟩)) (hC : Hid (c = true ↔ ∃ k, k < n ∧ st k = ⟨#[83, 85, 67, 67, 69, 69, 68, 69, 68]⟩ ∧ (cmp k).isSome = true)) :
    Calls Try.prog 10 #[.pointer (some ⟨rb, 0, none⟩)] w fun e w' => e = .returned (.tuple #[]) ∧ Rec w' rb sb n (sel c ⟨#[67, 79, 77, 80, 69, 78, 83, 65, 84, 73, 78, 71]⟩ ⟨#[67, 79, 77, 80, 69, 78, 83, 65, 84, 69, 68]⟩) dir st att catt cmp snt ∧ Tch w w' rb sb := by
  have HD : Hid (dir = ⟨#[98, 97, 99, 107, 119, 97, 114, 100]⟩) := hd
  clear hd
  go_enter Try.func10, Try.ntmps10
  cases c
  · go_wp2_with (first
      | (go_at_call 11; refine (next_back h HD.out hn hT hC).mono ?_; rintro e w1 ⟨⟨i, rfl⟩, hb1⟩
         have h1 := h.below hb1
         have cD : w1.cell? ⟨rb, 5, none⟩ = some (.string ⟨#[98, 97, 99, 107, 119, 97, 114, 100]⟩) := by rw [← HD.out]; exact h1.cD
         have cS := h1.cS
         have fr := h1.fr))
    go_end0
    exact ⟨rfl, (h1.setS ⟨#[67, 79, 77, 80, 76, 69, 84, 69, 68]⟩).setS _, ((Tch.of rb sb hb1).set (.inl rfl) _ _).set (.inl rfl) _ _⟩
  · go_wp2_with (first
      | (go_at_call 11; refine (next_back h HD.out hn hT hC).mono ?_; rintro e w1 ⟨⟨i, rfl⟩, hb1⟩
         have h1 := h.below hb1
         have cD : w1.cell? ⟨rb, 5, none⟩ = some (.string ⟨#[98, 97, 99, 107, 119, 97, 114, 100]⟩) := by rw [← HD.out]; exact h1.cD
         have cS := h1.cS
         have fr := h1.fr)
      | (go_at_call 8; refine (working_back _).mono ?_; rintro e w2 ⟨rfl, hw⟩; obtain rfl := hw.symm))
    (try simp only [Exit.inBlock, Exit.then])
    refine bodyPost_ret (results_none rfl _ _ _) rfl ?_
    exact ⟨rfl, h1.setS _, (Tch.of rb sb hb1).set (.inl rfl) _ _⟩

set_option maxHeartbeats 800000 in
theorem Working_fwd {w : World} {rb sb n : Nat} {status dir : ByteArray} {st : Nat → ByteArray} {att catt : Nat → Int} {cmp : Nat → Option Addr} {snt : Nat → Bool} (h : Rec w rb sb n status dir st att catt cmp snt) (hd : dir = ⟨#[102, 111, 114, 119, 97, 114, 100]⟩) {r : Bool} (hr : (status.toList == [82, 85, 78, 78, 73, 78, 71]) = r) :
    Calls Try.prog 5 #[.pointer (some ⟨rb, 0, none⟩)] w fun e w' => e = .returned (.bool r) ∧ Below w.heap.size w w' := by
  have cS := h.cS
  have cD := h.cD
  rw [hd] at cD
  have HR : Hid ((status.toList == [82, 85, 78, 78, 73, 78, 71]) = r) := hr
  clear hr hd h
  go_enter Try.func5, Try.ntmps5
  go_wp2_with fail
  go_quiet ((go_at_call 8; exact Calls.quiet_of_same (working_fwd _)))
  go_wp2
  go_ret
  exact ⟨congrArg (fun x => Ending.returned (.bool x)) HR.out, below_drewN _ _⟩

set_option maxHeartbeats 800000 in
theorem carry_fwd {w : World} {rb sb n : Nat} {status dir : ByteArray} {st : Nat → ByteArray} {att catt : Nat → Int} {cmp : Nat → Option Addr} {snt : Nat → Bool} (h : Rec w rb sb n status dir st att catt cmp snt) (hd : dir = ⟨#[102, 111, 114, 119, 97, 114, 100]⟩) (hn : n ≤ 4096) {c : Bool} (hC : Hid (c = true ↔ ∃ k, k < n ∧ st k ≠ ⟨#[83, 85, 67, 67, 69, 69, 68, 69, 68]⟩)) :
    Calls Try.prog 10 #[.pointer (some ⟨rb, 0, none⟩)] w fun e w' => e = .returned (.tuple #[]) ∧ Rec w' rb sb n (sel c ⟨#[82, 85, 78, 78, 73, 78, 71]⟩ ⟨#[67, 79, 77, 80, 76, 69, 84, 69, 68]⟩) dir st att catt cmp snt ∧ Tch w w' rb sb := by
  have HD : Hid (dir = ⟨#[102, 111, 114, 119, 97, 114, 100]⟩) := hd
  clear hd
  go_enter Try.func10, Try.ntmps10
  cases c
  · go_wp2_with (first
      | (go_at_call 11; refine (next_fwd h HD.out hn hC).mono ?_; rintro e w1 ⟨⟨i, rfl⟩, hb1⟩
         have h1 := h.below hb1
         have cD : w1.cell? ⟨rb, 5, none⟩ = some (.string ⟨#[102, 111, 114, 119, 97, 114, 100]⟩) := by rw [← HD.out]; exact h1.cD
         have cS := h1.cS
         have fr := h1.fr))
    go_end0
    exact ⟨rfl, h1.setS _, (Tch.of rb sb hb1).set (.inl rfl) _ _⟩
  · go_wp2_with (first
      | (go_at_call 11; refine (next_fwd h HD.out hn hC).mono ?_; rintro e w1 ⟨⟨i, rfl⟩, hb1⟩
         have h1 := h.below hb1
         have cD : w1.cell? ⟨rb, 5, none⟩ = some (.string ⟨#[102, 111, 114, 119, 97, 114, 100]⟩) := by rw [← HD.out]; exact h1.cD
         have cS := h1.cS
         have fr := h1.fr)
      | (go_at_call 8; refine (working_fwd _).mono ?_; rintro e w2 ⟨rfl, hw⟩; obtain rfl := hw.symm))
    (try simp only [Exit.inBlock, Exit.then])
    refine bodyPost_ret (results_none rfl _ _ _) rfl ?_
    exact ⟨rfl, h1.setS _, (Tch.of rb sb hb1).set (.inl rfl) _ _⟩

end Go.Proofs.Qxb6605717a
