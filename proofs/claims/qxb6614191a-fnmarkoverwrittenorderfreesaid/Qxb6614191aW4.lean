/-
  Seat b6614191a: the pending's functions.
-/
import Derived.Test.Qxb6614191aW3
namespace Go.Proofs.Qxb6614191a
open Go.RowKit Go.WideMaps Go.Maps

theorem eqlM (w : World) (r : Option Nat) : (binOp .eql 24 (.map r) (.map none)).run Try.prog w = .ok (.bool r.isNone) w := run_eql_map_nil w _ _ _ r Try.underlying24

/-- The new pending's block. -/
def pendCells (m : Option Nat) : Array Value := #[Value.pointer none, Value.pointer none, Value.pointer none, Value.pointer none, Value.pointer none,
          Value.pointer none, Value.pointer none, Value.pointer none, Value.pointer none, Value.pointer none,
          Value.pointer none, Value.pointer none, Value.pointer none, Value.pointer none, Value.pointer none,
          Value.pointer none, Value.int IntKind.i64 0, Value.int IntKind.i32 0, Value.map m]

theorem new_any (m : Option Nat) (w : World) : Calls Try.prog 7 #[.map m] w fun e w' => e = .returned (.pointer (some ⟨w.heap.size, 0, none⟩)) ∧ w' = w.alloc (.cells (pendCells m) 48) := by
  go_enter Try.func7, Try.ntmps7
  go_wp2
  go_ret
  exact ⟨rfl, rfl⟩

theorem mark_some (bp b : Nat) (L : List Lit) (s : ByteArray) (w : World) (hp : w.cell? ⟨bp, 18, none⟩ = some (.map (some b))) (ho : OwnS w b L) (hn : L.length < 1000000) (hs : s.size ≤ maxLen) :
    Calls Try.prog 8 #[.pointer (some ⟨bp, 0, none⟩), .string s] w fun e w' => e = .returned (.tuple #[]) ∧ OwnS w' b (L ++ [keyL s]) ∧ w.grownBy w' (some b) := by
  have q := eqlM
  go_enter Try.func8, Try.ntmps8
  go_wp2_with (first
    | (at_mapUpdate; refine wpList_put _ rfl _ _ _ rfl b L rfl ho hn s rfl rfl hs ?_)
    | go_in)
  intro w1 ho1 hg1
  go_wp2
  go_end0
  go_wp2
  go_end0
  exact ⟨rfl, ho1, hg1⟩

theorem own_made (w : World) (a : Addr) (v : Value) : OwnS ((w.setCell a v).alloc (.map #[] 0)) w.heap.size [] := by
  have h := OwnS.made (w.setCell a v)
  simpa using h

theorem mark_none (bp : Nat) (s : ByteArray) (w : World) (hp : w.cell? ⟨bp, 18, none⟩ = some (.map none)) (hz : w.frozen? ⟨bp, 18, none⟩ = false) (hbp : bp < w.heap.size) (hs : s.size ≤ maxLen) :
    Calls Try.prog 8 #[.pointer (some ⟨bp, 0, none⟩), .string s] w fun e w' => e = .returned (.tuple #[]) ∧ OwnS w' w.heap.size [keyL s] ∧ ((w.setCell ⟨bp, 18, none⟩ (.map (some w.heap.size))).alloc (.map #[] 0)).grownBy w' (some w.heap.size) := by
  have q := eqlM
  have hmm := @run_makeMap Try.prog
  go_enter Try.func8, Try.ntmps8
  go_wp2_with (first
    | (at_mapUpdate; refine wpList_put _ rfl _ _ _ rfl w.heap.size [] rfl (own_made _ _ _) (by decide) s rfl rfl hs ?_)
    | go_in)
  intro w1 ho1 hg1
  go_wp2
  go_end0
  go_wp2
  go_end0
  exact ⟨rfl, ho1, hg1⟩

/-- The pending at block bp: its set of overwritten keys is m (nil: none), with the keys of L. -/
structure PendAt (w : World) (bp : Nat) (m : Option Nat) (L : List Lit) : Prop where
  cell : w.cell? ⟨bp, 18, none⟩ = some (.map m)
  free : w.frozen? ⟨bp, 18, none⟩ = false
  lt : bp < w.heap.size
  nil : m = none → L = []
  own : ∀ b, m = some b → OwnS w b L

theorem Touch.refl (w : World) (S : Nat → Prop) : Touch w w S := ⟨rfl, rfl, rfl, Nat.le_refl _, fun _ _ _ => rfl⟩

theorem Touch.below {w0 w w' : World} {S : Nat → Prop} {B : Nat} (h : Touch w w' S) (hb : Below B w0 w) (hB : B ≤ w.heap.size) (hS : ∀ i, S i → B ≤ i) : Below B w0 w' :=
  hb.trans ⟨h.os, h.tape, h.output, h.size, fun k hk => h.block k (by omega) (fun hs => absurd (hS k hs) (by omega))⟩

theorem PendAt.touch {w w' : World} {S : Nat → Prop} {bp : Nat} {m : Option Nat} {L : List Lit} (h : PendAt w bp m L) (ht : Touch w w' S) (h1 : ¬ S bp) (h2 : ∀ b, m = some b → ¬ S b) : PendAt w' bp m L :=
  ⟨(World.cell?_of_block (a := ⟨bp, 18, none⟩) (ht.block bp h.lt h1)).trans h.cell, (World.frozen?_of_block (a := ⟨bp, 18, none⟩) (ht.block bp h.lt h1)).trans h.free,
    Nat.lt_of_lt_of_le h.lt ht.size, h.nil, fun b hb => (h.own b hb).block (ht.block b (h.own b hb).lt (h2 b hb))⟩

/-- A map's block is no pending's block. -/
theorem pend_ne {w : World} {bp b : Nat} {L : List Lit} {v : Value} (hc : w.cell? ⟨bp, 18, none⟩ = some v) (ho : OwnS w b L) : bp ≠ b := by
  obtain ⟨es, clock, hb, _⟩ := ho
  intro e
  subst e
  simp [World.cell?, hb] at hc

theorem mark_any {bp : Nat} {m : Option Nat} {L : List Lit} {s : ByteArray} {w : World} (h : PendAt w bp m L) (hn : L.length < 1000000) (hs : s.size ≤ maxLen) :
    Calls Try.prog 8 #[.pointer (some ⟨bp, 0, none⟩), .string s] w fun e w' => e = .returned (.tuple #[]) ∧
      ∃ b, PendAt w' bp (some b) (L ++ [keyL s]) ∧ (m = some b ∨ b = w.heap.size) ∧ Touch w w' (fun i => i = bp ∨ m = some i) := by
  cases m with
  | some b =>
    refine (mark_some bp b L s w h.cell (h.own b rfl) hn hs).mono ?_
    rintro e w' ⟨he, ho, hg⟩
    have hne : bp ≠ b := pend_ne h.cell (h.own b rfl)
    have hbk : w'.heap[bp]? = w.heap[bp]? := hg.block bp h.lt (by simpa using hne)
    refine ⟨he, b, ⟨(World.cell?_of_block (a := ⟨bp, 18, none⟩) hbk).trans h.cell, (World.frozen?_of_block (a := ⟨bp, 18, none⟩) hbk).trans h.free, Nat.lt_of_lt_of_le h.lt hg.size, (fun h => by cases h), (fun b' hb' => by cases hb'; exact ho)⟩, .inl rfl, ?_⟩
    exact ⟨hg.os, hg.tape, hg.output, hg.size, fun k hk hS => hg.block k hk (fun e => hS (.inr e.symm))⟩
  | none =>
    have hL := h.nil rfl
    subst hL
    refine (mark_none bp s w h.cell h.free h.lt hs).mono ?_
    rintro e w' ⟨he, ho, hg⟩
    have hlt := h.lt
    have hc1 : ((w.setCell ⟨bp, 18, none⟩ (.map (some w.heap.size))).alloc (.map #[] 0)).cell? ⟨bp, 18, none⟩ = some (.map (some w.heap.size)) := by
      rw [World.cell?_alloc_lt _ _ _ (by simpa using hlt)]
      exact World.cell?_setCell_same _ _ _ h.cell
    have hold : ∀ k, k < w.heap.size → ((w.setCell ⟨bp, 18, none⟩ (.map (some w.heap.size))).alloc (.map #[] 0)).heap[k]? = (w.setCell ⟨bp, 18, none⟩ (.map (some w.heap.size))).heap[k]? :=
      fun k hk => Below.heap_alloc _ _ k (by simpa using hk)
    have hsz : ((w.setCell ⟨bp, 18, none⟩ (.map (some w.heap.size))).alloc (.map #[] 0)).heap.size = w.heap.size + 1 := by simp
    have hsz' := hg.size
    rw [hsz] at hsz'
    have hbk : ∀ k, k < w.heap.size → w'.heap[k]? = (w.setCell ⟨bp, 18, none⟩ (.map (some w.heap.size))).heap[k]? := fun k hk =>
      (hg.block k (by omega) (by simp; omega)).trans (hold k hk)
    refine ⟨he, w.heap.size, ⟨hg.cell hc1 (by simp; omega), ?_, by omega, (fun h => by cases h), (fun b' hb' => by cases hb'; exact ho)⟩, .inr rfl, ?_⟩
    · rw [World.frozen?_of_block (a := ⟨bp, 18, none⟩) (hbk bp hlt), World.frozen?_setCell]
      exact h.free
    · exact ⟨hg.os, hg.tape, hg.output, by omega, fun k hk hS => (hbk k hk).trans (Below.heap_setCell _ _ _ _ (fun e => hS (.inl e)))⟩

end Go.Proofs.Qxb6614191a
