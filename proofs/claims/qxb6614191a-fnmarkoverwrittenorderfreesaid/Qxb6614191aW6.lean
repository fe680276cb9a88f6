/-
  Seat b6614191a: two pendings beside each other; how many different strings there are does not hang on their order.
-/
import Derived.Test.Qxb6614191aW5
namespace Go.Proofs.Qxb6614191a
open Go.RowKit Go.WideMaps Go.Maps

/-- Two pendings apart from each other, both of the call's own making. -/
structure Two (w wr : World) (z : Bool) (p1 p2 : Nat) (m1 m2 : Option Nat) (L1 L2 : List Lit) : Prop where
  P1 : PendAt wr p1 m1 L1
  P2 : PendAt wr p2 m2 L2
  o1 : ∀ b, m1 = some b → w.heap.size ≤ b
  o2 : ∀ b, m2 = some b → w.heap.size ≤ b
  dis : ∀ b, m1 = some b → m2 ≠ some b
  g1 : w.heap.size ≤ p1
  g2 : w.heap.size ≤ p2
  ne : p1 ≠ p2
  s1 : m1.isSome = (z || !L1.isEmpty)
  s2 : m2.isSome = (z || !L2.isEmpty)
  below : Below w.heap.size w wr

theorem Two.flip {w wr : World} {z : Bool} {p1 p2 : Nat} {m1 m2 : Option Nat} {L1 L2 : List Lit} (h : Two w wr z p1 p2 m1 m2 L1 L2) : Two w wr z p2 p1 m2 m1 L2 L1 :=
  ⟨h.P2, h.P1, h.o2, h.o1, fun b h2 h1 => h.dis b h1 h2, h.g2, h.g1, fun e => h.ne e.symm, h.s2, h.s1, h.below⟩

theorem Two.mark1 {w wr w4 : World} {z : Bool} {p1 p2 : Nat} {m1 m2 : Option Nat} {L1 L2 : List Lit} {b : Nat} {x : Lit} (h : Two w wr z p1 p2 m1 m2 L1 L2)
    (hp : PendAt w4 p1 (some b) (L1 ++ [x])) (hor : m1 = some b ∨ b = wr.heap.size) (ht : Touch wr w4 (fun i => i = p1 ∨ m1 = some i)) : Two w w4 z p1 p2 (some b) m2 (L1 ++ [x]) L2 := by
  have hb := h.below
  refine ⟨hp, h.P2.touch ht ?_ ?_, ?_, h.o2, ?_, h.g1, h.g2, h.ne, by simp, h.s2, ?_⟩
  · rintro (e | e)
    · exact h.ne e.symm
    · exact pend_ne h.P2.cell (h.P1.own p2 e) rfl
  · rintro b2 hb2 (e | e)
    · exact pend_ne h.P1.cell (h.P2.own b2 hb2) e.symm
    · exact h.dis b2 e hb2
  · intro b' e
    cases e
    rcases hor with h' | h'
    · exact h.o1 b h'
    · rw [h']; exact hb.size
  · intro b' e e2
    cases e
    rcases hor with h' | h'
    · exact h.dis b h' e2
    · exact absurd (h.P2.own b e2).lt (by omega)
  · refine ht.below hb hb.size ?_
    rintro i (e | e)
    · rw [e]; exact h.g1
    · exact h.o1 i e

theorem Two.mark2 {w wr w4 : World} {z : Bool} {p1 p2 : Nat} {m1 m2 : Option Nat} {L1 L2 : List Lit} {b : Nat} {x : Lit} (h : Two w wr z p1 p2 m1 m2 L1 L2)
    (hp : PendAt w4 p2 (some b) (L2 ++ [x])) (hor : m2 = some b ∨ b = wr.heap.size) (ht : Touch wr w4 (fun i => i = p2 ∨ m2 = some i)) : Two w w4 z p1 p2 m1 (some b) L1 (L2 ++ [x]) :=
  (h.flip.mark1 hp hor ht).flip

/-! ### how many different ones -/
theorem mem_addKey {acc : List Lit} {x y : Lit} (hy : WideAt.IsKeyLit y) : x ∈ addKey acc y ↔ x ∈ acc ∨ x = y := by
  unfold addKey
  split
  · rename_i h
    obtain ⟨u, hu, hs⟩ := List.any_eq_true.1 h
    have e := (WideAt.sameKey_iff hy).1 hs
    subst e
    constructor
    · exact .inl
    · rintro (h | h)
      · exact h
      · rw [h]; exact hu
  · simp

theorem mem_fold : ∀ (l acc : List Lit) (x : Lit), (∀ y ∈ l, WideAt.IsKeyLit y) → (x ∈ l.foldl addKey acc ↔ x ∈ acc ∨ x ∈ l)
  | [], acc, x, _ => by simp
  | y :: r, acc, x, h => by
    rw [List.foldl_cons, mem_fold r (addKey acc y) x (fun z hz => h z (by simp [hz])), mem_addKey (h y (by simp)), List.mem_cons]
    constructor
    · rintro ((h | h) | h)
      · exact .inl h
      · exact .inr (.inl h)
      · exact .inr (.inr h)
    · rintro (h | h | h)
      · exact .inl (.inl h)
      · exact .inl (.inr h)
      · exact .inr h

theorem nodup_addKey {acc : List Lit} {y : Lit} (hy : WideAt.IsKeyLit y) (h : acc.Nodup) : (addKey acc y).Nodup := by
  unfold addKey
  split
  · exact h
  · rename_i hn
    rw [List.nodup_append]
    refine ⟨h, by simp, ?_⟩
    intro a ha b hb e
    simp at hb
    subst hb
    subst e
    exact hn (List.any_eq_true.2 ⟨a, ha, WideAt.sameKey_self hy⟩)

theorem nodup_fold : ∀ (l acc : List Lit), (∀ y ∈ l, WideAt.IsKeyLit y) → acc.Nodup → (l.foldl addKey acc).Nodup
  | [], _, _, h => h
  | y :: r, acc, hl, h => nodup_fold r (addKey acc y) (fun z hz => hl z (by simp [hz])) (nodup_addKey (hl y (by simp)) h)

theorem nodup_le : ∀ (l m : List Lit), l.Nodup → (∀ x ∈ l, x ∈ m) → l.length ≤ m.length
  | [], _, _, _ => by simp
  | y :: r, m, h, hs => by
    obtain ⟨h1, h2⟩ := List.nodup_cons.1 h
    obtain ⟨s, t, rfl⟩ := List.append_of_mem (hs y (by simp))
    have := nodup_le r (s ++ t) h2 (fun x hx => by
      have := hs x (by simp [hx])
      simp at this ⊢
      rcases this with h | h | h
      · exact .inl h
      · subst h; exact absurd hx h1
      · exact .inr h)
    simp at this ⊢
    omega

theorem U_same {xs ys : List ByteArray} (h : ∀ s, s ∈ xs ↔ s ∈ ys) : (U xs).length = (U ys).length := by
  have hk : ∀ x, x ∈ keysL xs ↔ x ∈ keysL ys := by
    intro x
    simp only [keysL, List.mem_map]
    constructor
    · rintro ⟨s, hs, e⟩; exact ⟨s, (h s).1 hs, e⟩
    · rintro ⟨s, hs, e⟩; exact ⟨s, (h s).2 hs, e⟩
  apply Nat.le_antisymm
  · exact nodup_le _ _ (nodup_fold _ _ (isKeys xs) List.nodup_nil) (fun x hx => (mem_fold _ _ x (isKeys ys)).2 (.inr ((hk x).1 (by simpa using (mem_fold _ _ x (isKeys xs)).1 hx))))
  · exact nodup_le _ _ (nodup_fold _ _ (isKeys ys) List.nodup_nil) (fun x hx => (mem_fold _ _ x (isKeys xs)).2 (.inr ((hk x).2 (by simpa using (mem_fold _ _ x (isKeys ys)).1 hx))))

end Go.Proofs.Qxb6614191a
