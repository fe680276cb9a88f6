/-
  Seat b6605717a (amends, saga): the record and its steps as the walks see them.
-/
import Derived.Test.Qxb6605717aRows
import Derived.WalkKit
import Derived.WalkSpells
import Derived.WalkLawsBesides
namespace Go.Proofs.Qxb6605717a
open Go.RowKit

/-- The record r lies at block rb, its n steps at block sb, ten cells each. -/
structure Rec (w : World) (rb sb n : Nat) (status dir : ByteArray) (st : Nat → ByteArray) (att catt : Nat → Int) (cmp : Nat → Option Addr) (snt : Nat → Bool) : Prop where
  cS : w.cell? ⟨rb, 4, none⟩ = some (.string status)
  cD : w.cell? ⟨rb, 5, none⟩ = some (.string dir)
  cL : w.cell? ⟨rb, 10, none⟩ = some (.slice (some ⟨sb, 0, none⟩) n n)
  fr : ∀ k, w.frozen? ⟨rb, k, none⟩ = false
  fs : ∀ k, w.frozen? ⟨sb, k, none⟩ = false
  c0 : ∀ k, k < n → w.cell? ⟨sb, 10 * k, none⟩ = some (.string ⟨#[115, 116, 101, 112]⟩)
  c1 : ∀ k, k < n → w.cell? ⟨sb, 10 * k + 1, none⟩ = some (.string (st k))
  c2 : ∀ k, k < n → w.cell? ⟨sb, 10 * k + 2, none⟩ = some (.int .i64 (att k))
  c3 : ∀ k, k < n → w.cell? ⟨sb, 10 * k + 3, none⟩ = some (.int .i64 (catt k))
  c4 : ∀ k, k < n → w.cell? ⟨sb, 10 * k + 4, none⟩ = some (.string ⟨#[]⟩)
  c5 : ∀ k, k < n → w.cell? ⟨sb, 10 * k + 5, none⟩ = some (.string ⟨#[]⟩)
  c6 : ∀ k, k < n → w.cell? ⟨sb, 10 * k + 6, none⟩ = some (.map none)
  c7 : ∀ k, k < n → w.cell? ⟨sb, 10 * k + 7, none⟩ = some (.slice none 0 0)
  c8 : ∀ k, k < n → w.cell? ⟨sb, 10 * k + 8, none⟩ = some (.pointer (cmp k))
  c9 : ∀ k, k < n → w.cell? ⟨sb, 10 * k + 9, none⟩ = some (.bool (snt k))
  rl : rb < w.heap.size
  sl : sb < w.heap.size
  ne : rb ≠ sb

theorem idx27 (sb n k : Nat) (w : World) (h : k < n) : (Instr.indexAt 27 (.slice (some ⟨sb, 0, none⟩) n n) (.int .i64 (k : Int))).run Try.prog w = .ok (.pointer (some ⟨sb, 10 * k, none⟩)) w := by
  have h1 : (0 : Int) ≤ (k : Int) ∧ (k : Int) < (n : Int) := ⟨by omega, by omega⟩
  have h2 : (sizeOf 42).run Try.prog w = .ok 10 w := by kernel_rfl
  have h3 : Try.prog.elem 27 = 42 := by simp [Program.elem, Try.underlying27]
  rw [run_indexAt_slice _ _ _ _ _ _ _ (by rw [h3]; exact Try.underlying27), if_pos h1, h3, h2]
  have h4 : k * 10 = 10 * k := Nat.mul_comm _ _
  simp [Result.andThen, Addr.add]
  rw [h4]
  split
  · rename_i e0
    rw [e0]
  · rfl

theorem frozen_below {w w' : World} {B b : Nat} (hb : Below B w w') (h : b < B) (k : Nat) : w'.frozen? ⟨b, k, none⟩ = w.frozen? ⟨b, k, none⟩ := by
  unfold World.frozen?
  rw [hb.block b h]

theorem Rec.below {w w' : World} {rb sb n : Nat} {status dir : ByteArray} {st : Nat → ByteArray} {att catt : Nat → Int} {cmp : Nat → Option Addr} {snt : Nat → Bool} (h : Rec w rb sb n status dir st att catt cmp snt) (hb : Below w.heap.size w w') : Rec w' rb sb n status dir st att catt cmp snt := by
  have hr := fun k => hb.cell (p := ⟨rb, k, none⟩) h.rl
  have hs := fun k => hb.cell (p := ⟨sb, k, none⟩) h.sl
  have hsz := hb.size
  have hrl := h.rl
  have hsl := h.sl
  exact ⟨(hr 4).trans h.cS, (hr 5).trans h.cD, (hr 10).trans h.cL, fun k => (frozen_below hb h.rl k).trans (h.fr k), fun k => (frozen_below hb h.sl k).trans (h.fs k),
    fun k hk => (hs _).trans (h.c0 k hk), fun k hk => (hs _).trans (h.c1 k hk), fun k hk => (hs _).trans (h.c2 k hk), fun k hk => (hs _).trans (h.c3 k hk), fun k hk => (hs _).trans (h.c4 k hk),
    fun k hk => (hs _).trans (h.c5 k hk), fun k hk => (hs _).trans (h.c6 k hk), fun k hk => (hs _).trans (h.c7 k hk), fun k hk => (hs _).trans (h.c8 k hk), fun k hk => (hs _).trans (h.c9 k hk), by omega, by omega, h.ne⟩

theorem beq_ff {x s : ByteArray} (e : ¬ x = s) : (x.toList == s.data.toList) = false := by
  rw [beq_eq_false_iff_ne]
  intro h
  rw [ByteArray.toList_eq] at h
  exact e (Go.WideShapes.bytes_inj h)
theorem beq_tt {x s : ByteArray} (e : x = s) : (x.toList == s.data.toList) = true := by rw [e, ByteArray.toList_eq]; exact beq_self_eq_true _

end Go.Proofs.Qxb6605717a
