/-
  Seat b6605717a: what the law makes: the record while it is filled, the machine's arrays.
-/
import Derived.Test.Qxb6605717aW4
import Derived.Deep.OwnRows
import Derived.Deep.DeepCutAuto
namespace Go.Proofs.Qxb6605717a
open Go.RowKit

def zero42 : Value := .agg #[.string ⟨#[]⟩, .string ⟨#[]⟩, .int .i64 0, .int .i64 0, .string ⟨#[]⟩, .string ⟨#[]⟩, .map none, .slice none 0 0, .pointer none, .bool false]
theorem Try.info42 : (Try.prog.info? 42).map (fun i => (i.zero, i.size, i.bytes)) = some (some zero42, 10, 128) := by kernel_rfl
theorem Try.info9 : (Try.prog.info? 9).map (fun i => (i.zero, i.size, i.bytes)) = some (some (.string ⟨#[]⟩), 1, 16) := by kernel_rfl
theorem Try.info3 : (Try.prog.info? 3).map (fun i => (i.zero, i.size, i.bytes)) = some (some (.int .i64 0), 1, 8) := by kernel_rfl
theorem Try.info4 : (Try.prog.info? 4).map (fun i => (i.zero, i.size, i.bytes)) = some (some (.bool false), 1, 1) := by kernel_rfl

theorem idx_of (t e : TypeId) (g n k : Nat) (w : World) (h : k < n) (hu : Try.prog.underlying t = some (.slice e)) (h2 : (sizeOf e).run Try.prog w = .ok 1 w) : (Instr.indexAt t (.slice (some ⟨g, 0, none⟩) n n) (.int .i64 (k : Int))).run Try.prog w = .ok (.pointer (some ⟨g, k, none⟩)) w := by
  have h1 : (0 : Int) ≤ (k : Int) ∧ (k : Int) < (n : Int) := ⟨by omega, by omega⟩
  have h3 : Try.prog.elem t = e := by simp [Program.elem, hu]
  rw [run_indexAt_slice _ _ _ _ _ _ _ (by rw [h3]; exact hu), if_pos h1, h3, h2]
  simp [Result.andThen, Addr.add]
  intro h; exact h.symm

theorem idx32 (g n k : Nat) (w : World) (h : k < n) : (Instr.indexAt 32 (.slice (some ⟨g, 0, none⟩) n n) (.int .i64 (k : Int))).run Try.prog w = .ok (.pointer (some ⟨g, k, none⟩)) w :=
  idx_of 32 9 g n k w h Try.underlying32 (by kernel_rfl)
theorem idx33 (g n k : Nat) (w : World) (h : k < n) : (Instr.indexAt 33 (.slice (some ⟨g, 0, none⟩) n n) (.int .i64 (k : Int))).run Try.prog w = .ok (.pointer (some ⟨g, k, none⟩)) w :=
  idx_of 33 3 g n k w h Try.underlying33 (by kernel_rfl)
theorem idx22 (g n k : Nat) (w : World) (h : k < n) : (Instr.indexAt 22 (.slice (some ⟨g, 0, none⟩) n n) (.int .i64 (k : Int))).run Try.prog w = .ok (.pointer (some ⟨g, k, none⟩)) w :=
  idx_of 22 4 g n k w h Try.underlying22 (by kernel_rfl)

/-- The record while the first loop fills it: k steps are laid. -/
structure RecP (w : World) (rb sb n k : Nat) (cmp : Nat → Option Addr) : Prop where
  cS : w.cell? ⟨rb, 4, none⟩ = some (.string ⟨#[82, 85, 78, 78, 73, 78, 71]⟩)
  cD : w.cell? ⟨rb, 5, none⟩ = some (.string ⟨#[102, 111, 114, 119, 97, 114, 100]⟩)
  cL : w.cell? ⟨rb, 10, none⟩ = some (.slice (some ⟨sb, 0, none⟩) n n)
  fr : ∀ k, w.frozen? ⟨rb, k, none⟩ = false
  fs : ∀ k, w.frozen? ⟨sb, k, none⟩ = false
  has : ∀ j, j < 10 * n → ∃ v, w.cell? ⟨sb, j, none⟩ = some v
  c0 : ∀ i, i < k → w.cell? ⟨sb, 10 * i, none⟩ = some (.string ⟨#[115, 116, 101, 112]⟩)
  c1 : ∀ i, i < k → w.cell? ⟨sb, 10 * i + 1, none⟩ = some (.string ⟨#[80, 69, 78, 68, 73, 78, 71]⟩)
  c2 : ∀ i, i < k → w.cell? ⟨sb, 10 * i + 2, none⟩ = some (.int .i64 0)
  c3 : ∀ i, i < k → w.cell? ⟨sb, 10 * i + 3, none⟩ = some (.int .i64 0)
  c4 : ∀ i, i < k → w.cell? ⟨sb, 10 * i + 4, none⟩ = some (.string ⟨#[]⟩)
  c5 : ∀ i, i < k → w.cell? ⟨sb, 10 * i + 5, none⟩ = some (.string ⟨#[]⟩)
  c6 : ∀ i, i < k → w.cell? ⟨sb, 10 * i + 6, none⟩ = some (.map none)
  c7 : ∀ i, i < k → w.cell? ⟨sb, 10 * i + 7, none⟩ = some (.slice none 0 0)
  c8 : ∀ i, i < k → w.cell? ⟨sb, 10 * i + 8, none⟩ = some (.pointer (cmp i))
  c9 : ∀ i, i < k → w.cell? ⟨sb, 10 * i + 9, none⟩ = some (.bool false)
  rl : rb < w.heap.size
  sl : sb < w.heap.size
  ne : rb ≠ sb

theorem RecP.full {w : World} {rb sb n : Nat} {cmp : Nat → Option Addr} (h : RecP w rb sb n n cmp) : Rec w rb sb n ⟨#[82, 85, 78, 78, 73, 78, 71]⟩ ⟨#[102, 111, 114, 119, 97, 114, 100]⟩ (fun _ => ⟨#[80, 69, 78, 68, 73, 78, 71]⟩) (fun _ => 0) (fun _ => 0) cmp (fun _ => false) :=
  ⟨h.cS, h.cD, h.cL, h.fr, h.fs, h.c0, h.c1, h.c2, h.c3, h.c4, h.c5, h.c6, h.c7, h.c8, h.c9, h.rl, h.sl, h.ne⟩

/-- The machine's four arrays. -/
structure Mach (w : World) (tb ab cb nb n : Nat) (st : Nat → ByteArray) (att catt : Nat → Int) (snt : Nat → Bool) : Prop where
  cT : ∀ k, k < n → w.cell? ⟨tb, k, none⟩ = some (.string (st k))
  cA : ∀ k, k < n → w.cell? ⟨ab, k, none⟩ = some (.int .i64 (att k))
  cC : ∀ k, k < n → w.cell? ⟨cb, k, none⟩ = some (.int .i64 (catt k))
  cN : ∀ k, k < n → w.cell? ⟨nb, k, none⟩ = some (.bool (snt k))
  fT : ∀ k, w.frozen? ⟨tb, k, none⟩ = false
  fA : ∀ k, w.frozen? ⟨ab, k, none⟩ = false
  fC : ∀ k, w.frozen? ⟨cb, k, none⟩ = false
  fN : ∀ k, w.frozen? ⟨nb, k, none⟩ = false
  o1 : tb < ab
  o2 : ab < cb
  o3 : cb < nb
  lt : nb < w.heap.size

theorem RecP.put {w : World} {rb sb n k : Nat} {cmp : Nat → Option Addr} (h : RecP w rb sb n k cmp) (hk : k < n) (g : Option Addr) :
    RecP ((((((((((w.setCell ⟨sb, 10 * k, none⟩ (.string ⟨#[115, 116, 101, 112]⟩)).setCell ⟨sb, 10 * k + 1, none⟩ (.string ⟨#[80, 69, 78, 68, 73, 78, 71]⟩)).setCell ⟨sb, 10 * k + 2, none⟩ (.int .i64 0)).setCell ⟨sb, 10 * k + 3, none⟩ (.int .i64 0)).setCell ⟨sb, 10 * k + 4, none⟩ (.string ⟨#[]⟩)).setCell ⟨sb, 10 * k + 5, none⟩ (.string ⟨#[]⟩)).setCell ⟨sb, 10 * k + 6, none⟩ (.map none)).setCell ⟨sb, 10 * k + 7, none⟩ (.slice none 0 0)).setCell ⟨sb, 10 * k + 8, none⟩ (.pointer g)).setCell ⟨sb, 10 * k + 9, none⟩ (.bool false)) rb sb n (k + 1) (upd cmp k g) := by
  have hb := h.ne.symm
  refine ⟨cell_set (cell_set (cell_set (cell_set (cell_set (cell_set (cell_set (cell_set (cell_set (cell_set (h.cS) (ne_blk hb)) (ne_blk hb)) (ne_blk hb)) (ne_blk hb)) (ne_blk hb)) (ne_blk hb)) (ne_blk hb)) (ne_blk hb)) (ne_blk hb)) (ne_blk hb), cell_set (cell_set (cell_set (cell_set (cell_set (cell_set (cell_set (cell_set (cell_set (cell_set (h.cD) (ne_blk hb)) (ne_blk hb)) (ne_blk hb)) (ne_blk hb)) (ne_blk hb)) (ne_blk hb)) (ne_blk hb)) (ne_blk hb)) (ne_blk hb)) (ne_blk hb), cell_set (cell_set (cell_set (cell_set (cell_set (cell_set (cell_set (cell_set (cell_set (cell_set (h.cL) (ne_blk hb)) (ne_blk hb)) (ne_blk hb)) (ne_blk hb)) (ne_blk hb)) (ne_blk hb)) (ne_blk hb)) (ne_blk hb)) (ne_blk hb)) (ne_blk hb), fun i => ?_, fun i => ?_, fun j hj => ?_, ?_, ?_, ?_, ?_, ?_, ?_, ?_, ?_, ?_, ?_, ?_, ?_, h.ne⟩
  · simp only [World.frozen?_setCell]; exact h.fr i
  · simp only [World.frozen?_setCell]; exact h.fs i
  · obtain ⟨v, hv⟩ := h.has j hj
    obtain ⟨v0, h0⟩ := cell?_setCell_some (p := ⟨sb, 10 * k, none⟩) (x := .string ⟨#[115, 116, 101, 112]⟩) hv
    obtain ⟨v1, h1⟩ := cell?_setCell_some (p := ⟨sb, 10 * k + 1, none⟩) (x := .string ⟨#[80, 69, 78, 68, 73, 78, 71]⟩) h0
    obtain ⟨v2, h2⟩ := cell?_setCell_some (p := ⟨sb, 10 * k + 2, none⟩) (x := .int .i64 0) h1
    obtain ⟨v3, h3⟩ := cell?_setCell_some (p := ⟨sb, 10 * k + 3, none⟩) (x := .int .i64 0) h2
    obtain ⟨v4, h4⟩ := cell?_setCell_some (p := ⟨sb, 10 * k + 4, none⟩) (x := .string ⟨#[]⟩) h3
    obtain ⟨v5, h5⟩ := cell?_setCell_some (p := ⟨sb, 10 * k + 5, none⟩) (x := .string ⟨#[]⟩) h4
    obtain ⟨v6, h6⟩ := cell?_setCell_some (p := ⟨sb, 10 * k + 6, none⟩) (x := .map none) h5
    obtain ⟨v7, h7⟩ := cell?_setCell_some (p := ⟨sb, 10 * k + 7, none⟩) (x := .slice none 0 0) h6
    obtain ⟨v8, h8⟩ := cell?_setCell_some (p := ⟨sb, 10 * k + 8, none⟩) (x := .pointer g) h7
    obtain ⟨v9, h9⟩ := cell?_setCell_some (p := ⟨sb, 10 * k + 9, none⟩) (x := .bool false) h8
    exact ⟨_, h9⟩
  · intro i hi
    by_cases e : i = k
    · subst e
      obtain ⟨v, hv⟩ := h.has (10 * i) (by omega)
      exact cell_set (cell_set (cell_set (cell_set (cell_set (cell_set (cell_set (cell_set (cell_set (World.cell?_setCell_same _ _ _ (hv)) (ne_off (by omega))) (ne_off (by omega))) (ne_off (by omega))) (ne_off (by omega))) (ne_off (by omega))) (ne_off (by omega))) (ne_off (by omega))) (ne_off (by omega))) (ne_off (by omega))
    · exact cell_set (cell_set (cell_set (cell_set (cell_set (cell_set (cell_set (cell_set (cell_set (cell_set (h.c0 i (by omega)) (ne_off (by omega))) (ne_off (by omega))) (ne_off (by omega))) (ne_off (by omega))) (ne_off (by omega))) (ne_off (by omega))) (ne_off (by omega))) (ne_off (by omega))) (ne_off (by omega))) (ne_off (by omega))
  · intro i hi
    by_cases e : i = k
    · subst e
      obtain ⟨v, hv⟩ := h.has (10 * i + 1) (by omega)
      exact cell_set (cell_set (cell_set (cell_set (cell_set (cell_set (cell_set (cell_set (World.cell?_setCell_same _ _ _ (cell_set (hv) (ne_off (by omega)))) (ne_off (by omega))) (ne_off (by omega))) (ne_off (by omega))) (ne_off (by omega))) (ne_off (by omega))) (ne_off (by omega))) (ne_off (by omega))) (ne_off (by omega))
    · exact cell_set (cell_set (cell_set (cell_set (cell_set (cell_set (cell_set (cell_set (cell_set (cell_set (h.c1 i (by omega)) (ne_off (by omega))) (ne_off (by omega))) (ne_off (by omega))) (ne_off (by omega))) (ne_off (by omega))) (ne_off (by omega))) (ne_off (by omega))) (ne_off (by omega))) (ne_off (by omega))) (ne_off (by omega))
  · intro i hi
    by_cases e : i = k
    · subst e
      obtain ⟨v, hv⟩ := h.has (10 * i + 2) (by omega)
      exact cell_set (cell_set (cell_set (cell_set (cell_set (cell_set (cell_set (World.cell?_setCell_same _ _ _ (cell_set (cell_set (hv) (ne_off (by omega))) (ne_off (by omega)))) (ne_off (by omega))) (ne_off (by omega))) (ne_off (by omega))) (ne_off (by omega))) (ne_off (by omega))) (ne_off (by omega))) (ne_off (by omega))
    · exact cell_set (cell_set (cell_set (cell_set (cell_set (cell_set (cell_set (cell_set (cell_set (cell_set (h.c2 i (by omega)) (ne_off (by omega))) (ne_off (by omega))) (ne_off (by omega))) (ne_off (by omega))) (ne_off (by omega))) (ne_off (by omega))) (ne_off (by omega))) (ne_off (by omega))) (ne_off (by omega))) (ne_off (by omega))
  · intro i hi
    by_cases e : i = k
    · subst e
      obtain ⟨v, hv⟩ := h.has (10 * i + 3) (by omega)
      exact cell_set (cell_set (cell_set (cell_set (cell_set (cell_set (World.cell?_setCell_same _ _ _ (cell_set (cell_set (cell_set (hv) (ne_off (by omega))) (ne_off (by omega))) (ne_off (by omega)))) (ne_off (by omega))) (ne_off (by omega))) (ne_off (by omega))) (ne_off (by omega))) (ne_off (by omega))) (ne_off (by omega))
    · exact cell_set (cell_set (cell_set (cell_set (cell_set (cell_set (cell_set (cell_set (cell_set (cell_set (h.c3 i (by omega)) (ne_off (by omega))) (ne_off (by omega))) (ne_off (by omega))) (ne_off (by omega))) (ne_off (by omega))) (ne_off (by omega))) (ne_off (by omega))) (ne_off (by omega))) (ne_off (by omega))) (ne_off (by omega))
  · intro i hi
    by_cases e : i = k
    · subst e
      obtain ⟨v, hv⟩ := h.has (10 * i + 4) (by omega)
      exact cell_set (cell_set (cell_set (cell_set (cell_set (World.cell?_setCell_same _ _ _ (cell_set (cell_set (cell_set (cell_set (hv) (ne_off (by omega))) (ne_off (by omega))) (ne_off (by omega))) (ne_off (by omega)))) (ne_off (by omega))) (ne_off (by omega))) (ne_off (by omega))) (ne_off (by omega))) (ne_off (by omega))
    · exact cell_set (cell_set (cell_set (cell_set (cell_set (cell_set (cell_set (cell_set (cell_set (cell_set (h.c4 i (by omega)) (ne_off (by omega))) (ne_off (by omega))) (ne_off (by omega))) (ne_off (by omega))) (ne_off (by omega))) (ne_off (by omega))) (ne_off (by omega))) (ne_off (by omega))) (ne_off (by omega))) (ne_off (by omega))
  · intro i hi
    by_cases e : i = k
    · subst e
      obtain ⟨v, hv⟩ := h.has (10 * i + 5) (by omega)
      exact cell_set (cell_set (cell_set (cell_set (World.cell?_setCell_same _ _ _ (cell_set (cell_set (cell_set (cell_set (cell_set (hv) (ne_off (by omega))) (ne_off (by omega))) (ne_off (by omega))) (ne_off (by omega))) (ne_off (by omega)))) (ne_off (by omega))) (ne_off (by omega))) (ne_off (by omega))) (ne_off (by omega))
    · exact cell_set (cell_set (cell_set (cell_set (cell_set (cell_set (cell_set (cell_set (cell_set (cell_set (h.c5 i (by omega)) (ne_off (by omega))) (ne_off (by omega))) (ne_off (by omega))) (ne_off (by omega))) (ne_off (by omega))) (ne_off (by omega))) (ne_off (by omega))) (ne_off (by omega))) (ne_off (by omega))) (ne_off (by omega))
  · intro i hi
    by_cases e : i = k
    · subst e
      obtain ⟨v, hv⟩ := h.has (10 * i + 6) (by omega)
      exact cell_set (cell_set (cell_set (World.cell?_setCell_same _ _ _ (cell_set (cell_set (cell_set (cell_set (cell_set (cell_set (hv) (ne_off (by omega))) (ne_off (by omega))) (ne_off (by omega))) (ne_off (by omega))) (ne_off (by omega))) (ne_off (by omega)))) (ne_off (by omega))) (ne_off (by omega))) (ne_off (by omega))
    · exact cell_set (cell_set (cell_set (cell_set (cell_set (cell_set (cell_set (cell_set (cell_set (cell_set (h.c6 i (by omega)) (ne_off (by omega))) (ne_off (by omega))) (ne_off (by omega))) (ne_off (by omega))) (ne_off (by omega))) (ne_off (by omega))) (ne_off (by omega))) (ne_off (by omega))) (ne_off (by omega))) (ne_off (by omega))
  · intro i hi
    by_cases e : i = k
    · subst e
      obtain ⟨v, hv⟩ := h.has (10 * i + 7) (by omega)
      exact cell_set (cell_set (World.cell?_setCell_same _ _ _ (cell_set (cell_set (cell_set (cell_set (cell_set (cell_set (cell_set (hv) (ne_off (by omega))) (ne_off (by omega))) (ne_off (by omega))) (ne_off (by omega))) (ne_off (by omega))) (ne_off (by omega))) (ne_off (by omega)))) (ne_off (by omega))) (ne_off (by omega))
    · exact cell_set (cell_set (cell_set (cell_set (cell_set (cell_set (cell_set (cell_set (cell_set (cell_set (h.c7 i (by omega)) (ne_off (by omega))) (ne_off (by omega))) (ne_off (by omega))) (ne_off (by omega))) (ne_off (by omega))) (ne_off (by omega))) (ne_off (by omega))) (ne_off (by omega))) (ne_off (by omega))) (ne_off (by omega))
  · intro i hi
    by_cases e : i = k
    · subst e
      obtain ⟨v, hv⟩ := h.has (10 * i + 8) (by omega)
      rw [upd_same]
      exact cell_set (World.cell?_setCell_same _ _ _ (cell_set (cell_set (cell_set (cell_set (cell_set (cell_set (cell_set (cell_set (hv) (ne_off (by omega))) (ne_off (by omega))) (ne_off (by omega))) (ne_off (by omega))) (ne_off (by omega))) (ne_off (by omega))) (ne_off (by omega))) (ne_off (by omega)))) (ne_off (by omega))
    · rw [upd_other _ _ e]
      exact cell_set (cell_set (cell_set (cell_set (cell_set (cell_set (cell_set (cell_set (cell_set (cell_set (h.c8 i (by omega)) (ne_off (by omega))) (ne_off (by omega))) (ne_off (by omega))) (ne_off (by omega))) (ne_off (by omega))) (ne_off (by omega))) (ne_off (by omega))) (ne_off (by omega))) (ne_off (by omega))) (ne_off (by omega))
  · intro i hi
    by_cases e : i = k
    · subst e
      obtain ⟨v, hv⟩ := h.has (10 * i + 9) (by omega)
      exact World.cell?_setCell_same _ _ _ (cell_set (cell_set (cell_set (cell_set (cell_set (cell_set (cell_set (cell_set (cell_set (hv) (ne_off (by omega))) (ne_off (by omega))) (ne_off (by omega))) (ne_off (by omega))) (ne_off (by omega))) (ne_off (by omega))) (ne_off (by omega))) (ne_off (by omega))) (ne_off (by omega)))
    · exact cell_set (cell_set (cell_set (cell_set (cell_set (cell_set (cell_set (cell_set (cell_set (cell_set (h.c9 i (by omega)) (ne_off (by omega))) (ne_off (by omega))) (ne_off (by omega))) (ne_off (by omega))) (ne_off (by omega))) (ne_off (by omega))) (ne_off (by omega))) (ne_off (by omega))) (ne_off (by omega))) (ne_off (by omega))
  · simpa using h.rl
  · simpa using h.sl

end Go.Proofs.Qxb6605717a
