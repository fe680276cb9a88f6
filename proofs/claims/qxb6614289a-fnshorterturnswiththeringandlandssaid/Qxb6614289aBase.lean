/-
  Seat b6614289a (ringhop): a block of four words; what a store makes of it.
-/
import Derived.Test.Qxb6614289aRows
import Derived.WalkKit
import Derived.WalkSpells
import Derived.WalkLawsBesides
import Derived.RegionTactic
import Derived.ChangeAlike
import Derived.BigRegion
import Derived.Deep.QuietTactic
import Derived.BigQuiet
namespace Go.Proofs.Qxb6614289a
open Go.RowKit

/-- Block b of w holds just the cells vs, none of them frozen. -/
def Blk (w : World) (b : Nat) (t : TypeId) (vs : Array Value) : Prop := w.heap[b]? = some (.cells vs t (0, 0))

theorem Blk.cell {w : World} {b : Nat} {t : TypeId} {vs : Array Value} (h : Blk w b t vs) (i : Nat) : w.cell? ⟨b, i, none⟩ = vs[i]? := by
  unfold Blk at h
  simp [World.cell?, h]

theorem Blk.free {w : World} {b : Nat} {t : TypeId} {vs : Array Value} (h : Blk w b t vs) (i : Nat) : w.frozen? ⟨b, i, none⟩ = false := by
  unfold Blk at h
  simp [World.frozen?, h]

theorem Blk.lt {w : World} {b : Nat} {t : TypeId} {vs : Array Value} (h : Blk w b t vs) : b < w.heap.size := (Array.getElem?_eq_some_iff.1 h).1

theorem Blk.drew {w : World} {b : Nat} {t : TypeId} {vs : Array Value} (h : Blk w b t vs) : Blk w.drew b t vs := h

theorem Blk.set {w : World} {b : Nat} {t : TypeId} {vs : Array Value} (h : Blk w b t vs) (i : Nat) (v : Value) : Blk (w.setCell ⟨b, i, none⟩ v) b t (vs.setIfInBounds i v) := by
  unfold Blk at h ⊢
  obtain ⟨hlt, he⟩ := Array.getElem?_eq_some_iff.1 h
  simp [World.setCell, hlt, Array.getElem_modify, he]

theorem Blk.other {w : World} {b c : Nat} {t : TypeId} {vs : Array Value} (h : Blk w b t vs) (i : Nat) (v : Value) (hc : b ≠ c) : Blk (w.setCell ⟨c, i, none⟩ v) b t vs :=
  (Below.heap_setCell w ⟨c, i, none⟩ v b hc).trans h

theorem Blk.alloc {w : World} {b : Nat} {t : TypeId} {vs : Array Value} (h : Blk w b t vs) (o : Obj) : Blk (w.alloc o) b t vs := (Below.heap_alloc w o b h.lt).trans h

theorem Blk.new (w : World) (t : TypeId) (vs : Array Value) : Blk (w.alloc (.cells vs t)) w.heap.size t vs := heap_alloc_new w _

/-- Four words. -/
def W4 (x0 x1 x2 x3 : Int) : Array Value := #[.int .u64 x0, .int .u64 x1, .int .u64 x2, .int .u64 x3]

theorem grown_set (w : World) (b i : Nat) (v : Value) : w.grownBy (w.setCell ⟨b, i, none⟩ v) (some b) :=
  ⟨rfl, rfl, rfl, by simp, fun k _ hk => Below.heap_setCell w ⟨b, i, none⟩ v k (fun e => hk (by rw [e]))⟩

theorem grown_drew (w : World) (row : Option Nat) : w.grownBy w.drew row := ⟨rfl, rfl, rfl, Nat.le_refl _, fun _ _ _ => rfl⟩

theorem set4 {w : World} {b : Nat} {x0 x1 x2 x3 v0 v1 v2 v3 : Int} (h : Blk w b 31 (W4 x0 x1 x2 x3)) :
    Blk ((((w.setCell ⟨b, 3, none⟩ (.int .u64 v3)).setCell ⟨b, 2, none⟩ (.int .u64 v2)).setCell ⟨b, 1, none⟩ (.int .u64 v1)).setCell ⟨b, 0, none⟩ (.int .u64 v0)).drew b 31 (W4 v0 v1 v2 v3) ∧
      w.grownBy ((((w.setCell ⟨b, 3, none⟩ (.int .u64 v3)).setCell ⟨b, 2, none⟩ (.int .u64 v2)).setCell ⟨b, 1, none⟩ (.int .u64 v1)).setCell ⟨b, 0, none⟩ (.int .u64 v0)).drew (some b) :=
  ⟨((((h.set 3 _).set 2 _).set 1 _).set 0 _).drew, (((((grown_set w b 3 _).trans (grown_set _ b 2 _)).trans (grown_set _ b 1 _)).trans (grown_set _ b 0 _)).trans (grown_drew _ _))⟩

/-- One word is stored. -/
theorem set1 {w : World} {b : Nat} {t : TypeId} {vs : Array Value} (i : Nat) (v : Value) (h : Blk w b t vs) : Blk (w.setCell ⟨b, i, none⟩ v).drew b t (vs.setIfInBounds i v) ∧ w.grownBy (w.setCell ⟨b, i, none⟩ v).drew (some b) :=
  ⟨(h.set i v).drew, (grown_set w b i v).trans (grown_drew _ _)⟩

end Go.Proofs.Qxb6614289a
