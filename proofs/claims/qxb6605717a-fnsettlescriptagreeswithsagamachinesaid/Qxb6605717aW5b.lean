/-
  Seat b6605717a: stores and new blocks beside the record and the machine's arrays; the start.
-/
import Derived.Test.Qxb6605717aW5
namespace Go.Proofs.Qxb6605717a
open Go.RowKit

theorem RecP.other {w : World} {rb sb n k : Nat} {cmp : Nat → Option Addr} (h : RecP w rb sb n k cmp) {b : Nat} (hr : b ≠ rb) (hs : b ≠ sb) (o : Nat) (v : Value) : RecP (w.setCell ⟨b, o, none⟩ v) rb sb n k cmp :=
  ⟨cell_set h.cS (ne_blk hr), cell_set h.cD (ne_blk hr), cell_set h.cL (ne_blk hr), fun i => by rw [World.frozen?_setCell]; exact h.fr i, fun i => by rw [World.frozen?_setCell]; exact h.fs i,
    fun j hj => by obtain ⟨x, hx⟩ := h.has j hj; exact ⟨x, cell_set hx (ne_blk hs)⟩,
    fun i hi => cell_set (h.c0 i hi) (ne_blk hs), fun i hi => cell_set (h.c1 i hi) (ne_blk hs), fun i hi => cell_set (h.c2 i hi) (ne_blk hs), fun i hi => cell_set (h.c3 i hi) (ne_blk hs), fun i hi => cell_set (h.c4 i hi) (ne_blk hs), fun i hi => cell_set (h.c5 i hi) (ne_blk hs), fun i hi => cell_set (h.c6 i hi) (ne_blk hs), fun i hi => cell_set (h.c7 i hi) (ne_blk hs), fun i hi => cell_set (h.c8 i hi) (ne_blk hs), fun i hi => cell_set (h.c9 i hi) (ne_blk hs), by simpa using h.rl, by simpa using h.sl, h.ne⟩

theorem RecP.below {w w' : World} {rb sb n k : Nat} {cmp : Nat → Option Addr} (h : RecP w rb sb n k cmp) (hb : Below w.heap.size w w') : RecP w' rb sb n k cmp := by
  have hr := fun k => hb.cell (p := ⟨rb, k, none⟩) h.rl
  have hs := fun k => hb.cell (p := ⟨sb, k, none⟩) h.sl
  have hsz := hb.size
  have hrl := h.rl
  have hsl := h.sl
  exact ⟨(hr 4).trans h.cS, (hr 5).trans h.cD, (hr 10).trans h.cL, fun k => (frozen_below hb h.rl k).trans (h.fr k), fun k => (frozen_below hb h.sl k).trans (h.fs k),
    fun j hj => by obtain ⟨x, hx⟩ := h.has j hj; exact ⟨x, (hs _).trans hx⟩,
    fun k hk => (hs _).trans (h.c0 k hk), fun k hk => (hs _).trans (h.c1 k hk), fun k hk => (hs _).trans (h.c2 k hk), fun k hk => (hs _).trans (h.c3 k hk), fun k hk => (hs _).trans (h.c4 k hk), fun k hk => (hs _).trans (h.c5 k hk), fun k hk => (hs _).trans (h.c6 k hk), fun k hk => (hs _).trans (h.c7 k hk), fun k hk => (hs _).trans (h.c8 k hk), fun k hk => (hs _).trans (h.c9 k hk), by omega, by omega, h.ne⟩

theorem Rec.other {w : World} {rb sb n : Nat} {status dir : ByteArray} {st : Nat → ByteArray} {att catt : Nat → Int} {cmp : Nat → Option Addr} {snt : Nat → Bool} (h : Rec w rb sb n status dir st att catt cmp snt) {b : Nat} (hr : b ≠ rb) (hs : b ≠ sb) (o : Nat) (v : Value) : Rec (w.setCell ⟨b, o, none⟩ v) rb sb n status dir st att catt cmp snt :=
  ⟨cell_set h.cS (ne_blk hr), cell_set h.cD (ne_blk hr), cell_set h.cL (ne_blk hr), fun i => by rw [World.frozen?_setCell]; exact h.fr i, fun i => by rw [World.frozen?_setCell]; exact h.fs i,
    fun i hi => cell_set (h.c0 i hi) (ne_blk hs), fun i hi => cell_set (h.c1 i hi) (ne_blk hs), fun i hi => cell_set (h.c2 i hi) (ne_blk hs), fun i hi => cell_set (h.c3 i hi) (ne_blk hs), fun i hi => cell_set (h.c4 i hi) (ne_blk hs), fun i hi => cell_set (h.c5 i hi) (ne_blk hs), fun i hi => cell_set (h.c6 i hi) (ne_blk hs), fun i hi => cell_set (h.c7 i hi) (ne_blk hs), fun i hi => cell_set (h.c8 i hi) (ne_blk hs), fun i hi => cell_set (h.c9 i hi) (ne_blk hs), by simpa using h.rl, by simpa using h.sl, h.ne⟩

theorem Mach.blocks {w : World} {tb ab cb nb n : Nat} {st : Nat → ByteArray} {att catt : Nat → Int} {snt : Nat → Bool} {w' : World} (h : Mach w tb ab cb nb n st att catt snt) (hb : ∀ b, b = tb ∨ b = ab ∨ b = cb ∨ b = nb → w'.heap[b]? = w.heap[b]?) (hs : w.heap.size ≤ w'.heap.size) : Mach w' tb ab cb nb n st att catt snt := by
  have c : ∀ b k, (b = tb ∨ b = ab ∨ b = cb ∨ b = nb) → w'.cell? ⟨b, k, none⟩ = w.cell? ⟨b, k, none⟩ := fun b k h => by unfold World.cell?; rw [hb b h]
  have f : ∀ b k, (b = tb ∨ b = ab ∨ b = cb ∨ b = nb) → w'.frozen? ⟨b, k, none⟩ = w.frozen? ⟨b, k, none⟩ := fun b k h => by unfold World.frozen?; rw [hb b h]
  have hl := h.lt
  exact ⟨fun k hk => (c _ k (by simp)).trans (h.cT k hk), fun k hk => (c _ k (by simp)).trans (h.cA k hk), fun k hk => (c _ k (by simp)).trans (h.cC k hk), fun k hk => (c _ k (by simp)).trans (h.cN k hk),
    fun k => (f _ k (by simp)).trans (h.fT k), fun k => (f _ k (by simp)).trans (h.fA k), fun k => (f _ k (by simp)).trans (h.fC k), fun k => (f _ k (by simp)).trans (h.fN k), h.o1, h.o2, h.o3, by omega⟩

theorem Mach.below {w : World} {tb ab cb nb n : Nat} {st : Nat → ByteArray} {att catt : Nat → Int} {snt : Nat → Bool} {w' : World} (h : Mach w tb ab cb nb n st att catt snt) (hb : Below w.heap.size w w') : Mach w' tb ab cb nb n st att catt snt := by
  have o1 := h.o1
  have o2 := h.o2
  have o3 := h.o3
  have lt := h.lt
  exact h.blocks (fun b hb' => hb.block b (by omega)) hb.size

theorem Mach.touch {w : World} {tb ab cb nb n : Nat} {st : Nat → ByteArray} {att catt : Nat → Int} {snt : Nat → Bool} {w' : World} {rb sb : Nat} (h : Mach w tb ab cb nb n st att catt snt) (ht : Tch w w' rb sb) (hr : rb < tb) (hs : sb < tb) : Mach w' tb ab cb nb n st att catt snt := by
  have o1 := h.o1
  have o2 := h.o2
  have o3 := h.o3
  have lt := h.lt
  exact h.blocks (fun b hb' => ht.block b (by omega) (by omega) (by omega)) ht.size

theorem Mach.other {w : World} {tb ab cb nb n : Nat} {st : Nat → ByteArray} {att catt : Nat → Int} {snt : Nat → Bool} (h : Mach w tb ab cb nb n st att catt snt) {b : Nat} (hb : b < tb) (o : Nat) (v : Value) : Mach (w.setCell ⟨b, o, none⟩ v) tb ab cb nb n st att catt snt := by
  have o1 := h.o1
  have o2 := h.o2
  have o3 := h.o3
  exact h.blocks (fun c hc => Below.heap_setCell _ _ _ _ (by simp only; omega)) (by simp [World.setCell])

theorem Mach.setT {w : World} {tb ab cb nb n : Nat} {st : Nat → ByteArray} {att catt : Nat → Int} {snt : Nat → Bool} (h : Mach w tb ab cb nb n st att catt snt) (p : Nat) (v : ByteArray) : Mach (w.setCell ⟨tb, p, none⟩ (.string v)) tb ab cb nb n (upd st p v) att catt snt := by
  have o1 := h.o1
  have o2 := h.o2
  have o3 := h.o3
  refine ⟨?_, ?_, ?_, ?_, fun k => by rw [World.frozen?_setCell]; exact h.fT k, fun k => by rw [World.frozen?_setCell]; exact h.fA k, fun k => by rw [World.frozen?_setCell]; exact h.fC k, fun k => by rw [World.frozen?_setCell]; exact h.fN k, o1, o2, o3, by simpa using h.lt⟩
  · intro k hk
    by_cases e : k = p
    · subst e
      rw [upd_same]
      exact World.cell?_setCell_same _ _ _ (h.cT k hk)
    · rw [upd_other _ _ e]
      exact cell_set (h.cT k hk) (ne_off (fun e' => e e'.symm))
  · exact fun k hk => cell_set (h.cA k hk) (ne_blk (by omega))
  · exact fun k hk => cell_set (h.cC k hk) (ne_blk (by omega))
  · exact fun k hk => cell_set (h.cN k hk) (ne_blk (by omega))

theorem Mach.setA {w : World} {tb ab cb nb n : Nat} {st : Nat → ByteArray} {att catt : Nat → Int} {snt : Nat → Bool} (h : Mach w tb ab cb nb n st att catt snt) (p : Nat) (v : Int) : Mach (w.setCell ⟨ab, p, none⟩ (.int .i64 v)) tb ab cb nb n st (upd att p v) catt snt := by
  have o1 := h.o1
  have o2 := h.o2
  have o3 := h.o3
  refine ⟨?_, ?_, ?_, ?_, fun k => by rw [World.frozen?_setCell]; exact h.fT k, fun k => by rw [World.frozen?_setCell]; exact h.fA k, fun k => by rw [World.frozen?_setCell]; exact h.fC k, fun k => by rw [World.frozen?_setCell]; exact h.fN k, o1, o2, o3, by simpa using h.lt⟩
  · exact fun k hk => cell_set (h.cT k hk) (ne_blk (by omega))
  · intro k hk
    by_cases e : k = p
    · subst e
      rw [upd_same]
      exact World.cell?_setCell_same _ _ _ (h.cA k hk)
    · rw [upd_other _ _ e]
      exact cell_set (h.cA k hk) (ne_off (fun e' => e e'.symm))
  · exact fun k hk => cell_set (h.cC k hk) (ne_blk (by omega))
  · exact fun k hk => cell_set (h.cN k hk) (ne_blk (by omega))

theorem Mach.setC {w : World} {tb ab cb nb n : Nat} {st : Nat → ByteArray} {att catt : Nat → Int} {snt : Nat → Bool} (h : Mach w tb ab cb nb n st att catt snt) (p : Nat) (v : Int) : Mach (w.setCell ⟨cb, p, none⟩ (.int .i64 v)) tb ab cb nb n st att (upd catt p v) snt := by
  have o1 := h.o1
  have o2 := h.o2
  have o3 := h.o3
  refine ⟨?_, ?_, ?_, ?_, fun k => by rw [World.frozen?_setCell]; exact h.fT k, fun k => by rw [World.frozen?_setCell]; exact h.fA k, fun k => by rw [World.frozen?_setCell]; exact h.fC k, fun k => by rw [World.frozen?_setCell]; exact h.fN k, o1, o2, o3, by simpa using h.lt⟩
  · exact fun k hk => cell_set (h.cT k hk) (ne_blk (by omega))
  · exact fun k hk => cell_set (h.cA k hk) (ne_blk (by omega))
  · intro k hk
    by_cases e : k = p
    · subst e
      rw [upd_same]
      exact World.cell?_setCell_same _ _ _ (h.cC k hk)
    · rw [upd_other _ _ e]
      exact cell_set (h.cC k hk) (ne_off (fun e' => e e'.symm))
  · exact fun k hk => cell_set (h.cN k hk) (ne_blk (by omega))

theorem Mach.setN {w : World} {tb ab cb nb n : Nat} {st : Nat → ByteArray} {att catt : Nat → Int} {snt : Nat → Bool} (h : Mach w tb ab cb nb n st att catt snt) (p : Nat) (v : Bool) : Mach (w.setCell ⟨nb, p, none⟩ (.bool v)) tb ab cb nb n st att catt (upd snt p v) := by
  have o1 := h.o1
  have o2 := h.o2
  have o3 := h.o3
  refine ⟨?_, ?_, ?_, ?_, fun k => by rw [World.frozen?_setCell]; exact h.fT k, fun k => by rw [World.frozen?_setCell]; exact h.fA k, fun k => by rw [World.frozen?_setCell]; exact h.fC k, fun k => by rw [World.frozen?_setCell]; exact h.fN k, o1, o2, o3, by simpa using h.lt⟩
  · exact fun k hk => cell_set (h.cT k hk) (ne_blk (by omega))
  · exact fun k hk => cell_set (h.cA k hk) (ne_blk (by omega))
  · exact fun k hk => cell_set (h.cC k hk) (ne_blk (by omega))
  · intro k hk
    by_cases e : k = p
    · subst e
      rw [upd_same]
      exact World.cell?_setCell_same _ _ _ (h.cN k hk)
    · rw [upd_other _ _ e]
      exact cell_set (h.cN k hk) (ne_off (fun e' => e e'.symm))

abbrev recCells (sb n : Nat) : Array Value := #[Value.string { data := #[115, 97, 103, 97] }, Value.int IntKind.i64 0, Value.string { data := #[] }, Value.string { data := #[] }, Value.string { data := #[82, 85, 78, 78, 73, 78, 71] }, Value.string { data := #[102, 111, 114, 119, 97, 114, 100] }, Value.string { data := #[] }, Value.pointer none, Value.bool false, Value.pointer none, Value.slice (some { block := sb, off := 0 }) n n, Value.string { data := #[] }]
abbrev startW (w1 : World) (sb n : Nat) : World := (((((w1.alloc (Obj.cells (recCells sb n) 31)).alloc (Obj.cells (madeCells #[Value.string { data := #[] }] n) 9)).alloc (Obj.cells (madeCells #[Value.int IntKind.i64 0] n) 3)).alloc (Obj.cells (madeCells #[Value.int IntKind.i64 0] n) 3)).alloc (Obj.cells (madeCells #[Value.bool false] n) 4))

theorem startW_size (w1 : World) (sb n : Nat) : (startW w1 sb n).heap.size = w1.heap.size + 5 := by simp [startW]
theorem startW_old (w1 : World) (sb n : Nat) {b : Nat} (h : b < w1.heap.size) : (startW w1 sb n).heap[b]? = w1.heap[b]? := by
  unfold startW
  rw [Below.heap_alloc _ _ _ (by simp <;> omega), Below.heap_alloc _ _ _ (by simp <;> omega), Below.heap_alloc _ _ _ (by simp <;> omega), Below.heap_alloc _ _ _ (by simp <;> omega), Below.heap_alloc _ _ _ h]
theorem startW_0 (w1 : World) (sb n : Nat) : (startW w1 sb n).heap[w1.heap.size]? = some (.cells (recCells sb n) 31 (0, 0)) := by
  unfold startW
  rw [Below.heap_alloc _ _ _ (by simp <;> omega), Below.heap_alloc _ _ _ (by simp <;> omega), Below.heap_alloc _ _ _ (by simp <;> omega), Below.heap_alloc _ _ _ (by simp), heap_alloc_new]
theorem startW_1 (w1 : World) (sb n : Nat) : (startW w1 sb n).heap[w1.heap.size + 1]? = some (.cells (madeCells #[Value.string { data := #[] }] n) 9 (0, 0)) := by
  unfold startW
  rw [Below.heap_alloc _ _ _ (by simp <;> omega), Below.heap_alloc _ _ _ (by simp <;> omega), Below.heap_alloc _ _ _ (by simp)]
  have := heap_alloc_new (w1.alloc (Obj.cells (recCells sb n) 31)) (Obj.cells (madeCells #[Value.string { data := #[] }] n) 9)
  simpa using this
theorem startW_2 (w1 : World) (sb n : Nat) : (startW w1 sb n).heap[w1.heap.size + 1 + 1]? = some (.cells (madeCells #[Value.int IntKind.i64 0] n) 3 (0, 0)) := by
  unfold startW
  rw [Below.heap_alloc _ _ _ (by simp <;> omega), Below.heap_alloc _ _ _ (by simp)]
  have := heap_alloc_new ((w1.alloc (Obj.cells (recCells sb n) 31)).alloc (Obj.cells (madeCells #[Value.string { data := #[] }] n) 9)) (Obj.cells (madeCells #[Value.int IntKind.i64 0] n) 3)
  simpa using this
theorem startW_3 (w1 : World) (sb n : Nat) : (startW w1 sb n).heap[w1.heap.size + 1 + 1 + 1]? = some (.cells (madeCells #[Value.int IntKind.i64 0] n) 3 (0, 0)) := by
  unfold startW
  rw [Below.heap_alloc _ _ _ (by simp)]
  have := heap_alloc_new (((w1.alloc (Obj.cells (recCells sb n) 31)).alloc (Obj.cells (madeCells #[Value.string { data := #[] }] n) 9)).alloc (Obj.cells (madeCells #[Value.int IntKind.i64 0] n) 3)) (Obj.cells (madeCells #[Value.int IntKind.i64 0] n) 3)
  simpa using this
theorem startW_4 (w1 : World) (sb n : Nat) : (startW w1 sb n).heap[w1.heap.size + 1 + 1 + 1 + 1]? = some (.cells (madeCells #[Value.bool false] n) 4 (0, 0)) := by
  unfold startW
  have := heap_alloc_new ((((w1.alloc (Obj.cells (recCells sb n) 31)).alloc (Obj.cells (madeCells #[Value.string { data := #[] }] n) 9)).alloc (Obj.cells (madeCells #[Value.int IntKind.i64 0] n) 3)).alloc (Obj.cells (madeCells #[Value.int IntKind.i64 0] n) 3)) (Obj.cells (madeCells #[Value.bool false] n) 4)
  simpa using this

theorem made_get (z : Value) (n k : Nat) (h : k < n) : (madeCells #[z] n)[k]? = some z := by
  rw [← Array.getElem?_toList, toList_madeCells_one, List.getElem?_replicate, if_pos h]

theorem start_below {w w1 : World} {n : Nat} (hb : Below w.heap.size w w1) : Below w.heap.size w (startW w1 w.heap.size n) := by
  have h := hb.size
  unfold startW
  exact ((((hb.alloc h _).alloc (by simp <;> omega) _).alloc (by simp <;> omega) _).alloc (by simp <;> omega) _).alloc (by simp <;> omega) _

theorem start_rec {w1 : World} {sb n : Nat} {xs : List Value} (o : w1.ownsRow sb 42 10 (.slice (some ⟨sb, 0, none⟩) n n) n xs) : RecP (startW w1 sb n) w1.heap.size sb n 0 (fun _ => none) := by
  have hlt : sb < w1.heap.size := (World.ownsRow.lt o sb rfl).2
  have h0 := startW_0 w1 sb n
  rcases o.2 with ⟨h', _⟩ | ⟨g', cap', cur, h', _, hg, _, _, hcs, htake⟩
  · simp at h'
  · simp only [Value.slice.injEq, Option.some.injEq, Addr.mk.injEq, and_true, true_and] at h'
    obtain ⟨rfl, rfl⟩ := h'
    have hs : (startW w1 sb n).heap[sb]? = some (.cells cur 42 (0, 0)) := (startW_old w1 sb n hlt).trans hg
    refine ⟨?_, ?_, ?_, fun k => frozen_of_row _ _ k _ _ h0, fun k => frozen_of_row _ _ k _ _ hs, fun j hj => ?_, fun _ h => absurd h (by omega), fun _ h => absurd h (by omega), fun _ h => absurd h (by omega), fun _ h => absurd h (by omega), fun _ h => absurd h (by omega), fun _ h => absurd h (by omega), fun _ h => absurd h (by omega), fun _ h => absurd h (by omega), fun _ h => absurd h (by omega), fun _ h => absurd h (by omega), by rw [startW_size]; omega, by rw [startW_size]; omega, by omega⟩
    · rw [cell_of_row _ _ _ _ _ _ h0]; rfl
    · rw [cell_of_row _ _ _ _ _ _ h0]; rfl
    · rw [cell_of_row _ _ _ _ _ _ h0]; rfl
    · rw [cell_of_row _ _ _ _ _ _ hs]
      exact ⟨_, Array.getElem?_eq_getElem (by omega)⟩

theorem start_mach (w1 : World) (sb n : Nat) : Mach (startW w1 sb n) (w1.heap.size + 1) (w1.heap.size + 1 + 1) (w1.heap.size + 1 + 1 + 1) (w1.heap.size + 1 + 1 + 1 + 1) n (fun _ => ⟨#[]⟩) (fun _ => 0) (fun _ => 0) (fun _ => false) := by
  have h1 := startW_1 w1 sb n
  have h2 := startW_2 w1 sb n
  have h3 := startW_3 w1 sb n
  have h4 := startW_4 w1 sb n
  exact ⟨fun k hk => by rw [cell_of_row _ _ _ _ _ _ h1]; exact made_get _ n k hk, fun k hk => by rw [cell_of_row _ _ _ _ _ _ h2]; exact made_get _ n k hk, fun k hk => by rw [cell_of_row _ _ _ _ _ _ h3]; exact made_get _ n k hk, fun k hk => by rw [cell_of_row _ _ _ _ _ _ h4]; exact made_get _ n k hk,
    fun k => frozen_of_row _ _ k _ _ h1, fun k => frozen_of_row _ _ k _ _ h2, fun k => frozen_of_row _ _ k _ _ h3, fun k => frozen_of_row _ _ k _ _ h4, by omega, by omega, by omega, by rw [startW_size]; omega⟩

end Go.Proofs.Qxb6605717a
