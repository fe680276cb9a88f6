/-
  Seat b6614385aF: the slices as the walks see them; the laws on the call's own map[string]any.
-/
import Derived.Test.Qxb6614385aFmtRows
import Derived.Test.Qxb6614385aFmtFacts
import Derived.WalkKit
import Derived.WalkSpells
import Derived.WalkLawsBesides
import Derived.Maps.OwnSet
namespace Go.Proofs.Qxb6614385aFmt
open Go.RowKit Go.WideMaps Go.Maps

/-- A slice (its type: t) of one-cell elements: its k-th element lies at block b, offset off + k. -/
structure GV (t : TypeId) (w : World) (a : Option Addr) (n c b off : Nat) (vs : List Value) : Prop where
  len : vs.length = n
  idx : ∀ (k : Nat) (w : World), k < n → (Instr.indexAt t (.slice a n c) (.int .i64 (k : Int))).run Tryf.prog w = .ok (.pointer (some ⟨b, off + k, none⟩)) w
  cell : ∀ k v, vs[k]? = some v → w.cell? ⟨b, off + k, none⟩ = some v
  low : 0 < n → b < w.heap.size
  small : n ≤ 140737488351232
  nil : a = none → n = 0
  adr : 0 < n → a = some ⟨b, off, none⟩

theorem GV.below {t : TypeId} {w w' : World} {a : Option Addr} {n c b off : Nat} {vs : List Value} (h : GV t w a n c b off vs) (hb : Below w.heap.size w w') : GV t w' a n c b off vs := by
  refine ⟨h.len, h.idx, fun k v hk => ?_, fun hn => Nat.lt_of_lt_of_le (h.low hn) hb.size, h.small, h.nil, h.adr⟩
  have hl : k < n := by rw [← h.len]; exact (List.getElem?_eq_some_iff.1 hk).1
  exact (hb.cell (p := ⟨b, off + k, none⟩) (h.low (by omega))).trans (h.cell k v hk)

/-- A slice of strings. -/
def SV (w : World) (a : Option Addr) (n c b off : Nat) (ss : List ByteArray) : Prop := GV 22 w a n c b off (ss.map .string) ∧ ∀ s ∈ ss, s.size ≤ maxLen
/-- A slice of bools. -/
def BV (w : World) (a : Option Addr) (n c b off : Nat) (bs : List Bool) : Prop := GV 23 w a n c b off (bs.map .bool)

theorem SV.below {w w' : World} {a : Option Addr} {n c b off : Nat} {ss : List ByteArray} (h : SV w a n c b off ss) (hb : Below w.heap.size w w') : SV w' a n c b off ss := ⟨h.1.below hb, h.2⟩
theorem BV.below {w w' : World} {a : Option Addr} {n c b off : Nat} {ss : List Bool} (h : BV w a n c b off ss) (hb : Below w.heap.size w w') : BV w' a n c b off ss := GV.below h hb

theorem SV.len {w : World} {a : Option Addr} {n c b off : Nat} {ss : List ByteArray} (h : SV w a n c b off ss) : ss.length = n := by simpa using h.1.len
theorem BV.len {w : World} {a : Option Addr} {n c b off : Nat} {ss : List Bool} (h : BV w a n c b off ss) : ss.length = n := by simpa using GV.len h
theorem SV.cell {w : World} {a : Option Addr} {n c b off : Nat} {ss : List ByteArray} (h : SV w a n c b off ss) (k : Nat) (hk : k < n) : w.cell? ⟨b, off + k, none⟩ = some (.string (ss.getD k ByteArray.empty)) := by
  refine h.1.cell k _ ?_
  have := h.len
  rw [List.getElem?_map, List.getElem?_eq_getElem (by omega)]
  simp [List.getD, List.getElem?_eq_getElem (show k < ss.length by omega)]
theorem BV.cell {w : World} {a : Option Addr} {n c b off : Nat} {ss : List Bool} (h : BV w a n c b off ss) (k : Nat) (hk : k < n) : w.cell? ⟨b, off + k, none⟩ = some (.bool (ss.getD k false)) := by
  refine GV.cell h k _ ?_
  have := h.len
  rw [List.getElem?_map, List.getElem?_eq_getElem (by omega)]
  simp [List.getD, List.getElem?_eq_getElem (show k < ss.length by omega)]

theorem getD_size {ss : List ByteArray} (h : ∀ s ∈ ss, s.size ≤ maxLen) (k : Nat) : (ss.getD k ByteArray.empty).size ≤ maxLen := by
  by_cases hk : k < ss.length
  · rw [List.getD, List.getElem?_eq_getElem hk]; exact h _ (List.getElem_mem hk)
  · rw [List.getD, List.getElem?_eq_none (by omega)]; exact Nat.zero_le _

/-- A string as a key. -/
def keyL (s : ByteArray) : Lit := .string s.data.toList
theorem isKey (s : ByteArray) : WideAt.IsKeyLit (keyL s) := by simp [keyL, WideAt.IsKeyLit]
theorem keyL_inj {s t : ByteArray} (h : keyL s = keyL t) : s = t := by
  unfold keyL at h
  injection h with h
  cases s; cases t
  simp at h
  rw [h]

theorem law : Keyed Tryf.prog 9 := string_keyed Tryf.underlying9
theorem key_ok {s : ByteArray} (h : s.size ≤ maxLen) : keyOf Tryf.prog 9 (.string s) = some (keyL s) := keyOf_string_mk Tryf.underlying9 h
theorem zero20 (w : World) : (zeroValue 20).run Tryf.prog w = .ok .nilIface w := by kernel_rfl
theorem map45 : Tryf.prog.underlying 45 = some (.map 9 20) := by kernel_rfl

/-- How a member reads: a bool as itself, a string by a mark, nothing as nil. -/
def R : Value → Option (DataW Unit × List MemPlace)
  | .iface 4 (.bool b) => some (.lit (.bool b), [])
  | .iface 9 (.string _) => some (.agg [], [])
  | .nilIface => some (.nil, [])
  | _ => none

/-- What lies under a key: nothing; a string; a bool. -/
def datum : Option (Option Bool) → DataW Unit
  | none => .nil
  | some none => .agg []
  | some (some b) => .lit (.bool b)

/-- A value that reads so. -/
def Holds (v : Value) : Option (Option Bool) → Prop
  | none => v = .nilIface
  | some none => ∃ s, v = .iface 9 (.string s)
  | some (some b) => v = .iface 4 (.bool b)

theorem R_inv {v : Value} {ps : List MemPlace} (x : Option (Option Bool)) (h : R v = some (datum x, ps)) : Holds v x := by
  unfold R at h
  split at h <;> rcases x with _ | _ | b <;> simp [datum] at h <;> simp [Holds, *]

theorem R_mk {v : Value} {x : Option (Option Bool)} (h : Holds v x) : R v = some (datum x, []) := by
  rcases x with _ | _ | b
  · rw [h]; rfl
  · obtain ⟨s, rfl⟩ := h; rfl
  · rw [h]; rfl

/-- Block b is a map[string]any of at most n entries; what lies under each string: g. -/
def OwnA (w : World) (b n : Nat) (g : ByteArray → Option (Option Bool)) : Prop :=
  ∃ D, w.ownsMap Tryf.prog 9 R b n D ∧ ∀ k, Maps.has D (keyL k) = (g k).isSome ∧ D.atKey (keyL k) .nil = datum (g k)

theorem OwnA.made (w : World) : OwnA (w.alloc (.map #[] 0)) w.heap.size 0 (fun _ => none) :=
  ⟨_, World.ownsMap_made _ _ _ _, fun _ => ⟨rfl, rfl⟩⟩

theorem OwnA.lt {w : World} {b n : Nat} {g : ByteArray → Option (Option Bool)} (h : OwnA w b n g) : b < w.heap.size := by
  obtain ⟨D, h, _⟩ := h
  exact World.ownsMap.lt h

theorem OwnA.ext {w : World} {b n : Nat} {g g' : ByteArray → Option (Option Bool)} (h : OwnA w b n g) (e : ∀ k, g' k = g k) : OwnA w b n g' := by
  obtain rfl : g' = g := funext e
  exact h

theorem OwnA.block {w w' : World} {b n : Nat} {g : ByteArray → Option (Option Bool)} (h : OwnA w b n g) (hb : w'.heap[b]? = w.heap[b]?) : OwnA w' b n g := by
  obtain ⟨D, ⟨es, clock, h1, r⟩, h2⟩ := h
  exact ⟨D, ⟨es, clock, hb.trans h1, r⟩, h2⟩

/-- 'v, ok := a[name]' -/
theorem OwnA.look {w : World} {b n : Nat} {g : ByteArray → Option (Option Bool)} (h : OwnA w b n g) {s : ByteArray} (hs : s.size ≤ maxLen) :
    ∃ v, (Instr.lookup 45 (.map (some b)) (.string s) true).run Tryf.prog w = .ok (.tuple #[v, .bool (g s).isSome]) w ∧ Holds v (g s) := by
  obtain ⟨D, h1, h2⟩ := h
  obtain ⟨v, ps, hrun, hv⟩ := World.ownsMap.look_ok h1 law map45 (zero20 w) (show R .nilIface = some (.nil, []) from rfl) (key_ok hs)
  rw [(h2 s).2] at hv
  rw [(h2 s).1] at hrun
  exact ⟨v, hrun, R_inv _ hv⟩

/-- g, but d under s. -/
def upd (g : ByteArray → Option (Option Bool)) (s : ByteArray) (d : Option Bool) (k : ByteArray) : Option (Option Bool) := if k = s then some d else g k

/-- 'a[s] = v' at the operation. -/
theorem wpList_put (w : World) {ops : Array Oper} {rest : List Oper} {o : Oper} {a : Act} {Q : Exit → Act → World → Prop}
    (hg : o.guard = none) (m x v : Operand) (hop : o.op = Op.mapUpdate 45 m x v) (b n : Nat) (g : ByteArray → Option (Option Bool))
    (hm : a.eval m = .map (some b)) (hown : OwnA w b n g) (hn : n < 1000000) (s : ByteArray) (val : Value) (hx : a.eval x = .string s) (hv : a.eval v = val) (hs : s.size ≤ maxLen)
    (d : Option Bool) (hval : Holds val (some d))
    (hK : ∀ w', OwnA w' b (n + 1) (upd g s d) → w.grownBy w' (some b) → wpList Tryf.prog ops Q rest (a.put o.dst undef) w') :
    wpList Tryf.prog ops Q (o :: rest) a w := by
  obtain ⟨D, h1, h2⟩ := hown
  refine wpList_mapUpdate_own w hg m x v 45 hop 9 20 law map45 _ b n D hm h1 (by unfold maxLen; omega) _ _ (keyL s) hx hv (key_ok hs) (datum (some d)) [] (R_mk hval) ?_
  intro w' h3 h4
  refine hK w' ⟨_, h3, fun k => ?_⟩ h4
  have hD : IsMap D := World.ownsMap.isMap h1
  by_cases e : k = s
  · subst e
    rw [upd, if_pos rfl, has_put_same hD (isKey k), atKey_put_same hD (isKey k)]
    exact ⟨rfl, rfl⟩
  · have ne : keyL k ≠ keyL s := fun h => e (keyL_inj h)
    rw [upd, if_neg e, has_put_other ne, atKey_put_other ne]
    exact h2 k

end Go.Proofs.Qxb6614385aFmt
