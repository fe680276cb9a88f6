/-
  Seat b6614191a (tideline): the slices of strings as the walks see them; the laws on the call's own set of strings (map[string]bool).
-/
import Derived.Test.Qxb6614191aRows
import Derived.WalkKit
import Derived.WalkSpells
import Derived.WalkLawsBesides
import Derived.Maps.OwnSet
namespace Go.Proofs.Qxb6614191a
open Go.RowKit Go.WideMaps Go.Maps

/-- A slice of strings among the arguments: its k-th string lies at block b, offset off + k. -/
structure SV (w : World) (a : Option Addr) (n c b off : Nat) (ss : List ByteArray) : Prop where
  len : ss.length = n
  idx : ∀ (k : Nat) (w : World), k < n → (Instr.indexAt 22 (.slice a n c) (.int .i64 (k : Int))).run Try.prog w = .ok (.pointer (some ⟨b, off + k, none⟩)) w
  cell : ∀ k, k < n → w.cell? ⟨b, off + k, none⟩ = some (.string (ss.getD k ByteArray.empty))
  low : 0 < n → b < w.heap.size
  sz : ∀ s ∈ ss, s.size ≤ maxLen
  small : n ≤ 140737488351232
  nil : a = none → n = 0

theorem SV.below {w w' : World} {a : Option Addr} {n c b off : Nat} {ss : List ByteArray} (h : SV w a n c b off ss) (hb : Below w.heap.size w w') : SV w' a n c b off ss :=
  ⟨h.len, h.idx, fun k hk => (hb.cell (p := ⟨b, off + k, none⟩) (h.low (by omega))).trans (h.cell k hk), fun hn => Nat.lt_of_lt_of_le (h.low hn) hb.size, h.sz, h.small, h.nil⟩

theorem SV.belowB {w w' w0 : World} {B : Nat} {a : Option Addr} {n c b off : Nat} {ss : List ByteArray} (h : SV w0 a n c b off ss) (hB : w0.heap.size ≤ B) (hw0 : Below w0.heap.size w0 w) (hb : Below B w w') : SV w' a n c b off ss :=
  h.below (hw0.trans (hb.mono hB))

/-- The nil slice. -/
theorem SV.ofNil (w : World) (c : Nat) : SV w none 0 c 0 0 [] :=
  ⟨rfl, fun _ _ h => absurd h (by omega), fun _ h => absurd h (by omega), fun h => absurd h (by omega), fun _ h => absurd h (by simp), by omega, fun _ => rfl⟩

/-- A string as a key. -/
def keyL (s : ByteArray) : Lit := .string s.data.toList
def keysL (ss : List ByteArray) : List Lit := ss.map keyL
theorem keysL_append (a b : List ByteArray) : keysL (a ++ b) = keysL a ++ keysL b := by simp [keysL]
theorem keysL_length (a : List ByteArray) : (keysL a).length = a.length := by simp [keysL]

theorem isKey (s : ByteArray) : WideAt.IsKeyLit (keyL s) := by simp [keyL, WideAt.IsKeyLit]
theorem isKeys (ss : List ByteArray) : ∀ x ∈ keysL ss, WideAt.IsKeyLit x := by
  intro x hx
  obtain ⟨s, _, rfl⟩ := List.mem_map.1 hx
  exact isKey s

theorem law : Keyed Try.prog 9 := string_keyed Try.underlying9
theorem zero4 (w : World) : (zeroValue 4).run Try.prog w = .ok (.bool false) w := by kernel_rfl

/-- 'true' as a datum. -/
def TT : DataW Unit := .lit (.bool true)
def FF : DataW Unit := .lit (.bool false)
/-- Block b is a map[string]bool whose keys are just those of L, each true. -/
def OwnS (w : World) (b : Nat) (L : List Lit) : Prop := w.ownsMap Try.prog 9 (plainElem (H := Unit) Try.prog 4) b L.length (setOf TT L)

theorem key_ok {s : ByteArray} (h : s.size ≤ maxLen) : keyOf Try.prog 9 (.string s) = some (keyL s) := keyOf_string_mk Try.underlying9 h

/-- Is the key among L? -/
def inL (L : List Lit) (k : Lit) : Bool := L.any (fun x => x.sameKey k)

theorem inL_append (L M : List Lit) (k : Lit) : inL (L ++ M) k = (inL L k || inL M k) := by simp [inL]

theorem atKey_fold (k : Lit) : ∀ (acc : List Lit) (m : DataW Unit), IsMap m → (∀ x ∈ acc, WideAt.IsKeyLit x) →
    (acc.foldl (fun m x => m.put x TT) m).atKey k FF = if inL acc k then TT else m.atKey k FF
  | [], m, _, _ => by simp [inL]
  | x :: r, m, hm, h => by
    rw [List.foldl_cons, atKey_fold k r (m.put x TT) (hm.put x TT) (fun y hy => h y (by simp [hy]))]
    by_cases e : k = x
    · subst e
      rw [atKey_put_same hm (h k (by simp))]
      simp [inL, WideAt.sameKey_self (h k (by simp))]
    · rw [atKey_put_other e]
      simp [inL, sameKey_ne (fun e' => e e'.symm)]

theorem atKey_setOf (k : Lit) (acc : List Lit) (h : ∀ x ∈ acc, WideAt.IsKeyLit x) : (setOf TT acc).atKey k FF = .lit (.bool (inL acc k)) := by
  rw [setOf, atKey_fold k acc _ isMap_empty h]
  cases inL acc k <;> rfl

theorem plainElem_bool_inv {P : Program} {e : TypeId} (he : P.underlying e = some .bool) {v : Value} {z : DataW Unit × List MemPlace} (h : plainElem P e v = some z) : ∃ a, v = .bool a ∧ z = (.lit (.bool a), []) := by
  unfold plainElem at h
  rw [he] at h
  cases v <;> simp at h
  exact ⟨_, rfl, h.symm⟩

theorem OwnS.made (w : World) : OwnS (w.alloc (.map #[] 0)) w.heap.size [] := World.ownsMap_made _ _ _ _

theorem OwnS.lt {w : World} {b : Nat} {L : List Lit} (h : OwnS w b L) : b < w.heap.size := World.ownsMap.lt h

theorem OwnS.block {w w' : World} {b : Nat} {L : List Lit} (h : OwnS w b L) (hb : w'.heap[b]? = w.heap[b]?) : OwnS w' b L := by
  obtain ⟨es, clock, h1, r⟩ := h
  exact ⟨es, clock, hb.trans h1, r⟩

theorem OwnS.size {w : World} {b : Nat} {L : List Lit} (_h : OwnS w b L) (hk : ∀ x ∈ L, WideAt.IsKeyLit x) : Maps.size (setOf TT L) = (L.foldl addKey []).length := size_setOf TT L hk

/-- 'm[k]' -/
theorem OwnS.look {w : World} {b : Nat} {L : List Lit} (h : OwnS w b L) (hk : ∀ x ∈ L, WideAt.IsKeyLit x) {s : ByteArray} (hs : s.size ≤ maxLen) :
    (Instr.lookup 24 (.map (some b)) (.string s) false).run Try.prog w = .ok (.bool (inL L (keyL s))) w := by
  obtain ⟨v, ps, hrun, hv⟩ := World.ownsMap.lookup h law Try.underlying24 (zero4 w) (plainElem_bool Try.underlying4 false) (key_ok hs)
  obtain ⟨a, rfl, e⟩ := plainElem_bool_inv Try.underlying4 hv
  have e1 := congrArg Prod.fst e
  have e2 := atKey_setOf (keyL s) L hk
  rw [FF] at e2
  simp only [e2] at e1
  injection e1 with e1; injection e1 with e1
  rw [hrun, e1]

/-- 'v, ok := m[k]' -/
theorem OwnS.look2 {w : World} {b : Nat} {L : List Lit} (h : OwnS w b L) (hk : ∀ x ∈ L, WideAt.IsKeyLit x) {s : ByteArray} (hs : s.size ≤ maxLen) :
    (Instr.lookup 24 (.map (some b)) (.string s) true).run Try.prog w = .ok (.tuple #[.bool (inL L (keyL s)), .bool (inL L (keyL s))]) w := by
  obtain ⟨v, ps, hrun, hv⟩ := World.ownsMap.look_ok h law Try.underlying24 (zero4 w) (plainElem_bool Try.underlying4 false) (key_ok hs)
  obtain ⟨a, rfl, e⟩ := plainElem_bool_inv Try.underlying4 hv
  have e1 := congrArg Prod.fst e
  have e2 := atKey_setOf (keyL s) L hk
  rw [FF] at e2
  simp only [e2] at e1
  injection e1 with e1; injection e1 with e1
  subst e1
  rw [hrun, has_setOf TT (keyL s) L hk]
  rfl

/-- 'len(m)' -/
theorem OwnS.len {w : World} {b : Nat} {L : List Lit} (h : OwnS w b L) (hk : ∀ x ∈ L, WideAt.IsKeyLit x) (ty : TypeId) :
    (Builtin.len_ #[24] ty #[.map (some b)]).run Try.prog w = .ok (.int .i64 ((L.foldl addKey []).length : Nat)) w := by
  rw [World.ownsMap.len h Try.underlying24 ty, size_setOf TT L hk]

/-- w' is w with new blocks, and with writes to the blocks of S alone. -/
structure Touch (w w' : World) (S : Nat → Prop) : Prop where
  os : w'.os = w.os
  tape : w'.tape = w.tape
  output : w'.output = w.output
  size : w.heap.size ≤ w'.heap.size
  block : ∀ k, k < w.heap.size → ¬ S k → w'.heap[k]? = w.heap[k]?

/-- 'm[k] = true' at the operation. -/
theorem wpList_put (w : World) {ops : Array Oper} {rest : List Oper} {o : Oper} {a : Act} {Q : Exit → Act → World → Prop}
    (hg : o.guard = none) (m x v : Operand) (hop : o.op = Op.mapUpdate 24 m x v) (b : Nat) (L : List Lit)
    (hm : a.eval m = .map (some b)) (hown : OwnS w b L) (hn : L.length < 1000000) (s : ByteArray) (hx : a.eval x = .string s) (hv : a.eval v = .bool true) (hs : s.size ≤ maxLen)
    (hK : ∀ w', OwnS w' b (L ++ [keyL s]) → w.grownBy w' (some b) → wpList Try.prog ops Q rest (a.put o.dst undef) w') :
    wpList Try.prog ops Q (o :: rest) a w := by
  refine wpList_mapUpdate_own w hg m x v 24 hop 9 4 law Try.underlying24 _ b L.length _ hm hown (by unfold maxLen; omega) _ _ (keyL s) hx hv (key_ok hs) TT [] (plainElem_bool Try.underlying4 true) ?_
  intro w' h1 h2
  refine hK w' ?_ h2
  unfold OwnS
  rw [setOf_snoc, List.length_append]
  exact h1

end Go.Proofs.Qxb6614191a
