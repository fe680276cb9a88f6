/-
  Seat b6614191a: unionCount and allTrue.
-/
import Derived.Test.Qxb6614191aW1
namespace Go.Proofs.Qxb6614191a
open Go.RowKit Go.WideMaps Go.Maps

/-- The different strings of ss, each at its first place. -/
def U (ss : List ByteArray) : List Lit := (keysL ss).foldl addKey []

theorem take_snoc (ss : List ByteArray) (k : Nat) (h : k < ss.length) : ss.take (k + 1) = ss.take k ++ [ss.getD k ByteArray.empty] := by
  rw [List.take_succ_eq_append_getElem h, List.getD, List.getElem?_eq_getElem h]; rfl

theorem U_snoc (ss : List ByteArray) (s : ByteArray) : U (ss ++ [s]) = if inL (U ss) (keyL s) then U ss else U ss ++ [keyL s] := by
  unfold U
  rw [keysL_append, List.foldl_append]
  rfl

theorem U_take {P ss : List ByteArray} {k : Nat} (h : k < ss.length) : U (P ++ ss.take (k + 1)) = if inL (U (P ++ ss.take k)) (keyL (ss.getD k ByteArray.empty)) then U (P ++ ss.take k) else U (P ++ ss.take k) ++ [keyL (ss.getD k ByteArray.empty)] := by
  rw [take_snoc ss k h, ← List.append_assoc, U_snoc]

theorem fold_isKeys : ∀ (l acc : List Lit), (∀ x ∈ l, WideAt.IsKeyLit x) → (∀ x ∈ acc, WideAt.IsKeyLit x) → ∀ x ∈ l.foldl addKey acc, WideAt.IsKeyLit x
  | [], _, _, ha => ha
  | y :: r, acc, hl, ha => by
    refine fold_isKeys r (addKey acc y) (fun x hx => hl x (by simp [hx])) ?_
    unfold addKey
    split
    · exact ha
    · intro x hx
      rcases List.mem_append.1 hx with h | h
      · exact ha x h
      · simp at h; subst h; exact hl x (by simp)

theorem U_isKeys (ss : List ByteArray) : ∀ x ∈ U ss, WideAt.IsKeyLit x := fold_isKeys _ _ (isKeys ss) (by simp)

theorem fold_length : ∀ (l acc : List Lit), (l.foldl addKey acc).length ≤ acc.length + l.length
  | [], _ => by simp
  | y :: r, acc => by
    have := fold_length r (addKey acc y)
    have h2 : (addKey acc y).length ≤ acc.length + 1 := by unfold addKey; split <;> simp
    simp only [List.foldl_cons, List.length_cons]
    omega

theorem U_length (ss : List ByteArray) : (U ss).length ≤ ss.length := by
  have := fold_length (keysL ss) []
  rw [keysL_length] at this
  simpa [U] using this

theorem U_take_length (P ss : List ByteArray) (k : Nat) : (U (P ++ ss.take k)).length ≤ P.length + ss.length := by
  have := U_length (P ++ ss.take k)
  have h2 : (ss.take k).length ≤ ss.length := List.length_take_le' _ _
  rw [List.length_append] at this
  omega

theorem getD_size {ss : List ByteArray} (h : ∀ s ∈ ss, s.size ≤ maxLen) (k : Nat) : (ss.getD k ByteArray.empty).size ≤ maxLen := by
  by_cases hk : k < ss.length
  · rw [List.getD, List.getElem?_eq_getElem hk]
    exact h _ (List.getElem_mem hk)
  · rw [List.getD, List.getElem?_eq_none (by omega)]
    exact Nat.zero_le _

set_option maxHeartbeats 800000 in
/-- allTrue on a set that holds every string of ks. -/
theorem allTrue_any {w : World} {a1 : Option Addr} {n1 c1 b1 off1 : Nat} {ss1 : List ByteArray} {b : Nat} {L : List Lit}
    (h1 : SV w a1 n1 c1 b1 off1 ss1) (ho : OwnS w b L) (hk : ∀ x ∈ L, WideAt.IsKeyLit x) (hin : ∀ s ∈ ss1, inL L (keyL s) = true) :
    Calls Try.prog 10 #[.map (some b), .slice a1 n1 c1] w fun e w' => e = .returned (.bool true) ∧ w' = w := by
  have i1 := h1.idx
  have l1 := h1.small
  go_enter Try.func10, Try.ntmps10
  go_wp2
  go_loop [5] (fun i => ∃ k : Nat, k ≤ n1 ∧ i = .int .i64 k) (fun i => n1 - (intOf i).toNat)
  case atStart => exact ⟨0, Nat.zero_le _, rfl⟩
  case round =>
    obtain ⟨k, hkn, rfl⟩ := hrel
    by_cases hlt : k < n1
    · obtain ⟨s, hs⟩ : ∃ s, s = ss1.getD k ByteArray.empty := ⟨_, rfl⟩
      have hc : w.cell? ⟨b1, off1 + k, none⟩ = some (.string s) := by rw [hs]; exact h1.cell k hlt
      have hsz : s.size ≤ maxLen := by rw [hs]; exact getD_size h1.sz k
      have hmem : s ∈ ss1 := by
        have hl : k < ss1.length := by rw [h1.len]; exact hlt
        rw [hs, List.getD, List.getElem?_eq_getElem hl]
        exact List.getElem_mem hl
      have hlook := ho.look2 hk hsz
      rw [hin s hmem] at hlook
      clear hs hsz hmem hin hk h1 ho
      go_wp2
      go_round
      case rel => exact ⟨k + 1, by omega, by go_num⟩
      case measure => simp [intOf]; omega
    · clear hin hk h1 ho
      go_wp2
      go_ret
      exact ⟨rfl, rfl⟩

end Go.Proofs.Qxb6614191a
