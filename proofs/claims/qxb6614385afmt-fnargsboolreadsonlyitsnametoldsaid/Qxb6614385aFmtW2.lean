/-
  Seat b6614385aF: zzArgsOf builds the map that its slices say.
-/
import Derived.Test.Qxb6614385aFmtW1
import Derived.BigRegion
namespace Go.Proofs.Qxb6614385aFmt
open Go.RowKit Go.WideMaps Go.Maps Go.Extern.Stop Go.Stop Go.Extern

/-- Is k among the first i strings? -/
def hasS (sk : List ByteArray) (k : ByteArray) : Nat → Bool
  | 0 => false
  | i + 1 => if sk.getD i ByteArray.empty = k then true else hasS sk k i

/-- The last bool among the first i under k. -/
def lastB (bk : List ByteArray) (bv : List Bool) (k : ByteArray) : Nat → Option Bool
  | 0 => none
  | i + 1 => if bk.getD i ByteArray.empty = k then some (bv.getD i false) else lastB bk bv k i

def gS (sk : List ByteArray) (i : Nat) (k : ByteArray) : Option (Option Bool) := if hasS sk k i then some none else none
def gB (bk : List ByteArray) (bv : List Bool) (sk : List ByteArray) (ns i : Nat) (k : ByteArray) : Option (Option Bool) :=
  match lastB bk bv k i with
  | some r => some (some r)
  | none => gS sk ns k

theorem gS_succ (sk : List ByteArray) (i : Nat) (k : ByteArray) : gS sk (i + 1) k = upd (gS sk i) (sk.getD i ByteArray.empty) none k := by
  unfold upd gS
  rw [hasS]
  by_cases e : k = sk.getD i ByteArray.empty
  · have e' : sk.getD i ByteArray.empty = k := e.symm
    rw [if_pos e', if_pos e, if_pos rfl]
  · have e' : ¬ sk.getD i ByteArray.empty = k := fun h => e h.symm
    rw [if_neg e', if_neg e]

theorem gB_succ (bk : List ByteArray) (bv : List Bool) (sk : List ByteArray) (ns i : Nat) (k : ByteArray) :
    gB bk bv sk ns (i + 1) k = upd (gB bk bv sk ns i) (bk.getD i ByteArray.empty) (some (bv.getD i false)) k := by
  unfold upd gB
  rw [lastB]
  by_cases e : k = bk.getD i ByteArray.empty
  · rw [if_pos e.symm, if_pos e]
  · rw [if_neg (fun h => e h.symm), if_neg e]

/-- 'a[s] = v' -/
theorem OwnA.put {w : World} {b n : Nat} {g : ByteArray → Option (Option Bool)} (h : OwnA w b n g) (hn : n < 1000000) {s : ByteArray} (hs : s.size ≤ maxLen) {val : Value} {d : Option Bool} (hval : Holds val (some d)) :
    ∃ w', (Instr.mapUpdate 45 (.map (some b)) (.string s) val).run Tryf.prog w = .ok () w' ∧ OwnA w' b (n + 1) (upd g s d) ∧ w.grownBy w' (some b) := by
  obtain ⟨D, h1, h2⟩ := h
  obtain ⟨w', hrun, h3, h4⟩ := World.ownsMap.update h1 law map45 (by unfold maxLen; omega) (key_ok hs) (R_mk hval)
  refine ⟨w', hrun, ⟨_, h3, fun k => ?_⟩, h4⟩
  have hD : IsMap D := World.ownsMap.isMap h1
  by_cases e : k = s
  · subst e
    rw [upd, if_pos rfl, has_put_same hD (isKey k), atKey_put_same hD (isKey k)]
    exact ⟨rfl, rfl⟩
  · have ne : keyL k ≠ keyL s := fun h => e (keyL_inj h)
    rw [upd, if_neg e, has_put_other ne, atKey_put_other ne]
    exact h2 k

set_option maxHeartbeats 1600000 in
theorem argsOf_any {w : World} {a1 : Option Addr} {n1 c1 b1 off1 : Nat} {bk : List ByteArray} {a2 : Option Addr} {c2 b2 off2 : Nat} {bv : List Bool} {a3 : Option Addr} {n3 c3 b3 off3 : Nat} {sk : List ByteArray} {a4 : Option Addr} {c4 b4 off4 : Nat} {sv : List ByteArray}
    (h1 : SV w a1 n1 c1 b1 off1 bk) (h2 : BV w a2 n1 c2 b2 off2 bv) (h3 : SV w a3 n3 c3 b3 off3 sk) (h4 : SV w a4 n3 c4 b4 off4 sv) (m1 : n1 ≤ 70000) (m3 : n3 ≤ 70000) :
    Calls Tryf.prog 20 #[.slice a1 n1 c1, .slice a2 n1 c2, .slice a3 n3 c3, .slice a4 n3 c4] w fun e w' => e = .returned (.map (some w.heap.size)) ∧ OwnA w' w.heap.size (n3 + n1) (gB bk bv sk n3 n1) ∧ Below w.heap.size w w' := by
  have i1 := h1.1.idx
  have i2 := h2.idx
  have i3 := h3.1.idx
  have i4 := h4.1.idx
  have hmm := @run_makeMap Tryf.prog
  go_enter Tryf.func20, Tryf.ntmps20
  go_wp2
  go_loopw [10] (fun i wr => ∃ k : Nat, k ≤ n3 ∧ i = .int .i64 k ∧ OwnA wr w.heap.size k (gS sk k) ∧ Below w.heap.size w wr) (fun i _ => n3 - (intOf i).toNat)
  case atStart => exact ⟨0, Nat.zero_le _, rfl, OwnA.made w, (Below.refl _ _).alloc (Nat.le_refl _) _⟩
  case round =>
    obtain ⟨k, hkk, rfl, hok, hbk⟩ := hrel
    by_cases hlt : k < n3
    · obtain ⟨s, hs⟩ : ∃ s, s = sk.getD k ByteArray.empty := ⟨_, rfl⟩
      obtain ⟨t, ht⟩ : ∃ t, t = sv.getD k ByteArray.empty := ⟨_, rfl⟩
      have hsz : s.size ≤ maxLen := by rw [hs]; exact getD_size h3.2 k
      have hc : wr.cell? ⟨b3, off3 + k, none⟩ = some (.string s) := by rw [hs]; exact (h3.below hbk).cell k hlt
      have hc4 : wr.cell? ⟨b4, off4 + k, none⟩ = some (.string t) := by rw [ht]; exact (h4.below hbk).cell k hlt
      obtain ⟨w1, hrun, ho1, hg1⟩ := OwnA.put (w := wr.drew) hok (by omega) hsz (show Holds (.iface 9 (.string t)) (some none) from ⟨t, rfl⟩)
      have HS : Hid (s = sk.getD k ByteArray.empty) := hs
      clear hs ht
      go_wp2
      go_region
      have R1 : OwnA w1 w.heap.size (k + 1) (gS sk (k + 1)) := ho1.ext (fun q => by rw [gS_succ, HS.out])
      have R2 : Below w.heap.size w w1 := hbk.drew.grown hg1 hbk.size (fun j hj => by cases hj; exact Nat.le_refl _)
      clear ho1 hg1 hok hbk hc hc4 hrun
      go_wp2
      go_roundw
      case rel => exact ⟨k + 1, by omega, by go_num, R1, R2⟩
      case measure => simp [intOf]; omega
    · obtain rfl : k = n3 := by omega
      clear h3 h4 i3 i4
      go_wp2
      go_loopw [11] (fun i wr => ∃ q : Nat, q ≤ n1 ∧ i = .int .i64 q ∧ OwnA wr w.heap.size (k + q) (gB bk bv sk k q) ∧ Below w.heap.size w wr) (fun i _ => n1 - (intOf i).toNat)
      case atStart => exact ⟨0, Nat.zero_le _, rfl, hok, hbk⟩
      case round =>
        obtain ⟨q, hqq, rfl, hoq, hbq⟩ := hrel
        by_cases hqlt : q < n1
        · obtain ⟨s, hs⟩ : ∃ s, s = bk.getD q ByteArray.empty := ⟨_, rfl⟩
          obtain ⟨t, ht⟩ : ∃ t, t = bv.getD q false := ⟨_, rfl⟩
          have hsz : s.size ≤ maxLen := by rw [hs]; exact getD_size h1.2 q
          have hc : wr.cell? ⟨b1, off1 + q, none⟩ = some (.string s) := by rw [hs]; exact (h1.below hbq).cell q hqlt
          have hc4 : wr.cell? ⟨b2, off2 + q, none⟩ = some (.bool t) := by rw [ht]; exact (h2.below hbq).cell q hqlt
          obtain ⟨w1, hrun, ho1, hg1⟩ := OwnA.put (w := wr.drew) hoq (by omega) hsz (show Holds (.iface 4 (.bool t)) (some (some t)) from rfl)
          have HS : Hid (s = bk.getD q ByteArray.empty) := hs
          have HT : Hid (t = bv.getD q false) := ht
          clear hs ht
          go_wp2
          go_region
          have R1 : OwnA w1 w.heap.size (k + (q + 1)) (gB bk bv sk k (q + 1)) := ho1.ext (fun q' => by rw [gB_succ, HS.out, HT.out])
          have R2 : Below w.heap.size w w1 := hbq.drew.grown hg1 hbq.size (fun j hj => by cases hj; exact Nat.le_refl _)
          clear ho1 hg1 hoq hbq hc hc4 hrun
          go_wp2
          go_roundw
          case rel => exact ⟨q + 1, by omega, by go_num, R1, R2⟩
          case measure => simp [intOf]; omega
        · obtain rfl : q = n1 := by omega
          go_wp2
          go_ret
          exact ⟨rfl, hoq, hbq⟩

end Go.Proofs.Qxb6614385aFmt
