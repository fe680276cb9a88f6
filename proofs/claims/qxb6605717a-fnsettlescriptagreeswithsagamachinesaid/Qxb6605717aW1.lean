/-
  Seat b6605717a: (*Record).next.
-/
import Derived.Test.Qxb6605717aBase
namespace Go.Proofs.Qxb6605717a
open Go.RowKit

/-- next returns some position, and ok is c. -/
def NextIs (e : Ending) (c : Bool) : Prop := ∃ i : Int, e = .returned (.tuple #[.int .i64 i, .bool c])
theorem NextIs.mk {c d : Bool} (i : Int) (h : c = d) : NextIs (.returned (.tuple #[.int .i64 i, .bool d])) c := ⟨i, by rw [h]⟩

set_option maxHeartbeats 800000 in
theorem next_fwd {w : World} {rb sb n : Nat} {status dir : ByteArray} {st : Nat → ByteArray} {att catt : Nat → Int} {cmp : Nat → Option Addr} {snt : Nat → Bool} (h : Rec w rb sb n status dir st att catt cmp snt) (hd : dir = ⟨#[102, 111, 114, 119, 97, 114, 100]⟩) (hn : n ≤ 4096) {c : Bool} (hC : Hid (c = true ↔ ∃ k, k < n ∧ st k ≠ ⟨#[83, 85, 67, 67, 69, 69, 68, 69, 68]⟩)) :
    Calls Try.prog 11 #[.pointer (some ⟨rb, 0, none⟩)] w fun e w' => NextIs e c ∧ Below w.heap.size w w' := by
  have cD := h.cD
  have cL := h.cL
  rw [hd] at cD
  have ix := fun k w => idx27 sb n k w
  go_enter Try.func11, Try.ntmps11
  go_wp2
  go_loopw [2, 3, 6, 7, 53] (fun a b c d i wr => ∃ k : Nat, k ≤ n ∧ i = .int .i64 k ∧ Below w.heap.size w wr ∧ Hid (∀ j, j < k → st j = ⟨#[83, 85, 67, 67, 69, 69, 68, 69, 68]⟩)) (fun _ _ _ _ i _ => n - (intOf i).toNat)
  case atStart => exact ⟨0, Nat.zero_le _, rfl, Below.refl _ _, fun j h => absurd h (by omega)⟩
  case round =>
    obtain ⟨k, hk, rfl, hb, hH⟩ := hrel
    by_cases hlt : k < n
    · obtain ⟨y, hy⟩ : ∃ y, y = st k := ⟨_, rfl⟩
      obtain ⟨g, hg⟩ : ∃ g, g = cmp k := ⟨_, rfl⟩
      obtain ⟨z, hz⟩ : ∃ z, z = snt k := ⟨_, rfl⟩
      have d0 := (h.below hb).c0 k hlt
      have d1 : wr.cell? ⟨sb, 10 * k + 1, none⟩ = some (.string y) := by rw [hy]; exact (h.below hb).c1 k hlt
      have d2 := (h.below hb).c2 k hlt
      have d3 := (h.below hb).c3 k hlt
      have d4 := (h.below hb).c4 k hlt
      have d5 := (h.below hb).c5 k hlt
      have d6 := (h.below hb).c6 k hlt
      have d7 := (h.below hb).c7 k hlt
      have d8 : wr.cell? ⟨sb, 10 * k + 8, none⟩ = some (.pointer g) := by rw [hg]; exact (h.below hb).c8 k hlt
      have d9 : wr.cell? ⟨sb, 10 * k + 9, none⟩ = some (.bool z) := by rw [hz]; exact (h.below hb).c9 k hlt
      have dL := (h.below hb).cL
      have HY : Hid (y = st k) := hy
      clear hy hg hz
      by_cases e : y = ⟨#[83, 85, 67, 67, 69, 69, 68, 69, 68]⟩
      · have eb := beq_tt e
        have HE : Hid (y = ⟨#[83, 85, 67, 67, 69, 69, 68, 69, 68]⟩) := e
        clear e
        have hH2 : Hid (∀ j, j < k + 1 → st j = ⟨#[83, 85, 67, 67, 69, 69, 68, 69, 68]⟩) := fun j hj => by
          by_cases e : j = k
          · rw [e, ← HY.out]; exact HE.out
          · exact hH.out j (by omega)
        have hb2 := hb.size
        go_wp2
        go_roundw
        case rel => exact ⟨k + 1, by omega, by go_num, hb.alloc hb2 _, hH2⟩
        case measure => simp [intOf]; omega
      · have eb := beq_ff e
        have HE : Hid (c = true) := hC.out.2 ⟨k, hlt, by rw [← HY.out]; exact e⟩
        clear e
        have hb2 := hb.size
        go_wp2
        go_ret2
        exact ⟨NextIs.mk _ HE.out, hb.alloc hb2 _⟩
    · have HE : Hid (c = false) := show _ = _ by
        cases hc : c
        · rfl
        · obtain ⟨j, hj, hne⟩ := hC.out.1 hc
          exact absurd (hH.out j (by omega)) hne
      go_wp2
      go_ret2
      exact ⟨NextIs.mk _ HE.out, hb⟩

theorem neq40 (w : World) (p : Option Addr) : (binOp .neq 40 (.pointer p) (.pointer none)).run Try.prog w = .ok (.bool p.isSome) w := by
  cases p <;> kernel_rfl

set_option maxHeartbeats 800000 in
theorem next_back {w : World} {rb sb n : Nat} {status dir : ByteArray} {st : Nat → ByteArray} {att catt : Nat → Int} {cmp : Nat → Option Addr} {snt : Nat → Bool} (h : Rec w rb sb n status dir st att catt cmp snt) (hd : dir = ⟨#[98, 97, 99, 107, 119, 97, 114, 100]⟩) (hn : n ≤ 4096) (hT : Hid (∀ k, k < n → st k ≠ ⟨#[84, 73, 77, 69, 68, 95, 79, 85, 84]⟩)) {c : Bool} (hC : Hid (c = true ↔ ∃ k, k < n ∧ st k = ⟨#[83, 85, 67, 67, 69, 69, 68, 69, 68]⟩ ∧ (cmp k).isSome = true)) :
    Calls Try.prog 11 #[.pointer (some ⟨rb, 0, none⟩)] w fun e w' => NextIs e c ∧ Below w.heap.size w w' := by
  have cD := h.cD
  have cL := h.cL
  rw [hd] at cD
  have ix := fun k w => idx27 sb n k w
  have q40 := neq40
  go_enter Try.func11, Try.ntmps11
  go_wp2
  go_loopw [2, 3, 4, 5] (fun a b i d wr => ∃ k : Nat, k ≤ n ∧ i = .int .i64 ((k : Int) - 1) ∧ Below w.heap.size w wr ∧ Hid (∀ j, k ≤ j → j < n → ¬ (st j = ⟨#[83, 85, 67, 67, 69, 69, 68, 69, 68]⟩ ∧ (cmp j).isSome = true))) (fun _ _ i _ _ => (intOf i + 1).toNat)
  case atStart => exact ⟨n, Nat.le_refl _, rfl, Below.refl _ _, fun j h h' => absurd h (by omega)⟩
  case round =>
    obtain ⟨k0, hk, rfl, hb, hH⟩ := hrel
    rcases k0 with _ | k
    · have e0 : ((0 : Nat) : Int) - 1 = -1 := rfl
      rw [e0]
      clear e0
      have HE : Hid (c = false) := show _ = _ by
        cases hc : c
        · rfl
        · obtain ⟨j, hj, hne⟩ := hC.out.1 hc
          exact absurd hne (hH.out j (by omega) hj)
      go_wp2
      go_ret2
      exact ⟨NextIs.mk _ HE.out, hb⟩
    · have e0 : ((k + 1 : Nat) : Int) - 1 = (k : Int) := by omega
      rw [e0]
      clear e0
      have hlt : k < n := by omega
      obtain ⟨y, hy⟩ : ∃ y, y = st k := ⟨_, rfl⟩
      obtain ⟨g, hg⟩ : ∃ g, g = cmp k := ⟨_, rfl⟩
      obtain ⟨z, hz⟩ : ∃ z, z = snt k := ⟨_, rfl⟩
      have d0 := (h.below hb).c0 k hlt
      have d1 : wr.cell? ⟨sb, 10 * k + 1, none⟩ = some (.string y) := by rw [hy]; exact (h.below hb).c1 k hlt
      have d2 := (h.below hb).c2 k hlt
      have d3 := (h.below hb).c3 k hlt
      have d4 := (h.below hb).c4 k hlt
      have d5 := (h.below hb).c5 k hlt
      have d6 := (h.below hb).c6 k hlt
      have d7 := (h.below hb).c7 k hlt
      have d8 : wr.cell? ⟨sb, 10 * k + 8, none⟩ = some (.pointer g) := by rw [hg]; exact (h.below hb).c8 k hlt
      have d9 : wr.cell? ⟨sb, 10 * k + 9, none⟩ = some (.bool z) := by rw [hz]; exact (h.below hb).c9 k hlt
      have dL := (h.below hb).cL
      have HY : Hid (y = st k) := hy
      have HG : Hid (g = cmp k) := hg
      have et := beq_ff (show ¬ y = ⟨#[84, 73, 77, 69, 68, 95, 79, 85, 84]⟩ by rw [hy]; exact hT.out k hlt)
      clear hy hg hz
      have hb2 := hb.size
      by_cases e : y = ⟨#[83, 85, 67, 67, 69, 69, 68, 69, 68]⟩
      · have eb := beq_tt e
        have HE : Hid (y = ⟨#[83, 85, 67, 67, 69, 69, 68, 69, 68]⟩) := e
        clear e
        cases hs : g.isSome
        · have hH2 : Hid (∀ j, k ≤ j → j < n → ¬ (st j = ⟨#[83, 85, 67, 67, 69, 69, 68, 69, 68]⟩ ∧ (cmp j).isSome = true)) := fun j hj hjn => by
            by_cases e : j = k
            · rw [e, ← HG.out, hs]; simp
            · exact hH.out j (by omega) hjn
          go_wp2
          go_roundw
          case rel => exact ⟨k, by omega, rfl, hb.alloc hb2 _, hH2⟩
          case measure => simp [intOf]
        · have HF : Hid (c = true) := hC.out.2 ⟨k, hlt, by rw [← HY.out]; exact HE.out, by rw [← HG.out]; exact hs⟩
          go_wp2
          go_ret2
          exact ⟨NextIs.mk _ HF.out, hb.alloc hb2 _⟩
      · have eb := beq_ff e
        have hH2 : Hid (∀ j, k ≤ j → j < n → ¬ (st j = ⟨#[83, 85, 67, 67, 69, 69, 68, 69, 68]⟩ ∧ (cmp j).isSome = true)) := fun j hj hjn => by
          by_cases e' : j = k
          · rw [e', ← HY.out]; exact fun h => e h.1
          · exact hH.out j (by omega) hjn
        clear e
        go_wp2
        go_roundw
        case rel => exact ⟨k, by omega, rfl, hb.alloc hb2 _, hH2⟩
        case measure => simp [intOf]

end Go.Proofs.Qxb6605717a
