/-
  Seat b6614289a: zzSub4's walk.
-/
import Derived.Test.Qxb6614289aX1
namespace Go.Proofs.Qxb6614289a
open Go.RowKit

theorem Z4.step2 {w wr : World} {a b k : Nat} {e : Int} (h : Z4 w a b k wr) (hk : k < 4) (he : e = wdi (subN a b) k) : Z4 w a b (k + 1) (wr.setCell ⟨w.heap.size + 1 + 1 + 1, k, none⟩ (.int .u64 e)).drew.drew := by
  subst he
  exact ((h.step hk).drew).drew

theorem bo_eq {a b k : Nat} {t : Int} (h : t = bW (wdi a k) (wdi b k) (bo a b k)) : Value.int IntKind.u64 t = Value.int IntKind.u64 (bo a b (k + 1)) := by rw [h]; rfl

set_option maxRecDepth 100000 in
set_option maxHeartbeats 1000000 in
theorem sub4_any {a b : Nat} {w : World} (ha : Big a) (hb : Big b) :
    Calls Try.prog 14 #[.agg #[.int .u64 (wd0 a), .int .u64 (wd1 a), .int .u64 (wd2 a), .int .u64 (wd3 a)], .agg #[.int .u64 (wd0 b), .int .u64 (wd1 b), .int .u64 (wd2 b), .int .u64 (wd3 b)]] w fun e w' =>
      e = .returned (.agg #[.int .u64 (wd0 (subN a b)), .int .u64 (wd1 (subN a b)), .int .u64 (wd2 (subN a b)), .int .u64 (wd3 (subN a b))]) ∧ Below w.heap.size w w' := by
  go_enter Try.func14, Try.ntmps14
  go_wp2
  go_loopw [6, 7] (fun t i wr => ∃ k : Nat, k ≤ 4 ∧ t = .int .u64 (bo a b k) ∧ i = .int .i64 k ∧ Z4 w a b k wr) (fun _ i _ => 4 - (intOf i).toNat)
  case atStart => exact ⟨0, by omega, rfl, rfl, Z4.start w a b⟩
  case round =>
    obtain ⟨k, hk, rfl, rfl, hz⟩ := hrel
    by_cases hk4 : k < 4
    · have ca := hz.ca k hk4
      have cb := hz.cb k hk4
      have cz := hz.cz k hk4
      have fz := hz.fz k hk4
      obtain ⟨x0, x1⟩ := word_wdi a k
      obtain ⟨y0, y1⟩ := word_wdi b k
      obtain ⟨z0, z1⟩ := bit_bo a b k
      go_wp2
      go_region
      go_wp2
      go_region
      go_wp2
      · exfalso
        have h1 : IntKind.u64.wrap (wdi a k - wdi b k) < bo a b k := by assumption
        have h2 : wdi a k < wdi b k := by assumption
        rw [IntKind.wrap_u64] at h1
        omega
      all_goals
        go_roundw
        case rel =>
          refine ⟨k + 1, by omega, bo_eq ?_, by go_num, hz.step2 hk4 ?_⟩
          · unfold bW
            split <;> first | rfl | (exfalso; omega)
          · rw [← sub_wdi ha hb hk4]
            unfold sW
            first
            | omega
            | (rw [IntKind.wrap_u64]; omega)
            | (rw [IntKind.wrap_u64, IntKind.wrap_u64]; omega)
            | (rw [IntKind.wrap_u64, IntKind.wrap_u64])
            | rw [IntKind.wrap_u64]
        case measure => simp [intOf]; omega
    · have e4 : k = 4 := by omega
      subst e4
      have r0 := hz.cr 0 (by omega)
      have r1 := hz.cr 1 (by omega)
      have r2 := hz.cr 2 (by omega)
      have r3 := hz.cr 3 (by omega)
      have s0 := hz.fr 0 (by omega)
      have s1 := hz.fr 1 (by omega)
      have s2 := hz.fr 2 (by omega)
      have s3 := hz.fr 3 (by omega)
      have z0 : wr.cell? ⟨w.heap.size + 1 + 1 + 1, 0, none⟩ = some (.int .u64 (wd0 (subN a b))) := hz.cz 0 (by omega)
      have z1 : wr.cell? ⟨w.heap.size + 1 + 1 + 1, 1, none⟩ = some (.int .u64 (wd1 (subN a b))) := hz.cz 1 (by omega)
      have z2 : wr.cell? ⟨w.heap.size + 1 + 1 + 1, 2, none⟩ = some (.int .u64 (wd2 (subN a b))) := hz.cz 2 (by omega)
      have z3 : wr.cell? ⟨w.heap.size + 1 + 1 + 1, 3, none⟩ = some (.int .u64 (wd3 (subN a b))) := hz.cz 3 (by omega)
      have hlow := hz.low
      clear hz
      go_wp2
      exact bodyPost_ret (v := .agg #[.int .u64 (wd0 (subN a b)), .int .u64 (wd1 (subN a b)), .int .u64 (wd2 (subN a b)), .int .u64 (wd3 (subN a b))]) (by simp [results, Try.results14, go_sem, r0, r1, r2, r3]) rfl ⟨rfl, below_set4 hlow (by omega) _ _ _ _⟩
end Go.Proofs.Qxb6614289a
