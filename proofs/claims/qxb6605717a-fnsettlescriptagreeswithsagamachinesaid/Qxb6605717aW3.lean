/-
  Seat b6605717a: settle, by its direction and the answer's class.
-/
import Derived.Test.Qxb6605717aW2
namespace Go.Proofs.Qxb6605717a
open Go.RowKit

set_option maxHeartbeats 1600000 in
theorem settle_F0 {w : World} {rb sb n : Nat} {status dir : ByteArray} {st : Nat → ByteArray} {att catt : Nat → Int} {cmp : Nat → Option Addr} {snt : Nat → Bool} (h : Rec w rb sb n status dir st att catt cmp snt) (hd : dir = ⟨#[102, 111, 114, 119, 97, 114, 100]⟩)  {p : Nat} (hp : p < n) (hA : 0 ≤ att p ∧ att p < 1000000)  (sent : Bool) :
    Calls Try.prog 9 #[.pointer (some ⟨rb, 0, none⟩), .int .i64 p, .int .i64 0, .bool sent] w fun e w' => e = .returned (.tuple #[]) ∧ Rec w' rb sb n ⟨#[70, 65, 73, 76, 69, 68, 95, 87, 73, 84, 72, 95, 82, 69, 84, 82, 89, 65, 66, 76, 69, 95, 69, 82, 82, 79, 82]⟩ ⟨#[102, 111, 114, 119, 97, 114, 100]⟩ st (upd att p (att p + 1)) catt cmp (upd snt p (snt p || sent)) ∧ Tch w w' rb sb := by
  have cL := h.cL
  have cS := h.cS
  have fr := h.fr
  have fs := h.fs
  have ix := fun w => idx27 sb n p w hp
  obtain ⟨y, hy⟩ : ∃ y, y = st p := ⟨_, rfl⟩
  obtain ⟨a, ha⟩ : ∃ a, a = att p := ⟨_, rfl⟩
  obtain ⟨b, hb⟩ : ∃ b, b = catt p := ⟨_, rfl⟩
  obtain ⟨z, hz⟩ : ∃ z, z = snt p := ⟨_, rfl⟩
  have d1 : w.cell? ⟨sb, 10 * p + 1, none⟩ = some (.string y) := by rw [hy]; exact h.c1 p hp
  have d2 : w.cell? ⟨sb, 10 * p + 2, none⟩ = some (.int .i64 a) := by rw [ha]; exact h.c2 p hp
  have d3 : w.cell? ⟨sb, 10 * p + 3, none⟩ = some (.int .i64 b) := by rw [hb]; exact h.c3 p hp
  have d9 : w.cell? ⟨sb, 10 * p + 9, none⟩ = some (.bool z) := by rw [hz]; exact h.c9 p hp
  have ne := h.ne
  have ne' := h.ne.symm
  have cD : w.cell? ⟨rb, 5, none⟩ = some (.string ⟨#[102, 111, 114, 119, 97, 114, 100]⟩) := by rw [← hd]; exact h.cD
  have HD : Hid (dir = ⟨#[102, 111, 114, 119, 97, 114, 100]⟩) := hd
  clear hd
  rw [← ha] at hA
  rw [← ha, ← hz]
  have HA : Hid (a = att p) := ha
  have HB : Hid (b = catt p) := hb
  have HZ : Hid (z = snt p) := hz
  clear hy ha hb hz
  go_enter Try.func9, Try.ntmps9
  cases z
  · rw [Bool.false_or]
    go_wp2
    (try simp only [Exit.inBlock, Exit.then])
    refine bodyPost_ret (results_none rfl _ _ _) rfl ?_
    exact ⟨rfl, (by have h9 := ((h.setAtt p hp (a + 1)).setSnt p hp sent).setS ⟨#[70, 65, 73, 76, 69, 68, 95, 87, 73, 84, 72, 95, 82, 69, 84, 82, 89, 65, 66, 76, 69, 95, 69, 82, 82, 79, 82]⟩; rw [HD.out] at h9; exact h9), ((((Tch.refl w rb sb).set (.inr rfl) _ _).set (.inr rfl) _ _)).set (.inl rfl) _ _⟩
  · rw [Bool.true_or]
    go_wp2
    (try simp only [Exit.inBlock, Exit.then])
    refine bodyPost_ret (results_none rfl _ _ _) rfl ?_
    exact ⟨rfl, (by have h9 := ((h.setAtt p hp (a + 1)).setSnt p hp true).setS ⟨#[70, 65, 73, 76, 69, 68, 95, 87, 73, 84, 72, 95, 82, 69, 84, 82, 89, 65, 66, 76, 69, 95, 69, 82, 82, 79, 82]⟩; rw [HD.out] at h9; exact h9), ((((Tch.refl w rb sb).set (.inr rfl) _ _).set (.inr rfl) _ _)).set (.inl rfl) _ _⟩

set_option maxHeartbeats 1600000 in
theorem settle_F1 {w : World} {rb sb n : Nat} {status dir : ByteArray} {st : Nat → ByteArray} {att catt : Nat → Int} {cmp : Nat → Option Addr} {snt : Nat → Bool} (h : Rec w rb sb n status dir st att catt cmp snt) (hd : dir = ⟨#[102, 111, 114, 119, 97, 114, 100]⟩) (hn : n ≤ 4096) {p : Nat} (hp : p < n) (hA : 0 ≤ att p ∧ att p < 1000000)  (sent : Bool) {c : Bool} (hC : Hid (c = true ↔ ∃ k, k < n ∧ (upd st p ⟨#[83, 85, 67, 67, 69, 69, 68, 69, 68]⟩) k ≠ ⟨#[83, 85, 67, 67, 69, 69, 68, 69, 68]⟩)) :
    Calls Try.prog 9 #[.pointer (some ⟨rb, 0, none⟩), .int .i64 p, .int .i64 1, .bool sent] w fun e w' => e = .returned (.tuple #[]) ∧ Rec w' rb sb n (sel c ⟨#[82, 85, 78, 78, 73, 78, 71]⟩ ⟨#[67, 79, 77, 80, 76, 69, 84, 69, 68]⟩) ⟨#[102, 111, 114, 119, 97, 114, 100]⟩ (upd st p ⟨#[83, 85, 67, 67, 69, 69, 68, 69, 68]⟩) (upd att p (att p + 1)) catt cmp (upd snt p (snt p || sent)) ∧ Tch w w' rb sb := by
  have cL := h.cL
  have cS := h.cS
  have fr := h.fr
  have fs := h.fs
  have ix := fun w => idx27 sb n p w hp
  obtain ⟨y, hy⟩ : ∃ y, y = st p := ⟨_, rfl⟩
  obtain ⟨a, ha⟩ : ∃ a, a = att p := ⟨_, rfl⟩
  obtain ⟨b, hb⟩ : ∃ b, b = catt p := ⟨_, rfl⟩
  obtain ⟨z, hz⟩ : ∃ z, z = snt p := ⟨_, rfl⟩
  have d1 : w.cell? ⟨sb, 10 * p + 1, none⟩ = some (.string y) := by rw [hy]; exact h.c1 p hp
  have d2 : w.cell? ⟨sb, 10 * p + 2, none⟩ = some (.int .i64 a) := by rw [ha]; exact h.c2 p hp
  have d3 : w.cell? ⟨sb, 10 * p + 3, none⟩ = some (.int .i64 b) := by rw [hb]; exact h.c3 p hp
  have d9 : w.cell? ⟨sb, 10 * p + 9, none⟩ = some (.bool z) := by rw [hz]; exact h.c9 p hp
  have ne := h.ne
  have ne' := h.ne.symm
  have cD : w.cell? ⟨rb, 5, none⟩ = some (.string ⟨#[102, 111, 114, 119, 97, 114, 100]⟩) := by rw [← hd]; exact h.cD
  have HD : Hid (dir = ⟨#[102, 111, 114, 119, 97, 114, 100]⟩) := hd
  clear hd
  rw [← ha] at hA
  rw [← ha, ← hz]
  have HA : Hid (a = att p) := ha
  have HB : Hid (b = catt p) := hb
  have HZ : Hid (z = snt p) := hz
  clear hy ha hb hz
  go_enter Try.func9, Try.ntmps9
  cases z
  · rw [Bool.false_or]
    go_wp2_with (first
      | (go_at_call 10; refine (carry_fwd (((h.setAtt p hp (a + 1)).setSnt p hp sent).setSt p hp ⟨#[83, 85, 67, 67, 69, 69, 68, 69, 68]⟩) HD.out hn hC).mono ?_; rintro e w1 ⟨rfl, R1, t1⟩))
    go_end0
    exact ⟨rfl, (by have h9 := R1; rw [HD.out] at h9; exact h9), (((((Tch.refl w rb sb).set (.inr rfl) _ _).set (.inr rfl) _ _).set (.inr rfl) _ _)).trans t1⟩
  · rw [Bool.true_or]
    go_wp2_with (first
      | (go_at_call 10; refine (carry_fwd (((h.setAtt p hp (a + 1)).setSnt p hp true).setSt p hp ⟨#[83, 85, 67, 67, 69, 69, 68, 69, 68]⟩) HD.out hn hC).mono ?_; rintro e w1 ⟨rfl, R1, t1⟩))
    go_end0
    exact ⟨rfl, (by have h9 := R1; rw [HD.out] at h9; exact h9), (((((Tch.refl w rb sb).set (.inr rfl) _ _).set (.inr rfl) _ _).set (.inr rfl) _ _)).trans t1⟩

set_option maxHeartbeats 1600000 in
theorem settle_F2 {w : World} {rb sb n : Nat} {status dir : ByteArray} {st : Nat → ByteArray} {att catt : Nat → Int} {cmp : Nat → Option Addr} {snt : Nat → Bool} (h : Rec w rb sb n status dir st att catt cmp snt) (hd : dir = ⟨#[102, 111, 114, 119, 97, 114, 100]⟩) (hn : n ≤ 4096) {p : Nat} (hp : p < n) (hA : 0 ≤ att p ∧ att p < 1000000)  (sent : Bool) {c : Bool} (hT : Hid (∀ k, k < n → (upd st p ⟨#[70, 65, 73, 76, 69, 68]⟩) k ≠ ⟨#[84, 73, 77, 69, 68, 95, 79, 85, 84]⟩)) (hC : Hid (c = true ↔ ∃ k, k < n ∧ (upd st p ⟨#[70, 65, 73, 76, 69, 68]⟩) k = ⟨#[83, 85, 67, 67, 69, 69, 68, 69, 68]⟩ ∧ (cmp k).isSome = true)) :
    Calls Try.prog 9 #[.pointer (some ⟨rb, 0, none⟩), .int .i64 p, .int .i64 2, .bool sent] w fun e w' => e = .returned (.tuple #[]) ∧ Rec w' rb sb n (sel c ⟨#[67, 79, 77, 80, 69, 78, 83, 65, 84, 73, 78, 71]⟩ ⟨#[67, 79, 77, 80, 69, 78, 83, 65, 84, 69, 68]⟩) ⟨#[98, 97, 99, 107, 119, 97, 114, 100]⟩ (upd st p ⟨#[70, 65, 73, 76, 69, 68]⟩) (upd att p (att p + 1)) catt cmp (upd snt p (snt p || sent)) ∧ Tch w w' rb sb := by
  have cL := h.cL
  have cS := h.cS
  have fr := h.fr
  have fs := h.fs
  have ix := fun w => idx27 sb n p w hp
  obtain ⟨y, hy⟩ : ∃ y, y = st p := ⟨_, rfl⟩
  obtain ⟨a, ha⟩ : ∃ a, a = att p := ⟨_, rfl⟩
  obtain ⟨b, hb⟩ : ∃ b, b = catt p := ⟨_, rfl⟩
  obtain ⟨z, hz⟩ : ∃ z, z = snt p := ⟨_, rfl⟩
  have d1 : w.cell? ⟨sb, 10 * p + 1, none⟩ = some (.string y) := by rw [hy]; exact h.c1 p hp
  have d2 : w.cell? ⟨sb, 10 * p + 2, none⟩ = some (.int .i64 a) := by rw [ha]; exact h.c2 p hp
  have d3 : w.cell? ⟨sb, 10 * p + 3, none⟩ = some (.int .i64 b) := by rw [hb]; exact h.c3 p hp
  have d9 : w.cell? ⟨sb, 10 * p + 9, none⟩ = some (.bool z) := by rw [hz]; exact h.c9 p hp
  have ne := h.ne
  have ne' := h.ne.symm
  have cD : w.cell? ⟨rb, 5, none⟩ = some (.string ⟨#[102, 111, 114, 119, 97, 114, 100]⟩) := by rw [← hd]; exact h.cD
  have HD : Hid (dir = ⟨#[102, 111, 114, 119, 97, 114, 100]⟩) := hd
  clear hd
  rw [← ha] at hA
  rw [← ha, ← hz]
  have HA : Hid (a = att p) := ha
  have HB : Hid (b = catt p) := hb
  have HZ : Hid (z = snt p) := hz
  clear hy ha hb hz
  go_enter Try.func9, Try.ntmps9
  cases z
  · rw [Bool.false_or]
    go_wp2_with (first
      | (go_at_call 10; refine (carry_back ((((h.setAtt p hp (a + 1)).setSnt p hp sent).setSt p hp ⟨#[70, 65, 73, 76, 69, 68]⟩).setD ⟨#[98, 97, 99, 107, 119, 97, 114, 100]⟩) rfl hn hT hC).mono ?_; rintro e w1 ⟨rfl, R1, t1⟩))
    go_end0
    exact ⟨rfl, R1, ((((((Tch.refl w rb sb).set (.inr rfl) _ _).set (.inr rfl) _ _).set (.inr rfl) _ _).set (.inl rfl) _ _)).trans t1⟩
  · rw [Bool.true_or]
    go_wp2_with (first
      | (go_at_call 10; refine (carry_back ((((h.setAtt p hp (a + 1)).setSnt p hp true).setSt p hp ⟨#[70, 65, 73, 76, 69, 68]⟩).setD ⟨#[98, 97, 99, 107, 119, 97, 114, 100]⟩) rfl hn hT hC).mono ?_; rintro e w1 ⟨rfl, R1, t1⟩))
    go_end0
    exact ⟨rfl, R1, ((((((Tch.refl w rb sb).set (.inr rfl) _ _).set (.inr rfl) _ _).set (.inr rfl) _ _).set (.inl rfl) _ _)).trans t1⟩

set_option maxHeartbeats 1600000 in
theorem settle_FX {w : World} {rb sb n : Nat} {status dir : ByteArray} {st : Nat → ByteArray} {att catt : Nat → Int} {cmp : Nat → Option Addr} {snt : Nat → Bool} (h : Rec w rb sb n status dir st att catt cmp snt) (hd : dir = ⟨#[102, 111, 114, 119, 97, 114, 100]⟩) (hn : n ≤ 4096) {p : Nat} (hp : p < n) (hA : 0 ≤ att p ∧ att p < 1000000) {cl : Int} (x0 : (cl == 0) = false) (x1 : (cl == 1) = false) (x2 : (cl == 2) = false) (sent : Bool) {c : Bool} (hC : Hid (c = true ↔ ∃ k, k < n ∧ st k ≠ ⟨#[83, 85, 67, 67, 69, 69, 68, 69, 68]⟩)) :
    Calls Try.prog 9 #[.pointer (some ⟨rb, 0, none⟩), .int .i64 p, .int .i64 cl, .bool sent] w fun e w' => e = .returned (.tuple #[]) ∧ Rec w' rb sb n (sel c ⟨#[82, 85, 78, 78, 73, 78, 71]⟩ ⟨#[67, 79, 77, 80, 76, 69, 84, 69, 68]⟩) ⟨#[102, 111, 114, 119, 97, 114, 100]⟩ st (upd att p (att p + 1)) catt cmp (upd snt p (snt p || sent)) ∧ Tch w w' rb sb := by
  have cL := h.cL
  have cS := h.cS
  have fr := h.fr
  have fs := h.fs
  have ix := fun w => idx27 sb n p w hp
  obtain ⟨y, hy⟩ : ∃ y, y = st p := ⟨_, rfl⟩
  obtain ⟨a, ha⟩ : ∃ a, a = att p := ⟨_, rfl⟩
  obtain ⟨b, hb⟩ : ∃ b, b = catt p := ⟨_, rfl⟩
  obtain ⟨z, hz⟩ : ∃ z, z = snt p := ⟨_, rfl⟩
  have d1 : w.cell? ⟨sb, 10 * p + 1, none⟩ = some (.string y) := by rw [hy]; exact h.c1 p hp
  have d2 : w.cell? ⟨sb, 10 * p + 2, none⟩ = some (.int .i64 a) := by rw [ha]; exact h.c2 p hp
  have d3 : w.cell? ⟨sb, 10 * p + 3, none⟩ = some (.int .i64 b) := by rw [hb]; exact h.c3 p hp
  have d9 : w.cell? ⟨sb, 10 * p + 9, none⟩ = some (.bool z) := by rw [hz]; exact h.c9 p hp
  have ne := h.ne
  have ne' := h.ne.symm
  have cD : w.cell? ⟨rb, 5, none⟩ = some (.string ⟨#[102, 111, 114, 119, 97, 114, 100]⟩) := by rw [← hd]; exact h.cD
  have HD : Hid (dir = ⟨#[102, 111, 114, 119, 97, 114, 100]⟩) := hd
  clear hd
  rw [← ha] at hA
  rw [← ha, ← hz]
  have HA : Hid (a = att p) := ha
  have HB : Hid (b = catt p) := hb
  have HZ : Hid (z = snt p) := hz
  clear hy ha hb hz
  go_enter Try.func9, Try.ntmps9
  cases z
  · rw [Bool.false_or]
    go_wp2_with (first
      | (go_at_call 10; refine (carry_fwd ((h.setAtt p hp (a + 1)).setSnt p hp sent) HD.out hn hC).mono ?_; rintro e w1 ⟨rfl, R1, t1⟩))
    go_end0
    exact ⟨rfl, (by have h9 := R1; rw [HD.out] at h9; exact h9), ((((Tch.refl w rb sb).set (.inr rfl) _ _).set (.inr rfl) _ _)).trans t1⟩
  · rw [Bool.true_or]
    go_wp2_with (first
      | (go_at_call 10; refine (carry_fwd ((h.setAtt p hp (a + 1)).setSnt p hp true) HD.out hn hC).mono ?_; rintro e w1 ⟨rfl, R1, t1⟩))
    go_end0
    exact ⟨rfl, (by have h9 := R1; rw [HD.out] at h9; exact h9), ((((Tch.refl w rb sb).set (.inr rfl) _ _).set (.inr rfl) _ _)).trans t1⟩

set_option maxHeartbeats 1600000 in
theorem settle_B0 {w : World} {rb sb n : Nat} {status dir : ByteArray} {st : Nat → ByteArray} {att catt : Nat → Int} {cmp : Nat → Option Addr} {snt : Nat → Bool} (h : Rec w rb sb n status dir st att catt cmp snt) (hd : dir = ⟨#[98, 97, 99, 107, 119, 97, 114, 100]⟩)  {p : Nat} (hp : p < n) (hA : 0 ≤ catt p ∧ catt p < 1000000)  (sent : Bool) :
    Calls Try.prog 9 #[.pointer (some ⟨rb, 0, none⟩), .int .i64 p, .int .i64 0, .bool sent] w fun e w' => e = .returned (.tuple #[]) ∧ Rec w' rb sb n ⟨#[70, 65, 73, 76, 69, 68, 95, 87, 73, 84, 72, 95, 82, 69, 84, 82, 89, 65, 66, 76, 69, 95, 69, 82, 82, 79, 82]⟩ ⟨#[98, 97, 99, 107, 119, 97, 114, 100]⟩ st att (upd catt p (catt p + 1)) cmp snt ∧ Tch w w' rb sb := by
  have cL := h.cL
  have cS := h.cS
  have fr := h.fr
  have fs := h.fs
  have ix := fun w => idx27 sb n p w hp
  obtain ⟨y, hy⟩ : ∃ y, y = st p := ⟨_, rfl⟩
  obtain ⟨a, ha⟩ : ∃ a, a = att p := ⟨_, rfl⟩
  obtain ⟨b, hb⟩ : ∃ b, b = catt p := ⟨_, rfl⟩
  obtain ⟨z, hz⟩ : ∃ z, z = snt p := ⟨_, rfl⟩
  have d1 : w.cell? ⟨sb, 10 * p + 1, none⟩ = some (.string y) := by rw [hy]; exact h.c1 p hp
  have d2 : w.cell? ⟨sb, 10 * p + 2, none⟩ = some (.int .i64 a) := by rw [ha]; exact h.c2 p hp
  have d3 : w.cell? ⟨sb, 10 * p + 3, none⟩ = some (.int .i64 b) := by rw [hb]; exact h.c3 p hp
  have d9 : w.cell? ⟨sb, 10 * p + 9, none⟩ = some (.bool z) := by rw [hz]; exact h.c9 p hp
  have ne := h.ne
  have ne' := h.ne.symm
  have cD : w.cell? ⟨rb, 5, none⟩ = some (.string ⟨#[98, 97, 99, 107, 119, 97, 114, 100]⟩) := by rw [← hd]; exact h.cD
  have HD : Hid (dir = ⟨#[98, 97, 99, 107, 119, 97, 114, 100]⟩) := hd
  clear hd
  rw [← hb] at hA
  rw [← hb]
  have HA : Hid (a = att p) := ha
  have HB : Hid (b = catt p) := hb
  have HZ : Hid (z = snt p) := hz
  clear hy ha hb hz
  go_enter Try.func9, Try.ntmps9
  go_wp2
  (try simp only [Exit.inBlock, Exit.then])
  refine bodyPost_ret (results_none rfl _ _ _) rfl ?_
  exact ⟨rfl, (by have h9 := (h.setCatt p hp (b + 1)).setS ⟨#[70, 65, 73, 76, 69, 68, 95, 87, 73, 84, 72, 95, 82, 69, 84, 82, 89, 65, 66, 76, 69, 95, 69, 82, 82, 79, 82]⟩; rw [HD.out] at h9; exact h9), (((Tch.refl w rb sb).set (.inr rfl) _ _)).set (.inl rfl) _ _⟩

set_option maxHeartbeats 1600000 in
theorem settle_B1 {w : World} {rb sb n : Nat} {status dir : ByteArray} {st : Nat → ByteArray} {att catt : Nat → Int} {cmp : Nat → Option Addr} {snt : Nat → Bool} (h : Rec w rb sb n status dir st att catt cmp snt) (hd : dir = ⟨#[98, 97, 99, 107, 119, 97, 114, 100]⟩) (hn : n ≤ 4096) {p : Nat} (hp : p < n) (hA : 0 ≤ catt p ∧ catt p < 1000000)  (sent : Bool) {c : Bool} (hT : Hid (∀ k, k < n → (upd (upd st p ⟨#[83, 85, 67, 67, 69, 69, 68, 69, 68]⟩) p ⟨#[67, 79, 77, 80, 69, 78, 83, 65, 84, 69, 68]⟩) k ≠ ⟨#[84, 73, 77, 69, 68, 95, 79, 85, 84]⟩)) (hC : Hid (c = true ↔ ∃ k, k < n ∧ (upd (upd st p ⟨#[83, 85, 67, 67, 69, 69, 68, 69, 68]⟩) p ⟨#[67, 79, 77, 80, 69, 78, 83, 65, 84, 69, 68]⟩) k = ⟨#[83, 85, 67, 67, 69, 69, 68, 69, 68]⟩ ∧ (cmp k).isSome = true)) :
    Calls Try.prog 9 #[.pointer (some ⟨rb, 0, none⟩), .int .i64 p, .int .i64 1, .bool sent] w fun e w' => e = .returned (.tuple #[]) ∧ Rec w' rb sb n (sel c ⟨#[67, 79, 77, 80, 69, 78, 83, 65, 84, 73, 78, 71]⟩ ⟨#[67, 79, 77, 80, 69, 78, 83, 65, 84, 69, 68]⟩) ⟨#[98, 97, 99, 107, 119, 97, 114, 100]⟩ (upd (upd st p ⟨#[83, 85, 67, 67, 69, 69, 68, 69, 68]⟩) p ⟨#[67, 79, 77, 80, 69, 78, 83, 65, 84, 69, 68]⟩) att (upd catt p (catt p + 1)) cmp snt ∧ Tch w w' rb sb := by
  have cL := h.cL
  have cS := h.cS
  have fr := h.fr
  have fs := h.fs
  have ix := fun w => idx27 sb n p w hp
  obtain ⟨y, hy⟩ : ∃ y, y = st p := ⟨_, rfl⟩
  obtain ⟨a, ha⟩ : ∃ a, a = att p := ⟨_, rfl⟩
  obtain ⟨b, hb⟩ : ∃ b, b = catt p := ⟨_, rfl⟩
  obtain ⟨z, hz⟩ : ∃ z, z = snt p := ⟨_, rfl⟩
  have d1 : w.cell? ⟨sb, 10 * p + 1, none⟩ = some (.string y) := by rw [hy]; exact h.c1 p hp
  have d2 : w.cell? ⟨sb, 10 * p + 2, none⟩ = some (.int .i64 a) := by rw [ha]; exact h.c2 p hp
  have d3 : w.cell? ⟨sb, 10 * p + 3, none⟩ = some (.int .i64 b) := by rw [hb]; exact h.c3 p hp
  have d9 : w.cell? ⟨sb, 10 * p + 9, none⟩ = some (.bool z) := by rw [hz]; exact h.c9 p hp
  have ne := h.ne
  have ne' := h.ne.symm
  have cD : w.cell? ⟨rb, 5, none⟩ = some (.string ⟨#[98, 97, 99, 107, 119, 97, 114, 100]⟩) := by rw [← hd]; exact h.cD
  have HD : Hid (dir = ⟨#[98, 97, 99, 107, 119, 97, 114, 100]⟩) := hd
  clear hd
  rw [← hb] at hA
  rw [← hb]
  have HA : Hid (a = att p) := ha
  have HB : Hid (b = catt p) := hb
  have HZ : Hid (z = snt p) := hz
  clear hy ha hb hz
  go_enter Try.func9, Try.ntmps9
  go_wp2_with (first
    | (go_at_call 10; refine (carry_back (((h.setCatt p hp (b + 1)).setSt p hp ⟨#[83, 85, 67, 67, 69, 69, 68, 69, 68]⟩).setSt p hp ⟨#[67, 79, 77, 80, 69, 78, 83, 65, 84, 69, 68]⟩) HD.out hn hT hC).mono ?_; rintro e w1 ⟨rfl, R1, t1⟩))
  go_end0
  exact ⟨rfl, (by have h9 := R1; rw [HD.out] at h9; exact h9), (((((Tch.refl w rb sb).set (.inr rfl) _ _).set (.inr rfl) _ _).set (.inr rfl) _ _)).trans t1⟩

set_option maxHeartbeats 1600000 in
theorem settle_B2 {w : World} {rb sb n : Nat} {status dir : ByteArray} {st : Nat → ByteArray} {att catt : Nat → Int} {cmp : Nat → Option Addr} {snt : Nat → Bool} (h : Rec w rb sb n status dir st att catt cmp snt) (hd : dir = ⟨#[98, 97, 99, 107, 119, 97, 114, 100]⟩)  {p : Nat} (hp : p < n) (hA : 0 ≤ catt p ∧ catt p < 1000000)  (sent : Bool) :
    Calls Try.prog 9 #[.pointer (some ⟨rb, 0, none⟩), .int .i64 p, .int .i64 2, .bool sent] w fun e w' => e = .returned (.tuple #[]) ∧ Rec w' rb sb n ⟨#[67, 79, 77, 80, 69, 78, 83, 65, 84, 73, 79, 78, 95, 70, 65, 73, 76, 69, 68]⟩ ⟨#[98, 97, 99, 107, 119, 97, 114, 100]⟩ (upd st p ⟨#[67, 79, 77, 80, 69, 78, 83, 65, 84, 73, 79, 78, 95, 70, 65, 73, 76, 69, 68]⟩) att (upd catt p (catt p + 1)) cmp snt ∧ Tch w w' rb sb := by
  have cL := h.cL
  have cS := h.cS
  have fr := h.fr
  have fs := h.fs
  have ix := fun w => idx27 sb n p w hp
  obtain ⟨y, hy⟩ : ∃ y, y = st p := ⟨_, rfl⟩
  obtain ⟨a, ha⟩ : ∃ a, a = att p := ⟨_, rfl⟩
  obtain ⟨b, hb⟩ : ∃ b, b = catt p := ⟨_, rfl⟩
  obtain ⟨z, hz⟩ : ∃ z, z = snt p := ⟨_, rfl⟩
  have d1 : w.cell? ⟨sb, 10 * p + 1, none⟩ = some (.string y) := by rw [hy]; exact h.c1 p hp
  have d2 : w.cell? ⟨sb, 10 * p + 2, none⟩ = some (.int .i64 a) := by rw [ha]; exact h.c2 p hp
  have d3 : w.cell? ⟨sb, 10 * p + 3, none⟩ = some (.int .i64 b) := by rw [hb]; exact h.c3 p hp
  have d9 : w.cell? ⟨sb, 10 * p + 9, none⟩ = some (.bool z) := by rw [hz]; exact h.c9 p hp
  have ne := h.ne
  have ne' := h.ne.symm
  have cD : w.cell? ⟨rb, 5, none⟩ = some (.string ⟨#[98, 97, 99, 107, 119, 97, 114, 100]⟩) := by rw [← hd]; exact h.cD
  have HD : Hid (dir = ⟨#[98, 97, 99, 107, 119, 97, 114, 100]⟩) := hd
  clear hd
  rw [← hb] at hA
  rw [← hb]
  have HA : Hid (a = att p) := ha
  have HB : Hid (b = catt p) := hb
  have HZ : Hid (z = snt p) := hz
  clear hy ha hb hz
  go_enter Try.func9, Try.ntmps9
  go_wp2
  (try simp only [Exit.inBlock, Exit.then])
  refine bodyPost_ret (results_none rfl _ _ _) rfl ?_
  exact ⟨rfl, (by have h9 := ((h.setCatt p hp (b + 1)).setSt p hp ⟨#[67, 79, 77, 80, 69, 78, 83, 65, 84, 73, 79, 78, 95, 70, 65, 73, 76, 69, 68]⟩).setS ⟨#[67, 79, 77, 80, 69, 78, 83, 65, 84, 73, 79, 78, 95, 70, 65, 73, 76, 69, 68]⟩; rw [HD.out] at h9; exact h9), ((((Tch.refl w rb sb).set (.inr rfl) _ _).set (.inr rfl) _ _)).set (.inl rfl) _ _⟩

set_option maxHeartbeats 1600000 in
theorem settle_BX {w : World} {rb sb n : Nat} {status dir : ByteArray} {st : Nat → ByteArray} {att catt : Nat → Int} {cmp : Nat → Option Addr} {snt : Nat → Bool} (h : Rec w rb sb n status dir st att catt cmp snt) (hd : dir = ⟨#[98, 97, 99, 107, 119, 97, 114, 100]⟩) (hn : n ≤ 4096) {p : Nat} (hp : p < n) (hA : 0 ≤ catt p ∧ catt p < 1000000) {cl : Int} (x0 : (cl == 0) = false) (x1 : (cl == 1) = false) (x2 : (cl == 2) = false) (sent : Bool) {c : Bool} (hT : Hid (∀ k, k < n → st k ≠ ⟨#[84, 73, 77, 69, 68, 95, 79, 85, 84]⟩)) (hC : Hid (c = true ↔ ∃ k, k < n ∧ st k = ⟨#[83, 85, 67, 67, 69, 69, 68, 69, 68]⟩ ∧ (cmp k).isSome = true)) :
    Calls Try.prog 9 #[.pointer (some ⟨rb, 0, none⟩), .int .i64 p, .int .i64 cl, .bool sent] w fun e w' => e = .returned (.tuple #[]) ∧ Rec w' rb sb n (sel c ⟨#[67, 79, 77, 80, 69, 78, 83, 65, 84, 73, 78, 71]⟩ ⟨#[67, 79, 77, 80, 69, 78, 83, 65, 84, 69, 68]⟩) ⟨#[98, 97, 99, 107, 119, 97, 114, 100]⟩ st att (upd catt p (catt p + 1)) cmp snt ∧ Tch w w' rb sb := by
  have cL := h.cL
  have cS := h.cS
  have fr := h.fr
  have fs := h.fs
  have ix := fun w => idx27 sb n p w hp
  obtain ⟨y, hy⟩ : ∃ y, y = st p := ⟨_, rfl⟩
  obtain ⟨a, ha⟩ : ∃ a, a = att p := ⟨_, rfl⟩
  obtain ⟨b, hb⟩ : ∃ b, b = catt p := ⟨_, rfl⟩
  obtain ⟨z, hz⟩ : ∃ z, z = snt p := ⟨_, rfl⟩
  have d1 : w.cell? ⟨sb, 10 * p + 1, none⟩ = some (.string y) := by rw [hy]; exact h.c1 p hp
  have d2 : w.cell? ⟨sb, 10 * p + 2, none⟩ = some (.int .i64 a) := by rw [ha]; exact h.c2 p hp
  have d3 : w.cell? ⟨sb, 10 * p + 3, none⟩ = some (.int .i64 b) := by rw [hb]; exact h.c3 p hp
  have d9 : w.cell? ⟨sb, 10 * p + 9, none⟩ = some (.bool z) := by rw [hz]; exact h.c9 p hp
  have ne := h.ne
  have ne' := h.ne.symm
  have cD : w.cell? ⟨rb, 5, none⟩ = some (.string ⟨#[98, 97, 99, 107, 119, 97, 114, 100]⟩) := by rw [← hd]; exact h.cD
  have HD : Hid (dir = ⟨#[98, 97, 99, 107, 119, 97, 114, 100]⟩) := hd
  clear hd
  rw [← hb] at hA
  rw [← hb]
  have HA : Hid (a = att p) := ha
  have HB : Hid (b = catt p) := hb
  have HZ : Hid (z = snt p) := hz
  clear hy ha hb hz
  go_enter Try.func9, Try.ntmps9
  go_wp2_with (first
    | (go_at_call 10; refine (carry_back (h.setCatt p hp (b + 1)) HD.out hn hT hC).mono ?_; rintro e w1 ⟨rfl, R1, t1⟩))
  go_end0
  exact ⟨rfl, (by have h9 := R1; rw [HD.out] at h9; exact h9), (((Tch.refl w rb sb).set (.inr rfl) _ _)).trans t1⟩

end Go.Proofs.Qxb6605717a
