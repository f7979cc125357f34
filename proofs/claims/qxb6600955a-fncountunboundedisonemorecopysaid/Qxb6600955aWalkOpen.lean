/-
  The walk of FnCountUnboundedIsOneMoreCopy (8).
-/
import Derived.Test.Qxb6600955aCompDoors
namespace Go.Proofs.Qxb6600955a
open Go.RowKit
set_option linter.unusedVariables false

set_option maxHeartbeats 1600000 in
/-- Outside the law's bounds it answers true at once. -/
theorem open_out (a0 a2 a3 a4 a5 a6 : Int) (a1 : Bool) (w : World)
    (h : (a0 < -1099511627776 ∨ -1099511627776 ≤ a0 ∧ 1099511627776 < a0) ∨ (-1099511627776 ≤ a0 ∧ a0 ≤ 1099511627776) ∧
      ((a2 < 0 ∨ 0 ≤ a2 ∧ 16777216 < a2) ∨ (0 ≤ a2 ∧ a2 ≤ 16777216) ∧ ((a5 < 0 ∨ 0 ≤ a5 ∧ 16777216 < a5) ∨ (0 ≤ a5 ∧ a5 ≤ 16777216) ∧ (0 ≤ a3 ∨ a3 < 0 ∧ (a4 < 0 ∨ 0 ≤ a4 ∧ a2 + 1 < a4))))) :
    Calls Try.prog 8 #[.int .i64 a0, .bool a1, .int .i64 a2, .int .i64 a3, .int .i64 a4, .int .i64 a5, .int .i32 a6] w fun e w' => e = .returned (.bool true) ∧ Below w.heap.size w w' := by
  rcases h with (h | ⟨h, h'⟩) | ⟨⟨g1, g2⟩, (h | ⟨h, h'⟩) | ⟨⟨g3, g4⟩, (h | ⟨h, h'⟩) | ⟨⟨g5, g6⟩, h | ⟨g7, h | ⟨h, h'⟩⟩⟩⟩⟩
  all_goals
    go_enter Try.func8, Try.ntmps8
    go_wp2
    go_ret
    exact ⟨rfl, Below.refl _ _⟩

theorem ret_bool {a b : Bool} (h : a = b) : Ending.returned (.bool a) = .returned (.bool b) := by rw [h]

theorem prod_bounds {x p : Int} (h0 : 0 ≤ x) (h1 : x ≤ 33554432) (h2 : 0 ≤ p) (h3 : p ≤ 16777216) : 0 ≤ x * p ∧ x * p ≤ 4503599627370496 := by
  refine ⟨Int.mul_nonneg h0 h2, ?_⟩
  have e1 : x * p ≤ 33554432 * p := Int.mul_le_mul_of_nonneg_right h1 h2
  have e2 : (33554432 : Int) * p ≤ 33554432 * 16777216 := Int.mul_le_mul_of_nonneg_left h3 (by decide)
  omega

set_option maxRecDepth 100000 in
set_option maxHeartbeats 1600000 in
theorem open_in (a0 a2 a3 a4 a5 a6 : Int) (a1 : Bool) (w : World) (g1 : -1099511627776 ≤ a0) (g2 : a0 ≤ 1099511627776) (g3 : 0 ≤ a2) (g4 : a2 ≤ 16777216) (g5 : 0 ≤ a5) (g6 : a5 ≤ 16777216) (g7 : a3 < 0) (g8 : 0 ≤ a4) (g9 : a4 ≤ a2 + 1) :
    Calls Try.prog 8 #[.int .i64 a0, .bool a1, .int .i64 a2, .int .i64 a3, .int .i64 a4, .int .i64 a5, .int .i32 a6] w fun e w' => e = .returned (.bool true) ∧ Below w.heap.size w w' := by
  obtain ⟨P, hP⟩ : ∃ P, a0 + (a2 + 1) * a5 = P := ⟨_, rfl⟩
  obtain ⟨e1, e2⟩ := prod_bounds (x := a2 + 1) (by omega) (by omega) g5 g6
  have HP : Hid (a0 + (a2 + 1) * a5 = P) := hP
  have HB : Hid (0 ≤ (a2 + 1) * a5 ∧ (a2 + 1) * a5 ≤ 4503599627370496) := ⟨e1, e2⟩
  clear hP e1 e2
  have hcase : (a1 = false ∧ P ≤ 100000) ∨ (a1 = true ∨ 100000 < P) := by
    cases a1 <;> simp <;> omega
  go_enter Try.func8, Try.ntmps8
  go_wp2_with fail
  refine (newComp_as a0 a1 _ (w.heap.size + 1) (by simp)).mono ?_
  rintro e w2 ⟨rfl, hc2, hb2, hs2⟩
  have hB2 : Below w.heap.size w w2 := ((Below.refl _ _).alloc (Nat.le_refl _) _).trans (hb2.mono (by omega))
  rcases hcase with ⟨rfl, hok⟩ | hf1
  · go_wp2_with fail
    refine (taken_as (w.heap.size + 1) (w.heap.size + 1) 0 0 a0 a2 a3 (a2 + 1) a5 a6 P _ w2 hc2 hs2 (by omega) (by omega) (.inl ⟨g7, rfl, by omega, by omega⟩) HB.out.1 HB.out.2 (by omega) (by omega) HP.out hok).mono ?_
    rintro e w3 ⟨rfl, hc3, hb3⟩
    obtain ⟨q2, hq2⟩ : ∃ q2, w3.heap.size = q2 := ⟨_, rfl⟩
    have HQ2 : Hid (w3.heap.size = q2) := hq2
    have hB3 : Below w.heap.size w w3 := hB2.trans (hb3.mono (by omega))
    have hwq : w.heap.size ≤ q2 := by have := hB3.size; omega
    clear hq2
    go_wp2_with fail
    refine (newComp_as a0 false _ q2 HQ2.out).mono ?_
    rintro e w4 ⟨rfl, hc4, hb4, hs4⟩
    go_wp2_with fail
    refine (taken_as q2 q2 0 0 a0 a4 (a2 + 1) (a2 + 1) a5 a6 P _ w4 hc4 hs4 (by omega) (by omega) (.inr ⟨by omega, rfl⟩) HB.out.1 HB.out.2 (by omega) (by omega) HP.out hok).mono ?_
    rintro e w6 ⟨rfl, hc6, hb6⟩
    have hb36 : Below q2 w3 w6 := hb4.trans hb6
    have hc3' := hc3.later (by rw [HQ2.out]; exact hb36)
    have hB6 : Below w.heap.size w w6 := hB3.trans (hb36.mono hwq)
    clear hc2 hc3 hc4 hb2 hb3 hb4 hb6
    go_wp2_with fail
    refine (state_any (w.heap.size + 1) _ _ _ P _ w6 hc3').mono ?_
    rintro e w7 ⟨rfl, hb7⟩
    go_wp2_with fail
    refine (state_any q2 _ _ _ P _ w7 (hc6.later hb7)).mono ?_
    rintro e w8 ⟨rfl, hb8⟩
    go_wp2
    go_ret
    exact ⟨rfl, hB6.trans ((hb7.mono hB6.size).trans (hb8.mono (Nat.le_trans hB6.size hb7.size)))⟩
  · go_wp2_with fail
    refine (refused_as (w.heap.size + 1) (w.heap.size + 1) 0 0 a0 a2 a3 (a2 + 1) a5 a6 P a1 _ w2 hc2 hs2 (.inl ⟨g7, rfl, by omega, by omega⟩) HB.out.1 HB.out.2 (by omega) (by omega) HP.out hf1).mono ?_
    rintro e w3 ⟨rfl, hc3, hb3⟩
    obtain ⟨q2, hq2⟩ : ∃ q2, w3.heap.size = q2 := ⟨_, rfl⟩
    have HQ2 : Hid (w3.heap.size = q2) := hq2
    have hB3 : Below w.heap.size w w3 := hB2.trans (hb3.mono (by omega))
    have hwq : w.heap.size ≤ q2 := by have := hB3.size; omega
    clear hq2
    go_wp2_with fail
    refine (newComp_as a0 a1 _ q2 HQ2.out).mono ?_
    rintro e w4 ⟨rfl, hc4, hb4, hs4⟩
    go_wp2_with fail
    refine (refused_as q2 q2 0 0 a0 a4 (a2 + 1) (a2 + 1) a5 a6 P a1 _ w4 hc4 hs4 (.inr ⟨by omega, rfl⟩) HB.out.1 HB.out.2 (by omega) (by omega) HP.out hf1).mono ?_
    rintro e w6 ⟨rfl, hc6, hb6⟩
    have hb36 : Below q2 w3 w6 := hb4.trans hb6
    have hc3' := hc3.later (by rw [HQ2.out]; exact hb36)
    have hB6 : Below w.heap.size w w6 := hB3.trans (hb36.mono hwq)
    clear hc2 hc3 hc4 hb2 hb3 hb4 hb6
    go_wp2_with fail
    refine (state_any (w.heap.size + 1) _ _ _ P _ w6 hc3').mono ?_
    rintro e w7 ⟨rfl, hb7⟩
    go_wp2_with fail
    refine (state_any q2 _ _ _ P _ w7 (hc6.later hb7)).mono ?_
    rintro e w8 ⟨rfl, hb8⟩
    go_wp2
    go_ret
    exact ⟨rfl, hB6.trans ((hb7.mono hB6.size).trans (hb8.mono (Nat.le_trans hB6.size hb7.size)))⟩

end Go.Proofs.Qxb6600955a
