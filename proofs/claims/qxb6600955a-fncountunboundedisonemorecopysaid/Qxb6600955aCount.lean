/-
  The walk of (*compiler).count (33): refused and taken.
-/
import Derived.Test.Qxb6600955aComp
namespace Go.Proofs.Qxb6600955a
open Go.RowKit
set_option linter.unusedVariables false
attribute [local go_sem ↓] Go.wp_at_zero Go.wp_at_succ

/-- A compiler at block q: np instructions, nr repetitions, its parts and whether it failed; its two rows lie from 'base' on. -/
def Comp (w : World) (base q np nr : Nat) (parts : Int) (failed : Bool) : Prop :=
  ∃ (ap ar : Option Addr) (cp cr : Nat) (rep : Value) (xs ys : List Value), w.heap[q]? = some (.cells #[.slice ap np cp, .slice ar nr cr, .int .i64 parts, rep, .bool failed] 70 (0, 0)) ∧
    w.ownsRow base 79 5 (.slice ap np cp) np xs ∧ w.ownsRow base 65 2 (.slice ar nr cr) nr ys ∧ base ≤ q

/-- A row of another element type lies in another block. -/
theorem row_ne {w : World} {base e size n cap q : Nat} {a : Option Addr} {xs : List Value} {cs : Array Value} {t : TypeId} (h : w.ownsRow base e size (.slice a n cap) n xs) (hq : w.heap[q]? = some (.cells cs t (0, 0))) (ht : e ≠ t) : (Value.slice a n cap).ownBlock ≠ some q := by
  intro hb
  rcases h.2 with ⟨h', _⟩ | ⟨g, cap', cur, hv, _, hg, _⟩
  · rw [h'] at hb; simp [Value.ownBlock] at hb
  · rw [hv] at hb
    simp [Value.ownBlock] at hb
    subst hb
    rw [hg] at hq
    simp at hq
    exact ht hq.2

/-- A row stays owned where its own block is as it was. -/
theorem row_kept {w w' : World} {base e size n cap : Nat} {a : Option Addr} {xs : List Value} (h : w.ownsRow base e size (.slice a n cap) n xs) (hk : ∀ g, (Value.slice a n cap).ownBlock = some g → w'.heap[g]? = w.heap[g]?) : w'.ownsRow base e size (.slice a n cap) n xs := by
  refine ⟨h.1, ?_⟩
  rcases h.2 with h' | ⟨g, cap', cur, hv, hb, hg, r⟩
  · exact .inl h'
  · exact .inr ⟨g, cap', cur, hv, hb, (hk g (by rw [hv]; rfl)).trans hg, r⟩

theorem comp_lt {w : World} {base q np nr : Nat} {parts : Int} {failed : Bool} (h : Comp w base q np nr parts failed) : q < w.heap.size := by
  obtain ⟨_, _, _, _, _, _, _, hq, _⟩ := h
  rcases Nat.lt_or_ge q w.heap.size with h | h
  · exact h
  · rw [Array.getElem?_eq_none h] at hq; cases hq

/-- A compiler stays as it is while what lies below a number beyond all its blocks is as it was. -/
theorem Comp.later {w w' : World} {base q np nr : Nat} {parts : Int} {failed : Bool} (h : Comp w base q np nr parts failed) (hb : Below w.heap.size w w') : Comp w' base q np nr parts failed := by
  have hlt := comp_lt h
  obtain ⟨ap, ar, cp, cr, rep, xs, ys, hq, hp, hr, hbq⟩ := h
  exact ⟨ap, ar, cp, cr, rep, xs, ys, (hb.block q hlt).trans hq, row_kept hp (fun g hg => hb.block g (hp.lt g hg).2), row_kept hr (fun g hg => hb.block g (hr.lt g hg).2), hbq⟩

/-- Behind 'written' that failed the compiler, or found it failed. -/
theorem comp_fail {w : World} {base q np nr : Nat} {parts P : Int} {failed : Bool} (h : Comp w base q np nr parts failed) :
    Comp ((w.setCell ⟨q, 2, none⟩ (.int .i64 P)).setCell ⟨q, 4, none⟩ (.bool true)) base q np nr P true ∧ Below base w ((w.setCell ⟨q, 2, none⟩ (.int .i64 P)).setCell ⟨q, 4, none⟩ (.bool true)) := by
  obtain ⟨ap, ar, cp, cr, rep, xs, ys, hq, hp, hr, hbq⟩ := h
  have hne1 := row_ne hp hq (by decide)
  have hne2 := row_ne hr hq (by decide)
  have keep : ∀ g, g ≠ q → ((w.setCell ⟨q, 2, none⟩ (.int .i64 P)).setCell ⟨q, 4, none⟩ (.bool true)).heap[g]? = w.heap[g]? := fun g hg => (Below.heap_setCell _ _ _ _ hg).trans (Below.heap_setCell _ _ _ _ hg)
  refine ⟨⟨ap, ar, cp, cr, rep, xs, ys, ?_, row_kept hp (fun g hg => keep g (fun e => hne1 (e ▸ hg))), row_kept hr (fun g hg => keep g (fun e => hne2 (e ▸ hg))), hbq⟩, ((Below.refl _ _).setCell hbq _).setCell hbq _⟩
  exact heap_setCell_same _ q 4 _ 70 _ (heap_setCell_same w q 2 _ 70 _ hq)

theorem comp_parts {w : World} {base q np nr : Nat} {parts P : Int} {failed : Bool} (h : Comp w base q np nr parts failed) :
    Comp (w.setCell ⟨q, 2, none⟩ (.int .i64 P)) base q np nr P failed ∧ Below base w (w.setCell ⟨q, 2, none⟩ (.int .i64 P)) := by
  obtain ⟨ap, ar, cp, cr, rep, xs, ys, hq, hp, hr, hbq⟩ := h
  have hne1 := row_ne hp hq (by decide)
  have hne2 := row_ne hr hq (by decide)
  have keep : ∀ g, g ≠ q → (w.setCell ⟨q, 2, none⟩ (.int .i64 P)).heap[g]? = w.heap[g]? := fun g hg => Below.heap_setCell _ _ _ _ hg
  refine ⟨⟨ap, ar, cp, cr, rep, xs, ys, ?_, row_kept hp (fun g hg => keep g (fun e => hne1 (e ▸ hg))), row_kept hr (fun g hg => keep g (fun e => hne2 (e ▸ hg))), hbq⟩, (Below.refl _ _).setCell hbq _⟩
  exact heap_setCell_same w q 2 _ 70 _ hq

theorem comp_cells {w : World} {base q np nr : Nat} {parts : Int} {failed : Bool} (h : Comp w base q np nr parts failed) :
    w.cell? ⟨q, 2, none⟩ = some (.int .i64 parts) ∧ w.cell? ⟨q, 4, none⟩ = some (.bool failed) ∧ ∀ j, w.frozen? ⟨q, j, none⟩ = false := by
  obtain ⟨ap, ar, cp, cr, rep, xs, ys, hq, hp, hr, hbq⟩ := h
  refine ⟨by rw [cell_of_row w q 2 _ 70 (0, 0) hq]; rfl, by rw [cell_of_row w q 4 _ 70 (0, 0) hq]; rfl, fun j => frozen_of_row w q j _ 70 hq⟩

set_option maxRecDepth 100000 in
set_option maxHeartbeats 800000 in
/-- count, refused: the parts are counted, the next instruction is handed back. -/
theorem count_refused (q nb base np nr : Nat) (parts lo hi C p next : Int) (failed : Bool) (cls : Value) (w : World) (hcomp : Comp w base q np nr parts failed)
    (h7 : w.cell? ⟨nb, 7, none⟩ = some (.int .i64 lo)) (h8 : w.cell? ⟨nb, 8, none⟩ = some (.int .i64 hi)) (hnq : nb ≠ q)
    (hC : (hi < 0 ∧ C = lo + 1 ∧ -1000000000 ≤ lo ∧ lo ≤ 1000000000) ∨ (0 ≤ hi ∧ C = hi)) (b1 : 0 ≤ C * p) (b2 : C * p ≤ 4503599627370496) (b3 : -4503599627370496 ≤ parts) (b4 : parts ≤ 4503599627370496)
    (hfail : failed = true ∨ 100000 < parts + C * p) :
    Calls Try.prog 33 #[.pointer (some ⟨q, 0, none⟩), .pointer (some ⟨nb, 0, none⟩), cls, .int .i64 p, .int .i32 next] w fun e w' => e = .returned (.int .i32 next) ∧ Comp w' base q np nr (parts + C * p) true ∧ Below base w w' := by
  obtain ⟨hc2, hc4, hfr⟩ := comp_cells hcomp
  have hf2 := hfr 2
  have hf4 := hfr 4
  clear hfr
  have hqn : ¬ q = nb := fun e => hnq e.symm
  have HC : Hid (Comp w base q np nr parts failed) := hcomp
  clear hcomp
  by_cases hover : 100000 < parts + C * p
  · have R := comp_fail (P := parts + C * p) HC.out
    have HR : Hid (Comp ((w.setCell ⟨q, 2, none⟩ (.int .i64 (parts + C * p))).setCell ⟨q, 4, none⟩ (.bool true)) base q np nr (parts + C * p) true ∧ Below base w ((w.setCell ⟨q, 2, none⟩ (.int .i64 (parts + C * p))).setCell ⟨q, 4, none⟩ (.bool true))) := R
    clear R hfail
    rcases hC with ⟨hh, rfl, l1, l2⟩ | ⟨hh, rfl⟩
    all_goals
      go_enter Try.func33, Try.ntmps33
      go_wp2_with fail
      refine (written_over q parts _ (.bool failed) w hc2 hf2 hc4 hf4 (by omega) hover).mono ?_
      rintro e w' ⟨rfl, rfl⟩
      go_wp2
      go_ret
      exact ⟨rfl, HR.out.1, HR.out.2⟩
  · have hft : failed = true := by rcases hfail with h | h; exact h; exact absurd h hover
    subst hft
    have R := comp_parts (P := parts + C * p) HC.out
    have HR : Hid (Comp (w.setCell ⟨q, 2, none⟩ (.int .i64 (parts + C * p))) base q np nr (parts + C * p) true ∧ Below base w (w.setCell ⟨q, 2, none⟩ (.int .i64 (parts + C * p)))) := R
    clear R hfail
    rcases hC with ⟨hh, rfl, l1, l2⟩ | ⟨hh, rfl⟩
    all_goals
      go_enter Try.func33, Try.ntmps33
      go_wp2_with fail
      refine (written_ok q parts _ w hc2 hf2 (by omega) (by omega)).mono ?_
      rintro e w' ⟨rfl, rfl⟩
      go_wp2
      go_ret
      exact ⟨rfl, HR.out.1, HR.out.2⟩


end Go.Proofs.Qxb6600955a
