/-
  The doors to the compiler: ZZNewCompiler (24), ZZCount (25), ZZCompilerState (26).
-/
import Derived.Test.Qxb6600955aCountTaken
namespace Go.Proofs.Qxb6600955a
open Go.RowKit
set_option linter.unusedVariables false

theorem newComp (parts : Int) (failed : Bool) (w : World) :
    Calls Try.prog 24 #[.int .i64 parts, .bool failed] w fun e w' => e = .returned (.pointer (some ⟨w.heap.size, 0, none⟩)) ∧ Comp w' w.heap.size w.heap.size 0 0 parts failed ∧ Below w.heap.size w w' ∧ w'.heap.size = w.heap.size + 1 := by
  go_enter Try.func24, Try.ntmps24
  go_wp2
  go_ret
  refine ⟨rfl, ⟨none, none, 0, 0, .int .i64 0, [], [], heap_alloc_new w _, World.ownsRow_nil _ _ _ _, World.ownsRow_nil _ _ _ _, Nat.le_refl _⟩, (Below.refl _ _).alloc (Nat.le_refl _) _, by simp⟩

set_option maxRecDepth 100000 in
theorem state_any (q base np nr : Nat) (parts : Int) (failed : Bool) (w : World) (h : Comp w base q np nr parts failed) :
    Calls Try.prog 26 #[.pointer (some ⟨q, 0, none⟩)] w fun e w' => e = .returned (.tuple #[.int .i64 parts, .bool failed, .int .i64 np, .int .i64 nr]) ∧ Below w.heap.size w w' := by
  obtain ⟨ap, ar, cp, cr, rep, xs, ys, hq, hp, hr, hbq⟩ := h
  have hc0 : w.cell? ⟨q, 0, none⟩ = some (.slice ap np cp) := by rw [cell_of_row w q 0 _ 70 (0, 0) hq]; rfl
  have hc1 : w.cell? ⟨q, 1, none⟩ = some (.slice ar nr cr) := by rw [cell_of_row w q 1 _ 70 (0, 0) hq]; rfl
  have hc2 : w.cell? ⟨q, 2, none⟩ = some (.int .i64 parts) := by rw [cell_of_row w q 2 _ 70 (0, 0) hq]; rfl
  have hc4 : w.cell? ⟨q, 4, none⟩ = some (.bool failed) := by rw [cell_of_row w q 4 _ 70 (0, 0) hq]; rfl
  clear hq hp hr
  go_enter Try.func26, Try.ntmps26
  go_wp2
  go_quiet (fail)
  go_wp2
  exact bodyPost_ret (v := .tuple #[.int .i64 parts, .bool failed, .int .i64 np, .int .i64 nr]) (by simp [results, Try.results26, go_sem]) rfl ⟨rfl, below_drewN (Below.refl _ _) _⟩

set_option maxRecDepth 100000 in
theorem zzcount_refused (q base np nr : Nat) (parts lo hi C p next : Int) (failed : Bool) (ca : Addr) (w : World) (hcomp : Comp w base q np nr parts failed) (hbase : base ≤ w.heap.size)
    (hC : (hi < 0 ∧ C = lo + 1 ∧ -1000000000 ≤ lo ∧ lo ≤ 1000000000) ∨ (0 ≤ hi ∧ C = hi)) (b1 : 0 ≤ C * p) (b2 : C * p ≤ 4503599627370496) (b3 : -4503599627370496 ≤ parts) (b4 : parts ≤ 4503599627370496)
    (hfail : failed = true ∨ 100000 < parts + C * p) :
    Calls Try.prog 25 #[.pointer (some ⟨q, 0, none⟩), .int .i64 lo, .int .i64 hi, .pointer (some ca), .int .i64 p, .int .i32 next] w fun e w' => e = .returned (.int .i32 next) ∧ Comp w' base q np nr (parts + C * p) true ∧ Below base w w' := by
  have hqs := comp_lt hcomp
  go_enter Try.func25, Try.ntmps25
  go_wp2_with fail
  refine (count_refused q w.heap.size base np nr parts lo hi C p next failed _ _ (hcomp.later ((Below.refl _ _).alloc (Nat.le_refl _) _)) (by simp) (by simp) (by omega) hC b1 b2 b3 b4 hfail).mono ?_
  rintro e w' ⟨rfl, hc, hb⟩
  go_wp2
  go_ret
  exact ⟨rfl, hc, ((Below.refl _ _).alloc hbase _).trans hb⟩

set_option maxRecDepth 100000 in
theorem zzcount_taken (q base np nr : Nat) (parts lo hi C p next : Int) (ca : Addr) (w : World) (hcomp : Comp w base q np nr parts false) (hbase : base ≤ w.heap.size) (hnp : np ≤ 900) (hnr : nr ≤ 900)
    (hC : (hi < 0 ∧ C = lo + 1 ∧ -1000000000 ≤ lo ∧ lo ≤ 1000000000) ∨ (0 ≤ hi ∧ C = hi)) (b1 : 0 ≤ C * p) (b2 : C * p ≤ 4503599627370496) (b3 : -4503599627370496 ≤ parts) (b4 : parts ≤ 4503599627370496)
    (hok : parts + C * p ≤ 100000) :
    Calls Try.prog 25 #[.pointer (some ⟨q, 0, none⟩), .int .i64 lo, .int .i64 hi, .pointer (some ca), .int .i64 p, .int .i32 next] w fun e w' => e = .returned (.int .i32 np) ∧ Comp w' base q (np + 1) (nr + 1) (parts + C * p) false ∧ Below base w w' := by
  have hqs := comp_lt hcomp
  go_enter Try.func25, Try.ntmps25
  go_wp2_with fail
  refine (count_taken q w.heap.size base np nr parts lo hi C p next ca _ (hcomp.later ((Below.refl _ _).alloc (Nat.le_refl _) _)) (by simp) (by simp) (by omega) hnp hnr (by simp; omega) hC b1 b2 b3 b4 hok).mono ?_
  rintro e w' ⟨rfl, hc, hb⟩
  go_wp2
  go_ret
  exact ⟨rfl, hc, ((Below.refl _ _).alloc hbase _).trans hb⟩

/-- The same three, the block, the counted parts under names of the caller's. -/
theorem newComp_as (parts : Int) (failed : Bool) (w : World) (q : Nat) (hq : w.heap.size = q) :
    Calls Try.prog 24 #[.int .i64 parts, .bool failed] w fun e w' => e = .returned (.pointer (some ⟨q, 0, none⟩)) ∧ Comp w' q q 0 0 parts failed ∧ Below q w w' ∧ q ≤ w'.heap.size := by
  subst hq
  refine (newComp parts failed w).mono fun e w' ⟨h1, h2, h3, h4⟩ => ⟨h1, h2, h3, by omega⟩

theorem refused_as (q base np nr : Nat) (parts lo hi C p next P : Int) (failed : Bool) (ca : Addr) (w : World) (hcomp : Comp w base q np nr parts failed) (hbase : base ≤ w.heap.size)
    (hC : (hi < 0 ∧ C = lo + 1 ∧ -1000000000 ≤ lo ∧ lo ≤ 1000000000) ∨ (0 ≤ hi ∧ C = hi)) (b1 : 0 ≤ C * p) (b2 : C * p ≤ 4503599627370496) (b3 : -4503599627370496 ≤ parts) (b4 : parts ≤ 4503599627370496)
    (hP : parts + C * p = P) (hfail : failed = true ∨ 100000 < P) :
    Calls Try.prog 25 #[.pointer (some ⟨q, 0, none⟩), .int .i64 lo, .int .i64 hi, .pointer (some ca), .int .i64 p, .int .i32 next] w fun e w' => e = .returned (.int .i32 next) ∧ Comp w' base q np nr P true ∧ Below base w w' := by
  subst hP
  exact zzcount_refused q base np nr parts lo hi C p next failed ca w hcomp hbase hC b1 b2 b3 b4 hfail

theorem taken_as (q base np nr : Nat) (parts lo hi C p next P : Int) (ca : Addr) (w : World) (hcomp : Comp w base q np nr parts false) (hbase : base ≤ w.heap.size) (hnp : np ≤ 900) (hnr : nr ≤ 900)
    (hC : (hi < 0 ∧ C = lo + 1 ∧ -1000000000 ≤ lo ∧ lo ≤ 1000000000) ∨ (0 ≤ hi ∧ C = hi)) (b1 : 0 ≤ C * p) (b2 : C * p ≤ 4503599627370496) (b3 : -4503599627370496 ≤ parts) (b4 : parts ≤ 4503599627370496)
    (hP : parts + C * p = P) (hok : P ≤ 100000) :
    Calls Try.prog 25 #[.pointer (some ⟨q, 0, none⟩), .int .i64 lo, .int .i64 hi, .pointer (some ca), .int .i64 p, .int .i32 next] w fun e w' => e = .returned (.int .i32 np) ∧ Comp w' base q (np + 1) (nr + 1) P false ∧ Below base w w' := by
  subst hP
  exact zzcount_taken q base np nr parts lo hi C p next ca w hcomp hbase hnp hnr hC b1 b2 b3 b4 hok

end Go.Proofs.Qxb6600955a
