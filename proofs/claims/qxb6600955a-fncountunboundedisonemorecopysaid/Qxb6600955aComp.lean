/-
  Walks over the compiler: written (40), emit (41), count (33), ZZNewCompiler (24), ZZCount (25), ZZCompilerState (26).
-/
import Derived.Test.Qxb6600955aProg
import Derived.WalkKit
import Derived.ProofKit
import Derived.Below
import Derived.BigQuiet
import Derived.Deep.QuietTactic
import Derived.WalkSpells
import Derived.WalkSmall
import Derived.Deep.RegionLaw
import Derived.Deep.AppendLies
import Derived.Deep.DrawnRows
namespace Go.Proofs.Qxb6600955a
open Go.RowKit
set_option linter.unusedVariables false
attribute [local go_sem ↓] Go.wp_at_zero Go.wp_at_succ


theorem info79 : (Try.prog.info? 79).map (fun i => (i.zero, i.size, i.bytes)) = some (some (.agg #[.pointer none, .int .i32 0, .int .i32 0, .int .i32 0, .int .u8 0]), 5, 24) := by kernel_rfl
theorem info65 : (Try.prog.info? 65).map (fun i => (i.zero, i.size, i.bytes)) = some (some (.agg #[.int .i64 0, .int .i64 0]), 2, 16) := by kernel_rfl

/-- written, where the sum stays at most 100000. -/
theorem written_ok (q : Nat) (parts d : Int) (w : World) (h2 : w.cell? ⟨q, 2, none⟩ = some (.int .i64 parts)) (f2 : w.frozen? ⟨q, 2, none⟩ = false)
    (hl : -9223372036854775808 ≤ parts + d) (h : parts + d ≤ 100000) :
    Calls Try.prog 40 #[.pointer (some ⟨q, 0, none⟩), .int .i64 d] w fun e w' => e = .returned (.tuple #[]) ∧ w' = w.setCell ⟨q, 2, none⟩ (.int .i64 (parts + d)) := by
  go_enter Try.func40, Try.ntmps40
  go_wp2
  go_end0
  exact ⟨rfl, rfl⟩

theorem written_over (q : Nat) (parts d : Int) (u : Value) (w : World) (h2 : w.cell? ⟨q, 2, none⟩ = some (.int .i64 parts)) (f2 : w.frozen? ⟨q, 2, none⟩ = false)
    (h4 : w.cell? ⟨q, 4, none⟩ = some u) (f4 : w.frozen? ⟨q, 4, none⟩ = false) (hl : parts + d ≤ 9223372036854775807) (h : 100000 < parts + d) :
    Calls Try.prog 40 #[.pointer (some ⟨q, 0, none⟩), .int .i64 d] w fun e w' => e = .returned (.tuple #[]) ∧ w' = (w.setCell ⟨q, 2, none⟩ (.int .i64 (parts + d))).setCell ⟨q, 4, none⟩ (.bool true) := by
  go_enter Try.func40, Try.ntmps40
  go_wp2
  go_end0
  exact ⟨rfl, rfl⟩


theorem news2 (w : World) (O : Obj) (cs : Array Value) (t : TypeId) : ∀ j u, cs.toList[j]? = some u → (((w.alloc O).alloc (.cells cs t)).drew).cell? ((⟨w.heap.size + 1, 0, none⟩ : Addr).add j) = some u :=
  World.news_of_block (t := t) (fr := (0, 0)) (by have h := heap_alloc_new (w.alloc O) (.cells cs t); rw [World.size_alloc] at h; exact h)

/-- A block that was there is as it was behind two new blocks, a draw and an append to another row. -/
theorem far2 {w w1 : World} {O E : Obj} {row : Option Nat} {b : Nat} (hg : (((w.alloc O).alloc E).drew).grownBy w1 row) (hp : b < w.heap.size) (hne : row ≠ some b) : w1.heap[b]? = w.heap[b]? :=
  (hg.block b (by show b < ((w.alloc O).alloc E).heap.size; rw [World.size_alloc, World.size_alloc]; omega) (Ne.symm hne)).trans
    ((Below.heap_alloc _ _ _ (by rw [World.size_alloc]; omega)).trans (Below.heap_alloc _ _ _ hp))

theorem owns_set_other {w : World} {base e size g n cap : Nat} {xs : List Value} (h : w.ownsRow base e size (.slice (some ⟨g, 0, none⟩) n cap) n xs) {q o : Nat} (hne : g ≠ q) (u : Value) :
    (w.setCell ⟨q, o, none⟩ u).ownsRow base e size (.slice (some ⟨g, 0, none⟩) n cap) n xs := by
  obtain ⟨h1, h2⟩ := h
  refine ⟨h1, ?_⟩
  rcases h2 with h2 | ⟨g', cap', cur, hv, hg, hh, r⟩
  · exact Or.inl h2
  · have hv2 := hv
    simp only [Value.slice.injEq, Option.some.injEq, Addr.mk.injEq, and_true, true_and] at hv2
    obtain ⟨rfl, rfl⟩ := hv2
    exact Or.inr ⟨g, cap, cur, rfl, hg, by rw [Below.heap_setCell _ _ _ _ hne]; exact hh, r⟩

/-- Behind 'c.f = append(c.f, ..)': the compiler's block with the field's new value, the row owned, all else as it was. -/
theorem close_push {w W w1 : World} {base q e size n m cap g cap1 j H : Nat} {a : Option Addr} {xs ys : List Value} {cs : Array Value} (hW : Below w.heap.size w W)
    (hown : w.ownsRow base e size (.slice a n cap) n xs) (hbq : base ≤ q) (hq : w.heap[q]? = some (.cells cs 70 (0, 0))) (hne : (Value.slice a n cap).ownBlock ≠ some q) (hbase : base ≤ w.heap.size)
    (hown1 : w1.ownsRow base e size (.slice (some ⟨g, 0, none⟩) m cap1) m ys) (hgrow : W.grownBy w1 (Value.slice a n cap).ownBlock) (hat : (Value.slice a n cap).ownBlock = some g ∨ g = H) (hH : q < H) :
    (w1.setCell ⟨q, j, none⟩ (.slice (some ⟨g, 0, none⟩) m cap1)).heap[q]? = some (.cells (cs.setIfInBounds j (.slice (some ⟨g, 0, none⟩) m cap1)) 70 (0, 0)) ∧
    (w1.setCell ⟨q, j, none⟩ (.slice (some ⟨g, 0, none⟩) m cap1)).ownsRow base e size (.slice (some ⟨g, 0, none⟩) m cap1) m ys ∧
    Below base w (w1.setCell ⟨q, j, none⟩ (.slice (some ⟨g, 0, none⟩) m cap1)) ∧
    ∀ k, k < w.heap.size → k ≠ q → (Value.slice a n cap).ownBlock ≠ some k → (w1.setCell ⟨q, j, none⟩ (.slice (some ⟨g, 0, none⟩) m cap1)).heap[k]? = w.heap[k]? := by
  have hqs : q < w.heap.size := by
    rcases Nat.lt_or_ge q w.heap.size with h | h
    · exact h
    · rw [Array.getElem?_eq_none h] at hq; cases hq
  have hgq : g ≠ q := by
    rcases hat with h | h
    · intro e; subst e; exact hne h
    · omega
  have far : ∀ k, k < w.heap.size → (Value.slice a n cap).ownBlock ≠ some k → w1.heap[k]? = w.heap[k]? := fun k hk h => (hgrow.block k (Nat.lt_of_lt_of_le hk hW.size) (Ne.symm h)).trans (hW.block k hk)
  refine ⟨heap_setCell_same w1 q j cs 70 _ ((far q hqs hne).trans hq), owns_set_other hown1 hgq _, ?_, fun k hk hkq hko => (Below.heap_setCell _ _ _ _ hkq).trans (far k hk hko)⟩
  exact Below.setCell ((hW.mono hbase).grown hgrow (Nat.le_trans hbase hW.size) (fun k hk => (hown.lt k hk).1)) hbq _

set_option maxRecDepth 100000 in
set_option maxHeartbeats 800000 in
/-- emit: one instruction more. -/
theorem emit_any (q base n cap : Nat) (a : Option Addr) (xs : List Value) (v1 v2 v3 v4 c0 c1 c2 c3 c4 : Value) (w : World) (hm : n ≤ 1000)
    (o0 : c0.oneCell' = true) (o1 : c1.oneCell' = true) (o2 : c2.oneCell' = true) (o3 : c3.oneCell' = true) (o4 : c4.oneCell' = true)
    (hq : w.heap[q]? = some (.cells #[.slice a n cap, v1, v2, v3, v4] 70 (0, 0))) (hown : w.ownsRow base 79 5 (.slice a n cap) n xs)
    (hne : (Value.slice a n cap).ownBlock ≠ some q) (hbase : base ≤ w.heap.size) (hbq : base ≤ q) :
    Calls Try.prog 41 #[.pointer (some ⟨q, 0, none⟩), .agg #[c0, c1, c2, c3, c4]] w fun e w' => ∃ g cap', e = .returned (.int .i32 n) ∧
      w'.heap[q]? = some (.cells #[.slice (some ⟨g, 0, none⟩) (n + 1) cap', v1, v2, v3, v4] 70 (0, 0)) ∧ w'.ownsRow base 79 5 (.slice (some ⟨g, 0, none⟩) (n + 1) cap') (n + 1) (xs ++ [c0, c1, c2, c3, c4]) ∧
      Below base w w' ∧ ∀ k, k < w.heap.size → k ≠ q → (Value.slice a n cap).ownBlock ≠ some k → w'.heap[k]? = w.heap[k]? := by
  obtain ⟨i0, hi, hz0, hz1, hz2⟩ := info_parts info79
  have hc : w.cell? ⟨q, 0, none⟩ = some (.slice a n cap) := by rw [cell_of_row w q 0 _ 70 (0, 0) hq]; rfl
  have hf : w.frozen? ⟨q, 0, none⟩ = false := frozen_of_row w q 0 _ 70 hq
  have hqs : q < w.heap.size := World.block_lt_of_cell? w _ hc
  have hqn : ¬ q = w.heap.size := by omega
  have hqn1 : ¬ q = w.heap.size + 1 := by omega
  have HQ : Hid (w.heap[q]? = some (.cells #[.slice a n cap, v1, v2, v3, v4] 70 (0, 0))) := hq
  clear hq
  go_enter Try.func41, Try.ntmps41
  go_wp2
  go_region_law ((refine step_append_lies _ (by rfl) (.tmp 9) (.tmp 11) 67 (by rfl) base 79 i0 _ 5 24 Try.underlying67 hi hz0 hz1 hz2 (by rfl) (by omega) _ n xs (by rfl) ((hown.alloc _).alloc _).drew ⟨w.heap.size + 1, 0, none⟩ 1 1 [c0, c1, c2, c3, c4] (by rfl) (by rfl) (news2 w _ #[c0, c1, c2, c3, c4] 79) (by simp [o0, o1, o2, o3, o4]) (by omega) (by unfold maxLen; omega) (by omega) (by simp; omega) (w.heap.size + 2) (by simp) ?_; intro g cap1 w1 hown1 hgrow hat hlt1; have hc1 := (World.cell?_of_block (w := w) (a := ⟨q, 0, none⟩) (far2 hgrow hqs hne)).trans hc; have hf1 := (World.frozen?_of_block (w := w) (a := ⟨q, 0, none⟩) (far2 hgrow hqs hne)).trans hf))
  all_goals
    go_wp2
    go_ret
    obtain ⟨r1, r2, r3, r4⟩ := close_push (j := 0) (((Below.refl _ _).alloc (Nat.le_refl _) _).alloc (by simp) _).drew hown hbq HQ.out hne hbase hown1 hgrow hat (by omega)
    exact ⟨g, cap1, rfl, r1, r2, r3, r4⟩

end Go.Proofs.Qxb6600955a
