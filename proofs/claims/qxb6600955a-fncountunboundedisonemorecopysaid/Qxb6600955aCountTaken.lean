/-
  The walk of (*compiler).count (33), taken.
-/
import Derived.Test.Qxb6600955aCount
import Derived.Deep.Cut
import Derived.Deep.CutRange
namespace Go.Proofs.Qxb6600955a
open Go.RowKit
set_option linter.unusedVariables false
attribute [local go_sem ↓] Go.wp_at_zero Go.wp_at_succ

theorem news1 (w : World) (cs : Array Value) (t : TypeId) : ∀ j u, cs.toList[j]? = some u → ((w.alloc (.cells cs t)).drew).cell? ((⟨w.heap.size, 0, none⟩ : Addr).add j) = some u :=
  World.news_of_block (t := t) (fr := (0, 0)) (heap_alloc_new w (.cells cs t))

theorem far1 {w w1 : World} {E : Obj} {row : Option Nat} {b : Nat} (hg : ((w.alloc E).drew).grownBy w1 row) (hp : b < w.heap.size) (hne : row ≠ some b) : w1.heap[b]? = w.heap[b]? :=
  (hg.block b (by show b < (w.alloc E).heap.size; rw [World.size_alloc]; omega) (Ne.symm hne)).trans (Below.heap_alloc _ _ _ hp)

theorem written_as (q : Nat) (parts d P : Int) (w : World) (h2 : w.cell? ⟨q, 2, none⟩ = some (.int .i64 parts)) (f2 : w.frozen? ⟨q, 2, none⟩ = false) (hP : parts + d = P)
    (hl : -9223372036854775808 ≤ P) (h : P ≤ 100000) :
    Calls Try.prog 40 #[.pointer (some ⟨q, 0, none⟩), .int .i64 d] w fun e w' => e = .returned (.tuple #[]) ∧ w' = w.setCell ⟨q, 2, none⟩ (.int .i64 P) := by
  subst hP
  exact written_ok q parts d w h2 f2 hl h

set_option maxRecDepth 100000 in
set_option maxHeartbeats 1600000 in
/-- count, taken: one repetition and one instruction more. -/
theorem count_taken (q nb base np nr : Nat) (parts lo hi C p next : Int) (ca : Addr) (w : World) (hcomp : Comp w base q np nr parts false)
    (h7 : w.cell? ⟨nb, 7, none⟩ = some (.int .i64 lo)) (h8 : w.cell? ⟨nb, 8, none⟩ = some (.int .i64 hi)) (hnq : nb ≠ q) (hnp : np ≤ 900) (hnr : nr ≤ 900) (hbase : base ≤ w.heap.size)
    (hC : (hi < 0 ∧ C = lo + 1 ∧ -1000000000 ≤ lo ∧ lo ≤ 1000000000) ∨ (0 ≤ hi ∧ C = hi)) (b1 : 0 ≤ C * p) (b2 : C * p ≤ 4503599627370496) (b3 : -4503599627370496 ≤ parts) (b4 : parts ≤ 4503599627370496)
    (hok : parts + C * p ≤ 100000) :
    Calls Try.prog 33 #[.pointer (some ⟨q, 0, none⟩), .pointer (some ⟨nb, 0, none⟩), .pointer (some ca), .int .i64 p, .int .i32 next] w fun e w' => e = .returned (.int .i32 np) ∧ Comp w' base q (np + 1) (nr + 1) (parts + C * p) false ∧ Below base w w' := by
  obtain ⟨hc2, hc4, hfr⟩ := comp_cells hcomp
  have hf2 := hfr 2
  clear hfr
  have hqn : ¬ q = nb := fun e => hnq e.symm
  have HC : Hid (Comp w base q np nr parts false) := hcomp
  clear hcomp
  obtain ⟨P, hP⟩ : ∃ P, parts + C * p = P := ⟨_, rfl⟩
  have HP : Hid (parts + C * p = P) := hP
  rw [hP]
  rw [hP] at hok
  clear hP
  have R := comp_parts (P := P) HC.out
  have HR : Hid (Comp (w.setCell ⟨q, 2, none⟩ (.int .i64 P)) base q np nr P false ∧ Below base w (w.setCell ⟨q, 2, none⟩ (.int .i64 P))) := R
  clear R
  obtain ⟨i0, hi0, hz0, hz1, hz2⟩ := info_parts info65
  have hCP : -9223372036854775808 ≤ P := by have := HP.out; omega
  have hC2 : hi < 0 ∧ lo + 1 = C ∧ -1000000000 ≤ lo ∧ lo ≤ 1000000000 ∨ 0 ≤ hi ∧ hi = C := by omega
  clear hC
  go_enter Try.func33, Try.ntmps33
  go_upto_if 21 with fail
  go_cut [11] from 22 to 26 (fun s wc => s = .int .i64 C ∧ wc = w)
  case first =>
    rcases hC2 with ⟨hh, hC, l1, l2⟩ | ⟨hh, hC⟩
    · have HCC : Hid (lo + 1 = C) := hC
      clear hC
      go_wp2
      go_meet
      case rel => exact ⟨by rw [HCC.out], rfl⟩
    · have HCC : Hid (hi = C) := hC
      clear hC
      go_wp2
      go_meet
      case rel => exact ⟨by rw [HCC.out], rfl⟩
  case rest =>
    obtain ⟨rfl, rfl⟩ := hcut
    clear hC2
    go_wp2_with fail
    refine (written_as q parts _ P _ hc2 hf2 HP.out hCP hok).mono ?_
    rintro e wA ⟨rfl, hwA⟩
    have HA : Hid (Comp wA base q np nr P false ∧ Below base wc wA) := by rw [hwA]; exact HR.out
    have h7a : wA.cell? ⟨nb, 7, none⟩ = some (.int .i64 lo) := by rw [hwA]; exact (World.cell?_of_block (w := wc) (a := ⟨nb, 7, none⟩) (Below.heap_setCell _ _ _ _ hnq)).trans h7
    have h8a : wA.cell? ⟨nb, 8, none⟩ = some (.int .i64 hi) := by rw [hwA]; exact (World.cell?_of_block (w := wc) (a := ⟨nb, 8, none⟩) (Below.heap_setCell _ _ _ _ hnq)).trans h8
    clear hwA hc2 hf2 hc4 h7 h8 HR HC
    obtain ⟨ap, ar, cp, cr, rep, xs, ys, hq, hp, hr, hbq⟩ := HA.out.1
    have hcr : wA.cell? ⟨q, 1, none⟩ = some (.slice ar nr cr) := by rw [cell_of_row wA q 1 _ 70 (0, 0) hq]; rfl
    have hcf : wA.cell? ⟨q, 4, none⟩ = some (.bool false) := by rw [cell_of_row wA q 4 _ 70 (0, 0) hq]; rfl
    have hfz : wA.frozen? ⟨q, 1, none⟩ = false := frozen_of_row wA q 1 _ 70 hq
    have hqs : q < wA.heap.size := World.block_lt_of_cell? wA _ hcr
    have hne := row_ne hr hq (by decide)
    have hne0 := row_ne hp hq (by decide)
    have hpr : ∀ g, (Value.slice ap np cp).ownBlock = some g → (Value.slice ar nr cr).ownBlock ≠ some g := by
      intro g h1 h2
      rcases hp.2 with ⟨h', _⟩ | ⟨g1, _, cur, hv, _, hg, _⟩
      · rw [h'] at h1; simp [Value.ownBlock] at h1
      · rw [hv] at h1
        simp [Value.ownBlock] at h1
        subst h1
        exact row_ne hr hg (by decide) h2
    have HPR : Hid (∀ g, (Value.slice ap np cp).ownBlock = some g → (Value.slice ar nr cr).ownBlock ≠ some g) := hpr
    have HQ : Hid (wA.heap[q]? = some (.cells #[.slice ap np cp, .slice ar nr cr, .int .i64 P, rep, .bool false] 70 (0, 0))) := hq
    have hnbs : nb < wA.heap.size := World.block_lt_of_cell? wA _ h7a
    have hbA : base ≤ wA.heap.size := Nat.le_trans hbase HA.out.2.size
    clear hq hpr
    have hq1 : ¬ q = wA.heap.size := by omega
    have hq2 : ¬ nb = wA.heap.size := by omega
    go_upto_region 7 with fail
    go_cut [] from 37 to 54 (fun wx => ∃ g cap1, wx.heap[q]? = some (.cells #[.slice ap np cp, .slice (some ⟨g, 0, none⟩) (nr + 1) cap1, .int .i64 P, rep, .bool false] 70 (0, 0)) ∧
        wx.ownsRow base 65 2 (.slice (some ⟨g, 0, none⟩) (nr + 1) cap1) (nr + 1) (ys ++ [.int .i64 lo, .int .i64 hi]) ∧ wx.ownsRow base 79 5 (.slice ap np cp) np xs ∧ Below base wA wx)
    case first =>
      go_region_law ((refine step_append_lies _ (by rfl) (.tmp 41) (.tmp 51) 68 (by rfl) base 65 i0 _ 2 16 Try.underlying68 hi0 hz0 hz1 hz2 (by rfl) (by omega) _ nr ys (by rfl) (hr.alloc _).drew ⟨wA.heap.size, 0, none⟩ 1 1 [.int .i64 lo, .int .i64 hi] (by rfl) (by rfl) (news1 wA #[.int .i64 lo, .int .i64 hi] 65) (by simp [Value.oneCell']) (by omega) (by unfold maxLen; omega) (by omega) (by simp; omega) (wA.heap.size + 1) (by simp) ?_; intro g cap1 w1 hown1 hgrow hat hlt1; have hc1 := (World.cell?_of_block (w := wA) (a := ⟨q, 1, none⟩) (far1 hgrow hqs hne)).trans hcr; have hf1 := (World.frozen?_of_block (w := wA) (a := ⟨q, 1, none⟩) (far1 hgrow hqs hne)).trans hfz))
      all_goals
        go_wp2_with fail
        go_meet
        obtain ⟨r1, r2, r3, r4⟩ := close_push (j := 1) ((Below.refl _ _).alloc (Nat.le_refl _) _).drew hr hbq HQ.out hne hbA hown1 hgrow hat (by omega)
        exact ⟨g, cap1, r1, r2, row_kept hp (fun g' hg' => r4 g' (hp.lt g' hg').2 (fun e => hne0 (e ▸ hg')) (HPR.out g' hg')), r3⟩
    case rest =>
      obtain ⟨g, cap1, hq', hr', hp', hb'⟩ := hcut
      have hcr' : wc.cell? ⟨q, 1, none⟩ = some (.slice (some ⟨g, 0, none⟩) (nr + 1) cap1) := by rw [cell_of_row wc q 1 _ 70 (0, 0) hq']; rfl
      have HQ' : Hid (wc.heap[q]? = some (.cells #[.slice ap np cp, .slice (some ⟨g, 0, none⟩) (nr + 1) cap1, .int .i64 P, rep, .bool false] 70 (0, 0))) := hq'
      clear hq' hcr hcf hfz h7a h8a HQ
      have hne1 := row_ne hp' HQ'.out (by decide)
      go_wp2_with fail
      refine (emit_any q base np cp ap xs _ _ _ _ _ _ _ _ _ wc (by omega) rfl rfl rfl rfl rfl HQ'.out hp' hne1 (Nat.le_trans hbA hb'.size) hbq).mono ?_
      rintro e wE ⟨g2, cap2, rfl, hqE, hpE, hbE, hkE⟩
      go_wp2
      go_ret
      have hrg : (Value.slice ap np cp).ownBlock ≠ some g := by
        intro h1
        rcases hr'.2 with ⟨h', _⟩ | ⟨g1, _, cur, hv, _, hg, _⟩
        · cases h'
        · simp only [Value.slice.injEq, Option.some.injEq, Addr.mk.injEq, and_true, true_and] at hv
          obtain ⟨rfl, rfl⟩ := hv
          exact row_ne hp' hg (by decide) h1
      have hgq : g ≠ q := fun e => row_ne hr' HQ'.out (by decide) (by rw [← e]; rfl)
      refine ⟨rfl, ⟨_, _, _, _, rep, _, _, hqE, hpE, row_kept hr' (fun g' hg' => ?_), hbq⟩, HA.out.2.trans (hb'.trans hbE)⟩
      obtain rfl : g = g' := by simpa [Value.ownBlock] using hg'
      exact hkE g (hr'.lt g rfl).2 hgq hrg

end Go.Proofs.Qxb6600955a
