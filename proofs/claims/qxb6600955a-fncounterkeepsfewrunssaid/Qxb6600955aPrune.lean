/-
  The walk of prune (36).
-/
import Derived.Test.Qxb6600955aCnt
namespace Go.Proofs.Qxb6600955a
open Go.RowKit
set_option linter.unusedVariables false

theorem grown_trans {w w1 w2 : World} {row : Option Nat} (h1 : w.grownBy w1 row) (h2 : w1.grownBy w2 row) : w.grownBy w2 row :=
  ⟨h2.os.trans h1.os, h2.tape.trans h1.tape, h2.output.trans h1.output, Nat.le_trans h1.size h2.size, fun k hk hr => (h2.block k (Nat.lt_of_lt_of_le hk h1.size) hr).trans (h1.block k hk hr)⟩
theorem grown_drewN {w : World} (k : Nat) (row : Option Nat) : w.grownBy (w.drewN k) row := ⟨rfl, rfl, rfl, Nat.le_refl _, fun _ _ _ => rfl⟩
theorem grown_cell {w w' : World} {q b o : Nat} (h : w.grownBy w' (some q)) (hb : b < w.heap.size) (hne : b ≠ q) : w'.cell? ⟨b, o, none⟩ = w.cell? ⟨b, o, none⟩ :=
  World.cell?_of_block (w := w) (a := ⟨b, o, none⟩) (h.block b hb (fun e => hne (Option.some.inj e)))
theorem grown_below {w w' : World} {base q : Nat} (h : w.grownBy w' (some q)) (hb : base ≤ q) (hw : base ≤ w.heap.size) : Below base w w' :=
  (Below.refl base w).grown h hw (fun k hk => by have := Option.some.inj hk; omega)
theorem grown_alloc {w w' : World} {row : Option Nat} {o : Obj} (h : (w.alloc o).grownBy w' row) : w.grownBy w' row :=
  ⟨h.os, h.tape, h.output, Nat.le_trans (by simp) h.size, fun k hk hr => (h.block k (by simp; omega) hr).trans (Below.heap_alloc _ _ _ hk)⟩

/-- How many runs the counter at q has: read off its cell. -/
def runsOf (w : World) (q : Nat) : Nat := match w.cell? ⟨q, 2, none⟩ with | some v => (intOf v).toNat | none => 0

theorem Ring.runsOf {w : World} {base q n : Nat} {S : List Int} (h : Ring w base q n S) : runsOf w q = S.length := by
  obtain ⟨a, cap, first, c0, c1, c2, _⟩ := h.runs
  unfold Qxb6600955a.runsOf
  rw [c2]
  simp [intOf]

theorem pruneL_drop {lo hi clk x : Int} {r : List Int} (h : (0 ≤ hi ∧ hi < clk - x) ∨ ∃ h : 0 < r.length, lo ≤ clk - r[0]) : pruneL lo hi clk (x :: r) = pruneL lo hi clk r := by
  rw [pruneL]; exact if_pos h
theorem pruneL_stay {lo hi clk x : Int} {r : List Int} (h : ¬ ((0 ≤ hi ∧ hi < clk - x) ∨ ∃ h : 0 < r.length, lo ≤ clk - r[0])) : pruneL lo hi clk (x :: r) = x :: r := by
  rw [pruneL]; exact if_neg h

/-- The round's relation behind a drop. -/
theorem prune_round {w wr w1 : World} {base q n k : Nat} {x : Int} {r S : List Int} {lo hi clk : Int} (hqs : q < w.heap.size) (hsz : w.heap.size < wr.heap.size) (hgr : w.grownBy wr (some q))
    (cl : wr.cell? ⟨w.heap.size, 0, none⟩ = some (.int .i64 lo)) (ch : wr.cell? ⟨w.heap.size, 1, none⟩ = some (.int .i64 hi)) (hpr : x :: r <:+ S ∧ pruneL lo hi clk (x :: r) = pruneL lo hi clk S)
    (hd : (0 ≤ hi ∧ hi < clk - x) ∨ ∃ h : 0 < r.length, lo ≤ clk - r[0]) (h1 : Ring w1 base q n r) (hg1 : (wr.drewN k).grownBy w1 (some q)) (h0 : Ring wr base q n (x :: r)) :
    (∃ T : List Int, Ring w1 base q n T ∧ T <:+ S ∧ pruneL lo hi clk T = pruneL lo hi clk S ∧ w1.cell? ⟨w.heap.size, 0, none⟩ = some (.int .i64 lo) ∧ w1.cell? ⟨w.heap.size, 1, none⟩ = some (.int .i64 hi) ∧ w.heap.size < w1.heap.size ∧ w.grownBy w1 (some q)) ∧ Qxb6600955a.runsOf w1 q < Qxb6600955a.runsOf wr q := by
  have hg : wr.grownBy w1 (some q) := grown_trans (grown_drewN k _) hg1
  refine ⟨⟨r, h1, (List.suffix_cons x r).trans hpr.1, (pruneL_drop hd).symm.trans hpr.2, (grown_cell hg hsz (by omega)).trans cl, (grown_cell hg hsz (by omega)).trans ch, Nat.lt_of_lt_of_le hsz hg.size, grown_trans hgr hg⟩, ?_⟩
  rw [h1.runsOf, h0.runsOf]
  simp

set_option maxRecDepth 100000 in
set_option maxHeartbeats 1600000 in
theorem prune_any (q base n : Nat) (S : List Int) (lo hi clk : Int) (w : World) (h : Ring w base q n S) (hS : ∀ x ∈ S, 0 ≤ x ∧ x ≤ clk) (hlo : 0 ≤ lo) (h0 : 0 ≤ clk) (b4 : clk ≤ 1000000) :
    Calls Try.prog 36 #[.pointer (some ⟨q, 0, none⟩), .agg #[.int .i64 lo, .int .i64 hi], .int .i64 clk] w fun e w' => e = .returned (.tuple #[]) ∧ Ring w' base q n (pruneL lo hi clk S) ∧ w.grownBy w' (some q) := by
  have hqs := h.lt
  have HS : Hid (∀ x ∈ S, 0 ≤ x ∧ x ≤ clk) := hS
  have HR : Hid (Ring w base q n S) := h
  clear hS h
  go_enter Try.func36, Try.ntmps36
  go_wp2
  go_loopw [] (fun wr => ∃ T : List Int, Ring wr base q n T ∧ T <:+ S ∧ pruneL lo hi clk T = pruneL lo hi clk S ∧ wr.cell? ⟨w.heap.size, 0, none⟩ = some (.int .i64 lo) ∧ wr.cell? ⟨w.heap.size, 1, none⟩ = some (.int .i64 hi) ∧ w.heap.size < wr.heap.size ∧ w.grownBy wr (some q)) (fun wr => runsOf wr q)
  case atStart => exact ⟨S, HR.out.later ((Below.refl _ _).alloc (Nat.le_refl _) _), List.suffix_refl _, rfl, by simp, by simp, by simp, grown_alloc ⟨rfl, rfl, rfl, Nat.le_refl _, fun _ _ _ => rfl⟩⟩
  case round =>
    obtain ⟨T, hT, hTS, hpr, cl, ch, hsz, hgr⟩ := hrel
    have HT : Hid (Ring wr base q n T) := hT
    have HTS : Hid (∀ x ∈ T, 0 ≤ x ∧ x ≤ clk) := fun x hx => HS.out x (hTS.subset hx)
    have HPR : Hid (T <:+ S ∧ pruneL lo hi clk T = pruneL lo hi clk S) := ⟨hTS, hpr⟩
    obtain ⟨a, cap, first, c0, c1, c2, hfr, hTn, hn9, hfi⟩ := hT.runs
    obtain ⟨R, hRl⟩ : ∃ R, T.length = R := ⟨_, rfl⟩
    have HRL : Hid (T.length = R) := hRl
    rw [hRl] at c2 hTn
    have hrun : runsOf wr q = R := by unfold runsOf; rw [c2]; simp [intOf]
    have HRUN : Hid (runsOf wr q = R) := hrun
    clear hT hTS hpr hRl hfr hrun hfi c0 c1
    have m0 : ∀ (h0 : 0 < T.length) (k : Nat), Calls Try.prog 34 #[.pointer (some ⟨q, 0, none⟩), .int .i64 0, .int .i64 clk] (wr.drewN k) fun e w'' => e = .returned (.int .i64 (clk - T[0])) ∧ ∃ m, w'' = wr.drewN m := fun h0 k =>
      (matched_ring q base n 0 T clk (wr.drewN k) (HT.out.later (below_drewN (Below.refl _ _) k)) h0 HTS.out b4).mono fun e w' ⟨he, m, hm⟩ => ⟨he, k + m, by rw [hm, World.drewN_drewN]⟩
    have m1 : ∀ (h0 : 1 < T.length) (k : Nat), Calls Try.prog 34 #[.pointer (some ⟨q, 0, none⟩), .int .i64 1, .int .i64 clk] (wr.drewN k) fun e w'' => e = .returned (.int .i64 (clk - T[1])) ∧ ∃ m, w'' = wr.drewN m := fun h0 k =>
      (matched_ring q base n 1 T clk (wr.drewN k) (HT.out.later (below_drewN (Below.refl _ _) k)) h0 HTS.out b4).mono fun e w' ⟨he, m, hm⟩ => ⟨he, k + m, by rw [hm, World.drewN_drewN]⟩
    have M0 : Hid (∀ (h0 : 0 < T.length) (k : Nat), Calls Try.prog 34 #[.pointer (some ⟨q, 0, none⟩), .int .i64 0, .int .i64 clk] (wr.drewN k) fun e w'' => e = .returned (.int .i64 (clk - T[0])) ∧ ∃ m, w'' = wr.drewN m) := m0
    have M1 : Hid (∀ (h0 : 1 < T.length) (k : Nat), Calls Try.prog 34 #[.pointer (some ⟨q, 0, none⟩), .int .i64 1, .int .i64 clk] (wr.drewN k) fun e w'' => e = .returned (.int .i64 (clk - T[1])) ∧ ∃ m, w'' = wr.drewN m) := m1
    clear m0 m1
    match T, HT, HTS, HPR, HRL, M0, M1 with
    | [], HT, HTS, HPR, HRL, M0, M1 =>
      obtain rfl : 0 = R := HRL.out
      go_wp2
      go_quiet (fail)
      go_wp2
      go_end0
      refine ⟨rfl, ?_, grown_trans hgr (grown_drewN _ _)⟩
      rw [← HPR.out.2]
      exact HT.out.later (below_drewN (Below.refl _ _) _)
    | [x], HT, HTS, HPR, HRL, M0, M1 =>
      obtain rfl : 1 = R := HRL.out
      by_cases h1 : 0 ≤ hi
      · have d1 : decide (0 ≤ hi) = true := by simp [h1]
        by_cases h2 : hi < clk - x
        · have d2 : decide (hi < clk - x) = true := by simp [h2]
          go_wp2
          go_quiet ((go_at_call_of 34 (Value.int .i64 0); exact M0.out (by simp) _))
          go_wp2_with fail
          refine (drop_ring q base n x [] _ (HT.out.later (below_drewN (Below.refl _ _) _))).mono ?_
          rintro e w1 ⟨rfl, hR1, hg1⟩
          have P := prune_round hqs hsz hgr cl ch HPR.out (.inl ⟨h1, h2⟩) hR1 hg1 HT.out
          clear hR1 hg1
          go_wp2
          go_roundw
          case rel => exact P.1
          case measure => exact P.2
        · have d2 : decide (hi < clk - x) = false := by simp; omega
          go_wp2
          go_quiet ((go_at_call_of 34 (Value.int .i64 0); exact M0.out (by simp) _))
          go_wp2
          go_end0
          refine ⟨rfl, ?_, grown_trans hgr (grown_drewN _ _)⟩
          rw [← HPR.out.2, pruneL_stay (by simp; omega)]
          exact HT.out.later (below_drewN (Below.refl _ _) _)
      · have d1 : decide (0 ≤ hi) = false := by simp; omega
        go_wp2
        go_quiet (fail)
        go_wp2
        go_end0
        refine ⟨rfl, ?_, grown_trans hgr (grown_drewN _ _)⟩
        rw [← HPR.out.2, pruneL_stay (by simp; omega)]
        exact HT.out.later (below_drewN (Below.refl _ _) _)
    | x :: y :: r, HT, HTS, HPR, HRL, M0, M1 =>
      obtain ⟨t, rfl⟩ : ∃ t, R = t + 2 := ⟨r.length, by have := HRL.out; simp at this; omega⟩
      have e1 : (0 : Int) < (t : Int) + 2 := by omega
      have e2 : (1 : Int) < (t : Int) + 2 := by omega
      have e3 : decide ((0 : Int) < (t : Int) + 2) = true := by simp; omega
      have e4 : decide ((1 : Int) < (t : Int) + 2) = true := by simp; omega
      by_cases h1 : 0 ≤ hi
      · have d1 : decide (0 ≤ hi) = true := by simp [h1]
        by_cases h2 : hi < clk - x
        · have d2 : decide (hi < clk - x) = true := by simp [h2]
          go_wp2
          go_quiet ((go_at_call_of 34 (Value.int .i64 0); exact M0.out (by simp) _))
          go_wp2_with fail
          refine (drop_ring q base n x (y :: r) _ (HT.out.later (below_drewN (Below.refl _ _) _))).mono ?_
          rintro e w1 ⟨rfl, hR1, hg1⟩
          have P := prune_round hqs hsz hgr cl ch HPR.out (.inl ⟨h1, h2⟩) hR1 hg1 HT.out
          clear hR1 hg1
          go_wp2
          go_roundw
          case rel => exact P.1
          case measure => exact P.2
        · have d2 : decide (hi < clk - x) = false := by simp; omega
          by_cases h3 : lo ≤ clk - y
          · have d3 : decide (lo ≤ clk - y) = true := by simp [h3]
            go_wp2
            go_quiet (first | (go_at_call_of 34 (Value.int .i64 0); exact M0.out (by simp) _) | (go_at_call_of 34 (Value.int .i64 1); exact M1.out (by simp) _))
            go_wp2_with fail
            refine (drop_ring q base n x (y :: r) _ (HT.out.later (below_drewN (Below.refl _ _) _))).mono ?_
            rintro e w1 ⟨rfl, hR1, hg1⟩
            have P := prune_round hqs hsz hgr cl ch HPR.out (.inr ⟨by simp, by simpa using h3⟩) hR1 hg1 HT.out
            clear hR1 hg1
            go_wp2
            go_roundw
            case rel => exact P.1
            case measure => exact P.2
          · have d3 : decide (lo ≤ clk - y) = false := by simp; omega
            go_wp2
            go_quiet (first | (go_at_call_of 34 (Value.int .i64 0); exact M0.out (by simp) _) | (go_at_call_of 34 (Value.int .i64 1); exact M1.out (by simp) _))
            go_wp2
            go_end0
            refine ⟨rfl, ?_, grown_trans hgr (grown_drewN _ _)⟩
            rw [← HPR.out.2, pruneL_stay (by simp; omega)]
            exact HT.out.later (below_drewN (Below.refl _ _) _)
      · have d1 : decide (0 ≤ hi) = false := by simp; omega
        by_cases h3 : lo ≤ clk - y
        · have d3 : decide (lo ≤ clk - y) = true := by simp [h3]
          go_wp2
          go_quiet ((go_at_call_of 34 (Value.int .i64 1); exact M1.out (by simp) _))
          go_wp2_with fail
          refine (drop_ring q base n x (y :: r) _ (HT.out.later (below_drewN (Below.refl _ _) _))).mono ?_
          rintro e w1 ⟨rfl, hR1, hg1⟩
          have P := prune_round hqs hsz hgr cl ch HPR.out (.inr ⟨by simp, by simpa using h3⟩) hR1 hg1 HT.out
          clear hR1 hg1
          go_wp2
          go_roundw
          case rel => exact P.1
          case measure => exact P.2
        · have d3 : decide (lo ≤ clk - y) = false := by simp; omega
          go_wp2
          go_quiet ((go_at_call_of 34 (Value.int .i64 1); exact M1.out (by simp) _))
          go_wp2
          go_end0
          refine ⟨rfl, ?_, grown_trans hgr (grown_drewN _ _)⟩
          rw [← HPR.out.2, pruneL_stay (by simp; omega)]
          exact HT.out.later (below_drewN (Below.refl _ _) _)

end Go.Proofs.Qxb6600955a
