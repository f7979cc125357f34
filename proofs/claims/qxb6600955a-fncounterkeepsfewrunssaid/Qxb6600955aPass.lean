/-
  The walk of pass (31) and of its door (13).
-/
import Derived.Test.Qxb6600955aPrune
import Derived.Deep.Cut
import Derived.Deep.CutRange
import Derived.Deep.CutBlock
namespace Go.Proofs.Qxb6600955a
open Go.RowKit
set_option linter.unusedVariables false

/-- The loop's relation behind a drop. -/
theorem pass_round {w wr w1 : World} {base q n k : Nat} {x : Int} {r S : List Int} {lo hi : Int} (hqs : q < w.heap.size) (hsz : w.heap.size < wr.heap.size) (hgr : w.grownBy wr (some q))
    (cl : wr.cell? ⟨w.heap.size, 0, none⟩ = some (.int .i64 lo)) (ch : wr.cell? ⟨w.heap.size, 1, none⟩ = some (.int .i64 hi)) (hpr : x :: r <:+ S)
    (h1 : Ring w1 base q n r) (hg1 : (wr.drewN k).grownBy w1 (some q)) (h0 : Ring wr base q n (x :: r)) :
    (∃ T : List Int, Ring w1 base q n T ∧ T <:+ S ∧ w1.cell? ⟨w.heap.size, 0, none⟩ = some (.int .i64 lo) ∧ w1.cell? ⟨w.heap.size, 1, none⟩ = some (.int .i64 hi) ∧ w.heap.size < w1.heap.size ∧ w.grownBy w1 (some q)) ∧ runsOf w1 q < runsOf wr q := by
  have hg : wr.grownBy w1 (some q) := grown_trans (grown_drewN k _) hg1
  refine ⟨⟨r, h1, (List.suffix_cons x r).trans hpr, (grown_cell hg hsz (by omega)).trans cl, (grown_cell hg hsz (by omega)).trans ch, Nat.lt_of_lt_of_le hsz hg.size, grown_trans hgr hg⟩, ?_⟩
  rw [h1.runsOf, h0.runsOf]
  simp

set_option maxRecDepth 100000 in
set_option maxHeartbeats 1600000 in
theorem pass_any (q base n : Nat) (S : List Int) (lo hi clk : Int) (mt : Bool) (w : World) (h : Ring w base q n S) (hS : ∀ x ∈ S, 0 ≤ x ∧ x ≤ clk) (hlo : 0 ≤ lo) (h0 : 0 ≤ clk) (b4 : clk ≤ 1000000) :
    Calls Try.prog 31 #[.pointer (some ⟨q, 0, none⟩), .agg #[.int .i64 lo, .int .i64 hi], .int .i64 clk, .bool mt] w fun e w' => ∃ (b1 b2 : Bool) (T : List Int), e = .returned (.tuple #[.bool b1, .bool b2]) ∧ Ring w' base q n T ∧ T <:+ S ∧ Pruned lo clk T ∧ w.grownBy w' (some q) := by
  have hqs := h.lt
  have HS : Hid (∀ x ∈ S, 0 ≤ x ∧ x ≤ clk) := hS
  have HR : Hid (Ring w base q n S) := h
  clear hS h
  go_enter Try.func31, Try.ntmps31
  go_upto_block 0 with fail
  go_cut [] from 10 to 26 (fun wr => ∃ T : List Int, Ring wr base q n T ∧ T <:+ S ∧ wr.cell? ⟨w.heap.size, 0, none⟩ = some (.int .i64 lo) ∧ wr.cell? ⟨w.heap.size, 1, none⟩ = some (.int .i64 hi) ∧ w.heap.size < wr.heap.size ∧ w.grownBy wr (some q))
  case first =>
    go_wp2_with fail
    go_loopw [] (fun wr => ∃ T : List Int, Ring wr base q n T ∧ T <:+ S ∧ wr.cell? ⟨w.heap.size, 0, none⟩ = some (.int .i64 lo) ∧ wr.cell? ⟨w.heap.size, 1, none⟩ = some (.int .i64 hi) ∧ w.heap.size < wr.heap.size ∧ w.grownBy wr (some q)) (fun wr => runsOf wr q)
    case atStart => exact ⟨S, HR.out.later ((Below.refl _ _).alloc (Nat.le_refl _) _), List.suffix_refl _, by simp, by simp, by simp, grown_alloc ⟨rfl, rfl, rfl, Nat.le_refl _, fun _ _ _ => rfl⟩⟩
    case round =>
      obtain ⟨T, hT, hTS, cl, ch, hsz, hgr⟩ := hrel
      have HT : Hid (Ring wr base q n T) := hT
      have HTS : Hid (∀ x ∈ T, 0 ≤ x ∧ x ≤ clk) := fun x hx => HS.out x (hTS.subset hx)
      have HPR : Hid (T <:+ S) := hTS
      obtain ⟨a, cap, first, c0, c1, c2, hfr, hTn, hn9, hfi⟩ := hT.runs
      clear hT hTS hfr hfi c0 c1
      rcases T with _ | ⟨x, r⟩
      · have c2' : wr.cell? ⟨q, 2, none⟩ = some (.int .i64 0) := c2
        clear c2
        cases mt
        all_goals
          go_wp2_with fail
          go_meet
          case rel => exact ⟨[], HT.out, HPR.out, cl, ch, hsz, hgr⟩
      · have HM0 : Hid (∀ _k : Nat, Calls Try.prog 34 #[.pointer (some ⟨q, 0, none⟩), .int .i64 0, .int .i64 clk] wr fun e w'' => e = .returned (.int .i64 (clk - x)) ∧ ∃ k, w'' = wr.drewN k) := fun _ => matched_ring q base n 0 (x :: r) clk wr HT.out (by simp) HTS.out b4
        have c2' : wr.cell? ⟨q, 2, none⟩ = some (.int .i64 ((r.length : Int) + 1)) := by rw [c2]; simp
        clear c2
        have e1 : (0 : Int) < (r.length : Int) + 1 := by omega
        cases mt
        · by_cases hpos : x < clk
          · go_wp2_with (go_at_call 34; refine (HM0.out 0).mono ?_; rintro e w'' ⟨rfl, k, rfl⟩)
            refine (drop_ring q base n x r _ (HT.out.later (below_drewN (Below.refl _ _) _))).mono ?_
            rintro e w1 ⟨rfl, hR1, hg1⟩
            have P := pass_round hqs hsz hgr cl ch HPR.out hR1 hg1 HT.out
            clear hR1 hg1
            go_wp2
            go_roundw
            case rel => exact P.1
            case measure => exact P.2
          · go_wp2_with (go_at_call 34; refine (HM0.out 0).mono ?_; rintro e w'' ⟨rfl, k, rfl⟩)
            go_meet
            case rel => exact ⟨x :: r, HT.out.later (below_drewN (Below.refl _ _) _), HPR.out, by simpa using cl, by simpa using ch, by simpa using hsz, grown_trans hgr (grown_drewN _ _)⟩
        · go_wp2_with fail
          go_meet
          case rel => exact ⟨x :: r, HT.out, HPR.out, cl, ch, hsz, hgr⟩
  case rest =>
    obtain ⟨T, hT, hTS, cl, ch, hsz, hgr⟩ := hcut
    have HTS : Hid (∀ x ∈ T, 0 ≤ x ∧ x ≤ clk) := fun x hx => HS.out x (hTS.subset hx)
    go_wp2_with fail
    refine (prune_any q base n T lo hi clk wc hT HTS.out hlo h0 b4).mono ?_
    rintro e w2 ⟨rfl, hR2, hg2⟩
    have cl2 := (grown_cell (o := 0) hg2 hsz (by omega)).trans cl
    have ch2 := (grown_cell (o := 1) hg2 hsz (by omega)).trans ch
    have hgr2 : w.grownBy w2 (some q) := grown_trans hgr hg2
    have hsz2 : w.heap.size < w2.heap.size := Nat.lt_of_lt_of_le hsz hg2.size
    obtain ⟨U, hU⟩ : ∃ U, pruneL lo hi clk T = U := ⟨_, rfl⟩
    have HU : Hid (U <:+ S ∧ Pruned lo clk U ∧ ∀ x ∈ U, 0 ≤ x ∧ x ≤ clk) := by
      rw [← hU]
      have hs := pruneL_suffix lo hi clk T
      exact ⟨hs.trans hTS, pruneL_pruned lo hi clk T, fun x hx => HTS.out x (hs.subset hx)⟩
    rw [hU] at hR2
    have HR2 : Hid (Ring w2 base q n U) := hR2
    obtain ⟨a, cap, first, c0, c1, c2, hfr, hTn, hn9, hfi⟩ := hR2.runs
    clear hT hTS hU hfr hfi c0 c1 hR2 hg2 hgr cl ch hsz
    rcases U with _ | ⟨x, r⟩
    · have c2' : w2.cell? ⟨q, 2, none⟩ = some (.int .i64 0) := c2
      clear c2
      go_wp2
      go_ret2
      exact ⟨_, _, [], rfl, HR2.out, HU.out.1, HU.out.2.1, hgr2⟩
    · have c2' : w2.cell? ⟨q, 2, none⟩ = some (.int .i64 ((r.length : Int) + 1)) := by rw [c2]; simp
      clear c2
      have e1 : (((r.length : Int) + 1) == 0) = false := by rw [beq_eq_false_iff_ne]; omega
      have hrl : r.length ≤ 9000 := by simp at hTn; omega
      have HM0 : Hid (∀ k : Nat, Calls Try.prog 34 #[.pointer (some ⟨q, 0, none⟩), .int .i64 0, .int .i64 clk] (w2.drewN k) fun e w'' => e = .returned (.int .i64 (clk - x)) ∧ ∃ m, w'' = w2.drewN m) := fun k =>
        (matched_ring q base n 0 (x :: r) clk (w2.drewN k) (HR2.out.later (below_drewN (Below.refl _ _) k)) (by simp) HU.out.2.2 b4).mono fun e w' ⟨he, m, hm⟩ => ⟨he, k + m, by rw [hm, World.drewN_drewN]⟩
      have HMl : Hid (∀ j k : Nat, Calls Try.prog 34 #[.pointer (some ⟨q, 0, none⟩), .int .i64 r.length, .int .i64 clk] (w2.drewN (j + k)) fun e w'' => e = .returned (.int .i64 (clk - (x :: r)[r.length])) ∧ ∃ m, w'' = w2.drewN (j + m)) := fun j k =>
        (matched_ring q base n r.length (x :: r) clk (w2.drewN (j + k)) (HR2.out.later (below_drewN (Below.refl _ _) (j + k))) (by simp) HU.out.2.2 b4).mono fun e w' ⟨he, m, hm⟩ => ⟨he, k + m, by rw [hm, World.drewN_drewN, Nat.add_assoc]⟩
      have hwr : IntKind.i64.wrap (r.length : Int) = (r.length : Int) := by rw [IntKind.wrap_i64]; omega
      obtain ⟨y, hy⟩ : ∃ y, (x :: r)[r.length] = y := ⟨_, rfl⟩
      rw [hy] at HMl
      clear hy
      have fin : ∀ (b1 b2 : Bool) (wx : World) (k : Nat), wx = w2.drewN k → ∃ (c1 c2 : Bool) (T : List Int), Ending.returned (.tuple #[.bool b1, .bool b2]) = .returned (.tuple #[.bool c1, .bool c2]) ∧ Ring wx base q n T ∧ T <:+ S ∧ Pruned lo clk T ∧ w.grownBy wx (some q) := by
        rintro b1 b2 wx k rfl
        exact ⟨b1, b2, x :: r, rfl, HR2.out.later (below_drewN (Below.refl _ _) k), HU.out.1, HU.out.2.1, grown_trans hgr2 (grown_drewN _ _)⟩
      have HF : Hid (∀ (b1 b2 : Bool) (wx : World) (k : Nat), wx = w2.drewN k → ∃ (c1 c2 : Bool) (T : List Int), Ending.returned (.tuple #[.bool b1, .bool b2]) = .returned (.tuple #[.bool c1, .bool c2]) ∧ Ring wx base q n T ∧ T <:+ S ∧ Pruned lo clk T ∧ w.grownBy wx (some q)) := fin
      clear fin
      by_cases hneg : hi < 0
      · have d1 : decide (hi < 0) = true := by simp [hneg]
        go_wp2
        go_quiet ((go_at_call 34; exact HM0.out _))
        go_wp2
        go_quiet (fail)
        go_wp2
        go_ret2
        exact HF.out _ _ _ _ rfl
      · have d1 : decide (hi < 0) = false := by simp; omega
        by_cases hmore : clk - y < hi
        · have d2 : decide (clk - y < hi) = true := by simp [hmore]
          go_wp2
          go_quiet ((go_at_call 34; exact HM0.out _))
          go_wp2
          go_quiet ((go_at_call 34; exact HMl.out _ _))
          go_wp2
          go_ret2
          exact HF.out _ _ _ _ rfl
        · have d2 : decide (clk - y < hi) = false := by simp; omega
          go_wp2
          go_quiet ((go_at_call 34; exact HM0.out _))
          go_wp2
          go_quiet ((go_at_call 34; exact HMl.out _ _))
          go_wp2_with fail
          refine (reset_any q base n (x :: r) _ (HR2.out.later (below_drewN (Below.refl _ _) _))).mono ?_
          rintro e w3 ⟨rfl, hR3, hg3⟩
          go_wp2
          go_ret2
          exact ⟨_, _, [], rfl, hR3, List.nil_suffix, pruned_nil _ _, grown_trans hgr2 (grown_trans (grown_drewN _ _) hg3)⟩


/-- ZZCounterPass. -/
theorem zzpass_any (q base n : Nat) (S : List Int) (lo hi clk : Int) (mt : Bool) (w : World) (h : Ring w base q n S) (hS : ∀ x ∈ S, 0 ≤ x ∧ x ≤ clk) (hlo : 0 ≤ lo) (h0 : 0 ≤ clk) (b4 : clk ≤ 1000000) :
    Calls Try.prog 13 #[.pointer (some ⟨q, 0, none⟩), .int .i64 lo, .int .i64 hi, .int .i64 clk, .bool mt] w fun e w' => ∃ (b1 b2 : Bool) (T : List Int), e = .returned (.tuple #[.bool b1, .bool b2]) ∧ Ring w' base q n T ∧ T <:+ S ∧ Pruned lo clk T ∧ w.grownBy w' (some q) := by
  go_enter Try.func13, Try.ntmps13
  go_wp2_with fail
  refine (pass_any q base n S lo hi clk mt w h hS hlo h0 b4).mono ?_
  rintro e w1 ⟨b1, b2, T, rfl, hR, hs, hp, hg⟩
  go_wp2
  go_ret2
  exact ⟨b1, b2, T, rfl, hR, hs, hp, hg⟩

end Go.Proofs.Qxb6600955a
