/-
  The walk of start (32) and of its door (15).
-/
import Derived.Test.Qxb6600955aGrow
import Derived.Deep.CutBlock
namespace Go.Proofs.Qxb6600955a
open Go.RowKit
set_option linter.unusedVariables false
attribute [local go_sem ↓] Go.wp_at_zero Go.wp_at_succ

/-- Did the youngest run start at the clock? -/
def lastIs (S : List Int) (clk : Int) : Bool := decide (∃ h : 0 < S.length, S[S.length - 1] = clk)

theorem lastIs_nil (clk : Int) : lastIs [] clk = false := by simp [lastIs]
theorem lastIs_cons (x : Int) (r : List Int) (clk y : Int) (hy : (x :: r)[r.length] = y) : lastIs (x :: r) clk = (clk - y == 0) := by
  unfold lastIs
  rw [Bool.eq_iff_iff, decide_eq_true_iff, beq_iff_eq]
  constructor
  · rintro ⟨h, e⟩
    have : (x :: r)[(x :: r).length - 1] = y := hy
    omega
  · intro h
    refine ⟨by simp, ?_⟩
    have : (x :: r)[(x :: r).length - 1] = y := hy
    omega

/-- The counter behind a store into its ring. -/
theorem Cnt.setZ {w : World} {base q n first runs : Nat} {zs : List Int} (h : Cnt w base q n first runs zs) (g cap p : Nat) (c : Int) (hc : w.cell? ⟨q, 0, none⟩ = some (.slice (some ⟨g, 0, none⟩) n cap)) (hpn : p < n) :
    Cnt (w.setCell ⟨g, p, none⟩ (.int .i64 c)) base q n first runs (zs.set p c) ∧ g ≠ q ∧ base ≤ g := by
  obtain ⟨a, cap', hq, ho, hbq⟩ := h
  have e : w.cell? ⟨q, 0, none⟩ = some (.slice a n cap') := by rw [cell_of_row w q 0 _ 62 (0, 0) hq]; rfl
  rw [e] at hc
  cases hc
  have hne : g ≠ q := fun e => rowc_ne ho hq (by decide) (by rw [← e]; rfl)
  have hst := (ho.stored p (.int .i64 c)).1
  refine ⟨⟨_, _, (Below.heap_setCell _ _ _ _ (Ne.symm hne)).trans hq, ?_, hbq⟩, hne, (ho.lt g rfl).1⟩
  rw [List.map_set]
  exact hst

/-- Behind grow the boxed repetition is as it was. -/
theorem start_grown {w wr w1 : World} {q k : Nat} {ob : Obj} (hqs : q < w.heap.size) (hsz : w.heap.size < wr.heap.size) (hgr : w.grownBy wr (some q))
    (hrep : wr.heap[w.heap.size]? = some ob) (hg1 : (wr.drewN k).grownBy w1 (some q)) :
    w1.heap[w.heap.size]? = some ob ∧ w.heap.size < w1.heap.size ∧ w.grownBy w1 (some q) := by
  have hg : wr.grownBy w1 (some q) := grown_trans (grown_drewN k _) hg1
  exact ⟨(hg.block _ hsz (fun e => by have := Option.some.inj e; omega)).trans hrep, Nat.lt_of_lt_of_le hsz hg.size, grown_trans hgr hg⟩

set_option maxRecDepth 100000 in
set_option maxHeartbeats 1600000 in
theorem start_any (q base n : Nat) (S : List Int) (lo hi clk : Int) (w : World) (h : Ring w base q n S) (hS : ∀ x ∈ S, 0 ≤ x ∧ x ≤ clk) (hlo : 0 ≤ lo) (hlo2 : lo ≤ 9223372036854775807) (h0 : 0 ≤ clk) (b4 : clk ≤ 1000000)
    (hrun : (S.length : Int) ≤ lo + 1) (hnlo : (n : Int) ≤ lo + 2) (hSl : S.length ≤ 4200) (hbase : base ≤ w.heap.size) :
    Calls Try.prog 32 #[.pointer (some ⟨q, 0, none⟩), .agg #[.int .i64 lo, .int .i64 hi], .int .i64 clk] w fun e w' => ∃ b : Bool, e = .returned (.bool b) ∧ Below base w w' ∧
      (Ring w' base q n S ∨ ∃ (m : Nat) (T : List Int), lastIs S clk = false ∧ Ring w' base q m T ∧ T <:+ S ++ [clk] ∧ Pruned lo clk T ∧ (m : Int) ≤ lo + 2) := by
  have hqs := h.lt
  have hbq := h.base_le
  have HS : Hid (∀ x ∈ S, 0 ≤ x ∧ x ≤ clk) := hS
  have HR : Hid (Ring w base q n S) := h
  have HLO : Hid (lo ≤ 9223372036854775807 ∧ (S.length : Int) ≤ lo + 1 ∧ (n : Int) ≤ lo + 2 ∧ S.length ≤ 4200) := ⟨hlo2, hrun, hnlo, hSl⟩
  clear hS h hlo2 hrun hnlo hSl
  go_enter Try.func32, Try.ntmps32
  go_upto_region 1 with fail
  go_cut [22] from 7 to 21 (fun s wx => s = .bool (lastIs S clk) ∧ Ring wx base q n S ∧ wx.heap[w.heap.size]? = some (.cells #[.int .i64 lo, .int .i64 hi] 65 (0, 0)) ∧ w.heap.size < wx.heap.size ∧ w.grownBy wx (some q))
  case first =>
    have hR1 := HR.out.later ((Below.refl _ _).alloc (Nat.le_refl _) (.cells #[.int .i64 lo, .int .i64 hi] 65))
    have HR1 : Hid (Ring (w.alloc (.cells #[.int .i64 lo, .int .i64 hi] 65)) base q n S) := hR1
    have hgr : w.grownBy (w.alloc (.cells #[.int .i64 lo, .int .i64 hi] 65)) (some q) := grown_alloc ⟨rfl, rfl, rfl, Nat.le_refl _, fun _ _ _ => rfl⟩
    obtain ⟨a, cap, first, c0, c1, c2, hfr, hTn, hn9, hfi⟩ := HR.out.runs
    clear hR1 hfr hfi c0 c1
    rcases S with _ | ⟨x, r⟩
    · have c2' : w.cell? ⟨q, 2, none⟩ = some (.int .i64 0) := c2
      clear c2
      go_wp2_with fail
      go_meet
      case rel => exact ⟨by rw [lastIs_nil], HR1.out, heap_alloc_new w _, by simp, hgr⟩
    · obtain ⟨y, hy⟩ : ∃ y, (x :: r)[r.length] = y := ⟨_, rfl⟩
      have HM : Hid (∀ _k : Nat, Calls Try.prog 34 #[.pointer (some ⟨q, 0, none⟩), .int .i64 r.length, .int .i64 clk] (w.alloc (.cells #[.int .i64 lo, .int .i64 hi] 65)) fun e w'' => e = .returned (.int .i64 (clk - y)) ∧ ∃ k, w'' = (w.alloc (.cells #[.int .i64 lo, .int .i64 hi] 65)).drewN k) := fun _ => by
        have := matched_ring q base n r.length (x :: r) clk _ HR1.out (by simp) HS.out b4
        rw [hy] at this
        exact this
      have HY : Hid (lastIs (x :: r) clk = (clk - y == 0)) := lastIs_cons x r clk y hy
      have c2' : w.cell? ⟨q, 2, none⟩ = some (.int .i64 ((r.length : Int) + 1)) := by rw [c2]; simp
      have hrl : r.length ≤ 9000 := by simp at hTn; omega
      have hwr : IntKind.i64.wrap (r.length : Int) = (r.length : Int) := by rw [IntKind.wrap_i64]; omega
      have e1 : (0 : Int) < (r.length : Int) + 1 := by omega
      clear c2 hy
      go_wp2_with (go_at_call 34; refine (HM.out 0).mono ?_; rintro e w'' ⟨rfl, k, rfl⟩)
      go_meet
      case rel => exact ⟨by rw [HY.out], HR1.out.later (below_drewN (Below.refl _ _) _), heap_alloc_new w _, by simp, grown_trans hgr (grown_drewN _ _)⟩
  case rest =>
    obtain ⟨rfl, hR1, hrep, hsz, hgr⟩ := hcut
    have HREP : Hid (wc.heap[w.heap.size]? = some (.cells #[.int .i64 lo, .int .i64 hi] 65 (0, 0))) := hrep
    have cl : wc.cell? ⟨w.heap.size, 0, none⟩ = some (.int .i64 lo) := by rw [cell_of_row wc w.heap.size 0 _ 65 (0, 0) hrep]; rfl
    have ch : wc.cell? ⟨w.heap.size, 1, none⟩ = some (.int .i64 hi) := by rw [cell_of_row wc w.heap.size 1 _ 65 (0, 0) hrep]; rfl
    clear hrep
    cases hli : lastIs S clk with
    | true =>
      go_wp2
      go_ret
      exact ⟨false, rfl, grown_below hgr hbq hbase, .inl hR1⟩
    | false =>
      have HLI : Hid (lastIs S clk = false) := hli
      have HR1 : Hid (Ring wc base q n S) := hR1
      obtain ⟨a, cap, first, c0, c1, c2, hfr, hTn, hn9, hfi⟩ := hR1.runs
      clear hR1 hli hfr hfi c1
      go_wp2
      go_quiet (fail)
      go_upto_if 32 with fail
      go_cut [] from 23 to 35 (fun wx => ∃ m : Nat, Ring wx base q m S ∧ S.length < m ∧ (m : Int) ≤ lo + 2 ∧ wx.heap[w.heap.size]? = some (.cells #[.int .i64 lo, .int .i64 hi] 65 (0, 0)) ∧ w.heap.size < wx.heap.size ∧ w.grownBy wx (some q))
      case first =>
        by_cases hfull : S.length = n
        · have g1 : ((S.length : Int) == (n : Int)) = true := by rw [beq_iff_eq]; omega
          have HFU : Hid (S.length = n) := hfull
          clear hfull
          go_wp2_with fail
          refine (grow_any q base n S lo hi _ (HR1.out.later (below_drewN (Below.refl _ _) _)) HFU.out hlo (by have := HLO.out.2.2.2; have := HFU.out; omega) (by have := HLO.out.2.1; have := HFU.out; omega) HLO.out.1 (Nat.le_trans hbase hgr.size)).mono ?_
          rintro e w3 ⟨m, rfl, hR3, hm1, hm2, hg3⟩
          have P := start_grown hqs hsz hgr HREP.out hg3
          go_wp2_with fail
          go_meet
          case rel => exact ⟨m, hR3, by have := HFU.out; omega, hm2, P⟩
        · have g1 : ((S.length : Int) == (n : Int)) = false := by rw [beq_eq_false_iff_ne]; omega
          go_wp2_with fail
          go_meet
          case rel => exact ⟨n, HR1.out.later (below_drewN (Below.refl _ _) _), by omega, HLO.out.2.2.1, HREP.out, by simpa using hsz, grown_trans hgr (grown_drewN _ _)⟩
      case rest =>
        obtain ⟨m, hR2, hSm, hml, hrep2, hsz2, hgr2⟩ := hcut
        have HREP2 : Hid (wc.heap[w.heap.size]? = some (.cells #[.int .i64 lo, .int .i64 hi] 65 (0, 0))) := hrep2
        clear hrep2 HREP cl ch
        obtain ⟨f2, zs, hC, hst, hm9⟩ := hR2
        have HC : Hid (Cnt wc base q m f2 S.length zs) := hC
        have HST : Hid (Stands m f2 zs S) := hst
        have hf2 : f2 < m := by rcases hst.1 with h | ⟨h1, h2⟩ <;> omega
        obtain ⟨a2, cap2, k0, k1, k2, hfr2, ho2⟩ := hC.cells
        obtain ⟨g, cap', hv, _, hgs⟩ := ho2.form (by omega)
        simp only [Value.slice.injEq, true_and] at hv
        obtain ⟨rfl, rfl⟩ := hv
        obtain ⟨p, hp⟩ : ∃ p, ringAt m f2 S.length = p := ⟨_, rfl⟩
        have hpm : p < m := by rw [← hp]; exact ringAt_lt hf2 hSm
        have HP : Hid (ringAt m f2 S.length = p) := hp
        have hZ := hC.setZ g cap2 p clk k0 hpm
        have HZ : Hid (Cnt (wc.setCell ⟨g, p, none⟩ (.int .i64 clk)) base q m f2 S.length (zs.set p clk) ∧ g ≠ q ∧ base ≤ g) := hZ
        have hgq := hZ.2.1
        have hfz := ho2.frozenAt p
        have hcz : ∃ u, wc.cell? ⟨g, p, none⟩ = some u := by
          rw [ho2.cellAt p (by omega)]
          have hl : zs.length = m := hst.2.2.1
          exact ⟨.int .i64 zs[p], by simp [hl, hpm]⟩
        obtain ⟨u, hcz⟩ := hcz
        have hgB : ¬ g = w.heap.size := fun e => rowc_ne ho2 HREP2.out (by decide) (by rw [← e]; rfl)
        have hgB' : ¬ w.heap.size = g := fun e => hgB e.symm
        have hgq' : ¬ q = g := fun e => hgq e.symm
        have f2f := hfr2 2
        have hat : ∀ wx : World, (∃ k, wx = wc.drewN k) → Calls Try.prog 39 #[.pointer (some ⟨q, 0, none⟩), .int .i64 S.length] wx fun e w' => e = .returned (.int .i64 p) ∧ wx = w' := by
          rintro wx ⟨k, rfl⟩
          have := at_any q base m f2 S.length S.length zs (wc.drewN k) (HC.out.later (below_drewN (Below.refl _ _) k)) (by omega) (by omega) (by omega)
          rw [HP.out] at this
          exact this
        have HAT : Hid (∀ wx : World, (∃ k, wx = wc.drewN k) → Calls Try.prog 39 #[.pointer (some ⟨q, 0, none⟩), .int .i64 S.length] wx fun e w' => e = .returned (.int .i64 p) ∧ wx = w') := hat
        clear hC hst hfr2 ho2 hp hZ hat c0 c2
        have gp0 : (0 : Int) ≤ (p : Int) := by omega
        have gp1 : (p : Int) < (m : Int) := by omega
        go_upto_region 5 with fail
        go_cut [] from 36 to 47 (fun wx => Cnt wx base q m f2 S.length (zs.set p clk) ∧ wx.heap[w.heap.size]? = some (.cells #[.int .i64 lo, .int .i64 hi] 65 (0, 0)) ∧ w.heap.size < wx.heap.size ∧ Below base w wx)
        case first =>
          go_region_with (go_at_call 39; refine (HAT.out _ ⟨1, rfl⟩).mono ?_; rintro e w' ⟨rfl, rfl⟩)
          all_goals go_wp2_with fail
          all_goals go_meet
          all_goals exact ⟨HZ.out.1, (Below.heap_setCell _ _ _ _ hgB').trans HREP2.out, by simpa using hsz2, Below.setCell ((grown_below hgr2 hbq hbase).trans (below_drewN (Below.refl _ _) 1)) HZ.out.2.2 _⟩
        case rest =>
          obtain ⟨hC3, hrep3, hsz3, hb3⟩ := hcut
          have HREP3 : Hid (wc.heap[w.heap.size]? = some (.cells #[.int .i64 lo, .int .i64 hi] 65 (0, 0))) := hrep3
          have cl3 : wc.cell? ⟨w.heap.size, 0, none⟩ = some (.int .i64 lo) := by rw [cell_of_row wc w.heap.size 0 _ 65 (0, 0) hrep3]; rfl
          have ch3 : wc.cell? ⟨w.heap.size, 1, none⟩ = some (.int .i64 hi) := by rw [cell_of_row wc w.heap.size 1 _ 65 (0, 0) hrep3]; rfl
          obtain ⟨a4, cap4, j0, j1, j2, hfr4, _⟩ := hC3.cells
          have f4 := hfr4 2
          have R4 := hC3.set1 (S.length + 1)
          have HR4 : Hid (Ring (wc.setCell ⟨q, 2, none⟩ (.int .i64 ((S.length + 1 : Nat) : Int))) base q m (S ++ [clk]) ∧ wc.grownBy (wc.setCell ⟨q, 2, none⟩ (.int .i64 ((S.length + 1 : Nat) : Int))) (some q)) := by
            refine ⟨⟨f2, zs.set p clk, ?_, ?_, hm9⟩, R4.2⟩
            · have e : (S ++ [clk]).length = S.length + 1 := by simp
              rw [e]
              exact R4.1
            · have := HST.out.push hSm clk
              rw [HP.out] at this
              exact this
          have hSl : S.length ≤ 9000 := by omega
          clear hrep3 hfr4 R4 hC3 HREP2 k0 k1 k2 hcz hfz HZ HC j0 j1
          have ecast : ((S.length + 1 : Nat) : Int) = (S.length : Int) + 1 := by simp
          rw [ecast] at HR4
          clear ecast
          have HSS : Hid (∀ x ∈ S ++ [clk], 0 ≤ x ∧ x ≤ clk) := fun x hx => by
            rcases List.mem_append.1 hx with h | h
            · exact HS.out x h
            · simp at h; omega
          go_wp2_with fail
          refine (prune_any q base m (S ++ [clk]) lo hi clk _ HR4.out.1 HSS.out hlo h0 b4).mono ?_
          rintro e w5 ⟨rfl, hR5, hg5⟩
          have hB5 : Below base w w5 := hb3.trans ((grown_below HR4.out.2 hbq (Nat.le_trans hbase hb3.size)).trans (grown_below hg5 hbq (by simpa using Nat.le_trans hbase hb3.size)))
          go_wp2
          go_ret
          exact ⟨true, rfl, hB5, .inr ⟨m, _, HLI.out, hR5, pruneL_suffix lo hi clk _, pruneL_pruned lo hi clk _, hml⟩⟩


/-- ZZCounterStart. -/
theorem zzstart_any (q base n : Nat) (S : List Int) (lo hi clk : Int) (w : World) (h : Ring w base q n S) (hS : ∀ x ∈ S, 0 ≤ x ∧ x ≤ clk) (hlo : 0 ≤ lo) (hlo2 : lo ≤ 9223372036854775807) (h0 : 0 ≤ clk) (b4 : clk ≤ 1000000)
    (hrun : (S.length : Int) ≤ lo + 1) (hnlo : (n : Int) ≤ lo + 2) (hSl : S.length ≤ 4200) (hbase : base ≤ w.heap.size) :
    Calls Try.prog 15 #[.pointer (some ⟨q, 0, none⟩), .int .i64 lo, .int .i64 hi, .int .i64 clk] w fun e w' => ∃ b : Bool, e = .returned (.bool b) ∧ Below base w w' ∧
      (Ring w' base q n S ∨ ∃ (m : Nat) (T : List Int), lastIs S clk = false ∧ Ring w' base q m T ∧ T <:+ S ++ [clk] ∧ Pruned lo clk T ∧ (m : Int) ≤ lo + 2) := by
  go_enter Try.func15, Try.ntmps15
  go_wp2_with fail
  refine (start_any q base n S lo hi clk w h hS hlo hlo2 h0 b4 hrun hnlo hSl hbase).mono ?_
  rintro e w1 ⟨b, rfl, hb, hor⟩
  go_wp2
  go_ret
  exact ⟨b, rfl, hb, hor⟩

/-- What stands behind a start, both ways in one. -/
theorem start_good {n : Nat} {S : List Int} {lo clk : Int} {P : Nat → List Int → Prop} (hg : Good clk S) (hp : Pruned lo clk S) (hn : (n : Int) ≤ lo + 2)
    (h : P n S ∨ ∃ (m : Nat) (T : List Int), lastIs S clk = false ∧ P m T ∧ T <:+ S ++ [clk] ∧ Pruned lo clk T ∧ (m : Int) ≤ lo + 2) (h0 : 0 ≤ clk) :
    ∃ (m : Nat) (T : List Int), P m T ∧ Good clk T ∧ Pruned lo clk T ∧ (m : Int) ≤ lo + 2 := by
  rcases h with h | ⟨m, T, hl, hP, hs, hpr, hm⟩
  · exact ⟨n, S, h, hg, hp, hn⟩
  · refine ⟨m, T, hP, Good.suffix ?_ hs, hpr, hm⟩
    have hlt : ∀ x ∈ S, x < clk := by
      intro x hx
      have hb := (hg.2 x hx).2
      rcases Int.lt_or_eq_of_le hb with h1 | h1
      · exact h1
      · exfalso
        have hpos : 0 < S.length := List.length_pos_of_mem hx
        have hne : ¬ S[S.length - 1] = clk := fun e => by
          have : lastIs S clk = true := by unfold lastIs; rw [decide_eq_true_iff]; exact ⟨hpos, e⟩
          rw [this] at hl; cases hl
        obtain ⟨i, hi, e⟩ := List.getElem_of_mem hx
        have hbl := (hg.2 S[S.length - 1] (List.getElem_mem _)).2
        by_cases hii : i = S.length - 1
        · subst hii; omega
        · have := List.pairwise_iff_getElem.1 hg.1 i (S.length - 1) hi (by omega) (by omega)
          omega
    exact Good.snoc (clk := clk - 1) ⟨hg.1, fun x hx => by have := hlt x hx; have := (hg.2 x hx).1; omega⟩ (by omega) h0

end Go.Proofs.Qxb6600955a
