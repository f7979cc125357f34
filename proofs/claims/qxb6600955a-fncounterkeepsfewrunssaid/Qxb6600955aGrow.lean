/-
  The walk of grow (38).
-/
import Derived.Test.Qxb6600955aPrune
import Derived.Laws.CopyOwn
import Derived.Deep.RegionLaw
import Derived.Deep.Cut
import Derived.Deep.CutRange
namespace Go.Proofs.Qxb6600955a
open Go.RowKit
set_option linter.unusedVariables false
attribute [local go_sem ↓] Go.wp_at_zero Go.wp_at_succ

theorem info3 : (Try.prog.info? 3).map (fun i => (i.zero, i.size, i.bytes)) = some (some (.int .i64 0), 1, 8) := by kernel_rfl

theorem cellsc_mid {w : World} {base g n cap : Nat} {xs : List Int} (k : Nat) (h : w.ownsRow base 3 1 (.slice (some ⟨g, 0, none⟩) n cap) n (xs.map (Value.int .i64))) :
    ∀ j u, ((xs.drop k).map (Value.int .i64))[j]? = some u → w.cell? ((⟨g, k, none⟩ : Addr).add j) = some u := by
  intro j u hj
  have hl : xs.length = n := by simpa using h.1
  have hadd : (⟨g, k, none⟩ : Addr).add j = ⟨g, k + j, none⟩ := by unfold Addr.add; split <;> simp_all
  rw [List.getElem?_map, List.getElem?_drop] at hj
  have hlt : k + j < xs.length := by
    rcases Nat.lt_or_ge (k + j) xs.length with h1 | h1
    · exact h1
    · rw [List.getElem?_eq_none h1] at hj; cases hj
  rw [hadd, h.cellAt (k + j) (by omega), List.getElem?_map]
  exact hj

theorem cellsc_head {w : World} {base g n cap : Nat} {xs : List Int} (k : Nat) (h : w.ownsRow base 3 1 (.slice (some ⟨g, 0, none⟩) n cap) n (xs.map (Value.int .i64))) :
    ∀ j u, ((xs.take k).map (Value.int .i64))[j]? = some u → w.cell? ((⟨g, 0, none⟩ : Addr).add j) = some u := by
  intro j u hj
  refine cellsc_mid 0 h j u ?_
  rw [List.getElem?_map, List.getElem?_take] at hj
  rw [List.getElem?_map, List.drop_zero]
  split at hj
  · exact hj
  · cases hj

/-- What 'make' has made, as the cut asks it. -/
theorem made_rel {w w0 : World} {o : Obj} {base n m : Nat} {lo : Int} (hown : w0.ownsRow base 3 1 (.slice (some ⟨(w.alloc o).drew.heap.size, 0, none⟩) m m) m (madeCells (Value.int .i64 0).cells (m * 1)).toList) (hgrow : (w.alloc o).drew.grownBy w0 none) (h1 : n < m) (h2 : (m : Int) ≤ lo + 2) (h3 : m ≤ 9000) :
    Value.slice (some ⟨(w.alloc o).drew.heap.size, 0, none⟩) m m = .slice (some ⟨w.heap.size + 1, 0, none⟩) m m ∧ n < m ∧ (m : Int) ≤ lo + 2 ∧ m ≤ 9000 ∧ w0.heap[w.heap.size + 1]? = some (.cells (List.replicate m (Value.int .i64 0)).toArray 3 (0, 0)) ∧
      Below (w.heap.size + 1) (w.alloc o) w0 ∧ w.heap.size + 1 < w0.heap.size := by
  have e : (w.alloc o).drew.heap.size = w.heap.size + 1 := by show (w.alloc o).heap.size = _; simp
  rw [e] at hown ⊢
  have hlt := (hown.lt (w.heap.size + 1) rfl).2
  refine ⟨rfl, h1, h2, h3, ?_, ⟨hgrow.os, hgrow.tape, hgrow.output, hgrow.size, fun k hk => hgrow.block k (by rw [e]; exact hk) (by simp)⟩, hlt⟩
  rcases hown.2 with ⟨h', _⟩ | ⟨g', cap', cur, hv, _, hg, _, _, hcs, ht⟩
  · cases h'
  · simp only [Value.slice.injEq, Option.some.injEq, Addr.mk.injEq, and_true, true_and] at hv
    obtain ⟨rfl, rfl⟩ := hv
    rw [hg]
    have e2 : cur.toList = List.replicate m (Value.int .i64 0) := by
      rw [List.take_of_length_le (by simp [hcs])] at ht
      rw [ht]
      have : (Value.int .i64 0).cells = #[Value.int .i64 0] := rfl
      rw [this, toList_madeCells_one]
      simp
    rw [← e2]

theorem splice_ring {zs : List Int} {first n m D : Nat} (hz : zs.length = n) (hf : first ≤ n) (hD : n - first = D) (hm : n < m) :
    splice (splice (List.replicate m (Value.int .i64 0)) 0 ((zs.drop first).map (Value.int .i64))) D ((zs.take first).map (Value.int .i64)) = (zs.drop first ++ zs.take first ++ List.replicate (m - n) 0).map (Value.int .i64) := by
  have l1 : ((zs.drop first).map (Value.int .i64)).length = D := by simp; omega
  have l2 : ((zs.take first).map (Value.int .i64)).length = first := by simp; omega
  have e1 : splice (List.replicate m (Value.int .i64 0)) 0 ((zs.drop first).map (Value.int .i64)) = (zs.drop first).map (Value.int .i64) ++ List.replicate (m - D) (Value.int .i64 0) := by
    unfold splice
    rw [l1]
    simp
  rw [e1]
  unfold splice
  rw [l2, List.take_left' l1, List.drop_append, l1]
  have e2 : ((zs.drop first).map (Value.int .i64)).drop (D + first) = [] := List.drop_of_length_le (by omega)
  rw [e2]
  simp
  omega

/-- Behind grow: the same runs in a larger ring. -/
theorem grow_close {w wc : World} {base q n first m D : Nat} {zs S : List Int} {X1 X2 Z Z1 : List Value} (hc : Cnt w base q n first S.length zs) (hst : Stands n first zs S) (hfull : S.length = n)
    (hX : X1 = (zs.drop first).map (Value.int .i64) ∧ X2 = (zs.take first).map (Value.int .i64) ∧ List.replicate m (Value.int .i64 0) = Z ∧ zs.length = n) (hD : n - first = D) (hZ1 : splice Z 0 X1 = Z1) (hnm : n < m) (hm9 : m ≤ 9000)
    (hg : wc.heap[w.heap.size + 1]? = some (.cells (splice Z1 D X2).toArray 3 (0, 0))) (hb : Below w.heap.size w wc) (hbase : base ≤ w.heap.size) :
    Ring ((wc.setCell ⟨q, 0, none⟩ (.slice (some ⟨w.heap.size + 1, 0, none⟩) m m)).setCell ⟨q, 1, none⟩ (.int .i64 0)) base q m S ∧
      w.grownBy ((wc.setCell ⟨q, 0, none⟩ (.slice (some ⟨w.heap.size + 1, 0, none⟩) m m)).setCell ⟨q, 1, none⟩ (.int .i64 0)) (some q) := by
  obtain ⟨hX1, hX2, hZ, hzl⟩ := hX
  have hqs := hc.lt
  have hfn : first ≤ n := by rcases hst.1 with h | ⟨h1, h2⟩ <;> omega
  have hsp := splice_ring hzl hfn hD hnm
  rw [← hX1, ← hX2, hZ, hZ1] at hsp
  rw [hsp] at hg
  have keep : ∀ k, k ≠ q → ((wc.setCell ⟨q, 0, none⟩ (.slice (some ⟨w.heap.size + 1, 0, none⟩) m m)).setCell ⟨q, 1, none⟩ (.int .i64 0)).heap[k]? = wc.heap[k]? := fun k hk => (Below.heap_setCell _ _ _ _ hk).trans (Below.heap_setCell _ _ _ _ hk)
  obtain ⟨a, cap, hq, ho, hbq⟩ := hc
  refine ⟨⟨0, zs.drop first ++ zs.take first ++ List.replicate (m - n) 0, ⟨some ⟨w.heap.size + 1, 0, none⟩, m, ?_, ?_, hbq⟩, ?_, hm9⟩, ⟨hb.os, hb.tape, hb.output, by simpa using hb.size, fun k hk hr => (keep k (fun e => hr (by rw [e]))).trans (hb.block k hk)⟩⟩
  · exact heap_setCell_same _ q 1 _ 62 _ (heap_setCell_same wc q 0 _ 62 _ ((hb.block q hqs).trans hq))
  · refine ⟨by simp; omega, .inr ⟨w.heap.size + 1, m, _, rfl, by omega, (keep _ (by omega)).trans hg, Nat.le_refl _, by unfold maxLen; omega, by simp; omega, ?_⟩⟩
    rw [List.take_of_length_le (by simp; omega)]
  · refine hst.grown hfull hnm (by simp; omega) ?_
    rw [List.take_append_of_le_length (by simp; omega), List.take_of_length_le (by simp; omega)]

set_option maxRecDepth 100000 in
set_option maxHeartbeats 1600000 in
theorem grow_any (q base n : Nat) (S : List Int) (lo hi : Int) (w : World) (h : Ring w base q n S) (hfull : S.length = n) (hlo : 0 ≤ lo) (hn : n ≤ 4200) (hroom : (n : Int) + 1 ≤ lo + 2) (hlo2 : lo ≤ 9223372036854775807) (hbase : base ≤ w.heap.size) :
    Calls Try.prog 38 #[.pointer (some ⟨q, 0, none⟩), .agg #[.int .i64 lo, .int .i64 hi]] w fun e w' => ∃ m : Nat, e = .returned (.tuple #[]) ∧ Ring w' base q m S ∧ n < m ∧ (m : Int) ≤ lo + 2 ∧ w.grownBy w' (some q) := by
  obtain ⟨first, zs, hc, hst, hn9⟩ := h
  obtain ⟨a, cap, c0, c1, c2, hfr, ho⟩ := hc.cells
  have f0 := hfr 0
  have f1 := hfr 1
  have hqs := hc.lt
  obtain ⟨R, hR⟩ : ∃ R, wrap64 (lo + 2) = R := ⟨_, rfl⟩
  have HRR : Hid (R = lo + 2 ∨ R < 0) := by
    show _ ∨ _
    rw [← hR]
    unfold wrap64
    omega
  have HLO : Hid (lo ≤ 9223372036854775807 ∧ (n : Int) + 1 ≤ lo + 2) := ⟨hlo2, hroom⟩
  have HC : Hid (Cnt w base q n first S.length zs) := hc
  have HST : Hid (Stands n first zs S ∧ S.length = n) := ⟨hst, hfull⟩
  have HO : Hid (w.ownsRow base 3 1 (.slice a n cap) n (zs.map (Value.int .i64))) := ho
  clear hc hst hfr ho hlo2 hroom hfull hlo
  have hcq : ¬ q = w.heap.size := by omega
  go_enter Try.func38, Try.ntmps38
  go_upto_region 1 with fail
  go_cut [4] from 7 to 17 (fun s wx => ∃ r : Int, s = .int .i64 r ∧ r ≤ 9000 ∧ (r ≤ lo + 2 ∨ r < 0) ∧ wx = (w.alloc (.cells #[.int .i64 lo, .int .i64 hi] 65)).drew)
  case first =>
    go_region
    all_goals go_wp2_with fail
    all_goals
      go_meet
      case rel => exact ⟨_, rfl, by have := HRR.out; omega, by have := HRR.out; omega, rfl⟩
  case rest =>
    obtain ⟨r, rfl, hr1, hr2, rfl⟩ := hcut
    have HR2 : Hid (r ≤ lo + 2 ∨ r < 0) := hr2
    clear hr2 hR
    obtain ⟨i0, hi0, hz0, hz1, hz2⟩ := info_parts info3
    go_upto_region 2 with fail
    go_cut [5] from 18 to 26 (fun s wx => ∃ m : Nat, s = .slice (some ⟨w.heap.size + 1, 0, none⟩) m m ∧ n < m ∧ (m : Int) ≤ lo + 2 ∧ m ≤ 9000 ∧ wx.heap[w.heap.size + 1]? = some (.cells (List.replicate m (Value.int .i64 0)).toArray 3 (0, 0)) ∧
        Below (w.heap.size + 1) (w.alloc (.cells #[.int .i64 lo, .int .i64 hi] 65)) wx ∧ w.heap.size + 1 < wx.heap.size)
    case first =>
      have hthree : r < (n : Int) + 1 ∨ r = (n : Int) + 1 ∨ (n : Int) + 1 < r := by omega
      rcases hthree with hrn | rfl | hrn
      · go_wp2_with (at_make; refine wpList_make_full _ rfl _ _ 27 rfl base 3 i0 (.int .i64 0) 1 Try.underlying27 hi0 hz0 hz1 _ _ _ _ (n + 1) rfl rfl (by omega) (by omega) (by rw [hz2]; omega) (by unfold maxLen; omega) (by simp; omega) ?_; intro w0 hown0 hgrow0)
        go_meet
        case rel => exact ⟨n + 1, rfl, (made_rel (n := n) (lo := lo) hown0 hgrow0 (by omega) (by have := HLO.out; omega) (by omega)).2⟩
      · go_wp2_with (at_make; refine wpList_make_full _ rfl _ _ 27 rfl base 3 i0 (.int .i64 0) 1 Try.underlying27 hi0 hz0 hz1 _ _ _ _ (n + 1) rfl rfl (by omega) (by omega) (by rw [hz2]; omega) (by unfold maxLen; omega) (by simp; omega) ?_; intro w0 hown0 hgrow0)
        all_goals
          go_meet
          case rel => exact ⟨n + 1, rfl, (made_rel (n := n) (lo := lo) hown0 hgrow0 (by omega) (by have := HLO.out; omega) (by omega)).2⟩
      · obtain ⟨m, rfl⟩ : ∃ m : Nat, r = (m : Int) := ⟨r.toNat, by omega⟩
        go_wp2_with (at_make; refine wpList_make_full _ rfl _ _ 27 rfl base 3 i0 (.int .i64 0) 1 Try.underlying27 hi0 hz0 hz1 _ _ _ _ m rfl rfl (by omega) (by omega) (by rw [hz2]; omega) (by unfold maxLen; omega) (by simp; omega) ?_; intro w0 hown0 hgrow0)
        go_meet
        case rel => exact ⟨m, rfl, (made_rel (n := n) (lo := lo) hown0 hgrow0 (by omega) (by have := HR2.out; omega) (by omega)).2⟩
    case rest =>
      obtain ⟨m, rfl, hnm, hml, hm9, hg0, hb0, hs0⟩ := hcut
      have hB : Below w.heap.size w wc := ((Below.refl _ _).alloc (Nat.le_refl _) _).trans (hb0.mono (by omega))
      have d0 := (hB.cell (p := ⟨q, 0, none⟩) hqs).trans c0
      have d1 := (hB.cell (p := ⟨q, 1, none⟩) hqs).trans c1
      have hO := rowc_kept (w' := wc) HO.out (fun g hg => hB.block g (HO.out.lt g hg).2)
      have hzl : zs.length = n := HST.out.1.2.2.1
      obtain ⟨X1, hX1⟩ : ∃ X1, X1 = (zs.drop first).map (Value.int .i64) := ⟨_, rfl⟩
      obtain ⟨X2, hX2⟩ : ∃ X2, X2 = (zs.take first).map (Value.int .i64) := ⟨_, rfl⟩
      obtain ⟨Z, hZ⟩ : ∃ Z, List.replicate m (Value.int .i64 0) = Z := ⟨_, rfl⟩
      obtain ⟨D, hD⟩ : ∃ D, n - first = D := ⟨_, rfl⟩
      have hfn : first ≤ n := by rcases HST.out.1.1 with h | ⟨h1, h2⟩ <;> omega
      have hl1 : X1.length = D := by rw [hX1]; simp; omega
      have hl2 : X2.length = first := by rw [hX2]; simp; omega
      have hlZ : Z.length = m := by rw [← hZ]; simp
      rw [hZ] at hg0
      have hsz3 : (Try.prog.info? 3).map (·.size) = some 1 := by kernel_rfl
      have h1c1 : ∀ v ∈ X1, v.oneCell' = true := by rw [hX1]; exact ints_oneCell _ _
      have h1c2 : ∀ v ∈ X2, v.oneCell' = true := by rw [hX2]; exact ints_oneCell _ _
      have hfit1 : 0 + X1.length ≤ Z.length := by omega
      have hrow : n = 0 ∨ ∃ g0, 0 < n ∧ first < n ∧ n ≤ cap ∧ a = some ⟨g0, 0, none⟩ ∧ g0 < w.heap.size := by
        by_cases h0 : n = 0
        · exact .inl h0
        · obtain ⟨g0, cap', hv, _, hgl⟩ := HO.out.form (by omega)
          simp only [Value.slice.injEq, true_and] at hv
          have hcap : n ≤ cap := by
            rcases HO.out.2 with ⟨_, h'⟩ | ⟨_, _, _, h', _, _, hnc, _⟩
            · omega
            · simp only [Value.slice.injEq, true_and] at h'; omega
          exact .inr ⟨g0, by omega, by rcases HST.out.1.1 with h | ⟨h1, h2⟩ <;> omega, hcap, hv.1, hgl⟩
      have HX : Hid (X1 = (zs.drop first).map (Value.int .i64) ∧ X2 = (zs.take first).map (Value.int .i64) ∧ List.replicate m (Value.int .i64 0) = Z ∧ zs.length = n) := ⟨hX1, hX2, hZ, hzl⟩
      have HD : Hid (n - first = D) := hD
      have hDf : D + first ≤ n := by omega
      have hDf2 : n ≤ D + first := by omega
      have HL1 : Hid (X1.length = D ∧ X2.length = first ∧ Z.length = m) := ⟨hl1, hl2, hlZ⟩
      have HG0 : Hid (wc.heap[w.heap.size + 1]? = some (.cells Z.toArray 3 (0, 0))) := hg0
      have HOc : Hid (wc.ownsRow base 3 1 (.slice a n cap) n (zs.map (Value.int .i64))) := hO
      clear hX1 hX2 hZ hzl hD hl1 hl2 hlZ hg0 hO hB
      have gi0 : (0 : Int) ≤ (first : Int) := by omega
      have gi1 : (first : Int) ≤ (n : Int) := by omega
      go_upto_region 3 with fail
      go_cut [6] from 27 to 37 (fun s wx => s = .int .i64 (D : Int) ∧ wx.heap[w.heap.size + 1]? = some (.cells (splice Z 0 X1).toArray 3 (0, 0)) ∧ Below (w.heap.size + 1) (w.alloc (.cells #[.int .i64 lo, .int .i64 hi] 65)) wx ∧ w.heap.size + 1 < wx.heap.size)
      case first =>
        rcases hrow with h0 | ⟨g0, hn0, hfn0, hnc, rfl, hgl⟩
        · obtain rfl : n = 0 := h0
          obtain rfl : first = 0 := by omega
          obtain rfl : D = 0 := by omega
          have hposv : ∀ dp sp : Option Addr, 0 < X1.length → dp = some ⟨w.heap.size + 1, 0, none⟩ ∧ ∃ ad, sp = some ad ∧ ∀ j v, X1[j]? = some v → wc.cell? (ad.add j) = some v := fun _ _ h => absurd h (by rw [HL1.out.1]; omega)
          have HN1 : Hid (X1.length = Nat.min 0 m) := by show _ = _; rw [HL1.out.1]; exact (Nat.min_eq_left (Nat.zero_le _)).symm
          rcases HOc.out.2 with ⟨h', _⟩ | ⟨g0, cap', cur, h', _⟩
          · cases h'
            go_region_law ((refine step_copy_splice (by rfl) (.tmp 27) (.tmp 36) 27 27 (by rfl) 3 Try.underlying27 hsz3 _ _ _ _ _ _ (by rfl) (by rfl) (w.heap.size + 1) 0 Z 3 HG0.out X1 HN1.out (hposv _ _) hfit1 h1c1 (w.heap.size + 1) (w.alloc (.cells #[.int .i64 lo, .int .i64 hi] 65)) hb0.drew (Nat.le_refl _) ?_; intro w2 HG2 hB2))
            all_goals go_wp2_with fail
            all_goals go_meet
            all_goals (refine ⟨?_, HG2.out, hB2, lt_of_block HG2.out⟩; rw [HL1.out.1])
          · simp only [Value.slice.injEq, true_and] at h'
            obtain ⟨rfl, rfl⟩ := h'
            by_cases hcz : cap = 0
            · subst hcz
              go_region_law ((refine step_copy_splice (by rfl) (.tmp 27) (.tmp 36) 27 27 (by rfl) 3 Try.underlying27 hsz3 _ _ _ _ _ _ (by rfl) (by rfl) (w.heap.size + 1) 0 Z 3 HG0.out X1 HN1.out (hposv _ _) hfit1 h1c1 (w.heap.size + 1) (w.alloc (.cells #[.int .i64 lo, .int .i64 hi] 65)) hb0.drew (Nat.le_refl _) ?_; intro w2 HG2 hB2))
              all_goals go_wp2_with fail
              all_goals go_meet
              all_goals (refine ⟨?_, HG2.out, hB2, lt_of_block HG2.out⟩; rw [HL1.out.1])
            · have gc0 : (0 : Int) ≤ (cap : Int) := by omega
              go_region_law ((refine step_copy_splice (by rfl) (.tmp 27) (.tmp 36) 27 27 (by rfl) 3 Try.underlying27 hsz3 _ _ _ _ _ _ (by rfl) (by rfl) (w.heap.size + 1) 0 Z 3 HG0.out X1 HN1.out (hposv _ _) hfit1 h1c1 (w.heap.size + 1) (w.alloc (.cells #[.int .i64 lo, .int .i64 hi] 65)) hb0.drew (Nat.le_refl _) ?_; intro w2 HG2 hB2))
              all_goals go_wp2_with fail
              all_goals go_meet
              all_goals (refine ⟨?_, HG2.out, hB2, lt_of_block HG2.out⟩; rw [HL1.out.1])
        · have gck : ¬ cap = first := by omega
          have gic : (first : Int) ≤ (cap : Int) := by omega
          have hpos1 : 0 < X1.length → some (⟨w.heap.size + 1, 0, none⟩ : Addr) = some ⟨w.heap.size + 1, 0, none⟩ ∧ ∃ ad, some (⟨g0, first, none⟩ : Addr) = some ad ∧ ∀ j v, X1[j]? = some v → wc.cell? (ad.add j) = some v := fun _ => ⟨rfl, _, rfl, by rw [HX.out.1]; exact cellsc_mid first HOc.out⟩
          have HN1 : Hid (X1.length = Nat.min (n - first) m) := by show _ = _; rw [HL1.out.1, HD.out]; exact (Nat.min_eq_left (by omega)).symm
          go_region_law ((refine step_copy_splice (by rfl) (.tmp 27) (.tmp 36) 27 27 (by rfl) 3 Try.underlying27 hsz3 _ _ _ _ _ _ (by rfl) (by rfl) (w.heap.size + 1) 0 Z 3 HG0.out X1 HN1.out hpos1 hfit1 h1c1 (w.heap.size + 1) (w.alloc (.cells #[.int .i64 lo, .int .i64 hi] 65)) hb0.drew (Nat.le_refl _) ?_; intro w2 HG2 hB2))
          all_goals go_wp2_with fail
          all_goals go_meet
          all_goals (refine ⟨?_, HG2.out, hB2, lt_of_block HG2.out⟩; rw [HL1.out.1])
      case rest =>
        obtain ⟨rfl, hg1, hb1, hs1⟩ := hcut
        obtain ⟨Z1, hZ1⟩ : ∃ Z1, splice Z 0 X1 = Z1 := ⟨_, rfl⟩
        rw [hZ1] at hg1
        have hlZ1 : Z1.length = m := by rw [← hZ1, length_splice _ _ _ (by rw [HL1.out.1, HL1.out.2.2]; omega), HL1.out.2.2]
        have hfit2 : D + X2.length ≤ Z1.length := by rw [hlZ1, HL1.out.2.1]; omega
        have hB : Below w.heap.size w wc := ((Below.refl _ _).alloc (Nat.le_refl _) _).trans (hb1.mono (by omega))
        have e0 := (hB.cell (p := ⟨q, 0, none⟩) hqs).trans c0
        have e1 := (hB.cell (p := ⟨q, 1, none⟩) hqs).trans c1
        have HOd : Hid (wc.ownsRow base 3 1 (.slice a n cap) n (zs.map (Value.int .i64))) := rowc_kept (w' := wc) HO.out (fun g hg => hB.block g (HO.out.lt g hg).2)
        have HZ1 : Hid (splice Z 0 X1 = Z1 ∧ Z1.length = m) := ⟨hZ1, hlZ1⟩
        have HG1 : Hid (wc.heap[w.heap.size + 1]? = some (.cells Z1.toArray 3 (0, 0))) := hg1
        clear hZ1 hg1 hlZ1 hB d0 d1 HG0 HOc hb0 hs0
        have gD0 : (0 : Int) ≤ (D : Int) := by omega
        have gD1 : (D : Int) ≤ (m : Int) := by omega
        have gmD : ¬ m = D := by omega
        go_upto_region 4 with fail
        go_cut [] from 38 to 50 (fun wx => wx.heap[w.heap.size + 1]? = some (.cells (splice Z1 D X2).toArray 3 (0, 0)) ∧ Below (w.heap.size + 1) (w.alloc (.cells #[.int .i64 lo, .int .i64 hi] 65)) wx ∧ w.heap.size + 1 < wx.heap.size)
        case first =>
          rcases hrow with h0 | ⟨g0, hn0, hfn0, hnc, rfl, hgl⟩
          · obtain rfl : n = 0 := h0
            obtain rfl : first = 0 := by omega
            obtain rfl : D = 0 := by omega
            have hposv : ∀ dp sp : Option Addr, 0 < X2.length → dp = some ⟨w.heap.size + 1, 0, none⟩ ∧ ∃ ad, sp = some ad ∧ ∀ j v, X2[j]? = some v → wc.cell? (ad.add j) = some v := fun _ _ h => absurd h (by rw [HL1.out.2.1]; omega)
            have HN2 : Hid (X2.length = Nat.min 0 m) := by show _ = _; rw [HL1.out.2.1]; exact (Nat.min_eq_left (Nat.zero_le _)).symm
            rcases HOd.out.2 with ⟨h', _⟩ | ⟨g0, cap', cur, h', _⟩
            · cases h'
              go_region_law ((refine step_copy_splice (by rfl) (.tmp 40) (.tmp 49) 27 27 (by rfl) 3 Try.underlying27 hsz3 _ _ _ _ _ _ (by rfl) (by rfl) (w.heap.size + 1) 0 Z1 3 HG1.out X2 HN2.out (hposv _ _) hfit2 h1c2 (w.heap.size + 1) (w.alloc (.cells #[.int .i64 lo, .int .i64 hi] 65)) hb1.drew (Nat.le_refl _) ?_; intro w2 HG2 hB2))
              all_goals go_wp2_with fail
              all_goals go_meet
              all_goals exact ⟨HG2.out, hB2, lt_of_block HG2.out⟩
            · simp only [Value.slice.injEq, true_and] at h'
              obtain ⟨rfl, rfl⟩ := h'
              have gc0 : (0 : Int) ≤ (cap : Int) := by omega
              go_region_law ((refine step_copy_splice (by rfl) (.tmp 40) (.tmp 49) 27 27 (by rfl) 3 Try.underlying27 hsz3 _ _ _ _ _ _ (by rfl) (by rfl) (w.heap.size + 1) 0 Z1 3 HG1.out X2 HN2.out (hposv _ _) hfit2 h1c2 (w.heap.size + 1) (w.alloc (.cells #[.int .i64 lo, .int .i64 hi] 65)) hb1.drew (Nat.le_refl _) ?_; intro w2 HG2 hB2))
              all_goals go_wp2_with fail
              all_goals go_meet
              all_goals exact ⟨HG2.out, hB2, lt_of_block HG2.out⟩
          · have gic : (first : Int) ≤ (cap : Int) := by omega
            have hpos2 : 0 < X2.length → some (⟨w.heap.size + 1, D, none⟩ : Addr) = some ⟨w.heap.size + 1, D, none⟩ ∧ ∃ ad, some (⟨g0, 0, none⟩ : Addr) = some ad ∧ ∀ j v, X2[j]? = some v → wc.cell? (ad.add j) = some v := fun _ => ⟨rfl, _, rfl, by rw [HX.out.2.1]; exact cellsc_head first HOd.out⟩
            have HN2 : Hid (X2.length = Nat.min first (m - D)) := by show _ = _; rw [HL1.out.2.1]; exact (Nat.min_eq_left (by omega)).symm
            go_region_law ((refine step_copy_splice (by rfl) (.tmp 40) (.tmp 49) 27 27 (by rfl) 3 Try.underlying27 hsz3 _ _ _ _ _ _ (by rfl) (by rfl) (w.heap.size + 1) D Z1 3 HG1.out X2 HN2.out hpos2 hfit2 h1c2 (w.heap.size + 1) (w.alloc (.cells #[.int .i64 lo, .int .i64 hi] 65)) hb1.drew (Nat.le_refl _) ?_; intro w2 HG2 hB2))
            all_goals go_wp2_with fail
            all_goals go_meet
            all_goals exact ⟨HG2.out, hB2, lt_of_block HG2.out⟩
        case rest =>
          obtain ⟨hg2, hb2, hs2⟩ := hcut
          have hB : Below w.heap.size w wc := ((Below.refl _ _).alloc (Nat.le_refl _) _).trans (hb2.mono (by omega))
          have k0 := (hB.cell (p := ⟨q, 0, none⟩) hqs).trans c0
          have k1 := (hB.cell (p := ⟨q, 1, none⟩) hqs).trans c1
          have l0 := (hB.frozen (p := ⟨q, 0, none⟩) hqs).trans f0
          have l1 := (hB.frozen (p := ⟨q, 1, none⟩) hqs).trans f1
          have HG2 : Hid (wc.heap[w.heap.size + 1]? = some (.cells (splice Z1 D X2).toArray 3 (0, 0))) := hg2
          have HB2 : Hid (Below w.heap.size w wc) := hB
          clear hg2 hb2 hB e0 e1 HG1 HOd hb1
          go_wp2
          go_end0
          have P := grow_close HC.out HST.out.1 HST.out.2 HX.out HD.out HZ1.out.1 hnm hm9 HG2.out HB2.out hbase
          exact ⟨m, rfl, P.1, hnm, hml, P.2⟩

end Go.Proofs.Qxb6600955a
