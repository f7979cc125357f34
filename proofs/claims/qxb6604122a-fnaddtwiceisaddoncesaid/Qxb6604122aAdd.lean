/-
  The walks of (*part).add (27) and of ZZpartAdd (19).
-/
import Derived.Test.Qxb6604122aPlain
import Derived.Test.Qxb6604122aCalls
import Derived.Deep.RegionLaw
import Derived.Deep.AppendLies
import Derived.Deep.DrawnRows
namespace Go.Proofs.Qxb6604122a
open Go.RowKit
set_option linter.unusedVariables false
attribute [local go_sem ↓] Go.wp_at_zero Go.wp_at_succ

theorem i64_plain (n : Int) (h : 0 ≤ n ∧ n ≤ 9223372036854775807) : IntKind.i64.wrap n = n := by rw [IntKind.wrap_i64]; omega

theorem owns_take {w : World} {base g n cap : Nat} {xs : List Int} (k : Nat) (hk : k ≤ n) (h : w.ownsRow base 34 1 (.slice (some ⟨g, 0, none⟩) n cap) n (xs.map (Value.int .u64))) :
    w.ownsRow base 34 1 (.slice (some ⟨g, 0, none⟩) k cap) k ((xs.take k).map (Value.int .u64)) := by
  have hl : xs.length = n := by simpa using h.1
  refine ⟨by simp; omega, ?_⟩
  rcases h.2 with ⟨h', _⟩ | ⟨g', cap', cur, h', hb, hg, hnc, hcm, hcs, htake⟩
  · simp at h'
  · simp only [Value.slice.injEq, Option.some.injEq, Addr.mk.injEq, and_true, true_and] at h'
    obtain ⟨rfl, rfl⟩ := h'
    refine .inr ⟨g, cap, cur, rfl, hb, hg, by omega, hcm, hcs, ?_⟩
    rw [List.map_take, ← htake, List.take_take]
    congr 1
    omega

theorem cells_mid {w : World} {base g n cap : Nat} {xs : List Int} (k : Nat) (h : w.ownsRow base 34 1 (.slice (some ⟨g, 0, none⟩) n cap) n (xs.map (Value.int .u64))) :
    ∀ j u, ((xs.drop k).map (Value.int .u64))[j]? = some u → w.cell? ((⟨g, k, none⟩ : Addr).add j) = some u := by
  intro j u hj
  have hl : xs.length = n := by simpa using h.1
  have hadd : (⟨g, k, none⟩ : Addr).add j = ⟨g, k + j, none⟩ := by unfold Addr.add; split <;> simp_all
  rw [List.getElem?_map, List.getElem?_drop] at hj
  have hlt : k + j < xs.length := by
    rcases Nat.lt_or_ge (k + j) xs.length with h1 | h1
    · exact h1
    · rw [List.getElem?_eq_none h1] at hj; cases hj
  rw [hadd, h.cellAt (k + j) (by omega), List.getElem?_map]
  exact hj

theorem blk_ne {g g1 q n m cap H : Nat} (hne : (Value.slice (some ⟨g, 0, none⟩) n cap).ownBlock ≠ some q) (hat : (Value.slice (some ⟨g, 0, none⟩) m cap).ownBlock = some g1 ∨ g1 = H) (hq : q < H) : g1 ≠ q ∧ q ≠ g1 := by
  simp [Value.ownBlock] at hne hat
  omega

theorem cell_at_own {w : World} {base g n cap k : Nat} {xs : List Value} (h : w.ownsRow base 34 1 (.slice (some ⟨g, 0, none⟩) n cap) n xs) (hk : k < n) : ∃ u, w.cell? ⟨g, k, none⟩ = some u := by
  have hl : xs.length = n := by simpa using h.1
  rw [h.cellAt k (by omega)]
  have hkz : k < xs.length := by omega
  exact ⟨xs[k], by simp [hkz]⟩

theorem far_alloc {w w1 : World} {o : Obj} {row : Option Nat} {b off : Nat} (hg : (w.alloc o).grownBy w1 row) (hp : b < w.heap.size) (hne : row ≠ some b) :
    w1.cell? ⟨b, off, none⟩ = w.cell? ⟨b, off, none⟩ ∧ w1.frozen? ⟨b, off, none⟩ = w.frozen? ⟨b, off, none⟩ := by
  have h1 : w1.heap[b]? = w.heap[b]? := (hg.block b (by simp; omega) (Ne.symm hne)).trans (Below.heap_alloc _ _ _ hp)
  exact ⟨World.cell?_of_block (w := w) (a := ⟨b, off, none⟩) h1, World.frozen?_of_block (w := w) (a := ⟨b, off, none⟩) h1⟩

theorem far_grown {w w1 : World} {row : Option Nat} {b off : Nat} (hg : w.grownBy w1 row) (hp : b < w.heap.size) (hne : row ≠ some b) :
    w1.cell? ⟨b, off, none⟩ = w.cell? ⟨b, off, none⟩ ∧ w1.frozen? ⟨b, off, none⟩ = w.frozen? ⟨b, off, none⟩ := by
  have h1 : w1.heap[b]? = w.heap[b]? := hg.block b hp (Ne.symm hne)
  exact ⟨World.cell?_of_block (w := w) (a := ⟨b, off, none⟩) h1, World.frozen?_of_block (w := w) (a := ⟨b, off, none⟩) h1⟩

theorem cell_same {w : World} {a : Addr} {u : Value} (h : w.cell? a = some u) (v : Value) : (w.setCell a v).cell? a = some v := World.cell?_setCell_same' w a v (by rw [h]; rfl)

theorem owns_set_other {w : World} {base e size g n cap : Nat} {xs : List Value} (h : w.ownsRow base e size (.slice (some ⟨g, 0, none⟩) n cap) n xs) {q o : Nat} (hne : g ≠ q) (u : Value) :
    (w.setCell ⟨q, o, none⟩ u).ownsRow base e size (.slice (some ⟨g, 0, none⟩) n cap) n xs := by
  obtain ⟨h1, h2⟩ := h
  refine ⟨h1, ?_⟩
  rcases h2 with h2 | ⟨g', cap', cur, hv, hg, hh, r⟩
  · exact Or.inl h2
  · have hv2 := hv
    simp only [Value.slice.injEq, Option.some.injEq, Addr.mk.injEq, and_true, true_and] at hv2
    obtain ⟨rfl, rfl⟩ := hv2
    exact Or.inr ⟨g, cap, cur, rfl, hg, by rw [Below.heap_setCell _ _ _ _ hne]; exact hh, r⟩

/-- Behind 'p.cycles = append(p.cycles, c)'. -/
theorem close_end {w w1 : World} {o : Obj} {base q n cap g cap1 : Nat} {a : Option Addr} {xs : List Int} {c : Int} {v0 : Value}
    (hown : w.ownsRow base 34 1 (.slice a n cap) n (xs.map (Value.int .u64))) (hbq : base ≤ q) (hqs : q < w.heap.size) (hne : (Value.slice a n cap).ownBlock ≠ some q) (hbase : base ≤ w.heap.size)
    (hown1 : w1.ownsRow base 34 1 (.slice (some ⟨g, 0, none⟩) (n + 1) cap1) (n + 1) (xs.map (Value.int .u64) ++ [.int .u64 c])) (hgrow : (w.alloc o).grownBy w1 (Value.slice a n cap).ownBlock)
    (hat : (Value.slice a n cap).ownBlock = some g ∨ g = w.heap.size + 1) (hq1 : w1.cell? ⟨q, 4, none⟩ = some v0) (hall : ∀ y ∈ xs, y < c) :
    ∃ x, (w1.setCell ⟨q, 4, none⟩ (.slice (some ⟨g, 0, none⟩) (n + 1) cap1)).cell? ⟨q, 4, none⟩ = some x ∧
      (w1.setCell ⟨q, 4, none⟩ (.slice (some ⟨g, 0, none⟩) (n + 1) cap1)).ownsRow base 34 1 x (addL c xs).length ((addL c xs).map (Value.int .u64)) ∧
      Below base w (w1.setCell ⟨q, 4, none⟩ (.slice (some ⟨g, 0, none⟩) (n + 1) cap1)) := by
  have hgq : g ≠ q := by
    rcases hat with h | h
    · intro e; subst e; exact hne h
    · omega
  have hl : xs.length = n := by simpa using hown.1
  have e1 : (addL c xs).length = n + 1 := by rw [addL_end c xs hall]; simp [hl]
  refine ⟨_, cell_same hq1 _, ?_, ?_⟩
  · rw [e1, addL_end c xs hall]
    have := owns_set_other hown1 (o := 4) hgq (.slice (some ⟨g, 0, none⟩) (n + 1) cap1)
    simpa using this
  · refine Below.setCell (((Below.refl base w).alloc hbase o).grown hgrow (by simp; omega) (fun k hk => (hown.lt k hk).1)) hbq _

/-- Behind 'p.cycles = append(p.cycles[:i+1], p.cycles[i:]...)' and 'p.cycles[i] = c'. -/
theorem close_mid {w w1 : World} {base q n cap g g1 cap1 k : Nat} {xs : List Int} {c : Int} {v0 : Value}
    (hown : w.ownsRow base 34 1 (.slice (some ⟨g, 0, none⟩) n cap) n (xs.map (Value.int .u64))) (hbq : base ≤ q) (hqs : q < w.heap.size) (hbase : base ≤ w.heap.size) (hbg : base ≤ g) (hk : k < n)
    (hown1 : w1.ownsRow base 34 1 (.slice (some ⟨g1, 0, none⟩) (k + 1 + (n - k)) cap1) (k + 1 + (n - k)) ((xs.take (k + 1)).map (Value.int .u64) ++ (xs.drop k).map (Value.int .u64)))
    (hgrow : w.drew.grownBy w1 (Value.slice (some ⟨g, 0, none⟩) (k + 1) cap).ownBlock)
    (hgq : g1 ≠ q) (hq1 : w1.cell? ⟨q, 4, none⟩ = some v0) (hkx : k < xs.length) (hall : ∀ y ∈ xs.take k, y < c) (hc : c < xs[k]) :
    ∃ x, ((w1.setCell ⟨q, 4, none⟩ (.slice (some ⟨g1, 0, none⟩) (k + 1 + (n - k)) cap1)).setCell ⟨g1, k, none⟩ (.int .u64 c)).cell? ⟨q, 4, none⟩ = some x ∧
      ((w1.setCell ⟨q, 4, none⟩ (.slice (some ⟨g1, 0, none⟩) (k + 1 + (n - k)) cap1)).setCell ⟨g1, k, none⟩ (.int .u64 c)).ownsRow base 34 1 x (addL c xs).length ((addL c xs).map (Value.int .u64)) ∧
      Below base w ((w1.setCell ⟨q, 4, none⟩ (.slice (some ⟨g1, 0, none⟩) (k + 1 + (n - k)) cap1)).setCell ⟨g1, k, none⟩ (.int .u64 c)) := by
  have hl : xs.length = n := by simpa using hown.1
  have e1 : (addL c xs).length = k + 1 + (n - k) := by rw [addL_mid c xs k hkx hall hc]; simp; omega
  have hb1 : base ≤ g1 := (hown1.lt g1 rfl).1
  have hset := set_mid (Value.int .u64 c) (xs.map (Value.int .u64)) k (by simpa using hkx)
  refine ⟨_, (World.cell?_of_block (w := w1.setCell ⟨q, 4, none⟩ _) (a := ⟨q, 4, none⟩) (Below.heap_setCell _ _ _ _ (Ne.symm hgq))).trans (cell_same hq1 _), ?_, ?_⟩
  · rw [e1, addL_mid c xs k hkx hall hc]
    have h2 := ((owns_set_other hown1 (o := 4) hgq (.slice (some ⟨g1, 0, none⟩) (k + 1 + (n - k)) cap1)).stored k (.int .u64 c)).1
    rw [List.map_take, List.map_drop, hset] at h2
    simpa [List.map_take, List.map_drop] using h2
  · exact Below.setCell (Below.setCell ((Below.refl base w).drew.grown hgrow hbase (fun j hj => by cases hj; exact hbg)) hbq _) hb1 _

set_option maxRecDepth 100000 in
set_option maxHeartbeats 1600000 in
/-- (*part).add on a part whose cycles the call owns: its cycles are then 'addL c xs', owned too; nothing below 'base' has turned. -/
theorem add_any (q base n cap : Nat) (a : Option Addr) (xs : List Int) (c : Int) (w : World) (hm : n ≤ 1048576)
    (hq : w.cell? ⟨q, 4, none⟩ = some (.slice a n cap)) (hf : w.frozen? ⟨q, 4, none⟩ = false) (hown : w.ownsRow base 34 1 (.slice a n cap) n (xs.map (Value.int .u64)))
    (hbq : base ≤ q) (hne : (Value.slice a n cap).ownBlock ≠ some q) (hbase : base ≤ w.heap.size) :
    Calls Try.prog 27 #[.pointer (some ⟨q, 0, none⟩), .int .u64 c] w fun e w' => ∃ v', e = .returned (.tuple #[]) ∧ w'.cell? ⟨q, 4, none⟩ = some v' ∧ w'.ownsRow base 34 1 v' (addL c xs).length ((addL c xs).map (Value.int .u64)) ∧ Below base w w' := by
  obtain ⟨i0, hi, hz0, hz1, hz2⟩ := info_parts info34
  have hl : xs.length = n := by simpa using hown.1
  have HL : Hid (xs.length = n) := hl
  clear hl
  have hqs : q < w.heap.size := World.block_lt_of_cell? w _ hq
  go_enter Try.func27, Try.ntmps27
  go_wp2
  go_loop [11] (fun i => ∃ k : Nat, k ≤ n ∧ i = .int .i64 k ∧ (∀ y ∈ xs.take k, y < c)) (fun i => n - (intOf i).toNat)
  case atStart => exact ⟨0, Nat.zero_le _, rfl, by simp⟩
  case round =>
    obtain ⟨k, hk, rfl, hno⟩ := hrel
    have HN : Hid (∀ y ∈ xs.take k, y < c) := hno
    clear hno
    by_cases hlt : k < n
    · obtain ⟨g, cap', hv, hbg, hgs⟩ := hown.form (by omega)
      simp only [Value.slice.injEq, true_and] at hv
      obtain ⟨rfl, rfl⟩ := hv
      have hkx : k < xs.length := by have := HL.out; omega
      have hcx : w.cell? ⟨g, k, none⟩ = some (.int .u64 xs[k]) := by rw [hown.cellAt k (by omega)]; simp [hkx]
      have g1 : (k : Int) < (n : Int) := by omega
      have g0 : (0 : Int) ≤ (k : Int) := by omega
      rcases Int.lt_trichotomy xs[k] c with h | h | h
      · go_wp2
        go_round
        case rel => exact ⟨k + 1, by omega, by go_num, below_step c xs k hkx HN.out (by omega) (by omega)⟩
        case measure => simp [intOf]; omega
      · go_wp2
        (try simp only [Exit.inBlock, Exit.then])
        refine bodyPost_ret (results_none rfl _ _ _) rfl ?_
        rw [addL_hit c xs k hkx HN.out h]
        have := HL.out
        refine ⟨rfl, _, hq, ?_, Below.refl _ _⟩
        rw [this]
        exact hown
      · have hown2 := owns_take (k + 1) (by omega) hown
        have hcm := cells_mid k hown
        have g2 : (k : Int) + 1 ≤ (cap : Int) := by rcases hown.2 with ⟨h', _⟩ | ⟨_, _, _, h', _, _, hnc, _⟩; { simp at h' }; { simp only [Value.slice.injEq, Option.some.injEq, Addr.mk.injEq, and_true, true_and] at h'; omega }
        have g3 : (k : Int) ≤ (n : Int) := by omega
        have g4 : (0 : Int) ≤ (k : Int) + 1 := by omega
        have g5 : (k : Int) ≤ (cap : Int) := by omega
        have gck : ¬ cap = k := by omega
        have gw : IntKind.i64.wrap ((k : Int) + 1) = (k : Int) + 1 := i64_plain _ (by omega)
        have HD : Hid (((xs.drop k).map (Value.int .u64)).length = (n - k) * 1) := by have := HL.out; show _ = _; simp; omega
        go_wp2
        go_region_law
          ((refine step_append_lies _ (by rfl) (.tmp 31) (.tmp 37) 33 (by rfl) base 34 i0 (.int .u64 0) 1 8 Try.underlying33 hi hz0 hz1 hz2 (by rfl) (by omega) (.slice (some ⟨g, 0, none⟩) (k + 1) cap) (k + 1) _ (by rfl) hown2.drew ⟨g, k, none⟩ (n - k) (cap - k) ((xs.drop k).map (Value.int .u64)) (by rfl) HD.out hcm (ints_oneCell _ _) (by omega) (by unfold maxLen; omega) (by omega) (by simp; omega) _ rfl ?_; intro g1 cap1 w1 hown1 hgrow hat hlt1; have hq1 := (far_grown (off := 4) hgrow hqs hne).1.trans hq; have hf1 := (far_grown (off := 4) hgrow hqs hne).2.trans hf; have hgq := (blk_ne hne hat hqs).1; have hqg := (blk_ne hne hat hqs).2; have hfk := hown1.frozenAt k; obtain ⟨u1, hck1⟩ := cell_at_own (k := k) hown1 (by omega)))
        go_wp2
        all_goals
          (try simp only [Exit.inBlock, Exit.then])
          refine bodyPost_ret (results_none rfl _ _ _) rfl ?_
          obtain ⟨x, r1, r2, r3⟩ := close_mid hown hbq hqs hbase hbg hlt hown1 hgrow hgq hq1 hkx HN.out h
          exact ⟨x, rfl, r1, r2, r3⟩
    · go_wp2_with (at_builtin; go_must (refine wpList_append_lies _ rfl (.tmp 53) (.tmp 55) 33 rfl base 34 i0 (.int .u64 0) 1 8 Try.underlying33 hi hz0 hz1 hz2 rfl (by omega) _ n _ rfl (hown.alloc _) ⟨w.heap.size, 0, none⟩ 1 1 [.int .u64 c] rfl rfl (cell_one_new _ _ _) (by simp [Value.oneCell']) (by omega) (by unfold maxLen; omega) (by omega) (by simp; omega) (w.heap.size + 1) (by simp) ?_); intro g cap1 w1 hown1 hgrow hat hlt1; have hq1 := (far_alloc (off := 4) hgrow hqs hne).1.trans hq; have hf1 := (far_alloc (off := 4) hgrow hqs hne).2.trans hf)
      go_end0
      have hall := HN.out
      have hln := HL.out
      rw [List.take_of_length_le (by omega)] at hall
      exact ⟨rfl, close_end hown hbq hqs hne hbase hown1 hgrow hat hq1 hall⟩


set_option maxRecDepth 100000 in
set_option maxHeartbeats 800000 in
/-- ZZpartAdd on a slice that the call owns. -/
theorem partAdd_any (base n cap : Nat) (a : Option Addr) (xs : List Int) (c : Int) (w : World) (hm : n ≤ 1048576)
    (hown : w.ownsRow base 34 1 (.slice a n cap) n (xs.map (Value.int .u64))) (hbase : base ≤ w.heap.size) :
    Calls Try.prog 19 #[.slice a n cap, .int .u64 c] w fun e w' => ∃ a' cap', e = .returned (.slice a' (addL c xs).length cap') ∧ w'.ownsRow base 34 1 (.slice a' (addL c xs).length cap') (addL c xs).length ((addL c xs).map (Value.int .u64)) ∧ Below base w w' := by
  have hlt := hown.lt
  go_enter Try.func19, Try.ntmps19
  go_wp2_with fail
  refine (add_any w.heap.size base n cap a xs c _ hm (by simp) (by simp) (hown.alloc _) hbase (fun h => by have := (hlt _ h).2; omega) (by simp; omega)).mono ?_
  rintro e w' ⟨v', rfl, hcell, hown', hb⟩
  obtain ⟨a', cap', rfl, _, _, _⟩ := rd_of_owns hown'
  go_wp2
  go_ret
  exact ⟨a', cap', rfl, hown', ((Below.refl _ _).alloc hbase _).trans hb⟩


theorem rd_own {w : World} {base n cap : Nat} {a : Option Addr} {xs : List Int} (h : w.ownsRow base 34 1 (.slice a n cap) n (xs.map (Value.int .u64))) : Rd w a xs := by
  obtain ⟨a', cap', e, _, hr, _⟩ := rd_of_owns h
  cases e
  exact hr

/-- The same, the new list and its length under names of the caller's. -/
theorem partAdd_as (base n cap : Nat) (a : Option Addr) (xs : List Int) (c : Int) (w : World) (G : List Int) (L : Nat) (hG : addL c xs = G) (hL : G.length = L) (hm : n ≤ 1048576)
    (hown : w.ownsRow base 34 1 (.slice a n cap) n (xs.map (Value.int .u64))) (hbase : base ≤ w.heap.size) :
    Calls Try.prog 19 #[.slice a n cap, .int .u64 c] w fun e w' => ∃ a' cap', e = .returned (.slice a' L cap') ∧ w'.ownsRow base 34 1 (.slice a' L cap') L (G.map (Value.int .u64)) ∧ Below base w w' := by
  subst hG
  subst hL
  exact partAdd_any base n cap a xs c w hm hown hbase

end Go.Proofs.Qxb6604122a
