/-
  Walks over the counter: at (39), matched (34), drop (35), reset (37), ZZCounterState (22), ZZMakeCounter (12), zzFewRuns (17).
-/
import Derived.Test.Qxb6600955aProg
import Derived.Test.Qxb6600955aRing
import Derived.WalkKit
import Derived.ProofKit
import Derived.Below
import Derived.BigQuiet
import Derived.Deep.QuietTactic
import Derived.Deep.RegionWith
import Derived.WalkSpells
import Derived.WalkSmall
import Derived.Deep.DrawnRows
import Derived.Deep.AppendLies
namespace Go.Proofs.Qxb6600955a
open Go.RowKit
set_option linter.unusedVariables false
attribute [local go_sem ↓] Go.wp_at_zero Go.wp_at_succ

/-- A counter at block q: its ring zs of n places, owned from 'base' on, its first and its runs. -/
def Cnt (w : World) (base q n first runs : Nat) (zs : List Int) : Prop :=
  ∃ (a : Option Addr) (cap : Nat), w.heap[q]? = some (.cells #[.slice a n cap, .int .i64 first, .int .i64 runs] 62 (0, 0)) ∧ w.ownsRow base 3 1 (.slice a n cap) n (zs.map (Value.int .i64)) ∧ base ≤ q

theorem Cnt.lt {w : World} {base q n first runs : Nat} {zs : List Int} (h : Cnt w base q n first runs zs) : q < w.heap.size := by
  obtain ⟨_, _, hq, _⟩ := h
  rcases Nat.lt_or_ge q w.heap.size with h | h
  · exact h
  · rw [Array.getElem?_eq_none h] at hq; cases hq

theorem Cnt.cells {w : World} {base q n first runs : Nat} {zs : List Int} (h : Cnt w base q n first runs zs) :
    ∃ (a : Option Addr) (cap : Nat), w.cell? ⟨q, 0, none⟩ = some (.slice a n cap) ∧ w.cell? ⟨q, 1, none⟩ = some (.int .i64 first) ∧ w.cell? ⟨q, 2, none⟩ = some (.int .i64 runs) ∧ (∀ j, w.frozen? ⟨q, j, none⟩ = false) ∧
      w.ownsRow base 3 1 (.slice a n cap) n (zs.map (Value.int .i64)) := by
  obtain ⟨a, cap, hq, ho, _⟩ := h
  exact ⟨a, cap, by rw [cell_of_row w q 0 _ 62 (0, 0) hq]; rfl, by rw [cell_of_row w q 1 _ 62 (0, 0) hq]; rfl, by rw [cell_of_row w q 2 _ 62 (0, 0) hq]; rfl, fun j => frozen_of_row w q j _ 62 hq, ho⟩

/-- A row of another element type lies in another block. -/
theorem rowc_ne {w : World} {base e size n cap q : Nat} {a : Option Addr} {xs : List Value} {cs : Array Value} {t : TypeId} (h : w.ownsRow base e size (.slice a n cap) n xs) (hq : w.heap[q]? = some (.cells cs t (0, 0))) (ht : e ≠ t) : (Value.slice a n cap).ownBlock ≠ some q := by
  intro hb
  rcases h.2 with ⟨h', _⟩ | ⟨g, cap', cur, hv, _, hg, _⟩
  · rw [h'] at hb; simp [Value.ownBlock] at hb
  · rw [hv] at hb
    simp [Value.ownBlock] at hb
    subst hb
    rw [hg] at hq
    simp at hq
    exact ht hq.2

theorem rowc_kept {w w' : World} {base e size n cap : Nat} {a : Option Addr} {xs : List Value} (h : w.ownsRow base e size (.slice a n cap) n xs) (hk : ∀ g, (Value.slice a n cap).ownBlock = some g → w'.heap[g]? = w.heap[g]?) : w'.ownsRow base e size (.slice a n cap) n xs := by
  refine ⟨h.1, ?_⟩
  rcases h.2 with h' | ⟨g, cap', cur, hv, hb, hg, r⟩
  · exact .inl h'
  · exact .inr ⟨g, cap', cur, hv, hb, (hk g (by rw [hv]; rfl)).trans hg, r⟩

theorem Cnt.later {w w' : World} {base q n first runs : Nat} {zs : List Int} (h : Cnt w base q n first runs zs) (hb : Below w.heap.size w w') : Cnt w' base q n first runs zs := by
  have hlt := h.lt
  obtain ⟨a, cap, hq, ho, hbq⟩ := h
  exact ⟨a, cap, (hb.block q hlt).trans hq, rowc_kept ho (fun g hg => hb.block g (ho.lt g hg).2), hbq⟩

/-- The counter behind stores into its first and its runs. -/
theorem Cnt.set2 {w : World} {base q n first runs : Nat} {zs : List Int} (h : Cnt w base q n first runs zs) (f r : Nat) :
    Cnt ((w.setCell ⟨q, 1, none⟩ (.int .i64 f)).setCell ⟨q, 2, none⟩ (.int .i64 r)) base q n f r zs ∧ w.grownBy ((w.setCell ⟨q, 1, none⟩ (.int .i64 f)).setCell ⟨q, 2, none⟩ (.int .i64 r)) (some q) := by
  obtain ⟨a, cap, hq, ho, hbq⟩ := h
  have hne := rowc_ne ho hq (by decide)
  have keep : ∀ g, g ≠ q → ((w.setCell ⟨q, 1, none⟩ (.int .i64 f)).setCell ⟨q, 2, none⟩ (.int .i64 r)).heap[g]? = w.heap[g]? := fun g hg => (Below.heap_setCell _ _ _ _ hg).trans (Below.heap_setCell _ _ _ _ hg)
  refine ⟨⟨a, cap, ?_, rowc_kept ho (fun g hg => keep g (fun e => hne (e ▸ hg))), hbq⟩, ⟨rfl, rfl, rfl, by simp, fun k _ hk => keep k (fun e => hk (by rw [e]))⟩⟩
  exact heap_setCell_same _ q 2 _ 62 _ (heap_setCell_same w q 1 _ 62 _ hq)

theorem Cnt.set1 {w : World} {base q n first runs : Nat} {zs : List Int} (h : Cnt w base q n first runs zs) (r : Nat) :
    Cnt (w.setCell ⟨q, 2, none⟩ (.int .i64 r)) base q n first r zs ∧ w.grownBy (w.setCell ⟨q, 2, none⟩ (.int .i64 r)) (some q) := by
  obtain ⟨a, cap, hq, ho, hbq⟩ := h
  have hne := rowc_ne ho hq (by decide)
  have keep : ∀ g, g ≠ q → (w.setCell ⟨q, 2, none⟩ (.int .i64 r)).heap[g]? = w.heap[g]? := fun g hg => Below.heap_setCell _ _ _ _ hg
  refine ⟨⟨a, cap, ?_, rowc_kept ho (fun g hg => keep g (fun e => hne (e ▸ hg))), hbq⟩, ⟨rfl, rfl, rfl, by simp, fun k _ hk => keep k (fun e => hk (by rw [e]))⟩⟩
  exact heap_setCell_same w q 2 _ 62 _ hq

theorem ret_int {k : IntKind} {a b : Int} (h : a = b) : Ending.returned (.int k a) = .returned (.int k b) := by rw [h]

/-- at: the place in the ring. -/
theorem at_any (q base n first runs j : Nat) (zs : List Int) (w : World) (h : Cnt w base q n first runs zs) (hn : n ≤ 10000) (hf : first ≤ 10000) (hj : j ≤ 10000) :
    Calls Try.prog 39 #[.pointer (some ⟨q, 0, none⟩), .int .i64 j] w fun e w' => e = .returned (.int .i64 (ringAt n first j : Nat)) ∧ w = w' := by
  obtain ⟨a, cap, c0, c1, c2, hfr, ho⟩ := h.cells
  clear h ho c2 hfr
  by_cases hc : n ≤ j + first
  · have e : ((ringAt n first j : Nat) : Int) = (j : Int) + (first : Int) - (n : Int) := by unfold ringAt; rw [if_pos hc]; omega
    have HE : Hid (((ringAt n first j : Nat) : Int) = (j : Int) + (first : Int) - (n : Int)) := e
    clear e
    go_enter Try.func39, Try.ntmps39
    go_wp2
    go_ret
    exact ⟨ret_int HE.out.symm, rfl⟩
  · have e : ((ringAt n first j : Nat) : Int) = (j : Int) + (first : Int) := by unfold ringAt; rw [if_neg hc]; omega
    have HE : Hid (((ringAt n first j : Nat) : Int) = (j : Int) + (first : Int)) := e
    clear e
    go_enter Try.func39, Try.ntmps39
    go_wp2
    go_ret
    exact ⟨ret_int HE.out.symm, rfl⟩

set_option maxRecDepth 100000 in
set_option maxHeartbeats 800000 in
/-- matched: how far the clock is past a run's start. -/
theorem matched_any (q base n first runs j p : Nat) (zs : List Int) (clk : Int) (w : World) (h : Cnt w base q n first runs zs) (hn : n ≤ 10000) (hf : first ≤ 10000) (hj : j ≤ 10000) (hp : ringAt n first j = p) (hpn : p < n) (x : Int) (hx : zs.getD p 0 = x) (b1 : 0 ≤ x) (b2 : x ≤ 1000000) (b3 : 0 ≤ clk) (b4 : clk ≤ 1000000) :
    Calls Try.prog 34 #[.pointer (some ⟨q, 0, none⟩), .int .i64 j, .int .i64 clk] w fun e w' => e = .returned (.int .i64 (clk - x)) ∧ ∃ k, w' = w.drewN k := by
  have HC : Hid (Cnt w base q n first runs zs) := h
  obtain ⟨a, cap, c0, c1, c2, hfr, ho⟩ := h.cells
  have hl : zs.length = n := by simpa using ho.1
  obtain ⟨g, cap', hv, _, _⟩ := ho.form (by omega)
  simp only [Value.slice.injEq, true_and] at hv
  obtain ⟨rfl, rfl⟩ := hv
  have hcp : w.cell? ⟨g, p, none⟩ = some (.int .i64 x) := by
    rw [ho.cellAt p (by omega), ← hx]
    have : p < zs.length := by omega
    simp [this]
  have HP : Hid (ringAt n first j = p) := hp
  clear h ho hfr hp hx hl
  have g0 : (0 : Int) ≤ (p : Int) := by omega
  have g1 : (p : Int) < (n : Int) := by omega
  have hat : ∀ k : Nat, Calls Try.prog 39 #[.pointer (some ⟨q, 0, none⟩), .int .i64 j] (w.drewN k) fun e w'' => e = .returned (.int .i64 p) ∧ ∃ m, w'' = w.drewN m := by
    intro k
    have := at_any q base n first runs j zs (w.drewN k) (HC.out.later (below_drewN (Below.refl _ _) k)) hn hf hj
    rw [HP.out] at this
    exact this.mono fun e w' ⟨h1, h2⟩ => ⟨h1, k, h2.symm⟩
  go_enter Try.func34, Try.ntmps34
  go_wp2
  go_quiet ((go_at_call 39; exact hat _))
  go_wp2
  go_ret
  exact ⟨rfl, _, rfl⟩

set_option maxRecDepth 100000 in
set_option maxHeartbeats 800000 in
/-- drop: the first moves on, one run fewer. -/
theorem drop_any (q base n first runs : Nat) (zs : List Int) (w : World) (h : Cnt w base q n first (runs + 1) zs) (hn : n ≤ 10000) (hf : first ≤ 10000) (hr : runs ≤ 10000) :
    Calls Try.prog 35 #[.pointer (some ⟨q, 0, none⟩)] w fun e w' => e = .returned (.tuple #[]) ∧ Cnt w' base q n (ringAt n first 1) runs zs ∧ w.grownBy w' (some q) := by
  have HC : Hid (Cnt w base q n first (runs + 1) zs) := h
  obtain ⟨a, cap, c0, c1, c2, hfr, ho⟩ := h.cells
  have f1 := hfr 1
  have f2 := hfr 2
  obtain ⟨p, hp⟩ : ∃ p, ringAt n first 1 = p := ⟨_, rfl⟩
  have HP : Hid (ringAt n first 1 = p) := hp
  rw [hp]
  clear h ho hfr hp
  have hat : ∀ wx : World, Below w.heap.size w wx → Calls Try.prog 39 #[.pointer (some ⟨q, 0, none⟩), .int .i64 1] wx fun e w' => e = .returned (.int .i64 p) ∧ wx = w' := by
    intro wx hb
    have := at_any q base n first (runs + 1) 1 zs wx (HC.out.later hb) hn hf (by omega)
    rw [HP.out] at this
    exact this
  have R := HC.out.set2 p runs
  go_enter Try.func35, Try.ntmps35
  go_wp2
  go_region_with (go_at_call 39; refine (hat _ (Below.refl _ _).drew).mono ?_; rintro e w' ⟨rfl, rfl⟩)
  all_goals
    go_wp2
    go_end0
    have hw : IntKind.i64.wrap (runs : Int) = (runs : Int) := by rw [IntKind.wrap_i64]; omega
    rw [hw]
    exact ⟨rfl, R.1, ⟨R.2.os, R.2.tape, R.2.output, R.2.size, R.2.block⟩⟩


/-- A counter whose runs, oldest first, are S. -/
def Ring (w : World) (base q n : Nat) (S : List Int) : Prop := ∃ first zs, Cnt w base q n first S.length zs ∧ Stands n first zs S ∧ n ≤ 9000

theorem Ring.later {w w' : World} {base q n : Nat} {S : List Int} (h : Ring w base q n S) (hb : Below w.heap.size w w') : Ring w' base q n S := by
  obtain ⟨first, zs, h1, h2, h3⟩ := h
  exact ⟨first, zs, h1.later hb, h2, h3⟩

theorem Ring.lt {w : World} {base q n : Nat} {S : List Int} (h : Ring w base q n S) : q < w.heap.size := by
  obtain ⟨first, zs, h1, _⟩ := h
  exact h1.lt

theorem Ring.base_le {w : World} {base q n : Nat} {S : List Int} (h : Ring w base q n S) : base ≤ q := by
  obtain ⟨first, zs, ⟨_, _, _, _, h1⟩, _⟩ := h
  exact h1

/-- What the walk is told of the ring: its runs' cell. -/
theorem Ring.runs {w : World} {base q n : Nat} {S : List Int} (h : Ring w base q n S) :
    ∃ (a : Option Addr) (cap first : Nat), w.cell? ⟨q, 0, none⟩ = some (.slice a n cap) ∧ w.cell? ⟨q, 1, none⟩ = some (.int .i64 first) ∧ w.cell? ⟨q, 2, none⟩ = some (.int .i64 S.length) ∧ (∀ j, w.frozen? ⟨q, j, none⟩ = false) ∧ S.length ≤ n ∧ n ≤ 9000 ∧ (first < n ∨ n = 0 ∧ first = 0) := by
  obtain ⟨first, zs, h1, h2, h3⟩ := h
  obtain ⟨a, cap, c0, c1, c2, hfr, _⟩ := h1.cells
  exact ⟨a, cap, first, c0, c1, c2, hfr, h2.2.1, h3, h2.1⟩

/-- matched, of the run j. -/
theorem matched_ring (q base n j : Nat) (S : List Int) (clk : Int) (w : World) (h : Ring w base q n S) (hj : j < S.length) (hS : ∀ x ∈ S, 0 ≤ x ∧ x ≤ clk) (b4 : clk ≤ 1000000) :
    Calls Try.prog 34 #[.pointer (some ⟨q, 0, none⟩), .int .i64 j, .int .i64 clk] w fun e w' => e = .returned (.int .i64 (clk - S[j])) ∧ ∃ k, w' = w.drewN k := by
  obtain ⟨first, zs, h1, h2, h3⟩ := h
  have hf := h2.first_lt (by omega)
  have hn := h2.2.1
  have e := h2.2.2.2 j hj
  have e2 : S.getD j 0 = S[j] := by simp [hj]
  rw [e2] at e
  have hb := hS S[j] (List.getElem_mem hj)
  exact matched_any q base n first S.length j _ zs clk w h1 (by omega) (by omega) (by omega) rfl (ringAt_lt hf (by omega)) S[j] e.symm hb.1 (by omega) (by omega) b4

theorem drop_ring (q base n : Nat) (x : Int) (S : List Int) (w : World) (h : Ring w base q n (x :: S)) :
    Calls Try.prog 35 #[.pointer (some ⟨q, 0, none⟩)] w fun e w' => e = .returned (.tuple #[]) ∧ Ring w' base q n S ∧ w.grownBy w' (some q) := by
  obtain ⟨first, zs, h1, h2, h3⟩ := h
  have hf := h2.first_lt (by simp)
  have hn := h2.2.1
  simp only [List.length_cons] at h1 hn
  refine (drop_any q base n first S.length zs w h1 (by omega) (by omega) (by omega)).mono fun e w' ⟨he, hc, hb⟩ => ⟨he, ⟨ringAt n first 1, zs, hc, ?_, h3⟩, hb⟩
  have := h2.tail (by simp)
  simpa using this

theorem reset_any (q base n : Nat) (S : List Int) (w : World) (h : Ring w base q n S) :
    Calls Try.prog 37 #[.pointer (some ⟨q, 0, none⟩)] w fun e w' => e = .returned (.tuple #[]) ∧ Ring w' base q n [] ∧ w.grownBy w' (some q) := by
  obtain ⟨first, zs, h1, h2, h3⟩ := h
  obtain ⟨a, cap, c0, c1, c2, hfr, _⟩ := h1.cells
  have f2 := hfr 2
  have R := h1.set1 0
  have HR : Hid (Cnt (w.setCell ⟨q, 2, none⟩ (.int .i64 (0 : Nat))) base q n first 0 zs ∧ w.grownBy (w.setCell ⟨q, 2, none⟩ (.int .i64 (0 : Nat))) (some q)) := R
  clear R hfr h1
  go_enter Try.func37, Try.ntmps37
  go_wp2
  go_end0
  exact ⟨rfl, ⟨first, zs, HR.out.1, h2.none, h3⟩, HR.out.2⟩

set_option maxRecDepth 100000 in
theorem cstate_any (q base n : Nat) (S : List Int) (w : World) (h : Ring w base q n S) :
    Calls Try.prog 22 #[.pointer (some ⟨q, 0, none⟩)] w fun e w' => ∃ (a : Option Addr) (cap first : Nat), e = .returned (.tuple #[.slice a n cap, .int .i64 first, .int .i64 S.length]) ∧ S.length ≤ n ∧ n ≤ 9000 ∧ (first < n ∨ n = 0 ∧ first = 0) ∧ ∃ k, w' = w.drewN k := by
  obtain ⟨a, cap, first, c0, c1, c2, hfr, h1, h2, h3⟩ := h.runs
  clear hfr h
  go_enter Try.func22, Try.ntmps22
  go_wp2
  go_quiet (fail)
  go_wp2
  go_ret3
  exact ⟨a, cap, first, rfl, h1, h2, h3, _, rfl⟩

set_option maxRecDepth 100000 in
/-- zzFewRuns says yes of a ring with few runs. -/
theorem few_any (q base n : Nat) (lo : Int) (S : List Int) (w : World) (h : Ring w base q n S) (h0 : 0 ≤ lo) (hr : (S.length : Int) ≤ lo + 1) (hn : (n : Int) ≤ lo + 2) :
    Calls Try.prog 17 #[.pointer (some ⟨q, 0, none⟩), .int .i64 lo] w fun e w' => e = .returned (.bool true) ∧ ∃ k, w' = w.drewN k := by
  go_enter Try.func17, Try.ntmps17
  go_wp2_with fail
  refine (cstate_any q base n S w h).mono ?_
  rintro e w' ⟨a, cap, first, rfl, h1, h2, h3, k, rfl⟩
  obtain ⟨r, hr0⟩ : ∃ r, S.length = r := ⟨_, rfl⟩
  rw [hr0] at h1 hr
  rw [hr0]
  have g1 : ¬ ((r : Int) < 0) := by omega
  have g2 : ¬ ((n : Int) < (r : Int)) := by omega
  have g3 : ¬ (lo < (r : Int) - 1) := by omega
  have g4 : ¬ (lo < (n : Int) - 2) := by omega
  clear h hr0
  rcases h3 with h3 | ⟨rfl, rfl⟩
  · have g5 : ((n : Int) == 0) = false := by rw [beq_eq_false_iff_ne]; omega
    have g6 : (first : Int) < (n : Int) := by omega
    go_wp2
    go_ret
    exact ⟨rfl, _, rfl⟩
  · go_wp2
    go_ret
    exact ⟨rfl, _, rfl⟩

/-- A counter without a run. -/
theorem make_any (w : World) :
    Calls Try.prog 12 #[.slice none 0 0, .int .i64 0, .int .i64 0] w fun e w' => e = .returned (.pointer (some ⟨w.heap.size, 0, none⟩)) ∧ Ring w' w.heap.size w.heap.size 0 [] ∧ Below w.heap.size w w' := by
  go_enter Try.func12, Try.ntmps12
  go_wp2
  go_ret
  refine ⟨rfl, ⟨0, [], ⟨none, 0, heap_alloc_new w _, World.ownsRow_nil _ _ _ _, Nat.le_refl _⟩, ⟨.inr ⟨rfl, rfl⟩, by simp, rfl, fun j hj => by simp at hj⟩, by omega⟩, (Below.refl _ _).alloc (Nat.le_refl _) _⟩

end Go.Proofs.Qxb6600955a
