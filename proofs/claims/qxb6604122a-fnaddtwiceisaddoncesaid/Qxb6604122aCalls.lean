/-
  Walks of the small functions that the three laws on (*part).add share: hasU64 (20), sameU64 (23), cloneU64 (18) and the three zzBytes (17, 21, 22).
-/
import Derived.Test.Qxb6604122aProg
import Derived.Test.Qxb6604122aPlain
import Derived.WalkKit
import Derived.ProofKit
import Derived.Below
import Derived.BigQuiet
import Derived.Deep.QuietTactic
import Derived.WalkSpells
import Derived.WalkSmall
import Derived.Lib.SliceRun
namespace Go.Proofs.Qxb6604122a
open Go.RowKit
set_option linter.unusedVariables false

theorem info34 : (Try.prog.info? 34).map (fun i => (i.zero, i.size, i.bytes)) = some (some (.int .u64 0), 1, 8) := by kernel_rfl

/-- A slice that can be read: its elements are 'xs'; where there is one, the slice leads to their cells. -/
def Rd (w : World) (a : Option Addr) (xs : List Int) : Prop :=
  0 < xs.length → ∃ b off, a = some ⟨b, off, none⟩ ∧ b < w.heap.size ∧ ∀ i, i < xs.length → w.cell? ⟨b, off + i, none⟩ = some (.int .u64 (xs.getD i 0))

theorem ret_bool {a b : Bool} (h : a = b) : Ending.returned (.bool a) = .returned (.bool b) := by rw [h]

set_option maxHeartbeats 400000 in
theorem has_any (a : Option Addr) (n cap : Nat) (x : Int) (xs : List Int) (w : World) (hn : xs.length = n) (hm : n ≤ 1048576) (hr : Rd w a xs) :
    Calls Try.prog 20 #[.slice a n cap, .int .u64 x] w fun e w' => e = .returned (.bool (hasB xs x)) ∧ w = w' := by
  go_enter Try.func20, Try.ntmps20
  go_wp2
  go_loop [5] (fun i => ∃ k : Nat, k ≤ n ∧ i = .int .i64 k ∧ hasB (xs.take k) x = false) (fun i => n - (intOf i).toNat)
  case atStart => exact ⟨0, Nat.zero_le _, rfl, by simp [hasB]⟩
  case round =>
    obtain ⟨k, hk, rfl, hno⟩ := hrel
    have HN : Hid (hasB (xs.take k) x = false) := hno
    have HL : Hid (xs.length = n) := hn
    clear hno
    by_cases hlt : k < n
    · obtain ⟨b, off, rfl, hbs, hc⟩ := hr (by omega)
      have hc := hc k (by omega)
      have hkx : k < xs.length := by omega
      clear hn
      go_wp2
      · go_ret
        exact ⟨ret_bool (hasB_hit xs x k hkx ‹_›).symm, rfl⟩
      · go_round
        case rel => exact ⟨k + 1, by omega, by go_num, by rw [hasB_take xs x k hkx, HN.out]; simpa using (by assumption : (xs[k] == x) = false)⟩
        case measure => simp [intOf]; omega
    · go_wp2
      go_ret
      exact ⟨ret_bool (by have := HN.out; have h2 := HL.out; rw [List.take_of_length_le (by omega)] at this; exact this.symm), rfl⟩


/-- The zzBytes of the three laws: the length is at most 1 << 20. -/
theorem bytes17 (a : Option Addr) (n cap : Nat) (c : Int) (w : World) (h : n ≤ 1048576) :
    Calls Try.prog 17 #[.slice a n cap, .int .u64 c] w fun e w' => e = .returned (.bool true) ∧ w = w' := by
  go_enter Try.func17, Try.ntmps17
  go_wp2
  go_ret
  exact ⟨rfl, rfl⟩
theorem bytes17_not (a : Option Addr) (n cap : Nat) (c : Int) (w : World) (h : 1048576 < n) :
    Calls Try.prog 17 #[.slice a n cap, .int .u64 c] w fun e w' => e = .returned (.bool false) ∧ w = w' := by
  go_enter Try.func17, Try.ntmps17
  go_wp2
  go_ret
  exact ⟨rfl, rfl⟩
theorem bytes21 (a : Option Addr) (n cap : Nat) (w : World) (h : n ≤ 1048576) :
    Calls Try.prog 21 #[.slice a n cap] w fun e w' => e = .returned (.bool true) ∧ w = w' := by
  go_enter Try.func21, Try.ntmps21
  go_wp2
  go_ret
  exact ⟨rfl, rfl⟩
theorem bytes21_not (a : Option Addr) (n cap : Nat) (w : World) (h : 1048576 < n) :
    Calls Try.prog 21 #[.slice a n cap] w fun e w' => e = .returned (.bool false) ∧ w = w' := by
  go_enter Try.func21, Try.ntmps21
  go_wp2
  go_ret
  exact ⟨rfl, rfl⟩
theorem bytes22 (a : Option Addr) (n cap : Nat) (c : Int) (w : World) (h : n ≤ 1048576) :
    Calls Try.prog 22 #[.slice a n cap, .int .u64 c] w fun e w' => e = .returned (.bool true) ∧ w = w' := by
  go_enter Try.func22, Try.ntmps22
  go_wp2
  go_ret
  exact ⟨rfl, rfl⟩
theorem bytes22_not (a : Option Addr) (n cap : Nat) (c : Int) (w : World) (h : 1048576 < n) :
    Calls Try.prog 22 #[.slice a n cap, .int .u64 c] w fun e w' => e = .returned (.bool false) ∧ w = w' := by
  go_enter Try.func22, Try.ntmps22
  go_wp2
  go_ret
  exact ⟨rfl, rfl⟩

/-- sameU64: two lists of one length and the same elements: said of 'xs == ys'. -/
theorem take_eq_succ (xs ys : List Int) (k : Nat) (hx : k < xs.length) (hy : k < ys.length) (h : xs.take k = ys.take k) (e : xs[k] = ys[k]) : xs.take (k + 1) = ys.take (k + 1) := by
  rw [List.take_succ_eq_append_getElem hx, List.take_succ_eq_append_getElem hy, h, e]

theorem ne_of_at (xs ys : List Int) (k : Nat) (hx : k < xs.length) (hy : k < ys.length) (e : ¬ xs[k] = ys[k]) : (xs == ys) = false := by
  rw [beq_eq_false_iff_ne]
  intro h
  subst h
  exact e rfl

set_option maxHeartbeats 400000 in
theorem same_any (a b : Option Addr) (n cap m cap' : Nat) (xs ys : List Int) (w : World) (hn : xs.length = n) (hm : ys.length = m) (hm1 : n ≤ 1048576) (hm2 : m ≤ 1048576) (hr : Rd w a xs) (hs : Rd w b ys) :
    Calls Try.prog 23 #[.slice a n cap, .slice b m cap'] w fun e w' => e = .returned (.bool (xs == ys)) ∧ Below w.heap.size w w' := by
  by_cases hnm : n = m
  · subst hnm
    go_enter Try.func23, Try.ntmps23
    go_wp2
    go_loopw [5] (fun i wr => ∃ k : Nat, k ≤ n ∧ i = .int .i64 k ∧ xs.take k = ys.take k ∧ Below w.heap.size w wr) (fun i _ => n - (intOf i).toNat)
    case atStart => exact ⟨0, Nat.zero_le _, rfl, by simp, Below.refl _ _⟩
    case round =>
      obtain ⟨k, hk, rfl, hno, hb⟩ := hrel
      have HN : Hid (xs.take k = ys.take k) := hno
      have HL : Hid (xs.length = n) := hn
      have HM : Hid (ys.length = n) := hm
      clear hno
      by_cases hlt : k < n
      · obtain ⟨b1, off1, rfl, hbs1, hc1⟩ := hr (by omega)
        obtain ⟨b2, off2, rfl, hbs2, hc2⟩ := hs (by omega)
        have hc1 := (hb.cell (p := ⟨b1, off1 + k, none⟩) hbs1).trans (hc1 k (by omega))
        have hc2 := (hb.cell (p := ⟨b2, off2 + k, none⟩) hbs2).trans (hc2 k (by omega))
        have hkx : k < xs.length := by omega
        have hky : k < ys.length := by omega
        clear hn hm
        have g1 : (k : Int) < (n : Int) := by omega
        have g0 : (0 : Int) ≤ (k : Int) := by omega
        go_wp2
        go_quiet (fail)
        go_wp2
        · go_ret
          exact ⟨ret_bool (by symm; exact ne_of_at xs ys k hkx hky (by simpa using (by assumption : (xs[k] != ys[k]) = true))), below_drewN hb _⟩
        · go_roundw
          case rel => exact ⟨k + 1, by omega, by go_num, take_eq_succ xs ys k hkx hky HN.out (by simpa using (by assumption : (xs[k] != ys[k]) = false)), below_drewN hb _⟩
          case measure => simp [intOf]; omega
      · go_wp2
        go_ret
        exact ⟨ret_bool (by have := HN.out; have h2 := HL.out; have h3 := HM.out; rw [List.take_of_length_le (by omega), List.take_of_length_le (by omega)] at this; simp [this]), hb⟩
  · have h1 : ((n : Int) == (m : Int)) = false := by rw [beq_eq_false_iff_ne]; omega
    go_enter Try.func23, Try.ntmps23
    go_wp2
    go_ret
    exact ⟨ret_bool (by symm; rw [beq_eq_false_iff_ne]; intro h; subst h; omega), Below.refl _ _⟩


theorem Rd.later {w w' : World} {a : Option Addr} {xs : List Int} (h : Rd w a xs) (hb : Below w.heap.size w w') : Rd w' a xs := by
  intro h0
  obtain ⟨b, off, e, hlt, hc⟩ := h h0
  exact ⟨b, off, e, Nat.lt_of_lt_of_le hlt hb.size, fun i hi => (hb.cell (p := ⟨b, off + i, none⟩) hlt).trans (hc i hi)⟩

/-- A row that is owned can be read. -/
theorem rd_of_owns {w : World} {base : Nat} {v : Value} {n : Nat} {xs : List Int} (h : w.ownsRow base 34 1 v n (xs.map (Value.int .u64))) :
    ∃ a cap, v = .slice a n cap ∧ n ≤ cap ∧ Rd w a xs ∧ xs.length = n := by
  have hl : xs.length = n := by simpa using h.1
  rcases h.2 with ⟨rfl, rfl⟩ | ⟨g, cap, cur, rfl, hb, hg, hnc, hm, hs, ht⟩
  · exact ⟨none, 0, rfl, Nat.le_refl _, fun h0 => by omega, hl⟩
  · refine ⟨_, cap, rfl, hnc, fun h0 => ⟨g, 0, rfl, ?_, fun i hi => ?_⟩, hl⟩
    · rcases Nat.lt_or_ge g w.heap.size with hlt | hge
      · exact hlt
      · rw [Array.getElem?_eq_none hge] at hg; cases hg
    · rw [Nat.zero_add, h.cellAt i (by omega)]
      simp [hi]

theorem fill_step {zs : List Value} {xs : List Int} {k n : Nat} (hz : zs.length = n) (hx : xs.length = n) (hk : k < n) (h : zs.take k = (xs.take k).map (Value.int .u64)) :
    (zs.set k (.int .u64 (xs.getD k 0))).take (k + 1) = (xs.take (k + 1)).map (Value.int .u64) := by
  have hkx : k < xs.length := by omega
  rw [List.take_succ_eq_append_getElem (by simp; omega), List.take_succ_eq_append_getElem hkx, List.take_set, List.map_append, ← h]
  rw [List.set_eq_of_length_le (by simp; omega)]
  simp [hkx]

set_option maxHeartbeats 800000 in
theorem clone_some (n cap : Nat) (ad : Addr) (xs : List Int) (w : World) (hn : xs.length = n) (hm : n ≤ 1048576) (hr : Rd w (some ad) xs) :
    Calls Try.prog 18 #[.slice (some ad) n cap] w fun e w' => e = .returned (.slice (some ⟨w.heap.size, 0, none⟩) n n) ∧ w'.ownsRow w.heap.size 34 1 (.slice (some ⟨w.heap.size, 0, none⟩) n n) n (xs.map (Value.int .u64)) ∧ Below w.heap.size w w' := by
  obtain ⟨i0, hi, hz0, hz1, hz2⟩ := info_parts info34
  have heq := fun (wx : World) (aa : Option Addr) (l c : Nat) => Lib.run_eql_slice_nil (P := Try.prog) wx 33 34 aa l c 0 0 Try.underlying33
  go_enter Try.func18, Try.ntmps18
  go_wp2_with (at_make; refine wpList_make_full _ rfl _ _ 33 rfl w.heap.size 34 i0 (.int .u64 0) 1 Try.underlying33 hi hz0 hz1 _ _ _ _ n rfl rfl (by omega) (by omega) ?b2 ?b3 (Nat.le_refl _) ?_)
  case b2 => rw [hz2]; omega
  case b3 => unfold maxLen; omega
  intro w0 hown0 hgrow0
  go_wp2
  go_loopw [4] (fun i wr => ∃ (k : Nat) (zs : List Value), k ≤ n ∧ i = .int .i64 k ∧ zs.length = n ∧ zs.take k = (xs.take k).map (Value.int .u64) ∧ wr.ownsRow w.heap.size 34 1 (.slice (some ⟨w.heap.size, 0, none⟩) n n) n zs ∧ Below w.heap.size w wr) (fun i _ => n - (intOf i).toNat)
  case atStart => exact ⟨0, _, Nat.zero_le _, rfl, by simpa using hown0.1, by simp, hown0, (Below.refl _ _).grown hgrow0 (Nat.le_refl _) (fun k h => by cases h)⟩
  case round =>
    obtain ⟨k, zs, hk, rfl, hz, hzt, hown, hb⟩ := hrel
    have HN : Hid (zs.take k = (xs.take k).map (Value.int .u64)) := hzt
    have HL : Hid (xs.length = n) := hn
    have HZ : Hid (zs.length = n) := hz
    clear hzt hz
    by_cases hlt : k < n
    · obtain ⟨b1, off1, he, hbs1, hc1⟩ := hr (by omega)
      obtain rfl : ad = ⟨b1, off1, none⟩ := by simpa using he
      have hc1 := (hb.cell (p := ⟨b1, off1 + k, none⟩) hbs1).trans (hc1 k (by omega))
      have hfr := hown.frozenAt k
      have hcz : ∃ u, wr.cell? ⟨w.heap.size, k, none⟩ = some u := by
        rw [hown.cellAt k (by omega)]
        have hkz : k < zs.length := by have := HZ.out; omega
        exact ⟨zs[k], by simp [hkz]⟩
      obtain ⟨u, hcz⟩ := hcz
      have hkx : k < xs.length := by omega
      clear hn
      go_wp2
      go_roundw
      case rel =>
        have hst := hown.stored k (.int .u64 xs[k])
        have hfs := fill_step HZ.out HL.out hlt HN.out
        have e : xs.getD k 0 = xs[k] := by simp [hkx]
        rw [e] at hfs
        exact ⟨k + 1, zs.set k (.int .u64 xs[k]), by omega, by go_num, by simpa using HZ.out, hfs, hst.1, hb.setCell (Nat.le_refl _) _⟩
      case measure => simp [intOf]; omega
    · go_wp2
      go_ret
      refine ⟨rfl, ?_, hb⟩
      have h1 := HN.out
      have h2 := HL.out
      have h3 := HZ.out
      rw [List.take_of_length_le (by omega), List.take_of_length_le (by omega)] at h1
      rw [← h1]
      exact hown


theorem clone_nil (cap : Nat) (w : World) :
    Calls Try.prog 18 #[.slice none 0 cap] w fun e w' => e = .returned (.slice none 0 0) ∧ w = w' := by
  have heq := fun (wx : World) (aa : Option Addr) (l c : Nat) => Lib.run_eql_slice_nil (P := Try.prog) wx 33 34 aa l c 0 0 Try.underlying33
  go_enter Try.func18, Try.ntmps18
  go_wp2
  go_ret
  exact ⟨rfl, rfl⟩

/-- cloneU64: a slice of its own, of the same elements; what was there is as it was. -/
theorem clone_any (a : Option Addr) (n cap : Nat) (xs : List Int) (w : World) (hn : xs.length = n) (hm : n ≤ 1048576) (hr : Rd w a xs) :
    Calls Try.prog 18 #[.slice a n cap] w fun e w' => ∃ a' cap', e = .returned (.slice a' n cap') ∧ w'.ownsRow w.heap.size 34 1 (.slice a' n cap') n (xs.map (Value.int .u64)) ∧ Below w.heap.size w w' := by
  cases a with
  | none =>
    have h0 : ¬ 0 < xs.length := fun h => by obtain ⟨_, _, e, _⟩ := hr h; cases e
    have h1 : xs = [] := List.eq_nil_of_length_eq_zero (by omega)
    subst h1
    subst hn
    refine (clone_nil cap w).mono fun e w' ⟨he, hw⟩ => ?_
    subst hw
    exact ⟨none, 0, he, World.ownsRow_nil _ _ _ _, Below.refl _ _⟩
  | some ad =>
    refine (clone_some n cap ad xs w hn hm hr).mono fun e w' ⟨he, ho, hb⟩ => ?_
    exact ⟨_, _, he, ho, hb⟩

end Go.Proofs.Qxb6604122a
