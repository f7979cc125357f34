/-
  zzCloneBytes (11) and zzBytes (16): walks; slices of bytes that can be read.
-/
import Derived.Test.Qxb6600955aProg
import Derived.WalkKit
import Derived.ProofKit
import Derived.Below
import Derived.WalkSpells
import Derived.WalkSmall
import Derived.Lib.SliceRun
namespace Go.Proofs.Qxb6600955a
open Go.RowKit
set_option linter.unusedVariables false

theorem info5 : (Try.prog.info? 5).map (fun i => (i.zero, i.size, i.bytes)) = some (some (.int .u8 0), 1, 1) := by kernel_rfl

/-- A slice that can be read: its elements are 'xs'; where there is one, the slice leads to their cells. -/
def Rd (w : World) (a : Option Addr) (xs : List Int) : Prop :=
  0 < xs.length → ∃ b off, a = some ⟨b, off, none⟩ ∧ b < w.heap.size ∧ ∀ i, i < xs.length → w.cell? ⟨b, off + i, none⟩ = some (.int .u8 (xs.getD i 0))

theorem Rd.later {w w' : World} {a : Option Addr} {xs : List Int} (h : Rd w a xs) (hb : Below w.heap.size w w') : Rd w' a xs := by
  intro h0
  obtain ⟨b, off, e, hlt, hc⟩ := h h0
  exact ⟨b, off, e, Nat.lt_of_lt_of_le hlt hb.size, fun i hi => (hb.cell (p := ⟨b, off + i, none⟩) hlt).trans (hc i hi)⟩

/-- A row that is owned can be read. -/
theorem rd_of_owns {w : World} {base : Nat} {v : Value} {n : Nat} {xs : List Int} (h : w.ownsRow base 5 1 v n (xs.map (Value.int .u8))) :
    ∃ a cap, v = .slice a n cap ∧ n ≤ cap ∧ Rd w a xs ∧ xs.length = n := by
  have hl : xs.length = n := by simpa using h.1
  rcases h.2 with ⟨rfl, rfl⟩ | ⟨g, cap, cur, rfl, hb, hg, hnc, hm, hs, ht⟩
  · exact ⟨none, 0, rfl, Nat.le_refl _, fun h0 => by omega, hl⟩
  · refine ⟨_, cap, rfl, hnc, fun h0 => ⟨g, 0, rfl, ?_, fun i hi => ?_⟩, hl⟩
    · rcases Nat.lt_or_ge g w.heap.size with hlt | hge
      · exact hlt
      · rw [Array.getElem?_eq_none hge] at hg; cases hg
    · rw [Nat.zero_add, h.cellAt i (by omega)]
      simp [hi]

theorem fill_step {zs : List Value} {xs : List Int} {k n : Nat} (hz : zs.length = n) (hx : xs.length = n) (hk : k < n) (h : zs.take k = (xs.take k).map (Value.int .u8)) :
    (zs.set k (.int .u8 (xs.getD k 0))).take (k + 1) = (xs.take (k + 1)).map (Value.int .u8) := by
  have hkx : k < xs.length := by omega
  rw [List.take_succ_eq_append_getElem (by simp; omega), List.take_succ_eq_append_getElem hkx, List.take_set, List.map_append, ← h]
  rw [List.set_eq_of_length_le (by simp; omega)]
  simp [hkx]

set_option maxHeartbeats 800000 in
theorem clone_some (n cap : Nat) (ad : Addr) (xs : List Int) (w : World) (hn : xs.length = n) (hm : n ≤ 1048576) (hr : Rd w (some ad) xs) :
    Calls Try.prog 11 #[.slice (some ad) n cap] w fun e w' => e = .returned (.slice (some ⟨w.heap.size, 0, none⟩) n n) ∧ w'.ownsRow w.heap.size 5 1 (.slice (some ⟨w.heap.size, 0, none⟩) n n) n (xs.map (Value.int .u8)) ∧ Below w.heap.size w w' := by
  obtain ⟨i0, hi, hz0, hz1, hz2⟩ := info_parts info5
  have heq := fun (wx : World) (aa : Option Addr) (l c : Nat) => Lib.run_eql_slice_nil (P := Try.prog) wx 22 5 aa l c 0 0 Try.underlying22
  go_enter Try.func11, Try.ntmps11
  go_wp2_with (at_make; refine wpList_make_full _ rfl _ _ 22 rfl w.heap.size 5 i0 (.int .u8 0) 1 Try.underlying22 hi hz0 hz1 _ _ _ _ n rfl rfl (by omega) (by omega) ?b2 ?b3 (Nat.le_refl _) ?_)
  case b2 => rw [hz2]; omega
  case b3 => unfold maxLen; omega
  intro w0 hown0 hgrow0
  go_wp2
  go_loopw [4] (fun i wr => ∃ (k : Nat) (zs : List Value), k ≤ n ∧ i = .int .i64 k ∧ zs.length = n ∧ zs.take k = (xs.take k).map (Value.int .u8) ∧ wr.ownsRow w.heap.size 5 1 (.slice (some ⟨w.heap.size, 0, none⟩) n n) n zs ∧ Below w.heap.size w wr) (fun i _ => n - (intOf i).toNat)
  case atStart => exact ⟨0, _, Nat.zero_le _, rfl, by simpa using hown0.1, by simp, hown0, (Below.refl _ _).grown hgrow0 (Nat.le_refl _) (fun k h => by cases h)⟩
  case round =>
    obtain ⟨k, zs, hk, rfl, hz, hzt, hown, hb⟩ := hrel
    have HN : Hid (zs.take k = (xs.take k).map (Value.int .u8)) := hzt
    have HL : Hid (xs.length = n) := hn
    have HZ : Hid (zs.length = n) := hz
    clear hzt hz
    by_cases hlt : k < n
    · obtain ⟨b1, off1, he, hbs1, hc1⟩ := hr (by omega)
      obtain rfl : ad = ⟨b1, off1, none⟩ := by simpa using he
      have hc1 := (hb.cell (p := ⟨b1, off1 + k, none⟩) hbs1).trans (hc1 k (by omega))
      have hfr := hown.frozenAt k
      have hcz : ∃ u, wr.cell? ⟨w.heap.size, k, none⟩ = some u := by
        rw [hown.cellAt k (by omega)]
        have hkz : k < zs.length := by have := HZ.out; omega
        exact ⟨zs[k], by simp [hkz]⟩
      obtain ⟨u, hcz⟩ := hcz
      have hkx : k < xs.length := by omega
      clear hn
      go_wp2
      go_roundw
      case rel =>
        have hst := hown.stored k (.int .u8 xs[k])
        have hfs := fill_step HZ.out HL.out hlt HN.out
        have e : xs.getD k 0 = xs[k] := by simp [hkx]
        rw [e] at hfs
        exact ⟨k + 1, zs.set k (.int .u8 xs[k]), by omega, by go_num, by simpa using HZ.out, hfs, hst.1, hb.setCell (Nat.le_refl _) _⟩
      case measure => simp [intOf]; omega
    · go_wp2
      go_ret
      refine ⟨rfl, ?_, hb⟩
      have h1 := HN.out
      have h2 := HL.out
      have h3 := HZ.out
      rw [List.take_of_length_le (by omega), List.take_of_length_le (by omega)] at h1
      rw [← h1]
      exact hown


theorem clone_nil (cap : Nat) (w : World) :
    Calls Try.prog 11 #[.slice none 0 cap] w fun e w' => e = .returned (.slice none 0 0) ∧ w = w' := by
  have heq := fun (wx : World) (aa : Option Addr) (l c : Nat) => Lib.run_eql_slice_nil (P := Try.prog) wx 22 5 aa l c 0 0 Try.underlying22
  go_enter Try.func11, Try.ntmps11
  go_wp2
  go_ret
  exact ⟨rfl, rfl⟩

/-- zzCloneBytes: a slice of its own, of the same elements; what was there is as it was. -/
theorem clone_any (a : Option Addr) (n cap : Nat) (xs : List Int) (w : World) (hn : xs.length = n) (hm : n ≤ 1048576) (hr : Rd w a xs) :
    Calls Try.prog 11 #[.slice a n cap] w fun e w' => ∃ a' cap', e = .returned (.slice a' n cap') ∧ w'.ownsRow w.heap.size 5 1 (.slice a' n cap') n (xs.map (Value.int .u8)) ∧ Below w.heap.size w w' := by
  cases a with
  | none =>
    have h0 : ¬ 0 < xs.length := fun h => by obtain ⟨_, _, e, _⟩ := hr h; cases e
    have h1 : xs = [] := List.eq_nil_of_length_eq_zero (by omega)
    subst h1
    subst hn
    refine (clone_nil cap w).mono fun e w' ⟨he, hw⟩ => ?_
    subst hw
    exact ⟨none, 0, he, World.ownsRow_nil _ _ _ _, Below.refl _ _⟩
  | some ad =>
    refine (clone_some n cap ad xs w hn hm hr).mono fun e w' ⟨he, ho, hb⟩ => ?_
    exact ⟨_, _, he, ho, hb⟩


theorem bytes16 (a0 a1 : Int) (a : Option Addr) (n cap : Nat) (w : World) (h : n ≤ 1048576) :
    Calls Try.prog 16 #[.int .i64 a0, .int .i64 a1, .slice a n cap] w fun e w' => e = .returned (.bool true) ∧ w = w' := by
  go_enter Try.func16, Try.ntmps16
  go_wp2
  go_ret
  exact ⟨rfl, rfl⟩
theorem bytes16_not (a0 a1 : Int) (a : Option Addr) (n cap : Nat) (w : World) (hm : n ≤ 9223372036854775807) (h : 1048576 < n) :
    Calls Try.prog 16 #[.int .i64 a0, .int .i64 a1, .slice a n cap] w fun e w' => e = .returned (.bool false) ∧ w = w' := by
  go_enter Try.func16, Try.ntmps16
  go_wp2
  go_ret
  exact ⟨rfl, rfl⟩

end Go.Proofs.Qxb6600955a
