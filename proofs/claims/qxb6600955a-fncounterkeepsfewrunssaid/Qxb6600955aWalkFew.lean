/-
  The walk of FnCounterKeepsFewRuns (4).
-/
import Derived.Test.Qxb6600955aBytes
import Derived.Test.Qxb6600955aPass
import Derived.Test.Qxb6600955aStart
namespace Go.Proofs.Qxb6600955a
open Go.RowKit
set_option linter.unusedVariables false

set_option maxHeartbeats 800000 in
/-- Outside the law's bounds it answers true at once. -/
theorem few_out (lo hi : Int) (a : Option Addr) (n cap : Nat) (w : World) (hm : n ≤ maxLen) (h : 4096 < n ∨ n ≤ 4096 ∧ (lo < 0 ∨ 0 ≤ lo ∧ (0 ≤ hi ∧ hi < lo))) :
    Calls Try.prog 4 #[.int .i64 lo, .int .i64 hi, .slice a n cap] w fun e w' => e = .returned (.bool true) ∧ Below w.heap.size w w' := by
  unfold maxLen at hm
  rcases h with h | ⟨h, h2 | ⟨h2, h3, h4⟩⟩
  · by_cases hB : n ≤ 1048576
    · go_enter Try.func4, Try.ntmps4
      go_wp2_with (go_at_call 16; refine (bytes16 _ _ _ _ _ _ hB).mono ?_; rintro e w' ⟨rfl, rfl⟩)
      go_ret
      exact ⟨rfl, Below.refl _ _⟩
    · go_enter Try.func4, Try.ntmps4
      go_wp2_with (go_at_call 16; refine (bytes16_not _ _ _ _ _ _ hm (by omega)).mono ?_; rintro e w' ⟨rfl, rfl⟩)
      go_ret
      exact ⟨rfl, Below.refl _ _⟩
  · go_enter Try.func4, Try.ntmps4
    go_wp2_with (go_at_call 16; refine (bytes16 _ _ _ _ _ _ (by omega)).mono ?_; rintro e w' ⟨rfl, rfl⟩)
    go_ret
    exact ⟨rfl, Below.refl _ _⟩
  · go_enter Try.func4, Try.ntmps4
    go_wp2_with (go_at_call 16; refine (bytes16 _ _ _ _ _ _ (by omega)).mono ?_; rintro e w' ⟨rfl, rfl⟩)
    go_ret
    exact ⟨rfl, Below.refl _ _⟩

theorem i64_and3 (n : Int) : bits .and .i64 n 3 = n % 4 := by
  have h3 : (BitVec.ofInt 64 3).toNat = 2 ^ 2 - 1 := by decide
  have key : (BitVec.ofInt 64 n &&& BitVec.ofInt 64 3).toNat = (n % ((2 ^ 64 : Nat) : Int)).toNat % 2 ^ 2 := by
    rw [BitVec.toNat_and, BitVec.toNat_ofInt, h3, Nat.and_two_pow_sub_one_eq_mod]
  show IntKind.i64.wrap ((BitVec.ofInt 64 n &&& BitVec.ofInt 64 3).toNat : Nat) = n % 4
  rw [key, IntKind.wrap_i64]
  omega

set_option maxRecDepth 100000 in
set_option maxHeartbeats 1600000 in
theorem few_in (lo hi : Int) (a : Option Addr) (n cap : Nat) (xs : List Int) (w : World) (hn : xs.length = n) (h17 : n ≤ 4096) (hr : Rd w a xs) (hxs : ∀ x ∈ xs, 0 ≤ x ∧ x ≤ 255) (hlo : 0 ≤ lo) (hlo2 : lo ≤ 9223372036854775807) (hhi : hi < 0 ∨ 0 ≤ hi ∧ lo ≤ hi) :
    Calls Try.prog 4 #[.int .i64 lo, .int .i64 hi, .slice a n cap] w fun e w' => e = .returned (.bool true) ∧ Below w.heap.size w w' := by
  have HL : Hid (xs.length = n) := hn
  have HR : Hid (Rd w a xs) := hr
  have HX : Hid (∀ x ∈ xs, 0 ≤ x ∧ x ≤ 255) := hxs
  have HLO : Hid (lo ≤ 9223372036854775807) := hlo2
  clear hn hr hxs hlo2
  go_enter Try.func4, Try.ntmps4
  rcases hhi with hhi | ⟨hhi, hhi2⟩
  all_goals
    go_wp2_with (go_at_call 16; refine (bytes16 _ _ _ _ _ _ (by omega)).mono ?_; rintro e w' ⟨rfl, rfl⟩)
    refine (clone_any a n cap xs _ HL.out (by omega) HR.out).mono ?_
    rintro e w1 ⟨a1, cap1, rfl, hown1, hb1⟩
    obtain ⟨_, _, he, _, hrd, _⟩ := rd_of_owns hown1
    cases he
    have HR1 : Hid (Rd w1 a1 xs) := hrd
    clear hown1 hrd
    go_wp2_with fail
    refine (make_any w1).mono ?_
    rintro e w2 ⟨rfl, hRing2, hb2⟩
    obtain ⟨q, hq⟩ : ∃ q, w1.heap.size = q := ⟨_, rfl⟩
    rw [hq] at hRing2 hb2
    rw [hq]
    have HQ : Hid (w1.heap.size = q) := hq
    clear hq
    go_wp2_with fail
    refine (few_any q q 0 lo [] w2 hRing2 hlo (by simp; omega) (by simp; omega)).mono ?_
    rintro e w3 ⟨rfl, k, rfl⟩
    have hb3 : Below q w1 (w2.drewN k) := below_drewN hb2 k
    have hbW : Below w.heap.size w w1 := hb1
    have hwq : w.heap.size ≤ q := by rw [← HQ.out]; exact hb1.size
    go_wp2
    go_loopw [8] (fun si wr => ∃ (i m : Nat) (S : List Int), i ≤ n ∧ si = .int .i64 i ∧ Ring wr q q m S ∧ Good ((i : Int) - 1) S ∧ (m : Int) ≤ lo + 2 ∧ Below q w1 wr) (fun si _ => n - (intOf si).toNat)
    case atStart => exact ⟨0, 0, [], Nat.zero_le _, rfl, hRing2.later (below_drewN (Below.refl _ _) k), good_nil _, by simp; omega, hb3⟩
    case round =>
      obtain ⟨i, m, S, hin, rfl, hRing, hgood, hml, hbr⟩ := hrel
      have HRG : Hid (Ring wr q q m S) := hRing
      have HGD : Hid (Good ((i : Int) - 1) S) := hgood
      clear hRing hgood
      by_cases hlt : i < n
      · obtain ⟨b, off, rfl, hbs, hc⟩ := HR1.out (by have := HL.out; omega)
        have hix : i < xs.length := by have := HL.out; omega
        have hc := (hbr.cell (p := ⟨b, off + i, none⟩) (by rw [← HQ.out]; exact hbs)).trans (hc i hix)
        obtain ⟨x, hx⟩ : ∃ x, xs.getD i 0 = x := ⟨_, rfl⟩
        rw [hx] at hc
        have hxb : 0 ≤ x ∧ x ≤ 255 := by rw [← hx]; have := HX.out xs[i] (List.getElem_mem hix); simpa [hix] using this
        clear hx
        obtain ⟨hx0, hx1⟩ := hxb
        obtain ⟨v, hv, hv3⟩ : ∃ v : Nat, bits BinOp.and IntKind.i64 (x / 2) 3 = (v : Int) ∧ v ≤ 3 := ⟨(x / 2 % 4).toNat, by rw [i64_and3]; omega, by omega⟩
        go_wp2_with fail
        refine (zzpass_any q q m S lo hi i _ wr HRG.out (fun y hy => by have := HGD.out.2 y hy; omega) hlo (by omega) (by omega)).mono ?_
        rintro e w4 ⟨c1, c2, T, rfl, hR4, hs4, hp4, hg4⟩
        have HGT : Hid (Good (i : Int) T) := (HGD.out.suffix hs4).mono (by omega)
        have hb4 : Below q w1 w4 := hbr.trans (grown_below hg4 (Nat.le_refl _) (by have := HRG.out.lt; omega))
        have HP4 : Hid (Pruned lo i T) := hp4
        have HR4 : Hid (Ring w4 q q m T) := hR4
        clear hR4 hs4 hp4 hg4
        go_wp2_with fail
        refine (few_any q q m lo T w4 HR4.out hlo (len_pruned HGT.out HP4.out hlo) hml).mono ?_
        rintro e w5 ⟨rfl, k5, rfl⟩
        go_wp2
        go_loopw [12] (fun sj wr => ∃ (j m : Nat) (T : List Int), j ≤ v ∧ sj = .int .i64 j ∧ Ring wr q q m T ∧ Good (i : Int) T ∧ Pruned lo i T ∧ (m : Int) ≤ lo + 2 ∧ Below q w1 wr) (fun sj _ => v - (intOf sj).toNat)
        case atStart => exact ⟨0, m, T, Nat.zero_le _, rfl, HR4.out.later (below_drewN (Below.refl _ _) k5), HGT.out, HP4.out, hml, below_drewN hb4 k5⟩
        case round =>
          obtain ⟨j, m2, U, hj, rfl, hRU, hgU, hpU, hmU, hbU⟩ := hrel
          have HRU : Hid (Ring wr q q m2 U) := hRU
          have HU : Hid (Good (i : Int) U ∧ Pruned lo i U) := ⟨hgU, hpU⟩
          clear hRU hgU hpU
          by_cases hjv : j < v
          · go_wp2_with fail
            refine (zzstart_any q q m2 U lo hi i wr HRU.out HU.out.1.2 hlo HLO.out (by omega) (by omega) (len_pruned HU.out.1 HU.out.2 hlo) hmU (by have := len_good HU.out.1 (by omega); omega) (by have := HRU.out.lt; omega)).mono ?_
            rintro e w6 ⟨bb, rfl, hb6, hor⟩
            obtain ⟨m3, V, hRV, hgV, hpV, hmV⟩ := start_good (P := fun m T => Ring w6 q q m T) HU.out.1 HU.out.2 hmU hor (by omega)
            have HRV : Hid (Ring w6 q q m3 V) := hRV
            have HV : Hid (Good (i : Int) V ∧ Pruned lo i V) := ⟨hgV, hpV⟩
            clear hor hRV hgV hpV
            go_wp2_with fail
            refine (few_any q q m3 lo V w6 HRV.out hlo (len_pruned HV.out.1 HV.out.2 hlo) hmV).mono ?_
            rintro e w7 ⟨rfl, k7, rfl⟩
            go_wp2
            go_roundw
            case rel => exact ⟨j + 1, m3, V, by omega, by go_num, HRV.out.later (below_drewN (Below.refl _ _) k7), HV.out.1, HV.out.2, hmV, below_drewN (hbU.trans hb6) k7⟩
            case measure => simp [intOf]; omega
          · go_wp2
            go_roundw
            case rel => exact ⟨i + 1, m2, U, by omega, by go_num, HRU.out, HU.out.1.mono (by omega), hmU, hbU⟩
            case measure => simp [intOf]; omega
      · go_wp2
        go_ret
        exact ⟨rfl, hbW.trans (hbr.mono hwq)⟩

end Go.Proofs.Qxb6600955a
