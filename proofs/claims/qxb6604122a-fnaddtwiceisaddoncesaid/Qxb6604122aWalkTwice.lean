/-
  The walk of FnAddTwiceIsAddOnce (7).
-/
import Derived.Test.Qxb6604122aAdd
import Derived.Test.Qxb6604122aTwicePlain
namespace Go.Proofs.Qxb6604122a
open Go.RowKit
set_option linter.unusedVariables false

theorem twice_far (a : Option Addr) (n cap : Nat) (c : Int) (w : World) (hm : n ≤ maxLen) (h : 131072 < n) :
    Calls Try.prog 7 #[.slice a n cap, .int .u64 c] w fun e w' => e = .returned (.bool true) ∧ Below w.heap.size w w' := by
  unfold maxLen at hm
  by_cases hB : n ≤ 1048576
  · go_enter Try.func7, Try.ntmps7
    go_wp2_with (go_at_call 22; refine (bytes22 _ _ _ _ _ hB).mono ?_; rintro e w' ⟨rfl, rfl⟩)
    go_ret
    exact ⟨rfl, Below.refl _ _⟩
  · go_enter Try.func7, Try.ntmps7
    go_wp2_with (go_at_call 22; refine (bytes22_not _ _ _ _ _ (by omega)).mono ?_; rintro e w' ⟨rfl, rfl⟩)
    go_ret
    exact ⟨rfl, Below.refl _ _⟩

set_option maxRecDepth 100000 in
set_option maxHeartbeats 1600000 in
theorem twice_near (a : Option Addr) (n cap : Nat) (xs : List Int) (c : Int) (w : World) (hn : xs.length = n) (h17 : n ≤ 131072) (hr : Rd w a xs) :
    Calls Try.prog 7 #[.slice a n cap, .int .u64 c] w fun e w' => e = .returned (.bool true) ∧ Below w.heap.size w w' := by
  have HL : Hid (xs.length = n) := hn
  have HR : Hid (Rd w a xs) := hr
  clear hn hr
  obtain ⟨G, hG⟩ : ∃ G, addL c xs = G := ⟨_, rfl⟩
  obtain ⟨L, hL⟩ : ∃ L, G.length = L := ⟨_, rfl⟩
  have hG2 : addL c G = G := by rw [← hG]; exact addL_twice c xs
  have HG : Hid (addL c xs = G) := hG
  have HG2 : Hid (addL c G = G) := hG2
  have HLL : Hid (G.length = L) := hL
  have hLn : L ≤ n + 1 := by rw [← hL, ← hG]; rcases addL_length c xs with e | e <;> rw [e, HL.out] <;> omega
  have HC : Hid ((∃ p, MetAt c xs p ∧ G = xs) ∨ ∃ p, SetAt c xs G p) := by have := addL_place c xs; rw [hG] at this; exact this
  clear hG hL hG2
  go_enter Try.func7, Try.ntmps7
  go_wp2_with (go_at_call 22; refine (bytes22 _ _ _ _ _ (by omega)).mono ?_; rintro e w' ⟨rfl, rfl⟩)
  refine (clone_any a n cap xs w HL.out (by omega) HR.out).mono ?_
  rintro e w1 ⟨a1, cap1, rfl, hown1, hb1⟩
  have HR1 : Hid (Rd w1 a1 xs) := rd_own hown1
  go_wp2_with fail
  refine (clone_any a1 n cap1 xs w1 HL.out (by omega) HR1.out).mono ?_
  rintro e w2 ⟨a2, cap2, rfl, hown2, hb2⟩
  go_wp2_with fail
  refine (partAdd_as w1.heap.size n cap2 a2 xs c w2 G L HG.out HLL.out (by omega) hown2 hb2.size).mono ?_
  rintro e w3 ⟨a3, cap3, rfl, hown3, hb3⟩
  have HR3 : Hid (Rd w3 a3 G) := rd_own hown3
  have HR4 : Hid (Rd w3 a1 xs) := HR1.out.later (hb2.trans hb3)
  have hb4 : Below w.heap.size w w3 := hb1.trans ((hb2.mono hb1.size).trans (hb3.mono hb1.size))
  clear hown1 hown2 hown3 hb1 hb2 hb3 HR1 HR
  go_wp2_with fail
  refine (clone_any a3 L cap3 G w3 HLL.out (by omega) HR3.out).mono ?_
  rintro e w4 ⟨a4, cap4, rfl, hown4, hb5⟩
  go_wp2_with fail
  refine (partAdd_as w3.heap.size L cap4 a4 G c w4 G L HG2.out HLL.out (by omega) hown4 hb5.size).mono ?_
  rintro e w5 ⟨a5, cap5, rfl, hown5, hb6⟩
  have HR5 : Hid (Rd w5 a5 G) := rd_own hown5
  have HR6 : Hid (Rd w5 a3 G) := HR3.out.later (hb5.trans hb6)
  have HR7 : Hid (Rd w5 a1 xs) := HR4.out.later (hb5.trans hb6)
  have hb7 : Below w.heap.size w w5 := hb4.trans ((hb5.trans hb6).mono hb4.size)
  clear hown4 hown5 hb5 hb6 HR3 HR4 hb4
  go_wp2_with fail
  refine (same_any a3 a5 L cap3 L cap5 G G w5 HLL.out HLL.out (by omega) (by omega) HR6.out HR5.out).mono ?_
  rintro e w6 ⟨rfl, hb8⟩
  have hGG : (G == G) = true := by simp
  have HX : Hid (Rd w6 a1 xs) := HR7.out.later hb8
  have HY : Hid (Rd w6 a3 G) := HR6.out.later hb8
  have hb9 : Below w.heap.size w w6 := hb7.trans (hb8.mono hb7.size)
  clear HR5 HR6 HR7 hb8 hb7
  rcases HC.out with ⟨p, hmet, heq⟩ | ⟨p, hset⟩
  · have HE : Hid (G = xs) := heq
    have hL1 : L ≤ n := by have := HLL.out; rw [heq, HL.out] at this; omega
    have hL2 : n ≤ L := by have := HLL.out; rw [heq, HL.out] at this; omega
    clear heq HC
    have HM : Hid (MetAt c xs p) := hmet
    clear hmet
    have g1 : ((L : Int) == (n : Int)) = true := by rw [beq_iff_eq]; omega
    go_wp2_with fail
    refine (same_any a3 a1 L cap3 n cap1 G xs w6 HLL.out HL.out (by omega) (by omega) HY.out HX.out).mono ?_
    rintro e w7 ⟨rfl, hb10⟩
    have hGx : (G == xs) = true := by rw [HE.out]; simp
    have HX7 : Hid (Rd w7 a1 xs) := HX.out.later hb10
    have hb11 : Below w.heap.size w w7 := hb9.trans (hb10.mono hb9.size)
    clear HX HY hb9 hb10
    go_wp2
    go_loop [8] (fun si => ∃ k : Nat, k ≤ p ∧ si = .int .i64 k) (fun si => n - (intOf si).toNat)
    case atStart => exact ⟨0, Nat.zero_le _, rfl⟩
    case round =>
      obtain ⟨k, hk, rfl⟩ := hrel
      have hpx : p < xs.length := HM.out.2.1
      have hpn : p < n := by have := HL.out; omega
      obtain ⟨b, off, rfl, hbs, hc⟩ := HX7.out (by omega)
      have hkx : k < xs.length := by omega
      have hc := hc k hkx
      by_cases hkp : k < p
      · have h1 : xs[k] < c := HM.out.1 k hkx hkp
        go_wp2
        go_round
        case rel => exact ⟨k + 1, by omega, by go_num⟩
        case measure => simp [intOf]; omega
      · obtain rfl : k = p := by omega
        have h1 : (xs[k] == c) = true := by rw [beq_iff_eq]; exact HM.out.2.2
        go_wp2
        go_ret
        exact ⟨rfl, hb11⟩
  · have HS : Hid (SetAt c xs G p) := hset
    have hL1 : L ≤ n + 1 := by omega
    have hL2 : n + 1 ≤ L := by have := HLL.out; have h2 := hset.2.1; rw [this, HL.out] at h2; omega
    have hpn : p ≤ n := by have := hset.1; rw [HL.out] at this; exact this
    clear hset HC
    have g1 : ((L : Int) == (n : Int)) = false := by rw [beq_eq_false_iff_ne]; omega
    obtain ⟨bg, og, rfl, hbg, hcg⟩ := HY.out (by have := HLL.out; omega)
    have HCG : Hid (∀ i, i < G.length → w6.cell? ⟨bg, og + i, none⟩ = some (.int .u64 (G.getD i 0))) := hcg
    clear hcg HY
    go_wp2
    go_loopw [9] (fun sk wr => ∃ k : Nat, k ≤ p ∧ sk = .int .i64 k ∧ Below w6.heap.size w6 wr) (fun sk _ => p - (intOf sk).toNat)
    case atStart => exact ⟨0, Nat.zero_le _, rfl, Below.refl _ _⟩
    case round =>
      obtain ⟨k, hk, rfl, hbk⟩ := hrel
      have hkG : k < G.length := by have := HLL.out; omega
      have hcg := (hbk.cell (p := ⟨bg, og + k, none⟩) hbg).trans (HCG.out k hkG)
      have gk0 : (0 : Int) ≤ (k : Int) := by omega
      have gk1 : (k : Int) < (L : Int) := by omega
      by_cases hkp : k < p
      · obtain ⟨bx, ox, rfl, hbx, hcx⟩ := HX.out (by have := HL.out; omega)
        have hkx : k < xs.length := by have := HL.out; omega
        have hcx := (hbk.cell (p := ⟨bx, ox + k, none⟩) hbx).trans (hcx k hkx)
        have gk2 : (k : Int) < (n : Int) := by omega
        have he : (G[k] == xs[k]) = true := by rw [beq_iff_eq]; exact HS.out.2.2.2.2.1 k hkx hkG hkp
        go_wp2
        go_quiet (fail)
        go_wp2
        go_roundw
        case rel => exact ⟨k + 1, by omega, by go_num, below_drewN hbk _⟩
        case measure => simp [intOf]; omega
      · obtain rfl : k = p := by omega
        have hGc : (G[k] != c) = false := by have := HS.out.2.2.2.2.2.1 hkG; simp [this]
        by_cases hkn : k < n
        · obtain ⟨bx, ox, rfl, hbx, hcx⟩ := HX.out (by have := HL.out; omega)
          have hkx : k < xs.length := by have := HL.out; omega
          have hcxk := (hbk.cell (p := ⟨bx, ox + k, none⟩) hbx).trans (hcx k hkx)
          have gk2 : (k : Int) < (n : Int) := by omega
          have hab : c < xs[k] := HS.out.2.2.2.1 hkx
          have he : (G[k] == xs[k]) = false := by rw [beq_eq_false_iff_ne]; have := HS.out.2.2.2.2.2.1 hkG; omega
          have HCX : Hid (∀ i, i < xs.length → w6.cell? ⟨bx, ox + i, none⟩ = some (.int .u64 (xs.getD i 0))) := hcx
          clear hcx
          go_wp2
          go_quiet (fail)
          go_wp2
          go_loopw [10] (fun si wr => ∃ i : Nat, k ≤ i ∧ i ≤ n ∧ si = .int .i64 i ∧ Below w6.heap.size w6 wr) (fun si _ => n - (intOf si).toNat)
          case atStart => exact ⟨k, Nat.le_refl _, by omega, rfl, below_drewN hbk _⟩
          case round =>
            obtain ⟨i, hki, hin, rfl, hbi⟩ := hrel
            by_cases hilt : i < n
            · have hix : i < xs.length := by have := HL.out; omega
              have hiG : i + 1 < G.length := by have := HLL.out; omega
              have hc1 := (hbi.cell (p := ⟨bg, og + (i + 1), none⟩) hbg).trans (HCG.out (i + 1) hiG)
              have hc2 := (hbi.cell (p := ⟨bx, ox + i, none⟩) hbx).trans (HCX.out i hix)
              have gi0 : (0 : Int) ≤ (i : Int) := by omega
              have gi1 : (i : Int) < (n : Int) := by omega
              have gi2 : (i : Int) + 1 < (L : Int) := by omega
              have gi3 : (0 : Int) ≤ (i : Int) + 1 := by omega
              have gw : IntKind.i64.wrap ((i : Int) + 1) = (i : Int) + 1 := i64_plain _ (by omega)
              have he2 : (G[i + 1] != xs[i]) = false := by have := HS.out.2.2.2.2.2.2 i hix hiG hki; simp [this]
              clear hcg hcxk
              go_wp2
              go_quiet (fail)
              go_wp2
              go_roundw
              case rel => exact ⟨i + 1, by omega, by omega, by go_num, below_drewN hbi _⟩
              case measure => simp [intOf]; omega
            · clear hcg hcxk
              go_wp2
              go_loop [11] (fun si => ∃ j : Nat, j ≤ k ∧ si = .int .i64 j) (fun si => k - (intOf si).toNat)
              case atStart => exact ⟨0, Nat.zero_le _, rfl⟩
              case round =>
                obtain ⟨j, hj, rfl⟩ := hrel
                by_cases hjk : j < k
                · have hjG : j < G.length := by omega
                  have hjx : j < xs.length := by omega
                  have hc1 := (hbi.cell (p := ⟨bg, og + j, none⟩) hbg).trans (HCG.out j hjG)
                  have h1 : G[j] < c := by rw [HS.out.2.2.2.2.1 j hjx hjG hjk]; exact HS.out.2.2.1 j hjx hjk
                  go_wp2
                  go_round
                  case rel => exact ⟨j + 1, by omega, by go_num⟩
                  case measure => simp [intOf]; omega
                · have hc2 := (hbi.cell (p := ⟨bx, ox + k, none⟩) hbx).trans (HCX.out k hkx)
                  have gkn : ((k : Int) == (n : Int)) = false := by rw [beq_eq_false_iff_ne]; omega
                  go_wp2
                  go_ret
                  exact ⟨rfl, hb9.trans (hbi.mono hb9.size)⟩
        · have gk2 : decide ((k : Int) < (n : Int)) = false := by simp; omega
          go_wp2
          go_quiet (fail)
          go_wp2
          go_loopw [10] (fun si wr => ∃ i : Nat, k ≤ i ∧ i ≤ n ∧ si = .int .i64 i ∧ Below w6.heap.size w6 wr) (fun si _ => n - (intOf si).toNat)
          case atStart => exact ⟨k, Nat.le_refl _, by omega, rfl, below_drewN hbk _⟩
          case round =>
            obtain ⟨i, hki, hin, rfl, hbi⟩ := hrel
            clear hcg
            go_wp2
            go_loop [11] (fun si => ∃ j : Nat, j ≤ k ∧ si = .int .i64 j) (fun si => k - (intOf si).toNat)
            case atStart => exact ⟨0, Nat.zero_le _, rfl⟩
            case round =>
              obtain ⟨j, hj, rfl⟩ := hrel
              by_cases hjk : j < k
              · have hjG : j < G.length := by omega
                have hjx : j < xs.length := by have := HL.out; omega
                have hc1 := (hbi.cell (p := ⟨bg, og + j, none⟩) hbg).trans (HCG.out j hjG)
                have h1 : G[j] < c := by rw [HS.out.2.2.2.2.1 j hjx hjG hjk]; exact HS.out.2.2.1 j hjx hjk
                go_wp2
                go_round
                case rel => exact ⟨j + 1, by omega, by go_num⟩
                case measure => simp [intOf]; omega
              · have gkn : ((k : Int) == (n : Int)) = true := by rw [beq_iff_eq]; omega
                go_wp2
                go_ret
                exact ⟨rfl, hb9.trans (hbi.mono hb9.size)⟩

end Go.Proofs.Qxb6604122a
