/-
  The walk of FnAddKeepsTheLackingSetInOrder (5).
-/
import Derived.Test.Qxb6604122aAdd
namespace Go.Proofs.Qxb6604122a
open Go.RowKit
set_option linter.unusedVariables false

theorem keeps_far (a : Option Addr) (n cap : Nat) (c : Int) (w : World) (hm : n ≤ maxLen) (h : 131072 < n) :
    Calls Try.prog 5 #[.slice a n cap, .int .u64 c] w fun e w' => e = .returned (.bool true) ∧ Below w.heap.size w w' := by
  unfold maxLen at hm
  by_cases hB : n ≤ 1048576
  · go_enter Try.func5, Try.ntmps5
    go_wp2_with (go_at_call 17; refine (bytes17 _ _ _ _ _ hB).mono ?_; rintro e w' ⟨rfl, rfl⟩)
    go_ret
    exact ⟨rfl, Below.refl _ _⟩
  · go_enter Try.func5, Try.ntmps5
    go_wp2_with (go_at_call 17; refine (bytes17_not _ _ _ _ _ (by omega)).mono ?_; rintro e w' ⟨rfl, rfl⟩)
    go_ret
    exact ⟨rfl, Below.refl _ _⟩

set_option maxRecDepth 100000 in
set_option maxHeartbeats 1600000 in
theorem keeps_near (a : Option Addr) (n cap : Nat) (xs : List Int) (c : Int) (w : World) (hn : xs.length = n) (h17 : n ≤ 131072) (hr : Rd w a xs) :
    Calls Try.prog 5 #[.slice a n cap, .int .u64 c] w fun e w' => e = .returned (.bool true) ∧ Below w.heap.size w w' := by
  have HL : Hid (xs.length = n) := hn
  have HR : Hid (Rd w a xs) := hr
  clear hn hr
  go_enter Try.func5, Try.ntmps5
  go_wp2_with (go_at_call 17; refine (bytes17 _ _ _ _ _ (by omega)).mono ?_; rintro e w' ⟨rfl, rfl⟩)
  go_loopw [5] (fun i wr => ∃ m : Nat, (m = 0 ∨ m < n) ∧ i = .int .i64 ((m : Int) + 1) ∧ UpTo xs (m + 1) ∧ Below w.heap.size w wr) (fun i _ => n - (intOf i).toNat)
  case atStart => exact ⟨0, .inl rfl, rfl, upTo_one xs, Below.refl _ _⟩
  case round =>
    obtain ⟨m, hm, rfl, hup, hb⟩ := hrel
    have HU : Hid (UpTo xs (m + 1)) := hup
    have hm2 : m ≤ n := by omega
    clear hup hm
    by_cases hlt : m + 1 < n
    · obtain ⟨b, off, rfl, hbs, hc⟩ := HR.out (by have := HL.out; omega)
      have hx1 : m < xs.length := by have := HL.out; omega
      have hx2 : m + 1 < xs.length := by have := HL.out; omega
      have hc1 := (hb.cell (p := ⟨b, off + m, none⟩) hbs).trans (hc m hx1)
      have hc2 := (hb.cell (p := ⟨b, off + (m + 1), none⟩) hbs).trans (hc (m + 1) hx2)
      clear hc
      have g0 : (0 : Int) ≤ (m : Int) := by omega
      have g1 : (m : Int) + 1 < (n : Int) := by omega
      have g2 : (m : Int) < (n : Int) := by omega
      go_wp2
      go_quiet (fail)
      go_wp2
      · go_ret
        exact ⟨rfl, below_drewN hb _⟩
      · go_roundw
        case rel => exact ⟨m + 1, .inr (by omega), by go_num, upTo_step hx1 hx2 HU.out (by have := (by assumption : xs[m] < xs[m + 1]); exact this), below_drewN hb _⟩
        case measure => simp [intOf]; omega
    · have hpw : xs.Pairwise (· < ·) := pw_of_upTo xs (m + 1) (by have := HL.out; omega) HU.out
      obtain ⟨G, hG⟩ : ∃ G, addL c xs = G := ⟨_, rfl⟩
      obtain ⟨L, hL⟩ : ∃ L, G.length = L := ⟨_, rfl⟩
      have hpG : G.Pairwise (· < ·) := hG ▸ pw_addL c xs hpw
      have hmG : ∀ y, y ∈ G ↔ y = c ∨ y ∈ xs := fun y => hG ▸ mem_addL c y xs
      have hlG : G.length = xs.length + (if hasB xs c then 0 else 1) := hG ▸ len_addL c xs hpw
      have HG : Hid (addL c xs = G) := hG
      have HLL : Hid (G.length = L) := hL
      have HP : Hid (xs.Pairwise (· < ·)) := hpw
      have HPG : Hid (G.Pairwise (· < ·)) := hpG
      have HMG : Hid (∀ y, y ∈ G ↔ y = c ∨ y ∈ xs) := hmG
      have hLn : L ≤ n + 1 := by rw [← hL, hlG, HL.out]; split <;> omega
      have HLG : Hid (L = n + (if hasB xs c then 0 else 1)) := by show L = _; rw [← hL, hlG, HL.out]
      clear hG hL hpw hpG hmG hlG HU
      go_wp2_with fail
      refine (clone_any a n cap xs wr HL.out (by omega) (HR.out.later hb)).mono ?_
      rintro e w1 ⟨a1, cap1, rfl, hown1, hb1⟩
      have HR1 : Hid (Rd w1 a1 xs) := rd_own hown1
      go_wp2_with fail
      refine (clone_any a1 n cap1 xs w1 HL.out (by omega) HR1.out).mono ?_
      rintro e w2 ⟨a2, cap2, rfl, hown2, hb2⟩
      go_wp2_with fail
      refine (partAdd_as w1.heap.size n cap2 a2 xs c w2 G L HG.out HLL.out (by omega) hown2 hb2.size).mono ?_
      rintro e w3 ⟨a3, cap3, rfl, hown3, hb3⟩
      have HR3 : Hid (Rd w3 a1 xs) := HR1.out.later (hb2.trans hb3)
      have HR4 : Hid (Rd w3 a3 G) := rd_own hown3
      have hb4 : Below w.heap.size w w3 := hb.trans ((hb1.mono hb.size).trans ((hb2.mono (Nat.le_trans hb.size hb1.size)).trans (hb3.mono (Nat.le_trans hb.size hb1.size))))
      clear hown1 hown2 hown3 hb1 hb2 hb3 HR1 HR hb
      have hcase : (hasB xs c = true ∧ L ≤ n ∧ n ≤ L) ∨ (hasB xs c = false ∧ L ≤ n + 1 ∧ n + 1 ≤ L) := by
        have h1 := HLG.out
        cases hh : hasB xs c with
        | true => rw [hh] at h1; simp at h1; exact .inl ⟨rfl, by omega, by omega⟩
        | false => rw [hh] at h1; simp at h1; exact .inr ⟨rfl, by omega, by omega⟩
      have hhG : hasB G c = true := (hasB_iff _ _).2 ((HMG.out c).2 (.inl rfl))
      rcases hcase with ⟨hh, l1, l2⟩ | ⟨hh, l1, l2⟩
      all_goals
        go_wp2_with fail
        refine (has_any a1 n cap1 c xs w3 HL.out (by omega) HR3.out).mono ?_
        rintro e w4 ⟨rfl, rfl⟩
        go_wp2
        go_loopw [8] (fun i wr => ∃ m : Nat, (m = 0 ∨ m < L) ∧ i = .int .i64 ((m : Int) + 1) ∧ Below w3.heap.size w3 wr) (fun i _ => L - (intOf i).toNat)
        case atStart => exact ⟨0, .inl rfl, rfl, Below.refl _ _⟩
        case round =>
          obtain ⟨m2, hm3, rfl, hb5⟩ := hrel
          have hm4 : m2 ≤ L := by omega
          clear hm3
          by_cases hlt2 : m2 + 1 < L
          · obtain ⟨b, off, rfl, hbs, hc⟩ := HR4.out (by have := HLL.out; omega)
            have hx1 : m2 < G.length := by have := HLL.out; omega
            have hx2 : m2 + 1 < G.length := by have := HLL.out; omega
            have hc1 := (hb5.cell (p := ⟨b, off + m2, none⟩) hbs).trans (hc m2 hx1)
            have hc2 := (hb5.cell (p := ⟨b, off + (m2 + 1), none⟩) hbs).trans (hc (m2 + 1) hx2)
            have hup := pw_next HPG.out hx1 hx2
            clear hc
            have g0 : (0 : Int) ≤ (m2 : Int) := by omega
            have g1 : (m2 : Int) + 1 < (L : Int) := by omega
            have g2 : (m2 : Int) < (L : Int) := by omega
            go_wp2
            go_quiet (fail)
            go_wp2
            go_roundw
            case rel => exact ⟨m2 + 1, .inr (by omega), by go_num, below_drewN hb5 _⟩
            case measure => simp [intOf]; omega
          · go_wp2_with fail
            refine (has_any a3 L cap3 c G _ HLL.out (by omega) (HR4.out.later hb5)).mono ?_
            rintro e w5 ⟨rfl, rfl⟩
            go_wp2
            go_loopw [9, 10] (fun sj si wr => ∃ j i : Nat, j ≤ L ∧ i ≤ n ∧ sj = .int .i64 j ∧ si = .int .i64 i ∧ Ahead G xs i j ∧ Below w3.heap.size w3 wr) (fun _ si _ => n - (intOf si).toNat)
            case atStart => exact ⟨0, 0, Nat.zero_le _, Nat.zero_le _, rfl, rfl, ahead_zero _ _ _, hb5⟩
            case round =>
              obtain ⟨j, i, hj, hi, rfl, rfl, hah, hb6⟩ := hrel
              have HA : Hid (Ahead G xs i j) := hah
              clear hah
              by_cases hin : i < n
              · obtain ⟨bx, ox, rfl, hbx, hcx⟩ := HR3.out (by have := HL.out; omega)
                have hix : i < xs.length := by have := HL.out; omega
                have hcx := hcx i hix
                have gi0 : (0 : Int) ≤ (i : Int) := by omega
                have gi1 : (i : Int) < (n : Int) := by omega
                go_wp2
                go_loopw [9] (fun sj wr => ∃ j : Nat, j ≤ L ∧ sj = .int .i64 j ∧ Ahead G xs i j ∧ Below w3.heap.size w3 wr) (fun sj _ => L - (intOf sj).toNat)
                case atStart => exact ⟨j, hj, rfl, HA.out, hb6⟩
                case round =>
                  obtain ⟨j2, hj2, rfl, hah2, hb7⟩ := hrel
                  have hmet := ahead_met HPG.out hix ((HMG.out _).2 (.inr (List.getElem_mem hix))) hah2
                  have HA2 : Hid (Ahead G xs i j2) := hah2
                  have hjL : j2 < L := by have := HLL.out; have := hmet.1; omega
                  have HM : Hid (∀ (hj : j2 < G.length), ¬ G[j2] < xs[i] → G[j2] = xs[i]) := hmet.2
                  have hjg : j2 < G.length := hmet.1
                  clear hah2 hmet
                  obtain ⟨bg, og, rfl, hbg, hcg⟩ := HR4.out (by omega)
                  have hcg := (hb7.cell (p := ⟨bg, og + j2, none⟩) hbg).trans (hcg j2 hjg)
                  have hcx := (hb7.cell (p := ⟨bx, ox + i, none⟩) hbx).trans hcx
                  have gj0 : (0 : Int) ≤ (j2 : Int) := by omega
                  have gj1 : (j2 : Int) < (L : Int) := by omega
                  by_cases hls : G[j2] < xs[i]
                  · go_wp2
                    go_quiet (fail)
                    go_wp2
                    go_roundw
                    case rel => exact ⟨j2 + 1, by omega, by go_num, ahead_more HP.out hjg hix HA2.out hls, below_drewN hb7 _⟩
                    case measure => simp [intOf]; omega
                  · have heq := HM.out hjg hls
                    have HE : Hid (G[j2] = xs[i]) := heq
                    clear heq
                    have g3 : ((j2 : Int) == (L : Int)) = false := by rw [beq_eq_false_iff_ne]; omega
                    have g4 : (G[j2] != xs[i]) = false := by rw [HE.out]; simp
                    go_wp2
                    go_quiet (fail)
                    go_wp2
                    go_quiet (fail)
                    go_wp2
                    go_roundw
                    case rel => exact ⟨j2, i + 1, hj2, by omega, rfl, by go_num, ahead_next HA2.out, below_drewN hb7 _⟩
                    case measure => simp [intOf]; omega
              · go_wp2
                go_ret
                exact ⟨rfl, hb4.trans (hb6.mono hb4.size)⟩

end Go.Proofs.Qxb6604122a
