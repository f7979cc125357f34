/-
  The walk of FnAddScriptGathersDistinctSorted (6).
-/
import Derived.Test.Qxb6604122aAdd
import Derived.Test.Qxb6604122aScriptPlain
namespace Go.Proofs.Qxb6604122a
open Go.RowKit
set_option linter.unusedVariables false

theorem script_far (a : Option Addr) (n cap : Nat) (w : World) (hm : n ≤ maxLen) (h : 4096 < n) :
    Calls Try.prog 6 #[.slice a n cap] w fun e w' => e = .returned (.bool true) ∧ Below w.heap.size w w' := by
  unfold maxLen at hm
  by_cases hB : n ≤ 1048576
  · go_enter Try.func6, Try.ntmps6
    go_wp2_with (go_at_call 21; refine (bytes21 _ _ _ _ hB).mono ?_; rintro e w' ⟨rfl, rfl⟩)
    go_ret
    exact ⟨rfl, Below.refl _ _⟩
  · go_enter Try.func6, Try.ntmps6
    go_wp2_with (go_at_call 21; refine (bytes21_not _ _ _ _ (by omega)).mono ?_; rintro e w' ⟨rfl, rfl⟩)
    go_ret
    exact ⟨rfl, Below.refl _ _⟩

set_option maxRecDepth 100000 in
set_option maxHeartbeats 1600000 in
theorem script_near (a : Option Addr) (n cap : Nat) (xs : List Int) (w : World) (hn : xs.length = n) (h17 : n ≤ 4096) (hr : Rd w a xs) :
    Calls Try.prog 6 #[.slice a n cap] w fun e w' => e = .returned (.bool true) ∧ Below w.heap.size w w' := by
  have HL : Hid (xs.length = n) := hn
  have HR : Hid (Rd w a xs) := hr
  clear hn hr
  go_enter Try.func6, Try.ntmps6
  go_wp2_with (go_at_call 21; refine (bytes21 _ _ _ _ (by omega)).mono ?_; rintro e w' ⟨rfl, rfl⟩)
  refine (clone_any a n cap xs w HL.out (by omega) HR.out).mono ?_
  rintro e w1 ⟨a1, cap1, rfl, hown1, hb1⟩
  have HR1 : Hid (Rd w1 a1 xs) := rd_own hown1
  clear hown1
  go_wp2
  go_loopw [3, 4] (fun v si wr => ∃ (i L cap3 : Nat) (a3 : Option Addr), i ≤ n ∧ si = .int .i64 i ∧ v = .slice a3 L cap3 ∧ L ≤ i ∧ (gather (xs.take i)).length = L ∧ wr.ownsRow w1.heap.size 34 1 (.slice a3 L cap3) L ((gather (xs.take i)).map (Value.int .u64)) ∧ Below w1.heap.size w1 wr) (fun _ si _ => n - (intOf si).toNat)
  case atStart => exact ⟨0, 0, 0, none, Nat.zero_le _, rfl, rfl, Nat.zero_le _, rfl, World.ownsRow_nil _ _ _ _, Below.refl _ _⟩
  case round =>
    obtain ⟨i, L, cap3, a3, hi, rfl, rfl, hLi, hgl, hown3, hb3⟩ := hrel
    have HGL : Hid ((gather (xs.take i)).length = L) := hgl
    clear hgl
    by_cases hlt : i < n
    · obtain ⟨b, off, rfl, hbs, hc⟩ := HR1.out (by have := HL.out; omega)
      have hix : i < xs.length := by have := HL.out; omega
      have hc := (hb3.cell (p := ⟨b, off + i, none⟩) hbs).trans (hc i hix)
      go_wp2_with fail
      obtain ⟨G, hG⟩ : ∃ G, addL xs[i] (gather (xs.take i)) = G := ⟨_, rfl⟩
      obtain ⟨L2, hL2⟩ : ∃ L, G.length = L := ⟨_, rfl⟩
      have hGs : gather (xs.take (i + 1)) = G := (gather_step xs i hix).trans hG
      have hL3 : L2 ≤ i + 1 := by rw [← hL2, ← hG]; exact len_addL_le _ _ _ (by rw [HGL.out]; exact hLi)
      have HGS : Hid (gather (xs.take (i + 1)) = G) := hGs
      have HL2 : Hid (G.length = L2) := hL2
      have HG : Hid (addL xs[i] (gather (xs.take i)) = G) := hG
      clear hG hL2 hGs
      refine (partAdd_as w1.heap.size L cap3 a3 (gather (xs.take i)) xs[i] _ G L2 HG.out HL2.out (by omega) hown3 hb3.size).mono ?_
      rintro e w3 ⟨a4, cap4, rfl, hown4, hb4⟩
      go_wp2
      go_roundw
      case rel => exact ⟨i + 1, L2, cap4, a4, by omega, by go_num, rfl, hL3, by rw [HGS.out]; exact HL2.out, by rw [HGS.out]; exact hown4, hb3.trans hb4⟩
      case measure => simp [intOf]; omega
    · have hGx : xs.take i = xs := List.take_of_length_le (by have := HL.out; omega)
      obtain ⟨G, hG⟩ : ∃ G, gather xs = G := ⟨_, rfl⟩
      have hpG : G.Pairwise (· < ·) := hG ▸ pw_gather xs
      have hmG : ∀ y, y ∈ G ↔ y ∈ xs := fun y => hG ▸ mem_gather xs y
      have HLL : Hid (G.length = L) := by have := HGL.out; rw [hGx, hG] at this; exact this
      rw [hGx, hG] at hown3
      have HPG : Hid (G.Pairwise (· < ·)) := hpG
      have HMG : Hid (∀ y, y ∈ G ↔ y ∈ xs) := hmG
      have HR3 : Hid (Rd wr a1 xs) := HR1.out.later hb3
      have HR4 : Hid (Rd wr a3 G) := rd_own hown3
      have hb4 : Below w.heap.size w wr := hb1.trans (hb3.mono hb1.size)
      clear hown3 hb1 hb3 HR1 HR hG hpG hmG HGL hGx
      go_wp2
      go_loopw [5] (fun i wr2 => ∃ m : Nat, (m = 0 ∨ m < L) ∧ i = .int .i64 ((m : Int) + 1) ∧ Below wr.heap.size wr wr2) (fun i _ => L - (intOf i).toNat)
      case atStart => exact ⟨0, .inl rfl, rfl, Below.refl _ _⟩
      case round =>
        obtain ⟨m2, hm3, rfl, hb5⟩ := hrel
        have hm4 : m2 ≤ L := by omega
        clear hm3
        by_cases hlt2 : m2 + 1 < L
        · obtain ⟨b, off, rfl, hbs, hc⟩ := HR4.out (by have := HLL.out; omega)
          have hx1 : m2 < G.length := by have := HLL.out; omega
          have hx2 : m2 + 1 < G.length := by have := HLL.out; omega
          have hc1 := (hb5.cell (p := ⟨b, off + m2, none⟩) hbs).trans (hc m2 hx1)
          have hc2 := (hb5.cell (p := ⟨b, off + (m2 + 1), none⟩) hbs).trans (hc (m2 + 1) hx2)
          have hup := pw_next HPG.out hx1 hx2
          clear hc
          have g0 : (0 : Int) ≤ (m2 : Int) := by omega
          have g1 : (m2 : Int) + 1 < (L : Int) := by omega
          have g2 : (m2 : Int) < (L : Int) := by omega
          go_wp2
          go_quiet (fail)
          go_wp2
          go_roundw
          case rel => exact ⟨m2 + 1, .inr (by omega), by go_num, below_drewN hb5 _⟩
          case measure => simp [intOf]; omega
        · have HX : Hid (Rd wr a1 xs) := HR3.out.later hb5
          have HY : Hid (Rd wr a3 G) := HR4.out.later hb5
          have hbE : Below w.heap.size w wr := hb4.trans (hb5.mono hb4.size)
          clear HR3 HR4 hb5 hb4
          go_wp2
          go_loop [6] (fun si => ∃ k : Nat, k ≤ L ∧ si = .int .i64 k) (fun si => L - (intOf si).toNat)
          case atStart => exact ⟨0, Nat.zero_le _, rfl⟩
          case round =>
            obtain ⟨k, hk, rfl⟩ := hrel
            by_cases hkL : k < L
            · obtain ⟨b, off, rfl, hbs, hc⟩ := HY.out (by have := HLL.out; omega)
              have hkG : k < G.length := by have := HLL.out; omega
              have hc := hc k hkG
              have hh : hasB xs G[k] = true := (hasB_iff _ _).2 ((HMG.out _).1 (List.getElem_mem hkG))
              go_wp2_with fail
              refine (has_any a1 n cap1 G[k] xs _ HL.out (by omega) HX.out).mono ?_
              rintro e w5 ⟨rfl, rfl⟩
              go_wp2
              go_round
              case rel => exact ⟨k + 1, by omega, by go_num⟩
              case measure => simp [intOf]; omega
            · go_wp2
              go_loop [7] (fun si => ∃ k : Nat, k ≤ n ∧ si = .int .i64 k) (fun si => n - (intOf si).toNat)
              case atStart => exact ⟨0, Nat.zero_le _, rfl⟩
              case round =>
                obtain ⟨k2, hk2, rfl⟩ := hrel
                by_cases hkn : k2 < n
                · obtain ⟨b, off, rfl, hbs, hc⟩ := HX.out (by have := HL.out; omega)
                  have hkx : k2 < xs.length := by have := HL.out; omega
                  have hc := hc k2 hkx
                  have hh : hasB G xs[k2] = true := (hasB_iff _ _).2 ((HMG.out _).2 (List.getElem_mem hkx))
                  go_wp2_with fail
                  refine (has_any a3 L cap3 xs[k2] G _ HLL.out (by omega) HY.out).mono ?_
                  rintro e w5 ⟨rfl, rfl⟩
                  go_wp2
                  go_round
                  case rel => exact ⟨k2 + 1, by omega, by go_num⟩
                  case measure => simp [intOf]; omega
                · go_wp2
                  go_ret
                  exact ⟨rfl, hbE⟩

end Go.Proofs.Qxb6604122a
