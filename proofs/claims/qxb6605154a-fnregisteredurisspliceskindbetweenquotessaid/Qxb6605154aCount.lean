/-
  The walk of countQuotes (14).
-/
import Derived.Test.Qxb6605154aCalls
namespace Go.Proofs.Qxb6605154a
open Go.RowKit
set_option linter.unusedVariables false

theorem ret_int {k : IntKind} {a b : Int} (h : a = b) : Ending.returned (.int k a) = .returned (.int k b) := by rw [h]
/-- How many quotes stand in a list of bytes. -/
def quo (l : List UInt8) : Int := (l.filter fun c => c == 39).length
theorem quo_le (l : List UInt8) : 0 ≤ quo l ∧ quo l ≤ l.length := by
  unfold quo; exact ⟨by omega, by have := List.length_filter_le (fun c : UInt8 => c == 39) l; omega⟩
theorem take_snoc (s : ByteArray) (k : Nat) (h : k < s.size) : s.data.toList.take (k + 1) = s.data.toList.take k ++ [s[k]] := by
  rw [List.take_succ_eq_append_getElem (by simpa using h)]; rfl
theorem quo_snoc (l : List UInt8) (c : UInt8) : quo (l ++ [c]) = quo l + if ((c.toNat : Int) == 39) = true then 1 else 0 := by
  unfold quo
  have e : (c == 39) = ((c.toNat : Int) == 39) := by
    rw [Bool.eq_iff_iff, beq_iff_eq, beq_iff_eq, ← UInt8.toNat_inj]
    simp
    omega
  rw [List.filter_append]
  by_cases h : ((c.toNat : Int) == 39) = true <;> simp [e, h]

set_option maxHeartbeats 400000 in
theorem count_any (s : ByteArray) (w : World) (hs : s.size ≤ 1048576) :
    Calls Try.prog 14 #[.string s] w fun e w' => e = .returned (.int .i64 (quo s.data.toList)) ∧ w = w' := by
  go_enter Try.func14, Try.ntmps14
  go_wp2
  go_loop [3, 4] (fun n i => ∃ k : Nat, k ≤ s.size ∧ i = .int .i64 k ∧ n = .int .i64 (quo (s.data.toList.take k))) (fun _ i => s.size - (intOf i).toNat)
  case atStart => exact ⟨0, Nat.zero_le _, rfl, rfl⟩
  case round =>
    obtain ⟨k, hk, rfl, rfl⟩ := hrel
    have hd := quo_le (s.data.toList.take k)
    have hl : (s.data.toList.take k).length ≤ k := List.length_take_le _ _
    by_cases hlt : k < s.size
    · have hsn := quo_snoc (s.data.toList.take k) s[k]
      have hts := take_snoc s k hlt
      have HS : Hid (quo (s.data.toList.take (k + 1)) = quo (s.data.toList.take k) + if ((s[k].toNat : Int) == 39) = true then 1 else 0) := by rw [hts]; exact hsn
      clear hsn hts
      go_wp2
      all_goals
        go_round
        case rel => exact ⟨k + 1, by omega, by go_num, by rw [HS.out]; first | rw [if_pos ‹_›] | (rw [if_neg (by simpa using (by assumption : ((s[k].toNat : Int) == 39) = false))]; go_num)⟩
        case measure => simp [intOf]; omega
    · go_wp2
      go_ret
      exact ⟨ret_int (by rw [List.take_of_length_le (by simp; omega)]), rfl⟩

end Go.Proofs.Qxb6605154a
