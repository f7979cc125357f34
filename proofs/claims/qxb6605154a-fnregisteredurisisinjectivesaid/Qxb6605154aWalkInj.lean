/-
  The walk of FnRegisteredURIsIsInjective (6).
-/
import Derived.Test.Qxb6605154aCalls
namespace Go.Proofs.Qxb6605154a
open Go.RowKit
set_option linter.unusedVariables false

theorem ret_bool {a b : Bool} (h : a = b) : Ending.returned (.bool a) = .returned (.bool b) := by rw [h]

theorem bytes_eq {a b : ByteArray} (h : a.toList = b.toList) : a = b := by
  rw [ByteArray.toList_eq, ByteArray.toList_eq] at h
  exact WideShapes.bytes_inj h

/-- The texts are equal just where the kinds are. -/
theorem reg_inj (a b : ByteArray) : (((regB a).toList == (regB b).toList) == (a.toList == b.toList)) = true := by
  rw [beq_iff_eq, Bool.eq_iff_iff, beq_iff_eq, beq_iff_eq]
  constructor
  · intro h
    have h1 := bytes_eq h
    unfold regB at h1
    have h2 : (preB ++ a ++ sufB).data.toList = (preB ++ b ++ sufB).data.toList := by rw [h1]
    simp only [ByteArray.data_append, Array.toList_append, List.append_assoc] at h2
    have h3 := List.append_cancel_right (List.append_cancel_left h2 |> fun h => h)
    rw [ByteArray.toList_eq, ByteArray.toList_eq, h3]
  · intro h
    rw [bytes_eq h]

theorem inj_far (a b : ByteArray) (w : World) (ha : a.size ≤ maxLen) (hb : b.size ≤ maxLen) (h : 524288 < a.size ∨ 524288 < b.size) :
    Calls Try.prog 6 #[.string a, .string b] w fun e w' => e = .returned (.bool true) ∧ w = w' := by
  by_cases hs : a.size + b.size ≤ 1048576
  · unfold maxLen at ha hb
    by_cases h1 : 524288 < a.size
    · go_enter Try.func6, Try.ntmps6
      go_wp2_with (go_at_call 15; refine (bytes15 _ _ _ hs).mono ?_; rintro e w' ⟨rfl, rfl⟩)
      go_ret
      exact ⟨rfl, rfl⟩
    · have h2 : 524288 < b.size := by omega
      go_enter Try.func6, Try.ntmps6
      go_wp2_with (go_at_call 15; refine (bytes15 _ _ _ hs).mono ?_; rintro e w' ⟨rfl, rfl⟩)
      go_ret
      exact ⟨rfl, rfl⟩
  · go_enter Try.func6, Try.ntmps6
    go_wp2_with (go_at_call 15; refine (bytes15_not _ _ _ ha hb (by omega)).mono ?_; rintro e w' ⟨rfl, rfl⟩)
    go_ret
    exact ⟨rfl, rfl⟩

set_option maxRecDepth 100000 in
theorem inj_near (a b : ByteArray) (w : World) (ha : a.size ≤ 524288) (hb : b.size ≤ 524288) :
    Calls Try.prog 6 #[.string a, .string b] w fun e w' => e = .returned (.bool true) ∧ w = w' := by
  have hsa := reg_size a
  have hsb := reg_size b
  have hd1 : ¬ ((a.size : Int) + 181 - (a.size : Int) ≤ 0) := by omega
  have hd2 : (((a.size : Int) + 181 - (a.size : Int)) != ((b.size : Int) + 181 - (b.size : Int))) = false := by
    have : ((a.size : Int) + 181 - (a.size : Int)) = ((b.size : Int) + 181 - (b.size : Int)) := by omega
    rw [this]; simp
  go_enter Try.func6, Try.ntmps6
  go_wp2_with fail
  refine (bytes15 _ _ _ (by omega)).mono ?_
  rintro e w' ⟨rfl, rfl⟩
  go_wp2_with fail
  refine (zzreg_any a _ (by omega)).mono ?_
  rintro e w' ⟨rfl, rfl⟩
  go_wp2_with fail
  refine (zzreg_any b _ (by omega)).mono ?_
  rintro e w' ⟨rfl, rfl⟩
  go_wp2
  go_ret
  exact ⟨ret_bool (reg_inj a b), rfl⟩

end Go.Proofs.Qxb6605154a
