/-
  Walks of registeredURIs (16), ZZregisteredURIs (13), the two zzBytes (12, 15), countQuotes (14).
-/
import Derived.Test.Qxb6605154aProg
import Derived.WalkKit
import Derived.ProofKit
import Derived.Below
import Derived.BigQuiet
import Derived.Deep.QuietTactic
import Derived.WalkSpells
import Derived.WalkSmall
namespace Go.Proofs.Qxb6605154a
open Go.RowKit
set_option linter.unusedVariables false

/-- What stands ahead of the kind, and behind it. -/
def preB : ByteArray := ⟨#[67, 79, 65, 76, 69, 83, 67, 69, 40, 40, 10, 9, 9, 83, 69, 76, 69, 67, 84, 32, 106, 115, 111, 110, 95, 97, 103, 103, 40, 106, 115, 111, 110, 95, 98, 117, 105, 108, 100, 95, 111, 98, 106, 101, 99, 116, 40, 39, 105, 100, 39, 44, 32, 114, 46, 105, 100, 44, 32, 39, 117, 114, 105, 39, 44, 32, 114, 46, 117, 114, 105, 41, 32, 79, 82, 68, 69, 82, 32, 66, 89, 32, 114, 46, 99, 114, 101, 97, 116, 101, 100, 95, 97, 116, 44, 32, 114, 46, 117, 114, 105, 41, 10, 9, 9, 70, 82, 79, 77, 32, 99, 108, 105, 101, 110, 116, 95, 114, 101, 100, 105, 114, 101, 99, 116, 95, 117, 114, 105, 115, 32, 114, 32, 87, 72, 69, 82, 69, 32, 114, 46, 99, 108, 105, 101, 110, 116, 95, 105, 100, 32, 61, 32, 99, 46, 105, 100, 32, 65, 78, 68, 32, 114, 46, 107, 105, 110, 100, 32, 61, 32, 39]⟩
def sufB : ByteArray := ⟨#[39, 41, 44, 32, 39, 91, 93, 39, 41]⟩
def regB (k : ByteArray) : ByteArray := preB ++ k ++ sufB

set_option maxRecDepth 100000 in
theorem pre_size : preB.size = 172 := by kernel_rfl
theorem suf_size : sufB.size = 9 := by kernel_rfl
theorem reg_size (k : ByteArray) : (regB k).size = k.size + 181 := by
  unfold regB
  rw [ByteArray.size_append, ByteArray.size_append, pre_size, suf_size]
  omega

set_option maxRecDepth 100000 in
set_option maxHeartbeats 400000 in
theorem reg_any (k : ByteArray) (w : World) (hk : k.size ≤ 1048576) :
    Calls Try.prog 16 #[.string k] w fun e w' => e = .returned (.string (regB k)) ∧ w = w' := by
  go_enter Try.func16, Try.ntmps16
  go_wp2
  go_ret
  exact ⟨rfl, rfl⟩

theorem zzreg_any (k : ByteArray) (w : World) (hk : k.size ≤ 1048576) :
    Calls Try.prog 13 #[.string k] w fun e w' => e = .returned (.string (regB k)) ∧ w = w' := by
  go_enter Try.func13, Try.ntmps13
  go_wp2_with (go_at_call 16; refine (reg_any _ _ hk).mono ?_; rintro e w' ⟨rfl, rfl⟩)
  go_ret
  exact ⟨rfl, rfl⟩

theorem bytes12 (k : ByteArray) (w : World) (h : k.size ≤ 1048576) :
    Calls Try.prog 12 #[.string k] w fun e w' => e = .returned (.bool true) ∧ w = w' := by
  go_enter Try.func12, Try.ntmps12
  go_wp2
  go_ret
  exact ⟨rfl, rfl⟩
theorem bytes12_not (k : ByteArray) (w : World) (hm : k.size ≤ 9223372036854775807) (h : 1048576 < k.size) :
    Calls Try.prog 12 #[.string k] w fun e w' => e = .returned (.bool false) ∧ w = w' := by
  go_enter Try.func12, Try.ntmps12
  go_wp2
  go_ret
  exact ⟨rfl, rfl⟩
theorem bytes15 (k l : ByteArray) (w : World) (h : k.size + l.size ≤ 1048576) :
    Calls Try.prog 15 #[.string k, .string l] w fun e w' => e = .returned (.bool true) ∧ w = w' := by
  go_enter Try.func15, Try.ntmps15
  go_wp2
  go_ret
  exact ⟨rfl, rfl⟩
theorem bytes15_not (k l : ByteArray) (w : World) (hk : k.size ≤ maxLen) (hl : l.size ≤ maxLen) (h : 1048576 < k.size + l.size) :
    Calls Try.prog 15 #[.string k, .string l] w fun e w' => e = .returned (.bool false) ∧ w = w' := by
  unfold maxLen at hk hl
  by_cases h1 : 1048576 < k.size
  · go_enter Try.func15, Try.ntmps15
    go_wp2
    go_ret
    exact ⟨rfl, rfl⟩
  · by_cases h2 : 1048576 < l.size
    · go_enter Try.func15, Try.ntmps15
      go_wp2
      go_ret
      exact ⟨rfl, rfl⟩
    · go_enter Try.func15, Try.ntmps15
      go_wp2
      go_ret
      exact ⟨rfl, rfl⟩

end Go.Proofs.Qxb6605154a
