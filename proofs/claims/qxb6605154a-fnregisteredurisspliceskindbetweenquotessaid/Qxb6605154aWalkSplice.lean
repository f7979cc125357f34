/-
  The walk of FnRegisteredURIsSplicesKindBetweenQuotes (5).
-/
import Derived.Test.Qxb6605154aCount
namespace Go.Proofs.Qxb6605154a
open Go.RowKit
set_option linter.unusedVariables false

theorem ret_bool {a b : Bool} (h : a = b) : Ending.returned (.bool a) = .returned (.bool b) := by rw [h]

theorem splice_far (k : ByteArray) (w : World) (hk : k.size ≤ maxLen) (h : 1048576 < k.size) :
    Calls Try.prog 5 #[.string k] w fun e w' => e = .returned (.bool true) ∧ ∃ n, w' = w.drewN n := by
  unfold maxLen at hk
  go_enter Try.func5, Try.ntmps5
  go_wp2_with (go_at_call 12; refine (bytes12_not _ _ hk h).mono ?_; rintro e w' ⟨rfl, rfl⟩)
  go_ret
  exact ⟨rfl, 0, rfl⟩

/-- What the walk wants to know of the three texts: of "", "a" and "b". -/
structure Three (R0 RA RB : ByteArray) : Prop where
  e0 : regB ⟨#[]⟩ = R0
  ea : regB ⟨#[97]⟩ = RA
  eb : regB ⟨#[98]⟩ = RB
  s0 : R0.size = 181
  sa : RA.size = 182
  sb : RB.size = 182
  same : ∀ p (ha : p < RA.size) (hb : p < RB.size), p < 172 → (((RA[p].toNat : Nat) : Int) == ((RB[p].toNat : Nat) : Int)) = true
  part : ∀ (ha : 172 < RA.size) (hb : 172 < RB.size), (((RA[172].toNat : Nat) : Int) == ((RB[172].toNat : Nat) : Int)) = false
  q1 : ∀ h : 171 < R0.size, ((R0[171].toNat : Nat) : Int) = 39
  q2 : ∀ h : 172 < R0.size, ((R0[172].toNat : Nat) : Int) = 39
  n1 : quo (R0.extract 0 171).data.toList = 4
  n2 : quo R0.data.toList = 8
  x1 : R0.extract 0 172 = preB
  x2 : R0.extract 172 181 = sufB

theorem at_eq {A B : ByteArray} {p : Nat} (ha : p < A.size) (hb : p < B.size) (h : A.data[p]? = B.data[p]?) : (((A[p].toNat : Nat) : Int) == ((B[p].toNat : Nat) : Int)) = true := by
  have e1 : A.data[p]? = some A[p] := Array.getElem?_eq_getElem (by simpa using ha)
  have e2 : B.data[p]? = some B[p] := Array.getElem?_eq_getElem (by simpa using hb)
  rw [e1, e2] at h
  rw [Option.some.inj h]
  simp

set_option maxRecDepth 100000 in
theorem three : Three (regB ⟨#[]⟩) (regB ⟨#[97]⟩) (regB ⟨#[98]⟩) where
  e0 := rfl
  ea := rfl
  eb := rfl
  s0 := reg_size _
  sa := reg_size _
  sb := reg_size _
  same := by
    have h : ∀ p : Fin 172, (regB ⟨#[97]⟩).data[p.val]? = (regB ⟨#[98]⟩).data[p.val]? := by decide +kernel
    intro p ha hb hp
    exact at_eq ha hb (h ⟨p, hp⟩)
  part := fun ha hb => by kernel_rfl
  q1 := fun h => by kernel_rfl
  q2 := fun h => by kernel_rfl
  n1 := by kernel_rfl
  n2 := by kernel_rfl
  x1 := by kernel_rfl
  x2 := by kernel_rfl


theorem zzreg_as (k R : ByteArray) (h : regB k = R) (w : World) (hk : k.size ≤ 1048576) :
    Calls Try.prog 13 #[.string k] w fun e w' => e = .returned (.string R) ∧ w = w' := by
  subst h
  exact zzreg_any k w hk

theorem count_as (s : ByteArray) (v : Int) (h : quo s.data.toList = v) (w : World) (hs : s.size ≤ 1048576) :
    Calls Try.prog 14 #[.string s] w fun e w' => e = .returned (.int .i64 v) ∧ w = w' := by
  subst h
  exact count_any s w hs

set_option maxRecDepth 100000 in
set_option maxHeartbeats 800000 in
theorem splice_with (R0 RA RB k : ByteArray) (w : World) (T : Three R0 RA RB) (hk : k.size ≤ 1048576) :
    Calls Try.prog 5 #[.string k] w fun e w' => e = .returned (.bool true) ∧ ∃ n, w' = w.drewN n := by
  have HT : Hid (Three R0 RA RB) := T
  have s0 := T.s0
  have sa := T.sa
  have sb := T.sb
  obtain ⟨K, hK⟩ : ∃ K, regB k = K := ⟨_, rfl⟩
  have HK : Hid (regB k = K) := hK
  have hKs : K.size = k.size + 181 := by rw [← hK]; exact reg_size k
  clear T hK
  go_enter Try.func5, Try.ntmps5
  go_wp2_with fail
  refine (bytes12 _ _ hk).mono ?_
  rintro e w' ⟨rfl, rfl⟩
  go_wp2_with fail
  refine (zzreg_as _ R0 HT.out.e0 _ (by decide)).mono ?_
  rintro e w' ⟨rfl, rfl⟩
  go_wp2_with fail
  refine (zzreg_as _ RA HT.out.ea _ (by decide)).mono ?_
  rintro e w' ⟨rfl, rfl⟩
  go_wp2_with fail
  refine (zzreg_as _ RB HT.out.eb _ (by decide)).mono ?_
  rintro e w' ⟨rfl, rfl⟩
  go_wp2
  go_loopw [6] (fun sp wr => ∃ p : Nat, p ≤ 172 ∧ sp = .int .i64 p ∧ ∃ n, wr = w.drewN n) (fun sp _ => 172 - (intOf sp).toNat)
  case atStart => exact ⟨0, by omega, rfl, 0, rfl⟩
  case round =>
    obtain ⟨p, hp, rfl, n, rfl⟩ := hrel
    have ha : p < RA.size := by omega
    have hb : p < RB.size := by omega
    have g0 : (0 : Int) ≤ (p : Int) := by omega
    have g1 : (p : Int) < 182 := by omega
    by_cases hlt : p < 172
    · have hs := HT.out.same p ha hb hlt
      go_wp2
      go_quiet (fail)
      go_wp2
      go_roundw
      case rel => exact ⟨p + 1, by omega, by go_num, _, rfl⟩
      case measure => simp [intOf]; omega
    · have hs : ((((RA[p]'ha).toNat : Nat) : Int) == (((RB[p]'hb).toNat : Nat) : Int)) = false := by
        have e : p = 172 := by omega
        subst e
        exact HT.out.part ha hb
      have h0 : p < R0.size := by omega
      have h1 : p - 1 < R0.size := by omega
      have hq1 : (((R0[p - 1]'h1).toNat : Nat) : Int) = 39 := by
        have e : p = 172 := by omega
        subst e
        exact HT.out.q1 h1
      have hq2 : (((R0[p]'h0).toNat : Nat) : Int) = 39 := by
        have e : p = 172 := by omega
        subst e
        exact HT.out.q2 h0
      have HN1 : Hid (quo (R0.extract 0 (p - 1)).data.toList = 4) := by
        have e : p = 172 := by omega
        subst e
        exact HT.out.n1
      have g2 : (1 : Int) ≤ (p : Int) := by omega
      have g3 : (p : Int) < 181 := by omega
      go_wp2
      go_quiet (fail)
      go_wp2_with fail
      refine (count_as _ 4 HN1.out _ (by simp; omega)).mono ?_
      rintro e w' ⟨rfl, rfl⟩
      go_wp2_with fail
      refine (count_as _ 8 HT.out.n2 _ (by omega)).mono ?_
      rintro e w' ⟨rfl, rfl⟩
      go_wp2_with fail
      refine (zzreg_as _ K HK.out _ hk).mono ?_
      rintro e w' ⟨rfl, rfl⟩
      go_wp2
      go_quiet (fail)
      go_wp2
      go_ret
      have hE : (K.toList == (R0.extract 0 p ++ k ++ R0.extract p 181).toList) = true := by
        have e : p = 172 := by omega
        subst e
        rw [HT.out.x1, HT.out.x2, ← HK.out]
        unfold regB
        simp
      exact ⟨ret_bool hE, _, rfl⟩

end Go.Proofs.Qxb6605154a
