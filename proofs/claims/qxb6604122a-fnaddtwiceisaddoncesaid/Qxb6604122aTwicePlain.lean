/-
  Plain mathematics of FnAddTwiceIsAddOnce.
-/
import Derived.Test.Qxb6604122aPlain
namespace Go.Proofs.Qxb6604122a

/-- Adding twice is adding once. -/
theorem addL_twice (c : Int) : ∀ xs : List Int, addL c (addL c xs) = addL c xs
  | [] => by simp [addL]
  | x :: r => by
    by_cases h1 : x = c
    · simp [addL, h1]
    · by_cases h2 : c < x
      · simp [addL, h1, h2]
      · simp only [addL, if_neg h1, if_neg h2]
        rw [addL_twice c r]

/-- Where c stands in 'addL c xs': it was met at p; or it was set in at p. -/
def MetAt (c : Int) (xs : List Int) (p : Nat) : Prop := (∀ t (h : t < xs.length), t < p → xs[t] < c) ∧ ∃ h : p < xs.length, xs[p] = c
def SetAt (c : Int) (xs G : List Int) (p : Nat) : Prop :=
  p ≤ xs.length ∧ G.length = xs.length + 1 ∧ (∀ t (h : t < xs.length), t < p → xs[t] < c) ∧ (∀ h : p < xs.length, c < xs[p]) ∧
  (∀ t (h : t < xs.length) (h' : t < G.length), t < p → G[t] = xs[t]) ∧ (∀ h : p < G.length, G[p] = c) ∧ ∀ t (h : t < xs.length) (h' : t + 1 < G.length), p ≤ t → G[t + 1] = xs[t]

theorem addL_place (c : Int) : ∀ xs : List Int, (∃ p, MetAt c xs p ∧ addL c xs = xs) ∨ ∃ p, SetAt c xs (addL c xs) p
  | [] => .inr ⟨0, by simp, by simp [addL], by simp, by simp, by simp, by simp [addL], by simp⟩
  | x :: r => by
    by_cases h1 : x = c
    · refine .inl ⟨0, ⟨fun t _ ht => by omega, ⟨by simp, by simpa using h1⟩⟩, by simp [addL, h1]⟩
    · by_cases h2 : c < x
      · have e : addL c (x :: r) = c :: x :: r := by simp [addL, h1, h2]
        rw [e]
        refine .inr ⟨0, by simp, by simp, fun t _ ht => by omega, fun _ => by simpa using h2, fun t _ _ ht => by omega, fun _ => by simp, fun t _ _ _ => by simp⟩
      · have e : addL c (x :: r) = x :: addL c r := by simp [addL, h1, h2]
        rw [e]
        rcases addL_place c r with ⟨p, ⟨hb, hp, hc⟩, he⟩ | ⟨p, hp, hl, hb, ha, hs, hm, ht⟩
        · refine .inl ⟨p + 1, ⟨fun t h ht => ?_, by simpa using hp, by simpa using hc⟩, by rw [he]⟩
          cases t with
          | zero => simp; omega
          | succ t => simpa using hb t (by simpa using h) (by omega)
        · refine .inr ⟨p + 1, by simpa using hp, by simpa using hl, fun t h ht => ?_, fun h => by simpa using ha (by simpa using h), fun t h h' ht => ?_, fun h => by simpa using hm (by simpa using h), fun t h h' ht' => ?_⟩
          · cases t with
            | zero => simp; omega
            | succ t => simpa using hb t (by simpa using h) (by omega)
          · cases t with
            | zero => simp
            | succ t => simpa using hs t (by simpa using h) (by simpa using h') (by omega)
          · cases t with
            | zero => omega
            | succ t => simpa using ht t (by simpa using h) (by simpa using h') (by omega)

end Go.Proofs.Qxb6604122a
