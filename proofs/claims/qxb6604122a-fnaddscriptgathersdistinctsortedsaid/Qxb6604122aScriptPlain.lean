/-
  Plain mathematics of FnAddScriptGathersDistinctSorted: adding the elements of a list one by one.
-/
import Derived.Test.Qxb6604122aPlain
namespace Go.Proofs.Qxb6604122a

/-- The elements of the list added one by one, from nothing. -/
def gather (xs : List Int) : List Int := xs.foldl (fun acc x => addL x acc) []

theorem gather_nil : gather [] = [] := rfl

theorem gather_step (xs : List Int) (k : Nat) (h : k < xs.length) : gather (xs.take (k + 1)) = addL xs[k] (gather (xs.take k)) := by
  unfold gather
  rw [List.take_succ_eq_append_getElem h, List.foldl_append]
  rfl

theorem pw_fold : ∀ (xs acc : List Int), acc.Pairwise (· < ·) → (xs.foldl (fun acc x => addL x acc) acc).Pairwise (· < ·)
  | [], _, h => h
  | x :: r, acc, h => pw_fold r (addL x acc) (pw_addL x acc h)

theorem pw_gather (xs : List Int) : (gather xs).Pairwise (· < ·) := pw_fold xs [] List.Pairwise.nil

theorem mem_fold (y : Int) : ∀ (xs acc : List Int), y ∈ xs.foldl (fun acc x => addL x acc) acc ↔ y ∈ xs ∨ y ∈ acc
  | [], acc => by simp
  | x :: r, acc => by
    show y ∈ r.foldl (fun acc x => addL x acc) (addL x acc) ↔ _
    rw [mem_fold y r (addL x acc), mem_addL, List.mem_cons]
    constructor
    · rintro (h | h | h)
      · exact .inl (.inr h)
      · exact .inl (.inl h)
      · exact .inr h
    · rintro ((h | h) | h)
      · exact .inr (.inl h)
      · exact .inl h
      · exact .inr (.inr h)

theorem mem_gather (xs : List Int) (y : Int) : y ∈ gather xs ↔ y ∈ xs := by
  unfold gather
  rw [mem_fold]
  simp

theorem len_addL_le (c : Int) (xs : List Int) (n : Nat) (h : xs.length ≤ n) : (addL c xs).length ≤ n + 1 := by
  rcases addL_length c xs with e | e <;> omega

end Go.Proofs.Qxb6604122a
