/-
  Plain mathematics of '(*part).add': no Go in sight.
-/
namespace Go.Proofs.Qxb6604122a

/-- What (*part).add makes of the list of cycles. -/
def addL (c : Int) : List Int → List Int
  | [] => [c]
  | x :: r => if x = c then x :: r else if c < x then c :: x :: r else x :: addL c r

theorem addL_hit (c : Int) : ∀ (xs : List Int) (k : Nat) (h : k < xs.length), (∀ y ∈ xs.take k, y < c) → xs[k] = c → addL c xs = xs
  | [], k, h, _, _ => by simp at h
  | x :: r, 0, h, _, e => by simp at e; simp [addL, e]
  | x :: r, k + 1, h, hl, e => by
    have hx : x < c := hl x (by simp)
    have h1 : ¬ x = c := by omega
    have h2 : ¬ c < x := by omega
    simp only [addL, if_neg h1, if_neg h2]
    rw [addL_hit c r k (by simpa using h) (fun y hy => hl y (by simp [hy])) (by simpa using e)]

theorem addL_mid (c : Int) : ∀ (xs : List Int) (k : Nat) (h : k < xs.length), (∀ y ∈ xs.take k, y < c) → c < xs[k] → addL c xs = xs.take k ++ c :: xs.drop k
  | [], k, h, _, _ => by simp at h
  | x :: r, 0, h, _, e => by
    have h2 : c < x := by simpa using e
    have h1 : ¬ x = c := by omega
    simp [addL, if_neg h1, if_pos h2]
  | x :: r, k + 1, h, hl, e => by
    have hx : x < c := hl x (by simp)
    have h1 : ¬ x = c := by omega
    have h2 : ¬ c < x := by omega
    simp only [addL, if_neg h1, if_neg h2]
    rw [addL_mid c r k (by simpa using h) (fun y hy => hl y (by simp [hy])) (by simpa using e)]
    simp

theorem addL_end (c : Int) : ∀ (xs : List Int), (∀ y ∈ xs, y < c) → addL c xs = xs ++ [c]
  | [], _ => by simp [addL]
  | x :: r, hl => by
    have hx : x < c := hl x (by simp)
    have h1 : ¬ x = c := by omega
    have h2 : ¬ c < x := by omega
    simp only [addL, if_neg h1, if_neg h2]
    rw [addL_end c r (fun y hy => hl y (by simp [hy]))]
    simp

theorem set_mid {α : Type} (c : α) : ∀ (xs : List α) (k : Nat), k < xs.length → (xs.take (k + 1) ++ xs.drop k).set k c = xs.take k ++ c :: xs.drop k
  | [], k, h => by simp at h
  | x :: r, 0, h => by simp
  | x :: r, k + 1, h => by
    have := set_mid c r k (by simpa using h)
    simpa using this

theorem below_step (c : Int) (xs : List Int) (k : Nat) (h : k < xs.length) (hl : ∀ y ∈ xs.take k, y < c) (h1 : ¬ xs[k] = c) (h2 : ¬ c < xs[k]) : ∀ y ∈ xs.take (k + 1), y < c := by
  intro y hy
  rw [List.take_succ_eq_append_getElem h, List.mem_append] at hy
  rcases hy with hy | hy
  · exact hl y hy
  · simp at hy; omega

theorem addL_length (c : Int) : ∀ xs : List Int, (addL c xs).length = xs.length ∨ (addL c xs).length = xs.length + 1
  | [] => by simp [addL]
  | x :: r => by
    have := addL_length c r
    simp only [addL]
    split
    · simp
    · split
      · simp
      · simp; omega

def hasB (xs : List Int) (x : Int) : Bool := xs.any (fun y => y == x)

theorem hasB_take (xs : List Int) (x : Int) (k : Nat) (h : k < xs.length) : hasB (xs.take (k + 1)) x = (hasB (xs.take k) x || (xs[k] == x)) := by
  unfold hasB
  rw [List.take_succ_eq_append_getElem h, List.any_append]
  simp only [List.any_cons, List.any_nil, Bool.or_false]

theorem hasB_hit (xs : List Int) (x : Int) (k : Nat) (h : k < xs.length) (e : (xs[k] == x) = true) : hasB xs x = true := by
  unfold hasB
  rw [List.any_eq_true]
  exact ⟨xs[k], List.getElem_mem h, e⟩


theorem hasB_iff (xs : List Int) (x : Int) : hasB xs x = true ↔ x ∈ xs := by
  unfold hasB
  rw [List.any_eq_true]
  constructor
  · rintro ⟨y, hy, e⟩
    have : y = x := by simpa using e
    exact this ▸ hy
  · intro h
    exact ⟨x, h, by simp⟩

theorem mem_addL (c y : Int) : ∀ xs : List Int, y ∈ addL c xs ↔ y = c ∨ y ∈ xs
  | [] => by simp [addL]
  | x :: r => by
    have ih := mem_addL c y r
    simp only [addL]
    split
    · rename_i e
      subst e
      simp
    · split
      · simp
      · simp only [List.mem_cons, ih]
        constructor
        · rintro (h | h | h)
          · exact .inr (.inl h)
          · exact .inl h
          · exact .inr (.inr h)
        · rintro (h | h | h)
          · exact .inr (.inl h)
          · exact .inl h
          · exact .inr (.inr h)

theorem pw_addL (c : Int) : ∀ xs : List Int, xs.Pairwise (· < ·) → (addL c xs).Pairwise (· < ·)
  | [], _ => by simp [addL]
  | x :: r, h => by
    have h2 := List.pairwise_cons.1 h
    simp only [addL]
    split
    · exact h
    · split
      · rename_i hc
        refine List.pairwise_cons.2 ⟨fun y hy => ?_, h⟩
        rcases List.mem_cons.1 hy with e | e
        · omega
        · have := h2.1 y e; omega
      · refine List.pairwise_cons.2 ⟨fun y hy => ?_, pw_addL c r h2.2⟩
        rcases (mem_addL c y r).1 hy with e | e
        · omega
        · exact h2.1 y e

theorem len_addL (c : Int) : ∀ xs : List Int, xs.Pairwise (· < ·) → (addL c xs).length = xs.length + (if hasB xs c then 0 else 1)
  | [], _ => by simp [addL, hasB]
  | x :: r, h => by
    have h2 := List.pairwise_cons.1 h
    simp only [addL]
    split
    · rename_i e
      have : hasB (x :: r) c = true := (hasB_iff _ _).2 (by simp [e])
      simp [this]
    · rename_i hne
      split
      · rename_i hc
        have : ¬ hasB (x :: r) c = true := fun hh => by
          rcases List.mem_cons.1 ((hasB_iff _ _).1 hh) with e | e
          · omega
          · have := h2.1 c e; omega
        simp [this]
      · have ih := len_addL c r h2.2
        have e : hasB (x :: r) c = hasB r c := by
          rw [Bool.eq_iff_iff, hasB_iff, hasB_iff, List.mem_cons]
          constructor
          · rintro (h3 | h3)
            · omega
            · exact h3
          · exact .inr
        rw [e]
        simp only [List.length_cons, ih]
        omega

/-- The first k elements rise strictly. -/
def UpTo (xs : List Int) (k : Nat) : Prop := ∀ j, j + 1 < k → j + 1 < xs.length → xs.getD j 0 < xs.getD (j + 1) 0

theorem upTo_one (xs : List Int) : UpTo xs 1 := fun j h => by omega

theorem upTo_step {xs : List Int} {m : Nat} (h1 : m < xs.length) (h2 : m + 1 < xs.length) (h : UpTo xs (m + 1)) (hl : xs[m] < xs[m + 1]) : UpTo xs (m + 1 + 1) := by
  intro j hj hx
  by_cases e : j = m
  · subst e
    simpa [h1, h2] using hl
  · exact h j (by omega) hx

theorem pw_of_upTo : ∀ (xs : List Int) (k : Nat), xs.length ≤ k → UpTo xs k → xs.Pairwise (· < ·)
  | [], _, _, _ => List.Pairwise.nil
  | [x], _, _, _ => by simp
  | x :: y :: r, k, hk, h => by
    have h0 : x < y := by simpa using h 0 (by simp at hk; omega) (by simp)
    have ih := pw_of_upTo (y :: r) k (by simp at hk ⊢; omega) (fun j hj hx => by
      have := h (j + 1) (by simp at hk hx; omega) (by simp at hx ⊢; omega)
      simpa using this)
    refine List.pairwise_cons.2 ⟨fun z hz => ?_, ih⟩
    rcases List.mem_cons.1 hz with e | e
    · omega
    · have := (List.pairwise_cons.1 ih).1 z e; omega

theorem pw_at {xs : List Int} (h : xs.Pairwise (· < ·)) {i j : Nat} (hi : i < xs.length) (hj : j < xs.length) (hij : i < j) : xs[i] < xs[j] := List.pairwise_iff_getElem.1 h i j hi hj hij

/-- Two elements next to each other of a list that rises are not out of order. -/
theorem pw_next {xs : List Int} (h : xs.Pairwise (· < ·)) {m : Nat} (h1 : m < xs.length) (h2 : m + 1 < xs.length) : xs[m] < xs[m + 1] := pw_at h h1 h2 (by omega)

/-- Where the inner loop stands: every element of G ahead of j is below all elements of xs from i on. -/
def Ahead (G xs : List Int) (i j : Nat) : Prop := ∀ t, t < j → t < G.length → ∀ i', i ≤ i' → i' < xs.length → G.getD t 0 < xs.getD i' 0

theorem ahead_zero (G xs : List Int) (i : Nat) : Ahead G xs i 0 := fun t h => by omega

theorem ahead_more {G xs : List Int} {i j : Nat} (hx : xs.Pairwise (· < ·)) (hj : j < G.length) (hi : i < xs.length) (h : Ahead G xs i j) (hl : G[j] < xs[i]) : Ahead G xs i (j + 1) := by
  intro t ht hg i' h1 h2
  by_cases e : t = j
  · subst e
    have e1 : G.getD t 0 = G[t] := by simp [hj]
    have e2 : xs.getD i' 0 = xs[i'] := by simp [h2]
    rw [e1, e2]
    by_cases e3 : i' = i
    · subst e3; exact hl
    · have := pw_at hx hi h2 (by omega); omega
  · exact h t (by omega) hg i' h1 h2

theorem ahead_next {G xs : List Int} {i j : Nat} (h : Ahead G xs i j) : Ahead G xs (i + 1) j := fun t ht hg i' h1 h2 => h t ht hg i' (by omega) h2

/-- Behind the inner loop the element is met. -/
theorem ahead_met {G xs : List Int} {i j : Nat} (hG : G.Pairwise (· < ·)) (hi : i < xs.length) (hm : xs[i] ∈ G) (h : Ahead G xs i j) : j < G.length ∧ ∀ (hj : j < G.length), ¬ G[j] < xs[i] → G[j] = xs[i] := by
  obtain ⟨p, hp, e⟩ := List.getElem_of_mem hm
  have hjp : j ≤ p := by
    rcases Nat.lt_or_ge p j with hlt | hge
    · have := h p hlt hp i (Nat.le_refl _) hi
      have e1 : G.getD p 0 = G[p] := by simp [hp]
      have e2 : xs.getD i 0 = xs[i] := by simp [hi]
      rw [e1, e2, e] at this
      omega
    · exact hge
  refine ⟨by omega, fun hj hn => ?_⟩
  by_cases e2 : j = p
  · subst e2; exact e
  · have := pw_at hG hj hp (by omega); omega

end Go.Proofs.Qxb6604122a
