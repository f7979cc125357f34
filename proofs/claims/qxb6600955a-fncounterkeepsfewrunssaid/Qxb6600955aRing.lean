/-
  Plain mathematics of the counter's ring: no Go in sight.
-/
namespace Go.Proofs.Qxb6600955a
set_option linter.unusedVariables false

/-- The place in a ring of n of what stands j behind 'first'. -/
def ringAt (n first j : Nat) : Nat := if n ≤ j + first then j + first - n else j + first

theorem ringAt_lt {n first j : Nat} (hf : first < n) (hj : j < n) : ringAt n first j < n := by unfold ringAt; split <;> omega

theorem ringAt_next {n first j : Nat} (hf : first < n) (hj : j + 1 < n) : ringAt n (ringAt n first 1) j = ringAt n first (j + 1) := by
  unfold ringAt; split <;> split <;> split <;> omega

theorem ringAt_ne {n first i j : Nat} (hf : first < n) (hi : i < n) (hj : j < n) (hij : i ≠ j) : ringAt n first i ≠ ringAt n first j := by
  unfold ringAt; split <;> split <;> omega

/-- The runs S stand in the ring zs from 'first' on. -/
def Stands (n first : Nat) (zs S : List Int) : Prop := (first < n ∨ n = 0 ∧ first = 0) ∧ S.length ≤ n ∧ zs.length = n ∧ ∀ j, j < S.length → S.getD j 0 = zs.getD (ringAt n first j) 0

theorem Stands.first_lt {n first : Nat} {zs S : List Int} (h : Stands n first zs S) (hS : 0 < S.length) : first < n := by
  rcases h.1 with h1 | ⟨h1, _⟩
  · exact h1
  · have := h.2.1; omega

theorem Stands.tail {n first : Nat} {zs S : List Int} (h : Stands n first zs S) (hS : 0 < S.length) : Stands n (ringAt n first 1) zs S.tail := by
  have hf := h.first_lt hS
  obtain ⟨_, h2, h3, h4⟩ := h
  refine ⟨.inl (by unfold ringAt; split <;> omega), by simp; omega, h3, fun j hj => ?_⟩
  have hj' : j + 1 < S.length := by simp at hj; omega
  rw [ringAt_next hf (by omega), ← h4 (j + 1) hj']
  simp

theorem Stands.none {n first : Nat} {zs S : List Int} (h : Stands n first zs S) : Stands n first zs [] := ⟨h.1, by simp, h.2.2.1, fun j hj => by simp at hj⟩

theorem Stands.push {n first : Nat} {zs S : List Int} (h : Stands n first zs S) (hS : S.length < n) (c : Int) : Stands n first (zs.set (ringAt n first S.length) c) (S ++ [c]) := by
  have hf : first < n := by rcases h.1 with h1 | ⟨h1, _⟩ <;> omega
  obtain ⟨h1, h2, h3, h4⟩ := h
  have hlt := ringAt_lt hf hS
  refine ⟨h1, by simp; omega, by simpa using h3, fun j hj => ?_⟩
  by_cases hjS : j < S.length
  · have hne := ringAt_ne hf (show j < n by omega) hS (show j ≠ S.length by omega)
    have e1 : (S ++ [c]).getD j 0 = S.getD j 0 := by simp [List.getElem?_append_left hjS]
    rw [e1, h4 j hjS]
    simp [List.getElem?_set_ne (Ne.symm hne)]
  · obtain rfl : j = S.length := by simp at hj; omega
    simp [List.getElem?_set_self (show ringAt n first S.length < zs.length by omega)]

/-- A full ring laid out anew from its oldest run on, in a larger ring. -/
theorem Stands.grown {n first m : Nat} {zs S ys : List Int} (h : Stands n first zs S) (hfull : S.length = n) (hm : n < m) (hy : ys.length = m) (h' : ys.take n = zs.drop first ++ zs.take first) : Stands m 0 ys S := by
  obtain ⟨h1, h2, h3, h4⟩ := h
  refine ⟨.inl (by omega), by omega, hy, fun j hj => ?_⟩
  have hf : first < n := by rcases h1 with h1 | ⟨h1, _⟩ <;> omega
  rw [h4 j hj]
  have e0 : ringAt m 0 j = j := by unfold ringAt; split <;> omega
  have e1 : ys[j]? = (zs.drop first ++ zs.take first)[j]? := by rw [← h', List.getElem?_take, if_pos (by omega)]
  rw [e0]
  show zs.getD _ 0 = ys.getD j 0
  rw [List.getD_eq_getElem?_getD, List.getD_eq_getElem?_getD, e1]
  congr 1
  unfold ringAt
  split
  · rw [List.getElem?_append_right (by simp; omega), List.getElem?_take, if_pos (by simp; omega)]
    congr 1
    simp; omega
  · rw [List.getElem?_append_left (by simp; omega), List.getElem?_drop]
    congr 1
    omega

/-- The runs rise strictly and lie from 0 to the clock. -/
def Good (clk : Int) (S : List Int) : Prop := S.Pairwise (· < ·) ∧ ∀ x ∈ S, 0 ≤ x ∧ x ≤ clk

/-- Behind a prune: the second run has matched fewer than it must. -/
def Pruned (lo clk : Int) (S : List Int) : Prop := ∀ h : 1 < S.length, clk - S[1] < lo

theorem good_nil (clk : Int) : Good clk [] := ⟨List.Pairwise.nil, fun x h => by cases h⟩
theorem pruned_nil (lo clk : Int) : Pruned lo clk [] := fun h => by simp at h

theorem Good.suffix {clk : Int} {S T : List Int} (h : Good clk S) (hs : T <:+ S) : Good clk T := ⟨h.1.sublist hs.sublist, fun x hx => h.2 x (hs.subset hx)⟩
theorem Good.mono {c d : Int} {S : List Int} (h : Good c S) (hcd : c ≤ d) : Good d S := ⟨h.1, fun x hx => by have := h.2 x hx; omega⟩
theorem Good.snoc {clk c : Int} {S : List Int} (h : Good clk S) (hc : clk < c) (h0 : 0 ≤ c) : Good c (S ++ [c]) := by
  refine ⟨List.pairwise_append.2 ⟨h.1, by simp, fun x hx y hy => ?_⟩, fun x hx => ?_⟩
  · simp at hy; have := h.2 x hx; omega
  · rcases List.mem_append.1 hx with hx | hx
    · have := h.2 x hx; omega
    · simp at hx; omega

/-- Strictly rising integers are spread at least as far as they are many. -/
theorem spread : ∀ (S : List Int) (x clk : Int), (x :: S).Pairwise (· < ·) → (∀ y ∈ x :: S, y ≤ clk) → x + S.length ≤ clk
  | [], x, clk, _, h => by have := h x (by simp); simp; exact this
  | y :: r, x, clk, hp, h => by
    have hp2 := List.pairwise_cons.1 hp
    have := spread r y clk hp2.2 (fun z hz => h z (by simp only [List.mem_cons] at hz ⊢; exact .inr hz))
    have hxy := hp2.1 y (by simp)
    simp only [List.length_cons]
    omega

theorem len_good {clk : Int} {S : List Int} (h : Good clk S) (h0 : -1 ≤ clk) : (S.length : Int) ≤ clk + 1 := by
  cases S with
  | nil => simp; omega
  | cons x r =>
    have h1 := spread r x clk h.1 (fun y hy => (h.2 y hy).2)
    have h2 := (h.2 x (by simp)).1
    simp only [List.length_cons]
    omega

theorem len_pruned {lo clk : Int} {S : List Int} (h : Good clk S) (hp : Pruned lo clk S) (h0 : 0 ≤ lo) : (S.length : Int) ≤ lo + 1 := by
  match S, h, hp with
  | [], _, _ => simp; omega
  | [x], _, _ => simp; omega
  | x :: y :: r, h, hp =>
    have h1 := spread r y clk (List.pairwise_cons.1 h.1).2 (fun z hz => (h.2 z (by simp only [List.mem_cons] at hz ⊢; exact .inr hz)).2)
    have h2 := hp (by simp)
    simp at h2
    simp only [List.length_cons]
    omega

/-- What prune leaves of the runs. -/
def pruneL (lo hi clk : Int) : List Int → List Int
  | [] => []
  | x :: r => if (0 ≤ hi ∧ hi < clk - x) ∨ ∃ h : 0 < r.length, lo ≤ clk - r[0] then pruneL lo hi clk r else x :: r

theorem pruneL_suffix (lo hi clk : Int) : ∀ S : List Int, pruneL lo hi clk S <:+ S
  | [] => List.suffix_refl _
  | x :: r => by
    unfold pruneL
    split
    · exact (pruneL_suffix lo hi clk r).trans (List.suffix_cons x r)
    · exact List.suffix_refl _

theorem pruneL_pruned (lo hi clk : Int) : ∀ S : List Int, Pruned lo clk (pruneL lo hi clk S)
  | [] => pruned_nil _ _
  | x :: r => by
    unfold pruneL
    split
    · exact pruneL_pruned lo hi clk r
    · rename_i hn
      intro h
      have h1 : 0 < r.length := by simp at h; omega
      have h2 : ¬ lo ≤ clk - r[0] := fun hh => hn (.inr ⟨h1, hh⟩)
      simp
      omega

end Go.Proofs.Qxb6600955a
