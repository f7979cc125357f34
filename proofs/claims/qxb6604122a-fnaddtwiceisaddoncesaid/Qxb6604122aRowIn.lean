/-
  What the rows' frames tell of a slice of integers that came in, and what the walks ask of it.
-/
import Derived.Test.Qxb6604122aCalls
import Derived.OpenShut
namespace Go.Proofs.Qxb6604122a
open Go.RowKit
set_option linter.unusedVariables false

/-- WHAT THE WALK IS TOLD OF A SLICE OF INTEGERS THAT CAME IN: it is nil; or it leads to a row of 'cap' cells, the numbers 'zs' (the first 'len' are its elements, the rest its spare room), each fitting its kind. -/
def IsRow (k : IntKind) (w : World) (a : Option Addr) (len cap : Nat) (zs : List Int) : Prop :=
  (a = none ∧ len = 0 ∧ cap = 0 ∧ zs = []) ∨
  ∃ x, a = some x ∧ len ≤ cap ∧ cap ≤ maxLen ∧ zs.length = cap ∧ (∀ i, i < zs.length → w.cell? (x.add i) = some (.int k (zs.getD i 0))) ∧ ∀ n ∈ zs, (Lit.int k n).wf = true

theorem row_rd {w : World} {a : Option Addr} {len cap : Nat} {zs : List Int} (h : IsRow .u64 w a len cap zs) : ∃ xs : List Int, xs.length = len ∧ len ≤ maxLen ∧ Rd w a xs := by
  rcases h with ⟨rfl, rfl, rfl, rfl⟩ | ⟨x, rfl, hl, hm, hz, hc, _⟩
  · exact ⟨[], rfl, Nat.zero_le _, fun h0 => by simp at h0⟩
  · refine ⟨zs.take len, by simp; omega, by omega, fun h0 => ?_⟩
    have h1 : 0 < zs.length := by simp at h0; omega
    obtain ⟨b, off, rfl, hc2⟩ := ints_at hc h1
    have e0 := hc2 0 h1
    refine ⟨b, off, rfl, World.block_lt_of_cell? w _ e0, fun i hi => ?_⟩
    have h2 : i < len ∧ i < zs.length := by simp at hi; omega
    rw [hc2 i h2.2]
    simp [h2.1]

end Go.Proofs.Qxb6604122a
