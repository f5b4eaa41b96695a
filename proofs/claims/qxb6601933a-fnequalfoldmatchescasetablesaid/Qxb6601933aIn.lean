/-
  A SLICE OF BYTES THAT CAME IN, in the walks' words.
-/
import Derived.Test.Qxb6601933aRow
import Derived.OpenShut
namespace Go.Proofs.Qxb6601933a
open Go.RowKit Plain

/-- WHAT THE WALK IS TOLD OF A SLICE OF INTEGERS THAT CAME IN: it is nil; or it leads to a row of 'cap' cells, the numbers 'zs' (the first 'len' are its elements, the rest its spare room), each fitting its kind. -/
def IsRow (k : IntKind) (w : World) (a : Option Addr) (len cap : Nat) (zs : List Int) : Prop :=
  (a = none ∧ len = 0 ∧ cap = 0 ∧ zs = []) ∨
  ∃ x, a = some x ∧ len ≤ cap ∧ cap ≤ maxLen ∧ zs.length = cap ∧ (∀ i, i < zs.length → w.cell? (x.add i) = some (.int k (zs.getD i 0))) ∧ ∀ n ∈ zs, (Lit.int k n).wf = true

theorem IsRow.bytes {w : World} {a : Option Addr} {len cap : Nat} {zs : List Int} (h : IsRow .u8 w a len cap zs) :
    (a = none ∧ len = 0 ∧ cap = 0) ∨ ∃ x f, a = some x ∧ Bytes w (some x) len f ∧ ∀ i, i < len → 0 ≤ f i ∧ f i ≤ 255 := by
  rcases h with ⟨h1, h2, h3, _⟩ | ⟨x, rfl, h2, h3, h4, h5, h6⟩
  · exact .inl ⟨h1, h2, h3⟩
  · refine .inr ⟨x, fun i => zs.getD i 0, rfl, ?_, ?_⟩
    · by_cases h0 : len = 0
      · exact .inl h0
      · obtain ⟨b, off, spot⟩ := x
        have hspot : spot = none := by simpa [Addr.add] using World.cell?_spot (h5 0 (by omega))
        subst hspot
        exact .inr ⟨b, off, rfl, fun i hi => by have := h5 i (by omega); rwa [Addr.add_lit] at this⟩
    · intro i hi
      have hm : zs.getD i 0 ∈ zs := by
        have : i < zs.length := by omega
        simp [this]
      exact bounds_u8 (h6 _ hm)
end Go.Proofs.Qxb6601933a
