/- What came in, as rows. -/
import Derived.Test.Qxb6613726aMem
namespace Go.Proofs.Qxb6613726a
open Go Go.RowKit
set_option linter.unusedVariables false

/-- A slice of numbers that came in: it is nil, or it leads to a row of 'cap' cells. -/
def IsRow (k : IntKind) (w : World) (a : Option Addr) (len cap : Nat) (zs : List Int) : Prop :=
  (a = none ∧ len = 0 ∧ cap = 0 ∧ zs = []) ∨
  ∃ x, a = some x ∧ len ≤ cap ∧ cap ≤ maxLen ∧ zs.length = cap ∧ (∀ i, i < zs.length → w.cell? (x.add i) = some (.int k (zs.getD i 0))) ∧ ∀ n ∈ zs, (Lit.int k n).wf = true

/-- Cells from an address on, as a row. -/
theorem rowAt_of {W : World} {a : Addr} {X : List Value} (hc : ∀ i u, X[i]? = some u → W.cell? (a.add i) = some u) : RowAt W (some a) X := by
  by_cases hX : X = []
  · exact .inl hX
  · obtain ⟨b, off, spot⟩ := a
    have hp : 0 < X.length := List.length_pos_iff.2 hX
    have h0 := hc 0 X[0] (List.getElem?_eq_getElem hp)
    have hspot : spot = none := by simpa [Addr.add] using World.cell?_spot h0
    subst hspot
    have h0' : W.cell? ⟨b, off + 0, none⟩ = some X[0] := by rw [← Go.WideShapes.add_plain]; exact h0
    refine .inr ⟨b, off, rfl, ?_, fun k u hu => by rw [← Go.WideShapes.add_plain]; exact hc k u hu⟩
    unfold World.cell? at h0'
    split at h0'
    · rename_i hb
      exact (Array.getElem?_eq_some_iff.1 hb).1
    · simp at h0'

theorem rowIn_of {w : World} {a : Option Addr} {len cap : Nat} {zs : List Int} (h : IsRow .i64 w a len cap zs) : (zs.take len).length = len ∧ len ≤ maxLen ∧ RowAt w a (cells (zs.take len)) := by
  rcases h with ⟨rfl, rfl, rfl, rfl⟩ | ⟨x, rfl, hl, hm, hz, hcell, _⟩
  · exact ⟨rfl, Nat.zero_le _, .inl rfl⟩
  · refine ⟨by simp; omega, Nat.le_trans hl hm, rowAt_of fun i u hu => ?_⟩
    have hi : i < len := by
      have := (List.getElem?_eq_some_iff.1 hu).1
      simp [cells] at this
      omega
    unfold cells at hu
    rw [List.getElem?_map, List.getElem?_take, if_pos hi] at hu
    rw [hcell i (by omega), ← hu, List.getD_eq_getElem?_getD, List.getElem?_eq_getElem (by omega)]
    rfl
end Go.Proofs.Qxb6613726a
