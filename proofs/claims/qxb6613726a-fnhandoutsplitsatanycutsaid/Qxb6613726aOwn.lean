/- Plain laws: the model's table of owners. No walk in sight. -/
import Derived.Test.Qxb6613726aMatchT
namespace Go.Proofs.Qxb6613726a
open Plain
set_option linter.unusedVariables false

/-- The place j lies in the range of the n that begin at off. -/
abbrev InR (f : Nat → Nat) (off n j : Nat) : Prop := off ≤ f j ∧ f j < off + n

theorem ite_iff {p q : Prop} [Decidable p] [Decidable q] {x y : Int} (h : p ↔ q) : (if p then x else y) = if q then x else y := by
  by_cases hp : p
  · rw [if_pos hp, if_pos (h.1 hp)]
  · rw [if_neg hp, if_neg (fun hq => hp (h.2 hq))]

/-- The table while job i picks: the pass of class b has come to place j. -/
def ownAt (kj : Nat → Bool) (f : Nat → Nat) (ow : List Int) (i off n : Nat) (b : Bool) (j q : Nat) : Int :=
  if InR f off n q ∧ ((kj q = b ∧ q < j) ∨ (b = true ∧ kj q = false)) then (i : Int) + 1 else ow.getD q 0

variable {kj : Nat → Bool} {f : Nat → Nat} {ow : List Int} {i off n : Nat} {b : Bool} {j : Nat}

theorem ownAt_start (q : Nat) : ownAt kj f ow i off n false 0 q = ow.getD q 0 := by
  unfold ownAt
  rw [if_neg (by rintro ⟨_, h | h⟩; exact absurd h.2 (by omega); exact absurd h.1 (by decide))]
theorem ownAt_skip (h : kj j ≠ b ∨ ¬ InR f off n j) (q : Nat) : ownAt kj f ow i off n b (j + 1) q = ownAt kj f ow i off n b j q := by
  unfold ownAt
  by_cases e : q = j
  · subst e
    rcases h with h | h
    · have e1 : (InR f off n q ∧ ((kj q = b ∧ q < q + 1) ∨ (b = true ∧ kj q = false))) ↔ (InR f off n q ∧ ((kj q = b ∧ q < q) ∨ (b = true ∧ kj q = false))) := by
        constructor
        · rintro ⟨h1, h2 | h2⟩
          · exact absurd h2.1 h
          · exact ⟨h1, .inr h2⟩
        · rintro ⟨h1, h2 | h2⟩
          · exact absurd h2.1 h
          · exact ⟨h1, .inr h2⟩
      exact ite_iff e1
    · rw [if_neg (fun h2 => h h2.1), if_neg (fun h2 => h h2.1)]
  · have e1 : (q < j + 1) ↔ (q < j) := by omega
    simp only [e1]
theorem ownAt_take (h : kj j = b) (hi : InR f off n j) (q : Nat) : ownAt kj f ow i off n b (j + 1) q = if q = j then (i : Int) + 1 else ownAt kj f ow i off n b j q := by
  by_cases e : q = j
  · subst e
    rw [if_pos rfl]
    unfold ownAt
    rw [if_pos ⟨hi, .inl ⟨h, by omega⟩⟩]
  · rw [if_neg e]
    unfold ownAt
    have e1 : (q < j + 1) ↔ (q < j) := by omega
    simp only [e1]
theorem ownAt_self (h : kj j = b) : ownAt kj f ow i off n b j j = ow.getD j 0 := by
  unfold ownAt
  rw [if_neg]
  rintro ⟨_, h2 | h2⟩
  · omega
  · rw [h2.1] at h
    rw [h2.2] at h
    cases h
theorem ownAt_next {N : Nat} (h : ∀ q, j ≤ q → q < N → kj q = false → ¬ InR f off n q) (q : Nat) (hq : q < N) : ownAt kj f ow i off n true 0 q = ownAt kj f ow i off n false j q := by
  unfold ownAt
  have e1 : (InR f off n q ∧ ((kj q = true ∧ q < 0) ∨ (true = true ∧ kj q = false))) ↔ (InR f off n q ∧ ((kj q = false ∧ q < j) ∨ (false = true ∧ kj q = false))) := by
    constructor
    · rintro ⟨h1, h2 | h2⟩
      · omega
      · refine ⟨h1, .inl ⟨h2.2, ?_⟩⟩
        by_cases hl : q < j
        · exact hl
        · exact absurd h1 (h q (by omega) hq h2.2)
    · rintro ⟨h1, h2 | h2⟩
      · exact ⟨h1, .inr ⟨rfl, h2.1⟩⟩
      · exact absurd h2.1 (by decide)
  exact ite_iff e1
theorem ownAt_done {N : Nat} (h : ∀ q, j ≤ q → q < N → kj q = true → ¬ InR f off n q) (q : Nat) (hq : q < N) : ownAt kj f ow i off n true j q = if InR f off n q then (i : Int) + 1 else ow.getD q 0 := by
  unfold ownAt
  have e1 : (InR f off n q ∧ ((kj q = true ∧ q < j) ∨ (true = true ∧ kj q = false))) ↔ InR f off n q := by
    constructor
    · rintro ⟨h1, _⟩; exact h1
    · intro h1
      refine ⟨h1, ?_⟩
      cases hk : kj q
      · exact .inr ⟨rfl, rfl⟩
      · refine .inl ⟨rfl, ?_⟩
        by_cases hl : q < j
        · exact hl
        · exact absurd h1 (h q (by omega) hq hk)
  exact ite_iff e1

/-- The table when the first i jobs are through. -/
structure OwnTo (K : Int → Bool) (fs : List Int) (ns : List Nat) (i : Nat) (ow : List Int) : Prop where
  len : ow.length = fs.length
  low : ∀ j, j < fs.length → 0 ≤ ow.getD j 0 ∧ ow.getD j 0 ≤ (i : Int)
  free : ∀ j, j < fs.length → (ow.getD j 0 = 0 ↔ offTo fs.length ns i ≤ posK K fs j)
  mine : ∀ p j, p < i → j < fs.length → accB fs.length ns p = true → (ow.getD j 0 = (p : Int) + 1 ↔ InR (posK K fs) (offTo fs.length ns p) (ns.getD p 0) j)

theorem getD_replicate (N : Nat) (x : Int) (j : Nat) (h : j < N) : (List.replicate N x).getD j 0 = x := by
  rw [List.getD_eq_getElem?_getD, List.getElem?_replicate, if_pos h]
  rfl
theorem ownTo_start (K : Int → Bool) (fs : List Int) (ns : List Nat) : OwnTo K fs ns 0 (List.replicate fs.length 0) :=
  { len := by simp
    low := fun j hj => by rw [getD_replicate _ _ _ hj]; simp
    free := fun j hj => by rw [getD_replicate _ _ _ hj]; exact ⟨fun _ => Nat.zero_le _, fun _ => rfl⟩
    mine := fun p j h => absurd h (by omega) }
theorem OwnTo.no {K : Int → Bool} {fs : List Int} {ns : List Nat} {i : Nat} {ow : List Int} (h : OwnTo K fs ns i ow) (ha : accB fs.length ns i = false) : OwnTo K fs ns (i + 1) ow :=
  { len := h.len
    low := fun j hj => by have := h.low j hj; omega
    free := fun j hj => by rw [offTo_no ha]; exact h.free j hj
    mine := fun p j hp hj hpa => by
      by_cases e : p = i
      · subst e
        rw [ha] at hpa
        cases hpa
      · exact h.mine p j (by omega) hj hpa }
theorem offTo_mono' (N : Nat) (ns : List Nat) {i k : Nat} (h : i ≤ k) : offTo N ns i ≤ offTo N ns k := by
  induction k with
  | zero => obtain rfl : i = 0 := by omega
            exact Nat.le_refl _
  | succ k ih =>
    by_cases e : i = k + 1
    · rw [e]; exact Nat.le_refl _
    · exact Nat.le_trans (ih (by omega)) (offTo_mono N ns k)
theorem OwnTo.yes {K : Int → Bool} {fs : List Int} {ns : List Nat} {i : Nat} {ow ow' : List Int} (h : OwnTo K fs ns i ow) (ha : accB fs.length ns i = true) (hl : ow'.length = fs.length)
    (hw : ∀ j, j < fs.length → ow'.getD j 0 = if InR (posK K fs) (offTo fs.length ns i) (ns.getD i 0) j then (i : Int) + 1 else ow.getD j 0) : OwnTo K fs ns (i + 1) ow' :=
  { len := hl
    low := fun j hj => by
      have := h.low j hj
      rw [hw j hj]
      split <;> omega
    free := fun j hj => by
      have hf := h.free j hj
      have hb := h.low j hj
      rw [offTo_yes ha, hw j hj]
      by_cases hi : InR (posK K fs) (offTo fs.length ns i) (ns.getD i 0) j
      · rw [if_pos hi]
        unfold InR at hi
        omega
      · rw [if_neg hi, hf]
        unfold InR at hi
        omega
    mine := fun p j hp hj hpa => by
      have hb := h.low j hj
      rw [hw j hj]
      by_cases e : p = i
      · subst e
        by_cases hi : InR (posK K fs) (offTo fs.length ns p) (ns.getD p 0) j
        · rw [if_pos hi]; exact ⟨fun _ => hi, fun _ => rfl⟩
        · rw [if_neg hi]
          exact ⟨fun h2 => by omega, fun h2 => absurd h2 hi⟩
      · have hm := h.mine p j (by omega) hj hpa
        by_cases hi : InR (posK K fs) (offTo fs.length ns i) (ns.getD i 0) j
        · rw [if_pos hi]
          have h1 := offTo_yes hpa
          have h2 := offTo_mono' fs.length ns (show p + 1 ≤ i by omega)
          refine ⟨fun h3 => by omega, fun h3 => ?_⟩
          unfold InR at hi h3
          omega
        · rw [if_neg hi]; exact hm }
theorem OwnTo.owned {K : Int → Bool} {fs : List Int} {ns : List Nat} {ow : List Int} (h : OwnTo K fs ns ns.length ow) : Owned K fs ns ow :=
  ⟨h.len, fun i j hi hj ha => h.mine i j hi hj ha⟩

end Go.Proofs.Qxb6613726a
