/- Plain laws: the order in which units are handed out, and the segments that the jobs take. No Go in sight. -/
namespace Go.Proofs.Qxb6613726a.Plain
set_option linter.unusedVariables false

/-- Sorted. -/
def srt (l : List Int) : List Int := l.mergeSort (fun x y => decide (x ≤ y))

theorem srt_perm (l : List Int) : (srt l).Perm l := List.mergeSort_perm l _
theorem srt_length (l : List Int) : (srt l).length = l.length := (srt_perm l).length_eq
theorem srt_sorted (l : List Int) : (srt l).Pairwise (· ≤ ·) := by
  have h := List.pairwise_mergeSort (le := fun x y : Int => decide (x ≤ y)) (fun a b c h1 h2 => by simp at *; omega) (fun a b => by simp; omega) l
  simpa [srt] using h

/-! ### the order of picking -/
def unk (K : Int → Bool) (fs : List Int) (k : Nat) : List Int := (fs.take k).filter (fun u => !K u)
def kep (K : Int → Bool) (fs : List Int) (k : Nat) : List Int := (fs.take k).filter K
/-- The units in the order in which they are handed out. -/
def order (K : Int → Bool) (fs : List Int) : List Int := fs.filter (fun u => !K u) ++ fs.filter K

theorem unk_all (K : Int → Bool) (fs : List Int) : unk K fs fs.length = fs.filter (fun u => !K u) := by simp [unk]
theorem kep_all (K : Int → Bool) (fs : List Int) : kep K fs fs.length = fs.filter K := by simp [kep]
theorem part_length (K : Int → Bool) (fs : List Int) : (fs.filter (fun u => !K u)).length + (fs.filter K).length = fs.length := by
  induction fs with
  | nil => rfl
  | cons a t ih =>
    cases h : K a <;> simp [h] <;> omega
theorem order_length (K : Int → Bool) (fs : List Int) : (order K fs).length = fs.length := by
  unfold order
  rw [List.length_append]
  exact part_length K fs

theorem take_snoc {fs : List Int} {k : Nat} (h : k < fs.length) : fs.take (k + 1) = fs.take k ++ [fs.getD k 0] := by
  rw [List.take_succ_eq_append_getElem h, List.getD_eq_getElem?_getD, List.getElem?_eq_getElem h]
  rfl
theorem unk_succ {K : Int → Bool} {fs : List Int} {k : Nat} (h : k < fs.length) : unk K fs (k + 1) = if K (fs.getD k 0) then unk K fs k else unk K fs k ++ [fs.getD k 0] := by
  unfold unk
  rw [take_snoc h, List.filter_append]
  generalize fs.getD k 0 = f
  cases hk : K f <;> simp [hk]
theorem kep_succ {K : Int → Bool} {fs : List Int} {k : Nat} (h : k < fs.length) : kep K fs (k + 1) = if K (fs.getD k 0) then kep K fs k ++ [fs.getD k 0] else kep K fs k := by
  unfold kep
  rw [take_snoc h, List.filter_append]
  generalize fs.getD k 0 = f
  cases hk : K f <;> simp [hk]
theorem unk_le (K : Int → Bool) (fs : List Int) (k : Nat) : (unk K fs k).length ≤ k := by
  unfold unk
  have h1 := List.length_filter_le (fun u => !K u) (fs.take k)
  have h2 := List.length_take_le k fs
  omega
theorem kep_mono (K : Int → Bool) (fs : List Int) (k : Nat) : (kep K fs k).length ≤ (fs.filter K).length := by
  have h : (kep K fs k).Sublist (fs.filter K) := (List.take_sublist k fs).filter K
  exact h.length_le

/-- Gathered so far, in the first pass; in the second. -/
def passA (K : Int → Bool) (fs : List Int) (s k : Nat) : List Int := (unk K fs k).take s
def passB (K : Int → Bool) (fs : List Int) (s k : Nat) : List Int := (fs.filter (fun u => !K u) ++ kep K fs k).take s

theorem passA_zero (K : Int → Bool) (fs : List Int) (s : Nat) : passA K fs s 0 = [] := by simp [passA, unk]
theorem passA_all (K : Int → Bool) (fs : List Int) (s : Nat) : passA K fs s fs.length = passB K fs s 0 := by simp [passA, passB, unk_all, kep]
theorem passB_all (K : Int → Bool) (fs : List Int) (s : Nat) : passB K fs s fs.length = (order K fs).take s := by simp [passB, kep_all, order]
theorem passA_le (K : Int → Bool) (fs : List Int) (s k : Nat) : (passA K fs s k).length ≤ s := by simp [passA]; omega
theorem passB_le (K : Int → Bool) (fs : List Int) (s k : Nat) : (passB K fs s k).length ≤ s := by simp [passB]; omega

/-- The first pass is full: nothing more comes. -/
theorem passA_full {K : Int → Bool} {fs : List Int} {s k : Nat} (hk : k ≤ fs.length) (h : (passA K fs s k).length = s) : passA K fs s fs.length = passA K fs s k := by
  have hp : (unk K fs k) <+: (unk K fs fs.length) := by
    unfold unk
    have : fs.take fs.length = fs.take k ++ fs.drop k := by simp
    rw [this, List.filter_append]
    exact List.prefix_append _ _
  obtain ⟨t, ht⟩ := hp
  unfold passA at h ⊢
  rw [← ht, List.take_append_of_le_length (by simp at h; omega)]
theorem passB_full {K : Int → Bool} {fs : List Int} {s k : Nat} (hk : k ≤ fs.length) (h : (passB K fs s k).length = s) : passB K fs s fs.length = passB K fs s k := by
  have hp : (kep K fs k) <+: (kep K fs fs.length) := by
    unfold kep
    have : fs.take fs.length = fs.take k ++ fs.drop k := by simp
    rw [this, List.filter_append]
    exact List.prefix_append _ _
  obtain ⟨t, ht⟩ := hp
  unfold passB at h ⊢
  rw [← ht, ← List.append_assoc, List.take_append_of_le_length (by simp at h; simp; omega)]
theorem passA_skip {K : Int → Bool} {fs : List Int} {s k : Nat} (hk : k < fs.length) (hK : K (fs.getD k 0) = true) : passA K fs s (k + 1) = passA K fs s k := by
  unfold passA
  rw [unk_succ hk, if_pos hK]
theorem passA_add {K : Int → Bool} {fs : List Int} {s k : Nat} (hk : k < fs.length) (h : (passA K fs s k).length ≠ s) (hK : K (fs.getD k 0) = false) : passA K fs s (k + 1) = passA K fs s k ++ [fs.getD k 0] := by
  unfold passA at h ⊢
  have hl : (unk K fs k).length < s := by simp at h; omega
  rw [unk_succ hk, if_neg (by rw [hK]; decide), List.take_of_length_le (by simp; omega), List.take_of_length_le (by omega)]
theorem passA_room {K : Int → Bool} {fs : List Int} {s k : Nat} (hk : k < fs.length) (h : (passA K fs s k).length ≠ s) : (passA K fs s k).length < min s fs.length := by
  unfold passA at h ⊢
  have := unk_le K fs k
  simp at h ⊢
  omega
theorem passB_skip {K : Int → Bool} {fs : List Int} {s k : Nat} (hk : k < fs.length) (hK : K (fs.getD k 0) = false) : passB K fs s (k + 1) = passB K fs s k := by
  unfold passB
  rw [kep_succ hk, if_neg (by rw [hK]; decide)]
theorem passB_add {K : Int → Bool} {fs : List Int} {s k : Nat} (hk : k < fs.length) (h : (passB K fs s k).length ≠ s) (hK : K (fs.getD k 0) = true) : passB K fs s (k + 1) = passB K fs s k ++ [fs.getD k 0] := by
  unfold passB at h ⊢
  have hl : (fs.filter (fun u => !K u) ++ kep K fs k).length < s := by simp at h ⊢; omega
  rw [kep_succ hk, if_pos hK, ← List.append_assoc, List.take_of_length_le (by rw [List.length_append]; simp; simp at hl; omega), List.take_of_length_le (by omega)]
theorem passB_room {K : Int → Bool} {fs : List Int} {s k : Nat} (hk : k < fs.length) (h : (passB K fs s k).length ≠ s) (hK : K (fs.getD k 0) = true) : (passB K fs s k).length < min s fs.length := by
  have h1 := kep_mono K fs (k + 1)
  rw [kep_succ hk, if_pos hK] at h1
  have h2 := part_length K fs
  unfold passB at h ⊢
  simp at h h1 ⊢
  omega
/-- Nobody is kept: the first pass is all. -/
theorem passB_none {fs : List Int} {s k : Nat} : passB (fun _ => false) fs s k = passB (fun _ => false) fs s 0 := by
  have e : ∀ j, kep (fun _ => false) fs j = [] := fun j => List.filter_eq_nil_iff.2 (fun a _ h => by cases h)
  unfold passB
  rw [e, e]

/-! ### the segments -/
/-- How many units the first i jobs take, of N. -/
def offTo (N : Nat) (ns : List Nat) : Nat → Nat
  | 0 => 0
  | i + 1 => if N - offTo N ns i < ns.getD i 0 then offTo N ns i else offTo N ns i + ns.getD i 0
def accB (N : Nat) (ns : List Nat) (i : Nat) : Bool := decide (ns.getD i 0 ≤ N - offTo N ns i)
def segAt (O : List Int) (ns : List Nat) (i : Nat) : List Int := (O.drop (offTo O.length ns i)).take (ns.getD i 0)
def setAt (O : List Int) (ns : List Nat) (i : Nat) : Option (List Int) := if accB O.length ns i then some (srt (segAt O ns i)) else none

theorem offTo_yes {N : Nat} {ns : List Nat} {i : Nat} (h : accB N ns i = true) : offTo N ns (i + 1) = offTo N ns i + ns.getD i 0 := by
  unfold accB at h
  rw [decide_eq_true_iff] at h
  show (if N - offTo N ns i < ns.getD i 0 then _ else _) = _
  rw [if_neg (by omega)]
theorem offTo_no {N : Nat} {ns : List Nat} {i : Nat} (h : accB N ns i = false) : offTo N ns (i + 1) = offTo N ns i := by
  unfold accB at h
  rw [decide_eq_false_iff_not] at h
  show (if N - offTo N ns i < ns.getD i 0 then _ else _) = _
  rw [if_pos (by omega)]
theorem offTo_le (N : Nat) (ns : List Nat) : ∀ i, offTo N ns i ≤ N
  | 0 => Nat.zero_le _
  | i + 1 => by
    have ih := offTo_le N ns i
    cases h : accB N ns i
    · rw [offTo_no h]; exact ih
    · rw [offTo_yes h]
      unfold accB at h
      rw [decide_eq_true_iff] at h
      omega
theorem offTo_mono (N : Nat) (ns : List Nat) (i : Nat) : offTo N ns i ≤ offTo N ns (i + 1) := by
  cases h : accB N ns i
  · rw [offTo_no h]; omega
  · rw [offTo_yes h]; omega
theorem segAt_length {O : List Int} {ns : List Nat} {i : Nat} (h : accB O.length ns i = true) : (segAt O ns i).length = ns.getD i 0 := by
  unfold accB at h
  rw [decide_eq_true_iff] at h
  unfold segAt
  rw [List.length_take, List.length_drop]
  omega

theorem sum_take_succ {ns : List Nat} {i : Nat} (h : i < ns.length) : (ns.take (i + 1)).sum = (ns.take i).sum + ns.getD i 0 := by
  rw [List.take_succ_eq_append_getElem h, List.sum_append, List.getD_eq_getElem?_getD, List.getElem?_eq_getElem h]
  simp
theorem sum_take_le (ns : List Nat) (i : Nat) : (ns.take i).sum ≤ ns.sum := by
  have h : ns.sum = (ns.take i).sum + (ns.drop i).sum := by rw [← List.sum_append, List.take_append_drop]
  omega
theorem offTo_sum (N : Nat) (ns : List Nat) : ∀ i, i ≤ ns.length → offTo N ns i ≤ (ns.take i).sum
  | 0, _ => Nat.zero_le _
  | i + 1, h => by
    have ih := offTo_sum N ns i (by omega)
    rw [sum_take_succ (by omega)]
    cases h : accB N ns i
    · rw [offTo_no h]; omega
    · rw [offTo_yes h]; omega
theorem fits {N : Nat} {ns : List Nat} {i : Nat} (h : i < ns.length) : ns.getD i 0 ≤ ns.sum - offTo N ns i := by
  have h1 := offTo_sum N ns i (by omega)
  have h2 := sum_take_le ns (i + 1)
  rw [sum_take_succ h] at h2
  omega

/-- That no more units are gathered than are wanted changes nothing. -/
theorem offTo_min (N : Nat) (ns : List Nat) : ∀ i, i ≤ ns.length → offTo (min ns.sum N) ns i = offTo N ns i
  | 0, _ => rfl
  | i + 1, h => by
    have ih := offTo_min N ns i (by omega)
    have hf := fits (N := N) (ns := ns) (i := i) (by omega)
    show (if min ns.sum N - offTo (min ns.sum N) ns i < ns.getD i 0 then _ else _) = (if N - offTo N ns i < ns.getD i 0 then _ else _)
    rw [ih]
    by_cases hc : N - offTo N ns i < ns.getD i 0
    · rw [if_pos hc, if_pos (by omega)]
    · rw [if_neg hc, if_neg (by omega)]
theorem setAt_take (O : List Int) (ns : List Nat) (i : Nat) (h : i < ns.length) : setAt (O.take ns.sum) ns i = setAt O ns i := by
  have e : (O.take ns.sum).length = min ns.sum O.length := List.length_take
  have hf := fits (N := O.length) (ns := ns) (i := i) h
  have ho := offTo_min O.length ns i (by omega)
  have hacc : accB (O.take ns.sum).length ns i = accB O.length ns i := by
    unfold accB
    rw [e, ho, decide_eq_decide]
    omega
  unfold setAt segAt
  rw [hacc, e, ho]
  cases hb : accB O.length ns i
  · rfl
  · rw [List.drop_take, List.take_take, Nat.min_eq_left hf]

end Go.Proofs.Qxb6613726a.Plain
