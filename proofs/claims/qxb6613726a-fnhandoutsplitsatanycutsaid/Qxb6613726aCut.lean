/- Plain laws of law 5: what the cut leaves is what the second hand-out gives. No Go in sight. -/
import Derived.Test.Qxb6613726aPick
namespace Go.Proofs.Qxb6613726a.Plain
set_option linter.unusedVariables false

theorem rising_pairwise {fs : List Int} (h : Rising fs) : fs.Pairwise (· < ·) := by
  rw [List.pairwise_iff_getElem]
  intro i j hi hj hij
  have := h i j hij hj
  rw [List.getD_eq_getElem?_getD, List.getD_eq_getElem?_getD, List.getElem?_eq_getElem hi, List.getElem?_eq_getElem hj] at this
  exact this
theorem rising_nodup {fs : List Int} (h : Rising fs) : fs.Nodup := by
  have h1 := rising_pairwise h
  unfold List.Nodup
  rw [List.pairwise_iff_getElem] at h1 ⊢
  intro i j hi hj hij e
  have := h1 i j hi hj hij
  omega
theorem order_perm (K : Int → Bool) (fs : List Int) : (order K fs).Perm fs := by
  unfold order
  exact List.perm_append_comm.trans (List.filter_append_perm K fs)
theorem order_nodup {K : Int → Bool} {fs : List Int} (h : Rising fs) : (order K fs).Nodup := (order_perm K fs).nodup_iff.2 (rising_nodup h)

theorem getD_take (ns : List Nat) {k i : Nat} (h : i < k) : (ns.take k).getD i 0 = ns.getD i 0 := by
  rw [List.getD_eq_getElem?_getD, List.getD_eq_getElem?_getD, List.getElem?_take, if_pos h]
theorem getD_drop (ns : List Nat) (k i : Nat) : (ns.drop k).getD i 0 = ns.getD (k + i) 0 := by
  rw [List.getD_eq_getElem?_getD, List.getD_eq_getElem?_getD, List.getElem?_drop]
theorem offTo_take (N : Nat) (ns : List Nat) (k : Nat) : ∀ i, i ≤ k → offTo N (ns.take k) i = offTo N ns i
  | 0, _ => rfl
  | i + 1, h => by
    show (if N - offTo N (ns.take k) i < (ns.take k).getD i 0 then _ else _) = _
    rw [offTo_take N ns k i (by omega), getD_take ns (by omega)]
    rfl
theorem setAt_take_eq (O : List Int) (ns : List Nat) {k i : Nat} (h : i < k) : setAt O (ns.take k) i = setAt O ns i := by
  unfold setAt accB segAt
  rw [offTo_take _ ns k i (by omega), getD_take ns h]
theorem offTo_drop (N : Nat) (ns : List Nat) (k : Nat) : ∀ i, offTo (N - offTo N ns k) (ns.drop k) i + offTo N ns k = offTo N ns (k + i)
  | 0 => by show 0 + _ = _; simp
  | i + 1 => by
    have ih := offTo_drop N ns k i
    have h1 := offTo_le N ns (k + i)
    show (if N - offTo N ns k - offTo (N - offTo N ns k) (ns.drop k) i < (ns.drop k).getD i 0 then _ else _) + _ = (if N - offTo N ns (k + i) < ns.getD (k + i) 0 then _ else _)
    rw [getD_drop]
    by_cases h : N - offTo N ns (k + i) < ns.getD (k + i) 0
    · rw [if_pos h, if_pos (by omega)]
      exact ih
    · rw [if_neg h, if_neg (by omega)]
      show _ = offTo N ns (k + i) + ns.getD (k + i) 0
      omega
theorem setAt_drop_eq (O : List Int) (ns : List Nat) (k i : Nat) : setAt (O.drop (offTo O.length ns k)) (ns.drop k) i = setAt O ns (k + i) := by
  have h := offTo_drop O.length ns k i
  unfold setAt accB segAt
  rw [List.length_drop, getD_drop, List.drop_drop]
  have e : O.length - offTo O.length ns k - offTo (O.length - offTo O.length ns k) (ns.drop k) i = O.length - offTo O.length ns (k + i) := by omega
  rw [e, show offTo O.length ns k + offTo (O.length - offTo O.length ns k) (ns.drop k) i = offTo O.length ns (k + i) from by omega]

/-- What is left of the free units. -/
def restOf (O fs : List Int) (f : Nat) : List Int := fs.filter (fun u => decide (u ∉ O.take f))
theorem order_filter (K : Int → Bool) (fs : List Int) (p : Int → Bool) : order K (fs.filter p) = (order K fs).filter p := by
  unfold order
  rw [List.filter_append, List.filter_filter, List.filter_filter, List.filter_filter, List.filter_filter]
  congr 1
  · exact List.filter_congr (fun a _ => Bool.and_comm _ _)
  · exact List.filter_congr (fun a _ => Bool.and_comm _ _)
theorem filter_notin_take {O : List Int} (h : O.Nodup) (f : Nat) : O.filter (fun u => decide (u ∉ O.take f)) = O.drop f := by
  have e : O = O.take f ++ O.drop f := (List.take_append_drop f O).symm
  have hd : ∀ a, a ∈ O.take f → a ∉ O.drop f := by
    rw [e, List.nodup_append] at h
    intro a h1 h2
    exact h.2.2 a h1 a h2 rfl
  have g : ∀ q : Int → Bool, O.filter q = (O.take f).filter q ++ (O.drop f).filter q := fun q => by
    rw [← List.filter_append, List.take_append_drop]
  rw [g, List.filter_eq_nil_iff.2 (fun a ha => by simp [ha]), List.filter_eq_self.2 (fun a ha => by simpa using fun h1 => hd a h1 ha), List.nil_append]
theorem order_rest {K : Int → Bool} {fs : List Int} (h : Rising fs) (f : Nat) : order K (restOf (order K fs) fs f) = (order K fs).drop f := by
  unfold restOf
  rw [order_filter]
  exact filter_notin_take (order_nodup h) f
theorem restOf_length_le (O fs : List Int) (f : Nat) : (restOf O fs f).length ≤ fs.length := List.length_filter_le _ _
/-- The second hand-out is the whole one's tail. -/
theorem second_is {K : Int → Bool} {fs : List Int} (h : Rising fs) (ns : List Nat) (k i : Nat) :
    setAt (order K (restOf (order K fs) fs (offTo fs.length ns k))) (ns.drop k) i = setAt (order K fs) ns (k + i) := by
  rw [order_rest h, ← order_length K fs]
  exact setAt_drop_eq _ ns k i

/-! ### one set -/
theorem setAt_some {O : List Int} {ns : List Nat} {i : Nat} {l : List Int} (h : setAt O ns i = some l) : accB O.length ns i = true ∧ l = srt (segAt O ns i) := by
  unfold setAt at h
  split at h
  · rename_i e
    exact ⟨e, (Option.some.inj h).symm⟩
  · cases h
theorem setAt_none {O : List Int} {ns : List Nat} {i : Nat} (h : setAt O ns i = none) : accB O.length ns i = false := by
  unfold setAt at h
  split at h
  · cases h
  · rename_i e
    exact Bool.eq_false_iff.2 e
/-- What is gone when the first a units of set l, job i's, are gone too. -/
def gone (O : List Int) (ns : List Nat) (i : Nat) (l : List Int) (a : Nat) (u : Int) : Bool := decide (u ∈ O.take (offTo O.length ns i)) || decide (u ∈ l.take a)
theorem seg_mem {O : List Int} {ns : List Nat} {i : Nat} {l : List Int} (h : setAt O ns i = some l) (u : Int) : u ∈ l ↔ u ∈ segAt O ns i := by
  rw [(setAt_some h).2]
  exact (srt_perm _).mem_iff
theorem set_length {O : List Int} {ns : List Nat} {i : Nat} {l : List Int} (h : setAt O ns i = some l) : l.length = ns.getD i 0 := by
  rw [(setAt_some h).2, srt_length, segAt_length (setAt_some h).1]
theorem set_le {O : List Int} {ns : List Nat} {i : Nat} {l : List Int} (h : setAt O ns i = some l) : l.length ≤ O.length := by
  rw [(setAt_some h).2, srt_length]
  unfold segAt
  rw [List.length_take, List.length_drop]
  omega
theorem set_nodup {O : List Int} {ns : List Nat} {i : Nat} {l : List Int} (ho : O.Nodup) (h : setAt O ns i = some l) : l.Nodup := by
  rw [(setAt_some h).2, (srt_perm _).nodup_iff]
  unfold segAt
  exact (ho.sublist (List.drop_sublist _ _)).sublist (List.take_sublist _ _)
theorem getD_mem {l : List Int} {a : Nat} (h : a < l.length) : l.getD a 0 ∈ l := by
  rw [List.getD_eq_getElem?_getD, List.getElem?_eq_getElem h]
  exact List.getElem_mem h
theorem set_rises {O : List Int} {ns : List Nat} {i : Nat} {l : List Int} (ho : O.Nodup) (h : setAt O ns i = some l) {a : Nat} (ha : a + 1 < l.length) : l.getD a 0 < l.getD (a + 1) 0 := by
  have hs : l.Pairwise (· ≤ ·) := by rw [(setAt_some h).2]; exact srt_sorted _
  have hn := set_nodup ho h
  rw [List.pairwise_iff_getElem] at hs
  unfold List.Nodup at hn
  rw [List.pairwise_iff_getElem] at hn
  have h1 := hs a (a + 1) (by omega) ha (by omega)
  have h2 := hn a (a + 1) (by omega) ha (by omega)
  rw [List.getD_eq_getElem?_getD, List.getD_eq_getElem?_getD, List.getElem?_eq_getElem (show a < l.length by omega), List.getElem?_eq_getElem ha]
  show l[a] < l[a + 1]
  omega
/-- A set's unit lies among the free ones, at a place. -/
theorem set_place {K : Int → Bool} {fs : List Int} {ns : List Nat} {i : Nat} {l : List Int} (h : setAt (order K fs) ns i = some l) {a : Nat} (ha : a < l.length) : ∃ j, j < fs.length ∧ fs.getD j 0 = l.getD a 0 := by
  have h1 : l.getD a 0 ∈ segAt (order K fs) ns i := (seg_mem h _).1 (getD_mem ha)
  have h2 : l.getD a 0 ∈ fs := (order_perm K fs).mem_iff.1 (List.mem_of_mem_drop (List.mem_of_mem_take h1))
  obtain ⟨j, hj, e⟩ := List.getElem_of_mem h2
  exact ⟨j, hj, by rw [List.getD_eq_getElem?_getD, List.getElem?_eq_getElem hj]; exact e⟩
theorem gone_fresh {O : List Int} {ns : List Nat} {i : Nat} {l : List Int} (ho : O.Nodup) (h : setAt O ns i = some l) {a : Nat} (ha : a < l.length) : gone O ns i l a (l.getD a 0) = false := by
  unfold gone
  rw [Bool.or_eq_false_iff, decide_eq_false_iff_not, decide_eq_false_iff_not]
  constructor
  · intro h1
    have h2 : l.getD a 0 ∈ O.drop (offTo O.length ns i) := List.mem_of_mem_take ((seg_mem h _).1 (getD_mem ha))
    have e : O = O.take (offTo O.length ns i) ++ O.drop (offTo O.length ns i) := (List.take_append_drop _ O).symm
    rw [e, List.nodup_append] at ho
    exact ho.2.2 _ h1 _ h2 rfl
  · intro h1
    obtain ⟨q, hq, e⟩ := List.getElem_of_mem h1
    have hq' : q < a := by simp at hq; omega
    have hn := set_nodup ho h
    unfold List.Nodup at hn
    rw [List.pairwise_iff_getElem] at hn
    have h2 := hn q a (by omega) ha hq'
    rw [List.getElem_take, List.getD_eq_getElem?_getD, List.getElem?_eq_getElem ha] at e
    exact h2 e
theorem gone_step {O : List Int} {ns : List Nat} {i : Nat} {l : List Int} {a : Nat} (ha : a < l.length) (u : Int) : gone O ns i l (a + 1) u = (gone O ns i l a u || decide (u = l.getD a 0)) := by
  unfold gone
  rw [List.take_succ_eq_append_getElem ha, List.getD_eq_getElem?_getD, List.getElem?_eq_getElem ha, Bool.or_assoc]
  congr 1
  simp only [List.mem_append, List.mem_singleton, Option.getD_some, Bool.decide_or]
theorem gone_zero (O : List Int) (ns : List Nat) (i : Nat) (l : List Int) (u : Int) : gone O ns i l 0 u = decide (u ∈ O.take (offTo O.length ns i)) := by
  unfold gone
  simp
theorem gone_done {O : List Int} {ns : List Nat} {i : Nat} {l : List Int} (h : setAt O ns i = some l) (u : Int) : gone O ns i l l.length u = decide (u ∈ O.take (offTo O.length ns (i + 1))) := by
  unfold gone
  rw [List.take_length, offTo_yes (setAt_some h).1, ← Bool.decide_or]
  congr 1
  rw [seg_mem h, List.take_add, List.mem_append]
  rfl
theorem gone_no {O : List Int} {ns : List Nat} {i : Nat} (h : setAt O ns i = none) (u : Int) : decide (u ∈ O.take (offTo O.length ns i)) = decide (u ∈ O.take (offTo O.length ns (i + 1))) := by
  rw [offTo_no (setAt_none h)]
/-- The rest, gathered over the first j units. -/
def restTo (O fs : List Int) (f j : Nat) : List Int := (fs.take j).filter (fun u => decide (u ∉ O.take f))
theorem restTo_all (O fs : List Int) (f : Nat) : restTo O fs f fs.length = restOf O fs f := by
  unfold restTo restOf
  rw [List.take_length]
theorem restTo_yes {O fs : List Int} {f j : Nat} (hj : j < fs.length) (h : fs.getD j 0 ∉ O.take f) : restTo O fs f (j + 1) = restTo O fs f j ++ [fs.getD j 0] := by
  unfold restTo
  rw [take_snoc hj, List.filter_append]
  generalize fs.getD j 0 = x at h ⊢
  simp [h]
theorem restTo_no {O fs : List Int} {f j : Nat} (hj : j < fs.length) (h : fs.getD j 0 ∈ O.take f) : restTo O fs f (j + 1) = restTo O fs f j := by
  unfold restTo
  rw [take_snoc hj, List.filter_append]
  generalize fs.getD j 0 = x at h ⊢
  simp [h]
theorem restTo_le (O fs : List Int) (f j : Nat) : (restTo O fs f j).length ≤ j := by
  unfold restTo
  have h1 := List.length_filter_le (fun u => decide (u ∉ O.take f)) (fs.take j)
  have h2 := List.length_take_le j fs
  omega
theorem first_none (N : Nat) (ns : List Nat) : accB N ns 0 = decide (ns.getD 0 0 ≤ N) := rfl

end Go.Proofs.Qxb6613726a.Plain
