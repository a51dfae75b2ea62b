/- Plain laws: the places that the jobs pick. No Go in sight. -/
import Derived.Test.Qxb6613726aPlain
namespace Go.Proofs.Qxb6613726a.Plain
set_option linter.unusedVariables false

/-- How many places ahead of j are of class b. -/
def cn (kj : Nat → Bool) (b : Bool) (j : Nat) : Nat := ((List.range j).filter (fun i => kj i == b)).length
/-- The place of j in the order of picking. -/
def pos (N : Nat) (kj : Nat → Bool) (j : Nat) : Nat := if kj j then cn kj false N + cn kj true j else cn kj false j

theorem cn_succ (kj : Nat → Bool) (b : Bool) (j : Nat) : cn kj b (j + 1) = cn kj b j + if kj j == b then 1 else 0 := by
  unfold cn
  rw [List.range_succ, List.filter_append, List.length_append]
  cases h : (kj j == b) <;> simp [h]
theorem cn_mono (kj : Nat → Bool) (b : Bool) {i j : Nat} (h : i ≤ j) : cn kj b i ≤ cn kj b j := by
  induction j with
  | zero => obtain rfl : i = 0 := by omega
            exact Nat.le_refl _
  | succ j ih =>
    by_cases e : i = j + 1
    · rw [e]; exact Nat.le_refl _
    · have := ih (by omega)
      rw [cn_succ]
      omega

/-- Where class b begins in the order. -/
def base (N : Nat) (kj : Nat → Bool) (b : Bool) : Nat := if b then cn kj false N else 0
theorem pos_class {N : Nat} {kj : Nat → Bool} {b : Bool} {j : Nat} (h : kj j = b) : pos N kj j = base N kj b + cn kj b j := by
  subst h
  unfold pos base
  cases kj j <;> simp

/-- How many the job has picked when the pass of class b has come to place j. -/
def picked (N : Nat) (kj : Nat → Bool) (b : Bool) (off n j : Nat) : Nat := min n (base N kj b - off) + (cn kj b j - (off - base N kj b))

theorem picked_zero (N : Nat) (kj : Nat → Bool) (b : Bool) (off n : Nat) : picked N kj b off n 0 = min n (base N kj b - off) := by
  unfold picked cn
  simp
theorem picked_other {N : Nat} {kj : Nat → Bool} {b : Bool} {off n j : Nat} (h : kj j ≠ b) : picked N kj b off n (j + 1) = picked N kj b off n j := by
  unfold picked
  rw [cn_succ, if_neg (by simpa using h)]
  rfl
theorem picked_gone {N : Nat} {kj : Nat → Bool} {b : Bool} {off n j : Nat} (h : kj j = b) (hp : pos N kj j < off) : picked N kj b off n (j + 1) = picked N kj b off n j := by
  rw [pos_class h] at hp
  unfold picked
  rw [cn_succ, if_pos (by simpa using h)]
  omega
theorem picked_take {N : Nat} {kj : Nat → Bool} {b : Bool} {off n j : Nat} (h : kj j = b) (hp : off ≤ pos N kj j) (hlt : picked N kj b off n j < n) : picked N kj b off n (j + 1) = picked N kj b off n j + 1 ∧ pos N kj j < off + n := by
  rw [pos_class h] at hp ⊢
  unfold picked at hlt ⊢
  rw [cn_succ, if_pos (by simpa using h)]
  omega
/-- All is picked: what is left of the class comes later. -/
theorem picked_full {N : Nat} {kj : Nat → Bool} {b : Bool} {off n j i : Nat} (hn : picked N kj b off n j = n) (hij : j ≤ i) (h : kj i = b) : ¬ (off ≤ pos N kj i ∧ pos N kj i < off + n) := by
  have := cn_mono kj b hij
  rw [pos_class h]
  unfold picked at hn
  omega
theorem picked_next {N : Nat} {kj : Nat → Bool} {off n j : Nat} (hj : j ≤ N) (h : picked N kj false off n j = n ∨ (j = N ∧ picked N kj false off n j ≤ n)) : picked N kj false off n j = picked N kj true off n 0 := by
  have hb : base N kj true = cn kj false N := rfl
  have h0 : base N kj false = 0 := rfl
  have hm := cn_mono kj false hj
  rw [picked_zero]
  unfold picked at h ⊢
  rw [h0] at h ⊢
  rw [hb]
  rcases h with h | ⟨rfl, h⟩ <;> omega

/-! ### the order, by places -/
def places (N : Nat) (kj : Nat → Bool) : List Nat := (List.range N).filter (fun j => !kj j) ++ (List.range N).filter kj
theorem places_perm (N : Nat) (kj : Nat → Bool) : (places N kj).Perm (List.range N) := by
  unfold places
  exact (List.perm_append_comm).trans (List.filter_append_perm kj (List.range N))

theorem filter_getD (fs : List Int) (p : Int → Bool) : fs.filter p = ((List.range fs.length).filter (fun j => p (fs.getD j 0))).map (fun j => fs.getD j 0) := by
  have h : fs = (List.range fs.length).map (fun j => fs.getD j 0) := by
    apply List.ext_getElem?
    intro i
    by_cases hi : i < fs.length
    · have e : fs.getD i 0 = fs[i] := by
        rw [List.getD_eq_getElem?_getD, List.getElem?_eq_getElem hi]
        rfl
      rw [List.getElem?_map, List.getElem?_range hi, List.getElem?_eq_getElem hi, ← e]
      rfl
    · rw [List.getElem?_eq_none (by omega), List.getElem?_eq_none (by simp; omega)]
  conv => lhs; rw [h]
  rw [List.filter_map]
  rfl
theorem order_places (K : Int → Bool) (fs : List Int) : order K fs = (places fs.length (fun j => K (fs.getD j 0))).map (fun j => fs.getD j 0) := by
  unfold order places
  rw [List.map_append, filter_getD fs K, filter_getD fs (fun u => !K u)]

theorem getD_append_left {l r : List Nat} {q : Nat} (h : q < l.length) : (l ++ r).getD q 0 = l.getD q 0 := by
  rw [List.getD_eq_getElem?_getD, List.getD_eq_getElem?_getD, List.getElem?_append_left h]
theorem getD_append_right {l r : List Nat} {q : Nat} (h : l.length ≤ q) : (l ++ r).getD q 0 = r.getD (q - l.length) 0 := by
  rw [List.getD_eq_getElem?_getD, List.getD_eq_getElem?_getD, List.getElem?_append_right h]

/-- The q-th place of class b has q of its class ahead of it. -/
theorem cn_at (kj : Nat → Bool) (b : Bool) : ∀ (N q : Nat), q < cn kj b N → kj (((List.range N).filter (fun i => kj i == b)).getD q 0) = b ∧ cn kj b (((List.range N).filter (fun i => kj i == b)).getD q 0) = q
  | 0, q, h => by simp [cn] at h
  | N + 1, q, h => by
    have ih := cn_at kj b N q
    have hl : ((List.range N).filter (fun i => kj i == b)).length = cn kj b N := rfl
    rw [List.range_succ, List.filter_append]
    by_cases hq : q < cn kj b N
    · rw [getD_append_left (by rw [hl]; exact hq)]
      exact ih hq
    · rw [cn_succ] at h
      by_cases hk : (kj N == b) = true
      · rw [if_pos hk] at h
        obtain rfl : q = cn kj b N := by omega
        rw [getD_append_right (by rw [hl]; exact Nat.le_refl _), hl, Nat.sub_self]
        have e : List.filter (fun i => kj i == b) [N] = [N] := by rw [List.filter_cons, if_pos hk]; rfl
        rw [e]
        exact ⟨eq_of_beq hk, rfl⟩
      · rw [if_neg hk] at h
        omega

theorem filt_false (kj : Nat → Bool) (N : Nat) : (List.range N).filter (fun j => !kj j) = (List.range N).filter (fun i => kj i == false) := by
  apply List.filter_congr
  intro x _
  cases kj x <;> rfl
theorem filt_true (kj : Nat → Bool) (N : Nat) : (List.range N).filter kj = (List.range N).filter (fun i => kj i == true) := by
  apply List.filter_congr
  intro x _
  cases kj x <;> rfl

/-- The q-th of the order has place q. -/
theorem pos_places (N : Nat) (kj : Nat → Bool) (q : Nat) (h : q < N) : pos N kj ((places N kj).getD q 0) = q := by
  have hlen : (places N kj).length = N := by rw [(places_perm N kj).length_eq, List.length_range]
  unfold places at hlen ⊢
  rw [filt_false kj N, filt_true kj N] at *
  have hf : ((List.range N).filter (fun i => kj i == false)).length = cn kj false N := rfl
  have ht : ((List.range N).filter (fun i => kj i == true)).length = cn kj true N := rfl
  rw [List.length_append, hf, ht] at hlen
  by_cases hq : q < cn kj false N
  · rw [getD_append_left (by rw [hf]; exact hq)]
    obtain ⟨h1, h2⟩ := cn_at kj false N q hq
    rw [pos_class h1, h2]
    show 0 + q = q
    omega
  · rw [getD_append_right (by rw [hf]; omega), hf]
    obtain ⟨h1, h2⟩ := cn_at kj true N (q - cn kj false N) (by omega)
    rw [pos_class h1, h2]
    show cn kj false N + (q - cn kj false N) = q
    omega

/-- What lies in a range of places, cut out of the order. -/
theorem filter_range (f : Nat → Nat) (a b : Nat) : ∀ (P : List Nat) (s : Nat), (∀ q, q < P.length → f (P.getD q 0) = s + q) → P.filter (fun j => decide (a ≤ f j ∧ f j < b)) = (P.drop (a - s)).take (b - max a s)
  | [], s, _ => by simp
  | x :: t, s, h => by
    have hx : f x = s := by have := h 0 (by simp); simpa using this
    have ih := filter_range f a b t (s + 1) (fun q hq => by have := h (q + 1) (by simp; omega); simp at this; simp; omega)
    rw [List.filter_cons, ih, hx]
    by_cases h1 : a ≤ s
    · have e1 : a - s = 0 := by omega
      have e2 : a - (s + 1) = 0 := by omega
      have e3 : max a s = s := by omega
      have e4 : max a (s + 1) = s + 1 := by omega
      rw [e1, e2, e3, e4, List.drop_zero, List.drop_zero]
      by_cases h2 : s < b
      · rw [if_pos (by simp; omega), show b - s = (b - (s + 1)) + 1 from by omega, List.take_succ_cons]
      · rw [if_neg (by simp; omega), show b - s = 0 from by omega, show b - (s + 1) = 0 from by omega]
        simp
    · have e1 : a - s = (a - (s + 1)) + 1 := by omega
      have e3 : max a s = a := by omega
      have e4 : max a (s + 1) = a := by omega
      rw [if_neg (by simp; omega), e1, e3, e4, List.drop_succ_cons]

/-- The units whose places lie in [a, a + n), in rising order. -/
def selTo (fs : List Int) (f : Nat → Nat) (a n k : Nat) : List Int := ((List.range k).filter (fun j => decide (a ≤ f j ∧ f j < a + n))).map (fun j => fs.getD j 0)

theorem selTo_succ_yes {fs : List Int} {f : Nat → Nat} {a n k : Nat} (h : a ≤ f k ∧ f k < a + n) : selTo fs f a n (k + 1) = selTo fs f a n k ++ [fs.getD k 0] := by
  unfold selTo
  rw [List.range_succ, List.filter_append, List.map_append, List.filter_cons, if_pos (decide_eq_true h)]
  rfl
theorem selTo_succ_no {fs : List Int} {f : Nat → Nat} {a n k : Nat} (h : ¬ (a ≤ f k ∧ f k < a + n)) : selTo fs f a n (k + 1) = selTo fs f a n k := by
  unfold selTo
  rw [List.range_succ, List.filter_append, List.map_append, List.filter_cons, if_neg (by simpa using h)]
  simp
theorem selTo_ahead (fs : List Int) (f : Nat → Nat) (a n k d : Nat) : ∃ t, selTo fs f a n (k + d) = selTo fs f a n k ++ t := by
  induction d with
  | zero => exact ⟨[], by simp⟩
  | succ d ih =>
    obtain ⟨t, ht⟩ := ih
    by_cases h : a ≤ f (k + d) ∧ f (k + d) < a + n
    · exact ⟨t ++ [fs.getD (k + d) 0], by rw [show k + (d + 1) = (k + d) + 1 from rfl, selTo_succ_yes h, ht, List.append_assoc]⟩
    · exact ⟨t, by rw [show k + (d + 1) = (k + d) + 1 from rfl, selTo_succ_no h, ht]⟩
/-- At a place that is picked, the gathered list has that unit next. -/
theorem selTo_next {fs : List Int} {f : Nat → Nat} {a n k N : Nat} (hk : k < N) (h : a ≤ f k ∧ f k < a + n) : (selTo fs f a n k).length < (selTo fs f a n N).length ∧ (selTo fs f a n N).getD (selTo fs f a n k).length 0 = fs.getD k 0 := by
  obtain ⟨t, ht⟩ := selTo_ahead fs f a n (k + 1) (N - (k + 1))
  rw [show k + 1 + (N - (k + 1)) = N from by omega, selTo_succ_yes h] at ht
  rw [ht]
  refine ⟨by simp, ?_⟩
  rw [List.getD_eq_getElem?_getD, List.append_assoc, List.getElem?_append_right (Nat.le_refl _), Nat.sub_self]
  rfl

/-- Rising numbers. -/
def Rising (fs : List Int) : Prop := ∀ i j, i < j → j < fs.length → fs.getD i 0 < fs.getD j 0
theorem selTo_sorted {fs : List Int} (hr : Rising fs) (f : Nat → Nat) (a n : Nat) : (selTo fs f a n fs.length).Pairwise (· ≤ ·) := by
  unfold selTo
  rw [List.pairwise_map]
  have h := (List.pairwise_lt_range (n := fs.length)).filter (fun j => decide (a ≤ f j ∧ f j < a + n))
  refine (List.Pairwise.and_mem.1 h).imp_of_mem ?_
  intro x y hx hy hxy
  have hy' : y < fs.length := by
    have := (List.mem_filter.1 hy).1
    simpa using this
  exact Int.le_of_lt (hr x y hxy.2.2 hy')

/-- THE SEGMENT, SORTED, IS WHAT THE MODEL PICKS. -/
theorem srt_seg {fs : List Int} (hr : Rising fs) (K : Int → Bool) (ns : List Nat) (i : Nat) :
    srt (segAt (order K fs) ns i) = selTo fs (pos fs.length (fun j => K (fs.getD j 0))) (offTo fs.length ns i) (ns.getD i 0) fs.length := by
  have hp := selTo_sorted hr (pos fs.length (fun j => K (fs.getD j 0))) (offTo fs.length ns i) (ns.getD i 0)
  refine List.Perm.eq_of_pairwise (le := (· ≤ ·)) (fun a b _ _ h1 h2 => Int.le_antisymm h1 h2) (srt_sorted _) hp ?_
  refine (srt_perm _).trans ?_
  unfold segAt selTo
  rw [order_length, order_places, ← List.map_drop, ← List.map_take]
  have hlen : (places fs.length (fun j => K (fs.getD j 0))).length = fs.length := by rw [(places_perm _ _).length_eq, List.length_range]
  have hf := filter_range (pos fs.length (fun j => K (fs.getD j 0))) (offTo fs.length ns i) (offTo fs.length ns i + ns.getD i 0) (places fs.length (fun j => K (fs.getD j 0))) 0
    (fun q hq => by rw [pos_places _ _ _ (by rw [hlen] at hq; exact hq)]; omega)
  rw [Nat.sub_zero, Nat.max_zero, Nat.add_sub_cancel_left] at hf
  rw [← hf]
  exact ((places_perm _ _).filter _).map _

end Go.Proofs.Qxb6613726a.Plain
