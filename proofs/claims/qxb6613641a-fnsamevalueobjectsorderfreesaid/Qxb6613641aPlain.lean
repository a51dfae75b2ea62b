/- Plain laws: the map of a list of pairs, told by the pairs that come last; two such maps held against each other, either way round. No walk in sight. -/
import Derived.Test.Qxb6613641aObj
namespace Go.Proofs.Qxb6613641a
open Go Go.Maps

/-! ### lists without repeats -/
theorem nodup_le {α : Type} [DecidableEq α] : ∀ (l1 l2 : List α), l1.Nodup → (∀ x ∈ l1, x ∈ l2) → l1.length ≤ l2.length
  | [], _, _, _ => Nat.zero_le _
  | x :: t, l2, hn, hs => by
    have hx : x ∈ l2 := hs x (by simp)
    have hn' := List.nodup_cons.1 hn
    have ih := nodup_le t (l2.erase x) hn'.2 (fun y hy => (List.mem_erase_of_ne (show y ≠ x from fun e => hn'.1 (e ▸ hy))).2 (hs y (by simp [hy])))
    rw [List.length_erase_of_mem hx] at ih
    have : 0 < l2.length := List.length_pos_of_mem hx
    simp
    omega

theorem nodup_full {α : Type} [DecidableEq α] : ∀ (l1 l2 : List α), l1.Nodup → (∀ x ∈ l1, x ∈ l2) → l2.length ≤ l1.length → ∀ x ∈ l2, x ∈ l1
  | [], l2, _, _, hl => by
    intro x hx
    have := List.length_pos_of_mem hx
    simp at hl
    subst hl
    simp at hx
  | x :: t, l2, hn, hs, hl => by
    have hx : x ∈ l2 := hs x (by simp)
    have hn' := List.nodup_cons.1 hn
    have hlen := List.length_erase_of_mem hx
    have hpos : 0 < l2.length := List.length_pos_of_mem hx
    have ih := nodup_full t (l2.erase x) hn'.2 (fun y hy => (List.mem_erase_of_ne (show y ≠ x from fun e => hn'.1 (e ▸ hy))).2 (hs y (by simp [hy]))) (by simp at hl; omega)
    intro y hy
    by_cases e : y = x
    · simp [e]
    · exact List.mem_cons_of_mem _ (ih y ((List.mem_erase_of_ne e).2 hy))

/-! ### the pairs that come last -/
/-- The name at place i does not come again among the first n. -/
def finB (n : Nat) (K : Nat → List UInt8) (i : Nat) : Bool := (List.range n).all fun j => !decide (i < j) || K j != K i
def Fin' (n : Nat) (K : Nat → List UInt8) (i : Nat) : Prop := i < n ∧ ∀ j, i < j → j < n → K j ≠ K i

theorem finB_true {n : Nat} {K : Nat → List UInt8} {i : Nat} (h : ∀ j, i < j → j < n → K j ≠ K i) : finB n K i = true := by
  unfold finB
  rw [List.all_eq_true]
  intro j hj
  have hj' : j < n := by simpa using hj
  by_cases hij : i < j
  · simp [h j hij hj']
  · simp [hij]
theorem finB_false {n : Nat} {K : Nat → List UInt8} {i j : Nat} (h1 : i < j) (h2 : j < n) (h : K j = K i) : finB n K i = false := by
  unfold finB
  rw [List.all_eq_false]
  exact ⟨j, by simpa using h2, by simp [h1, h]⟩
theorem finB_iff {n : Nat} {K : Nat → List UInt8} {i : Nat} (hi : i < n) : finB n K i = true ↔ Fin' n K i := by
  constructor
  · intro h
    refine ⟨hi, fun j h1 h2 e => ?_⟩
    rw [finB_false h1 h2 e] at h
    cases h
  · intro h
    exact finB_true h.2

theorem fin_unique {n : Nat} {K : Nat → List UInt8} {i j : Nat} (hi : Fin' n K i) (hj : Fin' n K j) (e : K i = K j) : i = j := by
  rcases Nat.lt_trichotomy i j with h | h | h
  · exact absurd e.symm (hi.2 j h hj.1)
  · exact h
  · exact absurd e (hj.2 i h hi.1)

/-- Some place with that name is the last one. -/
theorem last_exists {n : Nat} {K : Nat → List UInt8} {s : List UInt8} : (∃ i, i < n ∧ K i = s) → ∃ i, Fin' n K i ∧ K i = s := by
  induction n with
  | zero => rintro ⟨i, h, _⟩; omega
  | succ n ih =>
    rintro ⟨i, hi, hk⟩
    by_cases e : K n = s
    · exact ⟨n, ⟨by omega, fun j h1 h2 => by omega⟩, e⟩
    · have hin : i < n := by
        rcases Nat.lt_succ_iff_lt_or_eq.1 hi with h | h
        · exact h
        · exact absurd (h ▸ hk) e
      obtain ⟨j, hj, hjk⟩ := ih ⟨i, hin, hk⟩
      refine ⟨j, ⟨Nat.lt_succ_of_lt hj.1, fun l h1 h2 => ?_⟩, hjk⟩
      rcases Nat.lt_succ_iff_lt_or_eq.1 h2 with h | h
      · exact hj.2 l h1 h
      · rw [h, hjk]; exact e

/-- The names, each once. -/
def names (n : Nat) (K : Nat → List UInt8) : List (List UInt8) := ((List.range n).filter (finB n K)).map K
def cnt (n : Nat) (K : Nat → List UInt8) : Nat := ((List.range n).filter (finB n K)).length

theorem names_length (n : Nat) (K : Nat → List UInt8) : (names n K).length = cnt n K := by simp [names, cnt]
theorem mem_names {n : Nat} {K : Nat → List UInt8} {s : List UInt8} : s ∈ names n K ↔ ∃ i, Fin' n K i ∧ K i = s := by
  unfold names
  rw [List.mem_map]
  constructor
  · rintro ⟨i, hi, rfl⟩
    rw [List.mem_filter] at hi
    have h1 : i < n := by simpa using hi.1
    exact ⟨i, (finB_iff h1).1 hi.2, rfl⟩
  · rintro ⟨i, hi, rfl⟩
    exact ⟨i, List.mem_filter.2 ⟨by simpa using hi.1, (finB_iff hi.1).2 hi⟩, rfl⟩
theorem nodup_map_of {α β : Type} {f : α → β} : ∀ (l : List α), l.Nodup → (∀ x ∈ l, ∀ y ∈ l, f x = f y → x = y) → (l.map f).Nodup
  | [], _, _ => by simp
  | x :: t, hn, hi => by
    have hn' := List.nodup_cons.1 hn
    rw [List.map_cons, List.nodup_cons]
    refine ⟨fun hm => ?_, nodup_map_of t hn'.2 (fun a ha b hb => hi a (by simp [ha]) b (by simp [hb]))⟩
    obtain ⟨y, hy, e⟩ := List.mem_map.1 hm
    have := hi y (by simp [hy]) x (by simp) e
    exact hn'.1 (this ▸ hy)
theorem names_nodup (n : Nat) (K : Nat → List UInt8) : (names n K).Nodup := by
  unfold names
  refine nodup_map_of _ (List.nodup_range.filter _) ?_
  intro x hx y hy e
  rw [List.mem_filter] at hx hy
  have h1 : x < n := by simpa using hx.1
  have h2 : y < n := by simpa using hy.1
  exact fin_unique ((finB_iff h1).1 hx.2) ((finB_iff h2).1 hy.2) e

/-! ### one list of pairs against another -/
/-- Every pair of a that comes last meets one of b that comes last: the same name, equal doubles. -/
def Meets (n : Nat) (K : Nat → List UInt8) (V : Nat → Nat) (m : Nat) (L : Nat → List UInt8) (U : Nat → Nat) : Prop :=
  ∀ i, Fin' n K i → ∃ j, Fin' m L j ∧ L j = K i ∧ feq (V i) (U j) = true

theorem compare_swap (a b : Int) (h : compare a b = .eq) : compare b a = .eq := by
  rw [Int.compare_eq_ite_lt] at h ⊢
  split at h
  · cases h
  · split at h
    · cases h
    · rw [if_neg (by omega), if_neg (by omega)]
theorem compare_swapN (a b : Nat) (h : compare a b = .eq) : compare b a = .eq := by
  rw [Nat.compare_eq_ite_lt] at h ⊢
  split at h
  · cases h
  · split at h
    · cases h
    · rw [if_neg (by omega), if_neg (by omega)]

theorem order_swap (x y : Ieee.Datum) (h : x.order y = some .eq) : y.order x = some .eq := by
  cases x <;> cases y <;> simp only [Ieee.Datum.order, Option.some.injEq] at h ⊢ <;> try (cases h; done)
  all_goals first
    | (split at h <;> cases h; done)
    | (exact compare_swapN _ _ h)
    | (rw [Int.min_comm]; exact compare_swap _ _ h)
theorem feq_symm {a b : Nat} (h : feq a b = true) : feq b a = true := by
  unfold feq Op.floatEq at h ⊢
  have h1 := eq_of_beq h
  have h2 := order_swap _ _ h1
  exact beq_iff_eq.2 h2

/-- As many names on both sides: then one way gives the other. -/
theorem meets_back {n : Nat} {K : Nat → List UInt8} {V : Nat → Nat} {m : Nat} {L : Nat → List UInt8} {U : Nat → Nat} (hc : cnt n K = cnt m L) (h : Meets n K V m L U) : Meets m L U n K V := by
  intro j hj
  have hsub : ∀ x ∈ names n K, x ∈ names m L := by
    intro x hx
    obtain ⟨i, hi, rfl⟩ := mem_names.1 hx
    obtain ⟨l, hl, e, _⟩ := h i hi
    exact mem_names.2 ⟨l, hl, e⟩
  have hfull := nodup_full (names n K) (names m L) (names_nodup n K) hsub (by rw [names_length, names_length]; omega)
  obtain ⟨i, hi, e⟩ := mem_names.1 (hfull (L j) (mem_names.2 ⟨j, hj, rfl⟩))
  obtain ⟨l, hl, e2, hf⟩ := h i hi
  have : l = j := fin_unique hl hj (e2.trans e)
  subst this
  exact ⟨i, hi, e, feq_symm hf⟩

/-! ### the map of a list of pairs -/
theorem isKey_string (s : List UInt8) : WideAt.IsKeyLit (.string s) := by
  unfold WideAt.IsKeyLit
  trivial

/-- The name and the double at a place. -/
def nm (ks : List ByteArray) (i : Nat) : List UInt8 := (ks.getD i ByteArray.empty).data.toList
def dbl (vs : List Nat) (i : Nat) : Nat := vs.getD i 0

theorem objTo_succ (ks : List ByteArray) (vs : List Nat) (k : Nat) : objTo ks vs (k + 1) = (objTo ks vs k).put (.string (nm ks k)) (.held (dbl vs k)) := rfl
theorem objTo_tidy (ks : List ByteArray) (vs : List Nat) : ∀ k, Tidy (objTo ks vs k)
  | 0 => tidy_empty
  | k + 1 => (objTo_tidy ks vs k).put (isKey_string _) _
theorem objTo_has (ks : List ByteArray) (vs : List Nat) (kl : Lit) : ∀ k, Maps.has (objTo ks vs k) kl = true ↔ ∃ i, i < k ∧ kl = .string (nm ks i)
  | 0 => by
    constructor
    · intro h; cases h
    · rintro ⟨i, h, _⟩; omega
  | k + 1 => by
    rw [objTo_succ]
    by_cases e : kl = .string (nm ks k)
    · constructor
      · intro _; exact ⟨k, by omega, e⟩
      · intro _; rw [e]; exact has_put_same (objTo_tidy ks vs k).isMap (isKey_string _) _
    · rw [has_put_other e, objTo_has ks vs kl k]
      constructor
      · rintro ⟨i, hi, h⟩; exact ⟨i, by omega, h⟩
      · rintro ⟨i, hi, h⟩
        refine ⟨i, ?_, h⟩
        rcases Nat.lt_succ_iff_lt_or_eq.1 hi with h' | h'
        · exact h'
        · exact absurd (h' ▸ h) e
theorem objTo_at (ks : List ByteArray) (vs : List Nat) (i : Nat) (z : DataW Nat) : ∀ k, Fin' k (nm ks) i → (objTo ks vs k).atKey (.string (nm ks i)) z = .held (dbl vs i)
  | 0, h => absurd h.1 (by omega)
  | k + 1, h => by
    rw [objTo_succ]
    rcases Nat.lt_succ_iff_lt_or_eq.1 h.1 with h' | h'
    · have hne : nm ks k ≠ nm ks i := h.2 k h' (by omega)
      rw [atKey_put_other (fun e => hne (Lit.string.inj e).symm)]
      exact objTo_at ks vs i z k ⟨h', fun j h1 h2 => h.2 j h1 (by omega)⟩
    · subst h'
      exact atKey_put_same (objTo_tidy ks vs i).isMap (isKey_string _) _ _

theorem objTo_helds (ks : List ByteArray) (vs : List Nat) (k : Nat) : Helds (objTo ks vs k) := by
  intro kl h
  obtain ⟨i, hi, rfl⟩ := (objTo_has ks vs kl k).1 h
  obtain ⟨j, hj, e⟩ := last_exists (K := nm ks) ⟨i, hi, rfl⟩
  exact ⟨_, by rw [← e]; exact objTo_at ks vs j .nil k hj⟩

theorem objTo_keys (ks : List ByteArray) (vs : List Nat) : ∀ n es, objTo ks vs n = .map es → ∀ p ∈ es, WideAt.IsKeyLit p.1
  | 0, es, h => by
    have : es = [] := (DataW.map.inj h).symm
    subst this
    simp
  | n + 1, es, h => by
    obtain ⟨es0, he, _⟩ := objTo_tidy ks vs n
    have ih := objTo_keys ks vs n es0 he
    rw [objTo_succ, he] at h
    have h' := DataW.map.inj h
    subst h'
    intro p hp
    rcases ChangeMaps.mem_insert_iff.1 hp with rfl | hp
    · exact isKey_string _
    · exact ih p (List.mem_filter.1 hp).1

/-- The entries are the pairs that come last. -/
theorem objTo_entries (ks : List ByteArray) (vs : List Nat) (n : Nat) : ∃ es, objTo ks vs n = .map es ∧ es.Pairwise (fun p q => p.1 ≠ q.1) ∧ ∀ p, p ∈ es ↔ ∃ i, Fin' n (nm ks) i ∧ p = (.string (nm ks i), .held (dbl vs i)) := by
  obtain ⟨es, he, hp⟩ := objTo_tidy ks vs n
  have hkeys := objTo_keys ks vs n es he
  refine ⟨es, he, hp, fun p => ⟨fun hp' => ?_, ?_⟩⟩
  · have hh : Maps.has (objTo ks vs n) p.1 = true := by
      rw [he, has_eq, List.any_eq_true]
      exact ⟨p, hp', WideAt.sameKey_self (hkeys p hp')⟩
    obtain ⟨i, hi, e⟩ := (objTo_has ks vs p.1 n).1 hh
    obtain ⟨j, hj, ej⟩ := last_exists (K := nm ks) ⟨i, hi, rfl⟩
    have e2 : p.2 = .held (dbl vs j) := by
      have h1 := came_only hp hkeys (kl := .string (nm ks j)) (d := .held (dbl vs j)) (fun z => by rw [← he]; exact objTo_at ks vs j z n hj) p hp' (by rw [e, ej])
      exact h1
    exact ⟨j, hj, Prod.ext (by rw [e, ej]) e2⟩
  · rintro ⟨i, hi, rfl⟩
    exact came_mem hp hkeys (fun z => by rw [← he]; exact objTo_at ks vs i z n hi)

theorem objTo_size (ks : List ByteArray) (vs : List Nat) (n : Nat) : Maps.size (objTo ks vs n) = cnt n (nm ks) := by
  obtain ⟨es, he, hp, hm⟩ := objTo_entries ks vs n
  rw [he, size_eq, ← names_length]
  have hn1 : (es.map (·.1)).Nodup := List.pairwise_map.2 hp
  have hn2 : ((names n (nm ks)).map Lit.string).Nodup := nodup_map_of _ (names_nodup n _) (fun x _ y _ e => Lit.string.inj e)
  have h1 := @nodup_le Lit (fun a b => Classical.propDecidable (a = b)) (es.map (·.1)) ((names n (nm ks)).map Lit.string) hn1 (fun x hx => by
    obtain ⟨p, hp', rfl⟩ := List.mem_map.1 hx
    obtain ⟨i, hi, rfl⟩ := (hm p).1 hp'
    exact List.mem_map.2 ⟨_, mem_names.2 ⟨i, hi, rfl⟩, rfl⟩)
  have h2 := @nodup_le Lit (fun a b => Classical.propDecidable (a = b)) ((names n (nm ks)).map Lit.string) (es.map (·.1)) hn2 (fun x hx => by
    obtain ⟨s, hs, rfl⟩ := List.mem_map.1 hx
    obtain ⟨i, hi, rfl⟩ := mem_names.1 hs
    exact List.mem_map.2 ⟨_, (hm _).2 ⟨i, hi, rfl⟩, rfl⟩)
  simp at h1 h2
  omega

/-- What SameValue answers on two such maps. -/
theorem equal_iff (ka kb : List ByteArray) (va vb : List Nat) (n m : Nat) :
    Lib.equalFuncD eqd (objTo ka va n) (objTo kb vb m) = true ↔ cnt n (nm ka) = cnt m (nm kb) ∧ Meets n (nm ka) (dbl va) m (nm kb) (dbl vb) := by
  obtain ⟨es, he, hp, hm⟩ := objTo_entries ka va n
  unfold Lib.equalFuncD
  rw [objTo_size, objTo_size, Bool.and_eq_true, decide_eq_true_iff, he]
  show _ ∧ (es.all _ = true) ↔ _
  rw [List.all_eq_true]
  refine and_congr_right fun _ => ⟨fun h i hi => ?_, fun h p hp' => ?_⟩
  · have hg := h _ ((hm _).2 ⟨i, hi, rfl⟩)
    unfold Lib.goodD at hg
    rw [Bool.and_eq_true] at hg
    obtain ⟨h1, h2⟩ := hg
    obtain ⟨j, hj, e⟩ := (objTo_has kb vb _ m).1 h1
    obtain ⟨l, hl, el⟩ := last_exists (K := nm kb) ⟨j, hj, rfl⟩
    have e' : nm ka i = nm kb l := by rw [el]; exact Lit.string.inj e
    refine ⟨l, hl, e'.symm, ?_⟩
    have h3 : eqd (.held (dbl va i)) ((objTo kb vb m).atKey (.string (nm ka i)) .nil) = true := h2
    rw [e', objTo_at kb vb l .nil m hl] at h3
    exact h3
  · obtain ⟨i, hi, rfl⟩ := (hm p).1 hp'
    obtain ⟨j, hj, e, hf⟩ := h i hi
    show (Maps.has (objTo kb vb m) (.string (nm ka i)) && eqd (.held (dbl va i)) ((objTo kb vb m).atKey (.string (nm ka i)) .nil)) = true
    rw [← e, objTo_at kb vb j .nil m hj, (objTo_has kb vb _ m).2 ⟨j, hj.1, rfl⟩]
    exact hf

theorem equal_swap (ka kb : List ByteArray) (va vb : List Nat) (n m : Nat) :
    Lib.equalFuncD eqd (objTo kb vb m) (objTo ka va n) = Lib.equalFuncD eqd (objTo ka va n) (objTo kb vb m) := by
  rw [Bool.eq_iff_iff, equal_iff, equal_iff]
  exact ⟨fun ⟨h1, h2⟩ => ⟨h1.symm, meets_back h1 h2⟩, fun ⟨h1, h2⟩ => ⟨h1.symm, meets_back h1 h2⟩⟩

end Go.Proofs.Qxb6613641a
