/- HandOut's last part, what it does to memory: the sets are cut off the order, one a job, and sorted. -/
import Derived.Test.Qxb6613726aSmall
import Derived.Test.Qxb6613726aPlain
import Derived.Test.Qxb6613726aShelf
import Derived.Shelf.SortM.Plain
import Derived.Deep.CutBlock
namespace Go.Proofs.Qxb6613726a
open Go Go.RowKit Go.Sort Plain
set_option linter.unusedVariables false

/-- What follows the n-th statement of a sequence. -/
def seqTail : Nat → Code → Code
  | 0, c => c
  | n + 1, .seq _ b => seqTail n b
  | _, c => c

theorem sort_calls (blk off cap : Nat) (zs : List Int) (w : World) (hH : Holds (Value.int .i64) w blk off zs.toArray) (hblk : blk < w.heap.size) (hsz : zs.length < 4611686018427387904) :
    Calls Try.prog 15 #[.slice (some ⟨blk, off, none⟩) zs.length cap] w fun e w' => e = .returned (.tuple #[]) ∧ ∃ n os, w' = grow (putRow (Value.int .i64) (Sort.ahead w n) blk off (srt zs).toArray) os :=
  AnyM.slices_Sort_int Try.lsort blk off cap zs w hH hblk hsz

/-- What became of the world in the sort: block blk alone has turned, at these places alone. -/
structure Sorted (w w' : World) (blk off : Nat) (l : List Int) : Prop where
  os : w'.os = w.os
  tape : w'.tape = w.tape
  output : w'.output = w.output
  size : w.heap.size ≤ w'.heap.size
  other : ∀ k, k < w.heap.size → k ≠ blk → w'.heap[k]? = w.heap[k]?
  here : ∀ j, j < l.length → w'.cell? ⟨blk, off + j, none⟩ = some (.int .i64 (l.getD j 0))
  rest : ∀ k, k < off ∨ off + l.length ≤ k → w'.cell? ⟨blk, k, none⟩ = w.cell? ⟨blk, k, none⟩
  frozen : ∀ k, w'.frozen? ⟨blk, k, none⟩ = w.frozen? ⟨blk, k, none⟩

theorem sorted_of {w : World} {blk off : Nat} {d l : List Int} (hH : Holds (Value.int .i64) w blk off d.toArray) (hblk : blk < w.heap.size) (hl : l.length = d.length) (n : Nat) (os : Array Obj) :
    Sorted w (grow (putRow (Value.int .i64) (Sort.ahead w n) blk off l.toArray) os) blk off l := by
  refine ⟨rfl, rfl, rfl, by simp, fun k hk hne => ?_, fun j hj => ?_, fun k hk => ?_, fun k => ?_⟩
  · rw [heap_grow_old _ _ (by simpa using hk)]
    simp [putRow, mapBlock, Array.getElem?_modify, Ne.symm hne]
  · have h1 : (l.toArray)[j]! = l.getD j 0 := by
      rw [getElem!_pos l.toArray j (by simpa using hj), List.getD_eq_getElem?_getD, List.getElem?_eq_getElem hj]
      rfl
    rw [cell?_grow _ _ _ (by simpa using hblk), cell?_putRow (Value.int .i64) (Sort.ahead w n) blk off d.toArray l.toArray (holds_ahead _ _ _ _ _ _ hH) (by simpa using hl) j (by simpa using hj), h1]
  · rw [cell?_grow _ _ _ (by simpa using hblk), cell?_putRow_other _ _ _ _ _ _ (by right; simpa using hk)]
    rfl
  · rw [frozen?_grow _ _ _ (by simpa using hblk), frozen?_putRow]
    rfl

/-- A set, as it lies in memory: nil, or a segment of block g that ends ahead of f. -/
def SetG (w : World) (g f : Nat) (v : Value) : Option (List Int) → Prop
  | none => v = .slice none 0 0
  | some l => ∃ off cap, v = .slice (some ⟨g, off, none⟩) l.length cap ∧ (0 < l.length → off + l.length ≤ f) ∧ ∀ j, j < l.length → w.cell? ⟨g, off + j, none⟩ = some (.int .i64 (l.getD j 0))

/-- The state at the head of round i: f units are gone. -/
structure Rel4 (w : World) (s g m i f : Nat) (L : List Int) (ns : List Nat) (vs : List Value) : Prop where
  row : HasRow w s 32 vs
  len : vs.length = m
  later : ∀ j, i ≤ j → j < m → vs[j]? = some (.slice none 0 0)
  done : ∀ j, j < i → ∃ v, vs[j]? = some v ∧ SetG w g f v (setAt L ns j)
  left : ∀ j, f ≤ j → j < L.length → w.cell? ⟨g, j, none⟩ = some (.int .i64 (L.getD j 0))
  soft : ∀ j, w.frozen? ⟨g, j, none⟩ = false
  lt : g < w.heap.size

theorem Rel4.no {w : World} {s g m i f : Nat} {L : List Int} {ns : List Nat} {vs : List Value} (h : Rel4 w s g m i f L ns vs) (hi : i < m) (ha : accB L.length ns i = false) : Rel4 w s g m (i + 1) f L ns vs :=
  { h with
    later := fun j h1 h2 => h.later j (by omega) h2
    done := fun j hj => by
      by_cases e : j = i
      · subst e
        refine ⟨_, h.later j (Nat.le_refl _) hi, ?_⟩
        unfold setAt
        rw [ha]
        rfl
      · exact h.done j (by omega) }

/-- The segment that job i takes lies there. -/
theorem Rel4.holds {w : World} {s g m i f o : Nat} {L : List Int} {ns : List Nat} {vs : List Value} (h : Rel4 w s g m i f L ns vs) (hf : f = offTo L.length ns i) (ho : 0 < ns.getD i 0 → o = f) (ha : accB L.length ns i = true) (hsg : s ≠ g) (v : Value) :
    Holds (Value.int .i64) (w.setCell ⟨s, i, none⟩ v) g o (segAt L ns i).toArray := by
  intro j hj
  have hl := segAt_length ha
  have hj' : j < ns.getD i 0 := by simpa [hl] using hj
  obtain rfl := ho (by omega)
  have hle := offTo_le L.length ns i
  unfold accB at ha
  rw [decide_eq_true_iff] at ha
  have h0 : (segAt L ns i)[j]? = L[o + j]? := by
    unfold segAt
    rw [List.getElem?_take, if_pos hj', List.getElem?_drop, ← hf]
  have h1 : (segAt L ns i).toArray[j]! = L.getD (o + j) 0 := by
    rw [getElem!_pos _ j hj, List.getD_eq_getElem?_getD, ← h0, List.getElem?_eq_getElem (by simpa using hj)]
    rfl
  rw [h1]
  refine ⟨?_, ?_⟩
  · rw [World.cell?_setCell_other _ _ _ _ (by intro e; injection e; omega)]
    exact h.left (o + j) (by omega) (by omega)
  · rw [World.frozen?_setCell]
    exact h.soft _

theorem Rel4.yes {w w2 : World} {s g m i f o : Nat} {L : List Int} {ns : List Nat} {vs : List Value} (h : Rel4 w s g m i f L ns vs) (hi : i < m) (hf : f = offTo L.length ns i) (ho : 0 < ns.getD i 0 → o = f) (ha : accB L.length ns i = true) (hsg : s ≠ g)
    (k : Sorted (w.setCell ⟨s, i, none⟩ (.slice (some ⟨g, o, none⟩) (ns.getD i 0) (ns.getD i 0))) w2 g o (srt (segAt L ns i))) :
    Rel4 w2 s g m (i + 1) (f + ns.getD i 0) L ns (vs.set i (.slice (some ⟨g, o, none⟩) (ns.getD i 0) (ns.getD i 0))) := by
  have hl : (srt (segAt L ns i)).length = ns.getD i 0 := by rw [srt_length, segAt_length ha]
  have hrow := h.row.set i (.slice (some ⟨g, o, none⟩) (ns.getD i 0) (ns.getD i 0))
  have hcell : ∀ j, (w.setCell ⟨s, i, none⟩ (.slice (some ⟨g, o, none⟩) (ns.getD i 0) (ns.getD i 0))).cell? ⟨g, j, none⟩ = w.cell? ⟨g, j, none⟩ := fun j =>
    World.cell?_setCell_other _ _ _ _ (by intro e; injection e; omega)
  refine { row := (k.other s hrow.lt hsg).trans hrow, len := by simpa using h.len, later := fun j h1 h2 => ?_, done := fun j hj => ?_, left := fun j h1 h2 => ?_, soft := fun j => ?_, lt := ?_ }
  · rw [List.getElem?_set_ne (by omega)]
    exact h.later j (by omega) h2
  · by_cases e : i = j
    · subst e
      refine ⟨_, List.getElem?_set_self (by rw [h.len]; exact hi), ?_⟩
      unfold setAt
      rw [ha]
      refine ⟨o, ns.getD i 0, by rw [hl], fun hp => ?_, k.here⟩
      rw [hl] at hp ⊢
      rw [ho hp]
      exact Nat.le_refl _
    · obtain ⟨v, hv, hs⟩ := h.done j (by omega)
      refine ⟨v, by rw [List.getElem?_set_ne e]; exact hv, ?_⟩
      cases hx : setAt L ns j with
      | none => rw [hx] at hs; exact hs
      | some l =>
        rw [hx] at hs
        obtain ⟨off, cap, e1, e2, e3⟩ := hs
        refine ⟨off, cap, e1, fun hp => by have := e2 hp; omega, fun q hq => ?_⟩
        by_cases hn : 0 < ns.getD i 0
        · rw [k.rest (off + q) (.inl (by rw [ho hn]; have := e2 (by omega); omega)), hcell]
          exact e3 q hq
        · have hz : (srt (segAt L ns i)).length = 0 := by omega
          rw [k.rest (off + q) (by rw [hz]; omega), hcell]
          exact e3 q hq
  · by_cases hn : 0 < ns.getD i 0
    · rw [k.rest j (.inr (by rw [hl, ho hn]; exact h1)), hcell]
      exact h.left j (by omega) h2
    · have hz : (srt (segAt L ns i)).length = 0 := by omega
      rw [k.rest j (by rw [hz]; omega), hcell]
      exact h.left j (by omega) h2
  · rw [k.frozen, World.frozen?_setCell]
    exact h.soft j
  · have := k.size
    have h2 := h.lt
    simp at this
    omega

theorem Sorted.below {w w' : World} {blk off B : Nat} {l : List Int} (k : Sorted w w' blk off l) {w0 : World} (hb : Below B w0 w) (hB : B ≤ blk) (hs : B ≤ w.heap.size) : Below B w0 w' :=
  ⟨k.os.trans hb.os, k.tape.trans hb.tape, k.output.trans hb.output, Nat.le_trans hb.size k.size, fun i hi => (k.other i (by omega) (by omega)).trans (hb.block i hi)⟩

end Go.Proofs.Qxb6613726a
