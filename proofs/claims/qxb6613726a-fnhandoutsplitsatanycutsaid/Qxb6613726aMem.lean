/- Rows of memory: what the walks of this seat say of them. -/
import Derived.Test.Qxb6613726aProg
import Derived.WalkKit
import Derived.KernelRfl
import Derived.WalkLawsBesides
import Derived.Deep.OwnRows
import Derived.Deep.QuietTactic
import Derived.BigQuiet
import Derived.Laws.CopyOwn
import Derived.Deep.LoopGhost
import Derived.Deep.DeepCutAuto
namespace Go.Proofs.Qxb6613726a
open Go Go.RowKit
set_option linter.unusedVariables false

/-- The cells from an address on hold these values. -/
def RowAt (w : World) (a : Option Addr) (xs : List Value) : Prop :=
  xs = [] ∨ ∃ b off, a = some ⟨b, off, none⟩ ∧ b < w.heap.size ∧ ∀ k u, xs[k]? = some u → w.cell? ⟨b, off + k, none⟩ = some u

theorem RowAt.kept {w w' : World} {a : Option Addr} {xs : List Value} (h : RowAt w a xs) (hb : Below w.heap.size w w') : RowAt w' a xs := by
  rcases h with h | ⟨b, off, ha, hlt, hc⟩
  · exact .inl h
  · exact .inr ⟨b, off, ha, Nat.lt_of_lt_of_le hlt hb.size, fun k u hu => (hb.cell (p := ⟨b, off + k, none⟩) hlt).trans (hc k u hu)⟩

/-- Block b of w is a row of just these cells, none of them frozen. -/
def HasRow (w : World) (b : Nat) (t : TypeId) (xs : List Value) : Prop := w.heap[b]? = some (.cells xs.toArray t (0, 0))

theorem HasRow.lt {w : World} {b : Nat} {t : TypeId} {xs : List Value} (h : HasRow w b t xs) : b < w.heap.size := (Array.getElem?_eq_some_iff.1 h).1
theorem HasRow.cell {w : World} {b : Nat} {t : TypeId} {xs : List Value} (h : HasRow w b t xs) (k : Nat) : w.cell? ⟨b, k, none⟩ = xs[k]? := by
  rw [cell_of_row w b k xs.toArray t (0, 0) h]
  simp
theorem HasRow.frozen {w : World} {b : Nat} {t : TypeId} {xs : List Value} (h : HasRow w b t xs) (k : Nat) : w.frozen? ⟨b, k, none⟩ = false := by
  unfold HasRow at h
  simp [World.frozen?, h]
theorem HasRow.set {w : World} {b : Nat} {t : TypeId} {xs : List Value} (h : HasRow w b t xs) (k : Nat) (v : Value) : HasRow (w.setCell ⟨b, k, none⟩ v) b t (xs.set k v) := by
  unfold HasRow at h ⊢
  simp [World.setCell, Array.getElem?_modify, h]
theorem HasRow.below {w w' : World} {B b : Nat} {t : TypeId} {xs : List Value} (h : HasRow w b t xs) (hb : Below B w w') (hlt : b < B) : HasRow w' b t xs := (hb.block b hlt).trans h
theorem HasRow.drewN {w : World} {b : Nat} {t : TypeId} {xs : List Value} (h : HasRow w b t xs) (n : Nat) : HasRow (w.drewN n) b t xs := h
theorem HasRow.setOther {w : World} {b : Nat} {t : TypeId} {xs : List Value} (h : HasRow w b t xs) {p : Addr} (hp : p.block ≠ b) (v : Value) : HasRow (w.setCell p v) b t xs :=
  (Below.heap_setCell w p v b (fun e => hp e.symm)).trans h
theorem HasRow.alloc {w : World} {b : Nat} {t : TypeId} {xs : List Value} (h : HasRow w b t xs) (o : Obj) : HasRow (w.alloc o) b t xs := (Below.heap_alloc w o b h.lt).trans h
theorem hasRow_made (w : World) (z : Value) (n : Nat) (t : TypeId) : HasRow (w.alloc (.cells (madeCells #[z] n) t)) w.heap.size t (List.replicate n z) := by
  unfold HasRow
  rw [(MapKept.heap_alloc w _).1, ← toList_madeCells_one]
theorem below_drewN {B : Nat} {w w' : World} (h : Below B w w') (n : Nat) : Below B w (w'.drewN n) := ⟨h.os, h.tape, h.output, h.size, h.block⟩
theorem HasRow.rowAt {w : World} {b : Nat} {t : TypeId} {xs : List Value} (h : HasRow w b t xs) : RowAt w (some ⟨b, 0, none⟩) xs :=
  .inr ⟨b, 0, rfl, h.lt, fun k u hu => by rw [Nat.zero_add, h.cell k]; exact hu⟩

/-- Numbers as cells. -/
def cells (zs : List Int) : List Value := zs.map (Value.int .i64)
theorem cells_at {zs : List Int} {k : Nat} (h : k < zs.length) : (cells zs)[k]? = some (.int .i64 (zs.getD k 0)) := by
  unfold cells
  rw [List.getElem?_map, List.getD_eq_getElem?_getD, List.getElem?_eq_getElem h]
  rfl
theorem cells_length (zs : List Int) : (cells zs).length = zs.length := by simp [cells]

/-- A slice of numbers that has an element: where it lies. -/
theorem row_ints {w : World} {a : Option Addr} {zs : List Int} {n : Nat} (h : RowAt w a (cells zs)) (hl : zs.length = n) (hp : 0 < n) :
    ∃ b off, a = some ⟨b, off, none⟩ ∧ b < w.heap.size ∧ Hid (∀ k, k < n → w.cell? ⟨b, off + k, none⟩ = some (.int .i64 (zs.getD k 0))) := by
  rcases h with h | ⟨b, off, rfl, hb, hc⟩
  · have e : zs = [] := by simpa [cells] using h
    rw [e] at hl
    simp at hl
    omega
  · exact ⟨b, off, rfl, hb, fun k hk => hc k _ (cells_at (by omega))⟩

theorem info3 : (Try.prog.info? 3).map (fun i => (i.zero, i.size, i.bytes)) = some (some (.int .i64 0), 1, 8) := by kernel_rfl
theorem info2 : (Try.prog.info? 2).map (fun i => (i.zero, i.size, i.bytes)) = some (some (.int .i64 0), 1, 8) := by kernel_rfl
theorem info4 : (Try.prog.info? 4).map (fun i => (i.zero, i.size, i.bytes)) = some (some (.bool false), 1, 1) := by kernel_rfl
theorem info32 : (Try.prog.info? 32).map (fun i => (i.zero, i.size, i.bytes)) = some (some (.slice none 0 0), 1, 24) := by kernel_rfl
theorem size3 : (Try.prog.info? 3).map (·.size) = some 1 := by kernel_rfl
theorem size2 : (Try.prog.info? 2).map (·.size) = some 1 := by kernel_rfl

theorem splice_all {z : Value} {n : Nat} {X : List Value} (h : X.length = n) : splice (List.replicate n z) 0 X = X := by
  unfold splice
  rw [List.take_zero, List.nil_append, List.drop_of_length_le (by simp; omega), List.append_nil]

/-- 'zzc := make([]T, len(x)); copy(zzc, x)': the copy, as one law for the walk. -/
theorem wpList_copy_made {ops : Array Oper} {rest : List Oper} {o : Oper} {a : Act} {Q : Exit → Act → World → Prop} (hgd : o.guard = none) (d s : Operand) (T E : TypeId)
    (ho : o.op = .call { callee := .builtin .copy, args := #[d, s], argTypes := #[T, T] }) (hu : Try.prog.underlying T = some (.slice E)) (hsz : (Try.prog.info? E).map (·.size) = some 1)
    (W : World) (z : Value) (n dCap sCap : Nat) (sp : Option Addr) (X : List Value) (hX : X.length = n) (h1 : ∀ v ∈ X, v.oneCell' = true) (w : World) (hbw : Below w.heap.size w W) (hr : RowAt w sp X)
    (hd : a.eval d = .slice (some ⟨W.heap.size, 0, none⟩) n dCap) (hs : a.eval s = .slice sp n sCap)
    (hK : ∀ w', HasRow w' W.heap.size E X → Below w.heap.size w w' → wpList Try.prog ops Q rest (a.put o.dst (goInt n)) w') :
    wpList Try.prog ops Q (o :: rest) a (W.alloc (.cells (madeCells #[z] n) E)) := by
  have hb : Below w.heap.size w (W.alloc (.cells (madeCells #[z] n) E)) := hbw.alloc hbw.size _
  refine wpList_copy_splice hgd d s T T ho E hu hsz _ _ n dCap n sCap hd hs W.heap.size 0 (List.replicate n z) E (hasRow_made W z n E) X (by rw [hX]; exact (Nat.min_self n).symm) ?_ (by simp; omega) h1 w.heap.size w hb hbw.size ?_
  · intro hpos
    refine ⟨rfl, ?_⟩
    rcases hr with hr | ⟨b, off, rfl, hlt, hc⟩
    · rw [hr] at hpos; simp at hpos
    · refine ⟨_, rfl, fun j v hv => ?_⟩
      rw [WideShapes.add_plain]
      exact (hb.cell (p := ⟨b, off + j, none⟩) hlt).trans (hc j v hv)
  · intro w' hg hb'
    have hg' := hg.out
    rw [splice_all hX] at hg'
    rw [hX]
    exact hK w' hg' hb'

/-- A slice that reads as these cells: in this world, behind nothing but what the call has made. -/
def Copied (w : World) (v : Value) (n : Nat) (X : List Value) (wc : World) : Prop := Below w.heap.size w wc ∧ ∃ a c, v = .slice a n c ∧ RowAt wc a X

theorem copied_none {w wc : World} {n c : Nat} {X : List Value} (hb : Below w.heap.size w wc) (hr : RowAt w none X) : Copied w (.slice none n c) n X wc := ⟨hb, _, _, rfl, hr.kept hb⟩
theorem copied_some {w wc : World} {n c g : Nat} {E : TypeId} {X : List Value} (hb : Below w.heap.size w wc) (hr : HasRow wc g E X) : Copied w (.slice (some ⟨g, 0, none⟩) n c) n X wc := ⟨hb, _, _, rfl, hr.rowAt⟩

/-- 'x = append(x, u)' where x's own row has room: one cell is written, in place. -/
theorem wpList_append_room1 {ops : Array Oper} {rest : List Oper} {o : Oper} {a : Act} {Q : Exit → Act → World → Prop} (hgd : o.guard = none) (s x : Operand) (T E : TypeId)
    (ho : o.op = .call { callee := .builtin .append, args := #[s, x], argTypes := #[T, T] }) (hu : Try.prog.underlying T = some (.slice E)) (hsz : (Try.prog.info? E).map (·.size) = some 1)
    (W : World) (g n C h : Nat) (xs : List Value) (u : Value) (hs : a.eval s = .slice (some ⟨g, 0, none⟩) n C) (hx : a.eval x = .slice (some ⟨h, 0, none⟩) 1 1)
    (hh : W.cell? ⟨h, 0, none⟩ = some u) (hrow : HasRow W g E xs) (hl : xs.length = C) (hn : n < C) (h1 : u.oneCell' = true)
    (hK : HasRow (W.setCell ⟨g, n, none⟩ u) g E (xs.set n u) → wpList Try.prog ops Q rest (a.put o.dst (.slice (some ⟨g, 0, none⟩) (n + 1) C)) (W.setCell ⟨g, n, none⟩ u)) :
    wpList Try.prog ops Q (o :: rest) a W := by
  refine wpList_plain hgd fun K hK' => ?_
  obtain ⟨i, hi, hisz⟩ := Option.map_eq_some_iff.1 hsz
  have hc : ∀ j v, [u][j]? = some v → W.cell? ((⟨h, 0, none⟩ : Addr).add j) = some v := by
    intro j v hv
    match j, hv with
    | 0, hv => simp at hv; subst hv; rw [WideShapes.add_plain]; exact hh
  have hrun := run_append_room_cells (P := Try.prog) W T o.type E i hu hi g 0 n C ⟨h, 0, none⟩ 1 1 [u] (by simp [hisz]) hc (by simpa using h1) (by omega)
    (fun j hj => by
      have hj0 : j = 0 := by simpa using hj
      subst hj0
      rw [hisz, show 0 + n * 1 + 0 = n from by omega, hrow.cell n, List.getElem?_eq_getElem (by omega)]
      rfl)
    (fun j hj => hrow.frozen _)
  have e : W.setCells g (0 + n * i.size) [u] = W.setCell ⟨g, n, none⟩ u := by
    rw [hisz]
    simp [World.setCells]
  rw [e] at hrun
  unfold Oper.wp
  simp [execOp, ho, resolve, invoke, builtin, hs, hx, hrun, Result.andThen]
  exact hK' _ _ (hK (hrow.set n u))

end Go.Proofs.Qxb6613726a
