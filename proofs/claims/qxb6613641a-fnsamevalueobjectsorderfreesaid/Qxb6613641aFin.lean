/- zzFinals, zzCountTrue, zzBytes. -/
import Derived.Test.Qxb6613641aPlain
import Derived.Deep.OwnRows
import Derived.Deep.QuietTactic
import Derived.BigQuiet
namespace Go.Proofs.Qxb6613641a
open Go Go.RowKit Go.Maps
set_option linter.unusedVariables false

/-- Block b of w is a row of just these cells, none of them frozen. -/
def HasRow (w : World) (b : Nat) (t : TypeId) (xs : List Value) : Prop := w.heap[b]? = some (.cells xs.toArray t (0, 0))

theorem HasRow.lt {w : World} {b : Nat} {t : TypeId} {xs : List Value} (h : HasRow w b t xs) : b < w.heap.size := (Array.getElem?_eq_some_iff.1 h).1
theorem HasRow.cell {w : World} {b : Nat} {t : TypeId} {xs : List Value} (h : HasRow w b t xs) (k : Nat) : w.cell? ⟨b, k, none⟩ = xs[k]? := by
  rw [cell_of_row w b k xs.toArray t (0, 0) h]
  simp
theorem HasRow.frozen {w : World} {b : Nat} {t : TypeId} {xs : List Value} (h : HasRow w b t xs) (k : Nat) : w.frozen? ⟨b, k, none⟩ = false := by
  unfold HasRow at h
  simp [World.frozen?, h]
theorem HasRow.set {w : World} {b : Nat} {t : TypeId} {xs : List Value} (h : HasRow w b t xs) (k : Nat) (v : Value) : HasRow (w.setCell ⟨b, k, none⟩ v) b t (xs.set k v) := by
  unfold HasRow at h ⊢
  simp [World.setCell, Array.getElem?_modify, h]
theorem HasRow.below {w w' : World} {B b : Nat} {t : TypeId} {xs : List Value} (h : HasRow w b t xs) (hb : Below B w w') (hlt : b < B) : HasRow w' b t xs := (hb.block b hlt).trans h
theorem HasRow.drewN {w : World} {b : Nat} {t : TypeId} {xs : List Value} (h : HasRow w b t xs) (n : Nat) : HasRow (w.drewN n) b t xs := h
theorem hasRow_made (w : World) (z : Value) (n : Nat) (t : TypeId) : HasRow (w.alloc (.cells (madeCells #[z] n) t)) w.heap.size t (List.replicate n z) := by
  unfold HasRow
  rw [(MapKept.heap_alloc w _).1, ← toList_madeCells_one]
theorem below_drewN {B : Nat} {w w' : World} (h : Below B w w') (n : Nat) : Below B w (w'.drewN n) := ⟨h.os, h.tape, h.output, h.size, h.block⟩
theorem HasRow.rowAt {w : World} {b : Nat} {t : TypeId} {xs : List Value} (h : HasRow w b t xs) : RowAt w (some ⟨b, 0, none⟩) xs :=
  .inr ⟨b, 0, rfl, h.lt, fun k u hu => by rw [Nat.zero_add, h.cell k]; exact hu⟩

theorem info4 : (Try.prog.info? 4).map (fun i => (i.zero, i.size, i.bytes)) = some (some (.bool false), 1, 1) := by kernel_rfl

/-- What zzFinals hands back. -/
def fins (n : Nat) (K : Nat → List UInt8) : List Value := (List.range n).map fun i => .bool (finB n K i)

theorem done_step {xs : List Value} {k n : Nat} {K : Nat → List UInt8} {b : Bool} (hk : k < xs.length) (hd : ∀ i, i < k → xs[i]? = some (.bool (finB n K i))) (hb : finB n K k = b) :
    ∀ i, i < k + 1 → (xs.set k (.bool b))[i]? = some (.bool (finB n K i)) := by
  intro i hi
  by_cases e : k = i
  · subst e
    rw [List.getElem?_set_self hk, hb]
  · rw [List.getElem?_set_ne e]
    exact hd i (by omega)
theorem str_eq {a b : ByteArray} (h : (a.toList == b.toList) = true) : a.data.toList = b.data.toList := by
  rw [ByteArray.toList_eq, ByteArray.toList_eq] at h
  exact eq_of_beq h
theorem str_ne {a b : ByteArray} (h : (a.toList == b.toList) = false) : a.data.toList ≠ b.data.toList := by
  rw [ByteArray.toList_eq, ByteArray.toList_eq] at h
  exact beq_eq_false_iff_ne.1 h
theorem fins_of {xs : List Value} {n : Nat} {K : Nat → List UInt8} (hl : xs.length = n) (hd : ∀ i, i < n → xs[i]? = some (.bool (finB n K i))) : xs = fins n K := by
  apply List.ext_getElem?
  intro i
  unfold fins
  by_cases h : i < n
  · rw [hd i h]
    simp [h]
  · rw [List.getElem?_eq_none (by omega), List.getElem?_eq_none (by simp; omega)]

set_option maxHeartbeats 1000000 in
set_option maxRecDepth 100000 in
theorem fin_some (b off c n : Nat) (ks : List ByteArray) (w : World) (hk : ks.length = n) (hn : n ≤ 1024) (hb : b < w.heap.size)
    (hc : ∀ k, k < n → w.cell? ⟨b, off + k, none⟩ = some (.string (ks.getD k ByteArray.empty))) :
    Calls Try.prog 5 #[.slice (some ⟨b, off, none⟩) n c] w fun e w' => e = .returned (.slice (some ⟨w.heap.size, 0, none⟩) n n) ∧ HasRow w' w.heap.size 4 (fins n (nm ks)) ∧ Below w.heap.size w w' := by
  have hmk := fun W => run_make_row' (P := Try.prog) 25 4 (.bool false) 1 Try.underlying25 info4 rfl .i64 .i64 n (by omega) (by omega) W
  have HC : Hid _ := hc
  clear hc
  go_enter Try.func5, Try.ntmps5
  go_wp2
  go_loopw [4] (fun i wr => ∃ k : Nat, k ≤ n ∧ i = .int .i64 k ∧ ∃ xs : List Value, xs.length = n ∧ HasRow wr w.heap.size 4 xs ∧ (∀ i, i < k → xs[i]? = some (.bool (finB n (nm ks) i))) ∧ Below w.heap.size w wr) (fun i _ => n - (intOf i).toNat)
  case atStart => exact ⟨0, Nat.zero_le _, rfl, _, by simp, hasRow_made _ _ _ _, fun i h => by omega, (Below.refl _ _).alloc (Nat.le_refl _) _⟩
  case round =>
    obtain ⟨k, hkn, rfl, xs, hxl, hrow, hdone, hbel⟩ := hrel
    have HD : Hid _ := hdone
    clear hdone
    by_cases hlt : (k : Int) < (n : Int)
    · have hlt' : k < n := by omega
      obtain ⟨v, hv⟩ : ∃ v, xs[k]? = some v := ⟨_, List.getElem?_eq_getElem (by omega)⟩
      have hcell := (hrow.cell k).trans hv
      have hfr := hrow.frozen k
      have hrow1 := hrow.set k (.bool true)
      have hbel1 : Below w.heap.size w (wr.setCell ⟨w.heap.size, k, none⟩ (.bool true)) := hbel.setCell (Nat.le_refl _) _
      have s0 := HC.out k hlt'
      have hnk : Hid (nm ks k = (ks.getD k ByteArray.empty).data.toList) := rfl
      generalize ks.getD k ByteArray.empty = t0 at s0 hnk
      go_wp2
      clear hcell hfr hrow hbel
      go_loopw [5] (fun j wi => ∃ l : Nat, k < l ∧ l ≤ n ∧ j = .int .i64 l ∧ (∀ j', k < j' → j' < l → nm ks j' ≠ nm ks k) ∧ HasRow wi w.heap.size 4 (xs.set k (.bool true)) ∧ Below w.heap.size w wi) (fun j _ => n - (intOf j).toNat)
      case atStart => exact ⟨k + 1, by omega, by omega, by go_num, fun j' h1 h2 => by omega, hrow1, hbel1⟩
      case round =>
        clear hrow1 hbel1
        obtain ⟨l, hkl, hln, rfl, hno, hrow, hbel⟩ := hrel
        have HN : Hid _ := hno
        clear hno
        by_cases hl : (l : Int) < (n : Int)
        · have hl' : l < n := by omega
          have c1 := (hbel.cell (p := ⟨b, off + l, none⟩) hb).trans (HC.out l hl')
          have c2 := (hbel.cell (p := ⟨b, off + k, none⟩) hb).trans s0
          have hnl : Hid (nm ks l = (ks.getD l ByteArray.empty).data.toList) := rfl
          generalize ks.getD l ByteArray.empty = t1 at c1 hnl
          have hcell := hrow.cell k
          have hfr := hrow.frozen k
          go_wp2
          go_quiet (fail)
          go_wp2
          · have he : (t1.toList == t0.toList) = true := by assumption
            go_roundw
            case rel =>
              have hf : finB n (nm ks) k = false := finB_false hkl hl' (by rw [hnl.out, hnk.out]; exact str_eq he)
              refine ⟨k + 1, by omega, by go_num, (xs.set k (.bool true)).set k (.bool false), by simpa using hxl, (hrow.drewN _).set k _, ?_, (below_drewN hbel _).setCell (Nat.le_refl _) _⟩
              rw [List.set_set]
              exact done_step (by omega) HD.out hf
            case measure => simp [intOf]; omega
          · have he : (t1.toList == t0.toList) = false := by assumption
            go_roundw
            case rel =>
              refine ⟨l + 1, by omega, by omega, by go_num, ?_, hrow.drewN _, below_drewN hbel _⟩
              intro j' h1 h2
              by_cases e : j' = l
              · rw [e, hnl.out, hnk.out]; exact str_ne he
              · exact HN.out j' h1 (by omega)
            case measure => simp [intOf]; omega
        · go_wp2
          go_roundw
          case rel =>
            have hf : finB n (nm ks) k = true := finB_true fun j h1 h2 => HN.out j h1 (by omega)
            exact ⟨k + 1, by omega, by go_num, xs.set k (.bool true), by simpa using hxl, hrow, done_step (by omega) HD.out hf, hbel⟩
          case measure => simp [intOf]; omega
    · go_wp2
      go_ret
      have e : xs = fins n (nm ks) := fins_of hxl fun i h => HD.out i (by omega)
      exact ⟨rfl, e ▸ hrow, hbel⟩

theorem mk_none (W : World) : (Instr.makeSlice 25 (.int .i64 0) (.int .i64 0)).run Try.prog W = .ok (.slice (some ⟨W.heap.size, 0, none⟩) 0 0) (W.alloc (.cells #[] 4)) := by kernel_rfl

set_option maxHeartbeats 1000000 in
theorem fin_none (a : Option Addr) (c : Nat) (K : Nat → List UInt8) (w : World) :
    Calls Try.prog 5 #[.slice a 0 c] w fun e w' => e = .returned (.slice (some ⟨w.heap.size, 0, none⟩) 0 0) ∧ HasRow w' w.heap.size 4 (fins 0 K) ∧ Below w.heap.size w w' := by
  have hmk := mk_none
  go_enter Try.func5, Try.ntmps5
  go_wp2
  go_loopw [4] (fun i wr => i = .int .i64 0 ∧ HasRow wr w.heap.size 4 (fins 0 K) ∧ Below w.heap.size w wr) (fun i _ => 0)
  case atStart => exact ⟨rfl, (MapKept.heap_alloc w _).1, (Below.refl _ _).alloc (Nat.le_refl _) _⟩
  case round =>
    obtain ⟨rfl, hrow, hbel⟩ := hrel
    go_wp2
    go_ret
    exact ⟨rfl, hrow, hbel⟩

theorem fin_calls (a : Option Addr) (c n : Nat) (ks : List ByteArray) (w : World) (hk : ks.length = n) (hn : n ≤ 1024) (h : RowAt w a (ks.map .string)) :
    Calls Try.prog 5 #[.slice a n c] w fun e w' => e = .returned (.slice (some ⟨w.heap.size, 0, none⟩) n n) ∧ HasRow w' w.heap.size 4 (fins n (nm ks)) ∧ Below w.heap.size w w' := by
  rcases h with h | ⟨b, off, rfl, hb, hc⟩
  · have e : ks = [] := by simpa using h
    obtain rfl : n = 0 := by rw [← hk, e]; rfl
    exact fin_none a c _ w
  · refine fin_some b off c n ks w hk hn hb (fun k h => hc k _ ?_)
    rw [List.getElem?_map, List.getD_eq_getElem?_getD, List.getElem?_eq_getElem (by omega)]
    rfl

end Go.Proofs.Qxb6613641a
