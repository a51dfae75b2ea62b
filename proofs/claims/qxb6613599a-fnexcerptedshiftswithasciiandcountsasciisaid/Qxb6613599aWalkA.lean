import Derived.Test.Qxb6613599aProg
import Derived.Test.Qxb6613599aPlain
import Derived.WalkKit
import Derived.RowKit3
import Derived.Lib.Walk
import Derived.Laws.RangeString
import Derived.Laws.RangeAny
import Derived.LoopTactic
import Derived.Deep.LoopGhost
import Derived.Deep.RegionWith
import Derived.BigQuiet
namespace Go.Proofs.Qxb6613599a
open Go Go.RowKit

set_option maxHeartbeats 1000000 in
set_option maxRecDepth 100000 in
/-- Go's own text of the library's function, walked: the number of runes; one block more, the iterator. -/
theorem count_calls (s : ByteArray) (w : World) (hs : s.size < 9223372036854775807) :
    Calls Try.prog 8 #[.string s] w fun e w' => e = .returned (.int .i64 (Lib.runeCount s)) ∧ ∃ pos, w' = w.iter s pos := by
  go_enter Try.func8, Try.ntmps8
  go_wp2
  go_loopw [2] (fun n w' => ∃ (pos b acc : Nat), w' = w.iter s pos ∧ n = .int .i64 acc ∧ acc + Lib.runeCountFrom s b pos = Lib.runeCount s ∧ s.size ≤ pos + b ∧ acc ≤ pos) (fun _ w' => s.size - w'.iterPos w.heap.size)
  case atStart => exact ⟨0, s.size, 0, rfl, rfl, by simp [Lib.runeCount], by omega, Nat.le_refl _⟩
  case round =>
    obtain ⟨pos, b, acc, rfl, rfl, hc, hb, ha⟩ := hrel
    by_cases hp : pos < s.size
    · have hnx : ∀ ty, (Instr.next (.pointer (some ⟨w.heap.size, 0, none⟩)) true ty).run Try.prog (w.iter s pos) = _ := fun ty => run_next_any w s pos ty hp
      have hwd := Lib.decode_width_pos s pos hp
      go_wp2
      go_roundw
      case rel =>
        cases b with
        | zero => omega
        | succ b =>
          refine ⟨pos + (Utf8.decode s pos).2, b, acc + 1, rfl, by go_num, ?_, by omega, by omega⟩
          rw [← hc]
          simp [Lib.runeCountFrom, hp]
          omega
      case measure =>
        simp
        omega
    · have hnx : ∀ ty, (Instr.next (.pointer (some ⟨w.heap.size, 0, none⟩)) true ty).run Try.prog (w.iter s pos) = _ := fun ty => run_next_end w s pos ty hp
      go_wp2
      go_ret
      rw [Lib.runeCountFrom_end s b pos hp, Nat.add_zero] at hc
      subst hc
      exact ⟨rfl, _, rfl⟩

/-- A text of ASCII alone, as a Bool that no simp lays open. -/
def asciiB (s : ByteArray) : Bool := s.data.toList.all fun c => decide (c.toNat < 128)

theorem asciiB_true {s : ByteArray} (h : ∀ k, (hk : k < s.size) → (s[k]'hk).toNat < 128) : asciiB s = true := by
  unfold asciiB
  rw [List.all_eq_true]
  intro c hc
  obtain ⟨i, hi, rfl⟩ := List.getElem_of_mem hc
  have hi' : i < s.size := by simpa using hi
  have h1 : (s[i]'hi').toNat < 128 := h i hi'
  exact decide_eq_true h1

theorem asciiB_false {s : ByteArray} {k : Nat} (hk : k < s.size) (h : 128 ≤ (s[k]'hk).toNat) : asciiB s = false := by
  cases e : asciiB s with
  | false => rfl
  | true =>
    unfold asciiB at e
    rw [List.all_eq_true] at e
    have := e (s[k]'hk) (by exact List.getElem_mem (l := s.data.toList) (by simpa using hk))
    simp at this
    omega

theorem asciiB_ascii {s : ByteArray} (h : asciiB s = true) : Plain.Ascii s := by
  intro k hk
  unfold asciiB at h
  rw [List.all_eq_true] at h
  have := h (s[k]'hk) (by exact List.getElem_mem (l := s.data.toList) (by simpa using hk))
  simpa using this

/-- The first k bytes are ASCII. -/
def asciiTo (s : ByteArray) (k : Nat) : Bool := (s.data.toList.take k).all fun c => decide (c.toNat < 128)

theorem asciiTo_zero (s : ByteArray) : asciiTo s 0 = true := by simp [asciiTo]
theorem asciiTo_succ {s : ByteArray} {k : Nat} (hk : k < s.size) (h : asciiTo s k = true) (hc : (s[k]'hk).toNat < 128) : asciiTo s (k + 1) = true := by
  unfold asciiTo at h ⊢
  rw [List.take_succ_eq_append_getElem (by simpa using hk), List.all_append, h]
  have h1 : decide ((s.data.toList[k]'(by simpa using hk)).toNat < 128) = true := decide_eq_true hc
  simp only [List.all_cons, List.all_nil, Bool.and_true, Bool.true_and]
  exact h1
theorem asciiTo_end {s : ByteArray} {k : Nat} (hk : ¬ k < s.size) (h : asciiTo s k = true) : asciiB s = true := by
  unfold asciiTo at h
  have e : s.data.toList.length = s.size := rfl
  rw [List.take_of_length_le (by omega)] at h
  exact h

set_option maxHeartbeats 400000 in
set_option maxRecDepth 100000 in
theorem ascii_calls (s : ByteArray) (w : World) (hs : s.size ≤ maxLen) :
    Calls Try.prog 6 #[.string s] w fun e w' => e = .returned (.bool (asciiB s)) ∧ w' = w := by
  unfold maxLen at hs
  go_enter Try.func6, Try.ntmps6
  go_wp2
  go_loop [3] (fun i => ∃ k : Nat, k ≤ s.size ∧ i = .int .i64 k ∧ asciiTo s k = true) (fun i => s.size - (intOf i).toNat)
  case atStart => exact ⟨0, Nat.zero_le _, rfl, asciiTo_zero s⟩
  case round =>
    obtain ⟨k, hk, rfl, hall⟩ := hrel
    by_cases hlt : k < s.size
    · go_wp2
      · have h1 : 128 ≤ (s[k].toNat : Int) := by assumption
        go_ret
        exact ⟨by rw [asciiB_false hlt (by omega)]; rfl, rfl⟩
      · have h1 : (s[k].toNat : Int) < 128 := by assumption
        go_round
        case rel => exact ⟨k + 1, by omega, by go_num, asciiTo_succ hlt hall (by omega)⟩
        case measure => simp [intOf]; omega
    · go_wp2
      go_ret
      exact ⟨by rw [asciiTo_end hlt hall]; rfl, rfl⟩

/-- The bound on the bytes, all at once. -/
def smallB (a b c : Nat) : Bool := decide (a ≤ 1048576 ∧ a + b ≤ 1048576 ∧ a + b + c ≤ 1048576)
theorem smallB_yes {a b c : Nat} (h : a + b + c ≤ 1048576) : smallB a b c = true := decide_eq_true (by omega)
theorem smallB_no {a b c : Nat} (h : 1048576 < a + b + c) : smallB a b c = false := decide_eq_false (by omega)

set_option maxHeartbeats 400000 in
theorem bytes_calls (n : Int) (a b c : ByteArray) (w : World) (ha : a.size ≤ maxLen) (hb : b.size ≤ maxLen) (hc : c.size ≤ maxLen) :
    Calls Try.prog 4 #[.int .i64 n, .string a, .string b, .string c] w fun e w' => e = .returned (.bool (smallB a.size b.size c.size)) ∧ w' = w := by
  unfold maxLen at ha hb hc
  by_cases hy : a.size + b.size + c.size ≤ 1048576
  · rw [smallB_yes hy]
    go_enter Try.func4, Try.ntmps4
    go_wp2
    go_ret
    exact ⟨rfl, rfl⟩
  · rw [smallB_no (by omega)]
    go_enter Try.func4, Try.ntmps4
    go_wp2
    all_goals first
    | (exfalso; omega)
    | (go_ret; exact ⟨rfl, rfl⟩)

/-- What becomes of the world in a call that only makes memory: all that lay there lies there still, and no mark has turned. -/
structure Kept (w w' : World) : Prop where
  below : Below w.heap.size w w'
  grown : Grown w w'

theorem Kept.refl (w : World) : Kept w w := ⟨Below.refl _ _, Grown.refl _⟩
theorem Kept.trans {a b c : World} (h : Kept a b) (k : Kept b c) : Kept a c :=
  ⟨h.below.trans (k.below.mono h.below.size), ⟨World.keptBut_trans h.grown.1 k.grown.1, fun x => (k.grown.2.1 x).trans (h.grown.2.1 x), Nat.le_trans h.grown.2.2 k.grown.2.2⟩⟩
theorem Kept.alloc (w : World) (c : Array Value) (t : TypeId) : Kept w (w.alloc (.cells c t)) :=
  ⟨(Below.refl _ _).alloc (Nat.le_refl _) _, (Grown.refl _).alloc _ _⟩
theorem Kept.drew (w : World) : Kept w w.drew := ⟨⟨rfl, rfl, rfl, Nat.le_refl _, fun _ _ => rfl⟩, Grown.refl w⟩
theorem Kept.drewN (w : World) (n : Nat) : Kept w (w.drewN n) := ⟨⟨rfl, rfl, rfl, Nat.le_refl _, fun _ _ => rfl⟩, Grown.refl w⟩

theorem frozen?_iter (w : World) (s : ByteArray) (p : Nat) (a : Addr) : (w.iter s p).frozen? a = w.frozen? a := by
  by_cases h : a.block = w.heap.size
  · have e1 : (w.iter s p).heap[a.block]? = some (.stringIter s p) := by rw [h]; exact (MapKept.heap_alloc w _).1
    have e2 : w.heap[a.block]? = none := by rw [h]; simp
    simp [World.frozen?, e1, e2]
  · exact World.frozen?_alloc_old _ _ _ h
theorem Kept.iter (w : World) (s : ByteArray) (p : Nat) : Kept w (w.iter s p) :=
  ⟨(Below.refl _ _).alloc (Nat.le_refl _) _, ⟨World.keptBut_alloc _ _ _, frozen?_iter w s p, by show w.heap.size ≤ (w.heap.push _).size; simp⟩⟩

/-- The settings, as the law makes them; the candidate, as the law makes her. -/
def opts (n : Int) : Array Value := #[Value.string { data := #[] }, Value.string { data := #[] }, Value.string { data := #[] },
        Value.string { data := #[] }, Value.pointer none, Value.int IntKind.i64 0, Value.map none,
        Value.int IntKind.i64 0, Value.int IntKind.i64 0, Value.int IntKind.i64 0, Value.int IntKind.i64 n]
def cand (u t : ByteArray) : Array Value := #[Value.string { data := #[] }, Value.float FloatKind.f64 0, Value.string { data := #[] }, Value.string u,
        Value.string t, Value.slice none 0 0, Value.string { data := #[] }, Value.map none]

/-- What 'excerpted' answers: a Bool that no simp lays open. -/
def excB (n : Int) (t : ByteArray) : Bool := decide (n < (Lib.runeCount t : Int))

theorem bcell {W w1 : World} (hb : Below W.heap.size W w1) : (∀ b o, b < W.heap.size → w1.cell? ⟨b, o, none⟩ = W.cell? ⟨b, o, none⟩) ∧ (∀ b o, b < W.heap.size → w1.frozen? ⟨b, o, none⟩ = W.frozen? ⟨b, o, none⟩) :=
  ⟨fun b o h => hb.cell (p := ⟨b, o, none⟩) h, fun b o h => hb.frozen (p := ⟨b, o, none⟩) h⟩

theorem count_kept (s : ByteArray) (w : World) (hs : s.size < 9223372036854775807) :
    Calls Try.prog 8 #[.string s] w fun e w' => e = .returned (.int .i64 (Lib.runeCount s)) ∧ Kept w w' := by
  refine (count_calls s w hs).mono ?_
  rintro e w' ⟨rfl, pos, rfl⟩
  exact ⟨rfl, Kept.iter _ _ _⟩

set_option maxHeartbeats 1000000 in
theorem exc7 (n : Int) (t u : ByteArray) (w : World) (ht : t.size < 9223372036854775807) :
    Calls Try.prog 7 #[.agg (opts n), .agg (cand u t)] w fun e w' => e = .returned (.bool (excB n t)) ∧ Kept w w' := by
  unfold opts cand excB
  have hle := Lib.runeCount_le t
  go_enter Try.func7, Try.ntmps7
  go_wp2
  go_region_with (go_at_call 8; refine (count_kept t _ ht).mono ?_; rintro e w1 ⟨rfl, hk⟩; obtain ⟨hc, hf⟩ := bcell hk.below)
  all_goals
    go_wp2
    go_ret
    exact ⟨rfl, (((Kept.alloc _ _ _).trans (Kept.alloc _ _ _)).trans (Kept.drew _)).trans hk⟩

set_option maxHeartbeats 1000000 in
theorem exc5 (n : Int) (t u : ByteArray) (w : World) (ht : t.size < 9223372036854775807) :
    Calls Try.prog 5 #[.agg (opts n), .agg (cand u t)] w fun e w' => e = .returned (.bool (excB n t)) ∧ Kept w w' := by
  have h7 := fun W => exc7 n t u W ht
  unfold opts cand at h7 ⊢
  have H7 : Hid _ := h7
  clear h7
  go_enter Try.func5, Try.ntmps5
  go_wp2_with fail
  refine (H7.out _).mono ?_
  rintro e w1 ⟨rfl, hk⟩
  go_wp2
  go_ret
  exact ⟨rfl, ((Kept.alloc _ _ _).trans (Kept.alloc _ _ _)).trans hk⟩

/-! ### The plain law at 'excB' -/
theorem exc_ascii {n : Int} {t : ByteArray} (h : asciiB t = true) : decide (n < (t.size : Int)) = excB n t := by
  unfold excB
  rw [Plain.count_ascii t (asciiB_ascii h)]
theorem exc_ahead {n : Int} {t p : ByteArray} (h : asciiB p = true) : excB (n + (p.size : Int)) (p ++ t) = excB n t := by
  unfold excB
  rw [Plain.count_ahead p t (asciiB_ascii h), decide_eq_decide]
  omega
theorem exc_behind {n : Int} {t p : ByteArray} (h : asciiB p = true) : excB (n + (p.size : Int)) (t ++ p) = excB n t := by
  unfold excB
  rw [Plain.count_behind t p (asciiB_ascii h), decide_eq_decide]
  omega

end Go.Proofs.Qxb6613599a
