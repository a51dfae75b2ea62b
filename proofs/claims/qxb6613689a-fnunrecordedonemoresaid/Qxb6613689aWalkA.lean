/- ZZNewVerdict, ZZVerdictUnrecorded. -/
import Derived.Test.Qxb6613689aProg
import Derived.WalkKit
import Derived.KernelRfl
import Derived.RowKit3
import Derived.RegionTactic
import Derived.BigRegion
import Derived.BigQuiet
import Derived.Deep.QuietTactic
import Derived.WalkLawsBesides
namespace Go.Proofs.Qxb6613689a
open Go Go.RowKit

/-- At block b lies a verdict whose three lists have these lengths. -/
def Verd (w : World) (b p r l : Nat) : Prop :=
  ∃ x y z, w.cell? ⟨b, 14, none⟩ = some (.slice x p p) ∧ w.cell? ⟨b, 15, none⟩ = some (.slice y r r) ∧ w.cell? ⟨b, 16, none⟩ = some (.slice z l l)

theorem info62 : (Try.prog.info? 62).map (fun i => (i.zero.isSome, decide (i.bytes ≤ 1000000))) = some (true, true) := by kernel_rfl

theorem make62 (n : Nat) (hn : n ≤ 4097) : ∃ A : Array Value, ∀ W, (Instr.makeSlice 28 (.int .i64 (n : Int)) (.int .i64 (n : Int))).run Try.prog W = .ok (.slice (some ⟨W.heap.size, 0, none⟩) n n) (W.alloc (.cells A 62)) := by
  obtain ⟨i, hi, h⟩ := Option.map_eq_some_iff.1 info62
  simp only [Prod.mk.injEq, decide_eq_true_eq] at h
  obtain ⟨h1, h2⟩ := h
  obtain ⟨z, hz⟩ := Option.isSome_iff_exists.1 h1
  refine ⟨madeCells z.cells (n * i.size), fun W => ?_⟩
  have hb : (i.bytes : Int) * (n : Int) ≤ 281474976710656 := by
    have h3 : i.bytes * n ≤ 1000000 * 4097 := Nat.mul_le_mul h2 hn
    have h4 : ((i.bytes * n : Nat) : Int) ≤ 281474976710656 := by omega
    rwa [Int.natCast_mul] at h4
  have := run_make (P := Try.prog) W 28 62 i z Try.underlying28 hi hz .i64 .i64 n n (by omega) (Int.le_refl _) hb (by omega)
  simpa using this

theorem verd_new {W : World} {B p r l : Nat} {v0 v1 v2 v3 v4 v5 v6 v7 v8 v9 v10 v11 v12 v13 v17 : Value} {x y z : Option Addr} (h : B = W.heap.size) :
    Verd (W.alloc (.cells #[v0, v1, v2, v3, v4, v5, v6, v7, v8, v9, v10, v11, v12, v13, .slice x p p, .slice y r r, .slice z l l, v17] 39)).drew B p r l := by
  subst h
  refine ⟨x, y, z, ?_, ?_, ?_⟩
  all_goals
    show (W.alloc _).cell? _ = _
    rw [World.cell?_alloc_at _ _ _ _ rfl]
    rfl

set_option maxHeartbeats 1000000 in
theorem new_calls (p r l : Nat) (w : World) (h1 : p ≤ 4097) (h2 : r ≤ 4097) (h3 : l ≤ 4097) :
    Calls Try.prog 6 #[.int .i64 (p : Int), .int .i64 (r : Int), .int .i64 (l : Int)] w fun e w' => ∃ b, e = .returned (.pointer (some ⟨b, 0, none⟩)) ∧ Verd w' b p r l ∧ Grown w w' := by
  obtain ⟨A, hp⟩ := make62 p h1
  obtain ⟨B, hr⟩ := make62 r h2
  obtain ⟨C, hl⟩ := make62 l h3
  go_enter Try.func6, Try.ntmps6
  go_wp2
  go_region
  all_goals
    go_wp2
    go_ret
    exact ⟨_, rfl, verd_new (by simp), by repeat (first | exact Grown.refl _ | apply Grown.drew | apply Grown.alloc)⟩

set_option maxHeartbeats 1000000 in
theorem unrec7 (b p r l : Nat) (w : World) (h : Verd w b p r l) (h1 : p ≤ 4097) (h2 : r ≤ 4097) (h3 : l ≤ 4097) :
    Calls Try.prog 7 #[.pointer (some ⟨b, 0, none⟩)] w fun e w' => e = .returned (.int .i64 ((p : Int) + r + l)) ∧ ∃ n, w' = w.drewN n := by
  obtain ⟨x, y, z, cx, cy, cz⟩ := h
  go_enter Try.func7, Try.ntmps7
  go_wp2
  go_quiet (fail)
  go_wp2
  go_ret
  exact ⟨rfl, _, rfl⟩

theorem unrec_calls (b p r l : Nat) (w : World) (h : Verd w b p r l) (h1 : p ≤ 4097) (h2 : r ≤ 4097) (h3 : l ≤ 4097) :
    Calls Try.prog 5 #[.pointer (some ⟨b, 0, none⟩)] w fun e w' => e = .returned (.int .i64 ((p : Int) + r + l)) ∧ Grown w w' := by
  have H7 : Hid (∀ W, W = w → Calls Try.prog 7 #[.pointer (some ⟨b, 0, none⟩)] W fun e w' => e = .returned (.int .i64 ((p : Int) + r + l)) ∧ ∃ n, w' = W.drewN n) := fun W e => by
    subst e
    exact unrec7 b p r l W h h1 h2 h3
  clear h
  go_enter Try.func5, Try.ntmps5
  go_wp2_with fail
  refine (H7.out _ rfl).mono ?_
  rintro e w1 ⟨rfl, n, rfl⟩
  go_wp2
  go_ret
  exact ⟨rfl, Grown.refl w⟩

theorem grown_trans {a b c : World} (h : Grown a b) (k : Grown b c) : Grown a c :=
  ⟨World.keptBut_trans h.1 k.1, fun x => (k.2.1 x).trans (h.2.1 x), Nat.le_trans h.2.2 k.2.2⟩

end Go.Proofs.Qxb6613689a
