/- HandOut, whole. -/
import Derived.Test.Qxb6613726aHandK
namespace Go.Proofs.Qxb6613726a
open Go Go.RowKit Go.Sort Plain
set_option linter.unusedVariables false

theorem makeCap (s N : Nat) (h : N ≤ 4096) (W : World) : (Instr.makeSlice 32 (.int .i64 0) (.int .i64 (min (s : Int) (N : Int)))).run Try.prog W = .ok (.slice (some ⟨W.heap.size, 0, none⟩) 0 (min s N)) (W.alloc (.cells (madeCells #[.int .i64 0] (min s N)) 3)) := by
  have ec : (min (s : Int) (N : Int)) = ((min s N : Nat) : Int) := by omega
  rw [ec]
  obtain ⟨i, hi, hzz⟩ := Option.map_eq_some_iff.1 info3
  simp only [Prod.mk.injEq] at hzz
  obtain ⟨hz, hs, hb⟩ := hzz
  have h0 := run_make (P := Try.prog) W 32 3 i (.int .i64 0) Try.underlying32 hi hz .i64 .i64 0 ((min s N : Nat) : Int) (by omega) (by omega) (by rw [hb]; omega) (by omega)
  have e : (Value.int IntKind.i64 0).cells = #[.int .i64 0] := rfl
  rw [hs, Nat.mul_one, e, Int.toNat_natCast] at h0
  exact h0

theorem rel2_start (w : World) (C : Nat) : Rel2 (w.alloc (.cells (madeCells #[.int .i64 0] C) 3)) w.heap.size C [] :=
  ⟨_, hasRow_made _ _ _ _, by simp, fun j h => by simp at h⟩

set_option maxHeartbeats 4000000 in
set_option maxRecDepth 100000 in
theorem hand_calls (a0 a2 : Option Addr) (N m c0 c2 : Nat) (fv : Value) (K : Int → Bool) (fs : List Int) (ns : List Nat) (w : World)
    (hN : N ≤ 4096) (hm : m ≤ 4096) (lf : fs.length = N) (ln : ns.length = m) (hsum : ns.sum ≤ 9223372036854775807)
    (r0 : RowAt w a0 (cells fs)) (r2 : RowAt w a2 (cells (ns.map Int.ofNat))) (hfv : KeptFn w fv K) :
    Calls Try.prog 10 #[.slice a0 N c0, fv, .slice a2 m c2] w fun e w' => HandPost (order K fs) ns m w e w' := by
  have R0 : Hid (RowAt w a0 (cells fs)) := r0
  have R2 : Hid (RowAt w a2 (cells (ns.map Int.ofNat))) := r2
  have LF : Hid (fs.length = N) := lf
  have LN : Hid (ns.length = m) := ln
  have FV : Hid (KeptFn w fv K) := hfv
  have hmk := makeCap ns.sum N hN
  clear r0 r2 lf ln hfv
  go_enter Try.func10, Try.ntmps10
  go_wp2
  go_loop [7, 20] (fun t i => ∃ k : Nat, k ≤ m ∧ i = .int .i64 k ∧ ∃ s : Nat, t = .int .i64 s ∧ s ≤ ns.sum ∧ Hid (s = (ns.take k).sum)) (fun _ i => m - (intOf i).toNat)
  case atStart => exact ⟨0, Nat.zero_le _, rfl, 0, rfl, Nat.zero_le _, by simp [Hid]⟩
  case round =>
    obtain ⟨k, hk, rfl, s, rfl, hs, HS⟩ := hrel
    by_cases hlt : (k : Int) < (m : Int)
    · obtain ⟨p2, o2, rfl, hp2, C2⟩ := row_ints R2.out (by simpa using LN.out) (by omega)
      have k2 := C2.out k (by omega)
      rw [ofNat_getD] at k2
      have HS1 : Hid ((ns.take (k + 1)).sum = s + ns.getD k 0) := by
        show _ = _
        rw [sum_take_succ (by rw [LN.out]; omega), HS.out]
      have hle : s + ns.getD k 0 ≤ ns.sum := by rw [← HS1.out]; exact sum_take_le _ _
      generalize ns.getD k 0 = n at *
      go_wp2
      go_round
      case rel => exact ⟨k + 1, by omega, by go_num, s + n, by go_num, hle, HS1.out.symm⟩
      case measure => simp [intOf]; omega
    · obtain rfl : k = m := by omega
      have es : s = ns.sum := by rw [HS.out, List.take_of_length_le (by rw [LN.out]; omega)]
      clear HS
      subst es
      go_upto_region 7 with fail
      go_cut [10] (fun od wc => od = .slice (some ⟨w.heap.size, 0, none⟩) 0 (min ns.sum N) ∧ wc = w.alloc (.cells (madeCells #[.int .i64 0] (min ns.sum N)) 3))
      case first =>
        go_wp2
        go_meet
        case rel => exact ⟨rfl, rfl⟩
      case rest =>
        obtain ⟨rfl, rfl⟩ := hcut
        go_step
        exact hand_mid a0 a2 N k c0 c2 w.heap.size fv K fs ns w _ _ _ _ _ _ _ _ _ _ _ _ _ _ _ _ _ _ _ _ _ _ _ _ _ _ _ _ _ _ _ _ _ _ _ _ _ _ _ _ _ _ _ _ _ _ _ _ _ _ _ _ _ _ _ _ _ _ _ _ _ _ _ _ _ _ _ _ _ _ _ _ _ _ _ _ _ _ _ _ _ _ _ _ _ _ _ _ _ _ _ _ _ _ _ _ _ _ _ _ _ _ _ _ _ hN hm LF LN hsum R0 R2 (rel2_start _ _) ((Below.refl _ _).alloc (Nat.le_refl _) _) (Nat.le_refl _) FV

end Go.Proofs.Qxb6613726a
