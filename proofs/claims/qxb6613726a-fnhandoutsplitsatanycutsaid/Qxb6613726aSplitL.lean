/- Law 5, whole: the tests at its head, the copies. -/
import Derived.Test.Qxb6613726aSplitM
namespace Go.Proofs.Qxb6613726a
open Go Go.RowKit Go.Sort Plain
set_option linter.unusedVariables false

/-- A copy of the nodes: its capacity is its length. -/
def Copy2 (w : World) (v : Value) (n : Nat) (X : List Value) (wc : World) : Prop := Below w.heap.size w wc ∧ ∃ a, v = .slice a n n ∧ ((a = none ∧ n = 0) ∨ ∃ p o, a = some ⟨p, o, none⟩) ∧ RowAt wc a X

set_option maxHeartbeats 8000000 in
set_option maxRecDepth 100000 in
theorem split_head (a0 a1 a2 : Option Addr) (n0 n1 n2 c0 c1 c2 : Nat) (z : Int) (fs ks zs : List Int) (w : World) (l0 : fs.length = n0) (l1 : ks.length = n1) (l2 : zs.length = n2)
    (m0 : n0 ≤ maxLen) (m1 : n1 ≤ maxLen) (m2 : n2 ≤ maxLen) (r0 : RowAt w a0 (cells fs)) (r1 : RowAt w a1 (cells ks)) (r2 : RowAt w a2 (cells zs)) (hn2 : a2 = none → n2 = 0 ∧ c2 = 0) :
    Calls Try.prog 4 #[.slice a0 n0 c0, .slice a1 n1 c1, .slice a2 n2 c2, .int .i64 z] w fun e w' => e = .returned (.bool true) ∧ Below w.heap.size w w' := by
  have H11 : Hid (∀ W, Calls Try.prog 11 #[.slice a0 n0 c0, .slice a1 n1 c1, .slice a2 n2 c2, .int .i64 z] W fun e w' => SomeBool e W w') := fun W => bytes11 a0 a1 a2 n0 n1 n2 c0 c1 c2 z W m0 m1 m2
  have H6 : Hid (∀ W, RowAt W a0 (cells fs) → Calls Try.prog 6 #[.slice a0 n0 c0] W fun e w' => SaidInc fs e W w') := fun W h => inc_calls a0 c0 n0 fs W l0 m0 h
  have H7 : Hid (∀ W, RowAt W a2 (cells zs) → Calls Try.prog 7 #[.slice a2 n2 c2] W fun e w' => SaidDom zs e W w') := fun W h => dom_calls a2 c2 n2 zs W l2 m2 h
  have HKB : Hid (KeptBox (w.alloc (.cells #[.slice a1 n1 c1] 22)) w.heap.size a1 n1 c1 ks) := keptBox_made l1 m1 r1
  have R0 : Hid (RowAt w a0 (cells fs)) := r0
  have R2 : Hid (RowAt w a2 (cells zs)) := r2
  have L0 : Hid (fs.length = n0) := l0
  have L2 : Hid (zs.length = n2) := l2
  have HN2 : Hid (a2 = none → n2 = 0 ∧ c2 = 0) := hn2
  clear r0 r1 r2 l0 l1 l2 hn2
  unfold maxLen at m0 m1 m2
  go_enter Try.func4, Try.ntmps4
  go_upto_region 0 with fail
  go_cut [5, 8] (fun p _ wc => ∃ bx, p = .pointer (some ⟨bx, 0, none⟩) ∧ Hid (KeptBox wc bx a1 n1 c1 ks) ∧ Hid (Below w.heap.size w wc))
  case first =>
    go_wp2
    go_meet
    case rel => exact ⟨_, rfl, HKB, (Below.refl _ _).alloc (Nat.le_refl _) _⟩
  case rest =>
    clear HKB
    obtain ⟨bx, rfl, KB, HB⟩ := hcut
    obtain ⟨wz, rfl⟩ : ∃ wz : World, wz = wc := ⟨_, rfl⟩
    have kb := KB.out.box
    go_wp2_with fail
    refine (H11.out _).mono ?_
    rintro e wz ⟨b, rfl, rfl⟩
    cases b
    · go_wp2
      go_ret
      exact ⟨rfl, HB.out⟩
    by_cases h0 : 4096 < (n0 : Int)
    · go_wp2
      go_ret
      exact ⟨rfl, HB.out⟩
    by_cases h1 : 4096 < (n1 : Int)
    · go_wp2
      go_ret
      exact ⟨rfl, HB.out⟩
    by_cases h2 : 4096 < (n2 : Int)
    · go_wp2
      go_ret
      exact ⟨rfl, HB.out⟩
    have hN : n0 ≤ 4096 := by omega
    have hm : n2 ≤ 4096 := by omega
    go_wp2_with fail
    refine (H6.out _ (R0.out.kept HB.out)).mono ?_
    rintro e w1 ⟨b, rfl, hI, n, rfl⟩
    have HI : Hid (b = true → IncTo fs fs.length) := hI
    have hd : Below wz.heap.size wz (wz.drewN n) := below_drewN (Below.refl _ _) n
    have KB1 : Hid (KeptBox (wz.drewN n) bx a1 n1 c1 ks) := KB.out.kept hd
    have HB1 : Hid (Below w.heap.size w (wz.drewN n)) := below_drewN HB.out n
    clear hI hd KB HB kb H11 H6
    generalize wz.drewN n = wd at *
    clear wz
    cases b
    · go_wp2
      go_ret
      exact ⟨rfl, HB1.out⟩
    have HRI : Hid (Rising fs) := rising_of (HI.out rfl)
    go_wp2_with fail
    refine (H7.out _ (R2.out.kept HB1.out)).mono ?_
    rintro e wd ⟨b, rfl, hD, rfl⟩
    have HD : Hid (b = true → (∀ i, i < zs.length → 0 ≤ zs.getD i 0) ∧ sumTo zs zs.length ≤ 9223372036854775807) := hD
    clear hD H7 HI
    cases b
    · go_wp2
      go_ret
      exact ⟨rfl, HB1.out⟩
    by_cases hz0 : z < 0
    · go_wp2
      go_ret
      exact ⟨rfl, HB1.out⟩
    by_cases hz1 : (n2 : Int) < z
    · go_wp2
      go_ret
      exact ⟨rfl, HB1.out⟩
    obtain ⟨k, rfl⟩ : ∃ k : Nat, z = (k : Int) := ⟨z.toNat, by omega⟩
    have hk : k ≤ n2 := by omega
    obtain ⟨ns, hzs, hln, hsum⟩ := nat_row (HD.out rfl).1 (HD.out rfl).2
    have LN : Hid (ns.length = n2) := hln.trans L2.out
    have EZ : Hid (zs = ns.map Int.ofNat) := hzs
    clear HD hln hzs
    have R01 : Hid (RowAt wd a0 (cells fs)) := R0.out.kept HB1.out
    have R21 : Hid (RowAt wd a2 (cells zs)) := R2.out.kept HB1.out
    have LX0 : Hid ((cells fs).length = n0) := by show _ = _; rw [cells_length]; exact L0.out
    have LX2 : Hid ((cells zs).length = n2) := by show _ = _; rw [cells_length]; exact L2.out
    have OX0 : Hid (∀ v ∈ cells fs, v.oneCell' = true) := cells_one fs
    have OX2 : Hid (∀ v ∈ cells zs, v.oneCell' = true) := cells_one zs
    have hmk0 := fun W => run_make_row' (P := Try.prog) 22 3 (.int .i64 0) 8 Try.underlying22 info3 rfl .i64 .i64 n0 (by omega) (by omega) W
    have hmk2 := fun W => run_make_row' (P := Try.prog) 23 2 (.int .i64 0) 8 Try.underlying23 info2 rfl .i64 .i64 n2 (by omega) (by omega) W
    clear R0 R2
    go_upto_if 58 with fail
    go_cut [0, 9] (fun v _ wc => Copied wd v n0 (cells fs) wc)
    case first =>
      cases a0 with
      | none =>
        go_wp2
        go_meet
        case rel => exact copied_none (Below.refl _ _) R01.out
      | some x =>
        go_upto_region 17 with fail
        go_wp2_with (refine wpList_copy_made rfl (.tmp 62) (.tmp 63) 22 3 rfl Try.underlying22 size3 _ _ n0 _ _ _ (cells fs) LX0.out OX0.out wd (Below.refl _ _) R01.out rfl rfl ?_; intro w2 HG2 hB2)
        go_meet
        case rel => exact copied_some hB2 HG2
    case rest =>
      obtain ⟨B0, b0, d0, rfl, Q0⟩ := hcut
      obtain ⟨wx, rfl⟩ : ∃ wx : World, wx = wc := ⟨_, rfl⟩
      have HB0 : Hid (Below wd.heap.size wd wx) := B0
      have HQ0 : Hid (RowAt wx b0 (cells fs)) := Q0
      clear B0 Q0
      go_upto_if 67 with fail
      go_cut [2, 10] (fun v _ wc => Copy2 wx v n2 (cells zs) wc)
      case first =>
        cases a2 with
        | none =>
          obtain ⟨e1, e2⟩ := HN2.out rfl
          subst e1 e2
          go_wp2
          go_meet
          case rel => exact ⟨Below.refl _ _, none, rfl, .inl ⟨rfl, rfl⟩, R21.out.kept HB0.out⟩
        | some x =>
          go_upto_region 21 with fail
          go_wp2_with (refine wpList_copy_made rfl (.tmp 71) (.tmp 72) 23 2 rfl Try.underlying23 size2 _ _ n2 _ _ _ (cells zs) LX2.out OX2.out wx (Below.refl _ _) (R21.out.kept HB0.out) rfl rfl ?_; intro w2 HG2 hB2)
          go_meet
          case rel => exact ⟨hB2, _, rfl, .inr ⟨_, _, rfl⟩, HG2.rowAt⟩
      case rest =>
        obtain ⟨k1, b2, rfl, hA, Q1⟩ := hcut
        have T2 : RowAt wc b2 (cells (ns.map Int.ofNat)) := by rw [← EZ.out]; exact Q1
        have T0 := HQ0.out.kept k1
        have B1 : Below wd.heap.size wd wc := HB0.out.trans (k1.mono HB0.out.size)
        have KB2 := KB1.out.kept B1
        have HB2 : Below w.heap.size w wc := HB1.out.trans (B1.mono HB1.out.size)
        go_step
        exact split_whole a1 b0 b2 n1 c1 bx n0 n2 d0 k ks fs ns w _ _ _ _ _ _ _ _ _ _ _ _ _ _ _ _ _ _ _ _ _ _ _ _ _ _ _ _ _ _ _ _ _ _ _ _ _ _ _ _ _ _ _ _ _ _ _ _ _ _ _ _ _ _ _ _ _ _ _ _ _ _ _ _ _ _ _ _ _ _ _ _ _ _ _ _ _ _ _ _ _ _ _ _ _ _ _ _ _ _ _ _ _ _ _ _ _ _ _ _ _ _ _ _ _ _ _ _ _ _ _ _ _ _ _ _ _ _ _ _ _ _ _ _ _ _ _ _ _ _ _ _ _ _ _ _ _ _ _ _ _ _ _ _ _ _ _ _ _ _ _ _ _ _ _ _ _ _ _ _ _ _ _ _ _ _ _ _ _ _ _ _ _ _ _ _ _ _ _ _ _ _ _ _ _ _ _ _ _ _ _ _ _ _ _ _ _ _ _ _ _ _ _ _ _ _ _ _ _ _ _ _ _ _ _ _ _ _ _ _ _ _ _ _ _ _ _ _ _ _ _ _ _ _ _ _ _ _ _ _ _ _ _ _ _ _ _ _ _ _ _ _ _ _ _ _ _ _ _ _ _ _ _ hN hm hk hA L0 HRI LN hsum KB2 T0 T2 HB2

end Go.Proofs.Qxb6613726a
