/-
  The proof of 'Rows.FnUnrecordedOneMoreSaid'. The frame is the guide's template, written by its program; the walk is ours.
-/
import Derived.Test.Qxb6613689aRows
import Derived.Test.Qxb6613689aWalkA
import Derived.WalkKit
import Derived.ProofKit
import Derived.OpenShut
import Derived.ShutString
namespace Go.Proofs.Qxb6613689a.fnUnrecordedOneMore
open Go.ChangeShapes Go.WideShapes Go.ChangeAt Go.RowKit
open Go.ChangeMaps (open_string shut_string)
set_option linter.unusedVariables false      -- a walk need not use every 'w<i>' (that an integer argument fits its kind)

theorem own : ownKnob Try.prog.godebug = none := by kernel_rfl

theorem ret_true {b : Bool} (h : b = true) : Ending.returned (.bool b) = .returned (.bool true) := by rw [h]

set_option maxHeartbeats 1000000 in
theorem inside (p r l : Nat) (k : Int) (w : World) (h1 : p ≤ 4096) (h2 : r ≤ 4096) (h3 : l ≤ 4096) (k0 : -9223372036854775808 ≤ k) (k1 : k ≤ 9223372036854775807) :
    Calls Try.prog 4 #[.int .i64 p, .int .i64 r, .int .i64 l, .int .i64 k] w fun e w' => e = .returned (.bool true) ∧ Grown w w' := by
  have H6 : Hid (∀ (p r l : Nat) (a b c : Int) W, a = p → b = r → c = l → p ≤ 4097 → r ≤ 4097 → l ≤ 4097 → Calls Try.prog 6 #[.int .i64 a, .int .i64 b, .int .i64 c] W fun e w' => ∃ b, e = .returned (.pointer (some ⟨b, 0, none⟩)) ∧ Verd w' b p r l ∧ Grown W w') :=
    fun p r l a b c W e1 e2 e3 g1 g2 g3 => by
      subst e1 e2 e3
      exact new_calls p r l W g1 g2 g3
  have H5 : Hid (∀ (b p r l : Nat) W, Verd W b p r l → p ≤ 4097 → r ≤ 4097 → l ≤ 4097 → Calls Try.prog 5 #[.pointer (some ⟨b, 0, none⟩)] W fun e w' => e = .returned (.int .i64 ((p : Int) + r + l)) ∧ Grown W w') :=
    fun b p r l W h g1 g2 g3 => unrec_calls b p r l W h g1 g2 g3
  by_cases c0 : k = 0
  · subst c0
    go_enter Try.func4, Try.ntmps4
    go_wp2_with fail
    refine (H6.out p r l _ _ _ _ rfl rfl rfl (by omega) (by omega) (by omega)).mono ?_
    rintro e w1 ⟨b, rfl, v1, g1⟩
    go_wp2_with fail
    refine (H5.out b p r l _ v1 (by omega) (by omega) (by omega)).mono ?_
    rintro e w2 ⟨rfl, g2⟩
    go_wp2_with fail
    refine (H6.out (p + 1) r l _ _ _ _ (by omega) rfl rfl (by omega) (by omega) (by omega)).mono ?_
    rintro e w3 ⟨c, rfl, v3, g3⟩
    go_wp2_with fail
    refine (H5.out c (p + 1) r l _ v3 (by omega) (by omega) (by omega)).mono ?_
    rintro e w4 ⟨rfl, g4⟩
    go_wp2
    go_ret
    exact ⟨ret_true (beq_iff_eq.2 (by omega)), grown_trans (grown_trans (grown_trans g1 g2) g3) g4⟩
  by_cases c1 : k = 1
  · subst c1
    go_enter Try.func4, Try.ntmps4
    go_wp2_with fail
    refine (H6.out p r l _ _ _ _ rfl rfl rfl (by omega) (by omega) (by omega)).mono ?_
    rintro e w1 ⟨b, rfl, v1, g1⟩
    go_wp2_with fail
    refine (H5.out b p r l _ v1 (by omega) (by omega) (by omega)).mono ?_
    rintro e w2 ⟨rfl, g2⟩
    go_wp2_with fail
    refine (H6.out p (r + 1) l _ _ _ _ rfl (by omega) rfl (by omega) (by omega) (by omega)).mono ?_
    rintro e w3 ⟨c, rfl, v3, g3⟩
    go_wp2_with fail
    refine (H5.out c p (r + 1) l _ v3 (by omega) (by omega) (by omega)).mono ?_
    rintro e w4 ⟨rfl, g4⟩
    go_wp2
    go_ret
    exact ⟨ret_true (beq_iff_eq.2 (by omega)), grown_trans (grown_trans (grown_trans g1 g2) g3) g4⟩
  · have d0 : (k == 0) = false := beq_eq_false_iff_ne.2 c0
    have d1 : (k == 1) = false := beq_eq_false_iff_ne.2 c1
    clear c0 c1
    go_enter Try.func4, Try.ntmps4
    go_wp2_with fail
    refine (H6.out p r l _ _ _ _ rfl rfl rfl (by omega) (by omega) (by omega)).mono ?_
    rintro e w1 ⟨b, rfl, v1, g1⟩
    go_wp2_with fail
    refine (H5.out b p r l _ v1 (by omega) (by omega) (by omega)).mono ?_
    rintro e w2 ⟨rfl, g2⟩
    go_wp2_with fail
    refine (H6.out p r (l + 1) _ _ _ _ rfl rfl (by omega) (by omega) (by omega) (by omega)).mono ?_
    rintro e w3 ⟨c, rfl, v3, g3⟩
    go_wp2_with fail
    refine (H5.out c p r (l + 1) _ v3 (by omega) (by omega) (by omega)).mono ?_
    rintro e w4 ⟨rfl, g4⟩
    go_wp2
    go_ret
    exact ⟨ret_true (beq_iff_eq.2 (by omega)), grown_trans (grown_trans (grown_trans g1 g2) g3) g4⟩

/-! ### STEP 1: THE WALK: the Go text returns true. 'Grown w w'': the world has at most new blocks (Derived/RowKit3.lean). Part the cases AHEAD of 'go_enter' where a test parts the walk; take each callee by a contract of your own. -/
theorem walk (a0 : Int) (a1 : Int) (a2 : Int) (a3 : Int) (w0 : (Lit.int .i64 a0).wf = true) (w1 : (Lit.int .i64 a1).wf = true) (w2 : (Lit.int .i64 a2).wf = true) (w3 : (Lit.int .i64 a3).wf = true) (w : World) :
    Calls Try.prog 4 #[.int .i64 a0, .int .i64 a1, .int .i64 a2, .int .i64 a3] w fun e w' => e = .returned (.bool true) ∧ Grown w w' := by
  have b0 := bounds_i64 w0
  have b1 := bounds_i64 w1
  have b2 := bounds_i64 w2
  have b3 := bounds_i64 w3
  by_cases p0 : a0 < 0
  · go_enter Try.func4, Try.ntmps4
    go_wp2
    go_ret
    exact ⟨rfl, Grown.refl _⟩
  by_cases p1 : 4096 < a0
  · go_enter Try.func4, Try.ntmps4
    go_wp2
    go_ret
    exact ⟨rfl, Grown.refl _⟩
  by_cases p2 : a1 < 0
  · go_enter Try.func4, Try.ntmps4
    go_wp2
    go_ret
    exact ⟨rfl, Grown.refl _⟩
  by_cases p3 : 4096 < a1
  · go_enter Try.func4, Try.ntmps4
    go_wp2
    go_ret
    exact ⟨rfl, Grown.refl _⟩
  by_cases p4 : a2 < 0
  · go_enter Try.func4, Try.ntmps4
    go_wp2
    go_ret
    exact ⟨rfl, Grown.refl _⟩
  by_cases p5 : 4096 < a2
  · go_enter Try.func4, Try.ntmps4
    go_wp2
    go_ret
    exact ⟨rfl, Grown.refl _⟩
  obtain ⟨p, rfl⟩ := Int.eq_ofNat_of_zero_le (show 0 ≤ a0 by omega)
  obtain ⟨r, rfl⟩ := Int.eq_ofNat_of_zero_le (show 0 ≤ a1 by omega)
  obtain ⟨l, rfl⟩ := Int.eq_ofNat_of_zero_le (show 0 ≤ a2 by omega)
  exact inside p r l a3 w (by omega) (by omega) (by omega) b3.1 b3.2

/-! ### THE ROW's STEP: WRITTEN OUT: LEAVE IT -/
set_option maxRecDepth 100000 in
theorem lifted (os : Os) (started : os.Started) (H : Type) (enc : TypeId × Value → H) :
    ReturnsInHanded {} Try.checked os 4 .any (Rows.fnUnrecordedOneMoreSpec.pre6 enc Try.prog Try.f4 Rows.fnUnrecordedOneMoreRow.domain false) (Rows.fnUnrecordedOneMoreSpec.post enc Try.prog Try.f4 false true false false) := by
  refine returnsInHanded_of_change (C := Try.checked) own started (by kernel_rfl) Try.func4
    (ChangeSpec.witness6 (enc := enc) (C := Try.checked) false ⟨#[], #[.int .i64 0, .int .i64 0, .int .i64 0, .int .i64 0], []⟩ 8 (by kernel_rfl) (by kernel_rfl) (by kernel_rfl) (by kernel_rfl)) ?_
  intro W base args ds gs before hval0 hW hcnd _
  have hval : ∀ (j : Nat) t v, Try.f4.params[j]? = some t → args[j]? = some v → Value.okWide Try.prog W .any base t v := hval0
  have hW' := hW
  obtain ⟨p, q, hA0, hV, rfl, hfz, hnd⟩ := hW
  have hA : DataW.TrodAll enc Try.prog W 0 (fun _ => true) true Try.f4.params.toList args.toList ds p := hA0
  rw [Try.params4] at hA hval
  obtain ⟨v0, vs0, d0, ds0, p0, q0, hargs, rfl, rfl, h0, r0⟩ := trodAll_cons hA
  obtain ⟨v1, vs1, d1, ds1, p1, q1, rfl, rfl, rfl, h1, r1⟩ := trodAll_cons r0
  obtain ⟨v2, vs2, d2, ds2, p2, q2, rfl, rfl, rfl, h2, r2⟩ := trodAll_cons r1
  obtain ⟨v3, vs3, d3, ds3, p3, q3, rfl, rfl, rfl, h3, r3⟩ := trodAll_cons r2
  obtain ⟨rfl, rfl, rfl⟩ := trodAll_nil r3
  obtain rfl : args = #[v0, v1, v2, v3] := by cases args; simp_all
  obtain ⟨rfl, rfl⟩ := trodVars_none hV
  obtain ⟨a0, rfl, rfl, rfl, w0⟩ := open_int Try.underlying3 (hval 0 3 v0 rfl rfl) h0
  obtain ⟨a1, rfl, rfl, rfl, w1⟩ := open_int Try.underlying3 (hval 1 3 v1 rfl rfl) h1
  obtain ⟨a2, rfl, rfl, rfl, w2⟩ := open_int Try.underlying3 (hval 2 3 v2 rfl rfl) h2
  obtain ⟨a3, rfl, rfl, rfl, w3⟩ := open_int Try.underlying3 (hval 3 3 v3 rfl rfl) h3
  clear hA0 hval0
  simp only [List.append_nil] at hW'
  refine (walk a0 a1 a2 a3 w0 w1 w2 w3 W).mono fun e W' ⟨he, hg⟩ => ?_
  subst he
  exact ⟨_, rfl, post_of_same (pa := []) (pv := []) hW' (fun _ _ _ => (trodAll_cons_mk (shut_bool Try.underlying4 _) trodAll_mk0)) (fun sp _ => (trodAll_cons_mk (shut_int Try.underlying3 w0) (trodAll_cons_mk (shut_int Try.underlying3 w1) (trodAll_cons_mk (shut_int Try.underlying3 w2) (trodAll_cons_mk (shut_int Try.underlying3 w3) trodAll_mk0))))) (fun _ _ => rfl) rfl
    (hg.frame _) hg.2.1 (ok_one (by kernel_rfl) rfl (okWide_bool_mk Try.underlying4 _))⟩

theorem over : Rows.fnUnrecordedOneMoreRow.holds Try.pinned (OpenSpec.ofChange Rows.fnUnrecordedOneMoreSpec) :=
  OpenClaim.holds_of_wide 4 Try.f4 rfl rfl rfl rfl rfl rfl rfl ⟨rfl, rfl, rfl, rfl, rfl⟩ rfl rfl rfl rfl rfl (by kernel_rfl) Try.func4 (by kernel_rfl)
    (of_decide_eq_true (by kernel_rfl)) (by unfold Func.isWrapper; first | (rw [if_pos (by decide +kernel)]; kernel_rfl) | (rw [if_neg (by decide +kernel)]; exact ⟨rfl, rfl⟩))
    (fun os started H enc _ => lifted os started H enc)

/-- ████ THE STATEMENT ████ -/
theorem proved : Rows.FnUnrecordedOneMoreSaid :=
  over
#print axioms proved
end Go.Proofs.Qxb6613689a.fnUnrecordedOneMore
