import Derived.Test.Qxb6613599aWalkA
namespace Go.Proofs.Qxb6613599a
open Go Go.RowKit
set_option linter.unusedVariables false

theorem cat_size (a b : ByteArray) : (a ++ b).size = a.size + b.size := ByteArray.size_append

set_option maxHeartbeats 4000000 in
theorem law_small (n : Int) (t u p : ByteArray) (w : World) (hn0 : -9223372036854775808 ≤ n) (hn1 : n ≤ 9223372036854775807) (w1 : t.size ≤ maxLen) (w2 : u.size ≤ maxLen) (w3 : p.size ≤ maxLen) (h0 : t.size + u.size + p.size ≤ 1048576)
    (h1 : (t.size : Int) ≤ 262144) (h2 : (u.size : Int) ≤ 262144) (h3 : (p.size : Int) ≤ 262144) :
    Calls Try.prog 3 #[.int .i64 n, .string t, .string u, .string p] w fun e w' => e = .returned (.bool true) ∧ Kept w w' := by
  have H4 : Hid (∀ W, Calls Try.prog 4 #[.int .i64 n, .string t, .string u, .string p] W fun e w' => e = .returned (.bool true) ∧ W = w') := fun W => by
    refine (bytes_calls n t u p W w1 w2 w3).mono ?_
    rintro e w' ⟨rfl, rfl⟩
    rw [smallB_yes h0]
    exact ⟨rfl, rfl⟩
  have H6 : Hid (∀ (s : ByteArray) W, s.size ≤ maxLen → Calls Try.prog 6 #[.string s] W fun e w' => e = .returned (.bool (asciiB s)) ∧ W = w') := fun s W hs => by
    refine (ascii_calls s W hs).mono ?_
    rintro e w' ⟨rfl, rfl⟩
    exact ⟨rfl, rfl⟩
  have h5 := fun (m : Int) (s v : ByteArray) W (hs : s.size < 9223372036854775807) => exc5 m s v W hs
  unfold opts cand at h5
  have H5 : Hid _ := h5
  clear h5
  have ht : t.size < 9223372036854775807 := by omega
  have W1 : Hid (t.size ≤ maxLen) := w1
  have W3 : Hid (p.size ≤ maxLen) := w3
  clear w1 w2 w3 h0
  go_enter Try.func3, Try.ntmps3
  go_wp2_with fail
  refine (H4.out _).mono ?_
  rintro e w' ⟨rfl, rfl⟩
  go_wp2_with fail
  refine (H5.out n t u _ ht).mono ?_
  rintro e wa ⟨rfl, ka⟩
  have za := ka.below.size
  obtain ⟨ca, fa⟩ := bcell ka.below
  simp at za ca fa
  go_wp2_with fail
  refine (H5.out n t _ _ ht).mono ?_
  rintro e wb ⟨rfl, kb⟩
  have zb := kb.below.size
  obtain ⟨cb, fb⟩ := bcell kb.below
  go_wp2_with fail
  refine (H6.out t _ W1.out).mono ?_
  rintro e wx ⟨rfl, rfl⟩
  have K0 : Kept w wb := ((Kept.alloc _ _ _).trans ka).trans kb
  cases hA : asciiB t
  all_goals
    have hd : asciiB t = true → decide (n < (t.size : Int)) = excB n t := fun h => exc_ascii h
    rw [hA] at hd
    simp at hd
    go_wp2_with fail
    refine (H6.out p _ W3.out).mono ?_
    rintro e wx ⟨rfl, rfl⟩
    cases hP : asciiB p
    · go_wp2
      go_ret
      exact ⟨rfl, K0⟩
    · by_cases hb : n ≤ 9223372036854775807 - (p.size : Int)
      · have e1 := exc_ahead (n := n) (t := t) hP
        have e2 := exc_behind (n := n) (t := t) hP
        have E1 : Hid _ := e1
        have E2 : Hid _ := e2
        clear e1 e2
        have hz1 : (p ++ t).size < 9223372036854775807 := by rw [cat_size]; omega
        have hz2 : (t ++ p).size < 9223372036854775807 := by rw [cat_size]; omega
        have Z1 : Hid _ := hz1
        have Z2 : Hid _ := hz2
        clear hz1 hz2
        go_wp2_with fail
        refine (H5.out (n + (p.size : Int)) (p ++ t) _ _ Z1.out).mono ?_
        rintro e wc ⟨rfl, kc⟩
        rw [E1.out]
        have zc := kc.below.size
        obtain ⟨cc, fc⟩ := bcell kc.below
        simp at zc cc fc
        go_wp2_with fail
        refine (H5.out (n + (p.size : Int)) (t ++ p) _ _ Z2.out).mono ?_
        rintro e wd ⟨rfl, kd⟩
        rw [E2.out]
        go_wp2
        go_ret
        exact ⟨rfl, ((K0.trans (Kept.alloc _ _ _)).trans kc).trans kd⟩
      · go_wp2
        go_ret
        exact ⟨rfl, K0⟩

end Go.Proofs.Qxb6613599a
