/-
  The proof of 'Rows.FnSameValueObjectsOrderFreeSaid'. The frame is the guide's own way for a law over slices ('Below.trod'); the walk is ours (Same, Obj, Cmp, Fin, Cnt, Last, Mid, Main), the plain law in Plain.
-/
import Derived.Test.Qxb6613641aRows
import Derived.Test.Qxb6613641aMain
import Derived.WalkKit
import Derived.ProofKit
import Derived.OpenShut
import Derived.ShutString
import Derived.ChangeOld
import Derived.Below
import Derived.SliceStrings
import Derived.Deep.Slices
namespace Go.Proofs.Qxb6613641a.fnSameValueObjectsOrderFree
open Go.ChangeShapes Go.WideShapes Go.ChangeAt Go.RowKit
open Go.ChangeMaps (open_string shut_string)
set_option linter.unusedVariables false

theorem own : ownKnob Try.prog.godebug = none := by kernel_rfl
theorem laidOut : laidOutB Try.prog = true := by kernel_rfl

/-- What the walk is told of a slice that came in: its length, and what its cells hold. -/
def IsStrs (w : World) (a : Option Addr) (len : Nat) (ks : List ByteArray) : Prop := ks.length = len ∧ len ≤ maxLen ∧ (∀ s ∈ ks, s.size ≤ maxLen) ∧ RowAt w a (ks.map .string)
def IsDbls (w : World) (a : Option Addr) (len : Nat) (vs : List Nat) : Prop := vs.length = len ∧ len ≤ maxLen ∧ RowAt w a (vs.map (.float .f64))

theorem bytes_row {w : World} {a : Option Addr} {n : Nat} {ks : List ByteArray} (h : IsStrs w a n ks) : ∀ k, k < n → ∃ b off s, a = some ⟨b, off, none⟩ ∧ w.cell? ⟨b, off + k, none⟩ = some (.string s) := by
  intro k hk
  obtain ⟨b, off, e, _, hc⟩ := row_strs h.2.2.2 h.1 (by omega)
  exact ⟨b, off, _, e, hc.out k hk⟩

set_option maxRecDepth 100000 in
set_option maxHeartbeats 2000000 in
/-- Some slice is too long: true at once. -/
theorem early (a0 a1 a2 a3 : Option Addr) (n0 n1 n2 n3 c0 c1 c2 c3 : Nat) (w : World)
    (H4 : Hid (∀ W, W = w → Calls Try.prog 4 #[.slice a0 n0 c0, .slice a1 n1 c1, .slice a2 n2 c2, .slice a3 n3 c3] W fun e w' => SomeBool e W w'))
    (l0 : n0 ≤ maxLen) (l1 : n1 ≤ maxLen) (l2 : n2 ≤ maxLen) (l3 : n3 ≤ maxLen) (h : 1024 < (n0 : Int) ∨ 1024 < (n1 : Int) ∨ 1024 < (n2 : Int) ∨ 1024 < (n3 : Int)) :
    Calls Try.prog 3 #[.slice a0 n0 c0, .slice a1 n1 c1, .slice a2 n2 c2, .slice a3 n3 c3] w fun e w' => e = .returned (.bool true) ∧ Below w.heap.size w w' := by
  unfold maxLen at l0 l1 l2 l3
  have HH : Hid _ := h
  clear h
  by_cases h0 : 1024 < (n0 : Int)
  · go_enter Try.func3, Try.ntmps3
    go_wp2_with fail
    refine (H4.out _ rfl).mono ?_
    rintro e w' ⟨b, rfl, rfl⟩
    clear H4
    cases b
    all_goals
      go_wp2
      go_ret
      exact ⟨rfl, Below.refl _ _⟩
  by_cases h1 : 1024 < (n1 : Int)
  · go_enter Try.func3, Try.ntmps3
    go_wp2_with fail
    refine (H4.out _ rfl).mono ?_
    rintro e w' ⟨b, rfl, rfl⟩
    clear H4
    cases b
    all_goals
      go_wp2
      go_ret
      exact ⟨rfl, Below.refl _ _⟩
  by_cases h2 : 1024 < (n2 : Int)
  · go_enter Try.func3, Try.ntmps3
    go_wp2_with fail
    refine (H4.out _ rfl).mono ?_
    rintro e w' ⟨b, rfl, rfl⟩
    clear H4
    cases b
    all_goals
      go_wp2
      go_ret
      exact ⟨rfl, Below.refl _ _⟩
  have h3 : 1024 < (n3 : Int) := by have := HH.out; omega
  go_enter Try.func3, Try.ntmps3
  go_wp2_with fail
  refine (H4.out _ rfl).mono ?_
  rintro e w' ⟨b, rfl, rfl⟩
  clear H4
  cases b
  all_goals
    go_wp2
    go_ret
    exact ⟨rfl, Below.refl _ _⟩

theorem walk (a0 a1 a2 a3 : Option Addr) (n0 n1 n2 n3 c0 c1 c2 c3 : Nat) (ka kb : List ByteArray) (va vb : List Nat) (w : World) (w0 : IsStrs w a0 n0 ka) (w1 : IsDbls w a1 n1 va) (w2 : IsStrs w a2 n2 kb) (w3 : IsDbls w a3 n3 vb) :
    Calls Try.prog 3 #[.slice a0 n0 c0, .slice a1 n1 c1, .slice a2 n2 c2, .slice a3 n3 c3] w fun e w' => e = .returned (.bool true) ∧ Below w.heap.size w w' := by
  have H4 : Hid (∀ W, W = w → Calls Try.prog 4 #[.slice a0 n0 c0, .slice a1 n1 c1, .slice a2 n2 c2, .slice a3 n3 c3] W fun e w' => SomeBool e W w') := fun W e => by
    subst e
    exact bytes_calls a0 a1 a2 a3 n0 n1 n2 n3 c0 c1 c2 c3 W w0.2.1 w1.2.1 w2.2.1 w3.2.1 (bytes_row w0) (bytes_row w2)
  by_cases h : n0 ≤ 1024 ∧ n1 ≤ 1024 ∧ n2 ≤ 1024 ∧ n3 ≤ 1024
  · exact main_walk a0 a1 a2 a3 n0 n1 n2 n3 c0 c1 c2 c3 ka kb va vb w w0.1 w1.1 w2.1 w3.1 h.1 h.2.1 h.2.2.1 h.2.2.2 w0.2.2.1 w2.2.2.1 w0.2.2.2 w1.2.2 w2.2.2.2 w3.2.2 H4
  · exact early a0 a1 a2 a3 n0 n1 n2 n3 c0 c1 c2 c3 w H4 w0.2.1 w1.2.1 w2.2.1 w3.2.1 (by omega)

section
variable {H : Type} {enc : TypeId × Value → H} {W : World}

theorem trod_f64 {t : TypeId} {fuel : Nat} {cs : List Value} {x : DataW H × List MemPlace} {base : Nat} {sp : Nat → Bool} {held : Bool} (ht : Try.prog.underlying t = some (.float .f64)) (h : DataW.trod enc Try.prog W base sp held fuel t cs = some x) : ∃ b, cs = [.float .f64 b] := by
  cases fuel with
  | zero => simp [DataW.trod] at h
  | succ n =>
    unfold DataW.trod at h
    rw [ht] at h
    split at h <;> simp_all

/-- Cells from an address on, as a row. -/
theorem rowAt_of {a : Addr} {X : List Value} (hc : ∀ i u, X[i]? = some u → W.cell? (a.add i) = some u) : RowAt W (some a) X := by
  by_cases hX : X = []
  · exact .inl hX
  · obtain ⟨b, off, spot⟩ := a
    have hp : 0 < X.length := List.length_pos_iff.2 hX
    have h0 := hc 0 X[0] (List.getElem?_eq_getElem hp)
    have hspot : spot = none := by simpa [Addr.add] using World.cell?_spot h0
    subst hspot
    have h0' : W.cell? ⟨b, off + 0, none⟩ = some X[0] := by rw [← Go.WideShapes.add_plain]; exact h0
    refine .inr ⟨b, off, rfl, ?_, fun k u hu => by rw [← Go.WideShapes.add_plain]; exact hc k u hu⟩
    unfold World.cell? at h0'
    split at h0'
    · rename_i hb
      exact (Array.getElem?_eq_some_iff.1 hb).1
    · simp at h0'

theorem isStrs_of {a : Option Addr} {len cap : Nat} {d : DataW H} {p : List MemPlace} (h : DataW.Trod enc Try.prog W 0 (fun _ => true) true 22 (.slice a len cap) d p) : ∃ ks, IsStrs W a len ks := by
  obtain ⟨fuel, hf⟩ := h
  rcases open_strings Try.underlying22 Try.underlying9 (by kernel_rfl) hf with ⟨hcs, _⟩ | ⟨x, l, c, ss, hcs, _, hl, hm, hz, _, hcell, hws⟩
  · simp [Value.cells] at hcs
    obtain ⟨rfl, rfl, rfl⟩ := hcs
    exact ⟨[], rfl, Nat.zero_le _, by simp, .inl rfl⟩
  · simp [Value.cells] at hcs
    obtain ⟨rfl, rfl, rfl⟩ := hcs
    simp at hz
    refine ⟨ss.take len, by simp; omega, Nat.le_trans hl hm, fun s hs => hws s (List.mem_of_mem_take hs), rowAt_of fun i u hu => ?_⟩
    have hi : i < len := by
      have := (List.getElem?_eq_some_iff.1 hu).1
      simp at this
      omega
    rw [List.getElem?_map, List.getElem?_take, if_pos hi] at hu
    rw [hcell i (by omega), ← hu, List.getD_eq_getElem?_getD, List.getElem?_eq_getElem (by omega)]
    rfl

theorem isDbls_of {a : Option Addr} {len cap : Nat} {d : DataW H} {p : List MemPlace} (h : DataW.Trod enc Try.prog W 0 (fun _ => true) true 23 (.slice a len cap) d p) : ∃ vs, IsDbls W a len vs := by
  obtain ⟨fuel, hf⟩ := h
  rcases Go.Deep.open_slice1 Try.underlying23 (by kernel_rfl) hf with ⟨hcs, _⟩ | ⟨x, l, c, m, n, V, D, Pl, hcs, _, hl, hm, hmm, _, hx⟩
  · simp [Value.cells] at hcs
    obtain ⟨rfl, rfl, rfl⟩ := hcs
    exact ⟨[], rfl, Nat.zero_le _, .inl rfl⟩
  · simp [Value.cells] at hcs
    obtain ⟨rfl, rfl, rfl⟩ := hcs
    simp at hmm
    have hb : ∀ i, i < m → ∃ b, V i = .float .f64 b := fun i hi => by
      obtain ⟨b, hb⟩ := trod_f64 Try.underlying28 (hx i hi).2
      exact ⟨b, by simpa using hb⟩
    let f : Nat → Nat := fun i => match V i with | .float _ b => b | _ => 0
    have hf' : ∀ i, i < m → V i = .float .f64 (f i) := fun i hi => by
      obtain ⟨b, hb⟩ := hb i hi
      simp [f, hb]
    refine ⟨(List.range len).map f, by simp, Nat.le_trans hl hm, rowAt_of fun i u hu => ?_⟩
    have hi : i < len := by
      have := (List.getElem?_eq_some_iff.1 hu).1
      simpa using this
    rw [(hx i (by omega)).1, hf' i (by omega), ← hu]
    simp [hi]
end

/-! ### THE ROW's STEP -/
set_option maxRecDepth 100000 in
theorem lifted (os : Os) (started : os.Started) (H : Type) (enc : TypeId × Value → H) :
    ReturnsInHanded {} Try.checked os 3 .any (Rows.fnSameValueObjectsOrderFreeSpec.pre6 enc Try.prog Try.f3 Rows.fnSameValueObjectsOrderFreeRow.domain false) (Rows.fnSameValueObjectsOrderFreeSpec.post enc Try.prog Try.f3 false true false false) := by
  refine returnsInHanded_of_change (C := Try.checked) own started (by kernel_rfl) Try.func3
    (ChangeSpec.witness6 (enc := enc) (C := Try.checked) false ⟨#[], #[.slice none 0 0, .slice none 0 0, .slice none 0 0, .slice none 0 0], []⟩ 8 (by kernel_rfl) (by kernel_rfl) (by kernel_rfl) (by kernel_rfl)) ?_
  intro W base args ds gs before hval0 hW hcnd _
  have hval : ∀ (j : Nat) t v, Try.f3.params[j]? = some t → args[j]? = some v → Value.okWide Try.prog W .any base t v := hval0
  have hW' := hW
  obtain ⟨p, q, hA0, hV, rfl, hfz, hnd⟩ := hW
  have hA : DataW.TrodAll enc Try.prog W 0 (fun _ => true) true Try.f3.params.toList args.toList ds p := hA0
  rw [Try.params3] at hA hval
  obtain ⟨v0, vs0, d0, ds0, p0, q0, hargs, rfl, rfl, h0, r0⟩ := trodAll_cons hA
  obtain ⟨v1, vs1, d1, ds1, p1, q1, rfl, rfl, rfl, h1, r1⟩ := trodAll_cons r0
  obtain ⟨v2, vs2, d2, ds2, p2, q2, rfl, rfl, rfl, h2, r2⟩ := trodAll_cons r1
  obtain ⟨v3, vs3, d3, ds3, p3, q3, rfl, rfl, rfl, h3, r3⟩ := trodAll_cons r2
  obtain ⟨rfl, rfl, rfl⟩ := trodAll_nil r3
  obtain rfl : args = #[v0, v1, v2, v3] := by cases args; simp_all
  obtain ⟨rfl, rfl⟩ := trodVars_none hV
  obtain ⟨a0, len0, cap0, rfl⟩ := okWide_slice Try.underlying22 (hval 0 22 v0 rfl rfl)
  have k0 := h0
  have lt0 : ∀ x ∈ p0, x.block < W.heap.size := by obtain ⟨m, hm⟩ := k0; exact DataW.trod_lt m _ _ _ hm
  obtain ⟨z0, w0⟩ := isStrs_of h0
  obtain ⟨a1, len1, cap1, rfl⟩ := okWide_slice Try.underlying23 (hval 1 23 v1 rfl rfl)
  have k1 := h1
  have lt1 : ∀ x ∈ p1, x.block < W.heap.size := by obtain ⟨m, hm⟩ := k1; exact DataW.trod_lt m _ _ _ hm
  obtain ⟨z1, w1⟩ := isDbls_of h1
  obtain ⟨a2, len2, cap2, rfl⟩ := okWide_slice Try.underlying22 (hval 2 22 v2 rfl rfl)
  have k2 := h2
  have lt2 : ∀ x ∈ p2, x.block < W.heap.size := by obtain ⟨m, hm⟩ := k2; exact DataW.trod_lt m _ _ _ hm
  obtain ⟨z2, w2⟩ := isStrs_of h2
  obtain ⟨a3, len3, cap3, rfl⟩ := okWide_slice Try.underlying23 (hval 3 23 v3 rfl rfl)
  have k3 := h3
  have lt3 : ∀ x ∈ p3, x.block < W.heap.size := by obtain ⟨m, hm⟩ := k3; exact DataW.trod_lt m _ _ _ hm
  obtain ⟨z3, w3⟩ := isDbls_of h3
  clear hA0 hval0
  refine (walk a0 a1 a2 a3 len0 len1 len2 len3 cap0 cap1 cap2 cap3 z0 z2 z1 z3 W w0 w1 w2 w3).mono fun e W' ⟨he, bel⟩ => ?_
  subst he
  exact ⟨_, rfl, _, _, _, [], _, [], hW', trodAll_mk1 (shut_bool Try.underlying4 _), (trodAll_cons_mk (Below.trod laidOut (by kernel_rfl) (of_decide_eq_true (by kernel_rfl)) k0 bel lt0) (trodAll_cons_mk (Below.trod laidOut (by kernel_rfl) (of_decide_eq_true (by kernel_rfl)) k1 bel lt1) (trodAll_cons_mk (Below.trod laidOut (by kernel_rfl) (of_decide_eq_true (by kernel_rfl)) k2 bel lt2) (trodAll_cons_mk (Below.trod laidOut (by kernel_rfl) (of_decide_eq_true (by kernel_rfl)) k3 bel lt3) trodAll_mk0)))), rfl, bel.frame _, fun h => by cases h⟩

theorem over : Rows.fnSameValueObjectsOrderFreeRow.holds Try.pinned (OpenSpec.ofChange Rows.fnSameValueObjectsOrderFreeSpec) :=
  OpenClaim.holds_of_wide 3 Try.f3 rfl rfl rfl rfl rfl rfl rfl ⟨rfl, rfl, rfl, rfl, rfl⟩ rfl rfl rfl rfl rfl (by kernel_rfl) Try.func3 (by kernel_rfl)
    (of_decide_eq_true (by kernel_rfl)) (by unfold Func.isWrapper; first | (rw [if_pos (by decide +kernel)]; kernel_rfl) | (rw [if_neg (by decide +kernel)]; exact ⟨rfl, rfl⟩))
    (fun os started H enc _ => lifted os started H enc)

/-- THE STATEMENT -/
theorem proved : Rows.FnSameValueObjectsOrderFreeSaid := over
#print axioms proved
end Go.Proofs.Qxb6613641a.fnSameValueObjectsOrderFree
