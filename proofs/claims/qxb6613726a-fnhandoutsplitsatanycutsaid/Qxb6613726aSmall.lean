/- The small functions. -/
import Derived.Test.Qxb6613726aMem
namespace Go.Proofs.Qxb6613726a
open Go Go.RowKit
set_option linter.unusedVariables false

/-- It answered yes or no; the world is as it was. -/
def SomeBool (e : Ending) (w w' : World) : Prop := ∃ b, e = .returned (.bool b) ∧ w' = w
theorem someBool_mk (b : Bool) (w : World) : SomeBool (.returned (.bool b)) w w := ⟨b, rfl, rfl⟩

set_option maxHeartbeats 1000000 in
theorem bytes5 (a0 a1 a2 : Option Addr) (n0 n1 n2 c0 c1 c2 : Nat) (w : World) (h0 : n0 ≤ maxLen) (h1 : n1 ≤ maxLen) (h2 : n2 ≤ maxLen) :
    Calls Try.prog 5 #[.slice a0 n0 c0, .slice a1 n1 c1, .slice a2 n2 c2] w fun e w' => SomeBool e w w' := by
  unfold maxLen at h0 h1 h2
  go_enter Try.func5, Try.ntmps5
  go_wp2
  all_goals
    go_ret
    exact someBool_mk _ _
set_option maxHeartbeats 1000000 in
theorem bytes11 (a0 a1 a2 : Option Addr) (n0 n1 n2 c0 c1 c2 : Nat) (k : Int) (w : World) (h0 : n0 ≤ maxLen) (h1 : n1 ≤ maxLen) (h2 : n2 ≤ maxLen) :
    Calls Try.prog 11 #[.slice a0 n0 c0, .slice a1 n1 c1, .slice a2 n2 c2, .int .i64 k] w fun e w' => SomeBool e w w' := by
  unfold maxLen at h0 h1 h2
  go_enter Try.func11, Try.ntmps11
  go_wp2
  all_goals
    go_ret
    exact someBool_mk _ _

/-! ### zzB1Has -/
def hasB (zs : List Int) (u : Int) : Bool := zs.any (· == u)
theorem hasB_true {zs : List Int} {u : Int} {k : Nat} (hk : k < zs.length) (h : (zs.getD k 0 == u) = true) : hasB zs u = true := by
  unfold hasB
  rw [List.any_eq_true]
  refine ⟨zs.getD k 0, ?_, h⟩
  rw [List.getD_eq_getElem?_getD, List.getElem?_eq_getElem hk]
  exact List.getElem_mem hk
def noneTo (zs : List Int) (u : Int) (k : Nat) : Prop := ∀ j, j < k → (zs.getD j 0 == u) = false
theorem hasB_false {zs : List Int} {u : Int} (h : noneTo zs u zs.length) : hasB zs u = false := by
  unfold hasB
  rw [List.any_eq_false]
  intro x hx
  obtain ⟨i, hi, rfl⟩ := List.getElem_of_mem hx
  have := h i hi
  rw [List.getD_eq_getElem?_getD, List.getElem?_eq_getElem hi] at this
  simpa using this

set_option maxHeartbeats 1000000 in
theorem has_some (b off c n : Nat) (zs : List Int) (u : Int) (w : World) (hl : zs.length = n) (hn : n ≤ maxLen) (hc : ∀ k, k < n → w.cell? ⟨b, off + k, none⟩ = some (.int .i64 (zs.getD k 0))) :
    Calls Try.prog 8 #[.slice (some ⟨b, off, none⟩) n c, .int .i64 u] w fun e w' => e = .returned (.bool (hasB zs u)) ∧ w' = w := by
  unfold maxLen at hn
  have HC : Hid _ := hc
  have HL : Hid (zs.length = n) := hl
  clear hc hl
  go_enter Try.func8, Try.ntmps8
  go_wp2
  go_loop [5] (fun i => ∃ k : Nat, k ≤ n ∧ i = .int .i64 k ∧ Hid (noneTo zs u k)) (fun i => n - (intOf i).toNat)
  case atStart => exact ⟨0, Nat.zero_le _, rfl, fun j h => by omega⟩
  case round =>
    obtain ⟨k, hk, rfl, HN⟩ := hrel
    by_cases hlt : (k : Int) < (n : Int)
    · have k1 := HC.out k (by omega)
      have HG : Hid (∀ r, (zs.getD k 0 == u) = r → (r = true → hasB zs u = true) ∧ (r = false → noneTo zs u (k + 1))) := fun r hr => by
        refine ⟨fun e => hasB_true (by rw [HL.out]; omega) (hr.trans e), fun e j hj => ?_⟩
        by_cases ej : j = k
        · rw [ej]; exact hr.trans e
        · exact HN.out j (by omega)
      generalize zs.getD k 0 = z at k1 HG
      cases hr : (z == u)
      · go_wp2
        go_round
        case rel => exact ⟨k + 1, by omega, by go_num, (HG.out _ hr).2 rfl⟩
        case measure => simp [intOf]; omega
      · go_wp2
        go_ret
        exact ⟨by rw [(HG.out _ hr).1 rfl]; rfl, rfl⟩
    · go_wp2
      go_ret
      have e : k = zs.length := by rw [HL.out]; omega
      have hf := hasB_false (e ▸ HN.out)
      exact ⟨by rw [hf]; rfl, rfl⟩

set_option maxHeartbeats 1000000 in
theorem has_none (a : Option Addr) (c : Nat) (u : Int) (w : World) :
    Calls Try.prog 8 #[.slice a 0 c, .int .i64 u] w fun e w' => e = .returned (.bool false) ∧ w' = w := by
  go_enter Try.func8, Try.ntmps8
  go_wp2
  go_loop [5] (fun i => i = .int .i64 0) (fun i => 0)
  case atStart => rfl
  case round =>
    obtain rfl := hrel
    go_wp2
    go_ret
    exact ⟨rfl, rfl⟩

theorem has_calls (a : Option Addr) (c n : Nat) (zs : List Int) (u : Int) (w : World) (hl : zs.length = n) (hn : n ≤ maxLen) (h : RowAt w a (cells zs)) :
    Calls Try.prog 8 #[.slice a n c, .int .i64 u] w fun e w' => e = .returned (.bool (hasB zs u)) ∧ w' = w := by
  by_cases hp : 0 < n
  · obtain ⟨b, off, rfl, _, hc⟩ := row_ints h hl hp
    exact has_some b off c n zs u w hl hn hc.out
  · obtain rfl : n = 0 := by omega
    obtain rfl : zs = [] := List.eq_nil_of_length_eq_zero hl
    exact has_none a c u w

/-- The closure, either law's. -/
theorem closure9 (bx n c : Nat) (a : Option Addr) (zs : List Int) (u : Int) (w : World) (hx : w.cell? ⟨bx, 0, none⟩ = some (.slice a n c)) (hl : zs.length = n) (hn : n ≤ maxLen) (h : RowAt w a (cells zs)) :
    Calls Try.prog 9 #[.int .i64 u, .pointer (some ⟨bx, 0, none⟩)] w fun e w' => e = .returned (.bool (hasB zs u)) ∧ w' = w := by
  have H8 : Hid (∀ W, W = w → Calls Try.prog 8 #[.slice a n c, .int .i64 u] W fun e w' => e = .returned (.bool (hasB zs u)) ∧ w' = W) := fun W e => by
    subst e
    exact has_calls a c n zs u W hl hn h
  clear h
  go_enter Try.func9, Try.ntmps9
  go_wp2_with fail
  refine (H8.out _ rfl).mono ?_
  rintro e w1 ⟨rfl, rfl⟩
  go_wp2
  go_ret
  exact ⟨rfl, rfl⟩
theorem closure12 (bx n c : Nat) (a : Option Addr) (zs : List Int) (u : Int) (w : World) (hx : w.cell? ⟨bx, 0, none⟩ = some (.slice a n c)) (hl : zs.length = n) (hn : n ≤ maxLen) (h : RowAt w a (cells zs)) :
    Calls Try.prog 12 #[.int .i64 u, .pointer (some ⟨bx, 0, none⟩)] w fun e w' => e = .returned (.bool (hasB zs u)) ∧ w' = w := by
  have H8 : Hid (∀ W, W = w → Calls Try.prog 8 #[.slice a n c, .int .i64 u] W fun e w' => e = .returned (.bool (hasB zs u)) ∧ w' = W) := fun W e => by
    subst e
    exact has_calls a c n zs u W hl hn h
  clear h
  go_enter Try.func12, Try.ntmps12
  go_wp2_with fail
  refine (H8.out _ rfl).mono ?_
  rintro e w1 ⟨rfl, rfl⟩
  go_wp2
  go_ret
  exact ⟨rfl, rfl⟩

theorem drewN_add (w : World) (a b : Nat) : (w.drewN a).drewN b = w.drewN (a + b) := by
  simp [World.drewN, Nat.add_assoc]

/-! ### zzB1Increasing -/
def IncTo (fs : List Int) (k : Nat) : Prop := ∀ i, i + 1 < k → fs.getD i 0 < fs.getD (i + 1) 0
/-- It said yes or no; yes: the numbers rise; the world has at most drawn. -/
def SaidInc (fs : List Int) (e : Ending) (w w' : World) : Prop := ∃ b, e = .returned (.bool b) ∧ (b = true → IncTo fs fs.length) ∧ ∃ n, w' = w.drewN n
theorem saidInc_no (fs : List Int) (w : World) (n : Nat) : SaidInc fs (.returned (.bool false)) w (w.drewN n) := ⟨false, rfl, (fun h => by cases h), n, rfl⟩

set_option maxHeartbeats 1000000 in
theorem inc_some (b off c n : Nat) (fs : List Int) (w : World) (hl : fs.length = n) (hn : n ≤ maxLen) (hc : ∀ k, k < n → w.cell? ⟨b, off + k, none⟩ = some (.int .i64 (fs.getD k 0))) :
    Calls Try.prog 6 #[.slice (some ⟨b, off, none⟩) n c] w fun e w' => SaidInc fs e w w' := by
  unfold maxLen at hn
  have HC : Hid _ := hc
  have HL : Hid (fs.length = n) := hl
  clear hc hl
  go_enter Try.func6, Try.ntmps6
  go_wp2
  go_loopw [3] (fun i wr => ∃ k : Nat, 1 ≤ k ∧ (k ≤ n ∨ k = 1) ∧ i = .int .i64 k ∧ Hid (IncTo fs k) ∧ ∃ q, wr = w.drewN q) (fun i _ => n - (intOf i).toNat)
  case atStart => exact ⟨1, Nat.le_refl _, .inr rfl, rfl, fun i h => by omega, 0, rfl⟩
  case round =>
    obtain ⟨k, hk1, hk, rfl, HN, q, rfl⟩ := hrel
    by_cases hlt : (k : Int) < (n : Int)
    · obtain ⟨j, rfl⟩ : ∃ j, k = j + 1 := ⟨k - 1, by omega⟩
      have k0 := HC.out j (by omega)
      have k1 := HC.out (j + 1) (by omega)
      have HG : Hid (fs.getD j 0 < fs.getD (j + 1) 0 → IncTo fs (j + 2)) := fun h i hi => by
        by_cases e : i = j
        · rw [e]; exact h
        · exact HN.out i (by omega)
      generalize fs.getD j 0 = x at k0 HG
      generalize fs.getD (j + 1) 0 = y at k1 HG
      by_cases hxy : x < y
      · go_wp2
        go_quiet (fail)
        go_wp2
        go_roundw
        case rel => exact ⟨j + 2, by omega, .inl (by omega), by go_num, HG.out hxy, _, rfl⟩
        case measure => simp [intOf]; omega
      · have hyx : y ≤ x := by omega
        go_wp2
        go_quiet (fail)
        go_wp2
        go_ret
        exact ⟨false, rfl, (fun h => by cases h), q + nq, drewN_add w q nq⟩
    · go_wp2
      go_ret
      exact ⟨true, rfl, fun _ i hi => HN.out i (by rw [HL.out] at hi; omega), q, rfl⟩

set_option maxHeartbeats 1000000 in
theorem inc_none (a : Option Addr) (c : Nat) (w : World) :
    Calls Try.prog 6 #[.slice a 0 c] w fun e w' => SaidInc [] e w w' := by
  go_enter Try.func6, Try.ntmps6
  go_wp2
  go_loop [3] (fun i => i = .int .i64 1) (fun i => 0)
  case atStart => rfl
  case round =>
    obtain rfl := hrel
    go_wp2
    go_ret
    exact ⟨true, rfl, fun _ i hi => by simp at hi, 0, rfl⟩

theorem inc_calls (a : Option Addr) (c n : Nat) (fs : List Int) (w : World) (hl : fs.length = n) (hn : n ≤ maxLen) (h : RowAt w a (cells fs)) :
    Calls Try.prog 6 #[.slice a n c] w fun e w' => SaidInc fs e w w' := by
  by_cases hp : 0 < n
  · obtain ⟨b, off, rfl, _, hc⟩ := row_ints h hl hp
    exact inc_some b off c n fs w hl hn hc.out
  · obtain rfl : n = 0 := by omega
    obtain rfl : fs = [] := List.eq_nil_of_length_eq_zero hl
    exact inc_none a c w

/-! ### zzB1NodesInDomain -/
def sumTo (zs : List Int) (k : Nat) : Int := (zs.take k).sum
theorem sumTo_succ {zs : List Int} {k : Nat} (h : k < zs.length) : sumTo zs (k + 1) = sumTo zs k + zs.getD k 0 := by
  unfold sumTo
  rw [List.take_succ_eq_append_getElem h, List.sum_append, List.getD_eq_getElem?_getD, List.getElem?_eq_getElem h]
  simp
/-- It said yes or no; yes: no number is below nought, and their sum fits; the world is as it was. -/
def SaidDom (zs : List Int) (e : Ending) (w w' : World) : Prop := ∃ b, e = .returned (.bool b) ∧ (b = true → (∀ i, i < zs.length → 0 ≤ zs.getD i 0) ∧ sumTo zs zs.length ≤ 9223372036854775807) ∧ w' = w
theorem saidDom_no (zs : List Int) (w : World) : SaidDom zs (.returned (.bool false)) w w := ⟨false, rfl, (fun h => by cases h), rfl⟩

set_option maxHeartbeats 1000000 in
theorem dom_some (b off c n : Nat) (zs : List Int) (w : World) (hl : zs.length = n) (hn : n ≤ maxLen) (hc : ∀ k, k < n → w.cell? ⟨b, off + k, none⟩ = some (.int .i64 (zs.getD k 0))) :
    Calls Try.prog 7 #[.slice (some ⟨b, off, none⟩) n c] w fun e w' => SaidDom zs e w w' := by
  unfold maxLen at hn
  have HC : Hid _ := hc
  have HL : Hid (zs.length = n) := hl
  clear hc hl
  go_enter Try.func7, Try.ntmps7
  go_wp2
  go_loop [3, 4] (fun t i => ∃ k : Nat, k ≤ n ∧ i = .int .i64 k ∧ ∃ s : Int, t = .int .i64 s ∧ 0 ≤ s ∧ s ≤ 9223372036854775807 ∧ Hid (s = sumTo zs k) ∧ Hid (∀ j, j < k → 0 ≤ zs.getD j 0)) (fun _ i => n - (intOf i).toNat)
  case atStart => exact ⟨0, Nat.zero_le _, rfl, 0, rfl, by omega, by omega, rfl, fun j h => by omega⟩
  case round =>
    obtain ⟨k, hk, rfl, s, rfl, hs0, hs1, HS, HN⟩ := hrel
    by_cases hlt : (k : Int) < (n : Int)
    · have k1 := HC.out k (by omega)
      have HG : Hid (0 ≤ zs.getD k 0 → (∀ j, j < k + 1 → 0 ≤ zs.getD j 0) ∧ s + zs.getD k 0 = sumTo zs (k + 1)) := fun h => by
        refine ⟨fun j hj => ?_, by rw [sumTo_succ (by rw [HL.out]; omega), ← HS.out]⟩
        by_cases e : j = k
        · rw [e]; exact h
        · exact HN.out j (by omega)
      generalize zs.getD k 0 = z at k1 HG
      by_cases h1 : z < 0
      · go_wp2
        go_ret
        exact saidDom_no _ _
      · by_cases h2 : 9223372036854775807 - s < z
        · go_wp2
          go_ret
          exact saidDom_no _ _
        · go_wp2
          go_round
          case rel => exact ⟨k + 1, by omega, by go_num, s + z, by go_num, by omega, by omega, (HG.out (by omega)).2, (HG.out (by omega)).1⟩
          case measure => simp [intOf]; omega
    · go_wp2
      go_ret
      have e : k = zs.length := by rw [HL.out]; omega
      exact ⟨true, rfl, fun _ => ⟨fun i hi => HN.out i (by omega), by rw [← e, ← HS.out]; exact hs1⟩, rfl⟩

set_option maxHeartbeats 1000000 in
theorem dom_none (a : Option Addr) (c : Nat) (w : World) :
    Calls Try.prog 7 #[.slice a 0 c] w fun e w' => SaidDom [] e w w' := by
  go_enter Try.func7, Try.ntmps7
  go_wp2
  go_loop [3, 4] (fun t i => i = .int .i64 0 ∧ t = .int .i64 0) (fun _ i => 0)
  case atStart => exact ⟨rfl, rfl⟩
  case round =>
    obtain ⟨rfl, rfl⟩ := hrel
    go_wp2
    go_ret
    exact ⟨true, rfl, fun _ => ⟨fun i hi => by simp at hi, by simp [sumTo]⟩, rfl⟩

theorem dom_calls (a : Option Addr) (c n : Nat) (zs : List Int) (w : World) (hl : zs.length = n) (hn : n ≤ maxLen) (h : RowAt w a (cells zs)) :
    Calls Try.prog 7 #[.slice a n c] w fun e w' => SaidDom zs e w w' := by
  by_cases hp : 0 < n
  · obtain ⟨b, off, rfl, _, hc⟩ := row_ints h hl hp
    exact dom_some b off c n zs w hl hn hc.out
  · obtain rfl : n = 0 := by omega
    obtain rfl : zs = [] := List.eq_nil_of_length_eq_zero hl
    exact dom_none a c w

end Go.Proofs.Qxb6613726a
