/- zzCountTrue, zzBytes. -/
import Derived.Test.Qxb6613641aFin
namespace Go.Proofs.Qxb6613641a
open Go Go.RowKit Go.Maps
set_option linter.unusedVariables false

def cntTo (n : Nat) (K : Nat → List UInt8) (k : Nat) : Nat := ((List.range k).filter (finB n K)).length
theorem cntTo_le (n : Nat) (K : Nat → List UInt8) (k : Nat) : cntTo n K k ≤ k := by
  unfold cntTo
  have := List.length_filter_le (finB n K) (List.range k)
  simp at this
  exact this
theorem cntTo_yes {n : Nat} {K : Nat → List UInt8} {k : Nat} (h : finB n K k = true) : cntTo n K (k + 1) = cntTo n K k + 1 := by
  simp [cntTo, List.range_succ, List.filter_append, h]
theorem cntTo_no {n : Nat} {K : Nat → List UInt8} {k : Nat} (h : finB n K k = false) : cntTo n K (k + 1) = cntTo n K k := by
  simp [cntTo, List.range_succ, List.filter_append, h]

theorem fins_at {n : Nat} {K : Nat → List UInt8} {k : Nat} (h : k < n) : (fins n K)[k]? = some (.bool (finB n K k)) := by
  simp [fins, h]

set_option maxHeartbeats 1000000 in
theorem cnt_calls (b n : Nat) (K : Nat → List UInt8) (w : World) (hn : n ≤ 1024) (h : HasRow w b 4 (fins n K)) :
    Calls Try.prog 6 #[.slice (some ⟨b, 0, none⟩) n n] w fun e w' => e = .returned (.int .i64 (cnt n K)) ∧ w' = w := by
  have hcs : Hid (∀ k, k < n → w.cell? ⟨b, k, none⟩ = some (.bool (finB n K k))) := fun k hk => (h.cell k).trans (fins_at hk)
  clear h
  go_enter Try.func6, Try.ntmps6
  go_wp2
  go_loop [3, 4] (fun t i => ∃ k : Nat, k ≤ n ∧ i = .int .i64 k ∧ t = .int .i64 (cntTo n K k)) (fun _ i => n - (intOf i).toNat)
  case atStart => exact ⟨0, Nat.zero_le _, rfl, rfl⟩
  case round =>
    obtain ⟨k, hk, rfl, rfl⟩ := hrel
    have hle := cntTo_le n K k
    by_cases hlt : (k : Int) < (n : Int)
    · have hc := hcs.out k (by omega)
      cases hf : finB n K k
      · rw [hf] at hc
        have HY : Hid _ := cntTo_no hf
        clear hf
        go_wp2
        go_round
        case rel => exact ⟨k + 1, by omega, by go_num, by rw [HY.out]⟩
        case measure => simp [intOf]; omega
      · rw [hf] at hc
        have HY : Hid _ := cntTo_yes hf
        clear hf
        go_wp2
        go_round
        case rel => exact ⟨k + 1, by omega, by go_num, by rw [HY.out]; go_num⟩
        case measure => simp [intOf]; omega
    · have e : k = n := by omega
      subst e
      go_wp2
      go_ret
      exact ⟨rfl, rfl⟩

/-- It answered yes or no; the world is as it was. -/
def SomeBool (e : Ending) (w w' : World) : Prop := ∃ b, e = .returned (.bool b) ∧ w' = w
theorem someBool_mk (b : Bool) (w : World) : SomeBool (.returned (.bool b)) w w := ⟨b, rfl, rfl⟩

set_option maxHeartbeats 2000000 in
theorem bytes_calls (a0 a1 a2 a3 : Option Addr) (n0 n1 n2 n3 c0 c1 c2 c3 : Nat) (w : World) (h0 : n0 ≤ maxLen) (h1 : n1 ≤ maxLen) (h2 : n2 ≤ maxLen) (h3 : n3 ≤ maxLen)
    (r0 : ∀ k, k < n0 → ∃ b off s, a0 = some ⟨b, off, none⟩ ∧ w.cell? ⟨b, off + k, none⟩ = some (.string s))
    (r2 : ∀ k, k < n2 → ∃ b off s, a2 = some ⟨b, off, none⟩ ∧ w.cell? ⟨b, off + k, none⟩ = some (.string s)) :
    Calls Try.prog 4 #[.slice a0 n0 c0, .slice a1 n1 c1, .slice a2 n2 c2, .slice a3 n3 c3] w fun e w' => SomeBool e w w' := by
  unfold maxLen at h0 h1 h2 h3
  have R0 : Hid _ := r0
  have R2 : Hid _ := r2
  clear r0 r2
  go_enter Try.func4, Try.ntmps4
  go_wp2
  · go_ret
    exact someBool_mk _ _
  go_loop [9, 10] (fun t i => ∃ k : Nat, k ≤ n0 ∧ i = .int .i64 k ∧ ∃ x : Int, t = .int .i64 x) (fun _ i => n0 - (intOf i).toNat)
  case atStart => exact ⟨0, Nat.zero_le _, rfl, _, rfl⟩
  case round =>
    obtain ⟨k, hk, rfl, x, rfl⟩ := hrel
    by_cases hlt : (k : Int) < (n0 : Int)
    · obtain ⟨b, off, s, rfl, hc⟩ := R0.out k (by omega)
      go_wp2
      · go_ret
        exact someBool_mk _ _
      · go_ret
        exact someBool_mk _ _
      · go_round
        case rel => exact ⟨k + 1, by omega, by go_num, _, rfl⟩
        case measure => simp [intOf]; omega
    · go_wp2
      · go_ret
        exact someBool_mk _ _
      · go_ret
        exact someBool_mk _ _
      · go_ret
        exact someBool_mk _ _
      · go_ret
        exact someBool_mk _ _
      go_loop [9, 11] (fun t i => ∃ k : Nat, k ≤ n2 ∧ i = .int .i64 k ∧ ∃ x : Int, t = .int .i64 x) (fun _ i => n2 - (intOf i).toNat)
      case atStart => exact ⟨0, Nat.zero_le _, rfl, _, rfl⟩
      case round =>
        obtain ⟨l, hl, rfl, y, rfl⟩ := hrel
        by_cases hlt : (l : Int) < (n2 : Int)
        · obtain ⟨b, off, s, rfl, hc⟩ := R2.out l (by omega)
          go_wp2
          · go_ret
            exact someBool_mk _ _
          · go_ret
            exact someBool_mk _ _
          · go_round
            case rel => exact ⟨l + 1, by omega, by go_num, _, rfl⟩
            case measure => simp [intOf]; omega
        · go_wp2
          all_goals
            go_ret
            exact someBool_mk _ _

end Go.Proofs.Qxb6613641a
