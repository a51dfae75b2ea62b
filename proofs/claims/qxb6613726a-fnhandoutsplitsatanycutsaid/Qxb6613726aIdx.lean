/- zzB1Index at a unit that is there; zzB1SameSet at equal sets. -/
import Derived.Test.Qxb6613726aHandL
import Derived.Test.Qxb6613726aPick
import Derived.Test.Qxb6613726aNil
namespace Go.Proofs.Qxb6613726a
open Go Go.RowKit Go.Sort Plain
set_option linter.unusedVariables false

set_option maxHeartbeats 1000000 in
theorem index_calls (a : Option Addr) (c n j : Nat) (fs : List Int) (w : World) (hl : fs.length = n) (hn : n ≤ 4096) (hr : Rising fs) (hj : j < n) (h : RowAt w a (cells fs)) :
    Calls Try.prog 13 #[.slice a n c, .int .i64 (fs.getD j 0)] w fun e w' => e = .returned (.int .i64 j) ∧ w' = w := by
  obtain ⟨b, off, rfl, _, hc⟩ := row_ints h hl (by omega)
  have HR : Hid (∀ i, i < n → (fs.getD i 0 < fs.getD j 0 → i < j) ∧ (fs.getD j 0 ≤ fs.getD i 0 → j ≤ i)) := fun i hi => by
    have h1 := hr i j
    have h2 := hr j i
    rw [hl] at h1 h2
    refine ⟨fun h => ?_, fun h => ?_⟩
    · by_cases e : i = j
      · subst e; omega
      · by_cases g : j < i
        · have := h2 g hi; omega
        · omega
    · by_cases g : i < j
      · have := h1 g hj; omega
      · omega
  have kj := hc.out j hj
  clear h hl hr
  have HC : Hid (∀ k, k < n → w.cell? ⟨b, off + k, none⟩ = some (.int .i64 (fs.getD k 0))) := hc
  clear hc
  go_enter Try.func13, Try.ntmps13
  go_wp2
  go_loop [5, 6] (fun lo hi => ∃ l h : Nat, l ≤ j ∧ j ≤ h ∧ h ≤ n ∧ lo = .int .i64 l ∧ hi = .int .i64 h) (fun lo hi => (intOf hi).toNat - (intOf lo).toNat)
  case atStart => exact ⟨0, n, by omega, by omega, by omega, rfl, rfl⟩
  case round =>
    obtain ⟨l, h, h1, h2, h3, rfl, rfl⟩ := hrel
    by_cases hlt : (l : Int) < (h : Int)
    · have kc := HC.out (l + (h - l) / 2) (by omega)
      have HQ := HR.out (l + (h - l) / 2) (by omega)
      have HQ1 : Hid (fs.getD (l + (h - l) / 2) 0 < fs.getD j 0 → (l + (h - l) / 2) < j) := HQ.1
      have HQ2 : Hid (fs.getD j 0 ≤ fs.getD (l + (h - l) / 2) 0 → j ≤ (l + (h - l) / 2)) := HQ.2
      clear HQ
      generalize fs.getD (l + (h - l) / 2) 0 = x at *
      generalize fs.getD j 0 = u at *
      by_cases hx : x < u
      · have := HQ1.out hx
        go_wp2
        go_round
        case rel => exact ⟨l + (h - l) / 2 + 1, h, by omega, by omega, by omega, by go_num, rfl⟩
        case measure => simp only [intOf]; omega
      · have := HQ2.out (by omega)
        go_wp2
        go_round
        case rel => exact ⟨l, l + (h - l) / 2, by omega, by omega, by omega, rfl, by go_num⟩
        case measure => simp only [intOf]; omega
    · obtain rfl : l = j := by omega
      obtain rfl : l = h := by omega
      generalize fs.getD l 0 = u at *
      have hlt' : (l : Int) < (n : Int) := by omega
      go_wp2
      go_ret
      exact ⟨rfl, rfl⟩

set_option maxHeartbeats 1000000 in
theorem same_some (g1 o1 c1 g2 o2 c2 : Nat) (n : Nat) (l : List Int) (w : World) (hn : n ≤ 4096) (hl : l.length = n)
    (k1 : ∀ j, j < n → w.cell? ⟨g1, o1 + j, none⟩ = some (.int .i64 (l.getD j 0))) (k2 : ∀ j, j < n → w.cell? ⟨g2, o2 + j, none⟩ = some (.int .i64 (l.getD j 0))) :
    Calls Try.prog 14 #[.slice (some ⟨g1, o1, none⟩) n c1, .slice (some ⟨g2, o2, none⟩) n c2] w fun e w' => e = .returned (.bool true) ∧ ∃ q, w' = w.drewN q := by
  have e1 := eql22_some ⟨g1, o1, none⟩ n c1
  have e2 := eql22_some ⟨g2, o2, none⟩ n c2
  have K1 : Hid (∀ j, j < n → w.cell? ⟨g1, o1 + j, none⟩ = some (.int .i64 (l.getD j 0))) := k1
  have K2 : Hid (∀ j, j < n → w.cell? ⟨g2, o2 + j, none⟩ = some (.int .i64 (l.getD j 0))) := k2
  clear k1 k2
  go_enter Try.func14, Try.ntmps14
  go_wp2
  clear e1 e2
  go_loopw [5] (fun i wr => ∃ k : Nat, k ≤ n ∧ i = .int .i64 k ∧ ∃ q, wr = w.drewN q) (fun i _ => n - (intOf i).toNat)
  case atStart => exact ⟨0, Nat.zero_le _, rfl, 0, rfl⟩
  case round =>
    obtain ⟨k, hk, rfl, q, rfl⟩ := hrel
    by_cases hlt : (k : Int) < (n : Int)
    · have c1 : w.cell? ⟨g1, o1 + k, none⟩ = some (.int .i64 (l.getD k 0)) := K1.out k (by omega)
      have c2 : w.cell? ⟨g2, o2 + k, none⟩ = some (.int .i64 (l.getD k 0)) := K2.out k (by omega)
      generalize l.getD k 0 = x at c1 c2
      go_wp2_with fail
      go_quiet (fail)
      go_wp2
      go_roundw
      case rel => exact ⟨k + 1, by omega, by go_num, _, rfl⟩
      case measure => simp [intOf]; omega
    · go_wp2
      go_ret
      exact ⟨rfl, q, rfl⟩

set_option maxHeartbeats 1000000 in
theorem same_none (w : World) : Calls Try.prog 14 #[.slice none 0 0, .slice none 0 0] w fun e w' => e = .returned (.bool true) ∧ ∃ q, w' = w.drewN q := by
  have e1 := eql22_none
  go_enter Try.func14, Try.ntmps14
  go_wp2
  clear e1
  go_loopw [5] (fun i wr => i = .int .i64 0 ∧ wr = w) (fun i _ => 0)
  case atStart => exact ⟨rfl, rfl⟩
  case round =>
    obtain ⟨rfl, rfl⟩ := hrel
    go_wp2
    go_ret
    exact ⟨rfl, 0, rfl⟩

/-- Two sets that read alike. -/
theorem same_calls {w : World} {v1 v2 : Value} {x : Option (List Int)} (h1 : SetIs w v1 x) (h2 : SetIs w v2 x) (hx : ∀ l, x = some l → l.length ≤ 4096) :
    Calls Try.prog 14 #[v1, v2] w fun e w' => e = .returned (.bool true) ∧ ∃ q, w' = w.drewN q := by
  cases x with
  | none =>
    have e1 : v1 = .slice none 0 0 := h1
    have e2 : v2 = .slice none 0 0 := h2
    subst e1 e2
    exact same_none w
  | some l =>
    obtain ⟨g1, o1, c1, rfl, _, k1⟩ := h1
    obtain ⟨g2, o2, c2, rfl, _, k2⟩ := h2
    exact same_some g1 o1 c1 g2 o2 c2 l.length l w (hx l rfl) rfl k1 k2
theorem setIs_drewN {w : World} {v : Value} {x : Option (List Int)} (h : SetIs w v x) (q : Nat) : SetIs (w.drewN q) v x := by
  cases x with
  | none => exact h
  | some l => exact h

end Go.Proofs.Qxb6613726a
