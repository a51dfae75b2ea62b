/- zzObject: the map of a list of names and a list of doubles. -/
import Derived.Test.Qxb6613641aSame
import Derived.Maps.Own
import Derived.RegionTactic
import Derived.BigRegion
namespace Go.Proofs.Qxb6613641a
open Go Go.RowKit Go.Maps

/-- The cells from an address on hold these values. -/
def RowAt (w : World) (a : Option Addr) (xs : List Value) : Prop :=
  xs = [] ∨ ∃ b off, a = some ⟨b, off, none⟩ ∧ b < w.heap.size ∧ ∀ k u, xs[k]? = some u → w.cell? ⟨b, off + k, none⟩ = some u

theorem RowAt.kept {w w' : World} {a : Option Addr} {xs : List Value} (h : RowAt w a xs) (hb : Below w.heap.size w w') : RowAt w' a xs := by
  rcases h with h | ⟨b, off, ha, hlt, hc⟩
  · exact .inl h
  · exact .inr ⟨b, off, ha, Nat.lt_of_lt_of_le hlt hb.size, fun k u hu => (hb.cell (p := ⟨b, off + k, none⟩) hlt).trans (hc k u hu)⟩

theorem mk_map (n : Int) (w : World) : (Instr.makeMap 30 (some (.int .i64 n))).run Try.prog w = .ok (.map (some w.heap.size)) (w.alloc (.map #[] 0)) := by kernel_rfl

/-- The map after k rounds. -/
def objTo (ks : List ByteArray) (vs : List Nat) : Nat → DataW Nat
  | 0 => .map []
  | k + 1 => (objTo ks vs k).put (.string (ks.getD k ByteArray.empty).data.toList) (.held (vs.getD k 0))

theorem key_string (s : ByteArray) (h : s.size ≤ maxLen) : keyOf Try.prog 9 (.string s) = some (.string s.data.toList) := WideMaps.keyOf_string_mk Try.underlying9 h

set_option maxHeartbeats 1000000 in
set_option maxRecDepth 100000 in
theorem obj_some (b1 off1 c1 b2 off2 c2 n : Nat) (ks : List ByteArray) (vs : List Nat) (w : World) (hk : ks.length = n) (hv : vs.length = n) (hn : n ≤ 1024)
    (hb1 : b1 < w.heap.size) (hb2 : b2 < w.heap.size) (hs : ∀ k, k < n → (ks.getD k ByteArray.empty).size ≤ maxLen)
    (hc1 : ∀ k, k < n → w.cell? ⟨b1, off1 + k, none⟩ = some (.string (ks.getD k ByteArray.empty)))
    (hc2 : ∀ k, k < n → w.cell? ⟨b2, off2 + k, none⟩ = some (.float .f64 (vs.getD k 0))) :
    Calls Try.prog 9 #[.slice (some ⟨b1, off1, none⟩) n c1, .slice (some ⟨b2, off2, none⟩) n c2] w fun e w' => e = .returned (.map (some w.heap.size)) ∧ w'.ownsMap Try.prog 9 relem w.heap.size n (objTo ks vs n) ∧ Below w.heap.size w w' := by
  have hmm := mk_map
  have HC1 : Hid _ := hc1
  have HC2 : Hid _ := hc2
  have HS : Hid _ := hs
  clear hc1 hc2 hs
  go_enter Try.func9, Try.ntmps9
  go_wp2
  go_loopw [6] (fun i wr => ∃ k : Nat, k ≤ n ∧ i = .int .i64 k ∧ wr.ownsMap Try.prog 9 relem w.heap.size k (objTo ks vs k) ∧ Below w.heap.size w wr) (fun i _ => n - (intOf i).toNat)
  case atStart => exact ⟨0, Nat.zero_le _, rfl, World.ownsMap_made _ _ _ _, (Below.refl _ _).alloc (Nat.le_refl _) _⟩
  case round =>
    obtain ⟨k, hkn, rfl, hown, hbel⟩ := hrel
    by_cases hlt : (k : Int) < (n : Int)
    · have hlt' : k < n := by omega
      have k1 := (hbel.cell (p := ⟨b1, off1 + k, none⟩) hb1).trans (HC1.out k hlt')
      have k2 := (hbel.cell (p := ⟨b2, off2 + k, none⟩) hb2).trans (HC2.out k hlt')
      have ks' := HS.out k hlt'
      have hstep : Hid (objTo ks vs (k + 1) = (objTo ks vs k).put (.string (ks.getD k ByteArray.empty).data.toList) (.held (vs.getD k 0))) := rfl
      generalize ks.getD k ByteArray.empty = s at k1 ks' hstep
      generalize vs.getD k 0 = v at k2 hstep
      obtain ⟨w1, hrun, hown1, hg1⟩ := hown.drew.update law Try.underlying30 (by unfold maxLen; omega) (key_string s ks') (show relem (.iface 28 (.float .f64 v)) = some (.held v, []) from rfl)
      have HST := hstep.out
      rw [← HST] at hown1
      clear HST hstep
      go_wp2
      go_region
      go_wp2
      go_roundw
      case rel => exact ⟨k + 1, by omega, by go_num, hown1, hbel.drew.grown hg1 hbel.size (fun j hj => by cases hj; exact Nat.le_refl _)⟩
      case measure => simp [intOf]; omega
    · have : k = n := by omega
      subst this
      go_wp2
      go_ret
      exact ⟨rfl, hown, hbel⟩

end Go.Proofs.Qxb6613641a
