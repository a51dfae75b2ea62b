/- SameValue: two doubles in interface values; two maps of such. The walk over the maps is made after the kit's own text on maps.EqualFunc (Derived/Shelf/SlMaps/Equal.lean), turned to this program. -/
import Derived.Test.Qxb6613641aProg
import Derived.WalkKit
import Derived.KernelRfl
import Derived.WalkLawsBesides
import Derived.Lib.SlMapEqual
import Derived.Maps.Ext
import Derived.Maps.RangeWalk
import Derived.Maps.OwnSet
import Derived.Laws.IdiomRangeMap
import Derived.Deep.LoopGhost
namespace Go.Proofs.Qxb6613641a
open Go Go.RowKit Go.Maps

/-- The model's '==' on two doubles. -/
def feq (a b : Nat) : Bool := Op.floatEq .f64 a b

theorem as28_30 (v : Value) (w : World) : (Instr.typeAssert (.iface 28 v) 20 30 true).run Try.prog w = .ok (.tuple #[.map none, .bool false]) w := by kernel_rfl
theorem as28_34 (v : Value) (w : World) : (Instr.typeAssert (.iface 28 v) 20 34 true).run Try.prog w = .ok (.tuple #[.slice none 0 0, .bool false]) w := by kernel_rfl
theorem as30_30 (v : Value) (w : World) : (Instr.typeAssert (.iface 30 v) 20 30 true).run Try.prog w = .ok (.tuple #[v, .bool true]) w := by kernel_rfl
theorem eq_if (a b : Nat) (w : World) : (binOp .eql 20 (.iface 28 (.float .f64 a)) (.iface 28 (.float .f64 b))).run Try.prog w = .ok (.bool (feq a b)) w := by kernel_rfl

set_option maxHeartbeats 400000 in
theorem leaf (a b : Nat) (w : World) :
    Calls Try.prog 8 #[.iface 28 (.float .f64 a), .iface 28 (.float .f64 b)] w fun e w' => e = .returned (.bool (feq a b)) ∧ w' = w := by
  have h1 := as28_30
  have h2 := as28_34
  have h3 := eq_if
  go_enter Try.func8, Try.ntmps8
  go_wp2
  go_ret
  exact ⟨rfl, rfl⟩

/-- How an element of such a map reads: a double by its bits. -/
def relem : Value → Option (DataW Nat × List MemPlace)
  | .iface 28 (.float .f64 b) => some (.held b, [])
  | .nilIface => some (.nil, [])
  | _ => none

theorem relem_inv {v : Value} {b : Nat} {ps : List MemPlace} (h : relem v = some (.held b, ps)) : v = .iface 28 (.float .f64 b) := by
  unfold relem at h
  split at h
  · simp at h
    rw [h.1]
  · simp at h
  · simp at h

/-- '==' on data. -/
def eqd : DataW Nat → DataW Nat → Bool
  | .held x, .held y => feq x y
  | _, _ => false

/-- Every entry of D is a double. -/
def Helds (D : DataW Nat) : Prop := ∀ kl, Maps.has D kl = true → ∃ b, D.atKey kl .nil = .held b

theorem law : Keyed Try.prog 9 := string_keyed Try.underlying9
theorem zero20 (w : World) : (zeroValue 20).run Try.prog w = .ok .nilIface w := by kernel_rfl

theorem leaf_of {x y : Value} {a b : Nat} {xp yp : List MemPlace} (hx : relem x = some (.held a, xp)) (hy : relem y = some (.held b, yp)) (W : World) :
    Calls Try.prog 8 #[x, y] W fun e w' => e = .returned (.bool (feq a b)) ∧ W.grownBy w' none := by
  rw [relem_inv hx, relem_inv hy]
  refine (leaf a b W).mono ?_
  rintro e w' ⟨rfl, rfl⟩
  exact ⟨rfl, World.grownBy.refl _ _⟩

set_option maxHeartbeats 4000000 in
set_option maxRecDepth 100000 in
theorem same_maps (b1 b2 n1 n2 : Nat) (D1 D2 : DataW Nat) (w : World) (h1 : w.ownsMap Try.prog 9 relem b1 n1 D1) (h2 : w.ownsMap Try.prog 9 relem b2 n2 D2) (k1 : Helds D1) (k2 : Helds D2) :
    Calls Try.prog 8 #[.iface 30 (.map (some b1)), .iface 30 (.map (some b2))] w fun e w' => e = .returned (.bool (Lib.equalFuncD eqd D1 D2)) ∧ w.grownBy w' none := by
  have as1 := as30_30
  have l1 := fun ty => h1.len (t := 30) Try.underlying30 ty
  have l2 := fun ty => h2.len (t := 30) Try.underlying30 ty
  obtain ⟨es1, rfl, hap, hkeys⟩ := h1.entries law
  have hb2 := h2.lt
  generalize hres : Lib.equalFuncD eqd (.map es1) D2 = res
  have RES : Aside (Lib.equalFuncD eqd (.map es1) D2 = res) := hres
  clear hres
  have K1 : Aside _ := k1
  have K2 : Aside _ := k2
  clear k1 k2
  by_cases hsz : Maps.size (.map es1 : DataW Nat) = Maps.size D2
  · go_enter Try.func8, Try.ntmps8
    go_wp2_with (first
      | (at_range; refine wpList_range_own _ rfl _ 30 rfl 9 20 law Try.underlying30 relem b1 n1 _ rfl h1 ?_; intro w0 hrg0 hg0 hs0)
      | go_in)
    go_frame
    go_loopw [8] (fun _ wr => ∃ (left : Lit → Bool) (cnt : Nat), wr.ranges Try.prog 9 relem b1 w.heap.size n1 (.map es1) left cnt ∧ wr.ownsMap Try.prog 9 relem b2 n2 D2 ∧ w.grownBy wr none ∧ Aside (GoodAt eqd es1 D2 left))
      (fun _ wr => wr.rangeLeft b1 w.heap.size)
    case atStart => exact ⟨_, _, hrg0, h2.kept hg0 (by simp), hg0, good_start hkeys D2⟩
    case round =>
      obtain ⟨left, cnt, hrg, h2r, hgw, G⟩ := hrel
      go_wp2_with (first
        | (at_next; refine wpList_next_ranges _ rfl _ rfl 9 law relem id id (fun key _ _ => ⟨key, rfl⟩) (fun v _ _ => ⟨v, rfl⟩) b1 w.heap.size n1 _ _ _ rfl hrg ?_ ?_)
        | go_in)
      · intro _ hl0
        go_wp2
        go_ret
        exact ⟨by rw [← RES.out, all_good G.out hl0 hsz]; rfl, hgw⟩
      · intro x c kl yd yp w1 cnt1 hkey hlx hv hat hrg1 hlt hg1 hs1 hen
        have hgw1 : w.grownBy w1 none := hgw.andThen hg1 (fun j hj => by cases hj; exact Or.inl (Nat.le_refl _))
        have h2w1 := h2r.kept hg1 (fun e => by have := Option.some.inj e; omega)
        have HAT : Aside (∀ zd, (DataW.map es1).atKey kl zd = yd) := hat
        clear hat
        obtain ⟨a, ha⟩ := K1.out kl (has_true_of_atKey HAT.out)
        obtain rfl : yd = .held a := (HAT.out .nil).symm.trans ha
        clear ha
        cases hh : Maps.has D2 kl
        · have hbad : Lib.goodD eqd D2 (kl, .held a) = false := by unfold Lib.goodD; rw [hh]; rfl
          have HB : Aside _ := hbad
          clear hbad
          go_wp2_with (first
            | (at_lookup; refine wpList_lookup_own_ok _ rfl _ _ 30 rfl 9 20 law Try.underlying30 relem (zero20 _) .nil [] rfl b2 n2 D2 rfl h2w1 _ kl rfl hkey ?_; intro v2 ps2 hv2; rw [hh]; go_frame)
            | go_in)
          go_ret
          exact ⟨by rw [← RES.out, bad_false hap hkeys HAT.out HB.out]; rfl, hgw1⟩
        · obtain ⟨b, hb⟩ := K2.out kl hh
          have HB : Aside (D2.atKey kl .nil = .held b) := hb
          clear hb
          cases he : feq a b
          · have hbad : Lib.goodD eqd D2 (kl, .held a) = false := by show (Maps.has D2 kl && eqd (.held a) (D2.atKey kl .nil)) = _; rw [hh, HB.out]; show (true && feq a b) = _; rw [he]; rfl
            have HBAD : Aside _ := hbad
            clear hbad
            go_wp2_with (first
              | (at_lookup; refine wpList_lookup_own_ok _ rfl _ _ 30 rfl 9 20 law Try.underlying30 relem (zero20 _) .nil [] rfl b2 n2 D2 rfl h2w1 _ kl rfl hkey ?_; intro v2 ps2 hv2; rw [hh]; go_frame; have hc := leaf_of hv (by rw [HB.out] at hv2; exact hv2) w1; rw [he] at hc)
              | (go_at_call 8; refine hc.mono ?_; rintro e w2 ⟨rfl, hg2⟩)
              | go_in)
            go_ret
            exact ⟨by rw [← RES.out, bad_false hap hkeys HAT.out HBAD.out]; rfl, hgw1.andThen hg2 (fun j hj => by cases hj)⟩
          · have hgood : Lib.goodD eqd D2 (kl, .held a) = true := by show (Maps.has D2 kl && eqd (.held a) (D2.atKey kl .nil)) = _; rw [hh, HB.out]; show (true && feq a b) = _; rw [he]; rfl
            have HGOOD : Aside _ := hgood
            clear hgood
            go_wp2_with (first
              | (at_lookup; refine wpList_lookup_own_ok _ rfl _ _ 30 rfl 9 20 law Try.underlying30 relem (zero20 _) .nil [] rfl b2 n2 D2 rfl h2w1 _ kl rfl hkey ?_; intro v2 ps2 hv2; rw [hh]; go_frame; have hc := leaf_of hv (by rw [HB.out] at hv2; exact hv2) w1; rw [he] at hc)
              | (go_at_call 8; refine hc.mono ?_; rintro e w2 ⟨rfl, hg2⟩)
              | go_in)
            have hrg2 := hrg1.kept hg2 (by simp) (by simp)
            go_roundw
            case rel => exact ⟨_, cnt1, hrg2, h2w1.kept hg2 (by simp), hgw1.andThen hg2 (fun j hj => by cases hj), good_step hap hkeys HAT.out G.out HGOOD.out⟩
            case measure => rw [hrg2.left_eq, hrg.left_eq]; exact hlt
  · have hne : ¬ ((Maps.size (.map es1 : DataW Nat) : Int) = (Maps.size D2 : Int)) := fun e => hsz (by exact_mod_cast e)
    go_enter Try.func8, Try.ntmps8
    go_wp2
    go_ret
    exact ⟨by rw [← RES.out, sizes_false hsz]; rfl, World.grownBy.refl _ _⟩

end Go.Proofs.Qxb6613641a
