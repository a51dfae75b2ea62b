/- ZZSameObjects: two maps are made, then held against each other. -/
import Derived.Test.Qxb6613641aPlain
namespace Go.Proofs.Qxb6613641a
open Go Go.RowKit Go.Maps
set_option linter.unusedVariables false

set_option maxHeartbeats 1000000 in
set_option maxRecDepth 100000 in
theorem obj_none (a1 a2 : Option Addr) (c1 c2 : Nat) (ks : List ByteArray) (vs : List Nat) (w : World) :
    Calls Try.prog 9 #[.slice a1 0 c1, .slice a2 0 c2] w fun e w' => e = .returned (.map (some w.heap.size)) ∧ w'.ownsMap Try.prog 9 relem w.heap.size 0 (objTo ks vs 0) ∧ Below w.heap.size w w' := by
  have hmm := mk_map
  go_enter Try.func9, Try.ntmps9
  go_wp2
  go_loopw [6] (fun i wr => i = .int .i64 0 ∧ wr.ownsMap Try.prog 9 relem w.heap.size 0 (objTo ks vs 0) ∧ Below w.heap.size w wr) (fun i _ => 0)
  case atStart => exact ⟨rfl, World.ownsMap_made _ _ _ _, (Below.refl _ _).alloc (Nat.le_refl _) _⟩
  case round =>
    obtain ⟨rfl, hown, hbel⟩ := hrel
    go_wp2
    go_ret
    exact ⟨rfl, hown, hbel⟩

theorem obj_calls (a1 a2 : Option Addr) (c1 c2 n : Nat) (ks : List ByteArray) (vs : List Nat) (w : World) (hk : ks.length = n) (hl : vs.length = n) (hn : n ≤ 1024) (hs : ∀ s ∈ ks, s.size ≤ maxLen)
    (h1 : RowAt w a1 (ks.map .string)) (h2 : RowAt w a2 (vs.map (.float .f64))) :
    Calls Try.prog 9 #[.slice a1 n c1, .slice a2 n c2] w fun e w' => e = .returned (.map (some w.heap.size)) ∧ w'.ownsMap Try.prog 9 relem w.heap.size n (objTo ks vs n) ∧ Below w.heap.size w w' := by
  rcases h1 with h1 | ⟨b1, off1, rfl, hb1, hc1⟩
  · have e : ks = [] := by simpa using h1
    obtain rfl : n = 0 := by rw [← hk, e]; rfl
    exact obj_none a1 a2 c1 c2 ks vs w
  · rcases h2 with h2 | ⟨b2, off2, rfl, hb2, hc2⟩
    · have e : vs = [] := by simpa using h2
      obtain rfl : n = 0 := by rw [← hl, e]; rfl
      exact obj_none _ a2 c1 c2 ks vs w
    · refine obj_some b1 off1 c1 b2 off2 c2 n ks vs w hk hl hn hb1 hb2 (fun k h => ?_) (fun k h => ?_) (fun k h => ?_)
      · rw [List.getD_eq_getElem?_getD, List.getElem?_eq_getElem (by omega)]
        exact hs _ (List.getElem_mem _)
      · refine hc1 k _ ?_
        rw [List.getElem?_map, List.getD_eq_getElem?_getD, List.getElem?_eq_getElem (by omega)]
        rfl
      · refine hc2 k _ ?_
        rw [List.getElem?_map, List.getD_eq_getElem?_getD, List.getElem?_eq_getElem (by omega)]
        rfl

theorem ownsMap_below {w w' : World} {B b n : Nat} {D : DataW Nat} (h : w.ownsMap Try.prog 9 relem b n D) (hb : Below B w w') (hlt : b < B) : w'.ownsMap Try.prog 9 relem b n D := by
  obtain ⟨es, clock, hh, r⟩ := h
  exact ⟨es, clock, (hb.block b hlt).trans hh, r⟩

/-- What ZZSameObjects answers. -/
def sameB (ka : List ByteArray) (va : List Nat) (n : Nat) (kb : List ByteArray) (vb : List Nat) (m : Nat) : Bool := Lib.equalFuncD eqd (objTo ka va n) (objTo kb vb m)

set_option maxHeartbeats 1000000 in
theorem same_calls (a1 a2 : Option Addr) (c1 c2 n : Nat) (ka : List ByteArray) (va : List Nat) (b1 b2 : Option Addr) (d1 d2 m : Nat) (kb : List ByteArray) (vb : List Nat) (w : World)
    (hka : ka.length = n) (hva : va.length = n) (hn : n ≤ 1024) (hkb : kb.length = m) (hvb : vb.length = m) (hm : m ≤ 1024) (hsa : ∀ s ∈ ka, s.size ≤ maxLen) (hsb : ∀ s ∈ kb, s.size ≤ maxLen)
    (h1 : RowAt w a1 (ka.map .string)) (h2 : RowAt w a2 (va.map (.float .f64))) (h3 : RowAt w b1 (kb.map .string)) (h4 : RowAt w b2 (vb.map (.float .f64))) :
    Calls Try.prog 7 #[.slice a1 n c1, .slice a2 n c2, .slice b1 m d1, .slice b2 m d2] w fun e w' => e = .returned (.bool (sameB ka va n kb vb m)) ∧ Below w.heap.size w w' := by
  have H1 : Hid (∀ W, W = w → Calls Try.prog 9 #[.slice a1 n c1, .slice a2 n c2] W fun e w' => e = .returned (.map (some W.heap.size)) ∧ w'.ownsMap Try.prog 9 relem W.heap.size n (objTo ka va n) ∧ Below W.heap.size W w') := fun W e => by
    subst e
    exact obj_calls a1 a2 c1 c2 n ka va W hka hva hn hsa h1 h2
  have H2 : Hid (∀ W, Below w.heap.size w W → Calls Try.prog 9 #[.slice b1 m d1, .slice b2 m d2] W fun e w' => e = .returned (.map (some W.heap.size)) ∧ w'.ownsMap Try.prog 9 relem W.heap.size m (objTo kb vb m) ∧ Below W.heap.size W w') :=
    fun W hW => obj_calls b1 b2 d1 d2 m kb vb W hkb hvb hm hsb (h3.kept hW) (h4.kept hW)
  clear h1 h2 h3 h4 hsa hsb hka hva hkb hvb hn hm
  go_enter Try.func7, Try.ntmps7
  go_wp2_with fail
  refine (H1.out _ rfl).mono ?_
  rintro e w1 ⟨rfl, ho1, hb1⟩
  go_wp2_with fail
  refine (H2.out w1 hb1).mono ?_
  rintro e w2 ⟨rfl, ho2, hb2⟩
  have hlt := ho1.lt
  have ho1' := ownsMap_below ho1 hb2 hlt
  have H3 : Hid (∀ W, W = w2 → Calls Try.prog 8 #[.iface 30 (.map (some w.heap.size)), .iface 30 (.map (some w1.heap.size))] W fun e w' => e = .returned (.bool (sameB ka va n kb vb m)) ∧ W.grownBy w' none) := fun W e => by
    subst e
    exact same_maps w.heap.size w1.heap.size n m _ _ W ho1' ho2 (objTo_helds _ _ _) (objTo_helds _ _ _)
  go_wp2_with fail
  refine (H3.out _ rfl).mono ?_
  rintro e w3 ⟨rfl, hg⟩
  go_wp2
  go_ret
  have hb12 : Below w.heap.size w w2 := hb1.trans (hb2.mono hb1.size)
  exact ⟨rfl, hb12.grown hg hb12.size (fun k hk => by cases hk)⟩

end Go.Proofs.Qxb6613641a
