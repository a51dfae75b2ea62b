/- The law itself, walked. -/
import Derived.Test.Qxb6613641aMid
import Derived.Deep.DeepCutAuto
import Derived.Laws.CopyOwn
import Derived.Deep.Light
namespace Go.Proofs.Qxb6613641a
open Go Go.RowKit Go.Maps
set_option linter.unusedVariables false

theorem info9 : (Try.prog.info? 9).map (fun i => (i.zero, i.size, i.bytes)) = some (some (.string ByteArray.empty), 1, 16) := by kernel_rfl
theorem info28 : (Try.prog.info? 28).map (fun i => (i.zero, i.size, i.bytes)) = some (some (.float .f64 0), 1, 8) := by kernel_rfl
theorem size9 : (Try.prog.info? 9).map (·.size) = some 1 := by kernel_rfl
theorem size28 : (Try.prog.info? 28).map (·.size) = some 1 := by kernel_rfl

theorem splice_all {z : Value} {n : Nat} {X : List Value} (h : X.length = n) : splice (List.replicate n z) 0 X = X := by
  unfold splice
  rw [List.take_zero, List.nil_append, List.drop_of_length_le (by simp; omega), List.append_nil]

/-- 'zzc := make([]T, len(x)); copy(zzc, x)': the copy, as one law for the walk. -/
theorem wpList_copy_made {ops : Array Oper} {rest : List Oper} {o : Oper} {a : Act} {Q : Exit → Act → World → Prop} (hgd : o.guard = none) (d s : Operand) (T E : TypeId)
    (ho : o.op = .call { callee := .builtin .copy, args := #[d, s], argTypes := #[T, T] }) (hu : Try.prog.underlying T = some (.slice E)) (hsz : (Try.prog.info? E).map (·.size) = some 1)
    (W : World) (z : Value) (n dCap sCap : Nat) (sp : Option Addr) (X : List Value) (hX : X.length = n) (h1 : ∀ v ∈ X, v.oneCell' = true) (w : World) (hbw : Below w.heap.size w W) (hr : RowAt w sp X)
    (hd : a.eval d = .slice (some ⟨W.heap.size, 0, none⟩) n dCap) (hs : a.eval s = .slice sp n sCap)
    (hK : ∀ w', HasRow w' W.heap.size E X → Below w.heap.size w w' → wpList Try.prog ops Q rest (a.put o.dst (goInt n)) w') :
    wpList Try.prog ops Q (o :: rest) a (W.alloc (.cells (madeCells #[z] n) E)) := by
  have hb : Below w.heap.size w (W.alloc (.cells (madeCells #[z] n) E)) := hbw.alloc hbw.size _
  refine wpList_copy_splice hgd d s T T ho E hu hsz _ _ n dCap n sCap hd hs W.heap.size 0 (List.replicate n z) E (hasRow_made W z n E) X (by rw [hX]; exact (Nat.min_self n).symm) ?_ (by simp; omega) h1 w.heap.size w hb hbw.size ?_
  · intro hpos
    refine ⟨rfl, ?_⟩
    rcases hr with hr | ⟨b, off, rfl, hlt, hc⟩
    · rw [hr] at hpos; simp at hpos
    · refine ⟨_, rfl, fun j v hv => ?_⟩
      rw [WideShapes.add_plain]
      exact (hb.cell (p := ⟨b, off + j, none⟩) hlt).trans (hc j v hv)
  · intro w' hg hb'
    have hg' := hg.out
    rw [splice_all hX] at hg'
    rw [hX]
    exact hK w' hg' hb'

/-- A slice that reads as these cells: in this world, behind nothing but what the call has made. -/
def Copied (w : World) (v : Value) (n : Nat) (X : List Value) (wc : World) : Prop := Below w.heap.size w wc ∧ ∃ a c, v = .slice a n c ∧ RowAt wc a X

theorem copied_none {w wc : World} {n c : Nat} {X : List Value} (hb : Below w.heap.size w wc) (hr : RowAt w none X) : Copied w (.slice none n c) n X wc := ⟨hb, _, _, rfl, hr.kept hb⟩
theorem copied_some {w wc : World} {n c g : Nat} {E : TypeId} {X : List Value} (hb : Below w.heap.size w wc) (hr : HasRow wc g E X) : Copied w (.slice (some ⟨g, 0, none⟩) n c) n X wc := ⟨hb, _, _, rfl, hr.rowAt⟩

set_option maxHeartbeats 4000000 in
set_option maxRecDepth 100000 in
theorem main_walk (a0 a1 a2 a3 : Option Addr) (n0 n1 n2 n3 c0 c1 c2 c3 : Nat) (ka kb : List ByteArray) (va vb : List Nat) (w : World)
    (l0 : ka.length = n0) (l1 : va.length = n1) (l2 : kb.length = n2) (l3 : vb.length = n3)
    (h0 : n0 ≤ 1024) (h1 : n1 ≤ 1024) (h2 : n2 ≤ 1024) (h3 : n3 ≤ 1024)
    (sa : ∀ s ∈ ka, s.size ≤ maxLen) (sb : ∀ s ∈ kb, s.size ≤ maxLen)
    (r0 : RowAt w a0 (ka.map .string)) (r1 : RowAt w a1 (va.map (.float .f64))) (r2 : RowAt w a2 (kb.map .string)) (r3 : RowAt w a3 (vb.map (.float .f64)))
    (H4 : Hid (∀ W, W = w → Calls Try.prog 4 #[.slice a0 n0 c0, .slice a1 n1 c1, .slice a2 n2 c2, .slice a3 n3 c3] W fun e w' => SomeBool e W w')) :
    Calls Try.prog 3 #[.slice a0 n0 c0, .slice a1 n1 c1, .slice a2 n2 c2, .slice a3 n3 c3] w fun e w' => e = .returned (.bool true) ∧ Below w.heap.size w w' := by
  have hm9 := fun n (h : n ≤ 1024) W => run_make_row' (P := Try.prog) 22 9 (.string ByteArray.empty) 16 Try.underlying22 info9 rfl .i64 .i64 n (by omega) (by omega) W
  have hm28 := fun n (h : n ≤ 1024) W => run_make_row' (P := Try.prog) 23 28 (.float .f64 0) 8 Try.underlying23 info28 rfl .i64 .i64 n (by omega) (by omega) W
  have M0 := hm9 n0 h0
  have M1 := hm28 n1 h1
  have M2 := hm9 n2 h2
  have M3 := hm28 n3 h3
  clear hm9 hm28
  obtain ⟨X0, e0⟩ : ∃ X, X = ka.map Value.string := ⟨_, rfl⟩
  obtain ⟨X1, e1⟩ : ∃ X, X = va.map (Value.float .f64) := ⟨_, rfl⟩
  obtain ⟨X2, e2⟩ : ∃ X, X = kb.map Value.string := ⟨_, rfl⟩
  obtain ⟨X3, e3⟩ : ∃ X, X = vb.map (Value.float .f64) := ⟨_, rfl⟩
  have LX0 : Hid (X0.length = n0) := by subst e0; show _ = _; simpa using l0
  have LX1 : Hid (X1.length = n1) := by subst e1; show _ = _; simpa using l1
  have LX2 : Hid (X2.length = n2) := by subst e2; show _ = _; simpa using l2
  have LX3 : Hid (X3.length = n3) := by subst e3; show _ = _; simpa using l3
  have OX0 : Hid (∀ v ∈ X0, v.oneCell' = true) := by subst e0; intro v hv; obtain ⟨_, _, rfl⟩ := List.mem_map.1 hv; rfl
  have OX1 : Hid (∀ v ∈ X1, v.oneCell' = true) := by subst e1; intro v hv; obtain ⟨_, _, rfl⟩ := List.mem_map.1 hv; rfl
  have OX2 : Hid (∀ v ∈ X2, v.oneCell' = true) := by subst e2; intro v hv; obtain ⟨_, _, rfl⟩ := List.mem_map.1 hv; rfl
  have OX3 : Hid (∀ v ∈ X3, v.oneCell' = true) := by subst e3; intro v hv; obtain ⟨_, _, rfl⟩ := List.mem_map.1 hv; rfl
  rw [← e0] at r0
  rw [← e1] at r1
  rw [← e2] at r2
  rw [← e3] at r3
  have R0 : Hid (RowAt w a0 X0) := r0
  have R1 : Hid (RowAt w a1 X1) := r1
  have R2 : Hid (RowAt w a2 X2) := r2
  have R3 : Hid (RowAt w a3 X3) := r3
  have E0 : Hid (X0 = ka.map Value.string) := e0
  have E1 : Hid (X1 = va.map (Value.float .f64)) := e1
  have E2 : Hid (X2 = kb.map Value.string) := e2
  have E3 : Hid (X3 = vb.map (Value.float .f64)) := e3
  have SA : Hid (∀ s ∈ ka, s.size ≤ maxLen) := sa
  have SB : Hid (∀ s ∈ kb, s.size ≤ maxLen) := sb
  have L0 : Hid (ka.length = n0) := l0
  have L1 : Hid (va.length = n1) := l1
  have L2 : Hid (kb.length = n2) := l2
  have L3 : Hid (vb.length = n3) := l3
  clear r0 r1 r2 r3 sa sb e0 e1 e2 e3 l0 l1 l2 l3
  go_enter Try.func3, Try.ntmps3
  go_wp2_with fail
  refine (H4.out _ rfl).mono ?_
  rintro e w' ⟨b, rfl, rfl⟩
  clear H4
  cases b
  · go_wp2
    go_ret
    exact ⟨rfl, Below.refl _ _⟩
  go_upto_if 47 with fail
  go_cut [0, 9] (fun v _ wc => Copied w' v n0 X0 wc)
  case first =>
    cases a0 with
    | none =>
      go_wp2
      go_meet
      case rel => exact copied_none (Below.refl _ _) R0.out
    | some x =>
      go_upto_region 7 with fail
      go_wp2_with (refine wpList_copy_made rfl (.tmp 51) (.tmp 52) 22 9 rfl Try.underlying22 size9 _ _ n0 _ _ _ X0 LX0.out OX0.out w' (Below.refl _ _) R0.out rfl rfl ?_; intro w2 HG2 hB2)
      go_meet
      case rel => exact copied_some hB2 HG2
  case rest =>
    obtain ⟨B0, b0, d0, rfl, Q0⟩ := hcut
    obtain ⟨wx, rfl⟩ : ∃ wx : World, wx = wc := ⟨_, rfl⟩
    have HB0 : Hid (Below w'.heap.size w' wx) := B0
    have HQ0 : Hid (RowAt wx b0 X0) := Q0
    clear B0 Q0
    go_upto_if 56 with fail
    go_cut [1, 10] (fun v _ wc => Copied w' v n1 X1 wc ∧ Below wx.heap.size wx wc)
    case first =>
      cases a1 with
      | none =>
        go_wp2
        go_meet
        case rel => exact ⟨copied_none HB0.out R1.out, Below.refl _ _⟩
      | some x =>
        go_upto_region 11 with fail
        go_wp2_with (refine wpList_copy_made rfl (.tmp 60) (.tmp 61) 23 28 rfl Try.underlying23 size28 _ _ n1 _ _ _ X1 LX1.out OX1.out wx (Below.refl _ _) (R1.out.kept HB0.out) rfl rfl ?_; intro w2 HG2 hB2)
        go_meet
        case rel => exact ⟨copied_some (HB0.out.trans (hB2.mono HB0.out.size)) HG2, hB2⟩
    case rest =>
      obtain ⟨⟨B1, b1, d1, rfl, Q1⟩, k1⟩ := hcut
      obtain ⟨wy, rfl⟩ : ∃ wy : World, wy = wc := ⟨_, rfl⟩
      have HB1 : Hid (Below w'.heap.size w' wy) := B1
      have HQ1 : Hid (RowAt wy b1 X1) := Q1
      have HP0 : Hid (RowAt wy b0 X0) := HQ0.out.kept k1
      clear B1 Q1 k1 HQ0 HB0
      go_upto_if 65 with fail
      go_cut [2, 11] (fun v _ wc => Copied w' v n2 X2 wc ∧ Below wy.heap.size wy wc)
      case first =>
        cases a2 with
        | none =>
          go_wp2
          go_meet
          case rel => exact ⟨copied_none HB1.out R2.out, Below.refl _ _⟩
        | some x =>
          go_upto_region 15 with fail
          go_wp2_with (refine wpList_copy_made rfl (.tmp 69) (.tmp 70) 22 9 rfl Try.underlying22 size9 _ _ n2 _ _ _ X2 LX2.out OX2.out wy (Below.refl _ _) (R2.out.kept HB1.out) rfl rfl ?_; intro w2 HG2 hB2)
          go_meet
          case rel => exact ⟨copied_some (HB1.out.trans (hB2.mono HB1.out.size)) HG2, hB2⟩
      case rest =>
        obtain ⟨⟨B2, b2, d2, rfl, Q2⟩, k2⟩ := hcut
        obtain ⟨wz, rfl⟩ : ∃ wz : World, wz = wc := ⟨_, rfl⟩
        have HB2 : Hid (Below w'.heap.size w' wz) := B2
        have HQ2 : Hid (RowAt wz b2 X2) := Q2
        have HS0 : Hid (RowAt wz b0 X0) := HP0.out.kept k2
        have HS1 : Hid (RowAt wz b1 X1) := HQ1.out.kept k2
        clear B2 Q2 k2 HP0 HQ1 HB1
        go_upto_if 74 with fail
        go_cut [3, 12] (fun v _ wc => Copied w' v n3 X3 wc ∧ Below wz.heap.size wz wc)
        case first =>
          cases a3 with
          | none =>
            go_wp2
            go_meet
            case rel => exact ⟨copied_none HB2.out R3.out, Below.refl _ _⟩
          | some x =>
            go_upto_region 19 with fail
            go_wp2_with (refine wpList_copy_made rfl (.tmp 78) (.tmp 79) 23 28 rfl Try.underlying23 size28 _ _ n3 _ _ _ X3 LX3.out OX3.out wz (Below.refl _ _) (R3.out.kept HB2.out) rfl rfl ?_; intro w2 HG2 hB2)
            go_meet
            case rel => exact ⟨copied_some (HB2.out.trans (hB2.mono HB2.out.size)) HG2, hB2⟩
        case rest =>
          obtain ⟨⟨B3, b3, d3, rfl, Q3⟩, k3⟩ := hcut
          obtain ⟨wv, rfl⟩ : ∃ wv : World, wv = wc := ⟨_, rfl⟩
          have HB : Hid (Below w'.heap.size w' wv) := B3
          have T3 : Hid (RowAt wv b3 X3) := Q3
          have T0 : Hid (RowAt wv b0 X0) := HS0.out.kept k3
          have T1 : Hid (RowAt wv b1 X1) := HS1.out.kept k3
          have T2 : Hid (RowAt wv b2 X2) := HQ2.out.kept k3
          clear B3 Q3 k3 HS0 HS1 HQ2 HB2
          go_step
          refine mid_part b0 b1 b2 b3 n0 n1 n2 n3 d0 d1 d2 d3 ka kb va vb w' wv _ _ _ _ _ _ _ _ _ _ _ _ _ _ _ _ _ _ _ _ _ _ _ _ _ _ _ _ _ _ _ _ _ _ _ _ _ _ _ _ _ _ _ _ _ _ _ _ _ _ _ _ _ _ _ _ _ _ _ _ _ _ _ _ _ _ _ _ _ _ _ _ _ _ _ _ _ _ _ _ _ _ _ _ _ _ _ _ _ _ _ _ _ _ _ _ _ _ _ _ _ _ _ _ _ _ _ _ _ _ _ _ _ _ _ _ _ _ _ _ _ _ _ _ _ _ _ _ _ _ _ _ _ _ _ _ _ _ _ _ _ _ _ _ _ _ _ _ _ _ _ _ _ _ _ _ _ _ _ _ _ _ _ _ _ _ _ _ _ _ _ _ _ _ _ _ _ _ _ _ _ _ _ _ _ _ _ _ _ _ _ _ _ _ _ _ _ _ _ _ _ _ h0 h1 h2 h3 L0 L1 L2 L3 SA SB ?_ ?_ ?_ ?_ HB
          · rw [← E0.out]; exact T0
          · rw [← E1.out]; exact T1
          · rw [← E2.out]; exact T2
          · rw [← E3.out]; exact T3

end Go.Proofs.Qxb6613641a
