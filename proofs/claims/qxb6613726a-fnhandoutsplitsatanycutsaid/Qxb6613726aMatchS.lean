/- Law 4: the call of HandOut. -/
import Derived.Test.Qxb6613726aMatchT
namespace Go.Proofs.Qxb6613726a
open Go Go.RowKit Go.Sort Plain
set_option linter.unusedVariables false

theorem enter9 (args : Array Value) (w : World) : (callFunc 9 args).run Try.prog w = .ok (.enter 9 args) w := by kernel_rfl
theorem enter12 (args : Array Value) (w : World) : (callFunc 12 args).run Try.prog w = .ok (.enter 12 args) w := by kernel_rfl

/-- The units that are kept, in the box that the closure reads. -/
structure KeptBox (w : World) (bx : Nat) (a1 : Option Addr) (n1 c1 : Nat) (ks : List Int) : Prop where
  lt : bx < w.heap.size
  box : w.cell? ⟨bx, 0, none⟩ = some (.slice a1 n1 c1)
  len : ks.length = n1
  small : n1 ≤ maxLen
  row : RowAt w a1 (cells ks)
theorem KeptBox.kept {w w' : World} {bx n1 c1 : Nat} {a1 : Option Addr} {ks : List Int} (h : KeptBox w bx a1 n1 c1 ks) (hb : Below w.heap.size w w') : KeptBox w' bx a1 n1 c1 ks :=
  ⟨Nat.lt_of_lt_of_le h.lt hb.size, (hb.cell (p := ⟨bx, 0, none⟩) h.lt).trans h.box, h.len, h.small, h.row.kept hb⟩
theorem KeptBox.nil {w : World} {bx n1 c1 : Nat} {ks : List Int} (h : KeptBox w bx none n1 c1 ks) : hasB ks = fun _ => false := by
  rcases h.row with e | ⟨b, off, e, _⟩
  · have : ks = [] := by simpa [cells] using e
    subst this
    rfl
  · cases e
theorem KeptBox.fn9 {w : World} {bx n1 c1 : Nat} {a1 : Option Addr} {ks : List Int} (h : KeptBox w bx a1 n1 c1 ks) : KeptFn w (.func (.func 9) #[] #[.pointer (some ⟨bx, 0, none⟩)]) (hasB ks) :=
  .inr ⟨9, bx, rfl, enter9, fun u W hW => by
    have h' := h.kept hW
    refine (closure9 bx n1 c1 a1 ks u W h'.box h'.len h'.small h'.row).mono ?_
    rintro e w' ⟨rfl, rfl⟩
    exact ⟨rfl, rfl⟩⟩
theorem KeptBox.fn12 {w : World} {bx n1 c1 : Nat} {a1 : Option Addr} {ks : List Int} (h : KeptBox w bx a1 n1 c1 ks) : KeptFn w (.func (.func 12) #[] #[.pointer (some ⟨bx, 0, none⟩)]) (hasB ks) :=
  .inr ⟨12, bx, rfl, enter12, fun u W hW => by
    have h' := h.kept hW
    refine (closure12 bx n1 c1 a1 ks u W h'.box h'.len h'.small h'.row).mono ?_
    rintro e w' ⟨rfl, rfl⟩
    exact ⟨rfl, rfl⟩⟩
theorem KeptBox.fnNil {w : World} {bx n1 c1 : Nat} {ks : List Int} (h : KeptBox w bx none n1 c1 ks) : KeptFn w .nilFunc (hasB ks) := .inl ⟨rfl, h.nil⟩

set_option maxHeartbeats 4000000 in
set_option maxRecDepth 100000 in
theorem match_call (a1 b0 b2 : Option Addr) (n1 c1 bx N m d0 d2 go ga : Nat) (ks fs ow : List Int) (ns : List Nat) (w0 wv : World) (u1 u3 u5 u6 u7 u8 u9 u10 u13 u14 u15 u16 u17 u18 u19 u20 u21 u22 u23 u24 u25 u26 u27 u28 u29 u30 u31 u32 u33 u34 u35 u36 u37 u38 u39 u40 u41 u42 u43 u44 u45 u46 u47 u48 u49 u50 u51 u52 u53 u54 u55 u56 u57 u58 u59 u60 u61 u62 u63 u64 u65 u66 u67 u68 u69 u70 u71 u72 u73 u74 u75 u76 u77 u78 u79 u80 u81 u82 u83 u84 u85 u86 u87 u88 u89 u90 u91 u92 u93 u94 u95 u96 u97 u98 u99 u100 u101 u102 u103 u104 u105 u106 u107 u108 u109 u110 u111 u112 u113 u114 u115 u116 u117 u118 u119 u120 u121 u122 u123 u124 u125 u126 u127 u128 u129 u130 u131 u132 u133 u134 u135 u136 u137 u138 u139 u140 u141 u142 u143 u144 u145 u146 u147 u148 u149 u150 u151 u152 u153 u154 u155 u156 u157 u158 u159 u160 u161 u162 u163 u164 u165 u166 u167 u168 u169 u170 u171 u172 u173 u174 u175 u176 u177 u178 u179 u180 u181 u182 u183 u184 u185 u186 u187 u188 u189 u190 u191 u192 u193 u194 u195 u196 u197 u198 u199 u200 u201 u202 u203 u204 u205 u206 u207 u208 u209 u210 u211 u212 u213 u214 u215 u216 u217 u218 u219 u220 u221 u222 u223 u224 u225 u226 : Value)
    (hN : N ≤ 4096) (hm : m ≤ 4096) (LF : Hid (fs.length = N)) (LN : Hid (ns.length = m)) (HR : Hid (Rising fs)) (hsum : ns.sum ≤ 9223372036854775807)
    (KB : Hid (KeptBox wv bx a1 n1 c1 ks)) (T0 : Hid (RowAt wv b0 (cells fs))) (T2 : Hid (RowAt wv b2 (cells (ns.map Int.ofNat)))) (HO : Hid (HasRow wv go 3 (cells ow))) (OW : Hid (Owned (hasB ks) fs ns ow)) (HA : Hid (HasRow wv ga 4 (accs N ns)))
    (HB : Hid (Below w0.heap.size w0 wv)) :
    Code.wp Try.prog ((Try.f3.body.map (seqTail 15)).getD .skip) (bodyPost Try.prog Try.f3 fun e w' => e = .returned (.bool true) ∧ Below w0.heap.size w0 w')
      { tmps := #[.slice b0 N d0, u1, .slice b2 m d2, u3, .pointer (some ⟨bx, 0, none⟩), u5, u6, u7, u8, u9, u10, .slice (some ⟨go, 0, none⟩) N N, .slice (some ⟨ga, 0, none⟩) m m, u13, u14, u15, u16, u17, u18, u19, u20, u21, u22, u23, u24, u25, u26, u27, u28, u29, u30, u31, u32, u33, u34, u35, u36, u37, u38, u39, u40, u41, u42, u43, u44, u45, u46, u47, u48, u49, u50, u51, u52, u53, u54, u55, u56, u57, u58, u59, u60, u61, u62, u63, u64, u65, u66, u67, u68, u69, u70, u71, u72, u73, u74, u75, u76, u77, u78, u79, u80, u81, u82, u83, u84, u85, u86, u87, u88, u89, u90, u91, u92, u93, u94, u95, u96, u97, u98, u99, u100, u101, u102, u103, u104, u105, u106, u107, u108, u109, u110, u111, u112, u113, u114, u115, u116, u117, u118, u119, u120, u121, u122, u123, u124, u125, u126, u127, u128, u129, u130, u131, u132, u133, u134, u135, u136, u137, u138, u139, u140, u141, u142, u143, u144, u145, u146, u147, u148, u149, u150, u151, u152, u153, u154, u155, u156, u157, u158, u159, u160, u161, u162, u163, u164, u165, u166, u167, u168, u169, u170, u171, u172, u173, u174, u175, u176, u177, u178, u179, u180, u181, u182, u183, u184, u185, u186, u187, u188, u189, u190, u191, u192, u193, u194, u195, u196, u197, u198, u199, u200, u201, u202, u203, u204, u205, u206, u207, u208, u209, u210, u211, u212, u213, u214, u215, u216, u217, u218, u219, u220, u221, u222, u223, u224, u225, u226], defers := [] } wv := by
  have kb := KB.out.box
  conv => arg 2; whnf
  go_upto_if 149 with fail
  go_cut [19] (fun fv wc => Hid (KeptFn wv fv (hasB ks)) ∧ wc = wv)
  case first =>
    cases a1 with
    | none =>
      go_wp2
      go_meet
      case rel => exact ⟨KB.out.fnNil, rfl⟩
    | some x =>
      go_wp2
      go_meet
      case rel => exact ⟨KB.out.fn9, rfl⟩
  case rest =>
    obtain ⟨FV, rfl⟩ := hcut
    obtain ⟨wz, rfl⟩ : ∃ wz : World, wz = wc := ⟨_, rfl⟩
    have H10 : Hid (∀ W, W = wz → Calls Try.prog 10 #[.slice b0 N d0, u19, .slice b2 m d2] W fun e w' => HandPost (order (hasB ks) fs) ns m W e w') := fun W e => by
      subst e
      exact hand_calls b0 b2 N m d0 d2 u19 (hasB ks) fs ns W hN hm LF.out LN.out hsum T0.out T2.out FV.out
    clear kb
    go_upto_region 49 with fail
    go_cut [20] (fun g wx => ∃ gs, g = .slice (some ⟨gs, 0, none⟩) m m ∧ Hid (SetsAt wx gs m (setAt (order (hasB ks) fs) ns)) ∧ Hid (Below wz.heap.size wz wx))
    case first =>
      go_wp2_with fail
      refine (H10.out _ rfl).mono ?_
      rintro e w1 ⟨gs, rfl, hs, hb⟩
      go_wp2_with fail
      go_meet
      case rel => exact ⟨gs, rfl, hs, hb⟩
    case rest =>
      obtain ⟨gs, rfl, HS, HB1⟩ := hcut
      obtain ⟨wy, rfl⟩ : ∃ wy : World, wy = wc := ⟨_, rfl⟩
      go_upto_if 159 with fail
      go_cut [20] (fun g wx => g = .slice (some ⟨gs, 0, none⟩) m m ∧ wx = wy)
      case first =>
        go_wp2
        go_meet
        case rel => exact ⟨rfl, rfl⟩
      case rest =>
        obtain ⟨rfl, rfl⟩ := hcut
        go_step
        exact match_last b0 b2 N m d0 d2 go ga gs (hasB ks) fs ow ns w0 _ _ _ _ _ _ _ _ _ _ _ _ _ _ _ _ _ _ _ _ _ _ _ _ _ _ _ _ _ _ _ _ _ _ _ _ _ _ _ _ _ _ _ _ _ _ _ _ _ _ _ _ _ _ _ _ _ _ _ _ _ _ _ _ _ _ _ _ _ _ _ _ _ _ _ _ _ _ _ _ _ _ _ _ _ _ _ _ _ _ _ _ _ _ _ _ _ _ _ _ _ _ _ _ _ _ _ _ _ _ _ _ _ _ _ _ _ _ _ _ _ _ _ _ _ _ _ _ _ _ _ _ _ _ _ _ _ _ _ _ _ _ _ _ _ _ _ _ _ _ _ _ _ _ _ _ _ _ _ _ _ _ _ _ _ _ _ _ _ _ _ _ _ _ _ _ _ _ _ _ _ _ _ _ _ _ _ _ _ _ _ _ _ _ _ _ _ _ _ _ _ _ _ _ _ _ _ _ _ _ _ _ _ _ _ _ _ _ _ _ _ _ _ hN hm LF LN HR (fun i => Nat.le_trans (getD_le_sum ns i) hsum) (T0.out.kept HB1.out) (T2.out.kept HB1.out) (HO.out.below HB1.out HO.out.lt) OW (HA.out.below HB1.out HA.out.lt) HS (HB.out.trans (HB1.out.mono HB.out.size))

end Go.Proofs.Qxb6613726a
