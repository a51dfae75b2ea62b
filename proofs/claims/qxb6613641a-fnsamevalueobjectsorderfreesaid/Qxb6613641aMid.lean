/- The law's middle part: the bound on the bytes, the lengths, the places that come last. -/
import Derived.Test.Qxb6613641aLast
namespace Go.Proofs.Qxb6613641a
open Go Go.RowKit Go.Maps
set_option linter.unusedVariables false

theorem cnt_beq (n m : Nat) (K L : Nat → List UInt8) (V U : Nat → Nat) : ((cnt n K : Int) == (cnt m L : Int)) = wantTo n K V m L U 0 := by
  unfold wantTo
  rw [List.range_zero, List.all_nil, Bool.and_true, Bool.eq_iff_iff, beq_iff_eq, decide_eq_true_iff]
  omega

set_option maxHeartbeats 8000000 in
set_option maxRecDepth 100000 in
theorem mid_part (b0 b1 b2 b3 : Option Addr) (n0 n1 n2 n3 d0 d1 d2 d3 : Nat) (ka kb : List ByteArray) (va vb : List Nat) (w0 wv : World) (u4 u5 u6 u7 u8 u9 u10 u11 u12 u13 u14 u15 u16 u17 u18 u19 u20 u21 u22 u23 u24 u25 u26 u27 u28 u29 u30 u31 u32 u33 u34 u35 u36 u37 u38 u39 u40 u41 u42 u43 u44 u45 u46 u47 u48 u49 u50 u51 u52 u53 u54 u55 u56 u57 u58 u59 u60 u61 u62 u63 u64 u65 u66 u67 u68 u69 u70 u71 u72 u73 u74 u75 u76 u77 u78 u79 u80 u81 u82 u83 u84 u85 u86 u87 u88 u89 u90 u91 u92 u93 u94 u95 u96 u97 u98 u99 u100 u101 u102 u103 u104 u105 u106 u107 u108 u109 u110 u111 u112 u113 u114 u115 u116 u117 u118 u119 u120 u121 u122 u123 u124 u125 u126 u127 u128 u129 u130 u131 u132 u133 u134 u135 u136 u137 u138 u139 u140 u141 u142 u143 u144 u145 u146 u147 u148 u149 u150 u151 u152 u153 u154 u155 u156 u157 u158 u159 u160 u161 u162 u163 u164 u165 u166 u167 u168 u169 u170 u171 u172 u173 u174 u175 u176 u177 u178 u179 u180 u181 u182 u183 u184 u185 u186 u187 u188 u189 u190 u191 u192 u193 u194 u195 u196 u197 u198 u199 u200 u201 u202 u203 u204 u205 : Value)
    (h0 : n0 ≤ 1024) (h1 : n1 ≤ 1024) (h2 : n2 ≤ 1024) (h3 : n3 ≤ 1024) (L0 : Hid (ka.length = n0)) (L1 : Hid (va.length = n1)) (L2 : Hid (kb.length = n2)) (L3 : Hid (vb.length = n3))
    (SA : Hid (∀ s ∈ ka, s.size ≤ maxLen)) (SB : Hid (∀ s ∈ kb, s.size ≤ maxLen))
    (T0 : Hid (RowAt wv b0 (ka.map .string))) (T1 : Hid (RowAt wv b1 (va.map (.float .f64)))) (T2 : Hid (RowAt wv b2 (kb.map .string))) (T3 : Hid (RowAt wv b3 (vb.map (.float .f64))))
    (HB : Hid (Below w0.heap.size w0 wv)) :
    Code.wp Try.prog ((Try.f3.body.map (seqTail 7)).getD .skip) (bodyPost Try.prog Try.f3 fun e w' => e = .returned (.bool true) ∧ Below w0.heap.size w0 w')
      { tmps := #[.slice b0 n0 d0, .slice b1 n1 d1, .slice b2 n2 d2, .slice b3 n3 d3, u4, u5, u6, u7, u8, u9, u10, u11, u12, u13, u14, u15, u16, u17, u18, u19, u20, u21, u22, u23, u24, u25, u26, u27, u28, u29, u30, u31, u32, u33, u34, u35, u36, u37, u38, u39, u40, u41, u42, u43, u44, u45, u46, u47, u48, u49, u50, u51, u52, u53, u54, u55, u56, u57, u58, u59, u60, u61, u62, u63, u64, u65, u66, u67, u68, u69, u70, u71, u72, u73, u74, u75, u76, u77, u78, u79, u80, u81, u82, u83, u84, u85, u86, u87, u88, u89, u90, u91, u92, u93, u94, u95, u96, u97, u98, u99, u100, u101, u102, u103, u104, u105, u106, u107, u108, u109, u110, u111, u112, u113, u114, u115, u116, u117, u118, u119, u120, u121, u122, u123, u124, u125, u126, u127, u128, u129, u130, u131, u132, u133, u134, u135, u136, u137, u138, u139, u140, u141, u142, u143, u144, u145, u146, u147, u148, u149, u150, u151, u152, u153, u154, u155, u156, u157, u158, u159, u160, u161, u162, u163, u164, u165, u166, u167, u168, u169, u170, u171, u172, u173, u174, u175, u176, u177, u178, u179, u180, u181, u182, u183, u184, u185, u186, u187, u188, u189, u190, u191, u192, u193, u194, u195, u196, u197, u198, u199, u200, u201, u202, u203, u204, u205], defers := [] } wv := by
  conv => arg 2; whnf
  go_wp2
  go_loop [13, 14] (fun t i => ∃ k : Nat, k ≤ n0 ∧ i = .int .i64 k ∧ ∃ x : Int, t = .int .i64 x) (fun _ i => n0 - (intOf i).toNat)
  case atStart => exact ⟨0, Nat.zero_le _, rfl, _, rfl⟩
  case round =>
    obtain ⟨k, hk, rfl, x, rfl⟩ := hrel
    by_cases hlt : (k : Int) < (n0 : Int)
    · obtain ⟨p0, o0, rfl, hp0, C0⟩ := row_strs T0.out L0.out (by omega)
      have hc := C0.out k (by omega)
      generalize ka.getD k ByteArray.empty = s at hc
      go_wp2
      · go_ret
        exact ⟨rfl, HB.out⟩
      · go_round
        case rel => exact ⟨k + 1, by omega, by go_num, _, rfl⟩
        case measure => simp [intOf]; omega
    · go_wp2
      go_loop [13, 15] (fun t i => ∃ k : Nat, k ≤ n2 ∧ i = .int .i64 k ∧ ∃ x : Int, t = .int .i64 x) (fun _ i => n2 - (intOf i).toNat)
      case atStart => exact ⟨0, Nat.zero_le _, rfl, _, rfl⟩
      case round =>
        obtain ⟨l, hl, rfl, y, rfl⟩ := hrel
        by_cases hlt : (l : Int) < (n2 : Int)
        · obtain ⟨p2, o2, rfl, hp2, C2⟩ := row_strs T2.out L2.out (by omega)
          have hc := C2.out l (by omega)
          generalize kb.getD l ByteArray.empty = s at hc
          go_wp2
          · go_ret
            exact ⟨rfl, HB.out⟩
          · go_round
            case rel => exact ⟨l + 1, by omega, by go_num, _, rfl⟩
            case measure => simp [intOf]; omega
        · by_cases e01 : n0 = n1
          · subst e01
            by_cases e23 : n2 = n3
            · subst e23
              have H5a : Hid (∀ W, W = wv → Calls Try.prog 5 #[.slice b0 n0 d0] W fun e w' => e = .returned (.slice (some ⟨W.heap.size, 0, none⟩) n0 n0) ∧ HasRow w' W.heap.size 4 (fins n0 (nm ka)) ∧ Below W.heap.size W w') := fun W e => by
                subst e
                exact fin_calls b0 d0 n0 ka W L0.out h0 T0.out
              have H5b : Hid (∀ W, Below wv.heap.size wv W → Calls Try.prog 5 #[.slice b2 n2 d2] W fun e w' => e = .returned (.slice (some ⟨W.heap.size, 0, none⟩) n2 n2) ∧ HasRow w' W.heap.size 4 (fins n2 (nm kb)) ∧ Below W.heap.size W w') := fun W hW =>
                fin_calls b2 d2 n2 kb W L2.out h2 (T2.out.kept hW)
              go_wp2_with fail
              refine (H5a.out _ rfl).mono ?_
              rintro e w1 ⟨rfl, f1, k1⟩
              go_wp2_with fail
              refine (H5b.out _ k1).mono ?_
              rintro e w2 ⟨rfl, f2, k2⟩
              have k12 : Below wv.heap.size wv w2 := k1.trans (k2.mono k1.size)
              have F1 : Hid (HasRow w2 wv.heap.size 4 (fins n0 (nm ka))) := f1.below k2 f1.lt
              have F2 : Hid (HasRow w2 w1.heap.size 4 (fins n2 (nm kb))) := f2
              clear f1 f2 k1 k2
              go_upto_region 38 with fail
              go_cut [18] (fun t wc => t = .bool (wantTo n0 (nm ka) (dbl va) n2 (nm kb) (dbl vb) 0) ∧ wc = w2)
              case first =>
                have H6a : Hid (∀ W, W = w2 → Calls Try.prog 6 #[.slice (some ⟨wv.heap.size, 0, none⟩) n0 n0] W fun e w' => e = .returned (.int .i64 (cnt n0 (nm ka))) ∧ w' = W) := fun W e => by
                  subst e
                  exact cnt_calls wv.heap.size n0 (nm ka) W h0 F1.out
                have H6b : Hid (∀ W, W = w2 → Calls Try.prog 6 #[.slice (some ⟨w1.heap.size, 0, none⟩) n2 n2] W fun e w' => e = .returned (.int .i64 (cnt n2 (nm kb))) ∧ w' = W) := fun W e => by
                  subst e
                  exact cnt_calls w1.heap.size n2 (nm kb) W h2 F2.out
                go_wp2_with fail
                refine (H6a.out _ rfl).mono ?_
                rintro e w3 ⟨rfl, rfl⟩
                go_wp2_with fail
                refine (H6b.out _ rfl).mono ?_
                rintro e w4 ⟨rfl, rfl⟩
                go_wp2_with fail
                go_meet
                case rel => exact ⟨by rw [← cnt_beq], rfl⟩
              case rest =>
                obtain ⟨rfl, rfl⟩ := hcut
                go_step
                exact last_part b0 b1 b2 b3 n0 n2 d0 d1 d2 d3 wv.heap.size w1.heap.size ka kb va vb w0 _ _ _ _ _ _ _ _ _ _ _ _ _ _ _ _ _ _ _ _ _ _ _ _ _ _ _ _ _ _ _ _ _ _ _ _ _ _ _ _ _ _ _ _ _ _ _ _ _ _ _ _ _ _ _ _ _ _ _ _ _ _ _ _ _ _ _ _ _ _ _ _ _ _ _ _ _ _ _ _ _ _ _ _ _ _ _ _ _ _ _ _ _ _ _ _ _ _ _ _ _ _ _ _ _ _ _ _ _ _ _ _ _ _ _ _ _ _ _ _ _ _ _ _ _ _ _ _ _ _ _ _ _ _ _ _ _ _ _ _ _ _ _ _ _ _ _ _ _ _ _ _ _ _ _ _ _ _ _ _ _ _ _ _ _ _ _ _ _ _ _ _ _ _ _ _ _ _ _ _ _ _ _ _ _ _ _ _ _ _ _ _ _ _ _ _ _ _ _ _ h0 h2 L0 L1 L2 L3 SA SB (T0.out.kept k12) (T1.out.kept k12) (T2.out.kept k12) (T3.out.kept k12) F1 F2 (HB.out.trans (k12.mono HB.out.size))
            · have hne : ¬ ((n2 : Int) = (n3 : Int)) := by omega
              go_wp2
              go_ret
              exact ⟨rfl, HB.out⟩
          · have hne : ¬ ((n0 : Int) = (n1 : Int)) := by omega
            go_wp2
            go_ret
            exact ⟨rfl, HB.out⟩

end Go.Proofs.Qxb6613641a
