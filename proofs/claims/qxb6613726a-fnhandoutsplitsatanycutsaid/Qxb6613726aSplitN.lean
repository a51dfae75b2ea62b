/- Law 5: the whole hand-out: each set rises, and no unit is given twice. -/
import Derived.Test.Qxb6613726aSplitO
import Derived.Test.Qxb6613726aMatchP
namespace Go.Proofs.Qxb6613726a
open Go Go.RowKit Go.Sort Plain
set_option linter.unusedVariables false

set_option maxHeartbeats 8000000 in
set_option maxRecDepth 100000 in
theorem split_used (b0 b2 : Option Addr) (N m d0 k gw : Nat) (fv : Value) (K : Int → Bool) (fs : List Int) (ns : List Nat) (w0 wv : World) (u1 u4 u5 u6 u7 u8 u9 u10 u13 u14 u15 u16 u17 u18 u19 u20 u21 u22 u23 u24 u25 u26 u27 u28 u29 u30 u31 u32 u33 u34 u35 u36 u37 u38 u39 u40 u41 u42 u43 u44 u45 u46 u47 u48 u49 u50 u51 u52 u53 u54 u55 u56 u57 u58 u59 u60 u61 u62 u63 u64 u65 u66 u67 u68 u69 u70 u71 u72 u73 u74 u75 u76 u77 u78 u79 u80 u81 u82 u83 u84 u85 u86 u87 u88 u89 u90 u91 u92 u93 u94 u95 u96 u97 u98 u99 u100 u101 u102 u103 u104 u105 u106 u107 u108 u109 u110 u111 u112 u113 u114 u115 u116 u117 u118 u119 u120 u121 u122 u123 u124 u125 u126 u127 u128 u129 u130 u131 u132 u133 u134 u135 u136 u137 u138 u139 u140 u141 u142 u143 u144 u145 u146 u147 u148 u149 u150 u151 u152 u153 u154 u155 u156 u157 u158 u159 u160 u161 u162 u163 u164 u165 u166 u167 u168 u169 u170 u171 u172 u173 u174 u175 u176 u177 u178 u179 u180 u181 u182 u183 u184 u185 u186 u187 u188 u189 u190 u191 u192 u193 u194 u195 u196 u197 u198 u199 u200 u201 u202 u203 u204 u205 u206 u207 u208 u209 u210 u211 u212 u213 u214 u215 u216 u217 u218 u219 u220 u221 u222 u223 u224 u225 u226 u227 u228 u229 u230 u231 u232 u233 u234 u235 u236 u237 u238 u239 u240 u241 u242 u243 u244 u245 u246 u247 u248 u249 u250 u251 u252 u253 u254 u255 u256 u257 u258 u259 u260 u261 u262 u263 u264 u265 : Value)
    (hN : N ≤ 4096) (hm : m ≤ 4096) (hk : k ≤ m) (HA : Hid ((b2 = none ∧ m = 0) ∨ ∃ p o, b2 = some ⟨p, o, none⟩)) (LF : Hid (fs.length = N)) (HRI : Hid (Rising fs)) (LN : Hid (ns.length = m)) (HSUM : Hid (ns.sum ≤ 9223372036854775807))
    (T0 : Hid (RowAt wv b0 (cells fs))) (T2 : Hid (RowAt wv b2 (cells (ns.map Int.ofNat)))) (FV : Hid (KeptFn wv fv K))
    (SW : Hid (SetsAt wv gw m (setAt (order K fs) ns))) (HB : Hid (Below w0.heap.size w0 wv)) :
    Code.wp Try.prog ((Try.f4.body.map (seqTail 14)).getD .skip) (bodyPost Try.prog Try.f4 fun e w' => e = .returned (.bool true) ∧ Below w0.heap.size w0 w')
      { tmps := #[.slice b0 N d0, u1, .slice b2 m m, .int .i64 (k : Int), u4, u5, u6, u7, u8, u9, u10, fv, .slice (some ⟨gw, 0, none⟩) m m, u13, u14, u15, u16, u17, u18, u19, u20, u21, u22, u23, u24, u25, u26, u27, u28, u29, u30, u31, u32, u33, u34, u35, u36, u37, u38, u39, u40, u41, u42, u43, u44, u45, u46, u47, u48, u49, u50, u51, u52, u53, u54, u55, u56, u57, u58, u59, u60, u61, u62, u63, u64, u65, u66, u67, u68, u69, u70, u71, u72, u73, u74, u75, u76, u77, u78, u79, u80, u81, u82, u83, u84, u85, u86, u87, u88, u89, u90, u91, u92, u93, u94, u95, u96, u97, u98, u99, u100, u101, u102, u103, u104, u105, u106, u107, u108, u109, u110, u111, u112, u113, u114, u115, u116, u117, u118, u119, u120, u121, u122, u123, u124, u125, u126, u127, u128, u129, u130, u131, u132, u133, u134, u135, u136, u137, u138, u139, u140, u141, u142, u143, u144, u145, u146, u147, u148, u149, u150, u151, u152, u153, u154, u155, u156, u157, u158, u159, u160, u161, u162, u163, u164, u165, u166, u167, u168, u169, u170, u171, u172, u173, u174, u175, u176, u177, u178, u179, u180, u181, u182, u183, u184, u185, u186, u187, u188, u189, u190, u191, u192, u193, u194, u195, u196, u197, u198, u199, u200, u201, u202, u203, u204, u205, u206, u207, u208, u209, u210, u211, u212, u213, u214, u215, u216, u217, u218, u219, u220, u221, u222, u223, u224, u225, u226, u227, u228, u229, u230, u231, u232, u233, u234, u235, u236, u237, u238, u239, u240, u241, u242, u243, u244, u245, u246, u247, u248, u249, u250, u251, u252, u253, u254, u255, u256, u257, u258, u259, u260, u261, u262, u263, u264, u265], defers := [] } wv := by
  have hmk := fun W => run_make_row' (P := Try.prog) 27 4 (.bool false) 1 Try.underlying27 info4 rfl .i64 .i64 N (by omega) (by omega) W
  have HON : Hid ((order K fs).Nodup) := order_nodup HRI.out
  conv => arg 2; whnf
  go_upto_block 0 with fail
  go_cut [14] (fun _ wc => Hid (Below wv.heap.size wv wc))
  case first =>
    have LNN : Hid (0 < m → (ns.map Int.ofNat).length = m) := fun _ => by simpa using LN.out
    clear FV HA LN hmk HB
    go_wp2
    go_loopw [14] (fun ix wr => ∃ i : Nat, i ≤ m ∧ ix = .int .i64 i ∧ Hid (Tab wr wv.heap.size N (headJ K fs ns i)) ∧ Hid (Below wv.heap.size wv wr)) (fun ix _ => m - (intOf ix).toNat)
    case atStart => exact ⟨0, Nat.zero_le _, rfl, tab_made _ _ (fun q _ => headJ_zero _ _ _ _), (Below.refl _ _).alloc (Nat.le_refl _) _⟩
    case round =>
      obtain ⟨i, hi, rfl, HT, HBR⟩ := hrel
      by_cases hlt : (i : Int) < (m : Int)
      · have hlt' : i < m := by omega
        obtain ⟨v, kv, sv⟩ := SW.out.get hlt'
        have kv' : wr.cell? ⟨gw, i, none⟩ = some v := (HBR.out.cell (p := ⟨gw, i, none⟩) (by obtain ⟨vs, h1, _⟩ := SW.out; exact h1.lt)).trans kv
        obtain ⟨p2, o2, rfl, hp2, C2⟩ := row_ints T2.out (LNN.out (by omega)) (by omega)
        have k2 := (HBR.out.cell (p := ⟨p2, o2 + i, none⟩) hp2).trans (C2.out i hlt')
        rw [ofNat_getD] at k2
        clear kv C2
        cases hx : setAt (order K fs) ns i with
        | none =>
          rw [hx] at sv
          have e : v = .slice none 0 0 := sv
          subst e
          have e1 := eql32_none
          have HT2 : Hid (Tab wr wv.heap.size N (headJ K fs ns (i + 1))) := HT.out.same (fun q _ => (gone_no hx _).symm)
          generalize ns.getD i 0 = n at k2
          clear hx sv
          go_wp2
          go_roundw
          case rel => exact ⟨i + 1, by omega, by go_num, HT2, HBR⟩
          case measure => simp [intOf]; omega
        | some l =>
          rw [hx] at sv
          have HX : Hid (setAt (order K fs) ns i = some l) := hx
          obtain ⟨g, off, cap, rfl, hg, hc⟩ := sv
          obtain ⟨ln, hln⟩ : ∃ ln, ln = l.length := ⟨_, rfl⟩
          have LL : Hid (l.length = ln) := hln.symm
          have hlN : ln ≤ N := by have := set_le hx; rw [order_length, LF.out] at this; omega
          have HC : Hid (∀ j, j < ln → wv.cell? ⟨g, off + j, none⟩ = some (.int .i64 (l.getD j 0))) := fun j hj => hc j (by omega)
          rw [← hln] at kv'
          rw [← set_length hx, ← hln] at k2
          have HT0 : Hid (Tab wr wv.heap.size N (goneJ K fs ns i l 0)) := HT.out.same (fun q _ => goneJ_zero _ _ _ _ _ _)
          have HEND : Hid (∀ q, goneJ K fs ns i l ln q = headJ K fs ns (i + 1) q) := fun q => by rw [hln]; exact gone_done hx _
          have e1 := eql32_some ⟨g, off, none⟩ ln cap
          clear hx hc hln HT
          go_wp2
          clear e1 kv' k2
          go_loopw [16, 17] (fun ax _ wi => ∃ a : Nat, a ≤ ln ∧ ax = .int .i64 a ∧ Hid (Tab wi wv.heap.size N (goneJ K fs ns i l a)) ∧ Hid (Below wv.heap.size wv wi)) (fun ax _ _ => ln - (intOf ax).toNat)
          case atStart => exact ⟨0, Nat.zero_le _, rfl, HT0, HBR⟩
          case round =>
            clear HT0 HBR
            obtain ⟨a, ha, rfl, HT, HBR⟩ := hrel
            by_cases halt : (a : Int) < (ln : Int)
            · have halt' : a < ln := by omega
              obtain ⟨j, hj0, ej⟩ := set_place HX.out (a := a) (by rw [LL.out]; exact halt')
              have hj : j < N := by rw [← LF.out]; exact hj0
              have k1 : wr.cell? ⟨g, off + a, none⟩ = some (.int .i64 (l.getD a 0)) := (HBR.out.cell (p := ⟨g, off + a, none⟩) hg).trans (HC.out a halt')
              have H13 : Hid (∀ W, W.heap = wr.heap → Calls Try.prog 13 #[.slice b0 N d0, .int .i64 (l.getD a 0)] W fun e w' => e = .returned (.int .i64 j) ∧ w' = W) := fun W e => by
                rw [← ej]
                exact index_calls b0 d0 N j fs W LF.out hN HRI.out hj (rowAt_heap (T0.out.kept HBR.out) e)
              have kt := HT.out.cell hj
              rw [show goneJ K fs ns i l a j = false from by unfold goneJ; rw [ej]; exact gone_fresh HON.out HX.out (by rw [LL.out]; exact halt')] at kt
              have ktf := HT.out.frozen j
              have HT2 : Hid (∀ n, Tab ((wr.drewN n).setCell ⟨wv.heap.size, j, none⟩ (.bool true)) wv.heap.size N (goneJ K fs ns i l (a + 1))) := fun n => (HT.out.drewN n).set hj (fun q hq => goneJ_step HRI.out LF.out (by rw [LL.out]; exact halt') hj ej q hq)
              have HB2 : Hid (∀ n, Below wv.heap.size wv ((wr.drewN n).setCell ⟨wv.heap.size, j, none⟩ (.bool true))) := fun n => (below_drewN HBR.out n).setCell (Nat.le_refl _) _
              have hjN : (j : Int) < (N : Int) := by omega
              clear ej hj0
              rcases Nat.eq_zero_or_pos a with h0 | h0
              · subst h0
                rw [Nat.add_zero] at k1
                generalize l.getD 0 0 = x at k1 H13
                go_wp2_with fail
                go_quiet (fail)
                go_wp2_with fail
                refine (H13.out (wr.drewN nq) rfl).mono ?_
                rintro e w1 ⟨rfl, rfl⟩
                clear H13
                go_wp2
                go_roundw
                case rel => exact ⟨1, by omega, by go_num, HT2.out _, HB2.out _⟩
                case measure => simp [intOf]; omega
              · obtain ⟨c, rfl⟩ : ∃ c, a = c + 1 := ⟨a - 1, by omega⟩
                have k3 : wr.cell? ⟨g, off + c, none⟩ = some (.int .i64 (l.getD c 0)) := (HBR.out.cell (p := ⟨g, off + c, none⟩) hg).trans (HC.out c (by omega))
                have hxy := set_rises HON.out HX.out (a := c) (by rw [LL.out]; exact halt')
                generalize l.getD (c + 1) 0 = x at k1 H13 hxy
                generalize l.getD c 0 = y at k3 hxy
                have hdec : decide (x ≤ y) = false := decide_eq_false (by omega)
                go_wp2_with fail
                go_quiet (fail)
                go_wp2_with fail
                refine (H13.out (wr.drewN nq) rfl).mono ?_
                rintro e w1 ⟨rfl, rfl⟩
                clear H13
                go_wp2
                go_roundw
                case rel => exact ⟨c + 2, by omega, by go_num, HT2.out _, HB2.out _⟩
                case measure => simp [intOf]; omega
            · obtain rfl : a = ln := by omega
              have HT2 : Hid (Tab wr wv.heap.size N (headJ K fs ns (i + 1))) := HT.out.same (fun q _ => (HEND.out q).symm)
              go_wp2
              go_roundw
              case rel => exact ⟨i + 1, by omega, by go_num, HT2, HBR⟩
              case measure => simp [intOf]; omega
      · go_wp2
        go_meet
        case rel => exact HBR
  case rest =>
    have hb := hcut.out
    go_step
    exact split_nil b0 b2 N m d0 k gw fv K fs ns w0 _ _ _ _ _ _ _ _ _ _ _ _ _ _ _ _ _ _ _ _ _ _ _ _ _ _ _ _ _ _ _ _ _ _ _ _ _ _ _ _ _ _ _ _ _ _ _ _ _ _ _ _ _ _ _ _ _ _ _ _ _ _ _ _ _ _ _ _ _ _ _ _ _ _ _ _ _ _ _ _ _ _ _ _ _ _ _ _ _ _ _ _ _ _ _ _ _ _ _ _ _ _ _ _ _ _ _ _ _ _ _ _ _ _ _ _ _ _ _ _ _ _ _ _ _ _ _ _ _ _ _ _ _ _ _ _ _ _ _ _ _ _ _ _ _ _ _ _ _ _ _ _ _ _ _ _ _ _ _ _ _ _ _ _ _ _ _ _ _ _ _ _ _ _ _ _ _ _ _ _ _ _ _ _ _ _ _ _ _ _ _ _ _ _ _ _ _ _ _ _ _ _ _ _ _ _ _ _ _ _ _ _ _ _ _ _ _ _ _ _ _ _ _ _ _ _ _ _ _ _ _ _ _ _ _ _ _ _ _ _ _ _ _ _ _ _ _ _ _ _ _ _ _ _ _ _ _ _ _ _ _ _ hN hm hk HA LF HRI LN HSUM (T0.out.kept hb) (T2.out.kept hb) (keptFn_kept FV.out hb) (SW.out.kept hb) (HB.out.trans (hb.mono HB.out.size))

end Go.Proofs.Qxb6613726a
