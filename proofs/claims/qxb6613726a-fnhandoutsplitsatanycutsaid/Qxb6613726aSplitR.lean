/- Law 5: the units that the first hand-out leaves. -/
import Derived.Test.Qxb6613726aSplitS
namespace Go.Proofs.Qxb6613726a
open Go Go.RowKit Go.Sort Plain
set_option linter.unusedVariables false

theorem makeRoom (N : Nat) (h : N ≤ 4096) (W : World) : (Instr.makeSlice 22 (.int .i64 0) (.int .i64 (N : Int))).run Try.prog W = .ok (.slice (some ⟨W.heap.size, 0, none⟩) 0 N) (W.alloc (.cells (madeCells #[.int .i64 0] N) 3)) := by
  obtain ⟨i, hi, hzz⟩ := Option.map_eq_some_iff.1 info3
  simp only [Prod.mk.injEq] at hzz
  obtain ⟨hz, hs, hb⟩ := hzz
  have h0 := run_make (P := Try.prog) W 22 3 i (.int .i64 0) Try.underlying22 hi hz .i64 .i64 0 (N : Int) (by omega) (by omega) (by rw [hb]; omega) (by omega)
  have e : (Value.int IntKind.i64 0).cells = #[.int .i64 0] := rfl
  rw [hs, Nat.mul_one, e, Int.toNat_natCast] at h0
  exact h0
theorem rel2_row {w : World} {g C : Nat} {A : List Int} (h : Rel2 w g C A) : RowAt w (some ⟨g, 0, none⟩) (cells A) := by
  obtain ⟨xs, h1, h2, h3⟩ := h
  refine .inr ⟨g, 0, rfl, h1.lt, fun q u hu => ?_⟩
  have hq : q < A.length := by
    have := (List.getElem?_eq_some_iff.1 hu).1
    simpa [cells] using this
  rw [cells_at hq] at hu
  rw [Nat.zero_add, h1.cell q, h3 q hq]
  exact hu

set_option maxHeartbeats 8000000 in
set_option maxRecDepth 100000 in
theorem split_rest (b0 b2 : Option Addr) (N m d0 k gw gf gt f : Nat) (fv : Value) (K : Int → Bool) (fs : List Int) (ns : List Nat) (X : Nat → Option (List Int)) (w0 wv : World) (u1 u4 u5 u6 u7 u8 u9 u10 u13 u14 u15 u16 u17 u20 u21 u22 u23 u24 u25 u26 u27 u28 u29 u30 u31 u32 u33 u34 u35 u36 u37 u38 u39 u40 u41 u42 u43 u44 u45 u46 u47 u48 u49 u50 u51 u52 u53 u54 u55 u56 u57 u58 u59 u60 u61 u62 u63 u64 u65 u66 u67 u68 u69 u70 u71 u72 u73 u74 u75 u76 u77 u78 u79 u80 u81 u82 u83 u84 u85 u86 u87 u88 u89 u90 u91 u92 u93 u94 u95 u96 u97 u98 u99 u100 u101 u102 u103 u104 u105 u106 u107 u108 u109 u110 u111 u112 u113 u114 u115 u116 u117 u118 u119 u120 u121 u122 u123 u124 u125 u126 u127 u128 u129 u130 u131 u132 u133 u134 u135 u136 u137 u138 u139 u140 u141 u142 u143 u144 u145 u146 u147 u148 u149 u150 u151 u152 u153 u154 u155 u156 u157 u158 u159 u160 u161 u162 u163 u164 u165 u166 u167 u168 u169 u170 u171 u172 u173 u174 u175 u176 u177 u178 u179 u180 u181 u182 u183 u184 u185 u186 u187 u188 u189 u190 u191 u192 u193 u194 u195 u196 u197 u198 u199 u200 u201 u202 u203 u204 u205 u206 u207 u208 u209 u210 u211 u212 u213 u214 u215 u216 u217 u218 u219 u220 u221 u222 u223 u224 u225 u226 u227 u228 u229 u230 u231 u232 u233 u234 u235 u236 u237 u238 u239 u240 u241 u242 u243 u244 u245 u246 u247 u248 u249 u250 u251 u252 u253 u254 u255 u256 u257 u258 u259 u260 u261 u262 u263 u264 u265 : Value)
    (hN : N ≤ 4096) (hm : m ≤ 4096) (hk : k ≤ m) (HA : Hid ((b2 = none ∧ m = 0) ∨ ∃ p o, b2 = some ⟨p, o, none⟩)) (LF : Hid (fs.length = N)) (LN : Hid (ns.length = m)) (HSUM : Hid (ns.sum ≤ 9223372036854775807))
    (HX : Hid (∀ i l, X i = some l → l.length ≤ 4096)) (HXS : Hid (∀ i, i < m - k → X (k + i) = setAt (order K (restOf (order K fs) fs f)) (ns.drop k) i))
    (T0 : Hid (RowAt wv b0 (cells fs))) (T2 : Hid (RowAt wv b2 (cells (ns.map Int.ofNat)))) (FV : Hid (KeptFn wv fv K))
    (hgt : gt < wv.heap.size) (TK : Hid (∀ j, j < N → wv.cell? ⟨gt, j, none⟩ = some (.bool (decide (fs.getD j 0 ∈ (order K fs).take f)))))
    (SW : Hid (SetsAt wv gw m X)) (SF : Hid (SetsAt wv gf k X)) (HB : Hid (Below w0.heap.size w0 wv)) :
    Code.wp Try.prog ((Try.f4.body.map (seqTail 21)).getD .skip) (bodyPost Try.prog Try.f4 fun e w' => e = .returned (.bool true) ∧ Below w0.heap.size w0 w')
      { tmps := #[.slice b0 N d0, u1, .slice b2 m m, .int .i64 (k : Int), u4, u5, u6, u7, u8, u9, u10, fv, .slice (some ⟨gw, 0, none⟩) m m, u13, u14, u15, u16, u17, .slice (some ⟨gf, 0, none⟩) k k, .slice (some ⟨gt, 0, none⟩) N N, u20, u21, u22, u23, u24, u25, u26, u27, u28, u29, u30, u31, u32, u33, u34, u35, u36, u37, u38, u39, u40, u41, u42, u43, u44, u45, u46, u47, u48, u49, u50, u51, u52, u53, u54, u55, u56, u57, u58, u59, u60, u61, u62, u63, u64, u65, u66, u67, u68, u69, u70, u71, u72, u73, u74, u75, u76, u77, u78, u79, u80, u81, u82, u83, u84, u85, u86, u87, u88, u89, u90, u91, u92, u93, u94, u95, u96, u97, u98, u99, u100, u101, u102, u103, u104, u105, u106, u107, u108, u109, u110, u111, u112, u113, u114, u115, u116, u117, u118, u119, u120, u121, u122, u123, u124, u125, u126, u127, u128, u129, u130, u131, u132, u133, u134, u135, u136, u137, u138, u139, u140, u141, u142, u143, u144, u145, u146, u147, u148, u149, u150, u151, u152, u153, u154, u155, u156, u157, u158, u159, u160, u161, u162, u163, u164, u165, u166, u167, u168, u169, u170, u171, u172, u173, u174, u175, u176, u177, u178, u179, u180, u181, u182, u183, u184, u185, u186, u187, u188, u189, u190, u191, u192, u193, u194, u195, u196, u197, u198, u199, u200, u201, u202, u203, u204, u205, u206, u207, u208, u209, u210, u211, u212, u213, u214, u215, u216, u217, u218, u219, u220, u221, u222, u223, u224, u225, u226, u227, u228, u229, u230, u231, u232, u233, u234, u235, u236, u237, u238, u239, u240, u241, u242, u243, u244, u245, u246, u247, u248, u249, u250, u251, u252, u253, u254, u255, u256, u257, u258, u259, u260, u261, u262, u263, u264, u265], defers := [] } wv := by
  have hmk := makeRoom N hN
  conv => arg 2; whnf
  go_upto_block 8 with fail
  go_cut [24, 25] (fun v _ wc => ∃ r, r ≤ N ∧ v = .slice (some ⟨wv.heap.size, 0, none⟩) r N ∧ Hid (r = (restOf (order K fs) fs f).length) ∧ Hid (Rel2 wc wv.heap.size N (restOf (order K fs) fs f)) ∧ Hid (Below wv.heap.size wv wc))
  case first =>
    clear SW SF HX HXS FV T2 HA HSUM LN hmk
    go_wp2
    go_loopw [24, 25] (fun v jx wr => ∃ j : Nat, j ≤ N ∧ jx = .int .i64 j ∧ ∃ r : Nat, r ≤ j ∧ v = .slice (some ⟨wv.heap.size, 0, none⟩) r N ∧ Hid (r = (restTo (order K fs) fs f j).length) ∧ Hid (Rel2 wr wv.heap.size N (restTo (order K fs) fs f j)) ∧ Hid (Below wv.heap.size wv wr)) (fun _ jx _ => N - (intOf jx).toNat)
    case atStart => exact ⟨0, Nat.zero_le _, rfl, 0, Nat.zero_le _, rfl, (by show _ = _; simp [restTo]), (by show Rel2 _ _ _ _; rw [show restTo (order K fs) fs f 0 = [] from by simp [restTo]]; exact rel2_start wv N), (Below.refl _ _).alloc (Nat.le_refl _) _⟩
    case round =>
      obtain ⟨j, hj, rfl, r, hrj, rfl, ER, HR, HBR⟩ := hrel
      by_cases hlt : (j : Int) < (N : Int)
      · have hlt' : j < N := by omega
        have hjf : Hid (j < fs.length) := by show _ < _; rw [LF.out]; exact hlt'
        obtain ⟨p0, o0, rfl, hp0, C0⟩ := row_ints T0.out LF.out (by omega)
        have k0 : wr.cell? ⟨p0, o0 + j, none⟩ = some (.int .i64 (fs.getD j 0)) := (HBR.out.cell (p := ⟨p0, o0 + j, none⟩) hp0).trans (C0.out j hlt')
        have kt := (HBR.out.cell (p := ⟨gt, j, none⟩) hgt).trans (TK.out j hlt')
        obtain ⟨xs, hrow, hxl, hxs⟩ := HR.out
        have HX : Hid (∀ q, q < (restTo (order K fs) fs f j).length → xs[q]? = some (.int .i64 ((restTo (order K fs) fs f j).getD q 0))) := hxs
        have HXL : Hid (xs.length = N) := hxl
        have HROW : Hid (HasRow wr wv.heap.size 3 xs) := hrow
        have hgl := hrow.lt
        clear hxs hxl hrow
        by_cases hin : fs.getD j 0 ∈ (order K fs).take f
        · rw [decide_eq_true hin] at kt
          have HP1 : Hid (restTo (order K fs) fs f (j + 1) = restTo (order K fs) fs f j) := restTo_no hjf.out hin
          clear hin
          generalize fs.getD j 0 = u at k0
          go_wp2
          go_roundw
          case rel => exact ⟨j + 1, by omega, by go_num, r, by omega, rfl, (show _ = _ by rw [HP1.out]; exact ER.out), by rw [HP1.out]; exact HR, HBR⟩
          case measure => simp [intOf]; omega
        · rw [decide_eq_false hin] at kt
          have HP1 : Hid (restTo (order K fs) fs f (j + 1) = restTo (order K fs) fs f j ++ [fs.getD j 0]) := restTo_yes hjf.out hin
          have hroom : r < N := by omega
          clear hin
          generalize fs.getD j 0 = u at k0 HP1
          go_wp2_with (first | (at_builtin; refine wpList_append_room1 rfl (.tmp 215) (.tmp 220) 22 3 rfl Try.underlying22 size3 _ wv.heap.size r N wr.heap.size xs (.int .i64 u) rfl rfl (by simp) (HROW.out.alloc _) HXL.out hroom rfl ?_; intro HG2))
          have HR2 : Hid (Rel2 ((wr.setCell ⟨wv.heap.size, r, none⟩ (.int .i64 u)).alloc (.cells #[.int .i64 u] 3)) wv.heap.size N (restTo (order K fs) fs f (j + 1))) := by
            show Rel2 _ _ _ _
            rw [HP1.out]
            exact rel2_add ER.out HXL.out HX.out hroom ((HROW.out.set r _).alloc _)
          have HB2 : Hid (Below wv.heap.size wv ((wr.setCell ⟨wv.heap.size, r, none⟩ (.int .i64 u)).alloc (.cells #[.int .i64 u] 3))) := (HBR.out.setCell (Nat.le_refl _) _).alloc (by have := HBR.out.size; simpa [World.setCell] using this) _
          clear HG2
          go_wp2
          go_roundw
          case rel => exact ⟨j + 1, by omega, by go_num, r + 1, by omega, rfl, (show _ = _ by rw [HP1.out, List.length_append, ← ER.out]; rfl), HR2, HB2⟩
          case measure => simp [intOf]; omega
      · obtain rfl : j = N := by omega
        have e : restTo (order K fs) fs f j = restOf (order K fs) fs f := by rw [← LF.out]; exact restTo_all _ _ _
        have ER2 : Hid (r = (restOf (order K fs) fs f).length) := by show _ = _; rw [← e]; exact ER.out
        have HR2 : Hid (Rel2 wr wv.heap.size j (restOf (order K fs) fs f)) := by show Rel2 _ _ _ _; rw [← e]; exact HR.out
        clear e
        go_wp2
        go_meet
        case rel => exact ⟨r, hrj, rfl, ER2, HR2, HBR⟩
  case rest =>
    obtain ⟨r, hrN, rfl, ER, HR, HB1⟩ := hcut
    have hb := HB1.out
    go_step
    exact split_second b2 m k gw gf wv.heap.size r N fv K (restOf (order K fs) fs f) ns X w0 _ _ _ _ _ _ _ _ _ _ _ _ _ _ _ _ _ _ _ _ _ _ _ _ _ _ _ _ _ _ _ _ _ _ _ _ _ _ _ _ _ _ _ _ _ _ _ _ _ _ _ _ _ _ _ _ _ _ _ _ _ _ _ _ _ _ _ _ _ _ _ _ _ _ _ _ _ _ _ _ _ _ _ _ _ _ _ _ _ _ _ _ _ _ _ _ _ _ _ _ _ _ _ _ _ _ _ _ _ _ _ _ _ _ _ _ _ _ _ _ _ _ _ _ _ _ _ _ _ _ _ _ _ _ _ _ _ _ _ _ _ _ _ _ _ _ _ _ _ _ _ _ _ _ _ _ _ _ _ _ _ _ _ _ _ _ _ _ _ _ _ _ _ _ _ _ _ _ _ _ _ _ _ _ _ _ _ _ _ _ _ _ _ _ _ _ _ _ _ _ _ _ _ _ _ _ _ _ _ _ _ _ _ _ _ _ _ _ _ _ _ _ _ _ _ _ _ _ _ _ _ _ _ _ _ _ _ _ _ _ _ _ _ _ _ _ _ _ _ _ _ _ _ _ _ _ _ _ _ _ _ hm hk (Nat.le_trans hrN hN) HA ER.out.symm LN HSUM HX HXS (T2.out.kept hb) (rel2_row HR.out) (keptFn_kept FV.out hb) (SW.out.kept hb) (SF.out.kept hb) (HB.out.trans (hb.mono HB.out.size))

end Go.Proofs.Qxb6613726a
