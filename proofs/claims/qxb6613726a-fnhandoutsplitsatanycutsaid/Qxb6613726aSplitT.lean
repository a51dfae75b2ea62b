/- Law 5's last part: set by set, the whole hand-out against the two. -/
import Derived.Test.Qxb6613726aIdx
import Derived.Test.Qxb6613726aCut
namespace Go.Proofs.Qxb6613726a
open Go Go.RowKit Go.Sort Plain
set_option linter.unusedVariables false

theorem SetsAt.get {w : World} {s m : Nat} {X : Nat → Option (List Int)} (h : SetsAt w s m X) {i : Nat} (hi : i < m) : ∃ v, w.cell? ⟨s, i, none⟩ = some v ∧ SetIs w v (X i) := by
  obtain ⟨vs, h1, h2, h3⟩ := h
  obtain ⟨v, hv, hs⟩ := h3 i hi
  exact ⟨v, (h1.cell i).trans hv, hs⟩
theorem setIs_kept {w w' : World} {v : Value} {x : Option (List Int)} (h : SetIs w v x) (hb : Below w.heap.size w w') : SetIs w' v x := by
  cases x with
  | none => exact h
  | some l =>
    obtain ⟨g, off, cap, e1, e2, e3⟩ := h
    exact ⟨g, off, cap, e1, Nat.lt_of_lt_of_le e2 hb.size, fun j hj => (hb.cell (p := ⟨g, off + j, none⟩) e2).trans (e3 j hj)⟩
theorem SetsAt.kept {w w' : World} {s m : Nat} {X : Nat → Option (List Int)} (h : SetsAt w s m X) (hb : Below w.heap.size w w') : SetsAt w' s m X := by
  obtain ⟨vs, h1, h2, h3⟩ := h
  refine ⟨vs, h1.below hb h1.lt, h2, fun i hi => ?_⟩
  obtain ⟨v, hv, hs⟩ := h3 i hi
  exact ⟨v, hv, setIs_kept hs hb⟩
theorem SetsAt.same {w : World} {s m : Nat} {X Y : Nat → Option (List Int)} (h : SetsAt w s m X) (e : ∀ i, i < m → Y i = X i) : SetsAt w s m Y := by
  obtain ⟨vs, h1, h2, h3⟩ := h
  refine ⟨vs, h1, h2, fun i hi => ?_⟩
  rw [e i hi]
  exact h3 i hi

set_option maxHeartbeats 8000000 in
set_option maxRecDepth 100000 in
theorem split_last (b2 : Option Addr) (m d2 k gw gf gs : Nat) (X : Nat → Option (List Int)) (w0 wv : World) (u0 u1 u4 u5 u6 u7 u8 u9 u10 u11 u13 u14 u15 u16 u17 u19 u20 u21 u22 u23 u24 u25 u27 u28 u29 u30 u31 u32 u33 u34 u35 u36 u37 u38 u39 u40 u41 u42 u43 u44 u45 u46 u47 u48 u49 u50 u51 u52 u53 u54 u55 u56 u57 u58 u59 u60 u61 u62 u63 u64 u65 u66 u67 u68 u69 u70 u71 u72 u73 u74 u75 u76 u77 u78 u79 u80 u81 u82 u83 u84 u85 u86 u87 u88 u89 u90 u91 u92 u93 u94 u95 u96 u97 u98 u99 u100 u101 u102 u103 u104 u105 u106 u107 u108 u109 u110 u111 u112 u113 u114 u115 u116 u117 u118 u119 u120 u121 u122 u123 u124 u125 u126 u127 u128 u129 u130 u131 u132 u133 u134 u135 u136 u137 u138 u139 u140 u141 u142 u143 u144 u145 u146 u147 u148 u149 u150 u151 u152 u153 u154 u155 u156 u157 u158 u159 u160 u161 u162 u163 u164 u165 u166 u167 u168 u169 u170 u171 u172 u173 u174 u175 u176 u177 u178 u179 u180 u181 u182 u183 u184 u185 u186 u187 u188 u189 u190 u191 u192 u193 u194 u195 u196 u197 u198 u199 u200 u201 u202 u203 u204 u205 u206 u207 u208 u209 u210 u211 u212 u213 u214 u215 u216 u217 u218 u219 u220 u221 u222 u223 u224 u225 u226 u227 u228 u229 u230 u231 u232 u233 u234 u235 u236 u237 u238 u239 u240 u241 u242 u243 u244 u245 u246 u247 u248 u249 u250 u251 u252 u253 u254 u255 u256 u257 u258 u259 u260 u261 u262 u263 u264 u265 : Value)
    (hm : m ≤ 4096) (hk : k ≤ m) (HX : Hid (∀ i l, X i = some l → l.length ≤ 4096))
    (SW : Hid (SetsAt wv gw m X)) (SF : Hid (SetsAt wv gf k X)) (SS : Hid (SetsAt wv gs (m - k) (fun i => X (k + i)))) (HB : Hid (Below w0.heap.size w0 wv)) :
    Code.wp Try.prog ((Try.f4.body.map (seqTail 25)).getD .skip) (bodyPost Try.prog Try.f4 fun e w' => e = .returned (.bool true) ∧ Below w0.heap.size w0 w')
      { tmps := #[u0, u1, .slice b2 m d2, .int .i64 (k : Int), u4, u5, u6, u7, u8, u9, u10, u11, .slice (some ⟨gw, 0, none⟩) m m, u13, u14, u15, u16, u17, .slice (some ⟨gf, 0, none⟩) k k, u19, u20, u21, u22, u23, u24, u25, .slice (some ⟨gs, 0, none⟩) (m - k) (m - k), u27, u28, u29, u30, u31, u32, u33, u34, u35, u36, u37, u38, u39, u40, u41, u42, u43, u44, u45, u46, u47, u48, u49, u50, u51, u52, u53, u54, u55, u56, u57, u58, u59, u60, u61, u62, u63, u64, u65, u66, u67, u68, u69, u70, u71, u72, u73, u74, u75, u76, u77, u78, u79, u80, u81, u82, u83, u84, u85, u86, u87, u88, u89, u90, u91, u92, u93, u94, u95, u96, u97, u98, u99, u100, u101, u102, u103, u104, u105, u106, u107, u108, u109, u110, u111, u112, u113, u114, u115, u116, u117, u118, u119, u120, u121, u122, u123, u124, u125, u126, u127, u128, u129, u130, u131, u132, u133, u134, u135, u136, u137, u138, u139, u140, u141, u142, u143, u144, u145, u146, u147, u148, u149, u150, u151, u152, u153, u154, u155, u156, u157, u158, u159, u160, u161, u162, u163, u164, u165, u166, u167, u168, u169, u170, u171, u172, u173, u174, u175, u176, u177, u178, u179, u180, u181, u182, u183, u184, u185, u186, u187, u188, u189, u190, u191, u192, u193, u194, u195, u196, u197, u198, u199, u200, u201, u202, u203, u204, u205, u206, u207, u208, u209, u210, u211, u212, u213, u214, u215, u216, u217, u218, u219, u220, u221, u222, u223, u224, u225, u226, u227, u228, u229, u230, u231, u232, u233, u234, u235, u236, u237, u238, u239, u240, u241, u242, u243, u244, u245, u246, u247, u248, u249, u250, u251, u252, u253, u254, u255, u256, u257, u258, u259, u260, u261, u262, u263, u264, u265], defers := [] } wv := by
  conv => arg 2; whnf
  go_wp2
  go_loopw [27] (fun ix wr => ∃ i : Nat, i ≤ m ∧ ix = .int .i64 i ∧ Hid (∃ q, wr = wv.drewN q)) (fun ix _ => m - (intOf ix).toNat)
  case atStart => exact ⟨0, Nat.zero_le _, rfl, 0, rfl⟩
  case round =>
    obtain ⟨i, hi, rfl, HQ⟩ := hrel
    by_cases hlt : (i : Int) < (m : Int)
    · have hlt' : i < m := by omega
      obtain ⟨v1, k1, s1⟩ := SW.out.get hlt'
      have k1' : wr.cell? ⟨gw, i, none⟩ = some v1 := by obtain ⟨q, rfl⟩ := HQ.out; exact k1
      have s1' : Hid (SetIs wr v1 (X i)) := by obtain ⟨q, rfl⟩ := HQ.out; exact setIs_drewN s1 q
      clear k1 s1
      by_cases hik : (i : Int) < (k : Int)
      · obtain ⟨v2, k2, s2⟩ := SF.out.get (show i < k by omega)
        have k2' : wr.cell? ⟨gf, i, none⟩ = some v2 := by obtain ⟨q, rfl⟩ := HQ.out; exact k2
        have s2' : Hid (SetIs wr v2 (X i)) := by obtain ⟨q, rfl⟩ := HQ.out; exact setIs_drewN s2 q
        have H14 : Hid (∀ n, Calls Try.prog 14 #[v1, v2] (wr.drewN n) fun e w' => e = .returned (.bool true) ∧ ∃ q, w' = (wr.drewN n).drewN q) := fun n => same_calls (setIs_drewN s1'.out n) (setIs_drewN s2'.out n) (HX.out i)
        clear k2 s2 s1' s2'
        go_wp2_with fail
        go_quiet (first | (go_at_call 14; exact Calls.quiet_of (H14.out _)))
        go_wp2
        go_roundw
        case rel => exact ⟨i + 1, by omega, by go_num, by obtain ⟨q, rfl⟩ := HQ.out; exact ⟨_, drewN_add wv q _⟩⟩
        case measure => simp [intOf]; omega
      · obtain ⟨v2, k2, s2⟩ := SS.out.get (show i - k < m - k by omega)
        have e : k + (i - k) = i := by omega
        have s2 : SetIs wv v2 (X (k + (i - k))) := s2
        rw [e] at s2
        have k2' : wr.cell? ⟨gs, i - k, none⟩ = some v2 := by obtain ⟨q, rfl⟩ := HQ.out; exact k2
        have s2' : Hid (SetIs wr v2 (X i)) := by obtain ⟨q, rfl⟩ := HQ.out; exact setIs_drewN s2 q
        have H14 : Hid (∀ n, Calls Try.prog 14 #[v1, v2] (wr.drewN n) fun e w' => e = .returned (.bool true) ∧ ∃ q, w' = (wr.drewN n).drewN q) := fun n => same_calls (setIs_drewN s1'.out n) (setIs_drewN s2'.out n) (HX.out i)
        clear k2 s2 s1' s2' e
        go_wp2_with fail
        go_quiet (first | (go_at_call 14; exact Calls.quiet_of (H14.out _)))
        go_wp2
        go_roundw
        case rel => exact ⟨i + 1, by omega, by go_num, by obtain ⟨q, rfl⟩ := HQ.out; exact ⟨_, drewN_add wv q _⟩⟩
        case measure => simp [intOf]; omega
    · go_wp2
      go_ret
      obtain ⟨q, rfl⟩ := HQ.out
      exact ⟨rfl, below_drewN HB.out q⟩

end Go.Proofs.Qxb6613726a
