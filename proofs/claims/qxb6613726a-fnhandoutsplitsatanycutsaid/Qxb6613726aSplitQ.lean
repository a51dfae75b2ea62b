/- Law 5: the first hand-out, and the table of what it took. -/
import Derived.Test.Qxb6613726aSplitR
namespace Go.Proofs.Qxb6613726a
open Go Go.RowKit Go.Sort Plain
set_option linter.unusedVariables false

/-- A table of yes and no. -/
def Tab (w : World) (g N : Nat) (F : Nat → Bool) : Prop := ∃ bs, HasRow w g 4 bs ∧ bs.length = N ∧ ∀ q, q < N → bs[q]? = some (.bool (F q))
theorem tab_made (w : World) (N : Nat) {F : Nat → Bool} (h : ∀ q, q < N → F q = false) : Tab (w.alloc (.cells (madeCells #[.bool false] N) 4)) w.heap.size N F :=
  ⟨_, hasRow_made w (.bool false) N 4, by simp, fun q hq => by rw [h q hq]; simp [hq]⟩
theorem Tab.same {w : World} {g N : Nat} {F G : Nat → Bool} (h : Tab w g N F) (e : ∀ q, q < N → G q = F q) : Tab w g N G := by
  obtain ⟨bs, h1, h2, h3⟩ := h
  exact ⟨bs, h1, h2, fun q hq => by rw [e q hq]; exact h3 q hq⟩
theorem Tab.set {w : World} {g N j : Nat} {F G : Nat → Bool} (h : Tab w g N F) (hj : j < N) (e : ∀ q, q < N → G q = (F q || decide (q = j))) : Tab (w.setCell ⟨g, j, none⟩ (.bool true)) g N G := by
  obtain ⟨bs, h1, h2, h3⟩ := h
  refine ⟨_, h1.set j _, by simpa using h2, fun q hq => ?_⟩
  rw [e q hq]
  by_cases c : j = q
  · subst c
    rw [List.getElem?_set_self (by rw [h2]; exact hj)]
    simp
  · rw [List.getElem?_set_ne c, h3 q hq, decide_eq_false (fun h => c h.symm), Bool.or_false]
theorem Tab.drewN {w : World} {g N : Nat} {F : Nat → Bool} (h : Tab w g N F) (n : Nat) : Tab (w.drewN n) g N F := h
theorem Tab.cell {w : World} {g N : Nat} {F : Nat → Bool} (h : Tab w g N F) {j : Nat} (hj : j < N) : w.cell? ⟨g, j, none⟩ = some (.bool (F j)) := by
  obtain ⟨bs, h1, h2, h3⟩ := h
  exact (h1.cell j).trans (h3 j hj)
theorem Tab.frozen {w : World} {g N : Nat} {F : Nat → Bool} (h : Tab w g N F) (j : Nat) : w.frozen? ⟨g, j, none⟩ = false := by
  obtain ⟨bs, h1, h2, h3⟩ := h
  exact h1.frozen j
theorem Tab.lt {w : World} {g N : Nat} {F : Nat → Bool} (h : Tab w g N F) : g < w.heap.size := by
  obtain ⟨bs, h1, h2, h3⟩ := h
  exact h1.lt

/-- Which units are gone when job i has been given a units of l. -/
def goneJ (K : Int → Bool) (fs : List Int) (ns : List Nat) (i : Nat) (l : List Int) (a q : Nat) : Bool := gone (order K fs) ns i l a (fs.getD q 0)
def headJ (K : Int → Bool) (fs : List Int) (ns : List Nat) (i q : Nat) : Bool := decide (fs.getD q 0 ∈ (order K fs).take (offTo (order K fs).length ns i))
theorem goneJ_zero (K : Int → Bool) (fs : List Int) (ns : List Nat) (i : Nat) (l : List Int) (q : Nat) : goneJ K fs ns i l 0 q = headJ K fs ns i q := gone_zero _ _ _ _ _
theorem headJ_zero (K : Int → Bool) (fs : List Int) (ns : List Nat) (q : Nat) : headJ K fs ns 0 q = false := by
  unfold headJ
  rw [show offTo (order K fs).length ns 0 = 0 from rfl]
  simp
theorem goneJ_step {K : Int → Bool} {fs : List Int} {ns : List Nat} {i : Nat} {l : List Int} {a j N : Nat} (hr : Rising fs) (hN : fs.length = N) (ha : a < l.length) (hj : j < N) (e : fs.getD j 0 = l.getD a 0) (q : Nat) (hq : q < N) :
    goneJ K fs ns i l (a + 1) q = (goneJ K fs ns i l a q || decide (q = j)) := by
  unfold goneJ
  rw [gone_step ha, ← e]
  congr 1
  by_cases c : q = j
  · subst c
    simp
  · have : fs.getD q 0 ≠ fs.getD j 0 := by
      have h1 := hr q j
      have h2 := hr j q
      rw [hN] at h1 h2
      by_cases g : q < j
      · have := h1 g hj; omega
      · have := h2 (by omega) hq; omega
    rw [decide_eq_false c, decide_eq_false this]

/-- A set of the hand-out, looked at as a slice. -/
theorem set_view {w : World} {v : Value} {K : Int → Bool} {fs : List Int} {ns : List Nat} {i N : Nat} (hl : fs.length = N) (h : SetIs w v (setAt (order K fs) ns i)) :
    ∃ av ln cp l, v = .slice av ln cp ∧ l.length = ln ∧ ln ≤ N ∧ RowAt w av (cells l) ∧ (∀ a, a < ln → ∃ j, j < N ∧ fs.getD j 0 = l.getD a 0) ∧ ∀ q, goneJ K fs ns i l ln q = headJ K fs ns (i + 1) q := by
  cases hx : setAt (order K fs) ns i with
  | none =>
    rw [hx] at h
    have e : v = .slice none 0 0 := h
    exact ⟨none, 0, 0, [], e, rfl, Nat.zero_le _, .inl rfl, fun a ha => absurd ha (by omega), fun q => (goneJ_zero _ _ _ _ _ _).trans (gone_no hx _)⟩
  | some l =>
    rw [hx] at h
    obtain ⟨g, off, cap, e1, e2, e3⟩ := h
    refine ⟨some ⟨g, off, none⟩, l.length, cap, l, e1, rfl, by have := set_le hx; rw [order_length, hl] at this; exact this, .inr ⟨g, off, rfl, e2, fun q u hu => ?_⟩, fun a ha => by rw [← hl]; exact set_place hx ha, fun q => gone_done hx _⟩
    have hq : q < l.length := by
      have := (List.getElem?_eq_some_iff.1 hu).1
      simpa [cells] using this
    rw [cells_at hq] at hu
    rw [e3 q hq]
    exact hu

set_option maxHeartbeats 8000000 in
set_option maxRecDepth 100000 in
theorem split_taken (b0 b2 : Option Addr) (N m d0 k gw gf : Nat) (fv : Value) (K : Int → Bool) (fs : List Int) (ns : List Nat) (w0 wv : World) (u1 u4 u5 u6 u7 u8 u9 u10 u13 u14 u15 u16 u17 u19 u20 u21 u22 u23 u24 u25 u26 u27 u28 u29 u30 u31 u32 u33 u34 u35 u36 u37 u38 u39 u40 u41 u42 u43 u44 u45 u46 u47 u48 u49 u50 u51 u52 u53 u54 u55 u56 u57 u58 u59 u60 u61 u62 u63 u64 u65 u66 u67 u68 u69 u70 u71 u72 u73 u74 u75 u76 u77 u78 u79 u80 u81 u82 u83 u84 u85 u86 u87 u88 u89 u90 u91 u92 u93 u94 u95 u96 u97 u98 u99 u100 u101 u102 u103 u104 u105 u106 u107 u108 u109 u110 u111 u112 u113 u114 u115 u116 u117 u118 u119 u120 u121 u122 u123 u124 u125 u126 u127 u128 u129 u130 u131 u132 u133 u134 u135 u136 u137 u138 u139 u140 u141 u142 u143 u144 u145 u146 u147 u148 u149 u150 u151 u152 u153 u154 u155 u156 u157 u158 u159 u160 u161 u162 u163 u164 u165 u166 u167 u168 u169 u170 u171 u172 u173 u174 u175 u176 u177 u178 u179 u180 u181 u182 u183 u184 u185 u186 u187 u188 u189 u190 u191 u192 u193 u194 u195 u196 u197 u198 u199 u200 u201 u202 u203 u204 u205 u206 u207 u208 u209 u210 u211 u212 u213 u214 u215 u216 u217 u218 u219 u220 u221 u222 u223 u224 u225 u226 u227 u228 u229 u230 u231 u232 u233 u234 u235 u236 u237 u238 u239 u240 u241 u242 u243 u244 u245 u246 u247 u248 u249 u250 u251 u252 u253 u254 u255 u256 u257 u258 u259 u260 u261 u262 u263 u264 u265 : Value)
    (hN : N ≤ 4096) (hm : m ≤ 4096) (hk : k ≤ m) (HA : Hid ((b2 = none ∧ m = 0) ∨ ∃ p o, b2 = some ⟨p, o, none⟩)) (LF : Hid (fs.length = N)) (HRI : Hid (Rising fs)) (LN : Hid (ns.length = m)) (HSUM : Hid (ns.sum ≤ 9223372036854775807))
    (T0 : Hid (RowAt wv b0 (cells fs))) (T2 : Hid (RowAt wv b2 (cells (ns.map Int.ofNat)))) (FV : Hid (KeptFn wv fv K))
    (SW : Hid (SetsAt wv gw m (setAt (order K fs) ns))) (SF : Hid (SetsAt wv gf k (setAt (order K fs) ns))) (HB : Hid (Below w0.heap.size w0 wv)) :
    Code.wp Try.prog ((Try.f4.body.map (seqTail 19)).getD .skip) (bodyPost Try.prog Try.f4 fun e w' => e = .returned (.bool true) ∧ Below w0.heap.size w0 w')
      { tmps := #[.slice b0 N d0, u1, .slice b2 m m, .int .i64 (k : Int), u4, u5, u6, u7, u8, u9, u10, fv, .slice (some ⟨gw, 0, none⟩) m m, u13, u14, u15, u16, u17, .slice (some ⟨gf, 0, none⟩) k k, u19, u20, u21, u22, u23, u24, u25, u26, u27, u28, u29, u30, u31, u32, u33, u34, u35, u36, u37, u38, u39, u40, u41, u42, u43, u44, u45, u46, u47, u48, u49, u50, u51, u52, u53, u54, u55, u56, u57, u58, u59, u60, u61, u62, u63, u64, u65, u66, u67, u68, u69, u70, u71, u72, u73, u74, u75, u76, u77, u78, u79, u80, u81, u82, u83, u84, u85, u86, u87, u88, u89, u90, u91, u92, u93, u94, u95, u96, u97, u98, u99, u100, u101, u102, u103, u104, u105, u106, u107, u108, u109, u110, u111, u112, u113, u114, u115, u116, u117, u118, u119, u120, u121, u122, u123, u124, u125, u126, u127, u128, u129, u130, u131, u132, u133, u134, u135, u136, u137, u138, u139, u140, u141, u142, u143, u144, u145, u146, u147, u148, u149, u150, u151, u152, u153, u154, u155, u156, u157, u158, u159, u160, u161, u162, u163, u164, u165, u166, u167, u168, u169, u170, u171, u172, u173, u174, u175, u176, u177, u178, u179, u180, u181, u182, u183, u184, u185, u186, u187, u188, u189, u190, u191, u192, u193, u194, u195, u196, u197, u198, u199, u200, u201, u202, u203, u204, u205, u206, u207, u208, u209, u210, u211, u212, u213, u214, u215, u216, u217, u218, u219, u220, u221, u222, u223, u224, u225, u226, u227, u228, u229, u230, u231, u232, u233, u234, u235, u236, u237, u238, u239, u240, u241, u242, u243, u244, u245, u246, u247, u248, u249, u250, u251, u252, u253, u254, u255, u256, u257, u258, u259, u260, u261, u262, u263, u264, u265], defers := [] } wv := by
  have hmk := fun W => run_make_row' (P := Try.prog) 27 4 (.bool false) 1 Try.underlying27 info4 rfl .i64 .i64 N (by omega) (by omega) W
  conv => arg 2; whnf
  go_upto_block 4 with fail
  go_cut [20] (fun _ wc => Hid (Tab wc wv.heap.size N (headJ K fs ns k)) ∧ Hid (Below wv.heap.size wv wc))
  case first =>
    clear SW FV T2 HA HSUM LN hmk HB
    go_wp2
    go_loopw [20] (fun ix wr => ∃ i : Nat, i ≤ k ∧ ix = .int .i64 i ∧ Hid (Tab wr wv.heap.size N (headJ K fs ns i)) ∧ Hid (Below wv.heap.size wv wr)) (fun ix _ => k - (intOf ix).toNat)
    case atStart => exact ⟨0, Nat.zero_le _, rfl, tab_made _ _ (fun q _ => headJ_zero _ _ _ _), (Below.refl _ _).alloc (Nat.le_refl _) _⟩
    case round =>
      obtain ⟨i, hi, rfl, HT, HBR⟩ := hrel
      by_cases hlt : (i : Int) < (k : Int)
      · obtain ⟨v, kv, sv⟩ := SF.out.get (show i < k by omega)
        have kv' : wr.cell? ⟨gf, i, none⟩ = some v := (HBR.out.cell (p := ⟨gf, i, none⟩) (by obtain ⟨vs, h1, _⟩ := SF.out; exact h1.lt)).trans kv
        obtain ⟨av, ln, cp, l, rfl, hll, hlN, hrw, hpl, hend⟩ := set_view LF.out sv
        have LL : Hid (l.length = ln) := hll
        have HRW : Hid (RowAt wv av (cells l)) := hrw
        have HPL : Hid (∀ a, a < ln → ∃ j, j < N ∧ fs.getD j 0 = l.getD a 0) := hpl
        have HEND : Hid (∀ q, goneJ K fs ns i l ln q = headJ K fs ns (i + 1) q) := hend
        have HT0 : Hid (Tab wr wv.heap.size N (goneJ K fs ns i l 0)) := HT.out.same (fun q _ => goneJ_zero _ _ _ _ _ _)
        clear hll hrw hpl hend kv sv HT
        go_wp2
        go_loopw [22, 23] (fun ax _ wi => ∃ a : Nat, a ≤ ln ∧ ax = .int .i64 a ∧ Hid (Tab wi wv.heap.size N (goneJ K fs ns i l a)) ∧ Hid (Below wv.heap.size wv wi)) (fun ax _ _ => ln - (intOf ax).toNat)
        case atStart => exact ⟨0, Nat.zero_le _, rfl, HT0, HBR⟩
        case round =>
          clear HT0 HBR kv'
          obtain ⟨a, ha, rfl, HT, HBR⟩ := hrel
          by_cases halt : (a : Int) < (ln : Int)
          · have halt' : a < ln := by omega
            obtain ⟨j, hj, ej⟩ := HPL.out a halt'
            obtain ⟨p1, o1, rfl, hp1, C1⟩ := row_ints HRW.out LL.out (by omega)
            have k1 : wr.cell? ⟨p1, o1 + a, none⟩ = some (.int .i64 (l.getD a 0)) := (HBR.out.cell (p := ⟨p1, o1 + a, none⟩) hp1).trans (C1.out a halt')
            have H13 : Hid (∀ W, W = wr → Calls Try.prog 13 #[.slice b0 N d0, .int .i64 (l.getD a 0)] W fun e w' => e = .returned (.int .i64 j) ∧ w' = W) := fun W e => by
              subst e
              rw [← ej]
              exact index_calls b0 d0 N j fs W LF.out hN HRI.out hj (T0.out.kept HBR.out)
            have kt := HT.out.cell hj
            have ktf := HT.out.frozen j
            have HT2 : Hid (Tab (wr.setCell ⟨wv.heap.size, j, none⟩ (.bool true)) wv.heap.size N (goneJ K fs ns i l (a + 1))) := HT.out.set hj (fun q hq => goneJ_step HRI.out LF.out (by rw [LL.out]; exact halt') hj ej q hq)
            have HB2 : Hid (Below wv.heap.size wv (wr.setCell ⟨wv.heap.size, j, none⟩ (.bool true))) := HBR.out.setCell (Nat.le_refl _) _
            have hjN : (j : Int) < (N : Int) := by omega
            clear ej
            generalize l.getD a 0 = x at k1 H13
            generalize goneJ K fs ns i l a j = y at kt
            go_wp2_with fail
            refine (H13.out _ rfl).mono ?_
            rintro e w1 ⟨rfl, rfl⟩
            clear H13
            go_wp2
            go_roundw
            case rel => exact ⟨a + 1, by omega, by go_num, HT2, HB2⟩
            case measure => simp [intOf]; omega
          · obtain rfl : a = ln := by omega
            have HT2 : Hid (Tab wr wv.heap.size N (headJ K fs ns (i + 1))) := HT.out.same (fun q _ => (HEND.out q).symm)
            go_wp2
            go_roundw
            case rel => exact ⟨i + 1, by omega, by go_num, HT2, HBR⟩
            case measure => simp [intOf]; omega
      · obtain rfl : i = k := by omega
        go_wp2
        go_meet
        case rel => exact ⟨HT, HBR⟩
  case rest =>
    obtain ⟨HT, HB1⟩ := hcut
    have hb := HB1.out
    go_step
    exact split_rest b0 b2 N m d0 k gw gf wv.heap.size (offTo (order K fs).length ns k) fv K fs ns (setAt (order K fs) ns) w0 _ _ _ _ _ _ _ _ _ _ _ _ _ _ _ _ _ _ _ _ _ _ _ _ _ _ _ _ _ _ _ _ _ _ _ _ _ _ _ _ _ _ _ _ _ _ _ _ _ _ _ _ _ _ _ _ _ _ _ _ _ _ _ _ _ _ _ _ _ _ _ _ _ _ _ _ _ _ _ _ _ _ _ _ _ _ _ _ _ _ _ _ _ _ _ _ _ _ _ _ _ _ _ _ _ _ _ _ _ _ _ _ _ _ _ _ _ _ _ _ _ _ _ _ _ _ _ _ _ _ _ _ _ _ _ _ _ _ _ _ _ _ _ _ _ _ _ _ _ _ _ _ _ _ _ _ _ _ _ _ _ _ _ _ _ _ _ _ _ _ _ _ _ _ _ _ _ _ _ _ _ _ _ _ _ _ _ _ _ _ _ _ _ _ _ _ _ _ _ _ _ _ _ _ _ _ _ _ _ _ _ _ _ _ _ _ _ _ _ _ _ _ _ _ _ _ _ _ _ _ _ _ _ _ _ _ _ _ _ _ _ _ _ _ _ _ _ _ _ _ _ _ _ _ _ _ _ _ _ _ hN hm hk HA LF LN HSUM
      (fun i l h => by have := set_le h; rw [order_length, LF.out] at this; omega) (fun i _ => by have h := second_is (K := K) HRI.out ns k i; rw [← order_length K fs] at h; exact h.symm)
      (T0.out.kept hb) (T2.out.kept hb) (keptFn_kept FV.out hb) HT.out.lt (fun j hj => HT.out.cell hj) (SW.out.kept hb) (SF.out.kept hb) (HB.out.trans (hb.mono HB.out.size))

end Go.Proofs.Qxb6613726a
