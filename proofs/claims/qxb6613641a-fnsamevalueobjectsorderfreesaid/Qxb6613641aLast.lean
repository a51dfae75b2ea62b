/- The law's last part: the comparison by pairs, and the two calls. -/
import Derived.Test.Qxb6613641aCnt
import Derived.Test.Qxb6613641aCmp
import Derived.Deep.DeepCutAuto
import Derived.Deep.Light
import Derived.Deep.CutBlock
namespace Go.Proofs.Qxb6613641a
open Go Go.RowKit Go.Maps
set_option linter.unusedVariables false

/-- What follows the n-th statement of a sequence. -/
def seqTail : Nat → Code → Code
  | 0, c => c
  | n + 1, .seq _ b => seqTail n b
  | _, c => c

/-! ### the plain function that the loop computes -/
/-- Pair i of a meets a pair of b: among the first l of b. -/
def matchTo (m : Nat) (L : Nat → List UInt8) (U : Nat → Nat) (s : List UInt8) (v : Nat) (l : Nat) : Bool := (List.range l).any fun j => finB m L j && (L j == s) && feq (U j) v
def wantTo (n : Nat) (K : Nat → List UInt8) (V : Nat → Nat) (m : Nat) (L : Nat → List UInt8) (U : Nat → Nat) (k : Nat) : Bool :=
  decide (cnt n K = cnt m L) && (List.range k).all fun i => !finB n K i || matchTo m L U (K i) (V i) m

theorem matchTo_succ (m : Nat) (L : Nat → List UInt8) (U : Nat → Nat) (s : List UInt8) (v l : Nat) : matchTo m L U s v (l + 1) = (matchTo m L U s v l || (finB m L l && (L l == s) && feq (U l) v)) := by
  simp [matchTo, List.range_succ, List.any_append]
theorem wantTo_succ (n : Nat) (K : Nat → List UInt8) (V : Nat → Nat) (m : Nat) (L : Nat → List UInt8) (U : Nat → Nat) (k : Nat) : wantTo n K V m L U (k + 1) = (wantTo n K V m L U k && (!finB n K k || matchTo m L U (K k) (V k) m)) := by
  simp [wantTo, List.range_succ, List.all_append, Bool.and_assoc]
theorem matchTo_mono {m : Nat} {L : Nat → List UInt8} {U : Nat → Nat} {s : List UInt8} {v l l' : Nat} (h : l ≤ l') (hm : matchTo m L U s v l = true) : matchTo m L U s v l' = true := by
  induction l' with
  | zero => obtain rfl : l = 0 := by omega
            exact hm
  | succ l' ih =>
    by_cases e : l = l' + 1
    · rw [← e]; exact hm
    · rw [matchTo_succ, ih (by omega)]; rfl
theorem wantTo_false {n : Nat} {K : Nat → List UInt8} {V : Nat → Nat} {m : Nat} {L : Nat → List UInt8} {U : Nat → Nat} {k k' : Nat} (h : k ≤ k') (hm : wantTo n K V m L U k = false) : wantTo n K V m L U k' = false := by
  induction k' with
  | zero => obtain rfl : k = 0 := by omega
            exact hm
  | succ k' ih =>
    by_cases e : k = k' + 1
    · rw [← e]; exact hm
    · rw [wantTo_succ, ih (by omega)]; rfl
theorem matchTo_iff {m : Nat} {L : Nat → List UInt8} {U : Nat → Nat} {s : List UInt8} {v : Nat} : matchTo m L U s v m = true ↔ ∃ j, Fin' m L j ∧ L j = s ∧ feq (U j) v = true := by
  unfold matchTo
  rw [List.any_eq_true]
  constructor
  · rintro ⟨j, hj, h⟩
    have hj' : j < m := by simpa using hj
    simp only [Bool.and_eq_true, beq_iff_eq] at h
    exact ⟨j, (finB_iff hj').1 h.1.1, h.1.2, h.2⟩
  · rintro ⟨j, hj, e, hf⟩
    exact ⟨j, by simpa using hj.1, by simp only [Bool.and_eq_true, beq_iff_eq]; exact ⟨⟨(finB_iff hj.1).2 hj, e⟩, hf⟩⟩
/-- The loop computes what ZZSameObjects answers. -/
theorem want_same (ka kb : List ByteArray) (va vb : List Nat) (n m : Nat) : sameB ka va n kb vb m = wantTo n (nm ka) (dbl va) m (nm kb) (dbl vb) n := by
  unfold sameB
  rw [Bool.eq_iff_iff, equal_iff]
  unfold wantTo
  rw [Bool.and_eq_true, decide_eq_true_iff, List.all_eq_true]
  refine and_congr_right fun _ => ⟨fun h i hi => ?_, fun h i hi => ?_⟩
  · have hi' : i < n := by simpa using hi
    cases hf : finB n (nm ka) i
    · rfl
    · obtain ⟨j, hj, e, hq⟩ := h i ((finB_iff hi').1 hf)
      rw [matchTo_iff.2 ⟨j, hj, e, feq_symm hq⟩]
      rfl
  · have h' := h i (by simpa using hi.1)
    rw [(finB_iff hi.1).2 hi] at h'
    obtain ⟨j, hj, e, hq⟩ := matchTo_iff.1 (by simpa using h')
    exact ⟨j, hj, e, feq_symm hq⟩
theorem want_same' (ka kb : List ByteArray) (va vb : List Nat) (n m : Nat) : sameB kb vb m ka va n = wantTo n (nm ka) (dbl va) m (nm kb) (dbl vb) n := by
  rw [← want_same]
  exact equal_swap ka kb va vb n m

theorem row_strs {w : World} {a : Option Addr} {ks : List ByteArray} {n : Nat} (h : RowAt w a (ks.map .string)) (hl : ks.length = n) (hp : 0 < n) :
    ∃ b off, a = some ⟨b, off, none⟩ ∧ b < w.heap.size ∧ Hid (∀ k, k < n → w.cell? ⟨b, off + k, none⟩ = some (.string (ks.getD k ByteArray.empty))) := by
  rcases h with h | ⟨b, off, rfl, hb, hc⟩
  · have e : ks = [] := by simpa using h
    rw [e] at hl
    simp at hl
    omega
  · refine ⟨b, off, rfl, hb, fun k hk => hc k _ ?_⟩
    rw [List.getElem?_map, List.getD_eq_getElem?_getD, List.getElem?_eq_getElem (by omega)]
    rfl
theorem row_dbls {w : World} {a : Option Addr} {vs : List Nat} {n : Nat} (h : RowAt w a (vs.map (.float .f64))) (hl : vs.length = n) (hp : 0 < n) :
    ∃ b off, a = some ⟨b, off, none⟩ ∧ b < w.heap.size ∧ Hid (∀ k, k < n → w.cell? ⟨b, off + k, none⟩ = some (.float .f64 (dbl vs k))) := by
  rcases h with h | ⟨b, off, rfl, hb, hc⟩
  · have e : vs = [] := by simpa using h
    rw [e] at hl
    simp at hl
    omega
  · refine ⟨b, off, rfl, hb, fun k hk => hc k _ ?_⟩
    unfold dbl
    rw [List.getElem?_map, List.getD_eq_getElem?_getD, List.getElem?_eq_getElem (by omega)]
    rfl

set_option maxHeartbeats 8000000 in
set_option maxRecDepth 100000 in
theorem last_part (b0 b1 b2 b3 : Option Addr) (n m d0 d1 d2 d3 g1 g2 : Nat) (ka kb : List ByteArray) (va vb : List Nat) (w0 wv : World) (u4 u5 u6 u7 u8 u9 u10 u11 u12 u13 u14 u15 u19 u20 u21 u22 u23 u24 u25 u26 u27 u28 u29 u30 u31 u32 u33 u34 u35 u36 u37 u38 u39 u40 u41 u42 u43 u44 u45 u46 u47 u48 u49 u50 u51 u52 u53 u54 u55 u56 u57 u58 u59 u60 u61 u62 u63 u64 u65 u66 u67 u68 u69 u70 u71 u72 u73 u74 u75 u76 u77 u78 u79 u80 u81 u82 u83 u84 u85 u86 u87 u88 u89 u90 u91 u92 u93 u94 u95 u96 u97 u98 u99 u100 u101 u102 u103 u104 u105 u106 u107 u108 u109 u110 u111 u112 u113 u114 u115 u116 u117 u118 u119 u120 u121 u122 u123 u124 u125 u126 u127 u128 u129 u130 u131 u132 u133 u134 u135 u136 u137 u138 u139 u140 u141 u142 u143 u144 u145 u146 u147 u148 u149 u150 u151 u152 u153 u154 u155 u156 u157 u158 u159 u160 u161 u162 u163 u164 u165 u166 u167 u168 u169 u170 u171 u172 u173 u174 u175 u176 u177 u178 u179 u180 u181 u182 u183 u184 u185 u186 u187 u188 u189 u190 u191 u192 u193 u194 u195 u196 u197 u198 u199 u200 u201 u202 u203 u204 u205 : Value)
    (hn : n ≤ 1024) (hm : m ≤ 1024) (L0 : Hid (ka.length = n)) (L1 : Hid (va.length = n)) (L2 : Hid (kb.length = m)) (L3 : Hid (vb.length = m))
    (SA : Hid (∀ s ∈ ka, s.size ≤ maxLen)) (SB : Hid (∀ s ∈ kb, s.size ≤ maxLen))
    (T0 : Hid (RowAt wv b0 (ka.map .string))) (T1 : Hid (RowAt wv b1 (va.map (.float .f64)))) (T2 : Hid (RowAt wv b2 (kb.map .string))) (T3 : Hid (RowAt wv b3 (vb.map (.float .f64))))
    (F1 : Hid (HasRow wv g1 4 (fins n (nm ka)))) (F2 : Hid (HasRow wv g2 4 (fins m (nm kb)))) (HB : Hid (Below w0.heap.size w0 wv)) :
    Code.wp Try.prog ((Try.f3.body.map (seqTail 14)).getD .skip) (bodyPost Try.prog Try.f3 fun e w' => e = .returned (.bool true) ∧ Below w0.heap.size w0 w')
      { tmps := #[.slice b0 n d0, .slice b1 n d1, .slice b2 m d2, .slice b3 m d3, u4, u5, u6, u7, u8, u9, u10, u11, u12, u13, u14, u15, .slice (some ⟨g1, 0, none⟩) n n, .slice (some ⟨g2, 0, none⟩) m m, .bool (wantTo n (nm ka) (dbl va) m (nm kb) (dbl vb) 0), u19, u20, u21, u22, u23, u24, u25, u26, u27, u28, u29, u30, u31, u32, u33, u34, u35, u36, u37, u38, u39, u40, u41, u42, u43, u44, u45, u46, u47, u48, u49, u50, u51, u52, u53, u54, u55, u56, u57, u58, u59, u60, u61, u62, u63, u64, u65, u66, u67, u68, u69, u70, u71, u72, u73, u74, u75, u76, u77, u78, u79, u80, u81, u82, u83, u84, u85, u86, u87, u88, u89, u90, u91, u92, u93, u94, u95, u96, u97, u98, u99, u100, u101, u102, u103, u104, u105, u106, u107, u108, u109, u110, u111, u112, u113, u114, u115, u116, u117, u118, u119, u120, u121, u122, u123, u124, u125, u126, u127, u128, u129, u130, u131, u132, u133, u134, u135, u136, u137, u138, u139, u140, u141, u142, u143, u144, u145, u146, u147, u148, u149, u150, u151, u152, u153, u154, u155, u156, u157, u158, u159, u160, u161, u162, u163, u164, u165, u166, u167, u168, u169, u170, u171, u172, u173, u174, u175, u176, u177, u178, u179, u180, u181, u182, u183, u184, u185, u186, u187, u188, u189, u190, u191, u192, u193, u194, u195, u196, u197, u198, u199, u200, u201, u202, u203, u204, u205], defers := [] } wv := by
  have H7a : Hid (∀ W r, wantTo n (nm ka) (dbl va) m (nm kb) (dbl vb) n = r → Below wv.heap.size wv W → Calls Try.prog 7 #[.slice b0 n d0, .slice b1 n d1, .slice b2 m d2, .slice b3 m d3] W fun e w' => e = .returned (.bool r) ∧ Below W.heap.size W w') :=
    fun W r hr hW => by
      rw [← hr, ← want_same]
      exact same_calls b0 b1 d0 d1 n ka va b2 b3 d2 d3 m kb vb W L0.out L1.out hn L2.out L3.out hm SA.out SB.out (T0.out.kept hW) (T1.out.kept hW) (T2.out.kept hW) (T3.out.kept hW)
  have H7b : Hid (∀ W r, wantTo n (nm ka) (dbl va) m (nm kb) (dbl vb) n = r → Below wv.heap.size wv W → Calls Try.prog 7 #[.slice b2 m d2, .slice b3 m d3, .slice b0 n d0, .slice b1 n d1] W fun e w' => e = .returned (.bool r) ∧ Below W.heap.size W w') :=
    fun W r hr hW => by
      rw [← hr, ← want_same' ka kb va vb n m]
      exact same_calls b2 b3 d2 d3 m kb vb b0 b1 d0 d1 n ka va W L2.out L3.out hm L0.out L1.out hn SB.out SA.out (T2.out.kept hW) (T3.out.kept hW) (T0.out.kept hW) (T1.out.kept hW)
  conv => arg 2; whnf
  go_wp2
  go_loopw [18, 19] (fun t i wr => ∃ k : Nat, k ≤ n ∧ i = .int .i64 k ∧ t = .bool (wantTo n (nm ka) (dbl va) m (nm kb) (dbl vb) k) ∧ Below wv.heap.size wv wr) (fun _ i _ => n - (intOf i).toNat)
  case atStart => exact ⟨0, Nat.zero_le _, rfl, rfl, Below.refl _ _⟩
  case round =>
    obtain ⟨k, hk, rfl, rfl, hbel⟩ := hrel
    cases hw : wantTo n (nm ka) (dbl va) m (nm kb) (dbl vb) k
    · have WN : Hid (wantTo n (nm ka) (dbl va) m (nm kb) (dbl vb) n = false) := wantTo_false hk hw
      clear hw
      go_wp2_with fail
      refine (H7a.out _ _ WN.out hbel).mono ?_
      rintro e w1 ⟨rfl, k1⟩
      have hb1 := hbel.trans (k1.mono hbel.size)
      go_wp2_with fail
      refine (H7b.out _ _ WN.out hb1).mono ?_
      rintro e w2 ⟨rfl, k2⟩
      have hb2 := hb1.trans (k2.mono hb1.size)
      go_wp2
      go_ret
      exact ⟨rfl, HB.out.trans (hb2.mono HB.out.size)⟩
    · by_cases hlt : (k : Int) < (n : Int)
      · have hlt' : k < n := by omega
        obtain ⟨p0, o0, rfl, hp0, C0⟩ := row_strs T0.out L0.out (by omega)
        obtain ⟨p1, o1, rfl, hp1, C1⟩ := row_dbls T1.out L1.out (by omega)
        have hfc := (hbel.cell (p := ⟨g1, k, none⟩) F1.out.lt).trans ((F1.out.cell k).trans (fins_at hlt'))
        have WS : Hid (wantTo n (nm ka) (dbl va) m (nm kb) (dbl vb) (k + 1) = (!finB n (nm ka) k || matchTo m (nm kb) (dbl vb) (nm ka k) (dbl va k) m)) := by
          show _ = _
          rw [wantTo_succ, hw, Bool.true_and]
        clear hw
        cases hf : finB n (nm ka) k
        · rw [hf] at hfc
          have WT : Hid (wantTo n (nm ka) (dbl va) m (nm kb) (dbl vb) (k + 1) = true) := by
            show _ = _
            rw [WS.out, hf]; rfl
          clear hf WS
          go_wp2
          go_roundw
          case rel => exact ⟨k + 1, by omega, by go_num, by rw [WT.out], hbel⟩
          case measure => simp [intOf]; omega
        · rw [hf] at hfc
          have WT : Hid (wantTo n (nm ka) (dbl va) m (nm kb) (dbl vb) (k + 1) = matchTo m (nm kb) (dbl vb) (nm ka k) (dbl va k) m) := by
            show _ = _
            rw [WS.out, hf]; rfl
          clear hf WS
          go_wp2
          clear hfc
          go_loopw [20, 21] (fun f j wi => ∃ l : Nat, l ≤ m ∧ j = .int .i64 l ∧ f = .bool false ∧ Hid (matchTo m (nm kb) (dbl vb) (nm ka k) (dbl va k) l = false) ∧ Below wv.heap.size wv wi) (fun _ j _ => m - (intOf j).toNat)
          case atStart => exact ⟨0, Nat.zero_le _, rfl, rfl, rfl, hbel⟩
          case round =>
            clear hbel
            obtain ⟨l, hl, rfl, rfl, HM, hbel⟩ := hrel
            by_cases hlm : (l : Int) < (m : Int)
            · have hlm' : l < m := by omega
              obtain ⟨p2, o2, rfl, hp2, C2⟩ := row_strs T2.out L2.out (by omega)
              obtain ⟨p3, o3, rfl, hp3, C3⟩ := row_dbls T3.out L3.out (by omega)
              have hgc := (hbel.cell (p := ⟨g2, l, none⟩) F2.out.lt).trans ((F2.out.cell l).trans (fins_at hlm'))
              have k0 := (hbel.cell (p := ⟨p0, o0 + k, none⟩) hp0).trans (C0.out k hlt')
              have k1 := (hbel.cell (p := ⟨p1, o1 + k, none⟩) hp1).trans (C1.out k hlt')
              have k2 := (hbel.cell (p := ⟨p2, o2 + l, none⟩) hp2).trans (C2.out l hlm')
              have k3 := (hbel.cell (p := ⟨p3, o3 + l, none⟩) hp3).trans (C3.out l hlm')
              have MS : Hid (matchTo m (nm kb) (dbl vb) (nm ka k) (dbl va k) (l + 1) = (finB m (nm kb) l && (nm kb l == nm ka k) && feq (dbl vb l) (dbl va k))) := by
                show _ = _
                rw [matchTo_succ, HM.out, Bool.false_or]
              have N0 : Hid (nm ka k = (ka.getD k ByteArray.empty).data.toList) := rfl
              have N1 : Hid (nm kb l = (kb.getD l ByteArray.empty).data.toList) := rfl
              generalize ka.getD k ByteArray.empty = t0 at k0 N0
              generalize kb.getD l ByteArray.empty = t1 at k2 N1
              cases hg : finB m (nm kb) l
              · rw [hg] at hgc
                have MF : Hid (matchTo m (nm kb) (dbl vb) (nm ka k) (dbl va k) (l + 1) = false) := by
                  show _ = _
                  rw [MS.out, hg]; rfl
                clear hg MS
                go_wp2
                go_quiet (fail)
                go_wp2
                go_roundw
                case rel => exact ⟨l + 1, by omega, by go_num, rfl, MF, below_drewN hbel _⟩
                case measure => simp [intOf]; omega
              · rw [hg] at hgc
                cases he : (t1.toList == t0.toList)
                · have MF : Hid (matchTo m (nm kb) (dbl vb) (nm ka k) (dbl va k) (l + 1) = false) := by
                    show _ = _
                    rw [MS.out, N0.out, N1.out, beq_eq_false_iff_ne.2 (str_ne he), Bool.and_false]; rfl
                  clear hg MS
                  go_wp2
                  go_quiet (fail)
                  go_wp2
                  go_roundw
                  case rel => exact ⟨l + 1, by omega, by go_num, rfl, MF, below_drewN hbel _⟩
                  case measure => simp [intOf]; omega
                · have ME : Hid (matchTo m (nm kb) (dbl vb) (nm ka k) (dbl va k) (l + 1) = feq (dbl vb l) (dbl va k)) := by
                    show _ = _
                    rw [MS.out, N0.out, N1.out, hg, beq_iff_eq.2 (str_eq he)]; rfl
                  clear hg MS
                  generalize dbl va k = x at *
                  generalize dbl vb l = y at *
                  have hq : feq y x = (FloatKind.f64.format.order y x == some .eq) := rfl
                  cases hr : (FloatKind.f64.format.order y x == some .eq)
                  · have MF : Hid (matchTo m (nm kb) (dbl vb) (nm ka k) x (l + 1) = false) := by
                      show _ = _
                      rw [ME.out, hq, hr]
                    clear hq ME
                    go_wp2
                    go_quiet (fail)
                    go_wp2
                    go_roundw
                    case rel => exact ⟨l + 1, by omega, by go_num, rfl, MF, below_drewN hbel _⟩
                    case measure => simp [intOf]; omega
                  · have MF : Hid (matchTo m (nm kb) (dbl vb) (nm ka k) x m = true) := by
                      refine matchTo_mono (l := l + 1) (by omega) ?_
                      rw [ME.out, hq, hr]
                    clear hq ME
                    go_wp2
                    go_quiet (fail)
                    go_wp2
                    go_roundw
                    case rel => exact ⟨k + 1, by omega, by go_num, by rw [WT.out, MF.out], below_drewN hbel _⟩
                    case measure => simp [intOf]; omega
            · have e : l = m := by omega
              subst e
              go_wp2
              go_roundw
              case rel => exact ⟨k + 1, by omega, by go_num, by rw [WT.out, HM.out], hbel⟩
              case measure => simp [intOf]; omega
      · have e : k = n := by omega
        subst e
        have WN : Hid (wantTo k (nm ka) (dbl va) m (nm kb) (dbl vb) k = true) := hw
        clear hw
        go_wp2_with fail
        refine (H7a.out _ _ WN.out hbel).mono ?_
        rintro e w1 ⟨rfl, k1⟩
        have hb1 := hbel.trans (k1.mono hbel.size)
        go_wp2_with fail
        refine (H7b.out _ _ WN.out hb1).mono ?_
        rintro e w2 ⟨rfl, k2⟩
        have hb2 := hb1.trans (k2.mono hb1.size)
        go_wp2
        go_ret
        exact ⟨rfl, HB.out.trans (hb2.mono HB.out.size)⟩

end Go.Proofs.Qxb6613641a
