/- Law 4's last part: HandOut's answer held against the model. -/
import Derived.Test.Qxb6613726aHand
import Derived.Test.Qxb6613726aPick
import Derived.Test.Qxb6613726aNil
namespace Go.Proofs.Qxb6613726a
open Go Go.RowKit Go.Sort Plain
set_option linter.unusedVariables false

/-- The places, by the units that are kept. -/
def posK (K : Int → Bool) (fs : List Int) (j : Nat) : Nat := pos fs.length (fun j => K (fs.getD j 0)) j

/-- What the model's table says when all jobs are through. -/
def Owned (K : Int → Bool) (fs : List Int) (ns : List Nat) (ow : List Int) : Prop :=
  ow.length = fs.length ∧ ∀ i j, i < ns.length → j < fs.length → accB fs.length ns i = true → (ow.getD j 0 = (i : Int) + 1 ↔ (offTo fs.length ns i ≤ posK K fs j ∧ posK K fs j < offTo fs.length ns i + ns.getD i 0))
def accs (N : Nat) (ns : List Nat) : List Value := (List.range ns.length).map fun i => .bool (accB N ns i)
theorem accs_at {N : Nat} {ns : List Nat} {i : Nat} (h : i < ns.length) : (accs N ns)[i]? = some (.bool (accB N ns i)) := by simp [accs, h]

/-- What job i is given, as the model has it. -/
def pick (K : Int → Bool) (fs : List Int) (ns : List Nat) (i k : Nat) : List Int := selTo fs (posK K fs) (offTo fs.length ns i) (ns.getD i 0) k
theorem pick_zero (K : Int → Bool) (fs : List Int) (ns : List Nat) (i : Nat) : (pick K fs ns i 0).length = 0 := rfl
theorem pick_all {K : Int → Bool} {fs : List Int} (hr : Rising fs) (ns : List Nat) (i : Nat) : srt (segAt (order K fs) ns i) = pick K fs ns i fs.length := srt_seg hr K ns i
theorem pick_length {K : Int → Bool} {fs : List Int} (hr : Rising fs) {ns : List Nat} {i : Nat} (h : accB fs.length ns i = true) : (pick K fs ns i fs.length).length = ns.getD i 0 := by
  rw [← pick_all hr, srt_length, segAt_length (by rw [order_length]; exact h)]
theorem setAt_yes {K : Int → Bool} {fs : List Int} (hr : Rising fs) {ns : List Nat} {i : Nat} (h : accB fs.length ns i = true) : setAt (order K fs) ns i = some (pick K fs ns i fs.length) := by
  unfold setAt
  rw [order_length, h, ← pick_all hr]
  rfl
theorem setAt_no {K : Int → Bool} {fs : List Int} {ns : List Nat} {i : Nat} (h : accB fs.length ns i = false) : setAt (order K fs) ns i = none := by
  unfold setAt
  rw [order_length, h]
  rfl

set_option maxHeartbeats 4000000 in
set_option maxRecDepth 100000 in
theorem match_last (b0 b2 : Option Addr) (N m d0 d2 go ga gs : Nat) (K : Int → Bool) (fs ow : List Int) (ns : List Nat) (w0 wv : World) (u1 u3 u4 u5 u6 u7 u8 u9 u10 u13 u14 u15 u16 u17 u18 u19 u21 u22 u23 u24 u25 u26 u27 u28 u29 u30 u31 u32 u33 u34 u35 u36 u37 u38 u39 u40 u41 u42 u43 u44 u45 u46 u47 u48 u49 u50 u51 u52 u53 u54 u55 u56 u57 u58 u59 u60 u61 u62 u63 u64 u65 u66 u67 u68 u69 u70 u71 u72 u73 u74 u75 u76 u77 u78 u79 u80 u81 u82 u83 u84 u85 u86 u87 u88 u89 u90 u91 u92 u93 u94 u95 u96 u97 u98 u99 u100 u101 u102 u103 u104 u105 u106 u107 u108 u109 u110 u111 u112 u113 u114 u115 u116 u117 u118 u119 u120 u121 u122 u123 u124 u125 u126 u127 u128 u129 u130 u131 u132 u133 u134 u135 u136 u137 u138 u139 u140 u141 u142 u143 u144 u145 u146 u147 u148 u149 u150 u151 u152 u153 u154 u155 u156 u157 u158 u159 u160 u161 u162 u163 u164 u165 u166 u167 u168 u169 u170 u171 u172 u173 u174 u175 u176 u177 u178 u179 u180 u181 u182 u183 u184 u185 u186 u187 u188 u189 u190 u191 u192 u193 u194 u195 u196 u197 u198 u199 u200 u201 u202 u203 u204 u205 u206 u207 u208 u209 u210 u211 u212 u213 u214 u215 u216 u217 u218 u219 u220 u221 u222 u223 u224 u225 u226 : Value)
    (hN : N ≤ 4096) (hm : m ≤ 4096) (LF : Hid (fs.length = N)) (LN : Hid (ns.length = m)) (HR : Hid (Rising fs)) (hbig : Hid (∀ i, ns.getD i 0 ≤ 9223372036854775807))
    (T0 : Hid (RowAt wv b0 (cells fs))) (T2 : Hid (RowAt wv b2 (cells (ns.map Int.ofNat)))) (HO : Hid (HasRow wv go 3 (cells ow))) (OW : Hid (Owned K fs ns ow)) (HA : Hid (HasRow wv ga 4 (accs N ns)))
    (HS : Hid (SetsAt wv gs m (setAt (order K fs) ns))) (HB : Hid (Below w0.heap.size w0 wv)) :
    Code.wp Try.prog ((Try.f3.body.map (seqTail 19)).getD .skip) (bodyPost Try.prog Try.f3 fun e w' => e = .returned (.bool true) ∧ Below w0.heap.size w0 w')
      { tmps := #[.slice b0 N d0, u1, .slice b2 m d2, u3, u4, u5, u6, u7, u8, u9, u10, .slice (some ⟨go, 0, none⟩) N N, .slice (some ⟨ga, 0, none⟩) m m, u13, u14, u15, u16, u17, u18, u19, .slice (some ⟨gs, 0, none⟩) m m, u21, u22, u23, u24, u25, u26, u27, u28, u29, u30, u31, u32, u33, u34, u35, u36, u37, u38, u39, u40, u41, u42, u43, u44, u45, u46, u47, u48, u49, u50, u51, u52, u53, u54, u55, u56, u57, u58, u59, u60, u61, u62, u63, u64, u65, u66, u67, u68, u69, u70, u71, u72, u73, u74, u75, u76, u77, u78, u79, u80, u81, u82, u83, u84, u85, u86, u87, u88, u89, u90, u91, u92, u93, u94, u95, u96, u97, u98, u99, u100, u101, u102, u103, u104, u105, u106, u107, u108, u109, u110, u111, u112, u113, u114, u115, u116, u117, u118, u119, u120, u121, u122, u123, u124, u125, u126, u127, u128, u129, u130, u131, u132, u133, u134, u135, u136, u137, u138, u139, u140, u141, u142, u143, u144, u145, u146, u147, u148, u149, u150, u151, u152, u153, u154, u155, u156, u157, u158, u159, u160, u161, u162, u163, u164, u165, u166, u167, u168, u169, u170, u171, u172, u173, u174, u175, u176, u177, u178, u179, u180, u181, u182, u183, u184, u185, u186, u187, u188, u189, u190, u191, u192, u193, u194, u195, u196, u197, u198, u199, u200, u201, u202, u203, u204, u205, u206, u207, u208, u209, u210, u211, u212, u213, u214, u215, u216, u217, u218, u219, u220, u221, u222, u223, u224, u225, u226], defers := [] } wv := by
  have q1 := eql32_some
  have q2 := eql32_none
  conv => arg 2; whnf
  go_wp2
  go_loopw [21] (fun ix wr => ∃ i : Nat, i ≤ m ∧ ix = .int .i64 i ∧ Hid (Below wv.heap.size wv wr)) (fun ix _ => m - (intOf ix).toNat)
  case atStart => exact ⟨0, Nat.zero_le _, rfl, Below.refl _ _⟩
  case round =>
    obtain ⟨i, hi, rfl, HBR⟩ := hrel
    by_cases hlt : (i : Int) < (m : Int)
    · have hlt' : i < m := by omega
      have hltn : Hid (i < ns.length) := by show _ < _; rw [LN.out]; exact hlt'
      obtain ⟨vs, hvr, hvl, hvs⟩ := HS.out
      obtain ⟨v, hv, hset⟩ := hvs i hlt'
      have kg := (HBR.out.cell (p := ⟨gs, i, none⟩) hvr.lt).trans ((hvr.cell i).trans hv)
      have ka := (HBR.out.cell (p := ⟨ga, i, none⟩) HA.out.lt).trans ((HA.out.cell i).trans (accs_at hltn.out))
      obtain ⟨p2, o2, rfl, hp2, C2⟩ := row_ints T2.out (by simpa using LN.out) (by omega)
      have k2 := (HBR.out.cell (p := ⟨p2, o2 + i, none⟩) hp2).trans (C2.out i hlt')
      rw [ofNat_getD] at k2
      clear hvs hvr hvl
      cases ha : accB N ns i
      · rw [ha] at ka
        have ha' : accB fs.length ns i = false := by rw [LF.out]; exact ha
        rw [setAt_no ha'] at hset
        obtain rfl : v = .slice none 0 0 := hset
        clear ha ha'
        generalize ns.getD i 0 = n at k2
        go_wp2
        go_roundw
        case rel => exact ⟨i + 1, by omega, by go_num, HBR⟩
        case measure => simp [intOf]; omega
      · rw [ha] at ka
        have ha' : accB fs.length ns i = true := by rw [LF.out]; exact ha
        rw [setAt_yes HR.out ha'] at hset
        obtain ⟨g, off, cap, rfl, hg, hcl⟩ := hset
        have hpl := pick_length (K := K) HR.out ha'
        have HPL : Hid ((pick K fs ns i fs.length).length = ns.getD i 0) := hpl
        have HCL : Hid (∀ j, j < (pick K fs ns i fs.length).length → wv.cell? ⟨g, off + j, none⟩ = some (.int .i64 ((pick K fs ns i fs.length).getD j 0))) := hcl
        have HA' : Hid (accB fs.length ns i = true) := ha'
        rw [hpl] at kg
        have hb := hbig.out i
        have hpick : Hid (∀ j, j < N → ∀ r : Bool, (ow.getD j 0 == (i : Int) + 1) = r → (r = true → (pick K fs ns i (j + 1)).length = (pick K fs ns i j).length + 1 ∧ (pick K fs ns i j).length < ns.getD i 0 ∧ (pick K fs ns i fs.length).getD (pick K fs ns i j).length 0 = fs.getD j 0) ∧ (r = false → (pick K fs ns i (j + 1)).length = (pick K fs ns i j).length)) := fun j hj r hr => by
          have hj' : j < fs.length := by rw [LF.out]; exact hj
          have hiff := OW.out.2 i j hltn.out hj' HA'.out
          constructor
          · intro e
            subst e
            have hin := hiff.1 (eq_of_beq hr)
            have h1 := selTo_next (fs := fs) (f := posK K fs) (N := fs.length) hj' hin
            refine ⟨?_, ?_, h1.2⟩
            · show (selTo _ _ _ _ _).length = _
              rw [selTo_succ_yes hin, List.length_append]; rfl
            · rw [← HPL.out]; exact h1.1
          · intro e
            subst e
            have hout : ¬ _ := fun h => beq_eq_false_iff_ne.1 hr (hiff.2 h)
            show (selTo _ _ _ _ _).length = _
            rw [selTo_succ_no hout]; rfl
        clear ha ha' hpl hcl
        have HZ : Hid (∀ j, j < ns.getD i 0 → wv.cell? ⟨g, off + j, none⟩ = some (.int .i64 ((pick K fs ns i fs.length).getD j 0))) := fun j hj => HCL.out j (by rw [HPL.out]; exact hj)
        have hend : Hid ((pick K fs ns i N).length = ns.getD i 0) := by show _ = _; rw [← HPL.out, LF.out]
        clear HCL HPL
        generalize ns.getD i 0 = n at *
        by_cases hn0 : n = 0
        · subst hn0
          go_wp2
          go_roundw
          case rel => exact ⟨i + 1, by omega, by go_num, HBR⟩
          case measure => simp [intOf]; omega
        · have hnb : ((n : Int) == 0) = false := beq_eq_false_iff_ne.2 (by omega)
          go_wp2
          clear kg ka k2
          go_loopw [23, 24] (fun at' jx wi => ∃ j : Nat, j ≤ N ∧ jx = .int .i64 j ∧ ∃ a : Nat, a ≤ n ∧ at' = .int .i64 a ∧ Hid (a = (pick K fs ns i j).length) ∧ Hid (Below wv.heap.size wv wi)) (fun _ jx _ => N - (intOf jx).toNat)
          case atStart => exact ⟨0, Nat.zero_le _, rfl, 0, Nat.zero_le _, rfl, rfl, HBR⟩
          case round =>
            clear HBR
            obtain ⟨j, hj, rfl, a, haN, rfl, HE, HBR⟩ := hrel
            by_cases hjl : (j : Int) < (N : Int)
            · have hjl' : j < N := by omega
              obtain ⟨p0, o0, rfl, hp0, C0⟩ := row_ints T0.out LF.out (by omega)
              have ko := (HBR.out.cell (p := ⟨go, j, none⟩) HO.out.lt).trans ((HO.out.cell j).trans (cells_at (by rw [OW.out.1, LF.out]; exact hjl')))
              have k0 := (HBR.out.cell (p := ⟨p0, o0 + j, none⟩) hp0).trans (C0.out j hjl')
              have HH := hpick.out j hjl'
              have HHH : Hid _ := HH
              clear HH
              generalize ow.getD j 0 = x at ko HHH
              cases hx : (x == (i : Int) + 1)
              · have HP : Hid ((pick K fs ns i (j + 1)).length = (pick K fs ns i j).length) := (HHH.out _ hx).2 rfl
                clear HHH
                generalize fs.getD j 0 = y at k0
                go_wp2
                go_roundw
                case rel => exact ⟨j + 1, by omega, by go_num, a, haN, rfl, HE.out.trans HP.out.symm, HBR⟩
                case measure => simp [intOf]; omega
              · obtain ⟨e1, e2, e3⟩ := (HHH.out _ hx).1 rfl
                have haN' : (a : Int) < (n : Int) := by have := HE.out; omega
                have kz := (HBR.out.cell (p := ⟨g, off + a, none⟩) hg).trans (HZ.out a (by omega))
                rw [HE.out, e3] at kz
                rw [← HE.out] at kz
                have HP : Hid (a + 1 = (pick K fs ns i (j + 1)).length) := by show _ = _; rw [e1, ← HE.out]
                have hdec : decide (n ≤ a) = false := decide_eq_false (by omega)
                clear HHH e1 e2 e3
                generalize fs.getD j 0 = y at k0 kz
                go_wp2
                go_quiet (fail)
                go_wp2
                go_roundw
                case rel => exact ⟨j + 1, by omega, by go_num, a + 1, by omega, by go_num, HP, below_drewN HBR.out _⟩
                case measure => simp [intOf]; omega
            · obtain rfl : j = N := by omega
              have ea : a = n := by rw [HE.out, hend.out]
              subst ea
              go_wp2
              go_roundw
              case rel => exact ⟨i + 1, by omega, by go_num, HBR⟩
              case measure => simp [intOf]; omega
    · go_wp2
      go_ret
      exact ⟨rfl, HB.out.trans (HBR.out.mono HB.out.size)⟩

end Go.Proofs.Qxb6613726a
