/- Law 4: which units are kept, and the tables of the model. -/
import Derived.Test.Qxb6613726aMatchR
import Derived.Deep.RegionWith
namespace Go.Proofs.Qxb6613726a
open Go Go.RowKit Go.Sort Plain
set_option linter.unusedVariables false

theorem cell_heap {w W : World} (e : W.heap = w.heap) (p : Addr) : W.cell? p = w.cell? p := by simp [World.cell?, e]
theorem rowAt_heap {w W : World} {a : Option Addr} {xs : List Value} (h : RowAt w a xs) (e : W.heap = w.heap) : RowAt W a xs := by
  rcases h with h | ⟨b, off, ha, hlt, hc⟩
  · exact .inl h
  · exact .inr ⟨b, off, ha, by rw [e]; exact hlt, fun k u hu => (cell_heap e _).trans (hc k u hu)⟩

/-- The table of the kept units, filled up to j. -/
def KRow (w : World) (gk N j : Nat) (F : Nat → Bool) : Prop := ∃ bs, HasRow w gk 4 bs ∧ bs.length = N ∧ (∀ q, q < N → ∃ b, bs[q]? = some (.bool b)) ∧ ∀ q, q < j → bs[q]? = some (.bool (F q))
theorem krow_made (w : World) (N : Nat) (F : Nat → Bool) : KRow (w.alloc (.cells (madeCells #[.bool false] N) 4)) w.heap.size N 0 F :=
  ⟨_, hasRow_made w (.bool false) N 4, by simp, fun q hq => ⟨false, by simp [hq]⟩, fun q hq => absurd hq (by omega)⟩
theorem KRow.step {w : World} {gk N j : Nat} {F : Nat → Bool} (h : KRow w gk N j F) (hj : j < N) {b : Bool} (hb : b = F j) : KRow (w.setCell ⟨gk, j, none⟩ (.bool b)) gk N (j + 1) F := by
  obtain ⟨bs, h1, h2, h3, h4⟩ := h
  subst hb
  refine ⟨_, h1.set j _, by simpa using h2, fun q hq => ?_, fun q hq => ?_⟩
  · by_cases e : j = q
    · subst e
      exact ⟨_, List.getElem?_set_self (by rw [h2]; exact hj)⟩
    · rw [List.getElem?_set_ne e]
      exact h3 q hq
  · by_cases e : j = q
    · subst e
      exact List.getElem?_set_self (by rw [h2]; exact hj)
    · rw [List.getElem?_set_ne e]
      exact h4 q (by omega)
theorem KRow.heap {w W : World} {gk N j : Nat} {F : Nat → Bool} (h : KRow w gk N j F) (e : W.heap = w.heap) : KRow W gk N j F := by
  obtain ⟨bs, h1, h2⟩ := h
  exact ⟨bs, (by unfold HasRow; rw [e]; exact h1), h2⟩

theorem below_two (w : World) (N m : Nat) : Below w.heap.size w ((w.alloc (.cells (madeCells #[.int .i64 0] N) 3)).alloc (.cells (madeCells #[.bool false] m) 4)) :=
  ((Below.refl _ _).alloc (Nat.le_refl _) _).alloc (by simp) _
theorem relM_below {w0 wy wv W : World} {go ga m i : Nat} {K : Int → Bool} {fs : List Int} {ns : List Nat} {ow : List Int} {av : List Value} (h : RelM w0 wv W go ga m i K fs ns ow av) (hy : Below wy.heap.size wy wv) (h0 : Below w0.heap.size w0 wy) (hgo : wy.heap.size ≤ go) (hga : wy.heap.size ≤ ga) : Below wy.heap.size wy W :=
  ⟨h.bel.os.trans h0.os.symm, h.bel.tape.trans h0.tape.symm, h.bel.output.trans h0.output.symm, by rw [h.size]; exact hy.size, fun k hk => (h.other k (Nat.lt_of_lt_of_le hk hy.size) (by omega) (by omega)).trans (hy.block k hk)⟩
theorem relM_start {w0 wy : World} {N m : Nat} {K : Int → Bool} {fs : List Int} {ns : List Nat} (h0 : Below w0.heap.size w0 wy) (hl : fs.length = N) :
    RelM w0 ((wy.alloc (.cells (madeCells #[.int .i64 0] N) 3)).alloc (.cells (madeCells #[.bool false] m) 4)) ((wy.alloc (.cells (madeCells #[.int .i64 0] N) 3)).alloc (.cells (madeCells #[.bool false] m) 4)) wy.heap.size (wy.heap.size + 1) m 0 K fs ns (List.replicate fs.length 0) (List.replicate m (.bool false)) :=
  { orow := by
      have h := (hasRow_made wy (.int .i64 0) N 3).alloc (.cells (madeCells #[.bool false] m) 4)
      rw [show cells (List.replicate fs.length 0) = List.replicate N (.int .i64 0) from by simp [cells, hl]]
      exact h
    own := ownTo_start K fs ns
    arow := by
      have h := hasRow_made (wy.alloc (.cells (madeCells #[.int .i64 0] N) 3)) (.bool false) m 4
      rw [show (wy.alloc (.cells (madeCells #[.int .i64 0] N) 3)).heap.size = wy.heap.size + 1 from by simp] at h
      exact h
    alen := by simp
    adone := fun j hj => absurd hj (by omega)
    alater := fun j _ hj => by simp [hj]
    other := fun _ _ _ _ => rfl
    bel := h0.trans ((below_two wy N m).mono h0.size)
    size := rfl }

set_option maxHeartbeats 8000000 in
set_option maxRecDepth 100000 in
theorem match_kept (a1 b0 b2 : Option Addr) (n1 c1 bx N m d0 d2 : Nat) (ks fs : List Int) (ns : List Nat) (w0 wv : World) (u1 u3 u5 u6 u7 u8 u9 u10 u11 u12 u13 u14 u15 u16 u17 u18 u19 u20 u21 u22 u23 u24 u25 u26 u27 u28 u29 u30 u31 u32 u33 u34 u35 u36 u37 u38 u39 u40 u41 u42 u43 u44 u45 u46 u47 u48 u49 u50 u51 u52 u53 u54 u55 u56 u57 u58 u59 u60 u61 u62 u63 u64 u65 u66 u67 u68 u69 u70 u71 u72 u73 u74 u75 u76 u77 u78 u79 u80 u81 u82 u83 u84 u85 u86 u87 u88 u89 u90 u91 u92 u93 u94 u95 u96 u97 u98 u99 u100 u101 u102 u103 u104 u105 u106 u107 u108 u109 u110 u111 u112 u113 u114 u115 u116 u117 u118 u119 u120 u121 u122 u123 u124 u125 u126 u127 u128 u129 u130 u131 u132 u133 u134 u135 u136 u137 u138 u139 u140 u141 u142 u143 u144 u145 u146 u147 u148 u149 u150 u151 u152 u153 u154 u155 u156 u157 u158 u159 u160 u161 u162 u163 u164 u165 u166 u167 u168 u169 u170 u171 u172 u173 u174 u175 u176 u177 u178 u179 u180 u181 u182 u183 u184 u185 u186 u187 u188 u189 u190 u191 u192 u193 u194 u195 u196 u197 u198 u199 u200 u201 u202 u203 u204 u205 u206 u207 u208 u209 u210 u211 u212 u213 u214 u215 u216 u217 u218 u219 u220 u221 u222 u223 u224 u225 u226 : Value)
    (hN : N ≤ 4096) (hm : m ≤ 4096) (LF : Hid (fs.length = N)) (LN : Hid (ns.length = m)) (HR : Hid (Rising fs)) (hsum : ns.sum ≤ 9223372036854775807)
    (KB : Hid (KeptBox wv bx a1 n1 c1 ks)) (T0 : Hid (RowAt wv b0 (cells fs))) (T2 : Hid (RowAt wv b2 (cells (ns.map Int.ofNat))))
    (HB : Hid (Below w0.heap.size w0 wv)) :
    Code.wp Try.prog ((Try.f3.body.map (seqTail 9)).getD .skip) (bodyPost Try.prog Try.f3 fun e w' => e = .returned (.bool true) ∧ Below w0.heap.size w0 w')
      { tmps := #[.slice b0 N d0, u1, .slice b2 m d2, u3, .pointer (some ⟨bx, 0, none⟩), u5, u6, u7, u8, u9, u10, u11, u12, u13, u14, u15, u16, u17, u18, u19, u20, u21, u22, u23, u24, u25, u26, u27, u28, u29, u30, u31, u32, u33, u34, u35, u36, u37, u38, u39, u40, u41, u42, u43, u44, u45, u46, u47, u48, u49, u50, u51, u52, u53, u54, u55, u56, u57, u58, u59, u60, u61, u62, u63, u64, u65, u66, u67, u68, u69, u70, u71, u72, u73, u74, u75, u76, u77, u78, u79, u80, u81, u82, u83, u84, u85, u86, u87, u88, u89, u90, u91, u92, u93, u94, u95, u96, u97, u98, u99, u100, u101, u102, u103, u104, u105, u106, u107, u108, u109, u110, u111, u112, u113, u114, u115, u116, u117, u118, u119, u120, u121, u122, u123, u124, u125, u126, u127, u128, u129, u130, u131, u132, u133, u134, u135, u136, u137, u138, u139, u140, u141, u142, u143, u144, u145, u146, u147, u148, u149, u150, u151, u152, u153, u154, u155, u156, u157, u158, u159, u160, u161, u162, u163, u164, u165, u166, u167, u168, u169, u170, u171, u172, u173, u174, u175, u176, u177, u178, u179, u180, u181, u182, u183, u184, u185, u186, u187, u188, u189, u190, u191, u192, u193, u194, u195, u196, u197, u198, u199, u200, u201, u202, u203, u204, u205, u206, u207, u208, u209, u210, u211, u212, u213, u214, u215, u216, u217, u218, u219, u220, u221, u222, u223, u224, u225, u226], defers := [] } wv := by
  have hmk := fun W => run_make_row' (P := Try.prog) 27 4 (.bool false) 1 Try.underlying27 info4 rfl .i64 .i64 N (by omega) (by omega) W
  have hmk2 := fun W => run_make_row' (P := Try.prog) 27 4 (.bool false) 1 Try.underlying27 info4 rfl .i64 .i64 m (by omega) (by omega) W
  have hmk3 := fun W => run_make_row' (P := Try.prog) 22 3 (.int .i64 0) 8 Try.underlying22 info3 rfl .i64 .i64 N (by omega) (by omega) W
  conv => arg 2; whnf
  go_upto_block 0 with fail
  go_cut [10] (fun _ wc => Hid (KRow wc wv.heap.size N N (kjf (hasB ks) fs)) ∧ Hid (Below wv.heap.size wv wc))
  case first =>
    go_wp2
    clear hmk hmk2 hmk3
    go_loopw [10] (fun jx wr => ∃ j : Nat, j ≤ N ∧ jx = .int .i64 j ∧ Hid (KRow wr wv.heap.size N j (kjf (hasB ks) fs)) ∧ Hid (Below wv.heap.size wv wr)) (fun jx _ => N - (intOf jx).toNat)
    case atStart => exact ⟨0, Nat.zero_le _, rfl, krow_made _ _ _, (Below.refl _ _).alloc (Nat.le_refl _) _⟩
    case round =>
      obtain ⟨j, hj, rfl, HK, HBR⟩ := hrel
      by_cases hlt : (j : Int) < (N : Int)
      · have hlt' : j < N := by omega
        obtain ⟨p0, o0, rfl, hp0, C0⟩ := row_ints T0.out LF.out (by omega)
        have k0 : wr.cell? ⟨p0, o0 + j, none⟩ = some (.int .i64 (fs.getD j 0)) := (HBR.out.cell (p := ⟨p0, o0 + j, none⟩) hp0).trans (C0.out j hlt')
        have kb := (KB.out.kept HBR.out).box
        obtain ⟨bs, q1, q2, q3, q4⟩ := HK.out
        obtain ⟨bq, hbq⟩ := q3 j hlt'
        have kq := (q1.cell j).trans hbq
        have kqf := q1.frozen j
        clear q1 q2 q3 q4 hbq
        have HE : Hid (hasB ks (fs.getD j 0) = kjf (hasB ks) fs j) := rfl
        cases a1 with
        | none =>
          have HN : Hid (false = kjf (hasB ks) fs j) := by
            show _ = _
            rw [← HE.out, KB.out.nil]
          generalize fs.getD j 0 = x at k0 HE
          go_wp2_with fail
          go_region
          all_goals go_wp2
          all_goals go_roundw
          all_goals first
            | exact ⟨j + 1, by omega, by go_num, (HK.out.heap (W := wr.drew) rfl).step hlt' HN.out, HBR.out.drew.setCell (Nat.le_refl _) _⟩
            | (simp [intOf]; omega)
        | some y =>
          have H8 : Hid (∀ W, W.heap = wr.heap → Calls Try.prog 8 #[.slice (some y) n1 c1, .int .i64 (fs.getD j 0)] W fun e w' => e = .returned (.bool (hasB ks (fs.getD j 0))) ∧ w' = W) := fun W e =>
            has_calls (some y) c1 n1 ks _ W KB.out.len KB.out.small (rowAt_heap (KB.out.kept HBR.out).row e)
          generalize fs.getD j 0 = x at k0 HE H8
          generalize hasB ks x = r at HE H8
          go_wp2_with fail
          go_region_with (go_at_call 8; refine (H8.out wr.drew rfl).mono ?_; rintro e w' ⟨rfl, rfl⟩)
          all_goals go_wp2
          all_goals go_roundw
          all_goals first
            | exact ⟨j + 1, by omega, by go_num, (HK.out.heap (W := wr.drew) rfl).step hlt' HE.out, HBR.out.drew.setCell (Nat.le_refl _) _⟩
            | (simp [intOf]; omega)
      · obtain rfl : j = N := by omega
        go_wp2
        go_meet
        case rel => exact ⟨HK, HBR⟩
  case rest =>
    obtain ⟨HK, HBR⟩ := hcut
    have KB2 := KB.out.kept HBR.out
    have T02 := T0.out.kept HBR.out
    have T22 := T2.out.kept HBR.out
    have HB2 : Below w0.heap.size w0 wc := HB.out.trans (HBR.out.mono HB.out.size)
    have HKB2 : Hid (KeptBox wc bx a1 n1 c1 ks) := KB2
    have HT02 : Hid (RowAt wc b0 (cells fs)) := T02
    have HT22 : Hid (RowAt wc b2 (cells (ns.map Int.ofNat))) := T22
    have HHB2 : Hid (Below w0.heap.size w0 wc) := HB2
    have hgk : wv.heap.size < wc.heap.size := by
      obtain ⟨bs, q1, _⟩ := HK.out
      exact q1.lt
    clear KB2 T02 T22 HB2
    obtain ⟨wy, rfl⟩ : ∃ wy : World, wy = wc := ⟨_, rfl⟩
    go_upto_region 28 with fail
    go_cut [13] (fun l wx => l = .int .i64 (N : Int) ∧ wx = (wy.alloc (.cells (madeCells #[.int .i64 0] N) 3)).alloc (.cells (madeCells #[.bool false] m) 4))
    case first =>
      go_wp2
      go_meet
      case rel => exact ⟨rfl, rfl⟩
    case rest =>
      obtain ⟨rfl, rfl⟩ := hcut
      have hby := below_two wy N m
      have HM := relM_start (K := hasB ks) (fs := fs) (ns := ns) HHB2.out LF.out (m := m)
      go_step
      exact match_model a1 b0 b2 n1 c1 bx N m d0 d2 wv.heap.size wy.heap.size (wy.heap.size + 1) ks fs _ _ ns w0 _ _ _ _ _ _ _ _ _ _ _ _ _ _ _ _ _ _ _ _ _ _ _ _ _ _ _ _ _ _ _ _ _ _ _ _ _ _ _ _ _ _ _ _ _ _ _ _ _ _ _ _ _ _ _ _ _ _ _ _ _ _ _ _ _ _ _ _ _ _ _ _ _ _ _ _ _ _ _ _ _ _ _ _ _ _ _ _ _ _ _ _ _ _ _ _ _ _ _ _ _ _ _ _ _ _ _ _ _ _ _ _ _ _ _ _ _ _ _ _ _ _ _ _ _ _ _ _ _ _ _ _ _ _ _ _ _ _ _ _ _ _ _ _ _ _ _ _ _ _ _ _ _ _ _ _ _ _ _ _ _ _ _ _ _ _ _ _ _ _ _ _ _ _ _ _ _ _ _ _ _ _ _ _ _ _ _ _ _ _ _ _ _ _ _ _ _ _ _ _ _ _ _ _ _ _ _ _ _ _ _ _ _ _ _ _ _ _ _ _ _ hN hm LF LN HR hsum (HKB2.out.kept hby) (HT02.out.kept hby) (HT22.out.kept hby)
        (fun j hj => (hby.cell (p := ⟨wv.heap.size, j, none⟩) hgk).trans (by obtain ⟨bs, q1, q2, q3, q4⟩ := HK.out; exact (q1.cell j).trans (q4 j hj))) HM
        (by omega) (by omega) (by omega) HHB2.out.size (Nat.le_succ_of_le HHB2.out.size) (Nat.lt_of_lt_of_le hgk hby.size)
        (fun hp p o e => by
          obtain ⟨p2, o2, e2, hp2, _⟩ := row_ints HT22.out (by simpa using LN.out) hp
          rw [e] at e2
          have : p = p2 := by injection e2 with e2; injection e2
          omega)
        (by have := HKB2.out.lt; exact ⟨by omega, by omega⟩)
        (fun W h => by
          obtain ⟨ow, av, h⟩ := h
          have hb := relM_below h hby HHB2.out (Nat.le_refl _) (Nat.le_succ _)
          exact ⟨HKB2.out.kept hb, HT02.out.kept hb, HT22.out.kept hb⟩)

end Go.Proofs.Qxb6613726a
