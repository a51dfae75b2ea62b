/- Law 4's model: job by job, pass by pass, over the table of owners. -/
import Derived.Test.Qxb6613726aMatchS
import Derived.Test.Qxb6613726aOwn
namespace Go.Proofs.Qxb6613726a
open Go Go.RowKit Go.Sort Plain
set_option linter.unusedVariables false

/-- Only block g has turned. -/
structure OnlyAt (g : Nat) (w w' : World) : Prop where
  os : w'.os = w.os
  tape : w'.tape = w.tape
  output : w'.output = w.output
  size : w'.heap.size = w.heap.size
  other : ∀ k, k ≠ g → w'.heap[k]? = w.heap[k]?
theorem OnlyAt.refl (g : Nat) (w : World) : OnlyAt g w w := ⟨rfl, rfl, rfl, rfl, fun _ _ => rfl⟩
theorem OnlyAt.set {g : Nat} {w w' : World} (h : OnlyAt g w w') (j : Nat) (v : Value) : OnlyAt g w (w'.setCell ⟨g, j, none⟩ v) :=
  ⟨h.os, h.tape, h.output, by simpa [World.setCell] using h.size, fun k hk => (Below.heap_setCell w' ⟨g, j, none⟩ v k hk).trans (h.other k hk)⟩
theorem OnlyAt.cell {g : Nat} {w w' : World} (h : OnlyAt g w w') {b k : Nat} (hb : b ≠ g) : w'.cell? ⟨b, k, none⟩ = w.cell? ⟨b, k, none⟩ := World.cell?_of_block (h.other b hb)
theorem OnlyAt.row {g b : Nat} {w w' : World} {t : TypeId} {xs : List Value} (h : OnlyAt g w w') (hr : HasRow w b t xs) (hb : b ≠ g) : HasRow w' b t xs := (h.other b hb).trans hr
theorem OnlyAt.below {g B : Nat} {w0 w w' : World} (h : OnlyAt g w w') (hb : Below B w0 w) (hg : B ≤ g) : Below B w0 w' :=
  ⟨h.os.trans hb.os, h.tape.trans hb.tape, h.output.trans hb.output, by rw [h.size]; exact hb.size, fun k hk => (h.other k (by omega)).trans (hb.block k hk)⟩

/-- Block go holds the table F. -/
def St (go N : Nat) (w : World) (F : Nat → Int) : Prop := ∃ l : List Int, HasRow w go 3 (cells l) ∧ l.length = N ∧ ∀ q, q < N → l.getD q 0 = F q
theorem St.same {go N : Nat} {w : World} {F G : Nat → Int} (h : St go N w F) (e : ∀ q, q < N → G q = F q) : St go N w G := by
  obtain ⟨l, h1, h2, h3⟩ := h
  exact ⟨l, h1, h2, fun q hq => (h3 q hq).trans (e q hq).symm⟩
theorem cells_set (l : List Int) (j : Nat) (x : Int) : (cells l).set j (.int .i64 x) = cells (l.set j x) := by
  unfold cells
  rw [List.map_set]
theorem st_take {go N j : Nat} {w : World} {l : List Int} {F G : Nat → Int} {x : Int} (hr : HasRow w go 3 (cells l)) (hl : l.length = N) (hF : ∀ q, q < N → l.getD q 0 = F q) (hj : j < N) (hG : ∀ q, G q = if q = j then x else F q) :
    St go N (w.setCell ⟨go, j, none⟩ (.int .i64 x)) G := by
  refine ⟨l.set j x, by rw [← cells_set]; exact hr.set j _, by simpa using hl, fun q hq => ?_⟩
  rw [hG]
  by_cases e : q = j
  · subst e
    rw [if_pos rfl, List.getD_eq_getElem?_getD, List.getElem?_set_self (by omega)]
    rfl
  · rw [if_neg e, ← hF q hq, List.getD_eq_getElem?_getD, List.getD_eq_getElem?_getD, List.getElem?_set_ne (fun h => e h.symm)]

/-- Which units are kept, by their places. -/
def kjf (K : Int → Bool) (fs : List Int) (j : Nat) : Bool := K (fs.getD j 0)

/-- The state at the head of job i. -/
structure RelM (w0 wv w : World) (go ga m i : Nat) (K : Int → Bool) (fs : List Int) (ns : List Nat) (ow : List Int) (av : List Value) : Prop where
  orow : HasRow w go 3 (cells ow)
  own : OwnTo K fs ns i ow
  arow : HasRow w ga 4 av
  alen : av.length = m
  adone : ∀ j, j < i → av[j]? = some (.bool (accB fs.length ns j))
  alater : ∀ j, i ≤ j → j < m → av[j]? = some (.bool false)
  other : ∀ k, k < wv.heap.size → k ≠ go → k ≠ ga → w.heap[k]? = wv.heap[k]?
  bel : Below w0.heap.size w0 w
  size : w.heap.size = wv.heap.size
theorem RelM.no {w0 wv w : World} {go ga m i : Nat} {K : Int → Bool} {fs : List Int} {ns : List Nat} {ow : List Int} {av : List Value} (h : RelM w0 wv w go ga m i K fs ns ow av) (hi : i < m) (ha : accB fs.length ns i = false) : RelM w0 wv w go ga m (i + 1) K fs ns ow av :=
  { h with
    own := h.own.no ha
    adone := fun j hj => by
      by_cases e : j = i
      · subst e
        rw [ha]
        exact h.alater j (Nat.le_refl _) hi
      · exact h.adone j (by omega)
    alater := fun j h1 h2 => h.alater j (by omega) h2 }
theorem RelM.yes {w0 wv w w2 : World} {go ga m i f n : Nat} {K : Int → Bool} {fs : List Int} {ns : List Nat} {ow : List Int} {av : List Value} (h : RelM w0 wv w go ga m i K fs ns ow av) (hi : i < m) (ha : accB fs.length ns i = true) (hf : f = offTo fs.length ns i) (hn : n = ns.getD i 0)
    (hgg : ga ≠ go) (h0 : w0.heap.size ≤ go) (h1 : w0.heap.size ≤ ga)
    (k : OnlyAt go (w.setCell ⟨ga, i, none⟩ (.bool true)) w2) (hs : St go fs.length w2 (fun z => if InR (posK K fs) f n z then (i : Int) + 1 else ow.getD z 0)) : ∃ ow2, RelM w0 wv w2 go ga m (i + 1) K fs ns ow2 (av.set i (.bool true)) := by
  obtain ⟨l, hl, hll, hlq⟩ := hs
  subst hf hn
  have hb : Below w0.heap.size w0 (w.setCell ⟨ga, i, none⟩ (.bool true)) := h.bel.setCell h1 _
  refine ⟨l, { orow := hl, own := h.own.yes ha hll hlq, arow := k.row (h.arow.set i _) hgg, alen := by simpa using h.alen, adone := fun j hj => ?_, alater := fun j h2 h3 => ?_, other := fun j h2 h3 h4 => ?_, bel := k.below hb h0, size := ?_ }⟩
  · by_cases e : i = j
    · subst e
      rw [List.getElem?_set_self (by rw [h.alen]; exact hi), ha]
    · rw [List.getElem?_set_ne e]
      exact h.adone j (by omega)
  · rw [List.getElem?_set_ne (by omega)]
    exact h.alater j (by omega) h3
  · rw [k.other j h3, Below.heap_setCell _ _ _ _ h4]
    exact h.other j h2 h3 h4
  · rw [k.size]
    simpa [World.setCell] using h.size

set_option maxHeartbeats 8000000 in
set_option maxRecDepth 100000 in
theorem match_model (a1 b0 b2 : Option Addr) (n1 c1 bx N m d0 d2 gk go ga : Nat) (ks fs ow0 : List Int) (av0 : List Value) (ns : List Nat) (w0 wv : World) (u1 u3 u5 u6 u7 u8 u10 u14 u15 u16 u17 u18 u19 u20 u21 u22 u23 u24 u25 u26 u27 u28 u29 u30 u31 u32 u33 u34 u35 u36 u37 u38 u39 u40 u41 u42 u43 u44 u45 u46 u47 u48 u49 u50 u51 u52 u53 u54 u55 u56 u57 u58 u59 u60 u61 u62 u63 u64 u65 u66 u67 u68 u69 u70 u71 u72 u73 u74 u75 u76 u77 u78 u79 u80 u81 u82 u83 u84 u85 u86 u87 u88 u89 u90 u91 u92 u93 u94 u95 u96 u97 u98 u99 u100 u101 u102 u103 u104 u105 u106 u107 u108 u109 u110 u111 u112 u113 u114 u115 u116 u117 u118 u119 u120 u121 u122 u123 u124 u125 u126 u127 u128 u129 u130 u131 u132 u133 u134 u135 u136 u137 u138 u139 u140 u141 u142 u143 u144 u145 u146 u147 u148 u149 u150 u151 u152 u153 u154 u155 u156 u157 u158 u159 u160 u161 u162 u163 u164 u165 u166 u167 u168 u169 u170 u171 u172 u173 u174 u175 u176 u177 u178 u179 u180 u181 u182 u183 u184 u185 u186 u187 u188 u189 u190 u191 u192 u193 u194 u195 u196 u197 u198 u199 u200 u201 u202 u203 u204 u205 u206 u207 u208 u209 u210 u211 u212 u213 u214 u215 u216 u217 u218 u219 u220 u221 u222 u223 u224 u225 u226 : Value)
    (hN : N ≤ 4096) (hm : m ≤ 4096) (LF : Hid (fs.length = N)) (LN : Hid (ns.length = m)) (HR : Hid (Rising fs)) (hsum : ns.sum ≤ 9223372036854775807)
    (KB : Hid (KeptBox wv bx a1 n1 c1 ks)) (T0 : Hid (RowAt wv b0 (cells fs))) (T2 : Hid (RowAt wv b2 (cells (ns.map Int.ofNat))))
    (HKR : Hid (∀ j, j < N → wv.cell? ⟨gk, j, none⟩ = some (.bool (kjf (hasB ks) fs j)))) (HM0 : Hid (RelM w0 wv wv go ga m 0 (hasB ks) fs ns ow0 av0))
    (hgk1 : gk ≠ go) (hgk2 : gk ≠ ga) (hgg : ga ≠ go) (h0o : w0.heap.size ≤ go) (h0a : w0.heap.size ≤ ga) (hgkl : gk < wv.heap.size)
    (HP2 : Hid (0 < m → ∀ p o, b2 = some ⟨p, o, none⟩ → p ≠ go ∧ p ≠ ga)) (HPK : Hid (bx ≠ go ∧ bx ≠ ga))
    (HNEXT : Hid (∀ W, (∃ ow av, RelM w0 wv W go ga m m (hasB ks) fs ns ow av) → KeptBox W bx a1 n1 c1 ks ∧ RowAt W b0 (cells fs) ∧ RowAt W b2 (cells (ns.map Int.ofNat)))) :
    Code.wp Try.prog ((Try.f3.body.map (seqTail 14)).getD .skip) (bodyPost Try.prog Try.f3 fun e w' => e = .returned (.bool true) ∧ Below w0.heap.size w0 w')
      { tmps := #[.slice b0 N d0, u1, .slice b2 m d2, u3, .pointer (some ⟨bx, 0, none⟩), u5, u6, u7, u8, .slice (some ⟨gk, 0, none⟩) N N, u10, .slice (some ⟨go, 0, none⟩) N N, .slice (some ⟨ga, 0, none⟩) m m, .int .i64 (N : Int), u14, u15, u16, u17, u18, u19, u20, u21, u22, u23, u24, u25, u26, u27, u28, u29, u30, u31, u32, u33, u34, u35, u36, u37, u38, u39, u40, u41, u42, u43, u44, u45, u46, u47, u48, u49, u50, u51, u52, u53, u54, u55, u56, u57, u58, u59, u60, u61, u62, u63, u64, u65, u66, u67, u68, u69, u70, u71, u72, u73, u74, u75, u76, u77, u78, u79, u80, u81, u82, u83, u84, u85, u86, u87, u88, u89, u90, u91, u92, u93, u94, u95, u96, u97, u98, u99, u100, u101, u102, u103, u104, u105, u106, u107, u108, u109, u110, u111, u112, u113, u114, u115, u116, u117, u118, u119, u120, u121, u122, u123, u124, u125, u126, u127, u128, u129, u130, u131, u132, u133, u134, u135, u136, u137, u138, u139, u140, u141, u142, u143, u144, u145, u146, u147, u148, u149, u150, u151, u152, u153, u154, u155, u156, u157, u158, u159, u160, u161, u162, u163, u164, u165, u166, u167, u168, u169, u170, u171, u172, u173, u174, u175, u176, u177, u178, u179, u180, u181, u182, u183, u184, u185, u186, u187, u188, u189, u190, u191, u192, u193, u194, u195, u196, u197, u198, u199, u200, u201, u202, u203, u204, u205, u206, u207, u208, u209, u210, u211, u212, u213, u214, u215, u216, u217, u218, u219, u220, u221, u222, u223, u224, u225, u226], defers := [] } wv := by
  obtain ⟨K, eK⟩ : ∃ K, K = hasB ks := ⟨_, rfl⟩
  have EK : Hid (K = hasB ks) := eK
  rw [← eK] at HKR HM0 HNEXT
  clear eK
  conv => arg 2; whnf
  go_upto_block 2 with fail
  go_cut [13] (fun _ wc => Hid (∃ ow av, RelM w0 wv wc go ga m m K fs ns ow av))
  case first =>
    go_wp2
    go_loopw [13, 14] (fun lf ix wr => ∃ i : Nat, i ≤ m ∧ ix = .int .i64 i ∧ ∃ f : Nat, f ≤ N ∧ lf = .int .i64 ((N - f : Nat) : Int) ∧ Hid (f = offTo fs.length ns i) ∧ Hid (∃ ow av, RelM w0 wv wr go ga m i K fs ns ow av)) (fun _ ix _ => m - (intOf ix).toNat)
    case atStart => exact ⟨0, Nat.zero_le _, rfl, 0, Nat.zero_le _, rfl, rfl, ⟨ow0, av0, HM0.out⟩⟩
    case round =>
      obtain ⟨i, hi, rfl, f, hf, rfl, HF, HM⟩ := hrel
      by_cases hlt : (i : Int) < (m : Int)
      · have hlt' : i < m := by omega
        obtain ⟨ow, av, hRM⟩ := HM.out
        have OT : Hid (OwnTo K fs ns i ow) := hRM.own
        obtain ⟨p2, o2, rfl, hp2, C2⟩ := row_ints T2.out (by simpa using LN.out) (by omega)
        obtain ⟨hpo, hpa⟩ := HP2.out (by omega) p2 o2 rfl
        have k2 : wr.cell? ⟨p2, o2 + i, none⟩ = some (.int .i64 ((ns.map Int.ofNat).getD i 0)) := (World.cell?_of_block (hRM.other p2 hp2 hpo hpa)).trans (C2.out i hlt')
        rw [ofNat_getD] at k2
        have hb := Nat.le_trans (getD_le_sum ns i) hsum
        have ka := (hRM.arow.cell i).trans (hRM.alater i (Nat.le_refl _) hlt')
        have kaf := hRM.arow.frozen i
        have RM : Hid (RelM w0 wv wr go ga m i K fs ns ow av) := hRM
        clear hRM HM
        cases ha : accB fs.length ns i
        · have hacc : ((N - f : Nat) : Int) < (ns.getD i 0 : Int) := by
            unfold accB at ha
            rw [decide_eq_false_iff_not] at ha
            have h1 := HF.out
            have h2 := LF.out
            rw [h2] at ha h1
            omega
          have HA : Hid (accB fs.length ns i = false) := ha
          clear ha
          generalize ns.getD i 0 = n at k2 hb hacc
          go_wp2
          go_roundw
          case rel => exact ⟨i + 1, by omega, by go_num, f, hf, rfl, HF.out.trans (offTo_no HA.out).symm, ⟨ow, av, RM.out.no hlt' HA.out⟩⟩
          case measure => simp [intOf]; omega
        · have hacc : (ns.getD i 0 : Int) ≤ ((N - f : Nat) : Int) := by
            unfold accB at ha
            rw [decide_eq_true_iff] at ha
            have h1 := HF.out
            have h2 := LF.out
            rw [h2] at ha h1
            omega
          have HA : Hid (accB fs.length ns i = true) := ha
          have HY : Hid (∀ w2, OnlyAt go (wr.setCell ⟨ga, i, none⟩ (.bool true)) w2 → St go N w2 (fun z => if InR (posK K fs) f (ns.getD i 0) z then (i : Int) + 1 else ow.getD z 0) → ∃ ow av, RelM w0 wv w2 go ga m (i + 1) K fs ns ow av) := fun w2 k hs => by
            rw [← LF.out] at hs
            obtain ⟨ow2, h2⟩ := RM.out.yes hlt' HA.out HF.out rfl hgg h0o h0a k hs
            exact ⟨ow2, _, h2⟩
          have HF2 : Hid (f + ns.getD i 0 = offTo fs.length ns (i + 1)) := by
            show _ = _
            rw [offTo_yes HA.out, ← HF.out]
          have HST0 : Hid (St go N (wr.setCell ⟨ga, i, none⟩ (.bool true)) (ownAt (kjf K fs) (posK K fs) ow i f (ns.getD i 0) false 0)) :=
            ⟨ow, RM.out.orow.setOther (by exact hgg) _, by rw [RM.out.own.len, LF.out], fun q _ => (ownAt_start q).symm⟩
          have HK : Hid (∀ j, j < N → (wr.setCell ⟨ga, i, none⟩ (.bool true)).cell? ⟨gk, j, none⟩ = some (.bool (kjf K fs j))) := fun j hj => by
            rw [World.cell?_setCell_other _ _ _ _ (by intro e; injection e; omega), World.cell?_of_block (RM.out.other gk hgkl hgk1 hgk2)]
            exact HKR.out j hj
          clear ha HA
          generalize ns.getD i 0 = n at *
          obtain ⟨wa, ewa⟩ : ∃ wa, wa = wr.setCell ⟨ga, i, none⟩ (.bool true) := ⟨_, rfl⟩
          rw [← ewa] at HY HST0 HK
          have EWA : Hid (wa = wr.setCell ⟨ga, i, none⟩ (.bool true)) := ewa
          clear ewa
          go_wp2
          clear k2 ka kaf
          go_loopw [16, 17] (fun pk ps wi => ∃ p : Nat, p ≤ 2 ∧ ps = .int .i64 p ∧ ∃ q : Nat, q ≤ n ∧ pk = .int .i64 q ∧ Hid (p < 2 → q = picked fs.length (kjf K fs) (p == 1) f n 0) ∧ Hid (St go N wi (if p = 0 then ownAt (kjf K fs) (posK K fs) ow i f n false 0 else if p = 1 then ownAt (kjf K fs) (posK K fs) ow i f n true 0 else fun z => if InR (posK K fs) f n z then (i : Int) + 1 else ow.getD z 0)) ∧ Hid (OnlyAt go wa wi)) (fun _ ps _ => 2 - (intOf ps).toNat)
          case atStart => exact ⟨0, by omega, rfl, 0, Nat.zero_le _, rfl, (fun _ => by show 0 = picked _ _ false _ _ 0; rw [picked_zero]; show 0 = min n (0 - f); omega), (by rw [if_pos rfl, ← EWA.out]; exact HST0), (by rw [← EWA.out]; exact OnlyAt.refl _ _)⟩
          case round =>
            obtain ⟨p, hp, rfl, q, hq, rfl, HQ, HST, HOI⟩ := hrel
            have h3 : p = 0 ∨ p = 1 ∨ p = 2 := by omega
            rcases h3 with rfl | rfl | rfl
            · have HST1 : Hid (St go N wr (ownAt (kjf K fs) (posK K fs) ow i f n false 0)) := HST
              have HQ1 : Hid (0 < 2 → q = picked fs.length (kjf K fs) false f n 0) := HQ
              clear HST HQ
              have HST := HST1
              have HQ := HQ1
              clear HST1 HQ1
              go_wp2
              go_loopw [16, 18] (fun pk jx wi => ∃ j : Nat, j ≤ N ∧ jx = .int .i64 j ∧ ∃ q : Nat, q ≤ n ∧ pk = .int .i64 q ∧ Hid (q = picked fs.length (kjf K fs) false f n j) ∧ Hid (St go N wi (ownAt (kjf K fs) (posK K fs) ow i f n false j)) ∧ Hid (OnlyAt go wa wi)) (fun _ jx _ => N - (intOf jx).toNat)
              case atStart => exact ⟨0, Nat.zero_le _, rfl, q, hq, rfl, HQ.out (by omega), HST, HOI⟩
              case round =>
                clear HST HOI HQ
                obtain ⟨j, hj, rfl, q, hq, rfl, HQ, HST, HOI⟩ := hrel
                by_cases hjl : (j : Int) < (N : Int)
                · have hjl' : j < N := by omega
                  have hjf : Hid (j < fs.length) := by show _ < _; rw [LF.out]; exact hjl'
                  by_cases hqn : (q : Int) < (n : Int)
                  · obtain ⟨l, hrow, hll, hlq⟩ := HST.out
                    have ko := (hrow.cell j).trans (cells_at (by rw [hll]; exact hjl'))
                    have kf := hrow.frozen j
                    have kk := (HOI.out.cell (b := gk) (k := j) hgk1).trans (HK.out j hjl')
                    have EQ := hlq j hjl'
                    have HE : Hid (l.getD j 0 = ownAt (kjf K fs) (posK K fs) ow i f n false j j) := EQ
                    have HROW : Hid (HasRow wr go 3 (cells l)) := hrow
                    have HLL : Hid (l.length = N) := hll
                    have HLQ : Hid (∀ q, q < N → l.getD q 0 = ownAt (kjf K fs) (posK K fs) ow i f n false j q) := hlq
                    clear EQ hrow hll hlq
                    generalize hx : l.getD j 0 = x at ko HE
                    have HX : Hid (l.getD j 0 = x) := hx
                    clear hx
                    cases hkb : kjf K fs j
                    · rw [hkb] at kk
                      cases hx0 : (x == 0)
                      · have hout : ¬ InR (posK K fs) f n j := fun h => beq_eq_false_iff_ne.1 hx0 (by rw [HE.out, ownAt_self hkb]; exact (OT.out.free j hjf.out).2 (by rw [← HF.out]; exact h.1))
                        have hlow : posK K fs j < f := by
                          have h1 : ¬ f ≤ posK K fs j := fun h => beq_eq_false_iff_ne.1 hx0 (by rw [HE.out, ownAt_self hkb]; exact (OT.out.free j hjf.out).2 (by rw [← HF.out]; exact h))
                          omega
                        have HQ2 : Hid (q = picked fs.length (kjf K fs) false f n (j + 1)) := HQ.out.trans (picked_gone hkb hlow).symm
                        have HS2 : Hid (St go N wr (ownAt (kjf K fs) (posK K fs) ow i f n false (j + 1))) := HST.out.same (fun z _ => ownAt_skip (.inr hout) z)
                        clear hout hlow hkb
                        go_wp2
                        go_roundw
                        case rel => exact ⟨j + 1, by omega, by go_num, q, hq, rfl, HQ2, HS2, HOI⟩
                        case measure => simp [intOf]; omega
                      · have hfree : f ≤ posK K fs j := by
                          have h1 := eq_of_beq hx0
                          rw [HE.out, ownAt_self hkb] at h1
                          rw [HF.out]
                          exact (OT.out.free j hjf.out).1 h1
                        have htake := picked_take (N := fs.length) (n := n) hkb hfree (by rw [← HQ.out]; omega)
                        have hin : InR (posK K fs) f n j := ⟨hfree, htake.2⟩
                        have HQ2 : Hid (q + 1 = picked fs.length (kjf K fs) false f n (j + 1)) := by show _ = _; rw [htake.1, ← HQ.out]
                        have HS2 : Hid (St go N (wr.setCell ⟨go, j, none⟩ (.int .i64 ((i : Int) + 1))) (ownAt (kjf K fs) (posK K fs) ow i f n false (j + 1))) := st_take HROW.out HLL.out HLQ.out hjl' (fun z => ownAt_take hkb hin z)
                        have HO2 : Hid (OnlyAt go wa (wr.setCell ⟨go, j, none⟩ (.int .i64 ((i : Int) + 1)))) := HOI.out.set _ _
                        clear hfree htake hin hkb
                        go_wp2
                        go_roundw
                        case rel => exact ⟨j + 1, by omega, by go_num, q + 1, by omega, by go_num, HQ2, HS2, HO2⟩
                        case measure => simp [intOf]; omega
                    · rw [hkb] at kk
                      have hne : kjf K fs j ≠ false := by rw [hkb]; decide
                      have HQ2 : Hid (q = picked fs.length (kjf K fs) false f n (j + 1)) := HQ.out.trans (picked_other hne).symm
                      have HS2 : Hid (St go N wr (ownAt (kjf K fs) (posK K fs) ow i f n false (j + 1))) := HST.out.same (fun z _ => ownAt_skip (.inl hne) z)
                      clear hne hkb
                      cases hx0 : (x == 0)
                      · go_wp2
                        go_roundw
                        case rel => exact ⟨j + 1, by omega, by go_num, q, hq, rfl, HQ2, HS2, HOI⟩
                        case measure => simp [intOf]; omega
                      · go_wp2
                        go_roundw
                        case rel => exact ⟨j + 1, by omega, by go_num, q, hq, rfl, HQ2, HS2, HOI⟩
                        case measure => simp [intOf]; omega
                  · have eqn : q = n := by omega
                    have HQ2 : Hid (q = picked fs.length (kjf K fs) true f n 0) := HQ.out.trans (picked_next (Nat.le_of_lt hjf.out) (.inl (by rw [← HQ.out]; exact eqn)))
                    have HS2 : Hid (St go N wr (ownAt (kjf K fs) (posK K fs) ow i f n true 0)) := HST.out.same (fun z hz => ownAt_next (N := N) (fun y h1 h2 h3 => picked_full (by rw [← HQ.out]; exact eqn) h1 h3) z hz)
                    clear eqn
                    go_wp2
                    go_roundw
                    case rel => exact ⟨1, by omega, by go_num, q, hq, rfl, (fun _ => HQ2.out), HS2, HOI⟩
                    case measure => simp [intOf]
                · obtain rfl : j = N := by omega
                  have HQ2 : Hid (q = picked fs.length (kjf K fs) true f n 0) := HQ.out.trans (picked_next (by rw [LF.out]; exact Nat.le_refl _) (.inr ⟨LF.out.symm, by rw [← HQ.out]; exact hq⟩))
                  have HS2 : Hid (St go j wr (ownAt (kjf K fs) (posK K fs) ow i f n true 0)) := HST.out.same (fun z hz => ownAt_next (N := j) (fun y h1 h2 h3 => by omega) z hz)
                  go_wp2
                  go_roundw
                  case rel => exact ⟨1, by omega, by go_num, q, hq, rfl, (fun _ => HQ2.out), HS2, HOI⟩
                  case measure => simp [intOf]
            · have HST1 : Hid (St go N wr (ownAt (kjf K fs) (posK K fs) ow i f n true 0)) := HST
              have HQ1 : Hid (1 < 2 → q = picked fs.length (kjf K fs) true f n 0) := HQ
              clear HST HQ
              have HST := HST1
              have HQ := HQ1
              clear HST1 HQ1
              go_wp2
              go_loopw [16, 18] (fun pk jx wi => ∃ j : Nat, j ≤ N ∧ jx = .int .i64 j ∧ ∃ q : Nat, q ≤ n ∧ pk = .int .i64 q ∧ Hid (q = picked fs.length (kjf K fs) true f n j) ∧ Hid (St go N wi (ownAt (kjf K fs) (posK K fs) ow i f n true j)) ∧ Hid (OnlyAt go wa wi)) (fun _ jx _ => N - (intOf jx).toNat)
              case atStart => exact ⟨0, Nat.zero_le _, rfl, q, hq, rfl, HQ.out (by omega), HST, HOI⟩
              case round =>
                clear HST HOI HQ
                obtain ⟨j, hj, rfl, q, hq, rfl, HQ, HST, HOI⟩ := hrel
                by_cases hjl : (j : Int) < (N : Int)
                · have hjl' : j < N := by omega
                  have hjf : Hid (j < fs.length) := by show _ < _; rw [LF.out]; exact hjl'
                  by_cases hqn : (q : Int) < (n : Int)
                  · obtain ⟨l, hrow, hll, hlq⟩ := HST.out
                    have ko := (hrow.cell j).trans (cells_at (by rw [hll]; exact hjl'))
                    have kf := hrow.frozen j
                    have kk := (HOI.out.cell (b := gk) (k := j) hgk1).trans (HK.out j hjl')
                    have EQ := hlq j hjl'
                    have HE : Hid (l.getD j 0 = ownAt (kjf K fs) (posK K fs) ow i f n true j j) := EQ
                    have HROW : Hid (HasRow wr go 3 (cells l)) := hrow
                    have HLL : Hid (l.length = N) := hll
                    have HLQ : Hid (∀ q, q < N → l.getD q 0 = ownAt (kjf K fs) (posK K fs) ow i f n true j q) := hlq
                    clear EQ hrow hll hlq
                    generalize hx : l.getD j 0 = x at ko HE
                    have HX : Hid (l.getD j 0 = x) := hx
                    clear hx
                    cases hkb : kjf K fs j
                    · rw [hkb] at kk
                      have hne : kjf K fs j ≠ true := by rw [hkb]; decide
                      have HQ2 : Hid (q = picked fs.length (kjf K fs) true f n (j + 1)) := HQ.out.trans (picked_other hne).symm
                      have HS2 : Hid (St go N wr (ownAt (kjf K fs) (posK K fs) ow i f n true (j + 1))) := HST.out.same (fun z _ => ownAt_skip (.inl hne) z)
                      clear hne hkb
                      cases hx0 : (x == 0)
                      · go_wp2
                        go_roundw
                        case rel => exact ⟨j + 1, by omega, by go_num, q, hq, rfl, HQ2, HS2, HOI⟩
                        case measure => simp [intOf]; omega
                      · go_wp2
                        go_roundw
                        case rel => exact ⟨j + 1, by omega, by go_num, q, hq, rfl, HQ2, HS2, HOI⟩
                        case measure => simp [intOf]; omega
                    · rw [hkb] at kk
                      cases hx0 : (x == 0)
                      · have hout : ¬ InR (posK K fs) f n j := fun h => beq_eq_false_iff_ne.1 hx0 (by rw [HE.out, ownAt_self hkb]; exact (OT.out.free j hjf.out).2 (by rw [← HF.out]; exact h.1))
                        have hlow : posK K fs j < f := by
                          have h1 : ¬ f ≤ posK K fs j := fun h => beq_eq_false_iff_ne.1 hx0 (by rw [HE.out, ownAt_self hkb]; exact (OT.out.free j hjf.out).2 (by rw [← HF.out]; exact h))
                          omega
                        have HQ2 : Hid (q = picked fs.length (kjf K fs) true f n (j + 1)) := HQ.out.trans (picked_gone hkb hlow).symm
                        have HS2 : Hid (St go N wr (ownAt (kjf K fs) (posK K fs) ow i f n true (j + 1))) := HST.out.same (fun z _ => ownAt_skip (.inr hout) z)
                        clear hout hlow hkb
                        go_wp2
                        go_roundw
                        case rel => exact ⟨j + 1, by omega, by go_num, q, hq, rfl, HQ2, HS2, HOI⟩
                        case measure => simp [intOf]; omega
                      · have hfree : f ≤ posK K fs j := by
                          have h1 := eq_of_beq hx0
                          rw [HE.out, ownAt_self hkb] at h1
                          rw [HF.out]
                          exact (OT.out.free j hjf.out).1 h1
                        have htake := picked_take (N := fs.length) (n := n) hkb hfree (by rw [← HQ.out]; omega)
                        have hin : InR (posK K fs) f n j := ⟨hfree, htake.2⟩
                        have HQ2 : Hid (q + 1 = picked fs.length (kjf K fs) true f n (j + 1)) := by show _ = _; rw [htake.1, ← HQ.out]
                        have HS2 : Hid (St go N (wr.setCell ⟨go, j, none⟩ (.int .i64 ((i : Int) + 1))) (ownAt (kjf K fs) (posK K fs) ow i f n true (j + 1))) := st_take HROW.out HLL.out HLQ.out hjl' (fun z => ownAt_take hkb hin z)
                        have HO2 : Hid (OnlyAt go wa (wr.setCell ⟨go, j, none⟩ (.int .i64 ((i : Int) + 1)))) := HOI.out.set _ _
                        clear hfree htake hin hkb
                        go_wp2
                        go_roundw
                        case rel => exact ⟨j + 1, by omega, by go_num, q + 1, by omega, by go_num, HQ2, HS2, HO2⟩
                        case measure => simp [intOf]; omega
                  · have eqn : q = n := by omega
                    have HS2 : Hid (St go N wr (fun z => if InR (posK K fs) f n z then (i : Int) + 1 else ow.getD z 0)) := HST.out.same (fun z hz => (ownAt_done (kj := kjf K fs) (f := posK K fs) (off := f) (n := n) (N := N) (j := j) (fun y h1 h2 h3 => picked_full (by show picked fs.length (kjf K fs) true f n j = n; rw [← HQ.out]; exact eqn) h1 h3) z hz).symm)
                    clear eqn
                    go_wp2
                    go_roundw
                    case rel => exact ⟨2, by omega, by go_num, q, hq, rfl, (fun h => by omega), HS2, HOI⟩
                    case measure => simp [intOf]
                · obtain rfl : j = N := by omega
                  have HS2 : Hid (St go j wr (fun z => if InR (posK K fs) f n z then (i : Int) + 1 else ow.getD z 0)) := HST.out.same (fun z hz => (ownAt_done (kj := kjf K fs) (f := posK K fs) (off := f) (n := n) (N := j) (j := j) (fun y h1 h2 h3 => by omega) z hz).symm)
                  go_wp2
                  go_roundw
                  case rel => exact ⟨2, by omega, by go_num, q, hq, rfl, (fun h => by omega), HS2, HOI⟩
                  case measure => simp [intOf]
            · have HST1 : Hid (St go N wr (fun z => if InR (posK K fs) f n z then (i : Int) + 1 else ow.getD z 0)) := HST
              clear HST
              go_wp2
              go_roundw
              case rel => exact ⟨i + 1, by omega, by go_num, f + n, by omega, by go_num, HF2, HY.out wr HOI.out HST1.out⟩
              case measure => simp [intOf]; omega
      · obtain rfl : i = m := by omega
        go_wp2
        go_meet
        case rel => exact HM
  case rest =>
    obtain ⟨ow, av, hRM⟩ := hcut.out
    obtain ⟨KB2, T02, T22⟩ := HNEXT.out _ ⟨ow, av, hRM⟩
    have eav : av = accs N ns := by
      apply List.ext_getElem?
      intro j
      by_cases hj : j < m
      · rw [hRM.adone j hj, accs_at (by rw [LN.out]; exact hj), LF.out]
      · rw [List.getElem?_eq_none (by rw [hRM.alen]; omega), List.getElem?_eq_none (by simp [accs, LN.out]; omega)]
    have HO2 := hRM.orow
    have HA2 := hRM.arow
    rw [eav] at HA2
    have OW2 : Owned (hasB ks) fs ns ow := by
      have h1 := hRM.own
      rw [← LN.out, EK.out] at h1
      exact h1.owned
    have HB2 := hRM.bel
    go_step
    exact match_call a1 b0 b2 n1 c1 bx N m d0 d2 go ga ks fs ow ns w0 _ _ _ _ _ _ _ _ _ _ _ _ _ _ _ _ _ _ _ _ _ _ _ _ _ _ _ _ _ _ _ _ _ _ _ _ _ _ _ _ _ _ _ _ _ _ _ _ _ _ _ _ _ _ _ _ _ _ _ _ _ _ _ _ _ _ _ _ _ _ _ _ _ _ _ _ _ _ _ _ _ _ _ _ _ _ _ _ _ _ _ _ _ _ _ _ _ _ _ _ _ _ _ _ _ _ _ _ _ _ _ _ _ _ _ _ _ _ _ _ _ _ _ _ _ _ _ _ _ _ _ _ _ _ _ _ _ _ _ _ _ _ _ _ _ _ _ _ _ _ _ _ _ _ _ _ _ _ _ _ _ _ _ _ _ _ _ _ _ _ _ _ _ _ _ _ _ _ _ _ _ _ _ _ _ _ _ _ _ _ _ _ _ _ _ _ _ _ _ _ _ _ _ _ _ _ _ _ _ _ _ _ _ _ _ _ _ _ _ _ _ _ _ hN hm LF LN HR hsum KB2 T02 T22 HO2 OW2 HA2 HB2

end Go.Proofs.Qxb6613726a
