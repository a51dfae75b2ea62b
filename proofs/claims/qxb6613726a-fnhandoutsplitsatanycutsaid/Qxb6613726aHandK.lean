/- HandOut's middle part: the units are gathered, those that are not kept first. -/
import Derived.Test.Qxb6613726aHandL
namespace Go.Proofs.Qxb6613726a
open Go Go.RowKit Go.Sort Plain
set_option linter.unusedVariables false

/-- The row of the order: its first cells hold what was gathered. -/
def Rel2 (w : World) (g C : Nat) (A : List Int) : Prop := ∃ xs, HasRow w g 3 xs ∧ xs.length = C ∧ ∀ j, j < A.length → xs[j]? = some (.int .i64 (A.getD j 0))

theorem rel2_add {w : World} {g C n : Nat} {A : List Int} {u : Int} {xs : List Value} (hn : n = A.length) (hl : xs.length = C) (hx : ∀ j, j < A.length → xs[j]? = some (.int .i64 (A.getD j 0))) (hr : n < C) (h : HasRow w g 3 (xs.set n (.int .i64 u))) : Rel2 w g C (A ++ [u]) := by
  subst hn
  refine ⟨_, h, by simpa using hl, fun j hj => ?_⟩
  by_cases e : A.length = j
  · subst e
    rw [List.getElem?_set_self (by omega)]
    simp
  · have hj' : j < A.length := by simp at hj; omega
    rw [List.getElem?_set_ne e, hx j hj', List.getD_eq_getElem?_getD, List.getD_eq_getElem?_getD, List.getElem?_append_left hj']

theorem rel2_full {w : World} {g C : Nat} {A : List Int} (h : Rel2 w g C A) (hl : A.length = C) : HasRow w g 3 (cells A) := by
  obtain ⟨xs, hr, hx, hc⟩ := h
  have e : xs = cells A := by
    apply List.ext_getElem?
    intro j
    by_cases hj : j < A.length
    · rw [hc j hj, cells_at hj]
    · rw [List.getElem?_eq_none (by omega), List.getElem?_eq_none (by rw [cells_length]; omega)]
  rw [← e]
  exact hr

/-- The test 'is it kept?', as HandOut is handed it: none, or a closure that answers K. -/
def KeptFn (w0 : World) (fv : Value) (K : Int → Bool) : Prop :=
  (fv = .nilFunc ∧ K = fun _ => false) ∨ ∃ gf bx, fv = .func (.func gf) #[] #[.pointer (some ⟨bx, 0, none⟩)] ∧ (∀ args w, (callFunc gf args).run Try.prog w = .ok (.enter gf args) w) ∧
    ∀ u W, Below w0.heap.size w0 W → Calls Try.prog gf #[.int .i64 u, .pointer (some ⟨bx, 0, none⟩)] W fun e w' => e = .returned (.bool (K u)) ∧ W = w'

theorem fin3 {w : World} {g C s N k n : Nat} {K : Int → Bool} {fs : List Int} (lf : fs.length = N) (eC : C = min s N) (ea : passB K fs s fs.length = passB K fs s k) (en : n = (passB K fs s k).length) (h : Rel2 w g C (passB K fs s k)) :
    n = C ∧ HasRow w g 3 (cells ((order K fs).take s)) := by
  rw [← ea, passB_all] at en h
  have hl : ((order K fs).take s).length = C := by rw [List.length_take, order_length, lf, eC]
  exact ⟨en.trans hl, rel2_full h hl⟩

theorem take_len {K : Int → Bool} {fs : List Int} {s N C : Nat} (lf : fs.length = N) (eC : C = min s N) : ((order K fs).take s).length = C := by rw [List.length_take, order_length, lf, eC]
theorem getD_le_sum (ns : List Nat) (i : Nat) : ns.getD i 0 ≤ ns.sum := by
  by_cases h : i < ns.length
  · have h1 := sum_take_le ns (i + 1)
    rw [sum_take_succ h] at h1
    omega
  · rw [List.getD_eq_getElem?_getD, List.getElem?_eq_none (by omega)]
    exact Nat.zero_le _
theorem apart_of {w : World} {a : Option Addr} {ns : List Nat} {m g : Nat} (h : RowAt w a (cells (ns.map Int.ofNat))) (hl : ns.length = m) (hg : w.heap.size ≤ g) : 0 < m → ∀ p o, a = some ⟨p, o, none⟩ → p ≠ g := by
  intro hm p o ha
  obtain ⟨b, off, e, hb, _⟩ := row_ints h (by simpa using hl) hm
  rw [ha] at e
  injection e with e
  injection e with e
  omega
theorem handPost_take (O : List Int) (ns : List Nat) (w0 : World) : (fun e w' => HandPost (O.take ns.sum) ns ns.length w0 e w') = fun e w' => HandPost O ns ns.length w0 e w' := by
  funext e w'
  apply propext
  have key : ∀ s, SetsAt w' s ns.length (setAt (O.take ns.sum) ns) ↔ SetsAt w' s ns.length (setAt O ns) := fun s => by
    constructor
    · rintro ⟨vs, h1, h2, h3⟩
      exact ⟨vs, h1, h2, fun i hi => by rw [← setAt_take O ns i hi]; exact h3 i hi⟩
    · rintro ⟨vs, h1, h2, h3⟩
      exact ⟨vs, h1, h2, fun i hi => by rw [setAt_take O ns i hi]; exact h3 i hi⟩
  constructor
  · rintro ⟨s, h1, h2, h3⟩
    exact ⟨s, h1, (key s).1 h2, h3⟩
  · rintro ⟨s, h1, h2, h3⟩
    exact ⟨s, h1, (key s).2 h2, h3⟩

theorem hand_last2 (a2 : Option Addr) (m c2 g C : Nat) (ns : List Nat) (L O : List Int) (w0 wv : World) (u0 u1 u3 u4 u5 u6 u7 u8 u9 u11 u12 u13 u14 u15 u16 u17 u18 u19 u20 u21 u22 u23 u24 u25 u26 u27 u28 u29 u30 u31 u32 u33 u34 u35 u36 u37 u38 u39 u40 u41 u42 u43 u44 u45 u46 u47 u48 u49 u50 u51 u52 u53 u54 u55 u56 u57 u58 u59 u60 u61 u62 u63 u64 u65 u66 u67 u68 u69 u70 u71 u72 u73 u74 u75 u76 u77 u78 u79 u80 u81 u82 u83 u84 u85 u86 u87 u88 u89 u90 u91 u92 u93 u94 u95 u96 u97 u98 u99 u100 u101 u102 u103 u104 u105 u106 u107 u108 : Value)
    (hm : m ≤ 4096) (hC : C ≤ 4096) (LN : Hid (ns.length = m)) (LL : Hid (L.length = C)) (hbig : ∀ i, ns.getD i 0 ≤ 9223372036854775807)
    (T2 : Hid (RowAt wv a2 (cells (ns.map Int.ofNat)))) (HL : Hid (HasRow wv g 3 (cells L))) (HB : Hid (Below w0.heap.size w0 wv)) (hg0 : w0.heap.size ≤ g)
    (HP : Hid (0 < m → ∀ p o, a2 = some ⟨p, o, none⟩ → p ≠ g)) (hO : L = O.take ns.sum) :
    Code.wp Try.prog ((Try.f10.body.map (seqTail 6)).getD .skip) (bodyPost Try.prog Try.f10 fun e w' => HandPost O ns m w0 e w')
      { tmps := #[u0, u1, .slice a2 m c2, u3, u4, u5, u6, u7, u8, u9, .slice (some ⟨g, 0, none⟩) C C, u11, u12, u13, u14, u15, u16, u17, u18, u19, u20, u21, u22, u23, u24, u25, u26, u27, u28, u29, u30, u31, u32, u33, u34, u35, u36, u37, u38, u39, u40, u41, u42, u43, u44, u45, u46, u47, u48, u49, u50, u51, u52, u53, u54, u55, u56, u57, u58, u59, u60, u61, u62, u63, u64, u65, u66, u67, u68, u69, u70, u71, u72, u73, u74, u75, u76, u77, u78, u79, u80, u81, u82, u83, u84, u85, u86, u87, u88, u89, u90, u91, u92, u93, u94, u95, u96, u97, u98, u99, u100, u101, u102, u103, u104, u105, u106, u107, u108], defers := [] } wv := by
  have h := hand_last a2 m c2 g C ns L w0 wv u0 u1 u3 u4 u5 u6 u7 u8 u9 u11 u12 u13 u14 u15 u16 u17 u18 u19 u20 u21 u22 u23 u24 u25 u26 u27 u28 u29 u30 u31 u32 u33 u34 u35 u36 u37 u38 u39 u40 u41 u42 u43 u44 u45 u46 u47 u48 u49 u50 u51 u52 u53 u54 u55 u56 u57 u58 u59 u60 u61 u62 u63 u64 u65 u66 u67 u68 u69 u70 u71 u72 u73 u74 u75 u76 u77 u78 u79 u80 u81 u82 u83 u84 u85 u86 u87 u88 u89 u90 u91 u92 u93 u94 u95 u96 u97 u98 u99 u100 u101 u102 u103 u104 u105 u106 u107 u108 hm hC LN LL hbig T2 HL HB hg0 HP
  have hpost : (fun e w' => HandPost L ns m w0 e w') = fun e w' => HandPost O ns m w0 e w' := by
    rw [hO, ← LN.out]
    exact handPost_take _ _ _
  rw [hpost] at h
  exact h

theorem nil_nil (w : World) : (binOp .eql 29 .nilFunc .nilFunc).run Try.prog w = .ok (.bool true) w := by kernel_rfl
theorem func_nil (f : Fn) (a b : Array Value) (w : World) : (binOp .eql 29 (.func f a b) .nilFunc).run Try.prog w = .ok (.bool false) w := by kernel_rfl

set_option maxHeartbeats 4000000 in
set_option maxRecDepth 100000 in
theorem hand_mid (a0 a2 : Option Addr) (N m c0 c2 g : Nat) (fv : Value) (K : Int → Bool) (fs : List Int) (ns : List Nat) (w0 wv : World) (u3 u4 u5 u6 u8 u9 u11 u12 u13 u14 u15 u16 u17 u18 u19 u20 u21 u22 u23 u24 u25 u26 u27 u28 u29 u30 u31 u32 u33 u34 u35 u36 u37 u38 u39 u40 u41 u42 u43 u44 u45 u46 u47 u48 u49 u50 u51 u52 u53 u54 u55 u56 u57 u58 u59 u60 u61 u62 u63 u64 u65 u66 u67 u68 u69 u70 u71 u72 u73 u74 u75 u76 u77 u78 u79 u80 u81 u82 u83 u84 u85 u86 u87 u88 u89 u90 u91 u92 u93 u94 u95 u96 u97 u98 u99 u100 u101 u102 u103 u104 u105 u106 u107 u108 : Value)
    (hN : N ≤ 4096) (hm : m ≤ 4096) (LF : Hid (fs.length = N)) (LN : Hid (ns.length = m)) (hsum : ns.sum ≤ 9223372036854775807)
    (R0 : Hid (RowAt w0 a0 (cells fs))) (R2 : Hid (RowAt w0 a2 (cells (ns.map Int.ofNat)))) (HL : Hid (Rel2 wv g (min ns.sum N) [])) (HB : Hid (Below w0.heap.size w0 wv)) (hg0 : w0.heap.size ≤ g)
    (FV : Hid (KeptFn w0 fv K)) :
    Code.wp Try.prog ((Try.f10.body.map (seqTail 4)).getD .skip) (bodyPost Try.prog Try.f10 fun e w' => HandPost (order K fs) ns m w0 e w')
      { tmps := #[.slice a0 N c0, fv, .slice a2 m c2, u3, u4, u5, u6, .int .i64 ((ns.sum : Nat) : Int), u8, u9, .slice (some ⟨g, 0, none⟩) 0 (min ns.sum N), u11, u12, u13, u14, u15, u16, u17, u18, u19, u20, u21, u22, u23, u24, u25, u26, u27, u28, u29, u30, u31, u32, u33, u34, u35, u36, u37, u38, u39, u40, u41, u42, u43, u44, u45, u46, u47, u48, u49, u50, u51, u52, u53, u54, u55, u56, u57, u58, u59, u60, u61, u62, u63, u64, u65, u66, u67, u68, u69, u70, u71, u72, u73, u74, u75, u76, u77, u78, u79, u80, u81, u82, u83, u84, u85, u86, u87, u88, u89, u90, u91, u92, u93, u94, u95, u96, u97, u98, u99, u100, u101, u102, u103, u104, u105, u106, u107, u108], defers := [] } wv := by
  have qn := nil_nil
  have qf := func_nil
  obtain ⟨s, es⟩ : ∃ s, s = ns.sum := ⟨_, rfl⟩
  have ES : Hid (s = ns.sum) := es
  rw [← es] at hsum HL ⊢
  clear es
  obtain ⟨C, eC⟩ : ∃ C, C = min s N := ⟨_, rfl⟩
  have EC : Hid (C = min s N) := eC
  rw [← eC] at HL ⊢
  have hCs : C ≤ s := by omega
  have hCN : C ≤ N := by omega
  clear eC
  conv => arg 2; whnf
  go_upto_block 2 with fail
  go_cut [10] (fun od wc => od = .slice (some ⟨g, 0, none⟩) (passB K fs s 0).length C ∧ Hid (Rel2 wc g C (passB K fs s 0)) ∧ Hid (Below w0.heap.size w0 wc))
  case first =>
    go_wp2
    go_loopw [10, 35] (fun od ix wr => ∃ k : Nat, k ≤ N ∧ ix = .int .i64 k ∧ ∃ n : Nat, n ≤ s ∧ od = .slice (some ⟨g, 0, none⟩) n C ∧ Hid (n = (passA K fs s k).length) ∧ Hid (Rel2 wr g C (passA K fs s k)) ∧ Hid (Below w0.heap.size w0 wr)) (fun _ ix _ => N - (intOf ix).toNat)
    case atStart => exact ⟨0, Nat.zero_le _, rfl, 0, Nat.zero_le _, rfl, by rw [passA_zero]; rfl, by rw [passA_zero]; exact HL, HB⟩
    case round =>
      obtain ⟨k, hk, rfl, n, hns, rfl, EN, HR, HBR⟩ := hrel
      by_cases hlt : (k : Int) < (N : Int)
      · have hlt' : k < N := by omega
        have hltf : Hid (k < fs.length) := by show _ < _; rw [LF.out]; exact hlt'
        obtain ⟨p0, o0, rfl, hp0, C0⟩ := row_ints R0.out LF.out (by omega)
        have k0 := (HBR.out.cell (p := ⟨p0, o0 + k, none⟩) hp0).trans (C0.out k hlt')
        by_cases hful : n = s
        · have hfb : ((n : Int) == (s : Int)) = true := beq_iff_eq.2 (by omega)
          have EA : Hid (passB K fs s 0 = passA K fs s k) := by
            show _ = _
            rw [← passA_all]
            exact passA_full (Nat.le_of_lt hltf.out) (by rw [← EN.out]; exact hful)
          clear hful
          generalize fs.getD k 0 = u at k0
          go_wp2
          go_meet
          case rel => exact ⟨by rw [EA.out, ← EN.out], by rw [EA.out]; exact HR, HBR⟩
        · have hfb : ((n : Int) == (s : Int)) = false := beq_eq_false_iff_ne.2 (by omega)
          have hroom : n < C := by
            have := passA_room (K := K) (fs := fs) (s := s) (k := k) hltf.out (by rw [← EN.out]; exact hful)
            rw [← EN.out, LF.out, ← EC.out] at this
            exact this
          have HA : Hid (K (fs.getD k 0) = false → passA K fs s (k + 1) = passA K fs s k ++ [fs.getD k 0]) := fun h => passA_add hltf.out (by rw [← EN.out]; exact hful) h
          have HS : Hid (K (fs.getD k 0) = true → passA K fs s (k + 1) = passA K fs s k) := fun h => passA_skip hltf.out h
          obtain ⟨xs, hrow, hxl, hxs⟩ := HR.out
          have HX : Hid (∀ j, j < (passA K fs s k).length → xs[j]? = some (.int .i64 ((passA K fs s k).getD j 0))) := hxs
          have HXL : Hid (xs.length = C) := hxl
          have HROW : Hid (HasRow wr g 3 xs) := hrow
          have hgl := hrow.lt
          clear hxs hful hxl hrow
          generalize fs.getD k 0 = u at k0 HA HS
          rcases FV.out with ⟨rfl, rfl⟩ | ⟨gf, bx, rfl, eg, hcall⟩
          · have hK : (fun _ : Int => false) u = false := rfl
            have HP1 : Hid (passA (fun _ => false) fs s (k + 1) = passA (fun _ => false) fs s k ++ [u]) := HA.out hK
            go_wp2_with (first | (at_builtin; refine wpList_append_room1 rfl (.tmp 51) (.tmp 53) 32 3 rfl Try.underlying32 size3 _ g n C wr.heap.size xs (.int .i64 u) rfl rfl (by simp) (HROW.out.alloc _) HXL.out hroom rfl ?_; intro HG2))
            have HR2 : Hid (Rel2 ((wr.setCell ⟨g, n, none⟩ (.int .i64 u)).alloc (.cells #[.int .i64 u] 3)) g C (passA (fun _ => false) fs s (k + 1))) := by
              show Rel2 _ _ _ _
              rw [HP1.out]
              exact rel2_add EN.out HXL.out HX.out hroom ((HROW.out.set n _).alloc _)
            have HB2 : Hid (Below w0.heap.size w0 ((wr.setCell ⟨g, n, none⟩ (.int .i64 u)).alloc (.cells #[.int .i64 u] 3))) := (HBR.out.setCell hg0 _).alloc (by have := HBR.out.size; simpa [World.setCell] using this) _
            clear HG2
            go_wp2
            go_roundw
            case rel => exact ⟨k + 1, by omega, by go_num, n + 1, by omega, rfl, (show _ = _ by rw [HP1.out, List.length_append, ← EN.out]; rfl), HR2, HB2⟩
            case measure => simp [intOf]; omega
          · have HC : Hid (∀ u W, Below w0.heap.size w0 W → Calls Try.prog gf #[.int .i64 u, .pointer (some ⟨bx, 0, none⟩)] W fun e w' => e = .returned (.bool (K u)) ∧ W = w') := hcall
            clear hcall
            cases hK : K u
            · have HP1 : Hid (passA K fs s (k + 1) = passA K fs s k ++ [u]) := HA.out hK
              go_wp2_with (first | (at_builtin; refine wpList_append_room1 rfl (.tmp 51) (.tmp 53) 32 3 rfl Try.underlying32 size3 _ g n C wr.heap.size xs (.int .i64 u) rfl rfl (by simp) (HROW.out.alloc _) HXL.out hroom rfl ?_; intro HG2) | (go_at_fn gf; refine (HC.out u _ HBR.out).mono ?_; rintro e w1 ⟨rfl, rfl⟩; rw [hK]))
              have HR2 : Hid (Rel2 ((wr.setCell ⟨g, n, none⟩ (.int .i64 u)).alloc (.cells #[.int .i64 u] 3)) g C (passA K fs s (k + 1))) := by
                show Rel2 _ _ _ _
                rw [HP1.out]
                exact rel2_add EN.out HXL.out HX.out hroom ((HROW.out.set n _).alloc _)
              have HB2 : Hid (Below w0.heap.size w0 ((wr.setCell ⟨g, n, none⟩ (.int .i64 u)).alloc (.cells #[.int .i64 u] 3))) := (HBR.out.setCell hg0 _).alloc (by have := HBR.out.size; simpa [World.setCell] using this) _
              clear HG2
              go_wp2
              go_roundw
              case rel => exact ⟨k + 1, by omega, by go_num, n + 1, by omega, rfl, (show _ = _ by rw [HP1.out, List.length_append, ← EN.out]; rfl), HR2, HB2⟩
              case measure => simp [intOf]; omega
            · have HP1 : Hid (passA K fs s (k + 1) = passA K fs s k) := HS.out hK
              go_wp2_with (go_at_fn gf; refine (HC.out u _ HBR.out).mono ?_; rintro e w1 ⟨rfl, rfl⟩; rw [hK])
              go_roundw
              case rel => exact ⟨k + 1, by omega, by go_num, n, by omega, rfl, (show _ = _ by rw [HP1.out]; exact EN.out), by rw [HP1.out]; exact HR, HBR⟩
              case measure => simp [intOf]; omega
      · obtain rfl : k = N := by omega
        have EA : Hid (passB K fs s 0 = passA K fs s k) := by
          show _ = _
          rw [← passA_all, LF.out]
        go_wp2
        go_meet
        case rel => exact ⟨by rw [EA.out, ← EN.out], by rw [EA.out]; exact HR, HBR⟩
  case rest =>
    obtain ⟨rfl, HR0, HB0⟩ := hcut
    obtain ⟨wx, rfl⟩ : ∃ wx : World, wx = wc := ⟨_, rfl⟩
    have hle0 : (passB K fs s 0).length ≤ s := passB_le _ _ _ _
    obtain ⟨n0, en0⟩ : ∃ n0, n0 = (passB K fs s 0).length := ⟨_, rfl⟩
    have EN0 : Hid (n0 = (passB K fs s 0).length) := en0
    rw [← en0] at hle0 ⊢
    clear en0
    go_upto_block 4 with fail
    go_cut [10] (fun od wc => od = .slice (some ⟨g, 0, none⟩) C C ∧ Hid (HasRow wc g 3 (cells ((order K fs).take s))) ∧ Hid (Below w0.heap.size w0 wc))
    case first =>
      go_wp2
      go_loopw [10, 58] (fun od ix wr => ∃ k : Nat, k ≤ N ∧ ix = .int .i64 k ∧ ∃ n : Nat, n ≤ s ∧ od = .slice (some ⟨g, 0, none⟩) n C ∧ Hid (n = (passB K fs s k).length) ∧ Hid (Rel2 wr g C (passB K fs s k)) ∧ Hid (Below w0.heap.size w0 wr)) (fun _ ix _ => N - (intOf ix).toNat)
      case atStart => exact ⟨0, Nat.zero_le _, rfl, n0, hle0, rfl, EN0, HR0, HB0⟩
      case round =>
        clear HR0 HB0
        obtain ⟨k, hk, rfl, n, hns, rfl, EN, HR, HBR⟩ := hrel
        by_cases hlt : (k : Int) < (N : Int)
        · have hlt' : k < N := by omega
          have hltf : Hid (k < fs.length) := by show _ < _; rw [LF.out]; exact hlt'
          obtain ⟨p0, o0, rfl, hp0, C0⟩ := row_ints R0.out LF.out (by omega)
          have k0 := (HBR.out.cell (p := ⟨p0, o0 + k, none⟩) hp0).trans (C0.out k hlt')
          by_cases hful : n = s
          · have hfb : ((n : Int) == (s : Int)) = true := beq_iff_eq.2 (by omega)
            have EA : Hid (n = C ∧ HasRow wr g 3 (cells ((order K fs).take s))) := fin3 LF.out EC.out (passB_full (Nat.le_of_lt hltf.out) (by rw [← EN.out]; exact hful)) EN.out HR.out
            clear hful
            generalize fs.getD k 0 = u at k0
            go_wp2
            go_meet
            case rel => exact ⟨by rw [EA.out.1], EA.out.2, HBR⟩
          · have hfb : ((n : Int) == (s : Int)) = false := beq_eq_false_iff_ne.2 (by omega)
            rcases FV.out with ⟨rfl, rfl⟩ | ⟨gf, bx, rfl, eg, hcall⟩
            · have EA : Hid (n = C ∧ HasRow wr g 3 (cells ((order (fun _ => false) fs).take s))) := fin3 LF.out EC.out (passB_none.trans passB_none.symm) EN.out HR.out
              clear hful
              generalize fs.getD k 0 = u at k0
              go_wp2
              go_meet
              case rel => exact ⟨by rw [EA.out.1], EA.out.2, HBR⟩
            · have HC : Hid (∀ u W, Below w0.heap.size w0 W → Calls Try.prog gf #[.int .i64 u, .pointer (some ⟨bx, 0, none⟩)] W fun e w' => e = .returned (.bool (K u)) ∧ W = w') := hcall
              clear hcall
              have HROOM : Hid (K (fs.getD k 0) = true → n < C) := fun h => by
                have := passB_room (K := K) (fs := fs) (s := s) (k := k) hltf.out (by rw [← EN.out]; exact hful) h
                rw [← EN.out, LF.out, ← EC.out] at this
                exact this
              have HA : Hid (K (fs.getD k 0) = true → passB K fs s (k + 1) = passB K fs s k ++ [fs.getD k 0]) := fun h => passB_add hltf.out (by rw [← EN.out]; exact hful) h
              have HS : Hid (K (fs.getD k 0) = false → passB K fs s (k + 1) = passB K fs s k) := fun h => passB_skip hltf.out h
              obtain ⟨xs, hrow, hxl, hxs⟩ := HR.out
              have HX : Hid (∀ j, j < (passB K fs s k).length → xs[j]? = some (.int .i64 ((passB K fs s k).getD j 0))) := hxs
              have HXL : Hid (xs.length = C) := hxl
              have HROW : Hid (HasRow wr g 3 xs) := hrow
              have hgl := hrow.lt
              clear hxs hful hxl hrow
              generalize fs.getD k 0 = u at k0 HA HS HROOM
              cases hK : K u
              · have HP1 : Hid (passB K fs s (k + 1) = passB K fs s k) := HS.out hK
                go_wp2_with (go_at_fn gf; refine (HC.out u _ HBR.out).mono ?_; rintro e w1 ⟨rfl, rfl⟩; rw [hK])
                go_roundw
                case rel => exact ⟨k + 1, by omega, by go_num, n, by omega, rfl, (show _ = _ by rw [HP1.out]; exact EN.out), by rw [HP1.out]; exact HR, HBR⟩
                case measure => simp [intOf]; omega
              · have hroom := HROOM.out hK
                have HP1 : Hid (passB K fs s (k + 1) = passB K fs s k ++ [u]) := HA.out hK
                go_wp2_with (first | (at_builtin; refine wpList_append_room1 rfl (.tmp 73) (.tmp 75) 32 3 rfl Try.underlying32 size3 _ g n C wr.heap.size xs (.int .i64 u) rfl rfl (by simp) (HROW.out.alloc _) HXL.out hroom rfl ?_; intro HG2) | (go_at_fn gf; refine (HC.out u _ HBR.out).mono ?_; rintro e w1 ⟨rfl, rfl⟩; rw [hK]))
                have HR2 : Hid (Rel2 ((wr.setCell ⟨g, n, none⟩ (.int .i64 u)).alloc (.cells #[.int .i64 u] 3)) g C (passB K fs s (k + 1))) := by
                  show Rel2 _ _ _ _
                  rw [HP1.out]
                  exact rel2_add EN.out HXL.out HX.out hroom ((HROW.out.set n _).alloc _)
                have HB2 : Hid (Below w0.heap.size w0 ((wr.setCell ⟨g, n, none⟩ (.int .i64 u)).alloc (.cells #[.int .i64 u] 3))) := (HBR.out.setCell hg0 _).alloc (by have := HBR.out.size; simpa [World.setCell] using this) _
                clear HG2
                go_wp2
                go_roundw
                case rel => exact ⟨k + 1, by omega, by go_num, n + 1, by omega, rfl, (show _ = _ by rw [HP1.out, List.length_append, ← EN.out]; rfl), HR2, HB2⟩
                case measure => simp [intOf]; omega
        · obtain rfl : k = N := by omega
          have EA : Hid (n = C ∧ HasRow wr g 3 (cells ((order K fs).take s))) := fin3 LF.out EC.out (by rw [LF.out]) EN.out HR.out
          go_wp2
          go_meet
          case rel => exact ⟨by rw [EA.out.1], EA.out.2, HBR⟩
    case rest =>
      clear HR0 HB0
      obtain ⟨rfl, HL2, HB2⟩ := hcut
      go_step
      exact hand_last2 a2 m c2 g C ns ((order K fs).take s) (order K fs) w0 wc _ _ _ _ _ _ _ _ _ _ _ _ _ _ _ _ _ _ _ _ _ _ _ _ _ _ _ _ _ _ _ _ _ _ _ _ _ _ _ _ _ _ _ _ _ _ _ _ _ _ _ _ _ _ _ _ _ _ _ _ _ _ _ _ _ _ _ _ _ _ _ _ _ _ _ _ _ _ _ _ _ _ _ _ _ _ _ _ _ _ _ _ _ _ _ _ _ _ _ _ _ _ _ _ _ _ _ hm (by omega) LN (take_len LF.out EC.out) (fun i => Nat.le_trans (getD_le_sum ns i) (by rw [← ES.out]; exact hsum)) (R2.out.kept HB2.out) HL2 HB2 hg0 (apart_of R2.out LN.out hg0) (by rw [ES.out])

end Go.Proofs.Qxb6613726a
