/- HandOut's last part, walked. -/
import Derived.Test.Qxb6613726aHandM
namespace Go.Proofs.Qxb6613726a
open Go Go.RowKit Go.Sort Plain
set_option linter.unusedVariables false

/-- A set, as whoever called HandOut sees it. -/
def SetIs (w : World) (v : Value) : Option (List Int) → Prop
  | none => v = .slice none 0 0
  | some l => ∃ g off cap, v = .slice (some ⟨g, off, none⟩) l.length cap ∧ g < w.heap.size ∧ ∀ j, j < l.length → w.cell? ⟨g, off + j, none⟩ = some (.int .i64 (l.getD j 0))

/-- A slice of sets. -/
def SetsAt (w : World) (s m : Nat) (X : Nat → Option (List Int)) : Prop := ∃ vs, HasRow w s 32 vs ∧ vs.length = m ∧ ∀ i, i < m → ∃ v, vs[i]? = some v ∧ SetIs w v (X i)

/-- What HandOut leaves. -/
def HandPost (O : List Int) (ns : List Nat) (m : Nat) (w0 : World) (e : Ending) (w' : World) : Prop :=
  ∃ s, e = .returned (.slice (some ⟨s, 0, none⟩) m m) ∧ SetsAt w' s m (setAt O ns) ∧ Below w0.heap.size w0 w'

theorem setIs_of {w : World} {g f : Nat} {v : Value} {x : Option (List Int)} (h : SetG w g f v x) (hg : g < w.heap.size) : SetIs w v x := by
  cases x with
  | none => exact h
  | some l =>
    obtain ⟨off, cap, e1, _, e3⟩ := h
    exact ⟨g, off, cap, e1, hg, e3⟩

theorem ofNat_getD (ns : List Nat) (i : Nat) : (ns.map Int.ofNat).getD i 0 = (ns.getD i 0 : Int) := by
  rw [List.getD_eq_getElem?_getD, List.getD_eq_getElem?_getD, List.getElem?_map]
  cases ns[i]? <;> rfl

theorem rel4_start {wv : World} {g m : Nat} {L : List Int} (ns : List Nat) (HL : HasRow wv g 3 (cells L)) (W : World) (hW : W = wv.alloc (.cells (madeCells #[.slice none 0 0] m) 32)) :
    Rel4 W wv.heap.size g m 0 0 L ns (List.replicate m (.slice none 0 0)) := by
  subst hW
  have hr := HL.alloc (.cells (madeCells #[.slice none 0 0] m) 32)
  exact { row := hasRow_made _ _ _ _, len := by simp, later := fun j _ h => by simp [h], done := fun j h => absurd h (by omega), left := fun j _ h => by rw [hr.cell j]; exact cells_at h, soft := fun j => hr.frozen j, lt := hr.lt }

set_option maxHeartbeats 4000000 in
set_option maxRecDepth 100000 in
theorem hand_last (a2 : Option Addr) (m c2 g C : Nat) (ns : List Nat) (L : List Int) (w0 wv : World) (u0 u1 u3 u4 u5 u6 u7 u8 u9 u11 u12 u13 u14 u15 u16 u17 u18 u19 u20 u21 u22 u23 u24 u25 u26 u27 u28 u29 u30 u31 u32 u33 u34 u35 u36 u37 u38 u39 u40 u41 u42 u43 u44 u45 u46 u47 u48 u49 u50 u51 u52 u53 u54 u55 u56 u57 u58 u59 u60 u61 u62 u63 u64 u65 u66 u67 u68 u69 u70 u71 u72 u73 u74 u75 u76 u77 u78 u79 u80 u81 u82 u83 u84 u85 u86 u87 u88 u89 u90 u91 u92 u93 u94 u95 u96 u97 u98 u99 u100 u101 u102 u103 u104 u105 u106 u107 u108 : Value)
    (hm : m ≤ 4096) (hC : C ≤ 4096) (LN : Hid (ns.length = m)) (LL : Hid (L.length = C)) (hbig : ∀ i, ns.getD i 0 ≤ 9223372036854775807)
    (T2 : Hid (RowAt wv a2 (cells (ns.map Int.ofNat)))) (HL : Hid (HasRow wv g 3 (cells L))) (HB : Hid (Below w0.heap.size w0 wv)) (hg0 : w0.heap.size ≤ g)
    (HP : Hid (0 < m → ∀ p o, a2 = some ⟨p, o, none⟩ → p ≠ g)) :
    Code.wp Try.prog ((Try.f10.body.map (seqTail 6)).getD .skip) (bodyPost Try.prog Try.f10 fun e w' => HandPost L ns m w0 e w')
      { tmps := #[u0, u1, .slice a2 m c2, u3, u4, u5, u6, u7, u8, u9, .slice (some ⟨g, 0, none⟩) C C, u11, u12, u13, u14, u15, u16, u17, u18, u19, u20, u21, u22, u23, u24, u25, u26, u27, u28, u29, u30, u31, u32, u33, u34, u35, u36, u37, u38, u39, u40, u41, u42, u43, u44, u45, u46, u47, u48, u49, u50, u51, u52, u53, u54, u55, u56, u57, u58, u59, u60, u61, u62, u63, u64, u65, u66, u67, u68, u69, u70, u71, u72, u73, u74, u75, u76, u77, u78, u79, u80, u81, u82, u83, u84, u85, u86, u87, u88, u89, u90, u91, u92, u93, u94, u95, u96, u97, u98, u99, u100, u101, u102, u103, u104, u105, u106, u107, u108], defers := [] } wv := by
  have hmk := fun W => run_make_row' (P := Try.prog) 30 32 (.slice none 0 0) 24 Try.underlying30 info32 rfl .i64 .i64 m (by omega) (by omega) W
  have hgl := HL.out.lt
  have hbigN : ∀ i : Nat, (ns.getD i 0 : Int) ≤ 9223372036854775807 := fun i => by have := hbig i; omega
  have HBIG : Hid _ := hbigN
  clear hbig hbigN
  conv => arg 2; whnf
  go_wp2
  go_loopw [10, 83] (fun od ix wr => ∃ i : Nat, i ≤ m ∧ ix = .int .i64 i ∧ ∃ o' f : Nat, f ≤ C ∧ od = .slice (some ⟨g, o', none⟩) (C - f) (C - f) ∧ Hid (f < C → o' = f) ∧ Hid (f = offTo L.length ns i) ∧ Hid (∃ vs, Rel4 wr wv.heap.size g m i f L ns vs) ∧ Hid (Below w0.heap.size w0 wr) ∧ Hid (∀ k, k < wv.heap.size → k ≠ g → wr.heap[k]? = wv.heap[k]?)) (fun _ ix _ => m - (intOf ix).toNat)
  case atStart => exact ⟨0, Nat.zero_le _, rfl, 0, 0, Nat.zero_le _, rfl, fun _ => rfl, rfl, ⟨_, rel4_start ns HL.out _ rfl⟩, HB.out.alloc HB.out.size _, fun k hk _ => Below.heap_alloc _ _ _ hk⟩
  case round =>
    obtain ⟨i, hi, rfl, o', f, hf, rfl, HO, HF, HR, HBR, HK⟩ := hrel
    by_cases hlt : (i : Int) < (m : Int)
    · have hlt' : i < m := by omega
      obtain ⟨p2, o2, rfl, hp2, C2⟩ := row_ints T2.out (by simpa using LN.out) (by omega)
      have hpg : p2 ≠ g := HP.out (by omega) p2 o2 rfl
      have k2 : wr.cell? ⟨p2, o2 + i, none⟩ = some (.int .i64 ((ns.map Int.ofNat).getD i 0)) := (World.cell?_of_block (HK.out p2 hp2 hpg)).trans (C2.out i hlt')
      rw [ofNat_getD] at k2
      have hb := HBIG.out i
      obtain ⟨vs, hR⟩ := HR.out
      have hcs := (hR.row.cell i).trans (hR.later i (Nat.le_refl _) hlt')
      have hfs := hR.row.frozen i
      have hsl := hR.row.lt
      have RR : Hid (Rel4 wr wv.heap.size g m i f L ns vs) := hR
      clear hR HR
      cases ha : accB L.length ns i
      · have hacc : ((C - f : Nat) : Int) < (ns.getD i 0 : Int) := by
          unfold accB at ha
          rw [decide_eq_false_iff_not, LL.out] at ha
          have := HF.out
          rw [LL.out] at this
          omega
        have HA : Hid (accB L.length ns i = false) := ha
        clear ha
        generalize hn : ns.getD i 0 = n at k2 hb hacc
        have HN : Hid (ns.getD i 0 = n) := hn
        clear hn
        go_wp2
        go_roundw
        case rel => exact ⟨i + 1, by omega, by go_num, o', f, hf, rfl, HO, HF.out.trans (offTo_no HA.out).symm, ⟨vs, RR.out.no hlt' HA.out⟩, HBR, HK⟩
        case measure => simp [intOf]; omega
      · have hacc : (ns.getD i 0 : Int) ≤ ((C - f : Nat) : Int) := by
          unfold accB at ha
          rw [decide_eq_true_iff, LL.out] at ha
          have := HF.out
          rw [LL.out] at this
          omega
        have HA : Hid (accB L.length ns i = true) := ha
        have HOn : Hid (0 < ns.getD i 0 → o' = f) := fun h => HO.out (by omega)
        have H15 : Hid (∀ W n, n = ns.getD i 0 → W = wr.setCell ⟨wv.heap.size, i, none⟩ (.slice (some ⟨g, o', none⟩) n n) → Calls Try.prog 15 #[.slice (some ⟨g, o', none⟩) n n] W fun e w' => e = .returned (.tuple #[]) ∧ Sorted W w' g o' (srt (segAt L ns i))) := fun W n en eW => by
          subst en eW
          have hH := RR.out.holds HF.out HOn.out HA.out (by omega) (.slice (some ⟨g, o', none⟩) (ns.getD i 0) (ns.getD i 0))
          have hlt2 : g < (wr.setCell ⟨wv.heap.size, i, none⟩ (.slice (some ⟨g, o', none⟩) (ns.getD i 0) (ns.getD i 0))).heap.size := by
            have := RR.out.lt
            simpa [World.setCell] using this
          have hsl2 := segAt_length HA.out
          have hc := sort_calls g o' (ns.getD i 0) (segAt L ns i) _ hH hlt2 (by rw [hsl2]; have := HBIG.out i; omega)
          rw [hsl2] at hc
          refine hc.mono ?_
          rintro e w' ⟨rfl, q, os, rfl⟩
          exact ⟨rfl, sorted_of hH hlt2 (srt_length _) q os⟩
        have HY : Hid (∀ w2, Sorted (wr.setCell ⟨wv.heap.size, i, none⟩ (.slice (some ⟨g, o', none⟩) (ns.getD i 0) (ns.getD i 0))) w2 g o' (srt (segAt L ns i)) → ∃ vs, Rel4 w2 wv.heap.size g m (i + 1) (f + ns.getD i 0) L ns vs) :=
          fun w2 k => ⟨_, RR.out.yes hlt' HF.out HOn.out HA.out (by omega) k⟩
        have HF2 : Hid (f + ns.getD i 0 = offTo L.length ns (i + 1)) := by
          show _ = _
          rw [offTo_yes HA.out, ← HF.out]
        clear ha HA
        generalize ns.getD i 0 = n at *
        by_cases hfull : C - f = n
        · subst hfull
          go_wp2_with fail
          refine (H15.out _ _ rfl rfl).mono ?_
          rintro e w2 ⟨rfl, hS⟩
          have HR2 : Hid (∃ vs, Rel4 w2 wv.heap.size g m (i + 1) (f + (C - f)) L ns vs) := HY.out w2 hS
          have HB2 : Hid (Below w0.heap.size w0 w2) := hS.below (HBR.out.setCell (by have := HB.out.size; show w0.heap.size ≤ wv.heap.size; omega) _) hg0 (by have := HBR.out.size; simpa [World.setCell] using this)
          have HK2 : Hid (∀ k, k < wv.heap.size → k ≠ g → w2.heap[k]? = wv.heap[k]?) := fun k hk hne => by
            rw [hS.other k (by simp [World.setCell]; omega) hne, Below.heap_setCell _ _ _ _ (by show k ≠ wv.heap.size; omega)]
            exact HK.out k hk hne
          clear hS
          go_wp2
          go_roundw
          case rel => exact ⟨i + 1, by omega, by go_num, o', f + (C - f), by omega, by rw [show C - (f + (C - f)) = 0 from by omega], (fun h => by omega), HF2, HR2, HB2, HK2⟩
          case measure => simp [intOf]; omega
        · go_wp2_with fail
          refine (H15.out _ _ rfl rfl).mono ?_
          rintro e w2 ⟨rfl, hS⟩
          have HR2 : Hid (∃ vs, Rel4 w2 wv.heap.size g m (i + 1) (f + n) L ns vs) := HY.out w2 hS
          have HB2 : Hid (Below w0.heap.size w0 w2) := hS.below (HBR.out.setCell (by have := HB.out.size; show w0.heap.size ≤ wv.heap.size; omega) _) hg0 (by have := HBR.out.size; simpa [World.setCell] using this)
          have HK2 : Hid (∀ k, k < wv.heap.size → k ≠ g → w2.heap[k]? = wv.heap[k]?) := fun k hk hne => by
            rw [hS.other k (by simp [World.setCell]; omega) hne, Below.heap_setCell _ _ _ _ (by show k ≠ wv.heap.size; omega)]
            exact HK.out k hk hne
          clear hS
          go_wp2
          go_roundw
          case rel => exact ⟨i + 1, by omega, by go_num, o' + n, f + n, by omega, by rw [Nat.sub_sub], (fun h => by have := HO.out (by omega); omega), HF2, HR2, HB2, HK2⟩
          case measure => simp [intOf]; omega
    · have e : i = m := by omega
      subst e
      go_wp2
      go_ret
      obtain ⟨vs, hR⟩ := HR.out
      refine ⟨wv.heap.size, rfl, ⟨vs, hR.row, hR.len, fun j hj => ?_⟩, HBR.out⟩
      obtain ⟨v, hv, hs⟩ := hR.done j hj
      exact ⟨v, hv, setIs_of hs hR.lt⟩

end Go.Proofs.Qxb6613726a
