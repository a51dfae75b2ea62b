/- Law 5: the second hand-out. -/
import Derived.Test.Qxb6613726aSplitT
import Derived.Test.Qxb6613726aHand
namespace Go.Proofs.Qxb6613726a
open Go Go.RowKit Go.Sort Plain
set_option linter.unusedVariables false

theorem keptFn_kept {w w' : World} {fv : Value} {K : Int → Bool} (h : KeptFn w fv K) (hb : Below w.heap.size w w') : KeptFn w' fv K := by
  rcases h with h | ⟨g, bx, h1, h2, h3⟩
  · exact .inl h
  · exact .inr ⟨g, bx, h1, h2, fun u W hW => h3 u W (hb.trans (hW.mono hb.size))⟩
theorem sum_take_drop (ns : List Nat) (k : Nat) : (ns.take k).sum + (ns.drop k).sum = ns.sum := by
  rw [← List.sum_append, List.take_append_drop]
theorem cells_drop (ns : List Nat) (k : Nat) : cells ((ns.drop k).map Int.ofNat) = (cells (ns.map Int.ofNat)).drop k := by
  unfold cells
  rw [List.map_drop, List.map_drop]
theorem cells_take (ns : List Nat) (k : Nat) : cells ((ns.take k).map Int.ofNat) = (cells (ns.map Int.ofNat)).take k := by
  unfold cells
  rw [List.map_take, List.map_take]
theorem rowAt_drop {w : World} {p o : Nat} {xs : List Value} (h : RowAt w (some ⟨p, o, none⟩) xs) (k : Nat) : RowAt w (some ⟨p, o + k, none⟩) (xs.drop k) := by
  rcases h with rfl | ⟨b, off, e, hlt, hc⟩
  · exact .inl (by simp)
  · injection e with e
    injection e with e1 e2
    subst e1 e2
    refine .inr ⟨p, o + k, rfl, hlt, fun q u hu => ?_⟩
    rw [List.getElem?_drop] at hu
    rw [Nat.add_assoc]
    exact hc (k + q) u hu
theorem rowAt_take {w : World} {a : Option Addr} {xs : List Value} (h : RowAt w a xs) (k : Nat) : RowAt w a (xs.take k) := by
  rcases h with rfl | ⟨b, off, e, hlt, hc⟩
  · exact .inl (by simp)
  · refine .inr ⟨b, off, e, hlt, fun q u hu => ?_⟩
    rw [List.getElem?_take] at hu
    split at hu
    · exact hc q u hu
    · cases hu
theorem rowAt_spot {w : World} {x : Addr} {xs : List Value} (h : RowAt w (some x) xs) (hp : 0 < xs.length) : ∃ p o, x = ⟨p, o, none⟩ := by
  rcases h with rfl | ⟨b, off, e, _, _⟩
  · simp at hp
  · exact ⟨b, off, by injection e⟩

set_option maxHeartbeats 8000000 in
set_option maxRecDepth 100000 in
theorem split_second (b2 : Option Addr) (m k gw gf gr r C : Nat) (fv : Value) (K : Int → Bool) (rs : List Int) (ns : List Nat) (X : Nat → Option (List Int)) (w0 wv : World) (u0 u1 u4 u5 u6 u7 u8 u9 u10 u13 u14 u15 u16 u17 u19 u20 u21 u22 u23 u25 u26 u27 u28 u29 u30 u31 u32 u33 u34 u35 u36 u37 u38 u39 u40 u41 u42 u43 u44 u45 u46 u47 u48 u49 u50 u51 u52 u53 u54 u55 u56 u57 u58 u59 u60 u61 u62 u63 u64 u65 u66 u67 u68 u69 u70 u71 u72 u73 u74 u75 u76 u77 u78 u79 u80 u81 u82 u83 u84 u85 u86 u87 u88 u89 u90 u91 u92 u93 u94 u95 u96 u97 u98 u99 u100 u101 u102 u103 u104 u105 u106 u107 u108 u109 u110 u111 u112 u113 u114 u115 u116 u117 u118 u119 u120 u121 u122 u123 u124 u125 u126 u127 u128 u129 u130 u131 u132 u133 u134 u135 u136 u137 u138 u139 u140 u141 u142 u143 u144 u145 u146 u147 u148 u149 u150 u151 u152 u153 u154 u155 u156 u157 u158 u159 u160 u161 u162 u163 u164 u165 u166 u167 u168 u169 u170 u171 u172 u173 u174 u175 u176 u177 u178 u179 u180 u181 u182 u183 u184 u185 u186 u187 u188 u189 u190 u191 u192 u193 u194 u195 u196 u197 u198 u199 u200 u201 u202 u203 u204 u205 u206 u207 u208 u209 u210 u211 u212 u213 u214 u215 u216 u217 u218 u219 u220 u221 u222 u223 u224 u225 u226 u227 u228 u229 u230 u231 u232 u233 u234 u235 u236 u237 u238 u239 u240 u241 u242 u243 u244 u245 u246 u247 u248 u249 u250 u251 u252 u253 u254 u255 u256 u257 u258 u259 u260 u261 u262 u263 u264 u265 : Value)
    (hm : m ≤ 4096) (hk : k ≤ m) (hr : r ≤ 4096) (HA : Hid ((b2 = none ∧ m = 0) ∨ ∃ p o, b2 = some ⟨p, o, none⟩)) (LR : Hid (rs.length = r)) (LN : Hid (ns.length = m)) (HSUM : Hid (ns.sum ≤ 9223372036854775807))
    (HX : Hid (∀ i l, X i = some l → l.length ≤ 4096)) (HXS : Hid (∀ i, i < m - k → X (k + i) = setAt (order K rs) (ns.drop k) i))
    (T2 : Hid (RowAt wv b2 (cells (ns.map Int.ofNat)))) (TR : Hid (RowAt wv (some ⟨gr, 0, none⟩) (cells rs))) (FV : Hid (KeptFn wv fv K))
    (SW : Hid (SetsAt wv gw m X)) (SF : Hid (SetsAt wv gf k X)) (HB : Hid (Below w0.heap.size w0 wv)) :
    Code.wp Try.prog ((Try.f4.body.map (seqTail 23)).getD .skip) (bodyPost Try.prog Try.f4 fun e w' => e = .returned (.bool true) ∧ Below w0.heap.size w0 w')
      { tmps := (u0 :: u1 :: .slice b2 m m :: .int .i64 (k : Int) :: u4 :: u5 :: u6 :: u7 :: u8 :: u9 :: u10 :: fv :: .slice (some ⟨gw, 0, none⟩) m m :: u13 :: u14 :: u15 :: u16 :: u17 :: .slice (some ⟨gf, 0, none⟩) k k :: u19 :: u20 :: u21 :: u22 :: u23 :: .slice (some ⟨gr, 0, none⟩) r C :: u25 :: u26 :: u27 :: u28 :: u29 :: u30 :: u31 :: u32 :: u33 :: u34 :: u35 :: u36 :: u37 :: u38 :: u39 :: u40 :: u41 :: u42 :: u43 :: u44 :: u45 :: u46 :: u47 :: u48 :: u49 :: u50 :: u51 :: u52 :: u53 :: u54 :: u55 :: u56 :: u57 :: u58 :: u59 :: u60 :: u61 :: u62 :: u63 :: u64 :: u65 :: u66 :: u67 :: u68 :: u69 :: u70 :: u71 :: u72 :: u73 :: u74 :: u75 :: u76 :: u77 :: u78 :: u79 :: u80 :: u81 :: u82 :: u83 :: u84 :: u85 :: u86 :: u87 :: u88 :: u89 :: u90 :: u91 :: u92 :: u93 :: u94 :: u95 :: u96 :: u97 :: u98 :: u99 :: u100 :: u101 :: u102 :: u103 :: u104 :: u105 :: u106 :: u107 :: u108 :: u109 :: u110 :: u111 :: u112 :: u113 :: u114 :: u115 :: u116 :: u117 :: u118 :: u119 :: u120 :: u121 :: u122 :: u123 :: u124 :: u125 :: u126 :: u127 :: u128 :: u129 :: u130 :: u131 :: u132 :: u133 :: u134 :: u135 :: u136 :: u137 :: u138 :: u139 :: u140 :: u141 :: u142 :: u143 :: u144 :: u145 :: u146 :: u147 :: u148 :: u149 :: u150 :: u151 :: u152 :: u153 :: u154 :: u155 :: u156 :: u157 :: u158 :: u159 :: u160 :: u161 :: u162 :: u163 :: u164 :: u165 :: u166 :: u167 :: u168 :: u169 :: u170 :: u171 :: u172 :: u173 :: u174 :: u175 :: u176 :: u177 :: u178 :: u179 :: u180 :: u181 :: u182 :: u183 :: u184 :: u185 :: u186 :: u187 :: u188 :: u189 :: u190 :: u191 :: u192 :: u193 :: u194 :: u195 :: u196 :: u197 :: u198 :: u199 :: u200 :: u201 :: u202 :: u203 :: u204 :: u205 :: u206 :: u207 :: u208 :: u209 :: u210 :: u211 :: u212 :: u213 :: u214 :: u215 :: u216 :: u217 :: u218 :: u219 :: u220 :: u221 :: u222 :: u223 :: u224 :: u225 :: u226 :: u227 :: u228 :: u229 :: u230 :: u231 :: u232 :: u233 :: u234 :: u235 :: u236 :: u237 :: u238 :: u239 :: u240 :: u241 :: u242 :: u243 :: u244 :: u245 :: u246 :: u247 :: u248 :: u249 :: u250 :: u251 :: u252 :: u253 :: u254 :: u255 :: u256 :: u257 :: u258 :: u259 :: u260 :: u261 :: u262 :: u263 :: u264 :: u265 :: []).toArray, defers := [] } wv := by
  have H10 : Hid (∀ a c n, n = m - k → RowAt wv a (cells ((ns.drop k).map Int.ofNat)) → Calls Try.prog 10 #[.slice (some ⟨gr, 0, none⟩) r C, fv, .slice a n c] wv fun e w' => HandPost (order K rs) (ns.drop k) n wv e w') := fun a c n en h => by
    subst en
    refine hand_calls (some ⟨gr, 0, none⟩) a r (m - k) C c fv K rs (ns.drop k) wv hr (by omega) LR.out (by rw [List.length_drop, LN.out]) ?_ TR.out h FV.out
    have := sum_take_drop ns k
    have := HSUM.out
    omega
  conv => arg 2; whnf
  go_upto_region 69 with fail
  go_cut [26] (fun g wx => ∃ gs, g = .slice (some ⟨gs, 0, none⟩) (m - k) (m - k) ∧ Hid (SetsAt wx gs (m - k) (setAt (order K rs) (ns.drop k))) ∧ Hid (Below wv.heap.size wv wx))
  case first =>
    rcases HA.out with ⟨rfl, rfl⟩ | ⟨p, o, rfl⟩
    · obtain rfl : k = 0 := by omega
      have HE : Hid (RowAt wv none (cells ((ns.drop 0).map Int.ofNat))) := by rw [List.drop_zero]; exact T2
      clear SW SF HX HXS T2 TR FV
      go_wp2_with fail
      refine (H10.out _ _ _ rfl HE.out).mono ?_
      rintro e w1 ⟨gs, rfl, hs, hb⟩
      go_wp2_with fail
      go_meet
      case rel => exact ⟨gs, rfl, hs, hb⟩
    · by_cases hfull : k = m
      · subst hfull
        have HE : Hid (RowAt wv (some ⟨p, o, none⟩) (cells ((ns.drop k).map Int.ofNat))) := by
          rw [List.drop_of_length_le (by rw [LN.out]; exact Nat.le_refl _)]
          exact .inl rfl
        clear SW SF HX HXS T2 TR FV
        go_wp2_with fail
        refine (H10.out _ _ _ (by omega) HE.out).mono ?_
        rintro e w1 ⟨gs, rfl, hs, hb⟩
        go_wp2_with fail
        go_meet
        case rel => exact ⟨gs, by rw [Nat.sub_self], by rw [Nat.sub_self]; exact hs, hb⟩
      · have HE : Hid (RowAt wv (some ⟨p, o + k, none⟩) (cells ((ns.drop k).map Int.ofNat))) := by
          rw [cells_drop]
          exact rowAt_drop T2.out k
        have hk' : k < m := by omega
        clear SW SF HX HXS T2 TR FV
        go_wp2_with fail
        refine (H10.out _ _ _ rfl HE.out).mono ?_
        rintro e w1 ⟨gs, rfl, hs, hb⟩
        go_wp2_with fail
        go_meet
        case rel => exact ⟨gs, rfl, hs, hb⟩
  case rest =>
    obtain ⟨gs, rfl, HS, HB1⟩ := hcut
    obtain ⟨wy, rfl⟩ : ∃ wy : World, wy = wc := ⟨_, rfl⟩
    go_upto_if 234 with fail
    go_cut [26] (fun g wx => g = .slice (some ⟨gs, 0, none⟩) (m - k) (m - k) ∧ wx = wy)
    case first =>
      go_wp2
      go_meet
      case rel => exact ⟨rfl, rfl⟩
    case rest =>
      obtain ⟨rfl, rfl⟩ := hcut
      go_step
      exact split_last b2 m m k gw gf gs X w0 _ _ _ _ _ _ _ _ _ _ _ _ _ _ _ _ _ _ _ _ _ _ _ _ _ _ _ _ _ _ _ _ _ _ _ _ _ _ _ _ _ _ _ _ _ _ _ _ _ _ _ _ _ _ _ _ _ _ _ _ _ _ _ _ _ _ _ _ _ _ _ _ _ _ _ _ _ _ _ _ _ _ _ _ _ _ _ _ _ _ _ _ _ _ _ _ _ _ _ _ _ _ _ _ _ _ _ _ _ _ _ _ _ _ _ _ _ _ _ _ _ _ _ _ _ _ _ _ _ _ _ _ _ _ _ _ _ _ _ _ _ _ _ _ _ _ _ _ _ _ _ _ _ _ _ _ _ _ _ _ _ _ _ _ _ _ _ _ _ _ _ _ _ _ _ _ _ _ _ _ _ _ _ _ _ _ _ _ _ _ _ _ _ _ _ _ _ _ _ _ _ _ _ _ _ _ _ _ _ _ _ _ _ _ _ _ _ _ _ _ _ _ _ _ _ _ _ _ _ _ _ _ _ _ _ _ _ _ _ _ _ _ _ _ _ _ _ _ _ _ _ _ _ _ _ _ _ _ _ _ _ _ hm hk HX (SW.out.kept HB1.out) (SF.out.kept HB1.out) (HS.out.same HXS.out) (HB.out.trans (HB1.out.mono HB.out.size))

end Go.Proofs.Qxb6613726a
