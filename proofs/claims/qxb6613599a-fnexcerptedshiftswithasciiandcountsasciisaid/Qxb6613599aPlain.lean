/- Plain laws on the number of runes of a string: an ASCII text put ahead of or behind a string adds its bytes. No Go in sight. -/
import Derived.Lib.RuneCount
namespace Go.Proofs.Qxb6613599a.Plain
open Go Go.Lib

def Ascii (p : ByteArray) : Prop := ∀ (j : Nat) (h : j < p.size), (p[j]'h).toNat < 128

theorem get!_right (p t : ByteArray) (j : Nat) : (p ++ t).get! (p.size + j) = t.get! j := by
  cases p with | mk p => cases t with | mk t =>
  show (ByteArray.mk p ++ ByteArray.mk t).data[p.size + j]! = t[j]!
  simp [ByteArray.data_append, Array.getElem!_eq_getD, Array.getD_eq_getD_getElem?, Array.getElem?_append]
  rw [if_neg (by omega)]

theorem get!_left (t p : ByteArray) (j : Nat) (h : j < t.size) : (t ++ p).get! j = t.get! j := by
  cases p with | mk p => cases t with | mk t =>
  have h' : j < t.size := h
  show (ByteArray.mk t ++ ByteArray.mk p).data[j]! = t[j]!
  simp [ByteArray.data_append, Array.getElem!_eq_getD, Array.getD_eq_getD_getElem?, Array.getElem?_append, h']

theorem get!_at (s : ByteArray) (j : Nat) (h : j < s.size) : s.get! j = s[j]'h := by
  cases s with | mk s =>
  have h' : j < s.size := h
  show s[j]! = s[j]
  simp [h']

theorem decode_shift (p t : ByteArray) (i : Nat) : Utf8.decode (p ++ t) (p.size + i) = Utf8.decode t i := by
  have e : ∀ k, (p ++ t).get! (p.size + i + k) = t.get! (i + k) := fun k => by rw [Nat.add_assoc]; exact get!_right p t (i + k)
  have c : ∀ k, (p.size + i + k < (p ++ t).size) ↔ (i + k < t.size) := fun k => by rw [ByteArray.size_append]; omega
  have c' : ∀ k, decide (p.size + i + k < (p ++ t).size) = decide (i + k < t.size) := fun k => by rw [decide_eq_decide]; exact c k
  simp only [Utf8.decode, e, c']

/-- The decoder by its bytes and its tests alone. -/
def dec (b0 b1 b2 b3 : Nat) (c1 c2 c3 : Bool) : Nat × Nat :=
  if b0 < 0x80 then (b0, 1)
  else if b0 / 32 == 6 && c1 then
    let c := (b0 % 32) * 64 + b1 % 64
    if c ≥ 0x80 then (c, 2) else (Utf8.runeError, 1)
  else if b0 / 16 == 14 && c1 && c2 then
    let c := (b0 % 16) * 4096 + (b1 % 64) * 64 + b2 % 64
    if c ≥ 0x800 && Utf8.valid c then (c, 3) else (Utf8.runeError, 1)
  else if b0 / 8 == 30 && c1 && c2 && c3 then
    let c := (b0 % 8) * 262144 + (b1 % 64) * 4096 + (b2 % 64) * 64 + b3 % 64
    if c ≥ 0x10000 && Utf8.valid c then (c, 4) else (Utf8.runeError, 1)
  else (Utf8.runeError, 1)

def byte (s : ByteArray) (i k : Nat) : Nat := (s.get! (i + k)).toNat
def cont (s : ByteArray) (i k : Nat) : Bool := decide (i + k < s.size) && byte s i k / 64 == 2

theorem decode_dec (s : ByteArray) (i : Nat) : Utf8.decode s i = dec (byte s i 0) (byte s i 1) (byte s i 2) (byte s i 3) (cont s i 1) (cont s i 2) (cont s i 3) := rfl

theorem dec_congr (b0 b1 b2 b3 d1 d2 d3 : Nat) (c1 c2 c3 : Bool) (h1 : c1 = true → b1 = d1) (h2 : c2 = true → b2 = d2) (h3 : c3 = true → b3 = d3) :
    dec b0 b1 b2 b3 c1 c2 c3 = dec b0 d1 d2 d3 c1 c2 c3 := by
  cases c1 with
  | false => simp [dec]
  | true =>
    cases h1 rfl
    cases c2 with
    | false => simp [dec]
    | true =>
      cases h2 rfl
      cases c3 with
      | false => simp [dec]
      | true => cases h3 rfl; rfl

theorem dec_width (b0 b1 b2 b3 : Nat) (c1 c2 c3 : Bool) :
    (dec b0 b1 b2 b3 c1 c2 c3).2 = 1 ∨ ((dec b0 b1 b2 b3 c1 c2 c3).2 = 2 ∧ c1 = true) ∨ ((dec b0 b1 b2 b3 c1 c2 c3).2 = 3 ∧ c2 = true) ∨ ((dec b0 b1 b2 b3 c1 c2 c3).2 = 4 ∧ c3 = true) := by
  unfold dec
  dsimp only
  split
  · exact .inl rfl
  · split
    · rename_i h
      split
      · exact .inr (.inl ⟨rfl, by simp at h; exact h.2⟩)
      · exact .inl rfl
    · split
      · rename_i h
        split
        · exact .inr (.inr (.inl ⟨rfl, by simp at h; exact h.2⟩))
        · exact .inl rfl
      · split
        · rename_i h
          split
          · exact .inr (.inr (.inr ⟨rfl, by simp at h; exact h.2⟩))
          · exact .inl rfl
        · exact .inl rfl

theorem width_in (s : ByteArray) (i : Nat) (h : i < s.size) : i + (Utf8.decode s i).2 ≤ s.size := by
  rw [decode_dec]
  have hc : ∀ k, cont s i k = true → i + k < s.size := fun k hk => by
    unfold cont at hk
    simp at hk
    exact hk.1
  rcases dec_width (byte s i 0) (byte s i 1) (byte s i 2) (byte s i 3) (cont s i 1) (cont s i 2) (cont s i 3) with e | ⟨e, c⟩ | ⟨e, c⟩ | ⟨e, c⟩
  · rw [e]; omega
  · rw [e]; have := hc _ c; omega
  · rw [e]; have := hc _ c; omega
  · rw [e]; have := hc _ c; omega

theorem cont_left (t p : ByteArray) (hp : Ascii p) (i k : Nat) : cont (t ++ p) i k = cont t i k := by
  unfold cont byte
  by_cases h : i + k < t.size
  · have h' : i + k < (t ++ p).size := by rw [ByteArray.size_append]; omega
    rw [get!_left t p _ h]
    simp [h]
    omega
  · have h0 : decide (i + k < t.size) = false := by simp; omega
    rw [h0, Bool.false_and]
    by_cases h' : i + k < (t ++ p).size
    · rw [ByteArray.size_append] at h'
      obtain ⟨j, hj⟩ : ∃ j, i + k = t.size + j := ⟨i + k - t.size, by omega⟩
      rw [hj, get!_right, get!_at p j (by omega)]
      have := hp j (by omega)
      have e2 : (p[j]'(by omega)).toNat / 64 ≠ 2 := by omega
      simp [e2]
    · have : decide (i + k < (t ++ p).size) = false := by simpa using h'
      rw [this, Bool.false_and]

theorem decode_left (t p : ByteArray) (hp : Ascii p) (i : Nat) (h : i < t.size) : Utf8.decode (t ++ p) i = Utf8.decode t i := by
  rw [decode_dec, decode_dec, cont_left t p hp, cont_left t p hp, cont_left t p hp]
  have e0 : byte (t ++ p) i 0 = byte t i 0 := by unfold byte; rw [get!_left t p _ (by omega)]
  have e : ∀ k, cont t i k = true → byte (t ++ p) i k = byte t i k := fun k hk => by
    unfold cont at hk
    simp at hk
    unfold byte
    rw [get!_left t p _ hk.1]
  rw [e0]
  exact dec_congr _ _ _ _ _ _ _ _ _ _ (e 1) (e 2) (e 3)

theorem from_shift (p t : ByteArray) : ∀ f i, runeCountFrom (p ++ t) f (p.size + i) = runeCountFrom t f i
  | 0, _ => rfl
  | f + 1, i => by
    unfold runeCountFrom
    rw [decode_shift, Nat.add_assoc, from_shift p t f, ByteArray.size_append]
    by_cases h : i < t.size
    · rw [if_pos h, if_pos (by omega)]
    · rw [if_neg h, if_neg (by omega)]

theorem decode_ascii_left (p t : ByteArray) (hp : Ascii p) (i : Nat) (h : i < p.size) : (Utf8.decode (p ++ t) i).2 = 1 := by
  have hs : i < (p ++ t).size := by rw [ByteArray.size_append]; omega
  have e : (p ++ t)[i]'hs = p[i]'h := by rw [← get!_at, get!_left p t i h, get!_at]
  rw [decode_ascii (p ++ t) i hs (by rw [e]; exact hp i h)]

theorem from_ascii (p t : ByteArray) (hp : Ascii p) : ∀ k f i, i + k = p.size → runeCountFrom (p ++ t) (k + f) i = k + runeCountFrom (p ++ t) f p.size
  | 0, f, i, h => by
    have : i = p.size := by omega
    rw [this, Nat.zero_add, Nat.zero_add]
  | k + 1, f, i, h => by
    have hs : i < (p ++ t).size := by rw [ByteArray.size_append]; omega
    rw [show k + 1 + f = (k + f) + 1 from by omega]
    unfold runeCountFrom
    rw [if_pos hs, decode_ascii_left p t hp i (by omega), from_ascii p t hp k f (i + 1) (by omega)]
    cases f <;> simp [runeCountFrom] <;> omega

/-- An ASCII text ahead of a string adds its bytes. -/
theorem count_ahead (p t : ByteArray) (hp : Ascii p) : runeCount (p ++ t) = p.size + runeCount t := by
  unfold runeCount
  rw [ByteArray.size_append, from_ascii p t hp p.size t.size 0 (by omega)]
  have := from_shift p t t.size 0
  rw [Nat.add_zero] at this
  rw [this]

theorem from_tail (t p : ByteArray) (hp : Ascii p) : ∀ k f i, t.size ≤ i → i + k = (t ++ p).size → runeCountFrom (t ++ p) (f + k) i = k
  | 0, f, i, _, h => runeCountFrom_end _ _ _ (by omega)
  | k + 1, f, i, h0, h => by
    have hz : (t ++ p).size = t.size + p.size := ByteArray.size_append
    have hi : i < (t ++ p).size := by omega
    rw [show f + (k + 1) = (f + k) + 1 from by omega]
    unfold runeCountFrom
    have e : (t ++ p)[i]'hi = p[i - t.size]'(by omega) := by
      rw [← get!_at, ← get!_at, show i = t.size + (i - t.size) from by omega, get!_right]
      congr 1
      omega
    rw [if_pos hi, decode_ascii (t ++ p) i hi (by rw [e]; exact hp _ _)]
    dsimp only
    rw [from_tail t p hp k f (i + 1) (by omega) (by omega)]
    omega

theorem from_behind (t p : ByteArray) (hp : Ascii p) : ∀ f i, i ≤ t.size → t.size ≤ i + f → runeCountFrom (t ++ p) (f + p.size) i = runeCountFrom t f i + p.size
  | f, i, h1, h2 => by
    by_cases h : i < t.size
    · cases f with
      | zero => omega
      | succ f =>
        have hw := decode_width_pos t i h
        have hx := width_in t i h
        have ih := from_behind t p hp f (i + (Utf8.decode t i).2) hx (by omega)
        rw [show f + 1 + p.size = (f + p.size) + 1 from by omega]
        unfold runeCountFrom
        rw [if_pos h, if_pos (by rw [ByteArray.size_append]; omega), decode_left t p hp i h, ih]
        omega
    · have e : i = t.size := by omega
      rw [runeCountFrom_end t f i h, from_tail t p hp p.size f i (by omega) (by rw [ByteArray.size_append]; omega)]
      omega

/-- An ASCII text behind a string adds its bytes. -/
theorem count_behind (t p : ByteArray) (hp : Ascii p) : runeCount (t ++ p) = runeCount t + p.size := by
  unfold runeCount
  rw [ByteArray.size_append]
  exact from_behind t p hp t.size 0 (Nat.zero_le _) (by omega)

theorem count_ascii (t : ByteArray) (ht : Ascii t) : runeCount t = t.size := runeCount_ascii t ht

end Go.Proofs.Qxb6613599a.Plain
