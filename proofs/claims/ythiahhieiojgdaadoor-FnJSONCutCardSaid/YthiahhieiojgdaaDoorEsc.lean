/-
  PLAIN: what appendEscapedJSONString computes, on lists of bytes: 'esc', chunk by chunk; what spec.size and spec.Coerced compute. No program in sight. Conditions: none.
-/
import Derived.Lib.DecodeN
namespace Go.Proofs.YthiahhieiojgdaaDoor
open Go.Lib

/-- The byte at a place, 0 beyond the end. -/
def at' (l : List UInt8) (i : Nat) : Nat := (l.getD i 0).toNat

/-- Go's decoder at the head of a list that is not empty. -/
def dec (l : List UInt8) : Nat × Nat := decodeN l.length (at' l 0) (at' l 1) (at' l 2) (at' l 3)

/-- What spec.size computes: how many bytes the character at the head has, or 0. -/
def size (l : List UInt8) : Nat :=
  if at' l 0 < 128 then 1
  else if 194 ≤ at' l 0 ∧ at' l 0 < 224 then
    if l.length < 2 ∨ at' l 1 / 64 ≠ 2 then 0 else 2
  else if 224 ≤ at' l 0 ∧ at' l 0 < 240 then
    if l.length < 3 ∨ at' l 1 / 64 ≠ 2 ∨ at' l 2 / 64 ≠ 2 then 0
    else if at' l 0 % 16 * 4096 + at' l 1 % 64 * 64 + at' l 2 % 64 < 2048 ∨ (55296 ≤ at' l 0 % 16 * 4096 + at' l 1 % 64 * 64 + at' l 2 % 64 ∧ at' l 0 % 16 * 4096 + at' l 1 % 64 * 64 + at' l 2 % 64 ≤ 57343) then 0 else 3
  else if 240 ≤ at' l 0 ∧ at' l 0 < 245 then
    if l.length < 4 ∨ at' l 1 / 64 ≠ 2 ∨ at' l 2 / 64 ≠ 2 ∨ at' l 3 / 64 ≠ 2 then 0
    else if at' l 0 % 8 * 262144 + at' l 1 % 64 * 4096 + at' l 2 % 64 * 64 + at' l 3 % 64 < 65536 ∨ 1114111 < at' l 0 % 8 * 262144 + at' l 1 % 64 * 4096 + at' l 2 % 64 * 64 + at' l 3 % 64 then 0 else 4
  else 0

theorem at_lt (l : List UInt8) (i : Nat) : at' l i < 256 := (l.getD i 0).toNat_lt

/-- no character: Go's decoder says (U+FFFD, 1) -/
theorem dec_zero {l : List UInt8} (_h : 128 ≤ at' l 0) (hs : size l = 0) : dec l = (65533, 1) := by
  have h0 := at_lt l 0; have h1 := at_lt l 1; have h2 := at_lt l 2; have h3 := at_lt l 3
  unfold size at hs
  unfold dec decodeN
  generalize at' l 0 = b0 at *; generalize at' l 1 = b1 at *; generalize at' l 2 = b2 at *; generalize at' l 3 = b3 at *
  generalize l.length = n at *
  repeat' split at hs
  all_goals first | omega | skip
  all_goals (repeat' split)
  all_goals first | rfl | (exfalso; omega)

/-- a character: its width is 'size', and its rune is U+2028 or U+2029 just where the bytes say so -/
theorem dec_some {l : List UInt8} (_h : 128 ≤ at' l 0) (hs : size l ≠ 0) :
    (dec l).2 = size l ∧ 2 ≤ size l ∧ size l ≤ 4 ∧ size l ≤ l.length ∧
    ((dec l).1 = 8232 ↔ at' l 0 = 226 ∧ at' l 1 = 128 ∧ at' l 2 = 168) ∧ ((dec l).1 = 8233 ↔ at' l 0 = 226 ∧ at' l 1 = 128 ∧ at' l 2 = 169) ∧
    ((dec l).1 = 8232 ∨ (dec l).1 = 8233 → size l = 3) ∧ (dec l).1 ≤ 1114111 ∧
    194 ≤ at' l 0 ∧ 128 ≤ at' l 1 ∧ at' l 1 < 192 ∧ (3 ≤ size l → 224 ≤ at' l 0 ∧ 128 ≤ at' l 2 ∧ at' l 2 < 192) ∧ (4 ≤ size l → 240 ≤ at' l 0 ∧ 128 ≤ at' l 3 ∧ at' l 3 < 192) := by
  have h0 := at_lt l 0; have h1 := at_lt l 1; have h2 := at_lt l 2; have h3 := at_lt l 3
  unfold size at *
  unfold dec decodeN
  generalize at' l 0 = b0 at *; generalize at' l 1 = b1 at *; generalize at' l 2 = b2 at *; generalize at' l 3 = b3 at *
  generalize l.length = n at *
  repeat' split at hs
  all_goals first | (exfalso; omega) | skip
  all_goals (repeat' split)
  all_goals first | (exfalso; omega) | skip
  all_goals (refine ⟨?_, ?_, ?_, ?_, ?_, ?_, ?_, ?_, ?_, ?_, ?_, ?_, ?_⟩)
  all_goals first | omega | (simp only; omega)

/-! ### places -/
theorem at_append {c r : List UInt8} {i : Nat} (h : i < c.length) : at' (c ++ r) i = at' c i := by
  simp [at', List.getElem?_append_left h]
theorem at_take {l : List UInt8} {k i : Nat} (h : i < k) : at' (l.take k) i = at' l i := by
  simp [at', h]
theorem at_cons (b : UInt8) (r : List UInt8) : at' (b :: r) 0 = b.toNat := rfl

def rune3 (l : List UInt8) : Nat := at' l 0 % 16 * 4096 + at' l 1 % 64 * 64 + at' l 2 % 64
def P2 (l : List UInt8) : Prop := 194 ≤ at' l 0 ∧ at' l 0 < 224 ∧ 2 ≤ l.length ∧ at' l 1 / 64 = 2
def P3 (l : List UInt8) : Prop := 224 ≤ at' l 0 ∧ at' l 0 < 240 ∧ 3 ≤ l.length ∧ at' l 1 / 64 = 2 ∧ at' l 2 / 64 = 2 ∧ 2048 ≤ rune3 l ∧ (rune3 l < 55296 ∨ 57343 < rune3 l)
def rune4 (l : List UInt8) : Nat := at' l 0 % 8 * 262144 + at' l 1 % 64 * 4096 + at' l 2 % 64 * 64 + at' l 3 % 64
def P4 (l : List UInt8) : Prop := 240 ≤ at' l 0 ∧ at' l 0 < 245 ∧ 4 ≤ l.length ∧ at' l 1 / 64 = 2 ∧ at' l 2 / 64 = 2 ∧ at' l 3 / 64 = 2 ∧ 65536 ≤ rune4 l ∧ rune4 l ≤ 1114111
theorem size_of1 {l : List UInt8} (h : at' l 0 < 128) : size l = 1 := by unfold size; rw [if_pos h]
theorem size_of2 {l : List UInt8} (h : P2 l) : size l = 2 := by
  obtain ⟨h1, h2, h3, h4⟩ := h
  unfold size; rw [if_neg (by omega), if_pos (by omega), if_neg (by omega)]
theorem size_of3 {l : List UInt8} (h : P3 l) : size l = 3 := by
  obtain ⟨h1, h2, h3, h4, h5, h6, h7⟩ := h
  unfold rune3 at h6 h7
  unfold size; rw [if_neg (by omega), if_neg (by omega), if_pos (by omega), if_neg (by omega), if_neg (by omega)]
theorem size_of4 {l : List UInt8} (h : P4 l) : size l = 4 := by
  obtain ⟨h1, h2, h3, h4, h5, h6, h7, h8⟩ := h
  unfold rune4 at h7 h8
  unfold size; rw [if_neg (by omega), if_neg (by omega), if_neg (by omega), if_pos (by omega), if_neg (by omega), if_neg (by omega)]
theorem size_cases (l : List UInt8) : size l = 0 ∨ (size l = 1 ∧ at' l 0 < 128) ∨ (size l = 2 ∧ P2 l) ∨ (size l = 3 ∧ P3 l) ∨ (size l = 4 ∧ P4 l) := by
  unfold P2 P3 P4 rune3 rune4
  by_cases c1 : at' l 0 < 128
  · exact .inr (.inl ⟨size_of1 c1, c1⟩)
  by_cases c2 : 194 ≤ at' l 0 ∧ at' l 0 < 224
  · unfold size; rw [if_neg c1, if_pos c2]; split <;> omega
  by_cases c3 : 224 ≤ at' l 0 ∧ at' l 0 < 240
  · unfold size; rw [if_neg c1, if_neg c2, if_pos c3]; split
    · omega
    · split <;> omega
  by_cases c4 : 240 ≤ at' l 0 ∧ at' l 0 < 245
  · unfold size; rw [if_neg c1, if_neg c2, if_neg c3, if_pos c4]; split
    · omega
    · split <;> omega
  · unfold size; rw [if_neg c1, if_neg c2, if_neg c3, if_neg c4]; exact .inl rfl

/-- the size hangs on the character's own bytes alone -/
theorem size_local {l l' : List UInt8} (hs : size l ≠ 0) (hl : size l ≤ l'.length) (ha : ∀ i, i < size l → at' l' i = at' l i) : size l' = size l := by
  rcases size_cases l with h | ⟨h, p⟩ | ⟨h, p⟩ | ⟨h, p⟩ | ⟨h, p⟩
  · exact absurd h hs
  · rw [h] at ha hl ⊢
    have h0 := ha 0 (by omega)
    exact size_of1 (by omega)
  · rw [h] at ha hl ⊢
    have h0 := ha 0 (by omega); have h1 := ha 1 (by omega)
    refine size_of2 ?_
    unfold P2 at *
    rw [h0, h1]; omega
  · rw [h] at ha hl ⊢
    have h0 := ha 0 (by omega); have h1 := ha 1 (by omega); have h2 := ha 2 (by omega)
    refine size_of3 ?_
    unfold P3 rune3 at *
    rw [h0, h1, h2]; omega
  · rw [h] at ha hl ⊢
    have h0 := ha 0 (by omega); have h1 := ha 1 (by omega); have h2 := ha 2 (by omega); have h3 := ha 3 (by omega)
    refine size_of4 ?_
    unfold P4 rune4 at *
    rw [h0, h1, h2, h3]; omega

theorem size_le {l : List UInt8} (h : l ≠ []) : size l ≤ l.length := by
  have hp : 0 < l.length := List.length_pos_iff.2 h
  unfold size
  repeat' split
  all_goals omega

theorem size_take {l : List UInt8} (hs : size l ≠ 0) (h : l ≠ []) (r : List UInt8) : size (l.take (size l) ++ r) = size l := by
  have hle := size_le h
  refine size_local hs (by simp; omega) fun i hi => ?_
  rw [at_append (by simp; omega), at_take hi]

theorem size_append {l : List UInt8} (hs : size l ≠ 0) (h : l ≠ []) (r : List UInt8) : size (l ++ r) = size l := by
  have hle := size_le h
  refine size_local hs (by simp; omega) fun i hi => ?_
  rw [at_append (by omega)]

/-! ### spec.Coerced -/
def coerced (l : List UInt8) : List UInt8 :=
  if h : l = [] then []
  else if h0 : size l = 0 then [239, 191, 189] ++ coerced (l.drop 1)
  else l.take (size l) ++ coerced (l.drop (size l))
  termination_by l.length
  decreasing_by
    all_goals (have := List.length_pos_iff.2 (by assumption : l ≠ []); simp only [List.length_drop]; omega)

theorem coerced_nil : coerced [] = [] := by rw [coerced]; simp
theorem coerced_zero {l : List UInt8} (h : l ≠ []) (h0 : size l = 0) : coerced l = [239, 191, 189] ++ coerced (l.drop 1) := by
  rw [coerced, dif_neg h, dif_pos h0]
theorem coerced_some {l : List UInt8} (h : l ≠ []) (h0 : size l ≠ 0) : coerced l = l.take (size l) ++ coerced (l.drop (size l)) := by
  rw [coerced, dif_neg h, dif_neg h0]

/-! ### appendEscapedJSONString -/
/-- an entry of safeSet -/
def okB (b : Nat) : Bool := decide (32 ≤ b) && (decide (b ≠ 34) && decide (b ≠ 92))
/-- a digit of hex -/
def nib (n : Nat) : UInt8 := UInt8.ofNat (if n < 10 then 48 + n else 87 + n)

def chunkA (b : Nat) : List UInt8 :=
  if okB b = true then [UInt8.ofNat b]
  else if b = 92 ∨ b = 34 then [92, UInt8.ofNat b]
  else if b = 10 then [92, 110]
  else if b = 13 then [92, 114]
  else if b = 9 then [92, 116]
  else [92, 117, 48, 48, nib (b / 16), nib (b % 16)]

/-- what the character (or the byte) at the head becomes, and how many bytes it has -/
def chunk (l : List UInt8) : List UInt8 × Nat :=
  if at' l 0 < 128 then (chunkA (at' l 0), 1)
  else if size l = 0 then ([239, 191, 189], 1)
  else if (dec l).1 = 8232 then ([92, 117, 50, 48, 50, 56], size l)
  else if (dec l).1 = 8233 then ([92, 117, 50, 48, 50, 57], size l)
  else (l.take (size l), size l)

theorem chunk_pos (l : List UInt8) : 1 ≤ (chunk l).2 := by
  unfold chunk
  repeat' split
  all_goals (simp only; omega)
theorem chunk_le {l : List UInt8} (h : l ≠ []) : (chunk l).2 ≤ l.length := by
  have hp : 0 < l.length := List.length_pos_iff.2 h
  have := size_le h
  unfold chunk
  repeat' split
  all_goals (simp only; omega)

def esc (l : List UInt8) : List UInt8 :=
  if _h : l = [] then [] else (chunk l).1 ++ esc (l.drop (chunk l).2)
  termination_by l.length
  decreasing_by
    have := List.length_pos_iff.2 (by assumption : l ≠ []); have := chunk_pos l; simp only [List.length_drop]; omega

theorem esc_nil : esc [] = [] := by rw [esc]; simp
theorem esc_some {l : List UInt8} (h : l ≠ []) : esc l = (chunk l).1 ++ esc (l.drop (chunk l).2) := by rw [esc, dif_neg h]

theorem chunkA_len (b : Nat) : 1 ≤ (chunkA b).length ∧ (chunkA b).length ≤ 6 := by
  unfold chunkA
  repeat' split
  all_goals simp
theorem chunk_len {l : List UInt8} (h : l ≠ []) : (chunk l).1.length ≤ 6 * (chunk l).2 := by
  have := chunkA_len (at' l 0)
  have := size_le h
  have hp : 0 < l.length := List.length_pos_iff.2 h
  unfold chunk
  repeat' split
  all_goals (simp; try omega)

theorem esc_len : ∀ (n : Nat) (l : List UInt8), l.length = n → (esc l).length ≤ 6 * l.length := by
  intro n
  induction n using Nat.strongRecOn with
  | ind n ih =>
    intro l hn
    by_cases h : l = []
    · subst h; simp [esc_nil]
    · have h1 := chunk_pos l; have h2 := chunk_le h; have h3 := chunk_len h
      have hp : 0 < l.length := List.length_pos_iff.2 h
      have := ih (l.length - (chunk l).2) (by omega) (l.drop (chunk l).2) (by simp)
      rw [esc_some h]
      simp only [List.length_append, List.length_drop] at this ⊢
      omega

/-! ### the three kinds of chunks -/
/-- characters that stand as they are -/
structure Raw (c : List UInt8) : Prop where
  pos : 1 ≤ c.length
  le : c.length ≤ 4
  size : ∀ r, size (c ++ r) = c.length
  low : 32 ≤ at' c 0
  quote : at' c 0 ≠ 34
  slash : at' c 0 ≠ 92

/-- an escape of two bytes: what stands behind the backslash, what it means -/
def Pair (e x : UInt8) : Prop := (e = 92 ∧ x = 92) ∨ (e = 34 ∧ x = 34) ∨ (e = 110 ∧ x = 10) ∨ (e = 114 ∧ x = 13) ∨ (e = 116 ∧ x = 9)

/-- what spec.coded gives for the numbers that stand in escapes -/
def code (v : Nat) : List UInt8 := if v < 128 then [UInt8.ofNat v] else [226, 128, UInt8.ofNat (v - 8064)]

inductive View (l : List UInt8) : Prop where
  | raw (h : Raw (chunk l).1) (hc : coerced l = (chunk l).1 ++ coerced (l.drop (chunk l).2))
  | two (e x : UInt8) (h : Pair e x) (hl : (chunk l).1 = [92, e]) (hc : coerced l = [x] ++ coerced (l.drop (chunk l).2))
  | six (a b c d : Nat) (ha : a < 16) (hb : b < 16) (hcc : c < 16) (hd : d < 16) (hl : (chunk l).1 = [92, 117, nib a, nib b, nib c, nib d])
      (hv : 4096 * a + 256 * b + 16 * c + d < 32 ∨ 4096 * a + 256 * b + 16 * c + d = 8232 ∨ 4096 * a + 256 * b + 16 * c + d = 8233)
      (hc : coerced l = code (4096 * a + 256 * b + 16 * c + d) ++ coerced (l.drop (chunk l).2))

theorem raw_one {b : UInt8} (h : b.toNat < 128) (hk : okB b.toNat = true) : Raw [b] := by
  simp only [okB, Bool.and_eq_true, decide_eq_true_eq] at hk
  refine ⟨by simp, by simp, fun r => ?_, hk.1, hk.2.1, hk.2.2⟩
  have : at' ([b] ++ r) 0 < 128 := h
  unfold size
  rw [if_pos this]; rfl

theorem raw_fffd : Raw [239, 191, 189] := by
  refine ⟨by simp, by simp, fun r => ?_, by decide, by decide, by decide⟩
  have h0 : at' ([239, 191, 189] ++ r) 0 = 239 := rfl
  have h1 : at' ([239, 191, 189] ++ r) 1 = 191 := rfl
  have h2 : at' ([239, 191, 189] ++ r) 2 = 189 := rfl
  unfold size
  rw [h0, h1, h2]
  simp

theorem head_eq {l : List UInt8} (h : l ≠ []) : l.take 1 = [UInt8.ofNat (at' l 0)] := by
  cases l with
  | nil => exact absurd rfl h
  | cons b r => simp [at']

theorem coerced_low {l : List UInt8} (h : l ≠ []) (hb : at' l 0 < 128) : coerced l = [UInt8.ofNat (at' l 0)] ++ coerced (l.drop 1) := by
  have hs : size l = 1 := by unfold size; rw [if_pos hb]
  rw [coerced_some h (by omega), hs, head_eq h]

theorem view {l : List UInt8} (h : l ≠ []) : View l := by
  by_cases hb : at' l 0 < 128
  · have e2 : (chunk l).2 = 1 := by unfold chunk; rw [if_pos hb]
    have e1 : (chunk l).1 = chunkA (at' l 0) := by unfold chunk; rw [if_pos hb]
    have hc := coerced_low h hb
    have hofN : (UInt8.ofNat (at' l 0)).toNat = at' l 0 := by
      have := at_lt l 0
      simp [UInt8.toNat_ofNat']; omega
    unfold chunkA at e1
    split at e1
    · rename_i hk
      refine .raw ?_ (by rw [e1, e2]; exact hc)
      rw [e1]
      exact raw_one (by rw [hofN]; exact hb) (by rw [hofN]; exact hk)
    split at e1
    · rename_i hk
      refine .two _ _ ?_ e1 (by rw [e2]; exact hc)
      rcases hk with hk | hk
      · rw [hk]; exact .inl ⟨rfl, rfl⟩
      · rw [hk]; exact .inr (.inl ⟨rfl, rfl⟩)
    split at e1
    · rename_i hk
      exact .two 110 10 (.inr (.inr (.inl ⟨rfl, rfl⟩))) e1 (by rw [e2, hc, hk]; rfl)
    split at e1
    · rename_i hk
      exact .two 114 13 (.inr (.inr (.inr (.inl ⟨rfl, rfl⟩)))) e1 (by rw [e2, hc, hk]; rfl)
    split at e1
    · rename_i hk
      exact .two 116 9 (.inr (.inr (.inr (.inr ⟨rfl, rfl⟩)))) e1 (by rw [e2, hc, hk]; rfl)
    · rename_i hk n1 n2 n3 n4
      have hlow : at' l 0 < 32 := by
        simp only [okB, Bool.and_eq_true, decide_eq_true_eq] at hk
        omega
      refine .six 0 0 (at' l 0 / 16) (at' l 0 % 16) (by omega) (by omega) (by omega) (by omega) e1 (by omega) ?_
      rw [e2, hc]
      have e : 4096 * 0 + 256 * 0 + 16 * (at' l 0 / 16) + at' l 0 % 16 = at' l 0 := by omega
      rw [e, code, if_pos (by omega)]
  · by_cases hs : size l = 0
    · have e2 : (chunk l).2 = 1 := by unfold chunk; rw [if_neg hb, if_pos hs]
      have e1 : (chunk l).1 = [239, 191, 189] := by unfold chunk; rw [if_neg hb, if_pos hs]
      exact .raw (by rw [e1]; exact raw_fffd) (by rw [e1, e2]; exact coerced_zero h hs)
    · obtain ⟨d2, s2, s4, sl, r8, r9, r3, _⟩ := dec_some (by omega) hs
      have hc := coerced_some h hs
      by_cases h8 : (dec l).1 = 8232
      · have e2 : (chunk l).2 = size l := by unfold chunk; rw [if_neg hb, if_neg hs, if_pos h8]
        have e1 : (chunk l).1 = [92, 117, 50, 48, 50, 56] := by unfold chunk; rw [if_neg hb, if_neg hs, if_pos h8]
        refine .six 2 0 2 8 (by omega) (by omega) (by omega) (by omega) e1 (by omega) ?_
        rw [e2, hc]
        obtain ⟨q0, q1, q2⟩ := r8.1 h8
        have k3 := r3 (.inl h8)
        congr 1
        rw [k3]
        match l, sl with
        | x0 :: x1 :: x2 :: r, _ =>
          have z0 : x0 = 226 := UInt8.toNat_inj.1 q0
          have z1 : x1 = 128 := UInt8.toNat_inj.1 q1
          have z2 : x2 = 168 := UInt8.toNat_inj.1 q2
          subst z0; subst z1; subst z2; rfl
        | [_, _], hh => simp at hh; omega
        | [_], hh => simp at hh; omega
        | [], hh => simp at hh; omega
      · by_cases h9 : (dec l).1 = 8233
        · have e2 : (chunk l).2 = size l := by unfold chunk; rw [if_neg hb, if_neg hs, if_neg h8, if_pos h9]
          have e1 : (chunk l).1 = [92, 117, 50, 48, 50, 57] := by unfold chunk; rw [if_neg hb, if_neg hs, if_neg h8, if_pos h9]
          refine .six 2 0 2 9 (by omega) (by omega) (by omega) (by omega) e1 (by omega) ?_
          rw [e2, hc]
          obtain ⟨q0, q1, q2⟩ := r9.1 h9
          have k3 := r3 (.inr h9)
          congr 1
          rw [k3]
          match l, sl with
          | x0 :: x1 :: x2 :: r, _ =>
            have z0 : x0 = 226 := UInt8.toNat_inj.1 q0
            have z1 : x1 = 128 := UInt8.toNat_inj.1 q1
            have z2 : x2 = 169 := UInt8.toNat_inj.1 q2
            subst z0; subst z1; subst z2; rfl
          | [_, _], hh => simp at hh; omega
          | [_], hh => simp at hh; omega
          | [], hh => simp at hh; omega
        · have e2 : (chunk l).2 = size l := by unfold chunk; rw [if_neg hb, if_neg hs, if_neg h8, if_neg h9]
          have e1 : (chunk l).1 = l.take (size l) := by unfold chunk; rw [if_neg hb, if_neg hs, if_neg h8, if_neg h9]
          have len : (l.take (size l)).length = size l := by simp; omega
          refine .raw ?_ (by rw [e1, e2]; exact hc)
          rw [e1]
          have a0 : at' (l.take (size l)) 0 = at' l 0 := at_take (by omega)
          exact ⟨by omega, by omega, fun r => by rw [size_take hs h, len], by omega, by omega, by omega⟩

end Go.Proofs.YthiahhieiojgdaaDoor
