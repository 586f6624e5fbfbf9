/-
  PLAIN LAWS OF 'esc': joined strings; strings that stand as they are; one byte; what is never left. No program in sight. Conditions: none.
-/
import Derived.Test.YthiahhieiojgdaaDoorEsc
namespace Go.Proofs.YthiahhieiojgdaaDoor
open Go.Lib

theorem take_append {l r : List UInt8} {k : Nat} (h : k ≤ l.length) : (l ++ r).take k = l.take k := by
  rw [List.take_append_of_le_length h]
theorem drop_append {l r : List UInt8} {k : Nat} (h : k ≤ l.length) : (l ++ r).drop k = l.drop k ++ r := by
  rw [List.drop_append_of_le_length h]

theorem low_of_size {l : List UInt8} (h : at' l 0 < 128) : size l ≠ 0 := by rw [size_of1 h]; omega

theorem chunk_append {l : List UInt8} (hs : size l ≠ 0) (h : l ≠ []) (r : List UInt8) : chunk (l ++ r) = chunk l := by
  have hp : 0 < l.length := List.length_pos_iff.2 h
  have e0 : at' (l ++ r) 0 = at' l 0 := at_append hp
  have es : size (l ++ r) = size l := size_append hs h r
  by_cases hb : at' l 0 < 128
  · unfold chunk; rw [e0, if_pos hb, if_pos hb]
  · obtain ⟨_, s2, s4, sl, r8, r9, r3, _, b0, b1, b1', b3, _⟩ := dec_some (l := l) (by omega) hs
    obtain ⟨_, _, _, _, q8, q9, q3, _⟩ := dec_some (l := l ++ r) (by omega) (by omega)
    have e1 : at' (l ++ r) 1 = at' l 1 := at_append (by omega)
    have e2 : 3 ≤ size l → at' (l ++ r) 2 = at' l 2 := fun h3 => at_append (by omega)
    rw [es] at q3
    have w8 : (dec (l ++ r)).1 = 8232 ↔ (dec l).1 = 8232 :=
      ⟨fun hh => r8.2 (by have k := q3 (.inl hh); have z := e2 (by omega); have := q8.1 hh; omega), fun hh => q8.2 (by have k := r3 (.inl hh); have z := e2 (by omega); have := r8.1 hh; omega)⟩
    have w9 : (dec (l ++ r)).1 = 8233 ↔ (dec l).1 = 8233 :=
      ⟨fun hh => r9.2 (by have k := q3 (.inr hh); have z := e2 (by omega); have := q9.1 hh; omega), fun hh => q9.2 (by have k := r3 (.inr hh); have z := e2 (by omega); have := r9.1 hh; omega)⟩
    unfold chunk
    rw [e0, es, if_neg hb, if_neg hb, if_neg hs, if_neg hs]
    simp only [w8, w9, take_append sl]

theorem chunk_size {l : List UInt8} (hs : size l ≠ 0) : (chunk l).2 = size l := by
  unfold chunk
  by_cases hb : at' l 0 < 128
  · rw [if_pos hb, size_of1 hb]
  · rw [if_neg hb, if_neg hs]
    repeat' split
    all_goals rfl

/-- a string that is UTF-8 begins with a character, and what follows it is UTF-8 -/
theorem valid_step {l : List UInt8} (h : l ≠ []) (hv : coerced l = l) : size l ≠ 0 ∧ coerced (l.drop (size l)) = l.drop (size l) := by
  by_cases hs : size l = 0
  · exfalso
    rw [coerced_zero h hs] at hv
    have hr := raw_fffd.size (coerced (l.drop 1))
    rw [hv] at hr
    simp at hr
    omega
  · refine ⟨hs, ?_⟩
    have hc := coerced_some h hs
    rw [hv] at hc
    have hle := size_le h
    have : l.take (size l) ++ l.drop (size l) = l.take (size l) ++ coerced (l.drop (size l)) := by rw [List.take_append_drop]; exact hc
    exact (List.append_cancel_left this).symm

/-- STRINGS OF UTF-8 ONE BEHIND THE OTHER -/
theorem esc_joins : ∀ (n : Nat) (a b : List UInt8), a.length = n → coerced a = a → esc (a ++ b) = esc a ++ esc b := by
  intro n
  induction n using Nat.strongRecOn with
  | ind n ih =>
    intro a b hn hv
    by_cases h : a = []
    · subst h; simp [esc_nil]
    · obtain ⟨hs, hv'⟩ := valid_step h hv
      have hle := size_le h
      have hne : a ++ b ≠ [] := by simp [h]
      rw [esc_some hne, chunk_append hs h, esc_some h, chunk_size hs, drop_append hle, ih (a.length - size a) (by omega) _ b (by simp) hv', List.append_assoc]

/-- CHARACTERS OF ASCII THAT STAND AS THEY ARE -/
theorem esc_plain : ∀ (s : List UInt8), (∀ b, b ∈ s → 32 ≤ b.toNat ∧ b.toNat ≤ 126 ∧ b.toNat ≠ 34 ∧ b.toNat ≠ 92) → esc s = s
  | [], _ => esc_nil
  | b :: r, h => by
    obtain ⟨h1, h2, h3, h4⟩ := h b (by simp)
    have hb : at' (b :: r) 0 = b.toNat := rfl
    have hok : okB b.toNat = true := by simp [okB, h1, h3, h4]
    have hc : chunk (b :: r) = ([b], 1) := by
      unfold chunk
      rw [hb, if_pos (by omega)]
      unfold chunkA
      rw [if_pos hok]
      simp
    rw [esc_some (by simp), hc]
    simp only [List.drop_succ_cons, List.drop_zero, List.singleton_append]
    rw [esc_plain r (fun x hx => h x (by simp [hx]))]

/-- ONE CHARACTER OF ASCII -/
theorem esc_one (c : UInt8) (h : c.toNat < 128) : esc [c] = chunkA c.toNat := by
  have hc : chunk [c] = (chunkA c.toNat, 1) := by
    unfold chunk
    rw [if_pos (show at' [c] 0 < 128 from h)]; rfl
  rw [esc_some (by simp), hc]
  simp [esc_nil]
theorem esc_safe (c : UInt8) (h : c.toNat < 128) : okB c.toNat = decide (esc [c] = [c]) := by
  rw [esc_one c h]
  unfold chunkA
  split
  · rename_i hk; rw [hk]; simp
  · rename_i hk
    rw [Bool.not_eq_true] at hk
    rw [hk]
    symm
    rw [decide_eq_false_iff_not]
    repeat' split
    all_goals simp

/-! ### what is never left -/
theorem nib_low {n : Nat} (h : n < 16) : 48 ≤ (nib n).toNat ∧ (nib n).toNat < 103 := by
  unfold nib
  rw [UInt8.toNat_ofNat']
  split <;> omega

theorem at_mem {c : List UInt8} {j : Nat} (h : j < c.length) : ∃ x, x ∈ c ∧ at' c j = x.toNat := by
  refine ⟨c[j], List.getElem_mem _, ?_⟩
  simp [at', h]

theorem chunkA_low (b : Nat) (hb : b < 128) : ∀ x, x ∈ chunkA b → 32 ≤ x.toNat ∧ x.toNat < 128 := by
  have n1 := nib_low (n := b / 16) (by omega)
  have n2 := nib_low (n := b % 16) (by omega)
  unfold chunkA
  repeat' split
  · rename_i hk
    simp only [okB, Bool.and_eq_true, decide_eq_true_eq] at hk
    intro x hx
    simp at hx; subst hx
    rw [UInt8.toNat_ofNat']; omega
  · rename_i hk
    intro x hx
    simp at hx
    rcases hx with rfl | rfl
    · decide
    · rw [UInt8.toNat_ofNat']; omega
  · intro x hx; simp at hx; rcases hx with rfl | rfl <;> decide
  · intro x hx; simp at hx; rcases hx with rfl | rfl <;> decide
  · intro x hx; simp at hx; rcases hx with rfl | rfl <;> decide
  · intro x hx
    simp at hx
    rcases hx with rfl | rfl | rfl | rfl | rfl
    · decide
    · decide
    · decide
    · omega
    · omega

def Ctl (c : List UInt8) : Prop := ∀ j, j < c.length → 32 ≤ at' c j ∧ (at' c j = 226 → j = 0 ∧ c.length = 3 ∧ ¬ (at' c 1 = 128 ∧ (at' c 2 = 168 ∨ at' c 2 = 169)))

theorem ctl_low {c : List UInt8} (h : ∀ x, x ∈ c → 32 ≤ x.toNat ∧ x.toNat < 128) : Ctl c := by
  intro j hj
  obtain ⟨x, hx, e⟩ := at_mem hj
  have := h x hx
  exact ⟨by omega, fun h226 => by omega⟩

theorem chunk_ctl {l : List UInt8} : Ctl (chunk l).1 := by
  unfold chunk
  by_cases hb : at' l 0 < 128
  · rw [if_pos hb]; exact ctl_low (chunkA_low _ hb)
  rw [if_neg hb]
  by_cases hs : size l = 0
  · rw [if_pos hs]
    intro j hj
    match j, hj with
    | 0, _ => exact ⟨by decide, by decide⟩
    | 1, _ => exact ⟨by decide, by decide⟩
    | 2, _ => exact ⟨by decide, by decide⟩
    | j + 3, hj => simp at hj; omega
  rw [if_neg hs]
  obtain ⟨_, s2, s4, sl, r8, r9, r3, _, b0, b1, b1', b3, b4⟩ := dec_some (l := l) (by omega) hs
  by_cases h8 : (dec l).1 = 8232
  · rw [if_pos h8]; exact ctl_low (c := [92, 117, 50, 48, 50, 56]) (by decide)
  rw [if_neg h8]
  by_cases h9 : (dec l).1 = 8233
  · rw [if_pos h9]; exact ctl_low (c := [92, 117, 50, 48, 50, 57]) (by decide)
  rw [if_neg h9]
  intro j hj
  have len : (l.take (size l)).length = size l := by simp; omega
  simp only at hj ⊢
  rw [len] at hj ⊢
  rw [at_take hj]
  match j, hj with
  | 0, _ =>
    refine ⟨by omega, fun h226 => ⟨rfl, ?_, ?_⟩⟩
    · rcases size_cases l with h | ⟨h, p⟩ | ⟨h, p⟩ | ⟨h, p⟩ | ⟨h, p⟩
      · omega
      · omega
      · have := p.2.1; omega
      · exact h
      · have := p.1; omega
    · rintro ⟨h1, h2⟩
      have h3 : size l = 3 := by
        rcases size_cases l with h | ⟨h, p⟩ | ⟨h, p⟩ | ⟨h, p⟩ | ⟨h, p⟩
        · omega
        · omega
        · have := p.2.1; omega
        · exact h
        · have := p.1; omega
      rw [at_take (by omega)] at h1
      rw [at_take (by omega)] at h2
      rcases h2 with h2 | h2
      · exact h8 (r8.2 ⟨h226, h1, h2⟩)
      · exact h9 (r9.2 ⟨h226, h1, h2⟩)
  | 1, _ => exact ⟨by omega, fun h => by omega⟩
  | 2, hj => have := b3 (by omega); exact ⟨by omega, fun h => by omega⟩
  | 3, hj => have := b4 (by omega); exact ⟨by omega, fun h => by omega⟩
  | j + 4, hj => omega

theorem at_append_right {c r : List UInt8} {i : Nat} (h : c.length ≤ i) : at' (c ++ r) i = at' r (i - c.length) := by
  simp [at', List.getElem?_append_right h]

/-- NO CONTROL CHARACTER, NO SEPARATOR IS LEFT -/
theorem esc_controls : ∀ (n : Nat) (l : List UInt8), l.length = n → ∀ i, i < (esc l).length → 32 ≤ at' (esc l) i ∧ ¬ (at' (esc l) i = 226 ∧ at' (esc l) (i + 1) = 128 ∧ (at' (esc l) (i + 2) = 168 ∨ at' (esc l) (i + 2) = 169)) := by
  intro n
  induction n using Nat.strongRecOn with
  | ind n ih =>
    intro l hn i hi
    by_cases h : l = []
    · subst h; simp [esc_nil] at hi
    · have h1 := chunk_pos l; have h2 := chunk_le h
      have hp : 0 < l.length := List.length_pos_iff.2 h
      have ih' := ih (l.length - (chunk l).2) (by omega) (l.drop (chunk l).2) (by simp)
      have hc := chunk_ctl (l := l)
      rw [esc_some h] at hi ⊢
      generalize (chunk l).1 = c at *
      generalize esc (l.drop (chunk l).2) = r at *
      by_cases hj : i < c.length
      · obtain ⟨k1, k2⟩ := hc i hj
        rw [at_append hj]
        refine ⟨k1, fun ⟨h226, g1, g2⟩ => ?_⟩
        obtain ⟨rfl, h3, hno⟩ := k2 h226
        rw [at_append (by omega)] at g1
        rw [at_append (by omega)] at g2
        exact hno ⟨g1, g2⟩
      · have hi' : i - c.length < r.length := by rw [List.length_append] at hi; omega
        have := ih' (i - c.length) hi'
        rw [at_append_right (by omega), at_append_right (by omega), at_append_right (by omega)]
        rw [show i + 1 - c.length = i - c.length + 1 from by omega, show i + 2 - c.length = i - c.length + 2 from by omega]
        exact this

end Go.Proofs.YthiahhieiojgdaaDoor
