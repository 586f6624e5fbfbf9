/-
  spec.size at every string that is not empty: 'size'. Conditions: at most 2^40 bytes.
-/
import Derived.Test.YthiahhieiojgdaaDoorSize
namespace Go.Proofs.YthiahhieiojgdaaDoor
open Go.RowKit

/-- spec.size -/
theorem size_any (s : ByteArray) (w : World) (hz : 0 < s.size) (hs : s.size ≤ 1099511627776) :
    Calls Tryd.prog 23 #[.string s] w fun e w' => e = .returned (.int .i64 (size s.data.toList)) ∧ w = w' := by
  have hL := Lib.size_list s
  have a0 : at' s.data.toList 0 = (s[0]'hz).toNat := (getElem_at s 0 hz).symm
  have l0 := (s[0]'hz).toNat_lt
  by_cases c1 : at' s.data.toList 0 < 128
  · rw [size_of1 c1]
    exact size_low s w _ hz rfl (by omega)
  by_cases c0 : (128 ≤ at' s.data.toList 0 ∧ at' s.data.toList 0 < 194) ∨ 245 ≤ at' s.data.toList 0
  · have e : size s.data.toList = 0 := by
      rcases size_cases s.data.toList with h | ⟨h, p⟩ | ⟨h, p⟩ | ⟨h, p⟩ | ⟨h, p⟩
      · exact h
      all_goals (first | (unfold P2 at p; omega) | (unfold P3 rune3 at p; omega) | (unfold P4 rune4 at p; omega) | omega)
    rw [e]
    exact size_none s w _ hz rfl (by omega)
  by_cases c2 : at' s.data.toList 0 < 224
  · by_cases hn2 : s.size < 2
    · have e : size s.data.toList = 0 := by
        rcases size_cases s.data.toList with h | ⟨h, p⟩ | ⟨h, p⟩ | ⟨h, p⟩ | ⟨h, p⟩
        · exact h
        all_goals (first | (unfold P2 at p; omega) | (unfold P3 rune3 at p; omega) | (unfold P4 rune4 at p; omega) | omega)
      rw [e]
      exact size_2_short s w _ hz rfl (by omega) (by omega) hn2
    have a1 : at' s.data.toList 1 = (s[1]'(by omega)).toNat := (getElem_at s 1 (by omega)).symm
    by_cases g1 : at' s.data.toList 1 / 64 = 2
    rotate_left
    · have e : size s.data.toList = 0 := by
        rcases size_cases s.data.toList with h | ⟨h, p⟩ | ⟨h, p⟩ | ⟨h, p⟩ | ⟨h, p⟩
        · exact h
        all_goals (first | (unfold P2 at p; omega) | (unfold P3 rune3 at p; omega) | (unfold P4 rune4 at p; omega) | omega)
      rw [e]
      exact size_2_0 s w _ _ (by omega) rfl rfl (by omega) (by omega) (by omega) hs
    have e : size s.data.toList = 2 := size_of2 (by unfold P2; omega)
    rw [e]
    exact size_2_1 s w _ _ (by omega) rfl rfl (by omega) (by omega) (by omega) hs
  by_cases c3 : at' s.data.toList 0 < 240
  · by_cases hn3 : s.size < 3
    · have e : size s.data.toList = 0 := by
        rcases size_cases s.data.toList with h | ⟨h, p⟩ | ⟨h, p⟩ | ⟨h, p⟩ | ⟨h, p⟩
        · exact h
        all_goals (first | (unfold P2 at p; omega) | (unfold P3 rune3 at p; omega) | (unfold P4 rune4 at p; omega) | omega)
      rw [e]
      exact size_3_short s w _ hz rfl (by omega) (by omega) hn3
    have a1 : at' s.data.toList 1 = (s[1]'(by omega)).toNat := (getElem_at s 1 (by omega)).symm
    have a2 : at' s.data.toList 2 = (s[2]'(by omega)).toNat := (getElem_at s 2 (by omega)).symm
    by_cases g1 : at' s.data.toList 1 / 64 = 2
    rotate_left
    · have e : size s.data.toList = 0 := by
        rcases size_cases s.data.toList with h | ⟨h, p⟩ | ⟨h, p⟩ | ⟨h, p⟩ | ⟨h, p⟩
        · exact h
        all_goals (first | (unfold P2 at p; omega) | (unfold P3 rune3 at p; omega) | (unfold P4 rune4 at p; omega) | omega)
      rw [e]
      exact size_3_0 s w _ _ (by omega) rfl rfl (by omega) (by omega) (by omega) hs
    by_cases g2 : at' s.data.toList 2 / 64 = 2
    rotate_left
    · have e : size s.data.toList = 0 := by
        rcases size_cases s.data.toList with h | ⟨h, p⟩ | ⟨h, p⟩ | ⟨h, p⟩ | ⟨h, p⟩
        · exact h
        all_goals (first | (unfold P2 at p; omega) | (unfold P3 rune3 at p; omega) | (unfold P4 rune4 at p; omega) | omega)
      rw [e]
      exact size_3_1 s w _ _ _ (by omega) rfl rfl rfl (by omega) (by omega) (by omega) (by omega) hs
    have hr : rune3 s.data.toList = (s[0]'hz).toNat % 16 * 4096 + (s[1]'(by omega)).toNat % 64 * 64 + (s[2]'(by omega)).toNat % 64 := by unfold rune3; rw [a0, a1, a2]
    by_cases r1 : rune3 s.data.toList < 2048
    · have e : size s.data.toList = 0 := by
        rcases size_cases s.data.toList with h | ⟨h, p⟩ | ⟨h, p⟩ | ⟨h, p⟩ | ⟨h, p⟩
        · exact h
        all_goals (first | (unfold P2 at p; omega) | (unfold P3 at p; omega) | (unfold P4 rune4 at p; omega) | omega)
      rw [e]
      exact size_3_2a s w _ _ _ (by omega) rfl rfl rfl (by omega) (by omega) (by omega) (by omega) (by omega) hs
    by_cases r2 : 55296 ≤ rune3 s.data.toList ∧ rune3 s.data.toList ≤ 57343
    · have e : size s.data.toList = 0 := by
        rcases size_cases s.data.toList with h | ⟨h, p⟩ | ⟨h, p⟩ | ⟨h, p⟩ | ⟨h, p⟩
        · exact h
        all_goals (first | (unfold P2 at p; omega) | (unfold P3 at p; omega) | (unfold P4 rune4 at p; omega) | omega)
      rw [e]
      exact size_3_2b s w _ _ _ (by omega) rfl rfl rfl (by omega) (by omega) (by omega) (by omega) (by omega) hs
    have e : size s.data.toList = 3 := size_of3 (by unfold P3; omega)
    rw [e]
    by_cases r3 : 57343 < rune3 s.data.toList
    · exact size_3_2d s w _ _ _ (by omega) rfl rfl rfl (by omega) (by omega) (by omega) (by omega) (by omega) hs
    · exact size_3_2c s w _ _ _ (by omega) rfl rfl rfl (by omega) (by omega) (by omega) (by omega) (by omega) hs
  by_cases hn4 : s.size < 4
  · have e : size s.data.toList = 0 := by
      rcases size_cases s.data.toList with h | ⟨h, p⟩ | ⟨h, p⟩ | ⟨h, p⟩ | ⟨h, p⟩
      · exact h
      all_goals (first | (unfold P2 at p; omega) | (unfold P3 rune3 at p; omega) | (unfold P4 rune4 at p; omega) | omega)
    rw [e]
    exact size_4_short s w _ hz rfl (by omega) (by omega) hn4
  have a1 : at' s.data.toList 1 = (s[1]'(by omega)).toNat := (getElem_at s 1 (by omega)).symm
  have a2 : at' s.data.toList 2 = (s[2]'(by omega)).toNat := (getElem_at s 2 (by omega)).symm
  have a3 : at' s.data.toList 3 = (s[3]'(by omega)).toNat := (getElem_at s 3 (by omega)).symm
  by_cases g1 : at' s.data.toList 1 / 64 = 2
  rotate_left
  · have e : size s.data.toList = 0 := by
      rcases size_cases s.data.toList with h | ⟨h, p⟩ | ⟨h, p⟩ | ⟨h, p⟩ | ⟨h, p⟩
      · exact h
      all_goals (first | (unfold P2 at p; omega) | (unfold P3 rune3 at p; omega) | (unfold P4 rune4 at p; omega) | omega)
    rw [e]
    exact size_4_0 s w _ _ (by omega) rfl rfl (by omega) (by omega) (by omega) hs
  by_cases g2 : at' s.data.toList 2 / 64 = 2
  rotate_left
  · have e : size s.data.toList = 0 := by
      rcases size_cases s.data.toList with h | ⟨h, p⟩ | ⟨h, p⟩ | ⟨h, p⟩ | ⟨h, p⟩
      · exact h
      all_goals (first | (unfold P2 at p; omega) | (unfold P3 rune3 at p; omega) | (unfold P4 rune4 at p; omega) | omega)
    rw [e]
    exact size_4_1 s w _ _ _ (by omega) rfl rfl rfl (by omega) (by omega) (by omega) (by omega) hs
  by_cases g3 : at' s.data.toList 3 / 64 = 2
  rotate_left
  · have e : size s.data.toList = 0 := by
      rcases size_cases s.data.toList with h | ⟨h, p⟩ | ⟨h, p⟩ | ⟨h, p⟩ | ⟨h, p⟩
      · exact h
      all_goals (first | (unfold P2 at p; omega) | (unfold P3 rune3 at p; omega) | (unfold P4 rune4 at p; omega) | omega)
    rw [e]
    exact size_4_2 s w _ _ _ _ (by omega) rfl rfl rfl rfl (by omega) (by omega) (by omega) (by omega) (by omega) hs
  have hr : rune4 s.data.toList = (s[0]'hz).toNat % 8 * 262144 + (s[1]'(by omega)).toNat % 64 * 4096 + (s[2]'(by omega)).toNat % 64 * 64 + (s[3]'(by omega)).toNat % 64 := by unfold rune4; rw [a0, a1, a2, a3]
  by_cases r1 : rune4 s.data.toList < 65536
  · have e : size s.data.toList = 0 := by
      rcases size_cases s.data.toList with h | ⟨h, p⟩ | ⟨h, p⟩ | ⟨h, p⟩ | ⟨h, p⟩
      · exact h
      all_goals (first | (unfold P2 at p; omega) | (unfold P3 rune3 at p; omega) | (unfold P4 at p; omega) | omega)
    rw [e]
    exact size_4_3a s w _ _ _ _ (by omega) rfl rfl rfl rfl (by omega) (by omega) (by omega) (by omega) (by omega) (by omega) hs
  by_cases r2 : 1114111 < rune4 s.data.toList
  · have e : size s.data.toList = 0 := by
      rcases size_cases s.data.toList with h | ⟨h, p⟩ | ⟨h, p⟩ | ⟨h, p⟩ | ⟨h, p⟩
      · exact h
      all_goals (first | (unfold P2 at p; omega) | (unfold P3 rune3 at p; omega) | (unfold P4 at p; omega) | omega)
    rw [e]
    exact size_4_3b s w _ _ _ _ (by omega) rfl rfl rfl rfl (by omega) (by omega) (by omega) (by omega) (by omega) (by omega) hs
  have e : size s.data.toList = 4 := size_of4 (by unfold P4; omega)
  rw [e]
  exact size_4_3c s w _ _ _ _ (by omega) rfl rfl rfl rfl (by omega) (by omega) (by omega) (by omega) (by omega) (by omega) hs
end Go.Proofs.YthiahhieiojgdaaDoor
