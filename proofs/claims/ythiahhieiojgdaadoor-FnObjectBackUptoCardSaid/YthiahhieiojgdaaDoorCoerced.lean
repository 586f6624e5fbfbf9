/-
  spec.Coerced at every string: 'coerced'; spec.Valid. Conditions: at most 2^40 bytes.
-/
import Derived.Test.YthiahhieiojgdaaDoorSizeAny
namespace Go.Proofs.YthiahhieiojgdaaDoor
open Go.RowKit

/-- The length of the string in a slot: for a loop's measure. -/
def strLen : Value → Nat | .string s => s.size | _ => 0

theorem append_list (a b : ByteArray) : (a ++ b).data.toList = a.data.toList ++ b.data.toList := by
  rw [ByteArray.data_append, Array.toList_append]
theorem size_eq_len (s : ByteArray) : s.data.toList.length = s.size := (Lib.size_list s).symm
theorem ne_nil {s : ByteArray} (h : 0 < s.size) : s.data.toList ≠ [] := by
  intro e
  have : s.data.toList.length = 0 := by rw [e]; rfl
  rw [size_eq_len] at this
  omega
theorem str_ext {s : ByteArray} {l : List UInt8} (h : s.data.toList = l) : s = ⟨l.toArray⟩ := by
  cases s with
  | mk d => subst h; simp

/-- what a round of Coerced does -/
structure Co (L : List UInt8) (T O : ByteArray) : Prop where
  eq : coerced L = O.data.toList ++ coerced T.data.toList
  le : T.size ≤ L.length
  small : O.size + 3 * T.size ≤ 3 * L.length

theorem Co.zero {L : List UInt8} {T O : ByteArray} (h : Co L T O) (hz : 0 < T.size) (hk : size T.data.toList = 0) : Co L (T.extract 1 T.size) (O ++ ⟨#[239, 191, 189]⟩) := by
  have h1 := h.le; have h2 := h.small
  refine ⟨?_, by simp; omega, by simp [ByteArray.size_append]; have : (ByteArray.mk #[239, 191, 189]).size = 3 := rfl; omega⟩
  rw [h.eq, coerced_zero (ne_nil hz) hk, extract_end, append_list, List.append_assoc]
theorem Co.some {L : List UInt8} {T O : ByteArray} (h : Co L T O) (hz : 0 < T.size) (hk : size T.data.toList ≠ 0) :
    Co L (T.extract (size T.data.toList) T.size) (O ++ T.extract 0 (size T.data.toList)) := by
  have h1 := h.le; have h2 := h.small
  have h3 := size_le (ne_nil hz)
  rw [size_eq_len] at h3
  refine ⟨?_, by simp; omega, by simp [ByteArray.size_append]; omega⟩
  rw [h.eq, coerced_some (ne_nil hz) hk, extract_end, append_list, extract_list, List.append_assoc]
  simp

theorem coerced_len (n : Nat) : ∀ l : List UInt8, l.length = n → (coerced l).length ≤ 3 * l.length := by
  induction n using Nat.strongRecOn with
  | ind n ih =>
    intro l hn
    by_cases h : l = []
    · subst h; simp [coerced_nil]
    · have hp : 0 < l.length := List.length_pos_iff.2 h
      by_cases hs : size l = 0
      · rw [coerced_zero h hs]
        have := ih (l.length - 1) (by omega) (l.drop 1) (by simp)
        simp at this ⊢; omega
      · rw [coerced_some h hs]
        have := size_le h
        have := ih (l.length - size l) (by omega) (l.drop (size l)) (by simp)
        simp at this ⊢; omega

set_option maxRecDepth 100000 in
set_option maxHeartbeats 1000000 in
theorem coerced_any (s : ByteArray) (w : World) (hs : s.size ≤ 1099511627776) :
    Calls Tryd.prog 12 #[.string s] w fun e w' => e = .returned (.string ⟨(coerced s.data.toList).toArray⟩) ∧ w = w' := by
  have h0 : Co s.data.toList s ⟨#[]⟩ := ⟨by simp, by rw [size_eq_len]; exact Nat.le_refl _, by rw [size_eq_len]; show 0 + _ ≤ _; omega⟩
  have hlen : s.data.toList.length ≤ 1099511627776 := by rw [size_eq_len]; exact hs
  go_enter Tryd.func12, Tryd.ntmps12
  go_wp2
  go_loop [0, 3] (fun t o => ∃ T O : ByteArray, t = .string T ∧ o = .string O ∧ Co s.data.toList T O) (fun t _ => strLen t)
  case atStart => exact ⟨s, ⟨#[]⟩, rfl, rfl, h0⟩
  case round =>
    obtain ⟨T, O, rfl, rfl, hco⟩ := hrel
    have h1 := hco.le
    have h2 := hco.small
    by_cases hz : 0 < T.size
    · have hzi : (0 : Int) < (T.size : Int) := by omega
      have cS := size_any T w hz (by omega)
      have hle := size_le (ne_nil hz)
      rw [size_eq_len] at hle
      have hCo := fun hk => hco.zero hz hk
      have hCo2 := fun hk => hco.some hz hk
      generalize size T.data.toList = K at *
      by_cases hk : K = 0
      · subst hk
        have hc := hCo rfl
        have HC := Lib.hid hc
        clear hc hCo hCo2
        go_wp2_with fail
        refine cS.mono ?_
        rintro e w' ⟨rfl, rfl⟩
        go_wp2
        go_round
        case rel => exact ⟨_, _, rfl, rfl, HC.out⟩
        case measure => simp [strLen]; omega
      · have hc := hCo2 hk
        have HC := Lib.hid hc
        have hkz : ((K : Int) == 0) = false := by rw [beq_eq_false_iff_ne]; omega
        have hk1 : 1 ≤ K := by omega
        clear hc hCo hCo2 hk
        go_wp2_with fail
        refine cS.mono ?_
        rintro e w' ⟨rfl, rfl⟩
        go_wp2
        go_round
        case rel => exact ⟨_, _, rfl, rfl, HC.out⟩
        case measure => simp [strLen]; omega
    · have hzi : ¬ (0 : Int) < (T.size : Int) := by omega
      have he := hco.eq
      have ht : T.data.toList = [] := List.length_eq_zero_iff.1 (by rw [size_eq_len]; omega)
      rw [ht, coerced_nil, List.append_nil] at he
      have hO := str_ext he.symm
      have HO := Lib.hid hO
      clear hO he ht
      go_wp2
      go_ret
      exact ⟨by rw [← HO.out]; rfl, rfl⟩

set_option maxRecDepth 100000 in
theorem valid_any (s : ByteArray) (w : World) (hs : s.size ≤ 1099511627776) :
    Calls Tryd.prog 14 #[.string s] w fun e w' => e = .returned (.bool (coerced s.data.toList == s.data.toList)) ∧ w = w' := by
  go_enter Tryd.func14, Tryd.ntmps14
  go_wp2_with fail
  refine (coerced_any s w hs).mono ?_
  rintro e w' ⟨rfl, rfl⟩
  go_wp2
  go_ret
  exact ⟨by rw [← Lib.toList_data]; rfl, rfl⟩

end Go.Proofs.YthiahhieiojgdaaDoor
