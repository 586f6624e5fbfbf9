/-
  spec.Body at a string that begins with what appendEscapedJSONString gives, and ends there or goes on with a quotation mark: it reads the string back, coerced to UTF-8. Conditions: at most 2^40 bytes.
-/
import Derived.Test.YthiahhieiojgdaaDoorCoded
import Derived.Test.YthiahhieiojgdaaDoorCoerced
import Derived.Lib.SlBytesConst
namespace Go.Proofs.YthiahhieiojgdaaDoor
open Go.RowKit

/-- WHERE THE READER STANDS: N bytes are read, T is what they stand for; u is still to come. -/
structure Bd (s : ByteArray) (t tail : List UInt8) (T : ByteArray) (N : Nat) (u : List UInt8) : Prop where
  rest : s.data.toList.drop N = esc u ++ tail
  le : N ≤ s.size
  text : coerced t = T.data.toList ++ coerced u
  num : N + (esc u).length = (esc t).length
  small : T.size ≤ 4 * N

theorem Bd.start {s : ByteArray} {t tail : List UInt8} (h : s.data.toList = esc t ++ tail) : Bd s t tail ⟨#[]⟩ 0 t :=
  ⟨by simpa using h, Nat.zero_le _, by simp, by simp, Nat.le_refl 0⟩

theorem Bd.next {s : ByteArray} {t tail : List UInt8} {T T' : ByteArray} {N m : Nat} {u c x : List UInt8} (h : Bd s t tail T N u) (hu : u ≠ []) (hc : (chunk u).1 = c)
    (hx : coerced u = x ++ coerced (u.drop (chunk u).2)) (hT : T'.data.toList = T.data.toList ++ x) (hl : x.length ≤ 4 * c.length) (hm : m = N + c.length) : Bd s t tail T' m (u.drop (chunk u).2) := by
  subst hm
  have hr := h.rest
  have hn := h.num
  rw [esc_some hu, hc] at hr hn
  have hlen := congrArg List.length hr
  rw [List.length_drop, size_eq_len] at hlen
  simp only [List.length_append] at hlen hn
  have hle := h.le
  have hsm := h.small
  refine ⟨?_, by omega, ?_, by omega, ?_⟩
  · rw [← List.drop_drop, hr, List.append_assoc, List.drop_left]
  · rw [h.text, hx, hT, List.append_assoc]
  · rw [← size_eq_len, hT, List.length_append, size_eq_len]; omega

theorem Bd.fits {s : ByteArray} {t tail : List UInt8} {T : ByteArray} {N : Nat} {u c : List UInt8} (h : Bd s t tail T N u) (hu : u ≠ []) (hc : (chunk u).1 = c) : N + c.length ≤ s.size := by
  have hr := h.rest
  rw [esc_some hu, hc] at hr
  have hlen := congrArg List.length hr
  rw [List.length_drop, size_eq_len] at hlen
  simp only [List.length_append] at hlen
  have := h.le
  omega

theorem Bd.list {s : ByteArray} {t tail : List UInt8} {T : ByteArray} {N : Nat} {u c : List UInt8} (h : Bd s t tail T N u) (hu : u ≠ []) (hc : (chunk u).1 = c) : ∃ r, s.data.toList.drop N = c ++ r := by
  have hr := h.rest
  rw [esc_some hu, hc, List.append_assoc] at hr
  exact ⟨_, hr⟩

theorem byte_eq {s : ByteArray} {i : Nat} (h : i < s.size) {z : UInt8} (e : at' s.data.toList i = z.toNat) : s[i]'h = z := by
  have := getElem_at s i h
  exact UInt8.toNat_inj.1 (this.trans e)

theorem at_chunk {s : ByteArray} {N : Nat} {c r : List UInt8} (h : s.data.toList.drop N = c ++ r) {j : Nat} (hj : j < c.length) : at' s.data.toList (N + j) = at' c j := by
  rw [← at_drop, h, at_append hj]
end Go.Proofs.YthiahhieiojgdaaDoor
