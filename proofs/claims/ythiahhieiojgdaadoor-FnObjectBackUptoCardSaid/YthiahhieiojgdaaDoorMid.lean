/-
  BETWEEN THE WALKS AND THE PLAIN LAWS: the tables that are read (Glob); Go's decoder on a cut string is 'dec'; what a round of appendEscapedJSONString's loop does ('Mid'). Conditions: none.
-/
import Derived.Test.YthiahhieiojgdaaDoorBuf
import Derived.Test.YthiahhieiojgdaaDoorPlain
import Derived.Test.YthiahhieiojgdaaDoorShelf
namespace Go.Proofs.YthiahhieiojgdaaDoor
open Go.RowKit Go.Lib

/-- THE TABLES: safeSet (block 0), utf8.first (1), utf8.acceptRanges (2). -/
structure Glob (w : World) : Prop where
  safe : ∀ i, i < 128 → w.cell? ⟨0, i, none⟩ = some (.bool (okB i))
  u8 : Lib.Utf8Tabs 1 2 w

theorem lt_of_cell {w : World} {a : Addr} {v : Value} (h : w.cell? a = some v) : a.block < w.heap.size := by
  rcases Nat.lt_or_ge a.block w.heap.size with h' | h'
  · exact h'
  · simp [World.cell?, Array.getElem?_eq_none h'] at h

theorem Glob.lt {w : World} (h : Glob w) : 2 < w.heap.size := lt_of_cell (a := ⟨2, 2 * 0, none⟩) (h.u8.2 0 (by omega)).1

theorem Glob.below {w w' : World} {B : Nat} (h : Glob w) (hB : 2 < B) (hb : Below B w w') : Glob w' :=
  ⟨fun i hi => (hb.cell (p := ⟨0, i, none⟩) (by show 0 < B; omega)).trans (h.safe i hi),
   fun c hc => (hb.cell (p := ⟨1, c, none⟩) (by show 1 < B; omega)).trans (h.u8.1 c hc),
   fun i hi => ⟨(hb.cell (p := ⟨2, 2 * i, none⟩) (by show 2 < B; omega)).trans (h.u8.2 i hi).1, (hb.cell (p := ⟨2, 2 * i + 1, none⟩) (by show 2 < B; omega)).trans (h.u8.2 i hi).2⟩⟩

theorem Glob.next {w w' : World} (h : Glob w) (hb : Below w.heap.size w w') : Glob w' := h.below h.lt hb

/-! ### strings and lists -/
theorem get_at (s : ByteArray) (i : Nat) : (s.get! i).toNat = at' s.data.toList i := by
  cases s with
  | mk d =>
    show (d[i]!).toNat = _
    by_cases h : i < d.size
    · simp [at', h]
    · simp [at', h]; rfl

theorem at_drop (l : List UInt8) (i j : Nat) : at' (l.drop i) j = at' l (i + j) := by simp [at']

theorem extract_list (s : ByteArray) (i j : Nat) : (s.extract i j).data.toList = (s.data.toList.drop i).take (j - i) := by
  rw [ByteArray.data_extract, Array.toList_extract, List.extract_eq_take_drop]

theorem extract_end (s : ByteArray) (i : Nat) : (s.extract i s.size).data.toList = s.data.toList.drop i := by
  rw [extract_list, List.take_of_length_le]
  rw [Lib.size_list]; simp

theorem decode_dec (s : ByteArray) (h : 0 < s.size) : Lib.decodeGo s = dec s.data.toList := by
  unfold Lib.decodeGo
  rw [if_neg (by omega), decode_at, get_at, get_at, get_at, get_at]
  unfold dec
  rw [Lib.size_list]; rfl

theorem getElem_at (s : ByteArray) (i : Nat) (h : i < s.size) : (s[i]'h).toNat = at' s.data.toList i := by
  rw [← get_at]
  cases s with
  | mk d => exact congrArg UInt8.toNat (getElem!_pos d i h).symm

/-! ### the loop's state -/
/-- l has been written; S .. I stands as it is and has not been written yet; I .. is still to come -/
structure Mid (L : List UInt8) (S I : Nat) (l : List UInt8) : Prop where
  le : S ≤ I
  len : I ≤ L.length
  eq : esc L = l ++ ((L.drop S).take (I - S) ++ esc (L.drop I))
  small : l.length ≤ 6 * S

theorem Mid.start (L : List UInt8) : Mid L 0 0 [] := ⟨Nat.le_refl _, Nat.zero_le _, by simp, by simp⟩

theorem take_more (L : List UInt8) (S I k : Nat) (h : S ≤ I) : (L.drop S).take (I + k - S) = (L.drop S).take (I - S) ++ (L.drop I).take k := by
  rw [show I + k - S = (I - S) + k from by omega, List.take_add, List.drop_drop, show S + (I - S) = I from by omega]

/-- the character stands as it is -/
theorem Mid.keep {L : List UInt8} {S I : Nat} {l : List UInt8} (h : Mid L S I l) (hI : I < L.length) (hc : (chunk (L.drop I)).1 = (L.drop I).take (chunk (L.drop I)).2) : Mid L S (I + (chunk (L.drop I)).2) l := by
  have hne : L.drop I ≠ [] := by intro e; have := congrArg List.length e; simp at this; omega
  have hle := chunk_le hne
  rw [List.length_drop] at hle
  refine ⟨by have := h.le; omega, by omega, ?_, h.small⟩
  rw [h.eq, esc_some hne, hc, take_more L S I _ h.le, List.drop_drop, List.append_assoc]

/-- the character is escaped -/
theorem Mid.put {L : List UInt8} {S I : Nat} {l c : List UInt8} {k : Nat} (h : Mid L S I l) (hI : I < L.length) (hk : chunk (L.drop I) = (c, k)) :
    Mid L (I + k) (I + k) (l ++ (L.drop S).take (I - S) ++ c) := by
  have hne : L.drop I ≠ [] := by intro e; have := congrArg List.length e; simp at this; omega
  have hle := chunk_le hne
  have hlen := chunk_len hne
  rw [hk] at hle hlen
  rw [List.length_drop] at hle
  have hsm := h.small
  have hSI := h.le
  refine ⟨Nat.le_refl _, by simp only at hle; omega, ?_, ?_⟩
  · rw [h.eq, esc_some hne, hk]
    simp [List.drop_drop]
  · simp only [List.length_append, List.length_take, List.length_drop] at hlen ⊢
    omega

end Go.Proofs.YthiahhieiojgdaaDoor
