/-
  THE BUFFER OF appendEscapedJSONString, A CAPTURED VARIABLE: what the two closures (one byte; a string) do to it. Conditions: the new length is at most 2^47 bytes.
-/
import Derived.Test.YthiahhieiojgdaaDoorProg
import Derived.WalkKit
import Derived.Lib.AppendStr
import Derived.OneCell
import Derived.KernelRfl
namespace Go.Proofs.YthiahhieiojgdaaDoor
open Go.RowKit

/-- A list of bytes as cells. -/
def byteV (l : List UInt8) : List Value := l.map fun b => .int .u8 (b.toNat : Int)
theorem byteV_length (l : List UInt8) : (byteV l).length = l.length := by simp [byteV]
theorem byteV_append (l r : List UInt8) : byteV (l ++ r) = byteV l ++ byteV r := by simp [byteV]
theorem strCells_eq (s : ByteArray) : Lib.strCells s = byteV s.data.toList := rfl

theorem Lib.size_list (s : ByteArray) : s.size = s.data.toList.length := by cases s; rfl

/-- THE VARIABLE buf (block B) holds a slice that owns just the bytes l; below B nothing has turned since W0. -/
def Buf (B : Nat) (W0 : World) (l : List UInt8) (w : World) : Prop :=
  ∃ v, w.heap[B]? = some (.cells #[v] 36 (0, 0)) ∧ w.ownsRow B 5 1 v l.length (byteV l) ∧ Below B W0 w

theorem Tryd.info5 : (Tryd.prog.info? 5).map (fun i => (i.zero, i.size, i.bytes)) = some (some (.int .u8 0), 1, 1) := by kernel_rfl

theorem own_ne {w : World} {B : Nat} {v v' : Value} {n : Nat} {xs : List Value} (hv : w.heap[B]? = some (.cells #[v'] 36 (0, 0))) (h : w.ownsRow B 5 1 v n xs) : v.ownBlock ≠ some B := by
  intro e
  rcases h.2 with ⟨rfl, _⟩ | ⟨g, cap, cur, rfl, _, hh, _⟩
  · simp [Value.ownBlock] at e
  · simp [Value.ownBlock] at e; subst e; rw [hh] at hv; simp at hv

theorem own_form {w : World} {B n : Nat} {v : Value} {xs : List Value} (h : w.ownsRow B 5 1 v n xs) : ∃ a m c, v = .slice a m c := by
  rcases h.2 with ⟨rfl, _⟩ | ⟨g, cap, cur, rfl, _⟩
  · exact ⟨_, _, _, rfl⟩
  · exact ⟨_, _, _, rfl⟩

theorem buf_step {B : Nat} {W0 w w1 : World} {v v' : Value} {l r : List UInt8} {k : Nat} (hk : k = r.length)
    (hv : w.heap[B]? = some (.cells #[v] 36 (0, 0))) (hown0 : w.ownsRow B 5 1 v l.length (byteV l)) (hB : Below B W0 w) 
    (hown : w1.ownsRow B 5 1 v' (l.length + k) (byteV l ++ byteV r)) (hg : w.grownBy w1 v.ownBlock) :
    w1.heap[B]? = some (.cells #[v] 36 (0, 0)) ∧ Buf B W0 (l ++ r) (w1.setCell ⟨B, 0, none⟩ v') := by
  subst hk
  have hlt := lt_of_block hv
  have h1 : w1.heap[B]? = some (.cells #[v] 36 (0, 0)) := (hg.block B hlt (fun e => own_ne hv hown0 e.symm)).trans hv
  refine ⟨h1, v', one_setCell h1, ?_, ?_⟩
  · rw [List.length_append, byteV_append]
    exact ownsRow_setCell_other hown (own_ne h1 hown) _
  · exact (hB.grown hg (by omega) (fun k hk => (hown0.lt k hk).1)).setCell (Nat.le_refl _) _

set_option maxRecDepth 100000 in
/-- 'char(b)' -/
theorem char_any (B : Nat) (W0 : World) (l : List UInt8) (c : UInt8) (w : World) (h : Buf B W0 l w) (hl : l.length + 1 ≤ 140737488355328) :
    Calls Tryd.prog 32 #[.int .u8 (c.toNat : Int), .pointer (some ⟨B, 0, none⟩)] w fun e w' => e = .returned (.tuple #[]) ∧ Buf B W0 (l ++ [c]) w' := by
  obtain ⟨v, hv, hown, hb⟩ := h
  have hlt := lt_of_block hv
  have hvA : (w.alloc (.cells #[.int .u8 (c.toNat : Int)] 5)).heap[B]? = some (.cells #[v] 36 (0, 0)) := (Below.heap_alloc _ _ _ hlt).trans hv
  have hbA := hb.alloc (Nat.le_of_lt hlt) (.cells #[.int .u8 (c.toNat : Int)] 5)
  have cW := cell_of_one hv
  obtain ⟨i0, hi, hz0, hz1, hz2⟩ := info_parts Tryd.info5
  go_enter Tryd.func32, Tryd.ntmps32
  go_wp2_with (at_builtin; refine wpList_append_own _ rfl _ _ 36 rfl B 5 i0 (.int .u8 0) 1 1 Tryd.underlying36 hi hz0 hz1 hz2 rfl (by decide) _ _ _ rfl (hown.alloc _) ⟨w.heap.size, 0, none⟩ 1 1 [.int .u8 (c.toNat : Int)] rfl rfl ?c1 ?c2 ?c3 ?c4 ?c5 ?_)
  case c1 =>
    intro j u hj
    match j, hj with
    | 0, hj => simp at hj; subst hj; simp [Addr.add]
    | (j + 1), hj => simp at hj
  case c2 => intro u hu; simp at hu; subst hu; rfl
  case c3 => unfold maxLen; omega
  case c4 => omega
  case c5 => simp; omega
  intro v' w1 hown' hgrow _
  obtain ⟨h1, hB1⟩ := buf_step (r := [c]) rfl hvA (hown.alloc _) hbA hown' hgrow
  obtain ⟨a', m', c', hv'⟩ := own_form hown'
  rw [hv'] at hB1 ⊢
  clear hown' hgrow hv' hvA hbA
  have cW1 := cell_of_one h1
  have fW1 := free_of_one h1
  go_wp2
  go_end0
  exact ⟨rfl, hB1⟩

set_option maxRecDepth 100000 in
/-- 'str(s)' -/
theorem str_any (B : Nat) (W0 : World) (l : List UInt8) (s : ByteArray) (w : World) (h : Buf B W0 l w) (hl : l.length + s.size ≤ 140737488355328) :
    Calls Tryd.prog 33 #[.string s, .pointer (some ⟨B, 0, none⟩)] w fun e w' => e = .returned (.tuple #[]) ∧ Buf B W0 (l ++ s.data.toList) w' := by
  obtain ⟨v, hv, hown, hb⟩ := h
  have hlt := lt_of_block hv
  have cW := cell_of_one hv
  obtain ⟨i0, hi, hz0, hz1, hz2⟩ := info_parts Tryd.info5
  go_enter Tryd.func33, Tryd.ntmps33
  go_wp2_with (at_builtin; refine Lib.wpList_append_own_string _ rfl _ _ 36 9 rfl B 5 i0 Tryd.underlying36 Tryd.underlying9 hi hz0 hz1 hz2 _ _ _ rfl hown s rfl ?c3 ?c4 ?c5 ?_)
  case c3 => unfold maxLen; omega
  case c4 => omega
  case c5 => omega
  intro v' w1 hown' hgrow _
  obtain ⟨h1, hB1⟩ := buf_step (r := s.data.toList) (Lib.size_list s) hv hown hb hown' hgrow
  obtain ⟨a', m', c', hv'⟩ := own_form hown'
  rw [hv'] at hB1 ⊢
  clear hown' hgrow hv'
  have cW1 := cell_of_one h1
  have fW1 := free_of_one h1
  go_wp2
  go_end0
  exact ⟨rfl, hB1⟩

/-- the same, at a text that is written out -/
theorem str_lit (B : Nat) (W0 : World) (l bs : List UInt8) (w : World) (h : Buf B W0 l w) (hl : l.length + bs.length ≤ 140737488355328) :
    Calls Tryd.prog 33 #[.string ⟨bs.toArray⟩, .pointer (some ⟨B, 0, none⟩)] w fun e w' => e = .returned (.tuple #[]) ∧ Buf B W0 (l ++ bs) w' :=
  str_any B W0 l ⟨bs.toArray⟩ w h hl

/-- the same, at the byte as the call has it -/
theorem char_lit (B : Nat) (W0 : World) (l : List UInt8) (c : UInt8) (n : Int) (w : World) (hc : (c.toNat : Int) = n) (h : Buf B W0 l w) (hl : l.length + 1 ≤ 140737488355328) :
    Calls Tryd.prog 32 #[.int .u8 n, .pointer (some ⟨B, 0, none⟩)] w fun e w' => e = .returned (.tuple #[]) ∧ Buf B W0 (l ++ [c]) w' := by
  subst hc
  exact char_any B W0 l c w h hl

end Go.Proofs.YthiahhieiojgdaaDoor
