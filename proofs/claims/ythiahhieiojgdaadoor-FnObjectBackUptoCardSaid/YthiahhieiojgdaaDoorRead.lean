/-
  spec.ReadObject at what spec.Object writes: the pairs coerced. Conditions: at most 2^20 pairs, at most 13,000,000 bytes.
-/
import Derived.Test.YthiahhieiojgdaaDoorQuote
import Derived.Test.YthiahhieiojgdaaDoorObject
import Derived.Test.YthiahhieiojgdaaDoorAll
namespace Go.Proofs.YthiahhieiojgdaaDoor
open Go.RowKit

theorem item_split (K V : Nat → ByteArray) (j : Nat) (R : List UInt8) : item K V j ++ R = 34 :: (esc (K j).data.toList ++ 34 :: (58 :: (34 :: (esc (V j).data.toList ++ 34 :: R)))) := by
  simp [item]

theorem own_next {B e size n : Nat} {w w' : World} {v : Value} {xs : List Value} (h : w.ownsRow B e size v n xs) (hb : Below w.heap.size w w') : w'.ownsRow B e size v n xs := by
  refine ⟨h.1, ?_⟩
  rcases h.2 with h2 | ⟨g, cap, cur, e, hg, hh, r⟩
  · exact .inl h2
  · exact .inr ⟨g, cap, cur, e, hg, (hb.block g (lt_of_block hh)).trans hh, r⟩

/-- WHERE THE READER STANDS: member j comes, m more behind it; z: what stands ahead of it. -/
structure Rd (K V : Nat → ByteArray) (T : ByteArray) (z : UInt8) (j m : Nat) : Prop where
  list : T.data.toList = z :: (item K V j ++ restL K V (j + 1) m)
  small : T.size ≤ 13000000

set_option maxRecDepth 100000 in
set_option maxHeartbeats 4000000 in
theorem read_some (s : ByteArray) (n : Nat) (K V : Nat → ByteArray) (w : World) (h : s.data.toList = objP K V (n + 1) ++ [125]) (hs : s.size ≤ 13000000) (hn : n + 1 ≤ 1048576) :
    Calls Tryd.prog 16 #[.string s] w fun e w' => ∃ v, e = .returned (.tuple #[v, .bool true]) ∧ w'.ownsRow w.heap.size 43 2 v (n + 1) (cellsP (fun i => co (K i)) (fun i => co (V i)) (n + 1)) ∧ Below w.heap.size w w' := by
  obtain ⟨i0, hi, hz0, hz1, hz2⟩ := info_parts Tryd.info43
  rw [obj_one] at h
  have hne : (s.toList == [123, 125]) = false := by
    rw [Lib.toList_data, h, item_split, beq_eq_false_iff_ne]
    simp
  have hrd : Rd K V s 123 0 n := ⟨h, hs⟩
  have HRD := Lib.hid hrd
  clear h hs hrd
  go_enter Tryd.func16, Tryd.ntmps16
  go_wp2
  go_loopw [0, 2, 4] (fun t l z wr => ∃ (j m : Nat) (T : ByteArray) (b : UInt8) (va : Option Addr) (vm vc : Nat), j + m = n ∧ t = .string T ∧ l = .slice va vm vc ∧ z = .int .u8 (b.toNat : Int) ∧ Rd K V T b j m ∧
      wr.ownsRow w.heap.size 43 2 (.slice va vm vc) j (cellsP (fun i => co (K i)) (fun i => co (V i)) j) ∧ Below w.heap.size w wr) (fun t _ _ _ => strLen t)
  case atStart => exact ⟨0, n, s, 123, none, 0, 0, by omega, rfl, rfl, rfl, HRD.out, World.ownsRow_nil _ _ _ _, Below.refl _ _⟩
  case round =>
    clear HRD hne
    obtain ⟨j, m, T, b, va, vm, vc, hjm, rfl, rfl, rfl, hrd, hown, hnx⟩ := hrel
    have hT := hrd.list
    have hTs := hrd.small
    rw [item_split] at hT
    have hTl : T.size = 1 + (1 + ((esc (K j).data.toList).length + (1 + (1 + (1 + ((esc (V j).data.toList).length + (1 + (restL K V (j + 1) m).length))))))) := by
      rw [Lib.size_list, hT]; simp; omega
    have hz : 0 < T.size := by omega
    have hzi : (0 : Int) < (T.size : Int) := by omega
    have hx0 : T[0]'hz = b := byte_eq hz (by rw [hT]; rfl)
    have hemp : T.toList.isEmpty = false := by rw [Lib.toList_data, hT]; rfl
    have hemp2 : (T.toList == []) = false := by rw [Lib.toList_data, hT]; rfl
    have hc1 : (T.extract 1 T.size).data.toList = 34 :: (esc (K j).data.toList ++ 34 :: (58 :: (34 :: (esc (V j).data.toList ++ 34 :: restL K V (j + 1) m)))) := by rw [extract_end, hT]; rfl
    have cQ1 := fun wx => quote_any (T.extract 1 T.size) (K j).data.toList _ wx hc1 (by simp; omega)
    obtain ⟨R1, hR1⟩ : ∃ R1 : ByteArray, R1 = ⟨(58 :: (34 :: (esc (V j).data.toList ++ 34 :: restL K V (j + 1) m))).toArray⟩ := ⟨_, rfl⟩
    rw [← hR1] at cQ1
    have hR1l : R1.data.toList = 58 :: (34 :: (esc (V j).data.toList ++ 34 :: restL K V (j + 1) m)) := by rw [hR1]
    have hR1s : R1.size = 1 + (1 + ((esc (V j).data.toList).length + (1 + (restL K V (j + 1) m).length))) := by rw [Lib.size_list, hR1l]; simp; omega
    have hr0 : 0 < R1.size := by omega
    have hr0i : (0 : Int) < (R1.size : Int) := by omega
    have hx1 : R1[0]'hr0 = 58 := byte_eq hr0 (by rw [hR1l]; rfl)
    have hemp3 : R1.toList.isEmpty = false := by rw [Lib.toList_data, hR1l]; rfl
    have hemp4 : (R1.toList == []) = false := by rw [Lib.toList_data, hR1l]; rfl
    have hc2 : (R1.extract 1 R1.size).data.toList = 34 :: (esc (V j).data.toList ++ 34 :: restL K V (j + 1) m) := by rw [extract_end, hR1l]; rfl
    have cQ2 := fun wx => quote_any (R1.extract 1 R1.size) (V j).data.toList _ wx hc2 (by simp; omega)
    obtain ⟨R2, hR2⟩ : ∃ R2 : ByteArray, R2 = ⟨(restL K V (j + 1) m).toArray⟩ := ⟨_, rfl⟩
    rw [← hR2] at cQ2
    have hR2l : R2.data.toList = restL K V (j + 1) m := by rw [hR2]
    have hR2s : R2.size = (restL K V (j + 1) m).length := by rw [Lib.size_list, hR2l]
    have hlt : R2.size < T.size := by omega
    have hcell : cellsP (fun i => co (K i)) (fun i => co (V i)) (j + 1) = cellsP (fun i => co (K i)) (fun i => co (V i)) j ++ [.string (co (K j)), .string (co (V j))] := rfl
    have hC1 : (⟨(coerced (K j).data.toList).toArray⟩ : ByteArray) = co (K j) := rfl
    have hC2 : (⟨(coerced (V j).data.toList).toArray⟩ : ByteArray) = co (V j) := rfl
    rw [hC1] at cQ1
    rw [hC2] at cQ2
    generalize co (K j) = c1 at *
    generalize co (V j) = c2 at *
    have HC := Lib.hid hcell
    have HR := Lib.hid hR2l
    have CQ1 := Lib.hid cQ1
    have CQ2 := Lib.hid cQ2
    have HRD := Lib.hid hrd
    have HJM := Lib.hid hjm
    have hj1 : j + 1 ≤ 1048576 := by omega
    clear hcell hR2l cQ1 cQ2 hrd hc1 hc2 hT hTl hR1 hR1l hR1s hR2 hR2s hC1 hC2 hjm
    by_cases hm : m = 0
    · have hlast : (R2.toList == [125]) = true := by rw [Lib.toList_data, HR.out, hm]; rfl
      go_wp2_with fail
      refine (CQ1.out _).mono ?_
      rintro e w1 ⟨rfl, hb1⟩
      go_wp2_with fail
      refine (CQ2.out _).mono ?_
      rintro e w2 ⟨rfl, hb2⟩
      have hb12 := hb1.trans (hb2.mono hb1.size)
      have hown2 := own_next hown hb12
      have hwle : w.heap.size ≤ w2.heap.size := Nat.le_trans hnx.size (hb12.size)
      go_wp2_with (at_builtin; refine wpList_append_lies _ rfl _ _ _ rfl w.heap.size 43 i0 _ 2 32 Tryd.underlying29 hi hz0 hz1 hz2 rfl (by omega) (.slice va vm vc) j (cellsP (fun i => co (K i)) (fun i => co (V i)) j) rfl (hown2.alloc _) ⟨w2.heap.size, 0, none⟩ 1 1 [.string c1, .string c2] rfl rfl (World.news_of_block (cs := #[.string c1, .string c2]) (t := 43) (fr := (0, 0)) (heap_alloc_new w2 _)) (by simp [Value.oneCell']) (by omega) (by unfold maxLen; omega) (by omega) (by simp; omega) (w2.heap.size + 1) (by simp) ?_; intro gg cap w3 hown3 hgrow hat hlt1)
      have hbel : Below w.heap.size w w3 := ((hnx.trans (hb12.mono hnx.size)).alloc hwle _).grown hgrow (by simp; omega) (fun k hk => (hown.lt k hk).1)
      have hown4 : w3.ownsRow w.heap.size 43 2 (.slice (some ⟨gg, 0, none⟩) (j + 1) cap) (j + 1) (cellsP (fun i => co (K i)) (fun i => co (V i)) (j + 1)) := by rw [HC.out]; exact hown3
      clear hown3 hgrow hown hown2
      go_wp2
      go_ret2
      refine ⟨_, rfl, ?_, hbel⟩
      have hj : n + 1 = j + 1 := by have := HJM.out; omega
      rw [hj]
      exact hown4
    · obtain ⟨q, rfl⟩ : ∃ q, m = q + 1 := ⟨m - 1, by omega⟩
      have hlast : (R2.toList == [125]) = false := by rw [Lib.toList_data, HR.out, beq_eq_false_iff_ne]; simp [restL]
      go_wp2_with fail
      refine (CQ1.out _).mono ?_
      rintro e w1 ⟨rfl, hb1⟩
      go_wp2_with fail
      refine (CQ2.out _).mono ?_
      rintro e w2 ⟨rfl, hb2⟩
      have hb12 := hb1.trans (hb2.mono hb1.size)
      have hown2 := own_next hown hb12
      have hwle : w.heap.size ≤ w2.heap.size := Nat.le_trans hnx.size (hb12.size)
      go_wp2_with (at_builtin; refine wpList_append_lies _ rfl _ _ _ rfl w.heap.size 43 i0 _ 2 32 Tryd.underlying29 hi hz0 hz1 hz2 rfl (by omega) (.slice va vm vc) j (cellsP (fun i => co (K i)) (fun i => co (V i)) j) rfl (hown2.alloc _) ⟨w2.heap.size, 0, none⟩ 1 1 [.string c1, .string c2] rfl rfl (World.news_of_block (cs := #[.string c1, .string c2]) (t := 43) (fr := (0, 0)) (heap_alloc_new w2 _)) (by simp [Value.oneCell']) (by omega) (by unfold maxLen; omega) (by omega) (by simp; omega) (w2.heap.size + 1) (by simp) ?_; intro gg cap w3 hown3 hgrow hat hlt1)
      have hbel : Below w.heap.size w w3 := ((hnx.trans (hb12.mono hnx.size)).alloc hwle _).grown hgrow (by simp; omega) (fun k hk => (hown.lt k hk).1)
      have hown4 : w3.ownsRow w.heap.size 43 2 (.slice (some ⟨gg, 0, none⟩) (j + 1) cap) (j + 1) (cellsP (fun i => co (K i)) (fun i => co (V i)) (j + 1)) := by rw [HC.out]; exact hown3
      clear hown3 hgrow hown hown2
      go_wp2
      go_roundw
      case rel =>
        refine ⟨j + 1, q, R2, 44, some ⟨gg, 0, none⟩, j + 1, cap, by have := HJM.out; omega, rfl, rfl, rfl, ⟨?_, by omega⟩, hown4, hbel⟩
        rw [HR.out]
        rfl
      case measure => simp [strLen]; omega
set_option maxRecDepth 100000 in
theorem read_none (s : ByteArray) (w : World) (h : s.data.toList = [123, 125]) :
    Calls Tryd.prog 16 #[.string s] w fun e w' => ∃ v, e = .returned (.tuple #[v, .bool true]) ∧ w'.ownsRow w.heap.size 43 2 v 0 [] ∧ Below w.heap.size w w' := by
  have hne : (s.toList == [123, 125]) = true := by rw [Lib.toList_data, h]; rfl
  go_enter Tryd.func16, Tryd.ntmps16
  go_wp2
  go_ret2
  exact ⟨_, rfl, World.ownsRow_nil _ _ _ _, Below.refl _ _⟩

/-- At every number of pairs. -/
theorem read_any (s : ByteArray) (n : Nat) (K V : Nat → ByteArray) (w : World) (h : s.data.toList = objP K V n ++ [125]) (hs : s.size ≤ 13000000) (hn : n ≤ 1048576) :
    Calls Tryd.prog 16 #[.string s] w fun e w' => ∃ v, e = .returned (.tuple #[v, .bool true]) ∧ w'.ownsRow w.heap.size 43 2 v n (cellsP (fun i => co (K i)) (fun i => co (V i)) n) ∧ Below w.heap.size w w' := by
  match n, h, hn with
  | 0, h, _ => exact read_none s w h
  | n + 1, h, hn => exact read_some s n K V w h hs hn
end Go.Proofs.YthiahhieiojgdaaDoor
