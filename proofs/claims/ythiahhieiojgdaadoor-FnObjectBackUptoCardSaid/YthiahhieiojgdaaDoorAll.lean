/-
  spec.CoercedAll at a slice of pairs: a new slice of the pairs coerced. Conditions: at most 2^20 pairs, strings of at most 2^20 bytes.
-/
import Derived.Test.YthiahhieiojgdaaDoorPairs
import Derived.Test.YthiahhieiojgdaaDoorCoerced
import Derived.Deep.RegionWith
import Derived.Deep.RegionHeld3
import Derived.Deep.AppendLies
import Derived.Deep.DrawnRows
namespace Go.Proofs.YthiahhieiojgdaaDoor
open Go.RowKit

/-- The cells of k pairs. -/
def cellsP (K V : Nat → ByteArray) : Nat → List Value
  | 0 => []
  | k + 1 => cellsP K V k ++ [.string (K k), .string (V k)]
theorem cellsP_length (K V : Nat → ByteArray) : ∀ k, (cellsP K V k).length = k * 2
  | 0 => rfl
  | k + 1 => by simp only [cellsP, List.length_append, cellsP_length K V k, List.length_cons, List.length_nil]; omega
theorem cellsP_at (K V : Nat → ByteArray) : ∀ n i, i < n → (cellsP K V n)[i * 2]? = some (.string (K i)) ∧ (cellsP K V n)[i * 2 + 1]? = some (.string (V i))
  | 0, i, h => by omega
  | n + 1, i, h => by
    have hl := cellsP_length K V n
    by_cases e : i = n
    · subst e
      simp only [cellsP]
      rw [List.getElem?_append_right (by omega), List.getElem?_append_right (by omega), hl]
      simp
    · have ih := cellsP_at K V n i (by omega)
      simp only [cellsP]
      rw [List.getElem?_append_left (by omega), List.getElem?_append_left (by omega)]
      exact ih

theorem Tryd.info43 : (Tryd.prog.info? 43).map (fun i => (i.zero, i.size, i.bytes)) = some (some (.agg #[.string ⟨#[]⟩, .string ⟨#[]⟩]), 2, 32) := by kernel_rfl

theorem pairs_of_own {w : World} {B n : Nat} {v : Value} {K V : Nat → ByteArray} (h : w.ownsRow B 43 2 v n (cellsP K V n)) : ∃ A c, v = .slice A n c ∧ PairsAt w A n K V := by
  have h' := h
  rcases h.2 with ⟨rfl, rfl⟩ | ⟨g, cap, cur, rfl, _⟩
  · exact ⟨none, 0, rfl, fun i hi => by omega⟩
  · refine ⟨_, cap, rfl, fun i hi => ⟨g, 0, rfl, ?_, ?_⟩⟩
    · have := h'.cells (g := g) rfl (i * 2) _ (cellsP_at K V n i hi).1
      rw [Addr.add_lit] at this
      exact this
    · have := h'.cells (g := g) rfl (i * 2 + 1) _ (cellsP_at K V n i hi).2
      rw [Addr.add_lit] at this
      exact this

theorem form_of_own {w : World} {B n : Nat} {v : Value} {xs : List Value} (h : w.ownsRow B 43 2 v n xs) : ∃ a m c, v = .slice a m c := by
  rcases h.2 with ⟨rfl, _⟩ | ⟨g, cap, cur, rfl, _⟩
  · exact ⟨_, _, _, rfl⟩
  · exact ⟨_, _, _, rfl⟩

/-- A string coerced. -/
def co (s : ByteArray) : ByteArray := ⟨(coerced s.data.toList).toArray⟩

theorem coerced_co (s : ByteArray) (w : World) (hs : s.size ≤ 1099511627776) : Calls Tryd.prog 12 #[.string s] w fun e w' => e = .returned (.string (co s)) ∧ w' = w :=
  (coerced_any s w hs).mono fun _ _ h => ⟨h.1, h.2.symm⟩

set_option maxRecDepth 100000 in
set_option maxHeartbeats 2000000 in
theorem all_any (A : Option Addr) (n c : Nat) (K V : Nat → ByteArray) (w : World) (hp : PairsAt w A n K V) (hn : n ≤ 1048576) (hs : ∀ i, i < n → (K i).size ≤ 1048576 ∧ (V i).size ≤ 1048576) :
    Calls Tryd.prog 19 #[.slice A n c] w fun e w' => ∃ v, e = .returned v ∧ w'.ownsRow w.heap.size 43 2 v n (cellsP (fun i => co (K i)) (fun i => co (V i)) n) ∧ Below w.heap.size w w' := by
  have HP := Lib.hid hp
  have HS := Lib.hid hs
  clear hp hs
  obtain ⟨i0, hi, hz0, hz1, hz2⟩ := info_parts Tryd.info43
  go_enter Tryd.func19, Tryd.ntmps19
  go_wp2
  go_loopw [3, 8] (fun v i wr => ∃ (k : Nat) (a : Option Addr) (m c : Nat), k ≤ n ∧ i = .int .i64 k ∧ v = .slice a m c ∧ wr.ownsRow w.heap.size 43 2 (.slice a m c) k (cellsP (fun i => co (K i)) (fun i => co (V i)) k) ∧ Below w.heap.size w wr) (fun _ i _ => n - (RowKit.intOf i).toNat)
  case atStart => exact ⟨0, none, 0, 0, Nat.zero_le _, rfl, rfl, World.ownsRow_nil _ _ _ _, Below.refl _ _⟩
  case round =>
    obtain ⟨k, va, vm, vc0, hk, rfl, rfl, hown, hnx⟩ := hrel
    by_cases hlt : k < n
    · have hki : (k : Int) < (n : Int) := by omega
      obtain ⟨b, off, rfl, h0, h1⟩ := (HP.out.next hnx) k hlt
      obtain ⟨z0, z1⟩ := HS.out k hlt
      have cK := fun wx => coerced_co (K k) wx (by omega)
      have cV := fun wx => coerced_co (V k) wx (by omega)
      generalize hkc : co (K k) = kc at *
      generalize hvc : co (V k) = vc at *
      have HKC := Lib.hid hkc
      have HVC := Lib.hid hvc
      have CK := Lib.hid cK
      have CV := Lib.hid cV
      clear hkc hvc cK cV
      have HK0 := Lib.hid (rfl : K k = K k)
      clear HK0
      generalize K k = kk at h0 z0 CK
      generalize V k = vv at h1 z1 CV
      have hfar : (Value.slice va vm vc0).ownBlock ≠ some wr.heap.size := fun e => by have := (hown.lt _ e).2; omega
      have hsz := hnx.size
      have f0 : (wr.alloc (.cells #[.string kk, .string vv] 43)).cell? ⟨wr.heap.size, 0, none⟩ = some (.string kk) := World.cell?_alloc_mark wr #[.string kk, .string vv] 43 (0, 0) 0
      have f1 : (wr.alloc (.cells #[.string kk, .string vv] 43)).cell? ⟨wr.heap.size, 1, none⟩ = some (.string vv) := World.cell?_alloc_mark wr #[.string kk, .string vv] 43 (0, 0) 1
      have hnb : ∀ o : Obj, ((wr.alloc (.cells #[.string kk, .string vv] 43)).alloc o).heap[wr.heap.size + 1]? = some o := fun o => by
        have := heap_alloc_new (wr.alloc (.cells #[.string kk, .string vv] 43)) o
        simpa using this
      have HNB := Lib.hid hnb
      clear hnb
      go_wp2_with fail
      go_region_held3 (fun w' => w'.cell? ⟨wr.heap.size, 0, none⟩ = some (.string kk) ∧ w'.cell? ⟨wr.heap.size, 1, none⟩ = some (.string vv))
        (first | go_keep | (go_split_ands; refine ⟨?_, ?_⟩ <;> (rw [hgrow.cell_far _ (by first | (simp; done) | (simp; omega)) (Ne.symm hfar)]; assumption)))
        (first
          | (go_at_call_of 12 kk; refine (CK.out _).mono ?_; rintro e w' ⟨rfl, rfl⟩)
          | (go_at_call_of 12 vv; refine (CV.out _).mono ?_; rintro e w' ⟨rfl, rfl⟩)
          | (refine step_append_lies _ (by rfl) _ _ _ (by rfl) w.heap.size 43 i0 _ 2 32 Tryd.underlying29 hi hz0 hz1 hz2 rfl (by omega) (.slice va vm vc0) k (cellsP (fun i => co (K i)) (fun i => co (V i)) k) (by rfl) (((hown.alloc _).alloc _).drew) ⟨wr.heap.size + 1, 0, none⟩ 1 1 [.string kc, .string vc] (by rfl) (by rfl) (World.news_of_block (cs := #[.string kc, .string vc]) (t := 43) (fr := (0, 0)) (HNB.out _)) (by simp [Value.oneCell']) (by omega) (by unfold maxLen; omega) (by omega) (by simp; omega) (wr.heap.size + 2) (by simp) ?_; intro gg cap w1 hown1 hgrow hat hlt1))
      have hown2 : w1.ownsRow w.heap.size 43 2 (.slice (some ⟨gg, 0, none⟩) (k + 1) cap) (k + 1) (cellsP (fun i => co (K i)) (fun i => co (V i)) (k + 1)) := by
        have h := hown1
        rw [← HKC.out, ← HVC.out] at h
        exact h
      have hbel : Below w.heap.size w w1 :=
        (((hnx.alloc hsz (.cells #[.string kk, .string vv] 43)).alloc (by simp; omega) (.cells #[.string kc, .string vc] 43)).drew).grown hgrow (by simp; omega) (fun j hj => (hown.lt j hj).1)
      clear hown1 hgrow hown hnx f0 f1 hfar
      go_wp2
      go_roundw
      case rel => exact ⟨k + 1, _, _, _, by omega, by go_num, rfl, hown2, hbel⟩
      case measure => simp [RowKit.intOf]; omega
    · have hke : k = n := by omega
      subst hke
      go_wp2
      go_ret
      exact ⟨_, rfl, hown, hnx⟩
end Go.Proofs.YthiahhieiojgdaaDoor
