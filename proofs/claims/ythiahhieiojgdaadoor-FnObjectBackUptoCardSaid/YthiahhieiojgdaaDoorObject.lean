/-
  spec.Object with impl.JSONString at a slice of pairs. Conditions: at most 2^20 pairs, of at most 2^20 bytes together.
-/
import Derived.Test.YthiahhieiojgdaaDoorPairs
import Derived.Test.YthiahhieiojgdaaDoorCoerced
import Derived.Test.YthiahhieiojgdaaDoorJson
import Derived.Deep.RegionWith
import Derived.Deep.RegionHeld3
import Derived.Deep.DrawnRows
namespace Go.Proofs.YthiahhieiojgdaaDoor
open Go.RowKit

/-! ### plain -/
def item (K V : Nat → ByteArray) (j : Nat) : List UInt8 := 34 :: (esc (K j).data.toList ++ (34 :: 58 :: 34 :: (esc (V j).data.toList ++ [34])))
def objP (K V : Nat → ByteArray) : Nat → List UInt8
  | 0 => [123]
  | k + 1 => objP K V k ++ ((if k = 0 then [] else [44]) ++ item K V k)
/-- what stands behind the first j members, m more to come -/
def restL (K V : Nat → ByteArray) : Nat → Nat → List UInt8
  | _, 0 => [125]
  | j, m + 1 => 44 :: (item K V j ++ restL K V (j + 1) m)
def sumL (K V : Nat → ByteArray) : Nat → Nat
  | 0 => 0
  | k + 1 => sumL K V k + ((K k).size + (V k).size)

theorem obj_rest (K V : Nat → ByteArray) : ∀ m j, 0 < j → objP K V (j + m) ++ [125] = objP K V j ++ restL K V j m
  | 0, j, _ => rfl
  | m + 1, j, hj => by
    have ih := obj_rest K V m (j + 1) (by omega)
    rw [show j + (m + 1) = j + 1 + m from by omega, ih]
    simp [objP, restL, Nat.ne_of_gt hj]
theorem obj_one (K V : Nat → ByteArray) (m : Nat) : objP K V (m + 1) ++ [125] = 123 :: (item K V 0 ++ restL K V 1 m) := by
  rw [show m + 1 = 1 + m from by omega, obj_rest K V m 1 (by omega)]
  simp [objP]
theorem sumL_mono (K V : Nat → ByteArray) : ∀ n k, k ≤ n → sumL K V k ≤ sumL K V n
  | 0, k, h => by obtain rfl : k = 0 := by omega
                  exact Nat.le_refl _
  | n + 1, k, h => by
    by_cases e : k = n + 1
    · subst e; exact Nat.le_refl _
    · have := sumL_mono K V n k (by omega)
      simp only [sumL]; omega
theorem sumL_each (K V : Nat → ByteArray) {n k : Nat} (h : k < n) : (K k).size + (V k).size ≤ sumL K V n := by
  have := sumL_mono K V n (k + 1) h
  simp only [sumL] at this; omega

theorem obj_step {K V : Nat → ByteArray} {k : Nat} {O X Y : ByteArray} (hO : O.data.toList = objP K V k) (hX : X.data.toList = esc (K k).data.toList) (hY : Y.data.toList = esc (V k).data.toList) :
    (k = 0 → (O ++ ((((⟨#[34]⟩ ++ X) ++ ⟨#[34, 58, 34]⟩) ++ Y) ++ ⟨#[34]⟩ : ByteArray)).data.toList = objP K V (k + 1)) ∧
    (k ≠ 0 → ((O ++ ⟨#[44]⟩) ++ ((((⟨#[34]⟩ ++ X) ++ ⟨#[34, 58, 34]⟩) ++ Y) ++ ⟨#[34]⟩ : ByteArray)).data.toList = objP K V (k + 1)) := by
  constructor
  · intro h
    simp only [append_list, hO, hX, hY, objP, if_pos h, item]
    simp
  · intro h
    simp only [append_list, hO, hX, hY, objP, if_neg h, item]
    simp

set_option maxRecDepth 100000 in
set_option maxHeartbeats 4000000 in
theorem object_any (A : Option Addr) (n c : Nat) (K V : Nat → ByteArray) (w : World) (hp : PairsAt w A n K V) (hn : n ≤ 1048576) (hs : sumL K V n ≤ 1048576) (hg : Glob w) :
    Calls Tryd.prog 17 #[.slice A n c, .func (.func 10) #[] #[]] w fun e w' => ∃ O : ByteArray, e = .returned (.string O) ∧ O.data.toList = objP K V n ++ [125] ∧ O.size ≤ 13000000 ∧ Below w.heap.size w w' := by
  have HP := Lib.hid hp
  clear hp
  go_enter Tryd.func17, Tryd.ntmps17
  go_wp2
  go_loopw [5, 10] (fun o i wr => ∃ (k : Nat) (O : ByteArray), k ≤ n ∧ i = .int .i64 k ∧ o = .string O ∧ O.data.toList = objP K V k ∧ O.size ≤ 1 + 6 * k + 6 * sumL K V k ∧ Below w.heap.size w wr) (fun _ i _ => n - (RowKit.intOf i).toNat)
  case atStart => exact ⟨0, ⟨#[123]⟩, Nat.zero_le _, rfl, rfl, rfl, Nat.le_refl _, Below.refl _ _⟩
  case round =>
    obtain ⟨k, O, hk, rfl, rfl, hO, hOs, hnx⟩ := hrel
    have hsk := sumL_mono K V n k hk
    by_cases hlt : k < n
    · have hki : (k : Int) < (n : Int) := by omega
      obtain ⟨b, off, rfl, h0, h1⟩ := (HP.out.next hnx) k hlt
      have hse := sumL_each K V hlt
      have hS1 : sumL K V (k + 1) = sumL K V k + ((K k).size + (V k).size) := rfl
      have hgr : Glob wr := hg.next hnx
      have hsz := hnx.size
      have cJK : ∀ wx : World, Glob wx → _ := fun wx hgx => json_any (K k) wx (by omega) hgx
      have cJV : ∀ wx : World, Glob wx → _ := fun wx hgx => json_any (V k) wx (by omega) hgx
      have lK := esc_len _ (K k).data.toList rfl
      have lV := esc_len _ (V k).data.toList rfl
      rw [size_eq_len] at lK lV
      obtain ⟨X, hX⟩ : ∃ X : ByteArray, X = ⟨(esc (K k).data.toList).toArray⟩ := ⟨_, rfl⟩
      obtain ⟨Y, hY⟩ : ∃ Y : ByteArray, Y = ⟨(esc (V k).data.toList).toArray⟩ := ⟨_, rfl⟩
      rw [← hX] at cJK
      rw [← hY] at cJV
      have hXl : X.data.toList = esc (K k).data.toList := by rw [hX]
      have hYl : Y.data.toList = esc (V k).data.toList := by rw [hY]
      have zX : X.size ≤ 6 * (K k).size := by rw [← size_eq_len, hXl]; exact lK
      have zY : Y.size ≤ 6 * (V k).size := by rw [← size_eq_len, hYl]; exact lV
      have hst := obj_step hO hXl hYl
      have HST := Lib.hid hst
      have HS1 := Lib.hid hS1
      have HO := Lib.hid hO
      clear hst hS1 hO hXl hYl hX hY lK lV
      have hS2 : 1 + 6 * k + 6 * sumL K V k + (X.size + Y.size + 6) ≤ 1 + 6 * (k + 1) + 6 * sumL K V (k + 1) := by rw [HS1.out]; omega
      have HS2 := Lib.hid hS2
      clear hS2
      have zO : O.size ≤ 13000000 := by omega
      have zX' : X.size ≤ 13000000 := by omega
      have zY' : Y.size ≤ 13000000 := by omega
      have cK : ∀ wx : World, Glob wx → wx.cell? ⟨wr.heap.size, 0, none⟩ = some (.string (K k)) → wx.cell? ⟨wr.heap.size, 1, none⟩ = some (.string (V k)) →
          Calls Tryd.prog 10 #[.string (K k)] wx fun e w' => e = .returned (.string X) ∧ Below wx.heap.size wx w' ∧ w'.cell? ⟨wr.heap.size, 0, none⟩ = some (.string (K k)) ∧ w'.cell? ⟨wr.heap.size, 1, none⟩ = some (.string (V k)) := fun wx hgx a0 a1 =>
        (cJK wx hgx).mono fun e w' ⟨he, hb⟩ => ⟨he, hb, (hb.cell (lt_of_cell a0)).trans a0, (hb.cell (p := ⟨wr.heap.size, 1, none⟩) (lt_of_cell a1)).trans a1⟩
      have cV : ∀ wx : World, Glob wx → wx.cell? ⟨wr.heap.size, 0, none⟩ = some (.string (K k)) → wx.cell? ⟨wr.heap.size, 1, none⟩ = some (.string (V k)) →
          Calls Tryd.prog 10 #[.string (V k)] wx fun e w' => e = .returned (.string Y) ∧ Below wx.heap.size wx w' ∧ w'.cell? ⟨wr.heap.size, 0, none⟩ = some (.string (K k)) ∧ w'.cell? ⟨wr.heap.size, 1, none⟩ = some (.string (V k)) := fun wx hgx a0 a1 =>
        (cJV wx hgx).mono fun e w' ⟨he, hb⟩ => ⟨he, hb, (hb.cell (lt_of_cell a0)).trans a0, (hb.cell (p := ⟨wr.heap.size, 1, none⟩) (lt_of_cell a1)).trans a1⟩
      have CK := Lib.hid cK
      have CV := Lib.hid cV
      clear cJK cJV cK cV
      generalize hkk : K k = kk at h0 CK
      generalize hvv : V k = vv at h1 CK CV
      rw [hkk] at CV
      clear hkk hvv
      have hbA : Below wr.heap.size wr (wr.alloc (.cells #[.string kk, .string vv] 43)) := (Below.refl _ _).alloc (Nat.le_refl _) _
      have hgA : Glob (wr.alloc (.cells #[.string kk, .string vv] 43)) := hgr.next hbA
      have hgD : Glob ((wr.alloc (.cells #[.string kk, .string vv] 43)).drew) := ⟨hgA.safe, hgA.u8⟩
      have hbD : Below wr.heap.size wr ((wr.alloc (.cells #[.string kk, .string vv] 43)).drew) := hbA.drew
      have f0 : (wr.alloc (.cells #[.string kk, .string vv] 43)).cell? ⟨wr.heap.size, 0, none⟩ = some (.string kk) := World.cell?_alloc_mark wr #[.string kk, .string vv] 43 (0, 0) 0
      have f1 : (wr.alloc (.cells #[.string kk, .string vv] 43)).cell? ⟨wr.heap.size, 1, none⟩ = some (.string vv) := World.cell?_alloc_mark wr #[.string kk, .string vv] 43 (0, 0) 1
      have s1 : (ByteArray.mk #[34]).size = 1 := rfl
      have s3 : (ByteArray.mk #[34, 58, 34]).size = 3 := rfl
      have q1 := fun wx => run_string_add_sum (P := Tryd.prog) wx ⟨#[34]⟩ X (by rw [s1]; omega)
      have q2 := fun wx => run_string_add_sum (P := Tryd.prog) wx (⟨#[34]⟩ ++ X) ⟨#[34, 58, 34]⟩ (by simp only [ByteArray.size_append, s1, s3]; omega)
      have q3 := fun wx => run_string_add_sum (P := Tryd.prog) wx (⟨#[34]⟩ ++ X ++ ⟨#[34, 58, 34]⟩) Y (by simp only [ByteArray.size_append, s1, s3]; omega)
      have q4 := fun wx => run_string_add_sum (P := Tryd.prog) wx (⟨#[34]⟩ ++ X ++ ⟨#[34, 58, 34]⟩ ++ Y) ⟨#[34]⟩ (by simp only [ByteArray.size_append, s1, s3]; omega)
      have q5 := fun wx => run_string_add_sum (P := Tryd.prog) wx O (⟨#[34]⟩ ++ X ++ ⟨#[34, 58, 34]⟩ ++ Y ++ ⟨#[34]⟩) (by simp only [ByteArray.size_append, s1, s3]; omega)
      have q6 := fun wx => run_string_add_sum (P := Tryd.prog) wx (O ++ ⟨#[44]⟩) (⟨#[34]⟩ ++ X ++ ⟨#[34, 58, 34]⟩ ++ Y ++ ⟨#[34]⟩) (by simp only [ByteArray.size_append, s1, s3]; have : (ByteArray.mk #[44]).size = 1 := rfl; omega)
      clear s1 s3
      by_cases hk0 : k = 0
      · subst hk0
        simp only [Nat.zero_mul, Nat.add_zero] at h0 h1
        go_wp2_with fail
        go_region_held3 (fun w' => w'.cell? ⟨wr.heap.size, 0, none⟩ = some (.string kk) ∧ w'.cell? ⟨wr.heap.size, 1, none⟩ = some (.string vv)) (go_keep)
          (first
            | (go_at_call_of 10 kk; refine (CK.out _ ?_ (by assumption) (by assumption)).mono ?_; exact hgD; rintro e w1 ⟨rfl, hb1, g0, g1⟩)
            | (go_at_call_of 10 vv; refine (CV.out _ ?_ (by assumption) (by assumption)).mono ?_; exact hgD.next hb1; rintro e w2 ⟨rfl, hb2, g2, g3⟩))
        have hbE := hbD.trans ((hb1.trans (hb2.mono hb1.size)).mono hbD.size)
        have hbF := hnx.trans (hbE.mono hnx.size)
        clear hbE hb1 hb2 g0 g1 g2 g3 q1 q2 q3 q4 q5 q6 hbD hbA hgD hgA f0 f1
        go_wp2
        go_roundw
        case rel => exact ⟨0 + 1, _, by omega, by go_num, rfl, HST.out.1 trivial, (by simp only [ByteArray.size_append]; have h2 := HS2.out; have e1 : (ByteArray.mk #[34]).size = 1 := rfl; have e3 : (ByteArray.mk #[34, 58, 34]).size = 3 := rfl; omega), hbF⟩
        case measure => simp [RowKit.intOf]; omega
      · have hkz : (k : Int) > 0 := by omega
        go_wp2_with fail
        go_region_held3 (fun w' => w'.cell? ⟨wr.heap.size, 0, none⟩ = some (.string kk) ∧ w'.cell? ⟨wr.heap.size, 1, none⟩ = some (.string vv)) (go_keep)
          (first
            | (go_at_call_of 10 kk; refine (CK.out _ ?_ (by assumption) (by assumption)).mono ?_; exact hgD; rintro e w1 ⟨rfl, hb1, g0, g1⟩)
            | (go_at_call_of 10 vv; refine (CV.out _ ?_ (by assumption) (by assumption)).mono ?_; exact hgD.next hb1; rintro e w2 ⟨rfl, hb2, g2, g3⟩))
        have hbE := hbD.trans ((hb1.trans (hb2.mono hb1.size)).mono hbD.size)
        have hbF := hnx.trans (hbE.mono hnx.size)
        clear hbE hb1 hb2 g0 g1 g2 g3 q1 q2 q3 q4 q5 q6 hbD hbA hgD hgA f0 f1
        go_wp2
        go_roundw
        case rel => exact ⟨k + 1, _, by omega, by go_num, rfl, HST.out.2 hk0, (by simp only [ByteArray.size_append]; have h2 := HS2.out; have e1 : (ByteArray.mk #[34]).size = 1 := rfl; have e3 : (ByteArray.mk #[34, 58, 34]).size = 3 := rfl; have e4 : (ByteArray.mk #[44]).size = 1 := rfl; omega), hbF⟩
        case measure => simp [RowKit.intOf]; omega
    · have hke : k = n := by omega
      subst hke
      have HO := Lib.hid hO
      clear hO
      have zO : O.size ≤ 12999990 := by omega
      go_wp2
      go_ret
      refine ⟨_, rfl, ?_, ?_, hnx⟩
      · rw [append_list, HO.out]
      · rw [ByteArray.size_append]
        have : (ByteArray.mk #[125]).size = 1 := rfl
        omega
end Go.Proofs.YthiahhieiojgdaaDoor
