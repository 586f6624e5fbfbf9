/-
  THE WALK OF FnJSONJoins: it returns true. Conditions: the tables as they are laid.
-/
import Derived.Test.YthiahhieiojgdaaDoorJson
import Derived.Test.YthiahhieiojgdaaDoorCoerced
namespace Go.Proofs.YthiahhieiojgdaaDoor
open Go.RowKit

theorem valid_yes (s : ByteArray) (w : World) (hs : s.size ≤ 1099511627776) (h : coerced s.data.toList = s.data.toList) :
    Calls Tryd.prog 14 #[.string s] w fun e w' => e = .returned (.bool true) ∧ w = w' := by
  have c := valid_any s w hs
  rw [h, beq_self_eq_true] at c
  exact c
theorem valid_no (s : ByteArray) (w : World) (hs : s.size ≤ 1099511627776) (h : coerced s.data.toList ≠ s.data.toList) :
    Calls Tryd.prog 14 #[.string s] w fun e w' => e = .returned (.bool false) ∧ w = w' := by
  have c := valid_any s w hs
  rw [beq_eq_false_iff_ne.2 h] at c
  exact c

theorem mk_append (a b : List UInt8) : (⟨(a ++ b).toArray⟩ : ByteArray) = (⟨a.toArray⟩ : ByteArray) ++ ⟨b.toArray⟩ := by
  apply ByteArray.ext
  rw [ByteArray.data_append]
  simp

set_option maxRecDepth 100000 in
set_option maxHeartbeats 2000000 in
theorem joins_valid (a b : ByteArray) (w : World) (ha : a.size ≤ 2147483647) (hb : b.size ≤ 2147483647) (hva : coerced a.data.toList = a.data.toList) (hvb : coerced b.data.toList = b.data.toList) (hg : Glob w) :
    Calls Tryd.prog 5 #[.string a, .string b] w fun e w' => e = .returned (.bool true) ∧ Below w.heap.size w w' := by
  have hai : ¬ (a.size : Int) > 2147483647 := by omega
  have hbi : ¬ (b.size : Int) > 2147483647 := by omega
  have c1 := valid_yes a w (by omega) hva
  have c2 := valid_yes b w (by omega) hvb
  have hj := esc_joins _ a.data.toList b.data.toList rfl hva
  have cAB : ∀ w : World, Glob w → _ := fun w hg => json_any (a ++ b) w (by rw [ByteArray.size_append]; omega) hg
  have cA : ∀ w : World, Glob w → _ := fun w hg => json_any a w (by omega) hg
  have cB : ∀ w : World, Glob w → _ := fun w hg => json_any b w (by omega) hg
  have lA := esc_len _ a.data.toList rfl
  have lB := esc_len _ b.data.toList rfl
  rw [size_eq_len] at lA lB
  rw [append_list, hj, mk_append] at cAB
  have zA : (esc a.data.toList).length = (⟨(esc a.data.toList).toArray⟩ : ByteArray).size := by rw [Lib.size_list]
  have zB : (esc b.data.toList).length = (⟨(esc b.data.toList).toArray⟩ : ByteArray).size := by rw [Lib.size_list]
  rw [zA] at lA
  rw [zB] at lB
  generalize (⟨(esc a.data.toList).toArray⟩ : ByteArray) = X at *
  generalize (⟨(esc b.data.toList).toArray⟩ : ByteArray) = Y at *
  have CAB := Lib.hid cAB
  have CA := Lib.hid cA
  have CB := Lib.hid cB
  clear cAB cA cB hj hva hvb zA zB
  go_enter Tryd.func5, Tryd.ntmps5
  go_wp2_with fail
  refine c1.mono ?_
  rintro e w1 ⟨rfl, rfl⟩
  go_wp2_with fail
  refine c2.mono ?_
  rintro e w1 ⟨rfl, rfl⟩
  go_wp2_with fail
  refine (CAB.out w hg).mono ?_
  rintro e w1 ⟨rfl, hb1⟩
  have hg1 := hg.next hb1
  go_wp2_with fail
  refine (CA.out w1 hg1).mono ?_
  rintro e w2 ⟨rfl, hb2⟩
  have hg2 := hg1.next hb2
  go_wp2_with fail
  refine (CB.out w2 hg2).mono ?_
  rintro e w3 ⟨rfl, hb3⟩
  have hg3 := hg2.next hb3
  go_wp2_with fail
  refine (works_any w3 hg3).mono ?_
  rintro e w4 ⟨rfl, hb4⟩
  go_wp2
  go_ret
  exact ⟨rfl, hb1.trans ((hb2.trans ((hb3.trans (hb4.mono hb3.size)).mono hb2.size)).mono hb1.size)⟩

set_option maxRecDepth 100000 in
/-- laws.FnJSONJoins -/
theorem joins_any (a b : ByteArray) (w : World) (hg : Glob w) :
    Calls Tryd.prog 5 #[.string a, .string b] w fun e w' => e = .returned (.bool true) ∧ Below w.heap.size w w' := by
  by_cases ha : a.size ≤ 2147483647
  · have hai : ¬ (a.size : Int) > 2147483647 := by omega
    by_cases hb : b.size ≤ 2147483647
    · have hbi : ¬ (b.size : Int) > 2147483647 := by omega
      by_cases hva : coerced a.data.toList = a.data.toList
      · by_cases hvb : coerced b.data.toList = b.data.toList
        · exact joins_valid a b w ha hb hva hvb hg
        · have c1 := valid_yes a w (by omega) hva
          have c2 := valid_no b w (by omega) hvb
          clear hva hvb
          go_enter Tryd.func5, Tryd.ntmps5
          go_wp2_with fail
          refine c1.mono ?_
          rintro e w1 ⟨rfl, rfl⟩
          go_wp2_with fail
          refine c2.mono ?_
          rintro e w1 ⟨rfl, rfl⟩
          go_wp2
          go_ret
          exact ⟨rfl, Below.refl _ _⟩
      · have c1 := valid_no a w (by omega) hva
        clear hva
        go_enter Tryd.func5, Tryd.ntmps5
        go_wp2_with fail
        refine c1.mono ?_
        rintro e w1 ⟨rfl, rfl⟩
        go_wp2
        go_ret
        exact ⟨rfl, Below.refl _ _⟩
    · have hbi : (b.size : Int) > 2147483647 := by omega
      go_enter Tryd.func5, Tryd.ntmps5
      go_wp2
      go_ret
      exact ⟨rfl, Below.refl _ _⟩
  · have hai : (a.size : Int) > 2147483647 := by omega
    go_enter Tryd.func5, Tryd.ntmps5
    go_wp2
    go_ret
    exact ⟨rfl, Below.refl _ _⟩
end Go.Proofs.YthiahhieiojgdaaDoor
