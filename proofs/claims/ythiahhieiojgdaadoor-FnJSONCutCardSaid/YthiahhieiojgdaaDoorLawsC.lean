/-
  THE WALKS OF FnJSONString and FnJSONCut: each returns true. Conditions: the tables as they are laid.
-/
import Derived.Test.YthiahhieiojgdaaDoorBodyWalk
import Derived.Test.YthiahhieiojgdaaDoorJson
import Derived.Deep.QuietTactic
import Derived.BigQuiet
import Derived.Deep.RegionWith
namespace Go.Proofs.YthiahhieiojgdaaDoor
open Go.RowKit

/-- spec.Body at what impl.JSONString gives -/
theorem body_esc (s : ByteArray) (w : World) (hs : s.size ≤ 2147483647) :
    Calls Tryd.prog 13 #[.string ⟨(esc s.data.toList).toArray⟩] w fun e w' => e = .returned (.tuple #[.string ⟨(coerced s.data.toList).toArray⟩, .int .i64 ((esc s.data.toList).length : Int), .bool true]) ∧ Below w.heap.size w w' := by
  have h := esc_len _ s.data.toList rfl
  rw [size_eq_len] at h
  exact body_any ⟨(esc s.data.toList).toArray⟩ s.data.toList [] w (by simp) (.inl rfl) (by rw [Lib.size_list]; simp only; omega)

set_option maxRecDepth 100000 in
set_option maxHeartbeats 2000000 in
theorem jsonString_small (s : ByteArray) (w : World) (hs : s.size ≤ 2147483647) (hg : Glob w) :
    Calls Tryd.prog 6 #[.string s] w fun e w' => e = .returned (.bool true) ∧ Below w.heap.size w w' := by
  have hsi : ¬ (s.size : Int) > 2147483647 := by omega
  have cJ := json_any s w (by omega) hg
  have cB := fun wx => body_esc s wx hs
  have cC := fun wx => coerced_any s wx (by omega)
  have zE : (esc s.data.toList).length = (⟨(esc s.data.toList).toArray⟩ : ByteArray).size := by rw [Lib.size_list]
  rw [zE] at cB
  generalize (⟨(esc s.data.toList).toArray⟩ : ByteArray) = O at *
  generalize (⟨(coerced s.data.toList).toArray⟩ : ByteArray) = C at *
  have CB := Lib.hid cB
  have CC := Lib.hid cC
  clear cB cC zE
  go_enter Tryd.func6, Tryd.ntmps6
  go_wp2_with fail
  refine cJ.mono ?_
  rintro e w1 ⟨rfl, hb1⟩
  have hg1 := hg.next hb1
  go_wp2_with fail
  refine (CB.out w1).mono ?_
  rintro e w2 ⟨rfl, hb2⟩
  have hg2 := hg1.next hb2
  go_wp2_with fail
  refine (CC.out w2).mono ?_
  rintro e w3 ⟨rfl, rfl⟩
  go_wp2_with fail
  refine (works_any w2 hg2).mono ?_
  rintro e w4 ⟨rfl, hb4⟩
  go_wp2
  go_ret
  exact ⟨rfl, hb1.trans ((hb2.trans (hb4.mono hb2.size)).mono hb1.size)⟩

set_option maxRecDepth 100000 in
/-- laws.FnJSONString -/
theorem jsonString_any (s : ByteArray) (w : World) (hg : Glob w) :
    Calls Tryd.prog 6 #[.string s] w fun e w' => e = .returned (.bool true) ∧ Below w.heap.size w w' := by
  by_cases hs : s.size ≤ 2147483647
  · exact jsonString_small s w hs hg
  · have hsi : (s.size : Int) > 2147483647 := by omega
    go_enter Tryd.func6, Tryd.ntmps6
    go_wp2
    go_ret
    exact ⟨rfl, Below.refl _ _⟩

set_option maxRecDepth 100000 in
set_option maxHeartbeats 4000000 in
theorem jsonCut_small (s : ByteArray) (k : Nat) (w : World) (hs : s.size ≤ 2147483647) (hk : k ≤ s.size) (hg : Glob w) :
    Calls Tryd.prog 4 #[.string s, .int .i64 (k : Int)] w fun e w' => e = .returned (.bool true) ∧ Below w.heap.size w w' := by
  have hsi : ¬ (s.size : Int) > 2147483647 := by omega
  have hk0 : ¬ (k : Int) < 0 := by omega
  have hk1 : ¬ (k : Int) > (s.size : Int) := by omega
  have hA : (s.extract 0 k).size ≤ 2147483647 := by simp; omega
  have hB : (s.extract k s.size).size ≤ 2147483647 := by simp; omega
  have cCa := fun wx => coerced_any (s.extract 0 k) wx (by omega)
  have cCb := fun wx => coerced_any (s.extract k s.size) wx (by omega)
  have cJa := fun wx hg => json_any (s.extract 0 k) wx (by omega) hg
  have cJb := fun wx hg => json_any (s.extract k s.size) wx (by omega) hg
  have cBa := fun wx => body_esc (s.extract 0 k) wx hA
  have cBb := fun wx => body_esc (s.extract k s.size) wx hB
  generalize (esc (s.extract 0 k).data.toList).length = n1 at *
  generalize (esc (s.extract k s.size).data.toList).length = n2 at *
  generalize (⟨(esc (s.extract 0 k).data.toList).toArray⟩ : ByteArray) = Oa at *
  generalize (⟨(esc (s.extract k s.size).data.toList).toArray⟩ : ByteArray) = Ob at *
  generalize (⟨(coerced (s.extract 0 k).data.toList).toArray⟩ : ByteArray) = Ca at *
  generalize (⟨(coerced (s.extract k s.size).data.toList).toArray⟩ : ByteArray) = Cb at *
  have cCa' := fun wx => (cCa wx).mono (fun e w' h => And.intro h.1 h.2.symm)
  have cCb' := fun wx => (cCb wx).mono (fun e w' h => And.intro h.1 h.2.symm)
  have CCa := Lib.hid cCa'
  have CCb := Lib.hid cCb'
  have CJa := Lib.hid cJa
  have CJb := Lib.hid cJb
  have CBa := Lib.hid cBa
  have CBb := Lib.hid cBb
  clear cCa cCb cCa' cCb' cJa cJb cBa cBb hA hB
  go_enter Tryd.func4, Tryd.ntmps4
  go_wp2
  go_quiet ((first | (go_at_call_of 12 (s.extract 0 k); exact Calls.quiet_of_same (CCa.out _)) | (go_at_call_of 12 (s.extract k s.size); exact Calls.quiet_of_same (CCb.out _))))
  rename_i nq
  have hb0 : Below w.heap.size w (w.drewN nq) := ⟨rfl, rfl, rfl, Nat.le_refl _, fun _ _ => rfl⟩
  have hg0 : Glob (w.drewN nq) := ⟨hg.safe, hg.u8⟩
  go_wp2_with fail
  refine (CJa.out _ hg0).mono ?_
  rintro e w1 ⟨rfl, hb1⟩
  have hg1 := hg0.next hb1
  go_wp2_with fail
  refine (CBa.out w1).mono ?_
  rintro e w2 ⟨rfl, hb2⟩
  have hg2 := hg1.next hb2
  go_wp2_with fail
  refine (CJb.out w2 hg2).mono ?_
  rintro e w3 ⟨rfl, hb3⟩
  have hg3 := hg2.next hb3
  go_wp2_with fail
  refine (CBb.out w3).mono ?_
  rintro e w4 ⟨rfl, hb4⟩
  have hg4 := hg3.next hb4
  go_wp2_with fail
  refine (works_any w4 hg4).mono ?_
  rintro e w5 ⟨rfl, hb5⟩
  have hbb := hb0.trans ((hb1.trans ((hb2.trans ((hb3.trans ((hb4.trans (hb5.mono hb4.size)).mono hb3.size)).mono hb2.size)).mono hb1.size)).mono hb0.size)
  go_wp2
  go_ret
  exact ⟨rfl, hbb⟩

set_option maxRecDepth 100000 in
/-- laws.FnJSONCut -/
theorem jsonCut_any (s : ByteArray) (at_ : Int) (w : World) (_h0 : -9223372036854775808 ≤ at_) (_h1 : at_ ≤ 9223372036854775807) (hg : Glob w) :
    Calls Tryd.prog 4 #[.string s, .int .i64 at_] w fun e w' => e = .returned (.bool true) ∧ Below w.heap.size w w' := by
  by_cases hs : s.size ≤ 2147483647
  · have hsi : ¬ (s.size : Int) > 2147483647 := by omega
    by_cases h0 : at_ < 0
    · go_enter Tryd.func4, Tryd.ntmps4
      go_wp2
      go_ret
      exact ⟨rfl, Below.refl _ _⟩
    · by_cases h1 : at_ > (s.size : Int)
      · go_enter Tryd.func4, Tryd.ntmps4
        go_wp2
        go_ret
        exact ⟨rfl, Below.refl _ _⟩
      · obtain ⟨k, rfl⟩ := Int.eq_ofNat_of_zero_le (show 0 ≤ at_ by omega)
        exact jsonCut_small s k w hs (by omega) hg
  · have hsi : (s.size : Int) > 2147483647 := by omega
    go_enter Tryd.func4, Tryd.ntmps4
    go_wp2
    go_ret
    exact ⟨rfl, Below.refl _ _⟩
end Go.Proofs.YthiahhieiojgdaaDoor
