/-
  spec.quote at a string that begins with a quotation mark, what appendEscapedJSONString gives, and a quotation mark. Conditions: at most 2^40 bytes.
-/
import Derived.Test.YthiahhieiojgdaaDoorBodyWalk
import Derived.Deep.QuietTactic
import Derived.BigQuiet
namespace Go.Proofs.YthiahhieiojgdaaDoor
open Go.RowKit

set_option maxRecDepth 100000 in
set_option maxHeartbeats 1000000 in
theorem quote_any (s : ByteArray) (t rest : List UInt8) (w : World) (h : s.data.toList = 34 :: (esc t ++ 34 :: rest)) (hs : s.size ≤ 1099511627776) :
    Calls Tryd.prog 27 #[.string s] w fun e w' => e = .returned (.tuple #[.string ⟨(coerced t).toArray⟩, .string ⟨rest.toArray⟩, .bool true]) ∧ Below w.heap.size w w' := by
  have hlen : s.size = (esc t).length + rest.length + 2 := by
    rw [Lib.size_list, h]; simp; omega
  have hz : 0 < s.size := by omega
  have hzi : (0 : Int) < (s.size : Int) := by omega
  have hx0 : s[0]'hz = 34 := byte_eq hz (by rw [h]; rfl)
  have hemp : s.toList.isEmpty = false := by rw [Lib.toList_data, h]; rfl
  have hemp2 : (s.toList == []) = false := by rw [Lib.toList_data, h]; rfl
  have hcut : (s.extract 1 s.size).data.toList = esc t ++ 34 :: rest := by rw [extract_end, h]; rfl
  have cB := body_any (s.extract 1 s.size) t (34 :: rest) w hcut (.inr ⟨by simp, rfl⟩) (by simp; omega)
  generalize hm : (esc t).length = m at *
  obtain ⟨p, hp⟩ : ∃ p : Nat, p = m + 2 := ⟨_, rfl⟩
  have hR : s.extract p s.size = ⟨rest.toArray⟩ := by
    apply str_ext
    rw [extract_end, h, hp, ← hm]
    simp
  have hpi : (m : Int) + 2 = (p : Int) := by omega
  have hpw : IntKind.i64.wrap ((m : Int) + 2) = (p : Int) := by rw [IntKind.wrap_i64]; omega
  have hp1 : p ≤ s.size := by omega
  have hp2 : (0 : Int) ≤ (p : Int) := by omega
  have hp3 : (p : Int) ≤ (s.size : Int) := by omega
  have hge : ¬ 1 + (m : Int) ≥ (s.size : Int) := by omega
  have hged : decide (1 + (m : Int) ≥ (s.size : Int)) = false := by simp; omega
  generalize (⟨rest.toArray⟩ : ByteArray) = R at *
  generalize (⟨(coerced t).toArray⟩ : ByteArray) = C at *
  have CB := Lib.hid cB
  clear cB hcut h hm hp hlen
  go_enter Tryd.func27, Tryd.ntmps27
  go_wp2_with fail
  refine CB.out.mono ?_
  rintro e w1 ⟨rfl, hb1⟩
  go_wp2
  go_quiet (fail)
  rename_i nq
  have hbq : Below w.heap.size w (w1.drewN nq) := hb1.trans ⟨rfl, rfl, rfl, Nat.le_refl _, fun _ _ => rfl⟩
  go_wp2
  go_ret3
  exact ⟨rfl, hbq⟩
end Go.Proofs.YthiahhieiojgdaaDoor
