/-
  impl.JSONString at every string of at most 2^40 bytes: 'esc'; impl.Safe; impl.NeedsQuoting at two words; works. Conditions: the tables as they are laid.
-/
import Derived.Test.YthiahhieiojgdaaDoorLoop
import Derived.Laws.IdiomStrings
import Derived.Laws.BytesArg
namespace Go.Proofs.YthiahhieiojgdaaDoor
open Go.RowKit

set_option maxRecDepth 100000 in
theorem json21_any (s : ByteArray) (w : World) (hs : s.size ≤ 1099511627776) (hg : Glob w) :
    Calls Tryd.prog 21 #[.string s] w fun e w' => e = .returned (.string ⟨(esc s.data.toList).toArray⟩) ∧ Below w.heap.size w w' := by
  have cA := append_any s w hs hg
  generalize esc s.data.toList = l at *
  go_enter Tryd.func21, Tryd.ntmps21
  go_wp2_with fail
  refine cA.mono ?_
  rintro e w1 ⟨v, rfl, hown, hb⟩
  rcases hown.2 with ⟨hv, hn⟩ | ⟨g, cap, cur, hv, hg', hh, hnc, hcp, hcs, htake⟩
  · have hl : l = [] := List.length_eq_zero_iff.1 hn
    subst hl
    have hcv := run_convert_bytes_nil (P := Tryd.prog) w1 36 5 Tryd.underlying36 Tryd.underlying5 0 0
    rw [hv]
    clear hv hn hown
    go_wp2
    go_ret
    exact ⟨rfl, hb⟩
  · have hcells : ∀ j (hj : j < l.length), w1.cell? ((⟨g, 0, none⟩ : Addr).add j) = some (.int .u8 (l[j].toNat : Int)) := fun j hj => by
      rw [hv] at hown
      rw [Addr.add_lit, Nat.zero_add, hown.cellAt j (by omega)]
      simp [byteV, hj]
    have hcv := run_convert_bytes_back (P := Tryd.prog) w1 36 9 5 ⟨g, 0, none⟩ cap l Tryd.underlying36 Tryd.underlying5 Tryd.underlying9 hcells
    rw [hv]
    clear hv hown hcells hh hcs htake
    go_wp2
    go_ret
    exact ⟨rfl, hb⟩

set_option maxRecDepth 100000 in
/-- impl.JSONString -/
theorem json_any (s : ByteArray) (w : World) (hs : s.size ≤ 1099511627776) (hg : Glob w) :
    Calls Tryd.prog 10 #[.string s] w fun e w' => e = .returned (.string ⟨(esc s.data.toList).toArray⟩) ∧ Below w.heap.size w w' := by
  go_enter Tryd.func10, Tryd.ntmps10
  go_wp2_with fail
  refine (json21_any s w hs hg).mono ?_
  rintro e w1 ⟨rfl, hb⟩
  go_wp2
  go_ret
  exact ⟨rfl, hb⟩

set_option maxRecDepth 100000 in
theorem safe28_any (c : UInt8) (w : World) (hc : c.toNat < 128) (hg : Glob w) :
    Calls Tryd.prog 28 #[.int .u8 (c.toNat : Int)] w fun e w' => e = .returned (.bool (okB c.toNat)) ∧ w = w' := by
  have cS := hg.safe c.toNat hc
  generalize okB c.toNat = b at *
  have hci : (c.toNat : Int) < 128 := by omega
  go_enter Tryd.func28, Tryd.ntmps28
  go_wp2
  go_ret
  exact ⟨rfl, rfl⟩
set_option maxRecDepth 100000 in
/-- impl.Safe -/
theorem safe_any (c : UInt8) (w : World) (hc : c.toNat < 128) (hg : Glob w) :
    Calls Tryd.prog 20 #[.int .u8 (c.toNat : Int)] w fun e w' => e = .returned (.bool (okB c.toNat)) ∧ w = w' := by
  go_enter Tryd.func20, Tryd.ntmps20
  go_wp2_with fail
  refine (safe28_any c w hc hg).mono ?_
  rintro e w1 ⟨rfl, rfl⟩
  go_wp2
  go_ret
  exact ⟨rfl, rfl⟩

set_option maxRecDepth 100000 in
/-- needsQuoting("ab") -/
theorem needs_ab (w : World) (hg : Glob w) : Calls Tryd.prog 35 #[.string ⟨#[97, 98]⟩] w fun e w' => e = .returned (.bool false) ∧ w = w' := by
  have c97 : w.cell? ⟨0, 97, none⟩ = some (.bool true) := hg.safe 97 (by omega)
  have c98 : w.cell? ⟨0, 98, none⟩ = some (.bool true) := hg.safe 98 (by omega)
  have e0 : (⟨#[97, 98]⟩ : ByteArray)[0]'(by decide) = 97 := rfl
  have e1 : (⟨#[97, 98]⟩ : ByteArray)[1]'(by decide) = 98 := rfl
  go_enter Tryd.func35, Tryd.ntmps35
  go_wp2
  refine wp_loop_rounds 3 ?_
  rw [rounds_succ]
  go_wp2
  rw [rounds_succ]
  go_wp2
  rw [rounds_succ]
  go_wp2
  go_ret
  exact ⟨rfl, rfl⟩
set_option maxRecDepth 100000 in
/-- needsQuoting("a b") -/
theorem needs_a_b (w : World) (hg : Glob w) : Calls Tryd.prog 35 #[.string ⟨#[97, 32, 98]⟩] w fun e w' => e = .returned (.bool true) ∧ w = w' := by
  have c97 : w.cell? ⟨0, 97, none⟩ = some (.bool true) := hg.safe 97 (by omega)
  have e0 : (⟨#[97, 32, 98]⟩ : ByteArray)[0]'(by decide) = 97 := rfl
  have e1 : (⟨#[97, 32, 98]⟩ : ByteArray)[1]'(by decide) = 32 := rfl
  go_enter Tryd.func35, Tryd.ntmps35
  go_wp2
  refine wp_loop_rounds 2 ?_
  rw [rounds_succ]
  go_wp2
  rw [rounds_succ]
  go_wp2
  go_ret
  exact ⟨rfl, rfl⟩

set_option maxRecDepth 100000 in
theorem needs22_ab (w : World) (hg : Glob w) : Calls Tryd.prog 22 #[.string ⟨#[97, 98]⟩] w fun e w' => e = .returned (.bool false) ∧ w = w' := by
  have c30 : Calls Tryd.prog 30 #[.string ⟨#[97, 98]⟩] w fun e w' => e = .returned (.bool false) ∧ w = w' := by
    go_enter Tryd.func30, Tryd.ntmps30
    go_wp2_with fail
    refine (needs_ab w hg).mono ?_
    rintro e w1 ⟨rfl, rfl⟩
    go_wp2
    go_ret
    exact ⟨rfl, rfl⟩
  go_enter Tryd.func22, Tryd.ntmps22
  go_wp2_with fail
  refine c30.mono ?_
  rintro e w1 ⟨rfl, rfl⟩
  go_wp2
  go_ret
  exact ⟨rfl, rfl⟩
set_option maxRecDepth 100000 in
theorem needs22_a_b (w : World) (hg : Glob w) : Calls Tryd.prog 22 #[.string ⟨#[97, 32, 98]⟩] w fun e w' => e = .returned (.bool true) ∧ w = w' := by
  have c30 : Calls Tryd.prog 30 #[.string ⟨#[97, 32, 98]⟩] w fun e w' => e = .returned (.bool true) ∧ w = w' := by
    go_enter Tryd.func30, Tryd.ntmps30
    go_wp2_with fail
    refine (needs_a_b w hg).mono ?_
    rintro e w1 ⟨rfl, rfl⟩
    go_wp2
    go_ret
    exact ⟨rfl, rfl⟩
  go_enter Tryd.func22, Tryd.ntmps22
  go_wp2_with fail
  refine c30.mono ?_
  rintro e w1 ⟨rfl, rfl⟩
  go_wp2
  go_ret
  exact ⟨rfl, rfl⟩

theorem esc_aq : esc [97, 34] = [97, 92, 34] := by
  have h1 : chunk [97, 34] = ([97], 1) := by unfold chunk; rw [if_pos (by decide)]; rfl
  have h2 : chunk [34] = ([92, 34], 1) := by unfold chunk; rw [if_pos (by decide)]; rfl
  rw [esc_some (by simp), h1]
  show [97] ++ esc [34] = _
  rw [esc_some (by simp), h2]
  show [97] ++ ([92, 34] ++ esc []) = _
  rw [esc_nil]; rfl
theorem json_aq (w : World) (hg : Glob w) : Calls Tryd.prog 10 #[.string ⟨#[97, 34]⟩] w fun e w' => e = .returned (.string ⟨#[97, 92, 34]⟩) ∧ Below w.heap.size w w' := by
  have h := json_any ⟨#[97, 34]⟩ w (by decide) hg
  have e : esc (ByteArray.mk #[97, 34]).data.toList = [97, 92, 34] := esc_aq
  rw [e] at h
  exact h
theorem safe_a (w : World) (hg : Glob w) : Calls Tryd.prog 20 #[.int .u8 97] w fun e w' => e = .returned (.bool true) ∧ w = w' := safe_any 97 w (by decide) hg

set_option maxRecDepth 100000 in
/-- works -/
theorem works_any (w : World) (hg : Glob w) : Calls Tryd.prog 11 #[] w fun e w' => e = .returned (.bool true) ∧ Below w.heap.size w w' := by
  go_enter Tryd.func11, Tryd.ntmps11
  go_wp2_with fail
  refine (json_aq w hg).mono ?_
  rintro e w1 ⟨rfl, hb⟩
  have hg1 := hg.next hb
  go_wp2_with fail
  refine (needs22_a_b w1 hg1).mono ?_
  rintro e w2 ⟨rfl, rfl⟩
  go_wp2_with fail
  refine (needs22_ab w1 hg1).mono ?_
  rintro e w2 ⟨rfl, rfl⟩
  go_wp2_with fail
  refine (safe_a w1 hg1).mono ?_
  rintro e w2 ⟨rfl, rfl⟩
  go_wp2
  go_ret
  exact ⟨rfl, hb⟩
end Go.Proofs.YthiahhieiojgdaaDoor
