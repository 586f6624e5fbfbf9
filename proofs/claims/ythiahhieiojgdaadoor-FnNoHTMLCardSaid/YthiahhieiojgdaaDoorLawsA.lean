/-
  THE WALKS OF FnNoHTML, FnSafe, FnControls: each returns true. Conditions: the tables as they are laid.
-/
import Derived.Test.YthiahhieiojgdaaDoorJson
namespace Go.Proofs.YthiahhieiojgdaaDoor
open Go.RowKit

theorem at_of_lt (l : List UInt8) (i : Nat) (h : i < l.length) : at' l i = (l[i]'h).toNat := by simp [at', h]
theorem list_mk (s : ByteArray) : (⟨s.data.toList.toArray⟩ : ByteArray) = s := by cases s; simp
theorem list_len (s : ByteArray) : s.data.toList.length = s.size := (Lib.size_list s).symm

theorem json_same (s : ByteArray) (w : World) (hs : s.size ≤ 1099511627776) (hg : Glob w) (h : esc s.data.toList = s.data.toList) :
    Calls Tryd.prog 10 #[.string s] w fun e w' => e = .returned (.string s) ∧ Below w.heap.size w w' := by
  have c := json_any s w hs hg
  rw [h, list_mk] at c
  exact c

def Good (s : ByteArray) (k : Nat) : Prop := ∀ j, j < k → 32 ≤ at' s.data.toList j ∧ at' s.data.toList j ≤ 126 ∧ at' s.data.toList j ≠ 34 ∧ at' s.data.toList j ≠ 92
theorem Good.esc {s : ByteArray} (h : Good s s.size) : esc s.data.toList = s.data.toList := by
  refine esc_plain _ fun b hb => ?_
  obtain ⟨i, hi, e⟩ := List.getElem_of_mem hb
  have := h i (by rw [← list_len]; exact hi)
  have e' : at' s.data.toList i = b.toNat := by rw [at_of_lt _ i hi, e]
  rw [e'] at this
  exact this

set_option maxRecDepth 100000 in
set_option maxHeartbeats 2000000 in
theorem noHTML_small (s : ByteArray) (w : World) (hs : s.size ≤ 2147483647) (hg : Glob w) :
    Calls Tryd.prog 7 #[.string s] w fun e w' => e = .returned (.bool true) ∧ Below w.heap.size w w' := by
  have hsi : ¬ (s.size : Int) > 2147483647 := by omega
  go_enter Tryd.func7, Tryd.ntmps7
  go_wp2
  go_loop [9] (fun i => ∃ k : Nat, k ≤ s.size ∧ i = .int .i64 k ∧ Good s k) (fun i => s.size - (RowKit.intOf i).toNat)
  case atStart => exact ⟨0, Nat.zero_le _, rfl, fun j hj => by omega⟩
  case round =>
    obtain ⟨k, hk, rfl, hgood⟩ := hrel
    have HG := Lib.hid hgood
    clear hgood
    by_cases hlt : k < s.size
    · obtain ⟨x0, hx0⟩ : ∃ x0, s[k]'hlt = x0 := ⟨_, rfl⟩
      have hat : at' s.data.toList k = x0.toNat := by rw [← hx0]; exact (getElem_at s k hlt).symm
      have HAT := Lib.hid hat
      clear hat
      have l0 := x0.toNat_lt
      by_cases h1 : x0.toNat < 32
      · go_wp2_with fail
        go_ret
        exact ⟨rfl, Below.refl _ _⟩
      by_cases h2 : 126 < x0.toNat
      · go_wp2_with fail
        go_ret
        exact ⟨rfl, Below.refl _ _⟩
      by_cases h3 : x0 = 34
      · subst h3
        go_wp2_with fail
        go_ret
        exact ⟨rfl, Below.refl _ _⟩
      by_cases h4 : x0 = 92
      · subst h4
        go_wp2_with fail
        go_ret
        exact ⟨rfl, Below.refl _ _⟩
      have n3 : x0.toNat ≠ 34 := fun e => h3 (UInt8.toNat_inj.1 e)
      have n4 : x0.toNat ≠ 92 := fun e => h4 (UInt8.toNat_inj.1 e)
      have t3 : ((x0.toNat : Int) == 34) = false := by rw [beq_eq_false_iff_ne]; omega
      have t4 : ((x0.toNat : Int) == 92) = false := by rw [beq_eq_false_iff_ne]; omega
      have hnew : Good s (k + 1) := fun j hj => by
        by_cases e : j = k
        · subst e; rw [HAT.out]; omega
        · exact HG.out j (by omega)
      have HN := Lib.hid hnew
      clear hnew h3 h4 n3 n4
      go_wp2
      go_round
      case rel => exact ⟨k + 1, by omega, by go_num, HN.out⟩
      case measure => simp [RowKit.intOf]; omega
    · have hke : k = s.size := by omega
      subst hke
      go_wp2_with fail
      refine (json_same s _ (by omega) hg HG.out.esc).mono ?_
      rintro e w1 ⟨rfl, hb⟩
      have hg1 := hg.next hb
      go_wp2_with fail
      refine (works_any w1 hg1).mono ?_
      rintro e w2 ⟨rfl, hb2⟩
      go_wp2
      go_ret
      exact ⟨rfl, hb.trans (hb2.mono hb.size)⟩

set_option maxRecDepth 100000 in
/-- laws.FnNoHTML -/
theorem noHTML_any (s : ByteArray) (w : World) (hg : Glob w) :
    Calls Tryd.prog 7 #[.string s] w fun e w' => e = .returned (.bool true) ∧ Below w.heap.size w w' := by
  by_cases hs : s.size ≤ 2147483647
  · exact noHTML_small s w hs hg
  · have hsi : (s.size : Int) > 2147483647 := by omega
    go_enter Tryd.func7, Tryd.ntmps7
    go_wp2
    go_ret
    exact ⟨rfl, Below.refl _ _⟩

set_option maxRecDepth 100000 in
set_option maxHeartbeats 2000000 in
theorem safe_small (c : UInt8) (w : World) (hc : c.toNat < 128) (hg : Glob w) :
    Calls Tryd.prog 9 #[.int .u8 (c.toNat : Int)] w fun e w' => e = .returned (.bool true) ∧ Below w.heap.size w w' := by
  have hci : (c.toNat : Int) < 128 := by omega
  have hb0 : Below w.heap.size w (w.alloc (.cells #[.int .u8 (c.toNat : Int)] 5)) := (Below.refl _ _).alloc (Nat.le_refl _) _
  have hg0 := hg.next hb0
  have hcell : ∀ j (hj : j < [c].length), (w.alloc (.cells #[.int .u8 (c.toNat : Int)] 5)).cell? ((⟨w.heap.size, 0, none⟩ : Addr).add j) = some (.int .u8 (([c][j]).toNat : Int)) := fun j hj => by
    match j, hj with
    | 0, _ =>
      rw [Addr.add_lit]
      exact World.cell?_alloc_mark w #[.int .u8 (c.toNat : Int)] 5 (0, 0) 0
  have hcv : (convert 36 9 (.slice (some ⟨w.heap.size, 0, none⟩) 1 1)).run Tryd.prog (w.alloc (.cells #[.int .u8 (c.toNat : Int)] 5)) = .ok (.string ⟨#[c]⟩) (w.alloc (.cells #[.int .u8 (c.toNat : Int)] 5)) :=
    run_convert_bytes_back (P := Tryd.prog) (w.alloc (.cells #[.int .u8 (c.toNat : Int)] 5)) 36 9 5 ⟨w.heap.size, 0, none⟩ 1 [c] Tryd.underlying36 Tryd.underlying5 Tryd.underlying9 hcell
  have cS := safe_any c (w.alloc (.cells #[.int .u8 (c.toNat : Int)] 5)) hc hg0
  have cJ := json_any ⟨#[c]⟩ (w.alloc (.cells #[.int .u8 (c.toNat : Int)] 5)) (by show 1 ≤ _; omega) hg0
  have hes : okB c.toNat = decide (esc [c] = [c]) := esc_safe c hc
  have e : (ByteArray.mk #[c]).data.toList = [c] := rfl
  rw [e] at cJ
  rw [hes] at cS
  generalize esc [c] = E at *
  clear hes e hcell
  by_cases hE : E = [c]
  · subst hE
    rw [decide_eq_true rfl] at cS
    go_enter Tryd.func9, Tryd.ntmps9
    go_wp2_with fail
    refine cS.mono ?_
    rintro e w1 ⟨rfl, rfl⟩
    go_wp2_with fail
    refine cJ.mono ?_
    rintro e w1 ⟨rfl, hb⟩
    have hg1 := hg0.next hb
    go_wp2_with fail
    refine (works_any w1 hg1).mono ?_
    rintro e w2 ⟨rfl, hb2⟩
    go_wp2
    go_ret
    exact ⟨rfl, hb0.trans ((hb.trans (hb2.mono hb.size)).mono hb0.size)⟩
  · rw [decide_eq_false hE] at cS
    have hEb : (E == [c]) = false := by rw [beq_eq_false_iff_ne]; exact hE
    clear hE
    go_enter Tryd.func9, Tryd.ntmps9
    go_wp2_with fail
    refine cS.mono ?_
    rintro e w1 ⟨rfl, rfl⟩
    go_wp2_with fail
    refine cJ.mono ?_
    rintro e w1 ⟨rfl, hb⟩
    have hg1 := hg0.next hb
    go_wp2_with fail
    refine (works_any w1 hg1).mono ?_
    rintro e w2 ⟨rfl, hb2⟩
    go_wp2
    go_ret
    exact ⟨rfl, hb0.trans ((hb.trans (hb2.mono hb.size)).mono hb0.size)⟩

set_option maxRecDepth 100000 in
/-- laws.FnSafe -/
theorem safeLaw_any (c : UInt8) (w : World) (hg : Glob w) :
    Calls Tryd.prog 9 #[.int .u8 (c.toNat : Int)] w fun e w' => e = .returned (.bool true) ∧ Below w.heap.size w w' := by
  by_cases hc : c.toNat < 128
  · exact safe_small c w hc hg
  · have hci : ¬ (c.toNat : Int) < 128 := by omega
    go_enter Tryd.func9, Tryd.ntmps9
    go_wp2
    go_ret
    exact ⟨rfl, Below.refl _ _⟩

set_option maxRecDepth 100000 in
set_option maxHeartbeats 2000000 in
theorem controls_small (s : ByteArray) (w : World) (hs : s.size ≤ 2147483647) (hg : Glob w) :
    Calls Tryd.prog 3 #[.string s] w fun e w' => e = .returned (.bool true) ∧ Below w.heap.size w w' := by
  have hsi : ¬ (s.size : Int) > 2147483647 := by omega
  have cJ := json_any s w (by omega) hg
  have hctl := esc_controls _ s.data.toList rfl
  have hlen := esc_len _ s.data.toList rfl
  rw [list_len] at hlen
  generalize esc s.data.toList = E at *
  have hOl : (ByteArray.mk E.toArray).data.toList = E := by simp
  have hOs : E.length = (ByteArray.mk E.toArray).size := by rw [← list_len, hOl]
  rw [← hOl] at hctl
  generalize (ByteArray.mk E.toArray) = O at *
  rw [hOs] at hlen
  have HC := Lib.hid hctl
  clear hctl hOl hOs
  go_enter Tryd.func3, Tryd.ntmps3
  go_wp2_with fail
  refine cJ.mono ?_
  rintro e w1 ⟨rfl, hb⟩
  have hg1 := hg.next hb
  go_wp2
  go_loop [12] (fun i => ∃ k : Nat, k ≤ O.size ∧ i = .int .i64 k) (fun i => O.size - (RowKit.intOf i).toNat)
  case atStart => exact ⟨0, Nat.zero_le _, rfl⟩
  case round =>
    obtain ⟨k, hk, rfl⟩ := hrel
    by_cases hlt : k < O.size
    · have h32 := HC.out k (by rw [list_len]; exact hlt)
      obtain ⟨x0, hx0⟩ : ∃ x0, O[k]'hlt = x0 := ⟨_, rfl⟩
      have hat : at' O.data.toList k = x0.toNat := by rw [← hx0]; exact (getElem_at O k hlt).symm
      have h0 : 32 ≤ x0.toNat := by omega
      by_cases h3 : k + 3 ≤ O.size
      · have hne : ∀ z : UInt8, z.toNat = 168 ∨ z.toNat = 169 → ((O.extract k (k + 3)).toList == [226, 128, z]) = false := fun z hz => by
          rw [Lib.toList_data, extract_list, beq_eq_false_iff_ne]
          intro e
          have e0 : at' _ 0 = at' [226, 128, z] 0 := congrArg (fun l => at' l 0) e
          have e1 : at' _ 1 = at' [226, 128, z] 1 := congrArg (fun l => at' l 1) e
          have e2 : at' _ 2 = at' [226, 128, z] 2 := congrArg (fun l => at' l 2) e
          rw [at_take (by omega), at_drop] at e0 e1 e2
          have z0 : at' [226, 128, z] 0 = 226 := rfl
          have z1 : at' [226, 128, z] 1 = 128 := rfl
          have z2 : at' [226, 128, z] 2 = z.toNat := rfl
          rw [z0] at e0; rw [z1] at e1; rw [z2] at e2
          rw [Nat.add_zero] at e0
          exact h32.2 ⟨e0, e1, by omega⟩
        have n8 := hne 168 (.inl rfl)
        have n9 := hne 169 (.inr rfl)
        obtain ⟨m, hm⟩ : ∃ m : Nat, m = k + 3 := ⟨_, rfl⟩
        rw [← hm] at n8 n9
        have hm1 : k ≤ m := by omega
        have hm2 : m ≤ O.size := by omega
        have hm3 : (k : Int) + 3 = (m : Int) := by omega
        clear hne h32 hat hm h3
        go_wp2
        go_round
        case rel => exact ⟨k + 1, by omega, by go_num⟩
        case measure => simp [RowKit.intOf]; omega
      · have h3i : ¬ (k : Int) + 3 ≤ (O.size : Int) := by omega
        clear h32 hat
        go_wp2
        go_round
        case rel => exact ⟨k + 1, by omega, by go_num⟩
        case measure => simp [RowKit.intOf]; omega
    · have hke : k = O.size := by omega
      subst hke
      go_wp2_with fail
      refine (works_any w1 hg1).mono ?_
      rintro e w2 ⟨rfl, hb2⟩
      go_wp2
      go_ret
      exact ⟨rfl, hb.trans (hb2.mono hb.size)⟩

set_option maxRecDepth 100000 in
/-- laws.FnControls -/
theorem controls_any (s : ByteArray) (w : World) (hg : Glob w) :
    Calls Tryd.prog 3 #[.string s] w fun e w' => e = .returned (.bool true) ∧ Below w.heap.size w w' := by
  by_cases hs : s.size ≤ 2147483647
  · exact controls_small s w hs hg
  · have hsi : (s.size : Int) > 2147483647 := by omega
    go_enter Tryd.func3, Tryd.ntmps3
    go_wp2
    go_ret
    exact ⟨rfl, Below.refl _ _⟩
end Go.Proofs.YthiahhieiojgdaaDoor
