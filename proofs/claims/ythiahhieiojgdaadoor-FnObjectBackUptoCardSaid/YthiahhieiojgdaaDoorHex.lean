/-
  spec.hex at four digits as the escapes have them; spec.coded at the numbers that stand in escapes. Conditions: none.
-/
import Derived.Test.YthiahhieiojgdaaDoorLoop
import Derived.Laws.IdiomStrings
import Derived.Deep.RegionWith
namespace Go.Proofs.YthiahhieiojgdaaDoor
open Go.RowKit

def dig (a b c d k : Nat) : Nat := if k = 0 then a else if k = 1 then b else if k = 2 then c else d
def part (a b c d : Nat) : Nat → Nat
  | 0 => 0
  | k + 1 => 16 * part a b c d k + dig a b c d k
theorem dig_lt {a b c d : Nat} (ha : a < 16) (hb : b < 16) (hc : c < 16) (hd : d < 16) (k : Nat) : dig a b c d k < 16 := by
  unfold dig; repeat' split
  all_goals omega
theorem part_four (a b c d : Nat) : part a b c d 4 = 4096 * a + 256 * b + 16 * c + d := by
  simp [part, dig]; omega
theorem part_lt {a b c d : Nat} (ha : a < 16) (hb : b < 16) (hc : c < 16) (hd : d < 16) : ∀ k, k ≤ 4 → part a b c d k < 65536 := by
  intro k hk
  match k, hk with
  | 0, _ => simp [part]
  | 1, _ => simp [part, dig]; omega
  | 2, _ => simp [part, dig]; omega
  | 3, _ => simp [part, dig]; omega
  | 4, _ => rw [part_four]; omega

theorem nib_toNat {y : Nat} (h : y < 16) : (nib y).toNat = if y < 10 then 48 + y else 87 + y := by
  unfold nib
  rw [UInt8.toNat_ofNat']
  split <;> omega

set_option maxRecDepth 100000 in
set_option maxHeartbeats 2000000 in
/-- spec.hex -/
theorem hex_any (s : ByteArray) (w : World) (a b c d : Nat) (ha : a < 16) (hb : b < 16) (hc : c < 16) (hd : d < 16) (hz : 4 ≤ s.size) (hs : s.size ≤ 1099511627776)
    (h : ∀ k (hk : k < 4), s[k]'(by omega) = nib (dig a b c d k)) :
    Calls Tryd.prog 24 #[.string s] w fun e w' => e = .returned (.tuple #[.int .i64 ((4096 * a + 256 * b + 16 * c + d : Nat) : Int), .bool true]) ∧ w = w' := by
  have hzi : ¬ (s.size : Int) < 4 := by omega
  have h4 := part_four a b c d
  have hlt := part_lt ha hb hc hd
  have hd16 := dig_lt ha hb hc hd
  rw [← h4]
  clear h4
  have H := Lib.hid h
  clear h
  go_enter Tryd.func24, Tryd.ntmps24
  go_wp2
  go_loop [2, 10] (fun n i => ∃ k P : Nat, k ≤ 4 ∧ i = .int .i64 k ∧ n = .int .i64 P ∧ P = part a b c d k) (fun _ i => 4 - (RowKit.intOf i).toNat)
  case atStart => exact ⟨0, 0, Nat.zero_le _, rfl, rfl, rfl⟩
  case round =>
    obtain ⟨k, P, hk, rfl, rfl, hP⟩ := hrel
    have hPl := hlt k hk
    rw [← hP] at hPl
    by_cases hk4 : k < 4
    · have hk4i : (k : Int) < 4 := by omega
      have hks : (k : Int) < (s.size : Int) := by omega
      obtain ⟨x0, hx0⟩ : ∃ x0, s[k]'(by omega) = x0 := ⟨_, rfl⟩
      have hy := hd16 k
      have hxy := H.out k hk4
      rw [hx0] at hxy
      have hP' : 16 * P + dig a b c d k = part a b c d (k + 1) := by rw [hP]; rfl
      generalize dig a b c d k = y at *
      have hxn : x0.toNat = if y < 10 then 48 + y else 87 + y := by rw [hxy]; exact nib_toNat hy
      have HP := Lib.hid hP'
      clear hP' hxy hlt hd16
      have HP0 := Lib.hid hP
      clear hP
      by_cases hy10 : y < 10
      · rw [if_pos hy10] at hxn
        have e1 : (x0.toNat : Int) - 48 = (y : Int) := by omega
        have b1 : 48 ≤ x0.toNat := by omega
        have b2 : x0.toNat ≤ 57 := by omega
        clear hxn
        go_wp2
        go_round
        case rel => exact ⟨k + 1, _, by omega, by go_num, by go_num, HP.out⟩
        case measure => simp [RowKit.intOf]; omega
      · rw [if_neg hy10] at hxn
        have e1 : (x0.toNat : Int) - 97 + 10 = (y : Int) := by omega
        have b1 : 97 ≤ x0.toNat := by omega
        have b2 : x0.toNat ≤ 102 := by omega
        clear hxn
        go_wp2
        go_round
        case rel => exact ⟨k + 1, _, by omega, by go_num, by go_num, HP.out⟩
        case measure => simp [RowKit.intOf]; omega
    · have hke : k = 4 := by omega
      subst hke
      have HP0 := Lib.hid hP
      clear hP hlt
      go_wp2
      go_ret2
      exact ⟨by rw [← HP0.out]; rfl, rfl⟩

/-! ### spec.coded -/
theorem conv_new (w : World) (l : List UInt8) : (convert 36 9 (.slice (some ⟨w.heap.size, 0, none⟩) l.length l.length)).run Tryd.prog (w.alloc (.cells (byteV l).toArray 5)) = .ok (.string ⟨l.toArray⟩) (w.alloc (.cells (byteV l).toArray 5)) :=
  run_convert_bytes_back (P := Tryd.prog) _ 36 9 5 ⟨w.heap.size, 0, none⟩ l.length l Tryd.underlying36 Tryd.underlying5 Tryd.underlying9 (fun j hj => by
    rw [Addr.add_lit, Nat.zero_add]
    refine (World.cell?_alloc_mark w (byteV l).toArray 5 (0, 0) j).trans ?_
    simp [byteV, hj])

set_option maxRecDepth 100000 in
/-- spec.coded, below 128 -/
theorem coded_low (n : Nat) (w : World) (hn : n < 128) :
    Calls Tryd.prog 25 #[.int .i64 (n : Int)] w fun e w' => e = .returned (.string ⟨#[UInt8.ofNat n]⟩) ∧ Below w.heap.size w w' := by
  have hni : (n : Int) < 128 := by omega
  have hb : (UInt8.ofNat n).toNat = n := by rw [UInt8.toNat_ofNat']; omega
  have hcv := conv_new (w.alloc (.cells #[.int .i64 (n : Int)] 3)) [UInt8.ofNat n]
  simp only [byteV, List.map_cons, List.map_nil, hb, List.length_cons, List.length_nil, Nat.zero_add] at hcv
  have hsz : (w.alloc (.cells #[.int .i64 (n : Int)] 3)).heap.size = w.heap.size + 1 := by simp
  rw [hsz] at hcv
  go_enter Tryd.func25, Tryd.ntmps25
  go_wp2
  go_ret
  exact ⟨rfl, ((Below.refl _ _).alloc (Nat.le_refl _) _).alloc (by simp) _⟩

set_option maxRecDepth 100000 in
theorem more_8232_1 (B : Nat) (w : World) (hc : w.cell? ⟨B, 0, none⟩ = some (.int .i64 8232)) :
    Calls Tryd.prog 31 #[.int .i64 1, .pointer (some ⟨B, 0, none⟩)] w fun e w' => e = .returned (.int .u8 128) ∧ w' = w := by
  go_enter Tryd.func31, Tryd.ntmps31
  go_wp2
  go_ret
  exact ⟨rfl, rfl⟩
set_option maxRecDepth 100000 in
theorem more_8232_0 (B : Nat) (w : World) (hc : w.cell? ⟨B, 0, none⟩ = some (.int .i64 8232)) :
    Calls Tryd.prog 31 #[.int .i64 0, .pointer (some ⟨B, 0, none⟩)] w fun e w' => e = .returned (.int .u8 168) ∧ w' = w := by
  go_enter Tryd.func31, Tryd.ntmps31
  go_wp2
  go_ret
  exact ⟨rfl, rfl⟩
set_option maxRecDepth 100000 in
theorem more_8233_1 (B : Nat) (w : World) (hc : w.cell? ⟨B, 0, none⟩ = some (.int .i64 8233)) :
    Calls Tryd.prog 31 #[.int .i64 1, .pointer (some ⟨B, 0, none⟩)] w fun e w' => e = .returned (.int .u8 128) ∧ w' = w := by
  go_enter Tryd.func31, Tryd.ntmps31
  go_wp2
  go_ret
  exact ⟨rfl, rfl⟩
set_option maxRecDepth 100000 in
theorem more_8233_0 (B : Nat) (w : World) (hc : w.cell? ⟨B, 0, none⟩ = some (.int .i64 8233)) :
    Calls Tryd.prog 31 #[.int .i64 0, .pointer (some ⟨B, 0, none⟩)] w fun e w' => e = .returned (.int .u8 169) ∧ w' = w := by
  go_enter Tryd.func31, Tryd.ntmps31
  go_wp2
  go_ret
  exact ⟨rfl, rfl⟩
end Go.Proofs.YthiahhieiojgdaaDoor
