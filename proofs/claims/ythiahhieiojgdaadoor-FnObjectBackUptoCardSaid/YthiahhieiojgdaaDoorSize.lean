/-
  spec.size at every string that is not empty.
-/
import Derived.Test.YthiahhieiojgdaaDoorMid
import Derived.Laws.BitsLemmas
import Derived.Outline
import Derived.Lib.Hide
import Derived.IntWalk
namespace Go.Proofs.YthiahhieiojgdaaDoor
open Go.RowKit

set_option maxRecDepth 100000 in
theorem and192 : ∀ x : Fin 256, bits .and .u8 ((x.val : Nat) : Int) 192 = ((x.val / 64 * 64 : Nat) : Int) := by decide
theorem cont_yes {x : UInt8} (h : x.toNat / 64 = 2) : (bits .and .u8 (x.toNat : Int) 192 != 128) = false := by
  rw [and192 ⟨x.toNat, x.toNat_lt⟩]
  show (((x.toNat / 64 * 64 : Nat) : Int) != 128) = false
  rw [h]; rfl
theorem cont_no {x : UInt8} (h : x.toNat / 64 ≠ 2) : (bits .and .u8 (x.toNat : Int) 192 != 128) = true := by
  rw [and192 ⟨x.toNat, x.toNat_lt⟩]
  show (((x.toNat / 64 * 64 : Nat) : Int) != 128) = true
  rw [bne_iff_ne]; omega
theorem wraps_i64 (n : Int) (h₀ : 0 ≤ n) (h₁ : n < 2 ^ 62) : IntKind.i64.wrap n = n := by rw [IntKind.wrap_i64]; omega
theorem or6 (x y : Int) (hx₀ : 0 ≤ x) (hx : x % 64 = 0) (hx₁ : x < 4611686018427387904) (h₀ : 0 ≤ y) (h₁ : y < 64) : bits .or .i64 x y = x + y :=
  bits_join .i64 62 (by decide) wraps_i64 6 x y hx₀ (by simpa using hx) (by simpa using hx₁) h₀ (by simpa using h₁) (by omega)

theorem and31 {x : UInt8} : bits .and .i64 (x.toNat : Int) 31 = (x.toNat : Int) % 32 := by
  have := x.toNat_lt
  exact bits_mask .i64 62 (by decide) wraps_i64 5 (by decide) _ (by omega) (by omega)
theorem and15 {x : UInt8} : bits .and .i64 (x.toNat : Int) 15 = (x.toNat : Int) % 16 := by
  have := x.toNat_lt
  exact bits_mask .i64 62 (by decide) wraps_i64 4 (by decide) _ (by omega) (by omega)
theorem and7 {x : UInt8} : bits .and .i64 (x.toNat : Int) 7 = (x.toNat : Int) % 8 := by
  have := x.toNat_lt
  exact bits_mask .i64 62 (by decide) wraps_i64 3 (by decide) _ (by omega) (by omega)


set_option maxRecDepth 100000 in
theorem size_low (s : ByteArray) (w : World) (x0 : UInt8) (hz : 0 < s.size) (hs0 : s[0]'hz = x0) (h1 : x0.toNat < 128) :
    Calls Tryd.prog 23 #[.string s] w fun e w' => e = .returned (.int .i64 1) ∧ w = w' := by
  have hz0 : (0 : Int) < (s.size : Int) := by omega
  go_enter Tryd.func23, Tryd.ntmps23
  go_wp2
  go_ret
  exact ⟨rfl, rfl⟩
set_option maxRecDepth 100000 in
theorem size_none (s : ByteArray) (w : World) (x0 : UInt8) (hz : 0 < s.size) (hs0 : s[0]'hz = x0) (h1 : (128 ≤ x0.toNat ∧ x0.toNat < 194) ∨ 245 ≤ x0.toNat) :
    Calls Tryd.prog 23 #[.string s] w fun e w' => e = .returned (.int .i64 0) ∧ w = w' := by
  have hz0 : (0 : Int) < (s.size : Int) := by omega
  have l0 := x0.toNat_lt
  rcases h1 with ⟨h1, h2⟩ | h1
  all_goals
    go_enter Tryd.func23, Tryd.ntmps23
    go_wp2
    go_ret
    exact ⟨rfl, rfl⟩
set_option maxRecDepth 100000 in
theorem size_2_short (s : ByteArray) (w : World) (x0 : UInt8) (hz : 0 < s.size) (hs0 : s[0]'hz = x0) (h1 : 194 ≤ x0.toNat) (h2 : x0.toNat < 224) (hn : s.size < 2) :
    Calls Tryd.prog 23 #[.string s] w fun e w' => e = .returned (.int .i64 0) ∧ w = w' := by
  have hz0 : (0 : Int) < (s.size : Int) := by omega
  have hn0 : (s.size : Int) < 2 := by omega
  have l0 := x0.toNat_lt
  go_enter Tryd.func23, Tryd.ntmps23
  go_wp2
  go_ret
  exact ⟨rfl, rfl⟩
set_option maxRecDepth 100000 in
theorem size_3_short (s : ByteArray) (w : World) (x0 : UInt8) (hz : 0 < s.size) (hs0 : s[0]'hz = x0) (h1 : 224 ≤ x0.toNat) (h2 : x0.toNat < 240) (hn : s.size < 3) :
    Calls Tryd.prog 23 #[.string s] w fun e w' => e = .returned (.int .i64 0) ∧ w = w' := by
  have hz0 : (0 : Int) < (s.size : Int) := by omega
  have hn0 : (s.size : Int) < 3 := by omega
  have l0 := x0.toNat_lt
  go_enter Tryd.func23, Tryd.ntmps23
  go_wp2
  go_ret
  exact ⟨rfl, rfl⟩
set_option maxRecDepth 100000 in
theorem size_4_short (s : ByteArray) (w : World) (x0 : UInt8) (hz : 0 < s.size) (hs0 : s[0]'hz = x0) (h1 : 240 ≤ x0.toNat) (h2 : x0.toNat < 245) (hn : s.size < 4) :
    Calls Tryd.prog 23 #[.string s] w fun e w' => e = .returned (.int .i64 0) ∧ w = w' := by
  have hz0 : (0 : Int) < (s.size : Int) := by omega
  have hn0 : (s.size : Int) < 4 := by omega
  have l0 := x0.toNat_lt
  go_enter Tryd.func23, Tryd.ntmps23
  go_wp2
  go_ret
  exact ⟨rfl, rfl⟩
set_option maxRecDepth 100000 in
set_option maxHeartbeats 2000000 in
theorem size_2_0 (s : ByteArray) (w : World) (x0 x1 : UInt8) (hz : 1 < s.size) (hs0 : s[0]'(by omega) = x0) (hs1 : s[1]'(by omega) = x1) (h1 : 194 ≤ x0.toNat) (h2 : x0.toNat < 224)  (g1 : x1.toNat / 64 ≠ 2) (hs : s.size ≤ 1099511627776) :
    Calls Tryd.prog 23 #[.string s] w fun e w' => e = .returned (.int .i64 0) ∧ w = w' := by
  have hz0 : (0 : Int) < (s.size : Int) := by omega
  have hz1 : (1 : Int) < (s.size : Int) := by omega
  have l0 := x0.toNat_lt
  have l1 := x1.toNat_lt
  have b1 := cont_no g1
  have m0 : bits .and .i64 (x0.toNat : Int) 31 = (x0.toNat : Int) % 32 := and31
  clear hs  g1
  go_enter Tryd.func23, Tryd.ntmps23
  go_wp2
  refine wp_loop_rounds 1 ?_
  rw [rounds_succ]
  go_wp2
  go_ret
  exact ⟨rfl, rfl⟩

set_option maxRecDepth 100000 in
set_option maxHeartbeats 2000000 in
theorem size_2_1 (s : ByteArray) (w : World) (x0 x1 : UInt8) (hz : 1 < s.size) (hs0 : s[0]'(by omega) = x0) (hs1 : s[1]'(by omega) = x1) (h1 : 194 ≤ x0.toNat) (h2 : x0.toNat < 224) (g1 : x1.toNat / 64 = 2)  (hs : s.size ≤ 1099511627776) :
    Calls Tryd.prog 23 #[.string s] w fun e w' => e = .returned (.int .i64 2) ∧ w = w' := by
  have hz0 : (0 : Int) < (s.size : Int) := by omega
  have hz1 : (1 : Int) < (s.size : Int) := by omega
  have l0 := x0.toNat_lt
  have l1 := x1.toNat_lt
  have b1 := cont_yes g1
  have m0 : bits .and .i64 (x0.toNat : Int) 31 = (x0.toNat : Int) % 32 := and31
  have q1 := or6 (((x0.toNat : Int) % 32) * 64) ((x1.toNat : Int) % 64) (by omega) (by omega) (by omega) (by omega) (by omega)
  obtain ⟨c1, hc1⟩ : ∃ c : Int, ((x0.toNat : Int) % 32) * 64 + (x1.toNat : Int) % 64 = c := ⟨_, rfl⟩
  rw [hc1] at q1
  have r1 : 0 ≤ c1 ∧ c1 < 2048 := by omega
  have t1 : ¬ c1 < 128 := by omega
  have t2 : ¬ c1 > 1114111 := by omega
  have t3 : ¬ 55296 ≤ c1 := by omega
  clear hs hc1 g1
  go_enter Tryd.func23, Tryd.ntmps23
  go_wp2
  refine wp_loop_rounds 2 ?_
  rw [rounds_succ]
  go_wp2
  rw [rounds_succ]
  go_wp2
  go_ret
  exact ⟨rfl, rfl⟩

set_option maxRecDepth 100000 in
set_option maxHeartbeats 2000000 in
theorem size_3_0 (s : ByteArray) (w : World) (x0 x1 : UInt8) (hz : 2 < s.size) (hs0 : s[0]'(by omega) = x0) (hs1 : s[1]'(by omega) = x1) (h1 : 224 ≤ x0.toNat) (h2 : x0.toNat < 240)  (g1 : x1.toNat / 64 ≠ 2) (hs : s.size ≤ 1099511627776) :
    Calls Tryd.prog 23 #[.string s] w fun e w' => e = .returned (.int .i64 0) ∧ w = w' := by
  have hz0 : (0 : Int) < (s.size : Int) := by omega
  have hz1 : (1 : Int) < (s.size : Int) := by omega
  have hz2 : (2 : Int) < (s.size : Int) := by omega
  have l0 := x0.toNat_lt
  have l1 := x1.toNat_lt
  have b1 := cont_no g1
  have m0 : bits .and .i64 (x0.toNat : Int) 15 = (x0.toNat : Int) % 16 := and15
  clear hs  g1
  go_enter Tryd.func23, Tryd.ntmps23
  go_wp2
  refine wp_loop_rounds 1 ?_
  rw [rounds_succ]
  go_wp2
  go_ret
  exact ⟨rfl, rfl⟩

set_option maxRecDepth 100000 in
set_option maxHeartbeats 2000000 in
theorem size_3_1 (s : ByteArray) (w : World) (x0 x1 x2 : UInt8) (hz : 2 < s.size) (hs0 : s[0]'(by omega) = x0) (hs1 : s[1]'(by omega) = x1) (hs2 : s[2]'(by omega) = x2) (h1 : 224 ≤ x0.toNat) (h2 : x0.toNat < 240) (g1 : x1.toNat / 64 = 2) (g2 : x2.toNat / 64 ≠ 2) (hs : s.size ≤ 1099511627776) :
    Calls Tryd.prog 23 #[.string s] w fun e w' => e = .returned (.int .i64 0) ∧ w = w' := by
  have hz0 : (0 : Int) < (s.size : Int) := by omega
  have hz1 : (1 : Int) < (s.size : Int) := by omega
  have hz2 : (2 : Int) < (s.size : Int) := by omega
  have l0 := x0.toNat_lt
  have l1 := x1.toNat_lt
  have l2 := x2.toNat_lt
  have b1 := cont_yes g1
  have b2 := cont_no g2
  have m0 : bits .and .i64 (x0.toNat : Int) 15 = (x0.toNat : Int) % 16 := and15
  have q1 := or6 (((x0.toNat : Int) % 16) * 64) ((x1.toNat : Int) % 64) (by omega) (by omega) (by omega) (by omega) (by omega)
  obtain ⟨c1, hc1⟩ : ∃ c : Int, ((x0.toNat : Int) % 16) * 64 + (x1.toNat : Int) % 64 = c := ⟨_, rfl⟩
  rw [hc1] at q1
  have r1 : 0 ≤ c1 ∧ c1 < 1024 := by omega
  clear hs hc1 g1 g2
  go_enter Tryd.func23, Tryd.ntmps23
  go_wp2
  refine wp_loop_rounds 2 ?_
  rw [rounds_succ]
  go_wp2
  rw [rounds_succ]
  go_wp2
  go_ret
  exact ⟨rfl, rfl⟩

set_option maxRecDepth 100000 in
set_option maxHeartbeats 2000000 in
theorem size_3_2a (s : ByteArray) (w : World) (x0 x1 x2 : UInt8) (hz : 2 < s.size) (hs0 : s[0]'(by omega) = x0) (hs1 : s[1]'(by omega) = x1) (hs2 : s[2]'(by omega) = x2) (h1 : 224 ≤ x0.toNat) (h2 : x0.toNat < 240) (g1 : x1.toNat / 64 = 2) (g2 : x2.toNat / 64 = 2) (hr : x0.toNat % 16 * 4096 + x1.toNat % 64 * 64 + x2.toNat % 64 < 2048) (hs : s.size ≤ 1099511627776) :
    Calls Tryd.prog 23 #[.string s] w fun e w' => e = .returned (.int .i64 0) ∧ w = w' := by
  have hz0 : (0 : Int) < (s.size : Int) := by omega
  have hz1 : (1 : Int) < (s.size : Int) := by omega
  have hz2 : (2 : Int) < (s.size : Int) := by omega
  have l0 := x0.toNat_lt
  have l1 := x1.toNat_lt
  have l2 := x2.toNat_lt
  have b1 := cont_yes g1
  have b2 := cont_yes g2
  have m0 : bits .and .i64 (x0.toNat : Int) 15 = (x0.toNat : Int) % 16 := and15
  have q1 := or6 (((x0.toNat : Int) % 16) * 64) ((x1.toNat : Int) % 64) (by omega) (by omega) (by omega) (by omega) (by omega)
  obtain ⟨c1, hc1⟩ : ∃ c : Int, ((x0.toNat : Int) % 16) * 64 + (x1.toNat : Int) % 64 = c := ⟨_, rfl⟩
  rw [hc1] at q1
  have r1 : 0 ≤ c1 ∧ c1 < 1024 := by omega
  have q2 := or6 (c1 * 64) ((x2.toNat : Int) % 64) (by omega) (by omega) (by omega) (by omega) (by omega)
  obtain ⟨c2, hc2⟩ : ∃ c : Int, c1 * 64 + (x2.toNat : Int) % 64 = c := ⟨_, rfl⟩
  rw [hc2] at q2
  have r2 : 0 ≤ c2 ∧ c2 < 65536 := by omega
  have t1 : c2 < 2048 := by omega
  clear hs hc1 hc2 g1 g2 hr
  go_enter Tryd.func23, Tryd.ntmps23
  go_wp2
  refine wp_loop_rounds 3 ?_
  rw [rounds_succ]
  go_wp2
  rw [rounds_succ]
  go_wp2
  rw [rounds_succ]
  go_wp2
  go_ret
  exact ⟨rfl, rfl⟩

set_option maxRecDepth 100000 in
set_option maxHeartbeats 2000000 in
theorem size_3_2b (s : ByteArray) (w : World) (x0 x1 x2 : UInt8) (hz : 2 < s.size) (hs0 : s[0]'(by omega) = x0) (hs1 : s[1]'(by omega) = x1) (hs2 : s[2]'(by omega) = x2) (h1 : 224 ≤ x0.toNat) (h2 : x0.toNat < 240) (g1 : x1.toNat / 64 = 2) (g2 : x2.toNat / 64 = 2) (hr : 55296 ≤ x0.toNat % 16 * 4096 + x1.toNat % 64 * 64 + x2.toNat % 64 ∧ x0.toNat % 16 * 4096 + x1.toNat % 64 * 64 + x2.toNat % 64 ≤ 57343) (hs : s.size ≤ 1099511627776) :
    Calls Tryd.prog 23 #[.string s] w fun e w' => e = .returned (.int .i64 0) ∧ w = w' := by
  have hz0 : (0 : Int) < (s.size : Int) := by omega
  have hz1 : (1 : Int) < (s.size : Int) := by omega
  have hz2 : (2 : Int) < (s.size : Int) := by omega
  have l0 := x0.toNat_lt
  have l1 := x1.toNat_lt
  have l2 := x2.toNat_lt
  have b1 := cont_yes g1
  have b2 := cont_yes g2
  have m0 : bits .and .i64 (x0.toNat : Int) 15 = (x0.toNat : Int) % 16 := and15
  have q1 := or6 (((x0.toNat : Int) % 16) * 64) ((x1.toNat : Int) % 64) (by omega) (by omega) (by omega) (by omega) (by omega)
  obtain ⟨c1, hc1⟩ : ∃ c : Int, ((x0.toNat : Int) % 16) * 64 + (x1.toNat : Int) % 64 = c := ⟨_, rfl⟩
  rw [hc1] at q1
  have r1 : 0 ≤ c1 ∧ c1 < 1024 := by omega
  have q2 := or6 (c1 * 64) ((x2.toNat : Int) % 64) (by omega) (by omega) (by omega) (by omega) (by omega)
  obtain ⟨c2, hc2⟩ : ∃ c : Int, c1 * 64 + (x2.toNat : Int) % 64 = c := ⟨_, rfl⟩
  rw [hc2] at q2
  have r2 : 0 ≤ c2 ∧ c2 < 65536 := by omega
  have t1 : ¬ c2 < 2048 := by omega
  have t2 : ¬ c2 > 1114111 := by omega
  have t3 : 55296 ≤ c2 := by omega
  have t4 : c2 ≤ 57343 := by omega
  clear hs hc1 hc2 g1 g2 hr
  go_enter Tryd.func23, Tryd.ntmps23
  go_wp2
  refine wp_loop_rounds 3 ?_
  rw [rounds_succ]
  go_wp2
  rw [rounds_succ]
  go_wp2
  rw [rounds_succ]
  go_wp2
  go_ret
  exact ⟨rfl, rfl⟩

set_option maxRecDepth 100000 in
set_option maxHeartbeats 2000000 in
theorem size_3_2c (s : ByteArray) (w : World) (x0 x1 x2 : UInt8) (hz : 2 < s.size) (hs0 : s[0]'(by omega) = x0) (hs1 : s[1]'(by omega) = x1) (hs2 : s[2]'(by omega) = x2) (h1 : 224 ≤ x0.toNat) (h2 : x0.toNat < 240) (g1 : x1.toNat / 64 = 2) (g2 : x2.toNat / 64 = 2) (hr : 2048 ≤ x0.toNat % 16 * 4096 + x1.toNat % 64 * 64 + x2.toNat % 64 ∧ x0.toNat % 16 * 4096 + x1.toNat % 64 * 64 + x2.toNat % 64 < 55296) (hs : s.size ≤ 1099511627776) :
    Calls Tryd.prog 23 #[.string s] w fun e w' => e = .returned (.int .i64 3) ∧ w = w' := by
  have hz0 : (0 : Int) < (s.size : Int) := by omega
  have hz1 : (1 : Int) < (s.size : Int) := by omega
  have hz2 : (2 : Int) < (s.size : Int) := by omega
  have l0 := x0.toNat_lt
  have l1 := x1.toNat_lt
  have l2 := x2.toNat_lt
  have b1 := cont_yes g1
  have b2 := cont_yes g2
  have m0 : bits .and .i64 (x0.toNat : Int) 15 = (x0.toNat : Int) % 16 := and15
  have q1 := or6 (((x0.toNat : Int) % 16) * 64) ((x1.toNat : Int) % 64) (by omega) (by omega) (by omega) (by omega) (by omega)
  obtain ⟨c1, hc1⟩ : ∃ c : Int, ((x0.toNat : Int) % 16) * 64 + (x1.toNat : Int) % 64 = c := ⟨_, rfl⟩
  rw [hc1] at q1
  have r1 : 0 ≤ c1 ∧ c1 < 1024 := by omega
  have q2 := or6 (c1 * 64) ((x2.toNat : Int) % 64) (by omega) (by omega) (by omega) (by omega) (by omega)
  obtain ⟨c2, hc2⟩ : ∃ c : Int, c1 * 64 + (x2.toNat : Int) % 64 = c := ⟨_, rfl⟩
  rw [hc2] at q2
  have r2 : 0 ≤ c2 ∧ c2 < 65536 := by omega
  have t1 : ¬ c2 < 2048 := by omega
  have t2 : ¬ c2 > 1114111 := by omega
  have t3 : ¬ 55296 ≤ c2 := by omega
  clear hs hc1 hc2 g1 g2 hr
  go_enter Tryd.func23, Tryd.ntmps23
  go_wp2
  refine wp_loop_rounds 3 ?_
  rw [rounds_succ]
  go_wp2
  rw [rounds_succ]
  go_wp2
  rw [rounds_succ]
  go_wp2
  go_ret
  exact ⟨rfl, rfl⟩

set_option maxRecDepth 100000 in
set_option maxHeartbeats 2000000 in
theorem size_3_2d (s : ByteArray) (w : World) (x0 x1 x2 : UInt8) (hz : 2 < s.size) (hs0 : s[0]'(by omega) = x0) (hs1 : s[1]'(by omega) = x1) (hs2 : s[2]'(by omega) = x2) (h1 : 224 ≤ x0.toNat) (h2 : x0.toNat < 240) (g1 : x1.toNat / 64 = 2) (g2 : x2.toNat / 64 = 2) (hr : 57343 < x0.toNat % 16 * 4096 + x1.toNat % 64 * 64 + x2.toNat % 64) (hs : s.size ≤ 1099511627776) :
    Calls Tryd.prog 23 #[.string s] w fun e w' => e = .returned (.int .i64 3) ∧ w = w' := by
  have hz0 : (0 : Int) < (s.size : Int) := by omega
  have hz1 : (1 : Int) < (s.size : Int) := by omega
  have hz2 : (2 : Int) < (s.size : Int) := by omega
  have l0 := x0.toNat_lt
  have l1 := x1.toNat_lt
  have l2 := x2.toNat_lt
  have b1 := cont_yes g1
  have b2 := cont_yes g2
  have m0 : bits .and .i64 (x0.toNat : Int) 15 = (x0.toNat : Int) % 16 := and15
  have q1 := or6 (((x0.toNat : Int) % 16) * 64) ((x1.toNat : Int) % 64) (by omega) (by omega) (by omega) (by omega) (by omega)
  obtain ⟨c1, hc1⟩ : ∃ c : Int, ((x0.toNat : Int) % 16) * 64 + (x1.toNat : Int) % 64 = c := ⟨_, rfl⟩
  rw [hc1] at q1
  have r1 : 0 ≤ c1 ∧ c1 < 1024 := by omega
  have q2 := or6 (c1 * 64) ((x2.toNat : Int) % 64) (by omega) (by omega) (by omega) (by omega) (by omega)
  obtain ⟨c2, hc2⟩ : ∃ c : Int, c1 * 64 + (x2.toNat : Int) % 64 = c := ⟨_, rfl⟩
  rw [hc2] at q2
  have r2 : 0 ≤ c2 ∧ c2 < 65536 := by omega
  have t1 : ¬ c2 < 2048 := by omega
  have t2 : ¬ c2 > 1114111 := by omega
  have t3 : 55296 ≤ c2 := by omega
  have t4 : ¬ c2 ≤ 57343 := by omega
  clear hs hc1 hc2 g1 g2 hr
  go_enter Tryd.func23, Tryd.ntmps23
  go_wp2
  refine wp_loop_rounds 3 ?_
  rw [rounds_succ]
  go_wp2
  rw [rounds_succ]
  go_wp2
  rw [rounds_succ]
  go_wp2
  go_ret
  exact ⟨rfl, rfl⟩

set_option maxRecDepth 100000 in
set_option maxHeartbeats 2000000 in
theorem size_4_0 (s : ByteArray) (w : World) (x0 x1 : UInt8) (hz : 3 < s.size) (hs0 : s[0]'(by omega) = x0) (hs1 : s[1]'(by omega) = x1) (h1 : 240 ≤ x0.toNat) (h2 : x0.toNat < 245)  (g1 : x1.toNat / 64 ≠ 2) (hs : s.size ≤ 1099511627776) :
    Calls Tryd.prog 23 #[.string s] w fun e w' => e = .returned (.int .i64 0) ∧ w = w' := by
  have hz0 : (0 : Int) < (s.size : Int) := by omega
  have hz1 : (1 : Int) < (s.size : Int) := by omega
  have hz2 : (2 : Int) < (s.size : Int) := by omega
  have hz3 : (3 : Int) < (s.size : Int) := by omega
  have l0 := x0.toNat_lt
  have l1 := x1.toNat_lt
  have b1 := cont_no g1
  have m0 : bits .and .i64 (x0.toNat : Int) 7 = (x0.toNat : Int) % 8 := and7
  clear hs  g1
  go_enter Tryd.func23, Tryd.ntmps23
  go_wp2
  refine wp_loop_rounds 1 ?_
  rw [rounds_succ]
  go_wp2
  go_ret
  exact ⟨rfl, rfl⟩

set_option maxRecDepth 100000 in
set_option maxHeartbeats 2000000 in
theorem size_4_1 (s : ByteArray) (w : World) (x0 x1 x2 : UInt8) (hz : 3 < s.size) (hs0 : s[0]'(by omega) = x0) (hs1 : s[1]'(by omega) = x1) (hs2 : s[2]'(by omega) = x2) (h1 : 240 ≤ x0.toNat) (h2 : x0.toNat < 245) (g1 : x1.toNat / 64 = 2) (g2 : x2.toNat / 64 ≠ 2) (hs : s.size ≤ 1099511627776) :
    Calls Tryd.prog 23 #[.string s] w fun e w' => e = .returned (.int .i64 0) ∧ w = w' := by
  have hz0 : (0 : Int) < (s.size : Int) := by omega
  have hz1 : (1 : Int) < (s.size : Int) := by omega
  have hz2 : (2 : Int) < (s.size : Int) := by omega
  have hz3 : (3 : Int) < (s.size : Int) := by omega
  have l0 := x0.toNat_lt
  have l1 := x1.toNat_lt
  have l2 := x2.toNat_lt
  have b1 := cont_yes g1
  have b2 := cont_no g2
  have m0 : bits .and .i64 (x0.toNat : Int) 7 = (x0.toNat : Int) % 8 := and7
  have q1 := or6 (((x0.toNat : Int) % 8) * 64) ((x1.toNat : Int) % 64) (by omega) (by omega) (by omega) (by omega) (by omega)
  obtain ⟨c1, hc1⟩ : ∃ c : Int, ((x0.toNat : Int) % 8) * 64 + (x1.toNat : Int) % 64 = c := ⟨_, rfl⟩
  rw [hc1] at q1
  have r1 : 0 ≤ c1 ∧ c1 < 512 := by omega
  clear hs hc1 g1 g2
  go_enter Tryd.func23, Tryd.ntmps23
  go_wp2
  refine wp_loop_rounds 2 ?_
  rw [rounds_succ]
  go_wp2
  rw [rounds_succ]
  go_wp2
  go_ret
  exact ⟨rfl, rfl⟩

set_option maxRecDepth 100000 in
set_option maxHeartbeats 2000000 in
theorem size_4_2 (s : ByteArray) (w : World) (x0 x1 x2 x3 : UInt8) (hz : 3 < s.size) (hs0 : s[0]'(by omega) = x0) (hs1 : s[1]'(by omega) = x1) (hs2 : s[2]'(by omega) = x2) (hs3 : s[3]'(by omega) = x3) (h1 : 240 ≤ x0.toNat) (h2 : x0.toNat < 245) (g1 : x1.toNat / 64 = 2) (g2 : x2.toNat / 64 = 2) (g3 : x3.toNat / 64 ≠ 2) (hs : s.size ≤ 1099511627776) :
    Calls Tryd.prog 23 #[.string s] w fun e w' => e = .returned (.int .i64 0) ∧ w = w' := by
  have hz0 : (0 : Int) < (s.size : Int) := by omega
  have hz1 : (1 : Int) < (s.size : Int) := by omega
  have hz2 : (2 : Int) < (s.size : Int) := by omega
  have hz3 : (3 : Int) < (s.size : Int) := by omega
  have l0 := x0.toNat_lt
  have l1 := x1.toNat_lt
  have l2 := x2.toNat_lt
  have l3 := x3.toNat_lt
  have b1 := cont_yes g1
  have b2 := cont_yes g2
  have b3 := cont_no g3
  have m0 : bits .and .i64 (x0.toNat : Int) 7 = (x0.toNat : Int) % 8 := and7
  have q1 := or6 (((x0.toNat : Int) % 8) * 64) ((x1.toNat : Int) % 64) (by omega) (by omega) (by omega) (by omega) (by omega)
  obtain ⟨c1, hc1⟩ : ∃ c : Int, ((x0.toNat : Int) % 8) * 64 + (x1.toNat : Int) % 64 = c := ⟨_, rfl⟩
  rw [hc1] at q1
  have r1 : 0 ≤ c1 ∧ c1 < 512 := by omega
  have q2 := or6 (c1 * 64) ((x2.toNat : Int) % 64) (by omega) (by omega) (by omega) (by omega) (by omega)
  obtain ⟨c2, hc2⟩ : ∃ c : Int, c1 * 64 + (x2.toNat : Int) % 64 = c := ⟨_, rfl⟩
  rw [hc2] at q2
  have r2 : 0 ≤ c2 ∧ c2 < 32768 := by omega
  clear hs hc1 hc2 g1 g2 g3
  go_enter Tryd.func23, Tryd.ntmps23
  go_wp2
  refine wp_loop_rounds 3 ?_
  rw [rounds_succ]
  go_wp2
  rw [rounds_succ]
  go_wp2
  rw [rounds_succ]
  go_wp2
  go_ret
  exact ⟨rfl, rfl⟩

set_option maxRecDepth 100000 in
set_option maxHeartbeats 2000000 in
theorem size_4_3a (s : ByteArray) (w : World) (x0 x1 x2 x3 : UInt8) (hz : 3 < s.size) (hs0 : s[0]'(by omega) = x0) (hs1 : s[1]'(by omega) = x1) (hs2 : s[2]'(by omega) = x2) (hs3 : s[3]'(by omega) = x3) (h1 : 240 ≤ x0.toNat) (h2 : x0.toNat < 245) (g1 : x1.toNat / 64 = 2) (g2 : x2.toNat / 64 = 2) (g3 : x3.toNat / 64 = 2) (hr : x0.toNat % 8 * 262144 + x1.toNat % 64 * 4096 + x2.toNat % 64 * 64 + x3.toNat % 64 < 65536) (hs : s.size ≤ 1099511627776) :
    Calls Tryd.prog 23 #[.string s] w fun e w' => e = .returned (.int .i64 0) ∧ w = w' := by
  have hz0 : (0 : Int) < (s.size : Int) := by omega
  have hz1 : (1 : Int) < (s.size : Int) := by omega
  have hz2 : (2 : Int) < (s.size : Int) := by omega
  have hz3 : (3 : Int) < (s.size : Int) := by omega
  have l0 := x0.toNat_lt
  have l1 := x1.toNat_lt
  have l2 := x2.toNat_lt
  have l3 := x3.toNat_lt
  have b1 := cont_yes g1
  have b2 := cont_yes g2
  have b3 := cont_yes g3
  have m0 : bits .and .i64 (x0.toNat : Int) 7 = (x0.toNat : Int) % 8 := and7
  have q1 := or6 (((x0.toNat : Int) % 8) * 64) ((x1.toNat : Int) % 64) (by omega) (by omega) (by omega) (by omega) (by omega)
  obtain ⟨c1, hc1⟩ : ∃ c : Int, ((x0.toNat : Int) % 8) * 64 + (x1.toNat : Int) % 64 = c := ⟨_, rfl⟩
  rw [hc1] at q1
  have r1 : 0 ≤ c1 ∧ c1 < 512 := by omega
  have q2 := or6 (c1 * 64) ((x2.toNat : Int) % 64) (by omega) (by omega) (by omega) (by omega) (by omega)
  obtain ⟨c2, hc2⟩ : ∃ c : Int, c1 * 64 + (x2.toNat : Int) % 64 = c := ⟨_, rfl⟩
  rw [hc2] at q2
  have r2 : 0 ≤ c2 ∧ c2 < 32768 := by omega
  have q3 := or6 (c2 * 64) ((x3.toNat : Int) % 64) (by omega) (by omega) (by omega) (by omega) (by omega)
  obtain ⟨c3, hc3⟩ : ∃ c : Int, c2 * 64 + (x3.toNat : Int) % 64 = c := ⟨_, rfl⟩
  rw [hc3] at q3
  have r3 : 0 ≤ c3 ∧ c3 < 2097152 := by omega
  have t1 : c3 < 65536 := by omega
  clear hs hc1 hc2 hc3 g1 g2 g3 hr
  go_enter Tryd.func23, Tryd.ntmps23
  go_wp2
  refine wp_loop_rounds 4 ?_
  rw [rounds_succ]
  go_wp2
  rw [rounds_succ]
  go_wp2
  rw [rounds_succ]
  go_wp2
  rw [rounds_succ]
  go_wp2
  go_ret
  exact ⟨rfl, rfl⟩

set_option maxRecDepth 100000 in
set_option maxHeartbeats 2000000 in
theorem size_4_3b (s : ByteArray) (w : World) (x0 x1 x2 x3 : UInt8) (hz : 3 < s.size) (hs0 : s[0]'(by omega) = x0) (hs1 : s[1]'(by omega) = x1) (hs2 : s[2]'(by omega) = x2) (hs3 : s[3]'(by omega) = x3) (h1 : 240 ≤ x0.toNat) (h2 : x0.toNat < 245) (g1 : x1.toNat / 64 = 2) (g2 : x2.toNat / 64 = 2) (g3 : x3.toNat / 64 = 2) (hr : 1114111 < x0.toNat % 8 * 262144 + x1.toNat % 64 * 4096 + x2.toNat % 64 * 64 + x3.toNat % 64) (hs : s.size ≤ 1099511627776) :
    Calls Tryd.prog 23 #[.string s] w fun e w' => e = .returned (.int .i64 0) ∧ w = w' := by
  have hz0 : (0 : Int) < (s.size : Int) := by omega
  have hz1 : (1 : Int) < (s.size : Int) := by omega
  have hz2 : (2 : Int) < (s.size : Int) := by omega
  have hz3 : (3 : Int) < (s.size : Int) := by omega
  have l0 := x0.toNat_lt
  have l1 := x1.toNat_lt
  have l2 := x2.toNat_lt
  have l3 := x3.toNat_lt
  have b1 := cont_yes g1
  have b2 := cont_yes g2
  have b3 := cont_yes g3
  have m0 : bits .and .i64 (x0.toNat : Int) 7 = (x0.toNat : Int) % 8 := and7
  have q1 := or6 (((x0.toNat : Int) % 8) * 64) ((x1.toNat : Int) % 64) (by omega) (by omega) (by omega) (by omega) (by omega)
  obtain ⟨c1, hc1⟩ : ∃ c : Int, ((x0.toNat : Int) % 8) * 64 + (x1.toNat : Int) % 64 = c := ⟨_, rfl⟩
  rw [hc1] at q1
  have r1 : 0 ≤ c1 ∧ c1 < 512 := by omega
  have q2 := or6 (c1 * 64) ((x2.toNat : Int) % 64) (by omega) (by omega) (by omega) (by omega) (by omega)
  obtain ⟨c2, hc2⟩ : ∃ c : Int, c1 * 64 + (x2.toNat : Int) % 64 = c := ⟨_, rfl⟩
  rw [hc2] at q2
  have r2 : 0 ≤ c2 ∧ c2 < 32768 := by omega
  have q3 := or6 (c2 * 64) ((x3.toNat : Int) % 64) (by omega) (by omega) (by omega) (by omega) (by omega)
  obtain ⟨c3, hc3⟩ : ∃ c : Int, c2 * 64 + (x3.toNat : Int) % 64 = c := ⟨_, rfl⟩
  rw [hc3] at q3
  have r3 : 0 ≤ c3 ∧ c3 < 2097152 := by omega
  have t1 : ¬ c3 < 65536 := by omega
  have t2 : c3 > 1114111 := by omega
  clear hs hc1 hc2 hc3 g1 g2 g3 hr
  go_enter Tryd.func23, Tryd.ntmps23
  go_wp2
  refine wp_loop_rounds 4 ?_
  rw [rounds_succ]
  go_wp2
  rw [rounds_succ]
  go_wp2
  rw [rounds_succ]
  go_wp2
  rw [rounds_succ]
  go_wp2
  go_ret
  exact ⟨rfl, rfl⟩

set_option maxRecDepth 100000 in
set_option maxHeartbeats 2000000 in
theorem size_4_3c (s : ByteArray) (w : World) (x0 x1 x2 x3 : UInt8) (hz : 3 < s.size) (hs0 : s[0]'(by omega) = x0) (hs1 : s[1]'(by omega) = x1) (hs2 : s[2]'(by omega) = x2) (hs3 : s[3]'(by omega) = x3) (h1 : 240 ≤ x0.toNat) (h2 : x0.toNat < 245) (g1 : x1.toNat / 64 = 2) (g2 : x2.toNat / 64 = 2) (g3 : x3.toNat / 64 = 2) (hr : 65536 ≤ x0.toNat % 8 * 262144 + x1.toNat % 64 * 4096 + x2.toNat % 64 * 64 + x3.toNat % 64 ∧ x0.toNat % 8 * 262144 + x1.toNat % 64 * 4096 + x2.toNat % 64 * 64 + x3.toNat % 64 ≤ 1114111) (hs : s.size ≤ 1099511627776) :
    Calls Tryd.prog 23 #[.string s] w fun e w' => e = .returned (.int .i64 4) ∧ w = w' := by
  have hz0 : (0 : Int) < (s.size : Int) := by omega
  have hz1 : (1 : Int) < (s.size : Int) := by omega
  have hz2 : (2 : Int) < (s.size : Int) := by omega
  have hz3 : (3 : Int) < (s.size : Int) := by omega
  have l0 := x0.toNat_lt
  have l1 := x1.toNat_lt
  have l2 := x2.toNat_lt
  have l3 := x3.toNat_lt
  have b1 := cont_yes g1
  have b2 := cont_yes g2
  have b3 := cont_yes g3
  have m0 : bits .and .i64 (x0.toNat : Int) 7 = (x0.toNat : Int) % 8 := and7
  have q1 := or6 (((x0.toNat : Int) % 8) * 64) ((x1.toNat : Int) % 64) (by omega) (by omega) (by omega) (by omega) (by omega)
  obtain ⟨c1, hc1⟩ : ∃ c : Int, ((x0.toNat : Int) % 8) * 64 + (x1.toNat : Int) % 64 = c := ⟨_, rfl⟩
  rw [hc1] at q1
  have r1 : 0 ≤ c1 ∧ c1 < 512 := by omega
  have q2 := or6 (c1 * 64) ((x2.toNat : Int) % 64) (by omega) (by omega) (by omega) (by omega) (by omega)
  obtain ⟨c2, hc2⟩ : ∃ c : Int, c1 * 64 + (x2.toNat : Int) % 64 = c := ⟨_, rfl⟩
  rw [hc2] at q2
  have r2 : 0 ≤ c2 ∧ c2 < 32768 := by omega
  have q3 := or6 (c2 * 64) ((x3.toNat : Int) % 64) (by omega) (by omega) (by omega) (by omega) (by omega)
  obtain ⟨c3, hc3⟩ : ∃ c : Int, c2 * 64 + (x3.toNat : Int) % 64 = c := ⟨_, rfl⟩
  rw [hc3] at q3
  have r3 : 0 ≤ c3 ∧ c3 < 2097152 := by omega
  have t1 : ¬ c3 < 65536 := by omega
  have t2 : ¬ c3 > 1114111 := by omega
  have t3 : 55296 ≤ c3 := by omega
  have t4 : ¬ c3 ≤ 57343 := by omega
  clear hs hc1 hc2 hc3 g1 g2 g3 hr
  go_enter Tryd.func23, Tryd.ntmps23
  go_wp2
  refine wp_loop_rounds 4 ?_
  rw [rounds_succ]
  go_wp2
  rw [rounds_succ]
  go_wp2
  rw [rounds_succ]
  go_wp2
  rw [rounds_succ]
  go_wp2
  go_ret
  exact ⟨rfl, rfl⟩

end Go.Proofs.YthiahhieiojgdaaDoor
