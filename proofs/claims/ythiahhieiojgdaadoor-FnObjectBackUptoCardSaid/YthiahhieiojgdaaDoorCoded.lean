/-
  spec.coded at U+2028 and U+2029; at all numbers that stand in escapes: 'code'. Conditions: none.
-/
import Derived.Test.YthiahhieiojgdaaDoorHex
namespace Go.Proofs.YthiahhieiojgdaaDoor
open Go.RowKit

theorem conv_two (w : World) (o : Obj) (z : UInt8) (n : Int) (hz : (z.toNat : Int) = n) : (convert 36 9 (.slice (some ⟨w.heap.size + 1, 0, none⟩) 3 3)).run Tryd.prog (((w.alloc o).alloc (.cells #[.int .u8 226, .int .u8 128, .int .u8 n] 5)).drew) =
    .ok (.string ⟨#[226, 128, z]⟩) (((w.alloc o).alloc (.cells #[.int .u8 226, .int .u8 128, .int .u8 n] 5)).drew) := by
  subst hz
  have hsz : (w.alloc o).heap.size = w.heap.size + 1 := by simp
  refine run_convert_bytes_back (P := Tryd.prog) _ 36 9 5 ⟨w.heap.size + 1, 0, none⟩ 3 [226, 128, z] Tryd.underlying36 Tryd.underlying5 Tryd.underlying9 (fun j hj => ?_)
  rw [Addr.add_lit, Nat.zero_add, ← hsz]
  refine Eq.trans (World.cell?_of_block (w := (w.alloc o).alloc (.cells #[.int .u8 226, .int .u8 128, .int .u8 (z.toNat : Int)] 5)) rfl) ?_
  refine (World.cell?_alloc_mark (w.alloc o) #[.int .u8 226, .int .u8 128, .int .u8 (z.toNat : Int)] 5 (0, 0) j).trans ?_
  match j, hj with
  | 0, _ => rfl
  | 1, _ => rfl
  | 2, _ => rfl
  | j + 3, hj => simp at hj; omega

set_option maxRecDepth 100000 in
set_option maxHeartbeats 1000000 in
theorem coded_8232 (w : World) :
    Calls Tryd.prog 25 #[.int .i64 8232] w fun e w' => e = .returned (.string ⟨#[226, 128, 168]⟩) ∧ Below w.heap.size w w' := by
  have hcv := conv_two w (.cells #[.int .i64 8232] 3) 168 168 rfl
  have o1 : bits .or .i64 224 2 = 226 := by decide
  have o2 : IntKind.u8.wrap 226 = 226 := by decide
  have hc : (w.alloc (.cells #[.int .i64 8232] 3)).cell? ⟨w.heap.size, 0, none⟩ = some (.int .i64 8232) := World.cell?_alloc_mark w #[.int .i64 8232] 3 (0, 0) 0
  go_enter Tryd.func25, Tryd.ntmps25
  go_wp2
  go_region_with (first | (go_at_call_of 31 (Value.int .i64 1); refine (more_8232_1 w.heap.size _ ?_).mono ?_; exact hc; rintro e w' ⟨rfl, rfl⟩) | (go_at_call_of 31 (Value.int .i64 0); refine (more_8232_0 w.heap.size _ ?_).mono ?_; exact hc; rintro e w' ⟨rfl, rfl⟩))
  all_goals
    go_wp2
    go_ret
    exact ⟨rfl, (((Below.refl _ _).alloc (Nat.le_refl _) _).alloc (by simp) _).drew⟩

set_option maxRecDepth 100000 in
set_option maxHeartbeats 1000000 in
theorem coded_8233 (w : World) :
    Calls Tryd.prog 25 #[.int .i64 8233] w fun e w' => e = .returned (.string ⟨#[226, 128, 169]⟩) ∧ Below w.heap.size w w' := by
  have hcv := conv_two w (.cells #[.int .i64 8233] 3) 169 169 rfl
  have o1 : bits .or .i64 224 2 = 226 := by decide
  have o2 : IntKind.u8.wrap 226 = 226 := by decide
  have hc : (w.alloc (.cells #[.int .i64 8233] 3)).cell? ⟨w.heap.size, 0, none⟩ = some (.int .i64 8233) := World.cell?_alloc_mark w #[.int .i64 8233] 3 (0, 0) 0
  go_enter Tryd.func25, Tryd.ntmps25
  go_wp2
  go_region_with (first | (go_at_call_of 31 (Value.int .i64 1); refine (more_8233_1 w.heap.size _ ?_).mono ?_; exact hc; rintro e w' ⟨rfl, rfl⟩) | (go_at_call_of 31 (Value.int .i64 0); refine (more_8233_0 w.heap.size _ ?_).mono ?_; exact hc; rintro e w' ⟨rfl, rfl⟩))
  all_goals
    go_wp2
    go_ret
    exact ⟨rfl, (((Below.refl _ _).alloc (Nat.le_refl _) _).alloc (by simp) _).drew⟩

/-- spec.coded at the numbers that stand in escapes -/
theorem coded_any (n : Nat) (w : World) (hn : n < 32 ∨ n = 8232 ∨ n = 8233) :
    Calls Tryd.prog 25 #[.int .i64 (n : Int)] w fun e w' => e = .returned (.string ⟨(code n).toArray⟩) ∧ Below w.heap.size w w' := by
  rcases hn with h | rfl | rfl
  · have e : code n = [UInt8.ofNat n] := by unfold code; rw [if_pos (by omega)]
    rw [e]
    exact coded_low n w (by omega)
  · exact coded_8232 w
  · exact coded_8233 w
end Go.Proofs.YthiahhieiojgdaaDoor
