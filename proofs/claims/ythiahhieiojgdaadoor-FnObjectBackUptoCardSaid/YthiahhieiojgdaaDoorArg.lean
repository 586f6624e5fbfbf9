/-
  The argument of FnObjectBack opened: a slice of pairs, and what the bound of the second form says of it. Conditions: none.
-/
import Derived.Test.YthiahhieiojgdaaDoorRows
import Derived.Test.YthiahhieiojgdaaDoorObject
import Derived.Deep.SlicePairs
import Derived.Lib.LaidU8
import Derived.WideShapes
namespace Go.Proofs.YthiahhieiojgdaaDoor
open Go.RowKit

theorem Tryd.cells43 : Tryd.prog.cellsOf 43 = 2 := by kernel_rfl
theorem Tryd.cells9 : Tryd.prog.cellsOf 9 = 1 := by kernel_rfl

def strOf : Value → ByteArray
  | .string s => s
  | _ => ⟨#[]⟩

theorem bulk_append {H : Type} (l r : List (DataW H)) : Rows.uptoBulkAll (l ++ r) = Rows.uptoBulkAll l + Rows.uptoBulkAll r := by
  induction l with
  | nil => simp [Rows.uptoBulkAll]
  | cons x l ih => simp only [List.cons_append, Rows.uptoBulkAll, ih]; omega

theorem bulk_pairs {H : Type} (D0 D1 : Nat → DataW H) (K V : Nat → ByteArray) : ∀ k, (∀ i, i < k → D0 i = .lit (.string (K i).data.toList) ∧ D1 i = .lit (.string (V i).data.toList)) →
    sumL K V k + k ≤ Rows.uptoBulkAll ((List.range k).map fun i => .agg [D0 i, D1 i])
  | 0, _ => by simp [sumL]
  | k + 1, h => by
    have ih := bulk_pairs D0 D1 K V k (fun i hi => h i (by omega))
    obtain ⟨e0, e1⟩ := h k (by omega)
    have z0 := Lib.size_list (K k)
    have z1 := Lib.size_list (V k)
    rw [List.range_succ, List.map_append, bulk_append]
    simp only [List.map_cons, List.map_nil, Rows.uptoBulkAll, Rows.uptoBulk, e0, e1, sumL]
    omega

theorem pairs_arg {H : Type} {enc : TypeId × Value → H} {W : World} {A : Option Addr} {n c fuel : Nat} {x : DataW H × List MemPlace} (h : DataW.trod enc Tryd.prog W 0 (fun _ => true) true fuel 29 [.slice A n c] = some x) (hk : Rows.uptoBulk x.1 ≤ 1048576) :
    ∃ K V, PairsAt W A n K V ∧ n ≤ 1048576 ∧ sumL K V n ≤ 1048576 := by
  rcases Go.Deep.open_slice_pairs Tryd.underlying29 Tryd.underlying43 Tryd.cells43 rfl rfl Tryd.cells9 Tryd.cells9 h with ⟨hc, hx⟩ | ⟨a, len, cap, m, k, V0, V1, D0, D1, P0, P1, hc, _, hl, hm, hmm, hx, hall⟩
  · simp only [List.cons.injEq, Value.slice.injEq, and_true] at hc
    obtain ⟨rfl, rfl, rfl⟩ := hc
    exact ⟨fun _ => ⟨#[]⟩, fun _ => ⟨#[]⟩, fun i hi => by omega, by omega, by simp [sumL]⟩
  · simp only [List.cons.injEq, Value.slice.injEq, and_true] at hc
    obtain ⟨rfl, rfl, rfl⟩ := hc
    simp only [if_true] at hmm
    subst hmm
    have hs : ∀ i, i < n → V0 i = .string (strOf (V0 i)) ∧ V1 i = .string (strOf (V1 i)) ∧ D0 i = .lit (.string (strOf (V0 i)).data.toList) ∧ D1 i = .lit (.string (strOf (V1 i)).data.toList) := by
      intro i hi
      obtain ⟨_, _, t0, t1⟩ := hall i (by omega)
      obtain ⟨s0, c0, y0, _⟩ := DataW.trod_string Tryd.underlying9 t0
      obtain ⟨s1, c1, y1, _⟩ := DataW.trod_string Tryd.underlying9 t1
      simp only [List.cons.injEq, and_true] at c0 c1
      simp only [Prod.mk.injEq] at y0 y1
      rw [c0, c1]
      exact ⟨rfl, rfl, y0.1, y1.1⟩
    have hb := bulk_pairs D0 D1 (fun i => strOf (V0 i)) (fun i => strOf (V1 i)) n (fun i hi => (hs i hi).2.2)
    rw [hx] at hk
    simp only [Rows.uptoBulk] at hk
    refine ⟨fun i => strOf (V0 i), fun i => strOf (V1 i), ?_, by omega, by omega⟩
    intro i hi
    obtain ⟨c0, c1, _, _⟩ := hall i (by omega)
    obtain ⟨b, off, sp⟩ := a
    obtain rfl : sp = none := by
      obtain ⟨c2, _, _, _⟩ := hall 0 (by omega)
      have e : (⟨b, off, sp⟩ : Addr).add (0 * 2) = ⟨b, off, sp⟩ := by simp [Addr.add]
      rw [e] at c2
      exact cell_spot c2
    rw [Addr.add_lit, (hs i hi).1] at c0
    rw [Addr.add_lit, (hs i hi).2.1] at c1
    exact ⟨b, off, rfl, c0, c1⟩
end Go.Proofs.YthiahhieiojgdaaDoor
