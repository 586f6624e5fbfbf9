/-
  FROM WHAT THE ROWS LIST ('laid') TO THE TABLES THAT THE WALKS READ; a world for the witness, whatever the arguments. Conditions: none.
-/
import Derived.Test.YthiahhieiojgdaaDoorRows
import Derived.Test.YthiahhieiojgdaaDoorMid
import Derived.LaidMore
import Derived.Lib.LaidU8
import Derived.PinnedBridge
import Derived.MakeChecks
import Derived.Lib.LaidIn
namespace Go.Proofs.YthiahhieiojgdaaDoor
open Go.RowKit

/-- What every row of this seat lists. -/
abbrev laid5 : List (String × DataW Unit) := [("unicode/utf8.acceptRanges", Rows.laid_unicode_utf8_acceptRanges), ("unicode.White_Space", Rows.laid_unicode_White_Space), ("unicode.properties", Rows.laid_unicode_properties), ("logquotes/pub/slogquote.safeSet", Rows.laid_logquotes_pub_slogquote_safeSet), ("unicode/utf8.first", Rows.laid_unicode_utf8_first)]

theorem gSafe : Tryd.prog.globalNamed "logquotes/pub/slogquote.safeSet" = some 0 := by kernel_rfl
theorem tSafe : (Tryd.prog.globals[0]?).map (·.type) = some 50 := by kernel_rfl
theorem cells4 : Tryd.prog.cellsOf 4 = 1 := by kernel_rfl
def safeData : DataW Unit := .agg ((List.range 128).map fun i => .lit (.bool (okB i)))
theorem safeData_eq : Rows.laid_logquotes_pub_slogquote_safeSet (H := Unit) = safeData := by kernel_rfl
theorem acceptData_eq : Rows.laid_unicode_utf8_acceptRanges (H := Unit) = Lib.acceptData := by kernel_rfl
theorem firstData_eq : Rows.laid_unicode_utf8_first = Lib.firstData := Pinned.utf8First_eq

theorem lays260 : Lays.n260 Tryd.prog Tryd.lays197_ren := { Tryd.lays197 with }
theorem u8Extra : U8Extra Tryd.prog Tryd.lays197_ren := { n3 := by kernel_rfl, n4 := by kernel_rfl, y3 := by kernel_rfl, y4 := by kernel_rfl, c5 := by kernel_rfl, c119 := by kernel_rfl, c138 := by kernel_rfl }

theorem safe_of_reads {w : World} (h : Lib.VarReads Tryd.prog w "logquotes/pub/slogquote.safeSet" safeData) : ∀ i, i < 128 → w.cell? ⟨0, i, none⟩ = some (.bool (okB i)) := by
  intro i hi
  obtain ⟨g, t, cs, fuel, p, hg, hty, hvar, hd⟩ := h
  obtain rfl := Option.some.inj (gSafe.symm.trans hg)
  obtain rfl := Option.some.inj (tSafe.symm.trans hty)
  obtain ⟨fuel', d, q, hdi, he⟩ := Lib.array_elem Tryd.underlying50 hd i hi
  simp only [List.getElem?_map, List.getElem?_range hi, Option.map_some, Option.some.injEq] at hdi
  subst hdi
  rw [cells4] at he
  obtain ⟨b, hc, hx⟩ := DataW.trod_bool Tryd.underlying4 he
  simp only [Prod.mk.injEq, DataW.lit.injEq, Lit.bool.injEq] at hx
  obtain ⟨rfl, _⟩ := hx
  rw [World.var?_cell hg hvar i, ← Array.getElem?_toList]
  have e := congrArg (·[0]?) hc
  simp only [List.getElem?_take, List.getElem?_drop] at e
  simpa using e

theorem glob_of_laid {w : World} (h : laidMetH Tryd.prog laid5 w) : Glob w := by
  rw [MakeChecks.laidMetH_plain _ _ _ (by kernel_rfl)] at h
  have hS := Lib.laidMet.reads h (n := "logquotes/pub/slogquote.safeSet") (d := Rows.laid_logquotes_pub_slogquote_safeSet) (by simp)
  have hF := Lib.laidMet.reads h (n := "unicode/utf8.first") (d := Rows.laid_unicode_utf8_first) (by simp)
  have hA := Lib.laidMet.reads h (n := "unicode/utf8.acceptRanges") (d := Rows.laid_unicode_utf8_acceptRanges) (by simp)
  rw [safeData_eq] at hS
  rw [firstData_eq] at hF
  rw [acceptData_eq] at hA
  exact ⟨safe_of_reads hS, utf8Tabs_of_reads lays260 u8Extra hF hA⟩

/-- A WORLD FOR THE WITNESS: what the variables' door leaves, and utf8.first as it is laid. -/
noncomputable def laidWorld (os : Os) : World :=
  { World.doorLaid Tryd.prog 48 os with heap := (World.doorLaid Tryd.prog 48 os).heap.modify 1 fun
      | .cells _ t frozen => .cells ((List.range 256).map fun c => Value.int .u8 (Lib.firstT c)).toArray t frozen
      | o => o }

noncomputable abbrev memOf (os : Os) (args : Array Value) : World := ((laidWorld os).forCall (fun _ _ => 0) ⟨#[], args, []⟩).memory
theorem in_accept (os : Os) (args : Array Value) : LaidIn Tryd.prog (memOf os args) [("unicode/utf8.acceptRanges", Rows.laid_unicode_utf8_acceptRanges)] [2] :=
  LaidIn.of_run [2] 8 (by kernel_rfl) (by kernel_rfl) (by kernel_rfl) (by kernel_rfl)
theorem in_white (os : Os) (args : Array Value) : LaidIn Tryd.prog (memOf os args) [("unicode.White_Space", Rows.laid_unicode_White_Space)] (3 :: (List.range 60).drop 7) :=
  LaidIn.of_run _ 8 (by kernel_rfl) (by kernel_rfl) (by kernel_rfl) (by kernel_rfl)
theorem in_props (os : Os) (args : Array Value) : LaidIn Tryd.prog (memOf os args) [("unicode.properties", Rows.laid_unicode_properties)] [4] :=
  LaidIn.of_run [4] 8 (by kernel_rfl) (by kernel_rfl) (by kernel_rfl) (by kernel_rfl)
theorem in_safe (os : Os) (args : Array Value) : LaidIn Tryd.prog (memOf os args) [("logquotes/pub/slogquote.safeSet", Rows.laid_logquotes_pub_slogquote_safeSet)] [0] :=
  LaidIn.of_run [0] 8 (by kernel_rfl) (by kernel_rfl) (by kernel_rfl) (by kernel_rfl)
theorem in_first (os : Os) (args : Array Value) : LaidIn Tryd.prog (memOf os args) [("unicode/utf8.first", Rows.laid_unicode_utf8_first)] [1] :=
  LaidIn.of_run [1] 8 (by kernel_rfl) (by kernel_rfl) (by kernel_rfl) (by kernel_rfl)
/-- THE WORLD MEETS WHAT THE ROWS LIST, piece by piece. -/
theorem laid_met (os : Os) (args : Array Value) : laidMet Tryd.prog laid5 (memOf os args) :=
  ((((in_accept os args).append (in_white os args) (by kernel_rfl)).append (in_props os args) (by kernel_rfl)).append (in_safe os args) (by kernel_rfl)).append (in_first os args) (by kernel_rfl) |>.met
end Go.Proofs.YthiahhieiojgdaaDoor
