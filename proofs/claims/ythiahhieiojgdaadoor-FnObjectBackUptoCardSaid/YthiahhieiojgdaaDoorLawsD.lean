/-
  THE WALK OF FnObjectBack: it returns true. Conditions: at most 2^20 pairs whose strings have at most 2^20 bytes together; the tables as they are laid.
-/
import Derived.Test.YthiahhieiojgdaaDoorRead
import Derived.Test.YthiahhieiojgdaaDoorJson
namespace Go.Proofs.YthiahhieiojgdaaDoor
open Go.RowKit

set_option maxRecDepth 100000 in
set_option maxHeartbeats 4000000 in
/-- laws.FnObjectBack -/
theorem objectBack_any (A : Option Addr) (n c : Nat) (K V : Nat → ByteArray) (w : World) (hp : PairsAt w A n K V) (hn : n ≤ 1048576) (hs : sumL K V n ≤ 1048576) (hg : Glob w) :
    Calls Tryd.prog 8 #[.slice A n c] w fun e w' => e = .returned (.bool true) ∧ Below w.heap.size w w' := by
  have hel : ∀ i, i < n → (K i).size ≤ 1048576 ∧ (V i).size ≤ 1048576 := fun i hi => by have := sumL_each K V hi; omega
  have HS := Lib.hid hs
  have HE := Lib.hid hel
  have HP := Lib.hid hp
  clear hs hel hp
  go_enter Tryd.func8, Tryd.ntmps8
  go_wp2_with fail
  refine (fits1_any A n c K V w HP.out hn HE.out).mono ?_
  rintro e w1 ⟨rfl, hb1⟩
  have hg1 := hg.next hb1
  have hp1 := HP.out.next hb1
  go_wp2_with fail
  refine (object_any A n c K V w1 hp1 hn HS.out hg1).mono ?_
  rintro e w2 ⟨O, rfl, hO, hOs, hb2⟩
  have hg2 := hg1.next hb2
  have hp2 := hp1.next hb2
  have HO := Lib.hid hO
  clear hO
  go_wp2_with fail
  refine (read_any O n K V w2 HO.out hOs hn).mono ?_
  rintro e w3 ⟨v3, rfl, hown3, hb3⟩
  have hg3 := hg2.next hb3
  have hp3 := hp2.next hb3
  obtain ⟨A3, c3, rfl, hq3⟩ := pairs_of_own hown3
  clear hown3
  go_wp2_with fail
  refine (all_any A n c K V w3 hp3 hn HE.out).mono ?_
  rintro e w4 ⟨v4, rfl, hown4, hb4⟩
  have hg4 := hg3.next hb4
  have hq4 := hq3.next hb4
  obtain ⟨A4, c4, rfl, hr4⟩ := pairs_of_own hown4
  clear hown4
  go_wp2_with fail
  refine (same_any A3 A4 n c3 c4 _ _ w4 hq4 hr4 hn).mono ?_
  rintro e w5 ⟨rfl, hb5⟩
  have hg5 := hg4.next hb5
  go_wp2_with fail
  refine (works_any w5 hg5).mono ?_
  rintro e w6 ⟨rfl, hb6⟩
  have hbb := hb1.trans ((hb2.trans ((hb3.trans ((hb4.trans ((hb5.trans (hb6.mono hb5.size)).mono hb4.size)).mono hb3.size)).mono hb2.size)).mono hb1.size)
  go_wp2
  go_ret
  exact ⟨rfl, hbb⟩
end Go.Proofs.YthiahhieiojgdaaDoor
