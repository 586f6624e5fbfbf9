/-
  A slice of pairs in memory; zzFits1, zzFits2 at strings that are small; Same at equal lists. Conditions: the strings have at most 2^20 bytes.
-/
import Derived.Test.YthiahhieiojgdaaDoorMid
import Derived.Laws.StructEq
import Derived.Outline
import Derived.Lib.Hide
import Derived.Deep.QuietTactic
import Derived.BigQuiet
namespace Go.Proofs.YthiahhieiojgdaaDoor
open Go.RowKit

/-- THE SLICE AT A HOLDS n PAIRS: K i, V i. -/
def PairsAt (w : World) (A : Option Addr) (n : Nat) (K V : Nat → ByteArray) : Prop :=
  ∀ i, i < n → ∃ b off, A = some ⟨b, off, none⟩ ∧ w.cell? ⟨b, off + i * 2, none⟩ = some (.string (K i)) ∧ w.cell? ⟨b, off + i * 2 + 1, none⟩ = some (.string (V i))

theorem PairsAt.next {w w' : World} {A : Option Addr} {n : Nat} {K V : Nat → ByteArray} (h : PairsAt w A n K V) (hb : Below w.heap.size w w') : PairsAt w' A n K V := by
  intro i hi
  obtain ⟨b, off, hA, h0, h1⟩ := h i hi
  have hlt := lt_of_cell h0
  exact ⟨b, off, hA, (hb.cell (p := ⟨b, off + i * 2, none⟩) hlt).trans h0, (hb.cell (p := ⟨b, off + i * 2 + 1, none⟩) hlt).trans h1⟩

set_option maxRecDepth 100000 in
theorem fits2_any (k v : ByteArray) (w : World) (hk : k.size ≤ 1048576) (hv : v.size ≤ 1048576) :
    Calls Tryd.prog 26 #[.agg #[.string k, .string v]] w fun e w' => e = .returned (.bool true) ∧ Below w.heap.size w w' := by
  have hki : ¬ (k.size : Int) > 2147483647 := by omega
  have hvi : ¬ (v.size : Int) > 2147483647 := by omega
  go_enter Tryd.func26, Tryd.ntmps26
  go_wp2
  go_ret
  exact ⟨rfl, (Below.refl _ _).alloc (Nat.le_refl _) _⟩

set_option maxRecDepth 100000 in
set_option maxHeartbeats 1000000 in
theorem fits1_any (A : Option Addr) (n c : Nat) (K V : Nat → ByteArray) (w : World) (hp : PairsAt w A n K V) (hn : n ≤ 1048576) (hs : ∀ i, i < n → (K i).size ≤ 1048576 ∧ (V i).size ≤ 1048576) :
    Calls Tryd.prog 15 #[.slice A n c] w fun e w' => e = .returned (.bool true) ∧ Below w.heap.size w w' := by
  have hni : ¬ (n : Int) > 2147483647 := by omega
  have HP := Lib.hid hp
  have HS := Lib.hid hs
  clear hp hs
  go_enter Tryd.func15, Tryd.ntmps15
  go_wp2
  go_loopw [10] (fun i wr => ∃ k : Nat, k ≤ n ∧ i = .int .i64 k ∧ Below w.heap.size w wr) (fun i _ => n - (RowKit.intOf i).toNat)
  case atStart => exact ⟨0, Nat.zero_le _, rfl, Below.refl _ _⟩
  case round =>
    obtain ⟨k, hk, rfl, hnx⟩ := hrel
    by_cases hlt : k < n
    · have hki : (k : Int) < (n : Int) := by omega
      obtain ⟨b, off, rfl, h0, h1⟩ := (HP.out.next hnx) k hlt
      obtain ⟨z0, z1⟩ := HS.out k hlt
      generalize K k = kk at *
      generalize V k = vv at *
      have hbA := hnx.alloc hnx.size (.cells #[.string kk, .string vv] 43)
      go_wp2_with fail
      refine (fits2_any kk vv _ z0 z1).mono ?_
      rintro e w1 ⟨rfl, hb1⟩
      go_wp2
      go_roundw
      case rel => exact ⟨k + 1, by omega, by go_num, hbA.trans (hb1.mono hbA.size)⟩
      case measure => simp [RowKit.intOf]; omega
    · have hki : ¬ (k : Int) < (n : Int) := by omega
      go_wp2
      go_ret
      exact ⟨rfl, hnx⟩

/-! ### '==' of two pairs that are alike -/
theorem eqf_last' {d : Nat} {xs ys : Array Value} {f : Field} {a b : Value} {r : Bool} {w : World} (hn : f.name ≠ "_") (ha : (part f.type xs f.offset).run Tryd.prog w = .ok a w) (hb : (part f.type ys f.offset).run Tryd.prog w = .ok b w)
    (he : (Op.equalIn d f.type a b).run Tryd.prog w = .ok r w) : (Op.eqFields d xs ys [f]).run Tryd.prog w = .ok r w := by
  simp only [Op.eqFields, if_pos hn, Sem.run_bind, ha, hb, he, Result.andThen_ok]
  cases r <;> simp
theorem eqf_cons' {d : Nat} {xs ys : Array Value} {f : Field} {fs : List Field} {a b : Value} {r s : Bool} {w : World} (hn : f.name ≠ "_") (ha : (part f.type xs f.offset).run Tryd.prog w = .ok a w) (hb : (part f.type ys f.offset).run Tryd.prog w = .ok b w)
    (he : (Op.equalIn d f.type a b).run Tryd.prog w = .ok r w) (hr : (Op.eqFields d xs ys fs).run Tryd.prog w = .ok s w) : (Op.eqFields d xs ys (f :: fs)).run Tryd.prog w = .ok (r && s) w := by
  rw [Op.eqFields]
  simp only [if_pos hn, Sem.run_bind, ha, hb, he, Result.andThen_ok]
  cases r
  · simp
  · simpa using hr
theorem eq_pair (d : Nat) (w : World) (x0 y0 x1 y1 : ByteArray) :
    (Op.equalIn (d + 2) 43 (.agg #[.string x0, .string x1]) (.agg #[.string y0, .string y1])).run Tryd.prog w = .ok (x0.toList == y0.toList && (x1.toList == y1.toList)) w := by
  have hu := Tryd.underlying43
  have hp : Tryd.prog.stoodInHeld 43 = false := by kernel_rfl
  obtain ⟨fs, hfs⟩ : ∃ fs, Tryd.prog.underlying 43 = some (.struct fs) := ⟨_, hu⟩
  have hf : Tryd.prog.fieldsOf 43 = fs := by simp [Program.fieldsOf, hfs]
  rw [run_equalIn_struct (P := Tryd.prog) w (d + 1) 43 _ _ (by rw [hf]; exact hfs) hp, hf]
  rw [hu] at hfs
  obtain rfl := TypeDesc.struct.inj (Option.some.inj hfs)
  refine eqf_cons' (by decide) (by go_simp; rfl) (by go_simp; rfl) (by go_simp) ?_
  exact eqf_last' (by decide) (by go_simp; rfl) (by go_simp; rfl) (by go_simp)
theorem neq_pair (w : World) (x0 x1 : ByteArray) : (binOp .neq 43 (.agg #[.string x0, .string x1]) (.agg #[.string x0, .string x1])).run Tryd.prog w = .ok (.bool false) w := by
  simp only [binOp]
  simp [Op.equal, Op.maxDepth, eq_pair 9998 w x0 x0 x1 x1]

set_option maxRecDepth 100000 in
set_option maxHeartbeats 1000000 in
/-- spec.Same at two lists of the same pairs -/
theorem same_any (A B : Option Addr) (n c d : Nat) (K V : Nat → ByteArray) (w : World) (hp : PairsAt w A n K V) (hq : PairsAt w B n K V) (hn : n ≤ 1048576) :
    Calls Tryd.prog 18 #[.slice A n c, .slice B n d] w fun e w' => e = .returned (.bool true) ∧ Below w.heap.size w w' := by
  have HP := Lib.hid hp
  have HQ := Lib.hid hq
  clear hp hq
  have hneq := neq_pair
  go_enter Tryd.func18, Tryd.ntmps18
  go_wp2
  go_loopw [13] (fun i wr => ∃ k : Nat, k ≤ n ∧ i = .int .i64 k ∧ Below w.heap.size w wr) (fun i _ => n - (RowKit.intOf i).toNat)
  case atStart => exact ⟨0, Nat.zero_le _, rfl, Below.refl _ _⟩
  case round =>
    obtain ⟨k, hk, rfl, hnx⟩ := hrel
    by_cases hlt : k < n
    · have hki : (k : Int) < (n : Int) := by omega
      obtain ⟨b, off, rfl, h0, h1⟩ := (HP.out.next hnx) k hlt
      obtain ⟨b', off', rfl, h2, h3⟩ := (HQ.out.next hnx) k hlt
      generalize K k = kk at *
      generalize V k = vv at *
      go_wp2_with fail
      go_quiet (fail)
      rename_i nq
      have hbq : Below w.heap.size w (wr.drewN nq) := hnx.trans ⟨rfl, rfl, rfl, Nat.le_refl _, fun _ _ => rfl⟩
      go_wp2
      go_roundw
      case rel => exact ⟨k + 1, by omega, by go_num, hbq⟩
      case measure => simp [RowKit.intOf]; omega
    · have hki : ¬ (k : Int) < (n : Int) := by omega
      go_wp2
      go_ret
      exact ⟨rfl, hnx⟩
end Go.Proofs.YthiahhieiojgdaaDoor
