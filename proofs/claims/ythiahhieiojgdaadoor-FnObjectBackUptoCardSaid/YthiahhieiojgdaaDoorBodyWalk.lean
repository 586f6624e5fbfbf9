/-
  THE WALK OF spec.Body at a string that begins with what appendEscapedJSONString gives, and ends there or goes on with a quotation mark. Conditions: at most 2^40 bytes.
-/
import Derived.Test.YthiahhieiojgdaaDoorBody
import Derived.Outline
namespace Go.Proofs.YthiahhieiojgdaaDoor
open Go.RowKit

set_option maxRecDepth 100000 in
set_option maxHeartbeats 8000000 in
theorem body_any (s : ByteArray) (t tail : List UInt8) (w : World) (hL : s.data.toList = esc t ++ tail) (htail : tail = [] ∨ (tail ≠ [] ∧ at' tail 0 = 34)) (hs : s.size ≤ 1099511627776) :
    Calls Tryd.prog 13 #[.string s] w fun e w' => e = .returned (.tuple #[.string ⟨(coerced t).toArray⟩, .int .i64 ((esc t).length : Int), .bool true]) ∧ Below w.heap.size w w' := by
  have hB0 := Bd.start hL
  have HT := Lib.hid htail
  clear hL htail
  have kc := fun (w : World) (C : Array Value) (n c : Nat) => Lib.run_convert_bytes_const (P := Tryd.prog) w 36 5 C n c Tryd.underlying36 Tryd.underlying5
  go_enter Tryd.func13, Tryd.ntmps13
  go_wp2
  go_loopw [2, 3] (fun tx n wr => ∃ (T : ByteArray) (N : Nat) (u : List UInt8), tx = .string T ∧ n = .int .i64 N ∧ Bd s t tail T N u ∧ Below w.heap.size w wr) (fun _ n _ => s.size - (RowKit.intOf n).toNat)
  case atStart => exact ⟨⟨#[]⟩, 0, t, rfl, rfl, hB0, Below.refl _ _⟩
  case round =>
    obtain ⟨T, N, u, rfl, rfl, hbd, hnx⟩ := hrel
    clear hB0
    have hle := hbd.le
    have hsm := hbd.small
    have HB := Lib.hid hbd
    clear hbd
    by_cases hu : u = []
    · subst hu
      have hNt : N = (esc t).length := by have := HB.out.num; rw [esc_nil] at this; simpa using this
      have hTt : T = ⟨(coerced t).toArray⟩ := by
        have := HB.out.text
        rw [coerced_nil, List.append_nil] at this
        exact str_ext this.symm
      have HN := Lib.hid hNt
      have HC := Lib.hid hTt
      clear hNt hTt
      rcases HT.out with h0 | ⟨h1, h2⟩
      · have hNs : ¬ (N : Int) < (s.size : Int) := by
          have hr := congrArg List.length HB.out.rest
          rw [h0, esc_nil, List.length_drop, size_eq_len] at hr
          simp at hr
          omega
        clear h0
        go_wp2
        go_ret3
        exact ⟨by rw [← HN.out, ← HC.out]; rfl, hnx⟩
      · have hr := HB.out.rest
        rw [esc_nil, List.nil_append] at hr
        have hlt : N < s.size := by
          have hr' := congrArg List.length hr
          rw [List.length_drop, size_eq_len] at hr'
          have := List.length_pos_iff.2 h1
          omega
        have hx0 : s[N]'hlt = 34 := byte_eq hlt (by
          have : at' s.data.toList (N + 0) = at' tail 0 := by rw [← at_drop, hr]
          rw [Nat.add_zero] at this
          rw [this, h2]; rfl)
        clear h1 h2 hr
        go_wp2
        go_ret3
        exact ⟨by rw [← HN.out, ← HC.out]; rfl, hnx⟩
    · have HU := Lib.hid hu
      clear hu
      rcases view HU.out with ⟨hraw, hc⟩ | ⟨e, x, hp, hl, hc⟩ | ⟨a, b, c, d, ha, hb, hcc, hd, hl, hv, hc⟩
      · -- characters that stand as they are
        obtain ⟨r, hr⟩ := HB.out.list HU.out rfl
        have hfit := HB.out.fits HU.out rfl
        have hlow := hraw.low
        have hq := hraw.quote
        have hsl := hraw.slash
        have hpos := hraw.pos
        have hk4 := hraw.le
        have hlt : N < s.size := by omega
        have h0 : at' s.data.toList N = at' (chunk u).1 0 := by have := at_chunk hr (j := 0) (by omega); rwa [Nat.add_zero] at this
        have cS := fun wx => size_any (s.extract N s.size) wx (by simp; omega) (by simp; omega)
        rw [extract_end, hr, hraw.size] at cS
        obtain ⟨x0, hx0⟩ : ∃ x0, s[N]'hlt = x0 := ⟨_, rfl⟩
        have hat : at' s.data.toList N = x0.toNat := by rw [← hx0]; exact (getElem_at s N hlt).symm
        rw [h0] at hat
        rw [hat] at hlow hq hsl
        have b1 : ((x0.toNat : Int) != 34) = true := by rw [bne_iff_ne]; omega
        have b2 : ((x0.toNat : Int) != 92) = true := by rw [bne_iff_ne]; omega
        have hnew : ∀ m : Nat, m = N + (chunk u).1.length → Bd s t tail (T ++ s.extract N m) m (u.drop (chunk u).2) := fun m hm =>
          HB.out.next HU.out rfl hc (by rw [append_list, extract_list, hr, hm, Nat.add_sub_cancel_left, List.take_left]) (by omega) hm
        have HNEW := Lib.hid hnew
        have CS := Lib.hid cS
        clear hnew cS hr hraw hc h0 hat hq hsl
        generalize (chunk u).1.length = k at *
        obtain ⟨m, hm⟩ : ∃ m : Nat, m = N + k := ⟨_, rfl⟩
        have hnm := HNEW.out m hm
        have HNM := Lib.hid hnm
        have hmi : (N : Int) + (k : Int) = (m : Int) := by omega
        have hm1 : N ≤ m := by omega
        have hm2 : m ≤ s.size := by omega
        have hm3 : N < m := by omega
        have k0 : ((k : Int) == 0) = false := by rw [beq_eq_false_iff_ne]; omega
        clear hnm hm hfit
        go_wp2_with fail
        refine (CS.out _).mono ?_
        rintro e w1 ⟨rfl, rfl⟩
        go_wp2_with fail
        refine (CS.out _).mono ?_
        rintro e w1 ⟨rfl, rfl⟩
        go_wp2
        go_roundw
        case rel => exact ⟨_, m, _, rfl, rfl, HNM.out, hnx⟩
        case measure => simp [RowKit.intOf]; omega
      · -- a backslash and a letter
        obtain ⟨r, hr⟩ := HB.out.list HU.out hl
        have hfit := HB.out.fits HU.out hl
        simp only [List.length_cons, List.length_nil, Nat.zero_add] at hfit
        have hlt : N < s.size := by omega
        have hlt1 : N + 1 < s.size := by omega
        have hx0 : s[N]'hlt = 92 := byte_eq hlt (by have := at_chunk hr (j := 0) (by simp); rwa [Nat.add_zero] at this)
        have hx1 : s[N + 1]'hlt1 = e := byte_eq hlt1 (at_chunk hr (j := 1) (by simp))
        have cS := fun wx => size_any (s.extract N s.size) wx (by simp; omega) (by simp; omega)
        rw [extract_end, hr, size_of1 (l := [92, e] ++ r) (by show 92 < 128; omega)] at cS
        have hnew : ∀ T' : ByteArray, T'.data.toList = T.data.toList ++ [x] → Bd s t tail T' (N + 2) (u.drop (chunk u).2) := fun T' hT' => HB.out.next HU.out hl hc hT' (by simp) (by simp)
        have HNEW := Lib.hid hnew
        have CS := Lib.hid cS
        clear hnew cS hr hl hc
        have hi1 : (N : Int) + 1 < (s.size : Int) := by omega
        have ne : ((N : Int) + 1 == (s.size : Int)) = false := by rw [beq_eq_false_iff_ne]; omega
        have cm0 : (wr.alloc (.cells #[.int .u8 34, .int .u8 92, .int .u8 47, .int .u8 98, .int .u8 102, .int .u8 110, .int .u8 114, .int .u8 116] 5 (8, 9))).cell? ⟨wr.heap.size, 0, none⟩ = some (.int .u8 34) := World.cell?_alloc_mark wr #[.int .u8 34, .int .u8 92, .int .u8 47, .int .u8 98, .int .u8 102, .int .u8 110, .int .u8 114, .int .u8 116] 5 (8, 9) 0
        have cm1 : (wr.alloc (.cells #[.int .u8 34, .int .u8 92, .int .u8 47, .int .u8 98, .int .u8 102, .int .u8 110, .int .u8 114, .int .u8 116] 5 (8, 9))).cell? ⟨wr.heap.size, 1, none⟩ = some (.int .u8 92) := World.cell?_alloc_mark wr #[.int .u8 34, .int .u8 92, .int .u8 47, .int .u8 98, .int .u8 102, .int .u8 110, .int .u8 114, .int .u8 116] 5 (8, 9) 1
        have cm2 : (wr.alloc (.cells #[.int .u8 34, .int .u8 92, .int .u8 47, .int .u8 98, .int .u8 102, .int .u8 110, .int .u8 114, .int .u8 116] 5 (8, 9))).cell? ⟨wr.heap.size, 2, none⟩ = some (.int .u8 47) := World.cell?_alloc_mark wr #[.int .u8 34, .int .u8 92, .int .u8 47, .int .u8 98, .int .u8 102, .int .u8 110, .int .u8 114, .int .u8 116] 5 (8, 9) 2
        have cm3 : (wr.alloc (.cells #[.int .u8 34, .int .u8 92, .int .u8 47, .int .u8 98, .int .u8 102, .int .u8 110, .int .u8 114, .int .u8 116] 5 (8, 9))).cell? ⟨wr.heap.size, 3, none⟩ = some (.int .u8 98) := World.cell?_alloc_mark wr #[.int .u8 34, .int .u8 92, .int .u8 47, .int .u8 98, .int .u8 102, .int .u8 110, .int .u8 114, .int .u8 116] 5 (8, 9) 3
        have cm4 : (wr.alloc (.cells #[.int .u8 34, .int .u8 92, .int .u8 47, .int .u8 98, .int .u8 102, .int .u8 110, .int .u8 114, .int .u8 116] 5 (8, 9))).cell? ⟨wr.heap.size, 4, none⟩ = some (.int .u8 102) := World.cell?_alloc_mark wr #[.int .u8 34, .int .u8 92, .int .u8 47, .int .u8 98, .int .u8 102, .int .u8 110, .int .u8 114, .int .u8 116] 5 (8, 9) 4
        have cm5 : (wr.alloc (.cells #[.int .u8 34, .int .u8 92, .int .u8 47, .int .u8 98, .int .u8 102, .int .u8 110, .int .u8 114, .int .u8 116] 5 (8, 9))).cell? ⟨wr.heap.size, 5, none⟩ = some (.int .u8 110) := World.cell?_alloc_mark wr #[.int .u8 34, .int .u8 92, .int .u8 47, .int .u8 98, .int .u8 102, .int .u8 110, .int .u8 114, .int .u8 116] 5 (8, 9) 5
        have cm6 : (wr.alloc (.cells #[.int .u8 34, .int .u8 92, .int .u8 47, .int .u8 98, .int .u8 102, .int .u8 110, .int .u8 114, .int .u8 116] 5 (8, 9))).cell? ⟨wr.heap.size, 6, none⟩ = some (.int .u8 114) := World.cell?_alloc_mark wr #[.int .u8 34, .int .u8 92, .int .u8 47, .int .u8 98, .int .u8 102, .int .u8 110, .int .u8 114, .int .u8 116] 5 (8, 9) 6
        have cm7 : (wr.alloc (.cells #[.int .u8 34, .int .u8 92, .int .u8 47, .int .u8 98, .int .u8 102, .int .u8 110, .int .u8 114, .int .u8 116] 5 (8, 9))).cell? ⟨wr.heap.size, 7, none⟩ = some (.int .u8 116) := World.cell?_alloc_mark wr #[.int .u8 34, .int .u8 92, .int .u8 47, .int .u8 98, .int .u8 102, .int .u8 110, .int .u8 114, .int .u8 116] 5 (8, 9) 7
        rcases hp with ⟨rfl, rfl⟩ | ⟨rfl, rfl⟩ | ⟨rfl, rfl⟩ | ⟨rfl, rfl⟩ | ⟨rfl, rfl⟩
        · have hT' := HNEW.out (T ++ (⟨#[34, 92, 47, 8, 12, 10, 13, 9]⟩ : ByteArray).extract 1 2) (by rw [append_list]; rfl)
          have HT' := Lib.hid hT'
          clear hT'
          go_wp2_with fail
          refine (CS.out _).mono ?_
          rintro e w1 ⟨rfl, rfl⟩
          go_wp2
          refine wp_loop_rounds 9 ?_
          rw [rounds_succ]
          go_wp2
          rw [rounds_succ]
          go_wp2
          rw [rounds_succ]
          go_wp2
          rw [rounds_succ]
          go_wp2
          rw [rounds_succ]
          go_wp2
          rw [rounds_succ]
          go_wp2
          rw [rounds_succ]
          go_wp2
          rw [rounds_succ]
          go_wp2
          rw [rounds_succ]
          go_wp2
          go_roundw
          case rel => exact ⟨_, N + 2, _, rfl, by go_num, HT'.out, hnx.alloc hnx.size _⟩
          case measure => simp [RowKit.intOf]; omega
        · have hT' := HNEW.out (T ++ (⟨#[34, 92, 47, 8, 12, 10, 13, 9]⟩ : ByteArray).extract 0 1) (by rw [append_list]; rfl)
          have HT' := Lib.hid hT'
          clear hT'
          go_wp2_with fail
          refine (CS.out _).mono ?_
          rintro e w1 ⟨rfl, rfl⟩
          go_wp2
          refine wp_loop_rounds 9 ?_
          rw [rounds_succ]
          go_wp2
          rw [rounds_succ]
          go_wp2
          rw [rounds_succ]
          go_wp2
          rw [rounds_succ]
          go_wp2
          rw [rounds_succ]
          go_wp2
          rw [rounds_succ]
          go_wp2
          rw [rounds_succ]
          go_wp2
          rw [rounds_succ]
          go_wp2
          rw [rounds_succ]
          go_wp2
          go_roundw
          case rel => exact ⟨_, N + 2, _, rfl, by go_num, HT'.out, hnx.alloc hnx.size _⟩
          case measure => simp [RowKit.intOf]; omega
        · have hT' := HNEW.out (T ++ (⟨#[34, 92, 47, 8, 12, 10, 13, 9]⟩ : ByteArray).extract 5 6) (by rw [append_list]; rfl)
          have HT' := Lib.hid hT'
          clear hT'
          go_wp2_with fail
          refine (CS.out _).mono ?_
          rintro e w1 ⟨rfl, rfl⟩
          go_wp2
          refine wp_loop_rounds 9 ?_
          rw [rounds_succ]
          go_wp2
          rw [rounds_succ]
          go_wp2
          rw [rounds_succ]
          go_wp2
          rw [rounds_succ]
          go_wp2
          rw [rounds_succ]
          go_wp2
          rw [rounds_succ]
          go_wp2
          rw [rounds_succ]
          go_wp2
          rw [rounds_succ]
          go_wp2
          rw [rounds_succ]
          go_wp2
          go_roundw
          case rel => exact ⟨_, N + 2, _, rfl, by go_num, HT'.out, hnx.alloc hnx.size _⟩
          case measure => simp [RowKit.intOf]; omega
        · have hT' := HNEW.out (T ++ (⟨#[34, 92, 47, 8, 12, 10, 13, 9]⟩ : ByteArray).extract 6 7) (by rw [append_list]; rfl)
          have HT' := Lib.hid hT'
          clear hT'
          go_wp2_with fail
          refine (CS.out _).mono ?_
          rintro e w1 ⟨rfl, rfl⟩
          go_wp2
          refine wp_loop_rounds 9 ?_
          rw [rounds_succ]
          go_wp2
          rw [rounds_succ]
          go_wp2
          rw [rounds_succ]
          go_wp2
          rw [rounds_succ]
          go_wp2
          rw [rounds_succ]
          go_wp2
          rw [rounds_succ]
          go_wp2
          rw [rounds_succ]
          go_wp2
          rw [rounds_succ]
          go_wp2
          rw [rounds_succ]
          go_wp2
          go_roundw
          case rel => exact ⟨_, N + 2, _, rfl, by go_num, HT'.out, hnx.alloc hnx.size _⟩
          case measure => simp [RowKit.intOf]; omega
        · have hT' := HNEW.out (T ++ (⟨#[34, 92, 47, 8, 12, 10, 13, 9]⟩ : ByteArray).extract 7 8) (by rw [append_list]; rfl)
          have HT' := Lib.hid hT'
          clear hT'
          go_wp2_with fail
          refine (CS.out _).mono ?_
          rintro e w1 ⟨rfl, rfl⟩
          go_wp2
          refine wp_loop_rounds 9 ?_
          rw [rounds_succ]
          go_wp2
          rw [rounds_succ]
          go_wp2
          rw [rounds_succ]
          go_wp2
          rw [rounds_succ]
          go_wp2
          rw [rounds_succ]
          go_wp2
          rw [rounds_succ]
          go_wp2
          rw [rounds_succ]
          go_wp2
          rw [rounds_succ]
          go_wp2
          rw [rounds_succ]
          go_wp2
          go_roundw
          case rel => exact ⟨_, N + 2, _, rfl, by go_num, HT'.out, hnx.alloc hnx.size _⟩
          case measure => simp [RowKit.intOf]; omega
      · -- u and four digits
        obtain ⟨r, hr⟩ := HB.out.list HU.out hl
        have hfit := HB.out.fits HU.out hl
        simp only [List.length_cons, List.length_nil, Nat.zero_add] at hfit
        have hlt : N < s.size := by omega
        have hlt1 : N + 1 < s.size := by omega
        have hx0 : s[N]'hlt = 92 := byte_eq hlt (by have := at_chunk hr (j := 0) (by simp); rwa [Nat.add_zero] at this)
        have hx1 : s[N + 1]'hlt1 = 117 := byte_eq hlt1 (at_chunk hr (j := 1) (by simp))
        have cS := fun wx => size_any (s.extract N s.size) wx (by simp; omega) (by simp; omega)
        rw [extract_end, hr, size_of1 (l := [92, 117, nib a, nib b, nib c, nib d] ++ r) (by show 92 < 128; omega)] at cS
        have hdig : ∀ k (hk : k < 4), (s.extract (N + 2) s.size)[k]'(by simp; omega) = nib (dig a b c d k) := fun k hk => byte_eq _ (by
          rw [extract_end, at_drop, show N + 2 + k = N + (2 + k) from by omega, at_chunk hr (j := 2 + k) (by simp; omega)]
          match k, hk with
          | 0, _ => rfl
          | 1, _ => rfl
          | 2, _ => rfl
          | 3, _ => rfl)
        have cH := fun wx => hex_any (s.extract (N + 2) s.size) wx a b c d ha hb hcc hd (by simp; omega) (by simp; omega) hdig
        generalize 4096 * a + 256 * b + 16 * c + d = v at *
        have cC := fun wx => coded_any v wx hv
        have hcl : (code v).length ≤ 3 := by unfold code; split <;> simp
        have hnew := HB.out.next (T' := T ++ ⟨(code v).toArray⟩) (m := N + 6) HU.out hl hc (by rw [append_list]) (by simp; omega) (by simp)
        have hz : (⟨(code v).toArray⟩ : ByteArray).size ≤ 3 := by rw [Lib.size_list]; exact hcl
        generalize (⟨(code v).toArray⟩ : ByteArray) = V at *
        have HNEW := Lib.hid hnew
        have hv' : (v : Int) < 55296 := by omega
        have hv0 : (0 : Int) ≤ (v : Int) := by omega
        obtain ⟨vi, hvi⟩ : ∃ vi : Int, (v : Int) = vi := ⟨_, rfl⟩
        rw [hvi] at hv' hv0
        rw [hvi] at cH cC
        have d1 : decide (vi ≥ 55296) = false := by simp; omega
        have CS := Lib.hid cS
        have CH := Lib.hid cH
        have CC := Lib.hid cC
        clear hvi hnew cS cH cC hr hl hc hdig hcl hv ha hb hcc hd
        have hi1 : (N : Int) + 1 < (s.size : Int) := by omega
        have ne : ((N : Int) + 1 == (s.size : Int)) = false := by rw [beq_eq_false_iff_ne]; omega
        obtain ⟨m2, hm2⟩ : ∃ m : Nat, m = N + 2 := ⟨_, rfl⟩
        rw [← hm2] at CH
        have hm2i : (N : Int) + 1 + 1 = (m2 : Int) := by omega
        have hm2a : m2 + 4 ≤ s.size := by omega
        have hm2b : m2 + 4 = N + 6 := by omega
        rw [← hm2b] at HNEW
        clear hm2b hm2
        go_wp2_with fail
        refine (CS.out _).mono ?_
        rintro e w1 ⟨rfl, rfl⟩
        go_wp2_with fail
        refine (CH.out _).mono ?_
        rintro e w1 ⟨rfl, rfl⟩
        go_wp2_with fail
        refine (CC.out _).mono ?_
        rintro e w1 ⟨rfl, hb1⟩
        go_wp2
        go_roundw
        case rel => exact ⟨_, m2 + 4, _, rfl, by go_num, HNEW.out, hnx.trans (hb1.mono hnx.size)⟩
        case measure => simp [RowKit.intOf]; omega
end Go.Proofs.YthiahhieiojgdaaDoor
