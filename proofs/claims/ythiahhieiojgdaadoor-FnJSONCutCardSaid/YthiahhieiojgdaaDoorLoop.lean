/-
  appendEscapedJSONString at every string of at most 2^40 bytes: 'esc' of it. Conditions: the two tables of utf8 and safeSet as they are laid.
-/
import Derived.Test.YthiahhieiojgdaaDoorMid
import Derived.Outline
import Derived.Lib.Hide
import Derived.IntWalk
import Derived.Deep.DeepFit
namespace Go.Proofs.YthiahhieiojgdaaDoor
open Go.RowKit

theorem mid_end {L : List UInt8} {S : Nat} {l : List UInt8} (h : Mid L S L.length l) : esc L = l ++ L.drop S := by
  have := h.eq
  rw [List.drop_length, esc_nil, List.append_nil, List.take_of_length_le (by simp)] at this
  exact this

theorem keep_of {L l : List UInt8} {S I n k : Nat} (h : Mid L S I l) (hn : n = L.length) (hI : I < n) (hk : chunk (L.drop I) = ((L.drop I).take k, k)) : Mid L S (I + k) l := by
  have h1 : (chunk (L.drop I)).2 = k := by rw [hk]
  have := h.keep (by omega) (by rw [hk])
  rw [h1] at this
  exact this
theorem put_of {L l l1 l2 c : List UInt8} {S I n k : Nat} (h : Mid L S I l) (hn : n = L.length) (hI : I < n) (h1 : l1 = l ++ (L.drop S).take (I - S)) (hk : chunk (L.drop I) = (c, k)) (h2 : l2 = l1 ++ c) : Mid L (I + k) (I + k) l2 := by
  rw [h2, h1]
  exact h.put (by omega) hk

theorem ck_ok {l : List UInt8} {x : UInt8} (h : l ≠ []) (ha : at' l 0 = x.toNat) (hx : x.toNat < 128) (hk : okB x.toNat = true) : chunk l = (l.take 1, 1) := by
  unfold chunk
  rw [if_pos (by omega), head_eq h]
  unfold chunkA
  rw [ha, if_pos hk]
theorem ck_low {l c : List UInt8} {x : UInt8} (ha : at' l 0 = x.toNat) (hx : x.toNat < 128) (hc : chunkA x.toNat = c) : chunk l = (c, 1) := by
  unfold chunk
  rw [if_pos (by omega), ha, hc]
theorem ck_bad {l : List UInt8} {x : UInt8} (ha : at' l 0 = x.toNat) (hx : 128 ≤ x.toNat) (hs : size l = 0) : chunk l = ([239, 191, 189], 1) := by
  unfold chunk
  rw [if_neg (by omega), if_pos hs]
theorem ck_raw {l : List UInt8} {x : UInt8} (ha : at' l 0 = x.toNat) (hx : 128 ≤ x.toNat) (hs : size l ≠ 0) (h8 : (dec l).1 ≠ 8232) (h9 : (dec l).1 ≠ 8233) : chunk l = (l.take (dec l).2, (dec l).2) := by
  obtain ⟨d2, _⟩ := dec_some (l := l) (by omega) hs
  unfold chunk
  rw [if_neg (by omega), if_neg hs, if_neg h8, if_neg h9, d2]
theorem ck_8 {l : List UInt8} {x : UInt8} (ha : at' l 0 = x.toNat) (hx : 128 ≤ x.toNat) (hs : size l ≠ 0) (h8 : (dec l).1 = 8232) : chunk l = ([92, 117, 50, 48, 50, 56], 3) ∧ dec l = (8232, 3) ∧ 3 ≤ l.length := by
  obtain ⟨d2, _, _, hl, _, _, r3, _⟩ := dec_some (l := l) (by omega) hs
  have k := r3 (.inl h8)
  refine ⟨?_, Prod.ext h8 (d2.trans k), by omega⟩
  unfold chunk
  rw [if_neg (by omega), if_neg hs, if_pos h8, k]
theorem ck_9 {l : List UInt8} {x : UInt8} (ha : at' l 0 = x.toNat) (hx : 128 ≤ x.toNat) (hs : size l ≠ 0) (h9 : (dec l).1 = 8233) : chunk l = ([92, 117, 50, 48, 50, 57], 3) ∧ dec l = (8233, 3) ∧ 3 ≤ l.length := by
  obtain ⟨d2, _, _, hl, _, _, r3, _⟩ := dec_some (l := l) (by omega) hs
  have k := r3 (.inr h9)
  refine ⟨?_, Prod.ext h9 (d2.trans k), by omega⟩
  unfold chunk
  rw [if_neg (by omega), if_neg hs, if_neg (by omega), if_pos h9, k]

theorem Buf.next {B : Nat} {W0 w w' : World} {l : List UInt8} (h : Buf B W0 l w) (hb : Below w.heap.size w w') : Buf B W0 l w' := by
  obtain ⟨v, hv, hown, hB⟩ := h
  have hlt := lt_of_block hv
  refine ⟨v, (hb.block B hlt).trans hv, ?_, hB.trans (hb.mono (Nat.le_of_lt hlt))⟩
  refine ⟨hown.1, ?_⟩
  rcases hown.2 with h2 | ⟨g, cap, cur, e, hg, hh, r⟩
  · exact .inl h2
  · exact .inr ⟨g, cap, cur, e, hg, (hb.block g (lt_of_block hh)).trans hh, r⟩

theorem nib_hex {k : Nat} (h : k < 16) (hz : k < (⟨#[48, 49, 50, 51, 52, 53, 54, 55, 56, 57, 97, 98, 99, 100, 101, 102]⟩ : ByteArray).size) :
    ((nib k).toNat : Int) = (((⟨#[48, 49, 50, 51, 52, 53, 54, 55, 56, 57, 97, 98, 99, 100, 101, 102]⟩ : ByteArray)[k]'hz).toNat : Int) := by
  match k, h with
  | 0, _ => rfl
  | 1, _ => rfl
  | 2, _ => rfl
  | 3, _ => rfl
  | 4, _ => rfl
  | 5, _ => rfl
  | 6, _ => rfl
  | 7, _ => rfl
  | 8, _ => rfl
  | 9, _ => rfl
  | 10, _ => rfl
  | 11, _ => rfl
  | 12, _ => rfl
  | 13, _ => rfl
  | 14, _ => rfl
  | 15, _ => rfl
  | k + 16, h => omega
theorem chunk_u {b : Nat} (h : b < 32) (n10 : b ≠ 10) (n13 : b ≠ 13) (n9 : b ≠ 9) : chunkA b = [92, 117, 48, 48, nib (b / 16), nib (b % 16)] := by
  unfold chunkA
  rw [if_neg (by simp [okB]; omega), if_neg (by omega), if_neg n10, if_neg n13, if_neg n9]

/-- the state ahead of what the round writes: 'if start < i { str(s[start:i]) }' is behind us -/
structure At (s : ByteArray) (w : World) (S I : Nat) (l l1 : List UInt8) (wr : World) : Prop where
  lt : I < s.size
  mid : Mid s.data.toList S I l
  hl1 : l1 = l ++ (s.data.toList.drop S).take (I - S)
  buf : Buf w.heap.size w l1 wr
theorem At.small {s : ByteArray} {w wr : World} {S I : Nat} {l l1 : List UInt8} (h : At s w S I l l1 wr) (hs : s.size ≤ 1099511627776) : l1.length ≤ 6 * 1099511627776 := by
  have := h.mid.small; have := h.mid.le; have := h.lt; have := h.mid.len
  rw [h.hl1, List.length_append, List.length_take, List.length_drop]
  omega

set_option maxRecDepth 100000 in
set_option maxHeartbeats 8000000 in
theorem append_any (s : ByteArray) (w : World) (hs : s.size ≤ 1099511627776) (hg : Glob w) :
    Calls Tryd.prog 29 #[.slice none 0 0, .string s] w fun e w' => ∃ v, e = .returned v ∧ w'.ownsRow w.heap.size 5 1 v (esc s.data.toList).length (byteV (esc s.data.toList)) ∧ Below w.heap.size w w' := by
  have hB0 : Buf w.heap.size w [] (w.alloc (.cells #[.slice none 0 0] 36)) :=
    ⟨_, heap_alloc_new _ _, World.ownsRow_nil _ _ _ _, (Below.refl _ _).alloc (Nat.le_refl _) _⟩
  have hL := Lib.size_list s
  have HL := Lib.hid hL
  clear hL
  have hBlt := hg.lt
  go_enter Tryd.func29, Tryd.ntmps29
  go_wp2
  go_loopw [7, 8] (fun st i wr => ∃ S I : Nat, S ≤ I ∧ I ≤ s.size ∧ st = .int .i64 S ∧ i = .int .i64 I ∧ ∃ l, Mid s.data.toList S I l ∧ Buf w.heap.size w l wr) (fun _ i _ => s.size - (RowKit.intOf i).toNat)
  case atStart => exact ⟨0, 0, Nat.le_refl _, Nat.zero_le _, rfl, rfl, [], Mid.start _, hB0⟩
  case round =>
    obtain ⟨S, I, hSI, hI, rfl, rfl, l, hm, hb⟩ := hrel
    have hsm := hm.small
    have HM := Lib.hid hm
    clear hm
    by_cases hlt : I < s.size
    · obtain ⟨x0, hx0⟩ : ∃ x0, s[I]'hlt = x0 := ⟨_, rfl⟩
      have hat : at' (s.data.toList.drop I) 0 = x0.toNat := by rw [at_drop, ← hx0]; exact (getElem_at s I hlt).symm
      have HAT := Lib.hid hat
      clear hat
      have hxlt := x0.toNat_lt
      have hgr : Glob wr := by obtain ⟨_, _, _, hbel⟩ := hb; exact hg.next hbel
      have hne : s.data.toList.drop I ≠ [] := by intro e; have := congrArg List.length e; rw [List.length_drop, ← HL.out] at this; simp at this; omega
      have HNE := Lib.hid hne
      clear hne
      by_cases ha : x0.toNat < 128
      · have haz : (x0.toNat : Int) < 128 := by omega
        by_cases hok : okB x0.toNat = true
        · have cS : wr.cell? ⟨0, x0.toNat, none⟩ = some (.bool true) := by rw [hgr.safe _ ha, hok]
          have hck := ck_ok HNE.out HAT.out ha hok
          have HCK := Lib.hid hck
          clear hck hok
          go_wp2
          go_roundw
          case rel => exact ⟨S, I + 1, by omega, by omega, rfl, by go_num, l, keep_of HM.out HL.out hlt HCK.out, hb⟩
          case measure => simp [RowKit.intOf]; omega
        · have cS : wr.cell? ⟨0, x0.toNat, none⟩ = some (.bool false) := by rw [hgr.safe _ ha]; simpa using hok
          have hlow : x0.toNat < 32 ∨ x0.toNat = 34 ∨ x0.toNat = 92 := by simp only [okB, Bool.and_eq_true, decide_eq_true_eq] at hok; omega
          clear hok
          by_cases h92 : x0 = 92
          · subst h92
            have hck := ck_low (c := [92, 92]) HAT.out ha (by decide)
            have HCK := Lib.hid hck
            have cS92 : wr.cell? ⟨0, 92, none⟩ = some (.bool false) := cS
            clear hck cS
            by_cases hS : S < I
            · go_wp2_with fail
              refine (str_any w.heap.size w l (s.extract S I) _ hb (by simp; omega)).mono ?_
              rintro e w1 ⟨rfl, hb1⟩
              rw [extract_list] at hb1
              obtain ⟨l1, hl1⟩ : ∃ l1, l1 = l ++ (s.data.toList.drop S).take (I - S) := ⟨_, rfl⟩
              rw [← hl1] at hb1
              have HA := Lib.hid (At.mk hlt HM.out hl1 hb1)
              have hsm1 := HA.out.small hs
              clear hl1
              go_wp2_with fail
              refine (char_lit w.heap.size w (l1) 92 _ _ rfl hb1 (by first | omega | (simp; omega))).mono ?_
              rintro e w2 ⟨rfl, hb2⟩
              go_wp2_with fail
              refine (char_lit w.heap.size w (l1 ++ [92]) 92 _ _ rfl hb2 (by first | omega | (simp; omega))).mono ?_
              rintro e w3 ⟨rfl, hb3⟩
              go_wp2
              go_roundw
              case rel => exact ⟨I + 1, I + 1, Nat.le_refl _, by omega, by go_num, by go_num, _, put_of HA.out.mid HL.out hlt HA.out.hl1 HCK.out (by simp), hb3⟩
              case measure => simp [RowKit.intOf]; omega
            · have hl1 : l = l ++ (s.data.toList.drop S).take (I - S) := by rw [show I - S = 0 from by omega]; simp
              have HA := Lib.hid (At.mk hlt HM.out hl1 hb)
              have hsm1 := HA.out.small hs
              have hb1 := hb
              clear hl1
              go_wp2_with fail
              refine (char_lit w.heap.size w (l) 92 _ _ rfl hb1 (by first | omega | (simp; omega))).mono ?_
              rintro e w2 ⟨rfl, hb2⟩
              go_wp2_with fail
              refine (char_lit w.heap.size w (l ++ [92]) 92 _ _ rfl hb2 (by first | omega | (simp; omega))).mono ?_
              rintro e w3 ⟨rfl, hb3⟩
              go_wp2
              go_roundw
              case rel => exact ⟨I + 1, I + 1, Nat.le_refl _, by omega, by go_num, by go_num, _, put_of HA.out.mid HL.out hlt HA.out.hl1 HCK.out (by simp), hb3⟩
              case measure => simp [RowKit.intOf]; omega
          by_cases h34 : x0 = 34
          · subst h34
            have hck := ck_low (c := [92, 34]) HAT.out ha (by decide)
            have HCK := Lib.hid hck
            have cS34 : wr.cell? ⟨0, 34, none⟩ = some (.bool false) := cS
            clear hck cS
            by_cases hS : S < I
            · go_wp2_with fail
              refine (str_any w.heap.size w l (s.extract S I) _ hb (by simp; omega)).mono ?_
              rintro e w1 ⟨rfl, hb1⟩
              rw [extract_list] at hb1
              obtain ⟨l1, hl1⟩ : ∃ l1, l1 = l ++ (s.data.toList.drop S).take (I - S) := ⟨_, rfl⟩
              rw [← hl1] at hb1
              have HA := Lib.hid (At.mk hlt HM.out hl1 hb1)
              have hsm1 := HA.out.small hs
              clear hl1
              go_wp2_with fail
              refine (char_lit w.heap.size w (l1) 92 _ _ rfl hb1 (by first | omega | (simp; omega))).mono ?_
              rintro e w2 ⟨rfl, hb2⟩
              go_wp2_with fail
              refine (char_lit w.heap.size w (l1 ++ [92]) 34 _ _ rfl hb2 (by first | omega | (simp; omega))).mono ?_
              rintro e w3 ⟨rfl, hb3⟩
              go_wp2
              go_roundw
              case rel => exact ⟨I + 1, I + 1, Nat.le_refl _, by omega, by go_num, by go_num, _, put_of HA.out.mid HL.out hlt HA.out.hl1 HCK.out (by simp), hb3⟩
              case measure => simp [RowKit.intOf]; omega
            · have hl1 : l = l ++ (s.data.toList.drop S).take (I - S) := by rw [show I - S = 0 from by omega]; simp
              have HA := Lib.hid (At.mk hlt HM.out hl1 hb)
              have hsm1 := HA.out.small hs
              have hb1 := hb
              clear hl1
              go_wp2_with fail
              refine (char_lit w.heap.size w (l) 92 _ _ rfl hb1 (by first | omega | (simp; omega))).mono ?_
              rintro e w2 ⟨rfl, hb2⟩
              go_wp2_with fail
              refine (char_lit w.heap.size w (l ++ [92]) 34 _ _ rfl hb2 (by first | omega | (simp; omega))).mono ?_
              rintro e w3 ⟨rfl, hb3⟩
              go_wp2
              go_roundw
              case rel => exact ⟨I + 1, I + 1, Nat.le_refl _, by omega, by go_num, by go_num, _, put_of HA.out.mid HL.out hlt HA.out.hl1 HCK.out (by simp), hb3⟩
              case measure => simp [RowKit.intOf]; omega
          by_cases h10 : x0 = 10
          · subst h10
            have hck := ck_low (c := [92, 110]) HAT.out ha (by decide)
            have HCK := Lib.hid hck
            have cS10 : wr.cell? ⟨0, 10, none⟩ = some (.bool false) := cS
            clear hck cS
            by_cases hS : S < I
            · go_wp2_with fail
              refine (str_any w.heap.size w l (s.extract S I) _ hb (by simp; omega)).mono ?_
              rintro e w1 ⟨rfl, hb1⟩
              rw [extract_list] at hb1
              obtain ⟨l1, hl1⟩ : ∃ l1, l1 = l ++ (s.data.toList.drop S).take (I - S) := ⟨_, rfl⟩
              rw [← hl1] at hb1
              have HA := Lib.hid (At.mk hlt HM.out hl1 hb1)
              have hsm1 := HA.out.small hs
              clear hl1
              go_wp2_with fail
              refine (char_lit w.heap.size w (l1) 92 _ _ rfl hb1 (by first | omega | (simp; omega))).mono ?_
              rintro e w2 ⟨rfl, hb2⟩
              go_wp2_with fail
              refine (char_lit w.heap.size w (l1 ++ [92]) 110 _ _ rfl hb2 (by first | omega | (simp; omega))).mono ?_
              rintro e w3 ⟨rfl, hb3⟩
              go_wp2
              go_roundw
              case rel => exact ⟨I + 1, I + 1, Nat.le_refl _, by omega, by go_num, by go_num, _, put_of HA.out.mid HL.out hlt HA.out.hl1 HCK.out (by simp), hb3⟩
              case measure => simp [RowKit.intOf]; omega
            · have hl1 : l = l ++ (s.data.toList.drop S).take (I - S) := by rw [show I - S = 0 from by omega]; simp
              have HA := Lib.hid (At.mk hlt HM.out hl1 hb)
              have hsm1 := HA.out.small hs
              have hb1 := hb
              clear hl1
              go_wp2_with fail
              refine (char_lit w.heap.size w (l) 92 _ _ rfl hb1 (by first | omega | (simp; omega))).mono ?_
              rintro e w2 ⟨rfl, hb2⟩
              go_wp2_with fail
              refine (char_lit w.heap.size w (l ++ [92]) 110 _ _ rfl hb2 (by first | omega | (simp; omega))).mono ?_
              rintro e w3 ⟨rfl, hb3⟩
              go_wp2
              go_roundw
              case rel => exact ⟨I + 1, I + 1, Nat.le_refl _, by omega, by go_num, by go_num, _, put_of HA.out.mid HL.out hlt HA.out.hl1 HCK.out (by simp), hb3⟩
              case measure => simp [RowKit.intOf]; omega
          by_cases h13 : x0 = 13
          · subst h13
            have hck := ck_low (c := [92, 114]) HAT.out ha (by decide)
            have HCK := Lib.hid hck
            have cS13 : wr.cell? ⟨0, 13, none⟩ = some (.bool false) := cS
            clear hck cS
            by_cases hS : S < I
            · go_wp2_with fail
              refine (str_any w.heap.size w l (s.extract S I) _ hb (by simp; omega)).mono ?_
              rintro e w1 ⟨rfl, hb1⟩
              rw [extract_list] at hb1
              obtain ⟨l1, hl1⟩ : ∃ l1, l1 = l ++ (s.data.toList.drop S).take (I - S) := ⟨_, rfl⟩
              rw [← hl1] at hb1
              have HA := Lib.hid (At.mk hlt HM.out hl1 hb1)
              have hsm1 := HA.out.small hs
              clear hl1
              go_wp2_with fail
              refine (char_lit w.heap.size w (l1) 92 _ _ rfl hb1 (by first | omega | (simp; omega))).mono ?_
              rintro e w2 ⟨rfl, hb2⟩
              go_wp2_with fail
              refine (char_lit w.heap.size w (l1 ++ [92]) 114 _ _ rfl hb2 (by first | omega | (simp; omega))).mono ?_
              rintro e w3 ⟨rfl, hb3⟩
              go_wp2
              go_roundw
              case rel => exact ⟨I + 1, I + 1, Nat.le_refl _, by omega, by go_num, by go_num, _, put_of HA.out.mid HL.out hlt HA.out.hl1 HCK.out (by simp), hb3⟩
              case measure => simp [RowKit.intOf]; omega
            · have hl1 : l = l ++ (s.data.toList.drop S).take (I - S) := by rw [show I - S = 0 from by omega]; simp
              have HA := Lib.hid (At.mk hlt HM.out hl1 hb)
              have hsm1 := HA.out.small hs
              have hb1 := hb
              clear hl1
              go_wp2_with fail
              refine (char_lit w.heap.size w (l) 92 _ _ rfl hb1 (by first | omega | (simp; omega))).mono ?_
              rintro e w2 ⟨rfl, hb2⟩
              go_wp2_with fail
              refine (char_lit w.heap.size w (l ++ [92]) 114 _ _ rfl hb2 (by first | omega | (simp; omega))).mono ?_
              rintro e w3 ⟨rfl, hb3⟩
              go_wp2
              go_roundw
              case rel => exact ⟨I + 1, I + 1, Nat.le_refl _, by omega, by go_num, by go_num, _, put_of HA.out.mid HL.out hlt HA.out.hl1 HCK.out (by simp), hb3⟩
              case measure => simp [RowKit.intOf]; omega
          by_cases h9 : x0 = 9
          · subst h9
            have hck := ck_low (c := [92, 116]) HAT.out ha (by decide)
            have HCK := Lib.hid hck
            have cS9 : wr.cell? ⟨0, 9, none⟩ = some (.bool false) := cS
            clear hck cS
            by_cases hS : S < I
            · go_wp2_with fail
              refine (str_any w.heap.size w l (s.extract S I) _ hb (by simp; omega)).mono ?_
              rintro e w1 ⟨rfl, hb1⟩
              rw [extract_list] at hb1
              obtain ⟨l1, hl1⟩ : ∃ l1, l1 = l ++ (s.data.toList.drop S).take (I - S) := ⟨_, rfl⟩
              rw [← hl1] at hb1
              have HA := Lib.hid (At.mk hlt HM.out hl1 hb1)
              have hsm1 := HA.out.small hs
              clear hl1
              go_wp2_with fail
              refine (char_lit w.heap.size w (l1) 92 _ _ rfl hb1 (by first | omega | (simp; omega))).mono ?_
              rintro e w2 ⟨rfl, hb2⟩
              go_wp2_with fail
              refine (char_lit w.heap.size w (l1 ++ [92]) 116 _ _ rfl hb2 (by first | omega | (simp; omega))).mono ?_
              rintro e w3 ⟨rfl, hb3⟩
              go_wp2
              go_roundw
              case rel => exact ⟨I + 1, I + 1, Nat.le_refl _, by omega, by go_num, by go_num, _, put_of HA.out.mid HL.out hlt HA.out.hl1 HCK.out (by simp), hb3⟩
              case measure => simp [RowKit.intOf]; omega
            · have hl1 : l = l ++ (s.data.toList.drop S).take (I - S) := by rw [show I - S = 0 from by omega]; simp
              have HA := Lib.hid (At.mk hlt HM.out hl1 hb)
              have hsm1 := HA.out.small hs
              have hb1 := hb
              clear hl1
              go_wp2_with fail
              refine (char_lit w.heap.size w (l) 92 _ _ rfl hb1 (by first | omega | (simp; omega))).mono ?_
              rintro e w2 ⟨rfl, hb2⟩
              go_wp2_with fail
              refine (char_lit w.heap.size w (l ++ [92]) 116 _ _ rfl hb2 (by first | omega | (simp; omega))).mono ?_
              rintro e w3 ⟨rfl, hb3⟩
              go_wp2
              go_roundw
              case rel => exact ⟨I + 1, I + 1, Nat.le_refl _, by omega, by go_num, by go_num, _, put_of HA.out.mid HL.out hlt HA.out.hl1 HCK.out (by simp), hb3⟩
              case measure => simp [RowKit.intOf]; omega
          have n92 : x0.toNat ≠ 92 := fun e => h92 (UInt8.toNat_inj.1 e)
          have n34 : x0.toNat ≠ 34 := fun e => h34 (UInt8.toNat_inj.1 e)
          have n10 : x0.toNat ≠ 10 := fun e => h10 (UInt8.toNat_inj.1 e)
          have n13 : x0.toNat ≠ 13 := fun e => h13 (UInt8.toNat_inj.1 e)
          have n9 : x0.toNat ≠ 9 := fun e => h9 (UInt8.toNat_inj.1 e)
          have hlo : x0.toNat < 32 := by omega
          have hck := ck_low HAT.out ha (chunk_u hlo n10 n13 n9)
          have HCK := Lib.hid hck
          clear hck h92 h34 h10 h13 h9 hlow
          by_cases hS : S < I
          · go_wp2_with fail
            refine (str_any w.heap.size w l (s.extract S I) _ hb (by simp; omega)).mono ?_
            rintro e w1 ⟨rfl, hb1⟩
            rw [extract_list] at hb1
            obtain ⟨l1, hl1⟩ : ∃ l1, l1 = l ++ (s.data.toList.drop S).take (I - S) := ⟨_, rfl⟩
            rw [← hl1] at hb1
            have HA := Lib.hid (At.mk hlt HM.out hl1 hb1)
            have hsm1 := HA.out.small hs
            clear hl1
            go_wp2_with fail
            refine (char_lit w.heap.size w (l1) 92 _ _ rfl hb1 (by first | omega | (simp; omega))).mono ?_
            rintro e w2 ⟨rfl, hb2⟩
            go_wp2_with fail
            refine (str_lit w.heap.size w (l1 ++ [92]) [117, 48, 48] _ hb2 (by first | omega | (simp; omega))).mono ?_
            rintro e w3 ⟨rfl, hb3⟩
            go_wp2_with fail
            refine (char_lit w.heap.size w (l1 ++ [92] ++ [117, 48, 48]) (nib (x0.toNat / 16)) _ _ (nib_hex (by omega) _) hb3 (by first | omega | (simp; omega))).mono ?_
            rintro e w4 ⟨rfl, hb4⟩
            go_wp2_with fail
            refine (char_lit w.heap.size w (l1 ++ [92] ++ [117, 48, 48] ++ [nib (x0.toNat / 16)]) (nib (x0.toNat % 16)) _ _ (nib_hex (by omega) _) hb4 (by first | omega | (simp; omega))).mono ?_
            rintro e w5 ⟨rfl, hb5⟩
            go_wp2
            go_roundw
            case rel => exact ⟨I + 1, I + 1, Nat.le_refl _, by omega, by go_num, by go_num, _, put_of HA.out.mid HL.out hlt HA.out.hl1 HCK.out (by simp), hb5⟩
            case measure => simp [RowKit.intOf]; omega
          · have hl1 : l = l ++ (s.data.toList.drop S).take (I - S) := by rw [show I - S = 0 from by omega]; simp
            have HA := Lib.hid (At.mk hlt HM.out hl1 hb)
            have hsm1 := HA.out.small hs
            have hb1 := hb
            clear hl1
            go_wp2_with fail
            refine (char_lit w.heap.size w (l) 92 _ _ rfl hb1 (by first | omega | (simp; omega))).mono ?_
            rintro e w2 ⟨rfl, hb2⟩
            go_wp2_with fail
            refine (str_lit w.heap.size w (l ++ [92]) [117, 48, 48] _ hb2 (by first | omega | (simp; omega))).mono ?_
            rintro e w3 ⟨rfl, hb3⟩
            go_wp2_with fail
            refine (char_lit w.heap.size w (l ++ [92] ++ [117, 48, 48]) (nib (x0.toNat / 16)) _ _ (nib_hex (by omega) _) hb3 (by first | omega | (simp; omega))).mono ?_
            rintro e w4 ⟨rfl, hb4⟩
            go_wp2_with fail
            refine (char_lit w.heap.size w (l ++ [92] ++ [117, 48, 48] ++ [nib (x0.toNat / 16)]) (nib (x0.toNat % 16)) _ _ (nib_hex (by omega) _) hb4 (by first | omega | (simp; omega))).mono ?_
            rintro e w5 ⟨rfl, hb5⟩
            go_wp2
            go_roundw
            case rel => exact ⟨I + 1, I + 1, Nat.le_refl _, by omega, by go_num, by go_num, _, put_of HA.out.mid HL.out hlt HA.out.hl1 HCK.out (by simp), hb5⟩
            case measure => simp [RowKit.intOf]; omega
      · have haz : ¬ (x0.toNat : Int) < 128 := by omega
        have ha' : 128 ≤ x0.toNat := by omega
        have cD := Tryd.utf8_DecodeRuneInString (s.extract I s.size) wr hgr.u8
        rw [decode_dec _ (by simp; omega), extract_end] at cD
        by_cases hz : size (s.data.toList.drop I) = 0
        · rw [dec_zero (by rw [HAT.out]; exact ha') hz] at cD
          have hck := ck_bad HAT.out ha' hz
          have HCK := Lib.hid hck
          clear hck hz
          have CD := Lib.hid cD
          clear cD
          go_wp2_with fail
          refine CD.out.mono ?_
          rintro e wd ⟨rfl, hbd⟩
          have hbn := hb.next hbd
          by_cases hS : S < I
          · go_wp2_with fail
            refine (str_any w.heap.size w l (s.extract S I) _ hbn (by simp; omega)).mono ?_
            rintro e w1 ⟨rfl, hb1⟩
            rw [extract_list] at hb1
            obtain ⟨l1, hl1⟩ : ∃ l1, l1 = l ++ (s.data.toList.drop S).take (I - S) := ⟨_, rfl⟩
            rw [← hl1] at hb1
            have HA := Lib.hid (At.mk hlt HM.out hl1 hb1)
            have hsm1 := HA.out.small hs
            clear hl1
            go_wp2_with fail
            refine (str_lit w.heap.size w (l1) [239, 191, 189] _ hb1 (by first | omega | (simp; omega))).mono ?_
            rintro e w2 ⟨rfl, hb2⟩
            go_wp2
            go_roundw
            case rel => exact ⟨I + 1, I + 1, Nat.le_refl _, by omega, by go_num, by go_num, _, put_of HA.out.mid HL.out hlt HA.out.hl1 HCK.out (by simp), hb2⟩
            case measure => simp [RowKit.intOf]; omega
          · have hl1 : l = l ++ (s.data.toList.drop S).take (I - S) := by rw [show I - S = 0 from by omega]; simp
            have HA := Lib.hid (At.mk hlt HM.out hl1 hbn)
            have hsm1 := HA.out.small hs
            have hb1 := hbn
            clear hl1
            go_wp2_with fail
            refine (str_lit w.heap.size w (l) [239, 191, 189] _ hb1 (by first | omega | (simp; omega))).mono ?_
            rintro e w2 ⟨rfl, hb2⟩
            go_wp2
            go_roundw
            case rel => exact ⟨I + 1, I + 1, Nat.le_refl _, by omega, by go_num, by go_num, _, put_of HA.out.mid HL.out hlt HA.out.hl1 HCK.out (by simp), hb2⟩
            case measure => simp [RowKit.intOf]; omega
        · by_cases h8 : (dec (s.data.toList.drop I)).1 = 8232
          · obtain ⟨hck, hd, h3⟩ := ck_8 HAT.out ha' hz h8
            rw [List.length_drop, ← HL.out] at h3
            have b8 : bits .and .i32 8232 15 = 8 := by decide
            rw [hd] at cD
            have HCK := Lib.hid hck
            have CD := Lib.hid cD
            clear hck hz h8 hd cD
            go_wp2_with fail
            refine CD.out.mono ?_
            rintro e wd ⟨rfl, hbd⟩
            have hbn := hb.next hbd
            by_cases hS : S < I
            · go_wp2_with fail
              refine (str_any w.heap.size w l (s.extract S I) _ hbn (by simp; omega)).mono ?_
              rintro e w1 ⟨rfl, hb1⟩
              rw [extract_list] at hb1
              obtain ⟨l1, hl1⟩ : ∃ l1, l1 = l ++ (s.data.toList.drop S).take (I - S) := ⟨_, rfl⟩
              rw [← hl1] at hb1
              have HA := Lib.hid (At.mk hlt HM.out hl1 hb1)
              have hsm1 := HA.out.small hs
              clear hl1
              go_wp2_with fail
              refine (str_lit w.heap.size w (l1) [92, 117, 50, 48, 50] _ hb1 (by first | omega | (simp; omega))).mono ?_
              rintro e w2 ⟨rfl, hb2⟩
              go_wp2_with fail
              refine (char_lit w.heap.size w (l1 ++ [92, 117, 50, 48, 50]) 56 _ _ rfl hb2 (by first | omega | (simp; omega))).mono ?_
              rintro e w3 ⟨rfl, hb3⟩
              go_wp2
              go_roundw
              case rel => exact ⟨I + 3, I + 3, Nat.le_refl _, by omega, by go_num, by go_num, _, put_of HA.out.mid HL.out hlt HA.out.hl1 HCK.out (by simp), hb3⟩
              case measure => simp [RowKit.intOf]; omega
            · have hl1 : l = l ++ (s.data.toList.drop S).take (I - S) := by rw [show I - S = 0 from by omega]; simp
              have HA := Lib.hid (At.mk hlt HM.out hl1 hbn)
              have hsm1 := HA.out.small hs
              have hb1 := hbn
              clear hl1
              go_wp2_with fail
              refine (str_lit w.heap.size w (l) [92, 117, 50, 48, 50] _ hb1 (by first | omega | (simp; omega))).mono ?_
              rintro e w2 ⟨rfl, hb2⟩
              go_wp2_with fail
              refine (char_lit w.heap.size w (l ++ [92, 117, 50, 48, 50]) 56 _ _ rfl hb2 (by first | omega | (simp; omega))).mono ?_
              rintro e w3 ⟨rfl, hb3⟩
              go_wp2
              go_roundw
              case rel => exact ⟨I + 3, I + 3, Nat.le_refl _, by omega, by go_num, by go_num, _, put_of HA.out.mid HL.out hlt HA.out.hl1 HCK.out (by simp), hb3⟩
              case measure => simp [RowKit.intOf]; omega
          · by_cases h9 : (dec (s.data.toList.drop I)).1 = 8233
            · obtain ⟨hck, hd, h3⟩ := ck_9 HAT.out ha' hz h9
              rw [List.length_drop, ← HL.out] at h3
              have b9 : bits .and .i32 8233 15 = 9 := by decide
              rw [hd] at cD
              have HCK := Lib.hid hck
              have CD := Lib.hid cD
              clear hck hz h8 h9 hd cD
              go_wp2_with fail
              refine CD.out.mono ?_
              rintro e wd ⟨rfl, hbd⟩
              have hbn := hb.next hbd
              by_cases hS : S < I
              · go_wp2_with fail
                refine (str_any w.heap.size w l (s.extract S I) _ hbn (by simp; omega)).mono ?_
                rintro e w1 ⟨rfl, hb1⟩
                rw [extract_list] at hb1
                obtain ⟨l1, hl1⟩ : ∃ l1, l1 = l ++ (s.data.toList.drop S).take (I - S) := ⟨_, rfl⟩
                rw [← hl1] at hb1
                have HA := Lib.hid (At.mk hlt HM.out hl1 hb1)
                have hsm1 := HA.out.small hs
                clear hl1
                go_wp2_with fail
                refine (str_lit w.heap.size w (l1) [92, 117, 50, 48, 50] _ hb1 (by first | omega | (simp; omega))).mono ?_
                rintro e w2 ⟨rfl, hb2⟩
                go_wp2_with fail
                refine (char_lit w.heap.size w (l1 ++ [92, 117, 50, 48, 50]) 57 _ _ rfl hb2 (by first | omega | (simp; omega))).mono ?_
                rintro e w3 ⟨rfl, hb3⟩
                go_wp2
                go_roundw
                case rel => exact ⟨I + 3, I + 3, Nat.le_refl _, by omega, by go_num, by go_num, _, put_of HA.out.mid HL.out hlt HA.out.hl1 HCK.out (by simp), hb3⟩
                case measure => simp [RowKit.intOf]; omega
              · have hl1 : l = l ++ (s.data.toList.drop S).take (I - S) := by rw [show I - S = 0 from by omega]; simp
                have HA := Lib.hid (At.mk hlt HM.out hl1 hbn)
                have hsm1 := HA.out.small hs
                have hb1 := hbn
                clear hl1
                go_wp2_with fail
                refine (str_lit w.heap.size w (l) [92, 117, 50, 48, 50] _ hb1 (by first | omega | (simp; omega))).mono ?_
                rintro e w2 ⟨rfl, hb2⟩
                go_wp2_with fail
                refine (char_lit w.heap.size w (l ++ [92, 117, 50, 48, 50]) 57 _ _ rfl hb2 (by first | omega | (simp; omega))).mono ?_
                rintro e w3 ⟨rfl, hb3⟩
                go_wp2
                go_roundw
                case rel => exact ⟨I + 3, I + 3, Nat.le_refl _, by omega, by go_num, by go_num, _, put_of HA.out.mid HL.out hlt HA.out.hl1 HCK.out (by simp), hb3⟩
                case measure => simp [RowKit.intOf]; omega
            · have hck := ck_raw HAT.out ha' hz h8 h9
              obtain ⟨d2, s2, s4, sl, _, _, _, r10, _⟩ := dec_some (l := s.data.toList.drop I) (by rw [HAT.out]; exact ha') hz
              rw [List.length_drop, ← HL.out] at sl
              generalize (dec (s.data.toList.drop I)).1 = R at *
              generalize (dec (s.data.toList.drop I)).2 = K at *
              have k2 : 2 ≤ K := by omega
              have k4 : I + K ≤ s.size := by omega
              have k1 : ((K : Int) == 1) = false := by rw [beq_eq_false_iff_ne]; omega
              have e8 : ((R : Int) == 8232) = false := by rw [beq_eq_false_iff_ne]; omega
              have e9 : ((R : Int) == 8233) = false := by rw [beq_eq_false_iff_ne]; omega
              have HCK := Lib.hid hck
              have CD := Lib.hid cD
              clear hck hz h8 h9 cD d2 s2 s4 sl
              by_cases hR : ((R : Int) == 65533) = true
              all_goals
                go_wp2_with fail
                refine CD.out.mono ?_
                rintro e wd ⟨rfl, hbd⟩
                go_wp2
                go_roundw
                case rel => exact ⟨S, I + K, by omega, by omega, rfl, by go_num, l, keep_of HM.out HL.out hlt HCK.out, hb.next hbd⟩
                case measure => simp [RowKit.intOf]; omega
    · have hIe : I = s.size := by omega
      subst hIe
      by_cases hS : S < s.size
      · go_wp2_with fail
        refine (str_any w.heap.size w l (s.extract S s.size) _ hb (by simp; omega)).mono ?_
        rintro e w1 ⟨rfl, v, hv, hown, hbel⟩
        have cW := cell_of_one hv
        go_wp2
        go_ret
        have := HM.out
        rw [HL.out] at this
        rw [mid_end this]
        rw [extract_end] at hown
        exact ⟨v, rfl, hown, hbel⟩
      · obtain ⟨v, hv, hown, hbel⟩ := hb
        have cW := cell_of_one hv
        go_wp2
        go_ret
        have hSe : S = s.size := by omega
        have := HM.out
        rw [hSe, HL.out] at this
        rw [mid_end this, List.drop_length, List.append_nil]
        exact ⟨v, rfl, hown, hbel⟩
end Go.Proofs.YthiahhieiojgdaaDoor
