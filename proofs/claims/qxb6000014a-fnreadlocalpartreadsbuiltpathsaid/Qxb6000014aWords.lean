/-
  unquoteWords (20), ZZunquoteWords (10).
-/
import Derived.Test.Qxb6000014aUnquote
import Derived.Lib.Strings
namespace Go.Proofs.Qxb6000014a
open Go.RowKit

theorem owns_below {w w' : World} {base e size n : Nat} {v : Value} {xs : List Value} (ho : w.ownsRow base e size v n xs) (hb : Below w.heap.size w w') : w'.ownsRow base e size v n xs := by
  refine ⟨ho.1, ?_⟩
  rcases ho.2 with h | ⟨g, cap, cur, h1, h2, h3, h4⟩
  · exact .inl h
  · have hlt : g < w.heap.size := by
      rcases Nat.lt_or_ge g w.heap.size with h' | h'
      · exact h'
      · simp [Array.getElem?_eq_none h'] at h3
    exact .inr ⟨g, cap, cur, h1, h2, by rw [hb.block g hlt]; exact h3, h4⟩
theorem builder_below {B b : Nat} {p : Value} {bs : List Value} {w w' : World} (h : Lib.BuilderAt 45 5 B b p bs w) (hb : Below w.heap.size w w') : Lib.BuilderAt 45 5 B b p bs w' := by
  have hlt := h.lt
  obtain ⟨h1, v, h2, h3, h4⟩ := h
  exact ⟨h1, v, by rw [hb.block b hlt]; exact h2, owns_below h3 hb, h4⟩

theorem extract_list (s : ByteArray) (a b : Nat) : (s.extract a b).data.toList = (s.data.toList.drop a).take (b - a) := Lib.extract_data s a b

/-- One quoted string, and nothing else. -/
theorem words_one {s : ByteArray} (hp : 0 < s.size) (h0 : s[0] = 34) (hc : (scan 0 s.data.toList).2 = 0) (hcl : closeI s.data.toList 1 = (s.size : Int) - 1) :
    2 ≤ s.size ∧ okq (s.extract 1 (s.size - 1)).data.toList = true ∧ unq (s.extract 1 (s.size - 1)).data.toList = (scan 0 s.data.toList).1 := by
  have hl : s.data.toList.length = s.size := by simp
  have hd := drop_at s 0 hp
  rw [List.drop_zero, h0] at hd
  have es : scan 0 s.data.toList = scan 1 (s.data.toList.drop 1) := by
    conv => lhs; rw [hd]
    rw [scan, if_pos rfl]
  rw [es] at hc ⊢
  obtain ⟨k, h1, h2, h3, h4, h5⟩ := closed_at hc
  unfold closeI at hcl
  rw [h1] at hcl
  simp only at hcl
  have hk : k + 2 = s.size := by omega
  rw [extract_list, show s.size - 1 - 1 = k by omega]
  refine ⟨by omega, h3, ?_⟩
  have e5 : (s.data.toList.drop 1).drop (k + 1) = [] := List.drop_of_length_le (by rw [List.length_drop]; omega)
  rw [h4, e5, show scan 0 [] = ([], 0) from rfl, List.append_nil]

/-- The loop's relation: what has been written, and what is left. -/
def WRel (l : List UInt8) (i : Nat) (out : List UInt8) : Prop := out ++ (scan 0 (l.drop i)).1 = (scan 0 l).1 ∧ (scan 0 (l.drop i)).2 = 0 ∧ out.length ≤ i
theorem WRel.byte {s : ByteArray} {i : Nat} {out : List UInt8} (h : WRel s.data.toList i out) (hi : i < s.size) (hc : s[i] ≠ 34) : WRel s.data.toList (i + 1) (out ++ [s[i]]) := by
  obtain ⟨h1, h2, h3⟩ := h
  rw [drop_at s i hi, scan, if_neg hc] at h1 h2
  exact ⟨by rw [← h1]; simp, h2, by simp; omega⟩
theorem WRel.quoted {s : ByteArray} {i : Nat} {out : List UInt8} (h : WRel s.data.toList i out) (hi : i < s.size) (hc : s[i] = 34) :
    ∃ k, closeI s.data.toList (i + 1) = ((i + 1 + k : Nat) : Int) ∧ i + 1 + k < s.size ∧ okq (s.extract (i + 1) (i + 1 + k)).data.toList = true ∧ WRel s.data.toList (i + 1 + k + 1) (out ++ unq (s.extract (i + 1) (i + 1 + k)).data.toList) := by
  obtain ⟨h1, h2, h3⟩ := h
  rw [drop_at s i hi, hc, scan, if_pos rfl] at h1 h2
  obtain ⟨k, k1, k2, k3, k4, k5⟩ := closed_at h2
  have hl : s.data.toList.length = s.size := by simp
  rw [List.length_drop, hl] at k2
  have ee : (s.extract (i + 1) (i + 1 + k)).data.toList = (s.data.toList.drop (i + 1)).take k := by rw [extract_list, show i + 1 + k - (i + 1) = k by omega]
  have ed : s.data.toList.drop (i + 1 + k + 1) = (s.data.toList.drop (i + 1)).drop (k + 1) := by rw [List.drop_drop]; congr 1
  refine ⟨k, by unfold closeI; rw [k1], by omega, by rw [ee]; exact k3, ?_⟩
  rw [ee]
  refine ⟨?_, by rw [ed]; exact k5, ?_⟩
  · rw [ed, List.append_assoc, ← k4]
    exact h1
  · have hu := unq_length ((s.data.toList.drop (i + 1)).take k)
    have ht : ((s.data.toList.drop (i + 1)).take k).length ≤ k := List.length_take_le _ _
    rw [List.length_append]
    omega

set_option maxHeartbeats 1600000 in
theorem words_any (s : ByteArray) (hs : s.size ≤ 1048576) (hc : (scan 0 s.data.toList).2 = 0) (w : World) :
    Calls Try.prog 20 #[.string s] w fun e w' => StrSaid w (scan 0 s.data.toList).1 e w' := by
  have HC : Hid ((scan 0 s.data.toList).2 = 0) := hc
  clear hc
  go_enter Try.func20, Try.ntmps20
  go_wp2_with fail
  refine (Try.strings_IndexByte s 34 _).mono ?_
  rintro e w1 ⟨rfl, hw1⟩
  obtain rfl := hw1.symm
  rw [show (34 : Int).toNat.toUInt8 = 34 from rfl]
  by_cases hneg : Lib.indexByte s.data.toList 34 < 0
  · have HU : Hid ((scan 0 s.data.toList).1 = s.data.toList) := by show _ = _; rw [scan_plain _ (indexByte_neg hneg)]
    go_wp2_with fail
    go_ret
    exact ⟨s, rfl, HU.out.symm, Below.refl _ _⟩
  · clear hw1
    have hp : 0 < s.size := by
      rcases Nat.eq_zero_or_pos s.size with h | h
      · exfalso
        have : s.data.toList = [] := List.length_eq_zero_iff.1 (by simpa using h)
        rw [this] at hneg
        exact hneg (by decide)
      · exact h
    by_cases h0 : (s[0].toNat : Int) = 34
    · have e0 : s[0] = 34 := u8_eq (n := 34) (by omega) h0
      have h0b : ((s[0].toNat : Int) == 34) = true := by rw [beq_iff_eq]; exact h0
      clear h0
      go_wp2_with fail
      refine (closing_any s 0 hs (by omega) _).mono ?_
      rintro e w1 ⟨rfl, hw1⟩
      obtain rfl := hw1.symm
      clear hw1
      by_cases hone : closeI s.data.toList 1 = (s.size : Int) - 1
      · obtain ⟨h2, h3, h4⟩ := words_one hp e0 HC.out hone
        have honeb : (closeI s.data.toList (0 + 1) == (s.size : Int) - 1) = true := by rw [beq_iff_eq]; exact hone
        clear hone
        go_wp2_with fail
        refine (unquote_any (s.extract 1 (s.size - 1)) (by rw [ByteArray.size_extract]; omega) h3 _).mono ?_
        rintro e w3 ⟨t, rfl, HT, hb3⟩
        have HT2 : Hid (t.data.toList = (scan 0 s.data.toList).1) := HT.out.trans h4
        clear HT h3 h4
        go_wp2_with fail
        go_ret
        exact ⟨t, rfl, HT2, hb3⟩
      · have honeb : (closeI s.data.toList (0 + 1) == (s.size : Int) - 1) = false := by rw [beq_eq_false_iff_ne]; exact hone
        clear hone
        obtain ⟨wa, hwa⟩ : ∃ wa, w.alloc (.cells #[.pointer none, .slice none 0 0] 45) = wa := ⟨_, rfl⟩
        have hbk : wa.heap[w.heap.size]? = some (.cells #[.pointer none, .slice none 0 0] 45 (0, 0)) := by rw [← hwa]; exact heap_alloc_new _ _
        have hba : Below w.heap.size w wa := by rw [← hwa]; exact (Below.refl _ _).alloc (Nat.le_refl _) _
        have hza : w.heap.size ≤ wa.heap.size := hba.size
        go_wp2_with fail
        refine (Try.Builder_Grow_fresh w.heap.size w.heap.size s.size wa (Nat.le_refl _) hbk hza (by omega)).mono ?_
        rintro e w2 ⟨rfl, hB2, hb2⟩
        have hbel2 := hba.trans hb2
        clear hwa hbk hba hb2 hza
        go_wp2_with fail
        go_loopw [4] (fun t wr => ∃ (i : Nat) (out : List UInt8), t = .int .i64 (i : Nat) ∧ i ≤ s.size ∧ Lib.BuilderAt 45 5 w.heap.size w.heap.size (.pointer (some ⟨w.heap.size, 0, none⟩)) (Lib.byteCells out) wr ∧ WRel s.data.toList i out ∧ Below w.heap.size w wr) (fun t _ => s.size - (intOf t).toNat)
        case atStart => exact ⟨0, [], rfl, Nat.zero_le _, hB2, ⟨rfl, HC.out, Nat.le_refl _⟩, hbel2⟩
        case round =>
          clear hB2 hbel2
          obtain ⟨i, out, rfl, hi, hB, hrel, hbel⟩ := hrel
          have hol : out.length ≤ i := hrel.2.2
          by_cases hlt : i < s.size
          · by_cases h1 : (s[i].toNat : Int) = 34
            · have e1 : s[i] = 34 := u8_eq (n := 34) (by omega) h1
              have h1b : ((s[i].toNat : Int) != 34) = false := by rw [h1]; rfl
              obtain ⟨k, k1, k2, k3, k4⟩ := hrel.quoted hlt e1
              have hul : ∀ t : ByteArray, t.data.toList = unq (s.extract (i + 1) (i + 1 + k)).data.toList → t.size ≤ 1048576 := by
                intro t ht
                have h2 := unq_length (s.extract (i + 1) (i + 1 + k)).data.toList
                rw [← ht, extract_list] at h2
                have h3 : ((s.data.toList.drop (i + 1)).take (i + 1 + k - (i + 1))).length ≤ i + 1 + k - (i + 1) := List.length_take_le _ _
                have h4 : t.data.toList.length = t.size := by simp
                omega
              have HK : Hid (closeI s.data.toList (i + 1) = ((i + 1 + k : Nat) : Int)) := k1
              clear k1 h1 e1 hrel
              go_wp2_with fail
              refine (closing_any s i hs hi _).mono ?_
              rintro e w1 ⟨rfl, hw1⟩
              obtain rfl := hw1.symm
              clear hw1
              rw [HK.out]
              rw [show ((i + 1 + k : Nat) : Int) = (i : Int) + 1 + (k : Int) from by omega]
              go_wp2_with fail
              refine (unquote_any (s.extract (i + 1) (i + 1 + k)) (by rw [ByteArray.size_extract]; omega) k3 _).mono ?_
              rintro e w3 ⟨t, rfl, HT, hb3⟩
              have hB3 := builder_below hB hb3
              have hts := hul t HT.out
              have hbel3 := hbel.trans (hb3.mono hbel.size)
              clear hB hb3 hbel hul k3
              go_wp2_with fail
              refine (Try.Builder_WriteString w.heap.size w.heap.size (Lib.byteCells out) t _ (.inr hB3) (by rw [Lib.byteCells_length]; omega) hbel3.size).mono ?_
              rintro e w4 ⟨rfl, hB4, hb4⟩
              have hB4' : Lib.BuilderAt 45 5 w.heap.size w.heap.size (.pointer (some ⟨w.heap.size, 0, none⟩)) (Lib.byteCells (out ++ unq (s.extract (i + 1) (i + 1 + k)).data.toList)) w4 := by
                rw [← HT.out]
                simpa [Lib.byteCells, Lib.strCells] using hB4
              have hbel4 := hbel3.trans hb4
              clear hB3 hB4 hb4 hbel3
              go_wp2_with fail
              go_roundw
              case rel => exact ⟨i + 1 + k + 1, _, by go_num, by omega, hB4', k4, hbel4⟩
              case measure => simp [intOf]; omega
            · have e1 : s[i] ≠ 34 := fun e => h1 (by rw [e]; rfl)
              have h1b : ((s[i].toNat : Int) != 34) = true := by rw [bne_iff_ne]; exact h1
              have R := hrel.byte hlt e1
              clear h1 e1 hrel
              go_wp2_with fail
              refine (Try.Builder_WriteByte w.heap.size w.heap.size (Lib.byteCells out) _ _ (.inr hB) (by rw [Lib.byteCells_length]; omega) hbel.size).mono ?_
              rintro e w3 ⟨rfl, hB3, hb3⟩
              have hB3' : Lib.BuilderAt 45 5 w.heap.size w.heap.size (.pointer (some ⟨w.heap.size, 0, none⟩)) (Lib.byteCells (out ++ [s[i]])) w3 := by
                simpa [Lib.byteCells] using hB3
              have hbel3 := hbel.trans hb3
              clear hB hB3 hb3 hbel
              go_wp2_with fail
              go_roundw
              case rel => exact ⟨i + 1, _, by go_num, by omega, hB3', R, hbel3⟩
              case measure => simp [intOf]; omega
          · have HR : Hid (out = (scan 0 s.data.toList).1) := by
              have h3 := hrel.1
              rw [List.drop_of_length_le (by simp; omega), show scan 0 [] = ([], 0) from rfl, List.append_nil] at h3
              exact h3
            clear hrel
            go_wp2_with fail
            refine (Try.Builder_String_any w.heap.size w.heap.size out _ (.inr hB) hbel.size).mono ?_
            rintro e w3 ⟨rfl, hb3⟩
            have hbel3 := hbel.trans hb3
            clear hB hb3 hbel
            go_wp2_with fail
            go_ret
            exact ⟨_, rfl, by show _ = _; rw [← HR.out], hbel3⟩
    · have h0b : ((s[0].toNat : Int) == 34) = false := by rw [beq_eq_false_iff_ne]; exact h0
      clear h0
      obtain ⟨wa, hwa⟩ : ∃ wa, w.alloc (.cells #[.pointer none, .slice none 0 0] 45) = wa := ⟨_, rfl⟩
      have hbk : wa.heap[w.heap.size]? = some (.cells #[.pointer none, .slice none 0 0] 45 (0, 0)) := by rw [← hwa]; exact heap_alloc_new _ _
      have hba : Below w.heap.size w wa := by rw [← hwa]; exact (Below.refl _ _).alloc (Nat.le_refl _) _
      have hza : w.heap.size ≤ wa.heap.size := hba.size
      go_wp2_with fail
      refine (Try.Builder_Grow_fresh w.heap.size w.heap.size s.size wa (Nat.le_refl _) hbk hza (by omega)).mono ?_
      rintro e w2 ⟨rfl, hB2, hb2⟩
      have hbel2 := hba.trans hb2
      clear hwa hbk hba hb2 hza
      go_wp2_with fail
      go_loopw [4] (fun t wr => ∃ (i : Nat) (out : List UInt8), t = .int .i64 (i : Nat) ∧ i ≤ s.size ∧ Lib.BuilderAt 45 5 w.heap.size w.heap.size (.pointer (some ⟨w.heap.size, 0, none⟩)) (Lib.byteCells out) wr ∧ WRel s.data.toList i out ∧ Below w.heap.size w wr) (fun t _ => s.size - (intOf t).toNat)
      case atStart => exact ⟨0, [], rfl, Nat.zero_le _, hB2, ⟨rfl, HC.out, Nat.le_refl _⟩, hbel2⟩
      case round =>
        clear hB2 hbel2
        obtain ⟨i, out, rfl, hi, hB, hrel, hbel⟩ := hrel
        have hol : out.length ≤ i := hrel.2.2
        by_cases hlt : i < s.size
        · by_cases h1 : (s[i].toNat : Int) = 34
          · have e1 : s[i] = 34 := u8_eq (n := 34) (by omega) h1
            have h1b : ((s[i].toNat : Int) != 34) = false := by rw [h1]; rfl
            obtain ⟨k, k1, k2, k3, k4⟩ := hrel.quoted hlt e1
            have hul : ∀ t : ByteArray, t.data.toList = unq (s.extract (i + 1) (i + 1 + k)).data.toList → t.size ≤ 1048576 := by
              intro t ht
              have h2 := unq_length (s.extract (i + 1) (i + 1 + k)).data.toList
              rw [← ht, extract_list] at h2
              have h3 : ((s.data.toList.drop (i + 1)).take (i + 1 + k - (i + 1))).length ≤ i + 1 + k - (i + 1) := List.length_take_le _ _
              have h4 : t.data.toList.length = t.size := by simp
              omega
            have HK : Hid (closeI s.data.toList (i + 1) = ((i + 1 + k : Nat) : Int)) := k1
            clear k1 h1 e1 hrel
            go_wp2_with fail
            refine (closing_any s i hs hi _).mono ?_
            rintro e w1 ⟨rfl, hw1⟩
            obtain rfl := hw1.symm
            clear hw1
            rw [HK.out]
            rw [show ((i + 1 + k : Nat) : Int) = (i : Int) + 1 + (k : Int) from by omega]
            go_wp2_with fail
            refine (unquote_any (s.extract (i + 1) (i + 1 + k)) (by rw [ByteArray.size_extract]; omega) k3 _).mono ?_
            rintro e w3 ⟨t, rfl, HT, hb3⟩
            have hB3 := builder_below hB hb3
            have hts := hul t HT.out
            have hbel3 := hbel.trans (hb3.mono hbel.size)
            clear hB hb3 hbel hul k3
            go_wp2_with fail
            refine (Try.Builder_WriteString w.heap.size w.heap.size (Lib.byteCells out) t _ (.inr hB3) (by rw [Lib.byteCells_length]; omega) hbel3.size).mono ?_
            rintro e w4 ⟨rfl, hB4, hb4⟩
            have hB4' : Lib.BuilderAt 45 5 w.heap.size w.heap.size (.pointer (some ⟨w.heap.size, 0, none⟩)) (Lib.byteCells (out ++ unq (s.extract (i + 1) (i + 1 + k)).data.toList)) w4 := by
              rw [← HT.out]
              simpa [Lib.byteCells, Lib.strCells] using hB4
            have hbel4 := hbel3.trans hb4
            clear hB3 hB4 hb4 hbel3
            go_wp2_with fail
            go_roundw
            case rel => exact ⟨i + 1 + k + 1, _, by go_num, by omega, hB4', k4, hbel4⟩
            case measure => simp [intOf]; omega
          · have e1 : s[i] ≠ 34 := fun e => h1 (by rw [e]; rfl)
            have h1b : ((s[i].toNat : Int) != 34) = true := by rw [bne_iff_ne]; exact h1
            have R := hrel.byte hlt e1
            clear h1 e1 hrel
            go_wp2_with fail
            refine (Try.Builder_WriteByte w.heap.size w.heap.size (Lib.byteCells out) _ _ (.inr hB) (by rw [Lib.byteCells_length]; omega) hbel.size).mono ?_
            rintro e w3 ⟨rfl, hB3, hb3⟩
            have hB3' : Lib.BuilderAt 45 5 w.heap.size w.heap.size (.pointer (some ⟨w.heap.size, 0, none⟩)) (Lib.byteCells (out ++ [s[i]])) w3 := by
              simpa [Lib.byteCells] using hB3
            have hbel3 := hbel.trans hb3
            clear hB hB3 hb3 hbel
            go_wp2_with fail
            go_roundw
            case rel => exact ⟨i + 1, _, by go_num, by omega, hB3', R, hbel3⟩
            case measure => simp [intOf]; omega
        · have HR : Hid (out = (scan 0 s.data.toList).1) := by
            have h3 := hrel.1
            rw [List.drop_of_length_le (by simp; omega), show scan 0 [] = ([], 0) from rfl, List.append_nil] at h3
            exact h3
          clear hrel
          go_wp2_with fail
          refine (Try.Builder_String_any w.heap.size w.heap.size out _ (.inr hB) hbel.size).mono ?_
          rintro e w3 ⟨rfl, hb3⟩
          have hbel3 := hbel.trans hb3
          clear hB hb3 hbel
          go_wp2_with fail
          go_ret
          exact ⟨_, rfl, by show _ = _; rw [← HR.out], hbel3⟩

set_option maxHeartbeats 400000 in
theorem zwords_any (s : ByteArray) (hs : s.size ≤ 1048576) (hc : (scan 0 s.data.toList).2 = 0) (w : World) :
    Calls Try.prog 10 #[.string s] w fun e w' => StrSaid w (scan 0 s.data.toList).1 e w' := by
  have HC : Hid ((scan 0 s.data.toList).2 = 0) := hc
  clear hc
  go_enter Try.func10, Try.ntmps10
  go_wp2_with fail
  refine (words_any s hs HC.out _).mono ?_
  rintro e w1 ⟨t, rfl, HT, hb⟩
  go_wp2_with fail
  go_ret
  exact ⟨t, rfl, HT, hb⟩

end Go.Proofs.Qxb6000014a
