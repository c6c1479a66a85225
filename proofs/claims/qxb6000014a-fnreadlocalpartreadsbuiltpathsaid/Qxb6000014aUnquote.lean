/-
  unquote (26).
-/
import Derived.Test.Qxb6000014aWalkA
namespace Go.Proofs.Qxb6000014a
open Go.RowKit

/-- A string answered, and memory as it was. -/
def StrSaid (w : World) (l : List UInt8) (e : Ending) (w' : World) : Prop := ∃ s : ByteArray, e = .returned (.string s) ∧ Hid (s.data.toList = l) ∧ Below w.heap.size w w'

theorem indexByte_neg {l : List UInt8} {c : UInt8} (h : Lib.indexByte l c < 0) : c ∉ l := by
  have h1 : Lib.indexByte l c = -1 := by have := Lib.indexByte_ge l c; omega
  intro hm
  obtain ⟨k, hk⟩ := List.getElem?_of_mem hm
  exact Lib.indexByte_none h1 k hk

set_option maxHeartbeats 800000 in
theorem unquote_any (q : ByteArray) (hs : q.size ≤ 1048576) (ho : okq q.data.toList = true) (w : World) :
    Calls Try.prog 26 #[.string q] w fun e w' => StrSaid w (unq q.data.toList) e w' := by
  have HO : Hid (okq q.data.toList = true) := ho
  clear ho
  go_enter Try.func26, Try.ntmps26
  go_wp2_with fail
  refine (Try.strings_IndexByte q 92 _).mono ?_
  rintro e w1 ⟨rfl, hw1⟩
  obtain rfl := hw1.symm
  rw [show (92 : Int).toNat.toUInt8 = 92 from rfl]
  by_cases hneg : Lib.indexByte q.data.toList 92 < 0
  · have HU : Hid (unq q.data.toList = q.data.toList) := unq_plain _ (indexByte_neg hneg)
    go_wp2_with fail
    go_ret
    exact ⟨q, rfl, HU.out.symm, Below.refl _ _⟩
  · clear hw1
    obtain ⟨wa, hwa⟩ : ∃ wa, w.alloc (.cells #[.pointer none, .slice none 0 0] 45) = wa := ⟨_, rfl⟩
    have hbk : wa.heap[w.heap.size]? = some (.cells #[.pointer none, .slice none 0 0] 45 (0, 0)) := by rw [← hwa]; exact heap_alloc_new _ _
    have hba : Below w.heap.size w wa := by rw [← hwa]; exact (Below.refl _ _).alloc (Nat.le_refl _) _
    have hza : w.heap.size ≤ wa.heap.size := hba.size
    go_wp2_with fail
    refine (Try.Builder_Grow_fresh w.heap.size w.heap.size q.size wa (Nat.le_refl _) hbk hza (by omega)).mono ?_
    rintro e w2 ⟨rfl, hB2, hb2⟩
    have hbel2 := hba.trans hb2
    clear hwa hbk hba hb2 hza
    go_wp2_with fail
    go_loopw [4] (fun t wr => ∃ (i : Nat) (out : List UInt8), t = .int .i64 (i : Nat) ∧ i ≤ q.size ∧ Lib.BuilderAt 45 5 w.heap.size w.heap.size (.pointer (some ⟨w.heap.size, 0, none⟩)) (Lib.byteCells out) wr ∧ Hid (out ++ unq (q.data.toList.drop i) = unq q.data.toList ∧ okq (q.data.toList.drop i) = true ∧ out.length ≤ i) ∧ Below w.heap.size w wr) (fun t _ => q.size - (intOf t).toNat)
    case atStart => exact ⟨0, [], rfl, Nat.zero_le _, hB2, ⟨rfl, HO.out, Nat.le_refl _⟩, hbel2⟩
    case round =>
      clear hB2 hbel2
      obtain ⟨i, out, rfl, hi, hB, HI, hbel⟩ := hrel
      have hol : out.length ≤ i := HI.out.2.2
      by_cases hlt : i < q.size
      · have hd := drop_at q i hlt
        by_cases h1 : (q[i].toNat : Int) = 92
        · have e1 : q[i] = 92 := u8_eq (n := 92) (by omega) h1
          have h1b : ((q[i].toNat : Int) == 92) = true := by rw [beq_iff_eq]; exact h1
          have hl2 : i + 1 < q.size := by
            rcases Nat.lt_or_ge (i + 1) q.size with h | h
            · exact h
            · exfalso
              have h2 := HI.out.2.1
              rw [hd, e1, List.drop_of_length_le (by simp; omega), okq_last] at h2
              cases h2
          have R : Hid ((out ++ [q[i + 1]]) ++ unq (q.data.toList.drop (i + 2)) = unq q.data.toList ∧ okq (q.data.toList.drop (i + 2)) = true ∧ (out ++ [q[i + 1]]).length ≤ i + 2) := by
            have h3 := HI.out
            rw [hd, e1, drop_at q (i + 1) hl2, unq_pair, okq_pair] at h3
            refine ⟨by rw [← h3.1]; simp, h3.2.1, by simp; omega⟩
          clear hd h1 e1 HI
          go_wp2_with fail
          refine (Try.Builder_WriteByte w.heap.size w.heap.size (Lib.byteCells out) _ _ (.inr hB) (by rw [Lib.byteCells_length]; omega) hbel.size).mono ?_
          rintro e w3 ⟨rfl, hB3, hb3⟩
          have hB3' : Lib.BuilderAt 45 5 w.heap.size w.heap.size (.pointer (some ⟨w.heap.size, 0, none⟩)) (Lib.byteCells (out ++ [q[i + 1]])) w3 := by
            simpa [Lib.byteCells] using hB3
          have hbel3 := hbel.trans hb3
          clear hB hB3 hb3 hbel
          go_wp2_with fail
          go_roundw
          case rel => exact ⟨i + 2, _, by go_num, by omega, hB3', R, hbel3⟩
          case measure => simp [intOf]; omega
        · have e1 : q[i] ≠ 92 := fun e => h1 (by rw [e]; rfl)
          have h1b : ((q[i].toNat : Int) == 92) = false := by rw [beq_eq_false_iff_ne]; exact h1
          have R : Hid ((out ++ [q[i]]) ++ unq (q.data.toList.drop (i + 1)) = unq q.data.toList ∧ okq (q.data.toList.drop (i + 1)) = true ∧ (out ++ [q[i]]).length ≤ i + 1) := by
            have h3 := HI.out
            rw [hd, unq_step _ e1, okq_step _ e1] at h3
            refine ⟨by rw [← h3.1]; simp, h3.2.1, by simp; omega⟩
          clear hd h1 e1 HI
          go_wp2_with fail
          refine (Try.Builder_WriteByte w.heap.size w.heap.size (Lib.byteCells out) _ _ (.inr hB) (by rw [Lib.byteCells_length]; omega) hbel.size).mono ?_
          rintro e w3 ⟨rfl, hB3, hb3⟩
          have hB3' : Lib.BuilderAt 45 5 w.heap.size w.heap.size (.pointer (some ⟨w.heap.size, 0, none⟩)) (Lib.byteCells (out ++ [q[i]])) w3 := by
            simpa [Lib.byteCells] using hB3
          have hbel3 := hbel.trans hb3
          clear hB hB3 hb3 hbel
          go_wp2_with fail
          go_roundw
          case rel => exact ⟨i + 1, _, by go_num, by omega, hB3', R, hbel3⟩
          case measure => simp [intOf]; omega
      · have HR : Hid (out = unq q.data.toList) := by
          have h3 := HI.out.1
          rw [List.drop_of_length_le (by simp; omega), show unq [] = [] from rfl, List.append_nil] at h3
          exact h3
        clear HI
        go_wp2_with fail
        refine (Try.Builder_String_any w.heap.size w.heap.size out _ (.inr hB) hbel.size).mono ?_
        rintro e w3 ⟨rfl, hb3⟩
        have hbel3 := hbel.trans hb3
        clear hB hb3 hbel
        go_wp2_with fail
        go_ret
        exact ⟨_, rfl, by show _ = _; rw [← HR.out], hbel3⟩

end Go.Proofs.Qxb6000014a
