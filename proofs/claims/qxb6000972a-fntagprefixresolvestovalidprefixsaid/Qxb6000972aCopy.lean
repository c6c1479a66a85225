/-
  zzCopyStrs (11): a fresh copy of a slice of strings.
-/
import Derived.Test.Qxb6000972aStrs
namespace Go.Proofs.Qxb6000972a
open Go.RowKit

theorem Try.info9 : (Try.prog.info? 9).map (fun i => (i.zero, i.size, i.bytes)) = some (some (.string ByteArray.empty), 1, 16) := by kernel_rfl

/-- The new array behind k rounds. -/
def copied (ss : List ByteArray) (n k : Nat) : List Value := (ss.take k).map Value.string ++ List.replicate (n - k) (.string ByteArray.empty)
theorem copied_zero (ss : List ByteArray) (n : Nat) : copied ss n 0 = List.replicate n (.string ByteArray.empty) := by simp [copied]
theorem copied_at (ss : List ByteArray) (n k : Nat) (hl : ss.length = n) (hk : k < n) : (copied ss n k)[k]? = some (.string ByteArray.empty) := by
  unfold copied
  have hlen : ((ss.take k).map Value.string).length = k := by simp; omega
  rw [List.getElem?_append_right (by omega), hlen, Nat.sub_self]
  rw [List.getElem?_replicate, if_pos (by omega)]
theorem copied_set (ss : List ByteArray) (n k : Nat) (s : ByteArray) (hl : ss.length = n) (hk : k < n) (hs : Hid (ss[k]? = some s)) : (copied ss n k).set k (.string s) = copied ss n (k + 1) := by
  have hs := hs.out
  unfold copied
  have hlen : ((ss.take k).map Value.string).length = k := by simp; omega
  rw [List.set_append_right _ _ (by omega), hlen, Nat.sub_self, List.take_add_one, hs]
  obtain ⟨m, hm⟩ : ∃ m, n - k = m + 1 := ⟨n - k - 1, by omega⟩
  rw [hm, show n - (k + 1) = m by omega, List.replicate_succ]
  simp
theorem copied_all (ss : List ByteArray) (n j : Nat) (hl : ss.length = n) (hj : j < n) : (copied ss n n)[j]? = some (.string (ss.getD j ByteArray.empty)) := by
  unfold copied
  rw [List.take_of_length_le (by omega)]
  simp [hl, hj]

/-- What zzCopyStrs leaves. -/
def CopySaid (w : World) (n : Nat) (ss : List ByteArray) (e : Ending) (w' : World) : Prop :=
  ∃ (a : Option Addr) (c b o : Nat), e = .returned (.slice a n c) ∧ StrRow w' a n ss b o ∧ Below w.heap.size w w'

theorem StrRow.below {w w' : World} {a : Option Addr} {n : Nat} {ss : List ByteArray} {b o : Nat} (h : StrRow w a n ss b o) (hb : Below w.heap.size w w') : StrRow w' a n ss b o := by
  refine ⟨h.1, h.2.1, fun j hj => ?_⟩
  have hc := h.2.2 j hj
  have hlt : b < w.heap.size := World.block_lt_of_cell? _ _ hc
  rw [hb.cell (p := ⟨b, o + j, none⟩) hlt]
  exact hc

set_option maxHeartbeats 400000 in
theorem copy_some (x : Addr) (n c : Nat) (ss : List ByteArray) (b o : Nat) (w : World) (hr : StrRow w (some x) n ss b o) (hn : n ≤ 1048576) :
    Calls Try.prog 11 #[.slice (some x) n c] w fun e w' => CopySaid w n ss e w' := by
  obtain ⟨i0, hi, hz0, hz1, hz2⟩ := info_parts Try.info9
  have q22 : ∀ (w : World) (a : Option Addr) (n c n' c' : Nat), (binOp .eql 22 (.slice a n c) (.slice none n' c')).run Try.prog w = .ok (.bool a.isNone) w := fun w a n c n' c' => Lib.run_eql_slice_nil w _ _ a n c n' c' Try.underlying22
  go_enter Try.func11, Try.ntmps11
  go_wp2_with (at_make; refine wpList_make_full _ rfl _ _ 22 rfl w.heap.size 9 i0 _ 1 Try.underlying22 hi hz0 hz1 _ _ _ _ n rfl rfl (by first | rfl | simp) (by first | rfl | simp) (by rw [hz2]; omega) (by unfold maxLen; omega) (by simp) ?_; intro w1 hown1 hg1)
  have hown0 : w1.ownsRow w.heap.size 9 1 (.slice (some ⟨w.heap.size, 0, none⟩) n n) n (copied ss n 0) := by
    rw [copied_zero]
    have e : (madeCells (Value.string ByteArray.empty).cells (n * 1)).toList = List.replicate n (.string ByteArray.empty) := by
      rw [Nat.mul_one]; exact toList_madeCells_one _ _
    rw [e] at hown1
    exact hown1
  have hbel1 : Below w.heap.size w w1 := (Below.refl _ _).grown hg1 (Nat.le_refl _) (by simp)
  clear hown1 hg1 q22 hi hz0 hz1 hz2
  go_loopw [4] (fun i wr => ∃ k : Nat, k ≤ n ∧ i = .int .i64 k ∧ wr.ownsRow w.heap.size 9 1 (.slice (some ⟨w.heap.size, 0, none⟩) n n) n (copied ss n k) ∧ Below w.heap.size w wr) (fun i _ => n - (intOf i).toNat)
  case atStart => exact ⟨0, Nat.zero_le _, rfl, hown0, hbel1⟩
  case round =>
    obtain ⟨k, hk, rfl, hown, hbel⟩ := hrel
    by_cases hlt : k < n
    · have hr' := hr.below hbel
      have hi := hr'.idx hlt
      obtain ⟨s, _, hks, hcell⟩ := hr'.cell hlt
      have hc2 : wr.cell? ⟨w.heap.size, k, none⟩ = some (.string ByteArray.empty) := by rw [hown.cellAt k (by omega)]; exact copied_at ss n k hr.1 hlt
      have hf2 := hown.frozenAt k
      have R := hown.stored k (.string s)
      rw [copied_set ss n k s hr.1 hlt hks] at R
      have R2 : Below w.heap.size w (wr.setCell ⟨w.heap.size, k, none⟩ (.string s)) := hbel.setCell (Nat.le_refl _) _
      have R1 := R.1
      clear R hown hbel hr' hown0 hbel1
      go_wp2
      go_roundw
      case rel => exact ⟨k + 1, by omega, by go_num, R1, R2⟩
      case measure => simp [intOf]; omega
    · obtain rfl : k = n := by omega
      go_wp2
      go_ret
      exact ⟨_, _, w.heap.size, 0, rfl, ⟨hr.1, fun _ => rfl, fun j hj => by rw [Nat.zero_add, hown.cellAt j (by omega)]; exact copied_all ss k j hr.1 hj⟩, hbel⟩

set_option maxHeartbeats 400000 in
theorem copy_none (n c : Nat) (ss : List ByteArray) (b o : Nat) (w : World) (hr : StrRow w none n ss b o) :
    Calls Try.prog 11 #[.slice none n c] w fun e w' => CopySaid w n ss e w' := by
  have hn0 : n = 0 := by
    rcases Nat.eq_zero_or_pos n with h | h
    · exact h
    · exact absurd (hr.2.1 h) (by simp)
  have q22 : ∀ (w : World) (a : Option Addr) (n c n' c' : Nat), (binOp .eql 22 (.slice a n c) (.slice none n' c')).run Try.prog w = .ok (.bool a.isNone) w := fun w a n c n' c' => Lib.run_eql_slice_nil w _ _ a n c n' c' Try.underlying22
  subst hn0
  go_enter Try.func11, Try.ntmps11
  go_wp2
  go_ret
  exact ⟨none, 0, b, o, rfl, hr, Below.refl _ _⟩

theorem copy_any (a : Option Addr) (n c : Nat) (ss : List ByteArray) (b o : Nat) (w : World) (hr : StrRow w a n ss b o) (hn : n ≤ 1048576) :
    Calls Try.prog 11 #[.slice a n c] w fun e w' => CopySaid w n ss e w' := by
  cases a with
  | none => exact copy_none n c ss b o w hr
  | some x => exact copy_some x n c ss b o w hr hn

end Go.Proofs.Qxb6000972a
