/-
  THE WALKS: isTagPrefix (21) at every string, ZZIsTagPrefix (16), zzTagPrefixModel (18); the law's plain half.
-/
import Derived.Test.Qxb6000972aWalkA
namespace Go.Proofs.Qxb6000972a
open Go.RowKit

theorem prefix_any (s : ByteArray) (hs : s.size ≤ 1048576) (w : World) :
    Calls Try.prog 21 #[.string s] w fun e w' => e = .returned (.bool (prefixB s)) ∧ w' = w := by
  by_cases hp : 0 < s.size
  · cases hh : headOk s hp with
    | false => exact prefix_bad s hp hh w
    | true =>
      have hv : prefixB s = allUri s.data.toList := by simp [prefixB, hp, hh]
      rw [hv]
      exact prefix_ok s hs hp hh w
  · exact prefix_none s hp w

set_option maxHeartbeats 400000 in
theorem zprefix_any (s : ByteArray) (hs : s.size ≤ 1048576) (w : World) :
    Calls Try.prog 16 #[.string s] w fun e w' => e = .returned (.bool (prefixB s)) ∧ w' = w := by
  go_enter Try.func16, Try.ntmps16
  go_wp2_with (go_at_call 21; refine (prefix_any _ hs _).mono ?_; rintro e w' ⟨rfl, rfl⟩)
  go_ret
  exact ⟨rfl, rfl⟩

/-! ### The law's plain half: isTagPrefix's head and the model's -/
theorem head_at : ∀ c : Fin 256, uriB (c.val : Int) = true → (((c.val : Int) == 33) || tagB (c.val : Int)) = !flowB (c.val : Int) := by
  decide +kernel
theorem head_eq (c : UInt8) (h : uriB (c.toNat : Int) = true) : (((c.toNat : Int) == 33) || tagB (c.toNat : Int)) = !flowB (c.toNat : Int) :=
  head_at ⟨c.toNat, c.toNat_lt⟩ h
def modelB (s : ByteArray) : Bool := if h : 0 < s.size then !flowB (s[0].toNat : Int) && allUri s.data.toList else false
theorem allUri_head (s : ByteArray) (hp : 0 < s.size) (h : allUri s.data.toList = true) : uriB (s[0].toNat : Int) = true := by
  cases hc : uriB (s[0].toNat : Int) with
  | true => rfl
  | false => rw [allUri_no s 0 hp hc] at h; exact h
theorem model_eq (s : ByteArray) : modelB s = prefixB s := by
  unfold modelB prefixB
  by_cases hp : 0 < s.size
  · simp only [hp, dif_pos]
    cases ha : allUri s.data.toList with
    | false => simp
    | true =>
      have hu := allUri_head s hp ha
      simp only [Bool.and_true, headOk]
      exact (head_eq _ hu).symm
  · simp [hp]

/-! ### zzTagPrefixModel -/
set_option maxHeartbeats 400000 in
theorem model_none (s : ByteArray) (hp : ¬ 0 < s.size) (w : World) :
    Calls Try.prog 18 #[.string s] w fun e w' => e = .returned (.bool (modelB s)) ∧ w' = w := by
  have h0 : ((s.size : Int) == 0) = true := beq_iff_eq.2 (by omega)
  have hv : modelB s = false := by simp [modelB, hp]
  rw [hv]
  clear hv
  go_enter Try.func18, Try.ntmps18
  go_wp2
  go_ret
  exact ⟨rfl, rfl⟩

set_option maxHeartbeats 400000 in
theorem model_bad (s : ByteArray) (hp : 0 < s.size) (hf : flowB (s[0].toNat : Int) = true) (w : World) :
    Calls Try.prog 18 #[.string s] w fun e w' => e = .returned (.bool (modelB s)) ∧ w' = w := by
  have h0 : ((s.size : Int) == 0) = false := beq_eq_false_iff_ne.2 (by omega)
  have hv : modelB s = false := by simp [modelB, hp, hf]
  rw [hv]
  clear hv
  go_enter Try.func18, Try.ntmps18
  go_wp2_with (go_at_call 22; refine (zflow_any _ _).mono ?_; rintro e w' ⟨rfl, rfl⟩)
  go_ret
  exact ⟨rfl, rfl⟩

set_option maxHeartbeats 400000 in
theorem model_ok (s : ByteArray) (hs : s.size ≤ 1048576) (hp : 0 < s.size) (hf : flowB (s[0].toNat : Int) = false) (w : World) :
    Calls Try.prog 18 #[.string s] w fun e w' => e = .returned (.bool (allUri s.data.toList)) ∧ w' = w := by
  have h0 : ((s.size : Int) == 0) = false := beq_eq_false_iff_ne.2 (by omega)
  go_enter Try.func18, Try.ntmps18
  go_wp2_with (go_at_call 22; refine (zflow_any _ _).mono ?_; rintro e w' ⟨rfl, rfl⟩)
  go_loop [3] (fun i => ∃ k : Nat, k ≤ s.size ∧ i = .int .i64 k ∧ allUri (s.data.toList.take k) = true) (fun i => s.size - (intOf i).toNat)
  case atStart => exact ⟨0, Nat.zero_le _, rfl, rfl⟩
  case round =>
    obtain ⟨k, hk, rfl, ha⟩ := hrel
    have HA : Hid (allUri (s.data.toList.take k) = true) := ha
    clear ha
    by_cases hlt : k < s.size
    · cases hc : uriB (s[k].toNat : Int) with
      | true =>
        go_wp2_with (go_at_call 23; refine (zuri_any _ _).mono ?_; rintro e w' ⟨rfl, rfl⟩)
        go_round
        case rel => exact ⟨k + 1, by omega, by go_num, by rw [take_snoc s k hlt, allUri_snoc, HA.out, hc]; rfl⟩
        case measure => simp [intOf]; omega
      | false =>
        have HN : Hid (allUri s.data.toList = false) := allUri_no s k hlt hc
        go_wp2_with (go_at_call 23; refine (zuri_any _ _).mono ?_; rintro e w' ⟨rfl, rfl⟩)
        go_ret
        exact ⟨ret_bool (by rw [HN.out]), rfl⟩
    · go_wp2
      go_ret
      exact ⟨ret_bool (by rw [← HA.out, List.take_of_length_le (by simp; omega)]), rfl⟩

theorem model_any (s : ByteArray) (hs : s.size ≤ 1048576) (w : World) :
    Calls Try.prog 18 #[.string s] w fun e w' => e = .returned (.bool (prefixB s)) ∧ w' = w := by
  rw [← model_eq]
  by_cases hp : 0 < s.size
  · cases hh : flowB (s[0].toNat : Int) with
    | true => exact model_bad s hp hh w
    | false =>
      have hv : modelB s = allUri s.data.toList := by simp [modelB, hp, hh]
      rw [hv]
      exact model_ok s hs hp hh w
  · exact model_none s hp w

end Go.Proofs.Qxb6000972a
