/-
  closing (25), unquote (26).
-/
import Derived.Test.Qxb6000014aPlain
import Derived.Test.Qxb6000014aShelf
import Derived.WalkKit
import Derived.WalkSpells
import Derived.WalkLawsBesides
namespace Go.Proofs.Qxb6000014a
open Go.RowKit

theorem ret_int {k : IntKind} {a b : Int} (h : a = b) : Ending.returned (.int k a) = .returned (.int k b) := by rw [h]
theorem ret_bool {a b : Bool} (h : a = b) : Ending.returned (.bool a) = .returned (.bool b) := by rw [h]
theorem ret_str {a b : ByteArray} (h : a = b) : Ending.returned (.string a) = .returned (.string b) := by rw [h]
theorem u8_eq {u : UInt8} {n : Nat} (hn : n < 256) (h : (u.toNat : Int) = (n : Int)) : u = UInt8.ofNat n := by
  apply UInt8.toNat_inj.1
  rw [UInt8.toNat_ofNat']
  omega
theorem drop_at (s : ByteArray) (j : Nat) (h : j < s.size) : s.data.toList.drop j = s[j] :: s.data.toList.drop (j + 1) := by
  rw [List.drop_eq_getElem_cons (by simpa using h)]
  rfl

/-- What closing answers, looked for from j on. -/
def closeI (l : List UInt8) (j : Nat) : Int := match clo (l.drop j) with | some k => ((j + k : Nat) : Int) | none => -1
theorem closeI_end (l : List UInt8) (j : Nat) (h : l.length ≤ j) : closeI l j = -1 := by
  unfold closeI
  rw [List.drop_of_length_le h]
  rfl
theorem closeI_hit (s : ByteArray) (j : Nat) (h : j < s.size) (hc : s[j] = 34) : closeI s.data.toList j = j := by
  unfold closeI
  rw [drop_at s j h, hc, clo_hit]
  simp
theorem closeI_step (s : ByteArray) (j : Nat) (h : j < s.size) (h1 : s[j] ≠ 92) (h2 : s[j] ≠ 34) : closeI s.data.toList j = closeI s.data.toList (j + 1) := by
  unfold closeI
  rw [drop_at s j h, clo_step _ h1 h2]
  cases clo (s.data.toList.drop (j + 1)) with
  | none => rfl
  | some k => simp only [Option.map_some]; congr 1; omega
theorem closeI_bs (s : ByteArray) (j : Nat) (h : j < s.size) (h1 : s[j] = 92) : closeI s.data.toList j = closeI s.data.toList (j + 2) := by
  unfold closeI
  rw [drop_at s j h, h1]
  by_cases h2 : j + 1 < s.size
  · rw [drop_at s (j + 1) h2, clo_pair]
    cases clo (s.data.toList.drop (j + 1 + 1)) with
    | none => rfl
    | some k => simp only [Option.map_some]; congr 1; omega
  · rw [List.drop_of_length_le (by simp; omega), List.drop_of_length_le (by simp; omega)]
    rfl

set_option maxHeartbeats 400000 in
theorem closing_any (s : ByteArray) (i : Nat) (hs : s.size ≤ 1048576) (hi : i ≤ s.size) (w : World) :
    Calls Try.prog 25 #[.string s, .int .i64 i, .int .u8 34] w fun e w' => e = .returned (.int .i64 (closeI s.data.toList (i + 1))) ∧ w' = w := by
  go_enter Try.func25, Try.ntmps25
  go_wp2
  go_loop [7] (fun t => ∃ j : Nat, t = .int .i64 (j : Nat) ∧ j ≤ s.size + 1 ∧ Hid (closeI s.data.toList (i + 1) = closeI s.data.toList j)) (fun t => s.size + 2 - (intOf t).toNat)
  case atStart => exact ⟨i + 1, by go_num, by omega, rfl⟩
  case round =>
    obtain ⟨j, rfl, hj, HC⟩ := hrel
    by_cases hlt : j < s.size
    · by_cases h1 : (s[j].toNat : Int) = 92
      · have HB : Hid (closeI s.data.toList j = closeI s.data.toList (j + 2)) := closeI_bs s j hlt (u8_eq (n := 92) (by omega) h1)
        have h1b : ((s[j].toNat : Int) == 92) = true := by rw [beq_iff_eq]; exact h1
        clear h1
        go_wp2
        go_round
        case rel => exact ⟨j + 2, by go_num, by omega, HC.out.trans HB.out⟩
        case measure => simp [intOf]; omega
      · have h1b : ((s[j].toNat : Int) == 92) = false := by rw [beq_eq_false_iff_ne]; exact h1
        by_cases h2 : (s[j].toNat : Int) = 34
        · have HB : Hid (closeI s.data.toList j = j) := closeI_hit s j hlt (u8_eq (n := 34) (by omega) h2)
          have h2b : ((s[j].toNat : Int) == 34) = true := by rw [beq_iff_eq]; exact h2
          clear h1 h2
          go_wp2
          go_ret
          exact ⟨ret_int (HC.out.trans HB.out).symm, rfl⟩
        · have HB : Hid (closeI s.data.toList j = closeI s.data.toList (j + 1)) := closeI_step s j hlt (fun e => h1 (by rw [e]; rfl)) (fun e => h2 (by rw [e]; rfl))
          have h2b : ((s[j].toNat : Int) == 34) = false := by rw [beq_eq_false_iff_ne]; exact h2
          clear h1 h2
          go_wp2
          go_round
          case rel => exact ⟨j + 1, by go_num, by omega, HC.out.trans HB.out⟩
          case measure => simp [intOf]; omega
    · have HE : Hid (closeI s.data.toList j = -1) := closeI_end _ _ (by simp; omega)
      go_wp2
      go_ret
      exact ⟨ret_int (HC.out.trans HE.out).symm, rfl⟩

end Go.Proofs.Qxb6000014a
