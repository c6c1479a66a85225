/-
  isNameByte (31), isBangName (21), isPctName (22), hasByte (12).
-/
import Derived.Test.Qxb6000014aHop
namespace Go.Proofs.Qxb6000014a
open Go.RowKit

def nameCh (n : Int) : Bool := decide ((97 ≤ n ∧ n ≤ 122) ∨ (65 ≤ n ∧ n ≤ 90) ∨ (48 ≤ n ∧ n ≤ 57) ∨ n = 45 ∨ n = 95)
theorem nameCh_no {n : Int} (h : nameCh n = false) : ¬ (97 ≤ n ∧ n ≤ 122) ∧ ¬ (65 ≤ n ∧ n ≤ 90) ∧ ¬ (48 ≤ n ∧ n ≤ 57) ∧ (n == 45) = false ∧ (n == 95) = false := by
  unfold nameCh at h
  rw [decide_eq_false_iff_not] at h
  refine ⟨by omega, by omega, by omega, ?_, ?_⟩ <;> rw [beq_eq_false_iff_ne] <;> omega
theorem nameCh_yes {n : Int} (h : nameCh n = true) : (97 ≤ n ∧ n ≤ 122) ∨ (65 ≤ n ∧ n ≤ 90) ∨ (48 ≤ n ∧ n ≤ 57) ∨ n = 45 ∨ n = 95 := by
  unfold nameCh at h
  rw [decide_eq_true_iff] at h
  exact h
theorem hopCh_of_name {n : Int} (h : nameCh n = true) : hopCh n = true := by
  have := nameCh_yes h
  unfold hopCh
  rw [decide_eq_true_iff]
  omega
theorem hopCh_name_dot {n : Int} (h : nameCh n = false) (h2 : ¬ n = 46) : hopCh n = false := by
  unfold nameCh at h
  rw [decide_eq_false_iff_not] at h
  unfold hopCh
  rw [decide_eq_false_iff_not]
  omega

set_option maxHeartbeats 800000 in
theorem nameByte_any (n : Int) (h0 : 0 ≤ n) (h1 : n ≤ 255) (w : World) :
    Calls Try.prog 31 #[.int .u8 n] w fun e w' => e = .returned (.bool (nameCh n)) ∧ w' = w := by
  cases hc : nameCh n with
  | true =>
    rcases nameCh_yes hc with ⟨c, d⟩ | ⟨c, d⟩ | ⟨c, d⟩ | c | c
    all_goals
      clear hc
      go_enter Try.func31, Try.ntmps31
      go_wp2
      go_ret
      exact ⟨rfl, rfl⟩
  | false =>
    obtain ⟨c1, c2, c3, c4, c5⟩ := nameCh_no hc
    clear hc
    go_enter Try.func31, Try.ntmps31
    go_wp2
    all_goals
      go_ret
      exact ⟨ret_bool (by first | rfl | (simp; omega)), rfl⟩

def BName (s : ByteArray) : Prop := 0 < s.size ∧ allIn nameCh s 0 s.size
def PName (s : ByteArray) : Prop := 0 < s.size ∧ allIn hopCh s 0 s.size

set_option maxHeartbeats 800000 in
theorem bangName_any (s : ByteArray) (hs : s.size ≤ 1048576) (w : World) :
    Calls Try.prog 21 #[.string s] w fun e w' => Tells (BName s) e ∧ w' = w := by
  by_cases hp : 0 < s.size
  · have hn := toList_ne hp
    have hn2 : ¬ s.toList = [] := by intro h; rw [h] at hn; simp at hn
    go_enter Try.func21, Try.ntmps21
    go_wp2_with fail
    go_loop [3] (fun t => ∃ k : Nat, t = .int .i64 (k : Nat) ∧ k ≤ s.size ∧ allIn nameCh s 0 k) (fun t => s.size - (intOf t).toNat)
    case atStart => exact ⟨0, rfl, by omega, allIn.nil _ _ _⟩
    case round =>
      obtain ⟨k, rfl, hk2, hall⟩ := hrel
      by_cases hlt : k < s.size
      · cases hc : nameCh (s[k].toNat : Int) with
        | true =>
          have R := hall.succ hlt hc
          have H := fun W => nameByte_any (s[k].toNat : Int) (by omega) (u8_le _) W
          rw [hc] at H
          have HH : Hid (∀ W, Calls Try.prog 31 #[.int .u8 (s[k].toNat : Int)] W fun e w' => e = .returned (.bool true) ∧ w' = W) := H
          clear H hc hall
          go_wp2_with fail
          refine (HH.out _).mono ?_
          rintro e w1 ⟨rfl, hw1⟩
          obtain rfl := hw1.symm
          clear hw1
          go_wp2_with fail
          go_round
          case rel => exact ⟨k + 1, by go_num, by omega, R⟩
          case measure => simp [intOf]; omega
        | false =>
          have R : Hid (¬ BName s) := by
            show ¬ _
            rintro ⟨_, h⟩
            have := h k hlt (by omega) hlt
            rw [hc] at this
            cases this
          have H := fun W => nameByte_any (s[k].toNat : Int) (by omega) (u8_le _) W
          rw [hc] at H
          have HH : Hid (∀ W, Calls Try.prog 31 #[.int .u8 (s[k].toNat : Int)] W fun e w' => e = .returned (.bool false) ∧ w' = W) := H
          clear H hc hall
          go_wp2_with fail
          refine (HH.out _).mono ?_
          rintro e w1 ⟨rfl, hw1⟩
          obtain rfl := hw1.symm
          clear hw1
          go_wp2_with fail
          go_ret
          exact ⟨Tells.no R.out, rfl⟩
      · have R : Hid (BName s) := ⟨hp, fun j hj h1 _ => hall j hj h1 (by omega)⟩
        clear hall
        go_wp2_with fail
        go_ret
        exact ⟨Tells.yes R.out, rfl⟩
  · have hn := toList_nil hp
    go_enter Try.func21, Try.ntmps21
    go_wp2
    go_ret
    exact ⟨Tells.no (fun h => hp h.1), rfl⟩

set_option maxHeartbeats 800000 in
theorem pctName_any (s : ByteArray) (hs : s.size ≤ 1048576) (w : World) :
    Calls Try.prog 22 #[.string s] w fun e w' => Tells (PName s) e ∧ w' = w := by
  by_cases hp : 0 < s.size
  · have hn := toList_ne hp
    have hn2 : ¬ s.toList = [] := by intro h; rw [h] at hn; simp at hn
    go_enter Try.func22, Try.ntmps22
    go_wp2_with fail
    go_loop [3] (fun t => ∃ k : Nat, t = .int .i64 (k : Nat) ∧ k ≤ s.size ∧ allIn hopCh s 0 k) (fun t => s.size - (intOf t).toNat)
    case atStart => exact ⟨0, rfl, by omega, allIn.nil _ _ _⟩
    case round =>
      obtain ⟨k, rfl, hk2, hall⟩ := hrel
      by_cases hlt : k < s.size
      · cases hc : nameCh (s[k].toNat : Int) with
        | true =>
          have R := hall.succ hlt (hopCh_of_name hc)
          have H := fun W => nameByte_any (s[k].toNat : Int) (by omega) (u8_le _) W
          rw [hc] at H
          have HH : Hid (∀ W, Calls Try.prog 31 #[.int .u8 (s[k].toNat : Int)] W fun e w' => e = .returned (.bool true) ∧ w' = W) := H
          clear H hc hall
          go_wp2_with fail
          refine (HH.out _).mono ?_
          rintro e w1 ⟨rfl, hw1⟩
          obtain rfl := hw1.symm
          clear hw1
          go_wp2_with fail
          go_round
          case rel => exact ⟨k + 1, by go_num, by omega, R⟩
          case measure => simp [intOf]; omega
        | false =>
          have H := fun W => nameByte_any (s[k].toNat : Int) (by omega) (u8_le _) W
          rw [hc] at H
          have HH : Hid (∀ W, Calls Try.prog 31 #[.int .u8 (s[k].toNat : Int)] W fun e w' => e = .returned (.bool false) ∧ w' = W) := H
          clear H
          by_cases hd : (s[k].toNat : Int) = 46
          · have R := hall.succ hlt (by rw [hd]; rfl)
            have hdb : ((s[k].toNat : Int) != 46) = false := by rw [hd]; rfl
            clear hc hd hall
            go_wp2_with fail
            refine (HH.out _).mono ?_
            rintro e w1 ⟨rfl, hw1⟩
            obtain rfl := hw1.symm
            clear hw1
            go_wp2_with fail
            go_round
            case rel => exact ⟨k + 1, by go_num, by omega, R⟩
            case measure => simp [intOf]; omega
          · have R : Hid (¬ PName s) := by
              show ¬ _
              rintro ⟨_, h⟩
              have := h k hlt (by omega) hlt
              rw [hopCh_name_dot hc hd] at this
              cases this
            have hdb : ((s[k].toNat : Int) != 46) = true := by rw [bne_iff_ne]; exact hd
            clear hc hd hall
            go_wp2_with fail
            refine (HH.out _).mono ?_
            rintro e w1 ⟨rfl, hw1⟩
            obtain rfl := hw1.symm
            clear hw1
            go_wp2_with fail
            go_ret
            exact ⟨Tells.no R.out, rfl⟩
      · have R : Hid (PName s) := ⟨hp, fun j hj h1 _ => hall j hj h1 (by omega)⟩
        clear hall
        go_wp2_with fail
        go_ret
        exact ⟨Tells.yes R.out, rfl⟩
  · have hn := toList_nil hp
    go_enter Try.func22, Try.ntmps22
    go_wp2
    go_ret
    exact ⟨Tells.no (fun h => hp h.1), rfl⟩

/-- s holds the byte c. -/
def Holds (s : ByteArray) (c : Int) : Prop := ∃ k, ∃ h : k < s.size, (s[k].toNat : Int) = c
set_option maxHeartbeats 800000 in
theorem hasByte_any (s : ByteArray) (c : Int) (hs : s.size ≤ 1048576) (w : World) :
    Calls Try.prog 12 #[.string s, .int .u8 c] w fun e w' => Tells (Holds s c) e ∧ w' = w := by
  go_enter Try.func12, Try.ntmps12
  go_wp2
  go_loop [5] (fun t => ∃ k : Nat, t = .int .i64 (k : Nat) ∧ k ≤ s.size ∧ Hid (∀ j (h : j < s.size), j < k → ¬ (s[j].toNat : Int) = c)) (fun t => s.size - (intOf t).toNat)
  case atStart => exact ⟨0, rfl, by omega, fun j _ h => by omega⟩
  case round =>
    obtain ⟨k, rfl, hk, HA⟩ := hrel
    by_cases hlt : k < s.size
    · by_cases hc : (s[k].toNat : Int) = c
      · have R : Hid (Holds s c) := ⟨k, hlt, hc⟩
        have hcb : ((s[k].toNat : Int) == c) = true := by rw [beq_iff_eq]; exact hc
        clear hc
        go_wp2
        go_ret
        exact ⟨Tells.yes R.out, rfl⟩
      · have hcb : ((s[k].toNat : Int) == c) = false := by rw [beq_eq_false_iff_ne]; exact hc
        have R : Hid (∀ j (h : j < s.size), j < k + 1 → ¬ (s[j].toNat : Int) = c) := by
          intro j h h2
          by_cases e : j = k
          · subst e; exact hc
          · exact HA.out j h (by omega)
        clear hc HA
        go_wp2
        go_round
        case rel => exact ⟨k + 1, by go_num, by omega, R⟩
        case measure => simp [intOf]; omega
    · have R : Hid (¬ Holds s c) := fun ⟨j, h, e⟩ => HA.out j h (by omega) e
      clear HA
      go_wp2
      go_ret
      exact ⟨Tells.no R.out, rfl⟩

end Go.Proofs.Qxb6000014a
