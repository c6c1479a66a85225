/-
  isDomainLiteral (43), isHop (37).
-/
import Derived.Test.Qxb6000014aWalkA
namespace Go.Proofs.Qxb6000014a
open Go.RowKit

theorem toList_nil {s : ByteArray} (h : ¬ 0 < s.size) : s.toList = [] := by
  rw [Lib.toList_data]
  apply List.eq_nil_of_length_eq_zero
  have : s.data.toList.length = s.size := by simp
  omega
theorem toList_ne {s : ByteArray} (h : 0 < s.size) : s.toList.isEmpty = false := by
  rw [Lib.toList_data, List.isEmpty_eq_false_iff]
  intro e
  have : s.data.toList.length = s.size := by simp
  rw [e] at this
  simp at this
  omega
theorem u8_le (c : UInt8) : (c.toNat : Int) ≤ 255 := by have := c.toNat_lt; omega

/-- A byte of a domain literal's inside; a byte of a name. -/
def litCh (n : Int) : Bool := decide (33 ≤ n ∧ n ≤ 126 ∧ n ≠ 91 ∧ n ≠ 93 ∧ n ≠ 92)
def hopCh (n : Int) : Bool := decide ((97 ≤ n ∧ n ≤ 122) ∨ (65 ≤ n ∧ n ≤ 90) ∨ (48 ≤ n ∧ n ≤ 57) ∨ n = 45 ∨ n = 46 ∨ n = 95)
/-- Every byte from i to j is one of a kind. -/
def allIn (f : Int → Bool) (s : ByteArray) (i j : Nat) : Prop := ∀ k (h : k < s.size), i ≤ k → k < j → f (s[k].toNat : Int) = true
theorem allIn.succ {f : Int → Bool} {s : ByteArray} {i j : Nat} (h : allIn f s i j) (hj : j < s.size) (hc : f (s[j].toNat : Int) = true) : allIn f s i (j + 1) := by
  intro k hk h1 h2
  by_cases e : k = j
  · subst e; exact hc
  · exact h k hk h1 (by omega)
theorem allIn.nil (f : Int → Bool) (s : ByteArray) (i : Nat) : allIn f s i i := fun k _ h1 h2 => by omega

/-- What isDomainLiteral asks. -/
def IsLit (s : ByteArray) : Prop := ∃ h : 3 ≤ s.size, (s[0].toNat : Int) = 91 ∧ (s[s.size - 1].toNat : Int) = 93 ∧ allIn litCh s 1 (s.size - 1)
/-- What isHop asks. -/
def IsHop (s : ByteArray) : Prop := ∃ h : 0 < s.size, ((s[0].toNat : Int) = 91 ∧ IsLit s) ∨ (¬ (s[0].toNat : Int) = 91 ∧ allIn hopCh s 0 s.size)
/-- A bool that says whether p. -/
def Tells (p : Prop) (e : Ending) : Prop := ∃ b : Bool, e = .returned (.bool b) ∧ (b = true ↔ p)
theorem Tells.yes {p : Prop} (h : p) : Tells p (.returned (.bool true)) := ⟨true, rfl, by simp [h]⟩
theorem Tells.no {p : Prop} (h : ¬ p) : Tells p (.returned (.bool false)) := ⟨false, rfl, by simp [h]⟩

theorem litCh_no {n : Int} (h : litCh n = false) : n < 33 ∨ 126 < n ∨ n = 91 ∨ n = 93 ∨ n = 92 := by
  unfold litCh at h
  rw [decide_eq_false_iff_not] at h
  omega
theorem litCh_yes {n : Int} (h : litCh n = true) : 33 ≤ n ∧ n ≤ 126 ∧ (n == 91) = false ∧ (n == 93) = false ∧ (n == 92) = false := by
  unfold litCh at h
  rw [decide_eq_true_iff] at h
  refine ⟨h.1, h.2.1, ?_, ?_, ?_⟩ <;> rw [beq_eq_false_iff_ne] <;> omega
theorem hopCh_no {n : Int} (h : hopCh n = false) : ¬ (97 ≤ n ∧ n ≤ 122) ∧ ¬ (65 ≤ n ∧ n ≤ 90) ∧ ¬ (48 ≤ n ∧ n ≤ 57) ∧ (n == 45) = false ∧ (n == 46) = false ∧ (n == 95) = false := by
  unfold hopCh at h
  rw [decide_eq_false_iff_not] at h
  refine ⟨by omega, by omega, by omega, ?_, ?_, ?_⟩ <;> rw [beq_eq_false_iff_ne] <;> omega
theorem hopCh_yes {n : Int} (h : hopCh n = true) : (97 ≤ n ∧ n ≤ 122) ∨ (65 ≤ n ∧ n ≤ 90) ∨ (48 ≤ n ∧ n ≤ 57) ∨ n = 45 ∨ n = 46 ∨ n = 95 := by
  unfold hopCh at h
  rw [decide_eq_true_iff] at h
  exact h

set_option maxHeartbeats 1600000 in
theorem lit_any (s : ByteArray) (hs : s.size ≤ 1048576) (w : World) :
    Calls Try.prog 43 #[.string s] w fun e w' => Tells (IsLit s) e ∧ w' = w := by
  by_cases h3 : 3 ≤ s.size
  · by_cases h0 : (s[0].toNat : Int) = 91
    · have h0b : ((s[0].toNat : Int) != 91) = false := by rw [h0]; rfl
      by_cases h1 : (s[s.size - 1].toNat : Int) = 93
      · have h1b : ((s[s.size - 1].toNat : Int) != 93) = false := by rw [h1]; rfl
        have H0 : Hid ((s[0].toNat : Int) = 91) := h0
        have H1 : Hid ((s[s.size - 1].toNat : Int) = 93) := h1
        clear h0 h1
        go_enter Try.func43, Try.ntmps43
        go_wp2
        go_loop [3] (fun t => ∃ k : Nat, t = .int .i64 (k : Nat) ∧ 1 ≤ k ∧ k ≤ s.size - 1 ∧ allIn litCh s 1 k) (fun t => s.size - (intOf t).toNat)
        case atStart => exact ⟨1, rfl, by omega, by omega, allIn.nil _ _ _⟩
        case round =>
          obtain ⟨k, rfl, hk1, hk2, hall⟩ := hrel
          by_cases hlt : k < s.size - 1
          · have hks : k < s.size := by omega
            cases hc : litCh (s[k].toNat : Int) with
            | true =>
              have R := hall.succ hks hc
              obtain ⟨c1, c2, c3, c4, c5⟩ := litCh_yes hc
              clear hall hc
              go_wp2
              go_round
              case rel => exact ⟨k + 1, by go_num, by omega, by omega, R⟩
              case measure => simp [intOf]; omega
            | false =>
              have R : Hid (¬ IsLit s) := by
                show ¬ _
                rintro ⟨_, _, _, h⟩
                have := h k hks hk1 hlt
                rw [hc] at this
                cases this
              have hno := litCh_no hc
              clear hall hc
              rcases hno with c | c | c | c | c
              all_goals
                go_wp2
                go_ret
                exact ⟨Tells.no R.out, rfl⟩
          · have R : Hid (IsLit s) := ⟨h3, H0.out, H1.out, fun j hj h1 h2 => hall j hj h1 (by omega)⟩
            clear hall
            go_wp2
            go_ret
            exact ⟨Tells.yes R.out, rfl⟩
      · have h1b : ((s[s.size - 1].toNat : Int) != 93) = true := by rw [bne_iff_ne]; exact h1
        have R : Hid (¬ IsLit s) := fun ⟨_, _, h, _⟩ => h1 h
        clear h1 h0
        go_enter Try.func43, Try.ntmps43
        go_wp2
        go_ret
        exact ⟨Tells.no R.out, rfl⟩
    · have h0b : ((s[0].toNat : Int) != 91) = true := by rw [bne_iff_ne]; exact h0
      have R : Hid (¬ IsLit s) := fun ⟨_, h, _, _⟩ => h0 h
      clear h0
      go_enter Try.func43, Try.ntmps43
      go_wp2
      go_ret
      exact ⟨Tells.no R.out, rfl⟩
  · go_enter Try.func43, Try.ntmps43
    go_wp2
    go_ret
    exact ⟨Tells.no (fun ⟨h, _⟩ => h3 h), rfl⟩

set_option maxHeartbeats 1600000 in
theorem hop_any (s : ByteArray) (hs : s.size ≤ 1048576) (w : World) :
    Calls Try.prog 37 #[.string s] w fun e w' => Tells (IsHop s) e ∧ w' = w := by
  by_cases hp : 0 < s.size
  · have hn := toList_ne hp
    have hn2 : ¬ s.toList = [] := by intro h; rw [h] at hn; simp at hn
    by_cases h0 : (s[0].toNat : Int) = 91
    · have h0b : ((s[0].toNat : Int) == 91) = true := by rw [beq_iff_eq]; exact h0
      have R : IsLit s ↔ IsHop s := ⟨fun h => ⟨hp, .inl ⟨h0, h⟩⟩, fun ⟨_, h⟩ => h.elim (fun h => h.2) (fun h => absurd h0 h.1)⟩
      clear h0
      go_enter Try.func37, Try.ntmps37
      go_wp2_with fail
      refine (lit_any s hs _).mono ?_
      rintro e w1 ⟨⟨b, rfl, hb⟩, hw1⟩
      obtain rfl := hw1.symm
      have hb2 := hb.trans R
      have HB : Hid (b = true ↔ IsHop s) := hb2
      clear R hb hb2
      go_wp2_with fail
      go_ret
      exact ⟨⟨b, rfl, HB.out⟩, rfl⟩
    · have h0b : ((s[0].toNat : Int) == 91) = false := by rw [beq_eq_false_iff_ne]; exact h0
      have H0 : Hid (¬ (s[0].toNat : Int) = 91) := h0
      clear h0
      go_enter Try.func37, Try.ntmps37
      go_wp2
      go_loop [3] (fun t => ∃ k : Nat, t = .int .i64 (k : Nat) ∧ k ≤ s.size ∧ allIn hopCh s 0 k) (fun t => s.size - (intOf t).toNat)
      case atStart => exact ⟨0, rfl, by omega, allIn.nil _ _ _⟩
      case round =>
        obtain ⟨k, rfl, hk2, hall⟩ := hrel
        by_cases hlt : k < s.size
        · cases hc : hopCh (s[k].toNat : Int) with
          | true =>
            have R := hall.succ hlt hc
            have hy := hopCh_yes hc
            clear hall hc
            rcases hy with ⟨c, d⟩ | ⟨c, d⟩ | ⟨c, d⟩ | c | c | c
            all_goals
              go_wp2
              go_round
              case rel => exact ⟨k + 1, by go_num, by omega, R⟩
              case measure => simp [intOf]; omega
          | false =>
            have R : Hid (¬ IsHop s) := by
              show ¬ _
              rintro ⟨_, h | h⟩
              · exact H0.out h.1
              · have := h.2 k hlt (by omega) hlt
                rw [hc] at this
                cases this
            obtain ⟨c1, c2, c3, c4, c5, c6⟩ := hopCh_no hc
            clear hall hc
            go_wp2
            all_goals
              go_ret
              exact ⟨Tells.no R.out, rfl⟩
        · have R : Hid (IsHop s) := ⟨hp, .inr ⟨H0.out, fun j hj h1 _ => hall j hj h1 (by omega)⟩⟩
          clear hall
          go_wp2
          go_ret
          exact ⟨Tells.yes R.out, rfl⟩
  · have hn := toList_nil hp
    go_enter Try.func37, Try.ntmps37
    go_wp2
    go_ret
    exact ⟨Tells.no (fun ⟨h, _⟩ => hp h), rfl⟩

/-- A hop is ASCII, and not empty. -/
theorem IsHop.ascii {s : ByteArray} (h : IsHop s) : ∀ (j : Nat) b, s.data.toList[j]? = some b → b.toNat < 128 := by
  intro j b hb
  have hj : j < s.size := by have := (List.getElem?_eq_some_iff.1 hb).1; simpa using this
  have hbj : b = s[j] := by
    have := List.getElem?_eq_getElem (l := s.data.toList) (i := j) (by simpa using hj)
    rw [this] at hb
    cases hb
    rfl
  subst hbj
  obtain ⟨hp, ⟨h0, h3, _, h1, hall⟩ | ⟨_, hall⟩⟩ := h
  · by_cases e0 : j = 0
    · subst e0; omega
    · by_cases e1 : j = s.size - 1
      · subst e1; omega
      · have := litCh_yes (hall j hj (by omega) (by omega))
        omega
  · have := hopCh_yes (hall j hj (by omega) hj)
    omega

end Go.Proofs.Qxb6000014a
