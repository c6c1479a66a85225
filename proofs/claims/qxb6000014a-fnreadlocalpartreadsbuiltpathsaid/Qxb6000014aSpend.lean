/-
  ZZreadLocalPart (16); the law FnReadLocalPartSpendsASeparatorAndANamePerHop (7), its walk.
-/
import Derived.Test.Qxb6000014aRead
namespace Go.Proofs.Qxb6000014a
open Go.RowKit

theorem zread_any (s : ByteArray) (pf : Bool) (J : Nat → Nat → List (ByteArray × ByteArray) → Prop) (hJ : Kept s pf J) (hs : s.size ≤ 1048576) (h0 : J 0 s.size []) (w : World) :
    Calls Try.prog 16 #[.string s, .bool pf, .slice none 0 0] w fun e w' => ReadSaid s J w e w' := by
  go_enter Try.func16, Try.ntmps16
  go_wp2_with fail
  refine (read_any s pf J hJ hs h0 _).mono ?_
  rintro e w1 ⟨v, lo, hi, b, bn, bk, p, pn, hops, rfl, hrest⟩
  have HR : Hid (Cand s lo hi b bn bk p pn ∧ J lo hi hops ∧ ¬ CanB hi b bn ∧ ¬ CanP lo p pn ∧ 2 * hops.length + (hi - lo) ≤ s.size ∧ OwnsH w1 w.heap.size v hops ∧ Below w.heap.size w w1) := hrest
  clear hrest
  go_wp2_with fail
  go_ret2
  exact ⟨_, _, _, _, _, _, _, _, _, rfl, HR.out⟩

theorem bytes19 (s : ByteArray) (pf : Bool) (hs : s.size ≤ 1048576) (w : World) :
    Calls Try.prog 19 #[.string s, .bool pf] w fun e w' => e = .returned (.bool true) ∧ w' = w := by
  go_enter Try.func19, Try.ntmps19
  go_wp2
  go_ret
  exact ⟨rfl, rfl⟩
theorem bytes19_no (s : ByteArray) (pf : Bool) (hm : s.size ≤ 9223372036854775807) (hs : ¬ s.size ≤ 1048576) (w : World) :
    Calls Try.prog 19 #[.string s, .bool pf] w fun e w' => e = .returned (.bool false) ∧ w' = w := by
  go_enter Try.func19, Try.ntmps19
  go_wp2
  go_ret
  exact ⟨rfl, rfl⟩

/-- The separators ahead of k. -/
def seps (s : ByteArray) : Nat → Nat
  | 0 => 0
  | k + 1 => seps s k + (if h : k < s.size then (if (s[k].toNat : Int) = 33 ∨ (s[k].toNat : Int) = 37 then 1 else 0) else 0)
theorem seps_yes {s : ByteArray} {k : Nat} (h : k < s.size) (hc : (s[k].toNat : Int) = 33 ∨ (s[k].toNat : Int) = 37) : seps s (k + 1) = seps s k + 1 := by
  rw [seps, dif_pos h, if_pos hc]
theorem seps_no {s : ByteArray} {k : Nat} (h : k < s.size) (hc : ¬ ((s[k].toNat : Int) = 33 ∨ (s[k].toNat : Int) = 37)) : seps s (k + 1) = seps s k := by
  rw [seps, dif_pos h, if_neg hc, Nat.add_zero]
theorem seps_le (s : ByteArray) (k : Nat) : seps s k ≤ k := by
  induction k with
  | zero => exact Nat.le_refl _
  | succ k ih =>
    rw [seps]
    split
    · split <;> omega
    · omega
theorem seps_mono (s : ByteArray) {a b : Nat} (h : a ≤ b) : seps s a ≤ seps s b := by
  induction h with
  | refl => exact Nat.le_refl _
  | step _ ih => exact Nat.le_trans ih (by rw [seps]; exact Nat.le_add_right _ _)

/-- What the reading spends. -/
def Spent (s : ByteArray) (lo hi : Nat) (hops : List (ByteArray × ByteArray)) : Prop := (0 < s.size → lo < hi) ∧ hops.length + seps s hi ≤ seps s lo + seps s s.size
theorem spent_kept (s : ByteArray) (pf : Bool) : Kept s pf (Spent s) := by
  refine ⟨fun lo hi b bn bk p pn hops hc hj hp _ => ?_, fun lo hi b bn bk p pn hops hc hj _ hb => ?_⟩
  · obtain ⟨i, rfl, h1, h2, ⟨h3, h4, _⟩, _⟩ := hp.lt hc
    have e := seps_yes h3 (.inr h4)
    have m := seps_mono s (show i + 1 ≤ hi by omega)
    obtain ⟨j1, j2⟩ := hj
    refine ⟨fun _ => by simpa using h1, ?_⟩
    rw [List.length_append, Int.toNat_natCast]
    simp only [List.length_singleton]
    omega
  · obtain ⟨i, rfl, h1, h2, _, ⟨h3, h4⟩⟩ := hb.lt hc
    have e := seps_yes h3 (.inl (by rw [h4]; rfl))
    have m := seps_mono s (show lo ≤ i by omega)
    obtain ⟨j1, j2⟩ := hj
    have ei : ((i : Int) + 1).toNat = i + 1 := by omega
    refine ⟨fun _ => by rw [ei]; omega, ?_⟩
    rw [List.length_append, ei]
    simp only [List.length_singleton]
    omega

set_option maxHeartbeats 1600000 in
theorem law7 (s : ByteArray) (pf : Bool) (hm : s.size ≤ maxLen) (w : World) :
    Calls Try.prog 7 #[.string s, .bool pf] w fun e w' => e = .returned (.bool true) ∧ Below w.heap.size w w' := by
  unfold maxLen at hm
  by_cases hs : s.size ≤ 1048576
  · go_enter Try.func7, Try.ntmps7
    go_wp2_with fail
    refine (bytes19 s pf hs _).mono ?_
    rintro e w1 ⟨rfl, hw1⟩
    obtain rfl := hw1.symm
    clear hw1
    go_wp2_with fail
    refine (zread_any s pf (Spent s) (spent_kept s pf) hs ⟨fun h => h, by simp⟩ _).mono ?_
    rintro e w2 ⟨v, lo, hi, b, bn, bk, p, pn, hops, rfl, hc, ⟨hj1, hj2⟩, _, _, hlen, hown, hbel⟩
    have hlh : lo ≤ hi := hc.1
    have hhs : hi ≤ s.size := hc.2.1
    have hm2 := seps_mono s hlh
    have hn : hops.length ≤ seps s s.size := by omega
    have hl := seps_le s s.size
    obtain ⟨a, cp, hv⟩ : ∃ a cp, v = .slice a hops.length cp := by
      rcases hown.2 with ⟨h1, h2⟩ | ⟨g, cap, _, h1, _⟩
      · exact ⟨none, 0, by rw [h1, h2]⟩
      · exact ⟨_, _, h1⟩
    subst hv
    have hxs : (s.extract lo hi).size = hi - lo := by rw [ByteArray.size_extract]; omega
    obtain ⟨x, hx⟩ : ∃ x, s.extract lo hi = x := ⟨_, rfl⟩
    rw [hx] at hxs ⊢
    have hne : 0 < s.size → x.toList.isEmpty = false ∧ ¬ x.toList = [] := fun h => by
      have : 0 < x.size := by have := hj1 h; omega
      exact ⟨toList_ne this, ne_of_isEmpty this⟩
    obtain ⟨n, hnn⟩ : ∃ n, hops.length = n := ⟨_, rfl⟩
    rw [hnn] at hn hlen ⊢
    clear hc hj1 hj2 hown hnn hx
    by_cases hz : 0 < s.size
    · obtain ⟨hne1, hne2⟩ := hne hz
      clear hne
      go_wp2_with fail
      go_loop [7, 8] (fun c t => ∃ k : Nat, t = .int .i64 (k : Nat) ∧ c = .int .i64 (seps s k : Nat) ∧ k ≤ s.size) (fun _ t => s.size - (intOf t).toNat)
      case atStart => exact ⟨0, rfl, rfl, Nat.zero_le _⟩
      case round =>
        obtain ⟨k, rfl, rfl, hk⟩ := hrel
        have hlk := seps_le s k
        by_cases hlt : k < s.size
        · by_cases h1 : (s[k].toNat : Int) = 33
          · have e := seps_yes hlt (.inl h1)
            have h1b : ((s[k].toNat : Int) == 33) = true := by rw [beq_iff_eq]; exact h1
            clear h1
            have E : Hid (seps s (k + 1) = seps s k + 1) := e
            clear e
            go_wp2_with fail
            go_round
            case rel => exact ⟨k + 1, by go_num, by rw [E.out]; go_num, by omega⟩
            case measure => simp [intOf]; omega
          · have h1b : ((s[k].toNat : Int) == 33) = false := by rw [beq_eq_false_iff_ne]; exact h1
            by_cases h2 : (s[k].toNat : Int) = 37
            · have e := seps_yes hlt (.inr h2)
              have h2b : ((s[k].toNat : Int) == 37) = true := by rw [beq_iff_eq]; exact h2
              clear h1 h2
              have E : Hid (seps s (k + 1) = seps s k + 1) := e
              clear e
              go_wp2_with fail
              go_round
              case rel => exact ⟨k + 1, by go_num, by rw [E.out]; go_num, by omega⟩
              case measure => simp [intOf]; omega
            · have e := seps_no hlt (fun h => h.elim h1 h2)
              have h2b : ((s[k].toNat : Int) == 37) = false := by rw [beq_eq_false_iff_ne]; exact h2
              clear h1 h2
              have E : Hid (seps s (k + 1) = seps s k) := e
              clear e
              go_wp2_with fail
              go_round
              case rel => exact ⟨k + 1, by go_num, by rw [E.out], by omega⟩
              case measure => simp [intOf]; omega
        · obtain rfl : k = s.size := by omega
          go_wp2_with fail
          go_ret
          exact ⟨ret_bool (by rw [decide_eq_true_iff]; omega), hbel⟩
    · clear hne
      go_wp2_with fail
      go_loop [7, 8] (fun c t => ∃ k : Nat, t = .int .i64 (k : Nat) ∧ c = .int .i64 (seps s k : Nat) ∧ k ≤ s.size) (fun _ t => s.size - (intOf t).toNat)
      case atStart => exact ⟨0, rfl, rfl, Nat.zero_le _⟩
      case round =>
        obtain ⟨k, rfl, rfl, hk⟩ := hrel
        obtain rfl : k = s.size := by omega
        go_wp2_with fail
        go_ret
        exact ⟨ret_bool (by rw [decide_eq_true_iff]; omega), hbel⟩
  · go_enter Try.func7, Try.ntmps7
    go_wp2_with fail
    refine (bytes19_no s pf hm hs _).mono ?_
    rintro e w1 ⟨rfl, hw1⟩
    obtain rfl := hw1.symm
    clear hw1
    go_wp2_with fail
    go_ret
    exact ⟨rfl, Below.refl _ _⟩

end Go.Proofs.Qxb6000014a
