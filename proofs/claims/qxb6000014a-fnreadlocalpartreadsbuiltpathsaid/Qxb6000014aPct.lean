/-
  lastSinglePercent (33).
-/
import Derived.Test.Qxb6000014aBang
namespace Go.Proofs.Qxb6000014a
open Go.RowKit

/-- A single '%' at k. -/
def Sing (s : ByteArray) (k : Nat) : Prop := ∃ h : k < s.size, (s[k].toNat : Int) = 37 ∧ (k = 0 ∨ ∃ h' : k - 1 < s.size, ¬ (s[k - 1].toNat : Int) = 37) ∧ (k + 1 = s.size ∨ ∃ h' : k + 1 < s.size, ¬ (s[k + 1].toNat : Int) = 37)
/-- What lastSinglePercent answers of s[l:r]. -/
def LP (s : ByteArray) (l r : Nat) (p : Int) (hop : ByteArray) : Prop :=
  (p = -1 ∧ hop = emptyB ∧ ∀ k : Nat, l ≤ k → k < r → ¬ Sing s k) ∨
  ∃ i : Nat, p = i ∧ l ≤ i ∧ i < r ∧ Sing s i ∧ (∀ k : Nat, i < k → k < r → ¬ Sing s k) ∧
    ((¬ IsHop (s.extract (i + 1) r) ∧ hop = emptyB) ∨ (IsHop (s.extract (i + 1) r) ∧ hop = s.extract (i + 1) r))
def PctSaid (s : ByteArray) (l r : Nat) (w : World) (e : Ending) (w' : World) : Prop :=
  ∃ (p : Int) (hop : ByteArray), e = .returned (.tuple #[.int .i64 p, .string hop]) ∧ LP s l r p hop ∧ w' = w

/-- A '%' may stand to the left, to the right. -/
def LeftOk (s : ByteArray) (k : Nat) : Prop := ((k : Int) == 0) = true ∨ (((k : Int) == 0) = false ∧ 0 < k ∧ ∃ h : k - 1 < s.size, ((s[k - 1].toNat : Int) != 37) = true)
def RightOk (s : ByteArray) (k : Nat) : Prop := ((k : Int) + 1 == (s.size : Int)) = true ∨ (((k : Int) + 1 == (s.size : Int)) = false ∧ ∃ h : k + 1 < s.size, ((s[k + 1].toNat : Int) != 37) = true)
/-- The ways a place is no single '%', and the ways it is. -/
theorem sing_ways (s : ByteArray) (k : Nat) (hk : k < s.size) :
    (¬ Sing s k ∧ (((s[k].toNat : Int) == 37) = false ∨
      (((s[k].toNat : Int) == 37) = true ∧ ((k : Int) == 0) = false ∧ 0 < k ∧ ∃ h : k - 1 < s.size, ((s[k - 1].toNat : Int) != 37) = false) ∨
      (((s[k].toNat : Int) == 37) = true ∧ LeftOk s k ∧ ((k : Int) + 1 == (s.size : Int)) = false ∧ ∃ h : k + 1 < s.size, ((s[k + 1].toNat : Int) != 37) = false))) ∨
    (Sing s k ∧ ((s[k].toNat : Int) == 37) = true ∧ LeftOk s k ∧ RightOk s k) := by
  by_cases h0 : (s[k].toNat : Int) = 37
  · have b0 : ((s[k].toNat : Int) == 37) = true := by rw [beq_iff_eq]; exact h0
    have rest : LeftOk s k → (k = 0 ∨ ∃ h' : k - 1 < s.size, ¬ (s[k - 1].toNat : Int) = 37) := by
      rintro (h | ⟨_, _, h', h⟩)
      · rw [beq_iff_eq] at h; exact .inl (by omega)
      · exact .inr ⟨h', by simpa using h⟩
    by_cases hz : LeftOk s k
    · by_cases h2 : k + 1 < s.size
      · have e2 : ((k : Int) + 1 == (s.size : Int)) = false := by rw [beq_eq_false_iff_ne]; omega
        by_cases h3 : (s[k + 1].toNat : Int) = 37
        · refine .inl ⟨?_, .inr (.inr ⟨b0, hz, e2, h2, by rw [h3]; rfl⟩)⟩
          rintro ⟨_, _, _, h | ⟨_, h⟩⟩
          · omega
          · exact h h3
        · refine .inr ⟨⟨hk, h0, rest hz, .inr ⟨h2, h3⟩⟩, b0, hz, .inr ⟨e2, h2, ?_⟩⟩
          rw [bne_iff_ne]; exact h3
      · exact .inr ⟨⟨hk, h0, rest hz, .inl (by omega)⟩, b0, hz, .inl (by rw [beq_iff_eq]; omega)⟩
    · have hk0 : k ≠ 0 := fun h => hz (.inl (by rw [h]; rfl))
      have e0 : ((k : Int) == 0) = false := by rw [beq_eq_false_iff_ne]; omega
      have hkp : 0 < k := Nat.pos_of_ne_zero hk0
      have hkm : k - 1 < s.size := by omega
      refine .inl ⟨?_, .inr (.inl ⟨b0, e0, hkp, hkm, ?_⟩)⟩
      · rintro ⟨_, _, h | ⟨h', h⟩, _⟩
        · exact hk0 h
        · exact hz (.inr ⟨e0, hkp, h', by rw [bne_iff_ne]; exact h⟩)
      · cases hb : ((s[k - 1].toNat : Int) != 37)
        · rfl
        · exact absurd (.inr ⟨e0, hkp, hkm, hb⟩) hz
  · refine .inl ⟨fun ⟨_, h, _⟩ => h0 h, .inl ?_⟩
    rw [beq_eq_false_iff_ne]; exact h0

set_option maxHeartbeats 1600000 in
theorem pct_any (s : ByteArray) (l r : Nat) (hs : s.size ≤ 1048576) (hl : l ≤ r) (hr : r ≤ s.size) (w : World) :
    Calls Try.prog 33 #[.string s, .int .i64 l, .int .i64 r] w fun e w' => PctSaid s l r w e w' := by
  go_enter Try.func33, Try.ntmps33
  go_wp2
  go_loop [8] (fun t => ∃ z : Int, t = .int .i64 z ∧ (l : Int) ≤ z + 1 ∧ z < r ∧ Hid (∀ k : Nat, z < k → k < r → ¬ Sing s k)) (fun t => (intOf t + 1).toNat)
  case atStart => exact ⟨(r : Int) - 1, rfl, by omega, by omega, fun k h1 h2 => by omega⟩
  case round =>
    obtain ⟨z, rfl, hz1, hz2, HA⟩ := hrel
    by_cases hlz : (l : Int) ≤ z
    · obtain ⟨k, rfl⟩ := Int.eq_ofNat_of_zero_le (show 0 ≤ z by omega)
      have hk : k < s.size := by omega
      rcases sing_ways s k hk with ⟨hno, hw⟩ | ⟨hyes, hw⟩
      · have R : Hid (∀ j : Nat, (k : Int) - 1 < j → j < r → ¬ Sing s j) := by
          intro j h1 h2
          by_cases e : j = k
          · rw [e]; exact hno
          · exact HA.out j (by omega) h2
        clear hno HA
        rcases hw with c | ⟨c, d1, d2, d3, d4⟩ | ⟨c, d1 | ⟨d1, d2, d3, d4⟩, f1, f2, f3⟩
        all_goals
          go_wp2
          go_round
          case rel => exact ⟨_, rfl, by omega, by omega, R⟩
          case measure => simp [intOf] <;> omega
      · have HS : Hid (Sing s k) := hyes
        have hxs : (s.extract (k + 1) r).size ≤ 1048576 := by rw [ByteArray.size_extract]; omega
        clear hyes
        rcases hw with ⟨c, d1 | ⟨d1, d2, d3, d4⟩, f1 | ⟨f1, f2, f3⟩⟩
        all_goals
          go_wp2_with fail
          refine (hop_any (s.extract (k + 1) r) hxs _).mono ?_
          rintro e w1 ⟨⟨b, rfl, hb⟩, hw1⟩
          obtain rfl := hw1.symm
          clear hw1
          cases b with
          | true =>
            have HB : Hid (IsHop (s.extract (k + 1) r)) := hb.1 rfl
            clear hb
            go_wp2_with fail
            go_ret2
            exact ⟨_, _, rfl, .inr ⟨k, rfl, by omega, by omega, HS.out, fun j h1 h2 => HA.out j (by omega) h2, .inr ⟨HB.out, rfl⟩⟩, rfl⟩
          | false =>
            have HB : Hid (¬ IsHop (s.extract (k + 1) r)) := fun h => by have := hb.2 h; cases this
            clear hb
            go_wp2_with fail
            go_ret2
            exact ⟨_, _, rfl, .inr ⟨k, rfl, by omega, by omega, HS.out, fun j h1 h2 => HA.out j (by omega) h2, .inl ⟨HB.out, rfl⟩⟩, rfl⟩
    · go_wp2
      go_ret2
      exact ⟨_, _, rfl, .inl ⟨rfl, rfl, fun j h1 h2 => HA.out j (by omega) h2⟩, rfl⟩

end Go.Proofs.Qxb6000014a
