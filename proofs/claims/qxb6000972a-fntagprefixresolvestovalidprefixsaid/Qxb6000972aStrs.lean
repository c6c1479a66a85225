/-
  A SLICE OF STRINGS IN MEMORY ('StrRow': nil, empty or not, under one word); zzStrBytes (10), zzBytes_FnTagPrefixResolvesToValidPrefix (15).
-/
import Derived.Test.Qxb6000972aProg
import Derived.WalkKit
import Derived.WalkSpells
import Derived.WalkLawsBesides
namespace Go.Proofs.Qxb6000972a
open Go.RowKit

/-- The slice value '.slice a n c' leads to the strings ss: where there is one, at block b from cell o on. -/
def StrRow (w : World) (a : Option Addr) (n : Nat) (ss : List ByteArray) (b o : Nat) : Prop :=
  ss.length = n ∧ (0 < n → a = some ⟨b, o, none⟩) ∧ ∀ j, j < n → w.cell? ⟨b, o + j, none⟩ = some (.string (ss.getD j ByteArray.empty))

theorem StrRow.idx {w : World} {a : Option Addr} {n : Nat} {ss : List ByteArray} {b o : Nat} (h : StrRow w a n ss b o) {k : Nat} (hk : k < n) :
    ∀ (c : Nat) (wx : World), (Instr.indexAt 22 (.slice a n c) (.int .i64 (k : Int))).run Try.prog wx = .ok (.pointer (some ⟨b, o + k, none⟩)) wx := by
  intro c wx
  rw [h.2.1 (by omega), run_indexAt_slice (h := by kernel_rfl), if_pos (by omega)]
  have hs : (sizeOf (Try.prog.elem 22)).run Try.prog wx = .ok 1 wx := by kernel_rfl
  rw [hs]
  simp [Result.andThen, Addr.add]

theorem StrRow.cell {w : World} {a : Option Addr} {n : Nat} {ss : List ByteArray} {b o : Nat} (h : StrRow w a n ss b o) {k : Nat} (hk : k < n) :
    ∃ s, s ∈ ss ∧ Hid (ss[k]? = some s) ∧ w.cell? ⟨b, o + k, none⟩ = some (.string s) := by
  have hk' : k < ss.length := by rw [h.1]; exact hk
  refine ⟨ss[k], List.getElem_mem hk', List.getElem?_eq_getElem hk', ?_⟩
  rw [h.2.2 k hk]
  simp [hk']

set_option maxHeartbeats 400000 in
/-- zzStrBytes: some number that does not wrap. -/
theorem strBytes_any (a : Option Addr) (n c : Nat) (ss : List ByteArray) (b o : Nat) (w : World) (hr : StrRow w a n ss b o) (hn : n ≤ 1048576) :
    Calls Try.prog 10 #[.slice a n c] w fun e w' => (∃ t : Int, e = .returned (.int .i64 t) ∧ 0 ≤ t ∧ t ≤ 3000000) ∧ w' = w := by
  go_enter Try.func10, Try.ntmps10
  go_wp2
  go_loop [3, 4] (fun t i => ∃ (k : Nat) (x : Int), k ≤ n ∧ i = .int .i64 k ∧ t = .int .i64 x ∧ 0 ≤ x ∧ x ≤ 1048576) (fun _ i => n - (intOf i).toNat)
  case atStart => exact ⟨0, 0, Nat.zero_le _, rfl, rfl, by omega, by omega⟩
  case round =>
    obtain ⟨k, x, hk, rfl, rfl, hx0, hx1⟩ := hrel
    by_cases hlt : k < n
    · have hi := hr.idx hlt
      obtain ⟨s, _, _, hcell⟩ := hr.cell hlt
      go_wp2
      · go_ret
        exact ⟨⟨_, rfl, by omega, by omega⟩, rfl⟩
      · go_ret
        exact ⟨⟨_, rfl, by omega, by omega⟩, rfl⟩
      · go_round
        case rel => exact ⟨k + 1, _, by omega, by go_num, rfl, by omega, by omega⟩
        case measure => simp [intOf]; omega
    · go_wp2
      go_ret
      exact ⟨⟨_, rfl, by omega, by omega⟩, rfl⟩

/-- The first k strings are small. -/
def Small (ss : List ByteArray) (k : Nat) : Prop := ∀ s ∈ ss.take k, s.size ≤ 1048576
theorem Small.zero (ss : List ByteArray) : Small ss 0 := by intro s hs; simp at hs
theorem Small.succ {ss : List ByteArray} {k : Nat} (h : Small ss k) {s : ByteArray} (hk : Hid (ss[k]? = some s)) (hs : (s.size : Int) ≤ 1048576) : Small ss (k + 1) := by
  intro t ht
  rw [List.take_add_one, hk.out, List.mem_append] at ht
  rcases ht with ht | ht
  · exact h t ht
  · simp at ht
    subst ht
    omega
theorem Small.all {ss : List ByteArray} {k : Nat} (h : Small ss k) (hk : ss.length ≤ k) : ∀ s ∈ ss, s.size ≤ 1048576 := by
  intro s hs
  exact h s (by rw [List.take_of_length_le hk]; exact hs)

/-- What zzBytes answers: a bool; where it is true, everything is small. -/
def BytesSaid (n0 : Nat) (s0 : List ByteArray) (n1 : Nat) (s1 : List ByteArray) (h : ByteArray) (e : Ending) : Prop :=
  ∃ b : Bool, e = .returned (.bool b) ∧ (b = true → n0 ≤ 1048576 ∧ n1 ≤ 1048576 ∧ h.size ≤ 1048576 ∧ (∀ s ∈ s0, s.size ≤ 1048576) ∧ ∀ s ∈ s1, s.size ≤ 1048576)
theorem BytesSaid.no {n0 : Nat} {s0 : List ByteArray} {n1 : Nat} {s1 : List ByteArray} {h : ByteArray} : BytesSaid n0 s0 n1 s1 h (.returned (.bool false)) := ⟨false, rfl, by simp⟩

set_option maxHeartbeats 800000 in
theorem bytes_any (a0 : Option Addr) (n0 c0 : Nat) (s0 : List ByteArray) (b0 o0 : Nat) (a1 : Option Addr) (n1 c1 : Nat) (s1 : List ByteArray) (b1 o1 : Nat) (h : ByteArray) (w : World)
    (hr0 : StrRow w a0 n0 s0 b0 o0) (hr1 : StrRow w a1 n1 s1 b1 o1) (hm0 : n0 ≤ maxLen) (hm1 : n1 ≤ maxLen) (hmh : h.size ≤ maxLen) :
    Calls Try.prog 15 #[.slice a0 n0 c0, .slice a1 n1 c1, .string h] w fun e w' => BytesSaid n0 s0 n1 s1 h e ∧ w' = w := by
  unfold maxLen at hm0 hm1 hmh
  go_enter Try.func15, Try.ntmps15
  by_cases hn0 : n0 ≤ 1048576
  · go_wp2
    go_loop [7, 8] (fun t i => ∃ (k : Nat) (x : Int), k ≤ n0 ∧ i = .int .i64 k ∧ t = .int .i64 x ∧ 0 ≤ x ∧ x ≤ 1048576 ∧ Small s0 k) (fun _ i => n0 - (intOf i).toNat)
    case atStart => exact ⟨0, _, Nat.zero_le _, rfl, rfl, by omega, by omega, Small.zero _⟩
    case round =>
      obtain ⟨k, x, hk, rfl, rfl, hx0, hx1, hsm⟩ := hrel
      by_cases hlt : k < n0
      · have hi := hr0.idx hlt
        obtain ⟨s, _, hks, hcell⟩ := hr0.cell hlt
        go_wp2
        · go_ret
          exact ⟨BytesSaid.no, rfl⟩
        · go_ret
          exact ⟨BytesSaid.no, rfl⟩
        · go_round
          case rel => exact ⟨k + 1, _, by omega, by go_num, rfl, by omega, by omega, hsm.succ hks (by omega)⟩
          case measure => simp [intOf]; omega
      · have hs0 := hsm.all (by rw [hr0.1]; omega)
        have HS0 : Hid (∀ s ∈ s0, s.size ≤ 1048576) := hs0
        clear hs0 hsm
        by_cases hn1 : n1 ≤ 1048576
        · by_cases hs1 : x + n1 ≤ 1048576
          · go_wp2
            go_loop [7, 9] (fun t i => ∃ (k : Nat) (x : Int), k ≤ n1 ∧ i = .int .i64 k ∧ t = .int .i64 x ∧ 0 ≤ x ∧ x ≤ 1048576 ∧ Small s1 k) (fun _ i => n1 - (intOf i).toNat)
            case atStart => exact ⟨0, _, Nat.zero_le _, rfl, rfl, by omega, by omega, Small.zero _⟩
            case round =>
              obtain ⟨k, x, hk, rfl, rfl, hx0, hx1, hsm⟩ := hrel
              by_cases hlt : k < n1
              · have hi := hr1.idx hlt
                obtain ⟨s, _, hks, hcell⟩ := hr1.cell hlt
                go_wp2
                · go_ret
                  exact ⟨BytesSaid.no, rfl⟩
                · go_ret
                  exact ⟨BytesSaid.no, rfl⟩
                · go_round
                  case rel => exact ⟨k + 1, _, by omega, by go_num, rfl, by omega, by omega, hsm.succ hks (by omega)⟩
                  case measure => simp [intOf]; omega
              · have hs1 := hsm.all (by rw [hr1.1]; omega)
                have HS1 : Hid (∀ s ∈ s1, s.size ≤ 1048576) := hs1
                clear hs1 hsm
                go_wp2
                · go_ret
                  exact ⟨BytesSaid.no, rfl⟩
                · go_ret
                  exact ⟨BytesSaid.no, rfl⟩
                · go_ret
                  exact ⟨⟨true, rfl, fun _ => ⟨hn0, hn1, by omega, HS0.out, HS1.out⟩⟩, rfl⟩
          · go_wp2
            go_ret
            exact ⟨BytesSaid.no, rfl⟩
        · go_wp2
          go_ret
          exact ⟨BytesSaid.no, rfl⟩
  · go_wp2
    go_ret
    exact ⟨BytesSaid.no, rfl⟩

end Go.Proofs.Qxb6000972a
