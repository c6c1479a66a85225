/-
  hopsAre (17), where they are.
-/
import Derived.Test.Qxb6000014aPath
namespace Go.Proofs.Qxb6000014a
open Go.RowKit

/-- The slice value '.slice a n c' leads to the hops, at block g. -/
def HopRow (w : World) (a : Option Addr) (n : Nat) (hops : List (ByteArray × ByteArray)) (g : Nat) : Prop :=
  hops.length = n ∧ (0 < n → a = some ⟨g, 0, none⟩) ∧ ∀ j h, hops[j]? = some h → w.cell? ⟨g, j * 2, none⟩ = some (.string h.1) ∧ w.cell? ⟨g, j * 2 + 1, none⟩ = some (.string h.2)

theorem hcells_get : ∀ (l : List (ByteArray × ByteArray)) (j : Nat) (h : ByteArray × ByteArray), l[j]? = some h → (hcells l)[j * 2]? = some (.string h.1) ∧ (hcells l)[j * 2 + 1]? = some (.string h.2)
  | [], j, h, e => by simp at e
  | x :: l, 0, h, e => by
    simp at e
    subst e
    exact ⟨rfl, rfl⟩
  | x :: l, j + 1, h, e => by
    have ih := hcells_get l j h (by simpa using e)
    have e2 : hcells (x :: l) = Value.string x.1 :: Value.string x.2 :: hcells l := rfl
    rw [e2, show (j + 1) * 2 = j * 2 + 1 + 1 by omega, List.getElem?_cons_succ, List.getElem?_cons_succ, show j * 2 + 1 + 1 + 1 = (j * 2 + 1) + 1 + 1 by omega, List.getElem?_cons_succ, List.getElem?_cons_succ]
    exact ih

theorem OwnsH.hopRow {w : World} {base : Nat} {v : Value} {hops : List (ByteArray × ByteArray)} (h : OwnsH w base v hops) : ∃ a c g, v = .slice a hops.length c ∧ HopRow w a hops.length hops g := by
  rcases h.2 with ⟨h1, h2⟩ | ⟨g, cap, cur, h1, _⟩
  · have e : hops = [] := List.length_eq_zero_iff.1 h2
    subst e
    exact ⟨none, 0, 0, h1, rfl, by simp, by simp⟩
  · subst h1
    refine ⟨_, _, g, rfl, rfl, fun _ => rfl, fun j x hx => ?_⟩
    have hj : j < hops.length := (List.getElem?_eq_some_iff.1 hx).1
    have := hcells_get hops j x hx
    exact ⟨(World.ownsRow.cellAt h (j * 2) (by omega)).trans this.1, (World.ownsRow.cellAt h (j * 2 + 1) (by omega)).trans this.2⟩

theorem HopRow.below {w w' : World} {a : Option Addr} {n : Nat} {hops : List (ByteArray × ByteArray)} {g : Nat} (h : HopRow w a n hops g) (hb : Below w.heap.size w w') : HopRow w' a n hops g := by
  refine ⟨h.1, h.2.1, fun j x hx => ?_⟩
  obtain ⟨h1, h2⟩ := h.2.2 j x hx
  have hlt : g < w.heap.size := World.block_lt_of_cell? _ _ h1
  rw [hb.cell (p := ⟨g, j * 2, none⟩) hlt, hb.cell (p := ⟨g, j * 2 + 1, none⟩) hlt]
  exact ⟨h1, h2⟩

theorem HopRow.idx {w : World} {a : Option Addr} {n : Nat} {hops : List (ByteArray × ByteArray)} {g : Nat} (h : HopRow w a n hops g) {x k : Nat} (hk : x + k < n) :
    ∀ (c : Nat) (wx : World), (Instr.indexAt 33 (.slice a n c) (.int .i64 ((x : Int) + (k : Int)))).run Try.prog wx = .ok (.pointer (some ⟨g, (x + k) * 2, none⟩)) wx := by
  intro c wx
  rw [h.2.1 (by omega), show ((x : Int) + (k : Int)) = ((x + k : Nat) : Int) by omega, run_indexAt_slice (h := by kernel_rfl), if_pos (by omega)]
  have hs : (sizeOf (Try.prog.elem 33)).run Try.prog wx = .ok 2 wx := by kernel_rfl
  rw [hs]
  simp [Result.andThen, Addr.add]
  rw [show ((x : Int) + (k : Int)).toNat = x + k by omega]
  split
  · rename_i h
    rw [h]
  · rfl

set_option maxHeartbeats 1600000 in
theorem hopsAre_yes (a0 : Option Addr) (n0 c0 : Nat) (hops : List (ByteArray × ByteArray)) (g : Nat) (x : Nat) (a : Option Addr) (n c : Nat) (names : List ByteArray) (b o : Nat) (kd : ByteArray) (w : World)
    (hh : HopRow w a0 n0 hops g) (hr : StrRow w a n names b o) (hx : x + n ≤ n0) (hn0 : n0 ≤ 3000000) (hall : ∀ k s, names[k]? = some s → hops[x + k]? = some (s, kd)) :
    Calls Try.prog 17 #[.slice a0 n0 c0, .int .i64 (x : Nat), .slice a n c, .string kd] w fun e w' => e = .returned (.bool true) ∧ Below w.heap.size w w' := by
  have HA : Hid (∀ k s, names[k]? = some s → hops[x + k]? = some (s, kd)) := hall
  clear hall
  go_enter Try.func17, Try.ntmps17
  go_wp2_with fail
  go_loopw [9] (fun i wr => ∃ k : Nat, k ≤ n ∧ i = .int .i64 k ∧ Below w.heap.size w wr) (fun i _ => n - (intOf i).toNat)
  case atStart => exact ⟨0, Nat.zero_le _, rfl, Below.refl _ _⟩
  case round =>
    obtain ⟨k, hk, rfl, hbel⟩ := hrel
    by_cases hlt : k < n
    · have hr' := hr.below hbel
      have hh' := hh.below hbel
      have hi := hr'.idx hlt
      obtain ⟨s, _, hks, hcell⟩ := hr'.cell hlt
      have hi2 := hh'.idx (x := x) (k := k) (by omega)
      obtain ⟨hc0, hc1⟩ := hh'.2.2 _ _ (HA.out k s hks.out)
      have e1 : (s.toList == s.toList) = true := by simp
      have e2 : (kd.toList == kd.toList) = true := by simp
      have e3 : (s.toList != s.toList) = false := by simp
      have e4 : (kd.toList != kd.toList) = false := by simp
      have hbl : b < wr.heap.size := World.block_lt_of_cell? _ _ hcell
      clear hr' hh' hks
      go_wp2_with fail
      go_quiet (fail)
      go_wp2_with fail
      go_roundw
      case rel => exact ⟨k + 1, by omega, by go_num, (hbel.alloc hbel.size _).trans ⟨rfl, rfl, rfl, Nat.le_refl _, fun _ _ => rfl⟩⟩
      case measure => simp [intOf]; omega
    · go_wp2_with fail
      go_ret
      exact ⟨rfl, hbel⟩

end Go.Proofs.Qxb6000014a
