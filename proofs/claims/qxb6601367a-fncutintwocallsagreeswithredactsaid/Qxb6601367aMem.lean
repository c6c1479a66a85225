/-
  SLICES OF BYTES AND OF SLICES OF BYTES IN MEMORY (nil, empty or not, under one word); worlds that differ by draws alone; eqBytes (14).
-/
import Derived.Test.Qxb6601367aProg
import Derived.WalkKit
import Derived.WalkSpells
import Derived.WalkLawsBesides
import Derived.Deep.QuietTactic
import Derived.BigQuiet
namespace Go.Proofs.Qxb6601367a
open Go.RowKit

/-- w' is w but for draws. -/
def Same (w w' : World) : Prop := w'.heap = w.heap ∧ w'.os = w.os ∧ w'.tape = w.tape ∧ w'.output = w.output
theorem Same.refl (w : World) : Same w w := ⟨rfl, rfl, rfl, rfl⟩
theorem Same.trans {a b c : World} (h : Same a b) (k : Same b c) : Same a c := ⟨k.1.trans h.1, k.2.1.trans h.2.1, k.2.2.1.trans h.2.2.1, k.2.2.2.trans h.2.2.2⟩
theorem Same.drewN (w : World) (q : Nat) : Same w (w.drewN q) := by
  induction q with
  | zero => exact Same.refl _
  | succ q ih => exact ih.trans ⟨rfl, rfl, rfl, rfl⟩
theorem Same.cell {w w' : World} (h : Same w w') (a : Addr) : w'.cell? a = w.cell? a := by unfold World.cell?; rw [h.1]
theorem Same.frozen {w w' : World} (h : Same w w') (a : Addr) : w'.frozen? a = w.frozen? a := by unfold World.frozen?; rw [h.1]
theorem Same.below {w w' : World} (h : Same w w') (B : Nat) : Below B w w' := ⟨h.2.1, h.2.2.1, h.2.2.2, by rw [h.1]; exact Nat.le_refl _, fun k _ => by rw [h.1]⟩
theorem Same.owns {w w' : World} (h : Same w w') {base e size n : Nat} {v : Value} {xs : List Value} (ho : w.ownsRow base e size v n xs) : w'.ownsRow base e size v n xs := by
  unfold World.ownsRow at ho ⊢; rw [h.1]; exact ho

/-- The slice value '.slice a n c' leads to the bytes l: where there is one, at block b from cell o on. -/
def BRow (w : World) (a : Option Addr) (n : Nat) (l : List UInt8) (b o : Nat) : Prop :=
  l.length = n ∧ (0 < n → a = some ⟨b, o, none⟩) ∧ ∀ j, j < n → w.cell? ⟨b, o + j, none⟩ = some (.int .u8 ((l.getD j 0).toNat : Nat))

theorem BRow.idx {w : World} {a : Option Addr} {n : Nat} {l : List UInt8} {b o : Nat} (h : BRow w a n l b o) {k : Nat} (hk : k < n) :
    ∀ (c : Nat) (wx : World), (Instr.indexAt 23 (.slice a n c) (.int .i64 (k : Int))).run Try.prog wx = .ok (.pointer (some ⟨b, o + k, none⟩)) wx := by
  intro c wx
  rw [h.2.1 (by omega), run_indexAt_slice (h := by kernel_rfl), if_pos (by omega)]
  have hs : (sizeOf (Try.prog.elem 23)).run Try.prog wx = .ok 1 wx := by kernel_rfl
  rw [hs]
  simp [Result.andThen, Addr.add]
theorem BRow.cell {w : World} {a : Option Addr} {n : Nat} {l : List UInt8} {b o : Nat} (h : BRow w a n l b o) {k : Nat} (hk : k < n) :
    ∃ u : UInt8, Hid (l[k]? = some u) ∧ w.cell? ⟨b, o + k, none⟩ = some (.int .u8 (u.toNat : Nat)) := by
  have hk' : k < l.length := by rw [h.1]; exact hk
  refine ⟨l[k], List.getElem?_eq_getElem hk', ?_⟩
  rw [h.2.2 k hk]
  simp [hk']
theorem BRow.below {w w' : World} {a : Option Addr} {n : Nat} {l : List UInt8} {b o : Nat} (h : BRow w a n l b o) {B : Nat} (hb : Below B w w') (hB : w.heap.size ≤ B) : BRow w' a n l b o := by
  refine ⟨h.1, h.2.1, fun j hj => ?_⟩
  have hc := h.2.2 j hj
  have hlt : b < w.heap.size := World.block_lt_of_cell? _ _ hc
  rw [hb.cell (p := ⟨b, o + j, none⟩) (Nat.lt_of_lt_of_le hlt hB)]
  exact hc
theorem BRow.same {w w' : World} {a : Option Addr} {n : Nat} {l : List UInt8} {b o : Nat} (h : BRow w a n l b o) (hs : Same w w') : BRow w' a n l b o := h.below (hs.below w.heap.size) (Nat.le_refl _)

/-- A slice of bytes that is an element. -/
structure Sl where
  a : Option Addr
  c : Nat
  l : List UInt8
  b : Nat
  o : Nat

/-- The slice value '.slice a n c' leads to the slices vs. -/
def VRow (w : World) (a : Option Addr) (n : Nat) (vs : List Sl) (b o : Nat) : Prop :=
  vs.length = n ∧ (0 < n → a = some ⟨b, o, none⟩) ∧ ∀ (j : Nat) s, vs[j]? = some s → w.cell? ⟨b, o + j, none⟩ = some (.slice s.a s.l.length s.c) ∧ BRow w s.a s.l.length s.l s.b s.o ∧ s.l.length ≤ maxLen

theorem VRow.idx {w : World} {a : Option Addr} {n : Nat} {vs : List Sl} {b o : Nat} (h : VRow w a n vs b o) {k : Nat} (hk : k < n) :
    ∀ (c : Nat) (wx : World), (Instr.indexAt 22 (.slice a n c) (.int .i64 (k : Int))).run Try.prog wx = .ok (.pointer (some ⟨b, o + k, none⟩)) wx := by
  intro c wx
  rw [h.2.1 (by omega), run_indexAt_slice (h := by kernel_rfl), if_pos (by omega)]
  have hs : (sizeOf (Try.prog.elem 22)).run Try.prog wx = .ok 1 wx := by kernel_rfl
  rw [hs]
  simp [Result.andThen, Addr.add]
theorem VRow.cell {w : World} {a : Option Addr} {n : Nat} {vs : List Sl} {b o : Nat} (h : VRow w a n vs b o) {k : Nat} (hk : k < n) :
    ∃ s : Sl, Hid (vs[k]? = some s) ∧ w.cell? ⟨b, o + k, none⟩ = some (.slice s.a s.l.length s.c) ∧ BRow w s.a s.l.length s.l s.b s.o ∧ s.l.length ≤ maxLen := by
  have hk' : k < vs.length := by rw [h.1]; exact hk
  have e := List.getElem?_eq_getElem hk'
  exact ⟨vs[k], e, h.2.2 k _ e⟩
theorem VRow.below {w w' : World} {a : Option Addr} {n : Nat} {vs : List Sl} {b o : Nat} (h : VRow w a n vs b o) {B : Nat} (hb : Below B w w') (hB : w.heap.size ≤ B) : VRow w' a n vs b o := by
  refine ⟨h.1, h.2.1, fun j s hj => ?_⟩
  obtain ⟨hc, hr, hm⟩ := h.2.2 j s hj
  have hlt : b < w.heap.size := World.block_lt_of_cell? _ _ hc
  refine ⟨?_, hr.below hb hB, hm⟩
  rw [hb.cell (p := ⟨b, o + j, none⟩) (Nat.lt_of_lt_of_le hlt hB)]
  exact hc
theorem VRow.same {w w' : World} {a : Option Addr} {n : Nat} {vs : List Sl} {b o : Nat} (h : VRow w a n vs b o) (hs : Same w w') : VRow w' a n vs b o := h.below (hs.below w.heap.size) (Nat.le_refl _)

theorem ret_bool {a b : Bool} (h : a = b) : Ending.returned (.bool a) = .returned (.bool b) := by rw [h]
theorem u8_ne {u v : UInt8} (h : ¬ (u.toNat : Int) = (v.toNat : Int)) : u ≠ v := fun e => h (by rw [e])
theorem u8_eq {u v : UInt8} (h : (u.toNat : Int) = (v.toNat : Int)) : u = v := UInt8.toNat_inj.1 (by omega)

theorem take_both {l0 l1 : List UInt8} {k : Nat} {u v : UInt8} (h : l0.take k = l1.take k) (h0 : Hid (l0[k]? = some u)) (h1 : Hid (l1[k]? = some v)) (e : u = v) : l0.take (k + 1) = l1.take (k + 1) := by
  rw [List.take_add_one, List.take_add_one, h, h0.out, h1.out, e]
theorem differ {l0 l1 : List UInt8} {k : Nat} {u v : UInt8} (h0 : Hid (l0[k]? = some u)) (h1 : Hid (l1[k]? = some v)) (e : u ≠ v) : decide (l0 = l1) = false := by
  rw [decide_eq_false_iff_not]
  intro h
  have h0 := h0.out
  rw [h, h1.out] at h0
  cases h0
  exact e rfl

set_option maxHeartbeats 400000 in
theorem eqBytes_len (a0 : Option Addr) (n0 c0 : Nat) (l0 : List UInt8) (b0 o0 : Nat) (a1 : Option Addr) (n1 c1 : Nat) (l1 : List UInt8) (b1 o1 : Nat) (w : World) (h0 : BRow w a0 n0 l0 b0 o0) (h1 : BRow w a1 n1 l1 b1 o1) (hn : n0 ≠ n1) :
    Calls Try.prog 14 #[.slice a0 n0 c0, .slice a1 n1 c1] w fun e w' => e = .returned (.bool (decide (l0 = l1))) ∧ Same w w' := by
  have hv : decide (l0 = l1) = false := by
    rw [decide_eq_false_iff_not]; intro h; rw [h] at h0; exact hn (h0.1.symm.trans h1.1)
  rw [hv]
  clear hv
  have hne : ((n0 : Int) != (n1 : Int)) = true := by simp; omega
  go_enter Try.func14, Try.ntmps14
  go_wp2
  go_ret
  exact ⟨rfl, Same.refl _⟩

set_option maxHeartbeats 400000 in
theorem eqBytes_eq (a0 : Option Addr) (n c0 : Nat) (l0 : List UInt8) (b0 o0 : Nat) (a1 : Option Addr) (c1 : Nat) (l1 : List UInt8) (b1 o1 : Nat) (w : World) (h0 : BRow w a0 n l0 b0 o0) (h1 : BRow w a1 n l1 b1 o1) (hm : n ≤ maxLen) :
    Calls Try.prog 14 #[.slice a0 n c0, .slice a1 n c1] w fun e w' => e = .returned (.bool (decide (l0 = l1))) ∧ Same w w' := by
  unfold maxLen at hm
  go_enter Try.func14, Try.ntmps14
  go_wp2
  go_loopw [5] (fun i wr => ∃ k : Nat, k ≤ n ∧ i = .int .i64 k ∧ l0.take k = l1.take k ∧ Same w wr) (fun i _ => n - (intOf i).toNat)
  case atStart => exact ⟨0, Nat.zero_le _, rfl, rfl, Same.refl _⟩
  case round =>
    obtain ⟨k, hk, rfl, ht, hs⟩ := hrel
    have HT : Hid (l0.take k = l1.take k) := ht
    clear ht
    by_cases hlt : k < n
    · have i0 := h0.idx hlt
      have i1 := h1.idx hlt
      obtain ⟨u, hu, cu⟩ := (h0.same hs).cell hlt
      obtain ⟨v, hv, cv⟩ := (h1.same hs).cell hlt
      go_wp2
      go_quiet (fail)
      go_wp2
      · have hne : ((u.toNat : Int) != (v.toNat : Int)) = true := by assumption
        go_ret
        exact ⟨ret_bool (differ hu hv (u8_ne (by simpa using hne))).symm, hs.trans (Same.drewN _ _)⟩
      · have hne : ((u.toNat : Int) != (v.toNat : Int)) = false := by assumption
        have ht := take_both HT.out hu hv (u8_eq (by simpa using hne))
        go_roundw
        case rel => exact ⟨k + 1, by omega, by go_num, ht, hs.trans (Same.drewN _ _)⟩
        case measure => simp [intOf]; omega
    · go_wp2
      go_ret
      have hl0 := h0.1
      have hl1 := h1.1
      refine ⟨ret_bool ?_, hs⟩
      have := HT.out
      rw [List.take_of_length_le (by omega), List.take_of_length_le (by omega)] at this
      simp [this]

theorem eqBytes_any (a0 : Option Addr) (n0 c0 : Nat) (l0 : List UInt8) (b0 o0 : Nat) (a1 : Option Addr) (n1 c1 : Nat) (l1 : List UInt8) (b1 o1 : Nat) (w : World) (h0 : BRow w a0 n0 l0 b0 o0) (h1 : BRow w a1 n1 l1 b1 o1) (hm : n0 ≤ maxLen) :
    Calls Try.prog 14 #[.slice a0 n0 c0, .slice a1 n1 c1] w fun e w' => e = .returned (.bool (decide (l0 = l1))) ∧ Same w w' := by
  by_cases hn : n0 = n1
  · subst hn
    exact eqBytes_eq a0 n0 c0 l0 b0 o0 a1 c1 l1 b1 o1 w h0 h1 hm
  · exact eqBytes_len a0 n0 c0 l0 b0 o0 a1 n1 c1 l1 b1 o1 w h0 h1 hn

end Go.Proofs.Qxb6601367a
