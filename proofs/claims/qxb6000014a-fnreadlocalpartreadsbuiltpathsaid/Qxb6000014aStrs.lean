/-
  Slices of strings; zzBytes_FnReadLocalPartReadsBuiltPath (13), builtPathPremise (14), cloneStrings (15).
-/
import Derived.Test.Qxb6000014aNames
import Derived.WalkSpells
import Derived.WalkLawsBesides
namespace Go.Proofs.Qxb6000014a
open Go.RowKit

/-- The slice value '.slice a n c' leads to the strings ss: where there is one, at block b from cell o on. -/
def StrRow (w : World) (a : Option Addr) (n : Nat) (ss : List ByteArray) (b o : Nat) : Prop :=
  ss.length = n ∧ (0 < n → a = some ⟨b, o, none⟩) ∧ ∀ j, j < n → w.cell? ⟨b, o + j, none⟩ = some (.string (ss.getD j ByteArray.empty))

theorem StrRow.idx {w : World} {a : Option Addr} {n : Nat} {ss : List ByteArray} {b o : Nat} (h : StrRow w a n ss b o) {k : Nat} (hk : k < n) :
    ∀ (c : Nat) (wx : World), (Instr.indexAt 29 (.slice a n c) (.int .i64 (k : Int))).run Try.prog wx = .ok (.pointer (some ⟨b, o + k, none⟩)) wx := by
  intro c wx
  rw [h.2.1 (by omega), run_indexAt_slice (h := by kernel_rfl), if_pos (by omega)]
  have hs : (sizeOf (Try.prog.elem 29)).run Try.prog wx = .ok 1 wx := by kernel_rfl
  rw [hs]
  simp [Result.andThen, Addr.add]

theorem StrRow.cell {w : World} {a : Option Addr} {n : Nat} {ss : List ByteArray} {b o : Nat} (h : StrRow w a n ss b o) {k : Nat} (hk : k < n) :
    ∃ s, s ∈ ss ∧ Hid (ss[k]? = some s) ∧ w.cell? ⟨b, o + k, none⟩ = some (.string s) := by
  have hk' : k < ss.length := by rw [h.1]; exact hk
  refine ⟨ss[k], List.getElem_mem hk', List.getElem?_eq_getElem hk', ?_⟩
  rw [h.2.2 k hk]
  simp [hk']

theorem Try.info9 : (Try.prog.info? 9).map (fun i => (i.zero, i.size, i.bytes)) = some (some (.string ByteArray.empty), 1, 16) := by kernel_rfl

/-- The new array behind k rounds. -/
def copied (ss : List ByteArray) (n k : Nat) : List Value := (ss.take k).map Value.string ++ List.replicate (n - k) (.string ByteArray.empty)
theorem copied_zero (ss : List ByteArray) (n : Nat) : copied ss n 0 = List.replicate n (.string ByteArray.empty) := by simp [copied]
theorem copied_at (ss : List ByteArray) (n k : Nat) (hl : ss.length = n) (hk : k < n) : (copied ss n k)[k]? = some (.string ByteArray.empty) := by
  unfold copied
  have hlen : ((ss.take k).map Value.string).length = k := by simp; omega
  rw [List.getElem?_append_right (by omega), hlen, Nat.sub_self]
  rw [List.getElem?_replicate, if_pos (by omega)]
theorem copied_set (ss : List ByteArray) (n k : Nat) (s : ByteArray) (hl : ss.length = n) (hk : k < n) (hs : Hid (ss[k]? = some s)) : (copied ss n k).set k (.string s) = copied ss n (k + 1) := by
  have hs := hs.out
  unfold copied
  have hlen : ((ss.take k).map Value.string).length = k := by simp; omega
  rw [List.set_append_right _ _ (by omega), hlen, Nat.sub_self, List.take_add_one, hs]
  obtain ⟨m, hm⟩ : ∃ m, n - k = m + 1 := ⟨n - k - 1, by omega⟩
  rw [hm, show n - (k + 1) = m by omega, List.replicate_succ]
  simp
theorem copied_all (ss : List ByteArray) (n j : Nat) (hl : ss.length = n) (hj : j < n) : (copied ss n n)[j]? = some (.string (ss.getD j ByteArray.empty)) := by
  unfold copied
  rw [List.take_of_length_le (by omega)]
  simp [hl, hj]

/-- What cloneStrings leaves. -/
def CopySaid (w : World) (n : Nat) (ss : List ByteArray) (e : Ending) (w' : World) : Prop :=
  ∃ (a : Option Addr) (c b o : Nat), e = .returned (.slice a n c) ∧ StrRow w' a n ss b o ∧ Below w.heap.size w w'

theorem StrRow.below {w w' : World} {a : Option Addr} {n : Nat} {ss : List ByteArray} {b o : Nat} (h : StrRow w a n ss b o) (hb : Below w.heap.size w w') : StrRow w' a n ss b o := by
  refine ⟨h.1, h.2.1, fun j hj => ?_⟩
  have hc := h.2.2 j hj
  have hlt : b < w.heap.size := World.block_lt_of_cell? _ _ hc
  rw [hb.cell (p := ⟨b, o + j, none⟩) hlt]
  exact hc

set_option maxHeartbeats 400000 in
theorem copy_some (x : Addr) (n c : Nat) (ss : List ByteArray) (b o : Nat) (w : World) (hr : StrRow w (some x) n ss b o) (hn : n ≤ 1048576) :
    Calls Try.prog 15 #[.slice (some x) n c] w fun e w' => CopySaid w n ss e w' := by
  obtain ⟨i0, hi, hz0, hz1, hz2⟩ := info_parts Try.info9
  have q29 : ∀ (w : World) (a : Option Addr) (n c n' c' : Nat), (binOp .eql 29 (.slice a n c) (.slice none n' c')).run Try.prog w = .ok (.bool a.isNone) w := fun w a n c n' c' => Lib.run_eql_slice_nil w _ _ a n c n' c' Try.underlying29
  go_enter Try.func15, Try.ntmps15
  go_wp2_with (at_make; refine wpList_make_full _ rfl _ _ 29 rfl w.heap.size 9 i0 _ 1 Try.underlying29 hi hz0 hz1 _ _ _ _ n rfl rfl (by first | rfl | simp) (by first | rfl | simp) (by rw [hz2]; omega) (by unfold maxLen; omega) (by simp) ?_; intro w1 hown1 hg1)
  have hown0 : w1.ownsRow w.heap.size 9 1 (.slice (some ⟨w.heap.size, 0, none⟩) n n) n (copied ss n 0) := by
    rw [copied_zero]
    have e : (madeCells (Value.string ByteArray.empty).cells (n * 1)).toList = List.replicate n (.string ByteArray.empty) := by
      rw [Nat.mul_one]; exact toList_madeCells_one _ _
    rw [e] at hown1
    exact hown1
  have hbel1 : Below w.heap.size w w1 := (Below.refl _ _).grown hg1 (Nat.le_refl _) (by simp)
  clear hown1 hg1 q29 hi hz0 hz1 hz2
  go_loopw [4] (fun i wr => ∃ k : Nat, k ≤ n ∧ i = .int .i64 k ∧ wr.ownsRow w.heap.size 9 1 (.slice (some ⟨w.heap.size, 0, none⟩) n n) n (copied ss n k) ∧ Below w.heap.size w wr) (fun i _ => n - (intOf i).toNat)
  case atStart => exact ⟨0, Nat.zero_le _, rfl, hown0, hbel1⟩
  case round =>
    obtain ⟨k, hk, rfl, hown, hbel⟩ := hrel
    by_cases hlt : k < n
    · have hr' := hr.below hbel
      have hi := hr'.idx hlt
      obtain ⟨s, _, hks, hcell⟩ := hr'.cell hlt
      have hc2 : wr.cell? ⟨w.heap.size, k, none⟩ = some (.string ByteArray.empty) := by rw [hown.cellAt k (by omega)]; exact copied_at ss n k hr.1 hlt
      have hf2 := hown.frozenAt k
      have R := hown.stored k (.string s)
      rw [copied_set ss n k s hr.1 hlt hks] at R
      have R2 : Below w.heap.size w (wr.setCell ⟨w.heap.size, k, none⟩ (.string s)) := hbel.setCell (Nat.le_refl _) _
      have R1 := R.1
      clear R hown hbel hr' hown0 hbel1
      go_wp2
      go_roundw
      case rel => exact ⟨k + 1, by omega, by go_num, R1, R2⟩
      case measure => simp [intOf]; omega
    · obtain rfl : k = n := by omega
      go_wp2
      go_ret
      exact ⟨_, _, w.heap.size, 0, rfl, ⟨hr.1, fun _ => rfl, fun j hj => by rw [Nat.zero_add, hown.cellAt j (by omega)]; exact copied_all ss k j hr.1 hj⟩, hbel⟩

set_option maxHeartbeats 400000 in
theorem copy_none (n c : Nat) (ss : List ByteArray) (b o : Nat) (w : World) (hr : StrRow w none n ss b o) :
    Calls Try.prog 15 #[.slice none n c] w fun e w' => CopySaid w n ss e w' := by
  have hn0 : n = 0 := by
    rcases Nat.eq_zero_or_pos n with h | h
    · exact h
    · exact absurd (hr.2.1 h) (by simp)
  have q29 : ∀ (w : World) (a : Option Addr) (n c n' c' : Nat), (binOp .eql 29 (.slice a n c) (.slice none n' c')).run Try.prog w = .ok (.bool a.isNone) w := fun w a n c n' c' => Lib.run_eql_slice_nil w _ _ a n c n' c' Try.underlying29
  subst hn0
  go_enter Try.func15, Try.ntmps15
  go_wp2
  go_ret
  exact ⟨none, 0, b, o, rfl, hr, Below.refl _ _⟩

theorem copy_any (a : Option Addr) (n c : Nat) (ss : List ByteArray) (b o : Nat) (w : World) (hr : StrRow w a n ss b o) (hn : n ≤ 1048576) :
    Calls Try.prog 15 #[.slice a n c] w fun e w' => CopySaid w n ss e w' := by
  cases a with
  | none => exact copy_none n c ss b o w hr
  | some x => exact copy_some x n c ss b o w hr hn


/-- The first k strings are of a kind. -/
def Kind (f : ByteArray → Prop) (ss : List ByteArray) (k : Nat) : Prop := ∀ s ∈ ss.take k, f s
theorem Kind.zero (f : ByteArray → Prop) (ss : List ByteArray) : Kind f ss 0 := by intro s hs; simp at hs
theorem Kind.succ {f : ByteArray → Prop} {ss : List ByteArray} {k : Nat} (h : Kind f ss k) {s : ByteArray} (hk : Hid (ss[k]? = some s)) (hs : f s) : Kind f ss (k + 1) := by
  intro t ht
  rw [List.take_add_one, hk.out, List.mem_append] at ht
  rcases ht with ht | ht
  · exact h t ht
  · simp at ht
    subst ht
    exact hs
theorem Kind.all {f : ByteArray → Prop} {ss : List ByteArray} {k : Nat} (h : Kind f ss k) (hk : ss.length ≤ k) : ∀ s ∈ ss, f s := by
  intro s hs
  exact h s (by rw [List.take_of_length_le hk]; exact hs)

/-- A bool; where it is true, p. -/
def Only (p : Prop) (e : Ending) : Prop := ∃ b : Bool, e = .returned (.bool b) ∧ (b = true → p)
theorem Only.no {p : Prop} : Only p (.returned (.bool false)) := ⟨false, rfl, by simp⟩
theorem Only.yes {p : Prop} (h : p) : Only p (.returned (.bool true)) := ⟨true, rfl, fun _ => h⟩
def Little (s : ByteArray) : Prop := s.size ≤ 1048576
def Smalls (s0 s1 : List ByteArray) : Prop := (∀ s ∈ s0, Little s) ∧ ∀ s ∈ s1, Little s

set_option maxHeartbeats 1600000 in
theorem bytes13 (a0 : Option Addr) (n0 c0 : Nat) (s0 : List ByteArray) (b0 o0 : Nat) (m : ByteArray) (a1 : Option Addr) (n1 c1 : Nat) (s1 : List ByteArray) (b1 o1 : Nat) (pf : Bool) (w : World)
    (hr0 : StrRow w a0 n0 s0 b0 o0) (hr1 : StrRow w a1 n1 s1 b1 o1) (hm0 : n0 ≤ maxLen) (hm1 : n1 ≤ maxLen) (hmm : m.size ≤ maxLen) :
    Calls Try.prog 13 #[.slice a0 n0 c0, .string m, .slice a1 n1 c1, .bool pf] w fun e w' => Only (Smalls s0 s1) e ∧ w' = w := by
  unfold maxLen at hm0 hm1 hmm
  go_enter Try.func13, Try.ntmps13
  by_cases hn0 : n0 ≤ 1048576
  · go_wp2
    go_loop [9, 10] (fun t i => ∃ (k : Nat) (x : Int), k ≤ n0 ∧ i = .int .i64 k ∧ t = .int .i64 x ∧ 0 ≤ x ∧ x ≤ 1048576 ∧ Kind Little s0 k) (fun _ i => n0 - (intOf i).toNat)
    case atStart => exact ⟨0, _, Nat.zero_le _, rfl, rfl, by omega, by omega, Kind.zero _ _⟩
    case round =>
      obtain ⟨k, x, hk, rfl, rfl, hx0, hx1, hkd⟩ := hrel
      by_cases hlt : k < n0
      · have hi := hr0.idx hlt
        obtain ⟨s, _, hks, hcell⟩ := hr0.cell hlt
        go_wp2
        · go_ret
          exact ⟨Only.no, rfl⟩
        · go_ret
          exact ⟨Only.no, rfl⟩
        · go_round
          case rel => exact ⟨k + 1, _, by omega, by go_num, rfl, by omega, by omega, hkd.succ hks (by unfold Little; omega)⟩
          case measure => simp [intOf]; omega
      · have HS0 : Hid (∀ s ∈ s0, Little s) := hkd.all (by rw [hr0.1]; omega)
        clear hkd
        by_cases hm : m.size ≤ 1048576
        · by_cases hxm : x + m.size ≤ 1048576
          · by_cases hn1 : n1 ≤ 1048576
            · by_cases hs1 : x + m.size + n1 ≤ 1048576
              · go_wp2
                go_loop [9, 11] (fun t i => ∃ (k : Nat) (x : Int), k ≤ n1 ∧ i = .int .i64 k ∧ t = .int .i64 x ∧ 0 ≤ x ∧ x ≤ 1048576 ∧ Kind Little s1 k) (fun _ i => n1 - (intOf i).toNat)
                case atStart => exact ⟨0, _, Nat.zero_le _, rfl, rfl, by omega, by omega, Kind.zero _ _⟩
                case round =>
                  obtain ⟨k, x, hk, rfl, rfl, hx0, hx1, hkd⟩ := hrel
                  by_cases hlt : k < n1
                  · have hi := hr1.idx hlt
                    obtain ⟨s, _, hks, hcell⟩ := hr1.cell hlt
                    go_wp2
                    · go_ret
                      exact ⟨Only.no, rfl⟩
                    · go_ret
                      exact ⟨Only.no, rfl⟩
                    · go_round
                      case rel => exact ⟨k + 1, _, by omega, by go_num, rfl, by omega, by omega, hkd.succ hks (by unfold Little; omega)⟩
                      case measure => simp [intOf]; omega
                  · have HS1 : Hid (∀ s ∈ s1, Little s) := hkd.all (by rw [hr1.1]; omega)
                    clear hkd
                    go_wp2
                    go_ret
                    exact ⟨Only.yes ⟨HS0.out, HS1.out⟩, rfl⟩
              · go_wp2
                go_ret
                exact ⟨Only.no, rfl⟩
            · go_wp2
              go_ret
              exact ⟨Only.no, rfl⟩
          · go_wp2
            go_ret
            exact ⟨Only.no, rfl⟩
        · go_wp2
          go_ret
          exact ⟨Only.no, rfl⟩
  · go_wp2
    go_ret
    exact ⟨Only.no, rfl⟩

/-- The premise of the law. -/
def Prem (s0 : List ByteArray) (m : ByteArray) (s1 : List ByteArray) : Prop := (∀ s ∈ s0, BName s) ∧ (∀ s ∈ s1, PName s) ∧ 0 < m.size ∧ ¬ Holds m 33 ∧ ¬ Holds m 37

set_option maxHeartbeats 1600000 in
theorem premise14 (a0 : Option Addr) (n0 c0 : Nat) (s0 : List ByteArray) (b0 o0 : Nat) (m : ByteArray) (a1 : Option Addr) (n1 c1 : Nat) (s1 : List ByteArray) (b1 o1 : Nat) (w : World)
    (hr0 : StrRow w a0 n0 s0 b0 o0) (hr1 : StrRow w a1 n1 s1 b1 o1) (hm0 : n0 ≤ 1048576) (hm1 : n1 ≤ 1048576) (hmm : m.size ≤ 1048576) (hz0 : ∀ s ∈ s0, s.size ≤ 1048576) (hz1 : ∀ s ∈ s1, s.size ≤ 1048576) :
    Calls Try.prog 14 #[.slice a0 n0 c0, .string m, .slice a1 n1 c1] w fun e w' => Only (Prem s0 m s1) e ∧ w' = w := by
  go_enter Try.func14, Try.ntmps14
  go_wp2_with fail
  go_loop [7] (fun i => ∃ (k : Nat), k ≤ n0 ∧ i = .int .i64 k ∧ Kind BName s0 k) (fun i => n0 - (intOf i).toNat)
  case atStart => exact ⟨0, Nat.zero_le _, rfl, Kind.zero _ _⟩
  case round =>
    obtain ⟨k, hk, rfl, hkd⟩ := hrel
    by_cases hlt : k < n0
    · have hi := hr0.idx hlt
      obtain ⟨s, hmem, hks, hcell⟩ := hr0.cell hlt
      have hss := hz0 s hmem
      go_wp2_with fail
      refine (bangName_any s hss _).mono ?_
      rintro e w1 ⟨⟨b, rfl, hb⟩, hw1⟩
      obtain rfl := hw1.symm
      clear hw1
      cases b with
      | true =>
        have R := hkd.succ hks (hb.1 rfl)
        clear hb hkd
        go_wp2_with fail
        go_round
        case rel => exact ⟨k + 1, by omega, by go_num, R⟩
        case measure => simp [intOf]; omega
      | false =>
        clear hb hkd
        go_wp2_with fail
        go_ret
        exact ⟨Only.no, rfl⟩
    · have HS0 : Hid (∀ s ∈ s0, BName s) := hkd.all (by rw [hr0.1]; omega)
      clear hkd
      go_wp2_with fail
      go_loop [8] (fun i => ∃ (k : Nat), k ≤ n1 ∧ i = .int .i64 k ∧ Kind PName s1 k) (fun i => n1 - (intOf i).toNat)
      case atStart => exact ⟨0, Nat.zero_le _, rfl, Kind.zero _ _⟩
      case round =>
        obtain ⟨k, hk, rfl, hkd⟩ := hrel
        by_cases hlt : k < n1
        · have hi := hr1.idx hlt
          obtain ⟨s, hmem, hks, hcell⟩ := hr1.cell hlt
          have hss := hz1 s hmem
          go_wp2_with fail
          refine (pctName_any s hss _).mono ?_
          rintro e w1 ⟨⟨b, rfl, hb⟩, hw1⟩
          obtain rfl := hw1.symm
          clear hw1
          cases b with
          | true =>
            have R := hkd.succ hks (hb.1 rfl)
            clear hb hkd
            go_wp2_with fail
            go_round
            case rel => exact ⟨k + 1, by omega, by go_num, R⟩
            case measure => simp [intOf]; omega
          | false =>
            clear hb hkd
            go_wp2_with fail
            go_ret
            exact ⟨Only.no, rfl⟩
        · have HS1 : Hid (∀ s ∈ s1, PName s) := hkd.all (by rw [hr1.1]; omega)
          clear hkd
          by_cases hp : 0 < m.size
          · have hn := toList_ne hp
            have hn2 : ¬ m.toList = [] := by intro h; rw [h] at hn; simp at hn
            go_wp2_with fail
            refine (hasByte_any m 33 hmm _).mono ?_
            rintro e w1 ⟨⟨b, rfl, hb⟩, hw1⟩
            obtain rfl := hw1.symm
            clear hw1
            cases b with
            | true =>
              clear hb
              go_wp2_with fail
              go_ret
              exact ⟨Only.no, rfl⟩
            | false =>
              have H33 : Hid (¬ Holds m 33) := fun h => by have := hb.2 h; cases this
              clear hb
              go_wp2_with fail
              refine (hasByte_any m 37 hmm _).mono ?_
              rintro e w1 ⟨⟨b, rfl, hb⟩, hw1⟩
              obtain rfl := hw1.symm
              clear hw1
              cases b with
              | true =>
                clear hb
                go_wp2_with fail
                go_ret
                exact ⟨Only.no, rfl⟩
              | false =>
                have H37 : Hid (¬ Holds m 37) := fun h => by have := hb.2 h; cases this
                clear hb
                go_wp2_with fail
                go_ret
                exact ⟨Only.yes ⟨HS0.out, HS1.out, hp, H33.out, H37.out⟩, rfl⟩
          · have hn := toList_nil hp
            go_wp2_with fail
            go_ret
            exact ⟨Only.no, rfl⟩

end Go.Proofs.Qxb6000014a
