/-
  scanUnquote (9); the law FnUnquoteWordsMatchesScanner (3), its walk.
-/
import Derived.Test.Qxb6000014aWords
import Derived.Laws.BytesArg
import Derived.Lib.Bytes
import Derived.Deep.RegionWith
namespace Go.Proofs.Qxb6000014a
open Go.RowKit

theorem Try.info5 : (Try.prog.info? 5).map (fun i => (i.zero, i.size, i.bytes)) = some (some (.int .u8 0), 1, 1) := by kernel_rfl

/-- Bytes as cells. -/
def cells (l : List UInt8) : List Value := l.map fun u => Value.int .u8 (u.toNat : Nat)
theorem cells_length (l : List UInt8) : (cells l).length = l.length := by simp [cells]
theorem cells_append (l k : List UInt8) : cells (l ++ k) = cells l ++ cells k := by simp [cells]
/-- v owns the bytes out. -/
def Owns (w : World) (base : Nat) (v : Value) (out : List UInt8) : Prop := w.ownsRow base 5 1 v out.length (cells out)
theorem Owns.row {w : World} {base : Nat} {v : Value} {out : List UInt8} (h : Owns w base v out) : ∀ k, v.ownBlock = some k → base ≤ k := fun k hk => (World.ownsRow.lt h k hk).1

/-- 'append(out, c)' -/
theorem app_one {w : World} {ops : Array Oper} {rest : List Oper} {o : Oper} {a : Act} {Q : Exit → Act → World → Prop} (hgd : o.guard = none) (s x : Operand)
    (ho : o.op = .call { callee := .builtin .append, args := #[s, x], argTypes := #[23, 23] }) (base : Nat) (v : Value) (out : List UInt8) (w0 : World) (u : UInt8) (hw : w = w0.alloc (.cells #[.int .u8 (u.toNat : Nat)] 5)) (hs : a.eval s = v) (hown : Owns w0 base v out)
    (hx : a.eval x = .slice (some ⟨w0.heap.size, 0, none⟩) 1 1) (hsz : out.length + 1 ≤ 100000000) (hbase : base ≤ w0.heap.size)
    (h : ∀ v' w', Owns w' base v' (out ++ [u]) → w.grownBy w' v.ownBlock → wpList Try.prog ops Q rest (a.put o.dst v') w') : wpList Try.prog ops Q (o :: rest) a w := by
  obtain ⟨i0, hi, hz0, hz1, hz2⟩ := info_parts Try.info5
  subst hw
  refine wpList_append_own _ hgd s x 23 ho base 5 i0 (.int .u8 0) 1 1 Try.underlying23 hi hz0 hz1 hz2 rfl (by decide) v out.length (cells out) hs (World.ownsRow.alloc hown _) ⟨w0.heap.size, 0, none⟩ 1 1 (cells [u]) hx rfl ?_ ?_ (by unfold maxLen; omega) (by omega) (by simp; omega) ?_
  · exact cell_one_new _ _ _
  · intro t ht
    simp [cells] at ht
    subst ht
    rfl
  · intro v' w' h1 h2 _
    refine h v' w' ?_ h2
    unfold Owns
    rw [cells_append, List.length_append]
    exact h1

def nums (l : List UInt8) : List Int := l.map fun u => (u.toNat : Int)
theorem nums_getD (l : List UInt8) (i : Nat) : (nums l).getD i 0 = ((l.getD i 0).toNat : Int) := by
  by_cases h : i < l.length
  · simp [nums, h]
  · simp [nums, List.getElem?_eq_none (by omega : l.length ≤ i)]
theorem strOf_nums (l : List UInt8) : strOfNums (nums l) = ⟨l.toArray⟩ := by
  have h : (strOfNums (nums l)).data.toList = l := by
    rw [← Lib.toList_data, Lib.strOfNums_toList]
    simp only [Lib.bytesOf, nums, List.map_map]
    conv => rhs; rw [← List.map_id l]
    apply List.map_congr_left
    intro u _
    simp
  cases hh : strOfNums (nums l) with
  | mk d =>
    rw [hh] at h
    congr 1
    apply Array.ext'
    simpa using h

/-- 'string(out)', wherever out's memory stands as it stood. -/
theorem conv_own {w : World} {base : Nat} {v : Value} {out : List UInt8} (h : Owns w base v out) (W : World) (hb : Below w.heap.size w W) : (convert 23 9 v).run Try.prog W = .ok (.string ⟨out.toArray⟩) W := by
  have h' : Owns W base v out := owns_below h hb
  rcases h'.2 with ⟨h1, h2⟩ | ⟨g, cap, cur, h1, h2, h3, h4, h5, h6, h7⟩
  · have e : out = [] := List.length_eq_zero_iff.1 h2
    rw [h1, e, run_convert_bytes_nil W 23 5 Try.underlying23 Try.underlying5 0 0 9 Try.underlying9]
    rfl
  · have h0 := h'
    unfold Owns at h0
    rw [h1] at h0 ⊢
    rw [run_convert_bytes_arg W 23 5 Try.underlying23 Try.underlying5 g 0 out.length cap (nums out) (by simp [nums]) ?_ 9 Try.underlying9, strOf_nums]
    intro i hi
    rw [Nat.zero_add, World.ownsRow.cellAt h0 i (by omega), nums_getD]
    simp [cells, hi]

/-- What scanUnquote leaves. -/
def ScanSaid (w : World) (l : List UInt8) (e : Ending) (w' : World) : Prop := ∃ v, e = .returned (.tuple #[v, .bool (((scan 0 l).2 : Int) == 0)]) ∧ Owns w' w.heap.size v (scan 0 l).1 ∧ Below w.heap.size w w'
/-- The loop's relation. -/
def SRel (l : List UInt8) (i st : Nat) (out : List UInt8) : Prop := out ++ (scan st (l.drop i)).1 = (scan 0 l).1 ∧ (scan st (l.drop i)).2 = (scan 0 l).2 ∧ out.length ≤ i
theorem SRel.write {s : ByteArray} {i st st' : Nat} {out : List UInt8} (h : SRel s.data.toList i st out) (hi : i < s.size) (hc : scan st (s[i] :: s.data.toList.drop (i + 1)) = (s[i] :: (scan st' (s.data.toList.drop (i + 1))).1, (scan st' (s.data.toList.drop (i + 1))).2)) : SRel s.data.toList (i + 1) st' (out ++ [s[i]]) := by
  obtain ⟨h1, h2, h3⟩ := h
  rw [drop_at s i hi, hc] at h1 h2
  exact ⟨by rw [← h1]; simp, h2, by simp; omega⟩
theorem SRel.skip {s : ByteArray} {i st st' : Nat} {out : List UInt8} (h : SRel s.data.toList i st out) (hi : i < s.size) (hc : scan st (s[i] :: s.data.toList.drop (i + 1)) = scan st' (s.data.toList.drop (i + 1))) : SRel s.data.toList (i + 1) st' out := by
  obtain ⟨h1, h2, h3⟩ := h
  rw [drop_at s i hi, hc] at h1 h2
  exact ⟨h1, h2, by omega⟩

set_option maxHeartbeats 1600000 in
theorem scanU_any (s : ByteArray) (hs : s.size ≤ 1048576) (w : World) :
    Calls Try.prog 9 #[.string s] w fun e w' => ScanSaid w s.data.toList e w' := by
  obtain ⟨i0, hi0, hz0, hz1, hz2⟩ := info_parts Try.info5
  go_enter Try.func9, Try.ntmps9
  go_wp2_with (at_make; refine wpList_make_own _ rfl _ _ 23 rfl w.heap.size 5 i0 _ 1 Try.underlying23 hi0 hz0 hz1 _ _ _ s.size rfl rfl (by first | rfl | simp) (by rw [hz2]; omega) (by unfold maxLen; omega) (by simp) ?_; intro w1 hown1 hg1; have hbel1 : Below w.heap.size w w1 := (Below.refl _ _).grown hg1 (Nat.le_refl _) (by simp); clear hg1)
  have hO1 : Owns w1 w.heap.size (.slice (some ⟨w.heap.size, 0, none⟩) 0 s.size) [] := hown1
  clear hown1 hi0 hz0 hz1 hz2
  go_loopw [4, 5, 6] (fun v st t wr => ∃ (i st' : Nat) (out : List UInt8), t = .int .i64 (i : Nat) ∧ st = .int .i64 (st' : Nat) ∧ i ≤ s.size ∧ Owns wr w.heap.size v out ∧ SRel s.data.toList i st' out ∧ Below w.heap.size w wr ∧ st' ≤ 2) (fun _ _ t _ => s.size - (intOf t).toNat)
  case atStart => exact ⟨0, 0, [], rfl, rfl, Nat.zero_le _, hO1, ⟨rfl, rfl, Nat.le_refl _⟩, hbel1, by omega⟩
  case round =>
    clear hO1 hbel1
    obtain ⟨i, st, out, rfl, rfl, hi, hown, hrel, hbel, hst⟩ := hrel
    have hol : out.length ≤ i := hrel.2.2
    by_cases hlt : i < s.size
    · rcases (show st = 0 ∨ st = 1 ∨ st = 2 from by omega) with rfl | rfl | rfl
      · by_cases h1 : (s[i].toNat : Int) = 34
        · have e1 : s[i] = 34 := u8_eq (n := 34) (by omega) h1
          have h1b : ((s[i].toNat : Int) == 34) = true := by rw [beq_iff_eq]; exact h1
          clear h1
          have R := hrel.skip (st' := 1) hlt (by rw [e1, scan, if_pos rfl])
          clear hrel
          go_wp2
          go_roundw
          case rel => exact ⟨i + 1, 1, _, by go_num, rfl, by omega, hown, R, hbel, by omega⟩
          case measure => simp [intOf]; omega
        · have e1 : s[i] ≠ 34 := fun e => h1 (by rw [e]; rfl)
          have h1b : ((s[i].toNat : Int) == 34) = false := by rw [beq_eq_false_iff_ne]; exact h1
          clear h1
          have R := hrel.write (st' := 0) hlt (by rw [scan, if_neg e1])
          clear hrel
          go_wp2_with (at_builtin; refine app_one rfl (.tmp 24) (.tmp 26) rfl w.heap.size _ out wr s[i] rfl rfl hown rfl (by omega) hbel.size ?_; intro v2 w2 hO2 hg2; have hbel2 : Below w.heap.size w w2 := (hbel.alloc hbel.size _).grown hg2 (by simp; exact Nat.le_trans hbel.size (Nat.le_succ _)) hown.row; clear hg2)
          go_roundw
          case rel => exact ⟨i + 1, 0, _, by go_num, rfl, by omega, hO2, R, hbel2, by omega⟩
          case measure => simp [intOf]; omega
      · by_cases h1 : (s[i].toNat : Int) = 92
        · have e1 : s[i] = 92 := u8_eq (n := 92) (by omega) h1
          have h1b : ((s[i].toNat : Int) == 92) = true := by rw [beq_iff_eq]; exact h1
          clear h1
          have R := hrel.skip (st' := 2) hlt (by rw [e1, scan, if_pos rfl])
          clear hrel
          go_wp2
          go_roundw
          case rel => exact ⟨i + 1, 2, _, by go_num, rfl, by omega, hown, R, hbel, by omega⟩
          case measure => simp [intOf]; omega
        · have e1 : s[i] ≠ 92 := fun e => h1 (by rw [e]; rfl)
          have h1b : ((s[i].toNat : Int) == 92) = false := by rw [beq_eq_false_iff_ne]; exact h1
          clear h1
          by_cases h2 : (s[i].toNat : Int) = 34
          · have e2 : s[i] = 34 := u8_eq (n := 34) (by omega) h2
            have h2b : ((s[i].toNat : Int) == 34) = true := by rw [beq_iff_eq]; exact h2
            clear h2
            have R := hrel.skip (st' := 0) hlt (by rw [scan, if_neg e1, if_pos e2])
            clear hrel
            go_wp2
            go_roundw
            case rel => exact ⟨i + 1, 0, _, by go_num, rfl, by omega, hown, R, hbel, by omega⟩
            case measure => simp [intOf]; omega
          · have e2 : s[i] ≠ 34 := fun e => h2 (by rw [e]; rfl)
            have h2b : ((s[i].toNat : Int) == 34) = false := by rw [beq_eq_false_iff_ne]; exact h2
            clear h2
            have R := hrel.write (st' := 1) hlt (by rw [scan, if_neg e1, if_neg e2])
            clear hrel
            go_wp2_with (at_builtin; refine app_one rfl (.tmp 34) (.tmp 36) rfl w.heap.size _ out wr s[i] rfl rfl hown rfl (by omega) hbel.size ?_; intro v2 w2 hO2 hg2; have hbel2 : Below w.heap.size w w2 := (hbel.alloc hbel.size _).grown hg2 (by simp; exact Nat.le_trans hbel.size (Nat.le_succ _)) hown.row; clear hg2)
            go_roundw
            case rel => exact ⟨i + 1, 1, _, by go_num, rfl, by omega, hO2, R, hbel2, by omega⟩
            case measure => simp [intOf]; omega
      · 
        have R := hrel.write (st' := 1) hlt (by rfl)
        clear hrel
        go_wp2_with (at_builtin; refine app_one rfl (.tmp 38) (.tmp 40) rfl w.heap.size _ out wr s[i] rfl rfl hown rfl (by omega) hbel.size ?_; intro v2 w2 hO2 hg2; have hbel2 : Below w.heap.size w w2 := (hbel.alloc hbel.size _).grown hg2 (by simp; exact Nat.le_trans hbel.size (Nat.le_succ _)) hown.row; clear hg2)
        go_roundw
        case rel => exact ⟨i + 1, 1, _, by go_num, rfl, by omega, hO2, R, hbel2, by omega⟩
        case measure => simp [intOf]; omega
    · have HR : Hid (out = (scan 0 s.data.toList).1 ∧ st = (scan 0 s.data.toList).2) := by
        obtain ⟨h1, h2, _⟩ := hrel
        have e : scan st (s.data.toList.drop i) = ([], st) := by
          rw [List.drop_of_length_le (by simp; omega)]
          rcases (show st = 0 ∨ st = 1 ∨ st = 2 from by omega) with rfl | rfl | rfl <;> rfl
        rw [e] at h1 h2
        exact ⟨by rw [← h1, List.append_nil], h2⟩
      clear hrel
      go_wp2
      go_ret2
      refine ⟨u4, ?_, ?_, hbel⟩
      · rw [← HR.out.2]
        rfl
      · rw [← HR.out.1]
        exact hown

theorem zwords_exact (s : ByteArray) (hs : s.size ≤ 1048576) (hc : (scan 0 s.data.toList).2 = 0) (w : World) :
    Calls Try.prog 10 #[.string s] w fun e w' => e = .returned (.string ⟨(scan 0 s.data.toList).1.toArray⟩) ∧ Below w.heap.size w w' := by
  refine (zwords_any s hs hc w).mono ?_
  rintro e w1 ⟨t, rfl, HT, hb⟩
  refine ⟨ret_str ?_, hb⟩
  have h := HT.out
  cases t with
  | mk d =>
    congr 1
    apply Array.ext'
    simpa using h

set_option maxHeartbeats 400000 in
theorem bytes8 (s : ByteArray) (hs : s.size ≤ 1048576) (w : World) :
    Calls Try.prog 8 #[.string s] w fun e w' => e = .returned (.bool true) ∧ w' = w := by
  go_enter Try.func8, Try.ntmps8
  go_wp2
  go_ret
  exact ⟨rfl, rfl⟩

set_option maxHeartbeats 1600000 in
theorem lawU (s : ByteArray) (hm : s.size ≤ maxLen) (w : World) :
    Calls Try.prog 3 #[.string s] w fun e w' => e = .returned (.bool true) ∧ Below w.heap.size w w' := by
  unfold maxLen at hm
  by_cases hs : s.size ≤ 1048576
  · go_enter Try.func3, Try.ntmps3
    go_wp2_with fail
    refine (bytes8 s hs _).mono ?_
    rintro e w1 ⟨rfl, hw1⟩
    obtain rfl := hw1.symm
    go_wp2_with fail
    refine (scanU_any s hs _).mono ?_
    rintro e w2 ⟨v, rfl, hown, hbel⟩
    by_cases hc : (scan 0 s.data.toList).2 = 0
    · have hcb : (((scan 0 s.data.toList).2 : Int) == 0) = true := by rw [hc]; rfl
      have Z := fun W => zwords_exact s hs hc W
      obtain ⟨T, hT⟩ : ∃ T : ByteArray, T = ⟨(scan 0 s.data.toList).1.toArray⟩ := ⟨_, rfl⟩
      have hcv : ∀ W, Below w2.heap.size w2 W → (convert 23 9 v).run Try.prog W = .ok (.string T) W := fun W hb => by rw [hT]; exact conv_own hown W hb
      rw [← hT] at Z
      have HZ : Hid (∀ W, Calls Try.prog 10 #[.string s] W fun e w' => e = .returned (.string T) ∧ Below W.heap.size W w') := Z
      have HCV : Hid (∀ W, Below w2.heap.size w2 W → (convert 23 9 v).run Try.prog W = .ok (.string T) W) := hcv
      have c1 : (convert 23 9 v).run Try.prog w2 = .ok (.string T) w2 := hcv w2 (Below.refl _ _)
      have c2 : (convert 23 9 v).run Try.prog w2.drew = .ok (.string T) w2.drew := hcv w2.drew (Below.refl _ _).drew
      have hTT : (T.toList == T.toList) = true := by simp
      clear Z hcv hT hw1 hown hc
      go_wp2_with fail
      go_region_with (go_at_call 10; refine (HZ.out _).mono ?_; rintro e w4 ⟨rfl, hb4⟩; have c3 := HCV.out w4 ((Below.refl _ _).drew.trans (hb4.mono (Nat.le_refl _))))
      all_goals
        have hb5 : Below w2.heap.size w2 w4 := (Below.refl _ _).drew.trans hb4
        go_wp2_with fail
        go_ret
        exact ⟨rfl, hbel.trans (hb5.mono hbel.size)⟩
    · have hcb : (((scan 0 s.data.toList).2 : Int) == 0) = false := by rw [beq_eq_false_iff_ne]; omega
      clear hc
      go_wp2_with fail
      go_ret
      exact ⟨rfl, hbel⟩
  · go_enter Try.func3, Try.ntmps3
    go_wp2
    go_ret
    exact ⟨rfl, Below.refl _ _⟩

end Go.Proofs.Qxb6000014a
