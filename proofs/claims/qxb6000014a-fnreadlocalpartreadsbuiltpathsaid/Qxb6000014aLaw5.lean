/-
  THE LAW FnReadLocalPartReadsBuiltPath (5), its walk.
-/
import Derived.Test.Qxb6000014aHopsAre
import Derived.Test.Qxb6000014aSpend
import Derived.Lib.AppendStr
namespace Go.Proofs.Qxb6000014a
open Go.RowKit

/-- 'append(out, t...)' -/
theorem app_str {w : World} {ops : Array Oper} {rest : List Oper} {o : Oper} {a : Act} {Q : Exit → Act → World → Prop} (hgd : o.guard = none) (s x : Operand)
    (ho : o.op = .call { callee := .builtin .append, args := #[s, x], argTypes := #[23, 9] }) (base : Nat) (v : Value) (out : List UInt8) (hs : a.eval s = v) (hown : Owns w base v out) (t : ByteArray)
    (hx : a.eval x = .string t) (hsz : out.length + t.size ≤ 100000000) (hbase : base ≤ w.heap.size)
    (h : ∀ v' w', Owns w' base v' (out ++ t.data.toList) → w.grownBy w' v.ownBlock → wpList Try.prog ops Q rest (a.put o.dst v') w') : wpList Try.prog ops Q (o :: rest) a w := by
  obtain ⟨i0, hi, hz0, hz1, hz2⟩ := info_parts Try.info5
  refine Lib.wpList_append_own_string _ hgd s x 23 9 ho base 5 i0 Try.underlying23 Try.underlying9 hi hz0 hz1 hz2 v out.length (cells out) hs hown t hx (by unfold maxLen; omega) (by omega) hbase ?_
  intro v' w' h1 h2 _
  refine h v' w' ?_ h2
  unfold Owns
  rw [cells_append, List.length_append, ba_len]
  exact h1

/-- The bytes of the first k strings. -/
def tot (ss : List ByteArray) (k : Nat) : Nat := ((ss.take k).map ByteArray.size).sum
theorem tot_succ {ss : List ByteArray} {k : Nat} {s : ByteArray} (h : Hid (ss[k]? = some s)) : tot ss (k + 1) = tot ss k + s.size := by
  unfold tot
  rw [List.take_add_one, h.out]
  simp
theorem sum_mem {l : List ByteArray} {s : ByteArray} (h : s ∈ l) : s.size ≤ (l.map ByteArray.size).sum := by
  induction l with
  | nil => cases h
  | cons x l ih =>
    simp only [List.map_cons, List.sum_cons]
    rcases List.mem_cons.1 h with rfl | h
    · omega
    · have := ih h; omega
theorem tot_mem {ss : List ByteArray} {n : Nat} (hn : ss.length = n) {s : ByteArray} (h : s ∈ ss) : s.size ≤ tot ss n := by
  unfold tot
  rw [← hn, List.take_length]
  exact sum_mem h
theorem preL_len (l : List ByteArray) : (preL l).length = (l.map ByteArray.size).sum + l.length := by
  induction l with
  | nil => rfl
  | cons x l ih =>
    rw [preL_cons, List.length_append, List.length_cons, ih, ba_len]
    simp only [List.map_cons, List.sum_cons, List.length_cons]
    omega
theorem postL_len (l : List ByteArray) : (postL l).length = (l.map ByteArray.size).sum + l.length := by
  induction l with
  | nil => rfl
  | cons x l ih =>
    rw [postL_cons, List.length_append, List.length_cons, ih, ba_len]
    simp only [List.map_cons, List.sum_cons, List.length_cons]
    omega
theorem tot_all {ss : List ByteArray} {n : Nat} (hn : ss.length = n) : tot ss n = (ss.map ByteArray.size).sum := by
  unfold tot
  rw [← hn, List.take_length]
theorem preL_step {ss : List ByteArray} {k : Nat} {s : ByteArray} (h : Hid (ss[k]? = some s)) : preL (ss.take k) ++ s.data.toList ++ [33] = preL (ss.take (k + 1)) := by
  rw [List.take_add_one, h.out, preL_append]
  simp [preL]
theorem postL_step {ss : List ByteArray} {j : Nat} {s : ByteArray} (h : Hid (ss[j]? = some s)) (A : List UInt8) : (A ++ postL (ss.drop (j + 1))) ++ [37] ++ s.data.toList = A ++ postL (ss.drop j) := by
  have hj : j < ss.length := (List.getElem?_eq_some_iff.1 h.out).1
  have e : ss[j] = s := (List.getElem?_eq_some_iff.1 h.out).2
  rw [List.drop_eq_getElem_cons hj, e, postL_cons]
  simp
theorem postL_drop_le (ss : List ByteArray) (j : Nat) : (postL (ss.drop j)).length ≤ (postL ss).length := by
  have := congrArg List.length (postL_split ss j)
  rw [List.length_append] at this
  omega

theorem hopsOf_len (s0 s1 : List ByteArray) (pf : Bool) : (hopsOf s0 s1 pf s0.length s1.length).length = s0.length + s1.length := by
  unfold hopsOf
  cases pf
  · rw [if_neg (by simp)]; simp
  · rw [if_pos rfl]; simp; omega
theorem hopsOf_t0 {s0 s1 : List ByteArray} : ∀ k s, s1[k]? = some s → (hopsOf s0 s1 true s0.length s1.length)[0 + k]? = some (s, domainB) := by
  intro k s h
  have hk : k < s1.length := (List.getElem?_eq_some_iff.1 h).1
  unfold hopsOf
  rw [if_pos rfl, Nat.zero_add, List.getElem?_append_left (by simpa using hk), List.take_length, List.getElem?_map, h]
  rfl
theorem hopsOf_t1 {s0 s1 : List ByteArray} : ∀ k s, s0[k]? = some s → (hopsOf s0 s1 true s0.length s1.length)[s1.length + k]? = some (s, uucpB) := by
  intro k s h
  unfold hopsOf
  rw [if_pos rfl, List.getElem?_append_right (by simp), List.take_length, List.take_length, List.length_map, Nat.add_sub_cancel_left, List.getElem?_map, h]
  rfl
theorem hopsOf_f0 {s0 s1 : List ByteArray} : ∀ k s, s0[k]? = some s → (hopsOf s0 s1 false s0.length s1.length)[0 + k]? = some (s, uucpB) := by
  intro k s h
  have hk : k < s0.length := (List.getElem?_eq_some_iff.1 h).1
  unfold hopsOf
  rw [if_neg (by simp), Nat.zero_add, List.getElem?_append_left (by simpa using hk), List.take_length, List.getElem?_map, h]
  rfl
theorem hopsOf_f1 {s0 s1 : List ByteArray} : ∀ k s, s1[k]? = some s → (hopsOf s0 s1 false s0.length s1.length)[s0.length + k]? = some (s, domainB) := by
  intro k s h
  unfold hopsOf
  rw [if_neg (by simp), List.getElem?_append_right (by simp), List.take_length, List.take_length, List.length_map, Nat.add_sub_cancel_left, List.getElem?_map, h]
  rfl

/-- What the reading of the built text leaves. -/
def GotSaid (w : World) (m : ByteArray) (n : Nat) (hops : List (ByteArray × ByteArray)) (e : Ending) (w' : World) : Prop :=
  ∃ a c g, e = .returned (.tuple #[.slice a n c, .string m]) ∧ HopRow w' a n hops g ∧ Below w.heap.size w w'
theorem got_any (T m : ByteArray) (s0 s1 : List ByteArray) (pf : Bool) (n : Nat) (hn : s0.length + s1.length = n) (hT : T.data.toList = preL s0 ++ (m.data.toList ++ postL s1)) (hp : Prem s0 m s1) (hs : T.size ≤ 1048576) (w : World) :
    Calls Try.prog 16 #[.string T, .bool pf, .slice none 0 0] w fun e w' => GotSaid w m n (hopsOf s0 s1 pf s0.length s1.length) e w' := by
  refine (zread_any T pf (Places T s0 s1 pf) (places_kept hT hp pf) hs (places_start T s0 s1 pf) w).mono ?_
  rintro e w2 ⟨v, lo, hi, b, bn, bk, p, pn, hops, rfl, hc, hj, hb, hq, _, hown, hbel⟩
  obtain ⟨e1, e2⟩ := places_end hT hp hj hc hb hq
  subst e2
  obtain ⟨a, c, g, hv, hr⟩ := hown.hopRow
  rw [hopsOf_len, hn] at hv hr
  subst hv
  rw [e1]
  exact ⟨a, c, g, rfl, hr, hbel⟩

set_option maxRecDepth 100000 in
set_option maxHeartbeats 6400000 in
theorem law5 (a0 : Option Addr) (n0 c0 : Nat) (s0 : List ByteArray) (b0 o0 : Nat) (m : ByteArray) (a1 : Option Addr) (n1 c1 : Nat) (s1 : List ByteArray) (b1 o1 : Nat) (pf : Bool) (w : World)
    (hr0 : StrRow w a0 n0 s0 b0 o0) (hr1 : StrRow w a1 n1 s1 b1 o1) (hm0 : n0 ≤ maxLen) (hm1 : n1 ≤ maxLen) (hmm : m.size ≤ maxLen) :
    Calls Try.prog 5 #[.slice a0 n0 c0, .string m, .slice a1 n1 c1, .bool pf] w fun e w' => e = .returned (.bool true) ∧ Below w.heap.size w w' := by
  have HB := bytes13 a0 n0 c0 s0 b0 o0 m a1 n1 c1 s1 b1 o1 pf w hr0 hr1 hm0 hm1 hmm
  unfold maxLen at hm0 hm1 hmm
  go_enter Try.func5, Try.ntmps5
  go_wp2_with fail
  refine HB.mono ?_
  rintro e w1 ⟨⟨bb, rfl, hbb⟩, hw1⟩
  obtain rfl := hw1.symm
  clear HB hw1
  cases bb with
  | false =>
    go_wp2_with fail
    go_ret
    exact ⟨rfl, Below.refl _ _⟩
  | true =>
    have HSM : Hid (Smalls s0 s1) := hbb rfl
    clear hbb
    by_cases hz0 : n0 ≤ 65536
    · by_cases hz1 : n1 ≤ 65536
      · by_cases hzm : m.size ≤ 1048576
        · by_cases hzt : m.size + 16 * n0 + 16 * n1 ≤ 1048576
          · go_wp2_with fail
            go_loop [9, 10] (fun t i => ∃ (k x : Nat), k ≤ n0 ∧ i = .int .i64 k ∧ t = .int .i64 x ∧ Hid (x = m.size + 16 * n0 + 16 * n1 + tot s0 k) ∧ x ≤ 1048576) (fun _ i => n0 - (intOf i).toNat)
            case atStart => exact ⟨0, m.size + 16 * n0 + 16 * n1, Nat.zero_le _, rfl, by go_num, rfl, hzt⟩
            case round =>
              obtain ⟨k, x, hk, rfl, rfl, HX, hx1⟩ := hrel
              by_cases hlt : k < n0
              · have hi := hr0.idx hlt
                obtain ⟨s, hsmem, hks, hcell⟩ := hr0.cell hlt
                have hss : s.size ≤ 1048576 := HSM.out.1 s hsmem
                by_cases hbig : x + s.size ≤ 1048576
                · go_wp2_with fail
                  go_round
                  case rel => exact ⟨k + 1, x + s.size, by omega, by go_num, by go_num, by show _ = _; rw [tot_succ hks, HX.out]; omega, by omega⟩
                  case measure => simp [intOf]; omega
                · go_wp2_with fail
                  go_ret
                  exact ⟨rfl, Below.refl _ _⟩
              · obtain rfl : n0 = k := by omega
                go_wp2_with fail
                go_loop [9, 11] (fun t i => ∃ (j x : Nat), j ≤ n1 ∧ i = .int .i64 j ∧ t = .int .i64 x ∧ Hid (x = m.size + 16 * n0 + 16 * n1 + tot s0 n0 + tot s1 j) ∧ x ≤ 1048576) (fun _ i => n1 - (intOf i).toNat)
                case atStart => exact ⟨0, x, Nat.zero_le _, rfl, rfl, HX.out, hx1⟩
                case round =>
                  clear HX hx1
                  obtain ⟨j, y, hj, rfl, rfl, HX, hx1⟩ := hrel
                  by_cases hlt1 : j < n1
                  · have hi := hr1.idx hlt1
                    obtain ⟨s, hsmem, hks, hcell⟩ := hr1.cell hlt1
                    have hss : s.size ≤ 1048576 := HSM.out.2 s hsmem
                    by_cases hbig : y + s.size ≤ 1048576
                    · go_wp2_with fail
                      go_round
                      case rel => exact ⟨j + 1, y + s.size, by omega, by go_num, by go_num, by show _ = _; rw [tot_succ hks, HX.out]; omega, by omega⟩
                      case measure => simp [intOf]; omega
                    · go_wp2_with fail
                      go_ret
                      exact ⟨rfl, Below.refl _ _⟩
                  · obtain rfl : n1 = j := by omega
                    have hsize : (preL s0).length + (m.size + (postL s1).length) ≤ 1048576 := by
                      have e0 := tot_all hr0.1
                      have e1 := tot_all hr1.1
                      have l0 := hr0.1
                      have l1 := hr1.1
                      have hx := HX.out
                      rw [preL_len, postL_len]
                      omega
                    have hsm0 : ∀ s ∈ s0, s.size ≤ 1048576 := HSM.out.1
                    have hsm1 : ∀ s ∈ s1, s.size ≤ 1048576 := HSM.out.2
                    have HP14 := premise14 a0 n0 c0 s0 b0 o0 m a1 n1 c1 s1 b1 o1 w hr0 hr1 (by omega) (by omega) hzm hsm0 hsm1
                    clear hsm0 hsm1
                    go_wp2_with fail
                    refine HP14.mono ?_
                    rintro e w1 ⟨⟨bb, rfl, hbb⟩, hw1⟩
                    obtain rfl := hw1.symm
                    clear HP14 hw1
                    cases bb with
                    | false =>
                      go_wp2_with fail
                      go_ret
                      exact ⟨rfl, Below.refl _ _⟩
                    | true =>
                      have HPR : Hid (Prem s0 m s1) := hbb rfl
                      clear hbb
                      have HC0 := copy_any a0 n0 c0 s0 b0 o0 w hr0 (by omega)
                      go_wp2_with fail
                      refine HC0.mono ?_
                      rintro e w2 ⟨a0', c0', b0', o0', rfl, hr0', hb2⟩
                      have HC1 := copy_any a1 n1 c1 s1 b1 o1 w2 (hr1.below hb2) (by omega)
                      clear HC0
                      go_wp2_with fail
                      refine HC1.mono ?_
                      rintro e w3 ⟨a1', c1', b1', o1', rfl, hr1', hb3⟩
                      have hr0c := hr0'.below hb3
                      have hbw3 : Below w.heap.size w w3 := hb2.trans (hb3.mono hb2.size)
                      clear HC1 hr0' hb2 hb3
                      obtain ⟨i0, hi0, hzz0, hzz1, hzz2⟩ := info_parts Try.info5
                      go_wp2_with (at_make; refine wpList_make_own _ rfl _ _ 23 rfl w3.heap.size 5 i0 _ 1 Try.underlying23 hi0 hzz0 hzz1 _ _ _ y rfl rfl (by first | rfl | simp) (by rw [hzz2]; omega) (by unfold maxLen; omega) (by simp) ?_; intro w4 hown4 hg4; have hbel4 : Below w3.heap.size w3 w4 := (Below.refl _ _).grown hg4 (Nat.le_refl _) (by simp); clear hg4)
                      have hO4 : Owns w4 w3.heap.size (.slice (some ⟨w3.heap.size, 0, none⟩) 0 y) (preL (s0.take 0)) := hown4
                      clear hown4 hi0 hzz0 hzz1 hzz2
                      go_loopw [12, 13] (fun v t wr => ∃ k : Nat, k ≤ n0 ∧ t = .int .i64 k ∧ Owns wr w3.heap.size v (preL (s0.take k)) ∧ Below w3.heap.size w3 wr) (fun _ t _ => n0 - (intOf t).toNat)
                      case atStart => exact ⟨0, Nat.zero_le _, rfl, hO4, hbel4⟩
                      case round =>
                        clear hO4 hbel4
                        obtain ⟨k, hk, rfl, hown, hbel⟩ := hrel
                        have hlen : (preL (s0.take k)).length ≤ (preL s0).length := preL_le _ _
                        by_cases hlt3 : k < n0
                        · have hi := (hr0c.below hbel).idx hlt3
                          obtain ⟨s, hsmem, hks, hcell⟩ := (hr0c.below hbel).cell hlt3
                          have hss : s.size ≤ 1048576 := HSM.out.1 s hsmem
                          have R : Hid (preL (s0.take k) ++ s.data.toList ++ [33] = preL (s0.take (k + 1))) := preL_step hks
                          go_wp2_with (first | (at_builtin; refine app_str rfl (.tmp 95) (.tmp 99) rfl w3.heap.size _ _ rfl hown s rfl (by omega) hbel.size ?_; intro v2 w5 hO5 hg5; have hbel5 : Below w3.heap.size w3 w5 := hbel.grown hg5 hbel.size hown.row; clear hg5) | (at_builtin; refine app_one rfl (.tmp 101) (.tmp 102) rfl w3.heap.size _ _ w5 33 rfl rfl hO5 rfl (by rw [List.length_append, ba_len]; omega) hbel5.size ?_; intro v6 w6 hO6 hg6; have hbel6 : Below w3.heap.size w3 w6 := (hbel5.alloc hbel5.size _).grown hg6 (by simp; exact Nat.le_trans hbel5.size (Nat.le_succ _)) hO5.row; clear hg6))
                          rw [R.out] at hO6
                          go_roundw
                          case rel => exact ⟨k + 1, by omega, by go_num, hO6, hbel6⟩
                          case measure => simp [intOf]; omega
                        · obtain rfl : n0 = k := by omega
                          rw [List.take_of_length_le (Nat.le_of_eq hr0.1)] at hown
                          clear hlen
                          go_wp2_with (at_builtin; refine app_str rfl (.tmp 104) (.tmp 105) rfl w3.heap.size _ _ rfl hown m rfl (by omega) hbel.size ?_; intro v2 w5 hO5 hg5; have hbel5 : Below w3.heap.size w3 w5 := hbel.grown hg5 hbel.size hown.row; clear hg5)
                          have hO5' : Owns w5 w3.heap.size v2 (preL s0 ++ m.data.toList ++ postL (s1.drop ((n1 : Int) - 1 + 1).toNat)) := by
                            rw [show ((n1 : Int) - 1 + 1).toNat = n1 by omega, List.drop_of_length_le (Nat.le_of_eq hr1.1), postL_nil, List.append_nil]
                            exact hO5
                          clear hO5 hown hbel
                          go_loopw [12, 14] (fun v t wr => ∃ z : Int, -1 ≤ z ∧ z < n1 ∧ t = .int .i64 z ∧ Owns wr w3.heap.size v (preL s0 ++ m.data.toList ++ postL (s1.drop (z + 1).toNat)) ∧ Below w3.heap.size w3 wr) (fun _ t _ => (intOf t + 1).toNat)
                          case atStart => exact ⟨(n1 : Int) - 1, by omega, by omega, rfl, hO5', hbel5⟩
                          case round =>
                            clear hO5' hbel5
                            obtain ⟨z, hz1', hz2', rfl, hown, hbel⟩ := hrel
                            by_cases hzz : 0 ≤ z
                            · obtain ⟨j, rfl⟩ := Int.eq_ofNat_of_zero_le hzz
                              have hj1 : j < n1 := by omega
                              rw [show ((j : Int) + 1).toNat = j + 1 by omega] at hown
                              have hi := (hr1'.below hbel).idx hj1
                              obtain ⟨s, hsmem, hks, hcell⟩ := hr1'.cell hj1
                              have hss : s.size ≤ 1048576 := HSM.out.2 s hsmem
                              have HC : Hid (∀ W, Below w3.heap.size w3 W → W.cell? ⟨b1', o1' + j, none⟩ = some (.string s)) := by
                                intro W hW
                                rw [hW.cell (p := ⟨b1', o1' + j, none⟩) (World.block_lt_of_cell? _ _ hcell)]
                                exact hcell
                              have hdl := postL_drop_le s1 (j + 1)
                              have hlen : (preL s0 ++ m.data.toList ++ postL (s1.drop (j + 1))).length ≤ 1048576 := by
                                rw [List.length_append, List.length_append, ba_len]
                                omega
                              have R : Hid ((preL s0 ++ m.data.toList ++ postL (s1.drop (j + 1))) ++ [37] ++ s.data.toList = preL s0 ++ m.data.toList ++ postL (s1.drop j)) := postL_step hks _
                              obtain ⟨L, hL⟩ : ∃ L, preL s0 ++ m.data.toList ++ postL (s1.drop (j + 1)) = L := ⟨_, rfl⟩
                              rw [hL] at hown hlen R
                              clear hL hcell hdl hzz
                              go_wp2_with (first | (at_builtin; refine app_one rfl (.tmp 114) (.tmp 115) rfl w3.heap.size _ _ wr 37 rfl rfl hown rfl (by omega) hbel.size ?_; intro v5 w5 hO5 hg5; have hbel5 : Below w3.heap.size w3 w5 := (hbel.alloc hbel.size _).grown hg5 (by simp; exact Nat.le_trans hbel.size (Nat.le_succ _)) hown.row; have hcell5 := HC.out w5 hbel5; clear hg5) | (at_builtin; refine app_str rfl (.tmp 117) (.tmp 121) rfl w3.heap.size _ _ rfl hO5 s rfl (by rw [List.length_append, List.length_singleton]; omega) hbel5.size ?_; intro v6 w6 hO6 hg6; have hbel6 : Below w3.heap.size w3 w6 := hbel5.grown hg6 hbel5.size hO5.row; clear hg6))
                              rw [R.out] at hO6
                              go_roundw
                              case rel => exact ⟨(j : Int) - 1, by omega, by omega, rfl, by rw [show ((j : Int) - 1 + 1).toNat = j by omega]; exact hO6, hbel6⟩
                              case measure => simp [intOf]
                            · obtain rfl : z = -1 := by omega
                              rw [show ((-1 : Int) + 1).toNat = 0 from rfl, List.drop_zero] at hown
                              obtain ⟨T, hT⟩ : ∃ T : ByteArray, T = ⟨(preL s0 ++ m.data.toList ++ postL s1).toArray⟩ := ⟨_, rfl⟩
                              have cv := conv_own hown wr (Below.refl _ _)
                              rw [← hT] at cv
                              have hTL : T.data.toList = preL s0 ++ (m.data.toList ++ postL s1) := by rw [hT]; simp
                              have hTs : T.size ≤ 1048576 := by rw [built_size hTL]; exact hsize
                              have HG : Hid (∀ W, Calls Try.prog 16 #[.string T, .bool pf, .slice none 0 0] W fun e w' => GotSaid W m (n0 + n1) (hopsOf s0 s1 pf s0.length s1.length) e w') := fun W => got_any T m s0 s1 pf _ (by rw [hr0.1, hr1.1]) hTL HPR.out hTs W
                              clear hT hTL hTs hown
                              go_wp2_with fail
                              refine (HG.out _).mono ?_
                              rintro e w5 ⟨a, c, g, rfl, hrow, hb5⟩
                              have q1 : (m.toList == m.toList) = true := by simp
                              have q2 : (m.toList != m.toList) = false := by simp
                              have q3 : (((n0 + n1 : Nat) : Int) != (n0 : Int) + (n1 : Int)) = false := by simp
                              have hbw5 : Below w3.heap.size w3 w5 := hbel.trans (hb5.mono hbel.size)
                              have hL0 := hr0.1
                              have hL1 := hr1.1
                              clear HG cv hbel hb5
                              cases pf with
                              | true =>
                                have HX2 : Hid (∀ W, Below w5.heap.size w5 W → Calls Try.prog 17 #[.slice a (n0 + n1) c, .int .i64 (n1 : Nat), .slice a0' n0 c0', .string uucpB] W fun e w' => e = .returned (.bool true) ∧ Below W.heap.size W w') := fun W hW => hopsAre_yes a (n0 + n1) c _ g n1 a0' n0 c0' s0 b0' o0' uucpB W (hrow.below hW) ((hr0c.below hbw5).below hW) (by omega) (by omega) (by rw [← hL1]; exact hopsOf_t1)
                                have H1 : Calls Try.prog 17 #[.slice a (n0 + n1) c, .int .i64 0, .slice a1' n1 c1', .string domainB] w5 fun e w' => e = .returned (.bool true) ∧ Below w5.heap.size w5 w' := hopsAre_yes a (n0 + n1) c _ g 0 a1' n1 c1' s1 b1' o1' domainB w5 hrow (hr1'.below hbw5) (by omega) (by omega) hopsOf_t0
                                have HH1 : Hid (Calls Try.prog 17 #[.slice a (n0 + n1) c, .int .i64 0, .slice a1' n1 c1', .string domainB] w5 fun e w' => e = .returned (.bool true) ∧ Below w5.heap.size w5 w') := H1
                                clear H1 hL0 hL1
                                go_wp2_with fail
                                refine HH1.out.mono ?_
                                rintro e w6 ⟨rfl, hb6⟩
                                go_wp2_with fail
                                refine (HX2.out _ hb6).mono ?_
                                rintro e w7 ⟨rfl, hb7⟩
                                go_wp2_with fail
                                go_ret
                                exact ⟨rfl, ((hbw3.trans (hbw5.mono hbw3.size)).trans (hb6.mono (Nat.le_trans hbw3.size hbw5.size))).trans (hb7.mono (Nat.le_trans (Nat.le_trans hbw3.size hbw5.size) hb6.size))⟩
                              | false =>
                                have HX2 : Hid (∀ W, Below w5.heap.size w5 W → Calls Try.prog 17 #[.slice a (n0 + n1) c, .int .i64 (n0 : Nat), .slice a1' n1 c1', .string domainB] W fun e w' => e = .returned (.bool true) ∧ Below W.heap.size W w') := fun W hW => hopsAre_yes a (n0 + n1) c _ g n0 a1' n1 c1' s1 b1' o1' domainB W (hrow.below hW) ((hr1'.below hbw5).below hW) (by omega) (by omega) (by rw [← hL0]; exact hopsOf_f1)
                                have H1 : Calls Try.prog 17 #[.slice a (n0 + n1) c, .int .i64 0, .slice a0' n0 c0', .string uucpB] w5 fun e w' => e = .returned (.bool true) ∧ Below w5.heap.size w5 w' := hopsAre_yes a (n0 + n1) c _ g 0 a0' n0 c0' s0 b0' o0' uucpB w5 hrow (hr0c.below hbw5) (by omega) (by omega) hopsOf_f0
                                have HH1 : Hid (Calls Try.prog 17 #[.slice a (n0 + n1) c, .int .i64 0, .slice a0' n0 c0', .string uucpB] w5 fun e w' => e = .returned (.bool true) ∧ Below w5.heap.size w5 w') := H1
                                clear H1 hL0 hL1
                                go_wp2_with fail
                                refine HH1.out.mono ?_
                                rintro e w6 ⟨rfl, hb6⟩
                                go_wp2_with fail
                                refine (HX2.out _ hb6).mono ?_
                                rintro e w7 ⟨rfl, hb7⟩
                                go_wp2_with fail
                                go_ret
                                exact ⟨rfl, ((hbw3.trans (hbw5.mono hbw3.size)).trans (hb6.mono (Nat.le_trans hbw3.size hbw5.size))).trans (hb7.mono (Nat.le_trans (Nat.le_trans hbw3.size hbw5.size) hb6.size))⟩
          · go_wp2_with fail
            go_ret
            exact ⟨rfl, Below.refl _ _⟩
        · go_wp2_with fail
          go_ret
          exact ⟨rfl, Below.refl _ _⟩
      · go_wp2_with fail
        go_ret
        exact ⟨rfl, Below.refl _ _⟩
    · go_wp2_with fail
      go_ret
      exact ⟨rfl, Below.refl _ _⟩

end Go.Proofs.Qxb6000014a
