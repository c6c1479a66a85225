/-
  FnCutIsTheLeftmostLongestScan (3): the law's walk; the copy that every law of this seat makes first.
-/
import Derived.Test.Qxb6601367aCutAll
import Derived.Laws.CopyOwn
namespace Go.Proofs.Qxb6601367a
open Go.RowKit

theorem Try.size5 : (Try.prog.info? 5).map (·.size) = some 1 := by kernel_rfl

/-- 'copy(zzc, buf)', zzc just made as long as buf. -/
theorem copy_bytes {w : World} {ops : Array Oper} {rest : List Oper} {o : Oper} {a : Act} {Q : Exit → Act → World → Prop} (hgd : o.guard = none) (d s : Operand)
    (ho : o.op = .call { callee := .builtin .copy, args := #[d, s], argTypes := #[23, 23] }) (g n : Nat) (hd : a.eval d = .slice (some ⟨g, 0, none⟩) n n) (ao : Option Addr) (c : Nat) (l : List UInt8) (b off : Nat) (hs : a.eval s = .slice ao n c)
    (hr : BRow w ao n l b off) (base : Nat) (xs : List Value) (hown : w.ownsRow base 5 1 (.slice (some ⟨g, 0, none⟩) n n) n xs) (B : Nat) (w0 : World) (hb : Below B w0 w) (hBg : B ≤ g)
    (h : ∀ w', BRow w' (some ⟨g, 0, none⟩) n l g 0 → Below B w0 w' → wpList Try.prog ops Q rest (a.put o.dst (goInt n)) w') : wpList Try.prog ops Q (o :: rest) a w := by
  have hll := hr.1
  rcases hown.2 with ⟨h', _⟩ | ⟨g', cap', cur, h', _, hg, hnc, hcm, hcs, htake⟩
  · simp at h'
  simp only [Value.slice.injEq, Option.some.injEq, Addr.mk.injEq, and_true, true_and] at h'
  obtain ⟨rfl, rfl⟩ := h'
  have hcl : cur.toList.length = n := by rw [Array.length_toList, hcs]; omega
  refine wpList_copy_splice hgd d s 23 23 ho 5 Try.underlying23 Try.size5 (some ⟨g, 0, none⟩) ao n n n c hd hs g 0 cur.toList 5 (by rw [Array.toArray_toList]; exact hg) (cells l) (by rw [cells_length, hll]; exact (Nat.min_self n).symm) (fun h0 => ⟨rfl, ?_⟩) (by rw [cells_length]; omega) (cells_one l) B w0 hb hBg ?_
  · rw [cells_length] at h0
    exact ⟨⟨b, off, none⟩, hr.2.1 (by omega), hr.news⟩
  · intro w' HG hb'
    rw [cells_length, hll]
    refine h w' ⟨hll, fun _ => rfl, fun j hj => ?_⟩ hb'
    have e : splice cur.toList 0 (cells l) = cells l := by
      unfold splice
      rw [List.take_zero, List.nil_append, List.drop_of_length_le (by rw [cells_length]; omega), List.append_nil]
    have hg' := HG.out
    rw [e] at hg'
    rw [Nat.zero_add, cell_of_row w' g j _ 5 (0, 0) hg']
    have := cells_get l j (by omega)
    simpa using this

theorem neq_nil (w : World) (a : Option Addr) (n c n' c' : Nat) : (binOp .neq 23 (.slice a n c) (.slice none n' c')).run Try.prog w = .ok (.bool (!a.isNone)) w := run_neq_slice_nil_any w 23 5 a n c n' c' Try.underlying23

/-- What is told of an argument of type []byte. -/
def ArgB (w : World) (a : Option Addr) (n c : Nat) (l : List UInt8) (b o : Nat) : Prop := BRow w a n l b o ∧ n ≤ c ∧ (a = none → n = 0 ∧ c = 0) ∧ c ≤ maxLen

theorem Tot.finish {vs : List (List UInt8)} {buf : List UInt8} {E : Nat} (hE : E ≤ buf.length) : ∀ (f : Nat) {o : List UInt8} {p n : Nat}, E - p ≤ f → Tot vs buf E o p n → ∃ o' p' n', Tot vs buf E o' p' n' ∧ E ≤ p' := by
  intro f
  induction f with
  | zero => intro o p n h ht; exact ⟨o, p, n, ht, by omega⟩
  | succ f ih =>
    intro o p n h ht
    by_cases hp : p < E
    · by_cases hm : 0 < longest vs buf p
      · exact ih (by omega) (ht.hit hp rfl hm)
      · exact ih (by omega) (ht.miss hp hE (by omega))
    · exact ⟨o, p, n, ht, by omega⟩
theorem S_len_le (vs : List (List UInt8)) (buf : List UInt8) (E : Nat) (hE : E ≤ buf.length) : (S vs buf E 0).1.length ≤ 10 * buf.length ∧ E ≤ (S vs buf E 0).2.1 ∧ (S vs buf E 0).2.1 ≤ buf.length := by
  obtain ⟨o, p, n, ht, hp⟩ := (Tot.zero vs buf E).finish hE E (by omega)
  rw [ht.done hp]
  have h1 := ht.2.1
  have h2 := ht.2.2.1
  exact ⟨by show o.length ≤ _; omega, hp, h1⟩
theorem endOf_le (us : List (List UInt8)) (buf : List UInt8) (fin : Bool) : endOf us buf fin ≤ buf.length := by
  unfold endOf
  split <;> omega

set_option maxHeartbeats 2000000 in
set_option maxRecDepth 100000 in
theorem law3 (a0 : Option Addr) (n0 c0 : Nat) (vs : List Sl) (b0 o0 : Nat) (a1 : Option Addr) (n1 c1 : Nat) (buf : List UInt8) (b1 o1 : Nat) (fin : Bool) (m : Int) (w : World)
    (hr0 : VRow w a0 n0 vs b0 o0) (hm0 : n0 ≤ maxLen) (hA1 : ArgB w a1 n1 c1 buf b1 o1) (hmx : w.cell? ⟨0, 0, none⟩ = some (.int .i64 m)) :
    Calls Try.prog 3 #[.slice a0 n0 c0, .slice a1 n1 c1, .bool fin] w fun e w' => e = .returned (.bool true) ∧ Below w.heap.size w w' := by
  obtain ⟨hr1, hcap, hnil, hm1⟩ := hA1
  have q23 := neq_nil
  obtain ⟨i0, hi, hz0, hz1, hz2⟩ := info_parts Try.info5
  go_enter Try.func3, Try.ntmps3
  go_wp2_with fail
  refine (bytes9_any a0 n0 c0 vs b0 o0 a1 n1 c1 fin _ hr0 hm0 (Nat.le_trans hcap hm1)).mono ?_
  rintro e w1 ⟨⟨b, rfl, hb⟩, hw1⟩
  obtain rfl := hw1.symm
  cases b with
  | false =>
    clear hb
    go_wp2_with fail
    go_ret
    exact ⟨rfl, Below.refl _ _⟩
  | true =>
    obtain ⟨hn0, hsm, hn1⟩ := hb rfl
    have HS : Hid (∀ s ∈ vs, s.l.length ≤ 1048576) := hsm
    clear hb hsm hm0 hm1
    go_wp2_with fail
    refine (valuesSize_any a0 n0 c0 vs b0 o0 _ hr0 hn0).mono ?_
    rintro e w1 ⟨⟨t0, rfl, ht0, ht1⟩, hw1⟩
    obtain rfl := hw1.symm
    by_cases hgt : 1048576 - (n1 : Int) < t0
    · go_wp2_with fail
      go_ret
      exact ⟨rfl, Below.refl _ _⟩
    · go_wp2_with fail
      refine (wellFormed_any a0 n0 c0 vs b0 o0 _ hr0 hn0 HS.out).mono ?_
      rintro e w1 ⟨⟨b, rfl, hb⟩, hs1⟩
      have hbel1 := hs1.below w.heap.size
      cases b with
      | false =>
        clear hb
        go_wp2_with fail
        go_ret
        exact ⟨rfl, hbel1⟩
      | true =>
        have HW : Hid (Wf (bs vs)) := hb rfl
        clear hb
        have hr0' := hr0.same hs1
        have hr1' := hr1.same hs1
        have hmx' := (hs1.cell ⟨0, 0, none⟩).trans hmx
        clear hr0 hr1 hmx hs1
        cases a1 with
        | none =>
          obtain ⟨rfl, rfl⟩ := hnil rfl
          clear hnil
          go_wp2_with fail
          refine (zcut_any a0 n0 c0 vs b0 o0 none 0 0 buf b1 o1 fin m _ hr0' hr1' hn0 hn1 HS.out HW.out (Nat.le_refl _) (fun _ => ⟨rfl, rfl⟩) hmx').mono ?_
          rintro e w4 ⟨v0, v1, rfl, h0, h1, hb4⟩
          have hSL := S_len_le (bs vs) buf (endOf (bs vs) buf fin) (endOf_le _ _ _)
          obtain ⟨R, hR⟩ : ∃ R, S (bs vs) buf (endOf (bs vs) buf fin) 0 = R := ⟨_, rfl⟩
          rw [hR] at h0 h1 hSL ⊢
          have HR : Hid (S (bs vs) buf (endOf (bs vs) buf fin) 0 = R) := hR
          clear hR
          obtain ⟨D, p, K⟩ := R
          obtain ⟨x0, k0, y0, p0, q0, rfl, h0, _, _⟩ := h0.opened
          obtain ⟨x1, k1, y1, p1, q1, rfl, h1, _, _⟩ := h1.opened
          go_wp2_with fail
          refine (scanModel_any a0 n0 c0 vs b0 o0 none 0 0 buf b1 o1 fin _ (hr0'.below hb4 (Nat.le_refl _)) (hr1'.below hb4 (Nat.le_refl _)) hn0 hn1 HS.out (Nat.le_refl _) (fun _ => ⟨rfl, rfl⟩)).mono ?_
          rintro e w5 ⟨v2, v3, rfl, h2, h3, hb5⟩
          rw [HR.out] at h2 h3 ⊢
          obtain ⟨x2, k2, y2, p2, q2, rfl, h2, _, _⟩ := h2.opened
          obtain ⟨x3, k3, y3, p3, q3, rfl, h3, _, _⟩ := h3.opened
          have hkk : ((K : Int) == (K : Int)) = true := by simp
          have hk0 : k0 ≤ maxLen := by
            have := h0.1
            have := hSL.1
            have := hr1'.1
            unfold maxLen
            omega
          have hk1 : k1 ≤ maxLen := by
            have := h1.1
            rw [List.length_drop] at this
            have := hr1'.1
            unfold maxLen
            omega
          have hbb : Below w.heap.size w w5 := (hbel1.trans (hb4.mono hbel1.size)).trans (hb5.mono (Nat.le_trans hbel1.size hb4.size))
          have g0 := h0.below hb5 (Nat.le_refl _)
          have g1 := h1.below hb5 (Nat.le_refl _)
          clear hSL hb4 hb5 h0 h1 HR
          go_wp2_with fail
          refine (eqBytes_any x0 k0 y0 D p0 q0 x2 k2 y2 D p2 q2 _ g0 h2 hk0).mono ?_
          rintro e w6 ⟨rfl, hs6⟩
          rw [show decide (D = D) = true from by simp]
          go_wp2_with fail
          refine (eqBytes_any x1 k1 y1 _ p1 q1 x3 k3 y3 _ p3 q3 _ (g1.same hs6) (h3.same hs6) hk1).mono ?_
          rintro e w7 ⟨rfl, hs7⟩
          rw [show decide (List.drop p buf = List.drop p buf) = true from by simp]
          go_wp2_with fail
          go_ret
          exact ⟨rfl, (hbb.trans (hs6.below _)).trans (hs7.below _)⟩
        | some x =>
          have tokc : True := trivial
          go_wp2_with (first | (at_make; refine wpList_make_full _ rfl _ _ 23 rfl w1.heap.size 5 i0 _ 1 Try.underlying23 hi hz0 hz1 _ _ _ _ n1 rfl rfl (by first | rfl | simp) (by first | rfl | simp) (by rw [hz2]; omega) (by unfold maxLen; omega) (by simp) ?_; intro w2 hown2 hg2; have hb2 : Below w1.heap.size w1 w2 := (Below.refl _ _).grown hg2 (Nat.le_refl _) (by simp); clear hg2) | (have _t := tokc; refine copy_bytes rfl (.tmp 36) (.tmp 37) rfl w1.heap.size n1 rfl (some x) c1 buf b1 o1 rfl (hr1'.below hb2 (Nat.le_refl _)) w1.heap.size _ hown2 w1.heap.size w1 hb2 (Nat.le_refl _) ?_; intro w3 hr3 hb3; clear tokc))
          have hv3 := hr0'.below hb3 (Nat.le_refl _)
          have hmx3 := (hb3.cell (p := ⟨0, 0, none⟩) (World.block_lt_of_cell? _ _ hmx')).trans hmx'
          have hbel3 : Below w.heap.size w w3 := hbel1.trans (hb3.mono hbel1.size)
          clear hown2 hb2 hb3 hr0' hr1' hmx'
          refine (zcut_any a0 n0 c0 vs b0 o0 (some ⟨w1.heap.size, 0, none⟩) n1 n1 buf w1.heap.size 0 fin m _ hv3 hr3 hn0 hn1 HS.out HW.out (Nat.le_refl _) (fun h => by cases h) hmx3).mono ?_
          rintro e w4 ⟨v0, v1, rfl, h0, h1, hb4⟩
          have hSL := S_len_le (bs vs) buf (endOf (bs vs) buf fin) (endOf_le _ _ _)
          obtain ⟨R, hR⟩ : ∃ R, S (bs vs) buf (endOf (bs vs) buf fin) 0 = R := ⟨_, rfl⟩
          rw [hR] at h0 h1 hSL ⊢
          have HR : Hid (S (bs vs) buf (endOf (bs vs) buf fin) 0 = R) := hR
          clear hR
          obtain ⟨D, p, K⟩ := R
          obtain ⟨x0, k0, y0, p0, q0, rfl, h0, _, _⟩ := h0.opened
          obtain ⟨x1, k1, y1, p1, q1, rfl, h1, _, _⟩ := h1.opened
          go_wp2_with fail
          refine (scanModel_any a0 n0 c0 vs b0 o0 (some ⟨w1.heap.size, 0, none⟩) n1 n1 buf w1.heap.size 0 fin _ (hv3.below hb4 (Nat.le_refl _)) (hr3.below hb4 (Nat.le_refl _)) hn0 hn1 HS.out (Nat.le_refl _) (fun h => by cases h)).mono ?_
          rintro e w5 ⟨v2, v3, rfl, h2, h3, hb5⟩
          rw [HR.out] at h2 h3 ⊢
          obtain ⟨x2, k2, y2, p2, q2, rfl, h2, _, _⟩ := h2.opened
          obtain ⟨x3, k3, y3, p3, q3, rfl, h3, _, _⟩ := h3.opened
          have hkk : ((K : Int) == (K : Int)) = true := by simp
          have hk0 : k0 ≤ maxLen := by
            have := h0.1
            have := hSL.1
            have := hr3.1
            unfold maxLen
            omega
          have hk1 : k1 ≤ maxLen := by
            have := h1.1
            rw [List.length_drop] at this
            have := hr3.1
            unfold maxLen
            omega
          have hbb : Below w.heap.size w w5 := (hbel3.trans (hb4.mono hbel3.size)).trans (hb5.mono (Nat.le_trans hbel3.size hb4.size))
          have g0 := h0.below hb5 (Nat.le_refl _)
          have g1 := h1.below hb5 (Nat.le_refl _)
          clear hSL hb4 hb5 h0 h1 HR
          go_wp2_with fail
          refine (eqBytes_any x0 k0 y0 D p0 q0 x2 k2 y2 D p2 q2 _ g0 h2 hk0).mono ?_
          rintro e w6 ⟨rfl, hs6⟩
          rw [show decide (D = D) = true from by simp]
          go_wp2_with fail
          refine (eqBytes_any x1 k1 y1 _ p1 q1 x3 k3 y3 _ p3 q3 _ (g1.same hs6) (h3.same hs6) hk1).mono ?_
          rintro e w7 ⟨rfl, hs7⟩
          rw [show decide (List.drop p buf = List.drop p buf) = true from by simp]
          go_wp2_with fail
          go_ret
          exact ⟨rfl, (hbb.trans (hs6.below _)).trans (hs7.below _)⟩

end Go.Proofs.Qxb6601367a
