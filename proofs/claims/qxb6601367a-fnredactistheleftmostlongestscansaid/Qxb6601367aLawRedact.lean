/-
  FnRedactIsTheLeftmostLongestScan (5): the law's walk.
-/
import Derived.Test.Qxb6601367aLawCut
namespace Go.Proofs.Qxb6601367a
open Go.RowKit

set_option maxHeartbeats 2000000 in
set_option maxRecDepth 100000 in
theorem law5 (a0 : Option Addr) (n0 c0 : Nat) (vs : List Sl) (b0 o0 : Nat) (a1 : Option Addr) (n1 c1 : Nat) (buf : List UInt8) (b1 o1 : Nat) (m : Int) (w : World)
    (hr0 : VRow w a0 n0 vs b0 o0) (hm0 : n0 ≤ maxLen) (hA1 : ArgB w a1 n1 c1 buf b1 o1) (hmx : w.cell? ⟨0, 0, none⟩ = some (.int .i64 m)) :
    Calls Try.prog 5 #[.slice a0 n0 c0, .slice a1 n1 c1] w fun e w' => e = .returned (.bool true) ∧ Below w.heap.size w w' := by
  obtain ⟨hr1, hcap, hnil, hm1⟩ := hA1
  have q23 := neq_nil
  obtain ⟨i0, hi, hz0, hz1, hz2⟩ := info_parts Try.info5
  go_enter Try.func5, Try.ntmps5
  go_wp2_with fail
  refine (bytes18_any a0 n0 c0 vs b0 o0 a1 n1 c1 _ hr0 hm0 (Nat.le_trans hcap hm1)).mono ?_
  rintro e w1 ⟨⟨b, rfl, hb⟩, hw1⟩
  obtain rfl := hw1.symm
  cases b with
  | false =>
    clear hb
    go_wp2_with fail
    go_ret
    exact ⟨rfl, Below.refl _ _⟩
  | true =>
    obtain ⟨hn0, hsm, hn1⟩ := hb rfl
    have HS : Hid (∀ s ∈ vs, s.l.length ≤ 1048576) := hsm
    clear hb hsm hm0 hm1
    go_wp2_with fail
    refine (valuesSize_any a0 n0 c0 vs b0 o0 _ hr0 hn0).mono ?_
    rintro e w1 ⟨⟨t0, rfl, ht0, ht1⟩, hw1⟩
    obtain rfl := hw1.symm
    by_cases hgt : 1048576 - (n1 : Int) < t0
    · go_wp2_with fail
      go_ret
      exact ⟨rfl, Below.refl _ _⟩
    · go_wp2_with fail
      refine (wellFormed_any a0 n0 c0 vs b0 o0 _ hr0 hn0 HS.out).mono ?_
      rintro e w1 ⟨⟨b, rfl, hb⟩, hs1⟩
      have hbel1 := hs1.below w.heap.size
      cases b with
      | false =>
        clear hb
        go_wp2_with fail
        go_ret
        exact ⟨rfl, hbel1⟩
      | true =>
        have HW : Hid (Wf (bs vs)) := hb rfl
        clear hb
        have hr0' := hr0.same hs1
        have hr1' := hr1.same hs1
        have hmx' := (hs1.cell ⟨0, 0, none⟩).trans hmx
        clear hr0 hr1 hmx hs1
        cases a1 with
        | none =>
          obtain ⟨rfl, rfl⟩ := hnil rfl
          clear hnil
          go_wp2_with fail
          refine (scanModel_any a0 n0 c0 vs b0 o0 none 0 0 buf b1 o1 true _ hr0' hr1' hn0 hn1 HS.out (Nat.le_refl _) (fun _ => ⟨rfl, rfl⟩)).mono ?_
          rintro e w4 ⟨v0, v1, rfl, h0, h1, hb4⟩
          rw [show endOf (bs vs) buf true = buf.length from rfl] at h0 h1 ⊢
          have hSL := S_len_le (bs vs) buf buf.length (Nat.le_refl _)
          obtain ⟨R, hR⟩ : ∃ R, S (bs vs) buf buf.length 0 = R := ⟨_, rfl⟩
          rw [hR] at h0 h1 hSL ⊢
          have HR : Hid (S (bs vs) buf buf.length 0 = R) := hR
          clear hR
          obtain ⟨D, p, K⟩ := R
          simp only at h0 h1 hSL ⊢
          obtain ⟨x0, k0, y0, p0, q0, rfl, h0, _, _⟩ := h0.opened
          obtain ⟨x1, k1, y1, p1, q1, rfl, _, _, _⟩ := h1.opened
          go_wp2_with fail
          refine (zredact_any a0 n0 c0 vs b0 o0 none 0 0 buf b1 o1 m _ (hr0'.below hb4 (Nat.le_refl _)) (hr1'.below hb4 (Nat.le_refl _)) hn0 hn1 HS.out HW.out (Nat.le_refl _) (fun _ => ⟨rfl, rfl⟩) ((hb4.cell (p := ⟨0, 0, none⟩) (World.block_lt_of_cell? _ _ hmx')).trans hmx')).mono ?_
          rintro e w5 ⟨v2, rfl, h2, hb5⟩
          rw [HR.out] at h2
          simp only at h2
          obtain ⟨x2, k2, y2, p2, q2, rfl, h2, _, _⟩ := h2.opened
          have hk2 : k2 ≤ maxLen := by
            have := h2.1
            have := hSL.1
            have := hr1'.1
            unfold maxLen
            omega
          have hbb : Below w.heap.size w w5 := (hbel1.trans (hb4.mono hbel1.size)).trans (hb5.mono (Nat.le_trans hbel1.size hb4.size))
          have g0 := h0.below hb5 (Nat.le_refl _)
          clear hSL hb4 hb5 h0 HR
          go_wp2_with fail
          refine (eqBytes_any x2 k2 y2 D p2 q2 x0 k0 y0 D p0 q0 _ h2 g0 hk2).mono ?_
          rintro e w6 ⟨rfl, hs6⟩
          rw [show decide (D = D) = true from by simp]
          go_wp2_with fail
          go_ret
          exact ⟨rfl, hbb.trans (hs6.below _)⟩
        | some x =>
          have tokc : True := trivial
          go_wp2_with (first | (at_make; refine wpList_make_full _ rfl _ _ 23 rfl w1.heap.size 5 i0 _ 1 Try.underlying23 hi hz0 hz1 _ _ _ _ n1 rfl rfl (by first | rfl | simp) (by first | rfl | simp) (by rw [hz2]; omega) (by unfold maxLen; omega) (by simp) ?_; intro w2 hown2 hg2; have hb2 : Below w1.heap.size w1 w2 := (Below.refl _ _).grown hg2 (Nat.le_refl _) (by simp); clear hg2) | (have _t := tokc; refine copy_bytes rfl (.tmp 30) (.tmp 31) rfl w1.heap.size n1 rfl (some x) c1 buf b1 o1 rfl (hr1'.below hb2 (Nat.le_refl _)) w1.heap.size _ hown2 w1.heap.size w1 hb2 (Nat.le_refl _) ?_; intro w3 hr3 hb3; clear tokc))
          have hv3 := hr0'.below hb3 (Nat.le_refl _)
          have hmx3 := (hb3.cell (p := ⟨0, 0, none⟩) (World.block_lt_of_cell? _ _ hmx')).trans hmx'
          have hbel3 : Below w.heap.size w w3 := hbel1.trans (hb3.mono hbel1.size)
          clear hown2 hb2 hb3 hr0' hr1' hmx'
          refine (scanModel_any a0 n0 c0 vs b0 o0 (some ⟨w1.heap.size, 0, none⟩) n1 n1 buf w1.heap.size 0 true _ hv3 hr3 hn0 hn1 HS.out (Nat.le_refl _) (fun h => by cases h)).mono ?_
          rintro e w4 ⟨v0, v1, rfl, h0, h1, hb4⟩
          rw [show endOf (bs vs) buf true = buf.length from rfl] at h0 h1 ⊢
          have hSL := S_len_le (bs vs) buf buf.length (Nat.le_refl _)
          obtain ⟨R, hR⟩ : ∃ R, S (bs vs) buf buf.length 0 = R := ⟨_, rfl⟩
          rw [hR] at h0 h1 hSL ⊢
          have HR : Hid (S (bs vs) buf buf.length 0 = R) := hR
          clear hR
          obtain ⟨D, p, K⟩ := R
          simp only at h0 h1 hSL ⊢
          obtain ⟨x0, k0, y0, p0, q0, rfl, h0, _, _⟩ := h0.opened
          obtain ⟨x1, k1, y1, p1, q1, rfl, _, _, _⟩ := h1.opened
          go_wp2_with fail
          refine (zredact_any a0 n0 c0 vs b0 o0 (some ⟨w1.heap.size, 0, none⟩) n1 n1 buf w1.heap.size 0 m _ (hv3.below hb4 (Nat.le_refl _)) (hr3.below hb4 (Nat.le_refl _)) hn0 hn1 HS.out HW.out (Nat.le_refl _) (fun h => by cases h) ((hb4.cell (p := ⟨0, 0, none⟩) (World.block_lt_of_cell? _ _ hmx3)).trans hmx3)).mono ?_
          rintro e w5 ⟨v2, rfl, h2, hb5⟩
          rw [HR.out] at h2
          simp only at h2
          obtain ⟨x2, k2, y2, p2, q2, rfl, h2, _, _⟩ := h2.opened
          have hk2 : k2 ≤ maxLen := by
            have := h2.1
            have := hSL.1
            have := hr3.1
            unfold maxLen
            omega
          have hbb : Below w.heap.size w w5 := (hbel3.trans (hb4.mono hbel3.size)).trans (hb5.mono (Nat.le_trans hbel3.size hb4.size))
          have g0 := h0.below hb5 (Nat.le_refl _)
          clear hSL hb4 hb5 h0 HR
          go_wp2_with fail
          refine (eqBytes_any x2 k2 y2 D p2 q2 x0 k0 y0 D p0 q0 _ h2 g0 hk2).mono ?_
          rintro e w6 ⟨rfl, hs6⟩
          rw [show decide (D = D) = true from by simp]
          go_wp2_with fail
          go_ret
          exact ⟨rfl, hbb.trans (hs6.below _)⟩

end Go.Proofs.Qxb6601367a
