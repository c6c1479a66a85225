/-
  FnCutInTwoCallsAgreesWithRedact (4): the law's walk.
-/
import Derived.Test.Qxb6601367aTwo
namespace Go.Proofs.Qxb6601367a
open Go.RowKit

theorem S_cnt_le (vs : List (List UInt8)) (buf : List UInt8) (E : Nat) (hE : E ≤ buf.length) : (S vs buf E 0).2.2 ≤ (S vs buf E 0).2.1 := by
  obtain ⟨o, p, n, ht, hp⟩ := (Tot.zero vs buf E).finish hE E (by omega)
  rw [ht.done hp]
  exact ht.2.2.2

set_option maxHeartbeats 4000000 in
set_option maxRecDepth 100000 in
theorem law4 (a0 : Option Addr) (n0 c0 : Nat) (vs : List Sl) (b0 o0 : Nat) (a1 : Option Addr) (n1 c1 : Nat) (la : List UInt8) (b1 o1 : Nat) (a2 : Option Addr) (n2 c2 : Nat) (lb : List UInt8) (b2 o2 : Nat) (m : Int) (w : World)
    (hr0 : VRow w a0 n0 vs b0 o0) (hm0 : n0 ≤ maxLen) (hA1 : ArgB w a1 n1 c1 la b1 o1) (hA2 : ArgB w a2 n2 c2 lb b2 o2) (hmx : w.cell? ⟨0, 0, none⟩ = some (.int .i64 m)) :
    Calls Try.prog 4 #[.slice a0 n0 c0, .slice a1 n1 c1, .slice a2 n2 c2] w fun e w' => e = .returned (.bool true) ∧ Below w.heap.size w w' := by
  obtain ⟨hr2, hcap2, hnil2, hm2⟩ := hA2
  obtain ⟨hr1, hcap, hnil, hm1⟩ := hA1
  have q23 := neq_nil
  obtain ⟨i0, hi, hz0, hz1, hz2⟩ := info_parts Try.info5
  go_enter Try.func4, Try.ntmps4
  go_wp2_with fail
  refine (bytes15_any a0 n0 c0 vs b0 o0 a1 n1 c1 a2 n2 c2 _ hr0 hm0 (Nat.le_trans hcap hm1) (Nat.le_trans hcap2 hm2)).mono ?_
  rintro e w1 ⟨⟨b, rfl, hb⟩, hw1⟩
  obtain rfl := hw1.symm
  cases b with
  | false =>
    clear hb
    go_wp2_with fail
    go_ret
    exact ⟨rfl, Below.refl _ _⟩
  | true =>
    obtain ⟨hn0, hsm, hn1⟩ := hb rfl
    have HS : Hid (∀ s ∈ vs, s.l.length ≤ 1048576) := hsm
    clear hb hsm hm0 hm1 hm2
    go_wp2_with fail
    refine (valuesSize_any a0 n0 c0 vs b0 o0 _ hr0 hn0).mono ?_
    rintro e w1 ⟨⟨t0, rfl, ht0, ht1⟩, hw1⟩
    obtain rfl := hw1.symm
    by_cases hgt : 1048576 - (n1 : Int) - (n2 : Int) < t0
    · go_wp2_with fail
      go_ret
      exact ⟨rfl, Below.refl _ _⟩
    · go_wp2_with fail
      refine (wellFormed_any a0 n0 c0 vs b0 o0 _ hr0 hn0 HS.out).mono ?_
      rintro e w1 ⟨⟨b, rfl, hb⟩, hs1⟩
      have hbel1 := hs1.below w.heap.size
      cases b with
      | false =>
        clear hb
        go_wp2_with fail
        go_ret
        exact ⟨rfl, hbel1⟩
      | true =>
        have HW : Hid (Wf (bs vs)) := hb rfl
        clear hb
        have hr0' := hr0.same hs1
        have hr1' := hr1.same hs1
        have hr2' := hr2.same hs1
        have hmx' := (hs1.cell ⟨0, 0, none⟩).trans hmx
        clear hr0 hr1 hr2 hmx hs1
        cases a1 with
        | none =>
          obtain ⟨rfl, rfl⟩ := hnil rfl
          clear hnil
          go_wp2_with fail
          have HLA : Hid (la.length = 0) := hr1'.1
          have HLB : Hid (lb.length = n2) := hr2'.1
          refine (zcut_any a0 n0 c0 vs b0 o0 none 0 0 la b1 o1 false m _ hr0' hr1' hn0 (by omega) HS.out HW.out (Nat.le_refl _) (fun _ => ⟨rfl, rfl⟩) hmx').mono ?_
          rintro e w4 ⟨v0, v1, rfl, s0, s1, e4⟩
          have bd1 := S_len_le (bs vs) la (endOf (bs vs) la false) (endOf_le _ _ _)
          have ct1 := S_cnt_le (bs vs) la (endOf (bs vs) la false) (endOf_le _ _ _)
          have tw := two_calls (bs vs) la lb
          obtain ⟨R1, hR1⟩ : ∃ R, S (bs vs) la (endOf (bs vs) la false) 0 = R := ⟨_, rfl⟩
          rw [hR1] at s0 s1 bd1 ct1 tw ⊢
          clear hR1
          obtain ⟨D1, P1, K1⟩ := R1
          simp only at s0 s1 bd1 ct1 tw ⊢
          obtain ⟨x0, k0, y0, p0, q0, rfl, s0, g0, f0⟩ := s0.opened
          obtain ⟨x1, k1, y1, p1, q1, rfl, s1, g1, f1⟩ := s1.opened
          have hk0 : k0 ≤ 20000000 := by have := s0.1; have := HLA.out; omega
          have hk1 : k1 + P1 = 0 := by have h := s1.1; rw [List.length_drop] at h; have := HLA.out; omega
          have hP1 : P1 ≤ 0 := by have := HLA.out; omega
          have TW : Hid (D1 ++ (S (bs vs) (List.drop P1 la ++ lb) (List.drop P1 la ++ lb).length 0).1 = (S (bs vs) (la ++ lb) (la ++ lb).length 0).1 ∧ K1 + (S (bs vs) (List.drop P1 la ++ lb) (List.drop P1 la ++ lb).length 0).2.2 = (S (bs vs) (la ++ lb) (la ++ lb).length 0).2.2) := tw
          have hK1 : K1 ≤ 1048576 := by omega
          have HK1 : Hid (k1 + P1 = 0) := hk1
          clear bd1 ct1 tw hk1
          go_wp2_with fail
          refine (concat_any x1 k1 y1 (la.drop P1) p1 q1 a2 n2 c2 lb b2 o2 _ s1 (hr2'.below e4 (Nat.le_refl _)) f1 hnil2 (by have := HK1.out; omega) (by omega)).mono ?_
          rintro e w5 ⟨v5, rfl, s5, e5⟩
          obtain ⟨x5, k5, y5, p5, q5, rfl, s5, g5, f5⟩ := s5.opened
          have hk5 : k5 ≤ 1048576 := by have h := s5.1; rw [List.length_append, s1.1] at h; have := HK1.out; have := HLB.out; omega
          have c5 := e4.trans (e5.mono e4.size)
          go_wp2_with fail
          refine (zcut_any a0 n0 c0 vs b0 o0 x5 k5 y5 (la.drop P1 ++ lb) p5 q5 true m _ (hr0'.below c5 (Nat.le_refl _)) s5 hn0 hk5 HS.out HW.out g5 f5 ((c5.cell (p := ⟨0, 0, none⟩) (World.block_lt_of_cell? _ _ hmx')).trans hmx')).mono ?_
          rintro e w6 ⟨v6, v7, rfl, s6, s7, e6⟩
          rw [show endOf (bs vs) (la.drop P1 ++ lb) true = (la.drop P1 ++ lb).length from rfl] at s6 s7 ⊢
          have bd2 := S_len_le (bs vs) (la.drop P1 ++ lb) (la.drop P1 ++ lb).length (Nat.le_refl _)
          have ct2 := S_cnt_le (bs vs) (la.drop P1 ++ lb) (la.drop P1 ++ lb).length (Nat.le_refl _)
          have tw := TW.out
          obtain ⟨R2, hR2⟩ : ∃ R, S (bs vs) (la.drop P1 ++ lb) (la.drop P1 ++ lb).length 0 = R := ⟨_, rfl⟩
          rw [hR2] at s6 s7 bd2 ct2 tw ⊢
          clear hR2 TW
          obtain ⟨D2, P2, K2⟩ := R2
          simp only at s6 s7 bd2 ct2 tw ⊢
          have hl5 := s5.1
          rw [hl5] at bd2
          obtain ⟨x6, k6, y6, p6, q6, rfl, s6, g6, f6⟩ := s6.opened
          obtain ⟨x7, k7, y7, p7, q7, rfl, s7, g7, f7⟩ := s7.opened
          have hk6 : k6 ≤ 20000000 := by have := s6.1; omega
          obtain rfl : k7 = 0 := by have h := s7.1; rw [List.length_drop, hl5] at h; omega
          have TW : Hid (D1 ++ D2 = (S (bs vs) (la ++ lb) (la ++ lb).length 0).1 ∧ K1 + K2 = (S (bs vs) (la ++ lb) (la ++ lb).length 0).2.2) := tw
          have hK2 : K2 ≤ 1048576 := by omega
          clear bd2 ct2 tw hl5
          have c6 := c5.trans (e6.mono c5.size)
          have d6 := e5.trans (e6.mono e5.size)
          go_wp2_with fail
          refine (concat_any none 0 0 la b1 o1 a2 n2 c2 lb b2 o2 _ (hr1'.below c6 (Nat.le_refl _)) (hr2'.below c6 (Nat.le_refl _)) (fun _ => ⟨rfl, rfl⟩) hnil2 (by omega) (by omega)).mono ?_
          rintro e w7 ⟨v8, rfl, s8, e7⟩
          obtain ⟨x8, k8, y8, p8, q8, rfl, s8, g8, f8⟩ := s8.opened
          have hk8 : k8 ≤ 1048576 := by have h := s8.1; rw [List.length_append] at h; have := HLA.out; have := HLB.out; omega
          have c7 := c6.trans (e7.mono c6.size)
          have d7 := d6.trans (e7.mono d6.size)
          go_wp2_with fail
          refine (zredact_any a0 n0 c0 vs b0 o0 x8 k8 y8 (la ++ lb) p8 q8 m _ (hr0'.below c7 (Nat.le_refl _)) s8 hn0 hk8 HS.out HW.out g8 f8 ((c7.cell (p := ⟨0, 0, none⟩) (World.block_lt_of_cell? _ _ hmx')).trans hmx')).mono ?_
          rintro e w8 ⟨v9, rfl, s9, e8⟩
          have c8 := c7.trans (e8.mono c7.size)
          have d8 := d7.trans (e8.mono d7.size)
          have h8 := e7.trans (e8.mono e7.size)
          have bd3 := S_len_le (bs vs) (la ++ lb) (la ++ lb).length (Nat.le_refl _)
          have ct3 := S_cnt_le (bs vs) (la ++ lb) (la ++ lb).length (Nat.le_refl _)
          have tw := TW.out
          obtain ⟨R3, hR3⟩ : ∃ R, S (bs vs) (la ++ lb) (la ++ lb).length 0 = R := ⟨_, rfl⟩
          rw [hR3] at s9 bd3 ct3 tw
          have HR3 : Hid (S (bs vs) (la ++ lb) (la ++ lb).length 0 = R3) := hR3
          clear hR3 TW
          obtain ⟨D3, P3, K3⟩ := R3
          simp only at s9 bd3 ct3 tw
          have hl8 := s8.1
          rw [hl8] at bd3
          obtain ⟨x9, k9, y9, p9, q9, rfl, s9, g9, f9⟩ := s9.opened
          go_wp2_with fail
          refine (zcut_any a0 n0 c0 vs b0 o0 x8 k8 y8 (la ++ lb) p8 q8 true m _ (hr0'.below c8 (Nat.le_refl _)) (s8.below e8 (Nat.le_refl _)) hn0 hk8 HS.out HW.out g8 f8 ((c8.cell (p := ⟨0, 0, none⟩) (World.block_lt_of_cell? _ _ hmx')).trans hmx')).mono ?_
          rintro e w9 ⟨v10, v11, rfl, s10, s11, e9⟩
          rw [show endOf (bs vs) (la ++ lb) true = (la ++ lb).length from rfl] at s10 s11 ⊢
          rw [HR3.out] at s10 s11 ⊢
          simp only at s10 s11 ⊢
          obtain ⟨x10, k10, y10, p10, q10, rfl, _, _, _⟩ := s10.opened
          obtain ⟨x11, k11, y11, p11, q11, rfl, s11, _, _⟩ := s11.opened
          obtain rfl : k11 = 0 := by have h := s11.1; rw [List.length_drop, hl8] at h; omega
          have c9 := c8.trans (e9.mono c8.size)
          have d9 := d8.trans (e9.mono d8.size)
          have h9 := h8.trans (e9.mono h8.size)
          have HD : Hid (D1 ++ D2 = D3) := tw.1
          have hkk : ((K1 : Int) + (K2 : Int) == (K3 : Int)) = true := by have := tw.2; simp; omega
          have hk9 : k9 ≤ 20000000 := by have := s9.1; omega
          clear bd3 ct3 tw hl8 HR3
          go_wp2_with fail
          refine (concat_any x0 k0 y0 D1 p0 q0 x6 k6 y6 D2 p6 q6 _ (s0.below d9 (Nat.le_refl _)) (s6.below h9 (Nat.le_refl _)) f0 f6 (by omega) (by omega)).mono ?_
          rintro e w10 ⟨v12, rfl, s12, e10⟩
          rw [HD.out] at s12
          obtain ⟨x12, k12, y12, p12, q12, rfl, s12, _, _⟩ := s12.opened
          have hk12 : k12 ≤ maxLen := by have := s12.1; have := s9.1; unfold maxLen; omega
          have c10 := c9.trans (e10.mono c9.size)
          have j10 := e9.trans (e10.mono e9.size)
          have hbb := hbel1.trans (c10.mono hbel1.size)
          have s9' := s9.below j10 (Nat.le_refl _)
          clear c5 c6 c7 c8 c9 c10 d6 d7 d8 d9 h8 h9 j10 e4 e5 e6 e7 e8 e9 e10 s0 s1 s5 s6 s7 s8 s9 s11
          go_wp2_with fail
          refine (eqBytes_any x12 k12 y12 D3 p12 q12 x9 k9 y9 D3 p9 q9 _ s12 s9' hk12).mono ?_
          rintro e w11 ⟨rfl, hs11⟩
          rw [show decide (D3 = D3) = true from by simp]
          go_wp2_with fail
          go_ret
          exact ⟨rfl, hbb.trans (hs11.below _)⟩
        | some x =>
          have tokc : True := trivial
          go_wp2_with (first | (at_make; refine wpList_make_full _ rfl _ _ 23 rfl w1.heap.size 5 i0 _ 1 Try.underlying23 hi hz0 hz1 _ _ _ _ n1 rfl rfl (by first | rfl | simp) (by first | rfl | simp) (by rw [hz2]; omega) (by unfold maxLen; omega) (by simp) ?_; intro w2 hown2 hg2; have hb2 : Below w1.heap.size w1 w2 := (Below.refl _ _).grown hg2 (Nat.le_refl _) (by simp); clear hg2) | (have _t := tokc; refine copy_bytes rfl (.tmp 57) (.tmp 58) rfl w1.heap.size n1 rfl (some x) c1 la b1 o1 rfl (hr1'.below hb2 (Nat.le_refl _)) w1.heap.size _ hown2 w1.heap.size w1 hb2 (Nat.le_refl _) ?_; intro w3 hr3 hb3; clear tokc))
          have hB3 := hr2'.below hb3 (Nat.le_refl _)
          have hv3 := hr0'.below hb3 (Nat.le_refl _)
          have hmx3 := (hb3.cell (p := ⟨0, 0, none⟩) (World.block_lt_of_cell? _ _ hmx')).trans hmx'
          have hbel3 : Below w.heap.size w w3 := hbel1.trans (hb3.mono hbel1.size)
          clear hown2 hb2 hb3 hr0' hr1' hr2' hmx'
          have HLA : Hid (la.length = n1) := hr3.1
          have HLB : Hid (lb.length = n2) := hB3.1
          refine (zcut_any a0 n0 c0 vs b0 o0 (some ⟨w1.heap.size, 0, none⟩) n1 n1 la w1.heap.size 0 false m _ hv3 hr3 hn0 (by omega) HS.out HW.out (Nat.le_refl _) (fun h => by cases h) hmx3).mono ?_
          rintro e w4 ⟨v0, v1, rfl, s0, s1, e4⟩
          have bd1 := S_len_le (bs vs) la (endOf (bs vs) la false) (endOf_le _ _ _)
          have ct1 := S_cnt_le (bs vs) la (endOf (bs vs) la false) (endOf_le _ _ _)
          have tw := two_calls (bs vs) la lb
          obtain ⟨R1, hR1⟩ : ∃ R, S (bs vs) la (endOf (bs vs) la false) 0 = R := ⟨_, rfl⟩
          rw [hR1] at s0 s1 bd1 ct1 tw ⊢
          clear hR1
          obtain ⟨D1, P1, K1⟩ := R1
          simp only at s0 s1 bd1 ct1 tw ⊢
          obtain ⟨x0, k0, y0, p0, q0, rfl, s0, g0, f0⟩ := s0.opened
          obtain ⟨x1, k1, y1, p1, q1, rfl, s1, g1, f1⟩ := s1.opened
          have hk0 : k0 ≤ 20000000 := by have := s0.1; have := HLA.out; omega
          have hk1 : k1 + P1 = n1 := by have h := s1.1; rw [List.length_drop] at h; have := HLA.out; omega
          have hP1 : P1 ≤ n1 := by have := HLA.out; omega
          have TW : Hid (D1 ++ (S (bs vs) (List.drop P1 la ++ lb) (List.drop P1 la ++ lb).length 0).1 = (S (bs vs) (la ++ lb) (la ++ lb).length 0).1 ∧ K1 + (S (bs vs) (List.drop P1 la ++ lb) (List.drop P1 la ++ lb).length 0).2.2 = (S (bs vs) (la ++ lb) (la ++ lb).length 0).2.2) := tw
          have hK1 : K1 ≤ 1048576 := by omega
          have HK1 : Hid (k1 + P1 = n1) := hk1
          clear bd1 ct1 tw hk1
          go_wp2_with fail
          refine (concat_any x1 k1 y1 (la.drop P1) p1 q1 a2 n2 c2 lb b2 o2 _ s1 (hB3.below e4 (Nat.le_refl _)) f1 hnil2 (by have := HK1.out; omega) (by omega)).mono ?_
          rintro e w5 ⟨v5, rfl, s5, e5⟩
          obtain ⟨x5, k5, y5, p5, q5, rfl, s5, g5, f5⟩ := s5.opened
          have hk5 : k5 ≤ 1048576 := by have h := s5.1; rw [List.length_append, s1.1] at h; have := HK1.out; have := HLB.out; omega
          have c5 := e4.trans (e5.mono e4.size)
          go_wp2_with fail
          refine (zcut_any a0 n0 c0 vs b0 o0 x5 k5 y5 (la.drop P1 ++ lb) p5 q5 true m _ (hv3.below c5 (Nat.le_refl _)) s5 hn0 hk5 HS.out HW.out g5 f5 ((c5.cell (p := ⟨0, 0, none⟩) (World.block_lt_of_cell? _ _ hmx3)).trans hmx3)).mono ?_
          rintro e w6 ⟨v6, v7, rfl, s6, s7, e6⟩
          rw [show endOf (bs vs) (la.drop P1 ++ lb) true = (la.drop P1 ++ lb).length from rfl] at s6 s7 ⊢
          have bd2 := S_len_le (bs vs) (la.drop P1 ++ lb) (la.drop P1 ++ lb).length (Nat.le_refl _)
          have ct2 := S_cnt_le (bs vs) (la.drop P1 ++ lb) (la.drop P1 ++ lb).length (Nat.le_refl _)
          have tw := TW.out
          obtain ⟨R2, hR2⟩ : ∃ R, S (bs vs) (la.drop P1 ++ lb) (la.drop P1 ++ lb).length 0 = R := ⟨_, rfl⟩
          rw [hR2] at s6 s7 bd2 ct2 tw ⊢
          clear hR2 TW
          obtain ⟨D2, P2, K2⟩ := R2
          simp only at s6 s7 bd2 ct2 tw ⊢
          have hl5 := s5.1
          rw [hl5] at bd2
          obtain ⟨x6, k6, y6, p6, q6, rfl, s6, g6, f6⟩ := s6.opened
          obtain ⟨x7, k7, y7, p7, q7, rfl, s7, g7, f7⟩ := s7.opened
          have hk6 : k6 ≤ 20000000 := by have := s6.1; omega
          obtain rfl : k7 = 0 := by have h := s7.1; rw [List.length_drop, hl5] at h; omega
          have TW : Hid (D1 ++ D2 = (S (bs vs) (la ++ lb) (la ++ lb).length 0).1 ∧ K1 + K2 = (S (bs vs) (la ++ lb) (la ++ lb).length 0).2.2) := tw
          have hK2 : K2 ≤ 1048576 := by omega
          clear bd2 ct2 tw hl5
          have c6 := c5.trans (e6.mono c5.size)
          have d6 := e5.trans (e6.mono e5.size)
          go_wp2_with fail
          refine (concat_any (some ⟨w1.heap.size, 0, none⟩) n1 n1 la w1.heap.size 0 a2 n2 c2 lb b2 o2 _ (hr3.below c6 (Nat.le_refl _)) (hB3.below c6 (Nat.le_refl _)) (fun h => by cases h) hnil2 (by omega) (by omega)).mono ?_
          rintro e w7 ⟨v8, rfl, s8, e7⟩
          obtain ⟨x8, k8, y8, p8, q8, rfl, s8, g8, f8⟩ := s8.opened
          have hk8 : k8 ≤ 1048576 := by have h := s8.1; rw [List.length_append] at h; have := HLA.out; have := HLB.out; omega
          have c7 := c6.trans (e7.mono c6.size)
          have d7 := d6.trans (e7.mono d6.size)
          go_wp2_with fail
          refine (zredact_any a0 n0 c0 vs b0 o0 x8 k8 y8 (la ++ lb) p8 q8 m _ (hv3.below c7 (Nat.le_refl _)) s8 hn0 hk8 HS.out HW.out g8 f8 ((c7.cell (p := ⟨0, 0, none⟩) (World.block_lt_of_cell? _ _ hmx3)).trans hmx3)).mono ?_
          rintro e w8 ⟨v9, rfl, s9, e8⟩
          have c8 := c7.trans (e8.mono c7.size)
          have d8 := d7.trans (e8.mono d7.size)
          have h8 := e7.trans (e8.mono e7.size)
          have bd3 := S_len_le (bs vs) (la ++ lb) (la ++ lb).length (Nat.le_refl _)
          have ct3 := S_cnt_le (bs vs) (la ++ lb) (la ++ lb).length (Nat.le_refl _)
          have tw := TW.out
          obtain ⟨R3, hR3⟩ : ∃ R, S (bs vs) (la ++ lb) (la ++ lb).length 0 = R := ⟨_, rfl⟩
          rw [hR3] at s9 bd3 ct3 tw
          have HR3 : Hid (S (bs vs) (la ++ lb) (la ++ lb).length 0 = R3) := hR3
          clear hR3 TW
          obtain ⟨D3, P3, K3⟩ := R3
          simp only at s9 bd3 ct3 tw
          have hl8 := s8.1
          rw [hl8] at bd3
          obtain ⟨x9, k9, y9, p9, q9, rfl, s9, g9, f9⟩ := s9.opened
          go_wp2_with fail
          refine (zcut_any a0 n0 c0 vs b0 o0 x8 k8 y8 (la ++ lb) p8 q8 true m _ (hv3.below c8 (Nat.le_refl _)) (s8.below e8 (Nat.le_refl _)) hn0 hk8 HS.out HW.out g8 f8 ((c8.cell (p := ⟨0, 0, none⟩) (World.block_lt_of_cell? _ _ hmx3)).trans hmx3)).mono ?_
          rintro e w9 ⟨v10, v11, rfl, s10, s11, e9⟩
          rw [show endOf (bs vs) (la ++ lb) true = (la ++ lb).length from rfl] at s10 s11 ⊢
          rw [HR3.out] at s10 s11 ⊢
          simp only at s10 s11 ⊢
          obtain ⟨x10, k10, y10, p10, q10, rfl, _, _, _⟩ := s10.opened
          obtain ⟨x11, k11, y11, p11, q11, rfl, s11, _, _⟩ := s11.opened
          obtain rfl : k11 = 0 := by have h := s11.1; rw [List.length_drop, hl8] at h; omega
          have c9 := c8.trans (e9.mono c8.size)
          have d9 := d8.trans (e9.mono d8.size)
          have h9 := h8.trans (e9.mono h8.size)
          have HD : Hid (D1 ++ D2 = D3) := tw.1
          have hkk : ((K1 : Int) + (K2 : Int) == (K3 : Int)) = true := by have := tw.2; simp; omega
          have hk9 : k9 ≤ 20000000 := by have := s9.1; omega
          clear bd3 ct3 tw hl8 HR3
          go_wp2_with fail
          refine (concat_any x0 k0 y0 D1 p0 q0 x6 k6 y6 D2 p6 q6 _ (s0.below d9 (Nat.le_refl _)) (s6.below h9 (Nat.le_refl _)) f0 f6 (by omega) (by omega)).mono ?_
          rintro e w10 ⟨v12, rfl, s12, e10⟩
          rw [HD.out] at s12
          obtain ⟨x12, k12, y12, p12, q12, rfl, s12, _, _⟩ := s12.opened
          have hk12 : k12 ≤ maxLen := by have := s12.1; have := s9.1; unfold maxLen; omega
          have c10 := c9.trans (e10.mono c9.size)
          have j10 := e9.trans (e10.mono e9.size)
          have hbb := hbel3.trans (c10.mono hbel3.size)
          have s9' := s9.below j10 (Nat.le_refl _)
          clear c5 c6 c7 c8 c9 c10 d6 d7 d8 d9 h8 h9 j10 e4 e5 e6 e7 e8 e9 e10 s0 s1 s5 s6 s7 s8 s9 s11
          go_wp2_with fail
          refine (eqBytes_any x12 k12 y12 D3 p12 q12 x9 k9 y9 D3 p9 q9 _ s12 s9' hk12).mono ?_
          rintro e w11 ⟨rfl, hs11⟩
          rw [show decide (D3 = D3) = true from by simp]
          go_wp2_with fail
          go_ret
          exact ⟨rfl, hbb.trans (hs11.below _)⟩

end Go.Proofs.Qxb6601367a
