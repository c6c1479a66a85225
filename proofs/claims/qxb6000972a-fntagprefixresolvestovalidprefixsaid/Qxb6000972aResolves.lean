/-
  FnTagPrefixResolvesToValidPrefix (5): the law's walk, out of the contracts.
-/
import Derived.Test.Qxb6000972aBuild
namespace Go.Proofs.Qxb6000972a.fnTagPrefixResolvesToValidPrefix
open Go.RowKit

/-- How far the vals are valid. -/
def Valid (s1 : List ByteArray) (k : Nat) : Prop := ∀ j t, j < k → s1[j]? = some t → prefixB t = true
theorem Valid.zero (s1 : List ByteArray) : Valid s1 0 := fun _ _ h => absurd h (Nat.not_lt_zero _)
theorem Valid.succ {s1 : List ByteArray} {k : Nat} (h : Valid s1 k) {t : ByteArray} (hk : Hid (s1[k]? = some t)) (ht : prefixB t = true) : Valid s1 (k + 1) := by
  intro j u hj hu
  by_cases e : j = k
  · subst e
    rw [hk.out] at hu
    cases hu
    exact ht
  · exact h j u (by omega) hu

/-! ### STEP 1: THE WALK -/
set_option maxHeartbeats 1600000 in
theorem walk (a0 : Option Addr) (n0 c0 : Nat) (s0 : List ByteArray) (b0 o0 : Nat) (a1 : Option Addr) (n1 c1 : Nat) (s1 : List ByteArray) (b1 o1 : Nat) (a2 : ByteArray) (w : World)
    (hr0 : StrRow w a0 n0 s0 b0 o0) (hr1 : StrRow w a1 n1 s1 b1 o1) (hm0 : n0 ≤ maxLen) (hm1 : n1 ≤ maxLen) (w2 : a2.size ≤ maxLen) :
    Calls Try.prog 5 #[.slice a0 n0 c0, .slice a1 n1 c1, .string a2] w fun e w' => e = .returned (.bool true) ∧ Below w.heap.size w w' := by
  go_enter Try.func5, Try.ntmps5
  go_wp2_with fail
  refine (bytes_any a0 n0 c0 s0 b0 o0 a1 n1 c1 s1 b1 o1 a2 _ hr0 hr1 hm0 hm1 w2).mono ?_
  rintro e w' ⟨⟨b, rfl, hb⟩, hw0⟩
  obtain rfl := hw0.symm
  cases b with
  | false =>
    clear hb
    go_wp2_with fail
    go_ret
    exact ⟨rfl, Below.refl _ _⟩
  | true =>
    obtain ⟨hn0, hn1, hh, hs0, hs1⟩ := hb rfl
    clear hb
    have HS0 : Hid (∀ s ∈ s0, s.size ≤ 1048576) := hs0
    have HS1 : Hid (∀ s ∈ s1, s.size ≤ 1048576) := hs1
    clear hs0 hs1 hm0 hm1
    by_cases g0 : n0 ≤ 65536
    · by_cases g1 : n1 ≤ 65536
      · go_wp2_with fail
        refine (strBytes_any a0 n0 c0 s0 b0 o0 _ hr0 hn0).mono ?_
        rintro e w1 ⟨⟨t0, rfl, ht0, ht1⟩, hw1⟩
        obtain rfl := hw1.symm
        go_wp2_with fail
        refine (strBytes_any a1 n1 c1 s1 b1 o1 _ hr1 hn1).mono ?_
        rintro e w1 ⟨⟨t2, rfl, ht2, ht3⟩, hw1⟩
        obtain rfl := hw1.symm
        by_cases hsum : t0 + t2 + a2.size ≤ 1048576
        · by_cases hlt : n1 < n0
          · go_wp2_with fail
            go_loop [8] (fun i => ∃ k : Nat, k ≤ n1 ∧ i = .int .i64 k ∧ Valid s1 k) (fun i => n1 - (intOf i).toNat)
            case atStart => exact ⟨0, Nat.zero_le _, rfl, Valid.zero _⟩
            case round =>
              obtain ⟨k, hk, rfl, hv⟩ := hrel
              by_cases hkn : k < n1
              · have hi := hr1.idx (k := k) (by omega)
                obtain ⟨t, htm, hkt, hcell⟩ := hr1.cell (k := k) (by omega)
                have hts := HS1.out t htm
                cases hp : prefixB t with
                | true =>
                  have hv' := hv.succ hkt hp
                  go_wp2_with (go_at_call 16; refine (zprefix_any _ hts _).mono ?_; rintro e w1 ⟨rfl, hw1⟩; obtain rfl := hw1.symm)
                  go_round
                  case rel => exact ⟨k + 1, by omega, by go_num, hv'⟩
                  case measure => simp [intOf]; omega
                | false =>
                  go_wp2_with (go_at_call 16; refine (zprefix_any _ hts _).mono ?_; rintro e w1 ⟨rfl, hw1⟩; obtain rfl := hw1.symm)
                  go_ret
                  exact ⟨rfl, Below.refl _ _⟩
              · obtain rfl : k = n1 := by omega
                go_wp2_with fail
                refine (copy_any a0 _ c0 s0 b0 o0 _ hr0 hn0).mono ?_
                rintro e w1 ⟨x0, y0, p0, q0, rfl, hx0, hbel1⟩
                go_wp2_with fail
                refine (copy_any a1 _ c1 s1 b1 o1 _ (hr1.below hbel1) hn1).mono ?_
                rintro e w3 ⟨x1, y1, p1, q1, rfl, hx1, hbel2⟩
                go_wp2_with fail
                refine (build_any x0 _ y0 s0 p0 q0 x1 _ y1 s1 p1 q1 _ (hx0.below hbel2) hx1 hn0 hn1 (fun s hs => by have := HS0.out s hs; unfold maxLen; omega) (fun j t h0 h1 h => goodElem_mk (hv j t (by omega) h.out) (HS1.out t (List.mem_of_getElem? h.out)))).mono ?_
                rintro e w4 ⟨m, D, rfl, hown, hbel3⟩
                have hbel : Below w.heap.size w w4 := (hbel1.trans (hbel2.mono hbel1.size)).trans (hbel3.mono (Nat.le_trans hbel1.size hbel2.size))
                go_wp2_with fail
                refine (tag_prefix_any _ _ _ a2 _ hown w2).mono ?_
                rintro e w5 ⟨⟨p, ok, rfl, hok⟩, hw5⟩
                obtain rfl := hw5.symm
                clear hbel1 hbel2 hbel3 hx0 hx1 hown hv hr0 hr1
                cases ok with
                | true =>
                  obtain ⟨hp1, hp2⟩ := hok rfl
                  clear hok
                  go_wp2_with (go_at_call 16; refine (zprefix_any _ hp2 _).mono ?_; rintro e w6 ⟨rfl, hw6⟩; obtain rfl := hw6.symm)
                  go_ret
                  exact ⟨rfl, hbel⟩
                | false =>
                  clear hok
                  go_wp2_with fail
                  go_ret
                  exact ⟨rfl, hbel⟩
          · go_wp2_with fail
            go_loop [8] (fun i => ∃ k : Nat, k ≤ n0 ∧ i = .int .i64 k ∧ Valid s1 k) (fun i => n0 - (intOf i).toNat)
            case atStart => exact ⟨0, Nat.zero_le _, rfl, Valid.zero _⟩
            case round =>
              obtain ⟨k, hk, rfl, hv⟩ := hrel
              by_cases hkn : k < n0
              · have hi := hr1.idx (k := k) (by omega)
                obtain ⟨t, htm, hkt, hcell⟩ := hr1.cell (k := k) (by omega)
                have hts := HS1.out t htm
                cases hp : prefixB t with
                | true =>
                  have hv' := hv.succ hkt hp
                  go_wp2_with (go_at_call 16; refine (zprefix_any _ hts _).mono ?_; rintro e w1 ⟨rfl, hw1⟩; obtain rfl := hw1.symm)
                  go_round
                  case rel => exact ⟨k + 1, by omega, by go_num, hv'⟩
                  case measure => simp [intOf]; omega
                | false =>
                  go_wp2_with (go_at_call 16; refine (zprefix_any _ hts _).mono ?_; rintro e w1 ⟨rfl, hw1⟩; obtain rfl := hw1.symm)
                  go_ret
                  exact ⟨rfl, Below.refl _ _⟩
              · obtain rfl : k = n0 := by omega
                go_wp2_with fail
                refine (copy_any a0 _ c0 s0 b0 o0 _ hr0 hn0).mono ?_
                rintro e w1 ⟨x0, y0, p0, q0, rfl, hx0, hbel1⟩
                go_wp2_with fail
                refine (copy_any a1 _ c1 s1 b1 o1 _ (hr1.below hbel1) hn1).mono ?_
                rintro e w3 ⟨x1, y1, p1, q1, rfl, hx1, hbel2⟩
                go_wp2_with fail
                refine (build_any x0 _ y0 s0 p0 q0 x1 _ y1 s1 p1 q1 _ (hx0.below hbel2) hx1 hn0 hn1 (fun s hs => by have := HS0.out s hs; unfold maxLen; omega) (fun j t h0 h1 h => goodElem_mk (hv j t (by omega) h.out) (HS1.out t (List.mem_of_getElem? h.out)))).mono ?_
                rintro e w4 ⟨m, D, rfl, hown, hbel3⟩
                have hbel : Below w.heap.size w w4 := (hbel1.trans (hbel2.mono hbel1.size)).trans (hbel3.mono (Nat.le_trans hbel1.size hbel2.size))
                go_wp2_with fail
                refine (tag_prefix_any _ _ _ a2 _ hown w2).mono ?_
                rintro e w5 ⟨⟨p, ok, rfl, hok⟩, hw5⟩
                obtain rfl := hw5.symm
                clear hbel1 hbel2 hbel3 hx0 hx1 hown hv hr0 hr1
                cases ok with
                | true =>
                  obtain ⟨hp1, hp2⟩ := hok rfl
                  clear hok
                  go_wp2_with (go_at_call 16; refine (zprefix_any _ hp2 _).mono ?_; rintro e w6 ⟨rfl, hw6⟩; obtain rfl := hw6.symm)
                  go_ret
                  exact ⟨rfl, hbel⟩
                | false =>
                  clear hok
                  go_wp2_with fail
                  go_ret
                  exact ⟨rfl, hbel⟩
        · go_wp2_with fail
          go_ret
          exact ⟨rfl, Below.refl _ _⟩
      · go_wp2_with fail
        go_ret
        exact ⟨rfl, Below.refl _ _⟩
    · go_wp2_with fail
      go_ret
      exact ⟨rfl, Below.refl _ _⟩


end Go.Proofs.Qxb6000972a.fnTagPrefixResolvesToValidPrefix
