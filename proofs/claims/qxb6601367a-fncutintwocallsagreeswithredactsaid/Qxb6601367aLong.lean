/-
  longestAt (30).
-/
import Derived.Test.Qxb6601367aGuards
namespace Go.Proofs.Qxb6601367a
open Go.RowKit
open Go.Lib (occAt)

theorem longest_snoc (us : List (List UInt8)) (v buf : List UInt8) (p : Nat) : longest (us ++ [v]) buf p = if longest us buf p < v.length ∧ occAt buf v p = true then v.length else longest us buf p := by
  unfold longest
  rw [List.foldl_append]
  rfl
theorem longest_step {vs : List Sl} {j : Nat} {s : Sl} (h : Hid (vs[j]? = some s)) (buf : List UInt8) (p : Nat) :
    longest (bs (vs.take (j + 1))) buf p = if longest (bs (vs.take j)) buf p < s.l.length ∧ occAt buf s.l p = true then s.l.length else longest (bs (vs.take j)) buf p := by
  rw [List.take_add_one, h.out, bs, List.map_append]
  exact longest_snoc _ _ _ _
/-- v and what lies at p are alike for k bytes. -/
def Match (buf v : List UInt8) (p k : Nat) : Prop := v.take k = (buf.drop p).take k
theorem Match.succ {buf v : List UInt8} {p k : Nat} {x y : UInt8} (h : Match buf v p k) (hx : Hid (buf[p + k]? = some x)) (hy : Hid (v[k]? = some y)) (e : x = y) : Match buf v p (k + 1) := by
  unfold Match at h ⊢
  rw [List.take_add_one, List.take_add_one, h, hy.out, List.getElem?_drop, hx.out, e]
theorem Match.all {buf v : List UInt8} {p : Nat} (h : Match buf v p v.length) : occAt buf v p = true := by
  unfold Match at h
  rw [List.take_length] at h
  rw [occAt, List.isPrefixOf_iff_prefix, List.prefix_iff_eq_take]
  exact h
theorem occ_not {buf v : List UInt8} {p k : Nat} {x y : UInt8} (hx : Hid (buf[p + k]? = some x)) (hy : Hid (v[k]? = some y)) (e : x ≠ y) : occAt buf v p = false := by
  rw [Bool.eq_false_iff]
  intro h
  rw [occAt, List.isPrefixOf_iff_prefix] at h
  obtain ⟨r, hr⟩ := h
  have h1 : (buf.drop p)[k]? = some y := by
    rw [← hr, List.getElem?_append_left (List.getElem?_eq_some_iff.1 hy.out).1]
    exact hy.out
  rw [List.getElem?_drop, hx.out] at h1
  cases h1
  exact e rfl
theorem occ_long {buf v : List UInt8} {p : Nat} (h0 : v ≠ []) (h : buf.length < p + v.length) : occAt buf v p = false := by
  rw [Bool.eq_false_iff]
  intro ho
  rcases Lib.occAt_room ho with hr | hr
  · omega
  · exact h0 hr
theorem longest_le {vs : List Sl} {M : Nat} (h : ∀ s ∈ vs, s.l.length ≤ M) (buf : List UInt8) (p : Nat) : ∀ j, longest (bs (vs.take j)) buf p ≤ M := by
  intro j
  induction j with
  | zero => simp [longest, bs]
  | succ j ih =>
    by_cases hj : j < vs.length
    · have e := List.getElem?_eq_getElem hj
      rw [longest_step (s := vs[j]) e]
      split
      · exact h _ (List.getElem_mem hj)
      · exact ih
    · rw [List.take_of_length_le (by omega)]
      rw [List.take_of_length_le (by omega)] at ih
      exact ih
theorem ret_int {k : IntKind} {a b : Int} (h : a = b) : Ending.returned (.int k a) = .returned (.int k b) := by rw [h]

set_option maxHeartbeats 1600000 in
theorem longestAt_any (a0 : Option Addr) (n0 c0 : Nat) (vs : List Sl) (b0 o0 : Nat) (a1 : Option Addr) (n1 c1 : Nat) (buf : List UInt8) (b1 o1 : Nat) (p : Nat) (w : World)
    (hr0 : VRow w a0 n0 vs b0 o0) (hr1 : BRow w a1 n1 buf b1 o1) (hn0 : n0 ≤ 1048576) (hn1 : n1 ≤ 1048576) (hp : p ≤ n1) (hsm : ∀ s ∈ vs, s.l.length ≤ 1048576) :
    Calls Try.prog 30 #[.slice a0 n0 c0, .slice a1 n1 c1, .int .i64 p] w fun e w' => e = .returned (.int .i64 (longest (bs vs) buf p)) ∧ Same w w' := by
  have HS : Hid (∀ s ∈ vs, s.l.length ≤ 1048576) := hsm
  have hlb := hr1.1
  have HLB : Hid (buf.length = n1) := hlb
  clear hsm hlb
  go_enter Try.func30, Try.ntmps30
  go_wp2
  go_loopw [7, 8] (fun t i wr => ∃ (j best : Nat), j ≤ n0 ∧ i = .int .i64 j ∧ t = .int .i64 best ∧ best = longest (bs (vs.take j)) buf p ∧ Same w wr) (fun _ i _ => n0 - (intOf i).toNat)
  case atStart => exact ⟨0, 0, Nat.zero_le _, rfl, rfl, rfl, Same.refl _⟩
  case round =>
    obtain ⟨j, best, hj, rfl, rfl, hbest, hs⟩ := hrel
    have hbl : best ≤ 1048576 := by rw [hbest]; exact longest_le HS.out buf p j
    have HB : Hid (best = longest (bs (vs.take j)) buf p) := hbest
    clear hbest
    by_cases hlt : j < n0
    · have hi := (hr0.same hs).idx hlt
      obtain ⟨s, hks, hcell, hrs, _⟩ := (hr0.same hs).cell hlt
      have hsb := HS.out s (List.mem_of_getElem? hks.out)
      have hst := longest_step hks buf p
      rw [← HB.out] at hst
      by_cases hA : s.l.length ≤ best
      · rw [if_neg (by omega)] at hst
        have HST : Hid (longest (bs (vs.take (j + 1))) buf p = best) := hst
        clear hst
        go_wp2
        go_roundw
        case rel => exact ⟨j + 1, best, by omega, by go_num, rfl, HST.out.symm, hs⟩
        case measure => simp [intOf]; omega
      · by_cases hB : n1 < p + s.l.length
        · have ho : occAt buf s.l p = false := occ_long (fun e => by rw [e] at hA; simp at hA) (by rw [HLB.out]; exact hB)
          rw [ho, if_neg (by simp)] at hst
          have HST : Hid (longest (bs (vs.take (j + 1))) buf p = best) := hst
          clear hst ho
          go_wp2
          go_roundw
          case rel => exact ⟨j + 1, best, by omega, by go_num, rfl, HST.out.symm, hs⟩
          case measure => simp [intOf]; omega
        · have HST : Hid (longest (bs (vs.take (j + 1))) buf p = if best < s.l.length ∧ occAt buf s.l p = true then s.l.length else best) := hst
          clear hst
          obtain ⟨wo, rfl⟩ : ∃ wo : World, wo = wr := ⟨_, rfl⟩
          go_wp2
          go_loopw [10] (fun i wr => ∃ k : Nat, k ≤ s.l.length ∧ i = .int .i64 k ∧ Match buf s.l p k ∧ Same wo wr) (fun i _ => s.l.length - (intOf i).toNat)
          case atStart => exact ⟨0, Nat.zero_le _, rfl, by simp [Match], Same.refl _⟩
          case round =>
            obtain ⟨k, hk, rfl, hmt, hs2⟩ := hrel
            by_cases hkl : k < s.l.length
            · have i1 := ((hr1.same hs).same hs2).idx (k := p + k) (by omega)
              rw [show ((p + k : Nat) : Int) = (p : Int) + (k : Int) from by omega] at i1
              have i2 := (hrs.same hs2).idx hkl
              obtain ⟨x, hx, cx⟩ := ((hr1.same hs).same hs2).cell (k := p + k) (by omega)
              obtain ⟨y, hy, cy⟩ := (hrs.same hs2).cell hkl
              by_cases e : x = y
              · have hxy : ((x.toNat : Int) == (y.toNat : Int)) = true := by rw [e]; simp
                have hm' := hmt.succ hx hy e
                go_wp2
                go_quiet (fail)
                go_wp2
                go_roundw
                case rel => exact ⟨k + 1, by omega, by go_num, hm', hs2.trans (Same.drewN _ _)⟩
                case measure => simp [intOf]; omega
              · have hxy : ((x.toNat : Int) == (y.toNat : Int)) = false := by rw [beq_eq_false_iff_ne]; intro h; exact e (u8_eq h)
                have ho := occ_not hx hy e
                have hst := HST.out
                rw [ho, if_neg (by simp)] at hst
                have HST2 : Hid (longest (bs (vs.take (j + 1))) buf p = best) := hst
                have hke : ((k : Int) == (s.l.length : Int)) = false := by rw [beq_eq_false_iff_ne]; omega
                clear hst ho
                go_wp2
                go_quiet (fail)
                go_wp2
                go_roundw
                case rel => exact ⟨j + 1, best, by omega, by go_num, rfl, HST2.out.symm, (hs.trans hs2).trans (Same.drewN _ _)⟩
                case measure => simp [intOf]; omega
            · obtain rfl : k = s.l.length := by omega
              have ho := hmt.all
              have hst := HST.out
              rw [ho, if_pos ⟨by omega, rfl⟩] at hst
              have HST2 : Hid (longest (bs (vs.take (j + 1))) buf p = s.l.length) := hst
              have hd : decide ((s.l.length : Int) < (s.l.length : Int)) = false := by simp
              clear hst ho
              go_wp2
              go_quiet (fail)
              go_wp2
              go_roundw
              case rel => exact ⟨j + 1, s.l.length, by omega, by go_num, rfl, HST2.out.symm, (hs.trans hs2).trans (Same.drewN _ _)⟩
              case measure => simp [intOf]; omega
    · go_wp2
      go_ret
      refine ⟨ret_int ?_, hs⟩
      rw [HB.out, List.take_of_length_le (by have := hr0.1; omega)]

end Go.Proofs.Qxb6601367a
