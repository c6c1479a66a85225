/-
  scanModel (13).
-/
import Derived.Test.Qxb6601367aLong
import Derived.Test.Qxb6601367aOwn
namespace Go.Proofs.Qxb6601367a
open Go.RowKit

def maxl (us : List (List UInt8)) : Nat := us.foldl (fun m v => if m < v.length then v.length else m) 0
/-- A credential that starts before this lies in buf whole. -/
def endOf (us : List (List UInt8)) (buf : List UInt8) (fin : Bool) : Nat := if fin = true then buf.length else buf.length - (maxl us - 1)

theorem maxl_step {vs : List Sl} {j : Nat} {s : Sl} (h : Hid (vs[j]? = some s)) : maxl (bs (vs.take (j + 1))) = if maxl (bs (vs.take j)) < s.l.length then s.l.length else maxl (bs (vs.take j)) := by
  rw [List.take_add_one, h.out, bs, List.map_append]
  unfold maxl
  rw [List.foldl_append]
  rfl

/-- What the model and the cut leave: done, rest, n. -/
def CutSaid (w : World) (R : List UInt8 × Nat × Nat) (buf : List UInt8) (e : Ending) (w' : World) : Prop :=
  ∃ v0 v1, e = .returned (.tuple #[v0, v1, .int .i64 (R.2.2 : Nat)]) ∧ SlAt w' v0 R.1 ∧ SlAt w' v1 (buf.drop R.2.1) ∧ Below w.heap.size w w'

theorem newByte (w : World) (u : UInt8) : BRow (w.alloc (.cells #[.int .u8 (u.toNat : Nat)] 5)) (some ⟨w.heap.size, 0, none⟩) 1 [u] w.heap.size 0 := by
  refine ⟨rfl, fun _ => rfl, fun j hj => ?_⟩
  obtain rfl : j = 0 := by omega
  rw [World.cell?_alloc_at _ _ _ _ rfl]
  rfl

set_option maxHeartbeats 2000000 in
theorem scanModel_any (a0 : Option Addr) (n0 c0 : Nat) (vs : List Sl) (b0 o0 : Nat) (a1 : Option Addr) (n1 c1 : Nat) (buf : List UInt8) (b1 o1 : Nat) (fin : Bool) (w : World)
    (hr0 : VRow w a0 n0 vs b0 o0) (hr1 : BRow w a1 n1 buf b1 o1) (hn0 : n0 ≤ 1048576) (hn1 : n1 ≤ 1048576) (hsm : ∀ s ∈ vs, s.l.length ≤ 1048576) (hcap : n1 ≤ c1) (hnil : a1 = none → n1 = 0 ∧ c1 = 0) :
    Calls Try.prog 13 #[.slice a0 n0 c0, .slice a1 n1 c1, .bool fin] w fun e w' => CutSaid w (S (bs vs) buf (endOf (bs vs) buf fin) 0) buf e w' := by
  have HS : Hid (∀ s ∈ vs, s.l.length ≤ 1048576) := hsm
  have HLB : Hid (buf.length = n1) := hr1.1
  obtain ⟨E, hE⟩ : ∃ E, endOf (bs vs) buf fin = E := ⟨_, rfl⟩
  have HEv : Hid (E = if fin = true then n1 else n1 - (maxl (bs vs) - 1)) := by show _ = _; rw [← hE, endOf, HLB.out]
  rw [hE]
  clear hsm hE
  go_enter Try.func13, Try.ntmps13
  go_wp2
  go_loop [9, 10] (fun t i => ∃ (j m : Nat), j ≤ n0 ∧ i = .int .i64 j ∧ t = .int .i64 m ∧ Hid (m = maxl (bs (vs.take j))) ∧ m ≤ 1048576) (fun _ i => n0 - (intOf i).toNat)
  case atStart => exact ⟨0, 0, Nat.zero_le _, rfl, rfl, rfl, by omega⟩
  case round =>
    obtain ⟨j, m, hj, rfl, rfl, HM, hm⟩ := hrel
    by_cases hlt : j < n0
    · have hi := hr0.idx hlt
      obtain ⟨s, hks, hcell, _, _⟩ := hr0.cell hlt
      have hsb := HS.out s (List.mem_of_getElem? hks.out)
      have HST : Hid (maxl (bs (vs.take (j + 1))) = if maxl (bs (vs.take j)) < s.l.length then s.l.length else maxl (bs (vs.take j))) := maxl_step hks
      by_cases hg : m < s.l.length
      · go_wp2
        go_round
        case rel => exact ⟨j + 1, s.l.length, by omega, by go_num, rfl, by show _ = _; rw [HST.out, ← HM.out, if_pos hg], hsb⟩
        case measure => simp [intOf]; omega
      · go_wp2
        go_round
        case rel => exact ⟨j + 1, m, by omega, by go_num, rfl, by show _ = _; rw [HST.out, ← HM.out, if_neg hg], hm⟩
        case measure => simp [intOf]; omega
    · have hml : m = maxl (bs vs) := by rw [HM.out, List.take_of_length_le (by have := hr0.1; omega)]
      have hEv := HEv.out
      rw [← hml] at hEv
      clear hml HM
      have hEle : E ≤ n1 := by rw [hEv]; split <;> omega
      have hway : (fin = true ∧ E = n1) ∨ (fin = false ∧ m ≤ 0 ∧ E = n1) ∨ (fin = false ∧ 0 < m ∧ m - 1 ≤ n1 ∧ (E : Int) = n1 - (m - 1)) ∨ (fin = false ∧ 0 < m ∧ n1 < m - 1 ∧ E = 0) := by
        cases fin with
        | true => left; exact ⟨rfl, by simpa using hEv⟩
        | false =>
          simp at hEv
          by_cases h0 : m = 0
          · right; left; exact ⟨rfl, by omega, by omega⟩
          · by_cases h1 : m - 1 ≤ n1
            · right; right; left; exact ⟨rfl, by omega, h1, by omega⟩
            · right; right; right; exact ⟨rfl, by omega, by omega, by omega⟩
      clear hEv
      rcases hway with ⟨rfl, he⟩ | ⟨rfl, h0, he⟩ | ⟨rfl, h0, h1, he⟩ | ⟨rfl, h0, h1, he⟩
      · have HEE : Hid (E = n1) := he
        clear he
        go_wp2
        rw [show ((n1 : Nat) : Int) = (E : Int) from by have := HEE.out; omega]
        go_loopw [12, 13, 14] (fun v k p wr => ∃ (pn kn : Nat) (out : List UInt8), p = .int .i64 (pn : Nat) ∧ k = .int .i64 (kn : Nat) ∧ Owns wr w.heap.size v out ∧ Tot (bs vs) buf E out pn kn ∧ Below w.heap.size w wr) (fun _ _ p _ => E - (intOf p).toNat)
        case atStart => exact ⟨0, 0, [], rfl, rfl, Owns.nil _ _, Tot.zero _ _ _, Below.refl _ _⟩
        case round =>
          obtain ⟨p, k, out, rfl, rfl, hown, htot, hbel⟩ := hrel
          have hp1 : p ≤ n1 := by rw [← HLB.out]; exact htot.2.1
          have hol := htot.2.2.1
          have hkl := htot.2.2.2
          by_cases hlt : p < E
          · go_wp2_with fail
            refine (longestAt_any a0 n0 c0 vs b0 o0 a1 n1 c1 buf b1 o1 p _ (hr0.below hbel (Nat.le_refl _)) (hr1.below hbel (Nat.le_refl _)) hn0 hn1 hp1 HS.out).mono ?_
            rintro e w1 ⟨rfl, hs1⟩
            have hbel1 := hbel.trans (hs1.below _)
            have hown1 := hown.same hs1
            by_cases hm0 : 0 < longest (bs vs) buf p
            · have htot' := htot.hit hlt rfl hm0
              have hroom := longest_room _ _ _ hm0
              rw [HLB.out] at hroom
              obtain ⟨L, hL⟩ : ∃ L, longest (bs vs) buf p = L := ⟨_, rfl⟩
              rw [hL] at hm0 htot' hroom ⊢
              have HTOT : Hid (Tot (bs vs) buf E (out ++ ph) (p + L) (k + 1)) := htot'
              clear htot htot' hown hs1 hL hbel
              go_wp2_with (at_builtin; refine app_str rfl (.tmp 58) _ rfl w.heap.size _ out rfl hown1 ph rfl (by simp [ph]; omega) hbel1.size ?_; intro v2 w2 hO2 hg2; have hbel2 : Below w.heap.size w w2 := hbel1.grown hg2 hbel1.size hown1.row; clear hg2)
              go_roundw
              case rel => first | exact ⟨p + L, k + 1, _, by go_num, by go_num, hO2, HTOT.out, hbel2⟩ | ((repeat apply Exists.intro); exact ⟨⟨p + L, k + 1, _, by go_num, by go_num, hO2, HTOT.out, hbel2⟩, rfl⟩)
              case measure => simp [intOf]; omega
            · have hm1 : longest (bs vs) buf p = 0 := by omega
              have htot' := htot.miss hlt (by rw [HLB.out]; omega) hm1
              have hi := (hr1.below hbel1 (Nat.le_refl _)).idx (k := p) (by omega)
              obtain ⟨u, hu, cu⟩ := (hr1.below hbel1 (Nat.le_refl _)).cell (k := p) (by omega)
              have hud : buf.getD p 0 = u := by rw [List.getD_eq_getElem?_getD, hu.out]; rfl
              rw [hud] at htot'
              have HTOT : Hid (Tot (bs vs) buf E (out ++ [u]) (p + 1) k) := htot'
              rw [hm1]
              clear htot htot' hown hs1 hud hm1 hm0 hbel
              go_wp2_with (at_builtin; refine app_bytes rfl (.tmp 65) (.tmp 70) rfl w.heap.size _ out rfl (World.ownsRow.alloc hown1 _) (some ⟨w1.heap.size, 0, none⟩) 1 1 [u] w1.heap.size 0 rfl (newByte w1 u) (by simp) (by omega) (by simp; exact Nat.le_trans hbel1.size (Nat.le_succ _)) ?_; intro v2 w2 hO2 hg2; have hbel2 : Below w.heap.size w w2 := (hbel1.alloc hbel1.size _).grown hg2 (by simp; exact Nat.le_trans hbel1.size (Nat.le_succ _)) hown1.row; clear hg2)
              go_roundw
              case rel => first | exact ⟨p + 1, k, _, by go_num, by go_num, hO2, HTOT.out, hbel2⟩ | ((repeat apply Exists.intro); exact ⟨⟨p + 1, k, _, by go_num, by go_num, hO2, HTOT.out, hbel2⟩, rfl⟩)
              case measure => simp [intOf]; omega
          · have HR : Hid (S (bs vs) buf E 0 = (out, p, k)) := htot.done (by omega)
            obtain ⟨a', c', hsl, hr', hcap', hnil'⟩ := (hr1.below hbel (Nat.le_refl _)).tail c1 hcap hnil p hp1
            go_wp2
            go_quiet (fail)
            go_wp2
            go_ret3
            rw [HR.out]
            refine ⟨_, _, rfl, (hown.sl).same (Same.drewN _ _), ?_, hbel.trans ((Same.drewN _ _).below _)⟩
            have hdl : (buf.drop p).length = n1 - p := by rw [List.length_drop, HLB.out]
            exact ⟨a', c', b1, o1 + p, by rw [hdl]; rfl, by rw [hdl]; exact hr'.same (Same.drewN _ _), by rw [hdl]; exact hcap', by rw [hdl]; exact hnil'⟩
      · have HEE : Hid (E = n1) := he
        clear he
        go_wp2
        rw [show ((n1 : Nat) : Int) = (E : Int) from by have := HEE.out; omega]
        go_loopw [12, 13, 14] (fun v k p wr => ∃ (pn kn : Nat) (out : List UInt8), p = .int .i64 (pn : Nat) ∧ k = .int .i64 (kn : Nat) ∧ Owns wr w.heap.size v out ∧ Tot (bs vs) buf E out pn kn ∧ Below w.heap.size w wr) (fun _ _ p _ => E - (intOf p).toNat)
        case atStart => exact ⟨0, 0, [], rfl, rfl, Owns.nil _ _, Tot.zero _ _ _, Below.refl _ _⟩
        case round =>
          obtain ⟨p, k, out, rfl, rfl, hown, htot, hbel⟩ := hrel
          have hp1 : p ≤ n1 := by rw [← HLB.out]; exact htot.2.1
          have hol := htot.2.2.1
          have hkl := htot.2.2.2
          by_cases hlt : p < E
          · go_wp2_with fail
            refine (longestAt_any a0 n0 c0 vs b0 o0 a1 n1 c1 buf b1 o1 p _ (hr0.below hbel (Nat.le_refl _)) (hr1.below hbel (Nat.le_refl _)) hn0 hn1 hp1 HS.out).mono ?_
            rintro e w1 ⟨rfl, hs1⟩
            have hbel1 := hbel.trans (hs1.below _)
            have hown1 := hown.same hs1
            by_cases hm0 : 0 < longest (bs vs) buf p
            · have htot' := htot.hit hlt rfl hm0
              have hroom := longest_room _ _ _ hm0
              rw [HLB.out] at hroom
              obtain ⟨L, hL⟩ : ∃ L, longest (bs vs) buf p = L := ⟨_, rfl⟩
              rw [hL] at hm0 htot' hroom ⊢
              have HTOT : Hid (Tot (bs vs) buf E (out ++ ph) (p + L) (k + 1)) := htot'
              clear htot htot' hown hs1 hL hbel
              go_wp2_with (at_builtin; refine app_str rfl (.tmp 58) _ rfl w.heap.size _ out rfl hown1 ph rfl (by simp [ph]; omega) hbel1.size ?_; intro v2 w2 hO2 hg2; have hbel2 : Below w.heap.size w w2 := hbel1.grown hg2 hbel1.size hown1.row; clear hg2)
              go_roundw
              case rel => first | exact ⟨p + L, k + 1, _, by go_num, by go_num, hO2, HTOT.out, hbel2⟩ | ((repeat apply Exists.intro); exact ⟨⟨p + L, k + 1, _, by go_num, by go_num, hO2, HTOT.out, hbel2⟩, rfl⟩)
              case measure => simp [intOf]; omega
            · have hm1 : longest (bs vs) buf p = 0 := by omega
              have htot' := htot.miss hlt (by rw [HLB.out]; omega) hm1
              have hi := (hr1.below hbel1 (Nat.le_refl _)).idx (k := p) (by omega)
              obtain ⟨u, hu, cu⟩ := (hr1.below hbel1 (Nat.le_refl _)).cell (k := p) (by omega)
              have hud : buf.getD p 0 = u := by rw [List.getD_eq_getElem?_getD, hu.out]; rfl
              rw [hud] at htot'
              have HTOT : Hid (Tot (bs vs) buf E (out ++ [u]) (p + 1) k) := htot'
              rw [hm1]
              clear htot htot' hown hs1 hud hm1 hm0 hbel
              go_wp2_with (at_builtin; refine app_bytes rfl (.tmp 65) (.tmp 70) rfl w.heap.size _ out rfl (World.ownsRow.alloc hown1 _) (some ⟨w1.heap.size, 0, none⟩) 1 1 [u] w1.heap.size 0 rfl (newByte w1 u) (by simp) (by omega) (by simp; exact Nat.le_trans hbel1.size (Nat.le_succ _)) ?_; intro v2 w2 hO2 hg2; have hbel2 : Below w.heap.size w w2 := (hbel1.alloc hbel1.size _).grown hg2 (by simp; exact Nat.le_trans hbel1.size (Nat.le_succ _)) hown1.row; clear hg2)
              go_roundw
              case rel => first | exact ⟨p + 1, k, _, by go_num, by go_num, hO2, HTOT.out, hbel2⟩ | ((repeat apply Exists.intro); exact ⟨⟨p + 1, k, _, by go_num, by go_num, hO2, HTOT.out, hbel2⟩, rfl⟩)
              case measure => simp [intOf]; omega
          · have HR : Hid (S (bs vs) buf E 0 = (out, p, k)) := htot.done (by omega)
            obtain ⟨a', c', hsl, hr', hcap', hnil'⟩ := (hr1.below hbel (Nat.le_refl _)).tail c1 hcap hnil p hp1
            go_wp2
            go_quiet (fail)
            go_wp2
            go_ret3
            rw [HR.out]
            refine ⟨_, _, rfl, (hown.sl).same (Same.drewN _ _), ?_, hbel.trans ((Same.drewN _ _).below _)⟩
            have hdl : (buf.drop p).length = n1 - p := by rw [List.length_drop, HLB.out]
            exact ⟨a', c', b1, o1 + p, by rw [hdl]; rfl, by rw [hdl]; exact hr'.same (Same.drewN _ _), by rw [hdl]; exact hcap', by rw [hdl]; exact hnil'⟩
      · have HEE : Hid ((E : Int) = n1 - (m - 1)) := he
        clear he
        go_wp2
        rw [show ((n1 : Int) - ((m : Int) - 1)) = (E : Int) from by have := HEE.out; omega]
        go_loopw [12, 13, 14] (fun v k p wr => ∃ (pn kn : Nat) (out : List UInt8), p = .int .i64 (pn : Nat) ∧ k = .int .i64 (kn : Nat) ∧ Owns wr w.heap.size v out ∧ Tot (bs vs) buf E out pn kn ∧ Below w.heap.size w wr) (fun _ _ p _ => E - (intOf p).toNat)
        case atStart => exact ⟨0, 0, [], rfl, rfl, Owns.nil _ _, Tot.zero _ _ _, Below.refl _ _⟩
        case round =>
          obtain ⟨p, k, out, rfl, rfl, hown, htot, hbel⟩ := hrel
          have hp1 : p ≤ n1 := by rw [← HLB.out]; exact htot.2.1
          have hol := htot.2.2.1
          have hkl := htot.2.2.2
          by_cases hlt : p < E
          · go_wp2_with fail
            refine (longestAt_any a0 n0 c0 vs b0 o0 a1 n1 c1 buf b1 o1 p _ (hr0.below hbel (Nat.le_refl _)) (hr1.below hbel (Nat.le_refl _)) hn0 hn1 hp1 HS.out).mono ?_
            rintro e w1 ⟨rfl, hs1⟩
            have hbel1 := hbel.trans (hs1.below _)
            have hown1 := hown.same hs1
            by_cases hm0 : 0 < longest (bs vs) buf p
            · have htot' := htot.hit hlt rfl hm0
              have hroom := longest_room _ _ _ hm0
              rw [HLB.out] at hroom
              obtain ⟨L, hL⟩ : ∃ L, longest (bs vs) buf p = L := ⟨_, rfl⟩
              rw [hL] at hm0 htot' hroom ⊢
              have HTOT : Hid (Tot (bs vs) buf E (out ++ ph) (p + L) (k + 1)) := htot'
              clear htot htot' hown hs1 hL hbel
              go_wp2_with (at_builtin; refine app_str rfl (.tmp 58) _ rfl w.heap.size _ out rfl hown1 ph rfl (by simp [ph]; omega) hbel1.size ?_; intro v2 w2 hO2 hg2; have hbel2 : Below w.heap.size w w2 := hbel1.grown hg2 hbel1.size hown1.row; clear hg2)
              go_roundw
              case rel => first | exact ⟨p + L, k + 1, _, by go_num, by go_num, hO2, HTOT.out, hbel2⟩ | ((repeat apply Exists.intro); exact ⟨⟨p + L, k + 1, _, by go_num, by go_num, hO2, HTOT.out, hbel2⟩, rfl⟩)
              case measure => simp [intOf]; omega
            · have hm1 : longest (bs vs) buf p = 0 := by omega
              have htot' := htot.miss hlt (by rw [HLB.out]; omega) hm1
              have hi := (hr1.below hbel1 (Nat.le_refl _)).idx (k := p) (by omega)
              obtain ⟨u, hu, cu⟩ := (hr1.below hbel1 (Nat.le_refl _)).cell (k := p) (by omega)
              have hud : buf.getD p 0 = u := by rw [List.getD_eq_getElem?_getD, hu.out]; rfl
              rw [hud] at htot'
              have HTOT : Hid (Tot (bs vs) buf E (out ++ [u]) (p + 1) k) := htot'
              rw [hm1]
              clear htot htot' hown hs1 hud hm1 hm0 hbel
              go_wp2_with (at_builtin; refine app_bytes rfl (.tmp 65) (.tmp 70) rfl w.heap.size _ out rfl (World.ownsRow.alloc hown1 _) (some ⟨w1.heap.size, 0, none⟩) 1 1 [u] w1.heap.size 0 rfl (newByte w1 u) (by simp) (by omega) (by simp; exact Nat.le_trans hbel1.size (Nat.le_succ _)) ?_; intro v2 w2 hO2 hg2; have hbel2 : Below w.heap.size w w2 := (hbel1.alloc hbel1.size _).grown hg2 (by simp; exact Nat.le_trans hbel1.size (Nat.le_succ _)) hown1.row; clear hg2)
              go_roundw
              case rel => first | exact ⟨p + 1, k, _, by go_num, by go_num, hO2, HTOT.out, hbel2⟩ | ((repeat apply Exists.intro); exact ⟨⟨p + 1, k, _, by go_num, by go_num, hO2, HTOT.out, hbel2⟩, rfl⟩)
              case measure => simp [intOf]; omega
          · have HR : Hid (S (bs vs) buf E 0 = (out, p, k)) := htot.done (by omega)
            obtain ⟨a', c', hsl, hr', hcap', hnil'⟩ := (hr1.below hbel (Nat.le_refl _)).tail c1 hcap hnil p hp1
            go_wp2
            go_quiet (fail)
            go_wp2
            go_ret3
            rw [HR.out]
            refine ⟨_, _, rfl, (hown.sl).same (Same.drewN _ _), ?_, hbel.trans ((Same.drewN _ _).below _)⟩
            have hdl : (buf.drop p).length = n1 - p := by rw [List.length_drop, HLB.out]
            exact ⟨a', c', b1, o1 + p, by rw [hdl]; rfl, by rw [hdl]; exact hr'.same (Same.drewN _ _), by rw [hdl]; exact hcap', by rw [hdl]; exact hnil'⟩
      · obtain rfl := he
        go_wp2
        skip
        go_loopw [12, 13, 14] (fun v k p wr => ∃ (pn kn : Nat) (out : List UInt8), p = .int .i64 (pn : Nat) ∧ k = .int .i64 (kn : Nat) ∧ Owns wr w.heap.size v out ∧ Tot (bs vs) buf 0 out pn kn ∧ Below w.heap.size w wr) (fun _ _ p _ => 0 - (intOf p).toNat)
        case atStart => exact ⟨0, 0, [], rfl, rfl, Owns.nil _ _, Tot.zero _ _ _, Below.refl _ _⟩
        case round =>
          obtain ⟨p, k, out, rfl, rfl, hown, htot, hbel⟩ := hrel
          have hp1 : p ≤ n1 := by rw [← HLB.out]; exact htot.2.1
          have hol := htot.2.2.1
          have hkl := htot.2.2.2
          by_cases hlt : p < 0
          · exact absurd hlt (Nat.not_lt_zero _)
          · have HR : Hid (S (bs vs) buf 0 0 = (out, p, k)) := htot.done (by omega)
            obtain ⟨a', c', hsl, hr', hcap', hnil'⟩ := (hr1.below hbel (Nat.le_refl _)).tail c1 hcap hnil p hp1
            go_wp2
            go_quiet (fail)
            go_wp2
            go_ret3
            rw [HR.out]
            refine ⟨_, _, rfl, (hown.sl).same (Same.drewN _ _), ?_, hbel.trans ((Same.drewN _ _).below _)⟩
            have hdl : (buf.drop p).length = n1 - p := by rw [List.length_drop, HLB.out]
            exact ⟨a', c', b1, o1 + p, by rw [hdl]; rfl, by rw [hdl]; exact hr'.same (Same.drewN _ _), by rw [hdl]; exact hcap', by rw [hdl]; exact hnil'⟩

end Go.Proofs.Qxb6601367a
