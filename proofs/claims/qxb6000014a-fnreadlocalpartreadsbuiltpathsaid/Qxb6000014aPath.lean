/-
  THE READING OF THE BUILT TEXT: what its steps keep (no Go in sight).
-/
import Derived.Test.Qxb6000014aBuilt
import Derived.Test.Qxb6000014aStrs
namespace Go.Proofs.Qxb6000014a
open Go.RowKit

theorem not_holds {m : ByteArray} {n : Nat} {c : UInt8} (hc : c.toNat = n) (h : ¬ Holds m (n : Int)) : ∀ u ∈ m.data.toList, u ≠ c := by
  intro u hu e
  obtain ⟨k, hk⟩ := List.mem_iff_getElem?.1 hu
  obtain ⟨h1, h2⟩ := val_of hk
  exact h ⟨k, h1, by rw [h2, e, hc]⟩
theorem mem_preL {ss : List ByteArray} {u : UInt8} (h : u ∈ preL ss) : u = 33 ∨ ∃ b ∈ ss, u ∈ b.data.toList := by
  simp only [preL, List.mem_flatMap, List.mem_append, List.mem_singleton] at h
  obtain ⟨b, hb, h | h⟩ := h
  · exact .inr ⟨b, hb, h⟩
  · exact .inl h
theorem mem_postL {ss : List ByteArray} {u : UInt8} (h : u ∈ postL ss) : u = 37 ∨ ∃ b ∈ ss, u ∈ b.data.toList := by
  simp only [postL, List.mem_flatMap, List.mem_cons, List.mem_reverse] at h
  obtain ⟨b, hb, h | h⟩ := h
  · exact .inl h
  · exact .inr ⟨b, hb, h⟩
theorem last_append {A B : List UInt8} (h : B ≠ []) : (A ++ B).getLast? = some (B.getLast h) := by
  rw [List.getLast?_append, List.getLast?_eq_some_getLast h]
  rfl
theorem preL_at {ss : List ByteArray} {i : Nat} (h : i < ss.length) : preL ss = preL (ss.take i) ++ (ss[i].data.toList ++ 33 :: preL (ss.drop (i + 1))) := by
  conv => lhs; rw [← List.take_append_drop i ss, List.drop_eq_getElem_cons h]
  rw [preL_append, preL_cons]
theorem preL_take {ss : List ByteArray} {i : Nat} (h : i < ss.length) : preL (ss.take (i + 1)) = preL (ss.take i) ++ (ss[i].data.toList ++ [33]) := by
  rw [List.take_add_one, List.getElem?_eq_getElem h, preL_append]
  simp [preL]
theorem postL_at {ss : List ByteArray} {j : Nat} (h : j < ss.length) : postL ss = postL (ss.drop (j + 1)) ++ 37 :: (ss[j].data.toList ++ postL (ss.take j)) := by
  conv => lhs; rw [← List.take_append_drop j ss, List.drop_eq_getElem_cons h]
  rw [postL_append, postL_cons]
  simp
theorem postL_split (ss : List ByteArray) (j : Nat) : postL ss = postL (ss.drop j) ++ postL (ss.take j) := by
  conv => lhs; rw [← List.take_append_drop j ss]
  rw [postL_append]
theorem postL_take {ss : List ByteArray} {j : Nat} (h : j < ss.length) : (postL (ss.take (j + 1))).length = (postL (ss.take j)).length + ss[j].size + 1 := by
  rw [List.take_add_one, List.getElem?_eq_getElem h, postL_append, show (some ss[j]).toList = [ss[j]] from rfl, postL_cons, postL_nil]
  simp
  omega

section
variable {s m : ByteArray} {s0 s1 : List ByteArray}

theorem built_size (hL : s.data.toList = preL s0 ++ (m.data.toList ++ postL s1)) : s.size = (preL s0).length + (m.size + (postL s1).length) := by
  rw [← ba_len s, hL, List.length_append, List.length_append, ba_len]

theorem cand_bang (hL : s.data.toList = preL s0 ++ (m.data.toList ++ postL s1)) (hp : Prem s0 m s1) {i j lo hi : Nat} (hi' : i < s0.length) (hlo : lo = (preL (s0.take i)).length) (hhi : hi + (postL (s1.take j)).length = s.size) {b : Int} {bn bk : ByteArray} {p : Int} {pn : ByteArray} (hc : Cand s lo hi b bn bk p pn) :
    b = (lo + s0[i].size : Nat) ∧ bn = s0[i] ∧ bk = uucpB ∧ lo + s0[i].size + 1 = (preL (s0.take (i + 1))).length ∧ lo + s0[i].size + 1 < hi := by
  obtain ⟨_, _, ⟨rb, h1, h2, hfb⟩, _⟩ := hc
  have q0 := preL_at hi'
  have hsz := built_size hL
  have l0 := congrArg List.length q0
  have l1 := congrArg List.length (postL_split s1 j)
  have l2 := congrArg List.length (preL_take hi')
  have l3 := ba_len s0[i]
  simp only [List.length_append, List.length_cons, List.length_nil] at l0 l1 l2
  have hm := hp.2.2.1
  have hb := hp.1 s0[i] (List.getElem_mem hi')
  have hlt : lo + s0[i].size + 1 < hi := by omega
  have hL' : s.data.toList = preL (s0.take i) ++ (s0[i].data.toList ++ 33 :: (preL (s0.drop (i + 1)) ++ (m.data.toList ++ postL s1))) := by
    rw [hL, q0]
    simp
  obtain ⟨e1, e2, e3⟩ := fb_some hL' hlo hb (by omega) hfb
  exact ⟨e1, e2, e3, by omega, hlt⟩

theorem cand_bang0 (hL : s.data.toList = preL s0 ++ (m.data.toList ++ postL s1)) (hp : Prem s0 m s1) {lo hi : Nat} (hlo : lo = (preL (s0.take s0.length)).length) {b : Int} {bn bk : ByteArray} {p : Int} {pn : ByteArray} (hc : Cand s lo hi b bn bk p pn) : bn = emptyB := by
  obtain ⟨_, _, ⟨rb, h1, h2, hfb⟩, _⟩ := hc
  rw [List.take_length] at hlo
  refine fb_none hL hlo ?_ hfb
  intro u hu
  rw [List.mem_append] at hu
  rcases hu with hu | hu
  · exact not_holds (n := 33) (c := 33) rfl hp.2.2.2.1 u hu
  · rcases mem_postL hu with e | ⟨x, hx, hu⟩
    · rw [e]; decide
    · exact (hp.2.1 x hx).not (c := 33) (by decide) u hu

theorem last_ok (hp : Prem s0 m s1) (r : List ByteArray) (hr : ∀ x ∈ r, PName x) : ∃ c, (preL s0 ++ (m.data.toList ++ postL r)).getLast? = some c ∧ c ≠ 37 := by
  cases r with
  | nil =>
    have hm := ne_nil hp.2.2.1
    rw [postL_nil, List.append_nil]
    exact ⟨_, last_append hm, not_holds (n := 37) (c := 37) rfl hp.2.2.2.2 _ (List.getLast_mem hm)⟩
  | cons x r =>
    have hx := hr x (by simp)
    have hn := ne_nil hx.1
    have e : preL s0 ++ (m.data.toList ++ postL (x :: r)) = (preL s0 ++ (m.data.toList ++ (postL r ++ [37]))) ++ x.data.toList := by
      rw [postL_cons]; simp
    rw [e]
    exact ⟨_, last_append hn, hx.not (c := 37) (by decide) _ (List.getLast_mem hn)⟩

theorem cand_pct (hL : s.data.toList = preL s0 ++ (m.data.toList ++ postL s1)) (hp : Prem s0 m s1) {j lo hi : Nat} (hj : j < s1.length) (hlo : lo ≤ (preL s0).length) (hhi : hi + (postL (s1.take j)).length = s.size) {b : Int} {bn bk : ByteArray} {p : Int} {pn : ByteArray} (hc : Cand s lo hi b bn bk p pn) :
    ∃ q : Nat, p = q ∧ pn = s1[j] ∧ q + (postL (s1.take (j + 1))).length = s.size ∧ lo < q := by
  obtain ⟨_, _, _, ⟨lp, h1, hlp⟩⟩ := hc
  have q1 := postL_at hj
  have hsz := built_size hL
  have l1 := congrArg List.length q1
  have l2 := postL_take hj
  have l3 := ba_len s1[j]
  have hm := hp.2.2.1
  have lm := ba_len m
  simp only [List.length_append, List.length_cons] at l1
  have hb := hp.2.1 s1[j] (List.getElem_mem hj)
  obtain ⟨c, hc1, hc2⟩ := last_ok hp (s1.drop (j + 1)) (fun x hx => hp.2.1 x (List.mem_of_mem_drop hx))
  have hL' : s.data.toList = (preL s0 ++ (m.data.toList ++ postL (s1.drop (j + 1)))) ++ 37 :: (s1[j].data.toList ++ postL (s1.take j)) := by
    rw [hL, q1]
    simp
  have lX : (preL s0 ++ (m.data.toList ++ postL (s1.drop (j + 1)))).length = (preL s0).length + (m.size + (postL (s1.drop (j + 1))).length) := by
    rw [List.length_append, List.length_append, ba_len]
  obtain ⟨e1, e2⟩ := lp_some hL' hc1 hc2 (ne_nil hb.1) (hb.not (c := 37) (by decide)) (by omega) (by omega) (by rw [ba_list]; exact hb.hop) hlp
  rw [ba_list] at e2
  exact ⟨_, e1, e2, by omega, by omega⟩

theorem cand_pct0 (hL : s.data.toList = preL s0 ++ (m.data.toList ++ postL s1)) (hp : Prem s0 m s1) {lo hi : Nat} (hhi : hi + (postL (s1.take s1.length)).length = s.size) {b : Int} {bn bk : ByteArray} {p : Int} {pn : ByteArray} (hc : Cand s lo hi b bn bk p pn) : pn = emptyB := by
  obtain ⟨_, _, _, ⟨lp, h1, hlp⟩⟩ := hc
  rw [List.take_length] at hhi
  have hsz := built_size hL
  have lm := ba_len m
  refine lp_none (X := preL s0 ++ m.data.toList) (Z := postL s1) (by rw [hL]; simp) ?_ (by rw [List.length_append]; omega) hlp
  intro u hu
  rw [List.mem_append] at hu
  rcases hu with hu | hu
  · rcases mem_preL hu with e | ⟨x, hx, hu⟩
    · rw [e]; decide
    · exact (hp.1 x hx).not (c := 37) (by decide) u hu
  · exact not_holds (n := 37) (c := 37) rfl hp.2.2.2.2 u hu

/-- The hops read so far: i of the '!' kind, j of the '%' kind. -/
def hopsOf (s0 s1 : List ByteArray) (pf : Bool) (i j : Nat) : List (ByteArray × ByteArray) :=
  if pf = true then (s1.take j).map (fun x => (x, domainB)) ++ (s0.take i).map (fun x => (x, uucpB)) else (s0.take i).map (fun x => (x, uucpB)) ++ (s1.take j).map (fun x => (x, domainB))
/-- What the steps keep. -/
def Places (s : ByteArray) (s0 s1 : List ByteArray) (pf : Bool) (lo hi : Nat) (hops : List (ByteArray × ByteArray)) : Prop :=
  ∃ i j, i ≤ s0.length ∧ j ≤ s1.length ∧ lo = (preL (s0.take i)).length ∧ hi + (postL (s1.take j)).length = s.size ∧ hops = hopsOf s0 s1 pf i j ∧ (pf = true → 0 < i → j = s1.length) ∧ (pf = false → 0 < j → i = s0.length)

theorem map_take_succ {α β : Type} (f : α → β) {ss : List α} {k : Nat} (h : k < ss.length) : (ss.take (k + 1)).map f = (ss.take k).map f ++ [f ss[k]] := by
  rw [List.take_add_one, List.getElem?_eq_getElem h, List.map_append]
  rfl
theorem preL_le (s0 : List ByteArray) (i : Nat) : (preL (s0.take i)).length ≤ (preL s0).length := by
  have := congrArg List.length (preL_append (s0.take i) (s0.drop i))
  rw [List.take_append_drop, List.length_append] at this
  omega

theorem places_kept (hL : s.data.toList = preL s0 ++ (m.data.toList ++ postL s1)) (hp : Prem s0 m s1) (pf : Bool) : Kept s pf (Places s s0 s1 pf) := by
  refine ⟨fun lo hi b bn bk p pn hops hc hj hcp hpf => ?_, fun lo hi b bn bk p pn hops hc hj hnp hcb => ?_⟩
  · obtain ⟨i, j, h1, h2, h3, h4, h5, h6, h7⟩ := hj
    have hjn : j < s1.length := by
      rcases Nat.lt_or_ge j s1.length with h | h
      · exact h
      · have e : j = s1.length := by omega
        subst e
        have := cand_pct0 hL hp h4 hc
        rw [this] at hcp
        exact absurd hcp.1 (by decide)
    obtain ⟨q, rfl, rfl, e3, e4⟩ := cand_pct hL hp hjn (by rw [h3]; exact preL_le _ _) h4 hc
    have hB : pf = false → i = s0.length := by
      intro e
      subst e
      rcases hpf with h | h
      · cases h
      · rcases Nat.lt_or_ge i s0.length with hlt | hge
        · obtain ⟨f1, f2, f3, f4, f5⟩ := cand_bang hL hp hlt h3 h4 hc
          refine absurd ⟨?_, ?_⟩ h
          · rw [f2]; exact (hp.1 _ (List.getElem_mem hlt)).1
          · rw [f1]; omega
        · omega
    have hi0 : pf = true → i = 0 := by
      intro e
      rcases Nat.eq_zero_or_pos i with h | h
      · exact h
      · have := h6 e h; omega
    refine ⟨i, j + 1, h1, by omega, h3, by simpa using e3, ?_, fun e h => by have := hi0 e; omega, fun e _ => hB e⟩
    rw [h5]
    unfold hopsOf
    cases pf with
    | true => rw [hi0 rfl, if_pos rfl, if_pos rfl, map_take_succ _ hjn, List.take_zero, List.map_nil, List.append_nil, List.append_nil]
    | false => rw [if_neg (by simp), if_neg (by simp), map_take_succ _ hjn, List.append_assoc]
  · obtain ⟨i, j, h1, h2, h3, h4, h5, h6, h7⟩ := hj
    have hin : i < s0.length := by
      rcases Nat.lt_or_ge i s0.length with h | h
      · exact h
      · have e : i = s0.length := by omega
        subst e
        have := cand_bang0 hL hp h3 hc
        rw [this] at hcb
        exact absurd hcb.1 (by decide)
    obtain ⟨f1, f2, f3, f4, f5⟩ := cand_bang hL hp hin h3 h4 hc
    have hJ : pf = true → j = s1.length := by
      intro e
      rcases Nat.lt_or_ge j s1.length with hlt | hge
      · obtain ⟨q, g1, g2, g3, g4⟩ := cand_pct hL hp hlt (by rw [h3]; exact preL_le _ _) h4 hc
        refine absurd ⟨⟨?_, ?_⟩, .inl e⟩ hnp
        · rw [g2]; exact (hp.2.1 _ (List.getElem_mem hlt)).1
        · rw [g1]; omega
      · omega
    have hj0 : pf = false → j = 0 := by
      intro e
      rcases Nat.eq_zero_or_pos j with h | h
      · exact h
      · have := h7 e h; omega
    subst f1 f2 f3
    have ei : (((lo + s0[i].size : Nat) : Int) + 1).toNat = lo + s0[i].size + 1 := by omega
    refine ⟨i + 1, j, by omega, h2, by rw [ei]; exact f4, h4, ?_, fun e _ => hJ e, fun e h => by have := hj0 e; omega⟩
    rw [h5]
    unfold hopsOf
    cases pf with
    | true => rw [if_pos rfl, if_pos rfl, map_take_succ _ hin, List.append_assoc]
    | false => rw [hj0 rfl, if_neg (by simp), if_neg (by simp), map_take_succ _ hin, List.take_zero, List.map_nil, List.append_nil, List.append_nil]

theorem places_start (s : ByteArray) (s0 s1 : List ByteArray) (pf : Bool) : Places s s0 s1 pf 0 s.size [] := by
  refine ⟨0, 0, Nat.zero_le _, Nat.zero_le _, rfl, rfl, ?_, fun _ h => by omega, fun _ h => by omega⟩
  unfold hopsOf
  simp

/-- Where no step can be taken, all is read. -/
theorem places_end (hL : s.data.toList = preL s0 ++ (m.data.toList ++ postL s1)) (hp : Prem s0 m s1) {pf : Bool} {lo hi : Nat} {hops : List (ByteArray × ByteArray)} (hj : Places s s0 s1 pf lo hi hops) {b : Int} {bn bk : ByteArray} {p : Int} {pn : ByteArray} (hc : Cand s lo hi b bn bk p pn) (hb : ¬ CanB hi b bn) (hq : ¬ CanP lo p pn) :
    s.extract lo hi = m ∧ hops = hopsOf s0 s1 pf s0.length s1.length := by
  obtain ⟨i, j, h1, h2, h3, h4, h5, h6, h7⟩ := hj
  have ei : i = s0.length := by
    rcases Nat.lt_or_ge i s0.length with hlt | hge
    · obtain ⟨f1, f2, f3, f4, f5⟩ := cand_bang hL hp hlt h3 h4 hc
      refine absurd ⟨?_, ?_⟩ hb
      · rw [f2]; exact (hp.1 _ (List.getElem_mem hlt)).1
      · rw [f1]; omega
    · omega
  have ej : j = s1.length := by
    rcases Nat.lt_or_ge j s1.length with hlt | hge
    · obtain ⟨q, g1, g2, g3, g4⟩ := cand_pct hL hp hlt (by rw [h3]; exact preL_le _ _) h4 hc
      refine absurd ⟨?_, ?_⟩ hq
      · rw [g2]; exact (hp.2.1 _ (List.getElem_mem hlt)).1
      · rw [g1]; omega
    · omega
  subst ei ej
  rw [List.take_length] at h3 h4
  have hsz := built_size hL
  have lm := ba_len m
  refine ⟨(extract_mid (A := preL s0) hL h3 (by omega)).trans (ba_list m), h5⟩
end

end Go.Proofs.Qxb6000014a
