/-
  THE BUILT TEXT: b1!..bk!m%pn..%p1, and what the reading finds in it (no Go in sight).
-/
import Derived.Test.Qxb6000014aRead
import Derived.Test.Qxb6000014aNames
namespace Go.Proofs.Qxb6000014a
open Go.RowKit

theorem ba_ext {a b : ByteArray} (h : a.data.toList = b.data.toList) : a = b := by
  cases a with
  | mk x => cases b with
    | mk y => congr 1; exact Array.ext' h
theorem ba_list (a : ByteArray) : (⟨a.data.toList.toArray⟩ : ByteArray) = a := ba_ext (by simp)
theorem ba_len (a : ByteArray) : a.data.toList.length = a.size := by simp
theorem val_of {s : ByteArray} {k : Nat} {c : UInt8} (h : s.data.toList[k]? = some c) : ∃ hk : k < s.size, s[k] = c := by
  obtain ⟨hk, e⟩ := List.getElem?_eq_some_iff.1 h
  exact ⟨by simpa using hk, e⟩
theorem sing_byte {s : ByteArray} {k : Nat} {c : UInt8} (h : s.data.toList[k]? = some c) (hs : Sing s k) : c = 37 := by
  obtain ⟨hk, e⟩ := val_of h
  obtain ⟨_, h1, _⟩ := hs
  rw [← e]
  exact u8_eq (n := 37) (by omega) h1
theorem int37 {c : UInt8} (h : c ≠ 37) : ¬ (c.toNat : Int) = 37 := fun e => h (u8_eq (n := 37) (by omega) e)
theorem extract_mid {s : ByteArray} {A B C : List UInt8} (h : s.data.toList = A ++ (B ++ C)) {a b : Nat} (ha : a = A.length) (hb : b = A.length + B.length) : s.extract a b = ⟨B.toArray⟩ := by
  apply ba_ext
  rw [extract_list, h, ha, hb, List.drop_left, show A.length + B.length - A.length = B.length by omega, List.take_left]

def preL (ss : List ByteArray) : List UInt8 := ss.flatMap fun b => b.data.toList ++ [33]
def postL (ss : List ByteArray) : List UInt8 := ss.reverse.flatMap fun p => 37 :: p.data.toList
theorem preL_append (a b : List ByteArray) : preL (a ++ b) = preL a ++ preL b := by simp [preL]
theorem preL_cons (x : ByteArray) (r : List ByteArray) : preL (x :: r) = x.data.toList ++ 33 :: preL r := by simp [preL]
theorem postL_append (a b : List ByteArray) : postL (a ++ b) = postL b ++ postL a := by simp [postL]
theorem postL_cons (x : ByteArray) (r : List ByteArray) : postL (x :: r) = postL r ++ 37 :: x.data.toList := by simp [postL]
theorem postL_nil : postL [] = [] := rfl
theorem preL_nil : preL [] = [] := rfl

theorem lp_some {s : ByteArray} {lp hi : Nat} {p : Int} {pn : ByteArray} {X y Z : List UInt8} {c : UInt8} (hL : s.data.toList = X ++ 37 :: (y ++ Z)) (hX : X.getLast? = some c) (hc : c ≠ 37) (hy : y ≠ []) (hyn : ∀ u ∈ y, u ≠ 37)
    (hhi : hi = X.length + 1 + y.length) (hlp : lp ≤ X.length) (hop : IsHop ⟨y.toArray⟩) (h : LP s lp hi p pn) : p = (X.length : Nat) ∧ pn = ⟨y.toArray⟩ := by
  have hq : s.data.toList[X.length]? = some 37 := by rw [hL, List.getElem?_append_right (Nat.le_refl _)]; simp
  have hyl : 0 < y.length := List.length_pos_iff.2 hy
  have hXl : 0 < X.length := by
    rcases Nat.eq_zero_or_pos X.length with h0 | h0
    · rw [List.length_eq_zero_iff.1 h0] at hX; cases hX
    · exact h0
  have hin : ∀ k, X.length < k → k < hi → ∃ u, u ∈ y ∧ s.data.toList[k]? = some u := by
    intro k h1 h2
    obtain ⟨j, rfl⟩ : ∃ j, k = X.length + 1 + j := ⟨k - X.length - 1, by omega⟩
    have hk : j < y.length := by omega
    refine ⟨y[j], List.getElem_mem hk, ?_⟩
    rw [hL, List.getElem?_append_right (by omega), show X.length + 1 + j - X.length = j + 1 by omega, List.getElem?_cons_succ, List.getElem?_append_left hk, List.getElem?_eq_getElem hk]
  have hsing : Sing s X.length := by
    obtain ⟨h1, e1⟩ := val_of hq
    refine ⟨h1, by rw [e1]; rfl, .inr ?_, .inr ?_⟩
    · have : s.data.toList[X.length - 1]? = some c := by
        rw [hL, List.getElem?_append_left (by omega), ← List.getLast?_eq_getElem?]
        exact hX
      obtain ⟨h2, e2⟩ := val_of this
      exact ⟨h2, by rw [e2]; exact int37 hc⟩
    · obtain ⟨u, hu, e⟩ := hin (X.length + 1) (by omega) (by omega)
      obtain ⟨h2, e2⟩ := val_of e
      exact ⟨h2, by rw [e2]; exact int37 (hyn u hu)⟩
  rcases h with ⟨_, _, h⟩ | ⟨i, rfl, k1, k2, k3, k4, k5⟩
  · exact absurd hsing (h X.length hlp (by omega))
  · have hiq : i = X.length := by
      rcases Nat.lt_trichotomy i X.length with h1 | h1 | h1
      · exact absurd hsing (k4 _ h1 (by omega))
      · exact h1
      · obtain ⟨u, hu, e⟩ := hin i h1 k2
        exact absurd (sing_byte e k3) (hyn u hu)
    subst hiq
    have ex : s.extract (X.length + 1) hi = ⟨y.toArray⟩ := extract_mid (A := X ++ [37]) (B := y) (C := Z) (by rw [hL]; simp) (by simp) (by simp; omega)
    rw [ex] at k5
    rcases k5 with ⟨h1, _⟩ | ⟨_, h2⟩
    · exact absurd hop h1
    · exact ⟨rfl, h2⟩

theorem lp_none {s : ByteArray} {lp hi : Nat} {p : Int} {pn : ByteArray} {X Z : List UInt8} (hL : s.data.toList = X ++ Z) (hn : ∀ u ∈ X, u ≠ 37) (hhi : hi = X.length) (h : LP s lp hi p pn) : pn = emptyB := by
  rcases h with ⟨_, h, _⟩ | ⟨i, rfl, k1, k2, k3, k4, k5⟩
  · exact h
  · have hi' : i < X.length := by omega
    have : s.data.toList[i]? = some X[i] := by rw [hL, List.getElem?_append_left hi', List.getElem?_eq_getElem hi']
    exact absurd (sing_byte this k3) (hn _ (List.getElem_mem hi'))

theorem trim_name {y : List UInt8} (h : ∀ u ∈ y, u ≠ 46) : Lib.trimSuffix y [46] = y := by
  unfold Lib.trimSuffix
  rw [if_neg]
  intro hs
  unfold Lib.hasSuffix at hs
  rw [List.isSuffixOf_iff_suffix] at hs
  exact h 46 (hs.subset (by simp)) rfl
theorem any_name {y : List UInt8} (h : ∀ u ∈ y, u ≠ 46 ∧ u ≠ 91) : Lib.containsAny y [46, 91] = false := by
  unfold Lib.containsAny
  rw [decide_eq_false_iff_not]
  have : Lib.indexAny y [46, 91] = -1 := by
    induction y with
    | nil => rfl
    | cons b l ih =>
      unfold Lib.indexAny
      rw [ih (fun u hu => h u (List.mem_cons_of_mem _ hu))]
      have hb := h b (by simp)
      simp [hb.1, hb.2]
  omega

theorem mem_name {f : Int → Bool} {s : ByteArray} (h : allIn f s 0 s.size) {u : UInt8} (hu : u ∈ s.data.toList) : f (u.toNat : Int) = true := by
  obtain ⟨k, hk⟩ := List.mem_iff_getElem?.1 hu
  obtain ⟨h1, e⟩ := val_of hk
  rw [← e]
  exact h k h1 (Nat.zero_le _) h1
theorem PName.hop {s : ByteArray} (h : PName s) : IsHop s := by
  refine ⟨h.1, .inr ⟨fun e => ?_, h.2⟩⟩
  have := h.2 0 h.1 (Nat.le_refl _) h.1
  rw [e] at this
  revert this
  decide
theorem BName.p {s : ByteArray} (h : BName s) : PName s := ⟨h.1, fun k hk h1 h2 => hopCh_of_name (h.2 k hk h1 h2)⟩
theorem PName.not {s : ByteArray} (h : PName s) {c : UInt8} (hc : hopCh (c.toNat : Int) = false) : ∀ u ∈ s.data.toList, u ≠ c := by
  intro u hu e
  have := mem_name h.2 hu
  rw [e, hc] at this
  cases this
theorem BName.not {s : ByteArray} (h : BName s) {c : UInt8} (hc : nameCh (c.toNat : Int) = false) : ∀ u ∈ s.data.toList, u ≠ c := by
  intro u hu e
  have := mem_name h.2 hu
  rw [e, hc] at this
  cases this
theorem ne_nil {s : ByteArray} (h : 0 < s.size) : s.data.toList ≠ [] := by
  intro e
  have := ba_len s
  rw [e] at this
  simp at this
  omega

theorem fb_some {s x : ByteArray} {lo rb : Nat} {b : Int} {bn bk : ByteArray} {A Z : List UInt8} (hL : s.data.toList = A ++ (x.data.toList ++ 33 :: Z)) (hlo : lo = A.length) (hx : BName x) (hrb : lo + x.size < rb) (h : FB s lo rb b bn bk) :
    b = (lo + x.size : Nat) ∧ bn = x ∧ bk = uucpB := by
  have hxl := ba_len x
  have hq : s.data.toList[lo + x.size]? = some 33 := by
    rw [hL, List.getElem?_append_right (by omega), List.getElem?_append_right (by omega), show lo + x.size - A.length - x.data.toList.length = 0 by omega]
    rfl
  have hin : ∀ k, lo ≤ k → k < lo + x.size → ∃ u, u ∈ x.data.toList ∧ s.data.toList[k]? = some u := by
    intro k h1 h2
    have hk : k - A.length < x.data.toList.length := by omega
    refine ⟨x.data.toList[k - A.length], List.getElem_mem hk, ?_⟩
    rw [hL, List.getElem?_append_right (by omega), List.getElem?_append_left hk, List.getElem?_eq_getElem hk]
  obtain ⟨hqs, hqe⟩ := val_of hq
  rcases h with ⟨_, _, h⟩ | ⟨i, rfl, k1, k2, ⟨k3, k3'⟩, k4, k5⟩
  · exact absurd hqe (h _ hqs (by omega) hrb)
  · have hiq : i = lo + x.size := by
      rcases Nat.lt_trichotomy i (lo + x.size) with h1 | h1 | h1
      · obtain ⟨u, hu, e⟩ := hin i k1 h1
        obtain ⟨_, e2⟩ := val_of e
        exact absurd (e2.symm.trans k3') (hx.not (c := 33) (by decide) u hu)
      · exact h1
      · exact absurd hqe (k4 _ hqs (by omega) h1)
    subst hiq
    have ex : s.extract lo (lo + x.size) = x := (extract_mid (A := A) hL hlo (by omega)).trans (ba_list x)
    rw [ex, trim_name (hx.not (by decide)), ba_list, any_name (fun u hu => ⟨hx.not (by decide) u hu, hx.not (by decide) u hu⟩)] at k5
    rcases k5 with ⟨h1, _⟩ | ⟨_, h2, h3⟩
    · exact absurd hx.p.hop h1
    · exact ⟨rfl, h2, h3⟩
theorem fb_none {s : ByteArray} {lo rb : Nat} {b : Int} {bn bk : ByteArray} {A Z : List UInt8} (hL : s.data.toList = A ++ Z) (hlo : lo = A.length) (hn : ∀ u ∈ Z, u ≠ 33) (h : FB s lo rb b bn bk) : bn = emptyB := by
  rcases h with ⟨_, h, _⟩ | ⟨i, rfl, k1, k2, ⟨k3, k3'⟩, k4, k5⟩
  · exact h
  · have hls : A.length + Z.length = s.size := by rw [← ba_len s, hL, List.length_append]
    have hz : i - A.length < Z.length := by omega
    have : s.data.toList[i]? = some Z[i - A.length] := by rw [hL, List.getElem?_append_right (by omega), List.getElem?_eq_getElem hz]
    obtain ⟨_, e⟩ := val_of this
    exact absurd (e.symm.trans k3') (hn _ (List.getElem_mem hz))

end Go.Proofs.Qxb6000014a
