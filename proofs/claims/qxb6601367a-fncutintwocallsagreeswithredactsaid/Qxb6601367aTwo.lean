/-
  THE PLAIN HALF (3): a scan in two parts is the scan of the whole.
-/
import Derived.Test.Qxb6601367aLawCut
namespace Go.Proofs.Qxb6601367a
open Go.Lib (occAt)

theorem fold_ge (us : List (List UInt8)) : ∀ (m : Nat), m ≤ us.foldl (fun m v => if m < v.length then v.length else m) m ∧ ∀ v ∈ us, v.length ≤ us.foldl (fun m v => if m < v.length then v.length else m) m := by
  induction us with
  | nil => intro m; exact ⟨Nat.le_refl _, by simp⟩
  | cons u us ih =>
    intro m
    rw [List.foldl_cons]
    obtain ⟨h1, h2⟩ := ih (if m < u.length then u.length else m)
    have h3 : m ≤ (if m < u.length then u.length else m) ∧ u.length ≤ (if m < u.length then u.length else m) := by split <;> omega
    refine ⟨by omega, fun v hv => ?_⟩
    rcases List.mem_cons.1 hv with rfl | hv
    · omega
    · exact h2 v hv
theorem maxl_ge {us : List (List UInt8)} {v : List UInt8} (h : v ∈ us) : v.length ≤ maxl us := (fold_ge us 0).2 v h

theorem prefix_append {v x y : List UInt8} (h : v.length ≤ x.length) : v.isPrefixOf (x ++ y) = v.isPrefixOf x := by
  rw [Bool.eq_iff_iff, List.isPrefixOf_iff_prefix, List.isPrefixOf_iff_prefix, List.prefix_iff_eq_take, List.prefix_iff_eq_take, List.take_append_of_le_length h]

theorem longest_whole {vs : List (List UInt8)} {a : List UInt8} (b : List UInt8) {p : Nat} (hp : p < endOf vs a false) : longest vs a p = longest vs (a ++ b) p := by
  refine longest_congr fun v hv => ?_
  have hm := maxl_ge hv
  have hp' : p < a.length - (maxl vs - 1) := by simpa [endOf] using hp
  unfold occAt
  rw [List.drop_append_of_le_length (by omega), prefix_append (by rw [List.length_drop]; omega)]

/-- Up to E the scan of a goes as the scan of the whole. -/
theorem scan_whole (vs : List (List UInt8)) (a b : List UInt8) : ∀ (f p : Nat), S vs (a ++ b) (a ++ b).length p = pre (scan vs a (endOf vs a false) f p).1 (scan vs a (endOf vs a false) f p).2.2 (S vs (a ++ b) (a ++ b).length (scan vs a (endOf vs a false) f p).2.1) := by
  intro f
  induction f with
  | zero => intro p; exact (pre_nil _).symm
  | succ f ih =>
    intro p
    by_cases hp : p < endOf vs a false
    · have hpa : p < a.length := Nat.lt_of_lt_of_le hp (endOf_le vs a false)
      have hpw : p < (a ++ b).length := by rw [List.length_append]; omega
      have hl := longest_whole (vs := vs) b hp
      by_cases hm : 0 < longest vs a p
      · rw [scan, if_pos hp, if_pos hm]
        rw [S_hit vs (a ++ b) _ p hpw (by rw [← hl]; exact hm), ← hl, ih (p + longest vs a p), pre_pre, Nat.add_comm 1]
      · rw [scan, if_pos hp, if_neg hm]
        rw [S_miss vs (a ++ b) _ p hpw (by rw [← hl]; omega), ih (p + 1), pre_pre, Nat.zero_add]
        have e : (a ++ b).getD p 0 = a.getD p 0 := by simp [List.getElem?_append_left hpa]
        rw [e]
        rfl
    · rw [scan, if_neg hp]
      exact (pre_nil _).symm

/-- The scan of what is left is the scan of the whole from there on. -/
theorem scan_shift (vs : List (List UInt8)) (w : List UInt8) (d : Nat) (hd : d ≤ w.length) : ∀ (f q : Nat), (scan vs w w.length f (d + q)) = ((scan vs (w.drop d) (w.drop d).length f q).1, d + (scan vs (w.drop d) (w.drop d).length f q).2.1, (scan vs (w.drop d) (w.drop d).length f q).2.2) := by
  intro f
  induction f with
  | zero => intro q; rfl
  | succ f ih =>
    intro q
    have hl : longest vs w (d + q) = longest vs (w.drop d) q := longest_congr fun v _ => by rw [occAt_drop]
    have hlen : (w.drop d).length = w.length - d := List.length_drop
    by_cases hq : q < (w.drop d).length
    · rw [scan, scan, if_pos (by omega), if_pos hq, hl]
      by_cases hm : 0 < longest vs (w.drop d) q
      · rw [if_pos hm, if_pos hm, Nat.add_assoc, ih (q + longest vs (w.drop d) q)]
      · rw [if_neg hm, if_neg hm, Nat.add_assoc, ih (q + 1)]
        have e : w.getD (d + q) 0 = (w.drop d).getD q 0 := by simp
        rw [e]
    · rw [scan, scan, if_neg (by omega), if_neg hq]

theorem two_calls (vs : List (List UInt8)) (a b : List UInt8) :
    (S vs a (endOf vs a false) 0).1 ++ (S vs (a.drop (S vs a (endOf vs a false) 0).2.1 ++ b) (a.drop (S vs a (endOf vs a false) 0).2.1 ++ b).length 0).1 = (S vs (a ++ b) (a ++ b).length 0).1 ∧
    (S vs a (endOf vs a false) 0).2.2 + (S vs (a.drop (S vs a (endOf vs a false) 0).2.1 ++ b) (a.drop (S vs a (endOf vs a false) 0).2.1 ++ b).length 0).2.2 = (S vs (a ++ b) (a ++ b).length 0).2.2 := by
  have hb := S_len_le vs a (endOf vs a false) (endOf_le _ _ _)
  have h1 := scan_whole vs a b (endOf vs a false - 0) 0
  have e1 : scan vs a (endOf vs a false) (endOf vs a false - 0) 0 = S vs a (endOf vs a false) 0 := rfl
  rw [e1] at h1
  obtain ⟨R, hR⟩ : ∃ R, S vs a (endOf vs a false) 0 = R := ⟨_, rfl⟩
  rw [hR] at h1 hb ⊢
  obtain ⟨D, p, K⟩ := R
  simp only at h1 hb ⊢
  have hp : p ≤ (a ++ b).length := by rw [List.length_append]; omega
  have e2 : (a ++ b).drop p = a.drop p ++ b := List.drop_append_of_le_length hb.2.2
  have h2 := scan_shift vs (a ++ b) p hp ((a ++ b).length - p) 0
  rw [e2] at h2
  have e3 : scan vs (a ++ b) (a ++ b).length ((a ++ b).length - p) (p + 0) = S vs (a ++ b) (a ++ b).length p := rfl
  have e4 : scan vs (a.drop p ++ b) (a.drop p ++ b).length ((a ++ b).length - p) 0 = S vs (a.drop p ++ b) (a.drop p ++ b).length 0 := by
    unfold S
    congr 1
    rw [← e2, List.length_drop]
    omega
  rw [e3, e4] at h2
  rw [h2] at h1
  rw [h1]
  exact ⟨rfl, rfl⟩

end Go.Proofs.Qxb6601367a
