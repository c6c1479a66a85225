/-
  THE PLAIN HALF of seat b6601367a: the leftmost-longest scan, and why the cut that keeps 'next' comes to it. No Go in sight.
-/
import Derived.Lib.Index
import Derived.Lib.IndexLaws
namespace Go.Proofs.Qxb6601367a
open Go.Lib (occAt index)

/-- "[redacted]" -/
def ph : List UInt8 := [91, 114, 101, 100, 97, 99, 116, 101, 100, 93]

/-! ### The longest credential at a place -/
def longest (vs : List (List UInt8)) (buf : List UInt8) (p : Nat) : Nat := vs.foldl (fun best v => if best < v.length ∧ occAt buf v p = true then v.length else best) 0

theorem fold_same (buf : List UInt8) (p : Nat) : ∀ (vs : List (List UInt8)) (m : Nat), (∀ v ∈ vs, occAt buf v p = false ∨ v.length ≤ m) → vs.foldl (fun best v => if best < v.length ∧ occAt buf v p = true then v.length else best) m = m
  | [], _, _ => rfl
  | v :: vs, m, h => by
    rw [List.foldl_cons]
    have hv := h v (by simp)
    rw [if_neg (by rintro ⟨h1, h2⟩; rcases hv with hv | hv; rw [hv] at h2; cases h2; omega)]
    exact fold_same buf p vs m (fun u hu => h u (by simp [hu]))

theorem longest_none {vs : List (List UInt8)} {buf : List UInt8} {p : Nat} (h : ∀ v ∈ vs, occAt buf v p = false) : longest vs buf p = 0 :=
  fold_same buf p vs 0 (fun v hv => .inl (h v hv))

theorem longest_split {pre post : List (List UInt8)} {v : List UInt8} {buf : List UInt8} {p : Nat} (h0 : 0 < v.length) (ho : occAt buf v p = true) (h1 : ∀ u ∈ pre, occAt buf u p = false) (h2 : ∀ u ∈ post, u.length ≤ v.length) :
    longest (pre ++ v :: post) buf p = v.length := by
  unfold longest
  rw [List.foldl_append, fold_same buf p pre 0 (fun u hu => .inl (h1 u hu)), List.foldl_cons, if_pos ⟨h0, ho⟩]
  exact fold_same buf p post _ (fun u hu => .inr (h2 u hu))

/-- What is longest there lies there. -/
theorem fold_room (buf : List UInt8) (p : Nat) : ∀ (vs : List (List UInt8)) (m : Nat), p + m ≤ buf.length ∨ m = 0 →
    p + vs.foldl (fun best v => if best < v.length ∧ occAt buf v p = true then v.length else best) m ≤ buf.length ∨ vs.foldl (fun best v => if best < v.length ∧ occAt buf v p = true then v.length else best) m = 0
  | [], _, h => h
  | v :: vs, m, h => by
    rw [List.foldl_cons]
    by_cases hc : m < v.length ∧ occAt buf v p = true
    · rw [if_pos hc]
      refine fold_room buf p vs _ ?_
      rcases Lib.occAt_room hc.2 with h1 | h1
      · exact .inl h1
      · rw [h1] at hc; simp at hc
    · rw [if_neg hc]
      exact fold_room buf p vs m h

theorem longest_room (vs : List (List UInt8)) (buf : List UInt8) (p : Nat) (h : 0 < longest vs buf p) : p + longest vs buf p ≤ buf.length := by
  rcases fold_room buf p vs 0 (.inr rfl) with h1 | h1
  · exact h1
  · unfold longest at h; omega

theorem longest_congr {vs : List (List UInt8)} {b1 b2 : List UInt8} {p1 p2 : Nat} (h : ∀ v ∈ vs, occAt b1 v p1 = occAt b2 v p2) : longest vs b1 p1 = longest vs b2 p2 := by
  have key : ∀ (us : List (List UInt8)) (m : Nat), (∀ v ∈ us, occAt b1 v p1 = occAt b2 v p2) →
      us.foldl (fun best v => if best < v.length ∧ occAt b1 v p1 = true then v.length else best) m = us.foldl (fun best v => if best < v.length ∧ occAt b2 v p2 = true then v.length else best) m := by
    intro us
    induction us with
    | nil => intro m _; rfl
    | cons u us ih =>
      intro m hu
      rw [List.foldl_cons, List.foldl_cons, hu u (by simp)]
      exact ih _ (fun v hv => hu v (by simp [hv]))
  exact key vs 0 h

/-! ### The scan -/
def scan (vs : List (List UInt8)) (buf : List UInt8) (E : Nat) : Nat → Nat → List UInt8 × Nat × Nat
  | 0, p => ([], p, 0)
  | f + 1, p =>
    if p < E then
      if 0 < longest vs buf p then
        (ph ++ (scan vs buf E f (p + longest vs buf p)).1, (scan vs buf E f (p + longest vs buf p)).2.1, (scan vs buf E f (p + longest vs buf p)).2.2 + 1)
      else (buf.getD p 0 :: (scan vs buf E f (p + 1)).1, (scan vs buf E f (p + 1)).2.1, (scan vs buf E f (p + 1)).2.2)
    else ([], p, 0)

theorem scan_past (vs : List (List UInt8)) (buf : List UInt8) (E f p : Nat) (h : E ≤ p) : scan vs buf E f p = ([], p, 0) := by
  cases f with
  | zero => rfl
  | succ f => rw [scan, if_neg (by omega)]

/-- Fuel enough is fuel enough. -/
theorem scan_fuel2 (vs : List (List UInt8)) (buf : List UInt8) (E : Nat) : ∀ (f g p : Nat), E - p ≤ f → E - p ≤ g → scan vs buf E f p = scan vs buf E g p := by
  intro f
  induction f with
  | zero => intro g p h _; rw [scan_past _ _ _ _ _ (by omega), scan_past _ _ _ _ _ (by omega)]
  | succ f ih =>
    intro g p h hg
    by_cases hp : p < E
    · obtain ⟨g, rfl⟩ : ∃ g', g = g' + 1 := ⟨g - 1, by omega⟩
      rw [scan, scan, if_pos hp, if_pos hp]
      by_cases hm : 0 < longest vs buf p
      · rw [if_pos hm, if_pos hm, ih g (p + longest vs buf p) (by omega) (by omega)]
      · rw [if_neg hm, if_neg hm, ih g (p + 1) (by omega) (by omega)]
    · rw [scan_past _ _ _ _ _ (by omega), scan_past _ _ _ _ _ (by omega)]

/-- The scan from p on. -/
def S (vs : List (List UInt8)) (buf : List UInt8) (E p : Nat) : List UInt8 × Nat × Nat := scan vs buf E (E - p) p
/-- Something put ahead of a scan's answer. -/
def pre (o : List UInt8) (k : Nat) (r : List UInt8 × Nat × Nat) : List UInt8 × Nat × Nat := (o ++ r.1, r.2.1, k + r.2.2)

theorem pre_pre (o o' : List UInt8) (k k' : Nat) (r : List UInt8 × Nat × Nat) : pre o k (pre o' k' r) = pre (o ++ o') (k + k') r := by
  simp [pre, Nat.add_assoc]
theorem pre_nil (r : List UInt8 × Nat × Nat) : pre [] 0 r = r := by simp [pre]

theorem S_past (vs : List (List UInt8)) (buf : List UInt8) (E p : Nat) (h : E ≤ p) : S vs buf E p = ([], p, 0) := scan_past _ _ _ _ _ h
theorem S_hit (vs : List (List UInt8)) (buf : List UInt8) (E p : Nat) (hp : p < E) (hm : 0 < longest vs buf p) : S vs buf E p = pre ph 1 (S vs buf E (p + longest vs buf p)) := by
  unfold S
  rw [scan_fuel2 vs buf E (E - p) (E - p + 1) p (by omega) (by omega), scan, if_pos hp, if_pos hm, scan_fuel2 vs buf E (E - p) (E - (p + longest vs buf p)) _ (by omega) (by omega)]
  simp [pre, Nat.add_comm]
theorem S_miss (vs : List (List UInt8)) (buf : List UInt8) (E p : Nat) (hp : p < E) (hm : longest vs buf p = 0) : S vs buf E p = pre [buf.getD p 0] 0 (S vs buf E (p + 1)) := by
  unfold S
  rw [scan_fuel2 vs buf E (E - p) (E - p + 1) p (by omega) (by omega), scan, if_pos hp, if_neg (by omega), scan_fuel2 vs buf E (E - p) (E - (p + 1)) _ (by omega) (by omega)]
  simp [pre]

/-- What has been written is o, the place is p, n were replaced: the scan's answer is told from here on. -/
def Tot (vs : List (List UInt8)) (buf : List UInt8) (E : Nat) (o : List UInt8) (p n : Nat) : Prop := S vs buf E 0 = pre o n (S vs buf E p) ∧ p ≤ buf.length ∧ o.length ≤ 10 * p ∧ n ≤ p

theorem Tot.zero (vs : List (List UInt8)) (buf : List UInt8) (E : Nat) : Tot vs buf E [] 0 0 := ⟨(pre_nil _).symm, Nat.zero_le _, by simp, Nat.le_refl _⟩
theorem Tot.hit {vs : List (List UInt8)} {buf : List UInt8} {E : Nat} {o : List UInt8} {p n : Nat} (h : Tot vs buf E o p n) (hp : p < E) {m : Nat} (hm : longest vs buf p = m) (h0 : 0 < m) : Tot vs buf E (o ++ ph) (p + m) (n + 1) := by
  subst hm
  have hr := longest_room vs buf p h0
  refine ⟨?_, hr, ?_, ?_⟩
  · rw [h.1, S_hit vs buf E p hp h0, pre_pre]
  · have := h.2.2.1
    simp [ph]
    omega
  · have := h.2.2.2
    omega
theorem Tot.miss {vs : List (List UInt8)} {buf : List UInt8} {E : Nat} {o : List UInt8} {p n : Nat} (h : Tot vs buf E o p n) (hp : p < E) (hE : E ≤ buf.length) (hm : longest vs buf p = 0) : Tot vs buf E (o ++ [buf.getD p 0]) (p + 1) n := by
  refine ⟨?_, by omega, ?_, ?_⟩
  · rw [h.1, S_miss vs buf E p hp hm, pre_pre]
    rfl
  · have := h.2.2.1
    simp
    omega
  · have := h.2.2.2
    omega
theorem Tot.done {vs : List (List UInt8)} {buf : List UInt8} {E : Nat} {o : List UInt8} {p n : Nat} (h : Tot vs buf E o p n) (hp : E ≤ p) : S vs buf E 0 = (o, p, n) := by
  rw [h.1, S_past vs buf E p hp]
  simp [pre]

theorem take_drop_succ (l : List UInt8) (p k : Nat) (h : p + k < l.length) : (l.drop p).take (k + 1) = (l.drop p).take k ++ [l.getD (p + k) 0] := by
  rw [List.take_succ_eq_append_getElem (by rw [List.length_drop]; omega)]
  simp [List.getElem_drop, h]

/-- No credential starts in between: the bytes are kept. -/
theorem Tot.skip {vs : List (List UInt8)} {buf : List UInt8} {E : Nat} {o : List UInt8} {p n : Nat} (h : Tot vs buf E o p n) (hE : E ≤ buf.length) : ∀ k, p + k ≤ E → (∀ q, p ≤ q → q < p + k → longest vs buf q = 0) → Tot vs buf E (o ++ (buf.drop p).take k) (p + k) n := by
  intro k
  induction k with
  | zero => intro _ _; simpa using h
  | succ k ih =>
    intro hk hq
    have h1 := ih (by omega) (fun q h1 h2 => hq q h1 (by omega))
    have h2 := h1.miss (by omega) hE (hq (p + k) (by omega) (by omega))
    rw [List.append_assoc] at h2
    rw [take_drop_succ buf p k (by omega)]
    exact h2

end Go.Proofs.Qxb6601367a
