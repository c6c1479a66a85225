/-
  THE PLAIN HALF (2): where each credential is next found.
-/
import Derived.Test.Qxb6601367aPlain
namespace Go.Proofs.Qxb6601367a
open Go.Lib (occAt index)

theorem occAt_cons (b : UInt8) (l sub : List UInt8) (q : Nat) : occAt (b :: l) sub (q + 1) = occAt l sub q := by simp [occAt]
theorem occAt_drop (l sub : List UInt8) (i q : Nat) : occAt (l.drop i) sub q = occAt l sub (i + q) := by simp [occAt, List.drop_drop]

theorem index_spec (s sub : List UInt8) (h : sub ≠ []) : (index s sub = -1 ∧ ∀ q, occAt s sub q = false) ∨ ∃ y : Nat, index s sub = y ∧ occAt s sub y = true ∧ ∀ q, q < y → occAt s sub q = false := by
  induction s with
  | nil =>
    left
    cases sub with
    | nil => exact absurd rfl h
    | cons a t => exact ⟨rfl, fun q => by simp [occAt]⟩
  | cons b l ih =>
    by_cases h0 : sub.isPrefixOf (b :: l) = true
    · right
      exact ⟨0, by rw [index, if_pos h0]; rfl, by simpa [occAt] using h0, fun q hq => absurd hq (Nat.not_lt_zero _)⟩
    · have h0' : occAt (b :: l) sub 0 = false := by rw [occAt, List.drop_zero]; exact Bool.eq_false_iff.2 h0
      rcases ih with ⟨h1, h2⟩ | ⟨y, h1, h2, h3⟩
      · left
        refine ⟨by rw [index, if_neg h0, h1]; rfl, fun q => ?_⟩
        cases q with
        | zero => exact h0'
        | succ q => rw [occAt_cons]; exact h2 q
      · right
        refine ⟨y + 1, ?_, by rw [occAt_cons]; exact h2, fun q hq => ?_⟩
        · rw [index, if_neg h0, h1, if_neg (by simp)]
          omega
        · cases q with
          | zero => exact h0'
          | succ q => rw [occAt_cons]; exact h3 q (by omega)

/-- x is where v is first found at or after i, -1 for nowhere. -/
def Fresh (buf v : List UInt8) (i : Nat) (x : Int) : Prop :=
  (x = -1 ∧ ∀ q, i ≤ q → occAt buf v q = false) ∨ ∃ y : Nat, x = y ∧ i ≤ y ∧ occAt buf v y = true ∧ ∀ q, i ≤ q → q < y → occAt buf v q = false
/-- .. or it has been passed. -/
def Nx (buf v : List UInt8) (i : Nat) (x : Int) : Prop := Fresh buf v i x ∨ (0 ≤ x ∧ x < i)

theorem Fresh.later {buf v : List UInt8} {i i' : Nat} {x : Int} (h : Fresh buf v i x) (hi : i ≤ i') : Nx buf v i' x := by
  rcases h with ⟨h1, h2⟩ | ⟨y, h1, h2, h3, h4⟩
  · exact .inl (.inl ⟨h1, fun q hq => h2 q (by omega)⟩)
  · by_cases hy : i' ≤ y
    · exact .inl (.inr ⟨y, h1, hy, h3, fun q hq hq2 => h4 q (by omega) hq2⟩)
    · exact .inr (by omega)
theorem Fresh.range {buf v : List UInt8} {i : Nat} {x : Int} (hv : v ≠ []) (h : Fresh buf v i x) : -1 ≤ x ∧ x + v.length ≤ buf.length ∨ x = -1 := by
  rcases h with ⟨h1, _⟩ | ⟨y, h1, _, h3, _⟩
  · exact .inr h1
  · rcases Lib.occAt_room h3 with h | h
    · left; omega
    · exact absurd h hv
theorem fresh_index (buf v : List UInt8) (hv : v ≠ []) : Fresh buf v 0 (index buf v) := by
  rcases index_spec buf v hv with ⟨h1, h2⟩ | ⟨y, h1, h2, h3⟩
  · exact .inl ⟨h1, fun q _ => h2 q⟩
  · exact .inr ⟨y, h1, Nat.zero_le _, h2, fun q _ hq => h3 q hq⟩
theorem fresh_again (buf v : List UInt8) (hv : v ≠ []) (i : Nat) : (0 ≤ index (buf.drop i) v → Fresh buf v i (i + index (buf.drop i) v)) ∧ (¬ 0 ≤ index (buf.drop i) v → Fresh buf v i (-1)) := by
  rcases index_spec (buf.drop i) v hv with ⟨h1, h2⟩ | ⟨y, h1, h2, h3⟩
  · refine ⟨fun h => by rw [h1] at h; omega, fun _ => .inl ⟨rfl, fun q hq => ?_⟩⟩
    have := h2 (q - i)
    rw [occAt_drop, show i + (q - i) = q by omega] at this
    exact this
  · refine ⟨fun _ => .inr ⟨i + y, by rw [h1]; omega, by omega, by rw [occAt_drop] at h2; exact h2, fun q hq hq2 => ?_⟩, fun h => by rw [h1] at h; omega⟩
    have := h3 (q - i) (by omega)
    rw [occAt_drop, show i + (q - i) = q by omega] at this
    exact this
theorem index_bound (s v : List UInt8) (hv : v ≠ []) : -1 ≤ index s v ∧ index s v ≤ s.length := by
  rcases index_spec s v hv with ⟨h1, h2⟩ | ⟨y, h1, h2, h3⟩
  · rw [h1]; omega
  · rcases Lib.occAt_room h2 with h | h
    · rw [h1]; omega
    · exact absurd h hv

/-! ### The credentials: none empty, longest first -/
def Wf (vs : List (List UInt8)) : Prop := (∀ v ∈ vs, v ≠ []) ∧ vs.Pairwise (fun u v => v.length ≤ u.length)

/-- The inner loop, j credentials looked at; f: the one found first from i on, the longest there. -/
def First (xs : List Int) (j : Nat) (f : Int) : Prop :=
  (f = -1 ∧ ∀ t, t < j → xs.getD t 0 < 0) ∨ ∃ g : Nat, f = g ∧ g < j ∧ 0 ≤ xs.getD g 0 ∧ (∀ t, t < j → 0 ≤ xs.getD t 0 → xs.getD g 0 ≤ xs.getD t 0) ∧ ∀ t, t < g → 0 ≤ xs.getD t 0 → xs.getD g 0 < xs.getD t 0
def Inn (vs : List (List UInt8)) (buf : List UInt8) (i : Nat) (xs : List Int) (j : Nat) (f : Int) : Prop :=
  xs.length = vs.length ∧ (∀ t, t < j → Fresh buf (vs.getD t []) i (xs.getD t 0)) ∧ (∀ t, j ≤ t → t < vs.length → Nx buf (vs.getD t []) i (xs.getD t 0)) ∧ First xs j f
/-- At the outer loop's head. -/
def Out (vs : List (List UInt8)) (buf : List UInt8) (i : Nat) (xs : List Int) : Prop := xs.length = vs.length ∧ ∀ t, t < vs.length → Nx buf (vs.getD t []) i (xs.getD t 0)

theorem Out.inn {vs : List (List UInt8)} {buf : List UInt8} {i : Nat} {xs : List Int} (h : Out vs buf i xs) : Inn vs buf i xs 0 (-1) :=
  ⟨h.1, fun _ ht => absurd ht (Nat.not_lt_zero _), fun t _ ht => h.2 t ht, .inl ⟨rfl, fun _ ht => absurd ht (Nat.not_lt_zero _)⟩⟩

theorem getD_set_same (xs : List Int) (j : Nat) (x : Int) (h : j < xs.length) : (xs.set j x).getD j 0 = x := by simp [h]
theorem getD_set_other (xs : List Int) (j t : Nat) (x : Int) (h : t ≠ j) : (xs.set j x).getD t 0 = xs.getD t 0 := by simp [Ne.symm h]

/-- Behind the refreshing of next[j]. -/
theorem Inn.put {vs : List (List UInt8)} {buf : List UInt8} {i : Nat} {xs : List Int} {j : Nat} {f : Int} (h : Inn vs buf i xs j f) (hj : j < vs.length) {x : Int} (hx : Fresh buf (vs.getD j []) i x) :
    (0 ≤ x ∧ (f < 0 ∨ x < xs.getD f.toNat 0) → Inn vs buf i (xs.set j x) (j + 1) j) ∧ (¬ (0 ≤ x ∧ (f < 0 ∨ x < xs.getD f.toNat 0)) → Inn vs buf i (xs.set j x) (j + 1) f) := by
  have hl : (xs.set j x).length = vs.length := by simpa using h.1
  have hjx : j < xs.length := by rw [h.1]; exact hj
  have h1 : ∀ t, t < j + 1 → Fresh buf (vs.getD t []) i ((xs.set j x).getD t 0) := by
    intro t ht
    by_cases e : t = j
    · subst e; rw [getD_set_same xs t x hjx]; exact hx
    · rw [getD_set_other xs j t x e]; exact h.2.1 t (by omega)
  have h2 : ∀ t, j + 1 ≤ t → t < vs.length → Nx buf (vs.getD t []) i ((xs.set j x).getD t 0) := by
    intro t ht ht2
    rw [getD_set_other xs j t x (by omega)]
    exact h.2.2.1 t (by omega) ht2
  refine ⟨fun hc => ⟨hl, h1, h2, .inr ⟨j, rfl, by omega, ?_, ?_, ?_⟩⟩, fun hc => ⟨hl, h1, h2, ?_⟩⟩
  · rw [getD_set_same xs j x hjx]; exact hc.1
  · intro t ht hx0
    rw [getD_set_same xs j x hjx]
    by_cases e : t = j
    · subst e; rw [getD_set_same xs t x hjx]; omega
    · rw [getD_set_other xs j t x e] at hx0 ⊢
      rcases h.2.2.2 with ⟨_, hf⟩ | ⟨g, hg, _, _, hg2, _⟩
      · have := hf t (by omega); omega
      · rcases hc.2 with hc2 | hc2
        · omega
        · rw [hg, Int.toNat_natCast] at hc2
          have := hg2 t (by omega) hx0
          omega
  · intro t ht hx0
    rw [getD_set_same xs j x hjx]
    rw [getD_set_other xs j t x (by omega)] at hx0 ⊢
    rcases h.2.2.2 with ⟨_, hf⟩ | ⟨g, hg, _, _, hg2, _⟩
    · have := hf t (by omega); omega
    · rcases hc.2 with hc2 | hc2
      · omega
      · rw [hg, Int.toNat_natCast] at hc2
        have := hg2 t (by omega) hx0
        omega
  · rcases h.2.2.2 with ⟨hf1, hf⟩ | ⟨g, hg, hgj, hg0, hg2, hg3⟩
    · left
      refine ⟨hf1, fun t ht => ?_⟩
      by_cases e : t = j
      · subst e
        rw [getD_set_same xs t x hjx]
        by_cases h0 : 0 ≤ x
        · exact absurd ⟨h0, .inl (by omega)⟩ hc
        · omega
      · rw [getD_set_other xs j t x e]
        exact hf t (by omega)
    · right
      refine ⟨g, hg, by omega, ?_, ?_, ?_⟩
      · rw [getD_set_other xs j g x (by omega)]; exact hg0
      · intro t ht hx0
        rw [getD_set_other xs j g x (by omega)]
        by_cases e : t = j
        · subst e
          rw [getD_set_same xs t x hjx] at hx0 ⊢
          by_cases h1 : x < xs.getD g 0
          · exact absurd ⟨hx0, .inr (by rw [hg, Int.toNat_natCast]; exact h1)⟩ hc
          · omega
        · rw [getD_set_other xs j t x e] at hx0 ⊢
          exact hg2 t (by omega) hx0
      · intro t ht hx0
        rw [getD_set_other xs j g x (by omega)]
        rw [getD_set_other xs j t x (by omega)] at hx0 ⊢
        exact hg3 t ht hx0

/-- .. where next[j] is fresh as it lies. -/
theorem set_self (xs : List Int) (j : Nat) (h : j < xs.length) : xs.set j (xs.getD j 0) = xs := by
  apply List.ext_getElem
  · simp
  · intro t h1 h2
    by_cases e : j = t
    · subst e; simp [h]
    · simp [e]
theorem Inn.keep {vs : List (List UInt8)} {buf : List UInt8} {i : Nat} {xs : List Int} {j : Nat} {f : Int} (h : Inn vs buf i xs j f) (hj : j < vs.length) (hx : Fresh buf (vs.getD j []) i (xs.getD j 0)) :
    (0 ≤ xs.getD j 0 ∧ (f < 0 ∨ xs.getD j 0 < xs.getD f.toNat 0) → Inn vs buf i xs (j + 1) j) ∧ (¬ (0 ≤ xs.getD j 0 ∧ (f < 0 ∨ xs.getD j 0 < xs.getD f.toNat 0)) → Inn vs buf i xs (j + 1) f) := by
  have := h.put hj hx
  rw [set_self xs j (by rw [h.1]; exact hj)] at this
  exact this

theorem mem_getD {vs : List (List UInt8)} {t : Nat} (h : t < vs.length) : vs.getD t [] ∈ vs := by
  simp only [List.getD_eq_getElem?_getD, List.getElem?_eq_getElem h, Option.getD_some]
  exact List.getElem_mem h
theorem getD_of_mem {vs : List (List UInt8)} {v : List UInt8} (h : v ∈ vs) : ∃ t, t < vs.length ∧ vs.getD t [] = v := by
  obtain ⟨t, ht, he⟩ := List.getElem_of_mem h
  exact ⟨t, ht, by simp [List.getElem?_eq_getElem ht, he]⟩

/-- Nothing found from i on. -/
theorem Inn.nothing {vs : List (List UInt8)} {buf : List UInt8} {i : Nat} {xs : List Int} (h : Inn vs buf i xs vs.length (-1)) : ∀ q, i ≤ q → longest vs buf q = 0 := by
  intro q hq
  refine longest_none fun v hv => ?_
  obtain ⟨t, ht, rfl⟩ := getD_of_mem hv
  rcases h.2.1 t ht with ⟨_, h2⟩ | ⟨y, h1, _⟩
  · exact h2 q hq
  · rcases h.2.2.2 with ⟨_, hf⟩ | ⟨g, hg, _⟩
    · have := hf t ht; omega
    · omega
/-- The first from i on is at x. -/
theorem Inn.before {vs : List (List UInt8)} {buf : List UInt8} {i : Nat} {xs : List Int} {g : Nat} (h : Inn vs buf i xs vs.length g) : ∀ q, i ≤ q → (q : Int) < xs.getD g 0 → longest vs buf q = 0 := by
  intro q hq hx
  refine longest_none fun v hv => ?_
  obtain ⟨t, ht, rfl⟩ := getD_of_mem hv
  rcases h.2.1 t ht with ⟨_, h2⟩ | ⟨y, h1, _, _, h4⟩
  · exact h2 q hq
  · refine h4 q hq ?_
    rcases h.2.2.2 with ⟨hf, _⟩ | ⟨g', hg, _, _, hg2, _⟩
    · omega
    · obtain rfl : g = g' := by omega
      have := hg2 t ht (by omega)
      omega
theorem Inn.found {vs : List (List UInt8)} {buf : List UInt8} {i : Nat} {xs : List Int} {g : Nat} (hw : Wf vs) (h : Inn vs buf i xs vs.length g) :
    g < vs.length ∧ ∃ y : Nat, xs.getD g 0 = y ∧ i ≤ y ∧ y + (vs.getD g []).length ≤ buf.length ∧ longest vs buf y = (vs.getD g []).length ∧ 0 < (vs.getD g []).length := by
  rcases h.2.2.2 with ⟨hf, _⟩ | ⟨g', hg, hgl, hg0, hg2, hg3⟩
  · omega
  obtain rfl : g = g' := by omega
  have hv := hw.1 _ (mem_getD hgl)
  have hv0 : 0 < (vs.getD g []).length := List.length_pos_iff.2 hv
  refine ⟨hgl, ?_⟩
  rcases h.2.1 g hgl with ⟨h1, _⟩ | ⟨y, h1, h2, h3, h4⟩
  · omega
  refine ⟨y, h1, h2, ?_, ?_, hv0⟩
  · rcases Lib.occAt_room h3 with hr | hr
    · exact hr
    · exact absurd hr hv
  · have e : vs = vs.take g ++ vs.getD g [] :: vs.drop (g + 1) := by
      have : vs.getD g [] = vs[g] := by simp [hgl]
      rw [this, ← List.drop_eq_getElem_cons hgl, List.take_append_drop]
    have hp := hw.2
    rw [e, List.pairwise_append] at hp
    have hp2 := hp.2.1
    rw [List.pairwise_cons] at hp2
    have key := longest_split (pre := vs.take g) (post := vs.drop (g + 1)) hv0 h3 ?_ hp2.1
    · rw [← e] at key
      exact key
    · intro u hu
      obtain ⟨t, ht, rfl⟩ := List.getElem_of_mem hu
      have htg : t < g := by simp at ht; omega
      have htl : t < vs.length := by omega
      have hu2 : (vs.take g)[t] = vs.getD t [] := by simp [List.getElem_take, htl]
      rw [hu2]
      rcases h.2.1 t htl with ⟨_, h5⟩ | ⟨z, h5, _, _, h8⟩
      · exact h5 y h2
      · refine h8 y h2 ?_
        have := hg3 t htg (by omega)
        omega

theorem Inn.out {vs : List (List UInt8)} {buf : List UInt8} {i i' : Nat} {xs : List Int} {f : Int} (h : Inn vs buf i xs vs.length f) (hi : i ≤ i') : Out vs buf i' xs :=
  ⟨h.1, fun t ht => (h.2.1 t ht).later hi⟩

end Go.Proofs.Qxb6601367a
