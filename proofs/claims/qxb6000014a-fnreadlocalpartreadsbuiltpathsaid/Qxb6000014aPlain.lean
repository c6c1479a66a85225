/-
  THE PLAIN HALF of FnUnquoteWordsMatchesScanner: the three-state scanner; what lies between two quotes; the quoted pairs undone. No Go in sight.
-/
import Derived.Lib.IndexLaws
namespace Go.Proofs.Qxb6000014a

/-- The scanner from a state on: what it writes, and the state in which it ends. -/
def scan : Nat → List UInt8 → List UInt8 × Nat
  | st, [] => ([], st)
  | 0, c :: l => if c = 34 then scan 1 l else (c :: (scan 0 l).1, (scan 0 l).2)
  | 1, c :: l => if c = 92 then scan 2 l else if c = 34 then scan 0 l else (c :: (scan 1 l).1, (scan 1 l).2)
  | _ + 2, c :: l => (c :: (scan 1 l).1, (scan 1 l).2)

/-- Where the quoted string closes, counted from behind its opening quote. -/
def clo : List UInt8 → Option Nat
  | [] => none
  | [c] => if c = 34 then some 0 else none
  | c :: d :: l => if c = 92 then (clo l).map (· + 2) else if c = 34 then some 0 else (clo (d :: l)).map (· + 1)

/-- The quoted pairs undone. -/
def unq : List UInt8 → List UInt8
  | [] => []
  | [c] => [c]
  | c :: d :: l => if c = 92 then d :: unq l else c :: unq (d :: l)

/-- No backslash stands last. -/
def okq : List UInt8 → Bool
  | [] => true
  | [c] => decide (c ≠ 92)
  | c :: d :: l => if c = 92 then okq l else okq (d :: l)

theorem unq_plain : ∀ (l : List UInt8), 92 ∉ l → unq l = l
  | [], _ => rfl
  | [_], _ => rfl
  | c :: d :: l, h => by
    have h1 : c ≠ 92 := fun e => h (by simp [e])
    rw [unq, if_neg h1, unq_plain (d :: l) (fun hm => h (by simp [List.mem_cons.1 hm]))]

theorem clo_spec : ∀ (l : List UInt8), match clo l with
    | some k => k < l.length ∧ okq (l.take k) = true ∧ scan 1 l = (unq (l.take k) ++ (scan 0 (l.drop (k + 1))).1, (scan 0 (l.drop (k + 1))).2)
    | none => (scan 1 l).2 ≠ 0
  | [] => by simp [clo, scan]
  | [c] => by
    by_cases h : c = 34
    · subst h
      simp [clo, scan, okq, unq]
    · by_cases h2 : c = 92
      · subst h2; simp [clo, scan]
      · simp [clo, scan, h, h2]
  | c :: d :: l => by
    by_cases h : c = 92
    · subst h
      have ih := clo_spec l
      rw [clo, if_pos rfl]
      cases hc : clo l with
      | none =>
        rw [hc] at ih
        simpa [scan] using ih
      | some k =>
        rw [hc] at ih
        obtain ⟨h1, h2, h3⟩ := ih
        simp only [Option.map_some]
        refine ⟨by simp; omega, by simpa [okq] using h2, ?_⟩
        have e : scan 1 (92 :: d :: l) = (d :: (scan 1 l).1, (scan 1 l).2) := by simp [scan]
        rw [e, h3]
        simp [unq]
    · by_cases h2 : c = 34
      · subst h2
        simp [clo, scan, okq, unq]
      · have ih := clo_spec (d :: l)
        rw [clo, if_neg h, if_neg h2]
        cases hc : clo (d :: l) with
        | none =>
          rw [hc] at ih
          simpa [scan, h, h2] using ih
        | some k =>
          rw [hc] at ih
          obtain ⟨h1, h3, h4⟩ := ih
          simp only [Option.map_some]
          have e : scan 1 (c :: d :: l) = (c :: (scan 1 (d :: l)).1, (scan 1 (d :: l)).2) := by rw [scan, if_neg h, if_neg h2]
          refine ⟨by simp at h1 ⊢; omega, ?_, ?_⟩
          · cases k with
            | zero => simp [okq, h]
            | succ k =>
              rw [List.take_succ_cons] at h3 ⊢
              rw [List.take_succ_cons, okq, if_neg h]
              exact h3
          · rw [e, h4]
            cases k with
            | zero => simp [unq]
            | succ k => simp [unq, h]

/-- The scanner ends outside, from outside: a quote that is met closes. -/
theorem closed_at {l : List UInt8} (h : (scan 1 l).2 = 0) : ∃ k, clo l = some k ∧ k < l.length ∧ okq (l.take k) = true ∧ (scan 1 l).1 = unq (l.take k) ++ (scan 0 (l.drop (k + 1))).1 ∧ (scan 0 (l.drop (k + 1))).2 = 0 := by
  have hs := clo_spec l
  cases hc : clo l with
  | none => rw [hc] at hs; exact absurd h hs
  | some k =>
    rw [hc] at hs
    obtain ⟨h1, h2, h3⟩ := hs
    rw [h3] at h ⊢
    exact ⟨k, rfl, h1, h2, rfl, h⟩

theorem scan_plain : ∀ (l : List UInt8), 34 ∉ l → scan 0 l = (l, 0)
  | [], _ => rfl
  | c :: l, h => by
    have h1 : c ≠ 34 := fun e => h (by simp [e])
    rw [scan, if_neg h1, scan_plain l (fun hm => h (by simp [hm]))]

/-- One step of closing, one byte or a pair. -/
theorem clo_pair (d : UInt8) (l : List UInt8) : clo (92 :: d :: l) = (clo l).map (· + 2) := by rw [clo, if_pos rfl]
theorem clo_last : clo [92] = none := rfl
theorem clo_hit (l : List UInt8) : clo (34 :: l) = some 0 := by cases l <;> simp [clo]
theorem clo_step {c : UInt8} (l : List UInt8) (h1 : c ≠ 92) (h2 : c ≠ 34) : clo (c :: l) = (clo l).map (· + 1) := by
  cases l with
  | nil => simp [clo, h2]
  | cons d l => rw [clo, if_neg h1, if_neg h2]
theorem okq_pair (d : UInt8) (l : List UInt8) : okq (92 :: d :: l) = okq l := by rw [okq, if_pos rfl]
theorem okq_last : okq [92] = false := rfl
theorem okq_step {c : UInt8} (l : List UInt8) (h : c ≠ 92) : okq (c :: l) = okq l := by
  cases l with
  | nil => simp [okq, h]
  | cons d l => rw [okq, if_neg h]
theorem unq_pair (d : UInt8) (l : List UInt8) : unq (92 :: d :: l) = d :: unq l := by rw [unq, if_pos rfl]
theorem unq_step {c : UInt8} (l : List UInt8) (h : c ≠ 92) : unq (c :: l) = c :: unq l := by
  cases l with
  | nil => rfl
  | cons d l => rw [unq, if_neg h]
theorem unq_length : ∀ (l : List UInt8), (unq l).length ≤ l.length
  | [] => Nat.le_refl _
  | [_] => Nat.le_refl _
  | c :: d :: l => by
    have h1 := unq_length l
    have h2 := unq_length (d :: l)
    rw [unq]
    split
    · simp; omega
    · simp at h2 ⊢; omega
theorem scan_length : ∀ (l : List UInt8) (st : Nat), (scan st l).1.length ≤ l.length
  | [], st => by cases st with
    | zero => simp [scan]
    | succ n => cases n <;> simp [scan]
  | c :: l, 0 => by
    have h0 := scan_length l 0
    have h1 := scan_length l 1
    rw [scan]
    split
    · simp; omega
    · simp; omega
  | c :: l, 1 => by
    have h0 := scan_length l 0
    have h1 := scan_length l 1
    have h2 := scan_length l 2
    rw [scan]
    split
    · simp; omega
    · split
      · simp; omega
      · simp; omega
  | c :: l, n + 2 => by
    have h1 := scan_length l 1
    rw [scan]
    simp
    omega

end Go.Proofs.Qxb6000014a
