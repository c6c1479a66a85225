/-
  THE GUARDS: zzBytes (9, 15, 18), valuesSize (10), wellFormed (11).
-/
import Derived.Test.Qxb6601367aMem
import Derived.Test.Qxb6601367aNext
namespace Go.Proofs.Qxb6601367a
open Go.RowKit

/-- The first k slices are small. -/
def Small (vs : List Sl) (k : Nat) : Prop := ∀ s ∈ vs.take k, s.l.length ≤ 1048576
theorem Small.zero (vs : List Sl) : Small vs 0 := by intro s hs; simp at hs
theorem Small.succ {vs : List Sl} {k : Nat} (h : Small vs k) {s : Sl} (hk : Hid (vs[k]? = some s)) (hs : (s.l.length : Int) ≤ 1048576) : Small vs (k + 1) := by
  intro t ht
  rw [List.take_add_one, hk.out, List.mem_append] at ht
  rcases ht with ht | ht
  · exact h t ht
  · simp at ht
    subst ht
    omega
theorem Small.all {vs : List Sl} {k : Nat} (h : Small vs k) (hk : vs.length ≤ k) : ∀ s ∈ vs, s.l.length ≤ 1048576 := by
  intro s hs
  exact h s (by rw [List.take_of_length_le hk]; exact hs)
/-- What zzBytes answers: a bool; where it is true, everything is small. -/
def SizeSaid (n0 : Nat) (vs : List Sl) (p : Prop) (e : Ending) : Prop := ∃ b : Bool, e = .returned (.bool b) ∧ (b = true → n0 ≤ 1048576 ∧ (∀ s ∈ vs, s.l.length ≤ 1048576) ∧ p)
theorem SizeSaid.no {n0 : Nat} {vs : List Sl} {p : Prop} : SizeSaid n0 vs p (.returned (.bool false)) := ⟨false, rfl, by simp⟩

set_option maxHeartbeats 800000 in
theorem bytes9_any (a0 : Option Addr) (n0 c0 : Nat) (vs : List Sl) (b0 o0 : Nat) (a1 : Option Addr) (n1 c1 : Nat) (fin : Bool) (w : World) (hr0 : VRow w a0 n0 vs b0 o0) (hm0 : n0 ≤ maxLen) (hm1 : n1 ≤ maxLen) :
    Calls Try.prog 9 #[.slice a0 n0 c0, .slice a1 n1 c1, .bool fin] w fun e w' => SizeSaid n0 vs (n1 ≤ 1048576) e ∧ w' = w := by
  unfold maxLen at *
  go_enter Try.func9, Try.ntmps9
  by_cases hn0 : n0 ≤ 1048576
  · go_wp2
    go_loop [7, 8] (fun t i => ∃ (k : Nat) (x : Int), k ≤ n0 ∧ i = .int .i64 k ∧ t = .int .i64 x ∧ 0 ≤ x ∧ x ≤ 1048576 ∧ Small vs k) (fun _ i => n0 - (intOf i).toNat)
    case atStart => exact ⟨0, _, Nat.zero_le _, rfl, rfl, by omega, by omega, Small.zero _⟩
    case round =>
      obtain ⟨k, x, hk, rfl, rfl, hx0, hx1, hsm⟩ := hrel
      by_cases hlt : k < n0
      · have hi := hr0.idx hlt
        obtain ⟨s, hks, hcell, _, hsl⟩ := hr0.cell hlt
        unfold maxLen at hsl
        go_wp2
        · go_ret
          exact ⟨SizeSaid.no, rfl⟩
        · go_ret
          exact ⟨SizeSaid.no, rfl⟩
        · go_round
          case rel => exact ⟨k + 1, _, by omega, by go_num, rfl, by omega, by omega, hsm.succ hks (by omega)⟩
          case measure => simp [intOf]; omega
      · have hs0 := hsm.all (by rw [hr0.1]; omega)
        have HS0 : Hid (∀ s ∈ vs, s.l.length ≤ 1048576) := hs0
        clear hs0 hsm
        go_wp2
        · go_ret
          exact ⟨SizeSaid.no, rfl⟩
        · go_ret
          exact ⟨SizeSaid.no, rfl⟩
        · go_ret
          exact ⟨⟨true, rfl, fun _ => ⟨hn0, HS0.out, by omega⟩⟩, rfl⟩
  · go_wp2
    go_ret
    exact ⟨SizeSaid.no, rfl⟩

set_option maxHeartbeats 800000 in
theorem bytes18_any (a0 : Option Addr) (n0 c0 : Nat) (vs : List Sl) (b0 o0 : Nat) (a1 : Option Addr) (n1 c1 : Nat) (w : World) (hr0 : VRow w a0 n0 vs b0 o0) (hm0 : n0 ≤ maxLen) (hm1 : n1 ≤ maxLen) :
    Calls Try.prog 18 #[.slice a0 n0 c0, .slice a1 n1 c1] w fun e w' => SizeSaid n0 vs (n1 ≤ 1048576) e ∧ w' = w := by
  unfold maxLen at *
  go_enter Try.func18, Try.ntmps18
  by_cases hn0 : n0 ≤ 1048576
  · go_wp2
    go_loop [5, 6] (fun t i => ∃ (k : Nat) (x : Int), k ≤ n0 ∧ i = .int .i64 k ∧ t = .int .i64 x ∧ 0 ≤ x ∧ x ≤ 1048576 ∧ Small vs k) (fun _ i => n0 - (intOf i).toNat)
    case atStart => exact ⟨0, _, Nat.zero_le _, rfl, rfl, by omega, by omega, Small.zero _⟩
    case round =>
      obtain ⟨k, x, hk, rfl, rfl, hx0, hx1, hsm⟩ := hrel
      by_cases hlt : k < n0
      · have hi := hr0.idx hlt
        obtain ⟨s, hks, hcell, _, hsl⟩ := hr0.cell hlt
        unfold maxLen at hsl
        go_wp2
        · go_ret
          exact ⟨SizeSaid.no, rfl⟩
        · go_ret
          exact ⟨SizeSaid.no, rfl⟩
        · go_round
          case rel => exact ⟨k + 1, _, by omega, by go_num, rfl, by omega, by omega, hsm.succ hks (by omega)⟩
          case measure => simp [intOf]; omega
      · have hs0 := hsm.all (by rw [hr0.1]; omega)
        have HS0 : Hid (∀ s ∈ vs, s.l.length ≤ 1048576) := hs0
        clear hs0 hsm
        go_wp2
        · go_ret
          exact ⟨SizeSaid.no, rfl⟩
        · go_ret
          exact ⟨SizeSaid.no, rfl⟩
        · go_ret
          exact ⟨⟨true, rfl, fun _ => ⟨hn0, HS0.out, by omega⟩⟩, rfl⟩
  · go_wp2
    go_ret
    exact ⟨SizeSaid.no, rfl⟩

set_option maxHeartbeats 800000 in
theorem bytes15_any (a0 : Option Addr) (n0 c0 : Nat) (vs : List Sl) (b0 o0 : Nat) (a1 : Option Addr) (n1 c1 : Nat) (a2 : Option Addr) (n2 c2 : Nat) (w : World) (hr0 : VRow w a0 n0 vs b0 o0) (hm0 : n0 ≤ maxLen) (hm1 : n1 ≤ maxLen) (hm2 : n2 ≤ maxLen) :
    Calls Try.prog 15 #[.slice a0 n0 c0, .slice a1 n1 c1, .slice a2 n2 c2] w fun e w' => SizeSaid n0 vs (n1 + n2 ≤ 1048576) e ∧ w' = w := by
  unfold maxLen at *
  go_enter Try.func15, Try.ntmps15
  by_cases hn0 : n0 ≤ 1048576
  · go_wp2
    go_loop [7, 8] (fun t i => ∃ (k : Nat) (x : Int), k ≤ n0 ∧ i = .int .i64 k ∧ t = .int .i64 x ∧ 0 ≤ x ∧ x ≤ 1048576 ∧ Small vs k) (fun _ i => n0 - (intOf i).toNat)
    case atStart => exact ⟨0, _, Nat.zero_le _, rfl, rfl, by omega, by omega, Small.zero _⟩
    case round =>
      obtain ⟨k, x, hk, rfl, rfl, hx0, hx1, hsm⟩ := hrel
      by_cases hlt : k < n0
      · have hi := hr0.idx hlt
        obtain ⟨s, hks, hcell, _, hsl⟩ := hr0.cell hlt
        unfold maxLen at hsl
        go_wp2
        · go_ret
          exact ⟨SizeSaid.no, rfl⟩
        · go_ret
          exact ⟨SizeSaid.no, rfl⟩
        · go_round
          case rel => exact ⟨k + 1, _, by omega, by go_num, rfl, by omega, by omega, hsm.succ hks (by omega)⟩
          case measure => simp [intOf]; omega
      · have hs0 := hsm.all (by rw [hr0.1]; omega)
        have HS0 : Hid (∀ s ∈ vs, s.l.length ≤ 1048576) := hs0
        clear hs0 hsm
        go_wp2
        · go_ret
          exact ⟨SizeSaid.no, rfl⟩
        · go_ret
          exact ⟨SizeSaid.no, rfl⟩
        · go_ret
          exact ⟨SizeSaid.no, rfl⟩
        · go_ret
          exact ⟨SizeSaid.no, rfl⟩
        · go_ret
          exact ⟨⟨true, rfl, fun _ => ⟨hn0, HS0.out, by omega⟩⟩, rfl⟩
  · go_wp2
    go_ret
    exact ⟨SizeSaid.no, rfl⟩

set_option maxHeartbeats 400000 in
/-- valuesSize: some number that does not wrap. -/
theorem valuesSize_any (a : Option Addr) (n c : Nat) (vs : List Sl) (b o : Nat) (w : World) (hr : VRow w a n vs b o) (hn : n ≤ 1048576) :
    Calls Try.prog 10 #[.slice a n c] w fun e w' => (∃ t : Int, e = .returned (.int .i64 t) ∧ 0 ≤ t ∧ t ≤ 3000000) ∧ w' = w := by
  go_enter Try.func10, Try.ntmps10
  by_cases h24 : 24 * n ≤ 1048576
  · go_wp2
    go_loop [3, 4] (fun t i => ∃ (k : Nat) (x : Int), k ≤ n ∧ i = .int .i64 k ∧ t = .int .i64 x ∧ 0 ≤ x ∧ x ≤ 1048576) (fun _ i => n - (intOf i).toNat)
    case atStart => exact ⟨0, _, Nat.zero_le _, rfl, rfl, by omega, by omega⟩
    case round =>
      obtain ⟨k, x, hk, rfl, rfl, hx0, hx1⟩ := hrel
      by_cases hlt : k < n
      · have hi := hr.idx hlt
        obtain ⟨s, _, hcell, _, hsl⟩ := hr.cell hlt
        unfold maxLen at hsl
        go_wp2
        · go_ret
          exact ⟨⟨_, rfl, by omega, by omega⟩, rfl⟩
        · go_ret
          exact ⟨⟨_, rfl, by omega, by omega⟩, rfl⟩
        · go_round
          case rel => exact ⟨k + 1, _, by omega, by go_num, rfl, by omega, by omega⟩
          case measure => simp [intOf]; omega
      · go_wp2
        go_ret
        exact ⟨⟨_, rfl, by omega, by omega⟩, rfl⟩
  · go_wp2
    go_ret
    exact ⟨⟨_, rfl, by omega, by omega⟩, rfl⟩

/-- The first k credentials are as they should be. -/
def WfTo (vs : List Sl) (k : Nat) : Prop := (∀ (j : Nat) s, j < k → vs[j]? = some s → 0 < s.l.length) ∧ ∀ (j : Nat) s t, j + 1 < k → vs[j]? = some s → vs[j + 1]? = some t → t.l.length ≤ s.l.length
theorem WfTo.zero (vs : List Sl) : WfTo vs 0 := ⟨fun _ _ h => absurd h (Nat.not_lt_zero _), fun _ _ _ h => absurd h (Nat.not_lt_zero _)⟩
theorem WfTo.one {vs : List Sl} {s : Sl} (hs : Hid (vs[0]? = some s)) (h0 : 0 < s.l.length) : WfTo vs 1 := by
  refine ⟨fun j t hj ht => ?_, fun _ _ _ h => by omega⟩
  obtain rfl : j = 0 := by omega
  rw [hs.out] at ht
  cases ht
  exact h0
theorem WfTo.succ {vs : List Sl} {m : Nat} (h : WfTo vs (m + 1)) {s t : Sl} (hs : Hid (vs[m]? = some s)) (ht : Hid (vs[m + 1]? = some t)) (h0 : 0 < t.l.length) (h1 : t.l.length ≤ s.l.length) : WfTo vs (m + 1 + 1) := by
  refine ⟨fun j u hj hu => ?_, fun j u v hj hu hv => ?_⟩
  · by_cases e : j = m + 1
    · subst e
      rw [ht.out] at hu
      cases hu
      exact h0
    · exact h.1 j u (by omega) hu
  · by_cases e : j = m
    · subst e
      rw [hs.out] at hu
      rw [ht.out] at hv
      cases hu
      cases hv
      exact h1
    · exact h.2 j u v (by omega) hu hv
/-- The credentials' bytes. -/
def bs (vs : List Sl) : List (List UInt8) := vs.map (·.l)
theorem WfTo.wf {vs : List Sl} (h : WfTo vs vs.length) : Wf (bs vs) := by
  refine ⟨fun v hv => ?_, ?_⟩
  · obtain ⟨s, hs, rfl⟩ := List.mem_map.1 hv
    obtain ⟨j, hj⟩ := List.getElem?_of_mem hs
    have := h.1 j s (List.getElem?_eq_some_iff.1 hj).1 hj
    exact List.length_pos_iff.1 this
  · rw [bs, List.pairwise_map, List.pairwise_iff_getElem]
    intro i j hi hj hij
    have key : ∀ d, ∀ (hd : i + d < vs.length), (vs[i + d]).l.length ≤ (vs[i]).l.length := by
      intro d
      induction d with
      | zero => intro _; exact Nat.le_refl _
      | succ d ih =>
        intro hd
        have h1 := ih (by omega)
        have h2 := h.2 (i + d) vs[i + d] vs[i + (d + 1)] (by omega) (List.getElem?_eq_getElem (by omega)) (List.getElem?_eq_getElem (by omega))
        omega
    have := key (j - i) (by omega)
    simp only [show i + (j - i) = j by omega] at this
    exact this

/-- What wellFormed answers: a bool; where it is true the credentials are as they should be. -/
def WfSaid (vs : List Sl) (e : Ending) : Prop := ∃ b : Bool, e = .returned (.bool b) ∧ (b = true → Wf (bs vs))
theorem WfSaid.no {vs : List Sl} : WfSaid vs (.returned (.bool false)) := ⟨false, rfl, by simp⟩

set_option maxHeartbeats 800000 in
theorem wellFormed_any (a : Option Addr) (n c : Nat) (vs : List Sl) (b o : Nat) (w : World) (hr : VRow w a n vs b o) (hn : n ≤ 1048576) (hsm : ∀ s ∈ vs, s.l.length ≤ 1048576) :
    Calls Try.prog 11 #[.slice a n c] w fun e w' => WfSaid vs e ∧ Same w w' := by
  have HS : Hid (∀ s ∈ vs, s.l.length ≤ 1048576) := hsm
  clear hsm
  go_enter Try.func11, Try.ntmps11
  go_wp2
  go_loopw [3] (fun i wr => ∃ k : Nat, k ≤ n ∧ i = .int .i64 k ∧ WfTo vs k ∧ Same w wr) (fun i _ => n - (intOf i).toNat)
  case atStart => exact ⟨0, Nat.zero_le _, rfl, WfTo.zero _, Same.refl _⟩
  case round =>
    obtain ⟨k, hk, rfl, hwf, hs⟩ := hrel
    by_cases hlt : k < n
    · have hr' := hr.same hs
      cases k with
      | zero =>
        have hi : ∀ (c : Nat) (wx : World), (Instr.indexAt 22 (.slice a n c) (.int .i64 0)).run Try.prog wx = .ok (.pointer (some ⟨b, o, none⟩)) wx := hr'.idx hlt
        obtain ⟨s, hks, hcell0, _, hsl⟩ := hr'.cell hlt
        have hcell : wr.cell? ⟨b, o, none⟩ = some (.slice s.a s.l.length s.c) := hcell0
        clear hcell0
        have hsb := HS.out s (List.mem_of_getElem? hks.out)
        by_cases h0 : s.l.length = 0
        · have hz : ((s.l.length : Int) == 0) = true := by rw [h0]; rfl
          go_wp2
          go_ret
          exact ⟨WfSaid.no, hs⟩
        · have hz : ((s.l.length : Int) == 0) = false := by rw [beq_eq_false_iff_ne]; omega
          go_wp2
          go_quiet (fail)
          go_wp2
          go_roundw
          case rel => exact ⟨1, by omega, by go_num, WfTo.one hks (by omega), hs.trans (Same.drewN _ _)⟩
          case measure => simp [intOf]; omega
      | succ m =>
        have hi := hr'.idx hlt
        have hi2 := hr'.idx (k := m) (by omega)
        rw [show ((m + 1 : Nat) : Int) = (m : Int) + 1 from by omega] at hi
        obtain ⟨t, hkt, hcell, _, _⟩ := hr'.cell hlt
        obtain ⟨s, hks, hcell2, _, _⟩ := hr'.cell (k := m) (by omega)
        have htb := HS.out t (List.mem_of_getElem? hkt.out)
        have hsb := HS.out s (List.mem_of_getElem? hks.out)
        by_cases h0 : t.l.length = 0
        · have hz : ((t.l.length : Int) == 0) = true := by rw [h0]; rfl
          go_wp2
          go_ret
          exact ⟨WfSaid.no, hs⟩
        · have hz : ((t.l.length : Int) == 0) = false := by rw [beq_eq_false_iff_ne]; omega
          by_cases hg : s.l.length < t.l.length
          · go_wp2
            go_quiet (fail)
            go_wp2
            go_ret
            exact ⟨WfSaid.no, hs.trans (Same.drewN _ _)⟩
          · go_wp2
            go_quiet (fail)
            go_wp2
            go_roundw
            case rel => exact ⟨m + 1 + 1, by omega, by go_num, hwf.succ hks hkt (by omega) (by omega), hs.trans (Same.drewN _ _)⟩
            case measure => simp [intOf]; omega
    · go_wp2
      go_ret
      have e : k = vs.length := by have := hr.1; omega
      rw [e] at hwf
      exact ⟨⟨true, rfl, fun _ => hwf.wf⟩, hs⟩

end Go.Proofs.Qxb6601367a
