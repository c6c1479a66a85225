/-
  cut (29) at every list of credentials; ZZRedactorCut (12), redact (31), ZZRedactorRedact (17).
-/
import Derived.Test.Qxb6601367aCut
namespace Go.Proofs.Qxb6601367a
open Go.RowKit

/-- A slice as a result, its length by a name of its own. -/
theorem SlAt.opened {w : World} {v : Value} {l : List UInt8} (h : SlAt w v l) : ∃ (a : Option Addr) (n c b o : Nat), v = .slice a n c ∧ BRow w a n l b o ∧ n ≤ c ∧ (a = none → n = 0 ∧ c = 0) := by
  obtain ⟨a, c, b, o, h1, h2, h3, h4⟩ := h
  exact ⟨a, l.length, c, b, o, h1, h2, h3, h4⟩
theorem SlAt.mk {w : World} {a : Option Addr} {n c b o : Nat} {l : List UInt8} (h : BRow w a n l b o) (hc : n ≤ c) (hn : a = none → n = 0 ∧ c = 0) : SlAt w (.slice a n c) l := by
  have e := h.1
  subst e
  exact ⟨a, c, b, o, rfl, h, hc, hn⟩

theorem scan_empty (buf : List UInt8) (fin : Bool) : S [] buf (endOf [] buf fin) 0 = (buf, buf.length, 0) := by
  have hE : endOf [] buf fin = buf.length := by cases fin <;> simp [endOf, maxl]
  rw [hE]
  have h := (Tot.zero [] buf buf.length).skip (Nat.le_refl _) buf.length (by omega) (fun q _ _ => rfl)
  simp only [Nat.zero_add, List.drop_zero, List.take_length, List.nil_append] at h
  exact h.done (Nat.le_refl _)

set_option maxHeartbeats 400000 in
set_option maxRecDepth 100000 in
theorem cut_none (a0 : Option Addr) (c0 : Nat) (a1 : Option Addr) (n1 c1 : Nat) (buf : List UInt8) (b1 o1 : Nat) (fin : Bool) (w : World)
    (hr1 : BRow w a1 n1 buf b1 o1) (hcap : n1 ≤ c1) (hnil : a1 = none → n1 = 0 ∧ c1 = 0) :
    Calls Try.prog 29 #[.agg #[.slice a0 0 c0], .slice a1 n1 c1, .bool fin] w fun e w' => CutSaid w (buf, buf.length, 0) buf e w' := by
  have HLB : Hid (buf.length = n1) := hr1.1
  go_enter Try.func29, Try.ntmps29
  go_wp2
  go_ret3
  have hb : Below w.heap.size w (w.alloc (.cells #[.slice a0 0 c0] 46)) := (Below.refl _ _).alloc (Nat.le_refl _) _
  have hl := HLB.out
  refine ⟨_, _, rfl, ⟨a1, c1, b1, o1, by rw [hl]; rfl, by rw [hl]; exact hr1.below hb (Nat.le_refl _), by rw [hl]; exact hcap, by rw [hl]; exact hnil⟩, ⟨none, 0, 0, 0, by simp, ⟨by simp, by simp, by simp⟩, by simp, by simp⟩, hb⟩

theorem cut_any (a0 : Option Addr) (n0 c0 : Nat) (vs : List Sl) (b0 o0 : Nat) (a1 : Option Addr) (n1 c1 : Nat) (buf : List UInt8) (b1 o1 : Nat) (fin : Bool) (m : Int) (w : World)
    (hr0 : VRow w a0 n0 vs b0 o0) (hr1 : BRow w a1 n1 buf b1 o1) (hn0 : n0 ≤ 1048576) (hn1 : n1 ≤ 1048576) (hsm : ∀ s ∈ vs, s.l.length ≤ 1048576) (hwf : Wf (bs vs)) (hcap : n1 ≤ c1) (hnil : a1 = none → n1 = 0 ∧ c1 = 0)
    (hmx : w.cell? ⟨0, 0, none⟩ = some (.int .i64 m)) :
    Calls Try.prog 29 #[.agg #[.slice a0 n0 c0], .slice a1 n1 c1, .bool fin] w fun e w' => CutSaid w (S (bs vs) buf (endOf (bs vs) buf fin) 0) buf e w' := by
  by_cases h0 : n0 = 0
  · subst h0
    have hv : vs = [] := List.length_eq_zero_iff.1 hr0.1
    subst hv
    have e : S (bs []) buf (endOf (bs []) buf fin) 0 = (buf, buf.length, 0) := scan_empty buf fin
    rw [e]
    exact cut_none a0 c0 a1 n1 c1 buf b1 o1 fin w hr1 hcap hnil
  · exact cut_some a0 n0 c0 vs b0 o0 a1 n1 c1 buf b1 o1 fin m w hr0 hr1 (by omega) hn0 hn1 hsm hwf hcap hnil hmx

set_option maxHeartbeats 400000 in
set_option maxRecDepth 100000 in
theorem zcut_any (a0 : Option Addr) (n0 c0 : Nat) (vs : List Sl) (b0 o0 : Nat) (a1 : Option Addr) (n1 c1 : Nat) (buf : List UInt8) (b1 o1 : Nat) (fin : Bool) (m : Int) (w : World)
    (hr0 : VRow w a0 n0 vs b0 o0) (hr1 : BRow w a1 n1 buf b1 o1) (hn0 : n0 ≤ 1048576) (hn1 : n1 ≤ 1048576) (hsm : ∀ s ∈ vs, s.l.length ≤ 1048576) (hwf : Wf (bs vs)) (hcap : n1 ≤ c1) (hnil : a1 = none → n1 = 0 ∧ c1 = 0)
    (hmx : w.cell? ⟨0, 0, none⟩ = some (.int .i64 m)) :
    Calls Try.prog 12 #[.slice a0 n0 c0, .slice a1 n1 c1, .bool fin] w fun e w' => CutSaid w (S (bs vs) buf (endOf (bs vs) buf fin) 0) buf e w' := by
  have C := cut_any a0 n0 c0 vs b0 o0 a1 n1 c1 buf b1 o1 fin m w hr0 hr1 hn0 hn1 hsm hwf hcap hnil hmx
  have HC : Hid (Calls Try.prog 29 #[.agg #[.slice a0 n0 c0], .slice a1 n1 c1, .bool fin] w fun e w' => CutSaid w (S (bs vs) buf (endOf (bs vs) buf fin) 0) buf e w') := C
  clear C hsm hwf hmx
  go_enter Try.func12, Try.ntmps12
  go_wp2_with fail
  refine HC.out.mono ?_
  rintro e w1 ⟨v0, v1, rfl, h0, h1, hb⟩
  obtain ⟨x0, k0, y0, p0, q0, rfl, h0, g0, e0⟩ := h0.opened
  obtain ⟨x1, k1, y1, p1, q1, rfl, h1, g1, e1⟩ := h1.opened
  go_wp2_with fail
  go_ret3
  exact ⟨_, _, rfl, SlAt.mk h0 g0 e0, SlAt.mk h1 g1 e1, hb⟩

/-- What redact leaves. -/
def RedactSaid (w : World) (l : List UInt8) (e : Ending) (w' : World) : Prop := ∃ v, e = .returned v ∧ SlAt w' v l ∧ Below w.heap.size w w'

set_option maxHeartbeats 400000 in
set_option maxRecDepth 100000 in
theorem redact_any (a0 : Option Addr) (n0 c0 : Nat) (vs : List Sl) (b0 o0 : Nat) (a1 : Option Addr) (n1 c1 : Nat) (buf : List UInt8) (b1 o1 : Nat) (m : Int) (w : World)
    (hr0 : VRow w a0 n0 vs b0 o0) (hr1 : BRow w a1 n1 buf b1 o1) (hn0 : n0 ≤ 1048576) (hn1 : n1 ≤ 1048576) (hsm : ∀ s ∈ vs, s.l.length ≤ 1048576) (hwf : Wf (bs vs)) (hcap : n1 ≤ c1) (hnil : a1 = none → n1 = 0 ∧ c1 = 0)
    (hmx : w.cell? ⟨0, 0, none⟩ = some (.int .i64 m)) :
    Calls Try.prog 31 #[.agg #[.slice a0 n0 c0], .slice a1 n1 c1] w fun e w' => RedactSaid w (S (bs vs) buf buf.length 0).1 e w' := by
  have hb0 : Below w.heap.size w (w.alloc (.cells #[.slice a0 n0 c0] 46)) := (Below.refl _ _).alloc (Nat.le_refl _) _
  have C := cut_any a0 n0 c0 vs b0 o0 a1 n1 c1 buf b1 o1 true m (w.alloc (.cells #[.slice a0 n0 c0] 46)) (hr0.below hb0 (Nat.le_refl _)) (hr1.below hb0 (Nat.le_refl _)) hn0 hn1 hsm hwf hcap hnil (by rw [hb0.cell (p := ⟨0, 0, none⟩) (World.block_lt_of_cell? _ _ hmx)]; exact hmx)
  have HC : Hid (Calls Try.prog 29 #[.agg #[.slice a0 n0 c0], .slice a1 n1 c1, .bool true] (w.alloc (.cells #[.slice a0 n0 c0] 46)) fun e w' => CutSaid (w.alloc (.cells #[.slice a0 n0 c0] 46)) (S (bs vs) buf (endOf (bs vs) buf true) 0) buf e w') := C
  clear C hsm hwf hmx
  go_enter Try.func31, Try.ntmps31
  go_wp2_with fail
  refine HC.out.mono ?_
  rintro e w1 ⟨v0, v1, rfl, h0, h1, hb⟩
  obtain ⟨x0, k0, y0, p0, q0, rfl, h0, g0, e0⟩ := h0.opened
  obtain ⟨x1, k1, y1, p1, q1, rfl, _, _, _⟩ := h1.opened
  go_wp2_with fail
  go_ret
  refine ⟨_, rfl, SlAt.mk h0 g0 e0, hb0.trans (hb.mono ?_)⟩
  simp

set_option maxHeartbeats 400000 in
set_option maxRecDepth 100000 in
theorem zredact_any (a0 : Option Addr) (n0 c0 : Nat) (vs : List Sl) (b0 o0 : Nat) (a1 : Option Addr) (n1 c1 : Nat) (buf : List UInt8) (b1 o1 : Nat) (m : Int) (w : World)
    (hr0 : VRow w a0 n0 vs b0 o0) (hr1 : BRow w a1 n1 buf b1 o1) (hn0 : n0 ≤ 1048576) (hn1 : n1 ≤ 1048576) (hsm : ∀ s ∈ vs, s.l.length ≤ 1048576) (hwf : Wf (bs vs)) (hcap : n1 ≤ c1) (hnil : a1 = none → n1 = 0 ∧ c1 = 0)
    (hmx : w.cell? ⟨0, 0, none⟩ = some (.int .i64 m)) :
    Calls Try.prog 17 #[.slice a0 n0 c0, .slice a1 n1 c1] w fun e w' => RedactSaid w (S (bs vs) buf buf.length 0).1 e w' := by
  have C := redact_any a0 n0 c0 vs b0 o0 a1 n1 c1 buf b1 o1 m w hr0 hr1 hn0 hn1 hsm hwf hcap hnil hmx
  have HC : Hid (Calls Try.prog 31 #[.agg #[.slice a0 n0 c0], .slice a1 n1 c1] w fun e w' => RedactSaid w (S (bs vs) buf buf.length 0).1 e w') := C
  clear C hsm hwf hmx
  go_enter Try.func17, Try.ntmps17
  go_wp2_with fail
  refine HC.out.mono ?_
  rintro e w1 ⟨v0, rfl, h0, hb⟩
  obtain ⟨x0, k0, y0, p0, q0, rfl, h0, g0, e0⟩ := h0.opened
  go_wp2_with fail
  go_ret
  exact ⟨_, rfl, SlAt.mk h0 g0 e0, hb⟩

end Go.Proofs.Qxb6601367a
