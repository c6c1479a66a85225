/-
  THE PROOF OF 'Rows.FnReadLocalPartReadsBuiltPathSaid': the guide's frame (proof-skeleton.mjs) turned to slices of strings; the walk out of the contracts.
-/
import Derived.Test.Qxb6000014aRows
import Derived.Test.Qxb6000014aLaw5
import Derived.SliceStrings
import Derived.WalkKit
import Derived.ProofKit
import Derived.OpenShut
import Derived.ShutString
import Derived.ChangeOld
import Derived.Below
namespace Go.Proofs.Qxb6000014a.fnReadLocalPartReadsBuiltPath
open Go.ChangeShapes Go.WideShapes Go.ChangeAt Go.RowKit
open Go.ChangeMaps (open_string shut_string)
set_option linter.unusedVariables false

theorem own : ownKnob Try.prog.godebug = none := by kernel_rfl
theorem laidOut : laidOutB Try.prog = true := by kernel_rfl

theorem strRow_of {W : World} {x : Addr} {len cap : Nat} {ss : List ByteArray} (hl : len ≤ cap) (hm : cap ≤ maxLen) (hz : ss.length = cap) (hcell : ∀ i, i < ss.length → W.cell? (x.add i) = some (.string (ss.getD i ByteArray.empty))) :
    ∃ (ts : List ByteArray) (b o : Nat), StrRow W (some x) len ts b o ∧ len ≤ maxLen := by
  by_cases h0 : len = 0
  · subst h0
    exact ⟨[], 0, 0, ⟨rfl, by simp, by simp⟩, by simp⟩
  · obtain ⟨b, off, spot⟩ := x
    have hspot : spot = none := by simpa [Addr.add] using World.cell?_spot (hcell 0 (by omega))
    subst hspot
    refine ⟨ss.take len, b, off, ⟨by simp; omega, fun _ => rfl, fun j hj => ?_⟩, by omega⟩
    have h := hcell j (by omega)
    rw [add_plain] at h
    rw [h]
    simp [hj]

/-! ### THE ROW's STEP: WRITTEN OUT: LEAVE IT -/
set_option maxRecDepth 100000 in
theorem lifted (os : Os) (started : os.Started) (H : Type) (enc : TypeId × Value → H) :
    ReturnsInHanded {} Try.checked os 5 .any (Rows.fnReadLocalPartReadsBuiltPathSpec.pre6 enc Try.prog Try.f5 Rows.fnReadLocalPartReadsBuiltPathRow.domain false) (Rows.fnReadLocalPartReadsBuiltPathSpec.post enc Try.prog Try.f5 false true false false) := by
  refine returnsInHanded_of_change (C := Try.checked) own started (by kernel_rfl) Try.func5
    (ChangeSpec.witness6 (enc := enc) (C := Try.checked) false ⟨#[], #[.slice none 0 0, .string ByteArray.empty, .slice none 0 0, .bool false], []⟩ 8 (by kernel_rfl) (by kernel_rfl) (by kernel_rfl) (by kernel_rfl)) ?_
  intro W base args ds gs before hval0 hW hcnd _
  have hval : ∀ (j : Nat) t v, Try.f5.params[j]? = some t → args[j]? = some v → Value.okWide Try.prog W .any base t v := hval0
  have hW' := hW
  obtain ⟨p, q, hA0, hV, rfl, hfz, hnd⟩ := hW
  have hA : DataW.TrodAll enc Try.prog W 0 (fun _ => true) true Try.f5.params.toList args.toList ds p := hA0
  rw [Try.params5] at hA hval
  obtain ⟨v0, vs0, d0, ds0, p0, q0, hargs, rfl, rfl, h0, r0⟩ := trodAll_cons hA
  obtain ⟨v1, vs1, d1, ds1, p1, q1, rfl, rfl, rfl, h1, r1⟩ := trodAll_cons r0
  obtain ⟨v2, vs2, d2, ds2, p2, q2, rfl, rfl, rfl, h2, r2⟩ := trodAll_cons r1
  obtain ⟨v3, vs3, d3, ds3, p3, q3, rfl, rfl, rfl, h3, r3⟩ := trodAll_cons r2
  obtain ⟨rfl, rfl, rfl⟩ := trodAll_nil r3
  obtain rfl : args = #[v0, v1, v2, v3] := by cases args; simp_all
  obtain ⟨rfl, rfl⟩ := trodVars_none hV
  obtain ⟨a0, len0, cap0, rfl⟩ := okWide_slice Try.underlying29 (hval 0 29 v0 rfl rfl)
  have k0 := h0
  have lt0 : ∀ x ∈ p0, x.block < W.heap.size := by obtain ⟨m, hm⟩ := k0; exact DataW.trod_lt m _ _ _ hm
  obtain ⟨s0, b0, o0, w0, m0⟩ : ∃ (ss : List ByteArray) (b o : Nat), StrRow W a0 len0 ss b o ∧ len0 ≤ maxLen := by
    obtain ⟨fuel, hf⟩ := h0
    rcases open_strings Try.underlying29 Try.underlying9 (by kernel_rfl) hf with ⟨hcs, _⟩ | ⟨x, l, c, ss, hcs, _, hl, hm, hz, _, hcell, hws⟩
    · simp [Value.cells] at hcs
      obtain ⟨rfl, rfl, rfl⟩ := hcs
      exact ⟨[], 0, 0, ⟨rfl, by simp, by simp⟩, by simp⟩
    · simp [Value.cells] at hcs
      obtain ⟨rfl, rfl, rfl⟩ := hcs
      exact strRow_of hl hm (by simpa using hz) hcell
  obtain ⟨a1, rfl, rfl, rfl, w1⟩ := open_string Try.underlying9 (hval 1 9 v1 rfl rfl) h1
  obtain ⟨a2, len2, cap2, rfl⟩ := okWide_slice Try.underlying29 (hval 2 29 v2 rfl rfl)
  have k2 := h2
  have lt2 : ∀ x ∈ p2, x.block < W.heap.size := by obtain ⟨m, hm⟩ := k2; exact DataW.trod_lt m _ _ _ hm
  obtain ⟨s2, b2, o2, w2, m2⟩ : ∃ (ss : List ByteArray) (b o : Nat), StrRow W a2 len2 ss b o ∧ len2 ≤ maxLen := by
    obtain ⟨fuel, hf⟩ := h2
    rcases open_strings Try.underlying29 Try.underlying9 (by kernel_rfl) hf with ⟨hcs, _⟩ | ⟨x, l, c, ss, hcs, _, hl, hm, hz, _, hcell, hws⟩
    · simp [Value.cells] at hcs
      obtain ⟨rfl, rfl, rfl⟩ := hcs
      exact ⟨[], 0, 0, ⟨rfl, by simp, by simp⟩, by simp⟩
    · simp [Value.cells] at hcs
      obtain ⟨rfl, rfl, rfl⟩ := hcs
      exact strRow_of hl hm (by simpa using hz) hcell
  obtain ⟨a3, rfl, rfl, rfl⟩ := open_bool Try.underlying4 (hval 3 4 v3 rfl rfl) h3
  clear hA0 hval0
  refine (law5 a0 len0 cap0 s0 b0 o0 a1 a2 len2 cap2 s2 b2 o2 a3 W w0 w2 m0 m2 w1).mono fun e W' ⟨he, bel⟩ => ?_
  subst he
  exact ⟨_, rfl, _, _, _, [], _, [], hW', trodAll_mk1 (shut_bool Try.underlying4 _), (trodAll_cons_mk (Below.trod laidOut (by kernel_rfl) (of_decide_eq_true (by kernel_rfl)) k0 bel lt0) (trodAll_cons_mk (shut_string Try.underlying9 w1) (trodAll_cons_mk (Below.trod laidOut (by kernel_rfl) (of_decide_eq_true (by kernel_rfl)) k2 bel lt2) (trodAll_cons_mk (shut_bool Try.underlying4 _) trodAll_mk0)))), rfl, bel.frame _, fun h => by cases h⟩

theorem over : Rows.fnReadLocalPartReadsBuiltPathRow.holds Try.pinned (OpenSpec.ofChange Rows.fnReadLocalPartReadsBuiltPathSpec) :=
  OpenClaim.holds_of_wide 5 Try.f5 rfl rfl rfl rfl rfl rfl rfl ⟨rfl, rfl, rfl, rfl, rfl⟩ rfl rfl rfl rfl rfl (by kernel_rfl) Try.func5 (by kernel_rfl)
    (of_decide_eq_true (by kernel_rfl)) (by unfold Func.isWrapper; first | (rw [if_pos (by decide +kernel)]; kernel_rfl) | (rw [if_neg (by decide +kernel)]; exact ⟨rfl, rfl⟩))
    (fun os started H enc _ => lifted os started H enc)

/-- ████ THE STATEMENT ████ -/
theorem proved : Rows.FnReadLocalPartReadsBuiltPathSaid := over
end Go.Proofs.Qxb6000014a.fnReadLocalPartReadsBuiltPath
