/-
  FROM THE READING OF AN ARGUMENT TO WHAT THE WALKS ARE TOLD: []byte, [][]byte.
-/
import Derived.Test.Qxb6601367aLawCut
import Derived.ProofKit
import Derived.Deep.Slices
import Derived.OpenShut
namespace Go.Proofs.Qxb6601367a
open Go.ChangeShapes Go.WideShapes Go.RowKit

theorem byte_wf {n : Int} (h : (Lit.int .u8 n).wf = true) : 0 ≤ n ∧ n < 256 := by
  have := bounds_u8 h
  omega

theorem openB {H : Type} {enc : TypeId × Value → H} {W : World} {base : Nat} {sp : Nat → Bool} {held : Bool} {fuel : Nat} {v : Value} {x : DataW H × List MemPlace}
    (h : DataW.trod enc Try.prog W base sp held fuel 23 [v] = some x) : ∃ (a : Option Addr) (n c : Nat) (l : List UInt8) (b o : Nat), v = .slice a n c ∧ ArgB W a n c l b o := by
  rcases open_ints Try.underlying23 Try.underlying5 (by kernel_rfl) h with ⟨hcs, _⟩ | ⟨ad, len, cap, zs, hcs, _, hl, hm, hz, _, hcell, hwz⟩
  · refine ⟨none, 0, 0, [], 0, 0, by simpa using hcs, ⟨rfl, by simp, by simp⟩, Nat.le_refl _, fun _ => ⟨rfl, rfl⟩, by simp⟩
  · have hv : v = .slice (some ad) len cap := by simpa using hcs
    have hzl : len ≤ zs.length := by rw [hz]; split <;> omega
    have hln : (((zs.take len).map fun n => UInt8.ofNat n.toNat) : List UInt8).length = len := by simp; omega
    by_cases h0 : len = 0
    · subst h0
      refine ⟨some ad, 0, cap, [], 0, 0, hv, ⟨rfl, by simp, by simp⟩, hl, fun h => (by cases h), hm⟩
    · obtain ⟨b, off, spot⟩ := ad
      have hspot : spot = none := by simpa [Addr.add] using World.cell?_spot (hcell 0 (by omega))
      subst hspot
      refine ⟨_, len, cap, (zs.take len).map fun n => UInt8.ofNat n.toNat, b, off, hv, ⟨hln, fun _ => rfl, fun j hj => ?_⟩, hl, fun h => (by cases h), hm⟩
      have hc := hcell j (by omega)
      have hjz : j < zs.length := by omega
      rw [show (⟨b, off, none⟩ : Addr).add j = ⟨b, off + j, none⟩ from by simp [Addr.add]] at hc
      rw [hc]
      have hwj := byte_wf (hwz zs[j] (List.getElem_mem hjz))
      have e : zs.getD j 0 = zs[j] := by simp [hjz]
      rw [e]
      simp [hj, hjz]
      omega

theorem openV {H : Type} {enc : TypeId × Value → H} {W : World} {base : Nat} {sp : Nat → Bool} {held : Bool} {fuel : Nat} {a : Option Addr} {len cap : Nat} {x : DataW H × List MemPlace}
    (h : DataW.trod enc Try.prog W base sp held fuel 22 [.slice a len cap] = some x) : ∃ (vs : List Sl) (b o : Nat), VRow W a len vs b o ∧ len ≤ maxLen := by
  rcases Deep.open_slice1 Try.underlying22 (by kernel_rfl) h with ⟨hcs, _⟩ | ⟨ad, len', cap', m, n, V, D, Pl, hcs, _, hl, hm, hmm, _, hV⟩
  · simp at hcs
    obtain ⟨rfl, rfl, rfl⟩ := hcs
    exact ⟨[], 0, 0, ⟨rfl, by simp, by simp⟩, by simp⟩
  · simp at hcs
    obtain ⟨rfl, rfl, rfl⟩ := hcs
    have hlm : len ≤ m := by rw [hmm]; split <;> omega
    by_cases h0 : len = 0
    · subst h0
      exact ⟨[], 0, 0, ⟨rfl, by simp, by simp⟩, by simp⟩
    · obtain ⟨b, off, spot⟩ := ad
      have hspot : spot = none := by simpa [Addr.add] using World.cell?_spot (hV 0 (by omega)).1
      subst hspot
      have key : ∀ k, k ≤ len → ∃ vs : List Sl, vs.length = k ∧ ∀ (j : Nat) s, vs[j]? = some s → W.cell? ⟨b, off + j, none⟩ = some (.slice s.a s.l.length s.c) ∧ BRow W s.a s.l.length s.l s.b s.o ∧ s.l.length ≤ maxLen := by
        intro k
        induction k with
        | zero => intro _; exact ⟨[], rfl, by simp⟩
        | succ k ih =>
          intro hk
          obtain ⟨vs, hvl, hvs⟩ := ih (by omega)
          obtain ⟨hc, ht⟩ := hV k (by omega)
          obtain ⟨ak, nk, ck, lk, bk, ok, hvk, hr, hnc, hnil, hcm⟩ := openB ht
          have hlk := hr.1
          subst hlk
          refine ⟨vs ++ [⟨ak, ck, lk, bk, ok⟩], by simp [hvl], fun j s hj => ?_⟩
          by_cases hjk : j < k
          · rw [List.getElem?_append_left (by omega)] at hj
            exact hvs j s hj
          · have hjl : j < (vs ++ [(⟨ak, ck, lk, bk, ok⟩ : Sl)]).length := (List.getElem?_eq_some_iff.1 hj).1
            simp [hvl] at hjl
            obtain rfl : j = k := by omega
            rw [List.getElem?_append_right (by omega), hvl, Nat.sub_self] at hj
            simp at hj
            subst hj
            rw [show (⟨b, off, none⟩ : Addr).add j = ⟨b, off + j, none⟩ from by simp [Addr.add], hvk] at hc
            exact ⟨hc, hr, Nat.le_trans hnc hcm⟩
      obtain ⟨vs, h1, h2⟩ := key len (Nat.le_refl _)
      exact ⟨vs, b, off, ⟨h1, fun _ => rfl, h2⟩, by omega⟩

end Go.Proofs.Qxb6601367a
