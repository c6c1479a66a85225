/-
  bytes.Index (33), as the cut calls it.
-/
import Derived.Test.Qxb6601367aShelf
import Derived.Test.Qxb6601367aMem
namespace Go.Proofs.Qxb6601367a
open Go.RowKit

/-- The bytes as numbers. -/
def nums (l : List UInt8) : List Int := l.map fun u => (u.toNat : Int)
theorem nums_length (l : List UInt8) : (nums l).length = l.length := by simp [nums]
theorem nums_range (l : List UInt8) : ∀ x ∈ nums l, 0 ≤ x ∧ x < 256 := by
  intro x hx
  obtain ⟨u, _, rfl⟩ := List.mem_map.1 hx
  have := u.toNat_lt
  omega
theorem nums_getD (l : List UInt8) (i : Nat) : (nums l).getD i 0 = ((l.getD i 0).toNat : Int) := by
  by_cases h : i < l.length
  · simp [nums, h]
  · simp [nums, List.getElem?_eq_none (by omega : l.length ≤ i)]
theorem bytesOf_nums (l : List UInt8) : Lib.bytesOf (nums l) = l := by
  simp only [Lib.bytesOf, nums, List.map_map]
  conv => rhs; rw [← List.map_id l]
  apply List.map_congr_left
  intro u _
  simp
theorem add_lit (b o i : Nat) : (⟨b, o, none⟩ : Addr).add i = ⟨b, o + i, none⟩ := by simp [Addr.add]

theorem index_any (a : Option Addr) (n c : Nat) (l : List UInt8) (b o : Nat) (a' : Option Addr) (k c' : Nat) (v : List UInt8) (b' o' : Nat) (m : Int) (w : World)
    (hr : BRow w a n l b o) (hr' : BRow w a' k v b' o') (hnil : a = none → n = 0 ∧ c = 0) (hcap : n ≤ c) (hn : n ≤ 1048576) (hk0 : 0 < k) (hk : k ≤ 1048576) (hm : w.cell? ⟨0, 0, none⟩ = some (.int .i64 m)) :
    Calls Try.prog 33 #[.slice a n c, .slice a' k c'] w fun e w' => e = .returned (.int .i64 (Lib.index l v)) ∧ Same w w' := by
  rw [hr'.2.1 hk0]
  cases a with
  | none =>
    obtain ⟨rfl, rfl⟩ := hnil rfl
    have hl : l = [] := List.length_eq_zero_iff.1 hr.1
    have hv : v.isEmpty = false := by
      have := hr'.1
      cases v with
      | nil => simp at this; omega
      | cons _ _ => rfl
    refine (Try.bytes_Index_nil (some ⟨b', o', none⟩) k c' w (by omega) (fun _ => ⟨b', o', _, rfl, hr'.2.2 0 hk0⟩)).mono ?_
    rintro e w' ⟨rfl, hw⟩
    rw [if_neg (by omega), hl, Lib.index, hv]
    exact ⟨rfl, by rw [hw]; exact Same.refl _⟩
  | some x =>
    have hc1 : ∀ i, i < n → w.cell? (x.add i) = some (.int .u8 ((nums l).getD i 0)) := by
      intro i hi
      have h1 := hr.2.1 (by omega)
      cases h1
      rw [nums_getD, add_lit]
      exact hr.2.2 i hi
    have hc2 : ∀ i, i < k → w.cell? ((⟨b', o', none⟩ : Addr).add i) = some (.int .u8 ((nums v).getD i 0)) := by
      intro i hi
      rw [nums_getD, add_lit]
      exact hr'.2.2 i hi
    refine (Try.bytes_Index_at x ⟨b', o', none⟩ n c k c' (nums l) (nums v) m w (by rw [nums_length]; exact hr.1) (by rw [nums_length]; exact hr'.1) (nums_range l) (nums_range v) hc1 hc2 hcap (by omega) (by omega) hm).mono ?_
    rintro e w' ⟨rfl, q, hw⟩
    rw [bytesOf_nums, bytesOf_nums, hw]
    exact ⟨rfl, Same.drewN _ _⟩

end Go.Proofs.Qxb6601367a
