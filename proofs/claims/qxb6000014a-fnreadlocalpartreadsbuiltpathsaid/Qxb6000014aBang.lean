/-
  firstBang (32).
-/
import Derived.Test.Qxb6000014aHop
import Derived.Test.Qxb6000014aWords
namespace Go.Proofs.Qxb6000014a
open Go.RowKit

def domainB : ByteArray := ⟨#[100, 111, 109, 97, 105, 110]⟩
def uucpB : ByteArray := ⟨#[117, 117, 99, 112]⟩
def emptyB : ByteArray := ⟨#[]⟩

/-- What firstBang answers of s[l:r]: the place, the hop's name, its kind. -/
def FB (s : ByteArray) (l r : Nat) (b : Int) (name kind : ByteArray) : Prop :=
  (b = -1 ∧ name = emptyB ∧ ∀ k (h : k < s.size), l ≤ k → k < r → s[k] ≠ 33) ∨
  ∃ i : Nat, b = i ∧ l ≤ i ∧ i < r ∧ (∃ h : i < s.size, s[i] = 33) ∧ (∀ k (h : k < s.size), l ≤ k → k < i → s[k] ≠ 33) ∧
    ((¬ IsHop (s.extract l i) ∧ name = emptyB) ∨ (IsHop (s.extract l i) ∧ name = ⟨(Lib.trimSuffix (s.extract l i).data.toList [46]).toArray⟩ ∧ kind = if Lib.containsAny (s.extract l i).data.toList [46, 91] = true then domainB else uucpB))
/-- .. as it is handed back. -/
def BangSaid (s : ByteArray) (l r : Nat) (w : World) (e : Ending) (w' : World) : Prop :=
  ∃ (b : Int) (name kind : ByteArray), e = .returned (.tuple #[.int .i64 b, .agg #[.string name, .string kind]]) ∧ FB s l r b name kind ∧ Below w.heap.size w w'

theorem index_none_in {s : ByteArray} {l r : Nat} (h : Lib.indexByte (s.extract l r).data.toList 33 < 0) : ∀ k (hk : k < s.size), l ≤ k → k < r → s[k] ≠ 33 := by
  intro k hk h1 h2 e
  have hn := indexByte_neg h
  apply hn
  rw [extract_list]
  have : (s.data.toList.drop l)[k - l]? = some 33 := by
    rw [List.getElem?_drop, show l + (k - l) = k by omega, List.getElem?_eq_getElem (by simpa using hk)]
    exact congrArg some e
  exact List.mem_of_getElem? (i := k - l) (by rw [List.getElem?_take, if_pos (by omega)]; exact this)
theorem index_some_in {s : ByteArray} {l r : Nat} (hl : l ≤ r) (hr : r ≤ s.size) (h : ¬ Lib.indexByte (s.extract l r).data.toList 33 < 0) :
    ∃ i : Nat, Lib.indexByte (s.extract l r).data.toList 33 = (i : Int) ∧ l + i < r ∧ (∃ hk : l + i < s.size, s[l + i] = 33) ∧ ∀ k (hk : k < s.size), l ≤ k → k < l + i → s[k] ≠ 33 := by
  obtain ⟨i, hi⟩ := Int.eq_ofNat_of_zero_le (Int.not_lt.1 h)
  obtain ⟨h1, h2⟩ := Lib.indexByte_some hi
  rw [extract_list] at h1 h2
  have hlt : i < r - l := by
    rw [List.getElem?_take] at h1
    by_cases hh : i < r - l
    · exact hh
    · rw [if_neg hh] at h1; cases h1
  have hs : l + i < s.size := by omega
  have get : ∀ k (hk : k < s.size), l ≤ k → k < r → ((s.data.toList.drop l).take (r - l))[k - l]? = some s[k] := by
    intro k hk h1 h2
    rw [List.getElem?_take, if_pos (by omega), List.getElem?_drop, show l + (k - l) = k by omega, List.getElem?_eq_getElem (by simpa using hk)]
    rfl
  refine ⟨i, hi, by omega, ⟨hs, ?_⟩, fun k hk h3 h4 e => ?_⟩
  · have := get (l + i) hs (by omega) (by omega)
    rw [show l + i - l = i by omega, h1] at this
    exact (Option.some.inj this).symm
  · have := get k hk h3 (by omega)
    rw [e] at this
    exact h2 (k - l) (by omega) this

theorem two_cells {w : World} {B : Nat} {a b : Value} {T : TypeId} (c d : Value) (h : w.heap[B]? = some (.cells #[a, b] T (0, 0))) :
    ((w.setCell ⟨B, 0, none⟩ c).setCell ⟨B, 1, none⟩ d).heap[B]? = some (.cells #[c, d] T (0, 0)) := by
  have h1 := heap_setCell_same w B 0 _ _ c h
  have h2 := heap_setCell_same _ B 1 _ _ d h1
  simpa using h2

theorem ascii_dots : ∀ (j : Nat) b, (⟨#[46, 91]⟩ : ByteArray).data.toList[j]? = some b → b.toNat < 128 := by
  intro j b h
  have := List.mem_of_getElem? h
  simp at this
  rcases this with rfl | rfl <;> decide

set_option maxHeartbeats 1600000 in
theorem bang_any (s : ByteArray) (l r : Nat) (hs : s.size ≤ 1048576) (hl : l ≤ r) (hr : r ≤ s.size) (w : World) :
    Calls Try.prog 32 #[.string s, .int .i64 l, .int .i64 r] w fun e w' => BangSaid s l r w e w' := by
  go_enter Try.func32, Try.ntmps32
  go_wp2_with fail
  refine (Try.strings_IndexByte (s.extract l r) 33 _).mono ?_
  rintro e w1 ⟨rfl, hw1⟩
  obtain rfl := hw1.symm
  rw [show (33 : Int).toNat.toUInt8 = 33 from rfl]
  by_cases hneg : Lib.indexByte (s.extract l r).data.toList 33 < 0
  · have HN2 : Hid (∀ k (hk : k < s.size), l ≤ k → k < r → s[k] ≠ 33) := index_none_in hneg
    obtain ⟨x, hx⟩ : ∃ x, Lib.indexByte (s.extract l r).data.toList 33 = x := ⟨_, rfl⟩
    rw [hx] at hneg ⊢
    clear hx hw1
    go_wp2_with fail
    refine bodyPost_ret (v := .tuple #[.int .i64 (-1), .agg #[.string emptyB, .string emptyB]]) (by simp [results, Try.results32, go_sem, emptyB]) rfl ⟨-1, emptyB, emptyB, rfl, .inl ⟨rfl, rfl, HN2.out⟩, ?_⟩
    exact (Below.refl _ _).alloc (Nat.le_refl _) _
  · obtain ⟨i, hi, h1, h2, h3⟩ := index_some_in hl hr hneg
    rw [hi]
    have H2 : Hid (∃ hk : l + i < s.size, s[l + i] = 33) := h2
    have H3 : Hid (∀ k (hk : k < s.size), l ≤ k → k < l + i → s[k] ≠ 33) := h3
    have hxs : (s.extract l (l + i)).size ≤ 1048576 := by rw [ByteArray.size_extract]; omega
    clear hneg hi h2 h3 hw1
    go_wp2_with fail
    refine (hop_any (s.extract l (l + i)) hxs _).mono ?_
    rintro e w1 ⟨⟨b, rfl, hb⟩, hw1⟩
    cases b with
    | false =>
      have HB : Hid (¬ IsHop (s.extract l (l + i))) := fun h => by have := hb.2 h; cases this
      obtain rfl := hw1.symm
      clear hb hw1
      go_wp2_with fail
      refine bodyPost_ret (v := .tuple #[.int .i64 ((l : Int) + (i : Int)), .agg #[.string emptyB, .string emptyB]]) (by simp [results, Try.results32, go_sem, emptyB]) rfl ⟨_, emptyB, emptyB, rfl, .inr ⟨l + i, by omega, by omega, h1, H2.out, H3.out, .inl ⟨HB.out, rfl⟩⟩, ?_⟩
      exact (Below.refl _ _).alloc (Nat.le_refl _) _
    | true =>
      have HB : Hid (IsHop (s.extract l (l + i))) := hb.1 rfl
      obtain ⟨wa, hwa⟩ : ∃ wa, w.alloc (.cells #[.string emptyB, .string emptyB] 40) = wa := ⟨_, rfl⟩
      have hw2 : w1 = wa := by rw [hw1]; exact hwa
      obtain rfl := hw2.symm
      have hba : Below w.heap.size w wa := by rw [← hwa]; exact (Below.refl _ _).alloc (Nat.le_refl _) _
      have hka : wa.heap[w.heap.size]? = some (.cells #[.string emptyB, .string emptyB] 40) := by rw [← hwa]; exact heap_alloc_new _ _
      have hzl : w.heap.size < wa.heap.size := by rw [← hwa]; simp
      clear hb hw1 hwa hw2
      go_wp2_with fail
      refine (Try.strings_ContainsAny_laid (s.extract l (l + i)) ⟨#[46, 91]⟩ _ (by omega) (by decide) HB.out.ascii ascii_dots).mono ?_
      rintro e w2 ⟨rfl, hb2⟩
      have hb3 : Below w.heap.size w w2 := hba.trans (hb2.mono (Nat.le_of_lt hzl))
      have hk2 : w2.heap[w.heap.size]? = some (.cells #[.string emptyB, .string emptyB] 40) := by rw [hb2.block _ hzl]; exact hka
      have hc0 : w2.cell? ⟨w.heap.size, 0, none⟩ = some (.string emptyB) := by rw [Lib.cell_of_heap hk2]; rfl
      have hc1 : w2.cell? ⟨w.heap.size, 1, none⟩ = some (.string emptyB) := by rw [Lib.cell_of_heap hk2]; rfl
      have hf0 := Lib.frozen_of_heap hk2 0
      have hf1 := Lib.frozen_of_heap hk2 1
      have HK : Hid (w2.heap[w.heap.size]? = some (.cells #[.string emptyB, .string emptyB] 40)) := hk2
      have hks : w.heap.size < w2.heap.size := Nat.lt_of_lt_of_le hzl hb2.size
      clear hka hb2 hba hk2
      obtain ⟨q, hq⟩ : ∃ q, Lib.containsAny (s.extract l (l + i)).data.toList [46, 91] = q := ⟨_, rfl⟩
      rw [show (⟨#[46, 91]⟩ : ByteArray).data.toList = [46, 91] from rfl, hq]
      have HQ : Hid (Lib.containsAny (s.extract l (l + i)).data.toList [46, 91] = q) := hq
      clear hq
      obtain ⟨nm, hnm⟩ : ∃ nm : ByteArray, nm = ⟨(Lib.trimSuffix (s.extract l (l + i)).data.toList [46]).toArray⟩ := ⟨_, rfl⟩
      have HNM : Hid (nm = ⟨(Lib.trimSuffix (s.extract l (l + i)).data.toList [46]).toArray⟩) := hnm
      clear hnm
      cases q with
      | true =>
        go_wp2_with fail
        refine (Try.strings_TrimSuffix (s.extract l (l + i)) ⟨#[46]⟩ _ (by omega)).mono ?_
        rintro e w3 ⟨rfl, hw3⟩
        obtain rfl := hw3.symm
        rw [show (⟨#[46]⟩ : ByteArray).data.toList = [46] from rfl, ← HNM.out]
        clear hw3
        go_wp2_with fail
        refine bodyPost_ret (v := .tuple #[.int .i64 ((l : Int) + (i : Int)), .agg #[.string nm, .string domainB]]) ?_ rfl ⟨_, nm, domainB, rfl, .inr ⟨l + i, by omega, by omega, h1, H2.out, H3.out, .inr ⟨HB.out, HNM.out, by rw [HQ.out]; rfl⟩⟩, ?_⟩
        · have hW := two_cells (.string nm) (.string domainB) HK.out
          have hg0 := Lib.cell_of_heap hW 0
          have hg1 := Lib.cell_of_heap hW 1
          change World.cell? _ _ = some (.string nm) at hg0
          change World.cell? _ _ = some (.string domainB) at hg1
          rw [show (⟨#[100, 111, 109, 97, 105, 110]⟩ : ByteArray) = domainB from rfl]
          obtain ⟨W, hWW⟩ : ∃ W, (w2.setCell ⟨w.heap.size, 0, none⟩ (.string nm)).setCell ⟨w.heap.size, 1, none⟩ (.string domainB) = W := ⟨_, rfl⟩
          rw [hWW] at hg0 hg1 ⊢
          simp [results, Try.results32, go_sem, hg0, hg1]
        · exact (hb3.setCell (Nat.le_refl _) _).setCell (Nat.le_refl _) _
      | false =>
        go_wp2_with fail
        refine (Try.strings_TrimSuffix (s.extract l (l + i)) ⟨#[46]⟩ _ (by omega)).mono ?_
        rintro e w3 ⟨rfl, hw3⟩
        obtain rfl := hw3.symm
        rw [show (⟨#[46]⟩ : ByteArray).data.toList = [46] from rfl, ← HNM.out]
        clear hw3
        go_wp2_with fail
        refine bodyPost_ret (v := .tuple #[.int .i64 ((l : Int) + (i : Int)), .agg #[.string nm, .string uucpB]]) ?_ rfl ⟨_, nm, uucpB, rfl, .inr ⟨l + i, by omega, by omega, h1, H2.out, H3.out, .inr ⟨HB.out, HNM.out, by rw [HQ.out]; rfl⟩⟩, ?_⟩
        · have hW := two_cells (.string nm) (.string uucpB) HK.out
          have hg0 := Lib.cell_of_heap hW 0
          have hg1 := Lib.cell_of_heap hW 1
          change World.cell? _ _ = some (.string nm) at hg0
          change World.cell? _ _ = some (.string uucpB) at hg1
          rw [show (⟨#[117, 117, 99, 112]⟩ : ByteArray) = uucpB from rfl]
          obtain ⟨W, hWW⟩ : ∃ W, (w2.setCell ⟨w.heap.size, 0, none⟩ (.string nm)).setCell ⟨w.heap.size, 1, none⟩ (.string uucpB) = W := ⟨_, rfl⟩
          rw [hWW] at hg0 hg1 ⊢
          simp [results, Try.results32, go_sem, hg0, hg1]
        · exact (hb3.setCell (Nat.le_refl _) _).setCell (Nat.le_refl _) _

end Go.Proofs.Qxb6000014a
