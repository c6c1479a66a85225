/-
  zzBuild (12) with nothing skipped: a fresh map whose elements are all valid prefixes; TagPrefix (13) in such a map.
-/
import Derived.Test.Qxb6000972aCopy
import Derived.Test.Qxb6000972aWalkB
import Derived.Maps.OwnSet
import Derived.RegionTactic
namespace Go.Proofs.Qxb6000972a
open Go.RowKit Go.WideMaps Go.Maps

theorem law : Keyed Try.prog 9 := string_keyed Try.underlying9

/-- How an element reads that is a valid prefix, and small; no other element reads at all. -/
def goodElem : Value → Option (DataW Unit × List MemPlace)
  | .string s => if prefixB s = true ∧ s.size ≤ 1048576 then some (.lit (.bool true), []) else none
  | _ => none
theorem goodElem_mk {s : ByteArray} (h1 : prefixB s = true) (h2 : s.size ≤ 1048576) : goodElem (.string s) = some (.lit (.bool true), []) := by simp [goodElem, h1, h2]
theorem goodElem_inv {v : Value} {z : DataW Unit × List MemPlace} (h : goodElem v = some z) : ∃ s, v = .string s ∧ prefixB s = true ∧ s.size ≤ 1048576 := by
  unfold goodElem at h
  split at h
  · split at h
    · rename_i s hs; exact ⟨s, rfl, hs.1, hs.2⟩
    · cases h
  · cases h

/-- What zzBuild leaves: a map at the first new block, its elements good. -/
def BuildSaid (w : World) (e : Ending) (w' : World) : Prop :=
  ∃ (n : Nat) (D : DataW Unit), e = .returned (.map (some w.heap.size)) ∧ w'.ownsMap Try.prog 9 goodElem w.heap.size n D ∧ Below w.heap.size w w'

set_option maxHeartbeats 800000 in
theorem build_any (a0 : Option Addr) (n0 c0 : Nat) (s0 : List ByteArray) (b0 o0 : Nat) (a1 : Option Addr) (n1 c1 : Nat) (s1 : List ByteArray) (b1 o1 : Nat) (w : World)
    (hr0 : StrRow w a0 n0 s0 b0 o0) (hr1 : StrRow w a1 n1 s1 b1 o1) (hn0 : n0 ≤ 1048576) (hn1 : n1 ≤ 1048576) (hsz : ∀ s ∈ s0, s.size ≤ maxLen)
    (hg : ∀ j t, j < n0 → j < n1 → Hid (s1[j]? = some t) → goodElem (.string t) = some (.lit (.bool true), [])) :
    Calls Try.prog 12 #[.slice a0 n0 c0, .slice a1 n1 c1, .string ⟨#[]⟩, .bool false] w fun e w' => BuildSaid w e w' := by
  have hmm := @run_makeMap Try.prog
  go_enter Try.func12, Try.ntmps12
  by_cases hc : n1 < n0
  · go_wp2
    go_loopw [11] (fun i wr => ∃ (k : Nat) (D : DataW Unit), k ≤ n1 ∧ i = .int .i64 k ∧ wr.ownsMap Try.prog 9 goodElem w.heap.size k D ∧ Below w.heap.size w wr) (fun i _ => n1 - (intOf i).toNat)
    case atStart => exact ⟨0, .map [], Nat.zero_le _, rfl, World.ownsMap_made _ _ _ _, (Below.refl _ _).alloc (Nat.le_refl _) _⟩
    case round =>
      obtain ⟨k, D, hk, rfl, hown, hbel⟩ := hrel
      by_cases hlt : k < n1
      · have hi0 := (hr0.below hbel).idx (k := k) (by omega)
        have hi1 := (hr1.below hbel).idx (k := k) (by omega)
        obtain ⟨s, hs, hks, hcell0⟩ := (hr0.below hbel).cell (k := k) (by omega)
        obtain ⟨t, _, hkt, hcell1⟩ := (hr1.below hbel).cell (k := k) (by omega)
        have hgood := hg k t (by omega) (by omega) hkt
        obtain ⟨w2, hrun, hown2, hturn⟩ := World.ownsMap.store (w := wr.drew) (e := 9) hown.drew law Try.underlying26 (by unfold maxLen; omega) (keyOf_string_mk Try.underlying9 (hsz s hs)) hgood
        have hbel2 : Below w.heap.size w w2 := hbel.drew.grown hturn.grown hbel.size (fun j hj => by cases hj; exact Nat.le_refl _)
        clear hown hturn hgood hbel hg
        go_wp2
        go_region
        all_goals
          go_wp2
          go_roundw
          case rel => exact ⟨k + 1, _, by omega, by go_num, hown2, hbel2⟩
          case measure => simp [intOf]; omega
      · go_wp2
        go_ret
        exact ⟨_, _, rfl, hown, hbel⟩
  · go_wp2
    go_loopw [11] (fun i wr => ∃ (k : Nat) (D : DataW Unit), k ≤ n0 ∧ i = .int .i64 k ∧ wr.ownsMap Try.prog 9 goodElem w.heap.size k D ∧ Below w.heap.size w wr) (fun i _ => n0 - (intOf i).toNat)
    case atStart => exact ⟨0, .map [], Nat.zero_le _, rfl, World.ownsMap_made _ _ _ _, (Below.refl _ _).alloc (Nat.le_refl _) _⟩
    case round =>
      obtain ⟨k, D, hk, rfl, hown, hbel⟩ := hrel
      by_cases hlt : k < n0
      · have hi0 := (hr0.below hbel).idx (k := k) (by omega)
        have hi1 := (hr1.below hbel).idx (k := k) (by omega)
        obtain ⟨s, hs, hks, hcell0⟩ := (hr0.below hbel).cell (k := k) (by omega)
        obtain ⟨t, _, hkt, hcell1⟩ := (hr1.below hbel).cell (k := k) (by omega)
        have hgood := hg k t (by omega) (by omega) hkt
        obtain ⟨w2, hrun, hown2, hturn⟩ := World.ownsMap.store (w := wr.drew) (e := 9) hown.drew law Try.underlying26 (by unfold maxLen; omega) (keyOf_string_mk Try.underlying9 (hsz s hs)) hgood
        have hbel2 : Below w.heap.size w w2 := hbel.drew.grown hturn.grown hbel.size (fun j hj => by cases hj; exact Nat.le_refl _)
        clear hown hturn hgood hbel hg
        go_wp2
        go_region
        all_goals
          go_wp2
          go_roundw
          case rel => exact ⟨k + 1, _, by omega, by go_num, hown2, hbel2⟩
          case measure => simp [intOf]; omega
      · go_wp2
        go_ret
        exact ⟨_, _, rfl, hown, hbel⟩

/-- What TagPrefix answers in such a map: a string and a bool; where the bool is true, the string is a valid prefix, and small. -/
def TagSaid (e : Ending) : Prop := ∃ (p : ByteArray) (ok : Bool), e = .returned (.tuple #[.string p, .bool ok]) ∧ (ok = true → prefixB p = true ∧ p.size ≤ 1048576)

theorem look_good {w : World} {b n : Nat} {D : DataW Unit} (h : w.ownsMap Try.prog 9 goodElem b n D) (hd : ByteArray) (hs : hd.size ≤ maxLen) :
    ∃ (p : ByteArray) (ok : Bool), (Instr.lookup 26 (.map (some b)) (.string hd) true).run Try.prog w = .ok (.tuple #[.string p, .bool ok]) w ∧ (ok = true → prefixB p = true ∧ p.size ≤ 1048576) := by
  obtain ⟨es, clock, hb, F, _, rfl⟩ := h
  have hz : (zeroValue 9).run Try.prog w = .ok (.string ByteArray.empty) w := by kernel_rfl
  rcases Maps.fit_look true law Try.underlying26 hz hb F (keyOf_string_mk Try.underlying9 hs) with ⟨hrun, _, _⟩ | ⟨e0, y, _, _, hrun, hRv, _, _⟩
  · exact ⟨_, false, hrun, by simp⟩
  · obtain ⟨p, hp, hp1, hp2⟩ := goodElem_inv hRv
    rw [hp] at hrun
    exact ⟨p, true, hrun, fun _ => ⟨hp1, hp2⟩⟩

/-- The core schema's prefix. -/
theorem core_good : prefixB ⟨#[116, 97, 103, 58, 121, 97, 109, 108, 46, 111, 114, 103, 44, 50, 48, 48, 50, 58]⟩ = true := by decide +kernel
theorem bang_good : prefixB ⟨#[33]⟩ = true := by decide +kernel

set_option maxHeartbeats 400000 in
theorem tag_prefix_any (b n : Nat) (D : DataW Unit) (hd : ByteArray) (w : World) (h : w.ownsMap Try.prog 9 goodElem b n D) (hs : hd.size ≤ maxLen) :
    Calls Try.prog 13 #[.map (some b), .string hd] w fun e w' => TagSaid e ∧ w' = w := by
  obtain ⟨p, ok, hrun, hok⟩ := look_good h hd hs
  have HK : Hid (ok = true → prefixB p = true ∧ p.size ≤ 1048576) := hok
  clear hok
  cases ok with
  | true =>
    go_enter Try.func13, Try.ntmps13
    go_wp2
    go_ret2
    exact ⟨⟨p, true, rfl, fun _ => HK.out trivial⟩, rfl⟩
  | false =>
    go_enter Try.func13, Try.ntmps13
    go_wp2
    · go_ret2
      exact ⟨⟨_, true, rfl, fun _ => ⟨bang_good, by decide⟩⟩, rfl⟩
    · go_ret2
      exact ⟨⟨_, true, rfl, fun _ => ⟨core_good, by decide⟩⟩, rfl⟩
    · go_ret2
      exact ⟨⟨_, false, rfl, by simp⟩, rfl⟩

end Go.Proofs.Qxb6000972a
