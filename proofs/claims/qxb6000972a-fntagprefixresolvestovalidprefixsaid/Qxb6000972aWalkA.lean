/-
  THE WALKS: IndexByte (29, 28), isURIChar (25), isTagChar (24), isTagPrefix (21), ZZIsTagPrefix (16), zzTagPrefixModel (18), zzBytes (17).
-/
import Derived.Test.Qxb6000972aBytes
import Derived.Lib.Strings
import Derived.Lib.Slices
import Derived.Lib.Walk
import Derived.Lib.Bytealg
namespace Go.Proofs.Qxb6000972a
open Go.RowKit

set_option maxHeartbeats 1000000 in
set_option maxRecDepth 100000 in
theorem slIndexByte (s : ByteArray) (c : Int) (w : World) :
    Calls Try.prog 29 #[.string s, .int .u8 c] w fun e w' => e = .returned (.int .i64 (Lib.indexByte s.data.toList c.toNat.toUInt8)) ∧ w' = w := by
  go_enter Try.func29, Try.ntmps29
  go_wp2
  rw [run_callFunc_extern Try.func30 (by kernel_rfl) (by kernel_rfl) (by kernel_rfl) (e := Extern.BytealgIndexByte.indexByte) (by kernel_rfl), Lib.run_indexByteString]
  simp only [Result.andThen]
  rw [Oper.upon_value]
  go_wp2
  go_ret
  exact ⟨rfl, rfl⟩

set_option maxHeartbeats 1000000 in
theorem strIndexByte (s : ByteArray) (c : Int) (w : World) :
    Calls Try.prog 28 #[.string s, .int .u8 c] w fun e w' => e = .returned (.int .i64 (Lib.indexByte s.data.toList c.toNat.toUInt8)) ∧ w' = w := by
  go_enter Try.func28, Try.ntmps28
  go_wp2_with (go_at_call 29; refine (slIndexByte _ _ _).mono ?_; rintro e w' ⟨rfl, rfl⟩)
  go_ret
  exact ⟨rfl, rfl⟩

/-- The constant of isURIChar. -/
def uriChars : List UInt8 := [37, 35, 59, 47, 63, 58, 64, 38, 61, 43, 36, 44, 95, 46, 33, 126, 42, 39, 40, 41, 91, 93]

/-- The plain law, byte by byte (256 cases, by the kernel). -/
theorem uri_at : ∀ c : Fin 256, (wordB (c.val : Int) || decide (0 ≤ Lib.indexByte uriChars c.val.toUInt8)) = uriB (c.val : Int) := by
  decide +kernel

theorem uri_int (n : Int) (h0 : 0 ≤ n) (h1 : n ≤ 255) : (wordB n || decide (0 ≤ Lib.indexByte uriChars n.toNat.toUInt8)) = uriB n := by
  have h := uri_at ⟨n.toNat, by omega⟩
  simp only [Int.toNat_of_nonneg h0] at h
  exact h

set_option maxHeartbeats 400000 in
theorem uri_any (n : Int) (h0 : 0 ≤ n) (h1 : n ≤ 255) (w : World) :
    Calls Try.prog 25 #[.int .u8 n] w fun e w' => e = .returned (.bool (uriB n)) ∧ w' = w := by
  have HU : Hid ((wordB n || decide (0 ≤ Lib.indexByte uriChars n.toNat.toUInt8)) = uriB n) := uri_int n h0 h1
  go_enter Try.func25, Try.ntmps25
  go_wp2_with (first | (go_at_call 27; refine (word_any _ _).mono ?_; rintro e w' ⟨rfl, rfl⟩) | (go_at_call 28; refine (strIndexByte _ _ _).mono ?_; rintro e w' ⟨rfl, rfl⟩))
  · go_ret
    rename_i hw
    refine ⟨ret_bool ?_, rfl⟩
    have h := HU.out
    rw [hw] at h
    simpa using h
  · go_ret
    rename_i hw
    refine ⟨ret_bool ?_, rfl⟩
    have h := HU.out
    rw [Bool.eq_false_iff.2 hw] at h
    simpa [uriChars] using h

def tagB (n : Int) : Bool := uriB n && (n != 33) && !flowB n

set_option maxHeartbeats 400000 in
theorem tag_any (n : Int) (h0 : 0 ≤ n) (h1 : n ≤ 255) (w : World) :
    Calls Try.prog 24 #[.int .u8 n] w fun e w' => e = .returned (.bool (tagB n)) ∧ w' = w := by
  go_enter Try.func24, Try.ntmps24
  go_wp2_with (first | (go_at_call 25; refine (uri_any _ h0 h1 _).mono ?_; rintro e w' ⟨rfl, rfl⟩) | (go_at_call 26; refine (flow_any _ _).mono ?_; rintro e w' ⟨rfl, rfl⟩))
  all_goals
    go_ret
    refine ⟨ret_bool ?_, rfl⟩
    unfold tagB
    simp_all

theorem take_snoc (s : ByteArray) (k : Nat) (h : k < s.size) : s.data.toList.take (k + 1) = s.data.toList.take k ++ [s[k]] := by
  rw [List.take_succ_eq_append_getElem (by simpa using h)]; rfl

def allUri (l : List UInt8) : Bool := l.all fun c => uriB (c.toNat : Int)
theorem allUri_snoc (l : List UInt8) (c : UInt8) : allUri (l ++ [c]) = (allUri l && uriB (c.toNat : Int)) := by simp [allUri]
theorem allUri_no (s : ByteArray) (k : Nat) (h : k < s.size) (hc : uriB (s[k].toNat : Int) = false) : allUri s.data.toList = false := by
  unfold allUri
  rw [List.all_eq_false]
  refine ⟨s[k], ?_, by simpa using hc⟩
  exact Array.getElem_mem_toList (by simpa using h)

theorem u8_le (c : UInt8) : (c.toNat : Int) ≤ 255 := by have := c.toNat_lt; omega

/-- The head that isTagPrefix asks for. -/
def headOk (s : ByteArray) (h : 0 < s.size) : Bool := ((s[0].toNat : Int) == 33) || tagB (s[0].toNat : Int)
def prefixB (s : ByteArray) : Bool := if h : 0 < s.size then headOk s h && allUri s.data.toList else false

theorem toList_nil {s : ByteArray} (h : ¬ 0 < s.size) : s.toList = [] := by
  rw [Lib.toList_data]
  apply List.eq_nil_of_length_eq_zero
  have : s.data.toList.length = s.size := by simp
  omega
theorem toList_ne {s : ByteArray} (h : 0 < s.size) : s.toList.isEmpty = false := by
  rw [Lib.toList_data, List.isEmpty_eq_false_iff]
  intro e
  have : s.data.toList.length = s.size := by simp
  rw [e] at this
  simp at this
  omega

set_option maxHeartbeats 400000 in
theorem prefix_none (s : ByteArray) (hp : ¬ 0 < s.size) (w : World) :
    Calls Try.prog 21 #[.string s] w fun e w' => e = .returned (.bool (prefixB s)) ∧ w' = w := by
  have hn := toList_nil hp
  go_enter Try.func21, Try.ntmps21
  go_wp2
  go_ret
  exact ⟨ret_bool (by simp [prefixB, hp]), rfl⟩

set_option maxHeartbeats 400000 in
theorem prefix_bad (s : ByteArray) (hp : 0 < s.size) (hh : headOk s hp = false) (w : World) :
    Calls Try.prog 21 #[.string s] w fun e w' => e = .returned (.bool (prefixB s)) ∧ w' = w := by
  have hn := toList_ne hp
  have hn2 : ¬ s.toList = [] := by intro h; rw [h] at hn; simp at hn
  have hv : prefixB s = false := by simp [prefixB, hp, hh]
  rw [hv]
  have hu := u8_le s[0]
  simp only [headOk, Bool.or_eq_false_iff] at hh
  obtain ⟨h1, h2⟩ := hh
  have h3 : ¬ (s[0].toNat : Int) = 33 := by simpa using h1
  have h4 : ((s[0].toNat : Int) != 33) = true := by simpa using h1
  clear hv h1
  go_enter Try.func21, Try.ntmps21
  go_wp2_with (go_at_call 24; refine (tag_any _ (by omega) (by omega) _).mono ?_; rintro e w' ⟨rfl, rfl⟩)
  go_ret
  exact ⟨rfl, rfl⟩

set_option maxHeartbeats 400000 in
theorem prefix_ok (s : ByteArray) (hs : s.size ≤ 1048576) (hp : 0 < s.size) (hh : headOk s hp = true) (w : World) :
    Calls Try.prog 21 #[.string s] w fun e w' => e = .returned (.bool (allUri s.data.toList)) ∧ w' = w := by
  have hn := toList_ne hp
  have hn2 : ¬ s.toList = [] := by intro h; rw [h] at hn; simp at hn
  have hu := u8_le s[0]
  have h3 : (s[0].toNat : Int) = 33 ∨ (¬ (s[0].toNat : Int) = 33 ∧ ((s[0].toNat : Int) != 33) = true ∧ tagB (s[0].toNat : Int) = true) := by
    simp only [headOk, Bool.or_eq_true, beq_iff_eq] at hh
    by_cases h : (s[0].toNat : Int) = 33
    · exact .inl h
    · exact .inr ⟨h, by simpa using h, hh.resolve_left h⟩
  clear hh
  rcases h3 with h3 | ⟨h3, h4, h5⟩
  all_goals
    go_enter Try.func21, Try.ntmps21
    go_wp2_with (go_at_call 24; refine (tag_any _ (by omega) (by omega) _).mono ?_; rintro e w' ⟨rfl, rfl⟩)
    go_loop [3] (fun i => ∃ k : Nat, k ≤ s.size ∧ i = .int .i64 k ∧ allUri (s.data.toList.take k) = true) (fun i => s.size - (intOf i).toNat)
    case atStart => exact ⟨0, Nat.zero_le _, rfl, rfl⟩
    case round =>
      obtain ⟨k, hk, rfl, ha⟩ := hrel
      have HA : Hid (allUri (s.data.toList.take k) = true) := ha
      clear ha
      by_cases hlt : k < s.size
      · have hb := u8_le s[k]
        cases hc : uriB (s[k].toNat : Int) with
        | true =>
          go_wp2_with (go_at_call 25; refine (uri_any _ (by omega) (by omega) _).mono ?_; rintro e w' ⟨rfl, rfl⟩)
          go_round
          case rel => exact ⟨k + 1, by omega, by go_num, by rw [take_snoc s k hlt, allUri_snoc, HA.out, hc]; rfl⟩
          case measure => simp [intOf]; omega
        | false =>
          have HN : Hid (allUri s.data.toList = false) := allUri_no s k hlt hc
          go_wp2_with (go_at_call 25; refine (uri_any _ (by omega) (by omega) _).mono ?_; rintro e w' ⟨rfl, rfl⟩)
          go_ret
          exact ⟨ret_bool (by rw [HN.out]), rfl⟩
      · go_wp2
        go_ret
        exact ⟨ret_bool (by rw [← HA.out, List.take_of_length_le (by simp; omega)]), rfl⟩

end Go.Proofs.Qxb6000972a
