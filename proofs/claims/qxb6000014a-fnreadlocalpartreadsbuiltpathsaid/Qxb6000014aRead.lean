/-
  readLocalPart (23): one walk, for every predicate that its steps keep.
-/
import Derived.Test.Qxb6000014aPct
import Derived.Test.Qxb6000014aScanU
import Derived.BigQuiet
import Derived.Deep.Onto
namespace Go.Proofs.Qxb6000014a
open Go.RowKit

theorem Try.info40 : (Try.prog.info? 40).map (fun i => (i.zero, i.size, i.bytes)) = some (some (.agg #[.string ⟨#[]⟩, .string ⟨#[]⟩]), 2, 32) := by kernel_rfl

/-- Hops as cells. -/
def hcells (l : List (ByteArray × ByteArray)) : List Value := l.flatMap fun h => [Value.string h.1, Value.string h.2]
theorem hcells_append (l k : List (ByteArray × ByteArray)) : hcells (l ++ k) = hcells l ++ hcells k := by simp [hcells]
/-- v owns the hops. -/
def OwnsH (w : World) (base : Nat) (v : Value) (hops : List (ByteArray × ByteArray)) : Prop := w.ownsRow base 40 2 v hops.length (hcells hops)
theorem OwnsH.row {w : World} {base : Nat} {v : Value} {hops : List (ByteArray × ByteArray)} (h : OwnsH w base v hops) : ∀ k, v.ownBlock = some k → base ≤ k := fun k hk => (World.ownsRow.lt h k hk).1

theorem two_new (w : World) (x y : Value) (t : TypeId) : ∀ j u, [x, y][j]? = some u → (w.alloc (.cells #[x, y] t)).cell? ((⟨w.heap.size, 0, none⟩ : Addr).add j) = some u := by
  intro j u hj
  match j, hj with
  | 0, hj => simp at hj; subst hj; rw [show ((⟨w.heap.size, 0, none⟩ : Addr).add 0) = ⟨w.heap.size, 0, none⟩ from rfl, Lib.cell_of_heap (heap_alloc_new _ _)]; rfl
  | 1, hj => simp at hj; subst hj; rw [show ((⟨w.heap.size, 0, none⟩ : Addr).add 1) = ⟨w.heap.size, 1, none⟩ from rfl, Lib.cell_of_heap (heap_alloc_new _ _)]; rfl
  | n + 2, hj => simp at hj

/-- 'append(hops, h)' -/
theorem app_hop {w : World} {ops : Array Oper} {rest : List Oper} {o : Oper} {a : Act} {Q : Exit → Act → World → Prop} (hgd : o.guard = none) (s x : Operand)
    (ho : o.op = .call { callee := .builtin .append, args := #[s, x], argTypes := #[33, 33] }) (base : Nat) (v : Value) (hops : List (ByteArray × ByteArray)) (w0 : World) (nm kd : ByteArray) (hw : w = w0.alloc (.cells #[.string nm, .string kd] 40)) (hs : a.eval s = v) (hown : OwnsH w0 base v hops)
    (hx : a.eval x = .slice (some ⟨w0.heap.size, 0, none⟩) 1 1) (hsz : hops.length + 1 ≤ 100000000) (hbase : base ≤ w0.heap.size)
    (h : ∀ v' w', OwnsH w' base v' (hops ++ [(nm, kd)]) → w.grownBy w' v.ownBlock → wpList Try.prog ops Q rest (a.put o.dst v') w') : wpList Try.prog ops Q (o :: rest) a w := by
  obtain ⟨i0, hi, hz0, hz1, hz2⟩ := info_parts Try.info40
  subst hw
  refine wpList_append_own _ hgd s x 33 ho base 40 i0 _ 2 32 Try.underlying33 hi hz0 hz1 hz2 rfl (by decide) v hops.length (hcells hops) hs (World.ownsRow.alloc hown _) ⟨w0.heap.size, 0, none⟩ 1 1 (hcells [(nm, kd)]) hx rfl ?_ ?_ (by unfold maxLen; omega) (by omega) (by simp; omega) ?_
  · exact two_new _ _ _ _
  · intro t ht
    simp [hcells] at ht
    rcases ht with rfl | rfl <;> rfl
  · intro v' w' h1 h2 _
    refine h v' w' ?_ h2
    unfold OwnsH
    rw [hcells_append, List.length_append]
    exact h1

/-- What the reading holds: the ends, the two candidates. -/
def Cand (s : ByteArray) (lo hi : Nat) (b : Int) (bn bk : ByteArray) (p : Int) (pn : ByteArray) : Prop :=
  lo ≤ hi ∧ hi ≤ s.size ∧ (∃ rb, hi ≤ rb ∧ rb ≤ s.size ∧ FB s lo rb b bn bk) ∧ (∃ lp, lp ≤ lo ∧ LP s lp hi p pn)
/-- A '!' step can be taken; a '%' step. -/
def CanB (hi : Nat) (b : Int) (bn : ByteArray) : Prop := 0 < bn.size ∧ b + 1 < hi
def CanP (lo : Nat) (p : Int) (pn : ByteArray) : Prop := 0 < pn.size ∧ (lo : Int) < p

/-- J is kept by the steps. -/
structure Kept (s : ByteArray) (pf : Bool) (J : Nat → Nat → List (ByteArray × ByteArray) → Prop) : Prop where
  pct : ∀ lo hi b bn bk p pn hops, Cand s lo hi b bn bk p pn → J lo hi hops → CanP lo p pn → (pf = true ∨ ¬ CanB hi b bn) → J lo p.toNat (hops ++ [(pn, domainB)])
  bang : ∀ lo hi b bn bk p pn hops, Cand s lo hi b bn bk p pn → J lo hi hops → ¬ (CanP lo p pn ∧ (pf = true ∨ ¬ CanB hi b bn)) → CanB hi b bn → J (b + 1).toNat hi (hops ++ [(bn, bk)])

def ReadSaid (s : ByteArray) (J : Nat → Nat → List (ByteArray × ByteArray) → Prop) (w : World) (e : Ending) (w' : World) : Prop :=
  ∃ v lo hi b bn bk p pn hops, e = .returned (.tuple #[v, .string (s.extract lo hi)]) ∧ Cand s lo hi b bn bk p pn ∧ J lo hi hops ∧ ¬ CanB hi b bn ∧ ¬ CanP lo p pn ∧ 2 * hops.length + (hi - lo) ≤ s.size ∧ OwnsH w' w.heap.size v hops ∧ Below w.heap.size w w'

/-- What a taken step says of its candidate. -/
theorem CanB.lt {s : ByteArray} {lo hi : Nat} {b : Int} {bn bk : ByteArray} {p : Int} {pn : ByteArray} (hc : Cand s lo hi b bn bk p pn) (h : CanB hi b bn) :
    ∃ i : Nat, b = i ∧ lo < i ∧ i + 1 < hi ∧ i < s.size ∧ (∃ h : i < s.size, s[i] = 33) := by
  obtain ⟨h1, h2, ⟨rb, h3, h4, hfb⟩, _⟩ := hc
  obtain ⟨hn, hb⟩ := h
  rcases hfb with ⟨_, e, _⟩ | ⟨i, e, k1, k2, k3, k4, ⟨_, k5⟩ | ⟨k5, _, _⟩⟩
  · rw [e] at hn; exact absurd hn (by decide)
  · rw [k5] at hn; exact absurd hn (by decide)
  · refine ⟨i, e, ?_, by omega, by omega, k3⟩
    obtain ⟨hp, _⟩ := k5
    rw [ByteArray.size_extract] at hp
    omega
theorem CanP.lt {s : ByteArray} {lo hi : Nat} {b : Int} {bn bk : ByteArray} {p : Int} {pn : ByteArray} (hc : Cand s lo hi b bn bk p pn) (h : CanP lo p pn) :
    ∃ i : Nat, p = i ∧ lo < i ∧ i + 1 < hi ∧ Sing s i ∧ pn = s.extract (i + 1) hi := by
  obtain ⟨h1, h2, _, ⟨lp, h3, hlp⟩⟩ := hc
  obtain ⟨hn, hb⟩ := h
  rcases hlp with ⟨_, e, _⟩ | ⟨i, e, k1, k2, k3, k4, ⟨_, k5⟩ | ⟨k5, k6⟩⟩
  · rw [e] at hn; exact absurd hn (by decide)
  · rw [k5] at hn; exact absurd hn (by decide)
  · refine ⟨i, e, by omega, ?_, k3, k6⟩
    obtain ⟨hp, _⟩ := k5
    rw [ByteArray.size_extract] at hp
    omega

theorem owns_drew {w : World} {base : Nat} {v : Value} {hops : List (ByteArray × ByteArray)} (h : OwnsH w base v hops) (n : Nat) : OwnsH (w.drewN n) base v hops := h
/-- A block below the hops' own stands as it stood. -/
theorem kept_block {w w' : World} {X : Nat} {o o' : Obj} {v : Value} {hops : List (ByteArray × ByteArray)} (hk : w.heap[X]? = some o) (hX : X < w.heap.size) (hown : OwnsH w (X + 1) v hops) (hg : (w.alloc o').grownBy w' v.ownBlock) : w'.heap[X]? = some o := by
  rw [hg.block X (by simp; omega) ?_, Below.heap_alloc _ _ _ hX]
  · exact hk
  · intro h
    have := hown.row X h.symm
    omega
theorem Cand.pct {s : ByteArray} {lo hi : Nat} {b : Int} {bn bk : ByteArray} {p : Int} {pn : ByteArray} (hc : Cand s lo hi b bn bk p pn) {i : Nat} {p' : Int} {pn' : ByteArray} (h1 : lo ≤ i) (h2 : i ≤ hi) (h : LP s lo i p' pn') : Cand s lo i b bn bk p' pn' := by
  obtain ⟨_, k2, ⟨rb, k3, k4, k5⟩, _⟩ := hc
  exact ⟨h1, by omega, ⟨rb, by omega, k4, k5⟩, ⟨lo, Nat.le_refl _, h⟩⟩
theorem Cand.bang {s : ByteArray} {lo hi : Nat} {b : Int} {bn bk : ByteArray} {p : Int} {pn : ByteArray} (hc : Cand s lo hi b bn bk p pn) {i : Nat} {b' : Int} {bn' bk' : ByteArray} (h1 : lo ≤ i + 1) (h2 : i + 1 ≤ hi) (h : FB s (i + 1) hi b' bn' bk') : Cand s (i + 1) hi b' bn' bk' p pn := by
  obtain ⟨_, k2, _, ⟨lp, k3, k4⟩⟩ := hc
  exact ⟨h2, k2, ⟨hi, Nat.le_refl _, k2, h⟩, ⟨lp, by omega, k4⟩⟩

theorem Cand.bounds {s : ByteArray} {lo hi : Nat} {b : Int} {bn bk : ByteArray} {p : Int} {pn : ByteArray} (hc : Cand s lo hi b bn bk p pn) : -1 ≤ b ∧ b < 1 + (s.size : Int) ∧ -1 ≤ p ∧ p < 1 + (s.size : Int) := by
  obtain ⟨_, k2, ⟨rb, k3, k4, k5⟩, ⟨lp, k6, k7⟩⟩ := hc
  refine ⟨?_, ?_, ?_, ?_⟩
  · rcases k5 with ⟨e, _⟩ | ⟨i, e, _⟩ <;> omega
  · rcases k5 with ⟨e, _⟩ | ⟨i, e, _, h, _⟩ <;> omega
  · rcases k7 with ⟨e, _⟩ | ⟨i, e, _⟩ <;> omega
  · rcases k7 with ⟨e, _⟩ | ⟨i, e, _, h, _⟩ <;> omega

theorem ne_of_isEmpty {s : ByteArray} (h : 0 < s.size) : ¬ s.toList = [] := by
  intro e
  have := toList_ne h
  rw [e] at this
  simp at this
theorem isEmpty_of {s : ByteArray} (h : ¬ 0 < s.size) : s.toList.isEmpty = true := by rw [toList_nil h]; rfl
theorem ways_B (hi : Nat) (b : Int) (bn : ByteArray) :
    (((bn.toList.isEmpty = true ∧ bn.toList = []) ∨ (bn.toList.isEmpty = false ∧ ¬ bn.toList = [] ∧ ¬ b + 1 < hi)) ∧ Hid (¬ CanB hi b bn)) ∨ ((bn.toList.isEmpty = false ∧ ¬ bn.toList = [] ∧ b + 1 < hi) ∧ Hid (CanB hi b bn)) := by
  by_cases h : 0 < bn.size
  · by_cases h2 : b + 1 < hi
    · exact .inr ⟨⟨toList_ne h, ne_of_isEmpty h, h2⟩, ⟨h, h2⟩⟩
    · exact .inl ⟨.inr ⟨toList_ne h, ne_of_isEmpty h, h2⟩, fun hh => h2 hh.2⟩
  · exact .inl ⟨.inl ⟨isEmpty_of h, toList_nil h⟩, fun hh => h hh.1⟩
theorem ways_P (lo : Nat) (p : Int) (pn : ByteArray) :
    (((pn.toList.isEmpty = true ∧ pn.toList = []) ∨ (pn.toList.isEmpty = false ∧ ¬ pn.toList = [] ∧ ¬ lo < p)) ∧ Hid (¬ CanP lo p pn)) ∨ ((pn.toList.isEmpty = false ∧ ¬ pn.toList = [] ∧ lo < p) ∧ Hid (CanP lo p pn)) := by
  by_cases h : 0 < pn.size
  · by_cases h2 : lo < p
    · exact .inr ⟨⟨toList_ne h, ne_of_isEmpty h, h2⟩, ⟨h, h2⟩⟩
    · exact .inl ⟨.inr ⟨toList_ne h, ne_of_isEmpty h, h2⟩, fun hh => h2 hh.2⟩
  · exact .inl ⟨.inl ⟨isEmpty_of h, toList_nil h⟩, fun hh => h hh.1⟩

set_option maxHeartbeats 3200000 in
theorem read_any (s : ByteArray) (pf : Bool) (J : Nat → Nat → List (ByteArray × ByteArray) → Prop) (hJ : Kept s pf J) (hs : s.size ≤ 1048576) (h0 : J 0 s.size []) (w : World) :
    Calls Try.prog 23 #[.string s, .bool pf, .slice none 0 0] w fun e w' => ReadSaid s J w e w' := by
  go_enter Try.func23, Try.ntmps23
  go_wp2_with fail
  refine (bang_any s 0 s.size hs (Nat.zero_le _) (Nat.le_refl _) _).mono ?_
  rintro e w1 ⟨b, bn, bk, rfl, hfb, hb1⟩
  have HFB : Hid (FB s 0 s.size b bn bk) := hfb
  clear hfb
  go_wp2_with fail
  refine (pct_any s 0 s.size hs (Nat.zero_le _) (Nat.le_refl _) _).mono ?_
  rintro e w2 ⟨p, pn, rfl, hlp, hw2⟩
  have HLP : Hid (LP s 0 s.size p pn) := hlp
  obtain ⟨X, hX⟩ : ∃ X, w1.heap.size = X := ⟨_, rfl⟩
  have hk2 : w2.heap[X]? = some (.cells #[.string bn, .string bk] 40 (0, 0)) := by rw [hw2, ← hX]; exact heap_alloc_new _ _
  have hb2 : Below w.heap.size w w2 := by rw [hw2]; exact hb1.alloc hb1.size _
  have hXl : X < w2.heap.size := by rw [hw2, ← hX]; simp
  have hwX : w.heap.size ≤ X := by rw [← hX]; exact hb1.size
  rw [hX]
  have HK2 : Hid (w2.heap[X]? = some (.cells #[.string bn, .string bk] 40 (0, 0))) := hk2
  have H0 : Hid (J 0 s.size []) := h0
  clear hlp hw2 hX hb1 hk2 h0
  clear w1
  go_wp2_with fail
  go_loopw [2, 8, 9, 10, 12, 13] (fun v tl tr tb tp tq wr => ∃ (lo hi : Nat) (b : Int) (bn bk : ByteArray) (p : Int) (pn : ByteArray) (hops : List (ByteArray × ByteArray)), tl = .int .i64 (lo : Nat) ∧ tr = .int .i64 (hi : Nat) ∧ tb = .int .i64 b ∧ tp = .int .i64 p ∧ tq = .string pn ∧ Hid (Cand s lo hi b bn bk p pn) ∧ Hid (J lo hi hops) ∧ 2 * hops.length + (hi - lo) ≤ s.size ∧ lo ≤ hi ∧ hi ≤ s.size ∧ Hid (wr.heap[X]? = some (.cells #[.string bn, .string bk] 40 (0, 0))) ∧ X < wr.heap.size ∧ OwnsH wr (X + 1) v hops ∧ Below w.heap.size w wr) (fun _ tl tr _ _ _ _ => (intOf tr - intOf tl).toNat)
  case atStart => exact ⟨0, s.size, b, bn, bk, p, pn, [], rfl, rfl, rfl, rfl, rfl, ⟨Nat.zero_le _, Nat.le_refl _, ⟨s.size, Nat.le_refl _, Nat.le_refl _, HFB.out⟩, ⟨0, Nat.le_refl _, HLP.out⟩⟩, H0, by simp, Nat.zero_le _, Nat.le_refl _, HK2, hXl, ⟨rfl, .inl ⟨rfl, rfl⟩⟩, hb2⟩
  case round =>
    clear HFB HLP H0 HK2 hXl hb2
    obtain ⟨lo, hi, b, bn, bk, p, pn, hops, rfl, rfl, rfl, rfl, rfl, HC, HJ, hlen, hlh, hhs, HK, hXl, hown, hbel⟩ := hrel
    obtain ⟨hb1, hb2, hp1, hp2⟩ := HC.out.bounds
    have hc0 : wr.cell? ⟨X, 0, none⟩ = some (.string bn) := by rw [Lib.cell_of_heap HK.out]; rfl
    have hc1 : wr.cell? ⟨X, 1, none⟩ = some (.string bk) := by rw [Lib.cell_of_heap HK.out]; rfl
    have waysB := ways_B hi b bn
    have waysP := ways_P lo p pn
    rcases waysB with ⟨wb, HB⟩ | ⟨wb, HB⟩
    · rcases waysP with ⟨wp, HP⟩ | ⟨⟨p1, p2, p3⟩, HP⟩
      · rcases wb with ⟨b1, b2⟩ | ⟨b1, b2, b3⟩ <;> rcases wp with ⟨p1, p2⟩ | ⟨p1, p2, p3⟩
        all_goals
          go_wp2_with fail
          go_quiet (fail)
          go_wp2_with fail
          go_ret2
          exact ⟨_, lo, hi, b, bn, bk, p, pn, hops, rfl, HC.out, HJ.out, HB.out, HP.out, hlen, owns_drew (World.ownsRow.mono hown (by omega)) _, hbel.trans ⟨rfl, rfl, rfl, Nat.le_refl _, fun _ _ => rfl⟩⟩
      · have PF : pf = true ∨ ¬ CanB hi b bn := .inr HB.out
        cases pf <;> rcases wb with ⟨b1, b2⟩ | ⟨b1, b2, b3⟩
        all_goals
          obtain ⟨i, hi1, hi2, hi3, -, -⟩ := HP.out.lt HC.out
          have R := hJ.pct _ _ _ _ _ _ _ _ HC.out HJ.out HP.out PF
          subst hi1
          go_wp2_with (at_builtin; refine app_hop rfl (.tmp 62) (.tmp 65) rfl (X + 1) _ hops wr pn domainB rfl rfl hown rfl (by omega) (by omega) ?_; intro v2 w3 hO3 hg3; have hbel3 : Below w.heap.size w w3 := (hbel.alloc hbel.size _).grown hg3 (by simp; exact Nat.le_trans hbel.size (Nat.le_succ _)) (fun k hk => Nat.le_trans hwX (Nat.le_of_succ_le (hown.row k hk))); have hK3 : Hid (w3.heap[X]? = some (.cells #[.string bn, .string bk] 40 (0, 0))) := (kept_block HK.out hXl hown hg3); have hX3 : X < w3.heap.size := Nat.lt_of_lt_of_le hXl (Nat.le_trans (by simp) hg3.size); clear hg3)
          refine (pct_any s lo i hs (by omega) (by omega) _).mono ?_
          rintro e w4 ⟨p', pn', rfl, hlp, hw4⟩
          obtain rfl := hw4.symm
          have HLP : Hid (LP s lo i p' pn') := hlp
          clear hlp hw4
          go_wp2_with fail
          go_roundw
          case rel => exact ⟨lo, i, b, bn, bk, p', pn', _, rfl, rfl, rfl, rfl, rfl, (HC.out.pct (by omega) (by omega) HLP.out), R, by simp; omega, by omega, by omega, hK3, hX3, hO3, hbel3⟩
          case measure => simp [intOf]; omega
    · obtain ⟨b1, b2, b3⟩ := wb
      rcases waysP with ⟨wp, HP⟩ | ⟨⟨p1, p2, p3⟩, HP⟩
      · have PF : ¬ (CanP lo p pn ∧ (pf = true ∨ ¬ CanB hi b bn)) := fun h => HP.out h.1
        rcases wp with ⟨p1, p2⟩ | ⟨p1, p2, p3⟩
        all_goals
          obtain ⟨i, hi1, hi2, hi3, hi4, -⟩ := HB.out.lt HC.out
          have R := hJ.bang _ _ _ _ _ _ _ _ HC.out HJ.out PF HB.out
          subst hi1
          go_wp2_with (at_builtin; refine app_hop rfl (.tmp 77) (.tmp 79) rfl (X + 1) _ hops wr bn bk rfl rfl hown rfl (by omega) (by omega) ?_; intro v2 w3 hO3 hg3; have hbel3 : Below w.heap.size w w3 := (hbel.alloc hbel.size _).grown hg3 (by simp; exact Nat.le_trans hbel.size (Nat.le_succ _)) (fun k hk => Nat.le_trans hwX (Nat.le_of_succ_le (hown.row k hk))); have hK3 : Hid (w3.heap[X]? = some (.cells #[.string bn, .string bk] 40 (0, 0))) := (kept_block HK.out hXl hown hg3); have hX3 : X < w3.heap.size := Nat.lt_of_lt_of_le hXl (Nat.le_trans (by simp) hg3.size); clear hg3)
          refine (bang_any s (i + 1) hi hs (by omega) (by omega) _).mono ?_
          rintro e w4 ⟨b', bn', bk', rfl, hfb, hb4⟩
          have HFB : Hid (FB s (i + 1) hi b' bn' bk') := hfb
          have hK4 : w4.heap[X]? = some (.cells #[.string bn, .string bk] 40 (0, 0)) := by rw [hb4.block _ hX3]; exact hK3.out
          have hX4 : X < w4.heap.size := Nat.lt_of_lt_of_le hX3 hb4.size
          have hO4 : OwnsH w4 (X + 1) v2 (hops ++ [(bn, bk)]) := owns_below hO3 hb4
          have hbel4 : Below w.heap.size w w4 := hbel3.trans (hb4.mono hbel3.size)
          have hd0 : w4.cell? ⟨X, 0, none⟩ = some (.string bn) := by rw [Lib.cell_of_heap hK4]; rfl
          have hd1 : w4.cell? ⟨X, 1, none⟩ = some (.string bk) := by rw [Lib.cell_of_heap hK4]; rfl
          have hf0 := Lib.frozen_of_heap hK4 0
          have hf1 := Lib.frozen_of_heap hK4 1
          have HK4 : Hid (w4.heap[X]? = some (.cells #[.string bn, .string bk] 40 (0, 0))) := hK4
          clear hfb hb4 hO3 hbel3 hK3 hX3 hK4
          go_wp2_with fail
          go_roundw
          case rel => exact ⟨i + 1, hi, b', bn', bk', p, pn, _, by go_num, rfl, rfl, rfl, rfl, (HC.out.bang (by omega) (by omega) HFB.out), R, by simp; omega, by omega, by omega, two_cells _ _ HK4.out, by simpa using hX4, ownsRow_setCell_below (ownsRow_setCell_below hO4 (by simp) _) (by simp) _, (hbel4.setCell hwX _).setCell hwX _⟩
          case measure => simp [intOf]; omega
      · cases pf with
        | true =>
          have PF : true = true ∨ ¬ CanB hi b bn := .inl rfl
          obtain ⟨i, hi1, hi2, hi3, -, -⟩ := HP.out.lt HC.out
          have R := hJ.pct _ _ _ _ _ _ _ _ HC.out HJ.out HP.out PF
          subst hi1
          go_wp2_with (at_builtin; refine app_hop rfl (.tmp 62) (.tmp 65) rfl (X + 1) _ hops wr pn domainB rfl rfl hown rfl (by omega) (by omega) ?_; intro v2 w3 hO3 hg3; have hbel3 : Below w.heap.size w w3 := (hbel.alloc hbel.size _).grown hg3 (by simp; exact Nat.le_trans hbel.size (Nat.le_succ _)) (fun k hk => Nat.le_trans hwX (Nat.le_of_succ_le (hown.row k hk))); have hK3 : Hid (w3.heap[X]? = some (.cells #[.string bn, .string bk] 40 (0, 0))) := (kept_block HK.out hXl hown hg3); have hX3 : X < w3.heap.size := Nat.lt_of_lt_of_le hXl (Nat.le_trans (by simp) hg3.size); clear hg3)
          refine (pct_any s lo i hs (by omega) (by omega) _).mono ?_
          rintro e w4 ⟨p', pn', rfl, hlp, hw4⟩
          obtain rfl := hw4.symm
          have HLP : Hid (LP s lo i p' pn') := hlp
          clear hlp hw4
          go_wp2_with fail
          go_roundw
          case rel => exact ⟨lo, i, b, bn, bk, p', pn', _, rfl, rfl, rfl, rfl, rfl, (HC.out.pct (by omega) (by omega) HLP.out), R, by simp; omega, by omega, by omega, hK3, hX3, hO3, hbel3⟩
          case measure => simp [intOf]; omega
        | false =>
          have PF : ¬ (CanP lo p pn ∧ (false = true ∨ ¬ CanB hi b bn)) := fun h => h.2.elim (fun e => by cases e) (fun e => e HB.out)
          obtain ⟨i, hi1, hi2, hi3, hi4, -⟩ := HB.out.lt HC.out
          have R := hJ.bang _ _ _ _ _ _ _ _ HC.out HJ.out PF HB.out
          subst hi1
          go_wp2_with (at_builtin; refine app_hop rfl (.tmp 77) (.tmp 79) rfl (X + 1) _ hops wr bn bk rfl rfl hown rfl (by omega) (by omega) ?_; intro v2 w3 hO3 hg3; have hbel3 : Below w.heap.size w w3 := (hbel.alloc hbel.size _).grown hg3 (by simp; exact Nat.le_trans hbel.size (Nat.le_succ _)) (fun k hk => Nat.le_trans hwX (Nat.le_of_succ_le (hown.row k hk))); have hK3 : Hid (w3.heap[X]? = some (.cells #[.string bn, .string bk] 40 (0, 0))) := (kept_block HK.out hXl hown hg3); have hX3 : X < w3.heap.size := Nat.lt_of_lt_of_le hXl (Nat.le_trans (by simp) hg3.size); clear hg3)
          refine (bang_any s (i + 1) hi hs (by omega) (by omega) _).mono ?_
          rintro e w4 ⟨b', bn', bk', rfl, hfb, hb4⟩
          have HFB : Hid (FB s (i + 1) hi b' bn' bk') := hfb
          have hK4 : w4.heap[X]? = some (.cells #[.string bn, .string bk] 40 (0, 0)) := by rw [hb4.block _ hX3]; exact hK3.out
          have hX4 : X < w4.heap.size := Nat.lt_of_lt_of_le hX3 hb4.size
          have hO4 : OwnsH w4 (X + 1) v2 (hops ++ [(bn, bk)]) := owns_below hO3 hb4
          have hbel4 : Below w.heap.size w w4 := hbel3.trans (hb4.mono hbel3.size)
          have hd0 : w4.cell? ⟨X, 0, none⟩ = some (.string bn) := by rw [Lib.cell_of_heap hK4]; rfl
          have hd1 : w4.cell? ⟨X, 1, none⟩ = some (.string bk) := by rw [Lib.cell_of_heap hK4]; rfl
          have hf0 := Lib.frozen_of_heap hK4 0
          have hf1 := Lib.frozen_of_heap hK4 1
          have HK4 : Hid (w4.heap[X]? = some (.cells #[.string bn, .string bk] 40 (0, 0))) := hK4
          clear hfb hb4 hO3 hbel3 hK3 hX3 hK4
          go_wp2_with fail
          go_roundw
          case rel => exact ⟨i + 1, hi, b', bn', bk', p, pn, _, by go_num, rfl, rfl, rfl, rfl, (HC.out.bang (by omega) (by omega) HFB.out), R, by simp; omega, by omega, by omega, two_cells _ _ HK4.out, by simpa using hX4, ownsRow_setCell_below (ownsRow_setCell_below hO4 (by simp) _) (by simp) _, (hbel4.setCell hwX _).setCell hwX _⟩
          case measure => simp [intOf]; omega

end Go.Proofs.Qxb6000014a
