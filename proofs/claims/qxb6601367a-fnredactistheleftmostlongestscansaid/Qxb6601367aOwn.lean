/-
  WHAT IS WRITTEN: an owned slice of bytes, appended to (a slice whatever its address; a constant; one byte); cuts of a slice; the three results; concat (16).
-/
import Derived.Test.Qxb6601367aMem
import Derived.Laws.AppendOwnNone
import Derived.Lib.AppendStr
namespace Go.Proofs.Qxb6601367a
open Go.RowKit

theorem Try.info5 : (Try.prog.info? 5).map (fun i => (i.zero, i.size, i.bytes)) = some (some (.int .u8 0), 1, 1) := by kernel_rfl

/-- Bytes as cells. -/
def cells (l : List UInt8) : List Value := l.map fun u => Value.int .u8 (u.toNat : Nat)
theorem cells_length (l : List UInt8) : (cells l).length = l.length := by simp [cells]
theorem cells_append (l k : List UInt8) : cells (l ++ k) = cells l ++ cells k := by simp [cells]
theorem cells_one (l : List UInt8) : ∀ u ∈ cells l, u.oneCell' = true := by
  intro u hu
  obtain ⟨b, _, rfl⟩ := List.mem_map.1 hu
  rfl
theorem cells_get (l : List UInt8) (j : Nat) (hj : j < l.length) : (cells l)[j]? = some (.int .u8 ((l.getD j 0).toNat : Nat)) := by simp [cells, hj]
theorem BRow.news {w : World} {a : Option Addr} {n : Nat} {l : List UInt8} {b o : Nat} (h : BRow w a n l b o) : ∀ j u, (cells l)[j]? = some u → w.cell? ((⟨b, o, none⟩ : Addr).add j) = some u := by
  intro j u hu
  have hj : j < l.length := by have := (List.getElem?_eq_some_iff.1 hu).1; rw [cells_length] at this; exact this
  rw [cells_get l j hj] at hu
  cases hu
  rw [show (⟨b, o, none⟩ : Addr).add j = ⟨b, o + j, none⟩ from by simp [Addr.add]]
  exact h.2.2 j (by rw [← h.1]; exact hj)

/-- v owns the bytes out. -/
def Owns (w : World) (base : Nat) (v : Value) (out : List UInt8) : Prop := w.ownsRow base 5 1 v out.length (cells out)
theorem Owns.nil (w : World) (base : Nat) : Owns w base (.slice none 0 0) [] := World.ownsRow_nil w base 5 1
theorem Owns.same {w w' : World} {base : Nat} {v : Value} {out : List UInt8} (h : Owns w base v out) (hs : Same w w') : Owns w' base v out := hs.owns h
theorem Owns.row {w : World} {base : Nat} {v : Value} {out : List UInt8} (h : Owns w base v out) : ∀ k, v.ownBlock = some k → base ≤ k := fun k hk => (World.ownsRow.lt h k hk).1

/-- 'append(out, x...)', x a slice of bytes whatever its address. -/
theorem app_bytes {w : World} {ops : Array Oper} {rest : List Oper} {o : Oper} {a : Act} {Q : Exit → Act → World → Prop} (hgd : o.guard = none) (s x : Operand)
    (ho : o.op = .call { callee := .builtin .append, args := #[s, x], argTypes := #[23, 23] }) (base : Nat) (v : Value) (out : List UInt8) (hs : a.eval s = v) (hown : Owns w base v out)
    (ao : Option Addr) (m c : Nat) (l : List UInt8) (b off : Nat) (hx : a.eval x = .slice ao m c) (hr : BRow w ao m l b off) (hnil : ao = none → m = 0 ∧ c = 0) (hsz : out.length + m ≤ 100000000) (hbase : base ≤ w.heap.size)
    (h : ∀ v' w', Owns w' base v' (out ++ l) → w.grownBy w' v.ownBlock → wpList Try.prog ops Q rest (a.put o.dst v') w') : wpList Try.prog ops Q (o :: rest) a w := by
  obtain ⟨i0, hi, hz0, hz1, hz2⟩ := info_parts Try.info5
  have hll := hr.1
  cases ao with
  | none =>
    obtain ⟨rfl, rfl⟩ := hnil rfl
    obtain rfl : l = [] := List.length_eq_zero_iff.1 hll
    refine wpList_append_own_none hgd s x 23 ho base 5 i0 1 Try.underlying23 hi v out.length (cells out) hs hown hx ?_
    have := h v w (by rw [List.append_nil]; exact hown) (World.grownBy.refl _ _)
    exact this
  | some ad =>
    refine wpList_append_own w hgd s x 23 ho base 5 i0 (.int .u8 0) 1 1 Try.underlying23 hi hz0 hz1 hz2 rfl (by decide) v out.length (cells out) hs hown ad m c (cells l) hx (by rw [cells_length]; omega) ?_ (cells_one l) (by unfold maxLen; omega) (by omega) hbase ?_
    · intro j u hu
      have hj : j < l.length := by have := (List.getElem?_eq_some_iff.1 hu).1; rw [cells_length] at this; exact this
      have h1 := hr.2.1 (by omega)
      cases h1
      exact hr.news j u hu
    · intro v' w' h1 h2 _
      refine h v' w' ?_ h2
      unfold Owns
      rw [cells_append, List.length_append, hll]
      exact h1

/-- 'append(out, "..."...)', a constant. -/
theorem app_str {w : World} {ops : Array Oper} {rest : List Oper} {o : Oper} {a : Act} {Q : Exit → Act → World → Prop} (hgd : o.guard = none) (s x : Operand)
    (ho : o.op = .call { callee := .builtin .append, args := #[s, x], argTypes := #[23, 9] }) (base : Nat) (v : Value) (out : List UInt8) (hs : a.eval s = v) (hown : Owns w base v out)
    (l : List UInt8) (hx : a.eval x = .string ⟨l.toArray⟩) (hsz : out.length + l.length ≤ 100000000) (hbase : base ≤ w.heap.size)
    (h : ∀ v' w', Owns w' base v' (out ++ l) → w.grownBy w' v.ownBlock → wpList Try.prog ops Q rest (a.put o.dst v') w') : wpList Try.prog ops Q (o :: rest) a w := by
  obtain ⟨i0, hi, hz0, hz1, hz2⟩ := info_parts Try.info5
  have hsize : (⟨l.toArray⟩ : ByteArray).size = l.length := by simp [ByteArray.size]
  refine Lib.wpList_append_own_string w hgd s x 23 9 ho base 5 i0 Try.underlying23 Try.underlying9 hi hz0 hz1 hz2 v out.length (cells out) hs hown ⟨l.toArray⟩ hx (by rw [hsize]; unfold maxLen; omega) (by rw [hsize]; omega) hbase ?_
  intro v' w' h1 h2 _
  refine h v' w' ?_ h2
  unfold Owns
  rw [cells_append, List.length_append]
  rw [hsize] at h1
  exact h1

/-! ### A slice of bytes as a result -/
def SlAt (w : World) (v : Value) (l : List UInt8) : Prop := ∃ (a : Option Addr) (c b o : Nat), v = .slice a l.length c ∧ BRow w a l.length l b o ∧ l.length ≤ c ∧ (a = none → l.length = 0 ∧ c = 0)
theorem Owns.sl {w : World} {base : Nat} {v : Value} {out : List UInt8} (h : Owns w base v out) : SlAt w v out := by
  have h0 := h
  rcases h.2 with ⟨h1, h2⟩ | ⟨g, cap, cur, h1, h2, h3, h4, h5, h6, h7⟩
  · exact ⟨none, 0, 0, 0, by rw [h1, h2], ⟨rfl, fun h => by omega, fun j hj => by omega⟩, by omega, fun _ => ⟨h2, rfl⟩⟩
  · refine ⟨some ⟨g, 0, none⟩, cap, g, 0, h1, ⟨rfl, fun _ => rfl, fun j hj => ?_⟩, h4, fun h => by cases h⟩
    unfold Owns at h0
    rw [h1] at h0
    rw [Nat.zero_add, World.ownsRow.cellAt h0 j (by omega)]
    exact cells_get out j hj
theorem SlAt.same {w w' : World} {v : Value} {l : List UInt8} (h : SlAt w v l) (hs : Same w w') : SlAt w' v l := by
  obtain ⟨a, c, b, o, h1, h2, h3, h4⟩ := h
  exact ⟨a, c, b, o, h1, h2.same hs, h3, h4⟩
theorem SlAt.below {w w' : World} {v : Value} {l : List UInt8} (h : SlAt w v l) {B : Nat} (hb : Below B w w') (hB : w.heap.size ≤ B) : SlAt w' v l := by
  obtain ⟨a, c, b, o, h1, h2, h3, h4⟩ := h
  exact ⟨a, c, b, o, h1, h2.below hb hB, h3, h4⟩

theorem size5 (wx : World) : (sizeOf (Try.prog.elem 23)).run Try.prog wx = .ok 1 wx := by kernel_rfl
/-- 'buf[p:]' -/
theorem BRow.tail {w : World} {a : Option Addr} {n : Nat} {l : List UInt8} {b o : Nat} (h : BRow w a n l b o) (c : Nat) (hcap : n ≤ c) (hnil : a = none → n = 0 ∧ c = 0) (p : Nat) (hp : p ≤ n) :
    ∃ (a' : Option Addr) (c' : Nat), (∀ wx, (Instr.slice 23 (.slice a n c) (some (.int .i64 (p : Int))) none none).run Try.prog wx = .ok (.slice a' (n - p) c') wx) ∧ BRow w a' (n - p) (l.drop p) b (o + p) ∧ n - p ≤ c' ∧ (a' = none → n - p = 0 ∧ c' = 0) := by
  refine ⟨if c = p then a else a.map (·.add (p * 1)), c - p, fun wx => ?_, ⟨by rw [List.length_drop, h.1], fun h0 => ?_, fun j hj => ?_⟩, by omega, fun h0 => ?_⟩
  · rw [run_slice_l (P := Try.prog) wx 23 a n c (by kernel_rfl) .i64 (p : Int) (by omega) (by omega), size5]
    simp [Result.andThen, sliced]
  · rw [if_neg (by omega), h.2.1 (by omega)]
    simp [Addr.add]
  · rw [show o + p + j = o + (p + j) by omega, h.2.2 (p + j) (by omega)]
    simp
  · by_cases hc : c = p
    · omega
    · rw [if_neg hc] at h0
      have := hnil (by simpa using h0)
      omega
/-- 'buf[lo:hi]' -/
theorem BRow.mid {w : World} {a : Option Addr} {n : Nat} {l : List UInt8} {b o : Nat} (h : BRow w a n l b o) (c : Nat) (hcap : n ≤ c) (hnil : a = none → n = 0 ∧ c = 0) (p q : Nat) (hp : p ≤ q) (hq : q ≤ n) :
    ∃ (a' : Option Addr) (c' : Nat), (∀ wx, (Instr.slice 23 (.slice a n c) (some (.int .i64 (p : Int))) (some (.int .i64 (q : Int))) none).run Try.prog wx = .ok (.slice a' (q - p) c') wx) ∧ BRow w a' (q - p) ((l.drop p).take (q - p)) b (o + p) ∧ q - p ≤ c' ∧ (a' = none → q - p = 0 ∧ c' = 0) := by
  have hl := h.1
  refine ⟨if c = p then a else a.map (·.add (p * 1)), c - p, fun wx => ?_, ⟨by rw [List.length_take, List.length_drop]; omega, fun h0 => ?_, fun j hj => ?_⟩, by omega, fun h0 => ?_⟩
  · rw [run_slice_lh (P := Try.prog) wx 23 a n c (by kernel_rfl) .i64 .i64 (p : Int) (q : Int) (by omega) (by omega) (by omega), size5]
    simp [Result.andThen, sliced]
  · rw [if_neg (by omega), h.2.1 (by omega)]
    simp [Addr.add]
  · rw [show o + p + j = o + (p + j) by omega, h.2.2 (p + j) (by omega)]
    simp [hj]
  · by_cases hc : c = p
    · omega
    · rw [if_neg hc] at h0
      have := hnil (by simpa using h0)
      omega

/-! ### concat -/
def ConcatSaid (w : World) (l : List UInt8) (e : Ending) (w' : World) : Prop := ∃ v, e = .returned v ∧ SlAt w' v l ∧ Below w.heap.size w w'

set_option maxHeartbeats 400000 in
theorem concat_any (a0 : Option Addr) (n0 c0 : Nat) (l0 : List UInt8) (b0 o0 : Nat) (a1 : Option Addr) (n1 c1 : Nat) (l1 : List UInt8) (b1 o1 : Nat) (w : World) (h0 : BRow w a0 n0 l0 b0 o0) (h1 : BRow w a1 n1 l1 b1 o1)
    (hnil0 : a0 = none → n0 = 0 ∧ c0 = 0) (hnil1 : a1 = none → n1 = 0 ∧ c1 = 0) (hn0 : n0 ≤ 30000000) (hn1 : n1 ≤ 30000000) :
    Calls Try.prog 16 #[.slice a0 n0 c0, .slice a1 n1 c1] w fun e w' => ConcatSaid w (l0 ++ l1) e w' := by
  obtain ⟨i0, hi, hz0, hz1, hz2⟩ := info_parts Try.info5
  go_enter Try.func16, Try.ntmps16
  go_wp2_with (first | (at_make; refine wpList_make_own _ rfl _ _ 23 rfl w.heap.size 5 i0 _ 1 Try.underlying23 hi hz0 hz1 _ _ _ (n0 + n1) rfl rfl (by first | rfl | omega) (by rw [hz2]; omega) (by unfold maxLen; omega) (by simp) ?_; intro w1 hown1 hg1; have hbel1 : Below w.heap.size w w1 := (Below.refl _ _).grown hg1 (Nat.le_refl _) (by simp); have hO1 : Owns w1 w.heap.size (.slice (some ⟨w.heap.size, 0, none⟩) 0 (n0 + n1)) [] := hown1; clear hown1 hg1) | (at_builtin; refine app_bytes rfl (.tmp 12) (.tmp 13) rfl w.heap.size _ [] rfl hO1 a0 n0 c0 l0 b0 o0 rfl (h0.below hbel1 (Nat.le_refl _)) hnil0 (by simp; omega) hbel1.size ?_; intro v2 w2 hO2 hg2; have hbel2 : Below w.heap.size w w2 := hbel1.grown hg2 hbel1.size hO1.row; rw [List.nil_append] at hO2; clear hg2) | (at_builtin; refine app_bytes rfl (.tmp 15) (.tmp 16) rfl w.heap.size _ l0 rfl hO2 a1 n1 c1 l1 b1 o1 rfl (h1.below hbel2 (Nat.le_refl _)) hnil1 (by have := h0.1; omega) hbel2.size ?_; intro v3 w3 hO3 hg3; have hbel3 : Below w.heap.size w w3 := hbel2.grown hg3 hbel2.size hO2.row; clear hg3))
  go_ret
  exact ⟨_, rfl, hO3.sl, hbel3⟩

end Go.Proofs.Qxb6601367a
