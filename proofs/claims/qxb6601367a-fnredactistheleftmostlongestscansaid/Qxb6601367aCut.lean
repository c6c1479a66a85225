/-
  (redactor).cut (29), one credential or more.
-/
import Derived.Test.Qxb6601367aScan
import Derived.Test.Qxb6601367aIndex
import Derived.Deep.CutRange
namespace Go.Proofs.Qxb6601367a
open Go.RowKit
open Go.Lib (occAt index)

theorem Try.info3 : (Try.prog.info? 3).map (fun i => (i.zero, i.size, i.bytes)) = some (some (.int .i64 0), 1, 8) := by kernel_rfl

/-- The array 'next', at block B. -/
def NextRow (w : World) (B n : Nat) (xs : List Int) : Prop := xs.length = n ∧ w.ownsRow B 3 1 (.slice (some ⟨B, 0, none⟩) n n) n (xs.map (Value.int .i64))
theorem NextRow.same {w w' : World} {B n : Nat} {xs : List Int} (h : NextRow w B n xs) (hs : Same w w') : NextRow w' B n xs := ⟨h.1, hs.owns h.2⟩
theorem NextRow.cell {w : World} {B n : Nat} {xs : List Int} (h : NextRow w B n xs) {t : Nat} (ht : t < n) : w.cell? ⟨B, t, none⟩ = some (.int .i64 (xs.getD t 0)) := by
  have hl := h.1
  rw [World.ownsRow.cellAt h.2 t (by omega)]
  simp [hl, ht]
theorem NextRow.free {w : World} {B n : Nat} {xs : List Int} (h : NextRow w B n xs) (t : Nat) : w.frozen? ⟨B, t, none⟩ = false := World.ownsRow.frozenAt h.2 t
theorem NextRow.put {w : World} {B n : Nat} {xs : List Int} (h : NextRow w B n xs) (t : Nat) (x : Int) : NextRow (w.setCell ⟨B, t, none⟩ (.int .i64 x)) B n (xs.set t x) := by
  refine ⟨by rw [List.length_set]; exact h.1, ?_⟩
  rw [List.map_set]
  exact (World.ownsRow.stored h.2 t (.int .i64 x)).1
theorem NextRow.grown {w w' : World} {B n : Nat} {xs : List Int} (h : NextRow w B n xs) {row : Option Nat} (hg : w.grownBy w' row) (hr : row ≠ some B) : NextRow w' B n xs :=
  ⟨h.1, World.ownsRow.kept h.2 hg (.inr (by simpa [Value.ownBlock] using Ne.symm hr))⟩

theorem Owns.put {w : World} {B : Nat} {v : Value} {out : List UInt8} (h : Owns w (B + 1) v out) (j : Nat) (x : Value) : Owns (w.setCell ⟨B, j, none⟩ x) (B + 1) v out := ownsRow_setCell_below h (by show B < B + 1; omega) x
theorem NextRow.lt {w : World} {B n : Nat} {xs : List Int} (h : NextRow w B n xs) : B + 1 ≤ w.heap.size := (World.ownsRow.lt h.2 B rfl).2
/-- The head credential is the longest. -/
theorem maxl_head {v : List UInt8} {us : List (List UInt8)} (h : Wf (v :: us)) : maxl (v :: us) = v.length := by
  have hv : 0 < v.length := List.length_pos_iff.2 (h.1 v (by simp))
  unfold maxl
  rw [List.foldl_cons, if_pos hv]
  have key : ∀ (us : List (List UInt8)), (∀ u ∈ us, u.length ≤ v.length) → us.foldl (fun m v => if m < v.length then v.length else m) v.length = v.length := by
    intro us
    induction us with
    | nil => intro _; rfl
    | cons u us ih =>
      intro hu
      rw [List.foldl_cons, if_neg (by have := hu u (by simp); omega)]
      exact ih (fun x hx => hu x (by simp [hx]))
  have hp := h.2
  rw [List.pairwise_cons] at hp
  exact key us hp.1

/-- .. where none is found before E: what is left is kept. -/
theorem Tot.last {vs : List (List UInt8)} {buf : List UInt8} {E : Nat} {o : List UInt8} {i n : Nat} (h : Tot vs buf E o i n) (hE : E ≤ buf.length) (hq : ∀ q, i ≤ q → q < E → longest vs buf q = 0) {M : Nat} (hM : M = max E i) :
    S vs buf E 0 = (o ++ (buf.drop i).take (M - i), M, n) := by
  subst hM
  by_cases he : E ≤ i
  · rw [Nat.max_eq_right he, Nat.sub_self, List.take_zero, List.append_nil]
    exact h.done he
  · rw [Nat.max_eq_left (by omega)]
    have := h.skip hE (E - i) (by omega) (fun q h1 h2 => hq q h1 (by omega))
    rw [show i + (E - i) = E by omega] at this
    exact this.done (Nat.le_refl _)

theorem bs_getD {vs : List Sl} {j : Nat} {s : Sl} (h : Hid (vs[j]? = some s)) : (bs vs).getD j [] = s.l := by
  rw [List.getD_eq_getElem?_getD, bs, List.getElem?_map, h.out]
  rfl

set_option maxHeartbeats 4000000 in
set_option maxRecDepth 100000 in
theorem cut_some (a0 : Option Addr) (n0 c0 : Nat) (vs : List Sl) (b0 o0 : Nat) (a1 : Option Addr) (n1 c1 : Nat) (buf : List UInt8) (b1 o1 : Nat) (fin : Bool) (m : Int) (w : World)
    (hr0 : VRow w a0 n0 vs b0 o0) (hr1 : BRow w a1 n1 buf b1 o1) (hp0 : 0 < n0) (hn0 : n0 ≤ 1048576) (hn1 : n1 ≤ 1048576) (hsm : ∀ s ∈ vs, s.l.length ≤ 1048576) (hwf : Wf (bs vs)) (hcap : n1 ≤ c1) (hnil : a1 = none → n1 = 0 ∧ c1 = 0)
    (hmx : w.cell? ⟨0, 0, none⟩ = some (.int .i64 m)) :
    Calls Try.prog 29 #[.agg #[.slice a0 n0 c0], .slice a1 n1 c1, .bool fin] w fun e w' => CutSaid w (S (bs vs) buf (endOf (bs vs) buf fin) 0) buf e w' := by
  have HS : Hid (∀ s ∈ vs, s.l.length ≤ 1048576) := hsm
  have HLB : Hid (buf.length = n1) := hr1.1
  have HW : Hid (Wf (bs vs)) := hwf
  have HLV : Hid ((bs vs).length = n0) := by show _ = _; rw [bs, List.length_map]; exact hr0.1
  obtain ⟨s0, hks0, hcell00, _, _⟩ := hr0.cell hp0
  have hs0b := HS.out s0 (List.mem_of_getElem? hks0.out)
  have hs0p : 0 < s0.l.length := List.length_pos_iff.2 (hwf.1 _ (List.mem_map.2 ⟨s0, List.mem_of_getElem? hks0.out, rfl⟩))
  obtain ⟨E, hE⟩ : ∃ E, endOf (bs vs) buf fin = E := ⟨_, rfl⟩
  have hmh : maxl (bs vs) = s0.l.length := by
    cases vs with
    | nil => have := hks0.out; simp at this
    | cons v us =>
      have : v = s0 := by have := hks0.out; simpa using this
      subst this
      exact maxl_head hwf
  have hEv : E = if fin = true then n1 else n1 - (s0.l.length - 1) := by rw [← hE, endOf, HLB.out, hmh]
  rw [hE]
  clear hE hmh hsm hwf
  obtain ⟨w1, hw1⟩ : ∃ w1, w.alloc (.cells #[.slice a0 n0 c0] 46) = w1 := ⟨_, rfl⟩
  have hb1 : Below w.heap.size w w1 := by rw [← hw1]; exact (Below.refl _ _).alloc (Nat.le_refl _) _
  have HZ1 : Hid (w1.heap.size = w.heap.size + 1) := by show _ = _; rw [← hw1]; simp
  have hbox : w1.cell? ⟨w.heap.size, 0, none⟩ = some (.slice a0 n0 c0) := by rw [← hw1, World.cell?_alloc_at _ _ _ _ rfl]; rfl
  have hq0 := hr0.below hb1 (Nat.le_refl _)
  have hq1 := hr1.below hb1 (Nat.le_refl _)
  have hmx1 : w1.cell? ⟨0, 0, none⟩ = some (.int .i64 m) := by rw [hb1.cell (p := ⟨0, 0, none⟩) (World.block_lt_of_cell? _ _ hmx)]; exact hmx
  have HW1 : Hid (w.alloc (.cells #[.slice a0 n0 c0] 46) = w1) := hw1
  have hi0 : ∀ (c : Nat) (wx : World), (Instr.indexAt 22 (.slice a0 n0 c) (.int .i64 0)).run Try.prog wx = .ok (.pointer (some ⟨b0, o0, none⟩)) wx := hr0.idx hp0
  have hc0 : w.cell? ⟨b0, o0, none⟩ = some (.slice s0.a s0.l.length s0.c) := hcell00
  have hb0 : b0 < w.heap.size := World.block_lt_of_cell? _ _ hc0
  clear hw1 hcell00 hmx hr0 hr1
  have hz0 : ((n0 : Int) == 0) = false := by rw [beq_eq_false_iff_ne]; omega
  obtain ⟨i0, hi, hzz0, hzz1, hzz2⟩ := info_parts Try.info3
  have hEle : E ≤ n1 := by rw [hEv]; split <;> omega
  have HEv : Hid (E = if fin = true then n1 else n1 - (s0.l.length - 1)) := hEv
  clear hEv
  go_enter Try.func29, Try.ntmps29
  go_upto_if 27 with fail
  go_cut [9] from 28 (fun x wc => x = .int .i64 (E : Nat) ∧ wc = w1)
  case first =>
    cases fin with
    | true =>
      go_wp2
      go_meet
      case rel => exact ⟨congrArg (Value.int .i64) (by have := HEv.out; simp at this; omega), HW1.out⟩
    | false =>
      go_wp2
      go_meet
      case rel => exact ⟨congrArg (Value.int .i64) (by have := HEv.out; simp at this; omega), HW1.out⟩
  case rest =>
    obtain ⟨rfl, hwc⟩ := hcut
    obtain rfl := hwc.symm
    have hzlt : w.heap.size < w1.heap.size := by rw [HZ1.out]; simp
    have hg0 : 0 < w1.heap.size := by omega
    clear hi0 hc0 hb0 hz0 HW1 HZ1 HEv hs0p hs0b hks0
    go_wp2_with (at_make; refine wpList_make_full _ rfl _ _ 52 rfl w1.heap.size 3 i0 _ 1 Try.underlying52 hi hzz0 hzz1 _ _ _ _ n0 rfl rfl (by first | rfl | simp) (by first | rfl | simp) (by rw [hzz2]; omega) (by unfold maxLen; omega) (by simp) ?_; intro w2 hown2 hg2; have hb2 : Below w1.heap.size w1 w2 := (Below.refl _ _).grown hg2 (Nat.le_refl _) (by simp); have hbox2 := (hb2.cell (p := ⟨w.heap.size, 0, none⟩) hzlt).trans hbox; clear hg2)
    have hnr2 : NextRow w2 w1.heap.size n0 (List.replicate n0 0) := by
      refine ⟨by simp, ?_⟩
      have e : (madeCells (Value.int .i64 0).cells (n0 * 1)).toList = List.replicate n0 (.int .i64 0) := by
        rw [Nat.mul_one]; exact toList_madeCells_one _ _
      rw [e] at hown2
      rw [List.map_replicate]
      exact hown2
    clear hown2 hi hzz0 hzz1 hzz2 hbox2
    go_loopw [45] (fun i wr => ∃ (k : Nat) (xs : List Int), k ≤ n0 ∧ i = .int .i64 k ∧ NextRow wr w1.heap.size n0 xs ∧ Hid (∀ t, t < k → Fresh buf ((bs vs).getD t []) 0 (xs.getD t 0)) ∧ Below w1.heap.size w1 wr) (fun i _ => n0 - (intOf i).toNat)
    case atStart => exact ⟨0, _, Nat.zero_le _, rfl, hnr2, fun t ht => absurd ht (Nat.not_lt_zero _), hb2⟩
    case round =>
      obtain ⟨k, xs, hk, rfl, hnr, HF, hbel⟩ := hrel
      by_cases hlt : k < n0
      · have hj := (hq0.below hbel (Nat.le_refl _)).idx hlt
        obtain ⟨s, hks, hcell, hrs, _⟩ := (hq0.below hbel (Nat.le_refl _)).cell hlt
        have hsb := HS.out s (List.mem_of_getElem? hks.out)
        have hsn : s.l ≠ [] := HW.out.1 _ (List.mem_map.2 ⟨s, List.mem_of_getElem? hks.out, rfl⟩)
        have hmxr := (hbel.cell (p := ⟨0, 0, none⟩) hg0).trans hmx1
        go_wp2_with fail
        refine (index_any a1 n1 c1 buf b1 o1 s.a s.l.length s.c s.l s.b s.o m _ (hq1.below hbel (Nat.le_refl _)) hrs hnil hcap hn1 (List.length_pos_iff.2 hsn) hsb hmxr).mono ?_
        rintro e w3 ⟨rfl, hs3⟩
        have hnr3 := hnr.same hs3
        have hbel3 := hbel.trans (hs3.below _)
        have hcx := hnr3.cell hlt
        have hfx := hnr3.free k
        have hib := index_bound buf s.l hsn
        have R1 := hnr3.put k (index buf s.l)
        have R2 : Below w1.heap.size w1 (w3.setCell ⟨w1.heap.size, k, none⟩ (.int .i64 (index buf s.l))) := hbel3.setCell (Nat.le_refl _) _
        have R3 : Hid (∀ t, t < k + 1 → Fresh buf ((bs vs).getD t []) 0 ((xs.set k (index buf s.l)).getD t 0)) := by
          intro t ht
          by_cases e : t = k
          · subst e
            rw [getD_set_same xs t _ (by rw [hnr.1]; exact hlt), bs_getD hks]
            exact fresh_index buf s.l hsn
          · rw [getD_set_other xs k t _ e]
            exact HF.out t (by omega)
        clear hnr hbel hs3 HF hrs
        go_wp2
        go_roundw
        case rel => exact ⟨k + 1, _, by omega, by go_num, R1, R3, R2⟩
        case measure => simp [intOf]; omega
      · have hkn : n0 ≤ k := by omega
        have hout : Out (bs vs) buf 0 xs := ⟨by rw [HLV.out]; exact hnr.1, fun t ht => .inl (HF.out t (by rw [HLV.out] at ht; omega))⟩
        have HOUT : Hid (Out (bs vs) buf 0 xs) := hout
        clear hout HF hnr2 hb2
        go_wp2
        go_loopw [8, 13, 14] (fun nn v ii wr => ∃ (i kn : Nat) (out : List UInt8) (xs : List Int), ii = .int .i64 (i : Nat) ∧ nn = .int .i64 (kn : Nat) ∧ Owns wr (w1.heap.size + 1) v out ∧ NextRow wr w1.heap.size n0 xs ∧ Hid (Out (bs vs) buf i xs) ∧ Tot (bs vs) buf E out i kn ∧ Below w1.heap.size w1 wr) (fun _ _ ii _ => n1 + 1 - (intOf ii).toNat)
        case atStart => exact ⟨0, 0, [], xs, rfl, rfl, Owns.nil _ _, hnr, HOUT, Tot.zero _ _ _, hbel⟩
        case round =>
          clear hnr HOUT hbel
          obtain ⟨i, kn, out, xs0, rfl, rfl, hO0, hnr0, HOUT, htot, hbel0⟩ := hrel
          have hin1 : i ≤ n1 := by rw [← HLB.out]; exact htot.2.1
          have hbox2 := (hbel0.cell (p := ⟨w.heap.size, 0, none⟩) hzlt).trans hbox
          obtain ⟨wo, rfl⟩ : ∃ wo : World, wo = wr := ⟨_, rfl⟩
          go_wp2
          go_loopw [15, 60] (fun f c wr => ∃ (j : Nat) (fi : Int) (xs : List Int), c = .int .i64 (j : Nat) ∧ f = .int .i64 fi ∧ j ≤ n0 ∧ NextRow wr w1.heap.size n0 xs ∧ Inn (bs vs) buf i xs j fi ∧ Owns wr (w1.heap.size + 1) u13 out ∧ Below w1.heap.size w1 wr) (fun _ c _ => n0 - (intOf c).toNat)
          case atStart => exact ⟨0, -1, xs0, rfl, rfl, Nat.zero_le _, hnr0, HOUT.out.inn, hO0, hbel0⟩
          case round =>
            clear hnr0 HOUT hO0 hbel0 hbox2
            obtain ⟨j, fi, xs, rfl, rfl, hj, hnr, hinn, hO, hbel⟩ := hrel
            by_cases hlt : j < n0
            · have hj1 := (hq0.below hbel (Nat.le_refl _)).idx hlt
              obtain ⟨s, hks, hcell, hrs, _⟩ := (hq0.below hbel (Nat.le_refl _)).cell hlt
              have hsb := HS.out s (List.mem_of_getElem? hks.out)
              have hsn : s.l ≠ [] := HW.out.1 _ (List.mem_map.2 ⟨s, List.mem_of_getElem? hks.out, rfl⟩)
              have hmxr := (hbel.cell (p := ⟨0, 0, none⟩) hg0).trans hmx1
              obtain ⟨x, hx⟩ : ∃ x, xs.getD j 0 = x := ⟨_, rfl⟩
              have HX : Hid (xs.getD j 0 = x) := hx
              clear hx
              have hcx := hnr.cell hlt
              rw [HX.out] at hcx
              rcases hinn.2.2.2 with ⟨rfl, _⟩ | ⟨g, rfl, hgj, _, _, _⟩
              · by_cases hst : 0 ≤ x ∧ x < i
                · obtain ⟨hx0, hxi⟩ := hst
                  have hi1 : i ≤ n1 := hin1
                  obtain ⟨a', c', hsl, hr', hcap', hnil'⟩ := (hq1.below hbel (Nat.le_refl _)).tail c1 hcap hnil i hi1
                  have hfa := fresh_again buf s.l hsn i
                  have hib := index_bound (buf.drop i) s.l hsn
                  go_wp2_with fail
                  refine (index_any a' (n1 - i) c' (buf.drop i) b1 (o1 + i) s.a s.l.length s.c s.l s.b s.o m _ hr' hrs hnil' hcap' (by omega) (List.length_pos_iff.2 hsn) hsb hmxr).mono ?_
                  rintro e w3 ⟨rfl, hs3⟩
                  have hnr3 := hnr.same hs3
                  have hbel3 := hbel.trans (hs3.below _)
                  have hO3 := hO.same hs3
                  have hfx := hnr3.free j
                  have hcx3 := hnr3.cell hlt
                  rw [HX.out] at hcx3
                  have hdl : (buf.drop i).length ≤ n1 := by rw [List.length_drop, HLB.out]; omega
                  obtain ⟨r, hr⟩ : ∃ r, index (buf.drop i) s.l = r := ⟨_, rfl⟩
                  rw [hr] at hfa hib ⊢
                  have hrb : r ≤ n1 := by omega
                  clear hr hsl hr' hcap' hnil' hs3 hnr hbel hO hcx hib
                  by_cases hr0 : 0 ≤ r
                  · have HP := hinn.put (by rw [HLV.out]; exact hlt) (by rw [bs_getD hks]; exact hfa.1 hr0)
                    clear hfa
                    go_wp2
                    obtain ⟨W, hW⟩ : ∃ W, W = w3.setCell ⟨w1.heap.size, j, none⟩ (.int .i64 (i + r)) := ⟨_, rfl⟩
                    rw [← hW]
                    have HN : NextRow W w1.heap.size n0 (xs.set j (i + r)) := by rw [hW]; exact hnr3.put j (i + r)
                    have HB : Below w1.heap.size w1 W := by rw [hW]; exact hbel3.setCell (Nat.le_refl _) _
                    have HO : Owns W (w1.heap.size + 1) u13 out := by rw [hW]; exact hO3.put j _
                    have cj := HN.cell hlt
                    rw [getD_set_same xs j _ (by rw [hnr3.1]; exact hlt)] at cj
                    clear hW hnr3 hbel3 hO3 hfx hcx3 HX
                    have hxp : 0 ≤ (i : Int) + r := by omega
                    have HI := HP.1 ⟨by omega, .inl (by omega)⟩
                    clear HP
                    go_quiet (fail)
                    go_wp2
                    go_roundw
                    case rel => exact ⟨j + 1, (j : Int), _, by go_num, rfl, by omega, HN.same (Same.drewN _ _), HI, HO.same (Same.drewN _ _), HB.trans ((Same.drewN _ _).below _)⟩
                    case measure => simp [intOf]; omega
                  · have HP := hinn.put (by rw [HLV.out]; exact hlt) (by rw [bs_getD hks]; exact hfa.2 (by omega))
                    clear hfa
                    go_wp2
                    obtain ⟨W, hW⟩ : ∃ W, W = w3.setCell ⟨w1.heap.size, j, none⟩ (.int .i64 (-1)) := ⟨_, rfl⟩
                    rw [← hW]
                    have HN : NextRow W w1.heap.size n0 (xs.set j (-1)) := by rw [hW]; exact hnr3.put j (-1)
                    have HB : Below w1.heap.size w1 W := by rw [hW]; exact hbel3.setCell (Nat.le_refl _) _
                    have HO : Owns W (w1.heap.size + 1) u13 out := by rw [hW]; exact hO3.put j _
                    have cj := HN.cell hlt
                    rw [getD_set_same xs j _ (by rw [hnr3.1]; exact hlt)] at cj
                    clear hW hnr3 hbel3 hO3 hfx hcx3 HX
                    have hd : decide (0 ≤ (-1 : Int)) = false := decide_eq_false (by omega)
                    have HI := HP.2 (by rintro ⟨h1, _⟩; omega)
                    clear HP
                    go_quiet (fail)
                    go_wp2
                    go_roundw
                    case rel => exact ⟨j + 1, -1, _, by go_num, rfl, by omega, HN.same (Same.drewN _ _), HI, HO.same (Same.drewN _ _), HB.trans ((Same.drewN _ _).below _)⟩
                    case measure => simp [intOf]; omega
                · have hfr : Fresh buf ((bs vs).getD j []) i (xs.getD j 0) := by
                    rcases hinn.2.2.1 j (Nat.le_refl _) (by rw [HLV.out]; exact hlt) with h | h
                    · exact h
                    · rw [HX.out] at h; exact absurd h hst
                  have HP := hinn.keep (by rw [HLV.out]; exact hlt) hfr
                  rw [HX.out] at HP
                  have HN := hnr
                  have HB := hbel
                  have HO := hO
                  have cj := hcx
                  clear hfr hnr hbel hO
                  by_cases hx0 : 0 ≤ x
                  · have hxi : ¬ x < (i : Int) := fun h => hst ⟨hx0, h⟩
                    clear hst
                    go_wp2
                    have HI := HP.1 ⟨by omega, .inl (by omega)⟩
                    clear HP
                    go_quiet (fail)
                    go_wp2
                    go_roundw
                    case rel => exact ⟨j + 1, (j : Int), _, by go_num, rfl, by omega, HN.same (Same.drewN _ _), HI, HO.same (Same.drewN _ _), HB.trans ((Same.drewN _ _).below _)⟩
                    case measure => simp [intOf]; omega
                  · clear hst
                    go_wp2
                    have hd : decide (0 ≤ x) = false := decide_eq_false (by omega)
                    have HI := HP.2 (by rintro ⟨h1, _⟩; omega)
                    clear HP
                    go_quiet (fail)
                    go_wp2
                    go_roundw
                    case rel => exact ⟨j + 1, -1, _, by go_num, rfl, by omega, HN.same (Same.drewN _ _), HI, HO.same (Same.drewN _ _), HB.trans ((Same.drewN _ _).below _)⟩
                    case measure => simp [intOf]; omega
              · by_cases hst : 0 ≤ x ∧ x < i
                · obtain ⟨hx0, hxi⟩ := hst
                  have hi1 : i ≤ n1 := hin1
                  obtain ⟨a', c', hsl, hr', hcap', hnil'⟩ := (hq1.below hbel (Nat.le_refl _)).tail c1 hcap hnil i hi1
                  have hfa := fresh_again buf s.l hsn i
                  have hib := index_bound (buf.drop i) s.l hsn
                  go_wp2_with fail
                  refine (index_any a' (n1 - i) c' (buf.drop i) b1 (o1 + i) s.a s.l.length s.c s.l s.b s.o m _ hr' hrs hnil' hcap' (by omega) (List.length_pos_iff.2 hsn) hsb hmxr).mono ?_
                  rintro e w3 ⟨rfl, hs3⟩
                  have hnr3 := hnr.same hs3
                  have hbel3 := hbel.trans (hs3.below _)
                  have hO3 := hO.same hs3
                  have hfx := hnr3.free j
                  have hcx3 := hnr3.cell hlt
                  rw [HX.out] at hcx3
                  have hdl : (buf.drop i).length ≤ n1 := by rw [List.length_drop, HLB.out]; omega
                  obtain ⟨r, hr⟩ : ∃ r, index (buf.drop i) s.l = r := ⟨_, rfl⟩
                  rw [hr] at hfa hib ⊢
                  have hrb : r ≤ n1 := by omega
                  clear hr hsl hr' hcap' hnil' hs3 hnr hbel hO hcx hib
                  by_cases hr0 : 0 ≤ r
                  · have HP := hinn.put (by rw [HLV.out]; exact hlt) (by rw [bs_getD hks]; exact hfa.1 hr0)
                    clear hfa
                    go_wp2
                    obtain ⟨W, hW⟩ : ∃ W, W = w3.setCell ⟨w1.heap.size, j, none⟩ (.int .i64 (i + r)) := ⟨_, rfl⟩
                    rw [← hW]
                    have HN : NextRow W w1.heap.size n0 (xs.set j (i + r)) := by rw [hW]; exact hnr3.put j (i + r)
                    have HB : Below w1.heap.size w1 W := by rw [hW]; exact hbel3.setCell (Nat.le_refl _) _
                    have HO : Owns W (w1.heap.size + 1) u13 out := by rw [hW]; exact hO3.put j _
                    have cj := HN.cell hlt
                    rw [getD_set_same xs j _ (by rw [hnr3.1]; exact hlt)] at cj
                    have HG : xs.getD g 0 = (xs.set j (i + r)).getD g 0 := (getD_set_other xs j g _ (by omega)).symm
                    clear hW hnr3 hbel3 hO3 hfx hcx3 HX
                    have hxp : 0 ≤ (i : Int) + r := by omega
                    have cg := HN.cell (t := g) (by omega)
                    have hgd : decide ((g : Int) < 0) = false := decide_eq_false (by omega)
                    have hgn : (g : Int) < (n0 : Int) := by omega
                    obtain ⟨y, hy⟩ : ∃ y, (xs.set j (i + r)).getD g 0 = y := ⟨_, rfl⟩
                    rw [hy] at cg
                    rw [Int.toNat_natCast, HG, hy] at HP
                    clear hy HG
                    by_cases hxy : (i : Int) + r < y
                    · have HI := HP.1 ⟨by omega, .inr hxy⟩
                      clear HP
                      go_quiet (fail)
                      go_wp2
                      go_roundw
                      case rel => exact ⟨j + 1, (j : Int), _, by go_num, rfl, by omega, HN.same (Same.drewN _ _), HI, HO.same (Same.drewN _ _), HB.trans ((Same.drewN _ _).below _)⟩
                      case measure => simp [intOf]; omega
                    · have HI := HP.2 (by rintro ⟨_, h2 | h2⟩ <;> omega)
                      clear HP
                      go_quiet (fail)
                      go_wp2
                      go_roundw
                      case rel => exact ⟨j + 1, (g : Int), _, by go_num, rfl, by omega, HN.same (Same.drewN _ _), HI, HO.same (Same.drewN _ _), HB.trans ((Same.drewN _ _).below _)⟩
                      case measure => simp [intOf]; omega
                  · have HP := hinn.put (by rw [HLV.out]; exact hlt) (by rw [bs_getD hks]; exact hfa.2 (by omega))
                    clear hfa
                    go_wp2
                    obtain ⟨W, hW⟩ : ∃ W, W = w3.setCell ⟨w1.heap.size, j, none⟩ (.int .i64 (-1)) := ⟨_, rfl⟩
                    rw [← hW]
                    have HN : NextRow W w1.heap.size n0 (xs.set j (-1)) := by rw [hW]; exact hnr3.put j (-1)
                    have HB : Below w1.heap.size w1 W := by rw [hW]; exact hbel3.setCell (Nat.le_refl _) _
                    have HO : Owns W (w1.heap.size + 1) u13 out := by rw [hW]; exact hO3.put j _
                    have cj := HN.cell hlt
                    rw [getD_set_same xs j _ (by rw [hnr3.1]; exact hlt)] at cj
                    clear hW hnr3 hbel3 hO3 hfx hcx3 HX
                    have hd : decide (0 ≤ (-1 : Int)) = false := decide_eq_false (by omega)
                    have HI := HP.2 (by rintro ⟨h1, _⟩; omega)
                    clear HP
                    go_quiet (fail)
                    go_wp2
                    go_roundw
                    case rel => exact ⟨j + 1, (g : Int), _, by go_num, rfl, by omega, HN.same (Same.drewN _ _), HI, HO.same (Same.drewN _ _), HB.trans ((Same.drewN _ _).below _)⟩
                    case measure => simp [intOf]; omega
                · have hfr : Fresh buf ((bs vs).getD j []) i (xs.getD j 0) := by
                    rcases hinn.2.2.1 j (Nat.le_refl _) (by rw [HLV.out]; exact hlt) with h | h
                    · exact h
                    · rw [HX.out] at h; exact absurd h hst
                  have HP := hinn.keep (by rw [HLV.out]; exact hlt) hfr
                  rw [HX.out] at HP
                  have HN := hnr
                  have HB := hbel
                  have HO := hO
                  have cj := hcx
                  clear hfr hnr hbel hO
                  by_cases hx0 : 0 ≤ x
                  · have hxi : ¬ x < (i : Int) := fun h => hst ⟨hx0, h⟩
                    clear hst
                    go_wp2
                    have cg := HN.cell (t := g) (by omega)
                    have hgd : decide ((g : Int) < 0) = false := decide_eq_false (by omega)
                    have hgn : (g : Int) < (n0 : Int) := by omega
                    obtain ⟨y, hy⟩ : ∃ y, xs.getD g 0 = y := ⟨_, rfl⟩
                    rw [hy] at cg
                    rw [Int.toNat_natCast, hy] at HP
                    clear hy
                    by_cases hxy : x < y
                    · have HI := HP.1 ⟨by omega, .inr hxy⟩
                      clear HP
                      go_quiet (fail)
                      go_wp2
                      go_roundw
                      case rel => exact ⟨j + 1, (j : Int), _, by go_num, rfl, by omega, HN.same (Same.drewN _ _), HI, HO.same (Same.drewN _ _), HB.trans ((Same.drewN _ _).below _)⟩
                      case measure => simp [intOf]; omega
                    · have HI := HP.2 (by rintro ⟨_, h2 | h2⟩ <;> omega)
                      clear HP
                      go_quiet (fail)
                      go_wp2
                      go_roundw
                      case rel => exact ⟨j + 1, (g : Int), _, by go_num, rfl, by omega, HN.same (Same.drewN _ _), HI, HO.same (Same.drewN _ _), HB.trans ((Same.drewN _ _).below _)⟩
                      case measure => simp [intOf]; omega
                  · clear hst
                    go_wp2
                    have hd : decide (0 ≤ x) = false := decide_eq_false (by omega)
                    have HI := HP.2 (by rintro ⟨h1, _⟩; omega)
                    clear HP
                    go_quiet (fail)
                    go_wp2
                    go_roundw
                    case rel => exact ⟨j + 1, (g : Int), _, by go_num, rfl, by omega, HN.same (Same.drewN _ _), HI, HO.same (Same.drewN _ _), HB.trans ((Same.drewN _ _).below _)⟩
                    case measure => simp [intOf]; omega
            · have ej : j = (bs vs).length := by rw [HLV.out]; omega
              rw [ej] at hinn
              clear ej
              rcases hinn.2.2.2 with ⟨rfl, _⟩ | ⟨g, rfl, hgj, _, _, _⟩
              · have hno : ∀ q, i ≤ q → q < E → longest (bs vs) buf q = 0 := fun q h1 _ => hinn.nothing q h1
                clear hinn
                have hMi : ∃ M : Nat, M = max E i := ⟨_, rfl⟩
                obtain ⟨M, hM⟩ := hMi
                have HR : Hid (S (bs vs) buf E 0 = (out ++ (buf.drop i).take (M - i), M, kn)) := htot.last (by rw [HLB.out]; exact hEle) hno hM
                have hMi1 : i ≤ M := by omega
                have hMn : M ≤ n1 := by omega
                have hMx : (M : Int) = max (E : Int) (i : Int) := by omega
                have hol := htot.2.2.1
                clear hM htot hno
                obtain ⟨a', c', hsl, hr', hcap', hnil'⟩ := hq1.mid c1 hcap hnil i M hMi1 hMn
                obtain ⟨a2, c2, hsl2, hr2, hcap2, hnil2⟩ := hq1.tail c1 hcap hnil M hMn
                rw [hMx] at hsl hsl2
                have HMX : Hid ((M : Int) = max (E : Int) (i : Int)) := hMx
                clear hMx
                have hlz := hnr.lt
                go_wp2_with (at_builtin; refine app_bytes rfl (.tmp 153) (.tmp 157) rfl (w1.heap.size + 1) _ out rfl hO a' (M - i) c' _ b1 (o1 + i) rfl (hr'.below hbel (Nat.le_refl _)) hnil' (by omega) hlz ?_; intro v5 w5 hO5 hg5; have hbel5 : Below w1.heap.size w1 w5 := hbel.grown hg5 hbel.size (fun k hk => Nat.le_of_succ_le (hO.row k hk)); clear hg5)
                go_quiet (fail)
                go_wp2
                go_ret3
                rw [HR.out]
                refine ⟨_, _, rfl, (hO5.sl).same (Same.drewN _ _), ?_, (hb1.trans ((hbel5.mono (Nat.le_of_lt hzlt)).trans ((Same.drewN _ _).below _)))⟩
                have hdl : (buf.drop M).length = n1 - M := by rw [List.length_drop, HLB.out]
                exact ⟨a2, c2, b1, o1 + M, by rw [hdl]; rfl, by rw [hdl]; exact (hr2.below hbel5 (Nat.le_refl _)).same (Same.drewN _ _), by rw [hdl]; exact hcap2, by rw [hdl]; exact hnil2⟩
              · obtain ⟨_, y, hy, hyi, hroom, hlong, hL0⟩ := hinn.found HW.out
                have hgn0 : g < n0 := by rw [HLV.out] at hgj; exact hgj
                have hgn : (g : Int) < (n0 : Int) := by omega
                have hgd : decide ((g : Int) < 0) = false := decide_eq_false (by omega)
                have cg := hnr.cell (t := g) hgn0
                rw [hy] at cg
                rw [HLB.out] at hroom
                by_cases hyE : y < E
                · have HY : Hid (xs.getD g 0 = (y : Int)) := hy
                  clear hy
                  have ht1 := htot.skip (by rw [HLB.out]; exact hEle) (y - i) (by omega) (fun q h1 h2 => hinn.before q h1 (by rw [HY.out]; omega))
                  rw [show i + (y - i) = y by omega] at ht1
                  have ht2 := ht1.hit hyE hlong hL0
                  obtain ⟨s, hks, hcell, hrs, _⟩ := hq0.cell hgn0
                  have hsl0 := bs_getD hks
                  have hsb := HS.out s (List.mem_of_getElem? hks.out)
                  rw [hsl0] at ht2 hroom hL0
                  have hout2 := hinn.out (i' := y + s.l.length) (by omega)
                  have HT : Hid (Tot (bs vs) buf E (out ++ (buf.drop i).take (y - i) ++ ph) (y + s.l.length) (kn + 1)) := ht2
                  have HOUT2 : Hid (Out (bs vs) buf (y + s.l.length) xs) := hout2
                  have hol := htot.2.2.1
                  have hkl := htot.2.2.2
                  have holen : (out ++ (buf.drop i).take (y - i)).length ≤ 10 * y := ht1.2.2.1
                  clear ht1 ht2 hsl0 hout2 htot hinn hlong hrs
                  obtain ⟨a', c', hsl, hr', hcap', hnil'⟩ := hq1.mid c1 hcap hnil i y hyi (by omega)
                  have hlz := hnr.lt
                  have hjg := hq0.idx hgn0
                  go_wp2_with (first | (at_builtin; refine app_bytes rfl (.tmp 126) (.tmp 133) rfl (w1.heap.size + 1) _ out rfl hO a' (y - i) c' _ b1 (o1 + i) rfl (hr'.below hbel (Nat.le_refl _)) hnil' (by omega) hlz ?_; intro v4 w4 hO4 hg4; have hbel4 : Below w1.heap.size w1 w4 := hbel.grown hg4 hbel.size (fun k hk => Nat.le_of_succ_le (hO.row k hk)); have hnr4 := hnr.grown hg4 (fun h => by have := hO.row _ h; omega); clear hg4) | (at_builtin; refine app_str rfl (.tmp 135) _ rfl (w1.heap.size + 1) _ _ rfl hO4 ph rfl (by simp only [ph, List.length_cons, List.length_nil]; omega) hnr4.lt ?_; intro v5 w5 hO5 hg5; have hbel5 : Below w1.heap.size w1 w5 := hbel4.grown hg5 hbel4.size (fun k hk => Nat.le_of_succ_le (hO4.row k hk)); have hnr5 := hnr4.grown hg5 (fun h => by have := hO4.row _ h; omega); clear hg5))
                  have cg5 := hnr5.cell (t := g) hgn0
                  rw [HY.out] at cg5
                  have hbox5 := (hbel5.cell (p := ⟨w.heap.size, 0, none⟩) hzlt).trans hbox
                  have hcell5 := ((hbel5.cell (p := ⟨b0, o0 + g, none⟩) (World.block_lt_of_cell? _ _ hcell)).trans hcell)
                  clear hcell hnr hO hbel hO4 hnr4 hbel4 cg
                  go_quiet (fail)
                  go_wp2
                  go_roundw
                  case rel => exact ⟨y + s.l.length, kn + 1, _, xs, by go_num, by go_num, hO5.same (Same.drewN _ _), hnr5.same (Same.drewN _ _), HOUT2, HT.out, hbel5.trans ((Same.drewN _ _).below _)⟩
                  case measure => simp [intOf]; omega
                · have hno : ∀ q, i ≤ q → q < E → longest (bs vs) buf q = 0 := fun q h1 h2 => hinn.before q h1 (by rw [hy]; omega)
                  clear hinn hy hlong hL0 hroom
                  have hMi : ∃ M : Nat, M = max E i := ⟨_, rfl⟩
                  obtain ⟨M, hM⟩ := hMi
                  have HR : Hid (S (bs vs) buf E 0 = (out ++ (buf.drop i).take (M - i), M, kn)) := htot.last (by rw [HLB.out]; exact hEle) hno hM
                  have hMi1 : i ≤ M := by omega
                  have hMn : M ≤ n1 := by omega
                  have hMx : (M : Int) = max (E : Int) (i : Int) := by omega
                  have hol := htot.2.2.1
                  clear hM htot hno
                  obtain ⟨a', c', hsl, hr', hcap', hnil'⟩ := hq1.mid c1 hcap hnil i M hMi1 hMn
                  obtain ⟨a2, c2, hsl2, hr2, hcap2, hnil2⟩ := hq1.tail c1 hcap hnil M hMn
                  rw [hMx] at hsl hsl2
                  have HMX : Hid ((M : Int) = max (E : Int) (i : Int)) := hMx
                  clear hMx
                  have hlz := hnr.lt
                  go_wp2_with (at_builtin; refine app_bytes rfl (.tmp 153) (.tmp 157) rfl (w1.heap.size + 1) _ out rfl hO a' (M - i) c' _ b1 (o1 + i) rfl (hr'.below hbel (Nat.le_refl _)) hnil' (by omega) hlz ?_; intro v5 w5 hO5 hg5; have hbel5 : Below w1.heap.size w1 w5 := hbel.grown hg5 hbel.size (fun k hk => Nat.le_of_succ_le (hO.row k hk)); clear hg5)
                  go_quiet (fail)
                  go_wp2
                  go_ret3
                  rw [HR.out]
                  refine ⟨_, _, rfl, (hO5.sl).same (Same.drewN _ _), ?_, (hb1.trans ((hbel5.mono (Nat.le_of_lt hzlt)).trans ((Same.drewN _ _).below _)))⟩
                  have hdl : (buf.drop M).length = n1 - M := by rw [List.length_drop, HLB.out]
                  exact ⟨a2, c2, b1, o1 + M, by rw [hdl]; rfl, by rw [hdl]; exact (hr2.below hbel5 (Nat.le_refl _)).same (Same.drewN _ _), by rw [hdl]; exact hcap2, by rw [hdl]; exact hnil2⟩

end Go.Proofs.Qxb6601367a
