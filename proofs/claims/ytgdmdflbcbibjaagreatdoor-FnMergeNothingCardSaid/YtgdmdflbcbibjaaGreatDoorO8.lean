/- Parts of the proof, laid together: QSpecSame, PureSame, FromTo, Ends, Gives, LawMergeNo, RowKit, DTabsZ, ValArg. -/
import Derived.Test.YtgdmdflbcbibjaaGreatDoorO3
import Derived.Test.YtgdmdflbcbibjaaGreatDoorO2
import Derived.Test.YtgdmdflbcbibjaaGreatDoorO7
import Derived.Test.YtgdmdflbcbibjaaGreatDoorO4
import Derived.Test.YtgdmdflbcbibjaaGreatDoorO5
import Derived.Test.YtgdmdflbcbibjaaGreatDoorRows
import Derived.ProofKit
import Derived.OpenShut
import Derived.ShutString
import Derived.ChangeOld
import Derived.Below
import Derived.SizedLaws
import Derived.SliceStrings
import Derived.Test.YtgdmdflbcbibjaaGreatDoorCards
import Derived.PinnedBridge
namespace Go.Proofs.YtgdmdflbcbibjaaGreatDoor.PS
open Go.RowKit Go.Proofs.YtgdmdflbcbibjaaGreatDoorW.PrintWords Go.Proofs.YtgdmdflbcbibjaaGreatDoorW.PrintLast Go.Proofs.YtgdmdflbcbibjaaGreatDoorW.PrintMore
attribute [local go_sem] max2_int min2_int max_two min_two max_three min_three max_four min_four 
set_option linter.unusedVariables false
set_option linter.unusedSimpArgs false
mutual
def spec_Same.j0 : Nat → Bool → Int → Int → ByteArray → List ByteArray → List (S25) → Int → Int → ByteArray → List ByteArray → List (S25) → Option (Bool)
 | 0, _, _, _, _, _, _, _, _, _, _, _ => none
 | k + 1, x43, x232000, x232001, x232002, x232003, x232004, x233000, x233001, x233002, x233003, x233004 => if x43 = true then (some false) else (spec_Same.l0 k 0 x232000 x232001 x232002 x232003 x232004 x233000 x233001 x233002 x233003 x233004)
def spec_Same.l0 : Nat → Int → Int → Int → ByteArray → List ByteArray → List (S25) → Int → Int → ByteArray → List ByteArray → List (S25) → Option (Bool)
 | 0, _, _, _, _, _, _, _, _, _, _, _ => none
 | k + 1, x5, x232000, x232001, x232002, x232003, x232004, x233000, x233001, x233002, x233003, x233004 => if x5 < (x232003.length : Int) then (if 0 ≤ x5 then (if x5 < (x233003.length : Int) then (if (rdOf ByteArray.empty x232003 x5).toList = (rdOf ByteArray.empty x233003 x5).toList then (spec_Same.l0 k (wrap64 (x5 + 1)) x232000 x232001 x232002 x232003 x232004 x233000 x233001 x233002 x233003 x233004) else (some false)) else (none)) else (none)) else (spec_Same.l1 k 0 x232000 x232001 x232002 x232003 x232004 x233000 x233001 x233002 x233003 x233004)
def spec_Same.l1 : Nat → Int → Int → Int → ByteArray → List ByteArray → List (S25) → Int → Int → ByteArray → List ByteArray → List (S25) → Option (Bool)
 | 0, _, _, _, _, _, _, _, _, _, _, _ => none
 | k + 1, x6, x232000, x232001, x232002, x232003, x232004, x233000, x233001, x233002, x233003, x233004 => if x6 < (x232004.length : Int) then (if 0 ≤ x6 then (if x6 < (x233004.length : Int) then ((spec_Same.f k ((rd_T25 x232004 x6).f0) ((rd_T25 x232004 x6).f1) ((rd_T25 x232004 x6).f2) ((rd_T25 x232004 x6).f3) ((rd_T25 x232004 x6).f4) ((rd_T25 x233004 x6).f0) ((rd_T25 x233004 x6).f1) ((rd_T25 x233004 x6).f2) ((rd_T25 x233004 x6).f3) ((rd_T25 x233004 x6).f4)).bind fun t237 => (if t237 = true then (spec_Same.l1 k (wrap64 (x6 + 1)) x232000 x232001 x232002 x232003 x232004 x233000 x233001 x233002 x233003 x233004) else (some false))) else (none)) else (none)) else (some true)
def spec_Same.f : Nat → Int → Int → ByteArray → List ByteArray → List (S25) → Int → Int → ByteArray → List ByteArray → List (S25) → Option (Bool)
 | 0, _, _, _, _, _, _, _, _, _, _ => none
 | k + 1, a0_0, a0_1, a0_2, l0_3, l0_4, a1_0, a1_1, a1_2, l1_3, l1_4 => if a0_0 = a1_0 then (if a0_1 = a1_1 then (if a0_2.toList = a1_2.toList then (if (l0_3.length : Int) = (l1_3.length : Int) then (spec_Same.j0 k ((l0_4.length : Int) != (l1_4.length : Int)) a0_0 a0_1 a0_2 l0_3 l0_4 a1_0 a1_1 a1_2 l1_3 l1_4) else (spec_Same.j0 k true a0_0 a0_1 a0_2 l0_3 l0_4 a1_0 a1_1 a1_2 l1_3 l1_4)) else (spec_Same.j0 k true a0_0 a0_1 a0_2 l0_3 l0_4 a1_0 a1_1 a1_2 l1_3 l1_4)) else (spec_Same.j0 k true a0_0 a0_1 a0_2 l0_3 l0_4 a1_0 a1_1 a1_2 l1_3 l1_4)) else (spec_Same.j0 k true a0_0 a0_1 a0_2 l0_3 l0_4 a1_0 a1_1 a1_2 l1_3 l1_4)
end
def spec_Same.T6 : Bool × List (List Nat × List Nat) := (true, [([], []), ([0], [0]), ([], []), ([1, 2], [1, 2]), ([3], [3]), ([], []), ([5], [5]), ([], []), ([6, 7], [6, 7]), ([8], [8]), ([4, 9], [4, 9])])
def spec_Same.B6 : List Nat := [0, 1, 0, 7, 15, 0, 32, 0, 224, 480, 1023]
theorem spec_Same.tab6 : rtab .any (opsOf Tryz.f11 6) = spec_Same.T6 := by kernel_rfl
theorem spec_Same.bits6 : waitsOk spec_Same.T6.2 spec_Same.B6 = true := by kernel_rfl
def spec_Same.T11 : Bool × List (List Nat × List Nat) := (true, [([], []), ([0], [0]), ([], []), ([1, 2], [1, 2]), ([3], [3]), ([], []), ([5], [5]), ([], []), ([6, 7], [6, 7]), ([8], [8]), ([4, 9], [4, 9]), ([10], [10])])
def spec_Same.B11 : List Nat := [0, 1, 0, 7, 15, 0, 32, 0, 224, 480, 1023, 2047]
theorem spec_Same.tab11 : rtab .any (opsOf Tryz.f11 11) = spec_Same.T11 := by kernel_rfl
theorem spec_Same.bits11 : waitsOk spec_Same.T11.2 spec_Same.B11 = true := by kernel_rfl
set_option maxHeartbeats 8000000 in
set_option maxRecDepth 100000 in
theorem spec_Same.calls (k : Nat) : ∀ (a0_0 : Int) (a0_1 : Int) (a0_2 : ByteArray) (A0_3 : Option Addr) (c0_3 : Nat) (l0_3 : List ByteArray) (A0_4 : Option Addr) (c0_4 : Nat) (l0_4 : List (S25)) (a1_0 : Int) (a1_1 : Int) (a1_2 : ByteArray) (A1_3 : Option Addr) (c1_3 : Nat) (l1_3 : List ByteArray) (A1_4 : Option Addr) (c1_4 : Nat) (l1_4 : List (S25)) (r : Bool) (w : World) (hr0_3 : Kd.C Kd.string w A0_3 l0_3.length l0_3) (hc0_3 : l0_3.length ≤ c0_3) (hr0_4 : Kd.C k25 w A0_4 l0_4.length l0_4) (hc0_4 : l0_4.length ≤ c0_4) (hr1_3 : Kd.C Kd.string w A1_3 l1_3.length l1_3) (hc1_3 : l1_3.length ≤ c1_3) (hr1_4 : Kd.C k25 w A1_4 l1_4.length l1_4) (hc1_4 : l1_4.length ≤ c1_4) (h : spec_Same.f k a0_0 a0_1 a0_2 l0_3 l0_4 a1_0 a1_1 a1_2 l1_3 l1_4 = some r),
  Calls Tryz.prog 11 #[.agg #[.int .i64 a0_0, .int .i64 a0_1, .string a0_2, .slice A0_3 l0_3.length c0_3, .slice A0_4 l0_4.length c0_4], .agg #[.int .i64 a1_0, .int .i64 a1_1, .string a1_2, .slice A1_3 l1_3.length c1_3, .slice A1_4 l1_4.length c1_4]] w fun e w' => e = .returned (.bool r) ∧ Below w.heap.size w w' := by
 induction k using Nat.strongRecOn with
 | _ k ih =>
 intro a0_0 a0_1 a0_2 A0_3 c0_3 l0_3 A0_4 c0_4 l0_4 a1_0 a1_1 a1_2 A1_3 c1_3 l1_3 A1_4 c1_4 l1_4 r w hr0_3 hc0_3 hr0_4 hc0_4 hr1_3 hc1_3 hr1_4 hc1_4 h
 cases k with
 | zero => exact absurd h (by simp [spec_Same.f])
 | succ k =>
 simp only [spec_Same.f] at h
 have hu25 := Tryz.underlying25
 have HR0_3 := aM hr0_3
 have HC0_3 := aM hc0_3
 clear hr0_3 hc0_3
 have HR0_4 := aM hr0_4
 have HC0_4 := aM hc0_4
 clear hr0_4 hc0_4
 have HR1_3 := aM hr1_3
 have HC1_3 := aM hc1_3
 clear hr1_3 hc1_3
 have HR1_4 := aM hr1_4
 have HC1_4 := aM hc1_4
 clear hr1_4 hc1_4
 have HB := aM (Below.refl w.heap.size w)
 have H : (if a0_0 = a1_0 then (if a0_1 = a1_1 then (if a0_2.toList = a1_2.toList then (if (l0_3.length : Int) = (l1_3.length : Int) then (spec_Same.j0 k ((l0_4.length : Int) != (l1_4.length : Int)) a0_0 a0_1 a0_2 l0_3 l0_4 a1_0 a1_1 a1_2 l1_3 l1_4) else (spec_Same.j0 k true a0_0 a0_1 a0_2 l0_3 l0_4 a1_0 a1_1 a1_2 l1_3 l1_4)) else (spec_Same.j0 k true a0_0 a0_1 a0_2 l0_3 l0_4 a1_0 a1_1 a1_2 l1_3 l1_4)) else (spec_Same.j0 k true a0_0 a0_1 a0_2 l0_3 l0_4 a1_0 a1_1 a1_2 l1_3 l1_4)) else (spec_Same.j0 k true a0_0 a0_1 a0_2 l0_3 l0_4 a1_0 a1_1 a1_2 l1_3 l1_4)) = some r := h
 clear h
 have HC3 := aM H
 clear H
 go_enter Tryz.func11, Tryz.ntmps11
 go_upto_region 1 with (first | ((with_reducible refine gate_dst (N := 2) rfl ?_); (try (refine gate_guard (by rfl) ?_; dsimp only)); refine box_event ?hg (N := 2) ?hd (cs := #[.int .i64 a0_0, .int .i64 a0_1, .string a0_2, .slice A0_3 l0_3.length c0_3, .slice A0_4 l0_4.length c0_4]) (t := 25) ?hr ?_; (case hd => rfl); (case hg => rfl); (case hr => first | (go_simp; done) | (go_simp; rfl)); intro gb231 hg w4 hbox hb; have n0_ := aM (below_step (by repeat (first | (with_reducible first | exact HB.out | apply below_alloc | apply pw_below_drewN | apply below_drew1) | exact HB.out)) hb); have n1_ := aM (hbox); have n2_ := aM ((by rw [hg]; exact (below_size (by repeat (first | (with_reducible first | exact HB.out | apply below_alloc | apply pw_below_drewN | apply below_drew1) | exact HB.out))) : w.heap.size ≤ gb231)); have n3_ := aM ((by rw [hg]; exact (below_size (by repeat (first | (with_reducible first | exact HB.out | apply below_alloc | apply pw_below_drewN | apply below_drew1) | exact HB.out))) : w.heap.size ≤ gb231)); clear HB; have HB := n0_; have BK231 := n1_; have GW231 := n2_; have GE231 := n3_; clear n0_ n1_ n2_ n3_; clear hb hbox hg) | ((with_reducible refine gate_dst (N := 3) rfl ?_); (try (refine gate_guard (by rfl) ?_; dsimp only)); refine box_event ?hg (N := 3) ?hd (cs := #[.int .i64 a1_0, .int .i64 a1_1, .string a1_2, .slice A1_3 l1_3.length c1_3, .slice A1_4 l1_4.length c1_4]) (t := 25) ?hr ?_; (case hd => rfl); (case hg => rfl); (case hr => first | (go_simp; done) | (go_simp; rfl)); intro gb232 hg w5 hbox hb; have n0_ := aM (blk_below (g := gb231) (o := .cells #[.int .i64 a0_0, .int .i64 a0_1, .string a0_2, .slice A0_3 l0_3.length c0_3, .slice A0_4 l0_4.length c0_4] 25 (0, 0)) (by (with_reducible repeat (first | refine blk_drewN ?_ _ | refine blk_drew ?_ | refine blk_alloc ?_ _)); exact BK231.out) hb); have n1_ := aM (below_step (by repeat (first | (with_reducible first | exact HB.out | apply below_alloc | apply pw_below_drewN | apply below_drew1 | refine below_set ?_ GE231.out) | exact HB.out)) hb); have n2_ := aM (hbox); have n3_ := aM ((by rw [hg]; exact (below_size (by repeat (first | (with_reducible first | exact HB.out | apply below_alloc | apply pw_below_drewN | apply below_drew1 | refine below_set ?_ GE231.out) | exact HB.out))) : w.heap.size ≤ gb232)); have n4_ := aM ((by rw [hg]; exact (below_size (by repeat (first | (with_reducible first | exact HB.out | apply below_alloc | apply pw_below_drewN | apply below_drew1 | refine below_set ?_ GE231.out) | exact HB.out))) : w.heap.size ≤ gb232)); have n5_ := aM ((by rw [hg]; exact Nat.ne_of_lt (blk_lt (g := gb231) (o := .cells #[.int .i64 a0_0, .int .i64 a0_1, .string a0_2, .slice A0_3 l0_3.length c0_3, .slice A0_4 l0_4.length c0_4] 25 (0, 0)) (by (with_reducible repeat (first | refine blk_drewN ?_ _ | refine blk_drew ?_ | refine blk_alloc ?_ _)); exact BK231.out)) : gb231 ≠ gb232)); have n6_ := aM ((by rw [hg]; exact Nat.ne_of_gt (blk_lt (g := gb231) (o := .cells #[.int .i64 a0_0, .int .i64 a0_1, .string a0_2, .slice A0_3 l0_3.length c0_3, .slice A0_4 l0_4.length c0_4] 25 (0, 0)) (by (with_reducible repeat (first | refine blk_drewN ?_ _ | refine blk_drew ?_ | refine blk_alloc ?_ _)); exact BK231.out)) : gb232 ≠ gb231)); clear BK231; clear HB; have BK231 := n0_; have HB := n1_; have BK232 := n2_; have GW232 := n3_; have GE232 := n4_; have NB231_232 := n5_; have NB232_231 := n6_; clear n0_ n1_ n2_ n3_ n4_ n5_ n6_; clear hb hbox hg))
 (try simp only [Act.put, List.setIfInBounds_toArray, List.set_cons_zero, List.set_cons_succ])
 go_cut [43] (fun v43 wc => ∃ (kq : Nat) (x43_2 : Bool), v43 = .bool x43_2 ∧ Aside0 (spec_Same.j0 kq x43_2 a0_0 a0_1 a0_2 l0_3 l0_4 a1_0 a1_1 a1_2 l1_3 l1_4 = some r) ∧ Aside0 (kq ≤ k) ∧ Aside0 (wc.heap[gb231]? = some (.cells #[.int .i64 a0_0, .int .i64 a0_1, .string a0_2, (.slice A0_3 l0_3.length c0_3), (.slice A0_4 l0_4.length c0_4)] 25 (0, 0))) ∧ Aside0 (wc.heap[gb232]? = some (.cells #[.int .i64 a1_0, .int .i64 a1_1, .string a1_2, (.slice A1_3 l1_3.length c1_3), (.slice A1_4 l1_4.length c1_4)] 25 (0, 0))) ∧ Aside0 (Below w.heap.size w wc))
 case first =>
  have H := HC3.out
  clear HC3
  by_cases c6 : a0_0 = a1_0
  ·rw [if_pos c6] at H
   have c6b0 : (a0_0 == a1_0) = true := beq_iff_eq.mpr c6
   have c6b1 : (a0_0 != a1_0) = false := bne_eq_false_iff_eq.mpr c6
   clear c6
   (first | rw [c6b0] | (simp only [i64_w, i32_w]; rw [c6b0]) | skip)
   by_cases c7 : a0_1 = a1_1
   ·rw [if_pos c7] at H
    have c7b0 : (a0_1 == a1_1) = true := beq_iff_eq.mpr c7
    have c7b1 : (a0_1 != a1_1) = false := bne_eq_false_iff_eq.mpr c7
    clear c7
    by_cases c8 : a0_2.toList = a1_2.toList
    ·rw [if_pos c8] at H
     have c8b0 : (a0_2.toList == a1_2.toList) = true := beq_iff_eq.mpr c8
     have c8b1 : (a0_2.toList != a1_2.toList) = false := bne_eq_false_iff_eq.mpr c8
     clear c8
     by_cases c9 : (l0_3.length : Int) = (l1_3.length : Int)
     ·rw [if_pos c9] at H
      have c9b0 : ((l0_3.length : Int) == (l1_3.length : Int)) = true := beq_iff_eq.mpr c9
      have c9b1 : ((l0_3.length : Int) != (l1_3.length : Int)) = false := bne_eq_false_iff_eq.mpr c9
      have c9b2 : (l0_3.length == l1_3.length) = true := by first | simpa using c9 | (simp at c9 ⊢; omega)
      clear c9
      have H' := aM H
      clear H
      have hnb10 := NB231_232.out
      have hnc10 := NB232_231.out
      have hcz11_0 : w5.cell? ⟨gb231, 0, none⟩ = some (.int .i64 a0_0) := (blk_cell BK231.out 0).trans rfl
      have hcz11_1 : w5.cell? ⟨gb231, 1, none⟩ = some (.int .i64 a0_1) := (blk_cell BK231.out 1).trans rfl
      have hcz11_2 : w5.cell? ⟨gb231, 2, none⟩ = some (.string a0_2) := (blk_cell BK231.out 2).trans rfl
      have hcz11_3 : w5.cell? ⟨gb231, 3, none⟩ = some (.slice A0_3 l0_3.length c0_3) := (blk_cell BK231.out 3).trans rfl
      have hcz11_4 : w5.cell? ⟨gb231, 4, none⟩ = some (.slice A0_4 l0_4.length c0_4) := (blk_cell BK231.out 4).trans rfl
      have hfz11_0 := blk_frozen BK231.out 0
      have hfz11_1 := blk_frozen BK231.out 1
      have hfz11_2 := blk_frozen BK231.out 2
      have hfz11_3 := blk_frozen BK231.out 3
      have hfz11_4 := blk_frozen BK231.out 4
      have hcz12_0 : w5.cell? ⟨gb232, 0, none⟩ = some (.int .i64 a1_0) := (blk_cell BK232.out 0).trans rfl
      have hcz12_1 : w5.cell? ⟨gb232, 1, none⟩ = some (.int .i64 a1_1) := (blk_cell BK232.out 1).trans rfl
      have hcz12_2 : w5.cell? ⟨gb232, 2, none⟩ = some (.string a1_2) := (blk_cell BK232.out 2).trans rfl
      have hcz12_3 : w5.cell? ⟨gb232, 3, none⟩ = some (.slice A1_3 l1_3.length c1_3) := (blk_cell BK232.out 3).trans rfl
      have hcz12_4 : w5.cell? ⟨gb232, 4, none⟩ = some (.slice A1_4 l1_4.length c1_4) := (blk_cell BK232.out 4).trans rfl
      have hfz12_0 := blk_frozen BK232.out 0
      have hfz12_1 := blk_frozen BK232.out 1
      have hfz12_2 := blk_frozen BK232.out 2
      have hfz12_3 := blk_frozen BK232.out 3
      have hfz12_4 := blk_frozen BK232.out 4
      go_wp2
      go_meet
      case rel => exact ⟨_, (((l0_4.length : Int) != (l1_4.length : Int))), (by first | rfl | (simp; done) | (simp [*]; done)), H', ⟨by first | omega | exact Nat.le_refl _⟩, ⟨by (with_reducible repeat (first | refine blk_drewN ?_ _ | refine blk_drew ?_ | refine blk_alloc ?_ _)); exact BK231.out⟩, ⟨by (with_reducible repeat (first | refine blk_drewN ?_ _ | refine blk_drew ?_ | refine blk_alloc ?_ _)); exact BK232.out⟩, ⟨by repeat (first | (with_reducible first | exact HB.out | apply below_alloc | apply pw_below_drewN | apply below_drew1 | refine below_set ?_ GE231.out | refine below_set ?_ GE232.out) | exact HB.out)⟩⟩
     ·rw [if_neg c9] at H
      have c9b0 : ((l0_3.length : Int) == (l1_3.length : Int)) = false := beq_eq_false_iff_ne.mpr c9
      have c9b1 : ((l0_3.length : Int) != (l1_3.length : Int)) = true := bne_iff_ne.mpr c9
      have c9b2 : (l0_3.length == l1_3.length) = false := by first | simpa using c9 | (simp at c9 ⊢; omega)
      have H' := aM H
      clear H
      have hnb13 := NB231_232.out
      have hnc13 := NB232_231.out
      have hcz14_0 : w5.cell? ⟨gb231, 0, none⟩ = some (.int .i64 a0_0) := (blk_cell BK231.out 0).trans rfl
      have hcz14_1 : w5.cell? ⟨gb231, 1, none⟩ = some (.int .i64 a0_1) := (blk_cell BK231.out 1).trans rfl
      have hcz14_2 : w5.cell? ⟨gb231, 2, none⟩ = some (.string a0_2) := (blk_cell BK231.out 2).trans rfl
      have hcz14_3 : w5.cell? ⟨gb231, 3, none⟩ = some (.slice A0_3 l0_3.length c0_3) := (blk_cell BK231.out 3).trans rfl
      have hcz14_4 : w5.cell? ⟨gb231, 4, none⟩ = some (.slice A0_4 l0_4.length c0_4) := (blk_cell BK231.out 4).trans rfl
      have hfz14_0 := blk_frozen BK231.out 0
      have hfz14_1 := blk_frozen BK231.out 1
      have hfz14_2 := blk_frozen BK231.out 2
      have hfz14_3 := blk_frozen BK231.out 3
      have hfz14_4 := blk_frozen BK231.out 4
      have hcz15_0 : w5.cell? ⟨gb232, 0, none⟩ = some (.int .i64 a1_0) := (blk_cell BK232.out 0).trans rfl
      have hcz15_1 : w5.cell? ⟨gb232, 1, none⟩ = some (.int .i64 a1_1) := (blk_cell BK232.out 1).trans rfl
      have hcz15_2 : w5.cell? ⟨gb232, 2, none⟩ = some (.string a1_2) := (blk_cell BK232.out 2).trans rfl
      have hcz15_3 : w5.cell? ⟨gb232, 3, none⟩ = some (.slice A1_3 l1_3.length c1_3) := (blk_cell BK232.out 3).trans rfl
      have hcz15_4 : w5.cell? ⟨gb232, 4, none⟩ = some (.slice A1_4 l1_4.length c1_4) := (blk_cell BK232.out 4).trans rfl
      have hfz15_0 := blk_frozen BK232.out 0
      have hfz15_1 := blk_frozen BK232.out 1
      have hfz15_2 := blk_frozen BK232.out 2
      have hfz15_3 := blk_frozen BK232.out 3
      have hfz15_4 := blk_frozen BK232.out 4
      go_wp2
      go_meet
      case rel => exact ⟨_, (true), (by first | rfl | (simp; done) | (simp [*]; done)), H', ⟨by first | omega | exact Nat.le_refl _⟩, ⟨by (with_reducible repeat (first | refine blk_drewN ?_ _ | refine blk_drew ?_ | refine blk_alloc ?_ _)); exact BK231.out⟩, ⟨by (with_reducible repeat (first | refine blk_drewN ?_ _ | refine blk_drew ?_ | refine blk_alloc ?_ _)); exact BK232.out⟩, ⟨by repeat (first | (with_reducible first | exact HB.out | apply below_alloc | apply pw_below_drewN | apply below_drew1 | refine below_set ?_ GE231.out | refine below_set ?_ GE232.out) | exact HB.out)⟩⟩
    ·rw [if_neg c8] at H
     have c8b0 : (a0_2.toList == a1_2.toList) = false := beq_eq_false_iff_ne.mpr c8
     have c8b1 : (a0_2.toList != a1_2.toList) = true := bne_iff_ne.mpr c8
     have H' := aM H
     clear H
     have hnb16 := NB231_232.out
     have hnc16 := NB232_231.out
     have hcz17_0 : w5.cell? ⟨gb231, 0, none⟩ = some (.int .i64 a0_0) := (blk_cell BK231.out 0).trans rfl
     have hcz17_1 : w5.cell? ⟨gb231, 1, none⟩ = some (.int .i64 a0_1) := (blk_cell BK231.out 1).trans rfl
     have hcz17_2 : w5.cell? ⟨gb231, 2, none⟩ = some (.string a0_2) := (blk_cell BK231.out 2).trans rfl
     have hcz17_3 : w5.cell? ⟨gb231, 3, none⟩ = some (.slice A0_3 l0_3.length c0_3) := (blk_cell BK231.out 3).trans rfl
     have hcz17_4 : w5.cell? ⟨gb231, 4, none⟩ = some (.slice A0_4 l0_4.length c0_4) := (blk_cell BK231.out 4).trans rfl
     have hfz17_0 := blk_frozen BK231.out 0
     have hfz17_1 := blk_frozen BK231.out 1
     have hfz17_2 := blk_frozen BK231.out 2
     have hfz17_3 := blk_frozen BK231.out 3
     have hfz17_4 := blk_frozen BK231.out 4
     have hcz18_0 : w5.cell? ⟨gb232, 0, none⟩ = some (.int .i64 a1_0) := (blk_cell BK232.out 0).trans rfl
     have hcz18_1 : w5.cell? ⟨gb232, 1, none⟩ = some (.int .i64 a1_1) := (blk_cell BK232.out 1).trans rfl
     have hcz18_2 : w5.cell? ⟨gb232, 2, none⟩ = some (.string a1_2) := (blk_cell BK232.out 2).trans rfl
     have hcz18_3 : w5.cell? ⟨gb232, 3, none⟩ = some (.slice A1_3 l1_3.length c1_3) := (blk_cell BK232.out 3).trans rfl
     have hcz18_4 : w5.cell? ⟨gb232, 4, none⟩ = some (.slice A1_4 l1_4.length c1_4) := (blk_cell BK232.out 4).trans rfl
     have hfz18_0 := blk_frozen BK232.out 0
     have hfz18_1 := blk_frozen BK232.out 1
     have hfz18_2 := blk_frozen BK232.out 2
     have hfz18_3 := blk_frozen BK232.out 3
     have hfz18_4 := blk_frozen BK232.out 4
     go_wp2
     go_meet
     case rel => exact ⟨_, (true), (by first | rfl | (simp; done) | (simp [*]; done)), H', ⟨by first | omega | exact Nat.le_refl _⟩, ⟨by (with_reducible repeat (first | refine blk_drewN ?_ _ | refine blk_drew ?_ | refine blk_alloc ?_ _)); exact BK231.out⟩, ⟨by (with_reducible repeat (first | refine blk_drewN ?_ _ | refine blk_drew ?_ | refine blk_alloc ?_ _)); exact BK232.out⟩, ⟨by repeat (first | (with_reducible first | exact HB.out | apply below_alloc | apply pw_below_drewN | apply below_drew1 | refine below_set ?_ GE231.out | refine below_set ?_ GE232.out) | exact HB.out)⟩⟩
   ·rw [if_neg c7] at H
    have c7b0 : (a0_1 == a1_1) = false := beq_eq_false_iff_ne.mpr c7
    have c7b1 : (a0_1 != a1_1) = true := bne_iff_ne.mpr c7
    have H' := aM H
    clear H
    have hnb19 := NB231_232.out
    have hnc19 := NB232_231.out
    have hcz20_0 : w5.cell? ⟨gb231, 0, none⟩ = some (.int .i64 a0_0) := (blk_cell BK231.out 0).trans rfl
    have hcz20_1 : w5.cell? ⟨gb231, 1, none⟩ = some (.int .i64 a0_1) := (blk_cell BK231.out 1).trans rfl
    have hcz20_2 : w5.cell? ⟨gb231, 2, none⟩ = some (.string a0_2) := (blk_cell BK231.out 2).trans rfl
    have hcz20_3 : w5.cell? ⟨gb231, 3, none⟩ = some (.slice A0_3 l0_3.length c0_3) := (blk_cell BK231.out 3).trans rfl
    have hcz20_4 : w5.cell? ⟨gb231, 4, none⟩ = some (.slice A0_4 l0_4.length c0_4) := (blk_cell BK231.out 4).trans rfl
    have hfz20_0 := blk_frozen BK231.out 0
    have hfz20_1 := blk_frozen BK231.out 1
    have hfz20_2 := blk_frozen BK231.out 2
    have hfz20_3 := blk_frozen BK231.out 3
    have hfz20_4 := blk_frozen BK231.out 4
    have hcz21_0 : w5.cell? ⟨gb232, 0, none⟩ = some (.int .i64 a1_0) := (blk_cell BK232.out 0).trans rfl
    have hcz21_1 : w5.cell? ⟨gb232, 1, none⟩ = some (.int .i64 a1_1) := (blk_cell BK232.out 1).trans rfl
    have hcz21_2 : w5.cell? ⟨gb232, 2, none⟩ = some (.string a1_2) := (blk_cell BK232.out 2).trans rfl
    have hcz21_3 : w5.cell? ⟨gb232, 3, none⟩ = some (.slice A1_3 l1_3.length c1_3) := (blk_cell BK232.out 3).trans rfl
    have hcz21_4 : w5.cell? ⟨gb232, 4, none⟩ = some (.slice A1_4 l1_4.length c1_4) := (blk_cell BK232.out 4).trans rfl
    have hfz21_0 := blk_frozen BK232.out 0
    have hfz21_1 := blk_frozen BK232.out 1
    have hfz21_2 := blk_frozen BK232.out 2
    have hfz21_3 := blk_frozen BK232.out 3
    have hfz21_4 := blk_frozen BK232.out 4
    go_wp2
    go_meet
    case rel => exact ⟨_, (true), (by first | rfl | (simp; done) | (simp [*]; done)), H', ⟨by first | omega | exact Nat.le_refl _⟩, ⟨by (with_reducible repeat (first | refine blk_drewN ?_ _ | refine blk_drew ?_ | refine blk_alloc ?_ _)); exact BK231.out⟩, ⟨by (with_reducible repeat (first | refine blk_drewN ?_ _ | refine blk_drew ?_ | refine blk_alloc ?_ _)); exact BK232.out⟩, ⟨by repeat (first | (with_reducible first | exact HB.out | apply below_alloc | apply pw_below_drewN | apply below_drew1 | refine below_set ?_ GE231.out | refine below_set ?_ GE232.out) | exact HB.out)⟩⟩
  ·rw [if_neg c6] at H
   have c6b0 : (a0_0 == a1_0) = false := beq_eq_false_iff_ne.mpr c6
   have c6b1 : (a0_0 != a1_0) = true := bne_iff_ne.mpr c6
   (first | rw [c6b0] | (simp only [i64_w, i32_w]; rw [c6b0]) | skip)
   have H' := aM H
   clear H
   have hnb22 := NB231_232.out
   have hnc22 := NB232_231.out
   have hcz23_0 : w5.cell? ⟨gb231, 0, none⟩ = some (.int .i64 a0_0) := (blk_cell BK231.out 0).trans rfl
   have hcz23_1 : w5.cell? ⟨gb231, 1, none⟩ = some (.int .i64 a0_1) := (blk_cell BK231.out 1).trans rfl
   have hcz23_2 : w5.cell? ⟨gb231, 2, none⟩ = some (.string a0_2) := (blk_cell BK231.out 2).trans rfl
   have hcz23_3 : w5.cell? ⟨gb231, 3, none⟩ = some (.slice A0_3 l0_3.length c0_3) := (blk_cell BK231.out 3).trans rfl
   have hcz23_4 : w5.cell? ⟨gb231, 4, none⟩ = some (.slice A0_4 l0_4.length c0_4) := (blk_cell BK231.out 4).trans rfl
   have hfz23_0 := blk_frozen BK231.out 0
   have hfz23_1 := blk_frozen BK231.out 1
   have hfz23_2 := blk_frozen BK231.out 2
   have hfz23_3 := blk_frozen BK231.out 3
   have hfz23_4 := blk_frozen BK231.out 4
   have hcz24_0 : w5.cell? ⟨gb232, 0, none⟩ = some (.int .i64 a1_0) := (blk_cell BK232.out 0).trans rfl
   have hcz24_1 : w5.cell? ⟨gb232, 1, none⟩ = some (.int .i64 a1_1) := (blk_cell BK232.out 1).trans rfl
   have hcz24_2 : w5.cell? ⟨gb232, 2, none⟩ = some (.string a1_2) := (blk_cell BK232.out 2).trans rfl
   have hcz24_3 : w5.cell? ⟨gb232, 3, none⟩ = some (.slice A1_3 l1_3.length c1_3) := (blk_cell BK232.out 3).trans rfl
   have hcz24_4 : w5.cell? ⟨gb232, 4, none⟩ = some (.slice A1_4 l1_4.length c1_4) := (blk_cell BK232.out 4).trans rfl
   have hfz24_0 := blk_frozen BK232.out 0
   have hfz24_1 := blk_frozen BK232.out 1
   have hfz24_2 := blk_frozen BK232.out 2
   have hfz24_3 := blk_frozen BK232.out 3
   have hfz24_4 := blk_frozen BK232.out 4
   go_wp2
   go_meet
   case rel => exact ⟨_, (true), (by first | rfl | (simp; done) | (simp [*]; done)), H', ⟨by first | omega | exact Nat.le_refl _⟩, ⟨by (with_reducible repeat (first | refine blk_drewN ?_ _ | refine blk_drew ?_ | refine blk_alloc ?_ _)); exact BK231.out⟩, ⟨by (with_reducible repeat (first | refine blk_drewN ?_ _ | refine blk_drew ?_ | refine blk_alloc ?_ _)); exact BK232.out⟩, ⟨by repeat (first | (with_reducible first | exact HB.out | apply below_alloc | apply pw_below_drewN | apply below_drew1 | refine below_set ?_ GE231.out | refine below_set ?_ GE232.out) | exact HB.out)⟩⟩
 case rest =>
  clear HC3
  try clear c1
  try clear c2
  try clear p2
  try clear c6
  try clear c6b0
  try clear c6b1
  try clear c7
  try clear c7b0
  try clear c7b1
  try clear c8
  try clear c8b0
  try clear c8b1
  try clear c9
  try clear c9b0
  try clear c9b1
  try clear c9b2
  try clear c10
  try clear c11
  try clear c13
  try clear c16
  try clear c19
  try clear c22
  try clear hcz11_0
  try clear hcz11_1
  try clear hcz11_2
  try clear hcz11_3
  try clear hcz11_4
  try clear hcz12_0
  try clear hcz12_1
  try clear hcz12_2
  try clear hcz12_3
  try clear hcz12_4
  try clear hcz14_0
  try clear hcz14_1
  try clear hcz14_2
  try clear hcz14_3
  try clear hcz14_4
  try clear hcz15_0
  try clear hcz15_1
  try clear hcz15_2
  try clear hcz15_3
  try clear hcz15_4
  try clear hcz17_0
  try clear hcz17_1
  try clear hcz17_2
  try clear hcz17_3
  try clear hcz17_4
  try clear hcz18_0
  try clear hcz18_1
  try clear hcz18_2
  try clear hcz18_3
  try clear hcz18_4
  try clear hcz20_0
  try clear hcz20_1
  try clear hcz20_2
  try clear hcz20_3
  try clear hcz20_4
  try clear hcz21_0
  try clear hcz21_1
  try clear hcz21_2
  try clear hcz21_3
  try clear hcz21_4
  try clear hcz23_0
  try clear hcz23_1
  try clear hcz23_2
  try clear hcz23_3
  try clear hcz23_4
  try clear hcz24_0
  try clear hcz24_1
  try clear hcz24_2
  try clear hcz24_3
  try clear hcz24_4
  try clear hfz11_0
  try clear hfz11_1
  try clear hfz11_2
  try clear hfz11_3
  try clear hfz11_4
  try clear hfz12_0
  try clear hfz12_1
  try clear hfz12_2
  try clear hfz12_3
  try clear hfz12_4
  try clear hfz14_0
  try clear hfz14_1
  try clear hfz14_2
  try clear hfz14_3
  try clear hfz14_4
  try clear hfz15_0
  try clear hfz15_1
  try clear hfz15_2
  try clear hfz15_3
  try clear hfz15_4
  try clear hfz17_0
  try clear hfz17_1
  try clear hfz17_2
  try clear hfz17_3
  try clear hfz17_4
  try clear hfz18_0
  try clear hfz18_1
  try clear hfz18_2
  try clear hfz18_3
  try clear hfz18_4
  try clear hfz20_0
  try clear hfz20_1
  try clear hfz20_2
  try clear hfz20_3
  try clear hfz20_4
  try clear hfz21_0
  try clear hfz21_1
  try clear hfz21_2
  try clear hfz21_3
  try clear hfz21_4
  try clear hfz23_0
  try clear hfz23_1
  try clear hfz23_2
  try clear hfz23_3
  try clear hfz23_4
  try clear hfz24_0
  try clear hfz24_1
  try clear hfz24_2
  try clear hfz24_3
  try clear hfz24_4
  obtain ⟨kq, x43_2, rfl, HA, HJ2, BK231, BK232, HB⟩ := hcut
  cases kq with
  | zero => exact absurd HA.out (by simp [spec_Same.j0])
  | succ kj2 =>
   have H := HA.out
   clear HA
   simp only [spec_Same.j0] at H
   by_cases c25 : x43_2 = true
   ·subst c25
    have H1 : (some false) = some r := by rw [if_pos rfl] at H; exact H
    clear H
    have H := H1
    clear H1
    obtain rfl := Option.some.inj H
    go_wp2
    go_ret
    exact ⟨by first | rfl | (simp [errW_none, errW_some] <;> rfl) | (simp [*, errW_none, errW_some] <;> rfl), by repeat (first | (with_reducible first | exact HB.out | apply below_alloc | apply pw_below_drewN | apply below_drew1 | refine below_set ?_ GE231.out | refine below_set ?_ GE232.out) | exact HB.out)⟩
   ·replace c25 := Bool.eq_false_iff.mpr c25
    subst c25
    have H1 : (spec_Same.l0 kj2 0 a0_0 a0_1 a0_2 l0_3 l0_4 a1_0 a1_1 a1_2 l1_3 l1_4) = some r := by rw [if_neg (show ¬ (false = true) by decide)] at H; exact H
    clear H
    have H := H1
    clear H1
    have H' := aM H
    clear H
    go_wp2
    go_loopg [5] kj2 (fun kq v5 w' => ∃ (x5_2 : Int), v5 = .int .i64 x5_2 ∧ Aside0 (spec_Same.l0 kq x5_2 a0_0 a0_1 a0_2 l0_3 l0_4 a1_0 a1_1 a1_2 l1_3 l1_4 = some r) ∧ Aside0 (kq ≤ kj2) ∧ Aside0 (w'.heap[gb231]? = some (.cells #[.int .i64 a0_0, .int .i64 a0_1, .string a0_2, (.slice A0_3 l0_3.length c0_3), (.slice A0_4 l0_4.length c0_4)] 25 (0, 0))) ∧ Aside0 (w'.heap[gb232]? = some (.cells #[.int .i64 a1_0, .int .i64 a1_1, .string a1_2, (.slice A1_3 l1_3.length c1_3), (.slice A1_4 l1_4.length c1_4)] 25 (0, 0))) ∧ Aside0 (Below w.heap.size w w'))
    case atStart => exact ⟨(0), (by first | rfl | (simp; done) | (simp [*]; done)), H', ⟨Nat.le_refl _⟩, ⟨by (with_reducible repeat (first | refine blk_drewN ?_ _ | refine blk_drew ?_ | refine blk_alloc ?_ _)); exact BK231.out⟩, ⟨by (with_reducible repeat (first | refine blk_drewN ?_ _ | refine blk_drew ?_ | refine blk_alloc ?_ _)); exact BK232.out⟩, ⟨by repeat (first | (with_reducible first | exact HB.out | apply below_alloc | apply pw_below_drewN | apply below_drew1 | refine below_set ?_ GE231.out | refine below_set ?_ GE232.out) | exact HB.out)⟩⟩
    case round =>
     clear H'
     try clear c1
     try clear c2
     try clear p2
     try clear c6
     try clear c6b0
     try clear c6b1
     try clear c7
     try clear c7b0
     try clear c7b1
     try clear c8
     try clear c8b0
     try clear c8b1
     try clear c9
     try clear c9b0
     try clear c9b1
     try clear c9b2
     try clear c10
     try clear c11
     try clear c13
     try clear c16
     try clear c19
     try clear c22
     try clear c25
     try clear hcz11_0
     try clear hcz11_1
     try clear hcz11_2
     try clear hcz11_3
     try clear hcz11_4
     try clear hcz12_0
     try clear hcz12_1
     try clear hcz12_2
     try clear hcz12_3
     try clear hcz12_4
     try clear hcz14_0
     try clear hcz14_1
     try clear hcz14_2
     try clear hcz14_3
     try clear hcz14_4
     try clear hcz15_0
     try clear hcz15_1
     try clear hcz15_2
     try clear hcz15_3
     try clear hcz15_4
     try clear hcz17_0
     try clear hcz17_1
     try clear hcz17_2
     try clear hcz17_3
     try clear hcz17_4
     try clear hcz18_0
     try clear hcz18_1
     try clear hcz18_2
     try clear hcz18_3
     try clear hcz18_4
     try clear hcz20_0
     try clear hcz20_1
     try clear hcz20_2
     try clear hcz20_3
     try clear hcz20_4
     try clear hcz21_0
     try clear hcz21_1
     try clear hcz21_2
     try clear hcz21_3
     try clear hcz21_4
     try clear hcz23_0
     try clear hcz23_1
     try clear hcz23_2
     try clear hcz23_3
     try clear hcz23_4
     try clear hcz24_0
     try clear hcz24_1
     try clear hcz24_2
     try clear hcz24_3
     try clear hcz24_4
     try clear hfz11_0
     try clear hfz11_1
     try clear hfz11_2
     try clear hfz11_3
     try clear hfz11_4
     try clear hfz12_0
     try clear hfz12_1
     try clear hfz12_2
     try clear hfz12_3
     try clear hfz12_4
     try clear hfz14_0
     try clear hfz14_1
     try clear hfz14_2
     try clear hfz14_3
     try clear hfz14_4
     try clear hfz15_0
     try clear hfz15_1
     try clear hfz15_2
     try clear hfz15_3
     try clear hfz15_4
     try clear hfz17_0
     try clear hfz17_1
     try clear hfz17_2
     try clear hfz17_3
     try clear hfz17_4
     try clear hfz18_0
     try clear hfz18_1
     try clear hfz18_2
     try clear hfz18_3
     try clear hfz18_4
     try clear hfz20_0
     try clear hfz20_1
     try clear hfz20_2
     try clear hfz20_3
     try clear hfz20_4
     try clear hfz21_0
     try clear hfz21_1
     try clear hfz21_2
     try clear hfz21_3
     try clear hfz21_4
     try clear hfz23_0
     try clear hfz23_1
     try clear hfz23_2
     try clear hfz23_3
     try clear hfz23_4
     try clear hfz24_0
     try clear hfz24_1
     try clear hfz24_2
     try clear hfz24_3
     try clear hfz24_4
     try clear p2
     obtain ⟨x5_2, rfl, HA, HK2, BK231, BK232, HB⟩ := hrel
     cases gk with
     | zero => exact absurd HA.out (by simp [spec_Same.l0])
     | succ k2 =>
      have H := HA.out
      clear HA
      simp only [spec_Same.l0] at H
      by_cases c26 : x5_2 < (l0_3.length : Int)
      ·rw [if_pos c26] at H
       have c26b0 : decide (x5_2 < (l0_3.length : Int)) = true := decide_eq_true c26
       clear c26
       by_cases c27 : 0 ≤ x5_2
       ·rw [if_pos c27] at H
        have c27b0 : decide (0 ≤ x5_2) = true := decide_eq_true c27
        clear c27
        by_cases c28 : x5_2 < (l1_3.length : Int)
        ·rw [if_pos c28] at H
         have c28b0 : decide (x5_2 < (l1_3.length : Int)) = true := decide_eq_true c28
         clear c28
         by_cases c29 : (rdOf ByteArray.empty l0_3 x5_2).toList = (rdOf ByteArray.empty l1_3 x5_2).toList
         ·rw [if_pos c29] at H
          have c29b0 : ((rdOf ByteArray.empty l0_3 x5_2).toList == (rdOf ByteArray.empty l1_3 x5_2).toList) = true := beq_iff_eq.mpr c29
          have c29b1 : ((rdOf ByteArray.empty l0_3 x5_2).toList != (rdOf ByteArray.empty l1_3 x5_2).toList) = false := bne_eq_false_iff_eq.mpr c29
          clear c29
          have H' := aM H
          clear H
          have hnb30 := NB231_232.out
          have hnc30 := NB232_231.out
          have hcz31_0 : wr.cell? ⟨gb231, 0, none⟩ = some (.int .i64 a0_0) := (blk_cell BK231.out 0).trans rfl
          have hcz31_1 : wr.cell? ⟨gb231, 1, none⟩ = some (.int .i64 a0_1) := (blk_cell BK231.out 1).trans rfl
          have hcz31_2 : wr.cell? ⟨gb231, 2, none⟩ = some (.string a0_2) := (blk_cell BK231.out 2).trans rfl
          have hcz31_3 : wr.cell? ⟨gb231, 3, none⟩ = some (.slice A0_3 l0_3.length c0_3) := (blk_cell BK231.out 3).trans rfl
          have hcz31_4 : wr.cell? ⟨gb231, 4, none⟩ = some (.slice A0_4 l0_4.length c0_4) := (blk_cell BK231.out 4).trans rfl
          have hfz31_0 := blk_frozen BK231.out 0
          have hfz31_1 := blk_frozen BK231.out 1
          have hfz31_2 := blk_frozen BK231.out 2
          have hfz31_3 := blk_frozen BK231.out 3
          have hfz31_4 := blk_frozen BK231.out 4
          try go_wp2
          have n0_ := aM (blk_drew BK231.out)
          have n1_ := aM (blk_drew BK232.out)
          have n2_ := aM (below_drew1 HB.out)
          clear BK231 BK232 HB; have BK231 := n0_; have BK232 := n1_; have HB := n2_; clear n0_ n1_ n2_
          have p233 : 0 ≤ (x5_2 : Int) := of_decide_eq_true (by first | (with_reducible assumption) | assumption)
          have q233 : x5_2 < (l0_3.length : Int) := of_decide_eq_true (by first | (with_reducible assumption) | assumption)
          obtain ⟨ad233, e233, hx233_0⟩ := Kd.at_string HR0_3.out x5_2 p233 q233
          have hw233_0 := hx233_0
          cases e233
          replace hx233_0 := (HB.out.cell (World.block_lt_of_cell? w _ hx233_0)).trans hx233_0
          replace p233 := eq_true p233
          replace q233 := eq_true q233
          have p234 : 0 ≤ (x5_2 : Int) := of_decide_eq_true (by first | (with_reducible assumption) | assumption)
          have q234 : x5_2 < (l1_3.length : Int) := of_decide_eq_true (by first | (with_reducible assumption) | assumption)
          obtain ⟨ad234, e234, hx234_0⟩ := Kd.at_string HR1_3.out x5_2 p234 q234
          have hw234_0 := hx234_0
          cases e234
          replace hx234_0 := (HB.out.cell (World.block_lt_of_cell? w _ hx234_0)).trans hx234_0
          replace p234 := eq_true p234
          replace q234 := eq_true q234
          refine start_ (n := 11) (S := fun w' => w'.cell? ⟨gb231, 0, none⟩ = some (.int .i64 a0_0) ∧ w'.cell? ⟨gb231, 1, none⟩ = some (.int .i64 a0_1) ∧ w'.cell? ⟨gb231, 2, none⟩ = some (.string a0_2) ∧ w'.cell? ⟨gb231, 3, none⟩ = some (.slice (some ad233) l0_3.length c0_3) ∧ w'.cell? ⟨gb231, 4, none⟩ = some (.slice A0_4 l0_4.length c0_4) ∧ w'.cell? ⟨gb232, 0, none⟩ = some (.int .i64 a1_0) ∧ w'.cell? ⟨gb232, 1, none⟩ = some (.int .i64 a1_1) ∧ w'.cell? ⟨gb232, 2, none⟩ = some (.string a1_2) ∧ w'.cell? ⟨gb232, 3, none⟩ = some (.slice (some ad234) l1_3.length c1_3) ∧ w'.cell? ⟨gb232, 4, none⟩ = some (.slice A1_4 l1_4.length c1_4) ∧ w'.cell? (ad233.add (x5_2).toNat) = some (.string (rdOf ByteArray.empty l0_3 x5_2)) ∧ w'.cell? (ad234.add (x5_2).toNat) = some (.string (rdOf ByteArray.empty l1_3 x5_2))) (ds := []) #[false, false, false, false, false, false, false, false, false, false, false] (by kernel_rfl) rfl rfl ⟨(blk_cell BK231.out 0).trans rfl, (blk_cell BK231.out 1).trans rfl, (blk_cell BK231.out 2).trans rfl, (blk_cell BK231.out 3).trans rfl, (blk_cell BK231.out 4).trans rfl, (blk_cell BK232.out 0).trans rfl, (blk_cell BK232.out 1).trans rfl, (blk_cell BK232.out 2).trans rfl, (blk_cell BK232.out 3).trans rfl, (blk_cell BK232.out 4).trans rfl, ((HB.out.cell (World.block_lt_of_cell? w _ hw233_0)).trans hw233_0), ((HB.out.cell (World.block_lt_of_cell? w _ hw234_0)).trans hw234_0)⟩ (fun hHeld => ?_); refine with_tabW spec_Same.tab6 spec_Same.bits6 (fun HT_ HW_ => ?_)
          generalize wr.drew = w32 at BK231 BK232 HB hx233_0 hx234_0 hHeld ⊢
          refine pure_ (i := 0) (N := some 51) (v := ?_) (a' := ?_) #[true, false, false, false, false, false, false, false, false, false, false] rfl rfl (any_of HT_.out (by kernel_rfl)) (fun _ _ _ h => h) (Or.inl ⟨by rfl, ?_⟩) ?_ ?_
          rotate_left
          ·intro w'; go_simp; with_reducible rfl
          rotate_left
          ·simp only [Act.put, sA, sB, sC, i64_w, i32_w]; rfl
          refine pure_ (i := 2) (N := some 53) (v := ?_) (a' := ?_) #[true, false, true, false, false, false, false, false, false, false, false] rfl rfl (any_of HT_.out (by kernel_rfl)) (fun _ _ _ h => h) (Or.inl ⟨by rfl, ?_⟩) ?_ ?_
          rotate_left
          ·intro w'; go_simp; with_reducible rfl
          rotate_left
          ·simp only [Act.put, sA, sB, sC, i64_w, i32_w]; rfl
          refine pure_ (i := 5) (N := some 56) (v := ?_) (a' := ?_) #[true, false, true, false, false, true, false, false, false, false, false] rfl rfl (any_of HT_.out (by kernel_rfl)) (fun _ _ _ h => h) (Or.inl ⟨by rfl, ?_⟩) ?_ ?_
          rotate_left
          ·intro w'; go_simp; with_reducible rfl
          rotate_left
          ·simp only [Act.put, sA, sB, sC, i64_w, i32_w]; rfl
          refine pure_ (i := 7) (N := some 58) (v := ?_) (a' := ?_) #[true, false, true, false, false, true, false, true, false, false, false] rfl rfl (any_of HT_.out (by kernel_rfl)) (fun _ _ _ h => h) (Or.inl ⟨by rfl, ?_⟩) ?_ ?_
          rotate_left
          ·intro w'; go_simp; with_reducible rfl
          rotate_left
          ·simp only [Act.put, sA, sB, sC, i64_w, i32_w]; rfl
          refine take_ (i := 1) (N := some 52) (v := ?_) (a' := ?_) #[true, true, true, false, false, true, false, true, false, false, false] rfl rfl (take_ofW HT_.out HW_.out (by kernel_rfl)) (fun _ _ _ h => h) (Or.inl ⟨by rfl, ?_⟩) hHeld ?_ ?_
          rotate_left
          ·rintro w' ⟨s0, s1, s2, s3, s4, s5, s6, s7, s8, s9, s10, s11⟩
           go_simp; with_reducible rfl
          rotate_left
          ·simp only [Act.put, sA, sB, sC, i64_w, i32_w]; rfl
          refine pure_ (i := 3) (N := some 54) (v := ?_) (a' := ?_) #[true, true, true, true, false, true, false, true, false, false, false] rfl rfl (any_of HT_.out (by kernel_rfl)) (fun _ _ _ h => h) (Or.inl ⟨by rfl, ?_⟩) ?_ ?_
          rotate_left
          ·intro w'; go_simp; with_reducible rfl
          rotate_left
          ·simp only [Act.put, sA, sB, sC, i64_w, i32_w]; rfl
          refine take_ (i := 4) (N := some 55) (v := ?_) (a' := ?_) #[true, true, true, true, true, true, false, true, false, false, false] rfl rfl (take_ofW HT_.out HW_.out (by kernel_rfl)) (fun _ _ _ h => h) (Or.inl ⟨by rfl, ?_⟩) hHeld ?_ ?_
          rotate_left
          ·rintro w' ⟨s0, s1, s2, s3, s4, s5, s6, s7, s8, s9, s10, s11⟩
           go_simp; with_reducible rfl
          rotate_left
          ·simp only [Act.put, sA, sB, sC, i64_w, i32_w]; rfl
          refine take_ (i := 6) (N := some 57) (v := ?_) (a' := ?_) #[true, true, true, true, true, true, true, true, false, false, false] rfl rfl (take_ofW HT_.out HW_.out (by kernel_rfl)) (fun _ _ _ h => h) (Or.inl ⟨by rfl, ?_⟩) hHeld ?_ ?_
          rotate_left
          ·rintro w' ⟨s0, s1, s2, s3, s4, s5, s6, s7, s8, s9, s10, s11⟩
           go_simp; with_reducible rfl
          rotate_left
          ·simp only [Act.put, sA, sB, sC, i64_w, i32_w]; rfl
          refine pure_ (i := 8) (N := some 59) (v := ?_) (a' := ?_) #[true, true, true, true, true, true, true, true, true, false, false] rfl rfl (any_of HT_.out (by kernel_rfl)) (fun _ _ _ h => h) (Or.inl ⟨by rfl, ?_⟩) ?_ ?_
          rotate_left
          ·intro w'; go_simp; with_reducible rfl
          rotate_left
          ·simp only [Act.put, sA, sB, sC, i64_w, i32_w]; rfl
          refine take_ (i := 9) (N := some 60) (v := ?_) (a' := ?_) #[true, true, true, true, true, true, true, true, true, true, false] rfl rfl (take_ofW HT_.out HW_.out (by kernel_rfl)) (fun _ _ _ h => h) (Or.inl ⟨by rfl, ?_⟩) hHeld ?_ ?_
          rotate_left
          ·rintro w' ⟨s0, s1, s2, s3, s4, s5, s6, s7, s8, s9, s10, s11⟩
           go_simp; with_reducible rfl
          rotate_left
          ·simp only [Act.put, sA, sB, sC, i64_w, i32_w]; rfl
          refine pure_ (i := 10) (N := some 61) (v := ?_) (a' := ?_) #[true, true, true, true, true, true, true, true, true, true, true] rfl rfl (any_of HT_.out (by kernel_rfl)) (fun _ _ _ h => h) (Or.inl ⟨by rfl, ?_⟩) ?_ ?_
          rotate_left
          ·intro w'; go_simp; with_reducible rfl
          rotate_left
          ·simp only [Act.put, sA, sB, sC, i64_w, i32_w]; rfl
          refine done_ (done_of HT_.out (by kernel_rfl)) ?_
          try go_wp2
          go_roundg k2
          case measure => have := HJ2.out; have := HK2.out; omega
          case rel => exact ⟨(wrap64 (x5_2 + 1)), (by first | rfl | (simp; done) | (simp [*]; done)), H', ⟨by have := HJ2.out; have := HK2.out; omega⟩, ⟨by (with_reducible repeat (first | refine blk_drewN ?_ _ | refine blk_drew ?_ | refine blk_alloc ?_ _)); exact BK231.out⟩, ⟨by (with_reducible repeat (first | refine blk_drewN ?_ _ | refine blk_drew ?_ | refine blk_alloc ?_ _)); exact BK232.out⟩, ⟨by repeat (first | (with_reducible first | exact HB.out | apply below_alloc | apply pw_below_drewN | apply below_drew1 | refine below_set ?_ GE231.out | refine below_set ?_ GE232.out) | exact HB.out)⟩⟩
         ·rw [if_neg c29] at H
          have c29b0 : ((rdOf ByteArray.empty l0_3 x5_2).toList == (rdOf ByteArray.empty l1_3 x5_2).toList) = false := beq_eq_false_iff_ne.mpr c29
          have c29b1 : ((rdOf ByteArray.empty l0_3 x5_2).toList != (rdOf ByteArray.empty l1_3 x5_2).toList) = true := bne_iff_ne.mpr c29
          obtain rfl := Option.some.inj H
          have hnb33 := NB231_232.out
          have hnc33 := NB232_231.out
          have hcz34_0 : wr.cell? ⟨gb231, 0, none⟩ = some (.int .i64 a0_0) := (blk_cell BK231.out 0).trans rfl
          have hcz34_1 : wr.cell? ⟨gb231, 1, none⟩ = some (.int .i64 a0_1) := (blk_cell BK231.out 1).trans rfl
          have hcz34_2 : wr.cell? ⟨gb231, 2, none⟩ = some (.string a0_2) := (blk_cell BK231.out 2).trans rfl
          have hcz34_3 : wr.cell? ⟨gb231, 3, none⟩ = some (.slice A0_3 l0_3.length c0_3) := (blk_cell BK231.out 3).trans rfl
          have hcz34_4 : wr.cell? ⟨gb231, 4, none⟩ = some (.slice A0_4 l0_4.length c0_4) := (blk_cell BK231.out 4).trans rfl
          have hfz34_0 := blk_frozen BK231.out 0
          have hfz34_1 := blk_frozen BK231.out 1
          have hfz34_2 := blk_frozen BK231.out 2
          have hfz34_3 := blk_frozen BK231.out 3
          have hfz34_4 := blk_frozen BK231.out 4
          try go_wp2
          have n0_ := aM (blk_drew BK231.out)
          have n1_ := aM (blk_drew BK232.out)
          have n2_ := aM (below_drew1 HB.out)
          clear BK231 BK232 HB; have BK231 := n0_; have BK232 := n1_; have HB := n2_; clear n0_ n1_ n2_
          have p233 : 0 ≤ (x5_2 : Int) := of_decide_eq_true (by first | (with_reducible assumption) | assumption)
          have q233 : x5_2 < (l0_3.length : Int) := of_decide_eq_true (by first | (with_reducible assumption) | assumption)
          obtain ⟨ad233, e233, hx233_0⟩ := Kd.at_string HR0_3.out x5_2 p233 q233
          have hw233_0 := hx233_0
          cases e233
          replace hx233_0 := (HB.out.cell (World.block_lt_of_cell? w _ hx233_0)).trans hx233_0
          replace p233 := eq_true p233
          replace q233 := eq_true q233
          have p234 : 0 ≤ (x5_2 : Int) := of_decide_eq_true (by first | (with_reducible assumption) | assumption)
          have q234 : x5_2 < (l1_3.length : Int) := of_decide_eq_true (by first | (with_reducible assumption) | assumption)
          obtain ⟨ad234, e234, hx234_0⟩ := Kd.at_string HR1_3.out x5_2 p234 q234
          have hw234_0 := hx234_0
          cases e234
          replace hx234_0 := (HB.out.cell (World.block_lt_of_cell? w _ hx234_0)).trans hx234_0
          replace p234 := eq_true p234
          replace q234 := eq_true q234
          refine start_ (n := 11) (S := fun w' => w'.cell? ⟨gb231, 0, none⟩ = some (.int .i64 a0_0) ∧ w'.cell? ⟨gb231, 1, none⟩ = some (.int .i64 a0_1) ∧ w'.cell? ⟨gb231, 2, none⟩ = some (.string a0_2) ∧ w'.cell? ⟨gb231, 3, none⟩ = some (.slice (some ad233) l0_3.length c0_3) ∧ w'.cell? ⟨gb231, 4, none⟩ = some (.slice A0_4 l0_4.length c0_4) ∧ w'.cell? ⟨gb232, 0, none⟩ = some (.int .i64 a1_0) ∧ w'.cell? ⟨gb232, 1, none⟩ = some (.int .i64 a1_1) ∧ w'.cell? ⟨gb232, 2, none⟩ = some (.string a1_2) ∧ w'.cell? ⟨gb232, 3, none⟩ = some (.slice (some ad234) l1_3.length c1_3) ∧ w'.cell? ⟨gb232, 4, none⟩ = some (.slice A1_4 l1_4.length c1_4) ∧ w'.cell? (ad233.add (x5_2).toNat) = some (.string (rdOf ByteArray.empty l0_3 x5_2)) ∧ w'.cell? (ad234.add (x5_2).toNat) = some (.string (rdOf ByteArray.empty l1_3 x5_2))) (ds := []) #[false, false, false, false, false, false, false, false, false, false, false] (by kernel_rfl) rfl rfl ⟨(blk_cell BK231.out 0).trans rfl, (blk_cell BK231.out 1).trans rfl, (blk_cell BK231.out 2).trans rfl, (blk_cell BK231.out 3).trans rfl, (blk_cell BK231.out 4).trans rfl, (blk_cell BK232.out 0).trans rfl, (blk_cell BK232.out 1).trans rfl, (blk_cell BK232.out 2).trans rfl, (blk_cell BK232.out 3).trans rfl, (blk_cell BK232.out 4).trans rfl, ((HB.out.cell (World.block_lt_of_cell? w _ hw233_0)).trans hw233_0), ((HB.out.cell (World.block_lt_of_cell? w _ hw234_0)).trans hw234_0)⟩ (fun hHeld => ?_); refine with_tabW spec_Same.tab6 spec_Same.bits6 (fun HT_ HW_ => ?_)
          generalize wr.drew = w35 at BK231 BK232 HB hx233_0 hx234_0 hHeld ⊢
          refine pure_ (i := 0) (N := some 51) (v := ?_) (a' := ?_) #[true, false, false, false, false, false, false, false, false, false, false] rfl rfl (any_of HT_.out (by kernel_rfl)) (fun _ _ _ h => h) (Or.inl ⟨by rfl, ?_⟩) ?_ ?_
          rotate_left
          ·intro w'; go_simp; with_reducible rfl
          rotate_left
          ·simp only [Act.put, sA, sB, sC, i64_w, i32_w]; rfl
          refine pure_ (i := 2) (N := some 53) (v := ?_) (a' := ?_) #[true, false, true, false, false, false, false, false, false, false, false] rfl rfl (any_of HT_.out (by kernel_rfl)) (fun _ _ _ h => h) (Or.inl ⟨by rfl, ?_⟩) ?_ ?_
          rotate_left
          ·intro w'; go_simp; with_reducible rfl
          rotate_left
          ·simp only [Act.put, sA, sB, sC, i64_w, i32_w]; rfl
          refine pure_ (i := 5) (N := some 56) (v := ?_) (a' := ?_) #[true, false, true, false, false, true, false, false, false, false, false] rfl rfl (any_of HT_.out (by kernel_rfl)) (fun _ _ _ h => h) (Or.inl ⟨by rfl, ?_⟩) ?_ ?_
          rotate_left
          ·intro w'; go_simp; with_reducible rfl
          rotate_left
          ·simp only [Act.put, sA, sB, sC, i64_w, i32_w]; rfl
          refine pure_ (i := 7) (N := some 58) (v := ?_) (a' := ?_) #[true, false, true, false, false, true, false, true, false, false, false] rfl rfl (any_of HT_.out (by kernel_rfl)) (fun _ _ _ h => h) (Or.inl ⟨by rfl, ?_⟩) ?_ ?_
          rotate_left
          ·intro w'; go_simp; with_reducible rfl
          rotate_left
          ·simp only [Act.put, sA, sB, sC, i64_w, i32_w]; rfl
          refine take_ (i := 1) (N := some 52) (v := ?_) (a' := ?_) #[true, true, true, false, false, true, false, true, false, false, false] rfl rfl (take_ofW HT_.out HW_.out (by kernel_rfl)) (fun _ _ _ h => h) (Or.inl ⟨by rfl, ?_⟩) hHeld ?_ ?_
          rotate_left
          ·rintro w' ⟨s0, s1, s2, s3, s4, s5, s6, s7, s8, s9, s10, s11⟩
           go_simp; with_reducible rfl
          rotate_left
          ·simp only [Act.put, sA, sB, sC, i64_w, i32_w]; rfl
          refine pure_ (i := 3) (N := some 54) (v := ?_) (a' := ?_) #[true, true, true, true, false, true, false, true, false, false, false] rfl rfl (any_of HT_.out (by kernel_rfl)) (fun _ _ _ h => h) (Or.inl ⟨by rfl, ?_⟩) ?_ ?_
          rotate_left
          ·intro w'; go_simp; with_reducible rfl
          rotate_left
          ·simp only [Act.put, sA, sB, sC, i64_w, i32_w]; rfl
          refine take_ (i := 4) (N := some 55) (v := ?_) (a' := ?_) #[true, true, true, true, true, true, false, true, false, false, false] rfl rfl (take_ofW HT_.out HW_.out (by kernel_rfl)) (fun _ _ _ h => h) (Or.inl ⟨by rfl, ?_⟩) hHeld ?_ ?_
          rotate_left
          ·rintro w' ⟨s0, s1, s2, s3, s4, s5, s6, s7, s8, s9, s10, s11⟩
           go_simp; with_reducible rfl
          rotate_left
          ·simp only [Act.put, sA, sB, sC, i64_w, i32_w]; rfl
          refine take_ (i := 6) (N := some 57) (v := ?_) (a' := ?_) #[true, true, true, true, true, true, true, true, false, false, false] rfl rfl (take_ofW HT_.out HW_.out (by kernel_rfl)) (fun _ _ _ h => h) (Or.inl ⟨by rfl, ?_⟩) hHeld ?_ ?_
          rotate_left
          ·rintro w' ⟨s0, s1, s2, s3, s4, s5, s6, s7, s8, s9, s10, s11⟩
           go_simp; with_reducible rfl
          rotate_left
          ·simp only [Act.put, sA, sB, sC, i64_w, i32_w]; rfl
          refine pure_ (i := 8) (N := some 59) (v := ?_) (a' := ?_) #[true, true, true, true, true, true, true, true, true, false, false] rfl rfl (any_of HT_.out (by kernel_rfl)) (fun _ _ _ h => h) (Or.inl ⟨by rfl, ?_⟩) ?_ ?_
          rotate_left
          ·intro w'; go_simp; with_reducible rfl
          rotate_left
          ·simp only [Act.put, sA, sB, sC, i64_w, i32_w]; rfl
          refine take_ (i := 9) (N := some 60) (v := ?_) (a' := ?_) #[true, true, true, true, true, true, true, true, true, true, false] rfl rfl (take_ofW HT_.out HW_.out (by kernel_rfl)) (fun _ _ _ h => h) (Or.inl ⟨by rfl, ?_⟩) hHeld ?_ ?_
          rotate_left
          ·rintro w' ⟨s0, s1, s2, s3, s4, s5, s6, s7, s8, s9, s10, s11⟩
           go_simp; with_reducible rfl
          rotate_left
          ·simp only [Act.put, sA, sB, sC, i64_w, i32_w]; rfl
          refine pure_ (i := 10) (N := some 61) (v := ?_) (a' := ?_) #[true, true, true, true, true, true, true, true, true, true, true] rfl rfl (any_of HT_.out (by kernel_rfl)) (fun _ _ _ h => h) (Or.inl ⟨by rfl, ?_⟩) ?_ ?_
          rotate_left
          ·intro w'; go_simp; with_reducible rfl
          rotate_left
          ·simp only [Act.put, sA, sB, sC, i64_w, i32_w]; rfl
          refine done_ (done_of HT_.out (by kernel_rfl)) ?_
          try go_wp2
          go_ret
          exact ⟨by first | rfl | (simp [errW_none, errW_some] <;> rfl) | (simp [*, errW_none, errW_some] <;> rfl), by repeat (first | (with_reducible first | exact HB.out | apply below_alloc | apply pw_below_drewN | apply below_drew1 | refine below_set ?_ GE231.out | refine below_set ?_ GE232.out) | exact HB.out)⟩
        ·rw [if_neg c28] at H
         exact absurd H (by simp)
       ·rw [if_neg c27] at H
        exact absurd H (by simp)
      ·rw [if_neg c26] at H
       have c26b0 : decide (x5_2 < (l0_3.length : Int)) = false := decide_eq_false c26
       clear c26
       have H' := aM H
       clear H
       have hnb36 := NB231_232.out
       have hnc36 := NB232_231.out
       have hcz37_0 : wr.cell? ⟨gb231, 0, none⟩ = some (.int .i64 a0_0) := (blk_cell BK231.out 0).trans rfl
       have hcz37_1 : wr.cell? ⟨gb231, 1, none⟩ = some (.int .i64 a0_1) := (blk_cell BK231.out 1).trans rfl
       have hcz37_2 : wr.cell? ⟨gb231, 2, none⟩ = some (.string a0_2) := (blk_cell BK231.out 2).trans rfl
       have hcz37_3 : wr.cell? ⟨gb231, 3, none⟩ = some (.slice A0_3 l0_3.length c0_3) := (blk_cell BK231.out 3).trans rfl
       have hcz37_4 : wr.cell? ⟨gb231, 4, none⟩ = some (.slice A0_4 l0_4.length c0_4) := (blk_cell BK231.out 4).trans rfl
       have hfz37_0 := blk_frozen BK231.out 0
       have hfz37_1 := blk_frozen BK231.out 1
       have hfz37_2 := blk_frozen BK231.out 2
       have hfz37_3 := blk_frozen BK231.out 3
       have hfz37_4 := blk_frozen BK231.out 4
       go_wp2
       go_loopg [6] k2 (fun kq v6 w' => ∃ (x6_3 : Int), v6 = .int .i64 x6_3 ∧ Aside0 (spec_Same.l1 kq x6_3 a0_0 a0_1 a0_2 l0_3 l0_4 a1_0 a1_1 a1_2 l1_3 l1_4 = some r) ∧ Aside0 (kq ≤ k2) ∧ Aside0 (w'.heap[gb231]? = some (.cells #[.int .i64 a0_0, .int .i64 a0_1, .string a0_2, (.slice A0_3 l0_3.length c0_3), (.slice A0_4 l0_4.length c0_4)] 25 (0, 0))) ∧ Aside0 (w'.heap[gb232]? = some (.cells #[.int .i64 a1_0, .int .i64 a1_1, .string a1_2, (.slice A1_3 l1_3.length c1_3), (.slice A1_4 l1_4.length c1_4)] 25 (0, 0))) ∧ Aside0 (Below w.heap.size w w'))
       case atStart => exact ⟨(0), (by first | rfl | (simp; done) | (simp [*]; done)), H', ⟨Nat.le_refl _⟩, ⟨by (with_reducible repeat (first | refine blk_drewN ?_ _ | refine blk_drew ?_ | refine blk_alloc ?_ _)); exact BK231.out⟩, ⟨by (with_reducible repeat (first | refine blk_drewN ?_ _ | refine blk_drew ?_ | refine blk_alloc ?_ _)); exact BK232.out⟩, ⟨by repeat (first | (with_reducible first | exact HB.out | apply below_alloc | apply pw_below_drewN | apply below_drew1 | refine below_set ?_ GE231.out | refine below_set ?_ GE232.out) | exact HB.out)⟩⟩
       case round =>
        clear H'
        try clear c1
        try clear c2
        try clear p2
        try clear q2
        try clear hx2
        try clear c3
        try clear c6
        try clear c6b0
        try clear c6b1
        try clear p6
        try clear c7
        try clear c7b0
        try clear c7b1
        try clear c8
        try clear c8b0
        try clear c8b1
        try clear c9
        try clear c9b0
        try clear c9b1
        try clear c9b2
        try clear c10
        try clear c11
        try clear c13
        try clear c16
        try clear c19
        try clear c22
        try clear p23
        try clear q23
        try clear hx23
        try clear c25
        try clear c26
        try clear c26b0
        try clear c27
        try clear c27b0
        try clear c28
        try clear c28b0
        try clear c29
        try clear c29b0
        try clear c29b1
        try clear c30
        try clear c33
        try clear c36
        try clear hcz11_0
        try clear hcz11_1
        try clear hcz11_2
        try clear hcz11_3
        try clear hcz11_4
        try clear hcz12_0
        try clear hcz12_1
        try clear hcz12_2
        try clear hcz12_3
        try clear hcz12_4
        try clear hcz14_0
        try clear hcz14_1
        try clear hcz14_2
        try clear hcz14_3
        try clear hcz14_4
        try clear hcz15_0
        try clear hcz15_1
        try clear hcz15_2
        try clear hcz15_3
        try clear hcz15_4
        try clear hcz17_0
        try clear hcz17_1
        try clear hcz17_2
        try clear hcz17_3
        try clear hcz17_4
        try clear hcz18_0
        try clear hcz18_1
        try clear hcz18_2
        try clear hcz18_3
        try clear hcz18_4
        try clear hcz20_0
        try clear hcz20_1
        try clear hcz20_2
        try clear hcz20_3
        try clear hcz20_4
        try clear hcz21_0
        try clear hcz21_1
        try clear hcz21_2
        try clear hcz21_3
        try clear hcz21_4
        try clear hcz23_0
        try clear hcz23_1
        try clear hcz23_2
        try clear hcz23_3
        try clear hcz23_4
        try clear hcz24_0
        try clear hcz24_1
        try clear hcz24_2
        try clear hcz24_3
        try clear hcz24_4
        try clear hcz31_0
        try clear hcz31_1
        try clear hcz31_2
        try clear hcz31_3
        try clear hcz31_4
        try clear hcz34_0
        try clear hcz34_1
        try clear hcz34_2
        try clear hcz34_3
        try clear hcz34_4
        try clear hcz37_0
        try clear hcz37_1
        try clear hcz37_2
        try clear hcz37_3
        try clear hcz37_4
        try clear hfz11_0
        try clear hfz11_1
        try clear hfz11_2
        try clear hfz11_3
        try clear hfz11_4
        try clear hfz12_0
        try clear hfz12_1
        try clear hfz12_2
        try clear hfz12_3
        try clear hfz12_4
        try clear hfz14_0
        try clear hfz14_1
        try clear hfz14_2
        try clear hfz14_3
        try clear hfz14_4
        try clear hfz15_0
        try clear hfz15_1
        try clear hfz15_2
        try clear hfz15_3
        try clear hfz15_4
        try clear hfz17_0
        try clear hfz17_1
        try clear hfz17_2
        try clear hfz17_3
        try clear hfz17_4
        try clear hfz18_0
        try clear hfz18_1
        try clear hfz18_2
        try clear hfz18_3
        try clear hfz18_4
        try clear hfz20_0
        try clear hfz20_1
        try clear hfz20_2
        try clear hfz20_3
        try clear hfz20_4
        try clear hfz21_0
        try clear hfz21_1
        try clear hfz21_2
        try clear hfz21_3
        try clear hfz21_4
        try clear hfz23_0
        try clear hfz23_1
        try clear hfz23_2
        try clear hfz23_3
        try clear hfz23_4
        try clear hfz24_0
        try clear hfz24_1
        try clear hfz24_2
        try clear hfz24_3
        try clear hfz24_4
        try clear hfz31_0
        try clear hfz31_1
        try clear hfz31_2
        try clear hfz31_3
        try clear hfz31_4
        try clear hfz34_0
        try clear hfz34_1
        try clear hfz34_2
        try clear hfz34_3
        try clear hfz34_4
        try clear hfz37_0
        try clear hfz37_1
        try clear hfz37_2
        try clear hfz37_3
        try clear hfz37_4
        try clear hx233_0
        try clear hx234_0
        try clear p2
        try clear p233
        try clear p234
        try clear q233
        try clear q234
        obtain ⟨x6_3, rfl, HA, HK3, BK231, BK232, HB⟩ := hrel
        cases gk with
        | zero => exact absurd HA.out (by simp [spec_Same.l1])
        | succ k3 =>
         have H := HA.out
         clear HA
         simp only [spec_Same.l1] at H
         by_cases c38 : x6_3 < (l0_4.length : Int)
         ·rw [if_pos c38] at H
          have c38b0 : decide (x6_3 < (l0_4.length : Int)) = true := decide_eq_true c38
          clear c38
          by_cases c39 : 0 ≤ x6_3
          ·rw [if_pos c39] at H
           have c39b0 : decide (0 ≤ x6_3) = true := decide_eq_true c39
           clear c39
           by_cases c40 : x6_3 < (l1_4.length : Int)
           ·rw [if_pos c40] at H
            have c40b0 : decide (x6_3 < (l1_4.length : Int)) = true := decide_eq_true c40
            clear c40
            replace H := Option.bind_eq_some_iff.mp H
            obtain ⟨t237, A410, H⟩ := H
            replace H : (if t237 = true then (spec_Same.l1 k3 (wrap64 (x6_3 + 1)) a0_0 a0_1 a0_2 l0_3 l0_4 a1_0 a1_1 a1_2 l1_3 l1_4) else (some false)) = some r := H
            have A41 := aM A410
            clear A410
            by_cases c42 : t237 = true
            ·subst c42
             have H1 : (spec_Same.l1 k3 (wrap64 (x6_3 + 1)) a0_0 a0_1 a0_2 l0_3 l0_4 a1_0 a1_1 a1_2 l1_3 l1_4) = some r := by rw [if_pos rfl] at H; exact H
             clear H
             have H := H1
             clear H1
             have H' := aM H
             clear H
             have hnb43 := NB231_232.out
             have hnc43 := NB232_231.out
             have hcz44_0 : wr.cell? ⟨gb231, 0, none⟩ = some (.int .i64 a0_0) := (blk_cell BK231.out 0).trans rfl
             have hcz44_1 : wr.cell? ⟨gb231, 1, none⟩ = some (.int .i64 a0_1) := (blk_cell BK231.out 1).trans rfl
             have hcz44_2 : wr.cell? ⟨gb231, 2, none⟩ = some (.string a0_2) := (blk_cell BK231.out 2).trans rfl
             have hcz44_3 : wr.cell? ⟨gb231, 3, none⟩ = some (.slice A0_3 l0_3.length c0_3) := (blk_cell BK231.out 3).trans rfl
             have hcz44_4 : wr.cell? ⟨gb231, 4, none⟩ = some (.slice A0_4 l0_4.length c0_4) := (blk_cell BK231.out 4).trans rfl
             have hfz44_0 := blk_frozen BK231.out 0
             have hfz44_1 := blk_frozen BK231.out 1
             have hfz44_2 := blk_frozen BK231.out 2
             have hfz44_3 := blk_frozen BK231.out 3
             have hfz44_4 := blk_frozen BK231.out 4
             try go_wp2
             have n0_ := aM (blk_drew BK231.out)
             have n1_ := aM (blk_drew BK232.out)
             have n2_ := aM (below_drew1 HB.out)
             clear BK231 BK232 HB; have BK231 := n0_; have BK232 := n1_; have HB := n2_; clear n0_ n1_ n2_
             have p235 : 0 ≤ (x6_3 : Int) := of_decide_eq_true (by first | (with_reducible assumption) | assumption)
             have q235 : x6_3 < (l0_4.length : Int) := of_decide_eq_true (by first | (with_reducible assumption) | assumption)
             obtain ⟨ad235, A235_3, c235_3, A235_4, c235_4, e235, hx235_0, hx235_1, hx235_2, hx235_3, hx235_4, hl235_3, hi235_3, hl235_4, hi235_4⟩ := at_T25 HR0_4.out x6_3 p235 q235
             have hw235_4 := hx235_4
             have hw235_3 := hx235_3
             have hw235_2 := hx235_2
             have hw235_1 := hx235_1
             have hw235_0 := hx235_0
             cases e235
             replace hx235_0 := (HB.out.cell (World.block_lt_of_cell? w _ hx235_0)).trans hx235_0
             replace hx235_1 := (HB.out.cell (World.block_lt_of_cell? w _ hx235_1)).trans hx235_1
             replace hx235_2 := (HB.out.cell (World.block_lt_of_cell? w _ hx235_2)).trans hx235_2
             replace hx235_3 := (HB.out.cell (World.block_lt_of_cell? w _ hx235_3)).trans hx235_3
             replace hx235_4 := (HB.out.cell (World.block_lt_of_cell? w _ hx235_4)).trans hx235_4
             have HR235_3 := aM hi235_3
             have HC235_3 := aM hl235_3
             clear hi235_3 hl235_3
             have HR235_4 := aM hi235_4
             have HC235_4 := aM hl235_4
             clear hi235_4 hl235_4
             replace p235 := eq_true p235
             replace q235 := eq_true q235
             have p236 : 0 ≤ (x6_3 : Int) := of_decide_eq_true (by first | (with_reducible assumption) | assumption)
             have q236 : x6_3 < (l1_4.length : Int) := of_decide_eq_true (by first | (with_reducible assumption) | assumption)
             obtain ⟨ad236, A236_3, c236_3, A236_4, c236_4, e236, hx236_0, hx236_1, hx236_2, hx236_3, hx236_4, hl236_3, hi236_3, hl236_4, hi236_4⟩ := at_T25 HR1_4.out x6_3 p236 q236
             have hw236_4 := hx236_4
             have hw236_3 := hx236_3
             have hw236_2 := hx236_2
             have hw236_1 := hx236_1
             have hw236_0 := hx236_0
             cases e236
             replace hx236_0 := (HB.out.cell (World.block_lt_of_cell? w _ hx236_0)).trans hx236_0
             replace hx236_1 := (HB.out.cell (World.block_lt_of_cell? w _ hx236_1)).trans hx236_1
             replace hx236_2 := (HB.out.cell (World.block_lt_of_cell? w _ hx236_2)).trans hx236_2
             replace hx236_3 := (HB.out.cell (World.block_lt_of_cell? w _ hx236_3)).trans hx236_3
             replace hx236_4 := (HB.out.cell (World.block_lt_of_cell? w _ hx236_4)).trans hx236_4
             have HR236_3 := aM hi236_3
             have HC236_3 := aM hl236_3
             clear hi236_3 hl236_3
             have HR236_4 := aM hi236_4
             have HC236_4 := aM hl236_4
             clear hi236_4 hl236_4
             replace p236 := eq_true p236
             replace q236 := eq_true q236
             refine start_ (n := 12) (S := fun w' => w'.cell? ⟨gb231, 0, none⟩ = some (.int .i64 a0_0) ∧ w'.cell? ⟨gb231, 1, none⟩ = some (.int .i64 a0_1) ∧ w'.cell? ⟨gb231, 2, none⟩ = some (.string a0_2) ∧ w'.cell? ⟨gb231, 3, none⟩ = some (.slice A0_3 l0_3.length c0_3) ∧ w'.cell? ⟨gb231, 4, none⟩ = some (.slice (some ad235) l0_4.length c0_4) ∧ w'.cell? ⟨gb232, 0, none⟩ = some (.int .i64 a1_0) ∧ w'.cell? ⟨gb232, 1, none⟩ = some (.int .i64 a1_1) ∧ w'.cell? ⟨gb232, 2, none⟩ = some (.string a1_2) ∧ w'.cell? ⟨gb232, 3, none⟩ = some (.slice A1_3 l1_3.length c1_3) ∧ w'.cell? ⟨gb232, 4, none⟩ = some (.slice (some ad236) l1_4.length c1_4) ∧ w'.cell? (ad235.add ((x6_3).toNat * 5)) = some (.int .i64 ((rd_T25 l0_4 x6_3).f0)) ∧ w'.cell? ⟨(ad235.add ((x6_3).toNat * 5)).block, (ad235.add ((x6_3).toNat * 5)).off + 1, none⟩ = some (.int .i64 ((rd_T25 l0_4 x6_3).f1)) ∧ w'.cell? ⟨(ad235.add ((x6_3).toNat * 5)).block, (ad235.add ((x6_3).toNat * 5)).off + 2, none⟩ = some (.string ((rd_T25 l0_4 x6_3).f2)) ∧ w'.cell? ⟨(ad235.add ((x6_3).toNat * 5)).block, (ad235.add ((x6_3).toNat * 5)).off + 3, none⟩ = some (.slice A235_3 ((rd_T25 l0_4 x6_3).f3).length c235_3) ∧ w'.cell? ⟨(ad235.add ((x6_3).toNat * 5)).block, (ad235.add ((x6_3).toNat * 5)).off + 4, none⟩ = some (.slice A235_4 ((rd_T25 l0_4 x6_3).f4).length c235_4) ∧ w'.cell? (ad236.add ((x6_3).toNat * 5)) = some (.int .i64 ((rd_T25 l1_4 x6_3).f0)) ∧ w'.cell? ⟨(ad236.add ((x6_3).toNat * 5)).block, (ad236.add ((x6_3).toNat * 5)).off + 1, none⟩ = some (.int .i64 ((rd_T25 l1_4 x6_3).f1)) ∧ w'.cell? ⟨(ad236.add ((x6_3).toNat * 5)).block, (ad236.add ((x6_3).toNat * 5)).off + 2, none⟩ = some (.string ((rd_T25 l1_4 x6_3).f2)) ∧ w'.cell? ⟨(ad236.add ((x6_3).toNat * 5)).block, (ad236.add ((x6_3).toNat * 5)).off + 3, none⟩ = some (.slice A236_3 ((rd_T25 l1_4 x6_3).f3).length c236_3) ∧ w'.cell? ⟨(ad236.add ((x6_3).toNat * 5)).block, (ad236.add ((x6_3).toNat * 5)).off + 4, none⟩ = some (.slice A236_4 ((rd_T25 l1_4 x6_3).f4).length c236_4)) (ds := []) #[false, false, false, false, false, false, false, false, false, false, false, false] (by kernel_rfl) rfl rfl ⟨(blk_cell BK231.out 0).trans rfl, (blk_cell BK231.out 1).trans rfl, (blk_cell BK231.out 2).trans rfl, (blk_cell BK231.out 3).trans rfl, (blk_cell BK231.out 4).trans rfl, (blk_cell BK232.out 0).trans rfl, (blk_cell BK232.out 1).trans rfl, (blk_cell BK232.out 2).trans rfl, (blk_cell BK232.out 3).trans rfl, (blk_cell BK232.out 4).trans rfl, ((HB.out.cell (World.block_lt_of_cell? w _ hw235_0)).trans hw235_0), ((HB.out.cell (World.block_lt_of_cell? w _ hw235_1)).trans hw235_1), ((HB.out.cell (World.block_lt_of_cell? w _ hw235_2)).trans hw235_2), ((HB.out.cell (World.block_lt_of_cell? w _ hw235_3)).trans hw235_3), ((HB.out.cell (World.block_lt_of_cell? w _ hw235_4)).trans hw235_4), ((HB.out.cell (World.block_lt_of_cell? w _ hw236_0)).trans hw236_0), ((HB.out.cell (World.block_lt_of_cell? w _ hw236_1)).trans hw236_1), ((HB.out.cell (World.block_lt_of_cell? w _ hw236_2)).trans hw236_2), ((HB.out.cell (World.block_lt_of_cell? w _ hw236_3)).trans hw236_3), ((HB.out.cell (World.block_lt_of_cell? w _ hw236_4)).trans hw236_4)⟩ (fun hHeld => ?_); refine with_tabW spec_Same.tab11 spec_Same.bits11 (fun HT_ HW_ => ?_)
             generalize wr.drew = w45 at BK231 BK232 HB HR235_3 HR235_4 HR236_3 HR236_4 hx235_0 hx235_1 hx235_2 hx235_3 hx235_4 hx236_0 hx236_1 hx236_2 hx236_3 hx236_4 hHeld ⊢
             refine pure_ (i := 0) (N := some 69) (v := ?_) (a' := ?_) #[true, false, false, false, false, false, false, false, false, false, false, false] rfl rfl (any_of HT_.out (by kernel_rfl)) (fun _ _ _ h => h) (Or.inl ⟨by rfl, ?_⟩) ?_ ?_
             rotate_left
             ·intro w'; go_simp; with_reducible rfl
             rotate_left
             ·simp only [Act.put, sA, sB, sC, i64_w, i32_w]; rfl
             refine pure_ (i := 2) (N := some 71) (v := ?_) (a' := ?_) #[true, false, true, false, false, false, false, false, false, false, false, false] rfl rfl (any_of HT_.out (by kernel_rfl)) (fun _ _ _ h => h) (Or.inl ⟨by rfl, ?_⟩) ?_ ?_
             rotate_left
             ·intro w'; go_simp; with_reducible rfl
             rotate_left
             ·simp only [Act.put, sA, sB, sC, i64_w, i32_w]; rfl
             refine pure_ (i := 5) (N := some 74) (v := ?_) (a' := ?_) #[true, false, true, false, false, true, false, false, false, false, false, false] rfl rfl (any_of HT_.out (by kernel_rfl)) (fun _ _ _ h => h) (Or.inl ⟨by rfl, ?_⟩) ?_ ?_
             rotate_left
             ·intro w'; go_simp; with_reducible rfl
             rotate_left
             ·simp only [Act.put, sA, sB, sC, i64_w, i32_w]; rfl
             refine pure_ (i := 7) (N := some 76) (v := ?_) (a' := ?_) #[true, false, true, false, false, true, false, true, false, false, false, false] rfl rfl (any_of HT_.out (by kernel_rfl)) (fun _ _ _ h => h) (Or.inl ⟨by rfl, ?_⟩) ?_ ?_
             rotate_left
             ·intro w'; go_simp; with_reducible rfl
             rotate_left
             ·simp only [Act.put, sA, sB, sC, i64_w, i32_w]; rfl
             refine take_ (i := 1) (N := some 70) (v := ?_) (a' := ?_) #[true, true, true, false, false, true, false, true, false, false, false, false] rfl rfl (take_ofW HT_.out HW_.out (by kernel_rfl)) (fun _ _ _ h => h) (Or.inl ⟨by rfl, ?_⟩) hHeld ?_ ?_
             rotate_left
             ·rintro w' ⟨s0, s1, s2, s3, s4, s5, s6, s7, s8, s9, s10, s11, s12, s13, s14, s15, s16, s17, s18, s19⟩
              go_simp; with_reducible rfl
             rotate_left
             ·simp only [Act.put, sA, sB, sC, i64_w, i32_w]; rfl
             refine pure_ (i := 3) (N := some 72) (v := ?_) (a' := ?_) #[true, true, true, true, false, true, false, true, false, false, false, false] rfl rfl (any_of HT_.out (by kernel_rfl)) (fun _ _ _ h => h) (Or.inl ⟨by rfl, ?_⟩) ?_ ?_
             rotate_left
             ·intro w'; go_simp; with_reducible rfl
             rotate_left
             ·simp only [Act.put, sA, sB, sC, i64_w, i32_w]; rfl
             refine take_ (i := 4) (N := some 73) (v := ?_) (a' := ?_) #[true, true, true, true, true, true, false, true, false, false, false, false] rfl rfl (take_ofW HT_.out HW_.out (by kernel_rfl)) (fun _ _ _ h => h) (Or.inl ⟨by rfl, ?_⟩) hHeld ?_ ?_
             rotate_left
             ·rintro w' ⟨s0, s1, s2, s3, s4, s5, s6, s7, s8, s9, s10, s11, s12, s13, s14, s15, s16, s17, s18, s19⟩
              go_simp; with_reducible rfl
             rotate_left
             ·simp only [Act.put, sA, sB, sC, i64_w, i32_w]; rfl
             refine take_ (i := 6) (N := some 75) (v := ?_) (a' := ?_) #[true, true, true, true, true, true, true, true, false, false, false, false] rfl rfl (take_ofW HT_.out HW_.out (by kernel_rfl)) (fun _ _ _ h => h) (Or.inl ⟨by rfl, ?_⟩) hHeld ?_ ?_
             rotate_left
             ·rintro w' ⟨s0, s1, s2, s3, s4, s5, s6, s7, s8, s9, s10, s11, s12, s13, s14, s15, s16, s17, s18, s19⟩
              go_simp; with_reducible rfl
             rotate_left
             ·simp only [Act.put, sA, sB, sC, i64_w, i32_w]; rfl
             refine pure_ (i := 8) (N := some 77) (v := ?_) (a' := ?_) #[true, true, true, true, true, true, true, true, true, false, false, false] rfl rfl (any_of HT_.out (by kernel_rfl)) (fun _ _ _ h => h) (Or.inl ⟨by rfl, ?_⟩) ?_ ?_
             rotate_left
             ·intro w'; go_simp; with_reducible rfl
             rotate_left
             ·simp only [Act.put, sA, sB, sC, i64_w, i32_w]; rfl
             refine take_ (i := 9) (N := some 78) (v := ?_) (a' := ?_) #[true, true, true, true, true, true, true, true, true, true, false, false] rfl rfl (take_ofW HT_.out HW_.out (by kernel_rfl)) (fun _ _ _ h => h) (Or.inl ⟨by rfl, ?_⟩) hHeld ?_ ?_
             rotate_left
             ·rintro w' ⟨s0, s1, s2, s3, s4, s5, s6, s7, s8, s9, s10, s11, s12, s13, s14, s15, s16, s17, s18, s19⟩
              go_simp; with_reducible rfl
             rotate_left
             ·simp only [Act.put, sA, sB, sC, i64_w, i32_w]; rfl
             refine one_ (i := 10) (N := some 79) #[true, true, true, true, true, true, true, true, true, true, true, false] rfl rfl (one_of HT_.out (by kernel_rfl)) (by decide) (fun K hK => ?_)
             refine goes_ Tryz.func11 (by kernel_rfl) rfl #[.agg #[.int .i64 ((rd_T25 l0_4 x6_3).f0), .int .i64 ((rd_T25 l0_4 x6_3).f1), .string ((rd_T25 l0_4 x6_3).f2), .slice A235_3 ((rd_T25 l0_4 x6_3).f3).length c235_3, .slice A235_4 ((rd_T25 l0_4 x6_3).f4).length c235_4], .agg #[.int .i64 ((rd_T25 l1_4 x6_3).f0), .int .i64 ((rd_T25 l1_4 x6_3).f1), .string ((rd_T25 l1_4 x6_3).f2), .slice A236_3 ((rd_T25 l1_4 x6_3).f3).length c236_3, .slice A236_4 ((rd_T25 l1_4 x6_3).f4).length c236_4]] (by rfl) rfl rfl (by (try simp only [List.map_toArray, List.map_cons, List.map_nil]); first | done | rfl | (simp only [List.length_drop, List.length_take]; rfl)) ?_
             with_reducible refine (ih k3 (by have := HJ2.out; have := HK2.out; have := HK3.out; omega) ((rd_T25 l0_4 x6_3).f0) ((rd_T25 l0_4 x6_3).f1) ((rd_T25 l0_4 x6_3).f2) _ _ ((rd_T25 l0_4 x6_3).f3) _ _ ((rd_T25 l0_4 x6_3).f4) ((rd_T25 l1_4 x6_3).f0) ((rd_T25 l1_4 x6_3).f1) ((rd_T25 l1_4 x6_3).f2) _ _ ((rd_T25 l1_4 x6_3).f3) _ _ ((rd_T25 l1_4 x6_3).f4) true _ ?side1 ?side2 ?side3 ?side4 ?side5 ?side6 ?side7 ?side8 A41.out).mono ?_
             (case side1 => repeat (first | exact (Kd.C_below HR235_3.out HB.out) | (with_reducible refine Kd.C_alloc ?_ _) | (with_reducible refine Kd.C_drewN ?_ _) | (with_reducible refine Kd.C_drew ?_)))
             (case side2 => exact HC235_3.out)
             (case side3 => repeat (first | exact (Kd.C_below HR235_4.out HB.out) | (with_reducible refine Kd.C_alloc ?_ _) | (with_reducible refine Kd.C_drewN ?_ _) | (with_reducible refine Kd.C_drew ?_)))
             (case side4 => exact HC235_4.out)
             (case side5 => repeat (first | exact (Kd.C_below HR236_3.out HB.out) | (with_reducible refine Kd.C_alloc ?_ _) | (with_reducible refine Kd.C_drewN ?_ _) | (with_reducible refine Kd.C_drew ?_)))
             (case side6 => exact HC236_3.out)
             (case side7 => repeat (first | exact (Kd.C_below HR236_4.out HB.out) | (with_reducible refine Kd.C_alloc ?_ _) | (with_reducible refine Kd.C_drewN ?_ _) | (with_reducible refine Kd.C_drew ?_)))
             (case side8 => exact HC236_4.out)
             rintro e w46 ⟨rfl, hb⟩
             refine ⟨_, rfl, ?_⟩
             have n0_ := aM (blk_below (g := gb231) (o := .cells #[.int .i64 a0_0, .int .i64 a0_1, .string a0_2, .slice A0_3 l0_3.length c0_3, .slice (some ad235) l0_4.length c0_4] 25 (0, 0)) (by (with_reducible repeat (first | refine blk_drewN ?_ _ | refine blk_drew ?_ | refine blk_alloc ?_ _)); exact BK231.out) hb)
             have n1_ := aM (blk_below (g := gb232) (o := .cells #[.int .i64 a1_0, .int .i64 a1_1, .string a1_2, .slice A1_3 l1_3.length c1_3, .slice (some ad236) l1_4.length c1_4] 25 (0, 0)) (by (with_reducible repeat (first | refine blk_drewN ?_ _ | refine blk_drew ?_ | refine blk_alloc ?_ _)); exact BK232.out) hb)
             have n2_ := aM (below_step (by repeat (first | (with_reducible first | exact HB.out | apply below_alloc | apply pw_below_drewN | apply below_drew1 | refine below_set ?_ GE231.out | refine below_set ?_ GE232.out) | exact HB.out)) hb)
             clear BK231 BK232 HB; have BK231 := n0_; have BK232 := n1_; have HB := n2_; clear n0_ n1_ n2_
             (try clear hb)
             (try clear hb2)
             (try clear hk)
             (try clear hi)
             refine hK.out _ _ ⟨(blk_cell BK231.out 0).trans rfl, (blk_cell BK231.out 1).trans rfl, (blk_cell BK231.out 2).trans rfl, (blk_cell BK231.out 3).trans rfl, (blk_cell BK231.out 4).trans rfl, (blk_cell BK232.out 0).trans rfl, (blk_cell BK232.out 1).trans rfl, (blk_cell BK232.out 2).trans rfl, (blk_cell BK232.out 3).trans rfl, (blk_cell BK232.out 4).trans rfl, ((HB.out.cell (World.block_lt_of_cell? w _ hw235_0)).trans hw235_0), ((HB.out.cell (World.block_lt_of_cell? w _ hw235_1)).trans hw235_1), ((HB.out.cell (World.block_lt_of_cell? w _ hw235_2)).trans hw235_2), ((HB.out.cell (World.block_lt_of_cell? w _ hw235_3)).trans hw235_3), ((HB.out.cell (World.block_lt_of_cell? w _ hw235_4)).trans hw235_4), ((HB.out.cell (World.block_lt_of_cell? w _ hw236_0)).trans hw236_0), ((HB.out.cell (World.block_lt_of_cell? w _ hw236_1)).trans hw236_1), ((HB.out.cell (World.block_lt_of_cell? w _ hw236_2)).trans hw236_2), ((HB.out.cell (World.block_lt_of_cell? w _ hw236_3)).trans hw236_3), ((HB.out.cell (World.block_lt_of_cell? w _ hw236_4)).trans hw236_4)⟩ (fun hHeld => ?_)
             clear hK K
             refine norm_ (a' := ?_) ?_ ?_
             rotate_left
             ·show Act.put _ (some 79) _ = _
              simp only [Act.put, sA, sB, sC, i64_w, i32_w]; rfl
             refine pure_ (i := 11) (N := some 80) (v := ?_) (a' := ?_) #[true, true, true, true, true, true, true, true, true, true, true, true] rfl rfl (any_of HT_.out (by kernel_rfl)) (fun _ _ _ h => h) (Or.inl ⟨by rfl, ?_⟩) ?_ ?_
             rotate_left
             ·intro w'; go_simp; with_reducible rfl
             rotate_left
             ·simp only [Act.put, sA, sB, sC, i64_w, i32_w]; rfl
             refine done_ (done_of HT_.out (by kernel_rfl)) ?_
             try go_wp2
             go_roundg k3
             case measure => have := HJ2.out; have := HK2.out; have := HK3.out; omega
             case rel => exact ⟨(wrap64 (x6_3 + 1)), (by first | rfl | (simp; done) | (simp [*]; done)), H', ⟨by have := HJ2.out; have := HK2.out; have := HK3.out; omega⟩, ⟨by (with_reducible repeat (first | refine blk_drewN ?_ _ | refine blk_drew ?_ | refine blk_alloc ?_ _)); exact BK231.out⟩, ⟨by (with_reducible repeat (first | refine blk_drewN ?_ _ | refine blk_drew ?_ | refine blk_alloc ?_ _)); exact BK232.out⟩, ⟨by repeat (first | (with_reducible first | exact HB.out | apply below_alloc | apply pw_below_drewN | apply below_drew1 | refine below_set ?_ GE231.out | refine below_set ?_ GE232.out) | exact HB.out)⟩⟩
            ·replace c42 := Bool.eq_false_iff.mpr c42
             subst c42
             have H1 : (some false) = some r := by rw [if_neg (show ¬ (false = true) by decide)] at H; exact H
             clear H
             have H := H1
             clear H1
             obtain rfl := Option.some.inj H
             have hnb47 := NB231_232.out
             have hnc47 := NB232_231.out
             have hcz48_0 : wr.cell? ⟨gb231, 0, none⟩ = some (.int .i64 a0_0) := (blk_cell BK231.out 0).trans rfl
             have hcz48_1 : wr.cell? ⟨gb231, 1, none⟩ = some (.int .i64 a0_1) := (blk_cell BK231.out 1).trans rfl
             have hcz48_2 : wr.cell? ⟨gb231, 2, none⟩ = some (.string a0_2) := (blk_cell BK231.out 2).trans rfl
             have hcz48_3 : wr.cell? ⟨gb231, 3, none⟩ = some (.slice A0_3 l0_3.length c0_3) := (blk_cell BK231.out 3).trans rfl
             have hcz48_4 : wr.cell? ⟨gb231, 4, none⟩ = some (.slice A0_4 l0_4.length c0_4) := (blk_cell BK231.out 4).trans rfl
             have hfz48_0 := blk_frozen BK231.out 0
             have hfz48_1 := blk_frozen BK231.out 1
             have hfz48_2 := blk_frozen BK231.out 2
             have hfz48_3 := blk_frozen BK231.out 3
             have hfz48_4 := blk_frozen BK231.out 4
             try go_wp2
             have n0_ := aM (blk_drew BK231.out)
             have n1_ := aM (blk_drew BK232.out)
             have n2_ := aM (below_drew1 HB.out)
             clear BK231 BK232 HB; have BK231 := n0_; have BK232 := n1_; have HB := n2_; clear n0_ n1_ n2_
             have p235 : 0 ≤ (x6_3 : Int) := of_decide_eq_true (by first | (with_reducible assumption) | assumption)
             have q235 : x6_3 < (l0_4.length : Int) := of_decide_eq_true (by first | (with_reducible assumption) | assumption)
             obtain ⟨ad235, A235_3, c235_3, A235_4, c235_4, e235, hx235_0, hx235_1, hx235_2, hx235_3, hx235_4, hl235_3, hi235_3, hl235_4, hi235_4⟩ := at_T25 HR0_4.out x6_3 p235 q235
             have hw235_4 := hx235_4
             have hw235_3 := hx235_3
             have hw235_2 := hx235_2
             have hw235_1 := hx235_1
             have hw235_0 := hx235_0
             cases e235
             replace hx235_0 := (HB.out.cell (World.block_lt_of_cell? w _ hx235_0)).trans hx235_0
             replace hx235_1 := (HB.out.cell (World.block_lt_of_cell? w _ hx235_1)).trans hx235_1
             replace hx235_2 := (HB.out.cell (World.block_lt_of_cell? w _ hx235_2)).trans hx235_2
             replace hx235_3 := (HB.out.cell (World.block_lt_of_cell? w _ hx235_3)).trans hx235_3
             replace hx235_4 := (HB.out.cell (World.block_lt_of_cell? w _ hx235_4)).trans hx235_4
             have HR235_3 := aM hi235_3
             have HC235_3 := aM hl235_3
             clear hi235_3 hl235_3
             have HR235_4 := aM hi235_4
             have HC235_4 := aM hl235_4
             clear hi235_4 hl235_4
             replace p235 := eq_true p235
             replace q235 := eq_true q235
             have p236 : 0 ≤ (x6_3 : Int) := of_decide_eq_true (by first | (with_reducible assumption) | assumption)
             have q236 : x6_3 < (l1_4.length : Int) := of_decide_eq_true (by first | (with_reducible assumption) | assumption)
             obtain ⟨ad236, A236_3, c236_3, A236_4, c236_4, e236, hx236_0, hx236_1, hx236_2, hx236_3, hx236_4, hl236_3, hi236_3, hl236_4, hi236_4⟩ := at_T25 HR1_4.out x6_3 p236 q236
             have hw236_4 := hx236_4
             have hw236_3 := hx236_3
             have hw236_2 := hx236_2
             have hw236_1 := hx236_1
             have hw236_0 := hx236_0
             cases e236
             replace hx236_0 := (HB.out.cell (World.block_lt_of_cell? w _ hx236_0)).trans hx236_0
             replace hx236_1 := (HB.out.cell (World.block_lt_of_cell? w _ hx236_1)).trans hx236_1
             replace hx236_2 := (HB.out.cell (World.block_lt_of_cell? w _ hx236_2)).trans hx236_2
             replace hx236_3 := (HB.out.cell (World.block_lt_of_cell? w _ hx236_3)).trans hx236_3
             replace hx236_4 := (HB.out.cell (World.block_lt_of_cell? w _ hx236_4)).trans hx236_4
             have HR236_3 := aM hi236_3
             have HC236_3 := aM hl236_3
             clear hi236_3 hl236_3
             have HR236_4 := aM hi236_4
             have HC236_4 := aM hl236_4
             clear hi236_4 hl236_4
             replace p236 := eq_true p236
             replace q236 := eq_true q236
             refine start_ (n := 12) (S := fun w' => w'.cell? ⟨gb231, 0, none⟩ = some (.int .i64 a0_0) ∧ w'.cell? ⟨gb231, 1, none⟩ = some (.int .i64 a0_1) ∧ w'.cell? ⟨gb231, 2, none⟩ = some (.string a0_2) ∧ w'.cell? ⟨gb231, 3, none⟩ = some (.slice A0_3 l0_3.length c0_3) ∧ w'.cell? ⟨gb231, 4, none⟩ = some (.slice (some ad235) l0_4.length c0_4) ∧ w'.cell? ⟨gb232, 0, none⟩ = some (.int .i64 a1_0) ∧ w'.cell? ⟨gb232, 1, none⟩ = some (.int .i64 a1_1) ∧ w'.cell? ⟨gb232, 2, none⟩ = some (.string a1_2) ∧ w'.cell? ⟨gb232, 3, none⟩ = some (.slice A1_3 l1_3.length c1_3) ∧ w'.cell? ⟨gb232, 4, none⟩ = some (.slice (some ad236) l1_4.length c1_4) ∧ w'.cell? (ad235.add ((x6_3).toNat * 5)) = some (.int .i64 ((rd_T25 l0_4 x6_3).f0)) ∧ w'.cell? ⟨(ad235.add ((x6_3).toNat * 5)).block, (ad235.add ((x6_3).toNat * 5)).off + 1, none⟩ = some (.int .i64 ((rd_T25 l0_4 x6_3).f1)) ∧ w'.cell? ⟨(ad235.add ((x6_3).toNat * 5)).block, (ad235.add ((x6_3).toNat * 5)).off + 2, none⟩ = some (.string ((rd_T25 l0_4 x6_3).f2)) ∧ w'.cell? ⟨(ad235.add ((x6_3).toNat * 5)).block, (ad235.add ((x6_3).toNat * 5)).off + 3, none⟩ = some (.slice A235_3 ((rd_T25 l0_4 x6_3).f3).length c235_3) ∧ w'.cell? ⟨(ad235.add ((x6_3).toNat * 5)).block, (ad235.add ((x6_3).toNat * 5)).off + 4, none⟩ = some (.slice A235_4 ((rd_T25 l0_4 x6_3).f4).length c235_4) ∧ w'.cell? (ad236.add ((x6_3).toNat * 5)) = some (.int .i64 ((rd_T25 l1_4 x6_3).f0)) ∧ w'.cell? ⟨(ad236.add ((x6_3).toNat * 5)).block, (ad236.add ((x6_3).toNat * 5)).off + 1, none⟩ = some (.int .i64 ((rd_T25 l1_4 x6_3).f1)) ∧ w'.cell? ⟨(ad236.add ((x6_3).toNat * 5)).block, (ad236.add ((x6_3).toNat * 5)).off + 2, none⟩ = some (.string ((rd_T25 l1_4 x6_3).f2)) ∧ w'.cell? ⟨(ad236.add ((x6_3).toNat * 5)).block, (ad236.add ((x6_3).toNat * 5)).off + 3, none⟩ = some (.slice A236_3 ((rd_T25 l1_4 x6_3).f3).length c236_3) ∧ w'.cell? ⟨(ad236.add ((x6_3).toNat * 5)).block, (ad236.add ((x6_3).toNat * 5)).off + 4, none⟩ = some (.slice A236_4 ((rd_T25 l1_4 x6_3).f4).length c236_4)) (ds := []) #[false, false, false, false, false, false, false, false, false, false, false, false] (by kernel_rfl) rfl rfl ⟨(blk_cell BK231.out 0).trans rfl, (blk_cell BK231.out 1).trans rfl, (blk_cell BK231.out 2).trans rfl, (blk_cell BK231.out 3).trans rfl, (blk_cell BK231.out 4).trans rfl, (blk_cell BK232.out 0).trans rfl, (blk_cell BK232.out 1).trans rfl, (blk_cell BK232.out 2).trans rfl, (blk_cell BK232.out 3).trans rfl, (blk_cell BK232.out 4).trans rfl, ((HB.out.cell (World.block_lt_of_cell? w _ hw235_0)).trans hw235_0), ((HB.out.cell (World.block_lt_of_cell? w _ hw235_1)).trans hw235_1), ((HB.out.cell (World.block_lt_of_cell? w _ hw235_2)).trans hw235_2), ((HB.out.cell (World.block_lt_of_cell? w _ hw235_3)).trans hw235_3), ((HB.out.cell (World.block_lt_of_cell? w _ hw235_4)).trans hw235_4), ((HB.out.cell (World.block_lt_of_cell? w _ hw236_0)).trans hw236_0), ((HB.out.cell (World.block_lt_of_cell? w _ hw236_1)).trans hw236_1), ((HB.out.cell (World.block_lt_of_cell? w _ hw236_2)).trans hw236_2), ((HB.out.cell (World.block_lt_of_cell? w _ hw236_3)).trans hw236_3), ((HB.out.cell (World.block_lt_of_cell? w _ hw236_4)).trans hw236_4)⟩ (fun hHeld => ?_); refine with_tabW spec_Same.tab11 spec_Same.bits11 (fun HT_ HW_ => ?_)
             generalize wr.drew = w49 at BK231 BK232 HB HR235_3 HR235_4 HR236_3 HR236_4 hx235_0 hx235_1 hx235_2 hx235_3 hx235_4 hx236_0 hx236_1 hx236_2 hx236_3 hx236_4 hHeld ⊢
             refine pure_ (i := 0) (N := some 69) (v := ?_) (a' := ?_) #[true, false, false, false, false, false, false, false, false, false, false, false] rfl rfl (any_of HT_.out (by kernel_rfl)) (fun _ _ _ h => h) (Or.inl ⟨by rfl, ?_⟩) ?_ ?_
             rotate_left
             ·intro w'; go_simp; with_reducible rfl
             rotate_left
             ·simp only [Act.put, sA, sB, sC, i64_w, i32_w]; rfl
             refine pure_ (i := 2) (N := some 71) (v := ?_) (a' := ?_) #[true, false, true, false, false, false, false, false, false, false, false, false] rfl rfl (any_of HT_.out (by kernel_rfl)) (fun _ _ _ h => h) (Or.inl ⟨by rfl, ?_⟩) ?_ ?_
             rotate_left
             ·intro w'; go_simp; with_reducible rfl
             rotate_left
             ·simp only [Act.put, sA, sB, sC, i64_w, i32_w]; rfl
             refine pure_ (i := 5) (N := some 74) (v := ?_) (a' := ?_) #[true, false, true, false, false, true, false, false, false, false, false, false] rfl rfl (any_of HT_.out (by kernel_rfl)) (fun _ _ _ h => h) (Or.inl ⟨by rfl, ?_⟩) ?_ ?_
             rotate_left
             ·intro w'; go_simp; with_reducible rfl
             rotate_left
             ·simp only [Act.put, sA, sB, sC, i64_w, i32_w]; rfl
             refine pure_ (i := 7) (N := some 76) (v := ?_) (a' := ?_) #[true, false, true, false, false, true, false, true, false, false, false, false] rfl rfl (any_of HT_.out (by kernel_rfl)) (fun _ _ _ h => h) (Or.inl ⟨by rfl, ?_⟩) ?_ ?_
             rotate_left
             ·intro w'; go_simp; with_reducible rfl
             rotate_left
             ·simp only [Act.put, sA, sB, sC, i64_w, i32_w]; rfl
             refine take_ (i := 1) (N := some 70) (v := ?_) (a' := ?_) #[true, true, true, false, false, true, false, true, false, false, false, false] rfl rfl (take_ofW HT_.out HW_.out (by kernel_rfl)) (fun _ _ _ h => h) (Or.inl ⟨by rfl, ?_⟩) hHeld ?_ ?_
             rotate_left
             ·rintro w' ⟨s0, s1, s2, s3, s4, s5, s6, s7, s8, s9, s10, s11, s12, s13, s14, s15, s16, s17, s18, s19⟩
              go_simp; with_reducible rfl
             rotate_left
             ·simp only [Act.put, sA, sB, sC, i64_w, i32_w]; rfl
             refine pure_ (i := 3) (N := some 72) (v := ?_) (a' := ?_) #[true, true, true, true, false, true, false, true, false, false, false, false] rfl rfl (any_of HT_.out (by kernel_rfl)) (fun _ _ _ h => h) (Or.inl ⟨by rfl, ?_⟩) ?_ ?_
             rotate_left
             ·intro w'; go_simp; with_reducible rfl
             rotate_left
             ·simp only [Act.put, sA, sB, sC, i64_w, i32_w]; rfl
             refine take_ (i := 4) (N := some 73) (v := ?_) (a' := ?_) #[true, true, true, true, true, true, false, true, false, false, false, false] rfl rfl (take_ofW HT_.out HW_.out (by kernel_rfl)) (fun _ _ _ h => h) (Or.inl ⟨by rfl, ?_⟩) hHeld ?_ ?_
             rotate_left
             ·rintro w' ⟨s0, s1, s2, s3, s4, s5, s6, s7, s8, s9, s10, s11, s12, s13, s14, s15, s16, s17, s18, s19⟩
              go_simp; with_reducible rfl
             rotate_left
             ·simp only [Act.put, sA, sB, sC, i64_w, i32_w]; rfl
             refine take_ (i := 6) (N := some 75) (v := ?_) (a' := ?_) #[true, true, true, true, true, true, true, true, false, false, false, false] rfl rfl (take_ofW HT_.out HW_.out (by kernel_rfl)) (fun _ _ _ h => h) (Or.inl ⟨by rfl, ?_⟩) hHeld ?_ ?_
             rotate_left
             ·rintro w' ⟨s0, s1, s2, s3, s4, s5, s6, s7, s8, s9, s10, s11, s12, s13, s14, s15, s16, s17, s18, s19⟩
              go_simp; with_reducible rfl
             rotate_left
             ·simp only [Act.put, sA, sB, sC, i64_w, i32_w]; rfl
             refine pure_ (i := 8) (N := some 77) (v := ?_) (a' := ?_) #[true, true, true, true, true, true, true, true, true, false, false, false] rfl rfl (any_of HT_.out (by kernel_rfl)) (fun _ _ _ h => h) (Or.inl ⟨by rfl, ?_⟩) ?_ ?_
             rotate_left
             ·intro w'; go_simp; with_reducible rfl
             rotate_left
             ·simp only [Act.put, sA, sB, sC, i64_w, i32_w]; rfl
             refine take_ (i := 9) (N := some 78) (v := ?_) (a' := ?_) #[true, true, true, true, true, true, true, true, true, true, false, false] rfl rfl (take_ofW HT_.out HW_.out (by kernel_rfl)) (fun _ _ _ h => h) (Or.inl ⟨by rfl, ?_⟩) hHeld ?_ ?_
             rotate_left
             ·rintro w' ⟨s0, s1, s2, s3, s4, s5, s6, s7, s8, s9, s10, s11, s12, s13, s14, s15, s16, s17, s18, s19⟩
              go_simp; with_reducible rfl
             rotate_left
             ·simp only [Act.put, sA, sB, sC, i64_w, i32_w]; rfl
             refine one_ (i := 10) (N := some 79) #[true, true, true, true, true, true, true, true, true, true, true, false] rfl rfl (one_of HT_.out (by kernel_rfl)) (by decide) (fun K hK => ?_)
             refine goes_ Tryz.func11 (by kernel_rfl) rfl #[.agg #[.int .i64 ((rd_T25 l0_4 x6_3).f0), .int .i64 ((rd_T25 l0_4 x6_3).f1), .string ((rd_T25 l0_4 x6_3).f2), .slice A235_3 ((rd_T25 l0_4 x6_3).f3).length c235_3, .slice A235_4 ((rd_T25 l0_4 x6_3).f4).length c235_4], .agg #[.int .i64 ((rd_T25 l1_4 x6_3).f0), .int .i64 ((rd_T25 l1_4 x6_3).f1), .string ((rd_T25 l1_4 x6_3).f2), .slice A236_3 ((rd_T25 l1_4 x6_3).f3).length c236_3, .slice A236_4 ((rd_T25 l1_4 x6_3).f4).length c236_4]] (by rfl) rfl rfl (by (try simp only [List.map_toArray, List.map_cons, List.map_nil]); first | done | rfl | (simp only [List.length_drop, List.length_take]; rfl)) ?_
             with_reducible refine (ih k3 (by have := HJ2.out; have := HK2.out; have := HK3.out; omega) ((rd_T25 l0_4 x6_3).f0) ((rd_T25 l0_4 x6_3).f1) ((rd_T25 l0_4 x6_3).f2) _ _ ((rd_T25 l0_4 x6_3).f3) _ _ ((rd_T25 l0_4 x6_3).f4) ((rd_T25 l1_4 x6_3).f0) ((rd_T25 l1_4 x6_3).f1) ((rd_T25 l1_4 x6_3).f2) _ _ ((rd_T25 l1_4 x6_3).f3) _ _ ((rd_T25 l1_4 x6_3).f4) false _ ?side1 ?side2 ?side3 ?side4 ?side5 ?side6 ?side7 ?side8 A41.out).mono ?_
             (case side1 => repeat (first | exact (Kd.C_below HR235_3.out HB.out) | (with_reducible refine Kd.C_alloc ?_ _) | (with_reducible refine Kd.C_drewN ?_ _) | (with_reducible refine Kd.C_drew ?_)))
             (case side2 => exact HC235_3.out)
             (case side3 => repeat (first | exact (Kd.C_below HR235_4.out HB.out) | (with_reducible refine Kd.C_alloc ?_ _) | (with_reducible refine Kd.C_drewN ?_ _) | (with_reducible refine Kd.C_drew ?_)))
             (case side4 => exact HC235_4.out)
             (case side5 => repeat (first | exact (Kd.C_below HR236_3.out HB.out) | (with_reducible refine Kd.C_alloc ?_ _) | (with_reducible refine Kd.C_drewN ?_ _) | (with_reducible refine Kd.C_drew ?_)))
             (case side6 => exact HC236_3.out)
             (case side7 => repeat (first | exact (Kd.C_below HR236_4.out HB.out) | (with_reducible refine Kd.C_alloc ?_ _) | (with_reducible refine Kd.C_drewN ?_ _) | (with_reducible refine Kd.C_drew ?_)))
             (case side8 => exact HC236_4.out)
             rintro e w50 ⟨rfl, hb⟩
             refine ⟨_, rfl, ?_⟩
             have n0_ := aM (blk_below (g := gb231) (o := .cells #[.int .i64 a0_0, .int .i64 a0_1, .string a0_2, .slice A0_3 l0_3.length c0_3, .slice (some ad235) l0_4.length c0_4] 25 (0, 0)) (by (with_reducible repeat (first | refine blk_drewN ?_ _ | refine blk_drew ?_ | refine blk_alloc ?_ _)); exact BK231.out) hb)
             have n1_ := aM (blk_below (g := gb232) (o := .cells #[.int .i64 a1_0, .int .i64 a1_1, .string a1_2, .slice A1_3 l1_3.length c1_3, .slice (some ad236) l1_4.length c1_4] 25 (0, 0)) (by (with_reducible repeat (first | refine blk_drewN ?_ _ | refine blk_drew ?_ | refine blk_alloc ?_ _)); exact BK232.out) hb)
             have n2_ := aM (below_step (by repeat (first | (with_reducible first | exact HB.out | apply below_alloc | apply pw_below_drewN | apply below_drew1 | refine below_set ?_ GE231.out | refine below_set ?_ GE232.out) | exact HB.out)) hb)
             clear BK231 BK232 HB; have BK231 := n0_; have BK232 := n1_; have HB := n2_; clear n0_ n1_ n2_
             (try clear hb)
             (try clear hb2)
             (try clear hk)
             (try clear hi)
             refine hK.out _ _ ⟨(blk_cell BK231.out 0).trans rfl, (blk_cell BK231.out 1).trans rfl, (blk_cell BK231.out 2).trans rfl, (blk_cell BK231.out 3).trans rfl, (blk_cell BK231.out 4).trans rfl, (blk_cell BK232.out 0).trans rfl, (blk_cell BK232.out 1).trans rfl, (blk_cell BK232.out 2).trans rfl, (blk_cell BK232.out 3).trans rfl, (blk_cell BK232.out 4).trans rfl, ((HB.out.cell (World.block_lt_of_cell? w _ hw235_0)).trans hw235_0), ((HB.out.cell (World.block_lt_of_cell? w _ hw235_1)).trans hw235_1), ((HB.out.cell (World.block_lt_of_cell? w _ hw235_2)).trans hw235_2), ((HB.out.cell (World.block_lt_of_cell? w _ hw235_3)).trans hw235_3), ((HB.out.cell (World.block_lt_of_cell? w _ hw235_4)).trans hw235_4), ((HB.out.cell (World.block_lt_of_cell? w _ hw236_0)).trans hw236_0), ((HB.out.cell (World.block_lt_of_cell? w _ hw236_1)).trans hw236_1), ((HB.out.cell (World.block_lt_of_cell? w _ hw236_2)).trans hw236_2), ((HB.out.cell (World.block_lt_of_cell? w _ hw236_3)).trans hw236_3), ((HB.out.cell (World.block_lt_of_cell? w _ hw236_4)).trans hw236_4)⟩ (fun hHeld => ?_)
             clear hK K
             refine norm_ (a' := ?_) ?_ ?_
             rotate_left
             ·show Act.put _ (some 79) _ = _
              simp only [Act.put, sA, sB, sC, i64_w, i32_w]; rfl
             refine pure_ (i := 11) (N := some 80) (v := ?_) (a' := ?_) #[true, true, true, true, true, true, true, true, true, true, true, true] rfl rfl (any_of HT_.out (by kernel_rfl)) (fun _ _ _ h => h) (Or.inl ⟨by rfl, ?_⟩) ?_ ?_
             rotate_left
             ·intro w'; go_simp; with_reducible rfl
             rotate_left
             ·simp only [Act.put, sA, sB, sC, i64_w, i32_w]; rfl
             refine done_ (done_of HT_.out (by kernel_rfl)) ?_
             try go_wp2
             go_ret
             exact ⟨by first | rfl | (simp [errW_none, errW_some] <;> rfl) | (simp [*, errW_none, errW_some] <;> rfl), by repeat (first | (with_reducible first | exact HB.out | apply below_alloc | apply pw_below_drewN | apply below_drew1 | refine below_set ?_ GE231.out | refine below_set ?_ GE232.out) | exact HB.out)⟩
           ·rw [if_neg c40] at H
            exact absurd H (by simp)
          ·rw [if_neg c39] at H
           exact absurd H (by simp)
         ·rw [if_neg c38] at H
          have c38b0 : decide (x6_3 < (l0_4.length : Int)) = false := decide_eq_false c38
          clear c38
          obtain rfl := Option.some.inj H
          have hnb51 := NB231_232.out
          have hnc51 := NB232_231.out
          have hcz52_0 : wr.cell? ⟨gb231, 0, none⟩ = some (.int .i64 a0_0) := (blk_cell BK231.out 0).trans rfl
          have hcz52_1 : wr.cell? ⟨gb231, 1, none⟩ = some (.int .i64 a0_1) := (blk_cell BK231.out 1).trans rfl
          have hcz52_2 : wr.cell? ⟨gb231, 2, none⟩ = some (.string a0_2) := (blk_cell BK231.out 2).trans rfl
          have hcz52_3 : wr.cell? ⟨gb231, 3, none⟩ = some (.slice A0_3 l0_3.length c0_3) := (blk_cell BK231.out 3).trans rfl
          have hcz52_4 : wr.cell? ⟨gb231, 4, none⟩ = some (.slice A0_4 l0_4.length c0_4) := (blk_cell BK231.out 4).trans rfl
          have hfz52_0 := blk_frozen BK231.out 0
          have hfz52_1 := blk_frozen BK231.out 1
          have hfz52_2 := blk_frozen BK231.out 2
          have hfz52_3 := blk_frozen BK231.out 3
          have hfz52_4 := blk_frozen BK231.out 4
          go_wp2
          go_ret
          exact ⟨by first | rfl | (simp [errW_none, errW_some] <;> rfl) | (simp [*, errW_none, errW_some] <;> rfl), by repeat (first | (with_reducible first | exact HB.out | apply below_alloc | apply pw_below_drewN | apply below_drew1 | refine below_set ?_ GE231.out | refine below_set ?_ GE232.out) | exact HB.out)⟩
end Go.Proofs.YtgdmdflbcbibjaaGreatDoor.PS
namespace Go.Proofs.YtgdmdflbcbibjaaGreatDoor.Tr
open Go.RowKit Go.Proofs.YtgdmdflbcbibjaaGreatDoorW.PrintWords Go.Proofs.YtgdmdflbcbibjaaGreatDoorW.PrintLast Go.Proofs.YtgdmdflbcbibjaaGreatDoor.Str Go.Proofs.YtgdmdflbcbibjaaGreatDoor.Kit Go.Proofs.YtgdmdflbcbibjaaGreatDoor.MapV Go.Proofs.YtgdmdflbcbibjaaGreatDoor.Frame Go.Proofs.YtgdmdflbcbibjaaGreatDoor.PS
set_option linter.unusedVariables false
set_option linter.unusedSimpArgs false
inductive Short : VS → Prop
 | mk (x : VS) (hk : x.f3.length ≤ 8796093022000) (hl : x.f4.length ≤ 1759218604400) (hv : ∀ v, v ∈ x.f4 → Short v) : Short x
theorem rdS' {xs : List VS} {i : Nat} (h : i < xs.length) : rd_T25 xs (i : Int) = xs[i] := by
 unfold rd_T25
 simp [List.getD_eq_getElem?_getD, h]
theorem wrapQ (i : Nat) (h : i < 4611686018427387904) : wrap64 ((i : Int) + 1) = ((i + 1 : Nat) : Int) := by unfold wrap64; omega
def SameEv (x : VS) : Prop := Ev (fun k => spec_Same.f k x.f0 x.f1 x.f2 x.f3 x.f4 x.f0 x.f1 x.f2 x.f3 x.f4) true
theorem ev_same_l1 (a b : Int) (c : BA) (ks : List BA) (vs : List VS) (hl : vs.length ≤ 1759218604400) (hch : ∀ v, v ∈ vs → SameEv v) : ∀ (d i : Nat), i + d = vs.length → Ev (fun k => spec_Same.l1 k (i : Int) a b c ks vs a b c ks vs) true := by
 intro d
 induction d with
 | zero =>
  intro i hi
  refine Ev.step (fun k => ?_) (Ev.now _)
  simp only [spec_Same.l1]
  rw [if_neg (by omega)]
 | succ d ih =>
  intro i hi
  have hlt : i < vs.length := by omega
  refine Ev.step (f := fun k => (spec_Same.f k vs[i].f0 vs[i].f1 vs[i].f2 vs[i].f3 vs[i].f4 vs[i].f0 vs[i].f1 vs[i].f2 vs[i].f3 vs[i].f4).bind fun t => if t = true then spec_Same.l1 k ((i + 1 : Nat) : Int) a b c ks vs a b c ks vs else some false) (fun k => ?_) ?_
  ·simp only [spec_Same.l1]
   rw [if_pos (by omega), if_pos (by omega), if_pos (by omega), rdS' hlt, wrapQ i (by omega)]
  ·refine Ev.bind (hch vs[i] (List.getElem_mem hlt)) ?_
   simp only [if_true]
   exact ih (i + 1) (by omega)
theorem ev_same_l0 (a b : Int) (c : BA) (ks : List BA) (vs : List VS) (hk : ks.length ≤ 8796093022000) (hl : vs.length ≤ 1759218604400) (hch : ∀ v, v ∈ vs → SameEv v) : ∀ (d i : Nat), i + d = ks.length → Ev (fun k => spec_Same.l0 k (i : Int) a b c ks vs a b c ks vs) true := by
 intro d
 induction d with
 | zero =>
  intro i hi
  refine Ev.step (f := fun k => spec_Same.l1 k ((0 : Nat) : Int) a b c ks vs a b c ks vs) (fun k => ?_) (ev_same_l1 a b c ks vs hl hch vs.length 0 (by omega))
  simp only [spec_Same.l0]
  rw [if_neg (by omega)]
  rfl
 | succ d ih =>
  intro i hi
  refine Ev.step (f := fun k => spec_Same.l0 k ((i + 1 : Nat) : Int) a b c ks vs a b c ks vs) (fun k => ?_) (ih (i + 1) (by omega))
  simp only [spec_Same.l0]
  rw [if_pos (by omega), if_pos (by omega), if_pos (by omega), if_pos trivial, wrapQ i (by omega)]
theorem ev_same : ∀ x : VS, Short x → SameEv x := by
 intro x hx
 induction hx with
 | mk x hk hl hv ih =>
  obtain ⟨k, n, t, ks, vs⟩ := x
  have h := ev_same_l0 k n t ks vs hk hl ih ks.length 0 (by omega)
  unfold SameEv
  refine Ev.step (f := fun j => spec_Same.j0 j false k n t ks vs k n t ks vs) (fun j => ?_) (Ev.step (f := fun j => spec_Same.l0 j ((0 : Nat) : Int) k n t ks vs k n t ks vs) (fun j => ?_) h)
  ·simp only [spec_Same.f, if_true, bne_self_eq_false]
  ·simp only [spec_Same.j0, if_false, Bool.false_eq_true]
   rfl
end Go.Proofs.YtgdmdflbcbibjaaGreatDoor.Tr
namespace Go.Proofs.YtgdmdflbcbibjaaGreatDoor.Tr
open Go.RowKit Go.Proofs.YtgdmdflbcbibjaaGreatDoorW.PrintWords Go.Proofs.YtgdmdflbcbibjaaGreatDoorW.PrintLast Go.Proofs.YtgdmdflbcbibjaaGreatDoor.Str Go.Proofs.YtgdmdflbcbibjaaGreatDoor.Kit Go.Proofs.YtgdmdflbcbibjaaGreatDoor.MapV Go.Proofs.YtgdmdflbcbibjaaGreatDoor.Frame Go.Proofs.YtgdmdflbcbibjaaGreatDoor.PS
set_option linter.unusedVariables false
set_option linter.unusedSimpArgs false
theorem from_calls (x : VI) (z : VS) (hz : fromI x = z) (hx : Small x) (A3 A4 : Option Addr) (c3 c4 : Nat) (w : World) (l3 : x.f3.length ≤ c3) (hk : Kd.string.C w A3 x.f3.length x.f3) (l4 : x.f4.length ≤ c4) (hv : kI.C w A4 x.f4.length x.f4) :
  Calls Tryz.prog 12 #[.agg #[.int .i64 x.f0, .int .i64 x.f1, .string x.f2, .slice A3 x.f3.length c3, .slice A4 x.f4.length c4]] w fun e w' => ∃ B3 d3 B4 d4, e = .returned (.agg #[.int .i64 z.f0, .int .i64 z.f1, .string z.f2, .slice B3 z.f3.length d3, .slice B4 z.f4.length d4]) ∧ z.f3.length ≤ d3 ∧ Kd.string.C w' B3 z.f3.length z.f3 ∧ z.f4.length ≤ d4 ∧ kS.C w' B4 z.f4.length z.f4 ∧ Below w.heap.size w w' := by
 subst hz
 obtain ⟨k, hk'⟩ := (ev_from x hx).rounds
 refine (laws_from.calls k x.f0 x.f1 x.f2 A3 c3 x.f3 A4 c4 x.f4 _ _ _ _ _ w hk l3 hv l4 hk').mono ?_
 rintro e w1 ⟨v3, v4, rfl, hr3, hr4, hb⟩
 obtain ⟨B3, d3, rfl, m3, g3⟩ := Kd.R_reads hr3
 obtain ⟨B4, d4, rfl, m4, g4⟩ := Kd.R_reads hr4
 exact ⟨B3, d3, B4, d4, rfl, m3, g3, m4, g4, hb⟩
theorem to_calls (x : VS) (hx : SmallS x) (A3 A4 : Option Addr) (c3 c4 : Nat) (w : World) (l3 : x.f3.length ≤ c3) (hk : Kd.string.C w A3 x.f3.length x.f3) (l4 : x.f4.length ≤ c4) (hv : kS.C w A4 x.f4.length x.f4) :
  Calls Tryz.prog 10 #[.agg #[.int .i64 x.f0, .int .i64 x.f1, .string x.f2, .slice A3 x.f3.length c3, .slice A4 x.f4.length c4]] w fun e w' => ∃ B3 d3 B4 d4, e = .returned (.agg #[.int .i64 (toI x).f0, .int .i64 (toI x).f1, .string (toI x).f2, .slice B3 (toI x).f3.length d3, .slice B4 (toI x).f4.length d4]) ∧ (toI x).f3.length ≤ d3 ∧ Kd.string.C w' B3 (toI x).f3.length (toI x).f3 ∧ (toI x).f4.length ≤ d4 ∧ kI.C w' B4 (toI x).f4.length (toI x).f4 ∧ Below w.heap.size w w' := by
 obtain ⟨k, hk'⟩ := (ev_to x hx).rounds
 refine (laws_to.calls k x.f0 x.f1 x.f2 A3 c3 x.f3 A4 c4 x.f4 _ _ _ _ _ w hk l3 hv l4 hk').mono ?_
 rintro e w1 ⟨v3, v4, rfl, hr3, hr4, hb⟩
 obtain ⟨B3, d3, rfl, m3, g3⟩ := Kd.R_reads hr3
 obtain ⟨B4, d4, rfl, m4, g4⟩ := Kd.R_reads hr4
 exact ⟨B3, d3, B4, d4, rfl, m3, g3, m4, g4, hb⟩
theorem same_calls (x : VS) (hx : Short x) (A3 A4 : Option Addr) (c3 c4 : Nat) (B3 B4 : Option Addr) (d3 d4 : Nat) (w : World) (l3 : x.f3.length ≤ c3) (hk : Kd.string.C w A3 x.f3.length x.f3) (l4 : x.f4.length ≤ c4) (hv : kS.C w A4 x.f4.length x.f4) (m3 : x.f3.length ≤ d3) (jk : Kd.string.C w B3 x.f3.length x.f3) (m4 : x.f4.length ≤ d4) (jv : kS.C w B4 x.f4.length x.f4) :
  Calls Tryz.prog 11 #[.agg #[.int .i64 x.f0, .int .i64 x.f1, .string x.f2, .slice A3 x.f3.length c3, .slice A4 x.f4.length c4], .agg #[.int .i64 x.f0, .int .i64 x.f1, .string x.f2, .slice B3 x.f3.length d3, .slice B4 x.f4.length d4]] w fun e w' => e = .returned (.bool true) ∧ Below w.heap.size w w' := by
 obtain ⟨k, hk'⟩ := (ev_same x hx).rounds
 exact spec_Same.calls k x.f0 x.f1 x.f2 A3 c3 x.f3 A4 c4 x.f4 x.f0 x.f1 x.f2 B3 d3 x.f3 B4 d4 x.f4 true w hk l3 hv l4 jk m3 jv m4 hk'
theorem cell_row5 {w : World} {b : Nat} {T : TypeId} {v0 v1 v2 v3 v4 : Value} (h : w.heap[b]? = some (.cells #[v0, v1, v2, v3, v4] T (0, 0))) :
  w.cell? ⟨b, 0, none⟩ = some v0 ∧ w.cell? ⟨b, 1, none⟩ = some v1 ∧ w.cell? ⟨b, 2, none⟩ = some v2 ∧ w.cell? ⟨b, 3, none⟩ = some v3 ∧ w.cell? ⟨b, 4, none⟩ = some v4 := by
 simp [World.cell?, h]
end Go.Proofs.YtgdmdflbcbibjaaGreatDoor.Tr
namespace Go.Proofs.YtgdmdflbcbibjaaGreatDoor.Tr
open Go.RowKit Go.Proofs.YtgdmdflbcbibjaaGreatDoorW.PrintWords Go.Proofs.YtgdmdflbcbibjaaGreatDoorW.PrintLast
set_option linter.unusedVariables false
def Ends {α : Type} (P : α → Prop) (g : Nat → Option α) : Prop := ∃ r, Ev g r ∧ P r
section
variable {α β : Type} {P : α → Prop} {g f : Nat → Option α}
theorem Ends.of {r : α} (h : Ev g r) (hp : P r) : Ends P g := ⟨r, h, hp⟩
theorem Ev.ends {r : α} (h : Ev g r) : Ends (fun x => x = r) g := ⟨r, h, rfl⟩
theorem Ends.mono {Q : α → Prop} (h : Ends P g) (hq : ∀ r, P r → Q r) : Ends Q g := by
 obtain ⟨x, hx, hp⟩ := h
 exact ⟨x, hx, hq x hp⟩
theorem Ends.now {r : α} (h : P r) : Ends P (fun _ => some r) := ⟨r, Ev.now r, h⟩
theorem Ends.ite {c : Prop} [Decidable c] (h1 : c → Ends P f) (h2 : ¬ c → Ends P g) : Ends P (fun k => if c then f k else g k) := by
 by_cases h : c
 ·obtain ⟨r, hr, hp⟩ := h1 h
  exact ⟨r, Ev.congr (fun k => by rw [if_pos h]) hr, hp⟩
 ·obtain ⟨r, hr, hp⟩ := h2 h
  exact ⟨r, Ev.congr (fun k => by rw [if_neg h]) hr, hp⟩
theorem Ends.no {c : Prop} [Decidable c] (hc : ¬ c) (h : Ends P g) : Ends P (fun k => if c then f k else g k) := Ends.ite (fun n => absurd n hc) (fun _ => h)
theorem Ends.bind {Q : β → Prop} {u : Nat → Option β} {v : Nat → β → Option α} (hu : Ends Q u) (hv : ∀ a, Q a → Ends P (fun k => v k a)) : Ends P (fun k => (u k).bind (v k)) := by
 obtain ⟨a, ha, hq⟩ := hu
 obtain ⟨r, hr, hp⟩ := hv a hq
 exact ⟨r, Ev.bind ha hr, hp⟩
theorem Ends.step (h : ∀ k, g (k + 1) = f k) (k : Ends P f) : Ends P g := by
 obtain ⟨r, hr, hp⟩ := k
 exact ⟨r, Ev.step h hr, hp⟩
theorem Ends.congr (h : ∀ k, g k = f k) (k : Ends P f) : Ends P g := by
 obtain ⟨r, hr, hp⟩ := k
 exact ⟨r, Ev.congr h hr, hp⟩
end
end Go.Proofs.YtgdmdflbcbibjaaGreatDoor.Tr
namespace Go.Proofs.YtgdmdflbcbibjaaGreatDoor.Tr
open Go.RowKit Go.Proofs.YtgdmdflbcbibjaaGreatDoorW.PrintWords Go.Proofs.YtgdmdflbcbibjaaGreatDoorW.PrintLast Go.Proofs.YtgdmdflbcbibjaaGreatDoor.Str Go.Proofs.YtgdmdflbcbibjaaGreatDoor.Kit Go.Proofs.YtgdmdflbcbibjaaGreatDoor.MapV Go.Proofs.YtgdmdflbcbibjaaGreatDoor.Frame Go.Proofs.YtgdmdflbcbibjaaGreatDoor.PS
set_option linter.unusedVariables false
set_option linter.unusedSimpArgs false
theorem nilC {α : Type} (d : Kd α) (w : World) (A : Option Addr) : d.C w A 0 [] := ⟨rfl, Nat.zero_le _, fun h => absurd h (Nat.lt_irrefl 0)⟩
structure Reads (w : World) (x : VS) (A3 : Option Addr) (c3 : Nat) (A4 : Option Addr) (c4 : Nat) : Prop where
 l3 : x.f3.length ≤ c3
 hk : Kd.string.C w A3 x.f3.length x.f3
 l4 : x.f4.length ≤ c4
 hv : kS.C w A4 x.f4.length x.f4
theorem Reads.below {w w1 : World} {x : VS} {A3 A4 : Option Addr} {c3 c4 : Nat} (h : Reads w x A3 c3 A4 c4) (hb : Below w.heap.size w w1) : Reads w1 x A3 c3 A4 c4 := ⟨h.l3, Kd.C_below h.hk hb, h.l4, Kd.C_below h.hv hb⟩
def Gives (x : VS) (w : World) (e : Ending) (w' : World) : Prop := ∃ A3 c3 A4 c4, e = .returned (.agg #[.int .i64 x.f0, .int .i64 x.f1, .string x.f2, .slice A3 x.f3.length c3, .slice A4 x.f4.length c4]) ∧ Reads w' x A3 c3 A4 c4 ∧ Below w.heap.size w w'
theorem empty_gives (w : World) : Calls Tryz.prog 14 #[] w fun e w' => e = .returned (.agg #[.int .i64 5, .int .i64 0, .string ⟨#[]⟩, .slice none 0 0, .slice none 0 0]) ∧ Below w.heap.size w w' := by
 have h0 := cb_new w (.cells #[.int .i64 0, .int .i64 0, .string ⟨#[]⟩, .slice none 0 0, .slice none 0 0] 25)
 have HB := aM ((Below.refl _ w).alloc (Nat.le_refl _) (.cells #[.int .i64 0, .int .i64 0, .string ⟨#[]⟩, .slice none 0 0, .slice none 0 0] 25))
 go_enter Tryz.func14, Tryz.ntmps14
 go_wp2_with (refine store_val (.tmp 0) (.tmp 1) rfl rfl rfl rfl h0 ?_)
 exact bodyPost_ret (v := .agg #[.int .i64 5, .int .i64 0, .string ⟨#[]⟩, .slice none 0 0, .slice none 0 0]) (val_result rfl rfl (setRow_heap _ _ _ _ _ _ h0)) rfl ⟨rfl, pw_below_grown HB.out (some w.heap.size) HB.out.size (grown_setRow _ w.heap.size _) (fun k hk => by injection hk with hk; have h2 : w.heap.size = k := hk; omega)⟩
theorem fits_reads (x : VS) (A3 A4 : Option Addr) (c3 c4 : Nat) (w : World) (h : Reads w x A3 c3 A4 c4) :
  Calls Tryz.prog 5 #[.agg #[.int .i64 x.f0, .int .i64 x.f1, .string x.f2, .slice A3 x.f3.length c3, .slice A4 x.f4.length c4]] w fun e w' => ∃ b, e = .returned (.bool b) ∧ Below w.heap.size w w' := by
 obtain ⟨b, hb⟩ := ev_zzFits1 x
 obtain ⟨k, hk⟩ := hb.rounds
 refine (laws_zzFits1.calls k x.f0 x.f1 x.f2 A3 c3 x.f3 A4 c4 x.f4 b w h.hk h.l3 h.hv h.l4 hk).mono ?_
 rintro e w1 ⟨rfl, hb1⟩
 exact ⟨b, rfl, hb1⟩
def GivesS (x : VS) (w : World) (e : Ending) (w' : World) : Prop := ∃ A3 c3 A4 c4, e = .returned (.agg #[.int .i64 x.f0, .int .i64 x.f1, .string x.f2, .slice A3 x.f3.length c3, .slice A4 x.f4.length c4]) ∧ (∀ W : World, (∀ k, w.heap.size ≤ k → k < w'.heap.size → W.heap[k]? = w'.heap[k]?) → Reads W x A3 c3 A4 c4) ∧ Below w.heap.size w w'
theorem fit_gives (x : VS) (hx : SmallS x) (A3 A4 : Option Addr) (c3 c4 : Nat) (w : World) (h : Reads w x A3 c3 A4 c4) :
  Calls Tryz.prog 6 #[.agg #[.int .i64 x.f0, .int .i64 x.f1, .string x.f2, .slice A3 x.f3.length c3, .slice A4 x.f4.length c4]] w (GivesS (fitV x) w) := by
 have hF := ev_Fit x hx
 unfold FitEv at hF
 obtain ⟨k, hk⟩ := hF.rounds
 refine (spec_Fit.calls k x.f0 x.f1 x.f2 A3 c3 x.f3 A4 c4 x.f4 _ _ _ _ _ w h.hk h.l3 h.hv h.l4 hk).mono ?_
 rintro e w1 ⟨v3, v4, rfl, hr3, hr4, hb⟩
 obtain ⟨B3, d3, rfl⟩ := Kd.R_slice hr3
 obtain ⟨B4, d4, rfl⟩ := Kd.N_slice hr4
 refine ⟨B3, d3, B4, d4, rfl, fun W hW => ?_, hb⟩
 have h3 := Kd.R_reads' (Kd.R_step hr3 (fun k hk hl => hW k hk hl))
 have h4 := Kd.N_reads' (Kd.N_step hr4 (fun k hk hl => hW k hk.1 hl))
 exact ⟨h3.2.1, h3.2.2, h4.2.1, h4.2.2⟩
theorem SmallS.short {x : VS} (h : SmallS x) : Short x := by
 induction h with
 | mk x ht hk hkl hvl hv ih => exact .mk x hkl hvl ih
theorem SmallS.at {x v : VS} (h : SmallS x) (hv : v ∈ x.f4) : SmallS v := by
 cases h with
 | mk _ _ _ _ _ h => exact h v hv
theorem Canon.at {x v : VS} (h : Canon x) (hv : v ∈ x.f4) : Canon v := by
 cases h with
 | list l h => exact h v hv
 | map ks vs hr hl h => exact h v hv
 | _ => cases hv
end Go.Proofs.YtgdmdflbcbibjaaGreatDoor.Tr
namespace Go.Proofs.YtgdmdflbcbibjaaGreatDoor.Tr
open Go.RowKit Go.Proofs.YtgdmdflbcbibjaaGreatDoorW.PrintWords Go.Proofs.YtgdmdflbcbibjaaGreatDoorW.PrintLast Go.Proofs.YtgdmdflbcbibjaaGreatDoor.Str Go.Proofs.YtgdmdflbcbibjaaGreatDoor.Kit Go.Proofs.YtgdmdflbcbibjaaGreatDoor.MapV Go.Proofs.YtgdmdflbcbibjaaGreatDoor.Frame Go.Proofs.YtgdmdflbcbibjaaGreatDoor.PS
set_option linter.unusedVariables false
set_option linter.unusedSimpArgs false
def e0V : VS := ⟨5, 0, ⟨#[]⟩, [], []⟩
theorem small_e0 : SmallS e0V := .mk _ (Nat.zero_le _) (fun s h => by cases h) (Nat.zero_le _) (Nat.zero_le _) (fun v h => by cases h)
theorem mapOf_e0 : mapOf (toI e0V) = [] := by simp [mapOf, pairsOf, e0V, toI, toL, anyL, fitM]
theorem to_empty (w : World) : Calls Tryz.prog 10 #[.agg #[.int .i64 5, .int .i64 0, .string ⟨#[]⟩, .slice none 0 0, .slice none 0 0]] w fun e w' => ∃ B3 d3 B4 d4, e = .returned (.agg #[.int .i64 (toI e0V).f0, .int .i64 (toI e0V).f1, .string (toI e0V).f2, .slice B3 (toI e0V).f3.length d3, .slice B4 (toI e0V).f4.length d4]) ∧ ReadsI w' (toI e0V) B3 d3 B4 d4 ∧ Below w.heap.size w w' := by
 refine (to_calls e0V small_e0 none none 0 0 w (Nat.zero_le _) (nilC _ _ _) (Nat.zero_le _) (nilC _ _ _)).mono ?_
 rintro e w1 ⟨B3, d3, B4, d4, rfl, h3, k3, h4, k4, hb⟩
 exact ⟨B3, d3, B4, d4, rfl, ⟨h3, k3, h4, k4⟩, hb⟩
theorem to_reads (y : VS) (hy : SmallS y) {u0 u1 : Int} {u2 : BA} {u3 : List BA} {u4 : List VI} (hu : toI y = ⟨u0, u1, u2, u3, u4⟩) (A3 A4 : Option Addr) (c3 c4 : Nat) (w : World) (h : Reads w y A3 c3 A4 c4) : Calls Tryz.prog 10 #[.agg #[.int .i64 y.f0, .int .i64 y.f1, .string y.f2, .slice A3 y.f3.length c3, .slice A4 y.f4.length c4]] w fun e w' => ∃ B3 d3 B4 d4, e = .returned (.agg #[.int .i64 u0, .int .i64 u1, .string u2, .slice B3 u3.length d3, .slice B4 u4.length d4]) ∧ ReadsI w' ⟨u0, u1, u2, u3, u4⟩ B3 d3 B4 d4 ∧ Below w.heap.size w w' := by
 refine (to_calls y hy A3 A4 c3 c4 w h.l3 h.hk h.l4 h.hv).mono ?_
 rw [hu]
 rintro e w1 ⟨B3, d3, B4, d4, rfl, h3, k3, h4, k4, hb⟩
 exact ⟨B3, d3, B4, d4, rfl, ⟨h3, k3, h4, k4⟩, hb⟩
def FreshI (w w' : World) (u : VI) (M3 : Option Addr) (m3 : Nat) (M4 : Option Addr) (m4 : Nat) : Prop := ∀ W : World, (∀ k, w.heap.size ≤ k → k < w'.heap.size → W.heap[k]? = w'.heap[k]?) → ReadsI W u M3 m3 M4 m4
theorem merge_no {x y u : VI} (hxy : (y = toI e0V ∧ x = u) ∨ (x = toI e0V ∧ y = u)) (hu : Small u) (hf : FitsY (.map (mapOf u)) ∧ valOf (.map (mapOf u)) = u) (A3 A4 : Option Addr) (c3 c4 : Nat) (B3 B4 : Option Addr) (d3 d4 : Nat) (w : World) (h1 : ReadsI w x A3 c3 A4 c4) (h2 : ReadsI w y B3 d3 B4 d4) :
  Calls Tryz.prog 13 #[.agg #[.int .i64 x.f0, .int .i64 x.f1, .string x.f2, .slice A3 x.f3.length c3, .slice A4 x.f4.length c4], .agg #[.int .i64 y.f0, .int .i64 y.f1, .string y.f2, .slice B3 y.f3.length d3, .slice B4 y.f4.length d4]] w fun e w' => ∃ M3 m3 M4 m4, e = .returned (.tuple #[.agg #[.int .i64 u.f0, .int .i64 u.f1, .string u.f2, .slice M3 u.f3.length m3, .slice M4 u.f4.length m4], .bool true]) ∧ FreshI w w' u M3 m3 M4 m4 ∧ Below w.heap.size w w' := by
 have h0 : FitsY (.map (mapOf (toI e0V))) := by rw [mapOf_e0]; exact .map [] (Nat.zero_le _) (fun p h => by cases h) (fun p h => by cases h)
 have key : Calls Tryz.prog 13 #[.agg #[.int .i64 x.f0, .int .i64 x.f1, .string x.f2, .slice A3 x.f3.length c3, .slice A4 x.f4.length c4], .agg #[.int .i64 y.f0, .int .i64 y.f1, .string y.f2, .slice B3 y.f3.length d3, .slice B4 y.f4.length d4]] w (Told w (valOf (.map (mapOf u)))) := by
  rcases hxy with ⟨rfl, rfl⟩ | ⟨rfl, rfl⟩
  ·exact impl_merge x _ hu (small_to _ small_e0) hf.1 h0 (mapOf x) (.inl ⟨mapOf_e0, rfl⟩) A3 A4 c3 c4 B3 B4 d3 d4 w h1 h2
  ·exact impl_merge _ y (small_to _ small_e0) hu h0 hf.1 (mapOf y) (.inr ⟨mapOf_e0, rfl⟩) A3 A4 c3 c4 B3 B4 d3 d4 w h1 h2
 rw [hf.2] at key
 refine key.mono ?_
 rintro e w1 ⟨v3, v4, rfl, hv3, hv4, hb⟩
 obtain ⟨M3, m3, rfl⟩ := Kd.R_slice hv3
 obtain ⟨M4, m4, rfl⟩ := Kd.R_slice hv4
 refine ⟨M3, m3, M4, m4, rfl, fun W hW => ?_, hb⟩
 have g3 := Kd.R_move (Kd.R_bound hv3) (fun k hk => hW k hk.2.1 hk.2.2.1)
 have g4 := Kd.R_move (Kd.R_bound hv4) (fun k hk => hW k hk.2.1 hk.2.2.1)
 obtain ⟨k3, r3, t3⟩ := Kd.R_reads' g3
 obtain ⟨k4, r4, t4⟩ := Kd.R_reads' g4
 exact ⟨r3, t3, r4, t4⟩
set_option maxHeartbeats 6400000 in
set_option maxRecDepth 100000 in
theorem lawNothing (x : VS) (hx : SmallS x) (A3 A4 : Option Addr) (c3 c4 : Nat) (w : World) (h : Reads w x A3 c3 A4 c4) :
  Calls Tryz.prog 4 #[.agg #[.int .i64 x.f0, .int .i64 x.f1, .string x.f2, .slice A3 x.f3.length c3, .slice A4 x.f4.length c4]] w fun e w' => e = .returned (.bool true) ∧ Below w.heap.size w w' := by
 have hb1 := below_alloc (Below.refl w.heap.size w) (.cells #[.int .i64 x.f0, .int .i64 x.f1, .string x.f2, .slice A3 x.f3.length c3, .slice A4 x.f4.length c4] 25)
 have hxb := cb_new w (.cells #[.int .i64 x.f0, .int .i64 x.f1, .string x.f2, .slice A3 x.f3.length c3, .slice A4 x.f4.length c4] 25)
 have HB := aM hb1
 have HX := aM hxb
 have HRD := aM (h.below hb1)
 have CZ := aM (fits_reads x A3 A4 c3 c4 _ HRD.out)
 clear hb1 h
 go_enter Tryz.func4, Tryz.ntmps4
 go_wp2_with (refine load_val (.tmp 1) rfl rfl rfl hxb ?_)
 refine CZ.out.mono ?_
 rintro e w1 ⟨b, rfl, hb⟩
 have HB1 := aM (hb_then HB.out hb)
 have hx1 := (hb.block _ (cb_lt HX.out)).trans HX.out
 have HRD1 := aM (HRD.out.below hb)
 clear hb HB HX HRD CZ hxb
 cases b
 ·go_wp2
  go_ret
  exact ⟨rfl, HB1.out⟩
 have CF := aM (fit_gives x hx A3 A4 c3 c4 w1 HRD1.out)
 obtain ⟨hys, _⟩ := fit_facts x hx
 have hyc := canon_fit x hx
 have HYS := aM hys
 have HYC := aM hyc
 generalize fitV x = y at CF HYS HYC hys hyc
 clear hys hyc
 go_wp2_with (refine load_val (.tmp 1) rfl rfl rfl hx1 ?_)
 refine CF.out.mono ?_
 rintro e w2 ⟨E3, f3, E4, f4, rfl, hrd, hb⟩
 have HB2 := aM (hb_then HB1.out hb)
 have hx2 := (hb.block _ (cb_lt hx1)).trans hx1
 have hlt1 := cb_lt hx1
 have HRD2 := aM (hrd (w2.setRow w.heap.size #[.int .i64 y.f0, .int .i64 y.f1, .string y.f2, .slice E3 y.f3.length f3, .slice E4 y.f4.length f4]) (fun k hk _ => setRow_other w2 w.heap.size k _ (by omega)))
 have HB3 := aM (pw_below_grown HB2.out (some w.heap.size) HB2.out.size (grown_setRow w2 w.heap.size #[.int .i64 y.f0, .int .i64 y.f1, .string y.f2, .slice E3 y.f3.length f3, .slice E4 y.f4.length f4]) (fun k hk => by injection hk with hk; omega))
 have hx3 := setRow_heap w2 w.heap.size _ #[.int .i64 y.f0, .int .i64 y.f1, .string y.f2, .slice E3 y.f3.length f3, .slice E4 y.f4.length f4] _ _ hx2
 clear hb CF hx1 hrd HRD1 hlt1 HB2
 obtain ⟨w3, hw3⟩ : ∃ w3, w2.setRow w.heap.size #[.int .i64 y.f0, .int .i64 y.f1, .string y.f2, .slice E3 y.f3.length f3, .slice E4 y.f4.length f4] = w3 := ⟨_, rfl⟩
 rw [hw3] at HRD2 HB3 hx3
 have HW3 := aM hw3
 clear hw3
 have y0' := (cell_row5 hx3).1
 by_cases h5 : y.f0 = 5
 rotate_left
 ·have b5 : ((y.f0 : Int) != 5) = true := by simpa using h5
  have b6 : ((y.f0 : Int) == 5) = false := by simpa using h5
  clear h5
  go_wp2_with (refine store_val (.tmp 1) (.tmp 11) rfl rfl rfl rfl hx2 ?_; rw [HW3.out]; clear hx2)
  go_ret
  exact ⟨rfl, HB3.out⟩
 have b5 : ((y.f0 : Int) != 5) = false := by simpa using h5
 have ha : anyOf (toI y) = .map (mapOf (toI y)) := by
  rw [toI_eq, h5]
  simp only [anyOf]
  rw [if_neg (by decide), if_neg (by decide), if_neg (by decide), if_neg (by decide), if_pos trivial]
  rfl
 have hus := small_to y HYS.out
 have hfm : FitsY (.map (mapOf (toI y))) ∧ valOf (.map (mapOf (toI y))) = toI y := by
  rw [← ha]
  exact ⟨(small_fits hus).1, canon_back HYC.out⟩
 have hfr := from_to y
 obtain ⟨u, hu⟩ : ∃ u, toI y = u := ⟨_, rfl⟩
 rw [hu] at hus hfm hfr
 have HFR := aM hfr
 have HUS := aM hus
 have HFM := aM hfm
 obtain ⟨u0, u1, u2, u3, u4⟩ := u
 have HU := aM hu
 clear h5 ha hus hfm hu hfr
 have CT := aM (to_reads y HYS.out HU.out E3 E4 f3 f4 w3 HRD2.out)
 go_wp2_with (first | (refine store_val (.tmp 1) (.tmp 11) rfl rfl rfl rfl hx2 ?_; rw [HW3.out]; clear hx2) | refine load_val (.tmp 1) rfl rfl rfl hx3 ?_)
 refine CT.out.mono ?_
 rintro e w4 ⟨L3, l3, L4, l4, rfl, hl, hb⟩
 have HB4 := aM (hb_then HB3.out hb)
 have hx4 := (hb.block _ (cb_lt hx3)).trans hx3
 have HRY4 := aM (HRD2.out.below hb)
 have HLE := aM hl
 clear hb hl CT hx3 HRD2 HB3 y0' b5
 go_wp2_with fail
 refine (empty_gives w4).mono ?_
 rintro e w5 ⟨rfl, hb⟩
 have HB45 := aM hb
 clear hb
 go_wp2_with fail
 refine (to_empty w5).mono ?_
 rintro e w6 ⟨K3, k3, K4, k4, rfl, hk, hb⟩
 have hb46 := hb_then HB45.out hb
 have HB6 := aM (hb_then HB4.out hb46)
 have hx6 := (hb46.block _ (cb_lt hx4)).trans hx4
 have HRY6 := aM (HRY4.out.below hb46)
 have CM := aM (merge_no (x := ⟨u0, u1, u2, u3, u4⟩) (.inl ⟨rfl, rfl⟩) HUS.out HFM.out L3 L4 l3 l4 K3 K4 k3 k4 w6 (HLE.out.below hb46) hk)
 clear hb hb46 hk HB4 hx4 HRY4 HLE HB45
 go_wp2_with fail
 refine CM.out.mono ?_
 rintro e w7 ⟨P3, p3, P4, p4, rfl, hp, hb⟩
 have hbn := below_alloc (Below.refl w7.heap.size w7) (.cells #[.int .i64 u0, .int .i64 u1, .string u2, .slice P3 u3.length p3, .slice P4 u4.length p4] 31)
 have hbx := hb_then hb hbn
 have HB7 := aM (hb_then HB6.out hbx)
 have hx7 := (hbx.block _ (cb_lt hx6)).trans hx6
 have HRY := aM (HRY6.out.below hbx)
 have HPR := aM ((hp w7 (fun _ _ _ => rfl)).below hbn)
 have hp7 := cb_new w7 (.cells #[.int .i64 u0, .int .i64 u1, .string u2, .slice P3 u3.length p3, .slice P4 u4.length p4] 31)
 obtain ⟨y0, y1, y2, y3, y4⟩ := cell_row5 hx7
 have HX7 := aM hx7
 have HP7 := aM hp7
 clear hb hbn hbx hp HB6 hx6 HRY6 CM hx7 hp7
 go_wp2
 generalize hW1 : w7.alloc _ = W1 at HB7 HRY HPR y0 y1 y2 y3 y4 HX7 HP7 ⊢
 clear hW1
 have HB0 := aM (below_drew (Below.refl W1.heap.size W1))
 refine start_ (n := 11) (S := fun w' => w'.cell? ⟨w.heap.size, 0, none⟩ = some (.int .i64 y.f0) ∧ w'.cell? ⟨w.heap.size, 1, none⟩ = some (.int .i64 y.f1) ∧ w'.cell? ⟨w.heap.size, 2, none⟩ = some (.string y.f2) ∧ w'.cell? ⟨w.heap.size, 3, none⟩ = some (.slice E3 y.f3.length f3) ∧ w'.cell? ⟨w.heap.size, 4, none⟩ = some (.slice E4 y.f4.length f4)) (ds := [9]) #[false, false, false, false, false, false, false, false, false, false, false] (by kernel_rfl) rfl rfl ⟨y0, y1, y2, y3, y4⟩ (fun hHeld => ?_)
 refine take_ (i := 2) (N := some 26) (v := ?_) (a' := ?_) #[false, false, true, false, false, false, false, false, false, false, false] rfl rfl (by kernel_rfl) (fun _ _ _ h => h) (Or.inl ⟨by rfl, ?_⟩) hHeld ?_ ?_
 rotate_left
 ·rintro w' ⟨s0, s1, s2, s3, s4⟩
  go_simp; with_reducible rfl
 rotate_left
 ·simp only [Act.put, sA, sB, sC, i64_w, i32_w]; rfl
 refine join_ (σ := Value × Value × Value × Nat) 2 #[true, true, true, true, true, true, true, true, true, false, false] (fun s_ => [(24, .agg #[.int .i64 5, .int .i64 0, .string ⟨#[]⟩, .slice none 0 0, .slice none 0 0]), (25, s_.1), (27, s_.2.1), (28, .tuple #[s_.2.2.1, .bool true]), (5, .pointer (some ⟨s_.2.2.2, 0, none⟩)), (23, .tuple #[s_.2.2.1, .bool true]), (29, s_.2.2.1), (30, .bool true)]) (fun s_ w' => (w'.cell? ⟨w.heap.size, 0, none⟩ = some (.int .i64 y.f0) ∧ w'.cell? ⟨w.heap.size, 1, none⟩ = some (.int .i64 y.f1) ∧ w'.cell? ⟨w.heap.size, 2, none⟩ = some (.string y.f2) ∧ w'.cell? ⟨w.heap.size, 3, none⟩ = some (.slice E3 y.f3.length f3) ∧ w'.cell? ⟨w.heap.size, 4, none⟩ = some (.slice E4 y.f4.length f4)) ∧ Below W1.heap.size W1 w' ∧ (∃ M3 m3 M4 m4, s_.2.2.1 = .agg #[.int .i64 u0, .int .i64 u1, .string u2, .slice M3 u3.length m3, .slice M4 u4.length m4] ∧ ∀ row, ReadsI (w'.setRow s_.2.2.2 row) ⟨u0, u1, u2, u3, u4⟩ M3 m3 M4 m4) ∧ w'.heap[s_.2.2.2]? = some (.cells #[.int .i64 0, .int .i64 0, .string ⟨#[]⟩, .slice none 0 0, .slice none 0 0] 31) ∧ W1.heap.size ≤ s_.2.2.2) ?_ ?_
 rotate_left
 ·intro hCont
  refine two_ (i := 0) (j := 8) (Ni := some 24) (Nj := some 5) #[true, false, true, false, false, false, false, false, false, false, false] #[false, false, true, false, false, false, false, false, true, false, false] rfl rfl rfl rfl (by kernel_rfl) (by decide) (by decide) (fun K hK => ?_) (fun K hK => ?_)
  ·skip
   generalize W1.drew = q0 at HB0 hHeld ⊢
   refine goes_ Tryz.func14 (by kernel_rfl) rfl #[] (by rfl) rfl rfl (by simp only [List.map_toArray, List.map_cons, List.map_nil]) ?_
   with_reducible refine (empty_gives q0).mono ?_
   rintro e q1 ⟨rfl, hb⟩
   refine ⟨_, rfl, ?_⟩
   have HB1 := aM (hb_then HB0.out hb)
   replace hHeld := And.intro (pw_cell_below hb hHeld.1) (And.intro (pw_cell_below hb hHeld.2.1) (And.intro (pw_cell_below hb hHeld.2.2.1) (And.intro (pw_cell_below hb hHeld.2.2.2.1) (pw_cell_below hb hHeld.2.2.2.2))))
   clear hb
   refine hK.out _ _ ⟨hHeld.1, hHeld.2.1, hHeld.2.2.1, hHeld.2.2.2.1, hHeld.2.2.2.2⟩ (fun hHeld => ?_)
   clear hK K
   refine norm_ (a' := ?_) ?_ ?_
   rotate_left
   ·show Act.put _ (some 24) _ = _
    simp only [Act.put, sA, sB, sC, i64_w, i32_w]; rfl
   refine two_ (i := 1) (j := 8) (Ni := some 25) (Nj := some 5) #[true, true, true, false, false, false, false, false, false, false, false] #[true, false, true, false, false, false, false, false, true, false, false] rfl rfl rfl rfl (by kernel_rfl) (by decide) (by decide) (fun K hK => ?_) (fun K hK => ?_)
   ·skip
    refine goes_ Tryz.func10 (by kernel_rfl) rfl #[.agg #[.int .i64 5, .int .i64 0, .string ⟨#[]⟩, .slice none 0 0, .slice none 0 0]] (by rfl) rfl rfl (by simp only [List.map_toArray, List.map_cons, List.map_nil]; rfl) ?_
    with_reducible refine (to_empty q1).mono ?_
    rintro e q2 ⟨K3, k3, K4, k4, rfl, hk, hb⟩
    refine ⟨_, rfl, ?_⟩
    have HKE2 := aM hk
    have HB2 := aM (hb_then HB1.out hb)
    replace hHeld := And.intro (pw_cell_below hb hHeld.1) (And.intro (pw_cell_below hb hHeld.2.1) (And.intro (pw_cell_below hb hHeld.2.2.1) (And.intro (pw_cell_below hb hHeld.2.2.2.1) (pw_cell_below hb hHeld.2.2.2.2))))
    clear hb hk
    refine hK.out _ _ ⟨hHeld.1, hHeld.2.1, hHeld.2.2.1, hHeld.2.2.2.1, hHeld.2.2.2.2⟩ (fun hHeld => ?_)
    clear hK K
    refine norm_ (a' := ?_) ?_ ?_
    rotate_left
    ·show Act.put _ (some 25) _ = _
     simp only [Act.put, sA, sB, sC, i64_w, i32_w]; rfl
    refine two_ (i := 3) (j := 8) (Ni := some 27) (Nj := some 5) #[true, true, true, true, false, false, false, false, false, false, false] #[true, true, true, false, false, false, false, false, true, false, false] rfl rfl rfl rfl (by kernel_rfl) (by decide) (by decide) (fun K hK => ?_) (fun K hK => ?_)
    ·skip
     refine goes_ Tryz.func10 (by kernel_rfl) rfl #[.agg #[.int .i64 y.f0, .int .i64 y.f1, .string y.f2, .slice E3 y.f3.length f3, .slice E4 y.f4.length f4]] (by rfl) rfl rfl (by simp only [List.map_toArray, List.map_cons, List.map_nil]; rfl) ?_
     with_reducible refine (to_reads y HYS.out HU.out E3 E4 f3 f4 q2 (HRY.out.below HB2.out)).mono ?_
     rintro e q3 ⟨L3, l3, L4, l4, rfl, hk, hb⟩
     refine ⟨_, rfl, ?_⟩
     have HLE3 := aM hk
     have HKE3 := aM (HKE2.out.below hb)
     have HB3 := aM (hb_then HB2.out hb)
     replace hHeld := And.intro (pw_cell_below hb hHeld.1) (And.intro (pw_cell_below hb hHeld.2.1) (And.intro (pw_cell_below hb hHeld.2.2.1) (And.intro (pw_cell_below hb hHeld.2.2.2.1) (pw_cell_below hb hHeld.2.2.2.2))))
     clear hb hk
     refine hK.out _ _ ⟨hHeld.1, hHeld.2.1, hHeld.2.2.1, hHeld.2.2.2.1, hHeld.2.2.2.2⟩ (fun hHeld => ?_)
     clear hK K
     refine norm_ (a' := ?_) ?_ ?_
     rotate_left
     ·show Act.put _ (some 27) _ = _
      simp only [Act.put, sA, sB, sC, i64_w, i32_w]; rfl
     refine two_ (i := 4) (j := 8) (Ni := some 28) (Nj := some 5) #[true, true, true, true, true, false, false, false, false, false, false] #[true, true, true, true, false, false, false, false, true, false, false] rfl rfl rfl rfl (by kernel_rfl) (by decide) (by decide) (fun K hK => ?_) (fun K hK => ?_)
     ·skip
      refine goes_ Tryz.func13 (by kernel_rfl) rfl #[.agg #[.int .i64 (toI e0V).f0, .int .i64 (toI e0V).f1, .string (toI e0V).f2, .slice K3 (toI e0V).f3.length k3, .slice K4 (toI e0V).f4.length k4], .agg #[.int .i64 u0, .int .i64 u1, .string u2, .slice L3 u3.length l3, .slice L4 u4.length l4]] (by rfl) rfl rfl (by simp only [List.map_toArray, List.map_cons, List.map_nil]; rfl) ?_
      with_reducible refine (merge_no (x := toI e0V) (y := ⟨u0, u1, u2, u3, u4⟩) (.inr ⟨rfl, rfl⟩) HUS.out HFM.out K3 K4 k3 k4 L3 L4 l3 l4 q3 HKE3.out HLE3.out).mono ?_
      rintro e q4 ⟨M3, m3, M4, m4, rfl, hk, hb⟩
      refine ⟨_, rfl, ?_⟩
      have HME4 := aM (hk q4 (fun _ _ _ => rfl))
      have HKE4 := aM (HKE3.out.below hb)
      have HLE4 := aM (HLE3.out.below hb)
      have HB4 := aM (hb_then HB3.out hb)
      replace hHeld := And.intro (pw_cell_below hb hHeld.1) (And.intro (pw_cell_below hb hHeld.2.1) (And.intro (pw_cell_below hb hHeld.2.2.1) (And.intro (pw_cell_below hb hHeld.2.2.2.1) (pw_cell_below hb hHeld.2.2.2.2))))
      clear hb hk
      refine hK.out _ _ ⟨hHeld.1, hHeld.2.1, hHeld.2.2.1, hHeld.2.2.2.1, hHeld.2.2.2.2⟩ (fun hHeld => ?_)
      clear hK K
      refine norm_ (a' := ?_) ?_ ?_
      rotate_left
      ·show Act.put _ (some 28) _ = _
       simp only [Act.put, sA, sB, sC, i64_w, i32_w]; rfl
      refine pure_ (i := 5) (N := some 23) (v := ?_) (a' := ?_) #[true, true, true, true, true, true, false, false, false, false, false] rfl rfl (by kernel_rfl) (fun _ _ _ h => h) (Or.inl ⟨by rfl, ?_⟩) ?_ ?_
      rotate_left
      ·intro w'; go_simp; with_reducible rfl
      rotate_left
      ·simp only [Act.put, sA, sB, sC, i64_w, i32_w]; rfl
      refine pure_ (i := 6) (N := some 29) (v := ?_) (a' := ?_) #[true, true, true, true, true, true, true, false, false, false, false] rfl rfl (by kernel_rfl) (fun _ _ _ h => h) (Or.inl ⟨by rfl, ?_⟩) ?_ ?_
      rotate_left
      ·intro w'; go_simp; with_reducible rfl
      rotate_left
      ·simp only [Act.put, sA, sB, sC, i64_w, i32_w]; rfl
      refine pure_ (i := 7) (N := some 30) (v := ?_) (a' := ?_) #[true, true, true, true, true, true, true, true, false, false, false] rfl rfl (by kernel_rfl) (fun _ _ _ h => h) (Or.inl ⟨by rfl, ?_⟩) ?_ ?_
      rotate_left
      ·intro w'; go_simp; with_reducible rfl
      rotate_left
      ·simp only [Act.put, sA, sB, sC, i64_w, i32_w]; rfl
      refine one_ (i := 8) (N := some 5) #[true, true, true, true, true, true, true, true, true, false, false] rfl rfl (by kernel_rfl) (by decide) (fun K hK => ?_)
      refine value_ (w1 := ?_) (v := ?_) (by rfl) rfl ?_ ?_
      rotate_left 2
      ·go_simp; constructor
       ·rfl
       ·rfl
      have hb := below_alloc (Below.refl q4.heap.size q4) (.cells #[.int .i64 0, .int .i64 0, .string ⟨#[]⟩, .slice none 0 0, .slice none 0 0] 31)
      have hk := cb_new q4 (.cells #[.int .i64 0, .int .i64 0, .string ⟨#[]⟩, .slice none 0 0, .slice none 0 0] 31)
      have HNA := aM HB4.out.size
      generalize q4.alloc (.cells #[.int .i64 0, .int .i64 0, .string ⟨#[]⟩, .slice none 0 0, .slice none 0 0] 31) = q5 at hb hk ⊢
      have HA5 := aM hk
      have HME5 := aM (fun row => HME4.out.below (pw_below_grown hb (some q4.heap.size) hb.size (grown_setRow q5 q4.heap.size row) (fun k hk => by injection hk with hk; omega)))
      have HKE5 := aM (HKE4.out.below hb)
      have HLE5 := aM (HLE4.out.below hb)
      have HB5 := aM (hb_then HB4.out hb)
      replace hHeld := And.intro (pw_cell_below hb hHeld.1) (And.intro (pw_cell_below hb hHeld.2.1) (And.intro (pw_cell_below hb hHeld.2.2.1) (And.intro (pw_cell_below hb hHeld.2.2.2.1) (pw_cell_below hb hHeld.2.2.2.2))))
      clear hb hk
      refine hK.out _ _ ⟨hHeld.1, hHeld.2.1, hHeld.2.2.1, hHeld.2.2.2.1, hHeld.2.2.2.2⟩ (fun hHeld => ?_)
      clear hK K
      refine norm_ (a' := ?_) ?_ ?_
      rotate_left
      ·show Act.put _ (some 5) _ = _
       simp only [Act.put, sA, sB, sC, i64_w, i32_w]; rfl
      exact norm_ (by first | (simp only [putAll, Act.put, sA, sB, sC]; done) | (simp only [putAll, Act.put, sA, sB, sC]; rfl)) (hCont ⟨.agg #[.int .i64 (toI e0V).f0, .int .i64 (toI e0V).f1, .string (toI e0V).f2, .slice K3 (toI e0V).f3.length k3, .slice K4 (toI e0V).f4.length k4], .agg #[.int .i64 u0, .int .i64 u1, .string u2, .slice L3 u3.length l3, .slice L4 u4.length l4], .agg #[.int .i64 u0, .int .i64 u1, .string u2, .slice M3 u3.length m3, .slice M4 u4.length m4], q4.heap.size⟩ _ ⟨hHeld, HB5.out, ⟨M3, m3, M4, m4, rfl, HME5.out⟩, HA5.out, HNA.out⟩)
     ·skip
      refine value_ (w1 := ?_) (v := ?_) (by rfl) rfl ?_ ?_
      rotate_left 2
      ·go_simp; constructor
       ·rfl
       ·rfl
      have hb := below_alloc (Below.refl q3.heap.size q3) (.cells #[.int .i64 0, .int .i64 0, .string ⟨#[]⟩, .slice none 0 0, .slice none 0 0] 31)
      have hk := cb_new q3 (.cells #[.int .i64 0, .int .i64 0, .string ⟨#[]⟩, .slice none 0 0, .slice none 0 0] 31)
      have HNA := aM HB3.out.size
      generalize q3.alloc (.cells #[.int .i64 0, .int .i64 0, .string ⟨#[]⟩, .slice none 0 0, .slice none 0 0] 31) = q4 at hb hk ⊢
      have HA4 := aM hk
      have HKE4 := aM (HKE3.out.below hb)
      have HLE4 := aM (HLE3.out.below hb)
      have HB4 := aM (hb_then HB3.out hb)
      replace hHeld := And.intro (pw_cell_below hb hHeld.1) (And.intro (pw_cell_below hb hHeld.2.1) (And.intro (pw_cell_below hb hHeld.2.2.1) (And.intro (pw_cell_below hb hHeld.2.2.2.1) (pw_cell_below hb hHeld.2.2.2.2))))
      clear hb hk
      refine hK.out _ _ ⟨hHeld.1, hHeld.2.1, hHeld.2.2.1, hHeld.2.2.2.1, hHeld.2.2.2.2⟩ (fun hHeld => ?_)
      clear hK K
      refine norm_ (a' := ?_) ?_ ?_
      rotate_left
      ·show Act.put _ (some 5) _ = _
       simp only [Act.put, sA, sB, sC, i64_w, i32_w]; rfl
      refine one_ (i := 4) (N := some 28) #[true, true, true, true, true, false, false, false, true, false, false] rfl rfl (by kernel_rfl) (by decide) (fun K hK => ?_)
      refine goes_ Tryz.func13 (by kernel_rfl) rfl #[.agg #[.int .i64 (toI e0V).f0, .int .i64 (toI e0V).f1, .string (toI e0V).f2, .slice K3 (toI e0V).f3.length k3, .slice K4 (toI e0V).f4.length k4], .agg #[.int .i64 u0, .int .i64 u1, .string u2, .slice L3 u3.length l3, .slice L4 u4.length l4]] (by rfl) rfl rfl (by simp only [List.map_toArray, List.map_cons, List.map_nil]; rfl) ?_
      with_reducible refine (merge_no (x := toI e0V) (y := ⟨u0, u1, u2, u3, u4⟩) (.inr ⟨rfl, rfl⟩) HUS.out HFM.out K3 K4 k3 k4 L3 L4 l3 l4 q4 HKE4.out HLE4.out).mono ?_
      rintro e q5 ⟨M3, m3, M4, m4, rfl, hk, hb⟩
      refine ⟨_, rfl, ?_⟩
      have hgl := cb_lt HA4.out
      have HME5 := aM (fun row => hk (q5.setRow q3.heap.size row) (fun k h1 h2 => setRow_other _ _ k _ (by omega)))
      clear hgl
      have HKE5 := aM (HKE4.out.below hb)
      have HLE5 := aM (HLE4.out.below hb)
      have HA5 := aM ((hb.block _ (cb_lt HA4.out)).trans HA4.out)
      have HB5 := aM (hb_then HB4.out hb)
      replace hHeld := And.intro (pw_cell_below hb hHeld.1) (And.intro (pw_cell_below hb hHeld.2.1) (And.intro (pw_cell_below hb hHeld.2.2.1) (And.intro (pw_cell_below hb hHeld.2.2.2.1) (pw_cell_below hb hHeld.2.2.2.2))))
      clear hb hk
      refine hK.out _ _ ⟨hHeld.1, hHeld.2.1, hHeld.2.2.1, hHeld.2.2.2.1, hHeld.2.2.2.2⟩ (fun hHeld => ?_)
      clear hK K
      refine norm_ (a' := ?_) ?_ ?_
      rotate_left
      ·show Act.put _ (some 28) _ = _
       simp only [Act.put, sA, sB, sC, i64_w, i32_w]; rfl
      refine pure_ (i := 5) (N := some 23) (v := ?_) (a' := ?_) #[true, true, true, true, true, true, false, false, true, false, false] rfl rfl (by kernel_rfl) (fun _ _ _ h => h) (Or.inl ⟨by rfl, ?_⟩) ?_ ?_
      rotate_left
      ·intro w'; go_simp; with_reducible rfl
      rotate_left
      ·simp only [Act.put, sA, sB, sC, i64_w, i32_w]; rfl
      refine pure_ (i := 6) (N := some 29) (v := ?_) (a' := ?_) #[true, true, true, true, true, true, true, false, true, false, false] rfl rfl (by kernel_rfl) (fun _ _ _ h => h) (Or.inl ⟨by rfl, ?_⟩) ?_ ?_
      rotate_left
      ·intro w'; go_simp; with_reducible rfl
      rotate_left
      ·simp only [Act.put, sA, sB, sC, i64_w, i32_w]; rfl
      refine pure_ (i := 7) (N := some 30) (v := ?_) (a' := ?_) #[true, true, true, true, true, true, true, true, true, false, false] rfl rfl (by kernel_rfl) (fun _ _ _ h => h) (Or.inl ⟨by rfl, ?_⟩) ?_ ?_
      rotate_left
      ·intro w'; go_simp; with_reducible rfl
      rotate_left
      ·simp only [Act.put, sA, sB, sC, i64_w, i32_w]; rfl
      exact norm_ (by first | (simp only [putAll, Act.put, sA, sB, sC]; done) | (simp only [putAll, Act.put, sA, sB, sC]; rfl)) (hCont ⟨.agg #[.int .i64 (toI e0V).f0, .int .i64 (toI e0V).f1, .string (toI e0V).f2, .slice K3 (toI e0V).f3.length k3, .slice K4 (toI e0V).f4.length k4], .agg #[.int .i64 u0, .int .i64 u1, .string u2, .slice L3 u3.length l3, .slice L4 u4.length l4], .agg #[.int .i64 u0, .int .i64 u1, .string u2, .slice M3 u3.length m3, .slice M4 u4.length m4], q3.heap.size⟩ _ ⟨hHeld, HB5.out, ⟨M3, m3, M4, m4, rfl, HME5.out⟩, HA5.out, HNA.out⟩)
    ·skip
     refine value_ (w1 := ?_) (v := ?_) (by rfl) rfl ?_ ?_
     rotate_left 2
     ·go_simp; constructor
      ·rfl
      ·rfl
     have hb := below_alloc (Below.refl q2.heap.size q2) (.cells #[.int .i64 0, .int .i64 0, .string ⟨#[]⟩, .slice none 0 0, .slice none 0 0] 31)
     have hk := cb_new q2 (.cells #[.int .i64 0, .int .i64 0, .string ⟨#[]⟩, .slice none 0 0, .slice none 0 0] 31)
     have HNA := aM HB2.out.size
     generalize q2.alloc (.cells #[.int .i64 0, .int .i64 0, .string ⟨#[]⟩, .slice none 0 0, .slice none 0 0] 31) = q3 at hb hk ⊢
     have HA3 := aM hk
     have HKE3 := aM (HKE2.out.below hb)
     have HB3 := aM (hb_then HB2.out hb)
     replace hHeld := And.intro (pw_cell_below hb hHeld.1) (And.intro (pw_cell_below hb hHeld.2.1) (And.intro (pw_cell_below hb hHeld.2.2.1) (And.intro (pw_cell_below hb hHeld.2.2.2.1) (pw_cell_below hb hHeld.2.2.2.2))))
     clear hb hk
     refine hK.out _ _ ⟨hHeld.1, hHeld.2.1, hHeld.2.2.1, hHeld.2.2.2.1, hHeld.2.2.2.2⟩ (fun hHeld => ?_)
     clear hK K
     refine norm_ (a' := ?_) ?_ ?_
     rotate_left
     ·show Act.put _ (some 5) _ = _
      simp only [Act.put, sA, sB, sC, i64_w, i32_w]; rfl
     refine one_ (i := 3) (N := some 27) #[true, true, true, true, false, false, false, false, true, false, false] rfl rfl (by kernel_rfl) (by decide) (fun K hK => ?_)
     refine goes_ Tryz.func10 (by kernel_rfl) rfl #[.agg #[.int .i64 y.f0, .int .i64 y.f1, .string y.f2, .slice E3 y.f3.length f3, .slice E4 y.f4.length f4]] (by rfl) rfl rfl (by simp only [List.map_toArray, List.map_cons, List.map_nil]; rfl) ?_
     with_reducible refine (to_reads y HYS.out HU.out E3 E4 f3 f4 q3 (HRY.out.below HB3.out)).mono ?_
     rintro e q4 ⟨L3, l3, L4, l4, rfl, hk, hb⟩
     refine ⟨_, rfl, ?_⟩
     have HLE4 := aM hk
     have HKE4 := aM (HKE3.out.below hb)
     have HA4 := aM ((hb.block _ (cb_lt HA3.out)).trans HA3.out)
     have HB4 := aM (hb_then HB3.out hb)
     replace hHeld := And.intro (pw_cell_below hb hHeld.1) (And.intro (pw_cell_below hb hHeld.2.1) (And.intro (pw_cell_below hb hHeld.2.2.1) (And.intro (pw_cell_below hb hHeld.2.2.2.1) (pw_cell_below hb hHeld.2.2.2.2))))
     clear hb hk
     refine hK.out _ _ ⟨hHeld.1, hHeld.2.1, hHeld.2.2.1, hHeld.2.2.2.1, hHeld.2.2.2.2⟩ (fun hHeld => ?_)
     clear hK K
     refine norm_ (a' := ?_) ?_ ?_
     rotate_left
     ·show Act.put _ (some 27) _ = _
      simp only [Act.put, sA, sB, sC, i64_w, i32_w]; rfl
     refine one_ (i := 4) (N := some 28) #[true, true, true, true, true, false, false, false, true, false, false] rfl rfl (by kernel_rfl) (by decide) (fun K hK => ?_)
     refine goes_ Tryz.func13 (by kernel_rfl) rfl #[.agg #[.int .i64 (toI e0V).f0, .int .i64 (toI e0V).f1, .string (toI e0V).f2, .slice K3 (toI e0V).f3.length k3, .slice K4 (toI e0V).f4.length k4], .agg #[.int .i64 u0, .int .i64 u1, .string u2, .slice L3 u3.length l3, .slice L4 u4.length l4]] (by rfl) rfl rfl (by simp only [List.map_toArray, List.map_cons, List.map_nil]; rfl) ?_
     with_reducible refine (merge_no (x := toI e0V) (y := ⟨u0, u1, u2, u3, u4⟩) (.inr ⟨rfl, rfl⟩) HUS.out HFM.out K3 K4 k3 k4 L3 L4 l3 l4 q4 HKE4.out HLE4.out).mono ?_
     rintro e q5 ⟨M3, m3, M4, m4, rfl, hk, hb⟩
     refine ⟨_, rfl, ?_⟩
     have hgl := cb_lt HA4.out
     have HME5 := aM (fun row => hk (q5.setRow q2.heap.size row) (fun k h1 h2 => setRow_other _ _ k _ (by omega)))
     clear hgl
     have HKE5 := aM (HKE4.out.below hb)
     have HLE5 := aM (HLE4.out.below hb)
     have HA5 := aM ((hb.block _ (cb_lt HA4.out)).trans HA4.out)
     have HB5 := aM (hb_then HB4.out hb)
     replace hHeld := And.intro (pw_cell_below hb hHeld.1) (And.intro (pw_cell_below hb hHeld.2.1) (And.intro (pw_cell_below hb hHeld.2.2.1) (And.intro (pw_cell_below hb hHeld.2.2.2.1) (pw_cell_below hb hHeld.2.2.2.2))))
     clear hb hk
     refine hK.out _ _ ⟨hHeld.1, hHeld.2.1, hHeld.2.2.1, hHeld.2.2.2.1, hHeld.2.2.2.2⟩ (fun hHeld => ?_)
     clear hK K
     refine norm_ (a' := ?_) ?_ ?_
     rotate_left
     ·show Act.put _ (some 28) _ = _
      simp only [Act.put, sA, sB, sC, i64_w, i32_w]; rfl
     refine pure_ (i := 5) (N := some 23) (v := ?_) (a' := ?_) #[true, true, true, true, true, true, false, false, true, false, false] rfl rfl (by kernel_rfl) (fun _ _ _ h => h) (Or.inl ⟨by rfl, ?_⟩) ?_ ?_
     rotate_left
     ·intro w'; go_simp; with_reducible rfl
     rotate_left
     ·simp only [Act.put, sA, sB, sC, i64_w, i32_w]; rfl
     refine pure_ (i := 6) (N := some 29) (v := ?_) (a' := ?_) #[true, true, true, true, true, true, true, false, true, false, false] rfl rfl (by kernel_rfl) (fun _ _ _ h => h) (Or.inl ⟨by rfl, ?_⟩) ?_ ?_
     rotate_left
     ·intro w'; go_simp; with_reducible rfl
     rotate_left
     ·simp only [Act.put, sA, sB, sC, i64_w, i32_w]; rfl
     refine pure_ (i := 7) (N := some 30) (v := ?_) (a' := ?_) #[true, true, true, true, true, true, true, true, true, false, false] rfl rfl (by kernel_rfl) (fun _ _ _ h => h) (Or.inl ⟨by rfl, ?_⟩) ?_ ?_
     rotate_left
     ·intro w'; go_simp; with_reducible rfl
     rotate_left
     ·simp only [Act.put, sA, sB, sC, i64_w, i32_w]; rfl
     exact norm_ (by first | (simp only [putAll, Act.put, sA, sB, sC]; done) | (simp only [putAll, Act.put, sA, sB, sC]; rfl)) (hCont ⟨.agg #[.int .i64 (toI e0V).f0, .int .i64 (toI e0V).f1, .string (toI e0V).f2, .slice K3 (toI e0V).f3.length k3, .slice K4 (toI e0V).f4.length k4], .agg #[.int .i64 u0, .int .i64 u1, .string u2, .slice L3 u3.length l3, .slice L4 u4.length l4], .agg #[.int .i64 u0, .int .i64 u1, .string u2, .slice M3 u3.length m3, .slice M4 u4.length m4], q2.heap.size⟩ _ ⟨hHeld, HB5.out, ⟨M3, m3, M4, m4, rfl, HME5.out⟩, HA5.out, HNA.out⟩)
   ·skip
    refine value_ (w1 := ?_) (v := ?_) (by rfl) rfl ?_ ?_
    rotate_left 2
    ·go_simp; constructor
     ·rfl
     ·rfl
    have hb := below_alloc (Below.refl q1.heap.size q1) (.cells #[.int .i64 0, .int .i64 0, .string ⟨#[]⟩, .slice none 0 0, .slice none 0 0] 31)
    have hk := cb_new q1 (.cells #[.int .i64 0, .int .i64 0, .string ⟨#[]⟩, .slice none 0 0, .slice none 0 0] 31)
    have HNA := aM HB1.out.size
    generalize q1.alloc (.cells #[.int .i64 0, .int .i64 0, .string ⟨#[]⟩, .slice none 0 0, .slice none 0 0] 31) = q2 at hb hk ⊢
    have HA2 := aM hk
    have HB2 := aM (hb_then HB1.out hb)
    replace hHeld := And.intro (pw_cell_below hb hHeld.1) (And.intro (pw_cell_below hb hHeld.2.1) (And.intro (pw_cell_below hb hHeld.2.2.1) (And.intro (pw_cell_below hb hHeld.2.2.2.1) (pw_cell_below hb hHeld.2.2.2.2))))
    clear hb hk
    refine hK.out _ _ ⟨hHeld.1, hHeld.2.1, hHeld.2.2.1, hHeld.2.2.2.1, hHeld.2.2.2.2⟩ (fun hHeld => ?_)
    clear hK K
    refine norm_ (a' := ?_) ?_ ?_
    rotate_left
    ·show Act.put _ (some 5) _ = _
     simp only [Act.put, sA, sB, sC, i64_w, i32_w]; rfl
    refine one_ (i := 1) (N := some 25) #[true, true, true, false, false, false, false, false, true, false, false] rfl rfl (by kernel_rfl) (by decide) (fun K hK => ?_)
    refine goes_ Tryz.func10 (by kernel_rfl) rfl #[.agg #[.int .i64 5, .int .i64 0, .string ⟨#[]⟩, .slice none 0 0, .slice none 0 0]] (by rfl) rfl rfl (by simp only [List.map_toArray, List.map_cons, List.map_nil]; rfl) ?_
    with_reducible refine (to_empty q2).mono ?_
    rintro e q3 ⟨K3, k3, K4, k4, rfl, hk, hb⟩
    refine ⟨_, rfl, ?_⟩
    have HKE3 := aM hk
    have HA3 := aM ((hb.block _ (cb_lt HA2.out)).trans HA2.out)
    have HB3 := aM (hb_then HB2.out hb)
    replace hHeld := And.intro (pw_cell_below hb hHeld.1) (And.intro (pw_cell_below hb hHeld.2.1) (And.intro (pw_cell_below hb hHeld.2.2.1) (And.intro (pw_cell_below hb hHeld.2.2.2.1) (pw_cell_below hb hHeld.2.2.2.2))))
    clear hb hk
    refine hK.out _ _ ⟨hHeld.1, hHeld.2.1, hHeld.2.2.1, hHeld.2.2.2.1, hHeld.2.2.2.2⟩ (fun hHeld => ?_)
    clear hK K
    refine norm_ (a' := ?_) ?_ ?_
    rotate_left
    ·show Act.put _ (some 25) _ = _
     simp only [Act.put, sA, sB, sC, i64_w, i32_w]; rfl
    refine one_ (i := 3) (N := some 27) #[true, true, true, true, false, false, false, false, true, false, false] rfl rfl (by kernel_rfl) (by decide) (fun K hK => ?_)
    refine goes_ Tryz.func10 (by kernel_rfl) rfl #[.agg #[.int .i64 y.f0, .int .i64 y.f1, .string y.f2, .slice E3 y.f3.length f3, .slice E4 y.f4.length f4]] (by rfl) rfl rfl (by simp only [List.map_toArray, List.map_cons, List.map_nil]; rfl) ?_
    with_reducible refine (to_reads y HYS.out HU.out E3 E4 f3 f4 q3 (HRY.out.below HB3.out)).mono ?_
    rintro e q4 ⟨L3, l3, L4, l4, rfl, hk, hb⟩
    refine ⟨_, rfl, ?_⟩
    have HLE4 := aM hk
    have HKE4 := aM (HKE3.out.below hb)
    have HA4 := aM ((hb.block _ (cb_lt HA3.out)).trans HA3.out)
    have HB4 := aM (hb_then HB3.out hb)
    replace hHeld := And.intro (pw_cell_below hb hHeld.1) (And.intro (pw_cell_below hb hHeld.2.1) (And.intro (pw_cell_below hb hHeld.2.2.1) (And.intro (pw_cell_below hb hHeld.2.2.2.1) (pw_cell_below hb hHeld.2.2.2.2))))
    clear hb hk
    refine hK.out _ _ ⟨hHeld.1, hHeld.2.1, hHeld.2.2.1, hHeld.2.2.2.1, hHeld.2.2.2.2⟩ (fun hHeld => ?_)
    clear hK K
    refine norm_ (a' := ?_) ?_ ?_
    rotate_left
    ·show Act.put _ (some 27) _ = _
     simp only [Act.put, sA, sB, sC, i64_w, i32_w]; rfl
    refine one_ (i := 4) (N := some 28) #[true, true, true, true, true, false, false, false, true, false, false] rfl rfl (by kernel_rfl) (by decide) (fun K hK => ?_)
    refine goes_ Tryz.func13 (by kernel_rfl) rfl #[.agg #[.int .i64 (toI e0V).f0, .int .i64 (toI e0V).f1, .string (toI e0V).f2, .slice K3 (toI e0V).f3.length k3, .slice K4 (toI e0V).f4.length k4], .agg #[.int .i64 u0, .int .i64 u1, .string u2, .slice L3 u3.length l3, .slice L4 u4.length l4]] (by rfl) rfl rfl (by simp only [List.map_toArray, List.map_cons, List.map_nil]; rfl) ?_
    with_reducible refine (merge_no (x := toI e0V) (y := ⟨u0, u1, u2, u3, u4⟩) (.inr ⟨rfl, rfl⟩) HUS.out HFM.out K3 K4 k3 k4 L3 L4 l3 l4 q4 HKE4.out HLE4.out).mono ?_
    rintro e q5 ⟨M3, m3, M4, m4, rfl, hk, hb⟩
    refine ⟨_, rfl, ?_⟩
    have hgl := cb_lt HA4.out
    have HME5 := aM (fun row => hk (q5.setRow q1.heap.size row) (fun k h1 h2 => setRow_other _ _ k _ (by omega)))
    clear hgl
    have HKE5 := aM (HKE4.out.below hb)
    have HLE5 := aM (HLE4.out.below hb)
    have HA5 := aM ((hb.block _ (cb_lt HA4.out)).trans HA4.out)
    have HB5 := aM (hb_then HB4.out hb)
    replace hHeld := And.intro (pw_cell_below hb hHeld.1) (And.intro (pw_cell_below hb hHeld.2.1) (And.intro (pw_cell_below hb hHeld.2.2.1) (And.intro (pw_cell_below hb hHeld.2.2.2.1) (pw_cell_below hb hHeld.2.2.2.2))))
    clear hb hk
    refine hK.out _ _ ⟨hHeld.1, hHeld.2.1, hHeld.2.2.1, hHeld.2.2.2.1, hHeld.2.2.2.2⟩ (fun hHeld => ?_)
    clear hK K
    refine norm_ (a' := ?_) ?_ ?_
    rotate_left
    ·show Act.put _ (some 28) _ = _
     simp only [Act.put, sA, sB, sC, i64_w, i32_w]; rfl
    refine pure_ (i := 5) (N := some 23) (v := ?_) (a' := ?_) #[true, true, true, true, true, true, false, false, true, false, false] rfl rfl (by kernel_rfl) (fun _ _ _ h => h) (Or.inl ⟨by rfl, ?_⟩) ?_ ?_
    rotate_left
    ·intro w'; go_simp; with_reducible rfl
    rotate_left
    ·simp only [Act.put, sA, sB, sC, i64_w, i32_w]; rfl
    refine pure_ (i := 6) (N := some 29) (v := ?_) (a' := ?_) #[true, true, true, true, true, true, true, false, true, false, false] rfl rfl (by kernel_rfl) (fun _ _ _ h => h) (Or.inl ⟨by rfl, ?_⟩) ?_ ?_
    rotate_left
    ·intro w'; go_simp; with_reducible rfl
    rotate_left
    ·simp only [Act.put, sA, sB, sC, i64_w, i32_w]; rfl
    refine pure_ (i := 7) (N := some 30) (v := ?_) (a' := ?_) #[true, true, true, true, true, true, true, true, true, false, false] rfl rfl (by kernel_rfl) (fun _ _ _ h => h) (Or.inl ⟨by rfl, ?_⟩) ?_ ?_
    rotate_left
    ·intro w'; go_simp; with_reducible rfl
    rotate_left
    ·simp only [Act.put, sA, sB, sC, i64_w, i32_w]; rfl
    exact norm_ (by first | (simp only [putAll, Act.put, sA, sB, sC]; done) | (simp only [putAll, Act.put, sA, sB, sC]; rfl)) (hCont ⟨.agg #[.int .i64 (toI e0V).f0, .int .i64 (toI e0V).f1, .string (toI e0V).f2, .slice K3 (toI e0V).f3.length k3, .slice K4 (toI e0V).f4.length k4], .agg #[.int .i64 u0, .int .i64 u1, .string u2, .slice L3 u3.length l3, .slice L4 u4.length l4], .agg #[.int .i64 u0, .int .i64 u1, .string u2, .slice M3 u3.length m3, .slice M4 u4.length m4], q1.heap.size⟩ _ ⟨hHeld, HB5.out, ⟨M3, m3, M4, m4, rfl, HME5.out⟩, HA5.out, HNA.out⟩)
  ·skip
   generalize W1.drew = q0 at HB0 hHeld ⊢
   refine value_ (w1 := ?_) (v := ?_) (by rfl) rfl ?_ ?_
   rotate_left 2
   ·go_simp; constructor
    ·rfl
    ·rfl
   have hb := below_alloc (Below.refl q0.heap.size q0) (.cells #[.int .i64 0, .int .i64 0, .string ⟨#[]⟩, .slice none 0 0, .slice none 0 0] 31)
   have hk := cb_new q0 (.cells #[.int .i64 0, .int .i64 0, .string ⟨#[]⟩, .slice none 0 0, .slice none 0 0] 31)
   have HNA := aM HB0.out.size
   generalize q0.alloc (.cells #[.int .i64 0, .int .i64 0, .string ⟨#[]⟩, .slice none 0 0, .slice none 0 0] 31) = q1 at hb hk ⊢
   have HA1 := aM hk
   have HB1 := aM (hb_then HB0.out hb)
   replace hHeld := And.intro (pw_cell_below hb hHeld.1) (And.intro (pw_cell_below hb hHeld.2.1) (And.intro (pw_cell_below hb hHeld.2.2.1) (And.intro (pw_cell_below hb hHeld.2.2.2.1) (pw_cell_below hb hHeld.2.2.2.2))))
   clear hb hk
   refine hK.out _ _ ⟨hHeld.1, hHeld.2.1, hHeld.2.2.1, hHeld.2.2.2.1, hHeld.2.2.2.2⟩ (fun hHeld => ?_)
   clear hK K
   refine norm_ (a' := ?_) ?_ ?_
   rotate_left
   ·show Act.put _ (some 5) _ = _
    simp only [Act.put, sA, sB, sC, i64_w, i32_w]; rfl
   refine one_ (i := 0) (N := some 24) #[true, false, true, false, false, false, false, false, true, false, false] rfl rfl (by kernel_rfl) (by decide) (fun K hK => ?_)
   refine goes_ Tryz.func14 (by kernel_rfl) rfl #[] (by rfl) rfl rfl (by simp only [List.map_toArray, List.map_cons, List.map_nil]) ?_
   with_reducible refine (empty_gives q1).mono ?_
   rintro e q2 ⟨rfl, hb⟩
   refine ⟨_, rfl, ?_⟩
   have HA2 := aM ((hb.block _ (cb_lt HA1.out)).trans HA1.out)
   have HB2 := aM (hb_then HB1.out hb)
   replace hHeld := And.intro (pw_cell_below hb hHeld.1) (And.intro (pw_cell_below hb hHeld.2.1) (And.intro (pw_cell_below hb hHeld.2.2.1) (And.intro (pw_cell_below hb hHeld.2.2.2.1) (pw_cell_below hb hHeld.2.2.2.2))))
   clear hb
   refine hK.out _ _ ⟨hHeld.1, hHeld.2.1, hHeld.2.2.1, hHeld.2.2.2.1, hHeld.2.2.2.2⟩ (fun hHeld => ?_)
   clear hK K
   refine norm_ (a' := ?_) ?_ ?_
   rotate_left
   ·show Act.put _ (some 24) _ = _
    simp only [Act.put, sA, sB, sC, i64_w, i32_w]; rfl
   refine one_ (i := 1) (N := some 25) #[true, true, true, false, false, false, false, false, true, false, false] rfl rfl (by kernel_rfl) (by decide) (fun K hK => ?_)
   refine goes_ Tryz.func10 (by kernel_rfl) rfl #[.agg #[.int .i64 5, .int .i64 0, .string ⟨#[]⟩, .slice none 0 0, .slice none 0 0]] (by rfl) rfl rfl (by simp only [List.map_toArray, List.map_cons, List.map_nil]; rfl) ?_
   with_reducible refine (to_empty q2).mono ?_
   rintro e q3 ⟨K3, k3, K4, k4, rfl, hk, hb⟩
   refine ⟨_, rfl, ?_⟩
   have HKE3 := aM hk
   have HA3 := aM ((hb.block _ (cb_lt HA2.out)).trans HA2.out)
   have HB3 := aM (hb_then HB2.out hb)
   replace hHeld := And.intro (pw_cell_below hb hHeld.1) (And.intro (pw_cell_below hb hHeld.2.1) (And.intro (pw_cell_below hb hHeld.2.2.1) (And.intro (pw_cell_below hb hHeld.2.2.2.1) (pw_cell_below hb hHeld.2.2.2.2))))
   clear hb hk
   refine hK.out _ _ ⟨hHeld.1, hHeld.2.1, hHeld.2.2.1, hHeld.2.2.2.1, hHeld.2.2.2.2⟩ (fun hHeld => ?_)
   clear hK K
   refine norm_ (a' := ?_) ?_ ?_
   rotate_left
   ·show Act.put _ (some 25) _ = _
    simp only [Act.put, sA, sB, sC, i64_w, i32_w]; rfl
   refine one_ (i := 3) (N := some 27) #[true, true, true, true, false, false, false, false, true, false, false] rfl rfl (by kernel_rfl) (by decide) (fun K hK => ?_)
   refine goes_ Tryz.func10 (by kernel_rfl) rfl #[.agg #[.int .i64 y.f0, .int .i64 y.f1, .string y.f2, .slice E3 y.f3.length f3, .slice E4 y.f4.length f4]] (by rfl) rfl rfl (by simp only [List.map_toArray, List.map_cons, List.map_nil]; rfl) ?_
   with_reducible refine (to_reads y HYS.out HU.out E3 E4 f3 f4 q3 (HRY.out.below HB3.out)).mono ?_
   rintro e q4 ⟨L3, l3, L4, l4, rfl, hk, hb⟩
   refine ⟨_, rfl, ?_⟩
   have HLE4 := aM hk
   have HKE4 := aM (HKE3.out.below hb)
   have HA4 := aM ((hb.block _ (cb_lt HA3.out)).trans HA3.out)
   have HB4 := aM (hb_then HB3.out hb)
   replace hHeld := And.intro (pw_cell_below hb hHeld.1) (And.intro (pw_cell_below hb hHeld.2.1) (And.intro (pw_cell_below hb hHeld.2.2.1) (And.intro (pw_cell_below hb hHeld.2.2.2.1) (pw_cell_below hb hHeld.2.2.2.2))))
   clear hb hk
   refine hK.out _ _ ⟨hHeld.1, hHeld.2.1, hHeld.2.2.1, hHeld.2.2.2.1, hHeld.2.2.2.2⟩ (fun hHeld => ?_)
   clear hK K
   refine norm_ (a' := ?_) ?_ ?_
   rotate_left
   ·show Act.put _ (some 27) _ = _
    simp only [Act.put, sA, sB, sC, i64_w, i32_w]; rfl
   refine one_ (i := 4) (N := some 28) #[true, true, true, true, true, false, false, false, true, false, false] rfl rfl (by kernel_rfl) (by decide) (fun K hK => ?_)
   refine goes_ Tryz.func13 (by kernel_rfl) rfl #[.agg #[.int .i64 (toI e0V).f0, .int .i64 (toI e0V).f1, .string (toI e0V).f2, .slice K3 (toI e0V).f3.length k3, .slice K4 (toI e0V).f4.length k4], .agg #[.int .i64 u0, .int .i64 u1, .string u2, .slice L3 u3.length l3, .slice L4 u4.length l4]] (by rfl) rfl rfl (by simp only [List.map_toArray, List.map_cons, List.map_nil]; rfl) ?_
   with_reducible refine (merge_no (x := toI e0V) (y := ⟨u0, u1, u2, u3, u4⟩) (.inr ⟨rfl, rfl⟩) HUS.out HFM.out K3 K4 k3 k4 L3 L4 l3 l4 q4 HKE4.out HLE4.out).mono ?_
   rintro e q5 ⟨M3, m3, M4, m4, rfl, hk, hb⟩
   refine ⟨_, rfl, ?_⟩
   have hgl := cb_lt HA4.out
   have HME5 := aM (fun row => hk (q5.setRow q0.heap.size row) (fun k h1 h2 => setRow_other _ _ k _ (by omega)))
   clear hgl
   have HKE5 := aM (HKE4.out.below hb)
   have HLE5 := aM (HLE4.out.below hb)
   have HA5 := aM ((hb.block _ (cb_lt HA4.out)).trans HA4.out)
   have HB5 := aM (hb_then HB4.out hb)
   replace hHeld := And.intro (pw_cell_below hb hHeld.1) (And.intro (pw_cell_below hb hHeld.2.1) (And.intro (pw_cell_below hb hHeld.2.2.1) (And.intro (pw_cell_below hb hHeld.2.2.2.1) (pw_cell_below hb hHeld.2.2.2.2))))
   clear hb hk
   refine hK.out _ _ ⟨hHeld.1, hHeld.2.1, hHeld.2.2.1, hHeld.2.2.2.1, hHeld.2.2.2.2⟩ (fun hHeld => ?_)
   clear hK K
   refine norm_ (a' := ?_) ?_ ?_
   rotate_left
   ·show Act.put _ (some 28) _ = _
    simp only [Act.put, sA, sB, sC, i64_w, i32_w]; rfl
   refine pure_ (i := 5) (N := some 23) (v := ?_) (a' := ?_) #[true, true, true, true, true, true, false, false, true, false, false] rfl rfl (by kernel_rfl) (fun _ _ _ h => h) (Or.inl ⟨by rfl, ?_⟩) ?_ ?_
   rotate_left
   ·intro w'; go_simp; with_reducible rfl
   rotate_left
   ·simp only [Act.put, sA, sB, sC, i64_w, i32_w]; rfl
   refine pure_ (i := 6) (N := some 29) (v := ?_) (a' := ?_) #[true, true, true, true, true, true, true, false, true, false, false] rfl rfl (by kernel_rfl) (fun _ _ _ h => h) (Or.inl ⟨by rfl, ?_⟩) ?_ ?_
   rotate_left
   ·intro w'; go_simp; with_reducible rfl
   rotate_left
   ·simp only [Act.put, sA, sB, sC, i64_w, i32_w]; rfl
   refine pure_ (i := 7) (N := some 30) (v := ?_) (a' := ?_) #[true, true, true, true, true, true, true, true, true, false, false] rfl rfl (by kernel_rfl) (fun _ _ _ h => h) (Or.inl ⟨by rfl, ?_⟩) ?_ ?_
   rotate_left
   ·intro w'; go_simp; with_reducible rfl
   rotate_left
   ·simp only [Act.put, sA, sB, sC, i64_w, i32_w]; rfl
   exact norm_ (by first | (simp only [putAll, Act.put, sA, sB, sC]; done) | (simp only [putAll, Act.put, sA, sB, sC]; rfl)) (hCont ⟨.agg #[.int .i64 (toI e0V).f0, .int .i64 (toI e0V).f1, .string (toI e0V).f2, .slice K3 (toI e0V).f3.length k3, .slice K4 (toI e0V).f4.length k4], .agg #[.int .i64 u0, .int .i64 u1, .string u2, .slice L3 u3.length l3, .slice L4 u4.length l4], .agg #[.int .i64 u0, .int .i64 u1, .string u2, .slice M3 u3.length m3, .slice M4 u4.length m4], q0.heap.size⟩ _ ⟨hHeld, HB5.out, ⟨M3, m3, M4, m4, rfl, HME5.out⟩, HA5.out, HNA.out⟩)
 rintro ⟨v25, v27, v29, g⟩ w8 ⟨hS, hB, ⟨M3, m3, M4, m4, hv, hM⟩, hA, hN⟩
 have hHeld := hS
 replace hv : v29 = _ := hv
 subst hv
 replace hA : w8.heap[g]? = some (.cells #[.int .i64 0, .int .i64 0, .string ⟨#[]⟩, .slice none 0 0, .slice none 0 0] 31) := hA
 replace hN : W1.heap.size ≤ g := hN
 have HB8 := aM hB
 have HM8 := aM (show ∀ row, ReadsI (w8.setRow g row) ⟨u0, u1, u2, u3, u4⟩ M3 m3 M4 m4 from hM)
 have HA8 := aM hA
 have HN8 := aM hN
 clear hS hB hM hA hN
 refine norm_ (a' := ?_) ?_ ?_
 rotate_left
 ·simp only [putAll, Act.put, sA, sB, sC]
  rfl
 refine last_ (i := 9) (N := none) #[true, true, true, true, true, true, true, true, true, true, false] rfl rfl (by kernel_rfl) (by decide) (fun K hK => ?_)
 refine store_row_step rfl rfl 31 (.tmp 5) (.tmp 29) rfl g #[.int .i64 u0, .int .i64 u1, .string u2, .slice M3 u3.length m3, .slice M4 u4.length m4] rfl rfl 31 _ HA8.out ival_size rfl (val_one _ _ _ _ _ _ _ _ _) ?_
 refine hK.out _ _ ?_
 clear hK K
 refine pure_ (i := 10) (N := some 6) (v := ?_) (a' := ?_) #[true, true, true, true, true, true, true, true, true, true, true] rfl rfl (by kernel_rfl) (fun _ _ _ h => h) (Or.inl ⟨by rfl, ?_⟩) ?_ ?_
 rotate_left
 ·intro w'; go_simp; with_reducible rfl
 rotate_left
 ·simp only [Act.put, sA, sB, sC, i64_w, i32_w]; rfl
 refine done_ (by kernel_rfl) ?_
 go_wp2
 have hB2 := pw_below_grown HB8.out (some g) HB8.out.size (grown_setRow w8 g #[.int .i64 u0, .int .i64 u1, .string u2, .slice M3 u3.length m3, .slice M4 u4.length m4]) (fun k hk => by injection hk with hk; have := HN8.out; omega)
 have HS2 := aM (hb_then HB7.out hB2)
 have HRY2 := aM (HRY.out.below hB2)
 have HPR2 := aM (HPR.out.below hB2)
 have HMR2 := aM (HM8.out #[.int .i64 u0, .int .i64 u1, .string u2, .slice M3 u3.length m3, .slice M4 u4.length m4])
 have HX2 := aM (cell_row5 ((hB2.block _ (cb_lt HX7.out)).trans HX7.out))
 have HP2 := aM (cell_row5 ((hB2.block _ (cb_lt HP7.out)).trans HP7.out))
 have HQ2 := aM (cell_row5 (setRow_heap w8 g _ #[.int .i64 u0, .int .i64 u1, .string u2, .slice M3 u3.length m3, .slice M4 u4.length m4] _ _ HA8.out))
 clear hB2 y0 y1 y2 y3 y4 HB7 HRY HPR HX7 HP7 HA8 HN8 HM8 HB8
 try clear hHeld
 generalize hW2 : w8.setRow g #[.int .i64 u0, .int .i64 u1, .string u2, .slice M3 u3.length m3, .slice M4 u4.length m4] = W2 at HS2 HRY2 HPR2 HMR2 HX2 HP2 HQ2 ⊢
 obtain ⟨x0, x1, x2, x3, x4⟩ := HP2.out
 obtain ⟨x5, x6, x7, x8, x9⟩ := HX2.out
 obtain ⟨x10, x11, x12, x13, x14⟩ := HQ2.out
 clear HX2 HP2 HQ2 hW2
 refine start_ (n := 17) (S := fun w' => w'.cell? ⟨w7.heap.size, 0, none⟩ = some (.int .i64 u0) ∧ w'.cell? ⟨w7.heap.size, 1, none⟩ = some (.int .i64 u1) ∧ w'.cell? ⟨w7.heap.size, 2, none⟩ = some (.string u2) ∧ w'.cell? ⟨w7.heap.size, 3, none⟩ = some (.slice P3 u3.length p3) ∧ w'.cell? ⟨w7.heap.size, 4, none⟩ = some (.slice P4 u4.length p4) ∧ w'.cell? ⟨w.heap.size, 0, none⟩ = some (.int .i64 y.f0) ∧ w'.cell? ⟨w.heap.size, 1, none⟩ = some (.int .i64 y.f1) ∧ w'.cell? ⟨w.heap.size, 2, none⟩ = some (.string y.f2) ∧ w'.cell? ⟨w.heap.size, 3, none⟩ = some (.slice E3 y.f3.length f3) ∧ w'.cell? ⟨w.heap.size, 4, none⟩ = some (.slice E4 y.f4.length f4) ∧ w'.cell? ⟨g, 0, none⟩ = some (.int .i64 u0) ∧ w'.cell? ⟨g, 1, none⟩ = some (.int .i64 u1) ∧ w'.cell? ⟨g, 2, none⟩ = some (.string u2) ∧ w'.cell? ⟨g, 3, none⟩ = some (.slice M3 u3.length m3) ∧ w'.cell? ⟨g, 4, none⟩ = some (.slice M4 u4.length m4)) (ds := []) #[false, false, false, false, false, false, false, false, false, false, false, false, false, false, false, false, false] (by kernel_rfl) rfl rfl ⟨x0, x1, x2, x3, x4, x5, x6, x7, x8, x9, x10, x11, x12, x13, x14⟩ (fun hHeld => ?_)
 refine pure_ (i := 0) (N := some 31) (v := ?_) (a' := ?_) #[true, false, false, false, false, false, false, false, false, false, false, false, false, false, false, false, false] rfl rfl (by kernel_rfl) (fun _ _ _ h => h) (Or.inl ⟨by rfl, ?_⟩) ?_ ?_
 rotate_left
 ·intro w'; go_simp; with_reducible rfl
 rotate_left
 ·simp only [Act.put, sA, sB, sC, i64_w, i32_w]; rfl
 refine pure_ (i := 1) (N := some 32) (v := ?_) (a' := ?_) #[true, true, false, false, false, false, false, false, false, false, false, false, false, false, false, false, false] rfl rfl (by kernel_rfl) (fun _ _ _ h => h) (Or.inl ⟨by rfl, ?_⟩) ?_ ?_
 rotate_left
 ·intro w'; go_simp; with_reducible rfl
 rotate_left
 ·simp only [Act.put, sA, sB, sC, i64_w, i32_w]; rfl
 refine pure_ (i := 2) (N := some 33) (v := ?_) (a' := ?_) #[true, true, true, false, false, false, false, false, false, false, false, false, false, false, false, false, false] rfl rfl (by kernel_rfl) (fun _ _ _ h => h) (Or.inl ⟨by rfl, ?_⟩) ?_ ?_
 rotate_left
 ·intro w'; go_simp; with_reducible rfl
 rotate_left
 ·simp only [Act.put, sA, sB, sC, i64_w, i32_w]; rfl
 refine pure_ (i := 3) (N := some 34) (v := ?_) (a' := ?_) #[true, true, true, true, false, false, false, false, false, false, false, false, false, false, false, false, false] rfl rfl (by kernel_rfl) (fun _ _ _ h => h) (Or.inl ⟨by rfl, ?_⟩) ?_ ?_
 rotate_left
 ·intro w'; go_simp; with_reducible rfl
 rotate_left
 ·simp only [Act.put, sA, sB, sC, i64_w, i32_w]; rfl
 refine pure_ (i := 4) (N := some 35) (v := ?_) (a' := ?_) #[true, true, true, true, true, false, false, false, false, false, false, false, false, false, false, false, false] rfl rfl (by kernel_rfl) (fun _ _ _ h => h) (Or.inl ⟨by rfl, ?_⟩) ?_ ?_
 rotate_left
 ·intro w'; go_simp; with_reducible rfl
 rotate_left
 ·simp only [Act.put, sA, sB, sC, i64_w, i32_w]; rfl
 refine take_ (i := 5) (N := some 36) (v := ?_) (a' := ?_) #[true, true, true, true, true, true, false, false, false, false, false, false, false, false, false, false, false] rfl rfl (by kernel_rfl) (fun _ _ _ h => h) (Or.inl ⟨by rfl, ?_⟩) hHeld ?_ ?_
 rotate_left
 ·rintro w' ⟨s0, s1, s2, s3, s4, s5, s6, s7, s8, s9, s10, s11, s12, s13, s14⟩
  go_simp; with_reducible rfl
 rotate_left
 ·simp only [Act.put, sA, sB, sC, i64_w, i32_w]; rfl
 refine take_ (i := 7) (N := some 38) (v := ?_) (a' := ?_) #[true, true, true, true, true, true, false, true, false, false, false, false, false, false, false, false, false] rfl rfl (by kernel_rfl) (fun _ _ _ h => h) (Or.inl ⟨by rfl, ?_⟩) hHeld ?_ ?_
 rotate_left
 ·rintro w' ⟨s0, s1, s2, s3, s4, s5, s6, s7, s8, s9, s10, s11, s12, s13, s14⟩
  go_simp; with_reducible rfl
 rotate_left
 ·simp only [Act.put, sA, sB, sC, i64_w, i32_w]; rfl
 refine one_ (i := 6) (N := some 37) #[true, true, true, true, true, true, true, true, false, false, false, false, false, false, false, false, false] rfl rfl (by kernel_rfl) (by decide) (fun K hK => ?_)
 refine goes_ Tryz.func12 (by kernel_rfl) rfl #[.agg #[.int .i64 u0, .int .i64 u1, .string u2, .slice P3 u3.length p3, .slice P4 u4.length p4]] (by rfl) rfl rfl (by simp only [List.map_toArray, List.map_cons, List.map_nil]; rfl) ?_
 with_reducible refine (from_calls ⟨u0, u1, u2, u3, u4⟩ y HFR.out HUS.out P3 P4 p3 p4 W2.drew (HPR2.out.below (below_drew (Below.refl W2.heap.size W2))).l3 (HPR2.out.below (below_drew (Below.refl W2.heap.size W2))).hk (HPR2.out.below (below_drew (Below.refl W2.heap.size W2))).l4 (HPR2.out.below (below_drew (Below.refl W2.heap.size W2))).hv).mono ?_
 rintro e v1 ⟨F3, F5, F4, F6, rfl, f3_, g3_, f4_, g4_, hb1⟩
 refine ⟨_, rfl, ?_⟩
 have F_ := aM (And.intro f3_ (And.intro g3_ (And.intro f4_ g4_)))
 have HC1 := aM (hb_then (below_drew (Below.refl W2.heap.size W2)) hb1)
 clear f3_ g3_ f4_ g4_
 refine hK.out _ _ ⟨pw_cell_below hb1 hHeld.1, pw_cell_below hb1 hHeld.2.1, pw_cell_below hb1 hHeld.2.2.1, pw_cell_below hb1 hHeld.2.2.2.1, pw_cell_below hb1 hHeld.2.2.2.2.1, pw_cell_below hb1 hHeld.2.2.2.2.2.1, pw_cell_below hb1 hHeld.2.2.2.2.2.2.1, pw_cell_below hb1 hHeld.2.2.2.2.2.2.2.1, pw_cell_below hb1 hHeld.2.2.2.2.2.2.2.2.1, pw_cell_below hb1 hHeld.2.2.2.2.2.2.2.2.2.1, pw_cell_below hb1 hHeld.2.2.2.2.2.2.2.2.2.2.1, pw_cell_below hb1 hHeld.2.2.2.2.2.2.2.2.2.2.2.1, pw_cell_below hb1 hHeld.2.2.2.2.2.2.2.2.2.2.2.2.1, pw_cell_below hb1 hHeld.2.2.2.2.2.2.2.2.2.2.2.2.2.1, pw_cell_below hb1 hHeld.2.2.2.2.2.2.2.2.2.2.2.2.2.2⟩ (fun hHeld => ?_)
 clear hK K
 refine norm_ (a' := ?_) ?_ ?_
 rotate_left
 ·show Act.put _ (some 37) _ = _
  simp only [Act.put, sA, sB, sC, i64_w, i32_w]; rfl
 refine one_ (i := 8) (N := some 39) #[true, true, true, true, true, true, true, true, true, false, false, false, false, false, false, false, false] rfl rfl (by kernel_rfl) (by decide) (fun K hK => ?_)
 refine goes_ Tryz.func11 (by kernel_rfl) rfl #[.agg #[.int .i64 y.f0, .int .i64 y.f1, .string y.f2, .slice F3 y.f3.length F5, .slice F4 y.f4.length F6], .agg #[.int .i64 y.f0, .int .i64 y.f1, .string y.f2, .slice E3 y.f3.length f3, .slice E4 y.f4.length f4]] (by rfl) rfl rfl (by simp only [List.map_toArray, List.map_cons, List.map_nil]; rfl) ?_
 with_reducible refine (same_calls y HYS.out.short F3 F4 F5 F6 E3 E4 f3 f4 v1 F_.out.1 F_.out.2.1 F_.out.2.2.1 F_.out.2.2.2 (HRY2.out.below HC1.out).l3 (HRY2.out.below HC1.out).hk (HRY2.out.below HC1.out).l4 (HRY2.out.below HC1.out).hv).mono ?_
 rintro e v2 ⟨rfl, hb2⟩
 refine ⟨_, rfl, ?_⟩
 have HC2 := aM (hb_then HC1.out hb2)
 refine hK.out _ _ ⟨pw_cell_below hb2 hHeld.1, pw_cell_below hb2 hHeld.2.1, pw_cell_below hb2 hHeld.2.2.1, pw_cell_below hb2 hHeld.2.2.2.1, pw_cell_below hb2 hHeld.2.2.2.2.1, pw_cell_below hb2 hHeld.2.2.2.2.2.1, pw_cell_below hb2 hHeld.2.2.2.2.2.2.1, pw_cell_below hb2 hHeld.2.2.2.2.2.2.2.1, pw_cell_below hb2 hHeld.2.2.2.2.2.2.2.2.1, pw_cell_below hb2 hHeld.2.2.2.2.2.2.2.2.2.1, pw_cell_below hb2 hHeld.2.2.2.2.2.2.2.2.2.2.1, pw_cell_below hb2 hHeld.2.2.2.2.2.2.2.2.2.2.2.1, pw_cell_below hb2 hHeld.2.2.2.2.2.2.2.2.2.2.2.2.1, pw_cell_below hb2 hHeld.2.2.2.2.2.2.2.2.2.2.2.2.2.1, pw_cell_below hb2 hHeld.2.2.2.2.2.2.2.2.2.2.2.2.2.2⟩ (fun hHeld => ?_)
 clear hK K
 refine norm_ (a' := ?_) ?_ ?_
 rotate_left
 ·show Act.put _ (some 39) _ = _
  simp only [Act.put, sA, sB, sC, i64_w, i32_w]; rfl
 refine pure_ (i := 9) (N := some 40) (v := ?_) (a' := ?_) #[true, true, true, true, true, true, true, true, true, true, false, false, false, false, false, false, false] rfl rfl (by kernel_rfl) (fun _ _ _ h => h) (Or.inl ⟨by rfl, ?_⟩) ?_ ?_
 rotate_left
 ·intro w'; go_simp; with_reducible rfl
 rotate_left
 ·simp only [Act.put, sA, sB, sC, i64_w, i32_w]; rfl
 refine pure_ (i := 10) (N := some 41) (v := ?_) (a' := ?_) #[true, true, true, true, true, true, true, true, true, true, true, false, false, false, false, false, false] rfl rfl (by kernel_rfl) (fun _ _ _ h => h) (Or.inl ⟨by rfl, ?_⟩) ?_ ?_
 rotate_left
 ·intro w'; go_simp; with_reducible rfl
 rotate_left
 ·simp only [Act.put, sA, sB, sC, i64_w, i32_w]; rfl
 refine take_ (i := 11) (N := some 42) (v := ?_) (a' := ?_) #[true, true, true, true, true, true, true, true, true, true, true, true, false, false, false, false, false] rfl rfl (by kernel_rfl) (fun _ _ _ h => h) (Or.inl ⟨by rfl, ?_⟩) hHeld ?_ ?_
 rotate_left
 ·rintro w' ⟨s0, s1, s2, s3, s4, s5, s6, s7, s8, s9, s10, s11, s12, s13, s14⟩
  go_simp; with_reducible rfl
 rotate_left
 ·simp only [Act.put, sA, sB, sC, i64_w, i32_w]; rfl
 refine take_ (i := 13) (N := some 44) (v := ?_) (a' := ?_) #[true, true, true, true, true, true, true, true, true, true, true, true, false, true, false, false, false] rfl rfl (by kernel_rfl) (fun _ _ _ h => h) (Or.inl ⟨by rfl, ?_⟩) hHeld ?_ ?_
 rotate_left
 ·rintro w' ⟨s0, s1, s2, s3, s4, s5, s6, s7, s8, s9, s10, s11, s12, s13, s14⟩
  go_simp; with_reducible rfl
 rotate_left
 ·simp only [Act.put, sA, sB, sC, i64_w, i32_w]; rfl
 refine one_ (i := 12) (N := some 43) #[true, true, true, true, true, true, true, true, true, true, true, true, true, true, false, false, false] rfl rfl (by kernel_rfl) (by decide) (fun K hK => ?_)
 refine goes_ Tryz.func12 (by kernel_rfl) rfl #[.agg #[.int .i64 u0, .int .i64 u1, .string u2, .slice M3 u3.length m3, .slice M4 u4.length m4]] (by rfl) rfl rfl (by simp only [List.map_toArray, List.map_cons, List.map_nil]; rfl) ?_
 with_reducible refine (from_calls ⟨u0, u1, u2, u3, u4⟩ y HFR.out HUS.out M3 M4 m3 m4 v2 (HMR2.out.below HC2.out).l3 (HMR2.out.below HC2.out).hk (HMR2.out.below HC2.out).l4 (HMR2.out.below HC2.out).hv).mono ?_
 rintro e v3 ⟨G3, G5, G4, G6, rfl, f3_, g3_, f4_, g4_, hb3⟩
 refine ⟨_, rfl, ?_⟩
 have G_ := aM (And.intro f3_ (And.intro g3_ (And.intro f4_ g4_)))
 have HC3 := aM (hb_then HC2.out hb3)
 clear f3_ g3_ f4_ g4_
 refine hK.out _ _ ⟨pw_cell_below hb3 hHeld.1, pw_cell_below hb3 hHeld.2.1, pw_cell_below hb3 hHeld.2.2.1, pw_cell_below hb3 hHeld.2.2.2.1, pw_cell_below hb3 hHeld.2.2.2.2.1, pw_cell_below hb3 hHeld.2.2.2.2.2.1, pw_cell_below hb3 hHeld.2.2.2.2.2.2.1, pw_cell_below hb3 hHeld.2.2.2.2.2.2.2.1, pw_cell_below hb3 hHeld.2.2.2.2.2.2.2.2.1, pw_cell_below hb3 hHeld.2.2.2.2.2.2.2.2.2.1, pw_cell_below hb3 hHeld.2.2.2.2.2.2.2.2.2.2.1, pw_cell_below hb3 hHeld.2.2.2.2.2.2.2.2.2.2.2.1, pw_cell_below hb3 hHeld.2.2.2.2.2.2.2.2.2.2.2.2.1, pw_cell_below hb3 hHeld.2.2.2.2.2.2.2.2.2.2.2.2.2.1, pw_cell_below hb3 hHeld.2.2.2.2.2.2.2.2.2.2.2.2.2.2⟩ (fun hHeld => ?_)
 clear hK K
 refine norm_ (a' := ?_) ?_ ?_
 rotate_left
 ·show Act.put _ (some 43) _ = _
  simp only [Act.put, sA, sB, sC, i64_w, i32_w]; rfl
 refine one_ (i := 14) (N := some 45) #[true, true, true, true, true, true, true, true, true, true, true, true, true, true, true, false, false] rfl rfl (by kernel_rfl) (by decide) (fun K hK => ?_)
 refine goes_ Tryz.func11 (by kernel_rfl) rfl #[.agg #[.int .i64 y.f0, .int .i64 y.f1, .string y.f2, .slice G3 y.f3.length G5, .slice G4 y.f4.length G6], .agg #[.int .i64 y.f0, .int .i64 y.f1, .string y.f2, .slice E3 y.f3.length f3, .slice E4 y.f4.length f4]] (by rfl) rfl rfl (by simp only [List.map_toArray, List.map_cons, List.map_nil]; rfl) ?_
 with_reducible refine (same_calls y HYS.out.short G3 G4 G5 G6 E3 E4 f3 f4 v3 G_.out.1 G_.out.2.1 G_.out.2.2.1 G_.out.2.2.2 (HRY2.out.below HC3.out).l3 (HRY2.out.below HC3.out).hk (HRY2.out.below HC3.out).l4 (HRY2.out.below HC3.out).hv).mono ?_
 rintro e v4 ⟨rfl, hb4⟩
 refine ⟨_, rfl, ?_⟩
 have HC4 := aM (hb_then HC3.out hb4)
 refine hK.out _ _ ⟨pw_cell_below hb4 hHeld.1, pw_cell_below hb4 hHeld.2.1, pw_cell_below hb4 hHeld.2.2.1, pw_cell_below hb4 hHeld.2.2.2.1, pw_cell_below hb4 hHeld.2.2.2.2.1, pw_cell_below hb4 hHeld.2.2.2.2.2.1, pw_cell_below hb4 hHeld.2.2.2.2.2.2.1, pw_cell_below hb4 hHeld.2.2.2.2.2.2.2.1, pw_cell_below hb4 hHeld.2.2.2.2.2.2.2.2.1, pw_cell_below hb4 hHeld.2.2.2.2.2.2.2.2.2.1, pw_cell_below hb4 hHeld.2.2.2.2.2.2.2.2.2.2.1, pw_cell_below hb4 hHeld.2.2.2.2.2.2.2.2.2.2.2.1, pw_cell_below hb4 hHeld.2.2.2.2.2.2.2.2.2.2.2.2.1, pw_cell_below hb4 hHeld.2.2.2.2.2.2.2.2.2.2.2.2.2.1, pw_cell_below hb4 hHeld.2.2.2.2.2.2.2.2.2.2.2.2.2.2⟩ (fun hHeld => ?_)
 clear hK K
 refine norm_ (a' := ?_) ?_ ?_
 rotate_left
 ·show Act.put _ (some 45) _ = _
  simp only [Act.put, sA, sB, sC, i64_w, i32_w]; rfl
 refine pure_ (i := 15) (N := some 46) (v := ?_) (a' := ?_) #[true, true, true, true, true, true, true, true, true, true, true, true, true, true, true, true, false] rfl rfl (by kernel_rfl) (fun _ _ _ h => h) (Or.inl ⟨by rfl, ?_⟩) ?_ ?_
 rotate_left
 ·intro w'; go_simp; with_reducible rfl
 rotate_left
 ·simp only [Act.put, sA, sB, sC, i64_w, i32_w]; rfl
 refine pure_ (i := 16) (N := some 2) (v := ?_) (a' := ?_) #[true, true, true, true, true, true, true, true, true, true, true, true, true, true, true, true, true] rfl rfl (by kernel_rfl) (fun _ _ _ h => h) (Or.inl ⟨by rfl, ?_⟩) ?_ ?_
 rotate_left
 ·intro w'; go_simp; with_reducible rfl
 rotate_left
 ·simp only [Act.put, sA, sB, sC, i64_w, i32_w]; rfl
 refine done_ (by kernel_rfl) ?_
 go_wp2
 go_ret
 exact ⟨rfl, hb_then HS2.out HC4.out⟩
theorem lawNothingRow (x : VS) (A3 A4 : Option Addr) (c3 c4 : Nat) (w : World) (h3 : x.f3.length ≤ c3) (hk : Kd.string.C w A3 x.f3.length x.f3) (h4 : x.f4.length ≤ c4) (hv : kS.C w A4 x.f4.length x.f4) (hx : SmallS x) (hT : True) :
  Calls Tryz.prog 4 #[.agg #[.int .i64 x.f0, .int .i64 x.f1, .string x.f2, .slice A3 x.f3.length c3, .slice A4 x.f4.length c4]] w fun e w' => e = .returned (.bool true) ∧ Below w.heap.size w w' := lawNothing x hx A3 A4 c3 c4 w ⟨h3, hk, h4, hv⟩
end Go.Proofs.YtgdmdflbcbibjaaGreatDoor.Tr
namespace Go.Proofs.YtgdmdflbcbibjaaGreatDoor.RowKit
open Go.RowKit Go.ChangeShapes Go.WideShapes Go.ChangeAt Go.Proofs.YtgdmdflbcbibjaaGreatDoorW.PrintWords Go.Proofs.YtgdmdflbcbibjaaGreatDoor.Str Go.Proofs.YtgdmdflbcbibjaaGreatDoor.Kit
set_option linter.unusedVariables false
set_option linter.unusedSimpArgs false
theorem strs_arg {H : Type} {enc : TypeId × Value → H} {P : Program} {W : World} {base : Nat} {spare : Nat → Bool} {held : Bool} {t e : TypeId} {a : Option Addr} {len cap : Nat} {d : DataW H} {ps : List MemPlace}
  (ht : P.underlying t = some (.slice e)) (he : P.underlying e = some .string) (hc : P.cellsOf e = 1) (h : DataW.Trod enc P W base spare held t (.slice a len cap) d ps) :
  ∃ xs : List ByteArray, xs.length = len ∧ len ≤ cap ∧ Kd.string.C W a xs.length xs ∧ ((d = .nil ∧ xs = []) ∨ ∃ rest, d = .slice (strs xs) rest) := by
 obtain ⟨fuel, hf⟩ := h
 rcases open_strings ht he hc hf with ⟨hcs, hx⟩ | ⟨ad, l, c, ss, hcs, _, hl, hm, hss, hx, hcell, hws⟩
 ·simp [Value.cells] at hcs
  obtain ⟨rfl, rfl, rfl⟩ := hcs
  simp only [Prod.mk.injEq] at hx
  exact ⟨[], rfl, by omega, ⟨rfl, by simp, fun h => absurd h (by simp)⟩, .inl ⟨hx.1, rfl⟩⟩
 ·simp [Value.cells] at hcs
  obtain ⟨rfl, rfl, rfl⟩ := hcs
  simp only [Prod.mk.injEq] at hx
  have hlen : len ≤ ss.length := by rw [hss]; split <;> omega
  have hl2 : (ss.take len).length = len := by rw [List.length_take]; omega
  refine ⟨ss.take len, hl2, hl, ⟨rfl, by unfold maxLen at hm; omega, fun _ => ⟨ad, rfl, fun j p hp => ?_⟩⟩, .inr ⟨_, hx.1⟩⟩
  obtain ⟨hj, rfl⟩ := List.getElem?_eq_some_iff.1 hp
  refine ⟨[.string (ss.take len)[j]], rfl, rfl, fun i u hu => ?_⟩
  have hi : i < 1 := (List.getElem?_eq_some_iff.1 hu).1
  obtain rfl : i = 0 := by omega
  have hu' : Value.string (ss.take len)[j] = u := by simpa using hu
  subst hu'
  have : j * Kd.string.sz + 0 = j := by simp [Kd.string, Kd.scalar]
  rw [this, hcell j (by rw [hl2] at hj; omega)]
  rw [hl2] at hj
  simp [List.getD_eq_getElem?_getD, List.getElem?_eq_getElem (show j < ss.length by omega)]
end Go.Proofs.YtgdmdflbcbibjaaGreatDoor.RowKit
namespace Go.Proofs.YtgdmdflbcbibjaaGreatDoor.DTabsFnMergeNothing
set_option linter.unusedVariables false
open Go.RowKit Go.Lib
theorem any {W : World} (hL : laidMet Tryz.prog Rows.fnMergeNothingRow.laid W) : True := trivial
end Go.Proofs.YtgdmdflbcbibjaaGreatDoor.DTabsFnMergeNothing
namespace Go.Proofs.YtgdmdflbcbibjaaGreatDoor.RowKit
open Go.RowKit Go.ChangeShapes Go.WideShapes Go.ChangeAt Go.Proofs.YtgdmdflbcbibjaaGreatDoorW.PrintWords Go.Proofs.YtgdmdflbcbibjaaGreatDoorW.PrintLast Go.Proofs.YtgdmdflbcbibjaaGreatDoor.Str Go.Proofs.YtgdmdflbcbibjaaGreatDoor.Kit Go.Proofs.YtgdmdflbcbibjaaGreatDoor.PS Go.Proofs.YtgdmdflbcbibjaaGreatDoor.Tr
set_option linter.unusedVariables false
set_option linter.unusedSimpArgs false
theorem addr_add (a : Addr) (i j : Nat) : (a.add i).add j = a.add (i + j) := by
 unfold Addr.add
 by_cases h : i = 0
 ·subst h; simp
 ·by_cases k : j = 0
  ·subst k; simp
  ·simp [h, k, Nat.add_assoc]
theorem agg_of {v : Value} {l : List Value} (h : v.cells.toList = l) (hl : 2 ≤ l.length) : v = .agg l.toArray := by
 cases v with
 | agg cs =>
  have : cs.toList = l := by simpa [Value.cells] using h
  rw [← this]
 | _ =>
  exfalso
  have := congrArg List.length h
  simp [Value.cells] at this
  omega
theorem weightsAll_in {H : Type} {P : Program} {e : TypeId} : ∀ {l : List (DataW H)} {d : DataW H}, d ∈ l → ∀ n ∈ d.weights P e, n ∈ DataW.weightsAll P e l
 | [], _, h, _, _ => by cases h
 | x :: r, d, h, n, hn => by
  simp only [DataW.weightsAll, List.mem_append]
  rcases List.mem_cons.1 h with rfl | h
  ·exact .inl hn
  ·exact .inr (weightsAll_in h n hn)
theorem row_of {α : Type} {R : Nat → α → Prop} : ∀ (len : Nat), (∀ i, i < len → ∃ p, R i p) → ∃ xs : List α, xs.length = len ∧ ∀ (i : Nat) (hi : i < xs.length), R i xs[i]
 | 0, _ => ⟨[], rfl, fun i hi => absurd hi (by simp)⟩
 | m + 1, each => by
  obtain ⟨xs, hx, hg⟩ := row_of m (fun i hi => each i (by omega))
  obtain ⟨p, hp⟩ := each m (by omega)
  refine ⟨xs ++ [p], by simp [hx], fun i hi => ?_⟩
  by_cases h : i < xs.length
  ·rw [List.getElem_append_left h]; exact hg i h
  ·have : i = m := by simp at hi; omega
   subst this
   subst hx
   simpa using hp
theorem list5 {α : Type} {cs : List α} (h : cs.length = 5) : ∃ a b c d e, cs = [a, b, c, d, e] := by
 match cs, h with
 | [a, b, c, d, e], _ => exact ⟨a, b, c, d, e, rfl⟩
section
variable {H : Type} {enc : TypeId × Value → H} {W : World} {base : Nat} {spare : Nat → Bool} {held : Bool}
theorem strs_small {d : DataW H} {ps : List MemPlace} {fuel : Nat} {v : Value} (hf : DataW.trod enc Tryz.prog W base spare held fuel 22 [v] = some (d, ps)) (hw : ∀ n ∈ d.weights Tryz.prog 22, n ≤ reachBytes) :
  ∃ A c xs, v = .slice A xs.length c ∧ xs.length ≤ c ∧ Kd.string.C W A xs.length xs ∧ (∀ s, s ∈ xs → s.size ≤ maxLen) ∧ xs.length ≤ 8796093022000 := by
 rcases DataW.trod_slice Tryz.underlying22 hf with ⟨hcs, hx⟩ | ⟨ad, l, c, elems, rest, n, _, hcs, hx, _, hl, hm, hlen, _, _, _⟩
 ·have hv : v = .slice none 0 0 := by simpa using hcs
  subst hv
  exact ⟨none, 0, [], rfl, Nat.le_refl _, ⟨rfl, by simp, fun h => absurd h (by simp)⟩, (fun s h => absurd h (by simp)), by simp⟩
 ·have hv : v = .slice (some ad) l c := by simpa using hcs
  subst hv
  have hT : DataW.Trod enc Tryz.prog W base spare held 22 (.slice (some ad) l c) d ps := ⟨fuel, by simpa [Value.cells] using hf⟩
  obtain ⟨xs, hxl, hle, hC, hd⟩ := strs_arg Tryz.underlying22 Tryz.underlying9 (by kernel_rfl) hT
  subst hxl
  refine ⟨some ad, c, xs, rfl, hle, hC, fun s hs => ?_, ?_⟩
  ·rcases hd with ⟨_, rfl⟩ | ⟨rest, rfl⟩
   ·cases hs
   ·have h1 := hw s.data.toList.length (by
     simp only [DataW.weights, Tryz.underlying22, List.mem_cons, List.mem_append]
     refine .inr (.inl (weightsAll_in (d := .lit (.string s.data.toList)) ?_ _ (by simp only [DataW.weights, List.mem_singleton])))
     unfold strs
     exact List.mem_map.2 ⟨s, hs, rfl⟩)
    have h2 : s.data.toList.length = s.size := by rw [Array.length_toList]; rfl
    unfold reachBytes at h1
    unfold maxLen
    omega
  ·rcases hd with ⟨_, rfl⟩ | ⟨rest, rfl⟩
   ·simp
   ·have h1 := hw _ (by
     simp only [DataW.weights, Tryz.underlying22, List.mem_cons]
     exact .inl rfl)
    have hb : Tryz.prog.bytesOf 9 = 16 := by kernel_rfl
    have h3 : (strs xs : List (DataW H)).length = xs.length := by simp [strs]
    rw [hb, h3] at h1
    unfold reachBytes at h1
    omega
theorem val_trod : ∀ (fuel : Nat) (cs : List Value) (d : DataW H) (ps : List MemPlace), DataW.trod enc Tryz.prog W base spare held fuel 25 cs = some (d, ps) → (∀ n ∈ d.weights Tryz.prog 25, n ≤ reachBytes) →
  ∃ x : VS, kS.K W x cs ∧ SmallS x := by
 intro fuel
 induction fuel using Nat.strongRecOn with
 | _ fuel ih =>
  intro cs d ps h hw
  obtain ⟨xs, n, hfu, hx, hl, hxl, hf⟩ := DataW.trod_struct Tryz.underlying25 h
  have hc5 : Tryz.prog.cellsOf 25 = 5 := by kernel_rfl
  rw [hc5] at hl
  obtain ⟨v0, v1, v2, v3, v4, rfl⟩ := list5 hl
  simp only [Prod.mk.injEq] at hx
  obtain ⟨rfl, _⟩ := hx
  have hxl5 : xs.length = 5 := hxl
  obtain ⟨y0, y1, y2, y3, y4, rfl⟩ := list5 hxl5
  have c1 : Tryz.prog.cellsOf 3 = 1 := by kernel_rfl
  have c2 : Tryz.prog.cellsOf 9 = 1 := by kernel_rfl
  have c3 : Tryz.prog.cellsOf 22 = 1 := by kernel_rfl
  have c4 : Tryz.prog.cellsOf 23 = 1 := by kernel_rfl
  have f0 : DataW.trod enc Tryz.prog W base spare held n 3 [v0] = some y0 := by
   have h_ : DataW.trod enc Tryz.prog W base spare held n 3 (([v0, v1, v2, v3, v4].drop 0).take (Tryz.prog.cellsOf 3)) = some y0 := hf 0 _ rfl
   rw [c1] at h_
   exact h_
  have f1 : DataW.trod enc Tryz.prog W base spare held n 3 [v1] = some y1 := by
   have h_ : DataW.trod enc Tryz.prog W base spare held n 3 (([v0, v1, v2, v3, v4].drop 1).take (Tryz.prog.cellsOf 3)) = some y1 := hf 1 _ rfl
   rw [c1] at h_
   exact h_
  have f2 : DataW.trod enc Tryz.prog W base spare held n 9 [v2] = some y2 := by
   have h_ : DataW.trod enc Tryz.prog W base spare held n 9 (([v0, v1, v2, v3, v4].drop 2).take (Tryz.prog.cellsOf 9)) = some y2 := hf 2 _ rfl
   rw [c2] at h_
   exact h_
  have f3 : DataW.trod enc Tryz.prog W base spare held n 22 [v3] = some y3 := by
   have h_ : DataW.trod enc Tryz.prog W base spare held n 22 (([v0, v1, v2, v3, v4].drop 3).take (Tryz.prog.cellsOf 22)) = some y3 := hf 3 _ rfl
   rw [c3] at h_
   exact h_
  have f4 : DataW.trod enc Tryz.prog W base spare held n 23 [v4] = some y4 := by
   have h_ : DataW.trod enc Tryz.prog W base spare held n 23 (([v0, v1, v2, v3, v4].drop 4).take (Tryz.prog.cellsOf 23)) = some y4 := hf 4 _ rfl
   rw [c4] at h_
   exact h_
  have hwE : ∀ (j : Nat) (t : TypeId) (e : DataW H), [3, 3, 9, 22, 23][j]? = some t → [y0.1, y1.1, y2.1, y3.1, y4.1][j]? = some e → ∀ m ∈ e.weights Tryz.prog t, m ≤ reachBytes := by
   intro j t e ht he m hm
   refine hw m ?_
   simp only [DataW.weights, Tryz.underlying25]
   exact DataW.weights_mem_each (ts := [3, 3, 9, 22, 23]) ht he m hm
  obtain ⟨i0, e0, _, _⟩ := DataW.trod_int Tryz.underlying3 f0
  obtain ⟨i1, e1, _, _⟩ := DataW.trod_int Tryz.underlying3 f1
  obtain ⟨s2, e2, hx2, hs2⟩ := DataW.trod_string Tryz.underlying9 f2
  have e0' : v0 = .int .i64 i0 := by simpa using e0
  have e1' : v1 = .int .i64 i1 := by simpa using e1
  have e2' : v2 = .string s2 := by simpa using e2
  subst e0' e1' e2'
  have hsz2 : s2.size ≤ 140737488355328 := by
   have h1 := hwE 2 _ _ rfl rfl s2.data.toList.length (by
    rw [hx2]
    simp only [DataW.weights, List.mem_singleton])
   have h2 : s2.data.toList.length = s2.size := by rw [Array.length_toList]; rfl
   unfold reachBytes at h1
   omega
  obtain ⟨A3, cc3, ks, rfl, hk3, hC3, hks, hkl⟩ := strs_small (d := y3.1) (ps := y3.2) f3 (hwE 3 _ _ rfl rfl)
  have h4 : ∃ A4 cc4, ∃ vs : List VS, v4 = .slice A4 vs.length cc4 ∧ vs.length ≤ cc4 ∧ kS.C W A4 vs.length vs ∧ vs.length ≤ 1759218604400 ∧ ∀ v, v ∈ vs → SmallS v := by
   rcases DataW.trod_slice Tryz.underlying23 f4 with ⟨hcs, hx⟩ | ⟨ad, l, c, elems, rest, m, hfm, hcs, hx, _, hl4, hm4, hlen, hel, _, _⟩
   ·have hv : v4 = .slice none 0 0 := by simpa using hcs
    subst hv
    exact ⟨none, 0, [], rfl, Nat.le_refl _, ⟨rfl, by simp, fun h => absurd h (by simp)⟩, by simp, (fun v h => absurd h (by simp))⟩
   ·have hv : v4 = .slice (some ad) l c := by simpa using hcs
    subst hv
    have hw4 := hwE 4 _ _ rfl rfl
    rw [hx] at hw4
    simp only [DataW.weights, Tryz.underlying23, List.mem_cons, List.mem_append] at hw4
    have hb : Tryz.prog.bytesOf 25 = 80 := by kernel_rfl
    have hlb := hw4 _ (.inl rfl)
    rw [hb, List.length_map, List.length_map, hlen] at hlb
    have hlb2 : l ≤ 1759218604400 := by unfold reachBytes at hlb; omega
    have each : ∀ i, i < l → ∃ p : VS, (∃ c, c.length = 5 ∧ kS.K W p c ∧ ∀ j u, c[j]? = some u → W.cell? (ad.add (i * 5 + j)) = some u) ∧ SmallS p := by
     intro i hi
     have h2 := hel i hi
     rw [List.getElem?_eq_getElem (by omega), hc5, Option.bind_eq_some_iff] at h2
     obtain ⟨cs, h3, h4⟩ := h2
     obtain ⟨_, hcl, hcell⟩ := World.cells?_some h3
     obtain ⟨p, hp, hps⟩ := ih m (by omega) cs (elems[i]'(by omega)).1 (elems[i]'(by omega)).2 h4 (fun q hq => hw4 q (.inr (.inl (weightsAll_in (List.mem_map.2 ⟨_, List.getElem_mem (by omega), rfl⟩) q hq))))
     refine ⟨p, ⟨cs, hcl, hp, fun j u hu => ?_⟩, hps⟩
     have hj : j < 5 := by rw [← hcl]; exact (List.getElem?_eq_some_iff.1 hu).1
     rw [← addr_add, hcell j hj]
     exact hu
    obtain ⟨vs, hvl, hvs⟩ := row_of l each
    subst hvl
    refine ⟨some ad, c, vs, rfl, hl4, ⟨rfl, by unfold maxLen at hm4; omega, fun _ => ⟨ad, rfl, fun j p hp => ?_⟩⟩, hlb2, fun v hv => ?_⟩
    ·obtain ⟨hj, rfl⟩ := List.getElem?_eq_some_iff.1 hp
     exact (hvs j hj).1
    ·obtain ⟨i, hi, rfl⟩ := List.getElem_of_mem hv
     exact (hvs i hi).2
  obtain ⟨A4, cc4, vs, rfl, hv4, hC4, hvl, hvs⟩ := h4
  exact ⟨⟨i0, i1, s2, ks, vs⟩, k25_mk W ⟨i0, i1, s2, ks, vs⟩ hk3 hC3 hv4 hC4, .mk _ hsz2 hks hkl hvl hvs⟩
theorem val_arg {v : Value} {d : DataW H} {ps : List MemPlace} (h : DataW.Trod enc Tryz.prog W base spare held 25 v d ps) (hw : ∀ n ∈ d.weights Tryz.prog 25, n ≤ reachBytes) :
  ∃ (x : VS) (A3 A4 : Option Addr) (c3 c4 : Nat), v.cells.toList = [.int .i64 x.f0, .int .i64 x.f1, .string x.f2, .slice A3 x.f3.length c3, .slice A4 x.f4.length c4] ∧ x.f3.length ≤ c3 ∧ Kd.string.C W A3 x.f3.length x.f3 ∧ x.f4.length ≤ c4 ∧ kS.C W A4 x.f4.length x.f4 ∧ SmallS x := by
 obtain ⟨fuel, hf⟩ := h
 obtain ⟨x, hx, hs⟩ := val_trod fuel _ d ps hf hw
 obtain ⟨A3, c3, A4, c4, e, l3, g3, l4, g4⟩ := k25_open hx
 exact ⟨x, A3, A4, c3, c4, e, l3, g3, l4, g4, hs⟩
end
end Go.Proofs.YtgdmdflbcbibjaaGreatDoor.RowKit
