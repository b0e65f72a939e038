/- Parts of the proof, laid together: QSpecSame, PureSame, Gives, MergeNets, SpecMG, PartIsE, QSpecL, QSpecSayWord, QSpecPartWord, LawEnv, RowKit. -/
import Derived.Test.YtaembebbaejfiaaE3
import Derived.Test.YtaembebbaejfiaaE2
import Derived.Test.YtaembebbaejfiaaE7
import Derived.Test.YtaembebbaejfiaaE8
import Derived.Test.YtaembebbaejfiaaE4
import Derived.Test.YtaembebbaejfiaaE5
import Derived.Test.YtaembebbaejfiaaRows
import Derived.ProofKit
import Derived.OpenShut
import Derived.ShutString
import Derived.ChangeOld
import Derived.Below
import Derived.SizedLaws
import Derived.SliceStrings
namespace Go.Proofs.Ytaembebbaejfiaa.PS
open Go.RowKit Go.Proofs.YtaembebbaejfiaaW.PrintWords Go.Proofs.YtaembebbaejfiaaW.PrintLast Go.Proofs.YtaembebbaejfiaaW.PrintMore
attribute [local go_sem] max2_int min2_int max_two min_two max_three min_three max_four min_four 
set_option linter.unusedVariables false
set_option linter.unusedSimpArgs false
mutual
def spec_Same.j0 : Nat → Bool → Int → Int → ByteArray → List ByteArray → List (S25) → Int → Int → ByteArray → List ByteArray → List (S25) → Option (Bool)
 | 0, _, _, _, _, _, _, _, _, _, _, _ => none
 | k + 1, x43, x297000, x297001, x297002, x297003, x297004, x298000, x298001, x298002, x298003, x298004 => if x43 = true then (some false) else (spec_Same.l0 k 0 x297000 x297001 x297002 x297003 x297004 x298000 x298001 x298002 x298003 x298004)
def spec_Same.l0 : Nat → Int → Int → Int → ByteArray → List ByteArray → List (S25) → Int → Int → ByteArray → List ByteArray → List (S25) → Option (Bool)
 | 0, _, _, _, _, _, _, _, _, _, _, _ => none
 | k + 1, x5, x297000, x297001, x297002, x297003, x297004, x298000, x298001, x298002, x298003, x298004 => if x5 < (x297003.length : Int) then (if 0 ≤ x5 then (if x5 < (x298003.length : Int) then (if (rdOf ByteArray.empty x297003 x5).toList = (rdOf ByteArray.empty x298003 x5).toList then (spec_Same.l0 k (wrap64 (x5 + 1)) x297000 x297001 x297002 x297003 x297004 x298000 x298001 x298002 x298003 x298004) else (some false)) else (none)) else (none)) else (spec_Same.l1 k 0 x297000 x297001 x297002 x297003 x297004 x298000 x298001 x298002 x298003 x298004)
def spec_Same.l1 : Nat → Int → Int → Int → ByteArray → List ByteArray → List (S25) → Int → Int → ByteArray → List ByteArray → List (S25) → Option (Bool)
 | 0, _, _, _, _, _, _, _, _, _, _, _ => none
 | k + 1, x6, x297000, x297001, x297002, x297003, x297004, x298000, x298001, x298002, x298003, x298004 => if x6 < (x297004.length : Int) then (if 0 ≤ x6 then (if x6 < (x298004.length : Int) then ((spec_Same.f k ((rd_T25 x297004 x6).f0) ((rd_T25 x297004 x6).f1) ((rd_T25 x297004 x6).f2) ((rd_T25 x297004 x6).f3) ((rd_T25 x297004 x6).f4) ((rd_T25 x298004 x6).f0) ((rd_T25 x298004 x6).f1) ((rd_T25 x298004 x6).f2) ((rd_T25 x298004 x6).f3) ((rd_T25 x298004 x6).f4)).bind fun t302 => (if t302 = true then (spec_Same.l1 k (wrap64 (x6 + 1)) x297000 x297001 x297002 x297003 x297004 x298000 x298001 x298002 x298003 x298004) else (some false))) else (none)) else (none)) else (some true)
def spec_Same.f : Nat → Int → Int → ByteArray → List ByteArray → List (S25) → Int → Int → ByteArray → List ByteArray → List (S25) → Option (Bool)
 | 0, _, _, _, _, _, _, _, _, _, _ => none
 | k + 1, a0_0, a0_1, a0_2, l0_3, l0_4, a1_0, a1_1, a1_2, l1_3, l1_4 => if a0_0 = a1_0 then (if a0_1 = a1_1 then (if a0_2.toList = a1_2.toList then (if (l0_3.length : Int) = (l1_3.length : Int) then (spec_Same.j0 k ((l0_4.length : Int) != (l1_4.length : Int)) a0_0 a0_1 a0_2 l0_3 l0_4 a1_0 a1_1 a1_2 l1_3 l1_4) else (spec_Same.j0 k true a0_0 a0_1 a0_2 l0_3 l0_4 a1_0 a1_1 a1_2 l1_3 l1_4)) else (spec_Same.j0 k true a0_0 a0_1 a0_2 l0_3 l0_4 a1_0 a1_1 a1_2 l1_3 l1_4)) else (spec_Same.j0 k true a0_0 a0_1 a0_2 l0_3 l0_4 a1_0 a1_1 a1_2 l1_3 l1_4)) else (spec_Same.j0 k true a0_0 a0_1 a0_2 l0_3 l0_4 a1_0 a1_1 a1_2 l1_3 l1_4)
end
def spec_Same.T6 : Bool × List (List Nat × List Nat) := (true, [([], []), ([0], [0]), ([], []), ([1, 2], [1, 2]), ([3], [3]), ([], []), ([5], [5]), ([], []), ([6, 7], [6, 7]), ([8], [8]), ([4, 9], [4, 9])])
def spec_Same.B6 : List Nat := [0, 1, 0, 7, 15, 0, 32, 0, 224, 480, 1023]
theorem spec_Same.tab6 : rtab .any (opsOf Try.f18 6) = spec_Same.T6 := by kernel_rfl
theorem spec_Same.bits6 : waitsOk spec_Same.T6.2 spec_Same.B6 = true := by kernel_rfl
def spec_Same.T11 : Bool × List (List Nat × List Nat) := (true, [([], []), ([0], [0]), ([], []), ([1, 2], [1, 2]), ([3], [3]), ([], []), ([5], [5]), ([], []), ([6, 7], [6, 7]), ([8], [8]), ([4, 9], [4, 9]), ([10], [10])])
def spec_Same.B11 : List Nat := [0, 1, 0, 7, 15, 0, 32, 0, 224, 480, 1023, 2047]
theorem spec_Same.tab11 : rtab .any (opsOf Try.f18 11) = spec_Same.T11 := by kernel_rfl
theorem spec_Same.bits11 : waitsOk spec_Same.T11.2 spec_Same.B11 = true := by kernel_rfl
set_option maxHeartbeats 8000000 in
set_option maxRecDepth 100000 in
theorem spec_Same.calls (k : Nat) : ∀ (a0_0 : Int) (a0_1 : Int) (a0_2 : ByteArray) (A0_3 : Option Addr) (c0_3 : Nat) (l0_3 : List ByteArray) (A0_4 : Option Addr) (c0_4 : Nat) (l0_4 : List (S25)) (a1_0 : Int) (a1_1 : Int) (a1_2 : ByteArray) (A1_3 : Option Addr) (c1_3 : Nat) (l1_3 : List ByteArray) (A1_4 : Option Addr) (c1_4 : Nat) (l1_4 : List (S25)) (r : Bool) (w : World) (hr0_3 : Kd.C Kd.string w A0_3 l0_3.length l0_3) (hc0_3 : l0_3.length ≤ c0_3) (hr0_4 : Kd.C k25 w A0_4 l0_4.length l0_4) (hc0_4 : l0_4.length ≤ c0_4) (hr1_3 : Kd.C Kd.string w A1_3 l1_3.length l1_3) (hc1_3 : l1_3.length ≤ c1_3) (hr1_4 : Kd.C k25 w A1_4 l1_4.length l1_4) (hc1_4 : l1_4.length ≤ c1_4) (h : spec_Same.f k a0_0 a0_1 a0_2 l0_3 l0_4 a1_0 a1_1 a1_2 l1_3 l1_4 = some r),
  Calls Try.prog 18 #[.agg #[.int .i64 a0_0, .int .i64 a0_1, .string a0_2, .slice A0_3 l0_3.length c0_3, .slice A0_4 l0_4.length c0_4], .agg #[.int .i64 a1_0, .int .i64 a1_1, .string a1_2, .slice A1_3 l1_3.length c1_3, .slice A1_4 l1_4.length c1_4]] w fun e w' => e = .returned (.bool r) ∧ Below w.heap.size w w' := by
 induction k using Nat.strongRecOn with
 | _ k ih =>
 intro a0_0 a0_1 a0_2 A0_3 c0_3 l0_3 A0_4 c0_4 l0_4 a1_0 a1_1 a1_2 A1_3 c1_3 l1_3 A1_4 c1_4 l1_4 r w hr0_3 hc0_3 hr0_4 hc0_4 hr1_3 hc1_3 hr1_4 hc1_4 h
 cases k with
 | zero => exact absurd h (by simp [spec_Same.f])
 | succ k =>
 simp only [spec_Same.f] at h
 have hu25 := Try.underlying25
 have HR0_3 := aM hr0_3
 have HC0_3 := aM hc0_3
 clear hr0_3 hc0_3
 have HR0_4 := aM hr0_4
 have HC0_4 := aM hc0_4
 clear hr0_4 hc0_4
 have HR1_3 := aM hr1_3
 have HC1_3 := aM hc1_3
 clear hr1_3 hc1_3
 have HR1_4 := aM hr1_4
 have HC1_4 := aM hc1_4
 clear hr1_4 hc1_4
 have HB := aM (Below.refl w.heap.size w)
 have H : (if a0_0 = a1_0 then (if a0_1 = a1_1 then (if a0_2.toList = a1_2.toList then (if (l0_3.length : Int) = (l1_3.length : Int) then (spec_Same.j0 k ((l0_4.length : Int) != (l1_4.length : Int)) a0_0 a0_1 a0_2 l0_3 l0_4 a1_0 a1_1 a1_2 l1_3 l1_4) else (spec_Same.j0 k true a0_0 a0_1 a0_2 l0_3 l0_4 a1_0 a1_1 a1_2 l1_3 l1_4)) else (spec_Same.j0 k true a0_0 a0_1 a0_2 l0_3 l0_4 a1_0 a1_1 a1_2 l1_3 l1_4)) else (spec_Same.j0 k true a0_0 a0_1 a0_2 l0_3 l0_4 a1_0 a1_1 a1_2 l1_3 l1_4)) else (spec_Same.j0 k true a0_0 a0_1 a0_2 l0_3 l0_4 a1_0 a1_1 a1_2 l1_3 l1_4)) = some r := h
 clear h
 have HC3 := aM H
 clear H
 go_enter Try.func18, Try.ntmps18
 go_upto_region 1 with (first | ((with_reducible refine gate_dst (N := 2) rfl ?_); (try (refine gate_guard (by rfl) ?_; dsimp only)); refine box_event ?hg (N := 2) ?hd (cs := #[.int .i64 a0_0, .int .i64 a0_1, .string a0_2, .slice A0_3 l0_3.length c0_3, .slice A0_4 l0_4.length c0_4]) (t := 25) ?hr ?_; (case hd => rfl); (case hg => rfl); (case hr => first | (go_simp; done) | (go_simp; rfl)); intro gb296 hg w4 hbox hb; have n0_ := aM (below_step (by repeat (first | (with_reducible first | exact HB.out | apply below_alloc | apply pw_below_drewN | apply below_drew1) | exact HB.out)) hb); have n1_ := aM (hbox); have n2_ := aM ((by rw [hg]; exact (below_size (by repeat (first | (with_reducible first | exact HB.out | apply below_alloc | apply pw_below_drewN | apply below_drew1) | exact HB.out))) : w.heap.size ≤ gb296)); have n3_ := aM ((by rw [hg]; exact (below_size (by repeat (first | (with_reducible first | exact HB.out | apply below_alloc | apply pw_below_drewN | apply below_drew1) | exact HB.out))) : w.heap.size ≤ gb296)); clear HB; have HB := n0_; have BK296 := n1_; have GW296 := n2_; have GE296 := n3_; clear n0_ n1_ n2_ n3_; clear hb hbox hg) | ((with_reducible refine gate_dst (N := 3) rfl ?_); (try (refine gate_guard (by rfl) ?_; dsimp only)); refine box_event ?hg (N := 3) ?hd (cs := #[.int .i64 a1_0, .int .i64 a1_1, .string a1_2, .slice A1_3 l1_3.length c1_3, .slice A1_4 l1_4.length c1_4]) (t := 25) ?hr ?_; (case hd => rfl); (case hg => rfl); (case hr => first | (go_simp; done) | (go_simp; rfl)); intro gb297 hg w5 hbox hb; have n0_ := aM (blk_below (g := gb296) (o := .cells #[.int .i64 a0_0, .int .i64 a0_1, .string a0_2, .slice A0_3 l0_3.length c0_3, .slice A0_4 l0_4.length c0_4] 25 (0, 0)) (by (with_reducible repeat (first | refine blk_drewN ?_ _ | refine blk_drew ?_ | refine blk_alloc ?_ _)); exact BK296.out) hb); have n1_ := aM (below_step (by repeat (first | (with_reducible first | exact HB.out | apply below_alloc | apply pw_below_drewN | apply below_drew1 | refine below_set ?_ GE296.out) | exact HB.out)) hb); have n2_ := aM (hbox); have n3_ := aM ((by rw [hg]; exact (below_size (by repeat (first | (with_reducible first | exact HB.out | apply below_alloc | apply pw_below_drewN | apply below_drew1 | refine below_set ?_ GE296.out) | exact HB.out))) : w.heap.size ≤ gb297)); have n4_ := aM ((by rw [hg]; exact (below_size (by repeat (first | (with_reducible first | exact HB.out | apply below_alloc | apply pw_below_drewN | apply below_drew1 | refine below_set ?_ GE296.out) | exact HB.out))) : w.heap.size ≤ gb297)); have n5_ := aM ((by rw [hg]; exact Nat.ne_of_lt (blk_lt (g := gb296) (o := .cells #[.int .i64 a0_0, .int .i64 a0_1, .string a0_2, .slice A0_3 l0_3.length c0_3, .slice A0_4 l0_4.length c0_4] 25 (0, 0)) (by (with_reducible repeat (first | refine blk_drewN ?_ _ | refine blk_drew ?_ | refine blk_alloc ?_ _)); exact BK296.out)) : gb296 ≠ gb297)); have n6_ := aM ((by rw [hg]; exact Nat.ne_of_gt (blk_lt (g := gb296) (o := .cells #[.int .i64 a0_0, .int .i64 a0_1, .string a0_2, .slice A0_3 l0_3.length c0_3, .slice A0_4 l0_4.length c0_4] 25 (0, 0)) (by (with_reducible repeat (first | refine blk_drewN ?_ _ | refine blk_drew ?_ | refine blk_alloc ?_ _)); exact BK296.out)) : gb297 ≠ gb296)); clear BK296; clear HB; have BK296 := n0_; have HB := n1_; have BK297 := n2_; have GW297 := n3_; have GE297 := n4_; have NB296_297 := n5_; have NB297_296 := n6_; clear n0_ n1_ n2_ n3_ n4_ n5_ n6_; clear hb hbox hg))
 (try simp only [Act.put, List.setIfInBounds_toArray, List.set_cons_zero, List.set_cons_succ])
 go_cut [43] (fun v43 wc => ∃ (kq : Nat) (x43_2 : Bool), v43 = .bool x43_2 ∧ Aside0 (spec_Same.j0 kq x43_2 a0_0 a0_1 a0_2 l0_3 l0_4 a1_0 a1_1 a1_2 l1_3 l1_4 = some r) ∧ Aside0 (kq ≤ k) ∧ Aside0 (wc.heap[gb296]? = some (.cells #[.int .i64 a0_0, .int .i64 a0_1, .string a0_2, (.slice A0_3 l0_3.length c0_3), (.slice A0_4 l0_4.length c0_4)] 25 (0, 0))) ∧ Aside0 (wc.heap[gb297]? = some (.cells #[.int .i64 a1_0, .int .i64 a1_1, .string a1_2, (.slice A1_3 l1_3.length c1_3), (.slice A1_4 l1_4.length c1_4)] 25 (0, 0))) ∧ Aside0 (Below w.heap.size w wc))
 case first =>
  have H := HC3.out
  clear HC3
  by_cases c6 : a0_0 = a1_0
  ·rw [if_pos c6] at H
   have c6b0 : (a0_0 == a1_0) = true := beq_iff_eq.mpr c6
   have c6b1 : (a0_0 != a1_0) = false := bne_eq_false_iff_eq.mpr c6
   clear c6
   (first | rw [c6b0] | (simp only [i64_w, i32_w]; rw [c6b0]) | skip)
   by_cases c7 : a0_1 = a1_1
   ·rw [if_pos c7] at H
    have c7b0 : (a0_1 == a1_1) = true := beq_iff_eq.mpr c7
    have c7b1 : (a0_1 != a1_1) = false := bne_eq_false_iff_eq.mpr c7
    clear c7
    by_cases c8 : a0_2.toList = a1_2.toList
    ·rw [if_pos c8] at H
     have c8b0 : (a0_2.toList == a1_2.toList) = true := beq_iff_eq.mpr c8
     have c8b1 : (a0_2.toList != a1_2.toList) = false := bne_eq_false_iff_eq.mpr c8
     clear c8
     by_cases c9 : (l0_3.length : Int) = (l1_3.length : Int)
     ·rw [if_pos c9] at H
      have c9b0 : ((l0_3.length : Int) == (l1_3.length : Int)) = true := beq_iff_eq.mpr c9
      have c9b1 : ((l0_3.length : Int) != (l1_3.length : Int)) = false := bne_eq_false_iff_eq.mpr c9
      have c9b2 : (l0_3.length == l1_3.length) = true := by first | simpa using c9 | (simp at c9 ⊢; omega)
      clear c9
      have H' := aM H
      clear H
      have hnb10 := NB296_297.out
      have hnc10 := NB297_296.out
      have hcz11_0 : w5.cell? ⟨gb296, 0, none⟩ = some (.int .i64 a0_0) := (blk_cell BK296.out 0).trans rfl
      have hcz11_1 : w5.cell? ⟨gb296, 1, none⟩ = some (.int .i64 a0_1) := (blk_cell BK296.out 1).trans rfl
      have hcz11_2 : w5.cell? ⟨gb296, 2, none⟩ = some (.string a0_2) := (blk_cell BK296.out 2).trans rfl
      have hcz11_3 : w5.cell? ⟨gb296, 3, none⟩ = some (.slice A0_3 l0_3.length c0_3) := (blk_cell BK296.out 3).trans rfl
      have hcz11_4 : w5.cell? ⟨gb296, 4, none⟩ = some (.slice A0_4 l0_4.length c0_4) := (blk_cell BK296.out 4).trans rfl
      have hfz11_0 := blk_frozen BK296.out 0
      have hfz11_1 := blk_frozen BK296.out 1
      have hfz11_2 := blk_frozen BK296.out 2
      have hfz11_3 := blk_frozen BK296.out 3
      have hfz11_4 := blk_frozen BK296.out 4
      have hcz12_0 : w5.cell? ⟨gb297, 0, none⟩ = some (.int .i64 a1_0) := (blk_cell BK297.out 0).trans rfl
      have hcz12_1 : w5.cell? ⟨gb297, 1, none⟩ = some (.int .i64 a1_1) := (blk_cell BK297.out 1).trans rfl
      have hcz12_2 : w5.cell? ⟨gb297, 2, none⟩ = some (.string a1_2) := (blk_cell BK297.out 2).trans rfl
      have hcz12_3 : w5.cell? ⟨gb297, 3, none⟩ = some (.slice A1_3 l1_3.length c1_3) := (blk_cell BK297.out 3).trans rfl
      have hcz12_4 : w5.cell? ⟨gb297, 4, none⟩ = some (.slice A1_4 l1_4.length c1_4) := (blk_cell BK297.out 4).trans rfl
      have hfz12_0 := blk_frozen BK297.out 0
      have hfz12_1 := blk_frozen BK297.out 1
      have hfz12_2 := blk_frozen BK297.out 2
      have hfz12_3 := blk_frozen BK297.out 3
      have hfz12_4 := blk_frozen BK297.out 4
      go_wp2
      go_meet
      case rel => exact ⟨_, (((l0_4.length : Int) != (l1_4.length : Int))), (by first | rfl | (simp; done) | (simp [*]; done)), H', ⟨by first | omega | exact Nat.le_refl _⟩, ⟨by (with_reducible repeat (first | refine blk_drewN ?_ _ | refine blk_drew ?_ | refine blk_alloc ?_ _)); exact BK296.out⟩, ⟨by (with_reducible repeat (first | refine blk_drewN ?_ _ | refine blk_drew ?_ | refine blk_alloc ?_ _)); exact BK297.out⟩, ⟨by repeat (first | (with_reducible first | exact HB.out | apply below_alloc | apply pw_below_drewN | apply below_drew1 | refine below_set ?_ GE296.out | refine below_set ?_ GE297.out) | exact HB.out)⟩⟩
     ·rw [if_neg c9] at H
      have c9b0 : ((l0_3.length : Int) == (l1_3.length : Int)) = false := beq_eq_false_iff_ne.mpr c9
      have c9b1 : ((l0_3.length : Int) != (l1_3.length : Int)) = true := bne_iff_ne.mpr c9
      have c9b2 : (l0_3.length == l1_3.length) = false := by first | simpa using c9 | (simp at c9 ⊢; omega)
      have H' := aM H
      clear H
      have hnb13 := NB296_297.out
      have hnc13 := NB297_296.out
      have hcz14_0 : w5.cell? ⟨gb296, 0, none⟩ = some (.int .i64 a0_0) := (blk_cell BK296.out 0).trans rfl
      have hcz14_1 : w5.cell? ⟨gb296, 1, none⟩ = some (.int .i64 a0_1) := (blk_cell BK296.out 1).trans rfl
      have hcz14_2 : w5.cell? ⟨gb296, 2, none⟩ = some (.string a0_2) := (blk_cell BK296.out 2).trans rfl
      have hcz14_3 : w5.cell? ⟨gb296, 3, none⟩ = some (.slice A0_3 l0_3.length c0_3) := (blk_cell BK296.out 3).trans rfl
      have hcz14_4 : w5.cell? ⟨gb296, 4, none⟩ = some (.slice A0_4 l0_4.length c0_4) := (blk_cell BK296.out 4).trans rfl
      have hfz14_0 := blk_frozen BK296.out 0
      have hfz14_1 := blk_frozen BK296.out 1
      have hfz14_2 := blk_frozen BK296.out 2
      have hfz14_3 := blk_frozen BK296.out 3
      have hfz14_4 := blk_frozen BK296.out 4
      have hcz15_0 : w5.cell? ⟨gb297, 0, none⟩ = some (.int .i64 a1_0) := (blk_cell BK297.out 0).trans rfl
      have hcz15_1 : w5.cell? ⟨gb297, 1, none⟩ = some (.int .i64 a1_1) := (blk_cell BK297.out 1).trans rfl
      have hcz15_2 : w5.cell? ⟨gb297, 2, none⟩ = some (.string a1_2) := (blk_cell BK297.out 2).trans rfl
      have hcz15_3 : w5.cell? ⟨gb297, 3, none⟩ = some (.slice A1_3 l1_3.length c1_3) := (blk_cell BK297.out 3).trans rfl
      have hcz15_4 : w5.cell? ⟨gb297, 4, none⟩ = some (.slice A1_4 l1_4.length c1_4) := (blk_cell BK297.out 4).trans rfl
      have hfz15_0 := blk_frozen BK297.out 0
      have hfz15_1 := blk_frozen BK297.out 1
      have hfz15_2 := blk_frozen BK297.out 2
      have hfz15_3 := blk_frozen BK297.out 3
      have hfz15_4 := blk_frozen BK297.out 4
      go_wp2
      go_meet
      case rel => exact ⟨_, (true), (by first | rfl | (simp; done) | (simp [*]; done)), H', ⟨by first | omega | exact Nat.le_refl _⟩, ⟨by (with_reducible repeat (first | refine blk_drewN ?_ _ | refine blk_drew ?_ | refine blk_alloc ?_ _)); exact BK296.out⟩, ⟨by (with_reducible repeat (first | refine blk_drewN ?_ _ | refine blk_drew ?_ | refine blk_alloc ?_ _)); exact BK297.out⟩, ⟨by repeat (first | (with_reducible first | exact HB.out | apply below_alloc | apply pw_below_drewN | apply below_drew1 | refine below_set ?_ GE296.out | refine below_set ?_ GE297.out) | exact HB.out)⟩⟩
    ·rw [if_neg c8] at H
     have c8b0 : (a0_2.toList == a1_2.toList) = false := beq_eq_false_iff_ne.mpr c8
     have c8b1 : (a0_2.toList != a1_2.toList) = true := bne_iff_ne.mpr c8
     have H' := aM H
     clear H
     have hnb16 := NB296_297.out
     have hnc16 := NB297_296.out
     have hcz17_0 : w5.cell? ⟨gb296, 0, none⟩ = some (.int .i64 a0_0) := (blk_cell BK296.out 0).trans rfl
     have hcz17_1 : w5.cell? ⟨gb296, 1, none⟩ = some (.int .i64 a0_1) := (blk_cell BK296.out 1).trans rfl
     have hcz17_2 : w5.cell? ⟨gb296, 2, none⟩ = some (.string a0_2) := (blk_cell BK296.out 2).trans rfl
     have hcz17_3 : w5.cell? ⟨gb296, 3, none⟩ = some (.slice A0_3 l0_3.length c0_3) := (blk_cell BK296.out 3).trans rfl
     have hcz17_4 : w5.cell? ⟨gb296, 4, none⟩ = some (.slice A0_4 l0_4.length c0_4) := (blk_cell BK296.out 4).trans rfl
     have hfz17_0 := blk_frozen BK296.out 0
     have hfz17_1 := blk_frozen BK296.out 1
     have hfz17_2 := blk_frozen BK296.out 2
     have hfz17_3 := blk_frozen BK296.out 3
     have hfz17_4 := blk_frozen BK296.out 4
     have hcz18_0 : w5.cell? ⟨gb297, 0, none⟩ = some (.int .i64 a1_0) := (blk_cell BK297.out 0).trans rfl
     have hcz18_1 : w5.cell? ⟨gb297, 1, none⟩ = some (.int .i64 a1_1) := (blk_cell BK297.out 1).trans rfl
     have hcz18_2 : w5.cell? ⟨gb297, 2, none⟩ = some (.string a1_2) := (blk_cell BK297.out 2).trans rfl
     have hcz18_3 : w5.cell? ⟨gb297, 3, none⟩ = some (.slice A1_3 l1_3.length c1_3) := (blk_cell BK297.out 3).trans rfl
     have hcz18_4 : w5.cell? ⟨gb297, 4, none⟩ = some (.slice A1_4 l1_4.length c1_4) := (blk_cell BK297.out 4).trans rfl
     have hfz18_0 := blk_frozen BK297.out 0
     have hfz18_1 := blk_frozen BK297.out 1
     have hfz18_2 := blk_frozen BK297.out 2
     have hfz18_3 := blk_frozen BK297.out 3
     have hfz18_4 := blk_frozen BK297.out 4
     go_wp2
     go_meet
     case rel => exact ⟨_, (true), (by first | rfl | (simp; done) | (simp [*]; done)), H', ⟨by first | omega | exact Nat.le_refl _⟩, ⟨by (with_reducible repeat (first | refine blk_drewN ?_ _ | refine blk_drew ?_ | refine blk_alloc ?_ _)); exact BK296.out⟩, ⟨by (with_reducible repeat (first | refine blk_drewN ?_ _ | refine blk_drew ?_ | refine blk_alloc ?_ _)); exact BK297.out⟩, ⟨by repeat (first | (with_reducible first | exact HB.out | apply below_alloc | apply pw_below_drewN | apply below_drew1 | refine below_set ?_ GE296.out | refine below_set ?_ GE297.out) | exact HB.out)⟩⟩
   ·rw [if_neg c7] at H
    have c7b0 : (a0_1 == a1_1) = false := beq_eq_false_iff_ne.mpr c7
    have c7b1 : (a0_1 != a1_1) = true := bne_iff_ne.mpr c7
    have H' := aM H
    clear H
    have hnb19 := NB296_297.out
    have hnc19 := NB297_296.out
    have hcz20_0 : w5.cell? ⟨gb296, 0, none⟩ = some (.int .i64 a0_0) := (blk_cell BK296.out 0).trans rfl
    have hcz20_1 : w5.cell? ⟨gb296, 1, none⟩ = some (.int .i64 a0_1) := (blk_cell BK296.out 1).trans rfl
    have hcz20_2 : w5.cell? ⟨gb296, 2, none⟩ = some (.string a0_2) := (blk_cell BK296.out 2).trans rfl
    have hcz20_3 : w5.cell? ⟨gb296, 3, none⟩ = some (.slice A0_3 l0_3.length c0_3) := (blk_cell BK296.out 3).trans rfl
    have hcz20_4 : w5.cell? ⟨gb296, 4, none⟩ = some (.slice A0_4 l0_4.length c0_4) := (blk_cell BK296.out 4).trans rfl
    have hfz20_0 := blk_frozen BK296.out 0
    have hfz20_1 := blk_frozen BK296.out 1
    have hfz20_2 := blk_frozen BK296.out 2
    have hfz20_3 := blk_frozen BK296.out 3
    have hfz20_4 := blk_frozen BK296.out 4
    have hcz21_0 : w5.cell? ⟨gb297, 0, none⟩ = some (.int .i64 a1_0) := (blk_cell BK297.out 0).trans rfl
    have hcz21_1 : w5.cell? ⟨gb297, 1, none⟩ = some (.int .i64 a1_1) := (blk_cell BK297.out 1).trans rfl
    have hcz21_2 : w5.cell? ⟨gb297, 2, none⟩ = some (.string a1_2) := (blk_cell BK297.out 2).trans rfl
    have hcz21_3 : w5.cell? ⟨gb297, 3, none⟩ = some (.slice A1_3 l1_3.length c1_3) := (blk_cell BK297.out 3).trans rfl
    have hcz21_4 : w5.cell? ⟨gb297, 4, none⟩ = some (.slice A1_4 l1_4.length c1_4) := (blk_cell BK297.out 4).trans rfl
    have hfz21_0 := blk_frozen BK297.out 0
    have hfz21_1 := blk_frozen BK297.out 1
    have hfz21_2 := blk_frozen BK297.out 2
    have hfz21_3 := blk_frozen BK297.out 3
    have hfz21_4 := blk_frozen BK297.out 4
    go_wp2
    go_meet
    case rel => exact ⟨_, (true), (by first | rfl | (simp; done) | (simp [*]; done)), H', ⟨by first | omega | exact Nat.le_refl _⟩, ⟨by (with_reducible repeat (first | refine blk_drewN ?_ _ | refine blk_drew ?_ | refine blk_alloc ?_ _)); exact BK296.out⟩, ⟨by (with_reducible repeat (first | refine blk_drewN ?_ _ | refine blk_drew ?_ | refine blk_alloc ?_ _)); exact BK297.out⟩, ⟨by repeat (first | (with_reducible first | exact HB.out | apply below_alloc | apply pw_below_drewN | apply below_drew1 | refine below_set ?_ GE296.out | refine below_set ?_ GE297.out) | exact HB.out)⟩⟩
  ·rw [if_neg c6] at H
   have c6b0 : (a0_0 == a1_0) = false := beq_eq_false_iff_ne.mpr c6
   have c6b1 : (a0_0 != a1_0) = true := bne_iff_ne.mpr c6
   (first | rw [c6b0] | (simp only [i64_w, i32_w]; rw [c6b0]) | skip)
   have H' := aM H
   clear H
   have hnb22 := NB296_297.out
   have hnc22 := NB297_296.out
   have hcz23_0 : w5.cell? ⟨gb296, 0, none⟩ = some (.int .i64 a0_0) := (blk_cell BK296.out 0).trans rfl
   have hcz23_1 : w5.cell? ⟨gb296, 1, none⟩ = some (.int .i64 a0_1) := (blk_cell BK296.out 1).trans rfl
   have hcz23_2 : w5.cell? ⟨gb296, 2, none⟩ = some (.string a0_2) := (blk_cell BK296.out 2).trans rfl
   have hcz23_3 : w5.cell? ⟨gb296, 3, none⟩ = some (.slice A0_3 l0_3.length c0_3) := (blk_cell BK296.out 3).trans rfl
   have hcz23_4 : w5.cell? ⟨gb296, 4, none⟩ = some (.slice A0_4 l0_4.length c0_4) := (blk_cell BK296.out 4).trans rfl
   have hfz23_0 := blk_frozen BK296.out 0
   have hfz23_1 := blk_frozen BK296.out 1
   have hfz23_2 := blk_frozen BK296.out 2
   have hfz23_3 := blk_frozen BK296.out 3
   have hfz23_4 := blk_frozen BK296.out 4
   have hcz24_0 : w5.cell? ⟨gb297, 0, none⟩ = some (.int .i64 a1_0) := (blk_cell BK297.out 0).trans rfl
   have hcz24_1 : w5.cell? ⟨gb297, 1, none⟩ = some (.int .i64 a1_1) := (blk_cell BK297.out 1).trans rfl
   have hcz24_2 : w5.cell? ⟨gb297, 2, none⟩ = some (.string a1_2) := (blk_cell BK297.out 2).trans rfl
   have hcz24_3 : w5.cell? ⟨gb297, 3, none⟩ = some (.slice A1_3 l1_3.length c1_3) := (blk_cell BK297.out 3).trans rfl
   have hcz24_4 : w5.cell? ⟨gb297, 4, none⟩ = some (.slice A1_4 l1_4.length c1_4) := (blk_cell BK297.out 4).trans rfl
   have hfz24_0 := blk_frozen BK297.out 0
   have hfz24_1 := blk_frozen BK297.out 1
   have hfz24_2 := blk_frozen BK297.out 2
   have hfz24_3 := blk_frozen BK297.out 3
   have hfz24_4 := blk_frozen BK297.out 4
   go_wp2
   go_meet
   case rel => exact ⟨_, (true), (by first | rfl | (simp; done) | (simp [*]; done)), H', ⟨by first | omega | exact Nat.le_refl _⟩, ⟨by (with_reducible repeat (first | refine blk_drewN ?_ _ | refine blk_drew ?_ | refine blk_alloc ?_ _)); exact BK296.out⟩, ⟨by (with_reducible repeat (first | refine blk_drewN ?_ _ | refine blk_drew ?_ | refine blk_alloc ?_ _)); exact BK297.out⟩, ⟨by repeat (first | (with_reducible first | exact HB.out | apply below_alloc | apply pw_below_drewN | apply below_drew1 | refine below_set ?_ GE296.out | refine below_set ?_ GE297.out) | exact HB.out)⟩⟩
 case rest =>
  clear HC3
  try clear c1
  try clear c2
  try clear p2
  try clear c6
  try clear c6b0
  try clear c6b1
  try clear c7
  try clear c7b0
  try clear c7b1
  try clear c8
  try clear c8b0
  try clear c8b1
  try clear c9
  try clear c9b0
  try clear c9b1
  try clear c9b2
  try clear c10
  try clear c13
  try clear c16
  try clear c18
  try clear c19
  try clear c22
  try clear hcz11_0
  try clear hcz11_1
  try clear hcz11_2
  try clear hcz11_3
  try clear hcz11_4
  try clear hcz12_0
  try clear hcz12_1
  try clear hcz12_2
  try clear hcz12_3
  try clear hcz12_4
  try clear hcz14_0
  try clear hcz14_1
  try clear hcz14_2
  try clear hcz14_3
  try clear hcz14_4
  try clear hcz15_0
  try clear hcz15_1
  try clear hcz15_2
  try clear hcz15_3
  try clear hcz15_4
  try clear hcz17_0
  try clear hcz17_1
  try clear hcz17_2
  try clear hcz17_3
  try clear hcz17_4
  try clear hcz18_0
  try clear hcz18_1
  try clear hcz18_2
  try clear hcz18_3
  try clear hcz18_4
  try clear hcz20_0
  try clear hcz20_1
  try clear hcz20_2
  try clear hcz20_3
  try clear hcz20_4
  try clear hcz21_0
  try clear hcz21_1
  try clear hcz21_2
  try clear hcz21_3
  try clear hcz21_4
  try clear hcz23_0
  try clear hcz23_1
  try clear hcz23_2
  try clear hcz23_3
  try clear hcz23_4
  try clear hcz24_0
  try clear hcz24_1
  try clear hcz24_2
  try clear hcz24_3
  try clear hcz24_4
  try clear hfz11_0
  try clear hfz11_1
  try clear hfz11_2
  try clear hfz11_3
  try clear hfz11_4
  try clear hfz12_0
  try clear hfz12_1
  try clear hfz12_2
  try clear hfz12_3
  try clear hfz12_4
  try clear hfz14_0
  try clear hfz14_1
  try clear hfz14_2
  try clear hfz14_3
  try clear hfz14_4
  try clear hfz15_0
  try clear hfz15_1
  try clear hfz15_2
  try clear hfz15_3
  try clear hfz15_4
  try clear hfz17_0
  try clear hfz17_1
  try clear hfz17_2
  try clear hfz17_3
  try clear hfz17_4
  try clear hfz18_0
  try clear hfz18_1
  try clear hfz18_2
  try clear hfz18_3
  try clear hfz18_4
  try clear hfz20_0
  try clear hfz20_1
  try clear hfz20_2
  try clear hfz20_3
  try clear hfz20_4
  try clear hfz21_0
  try clear hfz21_1
  try clear hfz21_2
  try clear hfz21_3
  try clear hfz21_4
  try clear hfz23_0
  try clear hfz23_1
  try clear hfz23_2
  try clear hfz23_3
  try clear hfz23_4
  try clear hfz24_0
  try clear hfz24_1
  try clear hfz24_2
  try clear hfz24_3
  try clear hfz24_4
  obtain ⟨kq, x43_2, rfl, HA, HJ2, BK296, BK297, HB⟩ := hcut
  cases kq with
  | zero => exact absurd HA.out (by simp [spec_Same.j0])
  | succ kj2 =>
   have H := HA.out
   clear HA
   simp only [spec_Same.j0] at H
   by_cases c25 : x43_2 = true
   ·subst c25
    have H1 : (some false) = some r := by rw [if_pos rfl] at H; exact H
    clear H
    have H := H1
    clear H1
    obtain rfl := Option.some.inj H
    go_wp2
    go_ret
    exact ⟨by first | rfl | (simp [errW_none, errW_some] <;> rfl) | (simp [*, errW_none, errW_some] <;> rfl), by repeat (first | (with_reducible first | exact HB.out | apply below_alloc | apply pw_below_drewN | apply below_drew1 | refine below_set ?_ GE296.out | refine below_set ?_ GE297.out) | exact HB.out)⟩
   ·replace c25 := Bool.eq_false_iff.mpr c25
    subst c25
    have H1 : (spec_Same.l0 kj2 0 a0_0 a0_1 a0_2 l0_3 l0_4 a1_0 a1_1 a1_2 l1_3 l1_4) = some r := by rw [if_neg (show ¬ (false = true) by decide)] at H; exact H
    clear H
    have H := H1
    clear H1
    have H' := aM H
    clear H
    go_wp2
    go_loopg [5] kj2 (fun kq v5 w' => ∃ (x5_2 : Int), v5 = .int .i64 x5_2 ∧ Aside0 (spec_Same.l0 kq x5_2 a0_0 a0_1 a0_2 l0_3 l0_4 a1_0 a1_1 a1_2 l1_3 l1_4 = some r) ∧ Aside0 (kq ≤ kj2) ∧ Aside0 (w'.heap[gb296]? = some (.cells #[.int .i64 a0_0, .int .i64 a0_1, .string a0_2, (.slice A0_3 l0_3.length c0_3), (.slice A0_4 l0_4.length c0_4)] 25 (0, 0))) ∧ Aside0 (w'.heap[gb297]? = some (.cells #[.int .i64 a1_0, .int .i64 a1_1, .string a1_2, (.slice A1_3 l1_3.length c1_3), (.slice A1_4 l1_4.length c1_4)] 25 (0, 0))) ∧ Aside0 (Below w.heap.size w w'))
    case atStart => exact ⟨(0), (by first | rfl | (simp; done) | (simp [*]; done)), H', ⟨Nat.le_refl _⟩, ⟨by (with_reducible repeat (first | refine blk_drewN ?_ _ | refine blk_drew ?_ | refine blk_alloc ?_ _)); exact BK296.out⟩, ⟨by (with_reducible repeat (first | refine blk_drewN ?_ _ | refine blk_drew ?_ | refine blk_alloc ?_ _)); exact BK297.out⟩, ⟨by repeat (first | (with_reducible first | exact HB.out | apply below_alloc | apply pw_below_drewN | apply below_drew1 | refine below_set ?_ GE296.out | refine below_set ?_ GE297.out) | exact HB.out)⟩⟩
    case round =>
     clear H'
     try clear c1
     try clear c2
     try clear p2
     try clear c6
     try clear c6b0
     try clear c6b1
     try clear c7
     try clear c7b0
     try clear c7b1
     try clear c8
     try clear c8b0
     try clear c8b1
     try clear c9
     try clear c9b0
     try clear c9b1
     try clear c9b2
     try clear c10
     try clear c13
     try clear c16
     try clear c18
     try clear c19
     try clear c22
     try clear c25
     try clear hcz11_0
     try clear hcz11_1
     try clear hcz11_2
     try clear hcz11_3
     try clear hcz11_4
     try clear hcz12_0
     try clear hcz12_1
     try clear hcz12_2
     try clear hcz12_3
     try clear hcz12_4
     try clear hcz14_0
     try clear hcz14_1
     try clear hcz14_2
     try clear hcz14_3
     try clear hcz14_4
     try clear hcz15_0
     try clear hcz15_1
     try clear hcz15_2
     try clear hcz15_3
     try clear hcz15_4
     try clear hcz17_0
     try clear hcz17_1
     try clear hcz17_2
     try clear hcz17_3
     try clear hcz17_4
     try clear hcz18_0
     try clear hcz18_1
     try clear hcz18_2
     try clear hcz18_3
     try clear hcz18_4
     try clear hcz20_0
     try clear hcz20_1
     try clear hcz20_2
     try clear hcz20_3
     try clear hcz20_4
     try clear hcz21_0
     try clear hcz21_1
     try clear hcz21_2
     try clear hcz21_3
     try clear hcz21_4
     try clear hcz23_0
     try clear hcz23_1
     try clear hcz23_2
     try clear hcz23_3
     try clear hcz23_4
     try clear hcz24_0
     try clear hcz24_1
     try clear hcz24_2
     try clear hcz24_3
     try clear hcz24_4
     try clear hfz11_0
     try clear hfz11_1
     try clear hfz11_2
     try clear hfz11_3
     try clear hfz11_4
     try clear hfz12_0
     try clear hfz12_1
     try clear hfz12_2
     try clear hfz12_3
     try clear hfz12_4
     try clear hfz14_0
     try clear hfz14_1
     try clear hfz14_2
     try clear hfz14_3
     try clear hfz14_4
     try clear hfz15_0
     try clear hfz15_1
     try clear hfz15_2
     try clear hfz15_3
     try clear hfz15_4
     try clear hfz17_0
     try clear hfz17_1
     try clear hfz17_2
     try clear hfz17_3
     try clear hfz17_4
     try clear hfz18_0
     try clear hfz18_1
     try clear hfz18_2
     try clear hfz18_3
     try clear hfz18_4
     try clear hfz20_0
     try clear hfz20_1
     try clear hfz20_2
     try clear hfz20_3
     try clear hfz20_4
     try clear hfz21_0
     try clear hfz21_1
     try clear hfz21_2
     try clear hfz21_3
     try clear hfz21_4
     try clear hfz23_0
     try clear hfz23_1
     try clear hfz23_2
     try clear hfz23_3
     try clear hfz23_4
     try clear hfz24_0
     try clear hfz24_1
     try clear hfz24_2
     try clear hfz24_3
     try clear hfz24_4
     try clear p2
     obtain ⟨x5_2, rfl, HA, HK2, BK296, BK297, HB⟩ := hrel
     cases gk with
     | zero => exact absurd HA.out (by simp [spec_Same.l0])
     | succ k2 =>
      have H := HA.out
      clear HA
      simp only [spec_Same.l0] at H
      by_cases c26 : x5_2 < (l0_3.length : Int)
      ·rw [if_pos c26] at H
       have c26b0 : decide (x5_2 < (l0_3.length : Int)) = true := decide_eq_true c26
       clear c26
       by_cases c27 : 0 ≤ x5_2
       ·rw [if_pos c27] at H
        have c27b0 : decide (0 ≤ x5_2) = true := decide_eq_true c27
        clear c27
        by_cases c28 : x5_2 < (l1_3.length : Int)
        ·rw [if_pos c28] at H
         have c28b0 : decide (x5_2 < (l1_3.length : Int)) = true := decide_eq_true c28
         clear c28
         by_cases c29 : (rdOf ByteArray.empty l0_3 x5_2).toList = (rdOf ByteArray.empty l1_3 x5_2).toList
         ·rw [if_pos c29] at H
          have c29b0 : ((rdOf ByteArray.empty l0_3 x5_2).toList == (rdOf ByteArray.empty l1_3 x5_2).toList) = true := beq_iff_eq.mpr c29
          have c29b1 : ((rdOf ByteArray.empty l0_3 x5_2).toList != (rdOf ByteArray.empty l1_3 x5_2).toList) = false := bne_eq_false_iff_eq.mpr c29
          clear c29
          have H' := aM H
          clear H
          have hnb30 := NB296_297.out
          have hnc30 := NB297_296.out
          have hcz31_0 : wr.cell? ⟨gb296, 0, none⟩ = some (.int .i64 a0_0) := (blk_cell BK296.out 0).trans rfl
          have hcz31_1 : wr.cell? ⟨gb296, 1, none⟩ = some (.int .i64 a0_1) := (blk_cell BK296.out 1).trans rfl
          have hcz31_2 : wr.cell? ⟨gb296, 2, none⟩ = some (.string a0_2) := (blk_cell BK296.out 2).trans rfl
          have hcz31_3 : wr.cell? ⟨gb296, 3, none⟩ = some (.slice A0_3 l0_3.length c0_3) := (blk_cell BK296.out 3).trans rfl
          have hcz31_4 : wr.cell? ⟨gb296, 4, none⟩ = some (.slice A0_4 l0_4.length c0_4) := (blk_cell BK296.out 4).trans rfl
          have hfz31_0 := blk_frozen BK296.out 0
          have hfz31_1 := blk_frozen BK296.out 1
          have hfz31_2 := blk_frozen BK296.out 2
          have hfz31_3 := blk_frozen BK296.out 3
          have hfz31_4 := blk_frozen BK296.out 4
          try go_wp2
          have n0_ := aM (blk_drew BK296.out)
          have n1_ := aM (blk_drew BK297.out)
          have n2_ := aM (below_drew1 HB.out)
          clear BK296 BK297 HB; have BK296 := n0_; have BK297 := n1_; have HB := n2_; clear n0_ n1_ n2_
          have p298 : 0 ≤ (x5_2 : Int) := of_decide_eq_true (by first | (with_reducible assumption) | assumption)
          have q298 : x5_2 < (l0_3.length : Int) := of_decide_eq_true (by first | (with_reducible assumption) | assumption)
          obtain ⟨ad298, e298, hx298_0⟩ := Kd.at_string HR0_3.out x5_2 p298 q298
          have hw298_0 := hx298_0
          cases e298
          replace hx298_0 := (HB.out.cell (World.block_lt_of_cell? w _ hx298_0)).trans hx298_0
          replace p298 := eq_true p298
          replace q298 := eq_true q298
          have p299 : 0 ≤ (x5_2 : Int) := of_decide_eq_true (by first | (with_reducible assumption) | assumption)
          have q299 : x5_2 < (l1_3.length : Int) := of_decide_eq_true (by first | (with_reducible assumption) | assumption)
          obtain ⟨ad299, e299, hx299_0⟩ := Kd.at_string HR1_3.out x5_2 p299 q299
          have hw299_0 := hx299_0
          cases e299
          replace hx299_0 := (HB.out.cell (World.block_lt_of_cell? w _ hx299_0)).trans hx299_0
          replace p299 := eq_true p299
          replace q299 := eq_true q299
          refine start_ (n := 11) (S := fun w' => w'.cell? ⟨gb296, 0, none⟩ = some (.int .i64 a0_0) ∧ w'.cell? ⟨gb296, 1, none⟩ = some (.int .i64 a0_1) ∧ w'.cell? ⟨gb296, 2, none⟩ = some (.string a0_2) ∧ w'.cell? ⟨gb296, 3, none⟩ = some (.slice (some ad298) l0_3.length c0_3) ∧ w'.cell? ⟨gb296, 4, none⟩ = some (.slice A0_4 l0_4.length c0_4) ∧ w'.cell? ⟨gb297, 0, none⟩ = some (.int .i64 a1_0) ∧ w'.cell? ⟨gb297, 1, none⟩ = some (.int .i64 a1_1) ∧ w'.cell? ⟨gb297, 2, none⟩ = some (.string a1_2) ∧ w'.cell? ⟨gb297, 3, none⟩ = some (.slice (some ad299) l1_3.length c1_3) ∧ w'.cell? ⟨gb297, 4, none⟩ = some (.slice A1_4 l1_4.length c1_4) ∧ w'.cell? (ad298.add (x5_2).toNat) = some (.string (rdOf ByteArray.empty l0_3 x5_2)) ∧ w'.cell? (ad299.add (x5_2).toNat) = some (.string (rdOf ByteArray.empty l1_3 x5_2))) (ds := []) #[false, false, false, false, false, false, false, false, false, false, false] (by kernel_rfl) rfl rfl ⟨(blk_cell BK296.out 0).trans rfl, (blk_cell BK296.out 1).trans rfl, (blk_cell BK296.out 2).trans rfl, (blk_cell BK296.out 3).trans rfl, (blk_cell BK296.out 4).trans rfl, (blk_cell BK297.out 0).trans rfl, (blk_cell BK297.out 1).trans rfl, (blk_cell BK297.out 2).trans rfl, (blk_cell BK297.out 3).trans rfl, (blk_cell BK297.out 4).trans rfl, ((HB.out.cell (World.block_lt_of_cell? w _ hw298_0)).trans hw298_0), ((HB.out.cell (World.block_lt_of_cell? w _ hw299_0)).trans hw299_0)⟩ (fun hHeld => ?_); refine with_tabW spec_Same.tab6 spec_Same.bits6 (fun HT_ HW_ => ?_)
          generalize wr.drew = w32 at BK296 BK297 HB hx298_0 hx299_0 hHeld ⊢
          refine pure_ (i := 0) (N := some 51) (v := ?_) (a' := ?_) #[true, false, false, false, false, false, false, false, false, false, false] rfl rfl (any_of HT_.out (by kernel_rfl)) (fun _ _ _ h => h) (Or.inl ⟨by rfl, ?_⟩) ?_ ?_
          rotate_left
          ·intro w'; go_simp; with_reducible rfl
          rotate_left
          ·simp only [Act.put, sA, sB, sC, i64_w, i32_w]; rfl
          refine pure_ (i := 2) (N := some 53) (v := ?_) (a' := ?_) #[true, false, true, false, false, false, false, false, false, false, false] rfl rfl (any_of HT_.out (by kernel_rfl)) (fun _ _ _ h => h) (Or.inl ⟨by rfl, ?_⟩) ?_ ?_
          rotate_left
          ·intro w'; go_simp; with_reducible rfl
          rotate_left
          ·simp only [Act.put, sA, sB, sC, i64_w, i32_w]; rfl
          refine pure_ (i := 5) (N := some 56) (v := ?_) (a' := ?_) #[true, false, true, false, false, true, false, false, false, false, false] rfl rfl (any_of HT_.out (by kernel_rfl)) (fun _ _ _ h => h) (Or.inl ⟨by rfl, ?_⟩) ?_ ?_
          rotate_left
          ·intro w'; go_simp; with_reducible rfl
          rotate_left
          ·simp only [Act.put, sA, sB, sC, i64_w, i32_w]; rfl
          refine pure_ (i := 7) (N := some 58) (v := ?_) (a' := ?_) #[true, false, true, false, false, true, false, true, false, false, false] rfl rfl (any_of HT_.out (by kernel_rfl)) (fun _ _ _ h => h) (Or.inl ⟨by rfl, ?_⟩) ?_ ?_
          rotate_left
          ·intro w'; go_simp; with_reducible rfl
          rotate_left
          ·simp only [Act.put, sA, sB, sC, i64_w, i32_w]; rfl
          refine take_ (i := 1) (N := some 52) (v := ?_) (a' := ?_) #[true, true, true, false, false, true, false, true, false, false, false] rfl rfl (take_ofW HT_.out HW_.out (by kernel_rfl)) (fun _ _ _ h => h) (Or.inl ⟨by rfl, ?_⟩) hHeld ?_ ?_
          rotate_left
          ·rintro w' ⟨s0, s1, s2, s3, s4, s5, s6, s7, s8, s9, s10, s11⟩
           go_simp; with_reducible rfl
          rotate_left
          ·simp only [Act.put, sA, sB, sC, i64_w, i32_w]; rfl
          refine pure_ (i := 3) (N := some 54) (v := ?_) (a' := ?_) #[true, true, true, true, false, true, false, true, false, false, false] rfl rfl (any_of HT_.out (by kernel_rfl)) (fun _ _ _ h => h) (Or.inl ⟨by rfl, ?_⟩) ?_ ?_
          rotate_left
          ·intro w'; go_simp; with_reducible rfl
          rotate_left
          ·simp only [Act.put, sA, sB, sC, i64_w, i32_w]; rfl
          refine take_ (i := 4) (N := some 55) (v := ?_) (a' := ?_) #[true, true, true, true, true, true, false, true, false, false, false] rfl rfl (take_ofW HT_.out HW_.out (by kernel_rfl)) (fun _ _ _ h => h) (Or.inl ⟨by rfl, ?_⟩) hHeld ?_ ?_
          rotate_left
          ·rintro w' ⟨s0, s1, s2, s3, s4, s5, s6, s7, s8, s9, s10, s11⟩
           go_simp; with_reducible rfl
          rotate_left
          ·simp only [Act.put, sA, sB, sC, i64_w, i32_w]; rfl
          refine take_ (i := 6) (N := some 57) (v := ?_) (a' := ?_) #[true, true, true, true, true, true, true, true, false, false, false] rfl rfl (take_ofW HT_.out HW_.out (by kernel_rfl)) (fun _ _ _ h => h) (Or.inl ⟨by rfl, ?_⟩) hHeld ?_ ?_
          rotate_left
          ·rintro w' ⟨s0, s1, s2, s3, s4, s5, s6, s7, s8, s9, s10, s11⟩
           go_simp; with_reducible rfl
          rotate_left
          ·simp only [Act.put, sA, sB, sC, i64_w, i32_w]; rfl
          refine pure_ (i := 8) (N := some 59) (v := ?_) (a' := ?_) #[true, true, true, true, true, true, true, true, true, false, false] rfl rfl (any_of HT_.out (by kernel_rfl)) (fun _ _ _ h => h) (Or.inl ⟨by rfl, ?_⟩) ?_ ?_
          rotate_left
          ·intro w'; go_simp; with_reducible rfl
          rotate_left
          ·simp only [Act.put, sA, sB, sC, i64_w, i32_w]; rfl
          refine take_ (i := 9) (N := some 60) (v := ?_) (a' := ?_) #[true, true, true, true, true, true, true, true, true, true, false] rfl rfl (take_ofW HT_.out HW_.out (by kernel_rfl)) (fun _ _ _ h => h) (Or.inl ⟨by rfl, ?_⟩) hHeld ?_ ?_
          rotate_left
          ·rintro w' ⟨s0, s1, s2, s3, s4, s5, s6, s7, s8, s9, s10, s11⟩
           go_simp; with_reducible rfl
          rotate_left
          ·simp only [Act.put, sA, sB, sC, i64_w, i32_w]; rfl
          refine pure_ (i := 10) (N := some 61) (v := ?_) (a' := ?_) #[true, true, true, true, true, true, true, true, true, true, true] rfl rfl (any_of HT_.out (by kernel_rfl)) (fun _ _ _ h => h) (Or.inl ⟨by rfl, ?_⟩) ?_ ?_
          rotate_left
          ·intro w'; go_simp; with_reducible rfl
          rotate_left
          ·simp only [Act.put, sA, sB, sC, i64_w, i32_w]; rfl
          refine done_ (done_of HT_.out (by kernel_rfl)) ?_
          try go_wp2
          go_roundg k2
          case measure => have := HJ2.out; have := HK2.out; omega
          case rel => exact ⟨(wrap64 (x5_2 + 1)), (by first | rfl | (simp; done) | (simp [*]; done)), H', ⟨by have := HJ2.out; have := HK2.out; omega⟩, ⟨by (with_reducible repeat (first | refine blk_drewN ?_ _ | refine blk_drew ?_ | refine blk_alloc ?_ _)); exact BK296.out⟩, ⟨by (with_reducible repeat (first | refine blk_drewN ?_ _ | refine blk_drew ?_ | refine blk_alloc ?_ _)); exact BK297.out⟩, ⟨by repeat (first | (with_reducible first | exact HB.out | apply below_alloc | apply pw_below_drewN | apply below_drew1 | refine below_set ?_ GE296.out | refine below_set ?_ GE297.out) | exact HB.out)⟩⟩
         ·rw [if_neg c29] at H
          have c29b0 : ((rdOf ByteArray.empty l0_3 x5_2).toList == (rdOf ByteArray.empty l1_3 x5_2).toList) = false := beq_eq_false_iff_ne.mpr c29
          have c29b1 : ((rdOf ByteArray.empty l0_3 x5_2).toList != (rdOf ByteArray.empty l1_3 x5_2).toList) = true := bne_iff_ne.mpr c29
          obtain rfl := Option.some.inj H
          have hnb33 := NB296_297.out
          have hnc33 := NB297_296.out
          have hcz34_0 : wr.cell? ⟨gb296, 0, none⟩ = some (.int .i64 a0_0) := (blk_cell BK296.out 0).trans rfl
          have hcz34_1 : wr.cell? ⟨gb296, 1, none⟩ = some (.int .i64 a0_1) := (blk_cell BK296.out 1).trans rfl
          have hcz34_2 : wr.cell? ⟨gb296, 2, none⟩ = some (.string a0_2) := (blk_cell BK296.out 2).trans rfl
          have hcz34_3 : wr.cell? ⟨gb296, 3, none⟩ = some (.slice A0_3 l0_3.length c0_3) := (blk_cell BK296.out 3).trans rfl
          have hcz34_4 : wr.cell? ⟨gb296, 4, none⟩ = some (.slice A0_4 l0_4.length c0_4) := (blk_cell BK296.out 4).trans rfl
          have hfz34_0 := blk_frozen BK296.out 0
          have hfz34_1 := blk_frozen BK296.out 1
          have hfz34_2 := blk_frozen BK296.out 2
          have hfz34_3 := blk_frozen BK296.out 3
          have hfz34_4 := blk_frozen BK296.out 4
          try go_wp2
          have n0_ := aM (blk_drew BK296.out)
          have n1_ := aM (blk_drew BK297.out)
          have n2_ := aM (below_drew1 HB.out)
          clear BK296 BK297 HB; have BK296 := n0_; have BK297 := n1_; have HB := n2_; clear n0_ n1_ n2_
          have p298 : 0 ≤ (x5_2 : Int) := of_decide_eq_true (by first | (with_reducible assumption) | assumption)
          have q298 : x5_2 < (l0_3.length : Int) := of_decide_eq_true (by first | (with_reducible assumption) | assumption)
          obtain ⟨ad298, e298, hx298_0⟩ := Kd.at_string HR0_3.out x5_2 p298 q298
          have hw298_0 := hx298_0
          cases e298
          replace hx298_0 := (HB.out.cell (World.block_lt_of_cell? w _ hx298_0)).trans hx298_0
          replace p298 := eq_true p298
          replace q298 := eq_true q298
          have p299 : 0 ≤ (x5_2 : Int) := of_decide_eq_true (by first | (with_reducible assumption) | assumption)
          have q299 : x5_2 < (l1_3.length : Int) := of_decide_eq_true (by first | (with_reducible assumption) | assumption)
          obtain ⟨ad299, e299, hx299_0⟩ := Kd.at_string HR1_3.out x5_2 p299 q299
          have hw299_0 := hx299_0
          cases e299
          replace hx299_0 := (HB.out.cell (World.block_lt_of_cell? w _ hx299_0)).trans hx299_0
          replace p299 := eq_true p299
          replace q299 := eq_true q299
          refine start_ (n := 11) (S := fun w' => w'.cell? ⟨gb296, 0, none⟩ = some (.int .i64 a0_0) ∧ w'.cell? ⟨gb296, 1, none⟩ = some (.int .i64 a0_1) ∧ w'.cell? ⟨gb296, 2, none⟩ = some (.string a0_2) ∧ w'.cell? ⟨gb296, 3, none⟩ = some (.slice (some ad298) l0_3.length c0_3) ∧ w'.cell? ⟨gb296, 4, none⟩ = some (.slice A0_4 l0_4.length c0_4) ∧ w'.cell? ⟨gb297, 0, none⟩ = some (.int .i64 a1_0) ∧ w'.cell? ⟨gb297, 1, none⟩ = some (.int .i64 a1_1) ∧ w'.cell? ⟨gb297, 2, none⟩ = some (.string a1_2) ∧ w'.cell? ⟨gb297, 3, none⟩ = some (.slice (some ad299) l1_3.length c1_3) ∧ w'.cell? ⟨gb297, 4, none⟩ = some (.slice A1_4 l1_4.length c1_4) ∧ w'.cell? (ad298.add (x5_2).toNat) = some (.string (rdOf ByteArray.empty l0_3 x5_2)) ∧ w'.cell? (ad299.add (x5_2).toNat) = some (.string (rdOf ByteArray.empty l1_3 x5_2))) (ds := []) #[false, false, false, false, false, false, false, false, false, false, false] (by kernel_rfl) rfl rfl ⟨(blk_cell BK296.out 0).trans rfl, (blk_cell BK296.out 1).trans rfl, (blk_cell BK296.out 2).trans rfl, (blk_cell BK296.out 3).trans rfl, (blk_cell BK296.out 4).trans rfl, (blk_cell BK297.out 0).trans rfl, (blk_cell BK297.out 1).trans rfl, (blk_cell BK297.out 2).trans rfl, (blk_cell BK297.out 3).trans rfl, (blk_cell BK297.out 4).trans rfl, ((HB.out.cell (World.block_lt_of_cell? w _ hw298_0)).trans hw298_0), ((HB.out.cell (World.block_lt_of_cell? w _ hw299_0)).trans hw299_0)⟩ (fun hHeld => ?_); refine with_tabW spec_Same.tab6 spec_Same.bits6 (fun HT_ HW_ => ?_)
          generalize wr.drew = w35 at BK296 BK297 HB hx298_0 hx299_0 hHeld ⊢
          refine pure_ (i := 0) (N := some 51) (v := ?_) (a' := ?_) #[true, false, false, false, false, false, false, false, false, false, false] rfl rfl (any_of HT_.out (by kernel_rfl)) (fun _ _ _ h => h) (Or.inl ⟨by rfl, ?_⟩) ?_ ?_
          rotate_left
          ·intro w'; go_simp; with_reducible rfl
          rotate_left
          ·simp only [Act.put, sA, sB, sC, i64_w, i32_w]; rfl
          refine pure_ (i := 2) (N := some 53) (v := ?_) (a' := ?_) #[true, false, true, false, false, false, false, false, false, false, false] rfl rfl (any_of HT_.out (by kernel_rfl)) (fun _ _ _ h => h) (Or.inl ⟨by rfl, ?_⟩) ?_ ?_
          rotate_left
          ·intro w'; go_simp; with_reducible rfl
          rotate_left
          ·simp only [Act.put, sA, sB, sC, i64_w, i32_w]; rfl
          refine pure_ (i := 5) (N := some 56) (v := ?_) (a' := ?_) #[true, false, true, false, false, true, false, false, false, false, false] rfl rfl (any_of HT_.out (by kernel_rfl)) (fun _ _ _ h => h) (Or.inl ⟨by rfl, ?_⟩) ?_ ?_
          rotate_left
          ·intro w'; go_simp; with_reducible rfl
          rotate_left
          ·simp only [Act.put, sA, sB, sC, i64_w, i32_w]; rfl
          refine pure_ (i := 7) (N := some 58) (v := ?_) (a' := ?_) #[true, false, true, false, false, true, false, true, false, false, false] rfl rfl (any_of HT_.out (by kernel_rfl)) (fun _ _ _ h => h) (Or.inl ⟨by rfl, ?_⟩) ?_ ?_
          rotate_left
          ·intro w'; go_simp; with_reducible rfl
          rotate_left
          ·simp only [Act.put, sA, sB, sC, i64_w, i32_w]; rfl
          refine take_ (i := 1) (N := some 52) (v := ?_) (a' := ?_) #[true, true, true, false, false, true, false, true, false, false, false] rfl rfl (take_ofW HT_.out HW_.out (by kernel_rfl)) (fun _ _ _ h => h) (Or.inl ⟨by rfl, ?_⟩) hHeld ?_ ?_
          rotate_left
          ·rintro w' ⟨s0, s1, s2, s3, s4, s5, s6, s7, s8, s9, s10, s11⟩
           go_simp; with_reducible rfl
          rotate_left
          ·simp only [Act.put, sA, sB, sC, i64_w, i32_w]; rfl
          refine pure_ (i := 3) (N := some 54) (v := ?_) (a' := ?_) #[true, true, true, true, false, true, false, true, false, false, false] rfl rfl (any_of HT_.out (by kernel_rfl)) (fun _ _ _ h => h) (Or.inl ⟨by rfl, ?_⟩) ?_ ?_
          rotate_left
          ·intro w'; go_simp; with_reducible rfl
          rotate_left
          ·simp only [Act.put, sA, sB, sC, i64_w, i32_w]; rfl
          refine take_ (i := 4) (N := some 55) (v := ?_) (a' := ?_) #[true, true, true, true, true, true, false, true, false, false, false] rfl rfl (take_ofW HT_.out HW_.out (by kernel_rfl)) (fun _ _ _ h => h) (Or.inl ⟨by rfl, ?_⟩) hHeld ?_ ?_
          rotate_left
          ·rintro w' ⟨s0, s1, s2, s3, s4, s5, s6, s7, s8, s9, s10, s11⟩
           go_simp; with_reducible rfl
          rotate_left
          ·simp only [Act.put, sA, sB, sC, i64_w, i32_w]; rfl
          refine take_ (i := 6) (N := some 57) (v := ?_) (a' := ?_) #[true, true, true, true, true, true, true, true, false, false, false] rfl rfl (take_ofW HT_.out HW_.out (by kernel_rfl)) (fun _ _ _ h => h) (Or.inl ⟨by rfl, ?_⟩) hHeld ?_ ?_
          rotate_left
          ·rintro w' ⟨s0, s1, s2, s3, s4, s5, s6, s7, s8, s9, s10, s11⟩
           go_simp; with_reducible rfl
          rotate_left
          ·simp only [Act.put, sA, sB, sC, i64_w, i32_w]; rfl
          refine pure_ (i := 8) (N := some 59) (v := ?_) (a' := ?_) #[true, true, true, true, true, true, true, true, true, false, false] rfl rfl (any_of HT_.out (by kernel_rfl)) (fun _ _ _ h => h) (Or.inl ⟨by rfl, ?_⟩) ?_ ?_
          rotate_left
          ·intro w'; go_simp; with_reducible rfl
          rotate_left
          ·simp only [Act.put, sA, sB, sC, i64_w, i32_w]; rfl
          refine take_ (i := 9) (N := some 60) (v := ?_) (a' := ?_) #[true, true, true, true, true, true, true, true, true, true, false] rfl rfl (take_ofW HT_.out HW_.out (by kernel_rfl)) (fun _ _ _ h => h) (Or.inl ⟨by rfl, ?_⟩) hHeld ?_ ?_
          rotate_left
          ·rintro w' ⟨s0, s1, s2, s3, s4, s5, s6, s7, s8, s9, s10, s11⟩
           go_simp; with_reducible rfl
          rotate_left
          ·simp only [Act.put, sA, sB, sC, i64_w, i32_w]; rfl
          refine pure_ (i := 10) (N := some 61) (v := ?_) (a' := ?_) #[true, true, true, true, true, true, true, true, true, true, true] rfl rfl (any_of HT_.out (by kernel_rfl)) (fun _ _ _ h => h) (Or.inl ⟨by rfl, ?_⟩) ?_ ?_
          rotate_left
          ·intro w'; go_simp; with_reducible rfl
          rotate_left
          ·simp only [Act.put, sA, sB, sC, i64_w, i32_w]; rfl
          refine done_ (done_of HT_.out (by kernel_rfl)) ?_
          try go_wp2
          go_ret
          exact ⟨by first | rfl | (simp [errW_none, errW_some] <;> rfl) | (simp [*, errW_none, errW_some] <;> rfl), by repeat (first | (with_reducible first | exact HB.out | apply below_alloc | apply pw_below_drewN | apply below_drew1 | refine below_set ?_ GE296.out | refine below_set ?_ GE297.out) | exact HB.out)⟩
        ·rw [if_neg c28] at H
         exact absurd H (by simp)
       ·rw [if_neg c27] at H
        exact absurd H (by simp)
      ·rw [if_neg c26] at H
       have c26b0 : decide (x5_2 < (l0_3.length : Int)) = false := decide_eq_false c26
       clear c26
       have H' := aM H
       clear H
       have hnb36 := NB296_297.out
       have hnc36 := NB297_296.out
       have hcz37_0 : wr.cell? ⟨gb296, 0, none⟩ = some (.int .i64 a0_0) := (blk_cell BK296.out 0).trans rfl
       have hcz37_1 : wr.cell? ⟨gb296, 1, none⟩ = some (.int .i64 a0_1) := (blk_cell BK296.out 1).trans rfl
       have hcz37_2 : wr.cell? ⟨gb296, 2, none⟩ = some (.string a0_2) := (blk_cell BK296.out 2).trans rfl
       have hcz37_3 : wr.cell? ⟨gb296, 3, none⟩ = some (.slice A0_3 l0_3.length c0_3) := (blk_cell BK296.out 3).trans rfl
       have hcz37_4 : wr.cell? ⟨gb296, 4, none⟩ = some (.slice A0_4 l0_4.length c0_4) := (blk_cell BK296.out 4).trans rfl
       have hfz37_0 := blk_frozen BK296.out 0
       have hfz37_1 := blk_frozen BK296.out 1
       have hfz37_2 := blk_frozen BK296.out 2
       have hfz37_3 := blk_frozen BK296.out 3
       have hfz37_4 := blk_frozen BK296.out 4
       go_wp2
       go_loopg [6] k2 (fun kq v6 w' => ∃ (x6_3 : Int), v6 = .int .i64 x6_3 ∧ Aside0 (spec_Same.l1 kq x6_3 a0_0 a0_1 a0_2 l0_3 l0_4 a1_0 a1_1 a1_2 l1_3 l1_4 = some r) ∧ Aside0 (kq ≤ k2) ∧ Aside0 (w'.heap[gb296]? = some (.cells #[.int .i64 a0_0, .int .i64 a0_1, .string a0_2, (.slice A0_3 l0_3.length c0_3), (.slice A0_4 l0_4.length c0_4)] 25 (0, 0))) ∧ Aside0 (w'.heap[gb297]? = some (.cells #[.int .i64 a1_0, .int .i64 a1_1, .string a1_2, (.slice A1_3 l1_3.length c1_3), (.slice A1_4 l1_4.length c1_4)] 25 (0, 0))) ∧ Aside0 (Below w.heap.size w w'))
       case atStart => exact ⟨(0), (by first | rfl | (simp; done) | (simp [*]; done)), H', ⟨Nat.le_refl _⟩, ⟨by (with_reducible repeat (first | refine blk_drewN ?_ _ | refine blk_drew ?_ | refine blk_alloc ?_ _)); exact BK296.out⟩, ⟨by (with_reducible repeat (first | refine blk_drewN ?_ _ | refine blk_drew ?_ | refine blk_alloc ?_ _)); exact BK297.out⟩, ⟨by repeat (first | (with_reducible first | exact HB.out | apply below_alloc | apply pw_below_drewN | apply below_drew1 | refine below_set ?_ GE296.out | refine below_set ?_ GE297.out) | exact HB.out)⟩⟩
       case round =>
        clear H'
        try clear c1
        try clear c2
        try clear p2
        try clear q2
        try clear hx2
        try clear c3
        try clear c6
        try clear c6b0
        try clear c6b1
        try clear p6
        try clear c7
        try clear c7b0
        try clear c7b1
        try clear c8
        try clear c8b0
        try clear c8b1
        try clear c9
        try clear c9b0
        try clear c9b1
        try clear c9b2
        try clear c10
        try clear c13
        try clear c16
        try clear c18
        try clear c19
        try clear c22
        try clear c25
        try clear c26
        try clear c26b0
        try clear c27
        try clear c27b0
        try clear c28
        try clear c28b0
        try clear c29
        try clear c29b0
        try clear c29b1
        try clear p29
        try clear q29
        try clear hx29
        try clear c30
        try clear c33
        try clear c36
        try clear hcz11_0
        try clear hcz11_1
        try clear hcz11_2
        try clear hcz11_3
        try clear hcz11_4
        try clear hcz12_0
        try clear hcz12_1
        try clear hcz12_2
        try clear hcz12_3
        try clear hcz12_4
        try clear hcz14_0
        try clear hcz14_1
        try clear hcz14_2
        try clear hcz14_3
        try clear hcz14_4
        try clear hcz15_0
        try clear hcz15_1
        try clear hcz15_2
        try clear hcz15_3
        try clear hcz15_4
        try clear hcz17_0
        try clear hcz17_1
        try clear hcz17_2
        try clear hcz17_3
        try clear hcz17_4
        try clear hcz18_0
        try clear hcz18_1
        try clear hcz18_2
        try clear hcz18_3
        try clear hcz18_4
        try clear hcz20_0
        try clear hcz20_1
        try clear hcz20_2
        try clear hcz20_3
        try clear hcz20_4
        try clear hcz21_0
        try clear hcz21_1
        try clear hcz21_2
        try clear hcz21_3
        try clear hcz21_4
        try clear hcz23_0
        try clear hcz23_1
        try clear hcz23_2
        try clear hcz23_3
        try clear hcz23_4
        try clear hcz24_0
        try clear hcz24_1
        try clear hcz24_2
        try clear hcz24_3
        try clear hcz24_4
        try clear hcz31_0
        try clear hcz31_1
        try clear hcz31_2
        try clear hcz31_3
        try clear hcz31_4
        try clear hcz34_0
        try clear hcz34_1
        try clear hcz34_2
        try clear hcz34_3
        try clear hcz34_4
        try clear hcz37_0
        try clear hcz37_1
        try clear hcz37_2
        try clear hcz37_3
        try clear hcz37_4
        try clear hfz11_0
        try clear hfz11_1
        try clear hfz11_2
        try clear hfz11_3
        try clear hfz11_4
        try clear hfz12_0
        try clear hfz12_1
        try clear hfz12_2
        try clear hfz12_3
        try clear hfz12_4
        try clear hfz14_0
        try clear hfz14_1
        try clear hfz14_2
        try clear hfz14_3
        try clear hfz14_4
        try clear hfz15_0
        try clear hfz15_1
        try clear hfz15_2
        try clear hfz15_3
        try clear hfz15_4
        try clear hfz17_0
        try clear hfz17_1
        try clear hfz17_2
        try clear hfz17_3
        try clear hfz17_4
        try clear hfz18_0
        try clear hfz18_1
        try clear hfz18_2
        try clear hfz18_3
        try clear hfz18_4
        try clear hfz20_0
        try clear hfz20_1
        try clear hfz20_2
        try clear hfz20_3
        try clear hfz20_4
        try clear hfz21_0
        try clear hfz21_1
        try clear hfz21_2
        try clear hfz21_3
        try clear hfz21_4
        try clear hfz23_0
        try clear hfz23_1
        try clear hfz23_2
        try clear hfz23_3
        try clear hfz23_4
        try clear hfz24_0
        try clear hfz24_1
        try clear hfz24_2
        try clear hfz24_3
        try clear hfz24_4
        try clear hfz31_0
        try clear hfz31_1
        try clear hfz31_2
        try clear hfz31_3
        try clear hfz31_4
        try clear hfz34_0
        try clear hfz34_1
        try clear hfz34_2
        try clear hfz34_3
        try clear hfz34_4
        try clear hfz37_0
        try clear hfz37_1
        try clear hfz37_2
        try clear hfz37_3
        try clear hfz37_4
        try clear hx298_0
        try clear hx299_0
        try clear p2
        try clear p298
        try clear p299
        try clear q298
        try clear q299
        obtain ⟨x6_3, rfl, HA, HK3, BK296, BK297, HB⟩ := hrel
        cases gk with
        | zero => exact absurd HA.out (by simp [spec_Same.l1])
        | succ k3 =>
         have H := HA.out
         clear HA
         simp only [spec_Same.l1] at H
         by_cases c38 : x6_3 < (l0_4.length : Int)
         ·rw [if_pos c38] at H
          have c38b0 : decide (x6_3 < (l0_4.length : Int)) = true := decide_eq_true c38
          clear c38
          by_cases c39 : 0 ≤ x6_3
          ·rw [if_pos c39] at H
           have c39b0 : decide (0 ≤ x6_3) = true := decide_eq_true c39
           clear c39
           by_cases c40 : x6_3 < (l1_4.length : Int)
           ·rw [if_pos c40] at H
            have c40b0 : decide (x6_3 < (l1_4.length : Int)) = true := decide_eq_true c40
            clear c40
            replace H := Option.bind_eq_some_iff.mp H
            obtain ⟨t302, A410, H⟩ := H
            replace H : (if t302 = true then (spec_Same.l1 k3 (wrap64 (x6_3 + 1)) a0_0 a0_1 a0_2 l0_3 l0_4 a1_0 a1_1 a1_2 l1_3 l1_4) else (some false)) = some r := H
            have A41 := aM A410
            clear A410
            by_cases c42 : t302 = true
            ·subst c42
             have H1 : (spec_Same.l1 k3 (wrap64 (x6_3 + 1)) a0_0 a0_1 a0_2 l0_3 l0_4 a1_0 a1_1 a1_2 l1_3 l1_4) = some r := by rw [if_pos rfl] at H; exact H
             clear H
             have H := H1
             clear H1
             have H' := aM H
             clear H
             have hnb43 := NB296_297.out
             have hnc43 := NB297_296.out
             have hcz44_0 : wr.cell? ⟨gb296, 0, none⟩ = some (.int .i64 a0_0) := (blk_cell BK296.out 0).trans rfl
             have hcz44_1 : wr.cell? ⟨gb296, 1, none⟩ = some (.int .i64 a0_1) := (blk_cell BK296.out 1).trans rfl
             have hcz44_2 : wr.cell? ⟨gb296, 2, none⟩ = some (.string a0_2) := (blk_cell BK296.out 2).trans rfl
             have hcz44_3 : wr.cell? ⟨gb296, 3, none⟩ = some (.slice A0_3 l0_3.length c0_3) := (blk_cell BK296.out 3).trans rfl
             have hcz44_4 : wr.cell? ⟨gb296, 4, none⟩ = some (.slice A0_4 l0_4.length c0_4) := (blk_cell BK296.out 4).trans rfl
             have hfz44_0 := blk_frozen BK296.out 0
             have hfz44_1 := blk_frozen BK296.out 1
             have hfz44_2 := blk_frozen BK296.out 2
             have hfz44_3 := blk_frozen BK296.out 3
             have hfz44_4 := blk_frozen BK296.out 4
             try go_wp2
             have n0_ := aM (blk_drew BK296.out)
             have n1_ := aM (blk_drew BK297.out)
             have n2_ := aM (below_drew1 HB.out)
             clear BK296 BK297 HB; have BK296 := n0_; have BK297 := n1_; have HB := n2_; clear n0_ n1_ n2_
             have p300 : 0 ≤ (x6_3 : Int) := of_decide_eq_true (by first | (with_reducible assumption) | assumption)
             have q300 : x6_3 < (l0_4.length : Int) := of_decide_eq_true (by first | (with_reducible assumption) | assumption)
             obtain ⟨ad300, A300_3, c300_3, A300_4, c300_4, e300, hx300_0, hx300_1, hx300_2, hx300_3, hx300_4, hl300_3, hi300_3, hl300_4, hi300_4⟩ := at_T25 HR0_4.out x6_3 p300 q300
             have hw300_4 := hx300_4
             have hw300_3 := hx300_3
             have hw300_2 := hx300_2
             have hw300_1 := hx300_1
             have hw300_0 := hx300_0
             cases e300
             replace hx300_0 := (HB.out.cell (World.block_lt_of_cell? w _ hx300_0)).trans hx300_0
             replace hx300_1 := (HB.out.cell (World.block_lt_of_cell? w _ hx300_1)).trans hx300_1
             replace hx300_2 := (HB.out.cell (World.block_lt_of_cell? w _ hx300_2)).trans hx300_2
             replace hx300_3 := (HB.out.cell (World.block_lt_of_cell? w _ hx300_3)).trans hx300_3
             replace hx300_4 := (HB.out.cell (World.block_lt_of_cell? w _ hx300_4)).trans hx300_4
             have HR300_3 := aM hi300_3
             have HC300_3 := aM hl300_3
             clear hi300_3 hl300_3
             have HR300_4 := aM hi300_4
             have HC300_4 := aM hl300_4
             clear hi300_4 hl300_4
             replace p300 := eq_true p300
             replace q300 := eq_true q300
             have p301 : 0 ≤ (x6_3 : Int) := of_decide_eq_true (by first | (with_reducible assumption) | assumption)
             have q301 : x6_3 < (l1_4.length : Int) := of_decide_eq_true (by first | (with_reducible assumption) | assumption)
             obtain ⟨ad301, A301_3, c301_3, A301_4, c301_4, e301, hx301_0, hx301_1, hx301_2, hx301_3, hx301_4, hl301_3, hi301_3, hl301_4, hi301_4⟩ := at_T25 HR1_4.out x6_3 p301 q301
             have hw301_4 := hx301_4
             have hw301_3 := hx301_3
             have hw301_2 := hx301_2
             have hw301_1 := hx301_1
             have hw301_0 := hx301_0
             cases e301
             replace hx301_0 := (HB.out.cell (World.block_lt_of_cell? w _ hx301_0)).trans hx301_0
             replace hx301_1 := (HB.out.cell (World.block_lt_of_cell? w _ hx301_1)).trans hx301_1
             replace hx301_2 := (HB.out.cell (World.block_lt_of_cell? w _ hx301_2)).trans hx301_2
             replace hx301_3 := (HB.out.cell (World.block_lt_of_cell? w _ hx301_3)).trans hx301_3
             replace hx301_4 := (HB.out.cell (World.block_lt_of_cell? w _ hx301_4)).trans hx301_4
             have HR301_3 := aM hi301_3
             have HC301_3 := aM hl301_3
             clear hi301_3 hl301_3
             have HR301_4 := aM hi301_4
             have HC301_4 := aM hl301_4
             clear hi301_4 hl301_4
             replace p301 := eq_true p301
             replace q301 := eq_true q301
             refine start_ (n := 12) (S := fun w' => w'.cell? ⟨gb296, 0, none⟩ = some (.int .i64 a0_0) ∧ w'.cell? ⟨gb296, 1, none⟩ = some (.int .i64 a0_1) ∧ w'.cell? ⟨gb296, 2, none⟩ = some (.string a0_2) ∧ w'.cell? ⟨gb296, 3, none⟩ = some (.slice A0_3 l0_3.length c0_3) ∧ w'.cell? ⟨gb296, 4, none⟩ = some (.slice (some ad300) l0_4.length c0_4) ∧ w'.cell? ⟨gb297, 0, none⟩ = some (.int .i64 a1_0) ∧ w'.cell? ⟨gb297, 1, none⟩ = some (.int .i64 a1_1) ∧ w'.cell? ⟨gb297, 2, none⟩ = some (.string a1_2) ∧ w'.cell? ⟨gb297, 3, none⟩ = some (.slice A1_3 l1_3.length c1_3) ∧ w'.cell? ⟨gb297, 4, none⟩ = some (.slice (some ad301) l1_4.length c1_4) ∧ w'.cell? (ad300.add ((x6_3).toNat * 5)) = some (.int .i64 ((rd_T25 l0_4 x6_3).f0)) ∧ w'.cell? ⟨(ad300.add ((x6_3).toNat * 5)).block, (ad300.add ((x6_3).toNat * 5)).off + 1, none⟩ = some (.int .i64 ((rd_T25 l0_4 x6_3).f1)) ∧ w'.cell? ⟨(ad300.add ((x6_3).toNat * 5)).block, (ad300.add ((x6_3).toNat * 5)).off + 2, none⟩ = some (.string ((rd_T25 l0_4 x6_3).f2)) ∧ w'.cell? ⟨(ad300.add ((x6_3).toNat * 5)).block, (ad300.add ((x6_3).toNat * 5)).off + 3, none⟩ = some (.slice A300_3 ((rd_T25 l0_4 x6_3).f3).length c300_3) ∧ w'.cell? ⟨(ad300.add ((x6_3).toNat * 5)).block, (ad300.add ((x6_3).toNat * 5)).off + 4, none⟩ = some (.slice A300_4 ((rd_T25 l0_4 x6_3).f4).length c300_4) ∧ w'.cell? (ad301.add ((x6_3).toNat * 5)) = some (.int .i64 ((rd_T25 l1_4 x6_3).f0)) ∧ w'.cell? ⟨(ad301.add ((x6_3).toNat * 5)).block, (ad301.add ((x6_3).toNat * 5)).off + 1, none⟩ = some (.int .i64 ((rd_T25 l1_4 x6_3).f1)) ∧ w'.cell? ⟨(ad301.add ((x6_3).toNat * 5)).block, (ad301.add ((x6_3).toNat * 5)).off + 2, none⟩ = some (.string ((rd_T25 l1_4 x6_3).f2)) ∧ w'.cell? ⟨(ad301.add ((x6_3).toNat * 5)).block, (ad301.add ((x6_3).toNat * 5)).off + 3, none⟩ = some (.slice A301_3 ((rd_T25 l1_4 x6_3).f3).length c301_3) ∧ w'.cell? ⟨(ad301.add ((x6_3).toNat * 5)).block, (ad301.add ((x6_3).toNat * 5)).off + 4, none⟩ = some (.slice A301_4 ((rd_T25 l1_4 x6_3).f4).length c301_4)) (ds := []) #[false, false, false, false, false, false, false, false, false, false, false, false] (by kernel_rfl) rfl rfl ⟨(blk_cell BK296.out 0).trans rfl, (blk_cell BK296.out 1).trans rfl, (blk_cell BK296.out 2).trans rfl, (blk_cell BK296.out 3).trans rfl, (blk_cell BK296.out 4).trans rfl, (blk_cell BK297.out 0).trans rfl, (blk_cell BK297.out 1).trans rfl, (blk_cell BK297.out 2).trans rfl, (blk_cell BK297.out 3).trans rfl, (blk_cell BK297.out 4).trans rfl, ((HB.out.cell (World.block_lt_of_cell? w _ hw300_0)).trans hw300_0), ((HB.out.cell (World.block_lt_of_cell? w _ hw300_1)).trans hw300_1), ((HB.out.cell (World.block_lt_of_cell? w _ hw300_2)).trans hw300_2), ((HB.out.cell (World.block_lt_of_cell? w _ hw300_3)).trans hw300_3), ((HB.out.cell (World.block_lt_of_cell? w _ hw300_4)).trans hw300_4), ((HB.out.cell (World.block_lt_of_cell? w _ hw301_0)).trans hw301_0), ((HB.out.cell (World.block_lt_of_cell? w _ hw301_1)).trans hw301_1), ((HB.out.cell (World.block_lt_of_cell? w _ hw301_2)).trans hw301_2), ((HB.out.cell (World.block_lt_of_cell? w _ hw301_3)).trans hw301_3), ((HB.out.cell (World.block_lt_of_cell? w _ hw301_4)).trans hw301_4)⟩ (fun hHeld => ?_); refine with_tabW spec_Same.tab11 spec_Same.bits11 (fun HT_ HW_ => ?_)
             generalize wr.drew = w45 at BK296 BK297 HB HR300_3 HR300_4 HR301_3 HR301_4 hx300_0 hx300_1 hx300_2 hx300_3 hx300_4 hx301_0 hx301_1 hx301_2 hx301_3 hx301_4 hHeld ⊢
             refine pure_ (i := 0) (N := some 69) (v := ?_) (a' := ?_) #[true, false, false, false, false, false, false, false, false, false, false, false] rfl rfl (any_of HT_.out (by kernel_rfl)) (fun _ _ _ h => h) (Or.inl ⟨by rfl, ?_⟩) ?_ ?_
             rotate_left
             ·intro w'; go_simp; with_reducible rfl
             rotate_left
             ·simp only [Act.put, sA, sB, sC, i64_w, i32_w]; rfl
             refine pure_ (i := 2) (N := some 71) (v := ?_) (a' := ?_) #[true, false, true, false, false, false, false, false, false, false, false, false] rfl rfl (any_of HT_.out (by kernel_rfl)) (fun _ _ _ h => h) (Or.inl ⟨by rfl, ?_⟩) ?_ ?_
             rotate_left
             ·intro w'; go_simp; with_reducible rfl
             rotate_left
             ·simp only [Act.put, sA, sB, sC, i64_w, i32_w]; rfl
             refine pure_ (i := 5) (N := some 74) (v := ?_) (a' := ?_) #[true, false, true, false, false, true, false, false, false, false, false, false] rfl rfl (any_of HT_.out (by kernel_rfl)) (fun _ _ _ h => h) (Or.inl ⟨by rfl, ?_⟩) ?_ ?_
             rotate_left
             ·intro w'; go_simp; with_reducible rfl
             rotate_left
             ·simp only [Act.put, sA, sB, sC, i64_w, i32_w]; rfl
             refine pure_ (i := 7) (N := some 76) (v := ?_) (a' := ?_) #[true, false, true, false, false, true, false, true, false, false, false, false] rfl rfl (any_of HT_.out (by kernel_rfl)) (fun _ _ _ h => h) (Or.inl ⟨by rfl, ?_⟩) ?_ ?_
             rotate_left
             ·intro w'; go_simp; with_reducible rfl
             rotate_left
             ·simp only [Act.put, sA, sB, sC, i64_w, i32_w]; rfl
             refine take_ (i := 1) (N := some 70) (v := ?_) (a' := ?_) #[true, true, true, false, false, true, false, true, false, false, false, false] rfl rfl (take_ofW HT_.out HW_.out (by kernel_rfl)) (fun _ _ _ h => h) (Or.inl ⟨by rfl, ?_⟩) hHeld ?_ ?_
             rotate_left
             ·rintro w' ⟨s0, s1, s2, s3, s4, s5, s6, s7, s8, s9, s10, s11, s12, s13, s14, s15, s16, s17, s18, s19⟩
              go_simp; with_reducible rfl
             rotate_left
             ·simp only [Act.put, sA, sB, sC, i64_w, i32_w]; rfl
             refine pure_ (i := 3) (N := some 72) (v := ?_) (a' := ?_) #[true, true, true, true, false, true, false, true, false, false, false, false] rfl rfl (any_of HT_.out (by kernel_rfl)) (fun _ _ _ h => h) (Or.inl ⟨by rfl, ?_⟩) ?_ ?_
             rotate_left
             ·intro w'; go_simp; with_reducible rfl
             rotate_left
             ·simp only [Act.put, sA, sB, sC, i64_w, i32_w]; rfl
             refine take_ (i := 4) (N := some 73) (v := ?_) (a' := ?_) #[true, true, true, true, true, true, false, true, false, false, false, false] rfl rfl (take_ofW HT_.out HW_.out (by kernel_rfl)) (fun _ _ _ h => h) (Or.inl ⟨by rfl, ?_⟩) hHeld ?_ ?_
             rotate_left
             ·rintro w' ⟨s0, s1, s2, s3, s4, s5, s6, s7, s8, s9, s10, s11, s12, s13, s14, s15, s16, s17, s18, s19⟩
              go_simp; with_reducible rfl
             rotate_left
             ·simp only [Act.put, sA, sB, sC, i64_w, i32_w]; rfl
             refine take_ (i := 6) (N := some 75) (v := ?_) (a' := ?_) #[true, true, true, true, true, true, true, true, false, false, false, false] rfl rfl (take_ofW HT_.out HW_.out (by kernel_rfl)) (fun _ _ _ h => h) (Or.inl ⟨by rfl, ?_⟩) hHeld ?_ ?_
             rotate_left
             ·rintro w' ⟨s0, s1, s2, s3, s4, s5, s6, s7, s8, s9, s10, s11, s12, s13, s14, s15, s16, s17, s18, s19⟩
              go_simp; with_reducible rfl
             rotate_left
             ·simp only [Act.put, sA, sB, sC, i64_w, i32_w]; rfl
             refine pure_ (i := 8) (N := some 77) (v := ?_) (a' := ?_) #[true, true, true, true, true, true, true, true, true, false, false, false] rfl rfl (any_of HT_.out (by kernel_rfl)) (fun _ _ _ h => h) (Or.inl ⟨by rfl, ?_⟩) ?_ ?_
             rotate_left
             ·intro w'; go_simp; with_reducible rfl
             rotate_left
             ·simp only [Act.put, sA, sB, sC, i64_w, i32_w]; rfl
             refine take_ (i := 9) (N := some 78) (v := ?_) (a' := ?_) #[true, true, true, true, true, true, true, true, true, true, false, false] rfl rfl (take_ofW HT_.out HW_.out (by kernel_rfl)) (fun _ _ _ h => h) (Or.inl ⟨by rfl, ?_⟩) hHeld ?_ ?_
             rotate_left
             ·rintro w' ⟨s0, s1, s2, s3, s4, s5, s6, s7, s8, s9, s10, s11, s12, s13, s14, s15, s16, s17, s18, s19⟩
              go_simp; with_reducible rfl
             rotate_left
             ·simp only [Act.put, sA, sB, sC, i64_w, i32_w]; rfl
             refine one_ (i := 10) (N := some 79) #[true, true, true, true, true, true, true, true, true, true, true, false] rfl rfl (one_of HT_.out (by kernel_rfl)) (by decide) (fun K hK => ?_)
             refine goes_ Try.func18 (by kernel_rfl) rfl #[.agg #[.int .i64 ((rd_T25 l0_4 x6_3).f0), .int .i64 ((rd_T25 l0_4 x6_3).f1), .string ((rd_T25 l0_4 x6_3).f2), .slice A300_3 ((rd_T25 l0_4 x6_3).f3).length c300_3, .slice A300_4 ((rd_T25 l0_4 x6_3).f4).length c300_4], .agg #[.int .i64 ((rd_T25 l1_4 x6_3).f0), .int .i64 ((rd_T25 l1_4 x6_3).f1), .string ((rd_T25 l1_4 x6_3).f2), .slice A301_3 ((rd_T25 l1_4 x6_3).f3).length c301_3, .slice A301_4 ((rd_T25 l1_4 x6_3).f4).length c301_4]] (by rfl) rfl rfl (by (try simp only [List.map_toArray, List.map_cons, List.map_nil]); first | done | rfl | (simp only [List.length_drop, List.length_take]; rfl)) ?_
             with_reducible refine (ih k3 (by have := HJ2.out; have := HK2.out; have := HK3.out; omega) ((rd_T25 l0_4 x6_3).f0) ((rd_T25 l0_4 x6_3).f1) ((rd_T25 l0_4 x6_3).f2) _ _ ((rd_T25 l0_4 x6_3).f3) _ _ ((rd_T25 l0_4 x6_3).f4) ((rd_T25 l1_4 x6_3).f0) ((rd_T25 l1_4 x6_3).f1) ((rd_T25 l1_4 x6_3).f2) _ _ ((rd_T25 l1_4 x6_3).f3) _ _ ((rd_T25 l1_4 x6_3).f4) true _ ?side1 ?side2 ?side3 ?side4 ?side5 ?side6 ?side7 ?side8 A41.out).mono ?_
             (case side1 => repeat (first | exact (Kd.C_below HR300_3.out HB.out) | (with_reducible refine Kd.C_alloc ?_ _) | (with_reducible refine Kd.C_drewN ?_ _) | (with_reducible refine Kd.C_drew ?_)))
             (case side2 => exact HC300_3.out)
             (case side3 => repeat (first | exact (Kd.C_below HR300_4.out HB.out) | (with_reducible refine Kd.C_alloc ?_ _) | (with_reducible refine Kd.C_drewN ?_ _) | (with_reducible refine Kd.C_drew ?_)))
             (case side4 => exact HC300_4.out)
             (case side5 => repeat (first | exact (Kd.C_below HR301_3.out HB.out) | (with_reducible refine Kd.C_alloc ?_ _) | (with_reducible refine Kd.C_drewN ?_ _) | (with_reducible refine Kd.C_drew ?_)))
             (case side6 => exact HC301_3.out)
             (case side7 => repeat (first | exact (Kd.C_below HR301_4.out HB.out) | (with_reducible refine Kd.C_alloc ?_ _) | (with_reducible refine Kd.C_drewN ?_ _) | (with_reducible refine Kd.C_drew ?_)))
             (case side8 => exact HC301_4.out)
             rintro e w46 ⟨rfl, hb⟩
             refine ⟨_, rfl, ?_⟩
             have n0_ := aM (blk_below (g := gb296) (o := .cells #[.int .i64 a0_0, .int .i64 a0_1, .string a0_2, .slice A0_3 l0_3.length c0_3, .slice (some ad300) l0_4.length c0_4] 25 (0, 0)) (by (with_reducible repeat (first | refine blk_drewN ?_ _ | refine blk_drew ?_ | refine blk_alloc ?_ _)); exact BK296.out) hb)
             have n1_ := aM (blk_below (g := gb297) (o := .cells #[.int .i64 a1_0, .int .i64 a1_1, .string a1_2, .slice A1_3 l1_3.length c1_3, .slice (some ad301) l1_4.length c1_4] 25 (0, 0)) (by (with_reducible repeat (first | refine blk_drewN ?_ _ | refine blk_drew ?_ | refine blk_alloc ?_ _)); exact BK297.out) hb)
             have n2_ := aM (below_step (by repeat (first | (with_reducible first | exact HB.out | apply below_alloc | apply pw_below_drewN | apply below_drew1 | refine below_set ?_ GE296.out | refine below_set ?_ GE297.out) | exact HB.out)) hb)
             clear BK296 BK297 HB; have BK296 := n0_; have BK297 := n1_; have HB := n2_; clear n0_ n1_ n2_
             (try clear hb)
             (try clear hb2)
             (try clear hk)
             (try clear hi)
             refine hK.out _ _ ⟨(blk_cell BK296.out 0).trans rfl, (blk_cell BK296.out 1).trans rfl, (blk_cell BK296.out 2).trans rfl, (blk_cell BK296.out 3).trans rfl, (blk_cell BK296.out 4).trans rfl, (blk_cell BK297.out 0).trans rfl, (blk_cell BK297.out 1).trans rfl, (blk_cell BK297.out 2).trans rfl, (blk_cell BK297.out 3).trans rfl, (blk_cell BK297.out 4).trans rfl, ((HB.out.cell (World.block_lt_of_cell? w _ hw300_0)).trans hw300_0), ((HB.out.cell (World.block_lt_of_cell? w _ hw300_1)).trans hw300_1), ((HB.out.cell (World.block_lt_of_cell? w _ hw300_2)).trans hw300_2), ((HB.out.cell (World.block_lt_of_cell? w _ hw300_3)).trans hw300_3), ((HB.out.cell (World.block_lt_of_cell? w _ hw300_4)).trans hw300_4), ((HB.out.cell (World.block_lt_of_cell? w _ hw301_0)).trans hw301_0), ((HB.out.cell (World.block_lt_of_cell? w _ hw301_1)).trans hw301_1), ((HB.out.cell (World.block_lt_of_cell? w _ hw301_2)).trans hw301_2), ((HB.out.cell (World.block_lt_of_cell? w _ hw301_3)).trans hw301_3), ((HB.out.cell (World.block_lt_of_cell? w _ hw301_4)).trans hw301_4)⟩ (fun hHeld => ?_)
             clear hK K
             refine norm_ (a' := ?_) ?_ ?_
             rotate_left
             ·show Act.put _ (some 79) _ = _
              simp only [Act.put, sA, sB, sC, i64_w, i32_w]; rfl
             refine pure_ (i := 11) (N := some 80) (v := ?_) (a' := ?_) #[true, true, true, true, true, true, true, true, true, true, true, true] rfl rfl (any_of HT_.out (by kernel_rfl)) (fun _ _ _ h => h) (Or.inl ⟨by rfl, ?_⟩) ?_ ?_
             rotate_left
             ·intro w'; go_simp; with_reducible rfl
             rotate_left
             ·simp only [Act.put, sA, sB, sC, i64_w, i32_w]; rfl
             refine done_ (done_of HT_.out (by kernel_rfl)) ?_
             try go_wp2
             go_roundg k3
             case measure => have := HJ2.out; have := HK2.out; have := HK3.out; omega
             case rel => exact ⟨(wrap64 (x6_3 + 1)), (by first | rfl | (simp; done) | (simp [*]; done)), H', ⟨by have := HJ2.out; have := HK2.out; have := HK3.out; omega⟩, ⟨by (with_reducible repeat (first | refine blk_drewN ?_ _ | refine blk_drew ?_ | refine blk_alloc ?_ _)); exact BK296.out⟩, ⟨by (with_reducible repeat (first | refine blk_drewN ?_ _ | refine blk_drew ?_ | refine blk_alloc ?_ _)); exact BK297.out⟩, ⟨by repeat (first | (with_reducible first | exact HB.out | apply below_alloc | apply pw_below_drewN | apply below_drew1 | refine below_set ?_ GE296.out | refine below_set ?_ GE297.out) | exact HB.out)⟩⟩
            ·replace c42 := Bool.eq_false_iff.mpr c42
             subst c42
             have H1 : (some false) = some r := by rw [if_neg (show ¬ (false = true) by decide)] at H; exact H
             clear H
             have H := H1
             clear H1
             obtain rfl := Option.some.inj H
             have hnb47 := NB296_297.out
             have hnc47 := NB297_296.out
             have hcz48_0 : wr.cell? ⟨gb296, 0, none⟩ = some (.int .i64 a0_0) := (blk_cell BK296.out 0).trans rfl
             have hcz48_1 : wr.cell? ⟨gb296, 1, none⟩ = some (.int .i64 a0_1) := (blk_cell BK296.out 1).trans rfl
             have hcz48_2 : wr.cell? ⟨gb296, 2, none⟩ = some (.string a0_2) := (blk_cell BK296.out 2).trans rfl
             have hcz48_3 : wr.cell? ⟨gb296, 3, none⟩ = some (.slice A0_3 l0_3.length c0_3) := (blk_cell BK296.out 3).trans rfl
             have hcz48_4 : wr.cell? ⟨gb296, 4, none⟩ = some (.slice A0_4 l0_4.length c0_4) := (blk_cell BK296.out 4).trans rfl
             have hfz48_0 := blk_frozen BK296.out 0
             have hfz48_1 := blk_frozen BK296.out 1
             have hfz48_2 := blk_frozen BK296.out 2
             have hfz48_3 := blk_frozen BK296.out 3
             have hfz48_4 := blk_frozen BK296.out 4
             try go_wp2
             have n0_ := aM (blk_drew BK296.out)
             have n1_ := aM (blk_drew BK297.out)
             have n2_ := aM (below_drew1 HB.out)
             clear BK296 BK297 HB; have BK296 := n0_; have BK297 := n1_; have HB := n2_; clear n0_ n1_ n2_
             have p300 : 0 ≤ (x6_3 : Int) := of_decide_eq_true (by first | (with_reducible assumption) | assumption)
             have q300 : x6_3 < (l0_4.length : Int) := of_decide_eq_true (by first | (with_reducible assumption) | assumption)
             obtain ⟨ad300, A300_3, c300_3, A300_4, c300_4, e300, hx300_0, hx300_1, hx300_2, hx300_3, hx300_4, hl300_3, hi300_3, hl300_4, hi300_4⟩ := at_T25 HR0_4.out x6_3 p300 q300
             have hw300_4 := hx300_4
             have hw300_3 := hx300_3
             have hw300_2 := hx300_2
             have hw300_1 := hx300_1
             have hw300_0 := hx300_0
             cases e300
             replace hx300_0 := (HB.out.cell (World.block_lt_of_cell? w _ hx300_0)).trans hx300_0
             replace hx300_1 := (HB.out.cell (World.block_lt_of_cell? w _ hx300_1)).trans hx300_1
             replace hx300_2 := (HB.out.cell (World.block_lt_of_cell? w _ hx300_2)).trans hx300_2
             replace hx300_3 := (HB.out.cell (World.block_lt_of_cell? w _ hx300_3)).trans hx300_3
             replace hx300_4 := (HB.out.cell (World.block_lt_of_cell? w _ hx300_4)).trans hx300_4
             have HR300_3 := aM hi300_3
             have HC300_3 := aM hl300_3
             clear hi300_3 hl300_3
             have HR300_4 := aM hi300_4
             have HC300_4 := aM hl300_4
             clear hi300_4 hl300_4
             replace p300 := eq_true p300
             replace q300 := eq_true q300
             have p301 : 0 ≤ (x6_3 : Int) := of_decide_eq_true (by first | (with_reducible assumption) | assumption)
             have q301 : x6_3 < (l1_4.length : Int) := of_decide_eq_true (by first | (with_reducible assumption) | assumption)
             obtain ⟨ad301, A301_3, c301_3, A301_4, c301_4, e301, hx301_0, hx301_1, hx301_2, hx301_3, hx301_4, hl301_3, hi301_3, hl301_4, hi301_4⟩ := at_T25 HR1_4.out x6_3 p301 q301
             have hw301_4 := hx301_4
             have hw301_3 := hx301_3
             have hw301_2 := hx301_2
             have hw301_1 := hx301_1
             have hw301_0 := hx301_0
             cases e301
             replace hx301_0 := (HB.out.cell (World.block_lt_of_cell? w _ hx301_0)).trans hx301_0
             replace hx301_1 := (HB.out.cell (World.block_lt_of_cell? w _ hx301_1)).trans hx301_1
             replace hx301_2 := (HB.out.cell (World.block_lt_of_cell? w _ hx301_2)).trans hx301_2
             replace hx301_3 := (HB.out.cell (World.block_lt_of_cell? w _ hx301_3)).trans hx301_3
             replace hx301_4 := (HB.out.cell (World.block_lt_of_cell? w _ hx301_4)).trans hx301_4
             have HR301_3 := aM hi301_3
             have HC301_3 := aM hl301_3
             clear hi301_3 hl301_3
             have HR301_4 := aM hi301_4
             have HC301_4 := aM hl301_4
             clear hi301_4 hl301_4
             replace p301 := eq_true p301
             replace q301 := eq_true q301
             refine start_ (n := 12) (S := fun w' => w'.cell? ⟨gb296, 0, none⟩ = some (.int .i64 a0_0) ∧ w'.cell? ⟨gb296, 1, none⟩ = some (.int .i64 a0_1) ∧ w'.cell? ⟨gb296, 2, none⟩ = some (.string a0_2) ∧ w'.cell? ⟨gb296, 3, none⟩ = some (.slice A0_3 l0_3.length c0_3) ∧ w'.cell? ⟨gb296, 4, none⟩ = some (.slice (some ad300) l0_4.length c0_4) ∧ w'.cell? ⟨gb297, 0, none⟩ = some (.int .i64 a1_0) ∧ w'.cell? ⟨gb297, 1, none⟩ = some (.int .i64 a1_1) ∧ w'.cell? ⟨gb297, 2, none⟩ = some (.string a1_2) ∧ w'.cell? ⟨gb297, 3, none⟩ = some (.slice A1_3 l1_3.length c1_3) ∧ w'.cell? ⟨gb297, 4, none⟩ = some (.slice (some ad301) l1_4.length c1_4) ∧ w'.cell? (ad300.add ((x6_3).toNat * 5)) = some (.int .i64 ((rd_T25 l0_4 x6_3).f0)) ∧ w'.cell? ⟨(ad300.add ((x6_3).toNat * 5)).block, (ad300.add ((x6_3).toNat * 5)).off + 1, none⟩ = some (.int .i64 ((rd_T25 l0_4 x6_3).f1)) ∧ w'.cell? ⟨(ad300.add ((x6_3).toNat * 5)).block, (ad300.add ((x6_3).toNat * 5)).off + 2, none⟩ = some (.string ((rd_T25 l0_4 x6_3).f2)) ∧ w'.cell? ⟨(ad300.add ((x6_3).toNat * 5)).block, (ad300.add ((x6_3).toNat * 5)).off + 3, none⟩ = some (.slice A300_3 ((rd_T25 l0_4 x6_3).f3).length c300_3) ∧ w'.cell? ⟨(ad300.add ((x6_3).toNat * 5)).block, (ad300.add ((x6_3).toNat * 5)).off + 4, none⟩ = some (.slice A300_4 ((rd_T25 l0_4 x6_3).f4).length c300_4) ∧ w'.cell? (ad301.add ((x6_3).toNat * 5)) = some (.int .i64 ((rd_T25 l1_4 x6_3).f0)) ∧ w'.cell? ⟨(ad301.add ((x6_3).toNat * 5)).block, (ad301.add ((x6_3).toNat * 5)).off + 1, none⟩ = some (.int .i64 ((rd_T25 l1_4 x6_3).f1)) ∧ w'.cell? ⟨(ad301.add ((x6_3).toNat * 5)).block, (ad301.add ((x6_3).toNat * 5)).off + 2, none⟩ = some (.string ((rd_T25 l1_4 x6_3).f2)) ∧ w'.cell? ⟨(ad301.add ((x6_3).toNat * 5)).block, (ad301.add ((x6_3).toNat * 5)).off + 3, none⟩ = some (.slice A301_3 ((rd_T25 l1_4 x6_3).f3).length c301_3) ∧ w'.cell? ⟨(ad301.add ((x6_3).toNat * 5)).block, (ad301.add ((x6_3).toNat * 5)).off + 4, none⟩ = some (.slice A301_4 ((rd_T25 l1_4 x6_3).f4).length c301_4)) (ds := []) #[false, false, false, false, false, false, false, false, false, false, false, false] (by kernel_rfl) rfl rfl ⟨(blk_cell BK296.out 0).trans rfl, (blk_cell BK296.out 1).trans rfl, (blk_cell BK296.out 2).trans rfl, (blk_cell BK296.out 3).trans rfl, (blk_cell BK296.out 4).trans rfl, (blk_cell BK297.out 0).trans rfl, (blk_cell BK297.out 1).trans rfl, (blk_cell BK297.out 2).trans rfl, (blk_cell BK297.out 3).trans rfl, (blk_cell BK297.out 4).trans rfl, ((HB.out.cell (World.block_lt_of_cell? w _ hw300_0)).trans hw300_0), ((HB.out.cell (World.block_lt_of_cell? w _ hw300_1)).trans hw300_1), ((HB.out.cell (World.block_lt_of_cell? w _ hw300_2)).trans hw300_2), ((HB.out.cell (World.block_lt_of_cell? w _ hw300_3)).trans hw300_3), ((HB.out.cell (World.block_lt_of_cell? w _ hw300_4)).trans hw300_4), ((HB.out.cell (World.block_lt_of_cell? w _ hw301_0)).trans hw301_0), ((HB.out.cell (World.block_lt_of_cell? w _ hw301_1)).trans hw301_1), ((HB.out.cell (World.block_lt_of_cell? w _ hw301_2)).trans hw301_2), ((HB.out.cell (World.block_lt_of_cell? w _ hw301_3)).trans hw301_3), ((HB.out.cell (World.block_lt_of_cell? w _ hw301_4)).trans hw301_4)⟩ (fun hHeld => ?_); refine with_tabW spec_Same.tab11 spec_Same.bits11 (fun HT_ HW_ => ?_)
             generalize wr.drew = w49 at BK296 BK297 HB HR300_3 HR300_4 HR301_3 HR301_4 hx300_0 hx300_1 hx300_2 hx300_3 hx300_4 hx301_0 hx301_1 hx301_2 hx301_3 hx301_4 hHeld ⊢
             refine pure_ (i := 0) (N := some 69) (v := ?_) (a' := ?_) #[true, false, false, false, false, false, false, false, false, false, false, false] rfl rfl (any_of HT_.out (by kernel_rfl)) (fun _ _ _ h => h) (Or.inl ⟨by rfl, ?_⟩) ?_ ?_
             rotate_left
             ·intro w'; go_simp; with_reducible rfl
             rotate_left
             ·simp only [Act.put, sA, sB, sC, i64_w, i32_w]; rfl
             refine pure_ (i := 2) (N := some 71) (v := ?_) (a' := ?_) #[true, false, true, false, false, false, false, false, false, false, false, false] rfl rfl (any_of HT_.out (by kernel_rfl)) (fun _ _ _ h => h) (Or.inl ⟨by rfl, ?_⟩) ?_ ?_
             rotate_left
             ·intro w'; go_simp; with_reducible rfl
             rotate_left
             ·simp only [Act.put, sA, sB, sC, i64_w, i32_w]; rfl
             refine pure_ (i := 5) (N := some 74) (v := ?_) (a' := ?_) #[true, false, true, false, false, true, false, false, false, false, false, false] rfl rfl (any_of HT_.out (by kernel_rfl)) (fun _ _ _ h => h) (Or.inl ⟨by rfl, ?_⟩) ?_ ?_
             rotate_left
             ·intro w'; go_simp; with_reducible rfl
             rotate_left
             ·simp only [Act.put, sA, sB, sC, i64_w, i32_w]; rfl
             refine pure_ (i := 7) (N := some 76) (v := ?_) (a' := ?_) #[true, false, true, false, false, true, false, true, false, false, false, false] rfl rfl (any_of HT_.out (by kernel_rfl)) (fun _ _ _ h => h) (Or.inl ⟨by rfl, ?_⟩) ?_ ?_
             rotate_left
             ·intro w'; go_simp; with_reducible rfl
             rotate_left
             ·simp only [Act.put, sA, sB, sC, i64_w, i32_w]; rfl
             refine take_ (i := 1) (N := some 70) (v := ?_) (a' := ?_) #[true, true, true, false, false, true, false, true, false, false, false, false] rfl rfl (take_ofW HT_.out HW_.out (by kernel_rfl)) (fun _ _ _ h => h) (Or.inl ⟨by rfl, ?_⟩) hHeld ?_ ?_
             rotate_left
             ·rintro w' ⟨s0, s1, s2, s3, s4, s5, s6, s7, s8, s9, s10, s11, s12, s13, s14, s15, s16, s17, s18, s19⟩
              go_simp; with_reducible rfl
             rotate_left
             ·simp only [Act.put, sA, sB, sC, i64_w, i32_w]; rfl
             refine pure_ (i := 3) (N := some 72) (v := ?_) (a' := ?_) #[true, true, true, true, false, true, false, true, false, false, false, false] rfl rfl (any_of HT_.out (by kernel_rfl)) (fun _ _ _ h => h) (Or.inl ⟨by rfl, ?_⟩) ?_ ?_
             rotate_left
             ·intro w'; go_simp; with_reducible rfl
             rotate_left
             ·simp only [Act.put, sA, sB, sC, i64_w, i32_w]; rfl
             refine take_ (i := 4) (N := some 73) (v := ?_) (a' := ?_) #[true, true, true, true, true, true, false, true, false, false, false, false] rfl rfl (take_ofW HT_.out HW_.out (by kernel_rfl)) (fun _ _ _ h => h) (Or.inl ⟨by rfl, ?_⟩) hHeld ?_ ?_
             rotate_left
             ·rintro w' ⟨s0, s1, s2, s3, s4, s5, s6, s7, s8, s9, s10, s11, s12, s13, s14, s15, s16, s17, s18, s19⟩
              go_simp; with_reducible rfl
             rotate_left
             ·simp only [Act.put, sA, sB, sC, i64_w, i32_w]; rfl
             refine take_ (i := 6) (N := some 75) (v := ?_) (a' := ?_) #[true, true, true, true, true, true, true, true, false, false, false, false] rfl rfl (take_ofW HT_.out HW_.out (by kernel_rfl)) (fun _ _ _ h => h) (Or.inl ⟨by rfl, ?_⟩) hHeld ?_ ?_
             rotate_left
             ·rintro w' ⟨s0, s1, s2, s3, s4, s5, s6, s7, s8, s9, s10, s11, s12, s13, s14, s15, s16, s17, s18, s19⟩
              go_simp; with_reducible rfl
             rotate_left
             ·simp only [Act.put, sA, sB, sC, i64_w, i32_w]; rfl
             refine pure_ (i := 8) (N := some 77) (v := ?_) (a' := ?_) #[true, true, true, true, true, true, true, true, true, false, false, false] rfl rfl (any_of HT_.out (by kernel_rfl)) (fun _ _ _ h => h) (Or.inl ⟨by rfl, ?_⟩) ?_ ?_
             rotate_left
             ·intro w'; go_simp; with_reducible rfl
             rotate_left
             ·simp only [Act.put, sA, sB, sC, i64_w, i32_w]; rfl
             refine take_ (i := 9) (N := some 78) (v := ?_) (a' := ?_) #[true, true, true, true, true, true, true, true, true, true, false, false] rfl rfl (take_ofW HT_.out HW_.out (by kernel_rfl)) (fun _ _ _ h => h) (Or.inl ⟨by rfl, ?_⟩) hHeld ?_ ?_
             rotate_left
             ·rintro w' ⟨s0, s1, s2, s3, s4, s5, s6, s7, s8, s9, s10, s11, s12, s13, s14, s15, s16, s17, s18, s19⟩
              go_simp; with_reducible rfl
             rotate_left
             ·simp only [Act.put, sA, sB, sC, i64_w, i32_w]; rfl
             refine one_ (i := 10) (N := some 79) #[true, true, true, true, true, true, true, true, true, true, true, false] rfl rfl (one_of HT_.out (by kernel_rfl)) (by decide) (fun K hK => ?_)
             refine goes_ Try.func18 (by kernel_rfl) rfl #[.agg #[.int .i64 ((rd_T25 l0_4 x6_3).f0), .int .i64 ((rd_T25 l0_4 x6_3).f1), .string ((rd_T25 l0_4 x6_3).f2), .slice A300_3 ((rd_T25 l0_4 x6_3).f3).length c300_3, .slice A300_4 ((rd_T25 l0_4 x6_3).f4).length c300_4], .agg #[.int .i64 ((rd_T25 l1_4 x6_3).f0), .int .i64 ((rd_T25 l1_4 x6_3).f1), .string ((rd_T25 l1_4 x6_3).f2), .slice A301_3 ((rd_T25 l1_4 x6_3).f3).length c301_3, .slice A301_4 ((rd_T25 l1_4 x6_3).f4).length c301_4]] (by rfl) rfl rfl (by (try simp only [List.map_toArray, List.map_cons, List.map_nil]); first | done | rfl | (simp only [List.length_drop, List.length_take]; rfl)) ?_
             with_reducible refine (ih k3 (by have := HJ2.out; have := HK2.out; have := HK3.out; omega) ((rd_T25 l0_4 x6_3).f0) ((rd_T25 l0_4 x6_3).f1) ((rd_T25 l0_4 x6_3).f2) _ _ ((rd_T25 l0_4 x6_3).f3) _ _ ((rd_T25 l0_4 x6_3).f4) ((rd_T25 l1_4 x6_3).f0) ((rd_T25 l1_4 x6_3).f1) ((rd_T25 l1_4 x6_3).f2) _ _ ((rd_T25 l1_4 x6_3).f3) _ _ ((rd_T25 l1_4 x6_3).f4) false _ ?side1 ?side2 ?side3 ?side4 ?side5 ?side6 ?side7 ?side8 A41.out).mono ?_
             (case side1 => repeat (first | exact (Kd.C_below HR300_3.out HB.out) | (with_reducible refine Kd.C_alloc ?_ _) | (with_reducible refine Kd.C_drewN ?_ _) | (with_reducible refine Kd.C_drew ?_)))
             (case side2 => exact HC300_3.out)
             (case side3 => repeat (first | exact (Kd.C_below HR300_4.out HB.out) | (with_reducible refine Kd.C_alloc ?_ _) | (with_reducible refine Kd.C_drewN ?_ _) | (with_reducible refine Kd.C_drew ?_)))
             (case side4 => exact HC300_4.out)
             (case side5 => repeat (first | exact (Kd.C_below HR301_3.out HB.out) | (with_reducible refine Kd.C_alloc ?_ _) | (with_reducible refine Kd.C_drewN ?_ _) | (with_reducible refine Kd.C_drew ?_)))
             (case side6 => exact HC301_3.out)
             (case side7 => repeat (first | exact (Kd.C_below HR301_4.out HB.out) | (with_reducible refine Kd.C_alloc ?_ _) | (with_reducible refine Kd.C_drewN ?_ _) | (with_reducible refine Kd.C_drew ?_)))
             (case side8 => exact HC301_4.out)
             rintro e w50 ⟨rfl, hb⟩
             refine ⟨_, rfl, ?_⟩
             have n0_ := aM (blk_below (g := gb296) (o := .cells #[.int .i64 a0_0, .int .i64 a0_1, .string a0_2, .slice A0_3 l0_3.length c0_3, .slice (some ad300) l0_4.length c0_4] 25 (0, 0)) (by (with_reducible repeat (first | refine blk_drewN ?_ _ | refine blk_drew ?_ | refine blk_alloc ?_ _)); exact BK296.out) hb)
             have n1_ := aM (blk_below (g := gb297) (o := .cells #[.int .i64 a1_0, .int .i64 a1_1, .string a1_2, .slice A1_3 l1_3.length c1_3, .slice (some ad301) l1_4.length c1_4] 25 (0, 0)) (by (with_reducible repeat (first | refine blk_drewN ?_ _ | refine blk_drew ?_ | refine blk_alloc ?_ _)); exact BK297.out) hb)
             have n2_ := aM (below_step (by repeat (first | (with_reducible first | exact HB.out | apply below_alloc | apply pw_below_drewN | apply below_drew1 | refine below_set ?_ GE296.out | refine below_set ?_ GE297.out) | exact HB.out)) hb)
             clear BK296 BK297 HB; have BK296 := n0_; have BK297 := n1_; have HB := n2_; clear n0_ n1_ n2_
             (try clear hb)
             (try clear hb2)
             (try clear hk)
             (try clear hi)
             refine hK.out _ _ ⟨(blk_cell BK296.out 0).trans rfl, (blk_cell BK296.out 1).trans rfl, (blk_cell BK296.out 2).trans rfl, (blk_cell BK296.out 3).trans rfl, (blk_cell BK296.out 4).trans rfl, (blk_cell BK297.out 0).trans rfl, (blk_cell BK297.out 1).trans rfl, (blk_cell BK297.out 2).trans rfl, (blk_cell BK297.out 3).trans rfl, (blk_cell BK297.out 4).trans rfl, ((HB.out.cell (World.block_lt_of_cell? w _ hw300_0)).trans hw300_0), ((HB.out.cell (World.block_lt_of_cell? w _ hw300_1)).trans hw300_1), ((HB.out.cell (World.block_lt_of_cell? w _ hw300_2)).trans hw300_2), ((HB.out.cell (World.block_lt_of_cell? w _ hw300_3)).trans hw300_3), ((HB.out.cell (World.block_lt_of_cell? w _ hw300_4)).trans hw300_4), ((HB.out.cell (World.block_lt_of_cell? w _ hw301_0)).trans hw301_0), ((HB.out.cell (World.block_lt_of_cell? w _ hw301_1)).trans hw301_1), ((HB.out.cell (World.block_lt_of_cell? w _ hw301_2)).trans hw301_2), ((HB.out.cell (World.block_lt_of_cell? w _ hw301_3)).trans hw301_3), ((HB.out.cell (World.block_lt_of_cell? w _ hw301_4)).trans hw301_4)⟩ (fun hHeld => ?_)
             clear hK K
             refine norm_ (a' := ?_) ?_ ?_
             rotate_left
             ·show Act.put _ (some 79) _ = _
              simp only [Act.put, sA, sB, sC, i64_w, i32_w]; rfl
             refine pure_ (i := 11) (N := some 80) (v := ?_) (a' := ?_) #[true, true, true, true, true, true, true, true, true, true, true, true] rfl rfl (any_of HT_.out (by kernel_rfl)) (fun _ _ _ h => h) (Or.inl ⟨by rfl, ?_⟩) ?_ ?_
             rotate_left
             ·intro w'; go_simp; with_reducible rfl
             rotate_left
             ·simp only [Act.put, sA, sB, sC, i64_w, i32_w]; rfl
             refine done_ (done_of HT_.out (by kernel_rfl)) ?_
             try go_wp2
             go_ret
             exact ⟨by first | rfl | (simp [errW_none, errW_some] <;> rfl) | (simp [*, errW_none, errW_some] <;> rfl), by repeat (first | (with_reducible first | exact HB.out | apply below_alloc | apply pw_below_drewN | apply below_drew1 | refine below_set ?_ GE296.out | refine below_set ?_ GE297.out) | exact HB.out)⟩
           ·rw [if_neg c40] at H
            exact absurd H (by simp)
          ·rw [if_neg c39] at H
           exact absurd H (by simp)
         ·rw [if_neg c38] at H
          have c38b0 : decide (x6_3 < (l0_4.length : Int)) = false := decide_eq_false c38
          clear c38
          obtain rfl := Option.some.inj H
          have hnb51 := NB296_297.out
          have hnc51 := NB297_296.out
          have hcz52_0 : wr.cell? ⟨gb296, 0, none⟩ = some (.int .i64 a0_0) := (blk_cell BK296.out 0).trans rfl
          have hcz52_1 : wr.cell? ⟨gb296, 1, none⟩ = some (.int .i64 a0_1) := (blk_cell BK296.out 1).trans rfl
          have hcz52_2 : wr.cell? ⟨gb296, 2, none⟩ = some (.string a0_2) := (blk_cell BK296.out 2).trans rfl
          have hcz52_3 : wr.cell? ⟨gb296, 3, none⟩ = some (.slice A0_3 l0_3.length c0_3) := (blk_cell BK296.out 3).trans rfl
          have hcz52_4 : wr.cell? ⟨gb296, 4, none⟩ = some (.slice A0_4 l0_4.length c0_4) := (blk_cell BK296.out 4).trans rfl
          have hfz52_0 := blk_frozen BK296.out 0
          have hfz52_1 := blk_frozen BK296.out 1
          have hfz52_2 := blk_frozen BK296.out 2
          have hfz52_3 := blk_frozen BK296.out 3
          have hfz52_4 := blk_frozen BK296.out 4
          go_wp2
          go_ret
          exact ⟨by first | rfl | (simp [errW_none, errW_some] <;> rfl) | (simp [*, errW_none, errW_some] <;> rfl), by repeat (first | (with_reducible first | exact HB.out | apply below_alloc | apply pw_below_drewN | apply below_drew1 | refine below_set ?_ GE296.out | refine below_set ?_ GE297.out) | exact HB.out)⟩
end Go.Proofs.Ytaembebbaejfiaa.PS
namespace Go.Proofs.Ytaembebbaejfiaa.Tr
open Go.RowKit Go.Proofs.YtaembebbaejfiaaW.PrintWords Go.Proofs.YtaembebbaejfiaaW.PrintLast Go.Proofs.Ytaembebbaejfiaa.Str Go.Proofs.Ytaembebbaejfiaa.Kit Go.Proofs.Ytaembebbaejfiaa.MapV Go.Proofs.Ytaembebbaejfiaa.Frame Go.Proofs.Ytaembebbaejfiaa.PS
set_option linter.unusedVariables false
set_option linter.unusedSimpArgs false
inductive Short : VS → Prop
 | mk (x : VS) (hk : x.f3.length ≤ 8796093022000) (hl : x.f4.length ≤ 1759218604400) (hv : ∀ v, v ∈ x.f4 → Short v) : Short x
theorem rdS' {xs : List VS} {i : Nat} (h : i < xs.length) : rd_T25 xs (i : Int) = xs[i] := by
 unfold rd_T25
 simp [List.getD_eq_getElem?_getD, h]
theorem wrapQ (i : Nat) (h : i < 4611686018427387904) : wrap64 ((i : Int) + 1) = ((i + 1 : Nat) : Int) := by unfold wrap64; omega
def SameEv (x : VS) : Prop := Ev (fun k => spec_Same.f k x.f0 x.f1 x.f2 x.f3 x.f4 x.f0 x.f1 x.f2 x.f3 x.f4) true
theorem ev_same_l1 (a b : Int) (c : BA) (ks : List BA) (vs : List VS) (hl : vs.length ≤ 1759218604400) (hch : ∀ v, v ∈ vs → SameEv v) : ∀ (d i : Nat), i + d = vs.length → Ev (fun k => spec_Same.l1 k (i : Int) a b c ks vs a b c ks vs) true := by
 intro d
 induction d with
 | zero =>
  intro i hi
  refine Ev.step (fun k => ?_) (Ev.now _)
  simp only [spec_Same.l1]
  rw [if_neg (by omega)]
 | succ d ih =>
  intro i hi
  have hlt : i < vs.length := by omega
  refine Ev.step (f := fun k => (spec_Same.f k vs[i].f0 vs[i].f1 vs[i].f2 vs[i].f3 vs[i].f4 vs[i].f0 vs[i].f1 vs[i].f2 vs[i].f3 vs[i].f4).bind fun t => if t = true then spec_Same.l1 k ((i + 1 : Nat) : Int) a b c ks vs a b c ks vs else some false) (fun k => ?_) ?_
  ·simp only [spec_Same.l1]
   rw [if_pos (by omega), if_pos (by omega), if_pos (by omega), rdS' hlt, wrapQ i (by omega)]
  ·refine Ev.bind (hch vs[i] (List.getElem_mem hlt)) ?_
   simp only [if_true]
   exact ih (i + 1) (by omega)
theorem ev_same_l0 (a b : Int) (c : BA) (ks : List BA) (vs : List VS) (hk : ks.length ≤ 8796093022000) (hl : vs.length ≤ 1759218604400) (hch : ∀ v, v ∈ vs → SameEv v) : ∀ (d i : Nat), i + d = ks.length → Ev (fun k => spec_Same.l0 k (i : Int) a b c ks vs a b c ks vs) true := by
 intro d
 induction d with
 | zero =>
  intro i hi
  refine Ev.step (f := fun k => spec_Same.l1 k ((0 : Nat) : Int) a b c ks vs a b c ks vs) (fun k => ?_) (ev_same_l1 a b c ks vs hl hch vs.length 0 (by omega))
  simp only [spec_Same.l0]
  rw [if_neg (by omega)]
  rfl
 | succ d ih =>
  intro i hi
  refine Ev.step (f := fun k => spec_Same.l0 k ((i + 1 : Nat) : Int) a b c ks vs a b c ks vs) (fun k => ?_) (ih (i + 1) (by omega))
  simp only [spec_Same.l0]
  rw [if_pos (by omega), if_pos (by omega), if_pos (by omega), if_pos trivial, wrapQ i (by omega)]
theorem ev_same : ∀ x : VS, Short x → SameEv x := by
 intro x hx
 induction hx with
 | mk x hk hl hv ih =>
  obtain ⟨k, n, t, ks, vs⟩ := x
  have h := ev_same_l0 k n t ks vs hk hl ih ks.length 0 (by omega)
  unfold SameEv
  refine Ev.step (f := fun j => spec_Same.j0 j false k n t ks vs k n t ks vs) (fun j => ?_) (Ev.step (f := fun j => spec_Same.l0 j ((0 : Nat) : Int) k n t ks vs k n t ks vs) (fun j => ?_) h)
  ·simp only [spec_Same.f, if_true, bne_self_eq_false]
  ·simp only [spec_Same.j0, if_false, Bool.false_eq_true]
   rfl
end Go.Proofs.Ytaembebbaejfiaa.Tr
namespace Go.Proofs.Ytaembebbaejfiaa.Tr
open Go.RowKit Go.Proofs.YtaembebbaejfiaaW.PrintWords Go.Proofs.YtaembebbaejfiaaW.PrintLast Go.Proofs.Ytaembebbaejfiaa.Str Go.Proofs.Ytaembebbaejfiaa.Kit Go.Proofs.Ytaembebbaejfiaa.MapV Go.Proofs.Ytaembebbaejfiaa.Frame Go.Proofs.Ytaembebbaejfiaa.PS
set_option linter.unusedVariables false
set_option linter.unusedSimpArgs false
abbrev kFix (w : World) : Kd VS := held 5 (fun x cs => kS.K w x cs) (fun hp => kS.K_len hp) (fun hp => kS.K_one hp)
structure Reads (w : World) (x : VS) (A3 : Option Addr) (c3 : Nat) (A4 : Option Addr) (c4 : Nat) : Prop where
 l3 : x.f3.length ≤ c3
 hk : Kd.string.C w A3 x.f3.length x.f3
 l4 : x.f4.length ≤ c4
 hv : kS.C w A4 x.f4.length x.f4
theorem Reads.below {w w1 : World} {x : VS} {A3 A4 : Option Addr} {c3 c4 : Nat} (h : Reads w x A3 c3 A4 c4) (hb : Below w.heap.size w w1) : Reads w1 x A3 c3 A4 c4 := ⟨h.l3, Kd.C_below h.hk hb, h.l4, Kd.C_below h.hv hb⟩
def Gives (x : VS) (w : World) (e : Ending) (w' : World) : Prop := ∃ A3 c3 A4 c4, e = .returned (.agg #[.int .i64 x.f0, .int .i64 x.f1, .string x.f2, .slice A3 x.f3.length c3, .slice A4 x.f4.length c4]) ∧ Reads w' x A3 c3 A4 c4 ∧ Below w.heap.size w w'
def mapsOf (ks : List BA) (vs : List VS) : VS := ⟨5, 0, ⟨#[]⟩, (fitW ks vs [] []).1, (fitW ks vs [] []).2⟩
def GivesR (W : World) (x : VS) (w : World) (e : Ending) (w' : World) : Prop := ∃ v3 v4, e = .returned (.agg #[.int .i64 x.f0, .int .i64 x.f1, .string x.f2, v3, v4]) ∧ Kd.string.R 9 w' w.heap.size (fun k => w.heap.size ≤ k) v3 x.f3 ∧ (kFix W).R 25 w' w.heap.size (fun k => w.heap.size ≤ k) v4 x.f4 ∧ Below w.heap.size w w'
theorem fix_reads {W w : World} {x : VS} {v3 v4 : Value} {b3 b4 : Nat} {ok3 ok4 : Nat → Prop} (hb : Below W.heap.size W w) (h3 : Kd.string.R 9 w b3 ok3 v3 x.f3) (h4 : (kFix W).R 25 w b4 ok4 v4 x.f4) : ∃ A3 c3 A4 c4, v3 = .slice A3 x.f3.length c3 ∧ v4 = .slice A4 x.f4.length c4 ∧ Reads w x A3 c3 A4 c4 := by
 obtain ⟨B3, d3, rfl, m3, g3⟩ := Kd.R_reads h3
 obtain ⟨B4, d4, rfl, m4, g4⟩ := Kd.R_reads h4
 exact ⟨B3, d3, B4, d4, rfl, rfl, m3, g3, m4, ReadsRow.imp_ g4 (Below.refl _ _) (fun _ _ hp => kS.K_below hb hp)⟩
abbrev zC : Array Value := #[.int .i64 0, .int .i64 0, .string ⟨#[]⟩, .slice none 0 0, .slice none 0 0]
theorem empty_gives (w : World) : Calls Try.prog 24 #[] w fun e w' => e = .returned (.agg #[.int .i64 5, .int .i64 0, .string ⟨#[]⟩, .slice none 0 0, .slice none 0 0]) ∧ Below w.heap.size w w' := by
 have h0 := cb_new w (.cells #[.int .i64 0, .int .i64 0, .string ⟨#[]⟩, .slice none 0 0, .slice none 0 0] 25)
 have HB := aM ((Below.refl _ w).alloc (Nat.le_refl _) (.cells #[.int .i64 0, .int .i64 0, .string ⟨#[]⟩, .slice none 0 0, .slice none 0 0] 25))
 go_enter Try.func24, Try.ntmps24
 go_wp2_with (refine store_val (.tmp 0) (.tmp 1) rfl rfl rfl rfl h0 ?_)
 exact bodyPost_ret (v := .agg #[.int .i64 5, .int .i64 0, .string ⟨#[]⟩, .slice none 0 0, .slice none 0 0]) (val_result rfl rfl (setRow_heap _ _ _ _ _ _ h0)) rfl ⟨rfl, pw_below_grown HB.out (some w.heap.size) HB.out.size (grown_setRow _ w.heap.size _) (fun k hk => by injection hk with hk; have h2 : w.heap.size = k := hk; omega)⟩
theorem SmallS.short {x : VS} (h : SmallS x) : Short x := by
 induction h with
 | mk x ht hk hkl hvl hv ih => exact .mk x hkl hvl ih
theorem SmallS.at {x v : VS} (h : SmallS x) (hv : v ∈ x.f4) : SmallS v := by
 cases h with
 | mk _ _ _ _ _ h => exact h v hv
theorem Canon.at {x v : VS} (h : Canon x) (hv : v ∈ x.f4) : Canon v := by
 cases h with
 | list l h => exact h v hv
 | map ks vs hr hl h => exact h v hv
 | _ => cases hv
end Go.Proofs.Ytaembebbaejfiaa.Tr
namespace Go.Proofs.Ytaembebbaejfiaa.Tr
open Go.RowKit Go.Proofs.YtaembebbaejfiaaW.PrintWords Go.Proofs.YtaembebbaejfiaaW.PrintLast Go.Proofs.Ytaembebbaejfiaa.Str Go.Proofs.Ytaembebbaejfiaa.Kit Go.Proofs.Ytaembebbaejfiaa.MapV Go.Proofs.Ytaembebbaejfiaa.Frame Go.Proofs.Ytaembebbaejfiaa.PS
set_option linter.unusedVariables false
set_option linter.unusedSimpArgs false
end Go.Proofs.Ytaembebbaejfiaa.Tr
namespace Go.Proofs.Ytaembebbaejfiaa.Tr
open Go.RowKit Go.Proofs.YtaembebbaejfiaaW.PrintWords Go.Proofs.YtaembebbaejfiaaW.PrintLast Go.Proofs.Ytaembebbaejfiaa.Str Go.Proofs.Ytaembebbaejfiaa.Kit Go.Proofs.Ytaembebbaejfiaa.MapV Go.Proofs.Ytaembebbaejfiaa.Frame Go.Proofs.Ytaembebbaejfiaa.PS
set_option linter.unusedVariables false
set_option linter.unusedSimpArgs false
theorem need_str (v : Value) (w : World) : (Instr.typeAssert (.iface 9 v) 20 9 false).run Try.prog w = .ok v w := by kernel_rfl
theorem need_val (v : Value) (w : World) : (Instr.typeAssert (.iface 25 v) 20 25 false).run Try.prog w = .ok v w := by kernel_rfl
def Turnwise (w : World) (b : Nat) (ps : List (BA × VS)) : Prop := b < w.heap.size ∧ ∀ (j : Nat) (hj : j < ps.length), ∃ A5 c5 A6 c6, w.cell? ⟨b, 2 * j, none⟩ = some (.iface 9 (.string ps[j].1)) ∧ w.cell? ⟨b, 2 * j + 1, none⟩ = some (.iface 25 (.agg #[.int .i64 ps[j].2.f0, .int .i64 ps[j].2.f1, .string ps[j].2.f2, .slice A5 ps[j].2.f3.length c5, .slice A6 ps[j].2.f4.length c6]))
 ∧ kS.K w ps[j].2 [.int .i64 ps[j].2.f0, .int .i64 ps[j].2.f1, .string ps[j].2.f2, .slice A5 ps[j].2.f3.length c5, .slice A6 ps[j].2.f4.length c6]
theorem Turnwise.below {w w1 : World} {b : Nat} {ps : List (BA × VS)} (h : Turnwise w b ps) (hb : Below w.heap.size w w1) : Turnwise w1 b ps :=
 ⟨Nat.lt_of_lt_of_le h.1 hb.size, fun j hj => by
  obtain ⟨A5, c5, A6, c6, h1, h2, h3⟩ := h.2 j hj
  exact ⟨A5, c5, A6, c6, pw_cell_below hb h1, pw_cell_below hb h2, kS.K_below hb h3⟩⟩
set_option maxHeartbeats 6400000 in
set_option maxRecDepth 100000 in
theorem specM (ps : List (BA × VS)) (hps : ps.length ≤ 1000000) (b n c : Nat) (hn : n = 2 * ps.length) (w : World) (h : Turnwise w b ps) :
  Calls Try.prog 16 #[.slice (some ⟨b, 0, none⟩) n c] w (GivesR w (mapsOf (ps.map (·.1)) (ps.map (·.2))) w) := by
 obtain ⟨KF, VF, hF⟩ : ∃ KF VF, fitW (ps.map (·.1)) (ps.map (·.2)) [] [] = (KF, VF) := ⟨_, _, rfl⟩
 have hgoal : mapsOf (ps.map (·.1)) (ps.map (·.2)) = ⟨5, 0, ⟨#[]⟩, KF, VF⟩ := by unfold mapsOf; rw [hF]
 rw [hgoal]
 have HB := aM (below_alloc (Below.refl w.heap.size w) (.cells zC 25))
 have hrb := cb_new w (.cells zC 25)
 have HR0 := aM hrb
 have HT := aM h
 have HF := aM hF
 have HN := aM hn
 have HPS := aM hps
 have hbw := h.1
 clear h hgoal hrb hF hn hps
 have CE := aM (empty_gives (w.alloc (.cells zC 25)))
 go_enter Try.func16, Try.ntmps16
 go_wp2_with fail
 refine CE.out.mono ?_
 rintro e w1 ⟨rfl, hb⟩
 have hbn := below_alloc (Below.refl w1.heap.size w1) (.cells #[.int .i64 5, .int .i64 0, .string ⟨#[]⟩, .slice none 0 0, .slice none 0 0] 25)
 have hsz1 := hb.size
 rw [World.size_alloc] at hsz1
 have HB2 := aM (hb_then (hb_then HB.out hb) hbn)
 have HR2 := aM (blk_alloc ((hb.block _ (cb_lt HR0.out)).trans HR0.out) (.cells #[.int .i64 5, .int .i64 0, .string ⟨#[]⟩, .slice none 0 0, .slice none 0 0] 25))
 have HG2 := aM (cb_new w1 (.cells #[.int .i64 5, .int .i64 0, .string ⟨#[]⟩, .slice none 0 0, .slice none 0 0] 25))
 clear hb hbn CE HB HR0
 go_wp2
 generalize hW2 : w1.alloc _ = W2 at HB2 HR2 HG2 ⊢
 generalize hb3 : w1.heap.size = b3 at HG2 hsz1 ⊢
 clear hW2 hb3
 go_loopw [4] (fun v wr => ∃ (i m : Nat) (Ks : List BA) (Vs : List VS) (A7 A8 : Option Addr) (c7 c8 : Nat), v = .int .i64 m ∧ Aside0 (m = 2 * i) ∧ Aside0 (i ≤ ps.length) ∧ Aside0 (Ks.length = Vs.length) ∧ Aside0 (Vs.length ≤ i) ∧ Aside0 (fitW ((ps.map (·.1)).drop i) ((ps.map (·.2)).drop i) Ks Vs = (KF, VF))
  ∧ Aside0 (wr.heap[b3]? = some (.cells #[.int .i64 5, .int .i64 0, .string ⟨#[]⟩, .slice A7 Ks.length c7, .slice A8 Vs.length c8] 25 (0, 0)))
  ∧ Aside0 (wr.heap[w.heap.size]? = some (.cells zC 25 (0, 0))) ∧ Aside0 (Below w.heap.size w wr)
  ∧ Aside0 (Kd.string.R 9 wr b3 (fun k => b3 < k) (.slice A7 Ks.length c7) Ks)
  ∧ Aside0 ((kFix w).R 25 wr b3 (fun k => b3 < k) (.slice A8 Vs.length c8) Vs)) (fun v _ => n - (intOf v).toNat)
 case atStart => exact ⟨0, 0, [], [], none, none, 0, 0, rfl, ⟨rfl⟩, ⟨Nat.zero_le _⟩, ⟨rfl⟩, ⟨Nat.le_refl _⟩, HF, HG2, HR2, HB2, ⟨Kd.R_nil _ _ _ _ _⟩, ⟨Kd.R_nil _ _ _ _ _⟩⟩
 case round =>
  clear HG2 HR2 HB2
  obtain ⟨i, m, Ks, Vs, A7, A8, c7, c8, rfl, HM, HI, HKV, HVI, HFI, HG, HR, HB, HK, HV⟩ := hrel
  have q0 : (0 : Int) ≤ (m : Int) := by omega
  by_cases hlv : i < ps.length
  ·obtain ⟨A5, c5, A6, c6, h1, h2, h3⟩ := HT.out.2 i hlv
   have m0 := pw_cell_below HB.out h1
   have m1 := pw_cell_below HB.out h2
   rw [← HM.out] at m0 m1
   obtain ⟨key, hkey⟩ : ∃ key, ps[i].1 = key := ⟨_, rfl⟩
   obtain ⟨u, hu⟩ : ∃ u, ps[i].2 = u := ⟨_, rfl⟩
   rw [hkey] at m0
   rw [hu] at m1 h3
   have HU := aM (show ∃ h : i < ps.length, ps[i].1 = key ∧ ps[i].2 = u from ⟨hlv, hkey, hu⟩)
   obtain ⟨u0, u1, u2, u3, u4⟩ := u
   have HKE := aM h3
   have HLV := aM hlv
   have q1 : (m : Int) + 1 < (n : Int) := by have := HM.out; have := HN.out; omega
   have q3 : (m : Int) < (n : Int) := by omega
   have q4 : (0 : Int) ≤ (m : Int) + 1 := by omega
   have q6 : ((m : Int) + 1).toNat = m + 1 := by omega
   have hd1 : decide ((m : Int) + 1 < (n : Int)) = true := decide_eq_true q1
   have e0 : wr.cell? ⟨b3, 0, none⟩ = some (.int .i64 5) := cb_cell (i := 0) HG.out rfl
   have e1 : wr.cell? ⟨b3, 1, none⟩ = some (.int .i64 0) := cb_cell (i := 1) HG.out rfl
   have e2 : wr.cell? ⟨b3, 2, none⟩ = some (.string ⟨#[]⟩) := cb_cell (i := 2) HG.out rfl
   have e3 : wr.cell? ⟨b3, 3, none⟩ = some (.slice A7 Ks.length c7) := cb_cell (i := 3) HG.out rfl
   have e4 : wr.cell? ⟨b3, 4, none⟩ = some (.slice A8 Vs.length c8) := cb_cell (i := 4) HG.out rfl
   have hvn : Vs.length ≤ 1759218604400 := by have := HVI.out; have := HI.out; have := HPS.out; omega
   obtain ⟨_, l7, r7⟩ := Kd.R_reads' HK.out
   obtain ⟨_, l8, r8⟩ := Kd.R_reads' HV.out
   obtain ⟨K2, hK2⟩ : ∃ K2, withK Ks key = K2 := ⟨_, rfl⟩
   obtain ⟨V2, hV2⟩ : ∃ V2, withV Ks Vs key (⟨u0, u1, u2, u3, u4⟩ : VS) = V2 := ⟨_, rfl⟩
   have hl1 := withV_length (key := key) (x := (⟨u0, u1, u2, u3, u4⟩ : VS)) HKV.out
   have hl2 := withK_length (ks := Ks) (key := key)
   rw [hK2] at hl1 hl2
   rw [hV2] at hl1
   have HL1 := aM hl1.symm
   have HL2 := aM (show V2.length ≤ i + 1 by have := HVI.out; have := HKV.out; omega)
   have HNX := aM (show fitW ((ps.map (·.1)).drop (i + 1)) ((ps.map (·.2)).drop (i + 1)) K2 V2 = (KF, VF) by
    have := HFI.out
    rw [List.drop_eq_getElem_cons (show i < (ps.map (·.1)).length by rw [List.length_map]; exact hlv), List.drop_eq_getElem_cons (show i < (ps.map (·.2)).length by rw [List.length_map]; exact hlv), List.getElem_map, List.getElem_map, hkey, hu, fitW, hK2, hV2] at this
    exact this)
   have CW := aM (WithP (fun x cs => kS.K w x cs) (fun hp => kS.K_len hp) (fun hp => kS.K_one hp) (A3 := A7) (A4 := A8) (c3 := c7) (c4 := c8) (A5 := A5) (A6 := A6) (c5 := c5) (c6 := c6) 5 0 ⟨#[]⟩ Ks Vs key (⟨u0, u1, u2, u3, u4⟩ : VS) wr.drew (Kd.C_below r7 (below_drew (Below.refl _ _))) (ReadsRow.imp_ r8 (below_drew (Below.refl _ _)) (fun _ _ hp => hp)) HKE.out HKV.out hvn K2 V2 hK2 hV2)
   have HLT := aM (cb_lt HG.out)
   have q5 : wrap64 ((m : Int) + 1) = (m : Int) + 1 := by have := HPS.out; have := HN.out; unfold wrap64; omega
   have ns := need_str
   have nv := need_val
   clear h1 h2 h3 hkey hu hl1 hl2 hK2 hV2 l7 r7 l8 r8 hlv hvn
   go_wp2_with fail
   refine start_ (n := 14) (S := fun w' => w'.cell? ⟨b3, 0, none⟩ = some (.int .i64 5) ∧ w'.cell? ⟨b3, 1, none⟩ = some (.int .i64 0) ∧ w'.cell? ⟨b3, 2, none⟩ = some (.string ⟨#[]⟩) ∧ w'.cell? ⟨b3, 3, none⟩ = some (.slice A7 Ks.length c7) ∧ w'.cell? ⟨b3, 4, none⟩ = some (.slice A8 Vs.length c8) ∧ w'.cell? ⟨b, m, none⟩ = some (.iface 9 (.string key)) ∧ w'.cell? ⟨b, m + 1, none⟩ = some (.iface 25 (.agg #[.int .i64 u0, .int .i64 u1, .string u2, .slice A5 u3.length c5, .slice A6 u4.length c6]))) (ds := [12, 13]) #[false, false, false, false, false, false, false, false, false, false, false, false, false, false] (by kernel_rfl) rfl rfl ⟨e0, e1, e2, e3, e4, m0, m1⟩ (fun hHeld => ?_)
   refine pure_ (i := 1) (N := some 14) (v := ?_) (a' := ?_) #[false, true, false, false, false, false, false, false, false, false, false, false, false, false] rfl rfl (by kernel_rfl) (fun _ _ _ h => h) (Or.inl ⟨by rfl, ?_⟩) ?_ ?_
   rotate_left
   ·intro w'; go_simp; with_reducible rfl
   rotate_left
   ·simp only [Act.put, sA, sB, sC, i64_w, i32_w]; rfl
   refine pure_ (i := 2) (N := some 15) (v := ?_) (a' := ?_) #[false, true, true, false, false, false, false, false, false, false, false, false, false, false] rfl rfl (by kernel_rfl) (fun _ _ _ h => h) (Or.inl ⟨by rfl, ?_⟩) ?_ ?_
   rotate_left
   ·intro w'; go_simp; with_reducible rfl
   rotate_left
   ·simp only [Act.put, sA, sB, sC, i64_w, i32_w]; rfl
   refine pure_ (i := 3) (N := some 16) (v := ?_) (a' := ?_) #[false, true, true, true, false, false, false, false, false, false, false, false, false, false] rfl rfl (by kernel_rfl) (fun _ _ _ h => h) (Or.inl ⟨by rfl, ?_⟩) ?_ ?_
   rotate_left
   ·intro w'; go_simp; with_reducible rfl
   rotate_left
   ·simp only [Act.put, sA, sB, sC, i64_w, i32_w]; rfl
   refine pure_ (i := 6) (N := some 19) (v := ?_) (a' := ?_) #[false, true, true, true, false, false, true, false, false, false, false, false, false, false] rfl rfl (by kernel_rfl) (fun _ _ _ h => h) (Or.inl ⟨by rfl, ?_⟩) ?_ ?_
   rotate_left
   ·intro w'; go_simp; with_reducible rfl
   rotate_left
   ·simp only [Act.put, sA, sB, sC, i64_w, i32_w]; rfl
   refine pure_ (i := 7) (N := some 20) (v := ?_) (a' := ?_) #[false, true, true, true, false, false, true, true, false, false, false, false, false, false] rfl rfl (by kernel_rfl) (fun _ _ _ h => h) (Or.inl ⟨by rfl, ?_⟩) ?_ ?_
   rotate_left
   ·intro w'; go_simp; with_reducible rfl
   rotate_left
   ·simp only [Act.put, sA, sB, sC, i64_w, i32_w]; rfl
   refine pure_ (i := 8) (N := some 21) (v := ?_) (a' := ?_) #[false, true, true, true, false, false, true, true, true, false, false, false, false, false] rfl rfl (by kernel_rfl) (fun _ _ _ h => h) (Or.inl ⟨by rfl, ?_⟩) ?_ ?_
   rotate_left
   ·intro w'; go_simp; with_reducible rfl
   rotate_left
   ·simp only [Act.put, sA, sB, sC, i64_w, i32_w]; rfl
   refine pure_ (i := 9) (N := some 22) (v := ?_) (a' := ?_) #[false, true, true, true, false, false, true, true, true, true, false, false, false, false] rfl rfl (by kernel_rfl) (fun _ _ _ h => h) (Or.inl ⟨by rfl, ?_⟩) ?_ ?_
   rotate_left
   ·intro w'; go_simp; with_reducible rfl
   rotate_left
   ·simp only [Act.put, sA, sB, sC, i64_w, i32_w]; rfl
   refine take_ (i := 0) (N := some 13) (v := ?_) (a' := ?_) #[true, true, true, true, false, false, true, true, true, true, false, false, false, false] rfl rfl (by kernel_rfl) (fun _ _ _ h => h) (Or.inl ⟨by rfl, ?_⟩) hHeld ?_ ?_
   rotate_left
   ·rintro w' ⟨s0, s1, s2, s3, s4, s5, s6⟩
    go_simp; with_reducible rfl
   rotate_left
   ·simp only [Act.put, sA, sB, sC, i64_w, i32_w]; rfl
   refine take_ (i := 4) (N := some 17) (v := ?_) (a' := ?_) #[true, true, true, true, true, false, true, true, true, true, false, false, false, false] rfl rfl (by kernel_rfl) (fun _ _ _ h => h) (Or.inl ⟨by rfl, ?_⟩) hHeld ?_ ?_
   rotate_left
   ·rintro w' ⟨s0, s1, s2, s3, s4, s5, s6⟩
    go_simp; with_reducible rfl
   rotate_left
   ·simp only [Act.put, sA, sB, sC, i64_w, i32_w]; rfl
   refine pure_ (i := 5) (N := some 18) (v := ?_) (a' := ?_) #[true, true, true, true, true, true, true, true, true, true, false, false, false, false] rfl rfl (by kernel_rfl) (fun _ _ _ h => h) (Or.inl ⟨by rfl, ?_⟩) ?_ ?_
   rotate_left
   ·intro w'; go_simp; with_reducible rfl
   rotate_left
   ·simp only [Act.put, sA, sB, sC, i64_w, i32_w]; rfl
   refine take_ (i := 10) (N := some 23) (v := ?_) (a' := ?_) #[true, true, true, true, true, true, true, true, true, true, true, false, false, false] rfl rfl (by kernel_rfl) (fun _ _ _ h => h) (Or.inl ⟨by rfl, ?_⟩) hHeld ?_ ?_
   rotate_left
   ·rintro w' ⟨s0, s1, s2, s3, s4, s5, s6⟩
    go_simp; with_reducible rfl
   rotate_left
   ·simp only [Act.put, sA, sB, sC, i64_w, i32_w]; rfl
   refine pure_ (i := 11) (N := some 24) (v := ?_) (a' := ?_) #[true, true, true, true, true, true, true, true, true, true, true, true, false, false] rfl rfl (by kernel_rfl) (fun _ _ _ h => h) (Or.inl ⟨by rfl, ?_⟩) ?_ ?_
   rotate_left
   ·intro w'; go_simp; with_reducible rfl
   rotate_left
   ·simp only [Act.put, sA, sB, sC, i64_w, i32_w]; rfl
   refine last_ (i := 12) (N := some 25) #[true, true, true, true, true, true, true, true, true, true, true, true, true, false] rfl rfl (by kernel_rfl) (by decide) (fun K hK => ?_)
   refine goes_ Try.func25 (by kernel_rfl) rfl #[.agg #[.int .i64 5, .int .i64 0, .string ⟨#[]⟩, .slice A7 Ks.length c7, .slice A8 Vs.length c8], .string key, .agg #[.int .i64 u0, .int .i64 u1, .string u2, .slice A5 u3.length c5, .slice A6 u4.length c6]] (by rfl) rfl rfl (by simp only [List.map_toArray, List.map_cons, List.map_nil]; rfl) ?_
   with_reducible refine (CW.out).mono ?_
   rintro e w4 ⟨B7, d7, B8, d8, rfl, k1, k2, hb⟩
   refine ⟨_, rfl, ?_⟩
   refine hK.out _ _ ?_
   clear hK K
   refine norm_ (a' := ?_) ?_ ?_
   rotate_left
   ·show Act.put _ (some 25) _ = _
    simp only [Act.put, sA, sB, sC, i64_w, i32_w]; rfl
   refine last_ (i := 13) (N := none) #[true, true, true, true, true, true, true, true, true, true, true, true, true, true] rfl rfl (by kernel_rfl) (by decide) (fun K hK => ?_)
   have HB4 := aM (hb_then (below_drew HB.out) hb)
   have HG4 := aM ((hb.block _ (cb_lt (show wr.drew.heap[b3]? = _ from HG.out))).trans HG.out)
   have HR4 := aM ((hb.block _ (cb_lt (show wr.drew.heap[w.heap.size]? = _ from HR.out))).trans HR.out)
   refine store_row_step (w := w4) rfl rfl 25 (.tmp 3) (.tmp 25) rfl b3 #[.int .i64 5, .int .i64 0, .string ⟨#[]⟩, .slice B7 K2.length d7, .slice B8 V2.length d8] rfl rfl 25 _ HG4.out val_size rfl (val_one _ _ _ _ _ _ _ _ _) ?_
   refine hK.out _ _ ?_
   clear hK K
   refine done_ (by kernel_rfl) ?_
   have hlw : b3 < wr.drew.heap.size := HLT.out
   have hg := grown_setRow w4 b3 #[.int .i64 5, .int .i64 0, .string ⟨#[]⟩, .slice B7 K2.length d7, .slice B8 V2.length d8]
   have HG5 := aM (setRow_heap w4 b3 _ #[.int .i64 5, .int .i64 0, .string ⟨#[]⟩, .slice B7 K2.length d7, .slice B8 V2.length d8] _ _ HG4.out)
   have HR5 := aM ((setRow_other w4 b3 w.heap.size #[.int .i64 5, .int .i64 0, .string ⟨#[]⟩, .slice B7 K2.length d7, .slice B8 V2.length d8] (by omega)).trans HR4.out)
   have HB5 := aM (pw_below_grown HB4.out (some b3) HB4.out.size hg (fun k hk => by injection hk with hk; omega))
   have HK5 := aM (Kd.R_grown (Kd.R_lower (Kd.R_mono (Kd.R_bound k1) (ok' := fun k => b3 < k) (fun k h => Nat.lt_of_lt_of_le hlw h.2.1)) (Nat.le_of_lt hlw)) hg (fun k hk e => by injection e with e; omega))
   have HV5 := aM (Kd.R_grown (Kd.R_lower (Kd.R_mono (Kd.R_bound k2) (ok' := fun k => b3 < k) (fun k h => Nat.lt_of_lt_of_le hlw h.2.1)) (Nat.le_of_lt hlw)) hg (fun k hk e => by injection e with e; omega))
   clear hg k1 k2 HG4 HR4 HB4 hHeld hb hlw e0 e1 e2 e3 e4 m0 m1 q5
   have q7 : wrap64 ((m : Int) + 2) = ((m + 2 : Nat) : Int) := by have := HM.out; have := HLV.out; have := HPS.out; unfold wrap64; omega
   generalize w4.setRow b3 #[.int .i64 5, .int .i64 0, .string ⟨#[]⟩, .slice B7 K2.length d7, .slice B8 V2.length d8] = w5 at HG5 HR5 HB5 HK5 HV5 ⊢
   go_wp2
   go_roundw
   case rel => exact ⟨i + 1, m + 2, K2, V2, B7, B8, d7, d8, congrArg (Value.int .i64) q7, ⟨by have := HM.out; clear q7; omega⟩, ⟨HLV.out⟩, HL1, HL2, HNX, HG5, HR5, HB5, HK5, HV5⟩
   case measure =>
    rw [q7]
    clear q7
    have h1 := HM.out
    have h2 := HN.out
    have h3 := HLV.out
    simp [intOf]
    omega
  ·have hil : i = ps.length := by have := HI.out; omega
   have q1 : ¬ (m : Int) + 1 < (n : Int) := by have := HM.out; have := HN.out; omega
   have q5 : wrap64 ((m : Int) + 1) = (m : Int) + 1 := by have h1 := HM.out; have h2 := HI.out; have h3 := HPS.out; unfold wrap64; omega
   have hd1 : decide ((m : Int) + 1 < (n : Int)) = false := decide_eq_false q1
   have hF1 : (Ks, Vs) = (KF, VF) := by
    have := HFI.out
    rw [List.drop_eq_nil_of_le (show (ps.map (·.1)).length ≤ i by rw [List.length_map]; omega), List.drop_eq_nil_of_le (show (ps.map (·.2)).length ≤ i by rw [List.length_map]; omega)] at this
    exact this
   obtain ⟨rfl, rfl⟩ := Prod.mk.inj hF1
   clear hF1 hil q1
   go_wp2_with (first | refine load_val (.tmp 3) rfl rfl rfl HG.out ?_ | refine store_val (.tmp 2) (.tmp 26) rfl rfl rfl rfl HR.out ?_)
   clear q5
   have hg := grown_setRow wr w.heap.size #[.int .i64 5, .int .i64 0, .string ⟨#[]⟩, .slice A7 Ks.length c7, .slice A8 Vs.length c8]
   have h5 := setRow_heap wr w.heap.size _ #[.int .i64 5, .int .i64 0, .string ⟨#[]⟩, .slice A7 Ks.length c7, .slice A8 Vs.length c8] _ _ HR.out
   have hB := pw_below_grown HB.out (some w.heap.size) HB.out.size hg (fun k hk => by injection hk with hk; have h2 : w.heap.size = k := hk; omega)
   have hK := Kd.R_grown HK.out hg (fun k hk e => by injection e with e; omega)
   have hV := Kd.R_grown HV.out hg (fun k hk e => by injection e with e; omega)
   exact bodyPost_ret (v := .agg #[.int .i64 5, .int .i64 0, .string ⟨#[]⟩, .slice A7 Ks.length c7, .slice A8 Vs.length c8]) (val_result rfl rfl h5) rfl ⟨_, _, rfl, Kd.R_lower (Kd.R_mono hK (fun k hk => by omega)) (by omega), Kd.R_lower (Kd.R_mono hV (fun k hk => by omega)) (by omega), hB⟩
end Go.Proofs.Ytaembebbaejfiaa.Tr
namespace Go.Proofs.Ytaembebbaejfiaa.Tr
open Go.RowKit Go.Proofs.YtaembebbaejfiaaW.PrintWords Go.Proofs.YtaembebbaejfiaaW.PrintLast Go.Proofs.Ytaembebbaejfiaa.Str Go.Proofs.Ytaembebbaejfiaa.Kit Go.Proofs.Ytaembebbaejfiaa.MapV Go.Proofs.Ytaembebbaejfiaa.Frame Go.Proofs.Ytaembebbaejfiaa.PS
set_option linter.unusedVariables false
set_option linter.unusedSimpArgs false
def Turns (ig : Bool) (x y : VI) : Prop := ∀ (w : World) (A3 A4 : Option Addr) (c3 c4 : Nat), x.f3.length ≤ c3 → Kd.string.C w A3 x.f3.length x.f3 → x.f4.length ≤ c4 → kI.C w A4 x.f4.length x.f4 →
  Calls Try.prog 12 #[.agg #[.int .i64 x.f0, .int .i64 x.f1, .string x.f2, .slice A3 x.f3.length c3, .slice A4 x.f4.length c4], .bool ig] w (Told w y)
theorem from_calls (x : VI) (z : VS) (hz : fromI x = z) (hx : Small x) (A3 A4 : Option Addr) (c3 c4 : Nat) (w : World) (l3 : x.f3.length ≤ c3) (hk : Kd.string.C w A3 x.f3.length x.f3) (l4 : x.f4.length ≤ c4) (hv : kI.C w A4 x.f4.length x.f4) :
  Calls Try.prog 19 #[.agg #[.int .i64 x.f0, .int .i64 x.f1, .string x.f2, .slice A3 x.f3.length c3, .slice A4 x.f4.length c4]] w fun e w' => ∃ B3 d3 B4 d4, e = .returned (.agg #[.int .i64 z.f0, .int .i64 z.f1, .string z.f2, .slice B3 z.f3.length d3, .slice B4 z.f4.length d4]) ∧ z.f3.length ≤ d3 ∧ Kd.string.C w' B3 z.f3.length z.f3 ∧ z.f4.length ≤ d4 ∧ kS.C w' B4 z.f4.length z.f4 ∧ Below w.heap.size w w' := by
 subst hz
 obtain ⟨k, hk'⟩ := (ev_from x hx).rounds
 refine (laws_from.calls k x.f0 x.f1 x.f2 A3 c3 x.f3 A4 c4 x.f4 _ _ _ _ _ w hk l3 hv l4 hk').mono ?_
 rintro e w1 ⟨v3, v4, rfl, hr3, hr4, hb⟩
 obtain ⟨B3, d3, rfl, m3, g3⟩ := Kd.R_reads hr3
 obtain ⟨B4, d4, rfl, m4, g4⟩ := Kd.R_reads hr4
 exact ⟨B3, d3, B4, d4, rfl, m3, g3, m4, g4, hb⟩
theorem to_calls (x : VS) (hx : SmallS x) (A3 A4 : Option Addr) (c3 c4 : Nat) (w : World) (l3 : x.f3.length ≤ c3) (hk : Kd.string.C w A3 x.f3.length x.f3) (l4 : x.f4.length ≤ c4) (hv : kS.C w A4 x.f4.length x.f4) :
  Calls Try.prog 13 #[.agg #[.int .i64 x.f0, .int .i64 x.f1, .string x.f2, .slice A3 x.f3.length c3, .slice A4 x.f4.length c4]] w fun e w' => ∃ B3 d3 B4 d4, e = .returned (.agg #[.int .i64 (toI x).f0, .int .i64 (toI x).f1, .string (toI x).f2, .slice B3 (toI x).f3.length d3, .slice B4 (toI x).f4.length d4]) ∧ (toI x).f3.length ≤ d3 ∧ Kd.string.C w' B3 (toI x).f3.length (toI x).f3 ∧ (toI x).f4.length ≤ d4 ∧ kI.C w' B4 (toI x).f4.length (toI x).f4 ∧ Below w.heap.size w w' := by
 obtain ⟨k, hk'⟩ := (ev_to x hx).rounds
 refine (laws_to.calls k x.f0 x.f1 x.f2 A3 c3 x.f3 A4 c4 x.f4 _ _ _ _ _ w hk l3 hv l4 hk').mono ?_
 rintro e w1 ⟨v3, v4, rfl, hr3, hr4, hb⟩
 obtain ⟨B3, d3, rfl, m3, g3⟩ := Kd.R_reads hr3
 obtain ⟨B4, d4, rfl, m4, g4⟩ := Kd.R_reads hr4
 exact ⟨B3, d3, B4, d4, rfl, m3, g3, m4, g4, hb⟩
theorem same_calls (x : VS) (hx : Short x) (A3 A4 : Option Addr) (c3 c4 : Nat) (B3 B4 : Option Addr) (d3 d4 : Nat) (w : World) (l3 : x.f3.length ≤ c3) (hk : Kd.string.C w A3 x.f3.length x.f3) (l4 : x.f4.length ≤ c4) (hv : kS.C w A4 x.f4.length x.f4) (m3 : x.f3.length ≤ d3) (jk : Kd.string.C w B3 x.f3.length x.f3) (m4 : x.f4.length ≤ d4) (jv : kS.C w B4 x.f4.length x.f4) :
  Calls Try.prog 18 #[.agg #[.int .i64 x.f0, .int .i64 x.f1, .string x.f2, .slice A3 x.f3.length c3, .slice A4 x.f4.length c4], .agg #[.int .i64 x.f0, .int .i64 x.f1, .string x.f2, .slice B3 x.f3.length d3, .slice B4 x.f4.length d4]] w fun e w' => e = .returned (.bool true) ∧ Below w.heap.size w w' := by
 obtain ⟨k, hk'⟩ := (ev_same x hx).rounds
 exact spec_Same.calls k x.f0 x.f1 x.f2 A3 c3 x.f3 A4 c4 x.f4 x.f0 x.f1 x.f2 B3 d3 x.f3 B4 d4 x.f4 true w hk l3 hv l4 jk m3 jv m4 hk'
theorem cell_row5 {w : World} {b : Nat} {T : TypeId} {v0 v1 v2 v3 v4 : Value} (h : w.heap[b]? = some (.cells #[v0, v1, v2, v3, v4] T (0, 0))) :
  w.cell? ⟨b, 0, none⟩ = some v0 ∧ w.cell? ⟨b, 1, none⟩ = some v1 ∧ w.cell? ⟨b, 2, none⟩ = some v2 ∧ w.cell? ⟨b, 3, none⟩ = some v3 ∧ w.cell? ⟨b, 4, none⟩ = some v4 := by
 simp [World.cell?, h]
end Go.Proofs.Ytaembebbaejfiaa.Tr
namespace Go.Proofs.Ytaembebbaejfiaa.PS
open Go.RowKit Go.Proofs.YtaembebbaejfiaaW.PrintWords Go.Proofs.YtaembebbaejfiaaW.PrintLast Go.Proofs.YtaembebbaejfiaaW.PrintMore
attribute [local go_sem] max2_int min2_int max_two min_two max_three min_three max_four min_four 
set_option linter.unusedVariables false
set_option linter.unusedSimpArgs false
def spec_L.f (l0 : List (S25)) : Option (Int × Int × ByteArray × List ByteArray × (List (S25))) := (some (([] : List (S25)) : List (S25))).bind fun y566 => (if y566.length + l0.length < 1759218604441 then (some (4, 0, (⟨#[]⟩ : ByteArray), ([] : List ByteArray), (y566 ++ l0))) else (none))
set_option maxHeartbeats 8000000 in
set_option maxRecDepth 100000 in
theorem spec_L.calls (P0_ : Nat → Prop) (A0 : Option Addr) (c0 : Nat) (l0 : List (S25)) (r1 : Int) (r2 : Int) (r3 : ByteArray) (r4 : List ByteArray) (r5 : List (S25)) (w : World) (hs0 : Kd.V k25 25 w w.heap.size (fun k_ => P0_ k_) (.slice A0 l0.length c0) l0) (h : spec_L.f l0 = some (r1, r2, r3, r4, r5)) :
  Calls Try.prog 15 #[.slice A0 l0.length c0] w fun e w' => ∃ v3_ v4_ : Value, e = .returned (.agg #[.int .i64 r1, .int .i64 r2, .string r3, v3_, v4_]) ∧ Kd.R Kd.string 9 w' w.heap.size (fun k_ => (w.heap.size ≤ k_)) v3_ r4 ∧ Kd.N k25 25 w' w.heap.size (fun k_ => (P0_ k_ ∨ w.heap.size ≤ k_) ∧ some k_ ≠ (v3_ : Value).ownBlock) v4_ r5 ∧ Below w.heap.size w w' := by
 have hu25 := Try.underlying25
 have HO0 := aM (show Kd.V k25 25 w w.heap.size (fun k_ => (P0_ k_ ∨ w.heap.size ≤ k_)) (.slice A0 l0.length c0) l0 from Kd.V_mono hs0 (fun k_ hk => .inl hk))
 have HB := aM (Below.refl w.heap.size w)
 have H : ((some (([] : List (S25)) : List (S25))).bind fun y566 => (if y566.length + l0.length < 1759218604441 then (some (4, 0, (⟨#[]⟩ : ByteArray), ([] : List ByteArray), (y566 ++ l0))) else (none))) = some (r1, r2, r3, r4, r5) := h
 clear h
 obtain ⟨y566, hy566⟩ : ∃ y_ : List (S25), y_ = (([] : List (S25))) := ⟨_, rfl⟩
 replace H : (if y566.length + l0.length < 1759218604441 then (some (4, 0, (⟨#[]⟩ : ByteArray), ([] : List ByteArray), (y566 ++ l0))) else (none)) = some (r1, r2, r3, r4, r5) := by first | (rw [hy566]; with_reducible exact H) | (have H2_ := (Option.bind_some _ _).symm.trans H; rw [hy566]; with_reducible exact H2_) | (have H2_ := (Option.bind_some _ _).symm.trans H; with_reducible exact H2_) | with_reducible exact H | (rw [hy566]; exact H) | exact H
 have Ny566 := aM hy566
 clear hy566
 by_cases c2 : y566.length + l0.length < 1759218604441
 ·rw [if_pos c2] at H
  have LMc2 := aM c2
  clear c2
  obtain ⟨y569, hy569⟩ : ∃ y_ : List (S25), y_ = (y566 ++ l0) := ⟨_, rfl⟩
  replace H : (some (4, 0, (⟨#[]⟩ : ByteArray), ([] : List ByteArray), y569)) = some (r1, r2, r3, r4, r5) := by first | (rw [hy569]; with_reducible exact H) | (have H2_ := (Option.bind_some _ _).symm.trans H; rw [hy569]; with_reducible exact H2_) | (have H2_ := (Option.bind_some _ _).symm.trans H; with_reducible exact H2_) | with_reducible exact H | (rw [hy569]; exact H) | exact H
  have Ny569 := aM hy569
  clear hy569
  simp only [Option.some.injEq, Prod.mk.injEq] at H
  obtain ⟨rfl, rfl, rfl, rfl, rfl⟩ := H
  go_enter Try.func15, Try.ntmps15
  go_wp2_with (first | ((with_reducible refine gate_dst (N := 2) rfl ?_); refine box_event ?hg (N := 2) ?hd (cs := #[.int .i64 0, .int .i64 0, .string (⟨#[]⟩ : ByteArray), .slice none 0 0, .slice none 0 0]) (t := 25) ?hr ?_; (case hd => rfl); (case hg => rfl); (case hr => first | (go_simp; done) | (go_simp; rfl)); intro gb565 hg w3 hbox hb; have n0_ := aM (Kd.V_below (Kd.V_elderB (by (with_reducible repeat (first | apply Kd.V_alloc | apply Kd.V_drewN | apply Kd.V_drew)); exact HO0.out) gb565 (Nat.le_of_eq hg.symm)) hb); have n1_ := aM (below_step (by repeat (first | (with_reducible first | exact HB.out | apply below_alloc | apply pw_below_drewN | apply below_drew1) | exact HB.out)) hb); have n2_ := aM (hbox); have n3_ := aM ((by rw [hg]; exact (below_size (by repeat (first | (with_reducible first | exact HB.out | apply below_alloc | apply pw_below_drewN | apply below_drew1) | exact HB.out))) : w.heap.size ≤ gb565)); have n4_ := aM ((by rw [hg]; exact (below_size (by repeat (first | (with_reducible first | exact HB.out | apply below_alloc | apply pw_below_drewN | apply below_drew1) | exact HB.out))) : w.heap.size ≤ gb565)); clear HO0; clear HB; have HO0 := n0_; have HB := n1_; have BK565 := n2_; have GW565 := n3_; have GE565 := n4_; clear n0_ n1_ n2_ n3_ n4_; clear hb hbox hg) | ((with_reducible refine gate_dst (N := 3) rfl ?_); refine Kd.N_lit k25 _ 25 ?hg (N' := 3) ?hd (xs := ([] : List (S25))) (inner := []) (ok := (fun k_ => (P0_ k_ ∨ w.heap.size ≤ k_) ∧ k_ ≠ gb565)) (okp := (fun k_ => (P0_ k_ ∨ w.heap.size ≤ k_) ∧ k_ ≠ gb565)) ?hr ?hp (fun _ hk => hk) ((show ∀ k_, w3.heap.size ≤ k_ → (fun k_ => (P0_ k_ ∨ w.heap.size ≤ k_) ∧ k_ ≠ gb565) k_ from fun k_ hk => ⟨(.inr (Nat.le_trans (below_size (by repeat (first | (with_reducible first | exact HB.out | apply below_alloc | apply pw_below_drewN | apply below_drew1 | refine below_set ?_ GE565.out) | exact HB.out))) hk)), Kd.freshB (g := gb565) (o := .cells #[.int .i64 0, .int .i64 0, .string (⟨#[]⟩ : ByteArray), .slice none 0 0, .slice none 0 0] 25 (0, 0)) (by (with_reducible repeat (first | refine blk_drewN ?_ _ | refine blk_drew ?_ | refine blk_alloc ?_ _)); exact BK565.out) k_ hk⟩) _ (Nat.le_refl _)) (Below.refl _ _) (Nat.le_refl _) (by simp) ?_; (case hd => rfl); (case hg => rfl); (case hr => first | (go_simp; done) | (go_simp; rfl)); (case hp => exact (Reps.none _ _)); intro v567 w4 ho5 hb hg_ hnew_; clear hg_ hnew_; (first | rw [← Ny566.out] at ho5 | (simp only [Int.reduceToNat] at ho5; rw [← Ny566.out] at ho5)); have n0_ := aM (Kd.V_elder' (by (with_reducible repeat (first | apply Kd.V_alloc | apply Kd.V_drewN | apply Kd.V_drew)); exact HO0.out) (Kd.N_base ho5) hb); have n1_ := aM (Kd.N_lower ho5 (below_size (by repeat (first | (with_reducible first | exact HB.out | apply below_alloc | apply pw_below_drewN | apply below_drew1 | refine below_set ?_ GE565.out) | exact HB.out)))); have n2_ := aM (blk_below (g := gb565) (o := .cells #[.int .i64 0, .int .i64 0, .string (⟨#[]⟩ : ByteArray), .slice none 0 0, .slice none 0 0] 25 (0, 0)) (by (with_reducible repeat (first | refine blk_drewN ?_ _ | refine blk_drew ?_ | refine blk_alloc ?_ _)); exact BK565.out) hb); have n3_ := aM (below_step (by repeat (first | (with_reducible first | exact HB.out | apply below_alloc | apply pw_below_drewN | apply below_drew1 | refine below_set ?_ GE565.out) | exact HB.out)) hb); clear HO0; clear BK565; clear HB; have HO0 := n0_; have HO568 := n1_; have BK565 := n2_; have HB := n3_; clear n0_ n1_ n2_ n3_; clear hb ho5) | ((with_reducible refine gate_builtin (b := .append) (xs := #[.tmp 3, .tmp 4]) rfl ?_); at_builtin; refine Kd.N_append_rows k25 (w0 := w) w.heap.size rfl (.tmp 3) (.tmp 4) 23 25 (.agg #[(.int .i64 0), (.int .i64 0), (.string ⟨#[]⟩), (.slice none 0 0), (.slice none 0 0)]) 80 rfl Try.underlying23 info25 rfl (by decide) (by omega) v567 y566 l0 _ _ _ (fun k_ => (P0_ k_ ∨ w.heap.size ≤ k_) ∧ k_ ≠ gb565) (fun k_ => ((fun k_ => (P0_ k_ ∨ w.heap.size ≤ k_) ∧ k_ ≠ gb565)) k_ ∧ some k_ ≠ (v567 : Value).ownBlock) rfl rfl ?aO ?aR (fun _ hk => hk) ?aF ?aB ?aS ?aL ?_; (case aR => exact (by skip; exact Kd.V_F (Kd.V_mono (ok' := (fun k_ => ((fun k_ => (P0_ k_ ∨ w.heap.size ≤ k_) ∧ k_ ≠ gb565)) k_ ∧ some k_ ≠ (v567 : Value).ownBlock)) (HO0.out) (fun k_ hk => ⟨⟨hk.1.1, hk.1.2⟩, hk.2⟩)))); (case aB => exact (by repeat (first | (with_reducible first | exact HB.out | apply below_alloc | apply pw_below_drewN | apply below_drew1 | refine below_set ?_ GE565.out) | exact HB.out))); (case aF => exact (fun k_ hk => ⟨(.inr (Nat.le_trans (below_size (by repeat (first | (with_reducible first | exact HB.out | apply below_alloc | apply pw_below_drewN | apply below_drew1 | refine below_set ?_ GE565.out) | exact HB.out))) hk)), Kd.freshB (g := gb565) (o := .cells #[.int .i64 0, .int .i64 0, .string (⟨#[]⟩ : ByteArray), .slice none 0 0, .slice none 0 0] 25 (0, 0)) (by (with_reducible repeat (first | refine blk_drewN ?_ _ | refine blk_drew ?_ | refine blk_alloc ?_ _)); exact BK565.out) k_ hk⟩)); (case aO => exact (by (with_reducible repeat (first | apply Kd.N_alloc | apply Kd.N_drewN | apply Kd.N_drew)); exact HO568.out)); (case aS => exact (below_size (by repeat (first | (with_reducible first | exact HB.out | apply below_alloc | apply pw_below_drewN | apply below_drew1 | refine below_set ?_ GE565.out) | exact HB.out)))); (case aL => have := LMc2.out; omega); intro v570 w6 ho hb hg hat; rw [← Ny569.out] at ho; have n0_ := aM (Kd.V_afterv (ok := (fun k_ => (P0_ k_ ∨ w.heap.size ≤ k_) ∧ k_ ≠ gb565)) (by (with_reducible repeat (first | apply Kd.V_alloc | apply Kd.V_drewN | apply Kd.V_drew)); exact HO0.out) hg hat); have n1_ := aM (blk_grown (g := gb565) (o := .cells #[.int .i64 0, .int .i64 0, .string (⟨#[]⟩ : ByteArray), .slice none 0 0, .slice none 0 0] 25 (0, 0)) (by (with_reducible repeat (first | refine blk_drewN ?_ _ | refine blk_drew ?_ | refine blk_alloc ?_ _)); exact BK565.out) hg (Kd.N_away HO568.out (fun _ hk => hk.2))); have n2_ := aM (hb); have n3_ := aM (ho); clear HO0; clear BK565; clear HB; clear HO568; have HO0 := n0_; have BK565 := n1_; have HB := n2_; have HO571 := n3_; clear n0_ n1_ n2_ n3_; clear ho hb hg hat; obtain ⟨Ao7, co7, eo7⟩ := Kd.N_slice HO571.out; subst eo7; have hcz8_0 : w6.cell? ⟨gb565, 0, none⟩ = some (.int .i64 0) := (blk_cell BK565.out 0).trans rfl; have hcz8_1 : w6.cell? ⟨gb565, 1, none⟩ = some (.int .i64 0) := (blk_cell BK565.out 1).trans rfl; have hcz8_2 : w6.cell? ⟨gb565, 2, none⟩ = some (.string (⟨#[]⟩ : ByteArray)) := (blk_cell BK565.out 2).trans rfl; have hcz8_3 : w6.cell? ⟨gb565, 3, none⟩ = some (.slice none 0 0) := (blk_cell BK565.out 3).trans rfl; have hcz8_4 : w6.cell? ⟨gb565, 4, none⟩ = some (.slice none 0 0) := (blk_cell BK565.out 4).trans rfl; have hfz8_0 := blk_frozen BK565.out 0; have hfz8_1 := blk_frozen BK565.out 1; have hfz8_2 := blk_frozen BK565.out 2; have hfz8_3 := blk_frozen BK565.out 3; have hfz8_4 := blk_frozen BK565.out 4))
  refine bodyPost_ret (results_cell_row rfl _ _ gb565 25 #[.int .i64 4, .int .i64 0, .string (⟨#[]⟩ : ByteArray), .slice none 0 0, .slice Ao7 y569.length co7] (0, 0) _ rfl (by (with_reducible repeat (first | refine blk_drewN ?_ _ | refine blk_drew ?_ | refine blk_alloc ?_ _)); refine blk_put (cs := #[.int .i64 4, .int .i64 0, .string (⟨#[]⟩ : ByteArray), .slice none 0 0, .slice none 0 0]) ?_ 4 _ rfl; (with_reducible repeat (first | refine blk_drewN ?_ _ | refine blk_drew ?_ | refine blk_alloc ?_ _)); refine blk_put (cs := #[.int .i64 4, .int .i64 0, .string (⟨#[]⟩ : ByteArray), .slice none 0 0, .slice none 0 0]) ?_ 3 _ rfl; (with_reducible repeat (first | refine blk_drewN ?_ _ | refine blk_drew ?_ | refine blk_alloc ?_ _)); refine blk_put (cs := #[.int .i64 4, .int .i64 0, .string (⟨#[]⟩ : ByteArray), .slice none 0 0, .slice none 0 0]) ?_ 2 _ rfl; (with_reducible repeat (first | refine blk_drewN ?_ _ | refine blk_drew ?_ | refine blk_alloc ?_ _)); refine blk_put (cs := #[.int .i64 4, .int .i64 0, .string (⟨#[]⟩ : ByteArray), .slice none 0 0, .slice none 0 0]) ?_ 1 _ rfl; (with_reducible repeat (first | refine blk_drewN ?_ _ | refine blk_drew ?_ | refine blk_alloc ?_ _)); refine blk_put (cs := #[.int .i64 0, .int .i64 0, .string (⟨#[]⟩ : ByteArray), .slice none 0 0, .slice none 0 0]) ?_ 0 _ rfl; (with_reducible repeat (first | refine blk_drewN ?_ _ | refine blk_drew ?_ | refine blk_alloc ?_ _)); exact BK565.out) Try.underlying25 rfl (by kernel_rfl)) rfl ?_
  exact ⟨_, _, by first | rfl | (simp [errW_none, errW_some] <;> rfl) | (simp [*, errW_none, errW_some] <;> rfl), by first | exact Kd.R_nil _ _ _ _ _ | exact Kd.N_nil _ _ _ _ _ | exact Kd.V_nil _ _ _ _ _ | exact Kd.Q_nil _ _ _ _ _ | exact Kd.S_nil _ _ _ _ _, by (with_reducible repeat (first | apply Kd.N_alloc | apply Kd.N_drewN | apply Kd.N_drew)); exact Kd.N_mono (Kd.N_far (p := ⟨gb565, 4, none⟩) (Kd.N_far (p := ⟨gb565, 3, none⟩) (Kd.N_far (p := ⟨gb565, 2, none⟩) (Kd.N_far (p := ⟨gb565, 1, none⟩) (Kd.N_far (p := ⟨gb565, 0, none⟩) (Kd.N_mono HO571.out (fun k_ hk => (⟨hk, hk.2⟩ : _ ∧ k_ ≠ gb565))) (fun _ hk => hk.2) (.int .i64 4)) (fun _ hk => hk.2) (.int .i64 0)) (fun _ hk => hk.2) (.string (⟨#[]⟩ : ByteArray))) (fun _ hk => hk.2) (.slice none 0 0)) (fun _ hk => hk.2) (.slice Ao7 y569.length co7)) (fun _ hk => ⟨hk.1.1, (by simp [Value.ownBlock])⟩), by repeat (first | (with_reducible first | exact HB.out | apply below_alloc | apply pw_below_drewN | apply below_drew1 | refine below_set ?_ GE565.out) | exact HB.out)⟩
 ·rw [if_neg c2] at H
  exact absurd H (by simp)
end Go.Proofs.Ytaembebbaejfiaa.PS
namespace Go.Proofs.Ytaembebbaejfiaa.PS
open Go.RowKit Go.Proofs.YtaembebbaejfiaaW.PrintWords Go.Proofs.YtaembebbaejfiaaW.PrintLast Go.Proofs.YtaembebbaejfiaaW.PrintMore
attribute [local go_sem] max2_int min2_int max_two min_two max_three min_three max_four min_four 
set_option linter.unusedVariables false
set_option linter.unusedSimpArgs false
theorem sayWordisE_ (l : List UInt8) : l.isEmpty = (l == []) := by cases l <;> rfl
theorem nsayWordisE_ (l : List UInt8) : (!l.isEmpty) = (l != []) := by cases l <;> rfl
def spec_sayWord.l0 : Nat → ByteArray → Int → Option (Bool)
 | 0, _, _ => none
 | k + 1, x0, x3 => if x3 < (x0.size : Int) then (if 0 ≤ x3 then (if (bt x0 x3) < 33 then (some false) else (if (bt x0 x3) > 126 then (some false) else ((spec_sayIn.f k (strOfNums (([bt x0 x3] : List Int))) (([(⟨#[61]⟩ : ByteArray), (⟨#[36]⟩ : ByteArray), (⟨#[58]⟩ : ByteArray), (⟨#[34]⟩ : ByteArray), (⟨#[39]⟩ : ByteArray), (⟨#[92]⟩ : ByteArray), (⟨#[126]⟩ : ByteArray)] : List ByteArray))).bind fun t561 => (if t561 = true then (some false) else (spec_sayWord.l0 k x0 (wrap64 (x3 + 1))))))) else (none)) else (some (x0.toList != ([] : List UInt8)))
def spec_sayWord.f (k : Nat) (a0 : ByteArray) : Option (Bool) := spec_sayWord.l0 k a0 0
set_option maxHeartbeats 8000000 in
set_option maxRecDepth 100000 in
theorem spec_sayWord.calls (k : Nat) (a0 : ByteArray) (r : Bool) (w : World) (h : spec_sayWord.f k a0 = some r) :
  Calls Try.prog 32 #[.string a0] w fun e w' => e = .returned (.bool r) ∧ Below w.heap.size w w' := by
 have HB := aM (Below.refl w.heap.size w)
 have H : (spec_sayWord.l0 k a0 0) = some r := h
 clear h
 have H' := aM H
 clear H
 go_enter Try.func32, Try.ntmps32
 go_wp2
 go_loopg [3] k (fun kq v3 w' => ∃ (x3_1 : Int), v3 = .int .i64 x3_1 ∧ Aside0 (spec_sayWord.l0 kq a0 x3_1 = some r) ∧ Aside0 (kq ≤ k) ∧ Aside0 (Below w.heap.size w w'))
 case atStart => exact ⟨(0), (by first | rfl | (simp; done) | (simp [*]; done)), H', ⟨Nat.le_refl _⟩, ⟨by repeat (first | (with_reducible first | exact HB.out | apply below_alloc | apply pw_below_drewN | apply below_drew1) | exact HB.out)⟩⟩
 case round =>
  clear H'
  obtain ⟨x3_1, rfl, HA, HK1, HB⟩ := hrel
  cases gk with
  | zero => exact absurd HA.out (by simp [spec_sayWord.l0])
  | succ k1 =>
   have H := HA.out
   clear HA
   simp only [spec_sayWord.l0] at H
   by_cases c2 : x3_1 < (a0.size : Int)
   ·rw [if_pos c2] at H
    have c2b0 : decide (x3_1 < (a0.size : Int)) = true := decide_eq_true c2
    clear c2
    by_cases c3 : 0 ≤ x3_1
    ·rw [if_pos c3] at H
     have c3b0 : decide (0 ≤ x3_1) = true := decide_eq_true c3
     clear c3
     by_cases c5 : (bt a0 x3_1) < 33
     ·rw [if_pos c5] at H
      have c5b0 : decide ((bt a0 x3_1) < 33) = true := decide_eq_true c5
      clear c5
      obtain rfl := Option.some.inj H
      have p4 : 0 ≤ (x3_1 : Int) := of_decide_eq_true (by first | (with_reducible assumption) | assumption)
      have q4 : x3_1 < (a0.size : Int) := of_decide_eq_true (by first | (with_reducible assumption) | assumption)
      have hx4 := bt_at a0 x3_1
      replace p4 := eq_true p4
      replace q4 := eq_true q4
      go_wp2
      go_ret
      exact ⟨by first | rfl | (simp [errW_none, errW_some] <;> rfl) | (simp [*, errW_none, errW_some] <;> rfl) | (refine congrArg (fun b_ => Ending.returned (.bool b_)) ?_; exact sayWordisE_ _) | (refine congrArg (fun b_ => Ending.returned (.bool b_)) ?_; exact nsayWordisE_ _), by repeat (first | (with_reducible first | exact HB.out | apply below_alloc | apply pw_below_drewN | apply below_drew1) | exact HB.out)⟩
     ·rw [if_neg c5] at H
      have c5b0 : decide ((bt a0 x3_1) < 33) = false := decide_eq_false c5
      clear c5
      by_cases c6 : (bt a0 x3_1) > 126
      ·rw [if_pos c6] at H
       have c6b0 : decide (126 < (bt a0 x3_1)) = true := decide_eq_true c6
       clear c6
       obtain rfl := Option.some.inj H
       have p4 : 0 ≤ (x3_1 : Int) := of_decide_eq_true (by first | (with_reducible assumption) | assumption)
       have q4 : x3_1 < (a0.size : Int) := of_decide_eq_true (by first | (with_reducible assumption) | assumption)
       have hx4 := bt_at a0 x3_1
       replace p4 := eq_true p4
       replace q4 := eq_true q4
       go_wp2
       go_ret
       exact ⟨by first | rfl | (simp [errW_none, errW_some] <;> rfl) | (simp [*, errW_none, errW_some] <;> rfl) | (refine congrArg (fun b_ => Ending.returned (.bool b_)) ?_; exact sayWordisE_ _) | (refine congrArg (fun b_ => Ending.returned (.bool b_)) ?_; exact nsayWordisE_ _), by repeat (first | (with_reducible first | exact HB.out | apply below_alloc | apply pw_below_drewN | apply below_drew1) | exact HB.out)⟩
      ·rw [if_neg c6] at H
       have c6b0 : decide (126 < (bt a0 x3_1)) = false := decide_eq_false c6
       clear c6
       obtain ⟨y555, hy555⟩ : ∃ y_ : List Int, y_ = (([bt a0 x3_1] : List Int)) := ⟨_, rfl⟩
       replace H : ((spec_sayIn.f k1 (strOfNums y555) (([(⟨#[61]⟩ : ByteArray), (⟨#[36]⟩ : ByteArray), (⟨#[58]⟩ : ByteArray), (⟨#[34]⟩ : ByteArray), (⟨#[39]⟩ : ByteArray), (⟨#[92]⟩ : ByteArray), (⟨#[126]⟩ : ByteArray)] : List ByteArray))).bind fun t561 => (if t561 = true then (some false) else (spec_sayWord.l0 k1 a0 (wrap64 (x3_1 + 1))))) = some r := by first | (rw [hy555]; with_reducible exact H) | (have H2_ := (Option.bind_some _ _).symm.trans H; rw [hy555]; with_reducible exact H2_) | (have H2_ := (Option.bind_some _ _).symm.trans H; with_reducible exact H2_) | with_reducible exact H | (rw [hy555]; exact H) | exact H
       have Ny555 := aM hy555
       clear hy555
       obtain ⟨y558, hy558⟩ : ∃ y_ : List ByteArray, y_ = (([(⟨#[61]⟩ : ByteArray), (⟨#[36]⟩ : ByteArray), (⟨#[58]⟩ : ByteArray), (⟨#[34]⟩ : ByteArray), (⟨#[39]⟩ : ByteArray), (⟨#[92]⟩ : ByteArray), (⟨#[126]⟩ : ByteArray)] : List ByteArray)) := ⟨_, rfl⟩
       replace H : ((spec_sayIn.f k1 (strOfNums y555) y558).bind fun t561 => (if t561 = true then (some false) else (spec_sayWord.l0 k1 a0 (wrap64 (x3_1 + 1))))) = some r := by first | (rw [hy558]; with_reducible exact H) | (have H2_ := (Option.bind_some _ _).symm.trans H; rw [hy558]; with_reducible exact H2_) | (have H2_ := (Option.bind_some _ _).symm.trans H; with_reducible exact H2_) | with_reducible exact H | (rw [hy558]; exact H) | exact H
       have Ny558 := aM hy558
       clear hy558
       replace H := Option.bind_eq_some_iff.mp H
       obtain ⟨t561, A70, H⟩ := H
       replace H : (if t561 = true then (some false) else (spec_sayWord.l0 k1 a0 (wrap64 (x3_1 + 1)))) = some r := H
       have A7 := aM A70
       clear A70
       by_cases c8 : t561 = true
       ·subst c8
        have H1 : (some false) = some r := by rw [if_pos rfl] at H; exact H
        clear H
        have H := H1
        clear H1
        obtain rfl := Option.some.inj H
        have p4 : 0 ≤ (x3_1 : Int) := of_decide_eq_true (by first | (with_reducible assumption) | assumption)
        have q4 : x3_1 < (a0.size : Int) := of_decide_eq_true (by first | (with_reducible assumption) | assumption)
        have hx4 := bt_at a0 x3_1
        replace p4 := eq_true p4
        replace q4 := eq_true q4
        go_wp2_with (first | ((with_reducible refine gate_dst (N := 22) rfl ?_); (try (refine gate_guard (by rfl) ?_; dsimp only)); refine Kd.R_lit (Kd.int .u8) _ 5 ?hg (N := 22) ?hd (xs := ([bt a0 x3_1] : List Int)) (inner := [.int .u8 (bt a0 x3_1)]) (ok := fun _ => True) (okp := fun _ => True) ?hr ?hp (fun _ hk => hk) trivial (Below.refl _ _) (Nat.le_refl _) (by simp) ?_; (case hd => rfl); (case hg => rfl); (case hr => first | (go_simp; done) | (go_simp; rfl)); (case hp => exact (Reps.one (show Kd.M (Kd.int .u8) _ _ _ (bt a0 x3_1) [.int .u8 (bt a0 x3_1)] from rfl) (Reps.none _ _))); intro v556 w9 ho10 hb hg_ hnew_; clear hg_ hnew_; (first | rw [← Ny555.out] at ho10 | (simp only [Int.reduceToNat] at ho10; rw [← Ny555.out] at ho10)); have n0_ := aM (Kd.R_lower ho10 (below_size (by repeat (first | (with_reducible first | exact HB.out | apply below_alloc | apply pw_below_drewN | apply below_drew1) | exact HB.out)))); have n1_ := aM (below_step (by repeat (first | (with_reducible first | exact HB.out | apply below_alloc | apply pw_below_drewN | apply below_drew1) | exact HB.out)) hb); clear HB; have HO557 := n0_; have HB := n1_; clear n0_ n1_; clear hb ho10; have hcv11 := own_string (P := Try.prog) Try.underlying69 Try.underlying5 Try.underlying9 (Kd.own_of_R HO557.out)) | ((with_reducible refine gate_dst (N := 24) rfl ?_); (try (refine gate_guard (by rfl) ?_; dsimp only)); refine Kd.R_lit Kd.string _ 9 ?hg (N := 24) ?hd (xs := ([(⟨#[61]⟩ : ByteArray), (⟨#[36]⟩ : ByteArray), (⟨#[58]⟩ : ByteArray), (⟨#[34]⟩ : ByteArray), (⟨#[39]⟩ : ByteArray), (⟨#[92]⟩ : ByteArray), (⟨#[126]⟩ : ByteArray)] : List ByteArray)) (inner := [.string (⟨#[61]⟩ : ByteArray), .string (⟨#[36]⟩ : ByteArray), .string (⟨#[58]⟩ : ByteArray), .string (⟨#[34]⟩ : ByteArray), .string (⟨#[39]⟩ : ByteArray), .string (⟨#[92]⟩ : ByteArray), .string (⟨#[126]⟩ : ByteArray)]) (ok := fun _ => True) (okp := fun _ => True) ?hr ?hp (fun _ hk => hk) trivial (Below.refl _ _) (Nat.le_refl _) (by simp) ?_; (case hd => rfl); (case hg => rfl); (case hr => first | (go_simp; done) | (go_simp; rfl)); (case hp => exact (Reps.one (show Kd.M Kd.string _ _ _ (⟨#[61]⟩ : ByteArray) [.string (⟨#[61]⟩ : ByteArray)] from rfl) (Reps.one (show Kd.M Kd.string _ _ _ (⟨#[36]⟩ : ByteArray) [.string (⟨#[36]⟩ : ByteArray)] from rfl) (Reps.one (show Kd.M Kd.string _ _ _ (⟨#[58]⟩ : ByteArray) [.string (⟨#[58]⟩ : ByteArray)] from rfl) (Reps.one (show Kd.M Kd.string _ _ _ (⟨#[34]⟩ : ByteArray) [.string (⟨#[34]⟩ : ByteArray)] from rfl) (Reps.one (show Kd.M Kd.string _ _ _ (⟨#[39]⟩ : ByteArray) [.string (⟨#[39]⟩ : ByteArray)] from rfl) (Reps.one (show Kd.M Kd.string _ _ _ (⟨#[92]⟩ : ByteArray) [.string (⟨#[92]⟩ : ByteArray)] from rfl) (Reps.one (show Kd.M Kd.string _ _ _ (⟨#[126]⟩ : ByteArray) [.string (⟨#[126]⟩ : ByteArray)] from rfl) (Reps.none _ _))))))))); intro v559 w12 ho13 hb hg_ hnew_; clear hg_ hnew_; (first | rw [← Ny558.out] at ho13 | (simp only [Int.reduceToNat] at ho13; rw [← Ny558.out] at ho13)); have n0_ := aM (Kd.R_below (by (with_reducible repeat (first | apply Kd.R_alloc | apply Kd.R_drewN | apply Kd.R_drew)); exact HO557.out) hb); have n1_ := aM (Kd.R_lower ho13 (below_size (by repeat (first | (with_reducible first | exact HB.out | apply below_alloc | apply pw_below_drewN | apply below_drew1) | exact HB.out)))); have n2_ := aM (below_step (by repeat (first | (with_reducible first | exact HB.out | apply below_alloc | apply pw_below_drewN | apply below_drew1) | exact HB.out)) hb); clear HO557; clear HB; have HO557 := n0_; have HO560 := n1_; have HB := n2_; clear n0_ n1_ n2_; clear hb ho13; obtain ⟨Ao14, co14, eo14⟩ := Kd.R_slice HO560.out; subst eo14) | (go_at_call 46; (with_reducible refine (spec_sayIn.calls k1 (strOfNums y555) _ _ y558 true _ ?side1 ?side2 A7.out).mono ?_); (case side1 => repeat (first | exact (Kd.R_reads' HO560.out).2.2 | (with_reducible refine Kd.C_alloc ?_ _) | (with_reducible refine Kd.C_drewN ?_ _) | (with_reducible refine Kd.C_drew ?_))); (case side2 => exact (Kd.R_reads' HO560.out).2.1); rintro e w' ⟨rfl, ⟨nd, rfl⟩⟩))
        go_ret
        exact ⟨by first | rfl | (simp [errW_none, errW_some] <;> rfl) | (simp [*, errW_none, errW_some] <;> rfl) | (refine congrArg (fun b_ => Ending.returned (.bool b_)) ?_; exact sayWordisE_ _) | (refine congrArg (fun b_ => Ending.returned (.bool b_)) ?_; exact nsayWordisE_ _), by repeat (first | (with_reducible first | exact HB.out | apply below_alloc | apply pw_below_drewN | apply below_drew1) | exact HB.out)⟩
       ·replace c8 := Bool.eq_false_iff.mpr c8
        subst c8
        have H1 : (spec_sayWord.l0 k1 a0 (wrap64 (x3_1 + 1))) = some r := by rw [if_neg (show ¬ (false = true) by decide)] at H; exact H
        clear H
        have H := H1
        clear H1
        have H' := aM H
        clear H
        have p4 : 0 ≤ (x3_1 : Int) := of_decide_eq_true (by first | (with_reducible assumption) | assumption)
        have q4 : x3_1 < (a0.size : Int) := of_decide_eq_true (by first | (with_reducible assumption) | assumption)
        have hx4 := bt_at a0 x3_1
        replace p4 := eq_true p4
        replace q4 := eq_true q4
        go_wp2_with (first | ((with_reducible refine gate_dst (N := 22) rfl ?_); (try (refine gate_guard (by rfl) ?_; dsimp only)); refine Kd.R_lit (Kd.int .u8) _ 5 ?hg (N := 22) ?hd (xs := ([bt a0 x3_1] : List Int)) (inner := [.int .u8 (bt a0 x3_1)]) (ok := fun _ => True) (okp := fun _ => True) ?hr ?hp (fun _ hk => hk) trivial (Below.refl _ _) (Nat.le_refl _) (by simp) ?_; (case hd => rfl); (case hg => rfl); (case hr => first | (go_simp; done) | (go_simp; rfl)); (case hp => exact (Reps.one (show Kd.M (Kd.int .u8) _ _ _ (bt a0 x3_1) [.int .u8 (bt a0 x3_1)] from rfl) (Reps.none _ _))); intro v556 w15 ho16 hb hg_ hnew_; clear hg_ hnew_; (first | rw [← Ny555.out] at ho16 | (simp only [Int.reduceToNat] at ho16; rw [← Ny555.out] at ho16)); have n0_ := aM (Kd.R_lower ho16 (below_size (by repeat (first | (with_reducible first | exact HB.out | apply below_alloc | apply pw_below_drewN | apply below_drew1) | exact HB.out)))); have n1_ := aM (below_step (by repeat (first | (with_reducible first | exact HB.out | apply below_alloc | apply pw_below_drewN | apply below_drew1) | exact HB.out)) hb); clear HB; have HO557 := n0_; have HB := n1_; clear n0_ n1_; clear hb ho16; have hcv17 := own_string (P := Try.prog) Try.underlying69 Try.underlying5 Try.underlying9 (Kd.own_of_R HO557.out)) | ((with_reducible refine gate_dst (N := 24) rfl ?_); (try (refine gate_guard (by rfl) ?_; dsimp only)); refine Kd.R_lit Kd.string _ 9 ?hg (N := 24) ?hd (xs := ([(⟨#[61]⟩ : ByteArray), (⟨#[36]⟩ : ByteArray), (⟨#[58]⟩ : ByteArray), (⟨#[34]⟩ : ByteArray), (⟨#[39]⟩ : ByteArray), (⟨#[92]⟩ : ByteArray), (⟨#[126]⟩ : ByteArray)] : List ByteArray)) (inner := [.string (⟨#[61]⟩ : ByteArray), .string (⟨#[36]⟩ : ByteArray), .string (⟨#[58]⟩ : ByteArray), .string (⟨#[34]⟩ : ByteArray), .string (⟨#[39]⟩ : ByteArray), .string (⟨#[92]⟩ : ByteArray), .string (⟨#[126]⟩ : ByteArray)]) (ok := fun _ => True) (okp := fun _ => True) ?hr ?hp (fun _ hk => hk) trivial (Below.refl _ _) (Nat.le_refl _) (by simp) ?_; (case hd => rfl); (case hg => rfl); (case hr => first | (go_simp; done) | (go_simp; rfl)); (case hp => exact (Reps.one (show Kd.M Kd.string _ _ _ (⟨#[61]⟩ : ByteArray) [.string (⟨#[61]⟩ : ByteArray)] from rfl) (Reps.one (show Kd.M Kd.string _ _ _ (⟨#[36]⟩ : ByteArray) [.string (⟨#[36]⟩ : ByteArray)] from rfl) (Reps.one (show Kd.M Kd.string _ _ _ (⟨#[58]⟩ : ByteArray) [.string (⟨#[58]⟩ : ByteArray)] from rfl) (Reps.one (show Kd.M Kd.string _ _ _ (⟨#[34]⟩ : ByteArray) [.string (⟨#[34]⟩ : ByteArray)] from rfl) (Reps.one (show Kd.M Kd.string _ _ _ (⟨#[39]⟩ : ByteArray) [.string (⟨#[39]⟩ : ByteArray)] from rfl) (Reps.one (show Kd.M Kd.string _ _ _ (⟨#[92]⟩ : ByteArray) [.string (⟨#[92]⟩ : ByteArray)] from rfl) (Reps.one (show Kd.M Kd.string _ _ _ (⟨#[126]⟩ : ByteArray) [.string (⟨#[126]⟩ : ByteArray)] from rfl) (Reps.none _ _))))))))); intro v559 w18 ho19 hb hg_ hnew_; clear hg_ hnew_; (first | rw [← Ny558.out] at ho19 | (simp only [Int.reduceToNat] at ho19; rw [← Ny558.out] at ho19)); have n0_ := aM (Kd.R_below (by (with_reducible repeat (first | apply Kd.R_alloc | apply Kd.R_drewN | apply Kd.R_drew)); exact HO557.out) hb); have n1_ := aM (Kd.R_lower ho19 (below_size (by repeat (first | (with_reducible first | exact HB.out | apply below_alloc | apply pw_below_drewN | apply below_drew1) | exact HB.out)))); have n2_ := aM (below_step (by repeat (first | (with_reducible first | exact HB.out | apply below_alloc | apply pw_below_drewN | apply below_drew1) | exact HB.out)) hb); clear HO557; clear HB; have HO557 := n0_; have HO560 := n1_; have HB := n2_; clear n0_ n1_ n2_; clear hb ho19; obtain ⟨Ao20, co20, eo20⟩ := Kd.R_slice HO560.out; subst eo20) | (go_at_call 46; (with_reducible refine (spec_sayIn.calls k1 (strOfNums y555) _ _ y558 false _ ?side1 ?side2 A7.out).mono ?_); (case side1 => repeat (first | exact (Kd.R_reads' HO560.out).2.2 | (with_reducible refine Kd.C_alloc ?_ _) | (with_reducible refine Kd.C_drewN ?_ _) | (with_reducible refine Kd.C_drew ?_))); (case side2 => exact (Kd.R_reads' HO560.out).2.1); rintro e w' ⟨rfl, ⟨nd, rfl⟩⟩))
        go_roundg k1
        case measure => have := HK1.out; omega
        case rel => exact ⟨(wrap64 (x3_1 + 1)), (by first | rfl | (simp; done) | (simp [*]; done)), H', ⟨by have := HK1.out; omega⟩, ⟨by repeat (first | (with_reducible first | exact HB.out | apply below_alloc | apply pw_below_drewN | apply below_drew1) | exact HB.out)⟩⟩
    ·rw [if_neg c3] at H
     exact absurd H (by simp)
   ·rw [if_neg c2] at H
    have c2b0 : decide (x3_1 < (a0.size : Int)) = false := decide_eq_false c2
    clear c2
    obtain rfl := Option.some.inj H
    go_wp2
    go_ret
    exact ⟨by first | rfl | (simp [errW_none, errW_some] <;> rfl) | (simp [*, errW_none, errW_some] <;> rfl) | (refine congrArg (fun b_ => Ending.returned (.bool b_)) ?_; exact sayWordisE_ _) | (refine congrArg (fun b_ => Ending.returned (.bool b_)) ?_; exact nsayWordisE_ _), by repeat (first | (with_reducible first | exact HB.out | apply below_alloc | apply pw_below_drewN | apply below_drew1) | exact HB.out)⟩
end Go.Proofs.Ytaembebbaejfiaa.PS
namespace Go.Proofs.Ytaembebbaejfiaa.PS
open Go.RowKit Go.Proofs.YtaembebbaejfiaaW.PrintWords Go.Proofs.YtaembebbaejfiaaW.PrintLast Go.Proofs.YtaembebbaejfiaaW.PrintMore
attribute [local go_sem] max2_int min2_int max_two min_two max_three min_three max_four min_four 
set_option linter.unusedVariables false
set_option linter.unusedSimpArgs false
def spec_PartWord.f (k : Nat) (a0 : ByteArray) : Option (Bool) := (spec_sayWord.f k a0).bind fun t562 => (some t562)
set_option maxHeartbeats 8000000 in
set_option maxRecDepth 100000 in
theorem spec_PartWord.calls (k : Nat) (a0 : ByteArray) (r : Bool) (w : World) (h : spec_PartWord.f k a0 = some r) :
  Calls Try.prog 11 #[.string a0] w fun e w' => e = .returned (.bool r) ∧ Below w.heap.size w w' := by
 have HB := aM (Below.refl w.heap.size w)
 have H : ((spec_sayWord.f k a0).bind fun t562 => (some t562)) = some r := h
 clear h
 replace H := Option.bind_eq_some_iff.mp H
 obtain ⟨t562, A20, H⟩ := H
 replace H : (some t562) = some r := H
 have A2 := aM A20
 clear A20
 obtain rfl := Option.some.inj H
 go_enter Try.func11, Try.ntmps11
 go_wp2_with (first | ((with_reducible refine gate_callee (f := 32) rfl ?_); refine goesL_ (some 4) rfl rfl Try.func32 (by kernel_rfl) rfl #[.string a0] rfl (by (try simp only [List.map_toArray, List.map_cons, List.map_nil]); first | done | rfl | (simp only [List.length_drop, List.length_take]; rfl)) ?_; (with_reducible refine (spec_sayWord.calls k a0 t562 _ A2.out).mono ?_); rintro e w3 ⟨rfl, hb⟩; refine ⟨_, rfl, ?_⟩; have n0_ := aM (below_step (by repeat (first | (with_reducible first | exact HB.out | apply below_alloc | apply pw_below_drewN | apply below_drew1) | exact HB.out)) hb); clear HB; have HB := n0_; clear n0_; (try clear hb); (try clear hb2); (try clear hk); (try clear hi)))
 go_ret
 exact ⟨by first | rfl | (simp [errW_none, errW_some] <;> rfl) | (simp [*, errW_none, errW_some] <;> rfl), by repeat (first | (with_reducible first | exact HB.out | apply below_alloc | apply pw_below_drewN | apply below_drew1) | exact HB.out)⟩
end Go.Proofs.Ytaembebbaejfiaa.PS
namespace Go.Proofs.Ytaembebbaejfiaa.Tr
open Go.RowKit Go.Proofs.YtaembebbaejfiaaW.PrintWords Go.Proofs.YtaembebbaejfiaaW.PrintLast Go.Proofs.Ytaembebbaejfiaa.Str Go.Proofs.Ytaembebbaejfiaa.Kit Go.Proofs.Ytaembebbaejfiaa.MapV Go.Proofs.Ytaembebbaejfiaa.Frame Go.Proofs.Ytaembebbaejfiaa.PS
open Go.Proofs.Ytaembebbaejfiaa.Val (place placeI placeB placeI_hit placeI_end)
set_option linter.unusedVariables false
set_option linter.unusedSimpArgs false
theorem t_gives (s : BA) (w : World) : Calls Try.prog 14 #[.string s] w (Gives (leaf 3 0 s) w) := by
 refine (spec_T.calls s 3 0 s [] [] w rfl).mono ?_
 rintro e w1 ⟨v3, v4, rfl, hr3, hr4, hb⟩
 obtain ⟨A3, c3, rfl, l3, g3⟩ := Kd.R_reads hr3
 obtain ⟨A4, c4, rfl, l4, g4⟩ := Kd.R_reads hr4
 exact ⟨A3, c3, A4, c4, rfl, ⟨l3, g3, l4, g4⟩, hb⟩
theorem b_gives (w : World) : Calls Try.prog 17 #[.bool true] w (Gives (leaf 1 1 ⟨#[]⟩) w) := by
 refine (spec_B.calls true 1 1 ⟨#[]⟩ [] [] w rfl).mono ?_
 rintro e w1 ⟨v3, v4, rfl, hr3, hr4, hb⟩
 obtain ⟨A3, c3, rfl, l3, g3⟩ := Kd.R_reads hr3
 obtain ⟨A4, c4, rfl, l4, g4⟩ := Kd.R_reads hr4
 exact ⟨A3, c3, A4, c4, rfl, ⟨l3, g3, l4, g4⟩, hb⟩
theorem l_gives (l : List VS) (A : Option Addr) (c : Nat) (w : World) (hl : l.length ≤ 1000) (hc : l.length ≤ c) (h : kS.C w A l.length l) : Calls Try.prog 15 #[.slice A l.length c] w (Gives ⟨4, 0, ⟨#[]⟩, [], l⟩ w) := by
 refine (spec_L.calls (fun k => k < w.heap.size) A c l 4 0 ⟨#[]⟩ [] l w (Kd.V_mk hc (Kd.C_F k25_heap h)) (by unfold spec_L.f; simp; omega)).mono ?_
 rintro e w1 ⟨v3, v4, rfl, hr3, hr4, hb⟩
 obtain ⟨A3, c3, rfl, l3, g3⟩ := Kd.R_reads hr3
 obtain ⟨A4, c4, rfl, l4, g4⟩ := Kd.N_reads hr4
 exact ⟨A3, c3, A4, c4, rfl, ⟨l3, g3, l4, g4⟩, hb⟩
theorem one_val (w : World) (x : VS) (A3 A4 : Option Addr) (c3 c4 : Nat) (h : Reads w x A3 c3 A4 c4) : kS.C (w.alloc (.cells #[.int .i64 x.f0, .int .i64 x.f1, .string x.f2, .slice A3 x.f3.length c3, .slice A4 x.f4.length c4] 25)) (some ⟨w.heap.size, 0, none⟩) ([x] : List VS).length [x] := by
 have hr := Reads.below h (below_alloc (Below.refl w.heap.size w) (.cells #[.int .i64 x.f0, .int .i64 x.f1, .string x.f2, .slice A3 x.f3.length c3, .slice A4 x.f4.length c4] 25))
 have hk := k25_mk _ x hr.l3 hr.hk hr.l4 hr.hv
 refine ⟨rfl, by simp, fun _ => ⟨_, rfl, fun j p hj => ?_⟩⟩
 have hj0 : j = 0 := by
  have := (List.getElem?_eq_some_iff.1 hj).1
  simp at this
  exact this
 subst hj0
 injection hj with hj
 subst hj
 refine ⟨_, kS.K_len hk, hk, fun i u hu => ?_⟩
 have hadd : ((⟨w.heap.size, 0, none⟩ : Addr).add (0 * kS.sz + i)) = ⟨w.heap.size, i, none⟩ := by
  rw [Nat.zero_mul, Nat.zero_add]
  have add : ∀ j : Nat, (⟨w.heap.size, 0, none⟩ : Addr).add j = ⟨w.heap.size, 0 + j, none⟩ := by intro j; unfold Addr.add; split <;> simp_all
  rw [add, Nat.zero_add]
 rw [hadd]
 exact cb_cell (i := i) (cb_new w (.cells #[.int .i64 x.f0, .int .i64 x.f1, .string x.f2, .slice A3 x.f3.length c3, .slice A4 x.f4.length c4] 25)) (by simpa using hu)
theorem turnwise2 (w : World) (k1 k2 : BA) (x y : VS) (A3 A4 : Option Addr) (c3 c4 : Nat) (B3 B4 : Option Addr) (d3 d4 : Nat) (hx : Reads w x A3 c3 A4 c4) (hy : Reads w y B3 d3 B4 d4) :
  Turnwise (w.alloc (.cells #[.iface 9 (.string k1), .iface 25 (.agg #[.int .i64 x.f0, .int .i64 x.f1, .string x.f2, .slice A3 x.f3.length c3, .slice A4 x.f4.length c4]), .iface 9 (.string k2), .iface 25 (.agg #[.int .i64 y.f0, .int .i64 y.f1, .string y.f2, .slice B3 y.f3.length d3, .slice B4 y.f4.length d4])] 20)) w.heap.size [(k1, x), (k2, y)] := by
 have hb := below_alloc (Below.refl w.heap.size w) (.cells #[.iface 9 (.string k1), .iface 25 (.agg #[.int .i64 x.f0, .int .i64 x.f1, .string x.f2, .slice A3 x.f3.length c3, .slice A4 x.f4.length c4]), .iface 9 (.string k2), .iface 25 (.agg #[.int .i64 y.f0, .int .i64 y.f1, .string y.f2, .slice B3 y.f3.length d3, .slice B4 y.f4.length d4])] 20)
 have hn := cb_new w (.cells #[.iface 9 (.string k1), .iface 25 (.agg #[.int .i64 x.f0, .int .i64 x.f1, .string x.f2, .slice A3 x.f3.length c3, .slice A4 x.f4.length c4]), .iface 9 (.string k2), .iface 25 (.agg #[.int .i64 y.f0, .int .i64 y.f1, .string y.f2, .slice B3 y.f3.length d3, .slice B4 y.f4.length d4])] 20)
 have hx' := hx.below hb
 have hy' := hy.below hb
 refine ⟨by rw [World.size_alloc]; omega, fun j hj => ?_⟩
 match j, hj with
 | 0, _ => exact ⟨A3, c3, A4, c4, cb_cell (i := 0) hn rfl, cb_cell (i := 1) hn rfl, k25_mk _ x hx'.l3 hx'.hk hx'.l4 hx'.hv⟩
 | 1, _ => exact ⟨B3, d3, B4, d4, cb_cell (i := 2) hn rfl, cb_cell (i := 3) hn rfl, k25_mk _ y hy'.l3 hy'.hk hy'.l4 hy'.hv⟩
 | _ + 2, h => exact absurd h (by simp)
theorem m_gives (ps : List (BA × VS)) (hps : ps.length ≤ 1000000) (b n c : Nat) (hn : n = 2 * ps.length) (w : World) (h : Turnwise w b ps) :
  Calls Try.prog 16 #[.slice (some ⟨b, 0, none⟩) n c] w (Gives (mapsOf (ps.map (·.1)) (ps.map (·.2))) w) := by
 refine (specM ps hps b n c hn w h).mono ?_
 rintro e w1 ⟨v3, v4, rfl, h3, h4, hb⟩
 obtain ⟨A3, c3, A4, c4, rfl, rfl, hr⟩ := fix_reads hb h3 h4
 exact ⟨A3, c3, A4, c4, rfl, hr, hb⟩
theorem m_gives2 (w : World) (k1 k2 : BA) (x y : VS) (A3 A4 : Option Addr) (c3 c4 : Nat) (B3 B4 : Option Addr) (d3 d4 : Nat) (hx : Reads w x A3 c3 A4 c4) (hy : Reads w y B3 d3 B4 d4) :
  Calls Try.prog 16 #[.slice (some ⟨w.heap.size, 0, none⟩) 4 4] (w.alloc (.cells #[.iface 9 (.string k1), .iface 25 (.agg #[.int .i64 x.f0, .int .i64 x.f1, .string x.f2, .slice A3 x.f3.length c3, .slice A4 x.f4.length c4]), .iface 9 (.string k2), .iface 25 (.agg #[.int .i64 y.f0, .int .i64 y.f1, .string y.f2, .slice B3 y.f3.length d3, .slice B4 y.f4.length d4])] 20)) (Gives (mapsOf [k1, k2] [x, y]) (w.alloc (.cells #[.iface 9 (.string k1), .iface 25 (.agg #[.int .i64 x.f0, .int .i64 x.f1, .string x.f2, .slice A3 x.f3.length c3, .slice A4 x.f4.length c4]), .iface 9 (.string k2), .iface 25 (.agg #[.int .i64 y.f0, .int .i64 y.f1, .string y.f2, .slice B3 y.f3.length d3, .slice B4 y.f4.length d4])] 20))) :=
 m_gives [(k1, x), (k2, y)] (by simp) w.heap.size 4 4 rfl _ (turnwise2 w k1 k2 x y A3 A4 c3 c4 B3 B4 d3 d4 hx hy)
theorem maps_env (p : BA) : anyOf (toI (mapsOf [pathK, reqK] [leaf 3 0 p, leaf 1 1 ⟨#[]⟩])) = .map (envM p) ∧ Canon (mapsOf [pathK, reqK] [leaf 3 0 p, leaf 1 1 ⟨#[]⟩]) ∧ (p.size ≤ 140737488355328 → SmallS (mapsOf [pathK, reqK] [leaf 3 0 p, leaf 1 1 ⟨#[]⟩])) := by
 obtain ⟨a, b, c, d, e, f⟩ := fitW_facts [pathK, reqK] [leaf 3 0 p, leaf 1 1 ⟨#[]⟩] [] [] rfl List.Pairwise.nil
 have hz := fitW_mput (fun v => anyOf (toI v)) [pathK, reqK] [leaf 3 0 p, leaf 1 1 ⟨#[]⟩] [] [] List.Pairwise.nil rfl rfl
 unfold mapsOf
 generalize fitW [pathK, reqK] [leaf 3 0 p, leaf 1 1 ⟨#[]⟩] [] [] = KV at *
 obtain ⟨K, V⟩ := KV
 have hm : ∀ v, v ∈ V → v = leaf 3 0 p ∨ v = leaf 1 1 ⟨#[]⟩ := fun v hv => by
  rcases f v hv with h | h
  ·cases h
  ·simpa using h
 refine ⟨?_, .map K V b a (fun v hv => ?_), fun hp => .mk _ (Nat.zero_le _) (fun s h => ?_) (by show K.length ≤ _; simp at c; omega) (by show V.length ≤ _; simp at d; omega) (fun v hv => ?_)⟩
 ·rw [canon_anyOf_map b, anyL_map, toL_map, List.map_map]
  refine congrArg Y.map (Eq.trans hz ?_)
  rw [← envM_put]
  simp [leaf, toI, toL, anyOf]
 ·rcases hm v hv with rfl | rfl
  ·exact .text p
  ·exact .bool true
 ·rcases e s h with h | h
  ·cases h
  ·simp at h
   rcases h with rfl | rfl <;> (unfold maxLen; decide)
 ·rcases hm v hv with rfl | rfl
  ·exact leaf_small _ _ _ hp
  ·exact leaf_small _ _ _ (by decide)
def envY (p : BA) : Y := .list [.map (envM p)]
theorem env_fits (p : BA) : FitsY (envY p) := by
 refine .list _ (by simp) (fun y hy => ?_)
 obtain rfl := List.mem_singleton.1 hy
 refine .map _ (by simp [envM]) (fun q hq => ?_) (fun q hq => ?_)
 ·simp [envM] at hq
  rcases hq with rfl | rfl
  ·show (lb pathK).length ≤ maxLen; unfold maxLen; decide
  ·show (lb reqK).length ≤ maxLen; unfold maxLen; decide
 ·simp [envM] at hq
  rcases hq with rfl | rfl
  ·exact .text _
  ·exact .bool _
def EnvForm (p : BA) (y : Y) : Prop := y = .text p ∨ y = .list [.text p] ∨ y = .list [.map (envM p)]
theorem turns_env (p : BA) (x : VS) (hs : SmallS x) (hf : EnvForm p (anyOf (toI x))) (ig : Bool) : Turns ig (toI x) (valOf (envY p)) := by
 intro w A3 A4 c3 c4 l3 hk l4 hv
 refine impl_trans (toI x) (small_to x hs) _ (env_fits p) ig (fun B W v pv F hB hF ha => ?_) A3 A4 c3 c4 w l3 hk l4 hv
 rcases hf with h | h | h
 ·rw [h] at ha
  obtain rfl : v = .iface 9 (.string p) := by cases ha; rfl
  exact env_text B p _ ig W hB
 ·rw [h] at ha
  exact env_list B _ _ (val_text B p) v _ ig W hB hF ha
 ·rw [h] at ha
  exact env_list B _ _ (val_map B p) v _ ig W hB hF ha
theorem ends_sayWord_l (s : BA) (hs : s.size < 4611686018427387904) : ∀ (d i : Nat), i + d = s.size → Ends (fun _ => True) (fun k => spec_sayWord.l0 k s (i : Int)) := by
 intro d
 induction d with
 | zero =>
  intro i hi
  refine Ends.step (fun k => by simp only [spec_sayWord.l0]; rfl) ?_
  exact Ends.no (by omega) (Ends.now trivial)
 | succ d ih =>
  intro i hi
  have hn := ih (i + 1) (by omega)
  refine Ends.step (fun k => by simp only [spec_sayWord.l0]; rfl) ?_
  rw [wrapS i (by omega)]
  refine Ends.yes (by omega) (Ends.yes (by omega) ?_)
  repeat' first
   | exact hn
   | exact Ends.now trivial
   | (refine Ends.bindEv (ev_sayIn _ _ (by simp)) ?_)
   | (refine Ends.ite (fun _ => ?_) (fun _ => ?_))
theorem ends_sayWord (s : BA) (hs : s.size < 4611686018427387904) : Ends (fun _ => True) (fun k => spec_sayWord.f k s) := ends_sayWord_l s hs s.size 0 (by omega)
theorem short_from {x : VI} (h : Small x) : Short (fromI x) := by
 induction h with
 | mk x hk hkl hvl hv ih =>
  rw [fromI_eq]
  exact .mk _ hkl (by show (fromL x.f4).length ≤ _; rw [fromL_length]; exact hvl) (fun v hv' => by
   have h2 : v ∈ x.f4.map fromI := by rw [← fromL_map]; exact hv'
   obtain ⟨u, hu, rfl⟩ := List.mem_map.1 h2
   exact ih u hu)
set_option maxHeartbeats 6400000 in
set_option maxRecDepth 100000 in
theorem lawEnv (p : BA) (hp : p.size ≤ 140737488351232) (ig : Bool) (w : World) : Calls Try.prog 4 #[.string p, .bool ig] w fun e w' => e = .returned (.bool true) ∧ Below w.heap.size w w' := by
 by_cases h31 : (2147483647 : Int) < (p.size : Int)
 ·have d1 : decide ((2147483647 : Int) < (p.size : Int)) = true := decide_eq_true h31
  go_enter Try.func4, Try.ntmps4
  go_wp2
  go_ret
  exact ⟨rfl, Below.refl _ _⟩
 have d1 : decide ((2147483647 : Int) < (p.size : Int)) = false := decide_eq_false h31
 have hp2 : p.size ≤ 140737488355328 := by omega
 obtain ⟨bw, hbw⟩ : ∃ b, Ev (fun k => spec_PartWord.f k p) b := by
  obtain ⟨b, hb, _⟩ := ends_sayWord p (by omega)
  exact ⟨b, ev_bind (f := fun _ t => some t) hb (Ev.now _)⟩
 obtain ⟨kw, hkw⟩ := hbw.rounds
 have CW := aM (spec_PartWord.calls kw p bw w hkw)
 have HP := aM hp2
 clear hbw hkw hp2 h31 hp
 obtain ⟨xv, hxv⟩ : ∃ xv, valOf (envY p) = xv := ⟨_, rfl⟩
 have TE := aM (fun (x : VS) (hs : SmallS x) (hf : EnvForm p (anyOf (toI x))) => (show Turns ig (toI x) xv from hxv ▸ turns_env p x hs hf ig))
 have hxs : Small xv := hxv ▸ small_of (env_fits p)
 obtain ⟨z, hz⟩ : ∃ z, fromI xv = z := ⟨_, rfl⟩
 have hzs : Short z := hz ▸ short_from hxs
 have HXS := aM (And.intro hxs (And.intro hz hzs))
 clear hxv hxs hz hzs
 obtain ⟨x0, x1, x2, x3, x4⟩ := xv
 go_enter Try.func4, Try.ntmps4
 go_wp2_with fail
 refine CW.out.mono ?_
 rintro e w1 ⟨rfl, hb⟩
 have HB1 := aM hb
 clear hb CW
 cases bw
 ·go_wp2
  go_ret
  exact ⟨rfl, HB1.out⟩
 go_wp2_with fail
 refine (t_gives p w1).mono ?_
 rintro e w2 ⟨A3, c3, A4, c4, rfl, hr, hb⟩
 have HB2 := aM (hb_then HB1.out hb)
 have CT := aM (to_calls (leaf 3 0 p) (leaf_small _ _ _ HP.out) A3 A4 c3 c4 w2 hr.l3 hr.hk hr.l4 hr.hv)
 clear hb HB1 hr
 go_wp2_with fail
 refine CT.out.mono ?_
 rintro e w3 ⟨B3, d3, B4, d4, rfl, l3, r3, l4, r4, hb⟩
 have HB3 := aM (hb_then HB2.out hb)
 have CE := aM (TE.out (leaf 3 0 p) (leaf_small _ _ _ HP.out) (.inl (by simp [leaf, toI, toL, anyOf])) w3 B3 B4 d3 d4 l3 r3 l4 r4)
 clear hb HB2 CT l3 r3 l4 r4
 go_wp2_with fail
 refine CE.out.mono ?_
 rintro e w4 ⟨v3, v4, rfl, hv3, hv4, hb⟩
 obtain ⟨P3, p5, rfl, k3, r3⟩ := Kd.R_reads hv3
 obtain ⟨P4, p6, rfl, k4, r4⟩ := Kd.R_reads hv4
 have hbn := below_alloc (Below.refl w4.heap.size w4) (.cells #[.int .i64 x0, .int .i64 x1, .string x2, .slice P3 x3.length p5, .slice P4 x4.length p6] 36)
 have HB4 := aM (hb_then (hb_then HB3.out hb) hbn)
 have HP4 := aM (cb_new w4 (.cells #[.int .i64 x0, .int .i64 x1, .string x2, .slice P3 x3.length p5, .slice P4 x4.length p6] 36))
 have RP4 := aM (And.intro k3 (And.intro (Kd.C_below r3 hbn) (And.intro k4 (Kd.C_below r4 hbn))))
 clear hb hbn HB3 CE hv3 hv4 r3 r4 k3 k4
 go_wp2_with fail
 refine (t_gives p _).mono ?_
 rintro e w5 ⟨A3, c3, A4, c4, rfl, hr, hb⟩
 have hbn := below_alloc (Below.refl w5.heap.size w5) (.cells #[.int .i64 3, .int .i64 0, .string p, .slice A3 0 c3, .slice A4 0 c4] 25)
 have HB5 := aM (hb_then (hb_then HB4.out hb) hbn)
 have HP5 := aM (blk_alloc ((hb.block _ (cb_lt HP4.out)).trans HP4.out) (.cells #[.int .i64 3, .int .i64 0, .string p, .slice A3 0 c3, .slice A4 0 c4] 25))
 have RP5 := aM (And.intro RP4.out.1 (And.intro (Kd.C_below (Kd.C_below RP4.out.2.1 hb) hbn) (And.intro RP4.out.2.2.1 (Kd.C_below (Kd.C_below RP4.out.2.2.2 hb) hbn))))
 have CL := aM (l_gives [leaf 3 0 p] (some ⟨w5.heap.size, 0, none⟩) 1 _ (by simp) (by simp) (one_val w5 (leaf 3 0 p) A3 A4 c3 c4 hr))
 clear hb hbn HB4 HP4 RP4 hr
 go_wp2_with fail
 refine CL.out.mono ?_
 rintro e w6 ⟨A3, c3, A4, c4, rfl, hr, hb⟩
 have HB6 := aM (hb_then HB5.out hb)
 have HP6 := aM ((hb.block _ (cb_lt HP5.out)).trans HP5.out)
 have RP6 := aM (And.intro RP5.out.1 (And.intro (Kd.C_below RP5.out.2.1 hb) (And.intro RP5.out.2.2.1 (Kd.C_below RP5.out.2.2.2 hb))))
 have hls : SmallS (⟨4, 0, ⟨#[]⟩, [], [leaf 3 0 p]⟩ : VS) := .mk _ (Nat.zero_le _) (fun s h => by cases h) (Nat.zero_le _) (by simp) (fun v hv => by obtain rfl := List.mem_singleton.1 hv; exact leaf_small _ _ _ HP.out)
 have CT := aM (to_calls (⟨4, 0, ⟨#[]⟩, [], [leaf 3 0 p]⟩ : VS) hls A3 A4 c3 c4 w6 hr.l3 hr.hk hr.l4 hr.hv)
 have TE2 := aM (TE.out (⟨4, 0, ⟨#[]⟩, [], [leaf 3 0 p]⟩ : VS) hls (.inr (.inl (by simp [leaf, toI, toL, anyOf, anyL]))))
 clear hb HB5 HP5 RP5 hr CL hls
 go_wp2_with fail
 refine CT.out.mono ?_
 rintro e w7 ⟨B3, d3, B4, d4, rfl, l3, r3, l4, r4, hb⟩
 have HB7 := aM (hb_then HB6.out hb)
 have HP7 := aM ((hb.block _ (cb_lt HP6.out)).trans HP6.out)
 have RP7 := aM (And.intro RP6.out.1 (And.intro (Kd.C_below RP6.out.2.1 hb) (And.intro RP6.out.2.2.1 (Kd.C_below RP6.out.2.2.2 hb))))
 have CE := aM (TE2.out w7 B3 B4 d3 d4 l3 r3 l4 r4)
 clear hb HB6 HP6 RP6 CT l3 r3 l4 r4 TE2
 go_wp2_with fail
 refine CE.out.mono ?_
 rintro e w8 ⟨v3, v4, rfl, hv3, hv4, hb⟩
 obtain ⟨Q3, q5, rfl, k3, r3⟩ := Kd.R_reads hv3
 obtain ⟨Q4, q6, rfl, k4, r4⟩ := Kd.R_reads hv4
 have hbn := below_alloc (Below.refl w8.heap.size w8) (.cells #[.int .i64 x0, .int .i64 x1, .string x2, .slice Q3 x3.length q5, .slice Q4 x4.length q6] 36)
 have HB8 := aM (hb_then (hb_then HB7.out hb) hbn)
 have HP8 := aM (blk_alloc ((hb.block _ (cb_lt HP7.out)).trans HP7.out) (.cells #[.int .i64 x0, .int .i64 x1, .string x2, .slice Q3 x3.length q5, .slice Q4 x4.length q6] 36))
 have RP8 := aM (And.intro RP7.out.1 (And.intro (Kd.C_below (Kd.C_below RP7.out.2.1 hb) hbn) (And.intro RP7.out.2.2.1 (Kd.C_below (Kd.C_below RP7.out.2.2.2 hb) hbn))))
 have HQ8 := aM (cb_new w8 (.cells #[.int .i64 x0, .int .i64 x1, .string x2, .slice Q3 x3.length q5, .slice Q4 x4.length q6] 36))
 have RQ8 := aM (And.intro k3 (And.intro (Kd.C_below r3 hbn) (And.intro k4 (Kd.C_below r4 hbn))))
 clear hb hbn HB7 HP7 RP7 CE hv3 hv4 r3 r4 k3 k4
 go_wp2_with fail
 refine (t_gives p _).mono ?_
 rintro e w9 ⟨A3, c3, A4, c4, rfl, hr, hb⟩
 have HB9 := aM (hb_then HB8.out hb)
 have HR9 := aM hr
 have HB89 := aM hb
 clear hb hr
 go_wp2_with fail
 refine (b_gives _).mono ?_
 rintro e w10 ⟨B3, d3, B4, d4, rfl, hr, hb⟩
 have hbn := below_alloc (Below.refl w10.heap.size w10) (.cells #[.iface 9 (.string pathK), .iface 25 (.agg #[.int .i64 3, .int .i64 0, .string p, .slice A3 0 c3, .slice A4 0 c4]), .iface 9 (.string reqK), .iface 25 (.agg #[.int .i64 1, .int .i64 1, .string ⟨#[]⟩, .slice B3 0 d3, .slice B4 0 d4])] 20)
 have hbx := hb_then (hb_then HB89.out hb) hbn
 have HB10 := aM (hb_then (hb_then HB9.out hb) hbn)
 have HP10 := aM ((hbx.block _ (cb_lt HP8.out)).trans HP8.out)
 have RP10 := aM (And.intro RP8.out.1 (And.intro (Kd.C_below RP8.out.2.1 hbx) (And.intro RP8.out.2.2.1 (Kd.C_below RP8.out.2.2.2 hbx))))
 have HQ10 := aM ((hbx.block _ (cb_lt HQ8.out)).trans HQ8.out)
 have RQ10 := aM (And.intro RQ8.out.1 (And.intro (Kd.C_below RQ8.out.2.1 hbx) (And.intro RQ8.out.2.2.1 (Kd.C_below RQ8.out.2.2.2 hbx))))
 have CM := aM (m_gives2 w10 pathK reqK (leaf 3 0 p) (leaf 1 1 ⟨#[]⟩) A3 A4 c3 c4 B3 B4 d3 d4 (HR9.out.below hb) hr)
 obtain ⟨hm1, hm2, hm3⟩ := maps_env p
 have HMS := aM (And.intro hm1 (And.intro hm2 (hm3 HP.out)))
 clear hm1 hm2 hm3
 generalize mapsOf [pathK, reqK] [leaf 3 0 p, leaf 1 1 ⟨#[]⟩] = mv at CM HMS
 clear hb hbn hbx HB9 HP8 RP8 HQ8 RQ8 HR9 HB89 hr HB8
 go_wp2_with fail
 refine CM.out.mono ?_
 rintro e w11 ⟨A3, c3, A4, c4, rfl, hr, hb⟩
 have hbn := below_alloc (Below.refl w11.heap.size w11) (.cells #[.int .i64 mv.f0, .int .i64 mv.f1, .string mv.f2, .slice A3 mv.f3.length c3, .slice A4 mv.f4.length c4] 25)
 have hbx := hb_then hb hbn
 have HB11 := aM (hb_then HB10.out hbx)
 have HP11 := aM ((hbx.block _ (cb_lt HP10.out)).trans HP10.out)
 have RP11 := aM (And.intro RP10.out.1 (And.intro (Kd.C_below RP10.out.2.1 hbx) (And.intro RP10.out.2.2.1 (Kd.C_below RP10.out.2.2.2 hbx))))
 have HQ11 := aM ((hbx.block _ (cb_lt HQ10.out)).trans HQ10.out)
 have RQ11 := aM (And.intro RQ10.out.1 (And.intro (Kd.C_below RQ10.out.2.1 hbx) (And.intro RQ10.out.2.2.1 (Kd.C_below RQ10.out.2.2.2 hbx))))
 have CL := aM (l_gives [mv] (some ⟨w11.heap.size, 0, none⟩) 1 _ (by simp) (by simp) (one_val w11 mv A3 A4 c3 c4 hr))
 clear hb hbn hbx HB10 HP10 RP10 HQ10 RQ10 hr CM
 go_wp2_with fail
 refine CL.out.mono ?_
 rintro e w12 ⟨A3, c3, A4, c4, rfl, hr, hb⟩
 have HB12 := aM (hb_then HB11.out hb)
 have HP12 := aM ((hb.block _ (cb_lt HP11.out)).trans HP11.out)
 have RP12 := aM (And.intro RP11.out.1 (And.intro (Kd.C_below RP11.out.2.1 hb) (And.intro RP11.out.2.2.1 (Kd.C_below RP11.out.2.2.2 hb))))
 have HQ12 := aM ((hb.block _ (cb_lt HQ11.out)).trans HQ11.out)
 have RQ12 := aM (And.intro RQ11.out.1 (And.intro (Kd.C_below RQ11.out.2.1 hb) (And.intro RQ11.out.2.2.1 (Kd.C_below RQ11.out.2.2.2 hb))))
 have hls : SmallS (⟨4, 0, ⟨#[]⟩, [], [mv]⟩ : VS) := .mk _ (Nat.zero_le _) (fun s h => by cases h) (Nat.zero_le _) (by simp) (fun v hv => by obtain rfl := List.mem_singleton.1 hv; exact HMS.out.2.2)
 have CT := aM (to_calls (⟨4, 0, ⟨#[]⟩, [], [mv]⟩ : VS) hls A3 A4 c3 c4 w12 hr.l3 hr.hk hr.l4 hr.hv)
 have TE2 := aM (TE.out (⟨4, 0, ⟨#[]⟩, [], [mv]⟩ : VS) hls (.inr (.inr (by rw [toI_eq]; simp only [anyOf]; rw [if_neg (by decide), if_neg (by decide), if_neg (by decide), if_pos trivial]; simp [toL, anyL, HMS.out.1]))))
 clear hb HB11 HP11 RP11 HQ11 RQ11 hr CL hls
 go_wp2_with fail
 refine CT.out.mono ?_
 rintro e w13 ⟨B3, d3, B4, d4, rfl, l3, r3, l4, r4, hb⟩
 have HB13 := aM (hb_then HB12.out hb)
 have HP13 := aM ((hb.block _ (cb_lt HP12.out)).trans HP12.out)
 have RP13 := aM (And.intro RP12.out.1 (And.intro (Kd.C_below RP12.out.2.1 hb) (And.intro RP12.out.2.2.1 (Kd.C_below RP12.out.2.2.2 hb))))
 have HQ13 := aM ((hb.block _ (cb_lt HQ12.out)).trans HQ12.out)
 have RQ13 := aM (And.intro RQ12.out.1 (And.intro (Kd.C_below RQ12.out.2.1 hb) (And.intro RQ12.out.2.2.1 (Kd.C_below RQ12.out.2.2.2 hb))))
 have CE := aM (TE2.out w13 B3 B4 d3 d4 l3 r3 l4 r4)
 clear hb HB12 HP12 RP12 HQ12 RQ12 CT l3 r3 l4 r4 TE2
 go_wp2_with fail
 refine CE.out.mono ?_
 rintro e w14 ⟨v3, v4, rfl, hv3, hv4, hb⟩
 obtain ⟨R3, r5, rfl, k3, g3⟩ := Kd.R_reads hv3
 obtain ⟨R4, r6, rfl, k4, g4⟩ := Kd.R_reads hv4
 have hbn := below_alloc (Below.refl w14.heap.size w14) (.cells #[.int .i64 x0, .int .i64 x1, .string x2, .slice R3 x3.length r5, .slice R4 x4.length r6] 36)
 have hbx := hb_then hb hbn
 have HB14 := aM (hb_then HB13.out hbx)
 have HP14 := aM ((hbx.block _ (cb_lt HP13.out)).trans HP13.out)
 have RP14 := aM (And.intro RP13.out.1 (And.intro (Kd.C_below RP13.out.2.1 hbx) (And.intro RP13.out.2.2.1 (Kd.C_below RP13.out.2.2.2 hbx))))
 have HQ14 := aM ((hbx.block _ (cb_lt HQ13.out)).trans HQ13.out)
 have RQ14 := aM (And.intro RQ13.out.1 (And.intro (Kd.C_below RQ13.out.2.1 hbx) (And.intro RQ13.out.2.2.1 (Kd.C_below RQ13.out.2.2.2 hbx))))
 have HR14 := aM (cb_new w14 (.cells #[.int .i64 x0, .int .i64 x1, .string x2, .slice R3 x3.length r5, .slice R4 x4.length r6] 36))
 have RR14 := aM (And.intro k3 (And.intro (Kd.C_below g3 hbn) (And.intro k4 (Kd.C_below g4 hbn))))
 obtain ⟨y0, y1, y2, y3, y4⟩ := cell_row5 HP14.out
 obtain ⟨y5, y6, y7, y8, y9⟩ := cell_row5 HQ14.out
 obtain ⟨y10, y11, y12, y13, y14⟩ := cell_row5 HR14.out
 clear hb hbn hbx HB13 HP13 RP13 HQ13 RQ13 CE hv3 hv4 g3 g4 k3 k4 HP14 HQ14 HR14
 go_wp2
 generalize hW0 : w14.alloc _ = W0 at HB14 RP14 RQ14 RR14 y0 y1 y2 y3 y4 y5 y6 y7 y8 y9 y10 y11 y12 y13 y14 ⊢
 have RPW := RP14
 have RQW := RQ14
 have RRW := RR14
 clear hW0 RP14 RQ14 RR14
 refine start_ (n := 22) (S := fun w' => w'.cell? ⟨w4.heap.size, 0, none⟩ = some (.int .i64 x0) ∧ w'.cell? ⟨w4.heap.size, 1, none⟩ = some (.int .i64 x1) ∧ w'.cell? ⟨w4.heap.size, 2, none⟩ = some (.string x2) ∧ w'.cell? ⟨w4.heap.size, 3, none⟩ = some (.slice P3 x3.length p5) ∧ w'.cell? ⟨w4.heap.size, 4, none⟩ = some (.slice P4 x4.length p6) ∧ w'.cell? ⟨w8.heap.size, 0, none⟩ = some (.int .i64 x0) ∧ w'.cell? ⟨w8.heap.size, 1, none⟩ = some (.int .i64 x1) ∧ w'.cell? ⟨w8.heap.size, 2, none⟩ = some (.string x2) ∧ w'.cell? ⟨w8.heap.size, 3, none⟩ = some (.slice Q3 x3.length q5) ∧ w'.cell? ⟨w8.heap.size, 4, none⟩ = some (.slice Q4 x4.length q6) ∧ w'.cell? ⟨w14.heap.size, 0, none⟩ = some (.int .i64 x0) ∧ w'.cell? ⟨w14.heap.size, 1, none⟩ = some (.int .i64 x1) ∧ w'.cell? ⟨w14.heap.size, 2, none⟩ = some (.string x2) ∧ w'.cell? ⟨w14.heap.size, 3, none⟩ = some (.slice R3 x3.length r5) ∧ w'.cell? ⟨w14.heap.size, 4, none⟩ = some (.slice R4 x4.length r6)) (ds := []) #[false, false, false, false, false, false, false, false, false, false, false, false, false, false, false, false, false, false, false, false, false, false] (by kernel_rfl) rfl rfl ⟨y0, y1, y2, y3, y4, y5, y6, y7, y8, y9, y10, y11, y12, y13, y14⟩ (fun hHeld => ?_)
 refine pure_ (i := 0) (N := some 52) (v := ?_) (a' := ?_) #[true, false, false, false, false, false, false, false, false, false, false, false, false, false, false, false, false, false, false, false, false, false] rfl rfl (by kernel_rfl) (fun _ _ _ h => h) (Or.inl ⟨by rfl, ?_⟩) ?_ ?_
 rotate_left
 ·intro w'; go_simp; with_reducible rfl
 rotate_left
 ·simp only [Act.put, sA, sB, sC, i64_w, i32_w]; rfl
 refine pure_ (i := 1) (N := some 53) (v := ?_) (a' := ?_) #[true, true, false, false, false, false, false, false, false, false, false, false, false, false, false, false, false, false, false, false, false, false] rfl rfl (by kernel_rfl) (fun _ _ _ h => h) (Or.inl ⟨by rfl, ?_⟩) ?_ ?_
 rotate_left
 ·intro w'; go_simp; with_reducible rfl
 rotate_left
 ·simp only [Act.put, sA, sB, sC, i64_w, i32_w]; rfl
 refine pure_ (i := 2) (N := some 54) (v := ?_) (a' := ?_) #[true, true, true, false, false, false, false, false, false, false, false, false, false, false, false, false, false, false, false, false, false, false] rfl rfl (by kernel_rfl) (fun _ _ _ h => h) (Or.inl ⟨by rfl, ?_⟩) ?_ ?_
 rotate_left
 ·intro w'; go_simp; with_reducible rfl
 rotate_left
 ·simp only [Act.put, sA, sB, sC, i64_w, i32_w]; rfl
 refine pure_ (i := 3) (N := some 55) (v := ?_) (a' := ?_) #[true, true, true, true, false, false, false, false, false, false, false, false, false, false, false, false, false, false, false, false, false, false] rfl rfl (by kernel_rfl) (fun _ _ _ h => h) (Or.inl ⟨by rfl, ?_⟩) ?_ ?_
 rotate_left
 ·intro w'; go_simp; with_reducible rfl
 rotate_left
 ·simp only [Act.put, sA, sB, sC, i64_w, i32_w]; rfl
 refine pure_ (i := 4) (N := some 56) (v := ?_) (a' := ?_) #[true, true, true, true, true, false, false, false, false, false, false, false, false, false, false, false, false, false, false, false, false, false] rfl rfl (by kernel_rfl) (fun _ _ _ h => h) (Or.inl ⟨by rfl, ?_⟩) ?_ ?_
 rotate_left
 ·intro w'; go_simp; with_reducible rfl
 rotate_left
 ·simp only [Act.put, sA, sB, sC, i64_w, i32_w]; rfl
 refine pure_ (i := 5) (N := some 57) (v := ?_) (a' := ?_) #[true, true, true, true, true, true, false, false, false, false, false, false, false, false, false, false, false, false, false, false, false, false] rfl rfl (by kernel_rfl) (fun _ _ _ h => h) (Or.inl ⟨by rfl, ?_⟩) ?_ ?_
 rotate_left
 ·intro w'; go_simp; with_reducible rfl
 rotate_left
 ·simp only [Act.put, sA, sB, sC, i64_w, i32_w]; rfl
 refine pure_ (i := 6) (N := some 58) (v := ?_) (a' := ?_) #[true, true, true, true, true, true, true, false, false, false, false, false, false, false, false, false, false, false, false, false, false, false] rfl rfl (by kernel_rfl) (fun _ _ _ h => h) (Or.inl ⟨by rfl, ?_⟩) ?_ ?_
 rotate_left
 ·intro w'; go_simp; with_reducible rfl
 rotate_left
 ·simp only [Act.put, sA, sB, sC, i64_w, i32_w]; rfl
 refine pure_ (i := 7) (N := some 59) (v := ?_) (a' := ?_) #[true, true, true, true, true, true, true, true, false, false, false, false, false, false, false, false, false, false, false, false, false, false] rfl rfl (by kernel_rfl) (fun _ _ _ h => h) (Or.inl ⟨by rfl, ?_⟩) ?_ ?_
 rotate_left
 ·intro w'; go_simp; with_reducible rfl
 rotate_left
 ·simp only [Act.put, sA, sB, sC, i64_w, i32_w]; rfl
 refine take_ (i := 8) (N := some 60) (v := ?_) (a' := ?_) #[true, true, true, true, true, true, true, true, true, false, false, false, false, false, false, false, false, false, false, false, false, false] rfl rfl (by kernel_rfl) (fun _ _ _ h => h) (Or.inl ⟨by rfl, ?_⟩) hHeld ?_ ?_
 rotate_left
 ·rintro w' ⟨s0, s1, s2, s3, s4, s5, s6, s7, s8, s9, s10, s11, s12, s13, s14⟩
  go_simp; with_reducible rfl
 rotate_left
 ·simp only [Act.put, sA, sB, sC, i64_w, i32_w]; rfl
 refine take_ (i := 10) (N := some 62) (v := ?_) (a' := ?_) #[true, true, true, true, true, true, true, true, true, false, true, false, false, false, false, false, false, false, false, false, false, false] rfl rfl (by kernel_rfl) (fun _ _ _ h => h) (Or.inl ⟨by rfl, ?_⟩) hHeld ?_ ?_
 rotate_left
 ·rintro w' ⟨s0, s1, s2, s3, s4, s5, s6, s7, s8, s9, s10, s11, s12, s13, s14⟩
  go_simp; with_reducible rfl
 rotate_left
 ·simp only [Act.put, sA, sB, sC, i64_w, i32_w]; rfl
 refine one_ (i := 9) (N := some 61) #[true, true, true, true, true, true, true, true, true, true, true, false, false, false, false, false, false, false, false, false, false, false] rfl rfl (by kernel_rfl) (by decide) (fun K hK => ?_)
 refine goes_ Try.func19 (by kernel_rfl) rfl #[.agg #[.int .i64 x0, .int .i64 x1, .string x2, .slice P3 x3.length p5, .slice P4 x4.length p6]] (by rfl) rfl rfl (by simp only [List.map_toArray, List.map_cons, List.map_nil]; rfl) ?_
 with_reducible refine (from_calls ⟨x0, x1, x2, x3, x4⟩ z HXS.out.2.1 HXS.out.1 P3 P4 p5 p6 W0.drew RPW.out.1 (Kd.C_below RPW.out.2.1 (below_drew (Below.refl W0.heap.size W0))) RPW.out.2.2.1 (Kd.C_below RPW.out.2.2.2 (below_drew (Below.refl W0.heap.size W0)))).mono ?_
 rintro e v1 ⟨G3, g5, G4, g6, rfl, l3, r3, l4, r4, hbv1⟩
 refine ⟨_, rfl, ?_⟩
 have FG := aM (And.intro l3 (And.intro r3 (And.intro l4 r4)))
 have HHv1 := aM (hb_then (below_drew (Below.refl W0.heap.size W0)) hbv1)
 clear l3 r3 l4 r4
 refine hK.out _ _ ⟨pw_cell_below hbv1 hHeld.1, pw_cell_below hbv1 hHeld.2.1, pw_cell_below hbv1 hHeld.2.2.1, pw_cell_below hbv1 hHeld.2.2.2.1, pw_cell_below hbv1 hHeld.2.2.2.2.1, pw_cell_below hbv1 hHeld.2.2.2.2.2.1, pw_cell_below hbv1 hHeld.2.2.2.2.2.2.1, pw_cell_below hbv1 hHeld.2.2.2.2.2.2.2.1, pw_cell_below hbv1 hHeld.2.2.2.2.2.2.2.2.1, pw_cell_below hbv1 hHeld.2.2.2.2.2.2.2.2.2.1, pw_cell_below hbv1 hHeld.2.2.2.2.2.2.2.2.2.2.1, pw_cell_below hbv1 hHeld.2.2.2.2.2.2.2.2.2.2.2.1, pw_cell_below hbv1 hHeld.2.2.2.2.2.2.2.2.2.2.2.2.1, pw_cell_below hbv1 hHeld.2.2.2.2.2.2.2.2.2.2.2.2.2.1, pw_cell_below hbv1 hHeld.2.2.2.2.2.2.2.2.2.2.2.2.2.2⟩ (fun hHeld => ?_)
 clear hK K
 refine norm_ (a' := ?_) ?_ ?_
 rotate_left
 ·show Act.put _ (some 61) _ = _
  simp only [Act.put, sA, sB, sC, i64_w, i32_w]; rfl
 refine one_ (i := 11) (N := some 63) #[true, true, true, true, true, true, true, true, true, true, true, true, false, false, false, false, false, false, false, false, false, false] rfl rfl (by kernel_rfl) (by decide) (fun K hK => ?_)
 refine goes_ Try.func19 (by kernel_rfl) rfl #[.agg #[.int .i64 x0, .int .i64 x1, .string x2, .slice Q3 x3.length q5, .slice Q4 x4.length q6]] (by rfl) rfl rfl (by simp only [List.map_toArray, List.map_cons, List.map_nil]; rfl) ?_
 with_reducible refine (from_calls ⟨x0, x1, x2, x3, x4⟩ z HXS.out.2.1 HXS.out.1 Q3 Q4 q5 q6 v1 RQW.out.1 (Kd.C_below RQW.out.2.1 HHv1.out) RQW.out.2.2.1 (Kd.C_below RQW.out.2.2.2 HHv1.out)).mono ?_
 rintro e v2 ⟨H3, h5, H4, h6, rfl, l3, r3, l4, r4, hbv2⟩
 refine ⟨_, rfl, ?_⟩
 have FH := aM (And.intro l3 (And.intro r3 (And.intro l4 r4)))
 have HHv2 := aM (hb_then HHv1.out hbv2)
 clear l3 r3 l4 r4
 refine hK.out _ _ ⟨pw_cell_below hbv2 hHeld.1, pw_cell_below hbv2 hHeld.2.1, pw_cell_below hbv2 hHeld.2.2.1, pw_cell_below hbv2 hHeld.2.2.2.1, pw_cell_below hbv2 hHeld.2.2.2.2.1, pw_cell_below hbv2 hHeld.2.2.2.2.2.1, pw_cell_below hbv2 hHeld.2.2.2.2.2.2.1, pw_cell_below hbv2 hHeld.2.2.2.2.2.2.2.1, pw_cell_below hbv2 hHeld.2.2.2.2.2.2.2.2.1, pw_cell_below hbv2 hHeld.2.2.2.2.2.2.2.2.2.1, pw_cell_below hbv2 hHeld.2.2.2.2.2.2.2.2.2.2.1, pw_cell_below hbv2 hHeld.2.2.2.2.2.2.2.2.2.2.2.1, pw_cell_below hbv2 hHeld.2.2.2.2.2.2.2.2.2.2.2.2.1, pw_cell_below hbv2 hHeld.2.2.2.2.2.2.2.2.2.2.2.2.2.1, pw_cell_below hbv2 hHeld.2.2.2.2.2.2.2.2.2.2.2.2.2.2⟩ (fun hHeld => ?_)
 clear hK K
 refine norm_ (a' := ?_) ?_ ?_
 rotate_left
 ·show Act.put _ (some 63) _ = _
  simp only [Act.put, sA, sB, sC, i64_w, i32_w]; rfl
 refine one_ (i := 12) (N := some 64) #[true, true, true, true, true, true, true, true, true, true, true, true, true, false, false, false, false, false, false, false, false, false] rfl rfl (by kernel_rfl) (by decide) (fun K hK => ?_)
 refine goes_ Try.func18 (by kernel_rfl) rfl #[.agg #[.int .i64 z.f0, .int .i64 z.f1, .string z.f2, .slice G3 z.f3.length g5, .slice G4 z.f4.length g6], .agg #[.int .i64 z.f0, .int .i64 z.f1, .string z.f2, .slice H3 z.f3.length h5, .slice H4 z.f4.length h6]] (by rfl) rfl rfl (by simp only [List.map_toArray, List.map_cons, List.map_nil]; rfl) ?_
 with_reducible refine (same_calls z HXS.out.2.2 G3 G4 g5 g6 H3 H4 h5 h6 v2 FG.out.1 (Kd.C_below FG.out.2.1 hbv2) FG.out.2.2.1 (Kd.C_below FG.out.2.2.2 hbv2) FH.out.1 FH.out.2.1 FH.out.2.2.1 FH.out.2.2.2).mono ?_
 rintro e v3 ⟨rfl, hbv3⟩
 refine ⟨_, rfl, ?_⟩
 have HHv3 := aM (hb_then HHv2.out hbv3)
 refine hK.out _ _ ⟨pw_cell_below hbv3 hHeld.1, pw_cell_below hbv3 hHeld.2.1, pw_cell_below hbv3 hHeld.2.2.1, pw_cell_below hbv3 hHeld.2.2.2.1, pw_cell_below hbv3 hHeld.2.2.2.2.1, pw_cell_below hbv3 hHeld.2.2.2.2.2.1, pw_cell_below hbv3 hHeld.2.2.2.2.2.2.1, pw_cell_below hbv3 hHeld.2.2.2.2.2.2.2.1, pw_cell_below hbv3 hHeld.2.2.2.2.2.2.2.2.1, pw_cell_below hbv3 hHeld.2.2.2.2.2.2.2.2.2.1, pw_cell_below hbv3 hHeld.2.2.2.2.2.2.2.2.2.2.1, pw_cell_below hbv3 hHeld.2.2.2.2.2.2.2.2.2.2.2.1, pw_cell_below hbv3 hHeld.2.2.2.2.2.2.2.2.2.2.2.2.1, pw_cell_below hbv3 hHeld.2.2.2.2.2.2.2.2.2.2.2.2.2.1, pw_cell_below hbv3 hHeld.2.2.2.2.2.2.2.2.2.2.2.2.2.2⟩ (fun hHeld => ?_)
 clear hK K
 refine norm_ (a' := ?_) ?_ ?_
 rotate_left
 ·show Act.put _ (some 64) _ = _
  simp only [Act.put, sA, sB, sC, i64_w, i32_w]; rfl
 refine pure_ (i := 13) (N := some 65) (v := ?_) (a' := ?_) #[true, true, true, true, true, true, true, true, true, true, true, true, true, true, false, false, false, false, false, false, false, false] rfl rfl (by kernel_rfl) (fun _ _ _ h => h) (Or.inl ⟨by rfl, ?_⟩) ?_ ?_
 rotate_left
 ·intro w'; go_simp; with_reducible rfl
 rotate_left
 ·simp only [Act.put, sA, sB, sC, i64_w, i32_w]; rfl
 refine pure_ (i := 14) (N := some 66) (v := ?_) (a' := ?_) #[true, true, true, true, true, true, true, true, true, true, true, true, true, true, true, false, false, false, false, false, false, false] rfl rfl (by kernel_rfl) (fun _ _ _ h => h) (Or.inl ⟨by rfl, ?_⟩) ?_ ?_
 rotate_left
 ·intro w'; go_simp; with_reducible rfl
 rotate_left
 ·simp only [Act.put, sA, sB, sC, i64_w, i32_w]; rfl
 refine take_ (i := 15) (N := some 67) (v := ?_) (a' := ?_) #[true, true, true, true, true, true, true, true, true, true, true, true, true, true, true, true, false, false, false, false, false, false] rfl rfl (by kernel_rfl) (fun _ _ _ h => h) (Or.inl ⟨by rfl, ?_⟩) hHeld ?_ ?_
 rotate_left
 ·rintro w' ⟨s0, s1, s2, s3, s4, s5, s6, s7, s8, s9, s10, s11, s12, s13, s14⟩
  go_simp; with_reducible rfl
 rotate_left
 ·simp only [Act.put, sA, sB, sC, i64_w, i32_w]; rfl
 refine take_ (i := 17) (N := some 69) (v := ?_) (a' := ?_) #[true, true, true, true, true, true, true, true, true, true, true, true, true, true, true, true, false, true, false, false, false, false] rfl rfl (by kernel_rfl) (fun _ _ _ h => h) (Or.inl ⟨by rfl, ?_⟩) hHeld ?_ ?_
 rotate_left
 ·rintro w' ⟨s0, s1, s2, s3, s4, s5, s6, s7, s8, s9, s10, s11, s12, s13, s14⟩
  go_simp; with_reducible rfl
 rotate_left
 ·simp only [Act.put, sA, sB, sC, i64_w, i32_w]; rfl
 refine one_ (i := 16) (N := some 68) #[true, true, true, true, true, true, true, true, true, true, true, true, true, true, true, true, true, true, false, false, false, false] rfl rfl (by kernel_rfl) (by decide) (fun K hK => ?_)
 refine goes_ Try.func19 (by kernel_rfl) rfl #[.agg #[.int .i64 x0, .int .i64 x1, .string x2, .slice Q3 x3.length q5, .slice Q4 x4.length q6]] (by rfl) rfl rfl (by simp only [List.map_toArray, List.map_cons, List.map_nil]; rfl) ?_
 with_reducible refine (from_calls ⟨x0, x1, x2, x3, x4⟩ z HXS.out.2.1 HXS.out.1 Q3 Q4 q5 q6 v3 RQW.out.1 (Kd.C_below RQW.out.2.1 HHv3.out) RQW.out.2.2.1 (Kd.C_below RQW.out.2.2.2 HHv3.out)).mono ?_
 rintro e v4 ⟨I3, i5, I4, i6, rfl, l3, r3, l4, r4, hbv4⟩
 refine ⟨_, rfl, ?_⟩
 have FI := aM (And.intro l3 (And.intro r3 (And.intro l4 r4)))
 have HHv4 := aM (hb_then HHv3.out hbv4)
 clear l3 r3 l4 r4
 refine hK.out _ _ ⟨pw_cell_below hbv4 hHeld.1, pw_cell_below hbv4 hHeld.2.1, pw_cell_below hbv4 hHeld.2.2.1, pw_cell_below hbv4 hHeld.2.2.2.1, pw_cell_below hbv4 hHeld.2.2.2.2.1, pw_cell_below hbv4 hHeld.2.2.2.2.2.1, pw_cell_below hbv4 hHeld.2.2.2.2.2.2.1, pw_cell_below hbv4 hHeld.2.2.2.2.2.2.2.1, pw_cell_below hbv4 hHeld.2.2.2.2.2.2.2.2.1, pw_cell_below hbv4 hHeld.2.2.2.2.2.2.2.2.2.1, pw_cell_below hbv4 hHeld.2.2.2.2.2.2.2.2.2.2.1, pw_cell_below hbv4 hHeld.2.2.2.2.2.2.2.2.2.2.2.1, pw_cell_below hbv4 hHeld.2.2.2.2.2.2.2.2.2.2.2.2.1, pw_cell_below hbv4 hHeld.2.2.2.2.2.2.2.2.2.2.2.2.2.1, pw_cell_below hbv4 hHeld.2.2.2.2.2.2.2.2.2.2.2.2.2.2⟩ (fun hHeld => ?_)
 clear hK K
 refine norm_ (a' := ?_) ?_ ?_
 rotate_left
 ·show Act.put _ (some 68) _ = _
  simp only [Act.put, sA, sB, sC, i64_w, i32_w]; rfl
 refine one_ (i := 18) (N := some 70) #[true, true, true, true, true, true, true, true, true, true, true, true, true, true, true, true, true, true, true, false, false, false] rfl rfl (by kernel_rfl) (by decide) (fun K hK => ?_)
 refine goes_ Try.func19 (by kernel_rfl) rfl #[.agg #[.int .i64 x0, .int .i64 x1, .string x2, .slice R3 x3.length r5, .slice R4 x4.length r6]] (by rfl) rfl rfl (by simp only [List.map_toArray, List.map_cons, List.map_nil]; rfl) ?_
 with_reducible refine (from_calls ⟨x0, x1, x2, x3, x4⟩ z HXS.out.2.1 HXS.out.1 R3 R4 r5 r6 v4 RRW.out.1 (Kd.C_below RRW.out.2.1 HHv4.out) RRW.out.2.2.1 (Kd.C_below RRW.out.2.2.2 HHv4.out)).mono ?_
 rintro e v5 ⟨J3, j5, J4, j6, rfl, l3, r3, l4, r4, hbv5⟩
 refine ⟨_, rfl, ?_⟩
 have FJ := aM (And.intro l3 (And.intro r3 (And.intro l4 r4)))
 have HHv5 := aM (hb_then HHv4.out hbv5)
 clear l3 r3 l4 r4
 refine hK.out _ _ ⟨pw_cell_below hbv5 hHeld.1, pw_cell_below hbv5 hHeld.2.1, pw_cell_below hbv5 hHeld.2.2.1, pw_cell_below hbv5 hHeld.2.2.2.1, pw_cell_below hbv5 hHeld.2.2.2.2.1, pw_cell_below hbv5 hHeld.2.2.2.2.2.1, pw_cell_below hbv5 hHeld.2.2.2.2.2.2.1, pw_cell_below hbv5 hHeld.2.2.2.2.2.2.2.1, pw_cell_below hbv5 hHeld.2.2.2.2.2.2.2.2.1, pw_cell_below hbv5 hHeld.2.2.2.2.2.2.2.2.2.1, pw_cell_below hbv5 hHeld.2.2.2.2.2.2.2.2.2.2.1, pw_cell_below hbv5 hHeld.2.2.2.2.2.2.2.2.2.2.2.1, pw_cell_below hbv5 hHeld.2.2.2.2.2.2.2.2.2.2.2.2.1, pw_cell_below hbv5 hHeld.2.2.2.2.2.2.2.2.2.2.2.2.2.1, pw_cell_below hbv5 hHeld.2.2.2.2.2.2.2.2.2.2.2.2.2.2⟩ (fun hHeld => ?_)
 clear hK K
 refine norm_ (a' := ?_) ?_ ?_
 rotate_left
 ·show Act.put _ (some 70) _ = _
  simp only [Act.put, sA, sB, sC, i64_w, i32_w]; rfl
 refine one_ (i := 19) (N := some 71) #[true, true, true, true, true, true, true, true, true, true, true, true, true, true, true, true, true, true, true, true, false, false] rfl rfl (by kernel_rfl) (by decide) (fun K hK => ?_)
 refine goes_ Try.func18 (by kernel_rfl) rfl #[.agg #[.int .i64 z.f0, .int .i64 z.f1, .string z.f2, .slice I3 z.f3.length i5, .slice I4 z.f4.length i6], .agg #[.int .i64 z.f0, .int .i64 z.f1, .string z.f2, .slice J3 z.f3.length j5, .slice J4 z.f4.length j6]] (by rfl) rfl rfl (by simp only [List.map_toArray, List.map_cons, List.map_nil]; rfl) ?_
 with_reducible refine (same_calls z HXS.out.2.2 I3 I4 i5 i6 J3 J4 j5 j6 v5 FI.out.1 (Kd.C_below FI.out.2.1 hbv5) FI.out.2.2.1 (Kd.C_below FI.out.2.2.2 hbv5) FJ.out.1 FJ.out.2.1 FJ.out.2.2.1 FJ.out.2.2.2).mono ?_
 rintro e v6 ⟨rfl, hbv6⟩
 refine ⟨_, rfl, ?_⟩
 have HHv6 := aM (hb_then HHv5.out hbv6)
 refine hK.out _ _ ⟨pw_cell_below hbv6 hHeld.1, pw_cell_below hbv6 hHeld.2.1, pw_cell_below hbv6 hHeld.2.2.1, pw_cell_below hbv6 hHeld.2.2.2.1, pw_cell_below hbv6 hHeld.2.2.2.2.1, pw_cell_below hbv6 hHeld.2.2.2.2.2.1, pw_cell_below hbv6 hHeld.2.2.2.2.2.2.1, pw_cell_below hbv6 hHeld.2.2.2.2.2.2.2.1, pw_cell_below hbv6 hHeld.2.2.2.2.2.2.2.2.1, pw_cell_below hbv6 hHeld.2.2.2.2.2.2.2.2.2.1, pw_cell_below hbv6 hHeld.2.2.2.2.2.2.2.2.2.2.1, pw_cell_below hbv6 hHeld.2.2.2.2.2.2.2.2.2.2.2.1, pw_cell_below hbv6 hHeld.2.2.2.2.2.2.2.2.2.2.2.2.1, pw_cell_below hbv6 hHeld.2.2.2.2.2.2.2.2.2.2.2.2.2.1, pw_cell_below hbv6 hHeld.2.2.2.2.2.2.2.2.2.2.2.2.2.2⟩ (fun hHeld => ?_)
 clear hK K
 refine norm_ (a' := ?_) ?_ ?_
 rotate_left
 ·show Act.put _ (some 71) _ = _
  simp only [Act.put, sA, sB, sC, i64_w, i32_w]; rfl
 refine pure_ (i := 20) (N := some 72) (v := ?_) (a' := ?_) #[true, true, true, true, true, true, true, true, true, true, true, true, true, true, true, true, true, true, true, true, true, false] rfl rfl (by kernel_rfl) (fun _ _ _ h => h) (Or.inl ⟨by rfl, ?_⟩) ?_ ?_
 rotate_left
 ·intro w'; go_simp; with_reducible rfl
 rotate_left
 ·simp only [Act.put, sA, sB, sC, i64_w, i32_w]; rfl
 refine pure_ (i := 21) (N := some 4) (v := ?_) (a' := ?_) #[true, true, true, true, true, true, true, true, true, true, true, true, true, true, true, true, true, true, true, true, true, true] rfl rfl (by kernel_rfl) (fun _ _ _ h => h) (Or.inl ⟨by rfl, ?_⟩) ?_ ?_
 rotate_left
 ·intro w'; go_simp; with_reducible rfl
 rotate_left
 ·simp only [Act.put, sA, sB, sC, i64_w, i32_w]; rfl
 refine done_ (by kernel_rfl) ?_
 go_wp2
 go_ret
 exact ⟨rfl, hb_then HB14.out HHv6.out⟩
theorem lawEnvRow (p : BA) (ig : Bool) (w : World) (hp : p.size ≤ 140737488351232) : Calls Try.prog 4 #[.string p, .bool ig] w fun e w' => e = .returned (.bool true) ∧ Below w.heap.size w w' := lawEnv p hp ig w
end Go.Proofs.Ytaembebbaejfiaa.Tr
namespace Go.Proofs.Ytaembebbaejfiaa.RowKit
open Go.RowKit Go.ChangeShapes Go.WideShapes Go.ChangeAt Go.Proofs.YtaembebbaejfiaaW.PrintWords Go.Proofs.Ytaembebbaejfiaa.Str Go.Proofs.Ytaembebbaejfiaa.Kit
set_option linter.unusedVariables false
set_option linter.unusedSimpArgs false
end Go.Proofs.Ytaembebbaejfiaa.RowKit
