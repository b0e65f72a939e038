/- Parts of the proof, laid together: QSpecSame, PureSame, Gives, MergeNets, PartIs, FromList, Shelf, SortStr, Flat, SortOwn, FromMap, FromAll, Names, AtPath. -/
import Derived.Test.YtaembebbaejfiaaN3
import Derived.Test.YtaembebbaejfiaaN6
import Derived.Test.YtaembebbaejfiaaN2
import Derived.Test.YtaembebbaejfiaaN7
import Derived.Laws.IdiomCopy
import Derived.Shelf.Strings.Builder1
import Derived.Shelf.Strings.Builder2
import Derived.Shelf.Strings.OnBuilder
import Derived.Shelf.Small.Bits
import Derived.Shelf.Strings.BuilderF
import Derived.Shelf.Strings.BuilderK
import Derived.Shelf.Strings.Builder2Cap
import Derived.Shelf.Strconv.Itoa0
import Derived.Shelf.Sort.Plain
import Derived.Shelf.Strings.BuilderCap
import Derived.Shelf.Slices.In.SortNone
import Derived.Shelf.Slices.In.SortNone2
import Derived.Test.YtaembebbaejfiaaProg
import Derived.Sort.OwnSorted
import Derived.Shelf.SlSortFuncK.WholeK
import Derived.Shelf.GgSortFunc.Tiny
namespace Go.Proofs.Ytaembebbaejfiaa.PS
open Go.RowKit Go.Proofs.YtaembebbaejfiaaW.PrintWords Go.Proofs.YtaembebbaejfiaaW.PrintLast Go.Proofs.YtaembebbaejfiaaW.PrintMore
attribute [local go_sem] max2_int min2_int max_two min_two max_three min_three max_four min_four 
set_option linter.unusedVariables false
set_option linter.unusedSimpArgs false
mutual
def spec_Same.j0 : Nat → Bool → Int → Int → ByteArray → List ByteArray → List (S25) → Int → Int → ByteArray → List ByteArray → List (S25) → Option (Bool)
 | 0, _, _, _, _, _, _, _, _, _, _, _ => none
 | k + 1, x43, x297000, x297001, x297002, x297003, x297004, x298000, x298001, x298002, x298003, x298004 => if x43 = true then (some false) else (spec_Same.l0 k 0 x297000 x297001 x297002 x297003 x297004 x298000 x298001 x298002 x298003 x298004)
def spec_Same.l0 : Nat → Int → Int → Int → ByteArray → List ByteArray → List (S25) → Int → Int → ByteArray → List ByteArray → List (S25) → Option (Bool)
 | 0, _, _, _, _, _, _, _, _, _, _, _ => none
 | k + 1, x5, x297000, x297001, x297002, x297003, x297004, x298000, x298001, x298002, x298003, x298004 => if x5 < (x297003.length : Int) then (if 0 ≤ x5 then (if x5 < (x298003.length : Int) then (if (rdOf ByteArray.empty x297003 x5).toList = (rdOf ByteArray.empty x298003 x5).toList then (spec_Same.l0 k (wrap64 (x5 + 1)) x297000 x297001 x297002 x297003 x297004 x298000 x298001 x298002 x298003 x298004) else (some false)) else (none)) else (none)) else (spec_Same.l1 k 0 x297000 x297001 x297002 x297003 x297004 x298000 x298001 x298002 x298003 x298004)
def spec_Same.l1 : Nat → Int → Int → Int → ByteArray → List ByteArray → List (S25) → Int → Int → ByteArray → List ByteArray → List (S25) → Option (Bool)
 | 0, _, _, _, _, _, _, _, _, _, _, _ => none
 | k + 1, x6, x297000, x297001, x297002, x297003, x297004, x298000, x298001, x298002, x298003, x298004 => if x6 < (x297004.length : Int) then (if 0 ≤ x6 then (if x6 < (x298004.length : Int) then ((spec_Same.f k ((rd_T25 x297004 x6).f0) ((rd_T25 x297004 x6).f1) ((rd_T25 x297004 x6).f2) ((rd_T25 x297004 x6).f3) ((rd_T25 x297004 x6).f4) ((rd_T25 x298004 x6).f0) ((rd_T25 x298004 x6).f1) ((rd_T25 x298004 x6).f2) ((rd_T25 x298004 x6).f3) ((rd_T25 x298004 x6).f4)).bind fun t302 => (if t302 = true then (spec_Same.l1 k (wrap64 (x6 + 1)) x297000 x297001 x297002 x297003 x297004 x298000 x298001 x298002 x298003 x298004) else (some false))) else (none)) else (none)) else (some true)
def spec_Same.f : Nat → Int → Int → ByteArray → List ByteArray → List (S25) → Int → Int → ByteArray → List ByteArray → List (S25) → Option (Bool)
 | 0, _, _, _, _, _, _, _, _, _, _ => none
 | k + 1, a0_0, a0_1, a0_2, l0_3, l0_4, a1_0, a1_1, a1_2, l1_3, l1_4 => if a0_0 = a1_0 then (if a0_1 = a1_1 then (if a0_2.toList = a1_2.toList then (if (l0_3.length : Int) = (l1_3.length : Int) then (spec_Same.j0 k ((l0_4.length : Int) != (l1_4.length : Int)) a0_0 a0_1 a0_2 l0_3 l0_4 a1_0 a1_1 a1_2 l1_3 l1_4) else (spec_Same.j0 k true a0_0 a0_1 a0_2 l0_3 l0_4 a1_0 a1_1 a1_2 l1_3 l1_4)) else (spec_Same.j0 k true a0_0 a0_1 a0_2 l0_3 l0_4 a1_0 a1_1 a1_2 l1_3 l1_4)) else (spec_Same.j0 k true a0_0 a0_1 a0_2 l0_3 l0_4 a1_0 a1_1 a1_2 l1_3 l1_4)) else (spec_Same.j0 k true a0_0 a0_1 a0_2 l0_3 l0_4 a1_0 a1_1 a1_2 l1_3 l1_4)
end
def spec_Same.T6 : Bool × List (List Nat × List Nat) := (true, [([], []), ([0], [0]), ([], []), ([1, 2], [1, 2]), ([3], [3]), ([], []), ([5], [5]), ([], []), ([6, 7], [6, 7]), ([8], [8]), ([4, 9], [4, 9])])
def spec_Same.B6 : List Nat := [0, 1, 0, 7, 15, 0, 32, 0, 224, 480, 1023]
theorem spec_Same.tab6 : rtab .any (opsOf Try.f18 6) = spec_Same.T6 := by kernel_rfl
theorem spec_Same.bits6 : waitsOk spec_Same.T6.2 spec_Same.B6 = true := by kernel_rfl
def spec_Same.T11 : Bool × List (List Nat × List Nat) := (true, [([], []), ([0], [0]), ([], []), ([1, 2], [1, 2]), ([3], [3]), ([], []), ([5], [5]), ([], []), ([6, 7], [6, 7]), ([8], [8]), ([4, 9], [4, 9]), ([10], [10])])
def spec_Same.B11 : List Nat := [0, 1, 0, 7, 15, 0, 32, 0, 224, 480, 1023, 2047]
theorem spec_Same.tab11 : rtab .any (opsOf Try.f18 11) = spec_Same.T11 := by kernel_rfl
theorem spec_Same.bits11 : waitsOk spec_Same.T11.2 spec_Same.B11 = true := by kernel_rfl
set_option maxHeartbeats 8000000 in
set_option maxRecDepth 100000 in
theorem spec_Same.calls (k : Nat) : ∀ (a0_0 : Int) (a0_1 : Int) (a0_2 : ByteArray) (A0_3 : Option Addr) (c0_3 : Nat) (l0_3 : List ByteArray) (A0_4 : Option Addr) (c0_4 : Nat) (l0_4 : List (S25)) (a1_0 : Int) (a1_1 : Int) (a1_2 : ByteArray) (A1_3 : Option Addr) (c1_3 : Nat) (l1_3 : List ByteArray) (A1_4 : Option Addr) (c1_4 : Nat) (l1_4 : List (S25)) (r : Bool) (w : World) (hr0_3 : Kd.C Kd.string w A0_3 l0_3.length l0_3) (hc0_3 : l0_3.length ≤ c0_3) (hr0_4 : Kd.C k25 w A0_4 l0_4.length l0_4) (hc0_4 : l0_4.length ≤ c0_4) (hr1_3 : Kd.C Kd.string w A1_3 l1_3.length l1_3) (hc1_3 : l1_3.length ≤ c1_3) (hr1_4 : Kd.C k25 w A1_4 l1_4.length l1_4) (hc1_4 : l1_4.length ≤ c1_4) (h : spec_Same.f k a0_0 a0_1 a0_2 l0_3 l0_4 a1_0 a1_1 a1_2 l1_3 l1_4 = some r),
  Calls Try.prog 18 #[.agg #[.int .i64 a0_0, .int .i64 a0_1, .string a0_2, .slice A0_3 l0_3.length c0_3, .slice A0_4 l0_4.length c0_4], .agg #[.int .i64 a1_0, .int .i64 a1_1, .string a1_2, .slice A1_3 l1_3.length c1_3, .slice A1_4 l1_4.length c1_4]] w fun e w' => e = .returned (.bool r) ∧ Below w.heap.size w w' := by
 induction k using Nat.strongRecOn with
 | _ k ih =>
 intro a0_0 a0_1 a0_2 A0_3 c0_3 l0_3 A0_4 c0_4 l0_4 a1_0 a1_1 a1_2 A1_3 c1_3 l1_3 A1_4 c1_4 l1_4 r w hr0_3 hc0_3 hr0_4 hc0_4 hr1_3 hc1_3 hr1_4 hc1_4 h
 cases k with
 | zero => exact absurd h (by simp [spec_Same.f])
 | succ k =>
 simp only [spec_Same.f] at h
 have hu25 := Try.underlying25
 have HR0_3 := aM hr0_3
 have HC0_3 := aM hc0_3
 clear hr0_3 hc0_3
 have HR0_4 := aM hr0_4
 have HC0_4 := aM hc0_4
 clear hr0_4 hc0_4
 have HR1_3 := aM hr1_3
 have HC1_3 := aM hc1_3
 clear hr1_3 hc1_3
 have HR1_4 := aM hr1_4
 have HC1_4 := aM hc1_4
 clear hr1_4 hc1_4
 have HB := aM (Below.refl w.heap.size w)
 have H : (if a0_0 = a1_0 then (if a0_1 = a1_1 then (if a0_2.toList = a1_2.toList then (if (l0_3.length : Int) = (l1_3.length : Int) then (spec_Same.j0 k ((l0_4.length : Int) != (l1_4.length : Int)) a0_0 a0_1 a0_2 l0_3 l0_4 a1_0 a1_1 a1_2 l1_3 l1_4) else (spec_Same.j0 k true a0_0 a0_1 a0_2 l0_3 l0_4 a1_0 a1_1 a1_2 l1_3 l1_4)) else (spec_Same.j0 k true a0_0 a0_1 a0_2 l0_3 l0_4 a1_0 a1_1 a1_2 l1_3 l1_4)) else (spec_Same.j0 k true a0_0 a0_1 a0_2 l0_3 l0_4 a1_0 a1_1 a1_2 l1_3 l1_4)) else (spec_Same.j0 k true a0_0 a0_1 a0_2 l0_3 l0_4 a1_0 a1_1 a1_2 l1_3 l1_4)) = some r := h
 clear h
 have HC3 := aM H
 clear H
 go_enter Try.func18, Try.ntmps18
 go_upto_region 1 with (first | ((with_reducible refine gate_dst (N := 2) rfl ?_); (try (refine gate_guard (by rfl) ?_; dsimp only)); refine box_event ?hg (N := 2) ?hd (cs := #[.int .i64 a0_0, .int .i64 a0_1, .string a0_2, .slice A0_3 l0_3.length c0_3, .slice A0_4 l0_4.length c0_4]) (t := 25) ?hr ?_; (case hd => rfl); (case hg => rfl); (case hr => first | (go_simp; done) | (go_simp; rfl)); intro gb296 hg w4 hbox hb; have n0_ := aM (below_step (by repeat (first | (with_reducible first | exact HB.out | apply below_alloc | apply pw_below_drewN | apply below_drew1) | exact HB.out)) hb); have n1_ := aM (hbox); have n2_ := aM ((by rw [hg]; exact (below_size (by repeat (first | (with_reducible first | exact HB.out | apply below_alloc | apply pw_below_drewN | apply below_drew1) | exact HB.out))) : w.heap.size ≤ gb296)); have n3_ := aM ((by rw [hg]; exact (below_size (by repeat (first | (with_reducible first | exact HB.out | apply below_alloc | apply pw_below_drewN | apply below_drew1) | exact HB.out))) : w.heap.size ≤ gb296)); clear HB; have HB := n0_; have BK296 := n1_; have GW296 := n2_; have GE296 := n3_; clear n0_ n1_ n2_ n3_; clear hb hbox hg) | ((with_reducible refine gate_dst (N := 3) rfl ?_); (try (refine gate_guard (by rfl) ?_; dsimp only)); refine box_event ?hg (N := 3) ?hd (cs := #[.int .i64 a1_0, .int .i64 a1_1, .string a1_2, .slice A1_3 l1_3.length c1_3, .slice A1_4 l1_4.length c1_4]) (t := 25) ?hr ?_; (case hd => rfl); (case hg => rfl); (case hr => first | (go_simp; done) | (go_simp; rfl)); intro gb297 hg w5 hbox hb; have n0_ := aM (blk_below (g := gb296) (o := .cells #[.int .i64 a0_0, .int .i64 a0_1, .string a0_2, .slice A0_3 l0_3.length c0_3, .slice A0_4 l0_4.length c0_4] 25 (0, 0)) (by (with_reducible repeat (first | refine blk_drewN ?_ _ | refine blk_drew ?_ | refine blk_alloc ?_ _)); exact BK296.out) hb); have n1_ := aM (below_step (by repeat (first | (with_reducible first | exact HB.out | apply below_alloc | apply pw_below_drewN | apply below_drew1 | refine below_set ?_ GE296.out) | exact HB.out)) hb); have n2_ := aM (hbox); have n3_ := aM ((by rw [hg]; exact (below_size (by repeat (first | (with_reducible first | exact HB.out | apply below_alloc | apply pw_below_drewN | apply below_drew1 | refine below_set ?_ GE296.out) | exact HB.out))) : w.heap.size ≤ gb297)); have n4_ := aM ((by rw [hg]; exact (below_size (by repeat (first | (with_reducible first | exact HB.out | apply below_alloc | apply pw_below_drewN | apply below_drew1 | refine below_set ?_ GE296.out) | exact HB.out))) : w.heap.size ≤ gb297)); have n5_ := aM ((by rw [hg]; exact Nat.ne_of_lt (blk_lt (g := gb296) (o := .cells #[.int .i64 a0_0, .int .i64 a0_1, .string a0_2, .slice A0_3 l0_3.length c0_3, .slice A0_4 l0_4.length c0_4] 25 (0, 0)) (by (with_reducible repeat (first | refine blk_drewN ?_ _ | refine blk_drew ?_ | refine blk_alloc ?_ _)); exact BK296.out)) : gb296 ≠ gb297)); have n6_ := aM ((by rw [hg]; exact Nat.ne_of_gt (blk_lt (g := gb296) (o := .cells #[.int .i64 a0_0, .int .i64 a0_1, .string a0_2, .slice A0_3 l0_3.length c0_3, .slice A0_4 l0_4.length c0_4] 25 (0, 0)) (by (with_reducible repeat (first | refine blk_drewN ?_ _ | refine blk_drew ?_ | refine blk_alloc ?_ _)); exact BK296.out)) : gb297 ≠ gb296)); clear BK296; clear HB; have BK296 := n0_; have HB := n1_; have BK297 := n2_; have GW297 := n3_; have GE297 := n4_; have NB296_297 := n5_; have NB297_296 := n6_; clear n0_ n1_ n2_ n3_ n4_ n5_ n6_; clear hb hbox hg))
 (try simp only [Act.put, List.setIfInBounds_toArray, List.set_cons_zero, List.set_cons_succ])
 go_cut [43] (fun v43 wc => ∃ (kq : Nat) (x43_2 : Bool), v43 = .bool x43_2 ∧ Aside0 (spec_Same.j0 kq x43_2 a0_0 a0_1 a0_2 l0_3 l0_4 a1_0 a1_1 a1_2 l1_3 l1_4 = some r) ∧ Aside0 (kq ≤ k) ∧ Aside0 (wc.heap[gb296]? = some (.cells #[.int .i64 a0_0, .int .i64 a0_1, .string a0_2, (.slice A0_3 l0_3.length c0_3), (.slice A0_4 l0_4.length c0_4)] 25 (0, 0))) ∧ Aside0 (wc.heap[gb297]? = some (.cells #[.int .i64 a1_0, .int .i64 a1_1, .string a1_2, (.slice A1_3 l1_3.length c1_3), (.slice A1_4 l1_4.length c1_4)] 25 (0, 0))) ∧ Aside0 (Below w.heap.size w wc))
 case first =>
  have H := HC3.out
  clear HC3
  by_cases c6 : a0_0 = a1_0
  ·rw [if_pos c6] at H
   have c6b0 : (a0_0 == a1_0) = true := beq_iff_eq.mpr c6
   have c6b1 : (a0_0 != a1_0) = false := bne_eq_false_iff_eq.mpr c6
   clear c6
   (first | rw [c6b0] | (simp only [i64_w, i32_w]; rw [c6b0]) | skip)
   by_cases c7 : a0_1 = a1_1
   ·rw [if_pos c7] at H
    have c7b0 : (a0_1 == a1_1) = true := beq_iff_eq.mpr c7
    have c7b1 : (a0_1 != a1_1) = false := bne_eq_false_iff_eq.mpr c7
    clear c7
    by_cases c8 : a0_2.toList = a1_2.toList
    ·rw [if_pos c8] at H
     have c8b0 : (a0_2.toList == a1_2.toList) = true := beq_iff_eq.mpr c8
     have c8b1 : (a0_2.toList != a1_2.toList) = false := bne_eq_false_iff_eq.mpr c8
     clear c8
     by_cases c9 : (l0_3.length : Int) = (l1_3.length : Int)
     ·rw [if_pos c9] at H
      have c9b0 : ((l0_3.length : Int) == (l1_3.length : Int)) = true := beq_iff_eq.mpr c9
      have c9b1 : ((l0_3.length : Int) != (l1_3.length : Int)) = false := bne_eq_false_iff_eq.mpr c9
      have c9b2 : (l0_3.length == l1_3.length) = true := by first | simpa using c9 | (simp at c9 ⊢; omega)
      clear c9
      have H' := aM H
      clear H
      have hnb10 := NB296_297.out
      have hnc10 := NB297_296.out
      have hcz11_0 : w5.cell? ⟨gb296, 0, none⟩ = some (.int .i64 a0_0) := (blk_cell BK296.out 0).trans rfl
      have hcz11_1 : w5.cell? ⟨gb296, 1, none⟩ = some (.int .i64 a0_1) := (blk_cell BK296.out 1).trans rfl
      have hcz11_2 : w5.cell? ⟨gb296, 2, none⟩ = some (.string a0_2) := (blk_cell BK296.out 2).trans rfl
      have hcz11_3 : w5.cell? ⟨gb296, 3, none⟩ = some (.slice A0_3 l0_3.length c0_3) := (blk_cell BK296.out 3).trans rfl
      have hcz11_4 : w5.cell? ⟨gb296, 4, none⟩ = some (.slice A0_4 l0_4.length c0_4) := (blk_cell BK296.out 4).trans rfl
      have hfz11_0 := blk_frozen BK296.out 0
      have hfz11_1 := blk_frozen BK296.out 1
      have hfz11_2 := blk_frozen BK296.out 2
      have hfz11_3 := blk_frozen BK296.out 3
      have hfz11_4 := blk_frozen BK296.out 4
      have hcz12_0 : w5.cell? ⟨gb297, 0, none⟩ = some (.int .i64 a1_0) := (blk_cell BK297.out 0).trans rfl
      have hcz12_1 : w5.cell? ⟨gb297, 1, none⟩ = some (.int .i64 a1_1) := (blk_cell BK297.out 1).trans rfl
      have hcz12_2 : w5.cell? ⟨gb297, 2, none⟩ = some (.string a1_2) := (blk_cell BK297.out 2).trans rfl
      have hcz12_3 : w5.cell? ⟨gb297, 3, none⟩ = some (.slice A1_3 l1_3.length c1_3) := (blk_cell BK297.out 3).trans rfl
      have hcz12_4 : w5.cell? ⟨gb297, 4, none⟩ = some (.slice A1_4 l1_4.length c1_4) := (blk_cell BK297.out 4).trans rfl
      have hfz12_0 := blk_frozen BK297.out 0
      have hfz12_1 := blk_frozen BK297.out 1
      have hfz12_2 := blk_frozen BK297.out 2
      have hfz12_3 := blk_frozen BK297.out 3
      have hfz12_4 := blk_frozen BK297.out 4
      go_wp2
      go_meet
      case rel => exact ⟨_, (((l0_4.length : Int) != (l1_4.length : Int))), (by first | rfl | (simp; done) | (simp [*]; done)), H', ⟨by first | omega | exact Nat.le_refl _⟩, ⟨by (with_reducible repeat (first | refine blk_drewN ?_ _ | refine blk_drew ?_ | refine blk_alloc ?_ _)); exact BK296.out⟩, ⟨by (with_reducible repeat (first | refine blk_drewN ?_ _ | refine blk_drew ?_ | refine blk_alloc ?_ _)); exact BK297.out⟩, ⟨by repeat (first | (with_reducible first | exact HB.out | apply below_alloc | apply pw_below_drewN | apply below_drew1 | refine below_set ?_ GE296.out | refine below_set ?_ GE297.out) | exact HB.out)⟩⟩
     ·rw [if_neg c9] at H
      have c9b0 : ((l0_3.length : Int) == (l1_3.length : Int)) = false := beq_eq_false_iff_ne.mpr c9
      have c9b1 : ((l0_3.length : Int) != (l1_3.length : Int)) = true := bne_iff_ne.mpr c9
      have c9b2 : (l0_3.length == l1_3.length) = false := by first | simpa using c9 | (simp at c9 ⊢; omega)
      have H' := aM H
      clear H
      have hnb13 := NB296_297.out
      have hnc13 := NB297_296.out
      have hcz14_0 : w5.cell? ⟨gb296, 0, none⟩ = some (.int .i64 a0_0) := (blk_cell BK296.out 0).trans rfl
      have hcz14_1 : w5.cell? ⟨gb296, 1, none⟩ = some (.int .i64 a0_1) := (blk_cell BK296.out 1).trans rfl
      have hcz14_2 : w5.cell? ⟨gb296, 2, none⟩ = some (.string a0_2) := (blk_cell BK296.out 2).trans rfl
      have hcz14_3 : w5.cell? ⟨gb296, 3, none⟩ = some (.slice A0_3 l0_3.length c0_3) := (blk_cell BK296.out 3).trans rfl
      have hcz14_4 : w5.cell? ⟨gb296, 4, none⟩ = some (.slice A0_4 l0_4.length c0_4) := (blk_cell BK296.out 4).trans rfl
      have hfz14_0 := blk_frozen BK296.out 0
      have hfz14_1 := blk_frozen BK296.out 1
      have hfz14_2 := blk_frozen BK296.out 2
      have hfz14_3 := blk_frozen BK296.out 3
      have hfz14_4 := blk_frozen BK296.out 4
      have hcz15_0 : w5.cell? ⟨gb297, 0, none⟩ = some (.int .i64 a1_0) := (blk_cell BK297.out 0).trans rfl
      have hcz15_1 : w5.cell? ⟨gb297, 1, none⟩ = some (.int .i64 a1_1) := (blk_cell BK297.out 1).trans rfl
      have hcz15_2 : w5.cell? ⟨gb297, 2, none⟩ = some (.string a1_2) := (blk_cell BK297.out 2).trans rfl
      have hcz15_3 : w5.cell? ⟨gb297, 3, none⟩ = some (.slice A1_3 l1_3.length c1_3) := (blk_cell BK297.out 3).trans rfl
      have hcz15_4 : w5.cell? ⟨gb297, 4, none⟩ = some (.slice A1_4 l1_4.length c1_4) := (blk_cell BK297.out 4).trans rfl
      have hfz15_0 := blk_frozen BK297.out 0
      have hfz15_1 := blk_frozen BK297.out 1
      have hfz15_2 := blk_frozen BK297.out 2
      have hfz15_3 := blk_frozen BK297.out 3
      have hfz15_4 := blk_frozen BK297.out 4
      go_wp2
      go_meet
      case rel => exact ⟨_, (true), (by first | rfl | (simp; done) | (simp [*]; done)), H', ⟨by first | omega | exact Nat.le_refl _⟩, ⟨by (with_reducible repeat (first | refine blk_drewN ?_ _ | refine blk_drew ?_ | refine blk_alloc ?_ _)); exact BK296.out⟩, ⟨by (with_reducible repeat (first | refine blk_drewN ?_ _ | refine blk_drew ?_ | refine blk_alloc ?_ _)); exact BK297.out⟩, ⟨by repeat (first | (with_reducible first | exact HB.out | apply below_alloc | apply pw_below_drewN | apply below_drew1 | refine below_set ?_ GE296.out | refine below_set ?_ GE297.out) | exact HB.out)⟩⟩
    ·rw [if_neg c8] at H
     have c8b0 : (a0_2.toList == a1_2.toList) = false := beq_eq_false_iff_ne.mpr c8
     have c8b1 : (a0_2.toList != a1_2.toList) = true := bne_iff_ne.mpr c8
     have H' := aM H
     clear H
     have hnb16 := NB296_297.out
     have hnc16 := NB297_296.out
     have hcz17_0 : w5.cell? ⟨gb296, 0, none⟩ = some (.int .i64 a0_0) := (blk_cell BK296.out 0).trans rfl
     have hcz17_1 : w5.cell? ⟨gb296, 1, none⟩ = some (.int .i64 a0_1) := (blk_cell BK296.out 1).trans rfl
     have hcz17_2 : w5.cell? ⟨gb296, 2, none⟩ = some (.string a0_2) := (blk_cell BK296.out 2).trans rfl
     have hcz17_3 : w5.cell? ⟨gb296, 3, none⟩ = some (.slice A0_3 l0_3.length c0_3) := (blk_cell BK296.out 3).trans rfl
     have hcz17_4 : w5.cell? ⟨gb296, 4, none⟩ = some (.slice A0_4 l0_4.length c0_4) := (blk_cell BK296.out 4).trans rfl
     have hfz17_0 := blk_frozen BK296.out 0
     have hfz17_1 := blk_frozen BK296.out 1
     have hfz17_2 := blk_frozen BK296.out 2
     have hfz17_3 := blk_frozen BK296.out 3
     have hfz17_4 := blk_frozen BK296.out 4
     have hcz18_0 : w5.cell? ⟨gb297, 0, none⟩ = some (.int .i64 a1_0) := (blk_cell BK297.out 0).trans rfl
     have hcz18_1 : w5.cell? ⟨gb297, 1, none⟩ = some (.int .i64 a1_1) := (blk_cell BK297.out 1).trans rfl
     have hcz18_2 : w5.cell? ⟨gb297, 2, none⟩ = some (.string a1_2) := (blk_cell BK297.out 2).trans rfl
     have hcz18_3 : w5.cell? ⟨gb297, 3, none⟩ = some (.slice A1_3 l1_3.length c1_3) := (blk_cell BK297.out 3).trans rfl
     have hcz18_4 : w5.cell? ⟨gb297, 4, none⟩ = some (.slice A1_4 l1_4.length c1_4) := (blk_cell BK297.out 4).trans rfl
     have hfz18_0 := blk_frozen BK297.out 0
     have hfz18_1 := blk_frozen BK297.out 1
     have hfz18_2 := blk_frozen BK297.out 2
     have hfz18_3 := blk_frozen BK297.out 3
     have hfz18_4 := blk_frozen BK297.out 4
     go_wp2
     go_meet
     case rel => exact ⟨_, (true), (by first | rfl | (simp; done) | (simp [*]; done)), H', ⟨by first | omega | exact Nat.le_refl _⟩, ⟨by (with_reducible repeat (first | refine blk_drewN ?_ _ | refine blk_drew ?_ | refine blk_alloc ?_ _)); exact BK296.out⟩, ⟨by (with_reducible repeat (first | refine blk_drewN ?_ _ | refine blk_drew ?_ | refine blk_alloc ?_ _)); exact BK297.out⟩, ⟨by repeat (first | (with_reducible first | exact HB.out | apply below_alloc | apply pw_below_drewN | apply below_drew1 | refine below_set ?_ GE296.out | refine below_set ?_ GE297.out) | exact HB.out)⟩⟩
   ·rw [if_neg c7] at H
    have c7b0 : (a0_1 == a1_1) = false := beq_eq_false_iff_ne.mpr c7
    have c7b1 : (a0_1 != a1_1) = true := bne_iff_ne.mpr c7
    have H' := aM H
    clear H
    have hnb19 := NB296_297.out
    have hnc19 := NB297_296.out
    have hcz20_0 : w5.cell? ⟨gb296, 0, none⟩ = some (.int .i64 a0_0) := (blk_cell BK296.out 0).trans rfl
    have hcz20_1 : w5.cell? ⟨gb296, 1, none⟩ = some (.int .i64 a0_1) := (blk_cell BK296.out 1).trans rfl
    have hcz20_2 : w5.cell? ⟨gb296, 2, none⟩ = some (.string a0_2) := (blk_cell BK296.out 2).trans rfl
    have hcz20_3 : w5.cell? ⟨gb296, 3, none⟩ = some (.slice A0_3 l0_3.length c0_3) := (blk_cell BK296.out 3).trans rfl
    have hcz20_4 : w5.cell? ⟨gb296, 4, none⟩ = some (.slice A0_4 l0_4.length c0_4) := (blk_cell BK296.out 4).trans rfl
    have hfz20_0 := blk_frozen BK296.out 0
    have hfz20_1 := blk_frozen BK296.out 1
    have hfz20_2 := blk_frozen BK296.out 2
    have hfz20_3 := blk_frozen BK296.out 3
    have hfz20_4 := blk_frozen BK296.out 4
    have hcz21_0 : w5.cell? ⟨gb297, 0, none⟩ = some (.int .i64 a1_0) := (blk_cell BK297.out 0).trans rfl
    have hcz21_1 : w5.cell? ⟨gb297, 1, none⟩ = some (.int .i64 a1_1) := (blk_cell BK297.out 1).trans rfl
    have hcz21_2 : w5.cell? ⟨gb297, 2, none⟩ = some (.string a1_2) := (blk_cell BK297.out 2).trans rfl
    have hcz21_3 : w5.cell? ⟨gb297, 3, none⟩ = some (.slice A1_3 l1_3.length c1_3) := (blk_cell BK297.out 3).trans rfl
    have hcz21_4 : w5.cell? ⟨gb297, 4, none⟩ = some (.slice A1_4 l1_4.length c1_4) := (blk_cell BK297.out 4).trans rfl
    have hfz21_0 := blk_frozen BK297.out 0
    have hfz21_1 := blk_frozen BK297.out 1
    have hfz21_2 := blk_frozen BK297.out 2
    have hfz21_3 := blk_frozen BK297.out 3
    have hfz21_4 := blk_frozen BK297.out 4
    go_wp2
    go_meet
    case rel => exact ⟨_, (true), (by first | rfl | (simp; done) | (simp [*]; done)), H', ⟨by first | omega | exact Nat.le_refl _⟩, ⟨by (with_reducible repeat (first | refine blk_drewN ?_ _ | refine blk_drew ?_ | refine blk_alloc ?_ _)); exact BK296.out⟩, ⟨by (with_reducible repeat (first | refine blk_drewN ?_ _ | refine blk_drew ?_ | refine blk_alloc ?_ _)); exact BK297.out⟩, ⟨by repeat (first | (with_reducible first | exact HB.out | apply below_alloc | apply pw_below_drewN | apply below_drew1 | refine below_set ?_ GE296.out | refine below_set ?_ GE297.out) | exact HB.out)⟩⟩
  ·rw [if_neg c6] at H
   have c6b0 : (a0_0 == a1_0) = false := beq_eq_false_iff_ne.mpr c6
   have c6b1 : (a0_0 != a1_0) = true := bne_iff_ne.mpr c6
   (first | rw [c6b0] | (simp only [i64_w, i32_w]; rw [c6b0]) | skip)
   have H' := aM H
   clear H
   have hnb22 := NB296_297.out
   have hnc22 := NB297_296.out
   have hcz23_0 : w5.cell? ⟨gb296, 0, none⟩ = some (.int .i64 a0_0) := (blk_cell BK296.out 0).trans rfl
   have hcz23_1 : w5.cell? ⟨gb296, 1, none⟩ = some (.int .i64 a0_1) := (blk_cell BK296.out 1).trans rfl
   have hcz23_2 : w5.cell? ⟨gb296, 2, none⟩ = some (.string a0_2) := (blk_cell BK296.out 2).trans rfl
   have hcz23_3 : w5.cell? ⟨gb296, 3, none⟩ = some (.slice A0_3 l0_3.length c0_3) := (blk_cell BK296.out 3).trans rfl
   have hcz23_4 : w5.cell? ⟨gb296, 4, none⟩ = some (.slice A0_4 l0_4.length c0_4) := (blk_cell BK296.out 4).trans rfl
   have hfz23_0 := blk_frozen BK296.out 0
   have hfz23_1 := blk_frozen BK296.out 1
   have hfz23_2 := blk_frozen BK296.out 2
   have hfz23_3 := blk_frozen BK296.out 3
   have hfz23_4 := blk_frozen BK296.out 4
   have hcz24_0 : w5.cell? ⟨gb297, 0, none⟩ = some (.int .i64 a1_0) := (blk_cell BK297.out 0).trans rfl
   have hcz24_1 : w5.cell? ⟨gb297, 1, none⟩ = some (.int .i64 a1_1) := (blk_cell BK297.out 1).trans rfl
   have hcz24_2 : w5.cell? ⟨gb297, 2, none⟩ = some (.string a1_2) := (blk_cell BK297.out 2).trans rfl
   have hcz24_3 : w5.cell? ⟨gb297, 3, none⟩ = some (.slice A1_3 l1_3.length c1_3) := (blk_cell BK297.out 3).trans rfl
   have hcz24_4 : w5.cell? ⟨gb297, 4, none⟩ = some (.slice A1_4 l1_4.length c1_4) := (blk_cell BK297.out 4).trans rfl
   have hfz24_0 := blk_frozen BK297.out 0
   have hfz24_1 := blk_frozen BK297.out 1
   have hfz24_2 := blk_frozen BK297.out 2
   have hfz24_3 := blk_frozen BK297.out 3
   have hfz24_4 := blk_frozen BK297.out 4
   go_wp2
   go_meet
   case rel => exact ⟨_, (true), (by first | rfl | (simp; done) | (simp [*]; done)), H', ⟨by first | omega | exact Nat.le_refl _⟩, ⟨by (with_reducible repeat (first | refine blk_drewN ?_ _ | refine blk_drew ?_ | refine blk_alloc ?_ _)); exact BK296.out⟩, ⟨by (with_reducible repeat (first | refine blk_drewN ?_ _ | refine blk_drew ?_ | refine blk_alloc ?_ _)); exact BK297.out⟩, ⟨by repeat (first | (with_reducible first | exact HB.out | apply below_alloc | apply pw_below_drewN | apply below_drew1 | refine below_set ?_ GE296.out | refine below_set ?_ GE297.out) | exact HB.out)⟩⟩
 case rest =>
  clear HC3
  try clear c1
  try clear c2
  try clear p2
  try clear c6
  try clear c6b0
  try clear c6b1
  try clear c7
  try clear c7b0
  try clear c7b1
  try clear c8
  try clear c8b0
  try clear c8b1
  try clear c9
  try clear c9b0
  try clear c9b1
  try clear c9b2
  try clear c10
  try clear c13
  try clear c16
  try clear c18
  try clear c19
  try clear c22
  try clear hcz11_0
  try clear hcz11_1
  try clear hcz11_2
  try clear hcz11_3
  try clear hcz11_4
  try clear hcz12_0
  try clear hcz12_1
  try clear hcz12_2
  try clear hcz12_3
  try clear hcz12_4
  try clear hcz14_0
  try clear hcz14_1
  try clear hcz14_2
  try clear hcz14_3
  try clear hcz14_4
  try clear hcz15_0
  try clear hcz15_1
  try clear hcz15_2
  try clear hcz15_3
  try clear hcz15_4
  try clear hcz17_0
  try clear hcz17_1
  try clear hcz17_2
  try clear hcz17_3
  try clear hcz17_4
  try clear hcz18_0
  try clear hcz18_1
  try clear hcz18_2
  try clear hcz18_3
  try clear hcz18_4
  try clear hcz20_0
  try clear hcz20_1
  try clear hcz20_2
  try clear hcz20_3
  try clear hcz20_4
  try clear hcz21_0
  try clear hcz21_1
  try clear hcz21_2
  try clear hcz21_3
  try clear hcz21_4
  try clear hcz23_0
  try clear hcz23_1
  try clear hcz23_2
  try clear hcz23_3
  try clear hcz23_4
  try clear hcz24_0
  try clear hcz24_1
  try clear hcz24_2
  try clear hcz24_3
  try clear hcz24_4
  try clear hfz11_0
  try clear hfz11_1
  try clear hfz11_2
  try clear hfz11_3
  try clear hfz11_4
  try clear hfz12_0
  try clear hfz12_1
  try clear hfz12_2
  try clear hfz12_3
  try clear hfz12_4
  try clear hfz14_0
  try clear hfz14_1
  try clear hfz14_2
  try clear hfz14_3
  try clear hfz14_4
  try clear hfz15_0
  try clear hfz15_1
  try clear hfz15_2
  try clear hfz15_3
  try clear hfz15_4
  try clear hfz17_0
  try clear hfz17_1
  try clear hfz17_2
  try clear hfz17_3
  try clear hfz17_4
  try clear hfz18_0
  try clear hfz18_1
  try clear hfz18_2
  try clear hfz18_3
  try clear hfz18_4
  try clear hfz20_0
  try clear hfz20_1
  try clear hfz20_2
  try clear hfz20_3
  try clear hfz20_4
  try clear hfz21_0
  try clear hfz21_1
  try clear hfz21_2
  try clear hfz21_3
  try clear hfz21_4
  try clear hfz23_0
  try clear hfz23_1
  try clear hfz23_2
  try clear hfz23_3
  try clear hfz23_4
  try clear hfz24_0
  try clear hfz24_1
  try clear hfz24_2
  try clear hfz24_3
  try clear hfz24_4
  obtain ⟨kq, x43_2, rfl, HA, HJ2, BK296, BK297, HB⟩ := hcut
  cases kq with
  | zero => exact absurd HA.out (by simp [spec_Same.j0])
  | succ kj2 =>
   have H := HA.out
   clear HA
   simp only [spec_Same.j0] at H
   by_cases c25 : x43_2 = true
   ·subst c25
    have H1 : (some false) = some r := by rw [if_pos rfl] at H; exact H
    clear H
    have H := H1
    clear H1
    obtain rfl := Option.some.inj H
    go_wp2
    go_ret
    exact ⟨by first | rfl | (simp [errW_none, errW_some] <;> rfl) | (simp [*, errW_none, errW_some] <;> rfl), by repeat (first | (with_reducible first | exact HB.out | apply below_alloc | apply pw_below_drewN | apply below_drew1 | refine below_set ?_ GE296.out | refine below_set ?_ GE297.out) | exact HB.out)⟩
   ·replace c25 := Bool.eq_false_iff.mpr c25
    subst c25
    have H1 : (spec_Same.l0 kj2 0 a0_0 a0_1 a0_2 l0_3 l0_4 a1_0 a1_1 a1_2 l1_3 l1_4) = some r := by rw [if_neg (show ¬ (false = true) by decide)] at H; exact H
    clear H
    have H := H1
    clear H1
    have H' := aM H
    clear H
    go_wp2
    go_loopg [5] kj2 (fun kq v5 w' => ∃ (x5_2 : Int), v5 = .int .i64 x5_2 ∧ Aside0 (spec_Same.l0 kq x5_2 a0_0 a0_1 a0_2 l0_3 l0_4 a1_0 a1_1 a1_2 l1_3 l1_4 = some r) ∧ Aside0 (kq ≤ kj2) ∧ Aside0 (w'.heap[gb296]? = some (.cells #[.int .i64 a0_0, .int .i64 a0_1, .string a0_2, (.slice A0_3 l0_3.length c0_3), (.slice A0_4 l0_4.length c0_4)] 25 (0, 0))) ∧ Aside0 (w'.heap[gb297]? = some (.cells #[.int .i64 a1_0, .int .i64 a1_1, .string a1_2, (.slice A1_3 l1_3.length c1_3), (.slice A1_4 l1_4.length c1_4)] 25 (0, 0))) ∧ Aside0 (Below w.heap.size w w'))
    case atStart => exact ⟨(0), (by first | rfl | (simp; done) | (simp [*]; done)), H', ⟨Nat.le_refl _⟩, ⟨by (with_reducible repeat (first | refine blk_drewN ?_ _ | refine blk_drew ?_ | refine blk_alloc ?_ _)); exact BK296.out⟩, ⟨by (with_reducible repeat (first | refine blk_drewN ?_ _ | refine blk_drew ?_ | refine blk_alloc ?_ _)); exact BK297.out⟩, ⟨by repeat (first | (with_reducible first | exact HB.out | apply below_alloc | apply pw_below_drewN | apply below_drew1 | refine below_set ?_ GE296.out | refine below_set ?_ GE297.out) | exact HB.out)⟩⟩
    case round =>
     clear H'
     try clear c1
     try clear c2
     try clear p2
     try clear c6
     try clear c6b0
     try clear c6b1
     try clear c7
     try clear c7b0
     try clear c7b1
     try clear c8
     try clear c8b0
     try clear c8b1
     try clear c9
     try clear c9b0
     try clear c9b1
     try clear c9b2
     try clear c10
     try clear c13
     try clear c16
     try clear c18
     try clear c19
     try clear c22
     try clear c25
     try clear hcz11_0
     try clear hcz11_1
     try clear hcz11_2
     try clear hcz11_3
     try clear hcz11_4
     try clear hcz12_0
     try clear hcz12_1
     try clear hcz12_2
     try clear hcz12_3
     try clear hcz12_4
     try clear hcz14_0
     try clear hcz14_1
     try clear hcz14_2
     try clear hcz14_3
     try clear hcz14_4
     try clear hcz15_0
     try clear hcz15_1
     try clear hcz15_2
     try clear hcz15_3
     try clear hcz15_4
     try clear hcz17_0
     try clear hcz17_1
     try clear hcz17_2
     try clear hcz17_3
     try clear hcz17_4
     try clear hcz18_0
     try clear hcz18_1
     try clear hcz18_2
     try clear hcz18_3
     try clear hcz18_4
     try clear hcz20_0
     try clear hcz20_1
     try clear hcz20_2
     try clear hcz20_3
     try clear hcz20_4
     try clear hcz21_0
     try clear hcz21_1
     try clear hcz21_2
     try clear hcz21_3
     try clear hcz21_4
     try clear hcz23_0
     try clear hcz23_1
     try clear hcz23_2
     try clear hcz23_3
     try clear hcz23_4
     try clear hcz24_0
     try clear hcz24_1
     try clear hcz24_2
     try clear hcz24_3
     try clear hcz24_4
     try clear hfz11_0
     try clear hfz11_1
     try clear hfz11_2
     try clear hfz11_3
     try clear hfz11_4
     try clear hfz12_0
     try clear hfz12_1
     try clear hfz12_2
     try clear hfz12_3
     try clear hfz12_4
     try clear hfz14_0
     try clear hfz14_1
     try clear hfz14_2
     try clear hfz14_3
     try clear hfz14_4
     try clear hfz15_0
     try clear hfz15_1
     try clear hfz15_2
     try clear hfz15_3
     try clear hfz15_4
     try clear hfz17_0
     try clear hfz17_1
     try clear hfz17_2
     try clear hfz17_3
     try clear hfz17_4
     try clear hfz18_0
     try clear hfz18_1
     try clear hfz18_2
     try clear hfz18_3
     try clear hfz18_4
     try clear hfz20_0
     try clear hfz20_1
     try clear hfz20_2
     try clear hfz20_3
     try clear hfz20_4
     try clear hfz21_0
     try clear hfz21_1
     try clear hfz21_2
     try clear hfz21_3
     try clear hfz21_4
     try clear hfz23_0
     try clear hfz23_1
     try clear hfz23_2
     try clear hfz23_3
     try clear hfz23_4
     try clear hfz24_0
     try clear hfz24_1
     try clear hfz24_2
     try clear hfz24_3
     try clear hfz24_4
     try clear p2
     obtain ⟨x5_2, rfl, HA, HK2, BK296, BK297, HB⟩ := hrel
     cases gk with
     | zero => exact absurd HA.out (by simp [spec_Same.l0])
     | succ k2 =>
      have H := HA.out
      clear HA
      simp only [spec_Same.l0] at H
      by_cases c26 : x5_2 < (l0_3.length : Int)
      ·rw [if_pos c26] at H
       have c26b0 : decide (x5_2 < (l0_3.length : Int)) = true := decide_eq_true c26
       clear c26
       by_cases c27 : 0 ≤ x5_2
       ·rw [if_pos c27] at H
        have c27b0 : decide (0 ≤ x5_2) = true := decide_eq_true c27
        clear c27
        by_cases c28 : x5_2 < (l1_3.length : Int)
        ·rw [if_pos c28] at H
         have c28b0 : decide (x5_2 < (l1_3.length : Int)) = true := decide_eq_true c28
         clear c28
         by_cases c29 : (rdOf ByteArray.empty l0_3 x5_2).toList = (rdOf ByteArray.empty l1_3 x5_2).toList
         ·rw [if_pos c29] at H
          have c29b0 : ((rdOf ByteArray.empty l0_3 x5_2).toList == (rdOf ByteArray.empty l1_3 x5_2).toList) = true := beq_iff_eq.mpr c29
          have c29b1 : ((rdOf ByteArray.empty l0_3 x5_2).toList != (rdOf ByteArray.empty l1_3 x5_2).toList) = false := bne_eq_false_iff_eq.mpr c29
          clear c29
          have H' := aM H
          clear H
          have hnb30 := NB296_297.out
          have hnc30 := NB297_296.out
          have hcz31_0 : wr.cell? ⟨gb296, 0, none⟩ = some (.int .i64 a0_0) := (blk_cell BK296.out 0).trans rfl
          have hcz31_1 : wr.cell? ⟨gb296, 1, none⟩ = some (.int .i64 a0_1) := (blk_cell BK296.out 1).trans rfl
          have hcz31_2 : wr.cell? ⟨gb296, 2, none⟩ = some (.string a0_2) := (blk_cell BK296.out 2).trans rfl
          have hcz31_3 : wr.cell? ⟨gb296, 3, none⟩ = some (.slice A0_3 l0_3.length c0_3) := (blk_cell BK296.out 3).trans rfl
          have hcz31_4 : wr.cell? ⟨gb296, 4, none⟩ = some (.slice A0_4 l0_4.length c0_4) := (blk_cell BK296.out 4).trans rfl
          have hfz31_0 := blk_frozen BK296.out 0
          have hfz31_1 := blk_frozen BK296.out 1
          have hfz31_2 := blk_frozen BK296.out 2
          have hfz31_3 := blk_frozen BK296.out 3
          have hfz31_4 := blk_frozen BK296.out 4
          try go_wp2
          have n0_ := aM (blk_drew BK296.out)
          have n1_ := aM (blk_drew BK297.out)
          have n2_ := aM (below_drew1 HB.out)
          clear BK296 BK297 HB; have BK296 := n0_; have BK297 := n1_; have HB := n2_; clear n0_ n1_ n2_
          have p298 : 0 ≤ (x5_2 : Int) := of_decide_eq_true (by first | (with_reducible assumption) | assumption)
          have q298 : x5_2 < (l0_3.length : Int) := of_decide_eq_true (by first | (with_reducible assumption) | assumption)
          obtain ⟨ad298, e298, hx298_0⟩ := Kd.at_string HR0_3.out x5_2 p298 q298
          have hw298_0 := hx298_0
          cases e298
          replace hx298_0 := (HB.out.cell (World.block_lt_of_cell? w _ hx298_0)).trans hx298_0
          replace p298 := eq_true p298
          replace q298 := eq_true q298
          have p299 : 0 ≤ (x5_2 : Int) := of_decide_eq_true (by first | (with_reducible assumption) | assumption)
          have q299 : x5_2 < (l1_3.length : Int) := of_decide_eq_true (by first | (with_reducible assumption) | assumption)
          obtain ⟨ad299, e299, hx299_0⟩ := Kd.at_string HR1_3.out x5_2 p299 q299
          have hw299_0 := hx299_0
          cases e299
          replace hx299_0 := (HB.out.cell (World.block_lt_of_cell? w _ hx299_0)).trans hx299_0
          replace p299 := eq_true p299
          replace q299 := eq_true q299
          refine start_ (n := 11) (S := fun w' => w'.cell? ⟨gb296, 0, none⟩ = some (.int .i64 a0_0) ∧ w'.cell? ⟨gb296, 1, none⟩ = some (.int .i64 a0_1) ∧ w'.cell? ⟨gb296, 2, none⟩ = some (.string a0_2) ∧ w'.cell? ⟨gb296, 3, none⟩ = some (.slice (some ad298) l0_3.length c0_3) ∧ w'.cell? ⟨gb296, 4, none⟩ = some (.slice A0_4 l0_4.length c0_4) ∧ w'.cell? ⟨gb297, 0, none⟩ = some (.int .i64 a1_0) ∧ w'.cell? ⟨gb297, 1, none⟩ = some (.int .i64 a1_1) ∧ w'.cell? ⟨gb297, 2, none⟩ = some (.string a1_2) ∧ w'.cell? ⟨gb297, 3, none⟩ = some (.slice (some ad299) l1_3.length c1_3) ∧ w'.cell? ⟨gb297, 4, none⟩ = some (.slice A1_4 l1_4.length c1_4) ∧ w'.cell? (ad298.add (x5_2).toNat) = some (.string (rdOf ByteArray.empty l0_3 x5_2)) ∧ w'.cell? (ad299.add (x5_2).toNat) = some (.string (rdOf ByteArray.empty l1_3 x5_2))) (ds := []) #[false, false, false, false, false, false, false, false, false, false, false] (by kernel_rfl) rfl rfl ⟨(blk_cell BK296.out 0).trans rfl, (blk_cell BK296.out 1).trans rfl, (blk_cell BK296.out 2).trans rfl, (blk_cell BK296.out 3).trans rfl, (blk_cell BK296.out 4).trans rfl, (blk_cell BK297.out 0).trans rfl, (blk_cell BK297.out 1).trans rfl, (blk_cell BK297.out 2).trans rfl, (blk_cell BK297.out 3).trans rfl, (blk_cell BK297.out 4).trans rfl, ((HB.out.cell (World.block_lt_of_cell? w _ hw298_0)).trans hw298_0), ((HB.out.cell (World.block_lt_of_cell? w _ hw299_0)).trans hw299_0)⟩ (fun hHeld => ?_); refine with_tabW spec_Same.tab6 spec_Same.bits6 (fun HT_ HW_ => ?_)
          generalize wr.drew = w32 at BK296 BK297 HB hx298_0 hx299_0 hHeld ⊢
          refine pure_ (i := 0) (N := some 51) (v := ?_) (a' := ?_) #[true, false, false, false, false, false, false, false, false, false, false] rfl rfl (any_of HT_.out (by kernel_rfl)) (fun _ _ _ h => h) (Or.inl ⟨by rfl, ?_⟩) ?_ ?_
          rotate_left
          ·intro w'; go_simp; with_reducible rfl
          rotate_left
          ·simp only [Act.put, sA, sB, sC, i64_w, i32_w]; rfl
          refine pure_ (i := 2) (N := some 53) (v := ?_) (a' := ?_) #[true, false, true, false, false, false, false, false, false, false, false] rfl rfl (any_of HT_.out (by kernel_rfl)) (fun _ _ _ h => h) (Or.inl ⟨by rfl, ?_⟩) ?_ ?_
          rotate_left
          ·intro w'; go_simp; with_reducible rfl
          rotate_left
          ·simp only [Act.put, sA, sB, sC, i64_w, i32_w]; rfl
          refine pure_ (i := 5) (N := some 56) (v := ?_) (a' := ?_) #[true, false, true, false, false, true, false, false, false, false, false] rfl rfl (any_of HT_.out (by kernel_rfl)) (fun _ _ _ h => h) (Or.inl ⟨by rfl, ?_⟩) ?_ ?_
          rotate_left
          ·intro w'; go_simp; with_reducible rfl
          rotate_left
          ·simp only [Act.put, sA, sB, sC, i64_w, i32_w]; rfl
          refine pure_ (i := 7) (N := some 58) (v := ?_) (a' := ?_) #[true, false, true, false, false, true, false, true, false, false, false] rfl rfl (any_of HT_.out (by kernel_rfl)) (fun _ _ _ h => h) (Or.inl ⟨by rfl, ?_⟩) ?_ ?_
          rotate_left
          ·intro w'; go_simp; with_reducible rfl
          rotate_left
          ·simp only [Act.put, sA, sB, sC, i64_w, i32_w]; rfl
          refine take_ (i := 1) (N := some 52) (v := ?_) (a' := ?_) #[true, true, true, false, false, true, false, true, false, false, false] rfl rfl (take_ofW HT_.out HW_.out (by kernel_rfl)) (fun _ _ _ h => h) (Or.inl ⟨by rfl, ?_⟩) hHeld ?_ ?_
          rotate_left
          ·rintro w' ⟨s0, s1, s2, s3, s4, s5, s6, s7, s8, s9, s10, s11⟩
           go_simp; with_reducible rfl
          rotate_left
          ·simp only [Act.put, sA, sB, sC, i64_w, i32_w]; rfl
          refine pure_ (i := 3) (N := some 54) (v := ?_) (a' := ?_) #[true, true, true, true, false, true, false, true, false, false, false] rfl rfl (any_of HT_.out (by kernel_rfl)) (fun _ _ _ h => h) (Or.inl ⟨by rfl, ?_⟩) ?_ ?_
          rotate_left
          ·intro w'; go_simp; with_reducible rfl
          rotate_left
          ·simp only [Act.put, sA, sB, sC, i64_w, i32_w]; rfl
          refine take_ (i := 4) (N := some 55) (v := ?_) (a' := ?_) #[true, true, true, true, true, true, false, true, false, false, false] rfl rfl (take_ofW HT_.out HW_.out (by kernel_rfl)) (fun _ _ _ h => h) (Or.inl ⟨by rfl, ?_⟩) hHeld ?_ ?_
          rotate_left
          ·rintro w' ⟨s0, s1, s2, s3, s4, s5, s6, s7, s8, s9, s10, s11⟩
           go_simp; with_reducible rfl
          rotate_left
          ·simp only [Act.put, sA, sB, sC, i64_w, i32_w]; rfl
          refine take_ (i := 6) (N := some 57) (v := ?_) (a' := ?_) #[true, true, true, true, true, true, true, true, false, false, false] rfl rfl (take_ofW HT_.out HW_.out (by kernel_rfl)) (fun _ _ _ h => h) (Or.inl ⟨by rfl, ?_⟩) hHeld ?_ ?_
          rotate_left
          ·rintro w' ⟨s0, s1, s2, s3, s4, s5, s6, s7, s8, s9, s10, s11⟩
           go_simp; with_reducible rfl
          rotate_left
          ·simp only [Act.put, sA, sB, sC, i64_w, i32_w]; rfl
          refine pure_ (i := 8) (N := some 59) (v := ?_) (a' := ?_) #[true, true, true, true, true, true, true, true, true, false, false] rfl rfl (any_of HT_.out (by kernel_rfl)) (fun _ _ _ h => h) (Or.inl ⟨by rfl, ?_⟩) ?_ ?_
          rotate_left
          ·intro w'; go_simp; with_reducible rfl
          rotate_left
          ·simp only [Act.put, sA, sB, sC, i64_w, i32_w]; rfl
          refine take_ (i := 9) (N := some 60) (v := ?_) (a' := ?_) #[true, true, true, true, true, true, true, true, true, true, false] rfl rfl (take_ofW HT_.out HW_.out (by kernel_rfl)) (fun _ _ _ h => h) (Or.inl ⟨by rfl, ?_⟩) hHeld ?_ ?_
          rotate_left
          ·rintro w' ⟨s0, s1, s2, s3, s4, s5, s6, s7, s8, s9, s10, s11⟩
           go_simp; with_reducible rfl
          rotate_left
          ·simp only [Act.put, sA, sB, sC, i64_w, i32_w]; rfl
          refine pure_ (i := 10) (N := some 61) (v := ?_) (a' := ?_) #[true, true, true, true, true, true, true, true, true, true, true] rfl rfl (any_of HT_.out (by kernel_rfl)) (fun _ _ _ h => h) (Or.inl ⟨by rfl, ?_⟩) ?_ ?_
          rotate_left
          ·intro w'; go_simp; with_reducible rfl
          rotate_left
          ·simp only [Act.put, sA, sB, sC, i64_w, i32_w]; rfl
          refine done_ (done_of HT_.out (by kernel_rfl)) ?_
          try go_wp2
          go_roundg k2
          case measure => have := HJ2.out; have := HK2.out; omega
          case rel => exact ⟨(wrap64 (x5_2 + 1)), (by first | rfl | (simp; done) | (simp [*]; done)), H', ⟨by have := HJ2.out; have := HK2.out; omega⟩, ⟨by (with_reducible repeat (first | refine blk_drewN ?_ _ | refine blk_drew ?_ | refine blk_alloc ?_ _)); exact BK296.out⟩, ⟨by (with_reducible repeat (first | refine blk_drewN ?_ _ | refine blk_drew ?_ | refine blk_alloc ?_ _)); exact BK297.out⟩, ⟨by repeat (first | (with_reducible first | exact HB.out | apply below_alloc | apply pw_below_drewN | apply below_drew1 | refine below_set ?_ GE296.out | refine below_set ?_ GE297.out) | exact HB.out)⟩⟩
         ·rw [if_neg c29] at H
          have c29b0 : ((rdOf ByteArray.empty l0_3 x5_2).toList == (rdOf ByteArray.empty l1_3 x5_2).toList) = false := beq_eq_false_iff_ne.mpr c29
          have c29b1 : ((rdOf ByteArray.empty l0_3 x5_2).toList != (rdOf ByteArray.empty l1_3 x5_2).toList) = true := bne_iff_ne.mpr c29
          obtain rfl := Option.some.inj H
          have hnb33 := NB296_297.out
          have hnc33 := NB297_296.out
          have hcz34_0 : wr.cell? ⟨gb296, 0, none⟩ = some (.int .i64 a0_0) := (blk_cell BK296.out 0).trans rfl
          have hcz34_1 : wr.cell? ⟨gb296, 1, none⟩ = some (.int .i64 a0_1) := (blk_cell BK296.out 1).trans rfl
          have hcz34_2 : wr.cell? ⟨gb296, 2, none⟩ = some (.string a0_2) := (blk_cell BK296.out 2).trans rfl
          have hcz34_3 : wr.cell? ⟨gb296, 3, none⟩ = some (.slice A0_3 l0_3.length c0_3) := (blk_cell BK296.out 3).trans rfl
          have hcz34_4 : wr.cell? ⟨gb296, 4, none⟩ = some (.slice A0_4 l0_4.length c0_4) := (blk_cell BK296.out 4).trans rfl
          have hfz34_0 := blk_frozen BK296.out 0
          have hfz34_1 := blk_frozen BK296.out 1
          have hfz34_2 := blk_frozen BK296.out 2
          have hfz34_3 := blk_frozen BK296.out 3
          have hfz34_4 := blk_frozen BK296.out 4
          try go_wp2
          have n0_ := aM (blk_drew BK296.out)
          have n1_ := aM (blk_drew BK297.out)
          have n2_ := aM (below_drew1 HB.out)
          clear BK296 BK297 HB; have BK296 := n0_; have BK297 := n1_; have HB := n2_; clear n0_ n1_ n2_
          have p298 : 0 ≤ (x5_2 : Int) := of_decide_eq_true (by first | (with_reducible assumption) | assumption)
          have q298 : x5_2 < (l0_3.length : Int) := of_decide_eq_true (by first | (with_reducible assumption) | assumption)
          obtain ⟨ad298, e298, hx298_0⟩ := Kd.at_string HR0_3.out x5_2 p298 q298
          have hw298_0 := hx298_0
          cases e298
          replace hx298_0 := (HB.out.cell (World.block_lt_of_cell? w _ hx298_0)).trans hx298_0
          replace p298 := eq_true p298
          replace q298 := eq_true q298
          have p299 : 0 ≤ (x5_2 : Int) := of_decide_eq_true (by first | (with_reducible assumption) | assumption)
          have q299 : x5_2 < (l1_3.length : Int) := of_decide_eq_true (by first | (with_reducible assumption) | assumption)
          obtain ⟨ad299, e299, hx299_0⟩ := Kd.at_string HR1_3.out x5_2 p299 q299
          have hw299_0 := hx299_0
          cases e299
          replace hx299_0 := (HB.out.cell (World.block_lt_of_cell? w _ hx299_0)).trans hx299_0
          replace p299 := eq_true p299
          replace q299 := eq_true q299
          refine start_ (n := 11) (S := fun w' => w'.cell? ⟨gb296, 0, none⟩ = some (.int .i64 a0_0) ∧ w'.cell? ⟨gb296, 1, none⟩ = some (.int .i64 a0_1) ∧ w'.cell? ⟨gb296, 2, none⟩ = some (.string a0_2) ∧ w'.cell? ⟨gb296, 3, none⟩ = some (.slice (some ad298) l0_3.length c0_3) ∧ w'.cell? ⟨gb296, 4, none⟩ = some (.slice A0_4 l0_4.length c0_4) ∧ w'.cell? ⟨gb297, 0, none⟩ = some (.int .i64 a1_0) ∧ w'.cell? ⟨gb297, 1, none⟩ = some (.int .i64 a1_1) ∧ w'.cell? ⟨gb297, 2, none⟩ = some (.string a1_2) ∧ w'.cell? ⟨gb297, 3, none⟩ = some (.slice (some ad299) l1_3.length c1_3) ∧ w'.cell? ⟨gb297, 4, none⟩ = some (.slice A1_4 l1_4.length c1_4) ∧ w'.cell? (ad298.add (x5_2).toNat) = some (.string (rdOf ByteArray.empty l0_3 x5_2)) ∧ w'.cell? (ad299.add (x5_2).toNat) = some (.string (rdOf ByteArray.empty l1_3 x5_2))) (ds := []) #[false, false, false, false, false, false, false, false, false, false, false] (by kernel_rfl) rfl rfl ⟨(blk_cell BK296.out 0).trans rfl, (blk_cell BK296.out 1).trans rfl, (blk_cell BK296.out 2).trans rfl, (blk_cell BK296.out 3).trans rfl, (blk_cell BK296.out 4).trans rfl, (blk_cell BK297.out 0).trans rfl, (blk_cell BK297.out 1).trans rfl, (blk_cell BK297.out 2).trans rfl, (blk_cell BK297.out 3).trans rfl, (blk_cell BK297.out 4).trans rfl, ((HB.out.cell (World.block_lt_of_cell? w _ hw298_0)).trans hw298_0), ((HB.out.cell (World.block_lt_of_cell? w _ hw299_0)).trans hw299_0)⟩ (fun hHeld => ?_); refine with_tabW spec_Same.tab6 spec_Same.bits6 (fun HT_ HW_ => ?_)
          generalize wr.drew = w35 at BK296 BK297 HB hx298_0 hx299_0 hHeld ⊢
          refine pure_ (i := 0) (N := some 51) (v := ?_) (a' := ?_) #[true, false, false, false, false, false, false, false, false, false, false] rfl rfl (any_of HT_.out (by kernel_rfl)) (fun _ _ _ h => h) (Or.inl ⟨by rfl, ?_⟩) ?_ ?_
          rotate_left
          ·intro w'; go_simp; with_reducible rfl
          rotate_left
          ·simp only [Act.put, sA, sB, sC, i64_w, i32_w]; rfl
          refine pure_ (i := 2) (N := some 53) (v := ?_) (a' := ?_) #[true, false, true, false, false, false, false, false, false, false, false] rfl rfl (any_of HT_.out (by kernel_rfl)) (fun _ _ _ h => h) (Or.inl ⟨by rfl, ?_⟩) ?_ ?_
          rotate_left
          ·intro w'; go_simp; with_reducible rfl
          rotate_left
          ·simp only [Act.put, sA, sB, sC, i64_w, i32_w]; rfl
          refine pure_ (i := 5) (N := some 56) (v := ?_) (a' := ?_) #[true, false, true, false, false, true, false, false, false, false, false] rfl rfl (any_of HT_.out (by kernel_rfl)) (fun _ _ _ h => h) (Or.inl ⟨by rfl, ?_⟩) ?_ ?_
          rotate_left
          ·intro w'; go_simp; with_reducible rfl
          rotate_left
          ·simp only [Act.put, sA, sB, sC, i64_w, i32_w]; rfl
          refine pure_ (i := 7) (N := some 58) (v := ?_) (a' := ?_) #[true, false, true, false, false, true, false, true, false, false, false] rfl rfl (any_of HT_.out (by kernel_rfl)) (fun _ _ _ h => h) (Or.inl ⟨by rfl, ?_⟩) ?_ ?_
          rotate_left
          ·intro w'; go_simp; with_reducible rfl
          rotate_left
          ·simp only [Act.put, sA, sB, sC, i64_w, i32_w]; rfl
          refine take_ (i := 1) (N := some 52) (v := ?_) (a' := ?_) #[true, true, true, false, false, true, false, true, false, false, false] rfl rfl (take_ofW HT_.out HW_.out (by kernel_rfl)) (fun _ _ _ h => h) (Or.inl ⟨by rfl, ?_⟩) hHeld ?_ ?_
          rotate_left
          ·rintro w' ⟨s0, s1, s2, s3, s4, s5, s6, s7, s8, s9, s10, s11⟩
           go_simp; with_reducible rfl
          rotate_left
          ·simp only [Act.put, sA, sB, sC, i64_w, i32_w]; rfl
          refine pure_ (i := 3) (N := some 54) (v := ?_) (a' := ?_) #[true, true, true, true, false, true, false, true, false, false, false] rfl rfl (any_of HT_.out (by kernel_rfl)) (fun _ _ _ h => h) (Or.inl ⟨by rfl, ?_⟩) ?_ ?_
          rotate_left
          ·intro w'; go_simp; with_reducible rfl
          rotate_left
          ·simp only [Act.put, sA, sB, sC, i64_w, i32_w]; rfl
          refine take_ (i := 4) (N := some 55) (v := ?_) (a' := ?_) #[true, true, true, true, true, true, false, true, false, false, false] rfl rfl (take_ofW HT_.out HW_.out (by kernel_rfl)) (fun _ _ _ h => h) (Or.inl ⟨by rfl, ?_⟩) hHeld ?_ ?_
          rotate_left
          ·rintro w' ⟨s0, s1, s2, s3, s4, s5, s6, s7, s8, s9, s10, s11⟩
           go_simp; with_reducible rfl
          rotate_left
          ·simp only [Act.put, sA, sB, sC, i64_w, i32_w]; rfl
          refine take_ (i := 6) (N := some 57) (v := ?_) (a' := ?_) #[true, true, true, true, true, true, true, true, false, false, false] rfl rfl (take_ofW HT_.out HW_.out (by kernel_rfl)) (fun _ _ _ h => h) (Or.inl ⟨by rfl, ?_⟩) hHeld ?_ ?_
          rotate_left
          ·rintro w' ⟨s0, s1, s2, s3, s4, s5, s6, s7, s8, s9, s10, s11⟩
           go_simp; with_reducible rfl
          rotate_left
          ·simp only [Act.put, sA, sB, sC, i64_w, i32_w]; rfl
          refine pure_ (i := 8) (N := some 59) (v := ?_) (a' := ?_) #[true, true, true, true, true, true, true, true, true, false, false] rfl rfl (any_of HT_.out (by kernel_rfl)) (fun _ _ _ h => h) (Or.inl ⟨by rfl, ?_⟩) ?_ ?_
          rotate_left
          ·intro w'; go_simp; with_reducible rfl
          rotate_left
          ·simp only [Act.put, sA, sB, sC, i64_w, i32_w]; rfl
          refine take_ (i := 9) (N := some 60) (v := ?_) (a' := ?_) #[true, true, true, true, true, true, true, true, true, true, false] rfl rfl (take_ofW HT_.out HW_.out (by kernel_rfl)) (fun _ _ _ h => h) (Or.inl ⟨by rfl, ?_⟩) hHeld ?_ ?_
          rotate_left
          ·rintro w' ⟨s0, s1, s2, s3, s4, s5, s6, s7, s8, s9, s10, s11⟩
           go_simp; with_reducible rfl
          rotate_left
          ·simp only [Act.put, sA, sB, sC, i64_w, i32_w]; rfl
          refine pure_ (i := 10) (N := some 61) (v := ?_) (a' := ?_) #[true, true, true, true, true, true, true, true, true, true, true] rfl rfl (any_of HT_.out (by kernel_rfl)) (fun _ _ _ h => h) (Or.inl ⟨by rfl, ?_⟩) ?_ ?_
          rotate_left
          ·intro w'; go_simp; with_reducible rfl
          rotate_left
          ·simp only [Act.put, sA, sB, sC, i64_w, i32_w]; rfl
          refine done_ (done_of HT_.out (by kernel_rfl)) ?_
          try go_wp2
          go_ret
          exact ⟨by first | rfl | (simp [errW_none, errW_some] <;> rfl) | (simp [*, errW_none, errW_some] <;> rfl), by repeat (first | (with_reducible first | exact HB.out | apply below_alloc | apply pw_below_drewN | apply below_drew1 | refine below_set ?_ GE296.out | refine below_set ?_ GE297.out) | exact HB.out)⟩
        ·rw [if_neg c28] at H
         exact absurd H (by simp)
       ·rw [if_neg c27] at H
        exact absurd H (by simp)
      ·rw [if_neg c26] at H
       have c26b0 : decide (x5_2 < (l0_3.length : Int)) = false := decide_eq_false c26
       clear c26
       have H' := aM H
       clear H
       have hnb36 := NB296_297.out
       have hnc36 := NB297_296.out
       have hcz37_0 : wr.cell? ⟨gb296, 0, none⟩ = some (.int .i64 a0_0) := (blk_cell BK296.out 0).trans rfl
       have hcz37_1 : wr.cell? ⟨gb296, 1, none⟩ = some (.int .i64 a0_1) := (blk_cell BK296.out 1).trans rfl
       have hcz37_2 : wr.cell? ⟨gb296, 2, none⟩ = some (.string a0_2) := (blk_cell BK296.out 2).trans rfl
       have hcz37_3 : wr.cell? ⟨gb296, 3, none⟩ = some (.slice A0_3 l0_3.length c0_3) := (blk_cell BK296.out 3).trans rfl
       have hcz37_4 : wr.cell? ⟨gb296, 4, none⟩ = some (.slice A0_4 l0_4.length c0_4) := (blk_cell BK296.out 4).trans rfl
       have hfz37_0 := blk_frozen BK296.out 0
       have hfz37_1 := blk_frozen BK296.out 1
       have hfz37_2 := blk_frozen BK296.out 2
       have hfz37_3 := blk_frozen BK296.out 3
       have hfz37_4 := blk_frozen BK296.out 4
       go_wp2
       go_loopg [6] k2 (fun kq v6 w' => ∃ (x6_3 : Int), v6 = .int .i64 x6_3 ∧ Aside0 (spec_Same.l1 kq x6_3 a0_0 a0_1 a0_2 l0_3 l0_4 a1_0 a1_1 a1_2 l1_3 l1_4 = some r) ∧ Aside0 (kq ≤ k2) ∧ Aside0 (w'.heap[gb296]? = some (.cells #[.int .i64 a0_0, .int .i64 a0_1, .string a0_2, (.slice A0_3 l0_3.length c0_3), (.slice A0_4 l0_4.length c0_4)] 25 (0, 0))) ∧ Aside0 (w'.heap[gb297]? = some (.cells #[.int .i64 a1_0, .int .i64 a1_1, .string a1_2, (.slice A1_3 l1_3.length c1_3), (.slice A1_4 l1_4.length c1_4)] 25 (0, 0))) ∧ Aside0 (Below w.heap.size w w'))
       case atStart => exact ⟨(0), (by first | rfl | (simp; done) | (simp [*]; done)), H', ⟨Nat.le_refl _⟩, ⟨by (with_reducible repeat (first | refine blk_drewN ?_ _ | refine blk_drew ?_ | refine blk_alloc ?_ _)); exact BK296.out⟩, ⟨by (with_reducible repeat (first | refine blk_drewN ?_ _ | refine blk_drew ?_ | refine blk_alloc ?_ _)); exact BK297.out⟩, ⟨by repeat (first | (with_reducible first | exact HB.out | apply below_alloc | apply pw_below_drewN | apply below_drew1 | refine below_set ?_ GE296.out | refine below_set ?_ GE297.out) | exact HB.out)⟩⟩
       case round =>
        clear H'
        try clear c1
        try clear c2
        try clear p2
        try clear q2
        try clear hx2
        try clear c3
        try clear c6
        try clear c6b0
        try clear c6b1
        try clear p6
        try clear c7
        try clear c7b0
        try clear c7b1
        try clear c8
        try clear c8b0
        try clear c8b1
        try clear c9
        try clear c9b0
        try clear c9b1
        try clear c9b2
        try clear c10
        try clear c13
        try clear c16
        try clear c18
        try clear c19
        try clear c22
        try clear c25
        try clear c26
        try clear c26b0
        try clear c27
        try clear c27b0
        try clear c28
        try clear c28b0
        try clear c29
        try clear c29b0
        try clear c29b1
        try clear p29
        try clear q29
        try clear hx29
        try clear c30
        try clear c33
        try clear c36
        try clear hcz11_0
        try clear hcz11_1
        try clear hcz11_2
        try clear hcz11_3
        try clear hcz11_4
        try clear hcz12_0
        try clear hcz12_1
        try clear hcz12_2
        try clear hcz12_3
        try clear hcz12_4
        try clear hcz14_0
        try clear hcz14_1
        try clear hcz14_2
        try clear hcz14_3
        try clear hcz14_4
        try clear hcz15_0
        try clear hcz15_1
        try clear hcz15_2
        try clear hcz15_3
        try clear hcz15_4
        try clear hcz17_0
        try clear hcz17_1
        try clear hcz17_2
        try clear hcz17_3
        try clear hcz17_4
        try clear hcz18_0
        try clear hcz18_1
        try clear hcz18_2
        try clear hcz18_3
        try clear hcz18_4
        try clear hcz20_0
        try clear hcz20_1
        try clear hcz20_2
        try clear hcz20_3
        try clear hcz20_4
        try clear hcz21_0
        try clear hcz21_1
        try clear hcz21_2
        try clear hcz21_3
        try clear hcz21_4
        try clear hcz23_0
        try clear hcz23_1
        try clear hcz23_2
        try clear hcz23_3
        try clear hcz23_4
        try clear hcz24_0
        try clear hcz24_1
        try clear hcz24_2
        try clear hcz24_3
        try clear hcz24_4
        try clear hcz31_0
        try clear hcz31_1
        try clear hcz31_2
        try clear hcz31_3
        try clear hcz31_4
        try clear hcz34_0
        try clear hcz34_1
        try clear hcz34_2
        try clear hcz34_3
        try clear hcz34_4
        try clear hcz37_0
        try clear hcz37_1
        try clear hcz37_2
        try clear hcz37_3
        try clear hcz37_4
        try clear hfz11_0
        try clear hfz11_1
        try clear hfz11_2
        try clear hfz11_3
        try clear hfz11_4
        try clear hfz12_0
        try clear hfz12_1
        try clear hfz12_2
        try clear hfz12_3
        try clear hfz12_4
        try clear hfz14_0
        try clear hfz14_1
        try clear hfz14_2
        try clear hfz14_3
        try clear hfz14_4
        try clear hfz15_0
        try clear hfz15_1
        try clear hfz15_2
        try clear hfz15_3
        try clear hfz15_4
        try clear hfz17_0
        try clear hfz17_1
        try clear hfz17_2
        try clear hfz17_3
        try clear hfz17_4
        try clear hfz18_0
        try clear hfz18_1
        try clear hfz18_2
        try clear hfz18_3
        try clear hfz18_4
        try clear hfz20_0
        try clear hfz20_1
        try clear hfz20_2
        try clear hfz20_3
        try clear hfz20_4
        try clear hfz21_0
        try clear hfz21_1
        try clear hfz21_2
        try clear hfz21_3
        try clear hfz21_4
        try clear hfz23_0
        try clear hfz23_1
        try clear hfz23_2
        try clear hfz23_3
        try clear hfz23_4
        try clear hfz24_0
        try clear hfz24_1
        try clear hfz24_2
        try clear hfz24_3
        try clear hfz24_4
        try clear hfz31_0
        try clear hfz31_1
        try clear hfz31_2
        try clear hfz31_3
        try clear hfz31_4
        try clear hfz34_0
        try clear hfz34_1
        try clear hfz34_2
        try clear hfz34_3
        try clear hfz34_4
        try clear hfz37_0
        try clear hfz37_1
        try clear hfz37_2
        try clear hfz37_3
        try clear hfz37_4
        try clear hx298_0
        try clear hx299_0
        try clear p2
        try clear p298
        try clear p299
        try clear q298
        try clear q299
        obtain ⟨x6_3, rfl, HA, HK3, BK296, BK297, HB⟩ := hrel
        cases gk with
        | zero => exact absurd HA.out (by simp [spec_Same.l1])
        | succ k3 =>
         have H := HA.out
         clear HA
         simp only [spec_Same.l1] at H
         by_cases c38 : x6_3 < (l0_4.length : Int)
         ·rw [if_pos c38] at H
          have c38b0 : decide (x6_3 < (l0_4.length : Int)) = true := decide_eq_true c38
          clear c38
          by_cases c39 : 0 ≤ x6_3
          ·rw [if_pos c39] at H
           have c39b0 : decide (0 ≤ x6_3) = true := decide_eq_true c39
           clear c39
           by_cases c40 : x6_3 < (l1_4.length : Int)
           ·rw [if_pos c40] at H
            have c40b0 : decide (x6_3 < (l1_4.length : Int)) = true := decide_eq_true c40
            clear c40
            replace H := Option.bind_eq_some_iff.mp H
            obtain ⟨t302, A410, H⟩ := H
            replace H : (if t302 = true then (spec_Same.l1 k3 (wrap64 (x6_3 + 1)) a0_0 a0_1 a0_2 l0_3 l0_4 a1_0 a1_1 a1_2 l1_3 l1_4) else (some false)) = some r := H
            have A41 := aM A410
            clear A410
            by_cases c42 : t302 = true
            ·subst c42
             have H1 : (spec_Same.l1 k3 (wrap64 (x6_3 + 1)) a0_0 a0_1 a0_2 l0_3 l0_4 a1_0 a1_1 a1_2 l1_3 l1_4) = some r := by rw [if_pos rfl] at H; exact H
             clear H
             have H := H1
             clear H1
             have H' := aM H
             clear H
             have hnb43 := NB296_297.out
             have hnc43 := NB297_296.out
             have hcz44_0 : wr.cell? ⟨gb296, 0, none⟩ = some (.int .i64 a0_0) := (blk_cell BK296.out 0).trans rfl
             have hcz44_1 : wr.cell? ⟨gb296, 1, none⟩ = some (.int .i64 a0_1) := (blk_cell BK296.out 1).trans rfl
             have hcz44_2 : wr.cell? ⟨gb296, 2, none⟩ = some (.string a0_2) := (blk_cell BK296.out 2).trans rfl
             have hcz44_3 : wr.cell? ⟨gb296, 3, none⟩ = some (.slice A0_3 l0_3.length c0_3) := (blk_cell BK296.out 3).trans rfl
             have hcz44_4 : wr.cell? ⟨gb296, 4, none⟩ = some (.slice A0_4 l0_4.length c0_4) := (blk_cell BK296.out 4).trans rfl
             have hfz44_0 := blk_frozen BK296.out 0
             have hfz44_1 := blk_frozen BK296.out 1
             have hfz44_2 := blk_frozen BK296.out 2
             have hfz44_3 := blk_frozen BK296.out 3
             have hfz44_4 := blk_frozen BK296.out 4
             try go_wp2
             have n0_ := aM (blk_drew BK296.out)
             have n1_ := aM (blk_drew BK297.out)
             have n2_ := aM (below_drew1 HB.out)
             clear BK296 BK297 HB; have BK296 := n0_; have BK297 := n1_; have HB := n2_; clear n0_ n1_ n2_
             have p300 : 0 ≤ (x6_3 : Int) := of_decide_eq_true (by first | (with_reducible assumption) | assumption)
             have q300 : x6_3 < (l0_4.length : Int) := of_decide_eq_true (by first | (with_reducible assumption) | assumption)
             obtain ⟨ad300, A300_3, c300_3, A300_4, c300_4, e300, hx300_0, hx300_1, hx300_2, hx300_3, hx300_4, hl300_3, hi300_3, hl300_4, hi300_4⟩ := at_T25 HR0_4.out x6_3 p300 q300
             have hw300_4 := hx300_4
             have hw300_3 := hx300_3
             have hw300_2 := hx300_2
             have hw300_1 := hx300_1
             have hw300_0 := hx300_0
             cases e300
             replace hx300_0 := (HB.out.cell (World.block_lt_of_cell? w _ hx300_0)).trans hx300_0
             replace hx300_1 := (HB.out.cell (World.block_lt_of_cell? w _ hx300_1)).trans hx300_1
             replace hx300_2 := (HB.out.cell (World.block_lt_of_cell? w _ hx300_2)).trans hx300_2
             replace hx300_3 := (HB.out.cell (World.block_lt_of_cell? w _ hx300_3)).trans hx300_3
             replace hx300_4 := (HB.out.cell (World.block_lt_of_cell? w _ hx300_4)).trans hx300_4
             have HR300_3 := aM hi300_3
             have HC300_3 := aM hl300_3
             clear hi300_3 hl300_3
             have HR300_4 := aM hi300_4
             have HC300_4 := aM hl300_4
             clear hi300_4 hl300_4
             replace p300 := eq_true p300
             replace q300 := eq_true q300
             have p301 : 0 ≤ (x6_3 : Int) := of_decide_eq_true (by first | (with_reducible assumption) | assumption)
             have q301 : x6_3 < (l1_4.length : Int) := of_decide_eq_true (by first | (with_reducible assumption) | assumption)
             obtain ⟨ad301, A301_3, c301_3, A301_4, c301_4, e301, hx301_0, hx301_1, hx301_2, hx301_3, hx301_4, hl301_3, hi301_3, hl301_4, hi301_4⟩ := at_T25 HR1_4.out x6_3 p301 q301
             have hw301_4 := hx301_4
             have hw301_3 := hx301_3
             have hw301_2 := hx301_2
             have hw301_1 := hx301_1
             have hw301_0 := hx301_0
             cases e301
             replace hx301_0 := (HB.out.cell (World.block_lt_of_cell? w _ hx301_0)).trans hx301_0
             replace hx301_1 := (HB.out.cell (World.block_lt_of_cell? w _ hx301_1)).trans hx301_1
             replace hx301_2 := (HB.out.cell (World.block_lt_of_cell? w _ hx301_2)).trans hx301_2
             replace hx301_3 := (HB.out.cell (World.block_lt_of_cell? w _ hx301_3)).trans hx301_3
             replace hx301_4 := (HB.out.cell (World.block_lt_of_cell? w _ hx301_4)).trans hx301_4
             have HR301_3 := aM hi301_3
             have HC301_3 := aM hl301_3
             clear hi301_3 hl301_3
             have HR301_4 := aM hi301_4
             have HC301_4 := aM hl301_4
             clear hi301_4 hl301_4
             replace p301 := eq_true p301
             replace q301 := eq_true q301
             refine start_ (n := 12) (S := fun w' => w'.cell? ⟨gb296, 0, none⟩ = some (.int .i64 a0_0) ∧ w'.cell? ⟨gb296, 1, none⟩ = some (.int .i64 a0_1) ∧ w'.cell? ⟨gb296, 2, none⟩ = some (.string a0_2) ∧ w'.cell? ⟨gb296, 3, none⟩ = some (.slice A0_3 l0_3.length c0_3) ∧ w'.cell? ⟨gb296, 4, none⟩ = some (.slice (some ad300) l0_4.length c0_4) ∧ w'.cell? ⟨gb297, 0, none⟩ = some (.int .i64 a1_0) ∧ w'.cell? ⟨gb297, 1, none⟩ = some (.int .i64 a1_1) ∧ w'.cell? ⟨gb297, 2, none⟩ = some (.string a1_2) ∧ w'.cell? ⟨gb297, 3, none⟩ = some (.slice A1_3 l1_3.length c1_3) ∧ w'.cell? ⟨gb297, 4, none⟩ = some (.slice (some ad301) l1_4.length c1_4) ∧ w'.cell? (ad300.add ((x6_3).toNat * 5)) = some (.int .i64 ((rd_T25 l0_4 x6_3).f0)) ∧ w'.cell? ⟨(ad300.add ((x6_3).toNat * 5)).block, (ad300.add ((x6_3).toNat * 5)).off + 1, none⟩ = some (.int .i64 ((rd_T25 l0_4 x6_3).f1)) ∧ w'.cell? ⟨(ad300.add ((x6_3).toNat * 5)).block, (ad300.add ((x6_3).toNat * 5)).off + 2, none⟩ = some (.string ((rd_T25 l0_4 x6_3).f2)) ∧ w'.cell? ⟨(ad300.add ((x6_3).toNat * 5)).block, (ad300.add ((x6_3).toNat * 5)).off + 3, none⟩ = some (.slice A300_3 ((rd_T25 l0_4 x6_3).f3).length c300_3) ∧ w'.cell? ⟨(ad300.add ((x6_3).toNat * 5)).block, (ad300.add ((x6_3).toNat * 5)).off + 4, none⟩ = some (.slice A300_4 ((rd_T25 l0_4 x6_3).f4).length c300_4) ∧ w'.cell? (ad301.add ((x6_3).toNat * 5)) = some (.int .i64 ((rd_T25 l1_4 x6_3).f0)) ∧ w'.cell? ⟨(ad301.add ((x6_3).toNat * 5)).block, (ad301.add ((x6_3).toNat * 5)).off + 1, none⟩ = some (.int .i64 ((rd_T25 l1_4 x6_3).f1)) ∧ w'.cell? ⟨(ad301.add ((x6_3).toNat * 5)).block, (ad301.add ((x6_3).toNat * 5)).off + 2, none⟩ = some (.string ((rd_T25 l1_4 x6_3).f2)) ∧ w'.cell? ⟨(ad301.add ((x6_3).toNat * 5)).block, (ad301.add ((x6_3).toNat * 5)).off + 3, none⟩ = some (.slice A301_3 ((rd_T25 l1_4 x6_3).f3).length c301_3) ∧ w'.cell? ⟨(ad301.add ((x6_3).toNat * 5)).block, (ad301.add ((x6_3).toNat * 5)).off + 4, none⟩ = some (.slice A301_4 ((rd_T25 l1_4 x6_3).f4).length c301_4)) (ds := []) #[false, false, false, false, false, false, false, false, false, false, false, false] (by kernel_rfl) rfl rfl ⟨(blk_cell BK296.out 0).trans rfl, (blk_cell BK296.out 1).trans rfl, (blk_cell BK296.out 2).trans rfl, (blk_cell BK296.out 3).trans rfl, (blk_cell BK296.out 4).trans rfl, (blk_cell BK297.out 0).trans rfl, (blk_cell BK297.out 1).trans rfl, (blk_cell BK297.out 2).trans rfl, (blk_cell BK297.out 3).trans rfl, (blk_cell BK297.out 4).trans rfl, ((HB.out.cell (World.block_lt_of_cell? w _ hw300_0)).trans hw300_0), ((HB.out.cell (World.block_lt_of_cell? w _ hw300_1)).trans hw300_1), ((HB.out.cell (World.block_lt_of_cell? w _ hw300_2)).trans hw300_2), ((HB.out.cell (World.block_lt_of_cell? w _ hw300_3)).trans hw300_3), ((HB.out.cell (World.block_lt_of_cell? w _ hw300_4)).trans hw300_4), ((HB.out.cell (World.block_lt_of_cell? w _ hw301_0)).trans hw301_0), ((HB.out.cell (World.block_lt_of_cell? w _ hw301_1)).trans hw301_1), ((HB.out.cell (World.block_lt_of_cell? w _ hw301_2)).trans hw301_2), ((HB.out.cell (World.block_lt_of_cell? w _ hw301_3)).trans hw301_3), ((HB.out.cell (World.block_lt_of_cell? w _ hw301_4)).trans hw301_4)⟩ (fun hHeld => ?_); refine with_tabW spec_Same.tab11 spec_Same.bits11 (fun HT_ HW_ => ?_)
             generalize wr.drew = w45 at BK296 BK297 HB HR300_3 HR300_4 HR301_3 HR301_4 hx300_0 hx300_1 hx300_2 hx300_3 hx300_4 hx301_0 hx301_1 hx301_2 hx301_3 hx301_4 hHeld ⊢
             refine pure_ (i := 0) (N := some 69) (v := ?_) (a' := ?_) #[true, false, false, false, false, false, false, false, false, false, false, false] rfl rfl (any_of HT_.out (by kernel_rfl)) (fun _ _ _ h => h) (Or.inl ⟨by rfl, ?_⟩) ?_ ?_
             rotate_left
             ·intro w'; go_simp; with_reducible rfl
             rotate_left
             ·simp only [Act.put, sA, sB, sC, i64_w, i32_w]; rfl
             refine pure_ (i := 2) (N := some 71) (v := ?_) (a' := ?_) #[true, false, true, false, false, false, false, false, false, false, false, false] rfl rfl (any_of HT_.out (by kernel_rfl)) (fun _ _ _ h => h) (Or.inl ⟨by rfl, ?_⟩) ?_ ?_
             rotate_left
             ·intro w'; go_simp; with_reducible rfl
             rotate_left
             ·simp only [Act.put, sA, sB, sC, i64_w, i32_w]; rfl
             refine pure_ (i := 5) (N := some 74) (v := ?_) (a' := ?_) #[true, false, true, false, false, true, false, false, false, false, false, false] rfl rfl (any_of HT_.out (by kernel_rfl)) (fun _ _ _ h => h) (Or.inl ⟨by rfl, ?_⟩) ?_ ?_
             rotate_left
             ·intro w'; go_simp; with_reducible rfl
             rotate_left
             ·simp only [Act.put, sA, sB, sC, i64_w, i32_w]; rfl
             refine pure_ (i := 7) (N := some 76) (v := ?_) (a' := ?_) #[true, false, true, false, false, true, false, true, false, false, false, false] rfl rfl (any_of HT_.out (by kernel_rfl)) (fun _ _ _ h => h) (Or.inl ⟨by rfl, ?_⟩) ?_ ?_
             rotate_left
             ·intro w'; go_simp; with_reducible rfl
             rotate_left
             ·simp only [Act.put, sA, sB, sC, i64_w, i32_w]; rfl
             refine take_ (i := 1) (N := some 70) (v := ?_) (a' := ?_) #[true, true, true, false, false, true, false, true, false, false, false, false] rfl rfl (take_ofW HT_.out HW_.out (by kernel_rfl)) (fun _ _ _ h => h) (Or.inl ⟨by rfl, ?_⟩) hHeld ?_ ?_
             rotate_left
             ·rintro w' ⟨s0, s1, s2, s3, s4, s5, s6, s7, s8, s9, s10, s11, s12, s13, s14, s15, s16, s17, s18, s19⟩
              go_simp; with_reducible rfl
             rotate_left
             ·simp only [Act.put, sA, sB, sC, i64_w, i32_w]; rfl
             refine pure_ (i := 3) (N := some 72) (v := ?_) (a' := ?_) #[true, true, true, true, false, true, false, true, false, false, false, false] rfl rfl (any_of HT_.out (by kernel_rfl)) (fun _ _ _ h => h) (Or.inl ⟨by rfl, ?_⟩) ?_ ?_
             rotate_left
             ·intro w'; go_simp; with_reducible rfl
             rotate_left
             ·simp only [Act.put, sA, sB, sC, i64_w, i32_w]; rfl
             refine take_ (i := 4) (N := some 73) (v := ?_) (a' := ?_) #[true, true, true, true, true, true, false, true, false, false, false, false] rfl rfl (take_ofW HT_.out HW_.out (by kernel_rfl)) (fun _ _ _ h => h) (Or.inl ⟨by rfl, ?_⟩) hHeld ?_ ?_
             rotate_left
             ·rintro w' ⟨s0, s1, s2, s3, s4, s5, s6, s7, s8, s9, s10, s11, s12, s13, s14, s15, s16, s17, s18, s19⟩
              go_simp; with_reducible rfl
             rotate_left
             ·simp only [Act.put, sA, sB, sC, i64_w, i32_w]; rfl
             refine take_ (i := 6) (N := some 75) (v := ?_) (a' := ?_) #[true, true, true, true, true, true, true, true, false, false, false, false] rfl rfl (take_ofW HT_.out HW_.out (by kernel_rfl)) (fun _ _ _ h => h) (Or.inl ⟨by rfl, ?_⟩) hHeld ?_ ?_
             rotate_left
             ·rintro w' ⟨s0, s1, s2, s3, s4, s5, s6, s7, s8, s9, s10, s11, s12, s13, s14, s15, s16, s17, s18, s19⟩
              go_simp; with_reducible rfl
             rotate_left
             ·simp only [Act.put, sA, sB, sC, i64_w, i32_w]; rfl
             refine pure_ (i := 8) (N := some 77) (v := ?_) (a' := ?_) #[true, true, true, true, true, true, true, true, true, false, false, false] rfl rfl (any_of HT_.out (by kernel_rfl)) (fun _ _ _ h => h) (Or.inl ⟨by rfl, ?_⟩) ?_ ?_
             rotate_left
             ·intro w'; go_simp; with_reducible rfl
             rotate_left
             ·simp only [Act.put, sA, sB, sC, i64_w, i32_w]; rfl
             refine take_ (i := 9) (N := some 78) (v := ?_) (a' := ?_) #[true, true, true, true, true, true, true, true, true, true, false, false] rfl rfl (take_ofW HT_.out HW_.out (by kernel_rfl)) (fun _ _ _ h => h) (Or.inl ⟨by rfl, ?_⟩) hHeld ?_ ?_
             rotate_left
             ·rintro w' ⟨s0, s1, s2, s3, s4, s5, s6, s7, s8, s9, s10, s11, s12, s13, s14, s15, s16, s17, s18, s19⟩
              go_simp; with_reducible rfl
             rotate_left
             ·simp only [Act.put, sA, sB, sC, i64_w, i32_w]; rfl
             refine one_ (i := 10) (N := some 79) #[true, true, true, true, true, true, true, true, true, true, true, false] rfl rfl (one_of HT_.out (by kernel_rfl)) (by decide) (fun K hK => ?_)
             refine goes_ Try.func18 (by kernel_rfl) rfl #[.agg #[.int .i64 ((rd_T25 l0_4 x6_3).f0), .int .i64 ((rd_T25 l0_4 x6_3).f1), .string ((rd_T25 l0_4 x6_3).f2), .slice A300_3 ((rd_T25 l0_4 x6_3).f3).length c300_3, .slice A300_4 ((rd_T25 l0_4 x6_3).f4).length c300_4], .agg #[.int .i64 ((rd_T25 l1_4 x6_3).f0), .int .i64 ((rd_T25 l1_4 x6_3).f1), .string ((rd_T25 l1_4 x6_3).f2), .slice A301_3 ((rd_T25 l1_4 x6_3).f3).length c301_3, .slice A301_4 ((rd_T25 l1_4 x6_3).f4).length c301_4]] (by rfl) rfl rfl (by (try simp only [List.map_toArray, List.map_cons, List.map_nil]); first | done | rfl | (simp only [List.length_drop, List.length_take]; rfl)) ?_
             with_reducible refine (ih k3 (by have := HJ2.out; have := HK2.out; have := HK3.out; omega) ((rd_T25 l0_4 x6_3).f0) ((rd_T25 l0_4 x6_3).f1) ((rd_T25 l0_4 x6_3).f2) _ _ ((rd_T25 l0_4 x6_3).f3) _ _ ((rd_T25 l0_4 x6_3).f4) ((rd_T25 l1_4 x6_3).f0) ((rd_T25 l1_4 x6_3).f1) ((rd_T25 l1_4 x6_3).f2) _ _ ((rd_T25 l1_4 x6_3).f3) _ _ ((rd_T25 l1_4 x6_3).f4) true _ ?side1 ?side2 ?side3 ?side4 ?side5 ?side6 ?side7 ?side8 A41.out).mono ?_
             (case side1 => repeat (first | exact (Kd.C_below HR300_3.out HB.out) | (with_reducible refine Kd.C_alloc ?_ _) | (with_reducible refine Kd.C_drewN ?_ _) | (with_reducible refine Kd.C_drew ?_)))
             (case side2 => exact HC300_3.out)
             (case side3 => repeat (first | exact (Kd.C_below HR300_4.out HB.out) | (with_reducible refine Kd.C_alloc ?_ _) | (with_reducible refine Kd.C_drewN ?_ _) | (with_reducible refine Kd.C_drew ?_)))
             (case side4 => exact HC300_4.out)
             (case side5 => repeat (first | exact (Kd.C_below HR301_3.out HB.out) | (with_reducible refine Kd.C_alloc ?_ _) | (with_reducible refine Kd.C_drewN ?_ _) | (with_reducible refine Kd.C_drew ?_)))
             (case side6 => exact HC301_3.out)
             (case side7 => repeat (first | exact (Kd.C_below HR301_4.out HB.out) | (with_reducible refine Kd.C_alloc ?_ _) | (with_reducible refine Kd.C_drewN ?_ _) | (with_reducible refine Kd.C_drew ?_)))
             (case side8 => exact HC301_4.out)
             rintro e w46 ⟨rfl, hb⟩
             refine ⟨_, rfl, ?_⟩
             have n0_ := aM (blk_below (g := gb296) (o := .cells #[.int .i64 a0_0, .int .i64 a0_1, .string a0_2, .slice A0_3 l0_3.length c0_3, .slice (some ad300) l0_4.length c0_4] 25 (0, 0)) (by (with_reducible repeat (first | refine blk_drewN ?_ _ | refine blk_drew ?_ | refine blk_alloc ?_ _)); exact BK296.out) hb)
             have n1_ := aM (blk_below (g := gb297) (o := .cells #[.int .i64 a1_0, .int .i64 a1_1, .string a1_2, .slice A1_3 l1_3.length c1_3, .slice (some ad301) l1_4.length c1_4] 25 (0, 0)) (by (with_reducible repeat (first | refine blk_drewN ?_ _ | refine blk_drew ?_ | refine blk_alloc ?_ _)); exact BK297.out) hb)
             have n2_ := aM (below_step (by repeat (first | (with_reducible first | exact HB.out | apply below_alloc | apply pw_below_drewN | apply below_drew1 | refine below_set ?_ GE296.out | refine below_set ?_ GE297.out) | exact HB.out)) hb)
             clear BK296 BK297 HB; have BK296 := n0_; have BK297 := n1_; have HB := n2_; clear n0_ n1_ n2_
             (try clear hb)
             (try clear hb2)
             (try clear hk)
             (try clear hi)
             refine hK.out _ _ ⟨(blk_cell BK296.out 0).trans rfl, (blk_cell BK296.out 1).trans rfl, (blk_cell BK296.out 2).trans rfl, (blk_cell BK296.out 3).trans rfl, (blk_cell BK296.out 4).trans rfl, (blk_cell BK297.out 0).trans rfl, (blk_cell BK297.out 1).trans rfl, (blk_cell BK297.out 2).trans rfl, (blk_cell BK297.out 3).trans rfl, (blk_cell BK297.out 4).trans rfl, ((HB.out.cell (World.block_lt_of_cell? w _ hw300_0)).trans hw300_0), ((HB.out.cell (World.block_lt_of_cell? w _ hw300_1)).trans hw300_1), ((HB.out.cell (World.block_lt_of_cell? w _ hw300_2)).trans hw300_2), ((HB.out.cell (World.block_lt_of_cell? w _ hw300_3)).trans hw300_3), ((HB.out.cell (World.block_lt_of_cell? w _ hw300_4)).trans hw300_4), ((HB.out.cell (World.block_lt_of_cell? w _ hw301_0)).trans hw301_0), ((HB.out.cell (World.block_lt_of_cell? w _ hw301_1)).trans hw301_1), ((HB.out.cell (World.block_lt_of_cell? w _ hw301_2)).trans hw301_2), ((HB.out.cell (World.block_lt_of_cell? w _ hw301_3)).trans hw301_3), ((HB.out.cell (World.block_lt_of_cell? w _ hw301_4)).trans hw301_4)⟩ (fun hHeld => ?_)
             clear hK K
             refine norm_ (a' := ?_) ?_ ?_
             rotate_left
             ·show Act.put _ (some 79) _ = _
              simp only [Act.put, sA, sB, sC, i64_w, i32_w]; rfl
             refine pure_ (i := 11) (N := some 80) (v := ?_) (a' := ?_) #[true, true, true, true, true, true, true, true, true, true, true, true] rfl rfl (any_of HT_.out (by kernel_rfl)) (fun _ _ _ h => h) (Or.inl ⟨by rfl, ?_⟩) ?_ ?_
             rotate_left
             ·intro w'; go_simp; with_reducible rfl
             rotate_left
             ·simp only [Act.put, sA, sB, sC, i64_w, i32_w]; rfl
             refine done_ (done_of HT_.out (by kernel_rfl)) ?_
             try go_wp2
             go_roundg k3
             case measure => have := HJ2.out; have := HK2.out; have := HK3.out; omega
             case rel => exact ⟨(wrap64 (x6_3 + 1)), (by first | rfl | (simp; done) | (simp [*]; done)), H', ⟨by have := HJ2.out; have := HK2.out; have := HK3.out; omega⟩, ⟨by (with_reducible repeat (first | refine blk_drewN ?_ _ | refine blk_drew ?_ | refine blk_alloc ?_ _)); exact BK296.out⟩, ⟨by (with_reducible repeat (first | refine blk_drewN ?_ _ | refine blk_drew ?_ | refine blk_alloc ?_ _)); exact BK297.out⟩, ⟨by repeat (first | (with_reducible first | exact HB.out | apply below_alloc | apply pw_below_drewN | apply below_drew1 | refine below_set ?_ GE296.out | refine below_set ?_ GE297.out) | exact HB.out)⟩⟩
            ·replace c42 := Bool.eq_false_iff.mpr c42
             subst c42
             have H1 : (some false) = some r := by rw [if_neg (show ¬ (false = true) by decide)] at H; exact H
             clear H
             have H := H1
             clear H1
             obtain rfl := Option.some.inj H
             have hnb47 := NB296_297.out
             have hnc47 := NB297_296.out
             have hcz48_0 : wr.cell? ⟨gb296, 0, none⟩ = some (.int .i64 a0_0) := (blk_cell BK296.out 0).trans rfl
             have hcz48_1 : wr.cell? ⟨gb296, 1, none⟩ = some (.int .i64 a0_1) := (blk_cell BK296.out 1).trans rfl
             have hcz48_2 : wr.cell? ⟨gb296, 2, none⟩ = some (.string a0_2) := (blk_cell BK296.out 2).trans rfl
             have hcz48_3 : wr.cell? ⟨gb296, 3, none⟩ = some (.slice A0_3 l0_3.length c0_3) := (blk_cell BK296.out 3).trans rfl
             have hcz48_4 : wr.cell? ⟨gb296, 4, none⟩ = some (.slice A0_4 l0_4.length c0_4) := (blk_cell BK296.out 4).trans rfl
             have hfz48_0 := blk_frozen BK296.out 0
             have hfz48_1 := blk_frozen BK296.out 1
             have hfz48_2 := blk_frozen BK296.out 2
             have hfz48_3 := blk_frozen BK296.out 3
             have hfz48_4 := blk_frozen BK296.out 4
             try go_wp2
             have n0_ := aM (blk_drew BK296.out)
             have n1_ := aM (blk_drew BK297.out)
             have n2_ := aM (below_drew1 HB.out)
             clear BK296 BK297 HB; have BK296 := n0_; have BK297 := n1_; have HB := n2_; clear n0_ n1_ n2_
             have p300 : 0 ≤ (x6_3 : Int) := of_decide_eq_true (by first | (with_reducible assumption) | assumption)
             have q300 : x6_3 < (l0_4.length : Int) := of_decide_eq_true (by first | (with_reducible assumption) | assumption)
             obtain ⟨ad300, A300_3, c300_3, A300_4, c300_4, e300, hx300_0, hx300_1, hx300_2, hx300_3, hx300_4, hl300_3, hi300_3, hl300_4, hi300_4⟩ := at_T25 HR0_4.out x6_3 p300 q300
             have hw300_4 := hx300_4
             have hw300_3 := hx300_3
             have hw300_2 := hx300_2
             have hw300_1 := hx300_1
             have hw300_0 := hx300_0
             cases e300
             replace hx300_0 := (HB.out.cell (World.block_lt_of_cell? w _ hx300_0)).trans hx300_0
             replace hx300_1 := (HB.out.cell (World.block_lt_of_cell? w _ hx300_1)).trans hx300_1
             replace hx300_2 := (HB.out.cell (World.block_lt_of_cell? w _ hx300_2)).trans hx300_2
             replace hx300_3 := (HB.out.cell (World.block_lt_of_cell? w _ hx300_3)).trans hx300_3
             replace hx300_4 := (HB.out.cell (World.block_lt_of_cell? w _ hx300_4)).trans hx300_4
             have HR300_3 := aM hi300_3
             have HC300_3 := aM hl300_3
             clear hi300_3 hl300_3
             have HR300_4 := aM hi300_4
             have HC300_4 := aM hl300_4
             clear hi300_4 hl300_4
             replace p300 := eq_true p300
             replace q300 := eq_true q300
             have p301 : 0 ≤ (x6_3 : Int) := of_decide_eq_true (by first | (with_reducible assumption) | assumption)
             have q301 : x6_3 < (l1_4.length : Int) := of_decide_eq_true (by first | (with_reducible assumption) | assumption)
             obtain ⟨ad301, A301_3, c301_3, A301_4, c301_4, e301, hx301_0, hx301_1, hx301_2, hx301_3, hx301_4, hl301_3, hi301_3, hl301_4, hi301_4⟩ := at_T25 HR1_4.out x6_3 p301 q301
             have hw301_4 := hx301_4
             have hw301_3 := hx301_3
             have hw301_2 := hx301_2
             have hw301_1 := hx301_1
             have hw301_0 := hx301_0
             cases e301
             replace hx301_0 := (HB.out.cell (World.block_lt_of_cell? w _ hx301_0)).trans hx301_0
             replace hx301_1 := (HB.out.cell (World.block_lt_of_cell? w _ hx301_1)).trans hx301_1
             replace hx301_2 := (HB.out.cell (World.block_lt_of_cell? w _ hx301_2)).trans hx301_2
             replace hx301_3 := (HB.out.cell (World.block_lt_of_cell? w _ hx301_3)).trans hx301_3
             replace hx301_4 := (HB.out.cell (World.block_lt_of_cell? w _ hx301_4)).trans hx301_4
             have HR301_3 := aM hi301_3
             have HC301_3 := aM hl301_3
             clear hi301_3 hl301_3
             have HR301_4 := aM hi301_4
             have HC301_4 := aM hl301_4
             clear hi301_4 hl301_4
             replace p301 := eq_true p301
             replace q301 := eq_true q301
             refine start_ (n := 12) (S := fun w' => w'.cell? ⟨gb296, 0, none⟩ = some (.int .i64 a0_0) ∧ w'.cell? ⟨gb296, 1, none⟩ = some (.int .i64 a0_1) ∧ w'.cell? ⟨gb296, 2, none⟩ = some (.string a0_2) ∧ w'.cell? ⟨gb296, 3, none⟩ = some (.slice A0_3 l0_3.length c0_3) ∧ w'.cell? ⟨gb296, 4, none⟩ = some (.slice (some ad300) l0_4.length c0_4) ∧ w'.cell? ⟨gb297, 0, none⟩ = some (.int .i64 a1_0) ∧ w'.cell? ⟨gb297, 1, none⟩ = some (.int .i64 a1_1) ∧ w'.cell? ⟨gb297, 2, none⟩ = some (.string a1_2) ∧ w'.cell? ⟨gb297, 3, none⟩ = some (.slice A1_3 l1_3.length c1_3) ∧ w'.cell? ⟨gb297, 4, none⟩ = some (.slice (some ad301) l1_4.length c1_4) ∧ w'.cell? (ad300.add ((x6_3).toNat * 5)) = some (.int .i64 ((rd_T25 l0_4 x6_3).f0)) ∧ w'.cell? ⟨(ad300.add ((x6_3).toNat * 5)).block, (ad300.add ((x6_3).toNat * 5)).off + 1, none⟩ = some (.int .i64 ((rd_T25 l0_4 x6_3).f1)) ∧ w'.cell? ⟨(ad300.add ((x6_3).toNat * 5)).block, (ad300.add ((x6_3).toNat * 5)).off + 2, none⟩ = some (.string ((rd_T25 l0_4 x6_3).f2)) ∧ w'.cell? ⟨(ad300.add ((x6_3).toNat * 5)).block, (ad300.add ((x6_3).toNat * 5)).off + 3, none⟩ = some (.slice A300_3 ((rd_T25 l0_4 x6_3).f3).length c300_3) ∧ w'.cell? ⟨(ad300.add ((x6_3).toNat * 5)).block, (ad300.add ((x6_3).toNat * 5)).off + 4, none⟩ = some (.slice A300_4 ((rd_T25 l0_4 x6_3).f4).length c300_4) ∧ w'.cell? (ad301.add ((x6_3).toNat * 5)) = some (.int .i64 ((rd_T25 l1_4 x6_3).f0)) ∧ w'.cell? ⟨(ad301.add ((x6_3).toNat * 5)).block, (ad301.add ((x6_3).toNat * 5)).off + 1, none⟩ = some (.int .i64 ((rd_T25 l1_4 x6_3).f1)) ∧ w'.cell? ⟨(ad301.add ((x6_3).toNat * 5)).block, (ad301.add ((x6_3).toNat * 5)).off + 2, none⟩ = some (.string ((rd_T25 l1_4 x6_3).f2)) ∧ w'.cell? ⟨(ad301.add ((x6_3).toNat * 5)).block, (ad301.add ((x6_3).toNat * 5)).off + 3, none⟩ = some (.slice A301_3 ((rd_T25 l1_4 x6_3).f3).length c301_3) ∧ w'.cell? ⟨(ad301.add ((x6_3).toNat * 5)).block, (ad301.add ((x6_3).toNat * 5)).off + 4, none⟩ = some (.slice A301_4 ((rd_T25 l1_4 x6_3).f4).length c301_4)) (ds := []) #[false, false, false, false, false, false, false, false, false, false, false, false] (by kernel_rfl) rfl rfl ⟨(blk_cell BK296.out 0).trans rfl, (blk_cell BK296.out 1).trans rfl, (blk_cell BK296.out 2).trans rfl, (blk_cell BK296.out 3).trans rfl, (blk_cell BK296.out 4).trans rfl, (blk_cell BK297.out 0).trans rfl, (blk_cell BK297.out 1).trans rfl, (blk_cell BK297.out 2).trans rfl, (blk_cell BK297.out 3).trans rfl, (blk_cell BK297.out 4).trans rfl, ((HB.out.cell (World.block_lt_of_cell? w _ hw300_0)).trans hw300_0), ((HB.out.cell (World.block_lt_of_cell? w _ hw300_1)).trans hw300_1), ((HB.out.cell (World.block_lt_of_cell? w _ hw300_2)).trans hw300_2), ((HB.out.cell (World.block_lt_of_cell? w _ hw300_3)).trans hw300_3), ((HB.out.cell (World.block_lt_of_cell? w _ hw300_4)).trans hw300_4), ((HB.out.cell (World.block_lt_of_cell? w _ hw301_0)).trans hw301_0), ((HB.out.cell (World.block_lt_of_cell? w _ hw301_1)).trans hw301_1), ((HB.out.cell (World.block_lt_of_cell? w _ hw301_2)).trans hw301_2), ((HB.out.cell (World.block_lt_of_cell? w _ hw301_3)).trans hw301_3), ((HB.out.cell (World.block_lt_of_cell? w _ hw301_4)).trans hw301_4)⟩ (fun hHeld => ?_); refine with_tabW spec_Same.tab11 spec_Same.bits11 (fun HT_ HW_ => ?_)
             generalize wr.drew = w49 at BK296 BK297 HB HR300_3 HR300_4 HR301_3 HR301_4 hx300_0 hx300_1 hx300_2 hx300_3 hx300_4 hx301_0 hx301_1 hx301_2 hx301_3 hx301_4 hHeld ⊢
             refine pure_ (i := 0) (N := some 69) (v := ?_) (a' := ?_) #[true, false, false, false, false, false, false, false, false, false, false, false] rfl rfl (any_of HT_.out (by kernel_rfl)) (fun _ _ _ h => h) (Or.inl ⟨by rfl, ?_⟩) ?_ ?_
             rotate_left
             ·intro w'; go_simp; with_reducible rfl
             rotate_left
             ·simp only [Act.put, sA, sB, sC, i64_w, i32_w]; rfl
             refine pure_ (i := 2) (N := some 71) (v := ?_) (a' := ?_) #[true, false, true, false, false, false, false, false, false, false, false, false] rfl rfl (any_of HT_.out (by kernel_rfl)) (fun _ _ _ h => h) (Or.inl ⟨by rfl, ?_⟩) ?_ ?_
             rotate_left
             ·intro w'; go_simp; with_reducible rfl
             rotate_left
             ·simp only [Act.put, sA, sB, sC, i64_w, i32_w]; rfl
             refine pure_ (i := 5) (N := some 74) (v := ?_) (a' := ?_) #[true, false, true, false, false, true, false, false, false, false, false, false] rfl rfl (any_of HT_.out (by kernel_rfl)) (fun _ _ _ h => h) (Or.inl ⟨by rfl, ?_⟩) ?_ ?_
             rotate_left
             ·intro w'; go_simp; with_reducible rfl
             rotate_left
             ·simp only [Act.put, sA, sB, sC, i64_w, i32_w]; rfl
             refine pure_ (i := 7) (N := some 76) (v := ?_) (a' := ?_) #[true, false, true, false, false, true, false, true, false, false, false, false] rfl rfl (any_of HT_.out (by kernel_rfl)) (fun _ _ _ h => h) (Or.inl ⟨by rfl, ?_⟩) ?_ ?_
             rotate_left
             ·intro w'; go_simp; with_reducible rfl
             rotate_left
             ·simp only [Act.put, sA, sB, sC, i64_w, i32_w]; rfl
             refine take_ (i := 1) (N := some 70) (v := ?_) (a' := ?_) #[true, true, true, false, false, true, false, true, false, false, false, false] rfl rfl (take_ofW HT_.out HW_.out (by kernel_rfl)) (fun _ _ _ h => h) (Or.inl ⟨by rfl, ?_⟩) hHeld ?_ ?_
             rotate_left
             ·rintro w' ⟨s0, s1, s2, s3, s4, s5, s6, s7, s8, s9, s10, s11, s12, s13, s14, s15, s16, s17, s18, s19⟩
              go_simp; with_reducible rfl
             rotate_left
             ·simp only [Act.put, sA, sB, sC, i64_w, i32_w]; rfl
             refine pure_ (i := 3) (N := some 72) (v := ?_) (a' := ?_) #[true, true, true, true, false, true, false, true, false, false, false, false] rfl rfl (any_of HT_.out (by kernel_rfl)) (fun _ _ _ h => h) (Or.inl ⟨by rfl, ?_⟩) ?_ ?_
             rotate_left
             ·intro w'; go_simp; with_reducible rfl
             rotate_left
             ·simp only [Act.put, sA, sB, sC, i64_w, i32_w]; rfl
             refine take_ (i := 4) (N := some 73) (v := ?_) (a' := ?_) #[true, true, true, true, true, true, false, true, false, false, false, false] rfl rfl (take_ofW HT_.out HW_.out (by kernel_rfl)) (fun _ _ _ h => h) (Or.inl ⟨by rfl, ?_⟩) hHeld ?_ ?_
             rotate_left
             ·rintro w' ⟨s0, s1, s2, s3, s4, s5, s6, s7, s8, s9, s10, s11, s12, s13, s14, s15, s16, s17, s18, s19⟩
              go_simp; with_reducible rfl
             rotate_left
             ·simp only [Act.put, sA, sB, sC, i64_w, i32_w]; rfl
             refine take_ (i := 6) (N := some 75) (v := ?_) (a' := ?_) #[true, true, true, true, true, true, true, true, false, false, false, false] rfl rfl (take_ofW HT_.out HW_.out (by kernel_rfl)) (fun _ _ _ h => h) (Or.inl ⟨by rfl, ?_⟩) hHeld ?_ ?_
             rotate_left
             ·rintro w' ⟨s0, s1, s2, s3, s4, s5, s6, s7, s8, s9, s10, s11, s12, s13, s14, s15, s16, s17, s18, s19⟩
              go_simp; with_reducible rfl
             rotate_left
             ·simp only [Act.put, sA, sB, sC, i64_w, i32_w]; rfl
             refine pure_ (i := 8) (N := some 77) (v := ?_) (a' := ?_) #[true, true, true, true, true, true, true, true, true, false, false, false] rfl rfl (any_of HT_.out (by kernel_rfl)) (fun _ _ _ h => h) (Or.inl ⟨by rfl, ?_⟩) ?_ ?_
             rotate_left
             ·intro w'; go_simp; with_reducible rfl
             rotate_left
             ·simp only [Act.put, sA, sB, sC, i64_w, i32_w]; rfl
             refine take_ (i := 9) (N := some 78) (v := ?_) (a' := ?_) #[true, true, true, true, true, true, true, true, true, true, false, false] rfl rfl (take_ofW HT_.out HW_.out (by kernel_rfl)) (fun _ _ _ h => h) (Or.inl ⟨by rfl, ?_⟩) hHeld ?_ ?_
             rotate_left
             ·rintro w' ⟨s0, s1, s2, s3, s4, s5, s6, s7, s8, s9, s10, s11, s12, s13, s14, s15, s16, s17, s18, s19⟩
              go_simp; with_reducible rfl
             rotate_left
             ·simp only [Act.put, sA, sB, sC, i64_w, i32_w]; rfl
             refine one_ (i := 10) (N := some 79) #[true, true, true, true, true, true, true, true, true, true, true, false] rfl rfl (one_of HT_.out (by kernel_rfl)) (by decide) (fun K hK => ?_)
             refine goes_ Try.func18 (by kernel_rfl) rfl #[.agg #[.int .i64 ((rd_T25 l0_4 x6_3).f0), .int .i64 ((rd_T25 l0_4 x6_3).f1), .string ((rd_T25 l0_4 x6_3).f2), .slice A300_3 ((rd_T25 l0_4 x6_3).f3).length c300_3, .slice A300_4 ((rd_T25 l0_4 x6_3).f4).length c300_4], .agg #[.int .i64 ((rd_T25 l1_4 x6_3).f0), .int .i64 ((rd_T25 l1_4 x6_3).f1), .string ((rd_T25 l1_4 x6_3).f2), .slice A301_3 ((rd_T25 l1_4 x6_3).f3).length c301_3, .slice A301_4 ((rd_T25 l1_4 x6_3).f4).length c301_4]] (by rfl) rfl rfl (by (try simp only [List.map_toArray, List.map_cons, List.map_nil]); first | done | rfl | (simp only [List.length_drop, List.length_take]; rfl)) ?_
             with_reducible refine (ih k3 (by have := HJ2.out; have := HK2.out; have := HK3.out; omega) ((rd_T25 l0_4 x6_3).f0) ((rd_T25 l0_4 x6_3).f1) ((rd_T25 l0_4 x6_3).f2) _ _ ((rd_T25 l0_4 x6_3).f3) _ _ ((rd_T25 l0_4 x6_3).f4) ((rd_T25 l1_4 x6_3).f0) ((rd_T25 l1_4 x6_3).f1) ((rd_T25 l1_4 x6_3).f2) _ _ ((rd_T25 l1_4 x6_3).f3) _ _ ((rd_T25 l1_4 x6_3).f4) false _ ?side1 ?side2 ?side3 ?side4 ?side5 ?side6 ?side7 ?side8 A41.out).mono ?_
             (case side1 => repeat (first | exact (Kd.C_below HR300_3.out HB.out) | (with_reducible refine Kd.C_alloc ?_ _) | (with_reducible refine Kd.C_drewN ?_ _) | (with_reducible refine Kd.C_drew ?_)))
             (case side2 => exact HC300_3.out)
             (case side3 => repeat (first | exact (Kd.C_below HR300_4.out HB.out) | (with_reducible refine Kd.C_alloc ?_ _) | (with_reducible refine Kd.C_drewN ?_ _) | (with_reducible refine Kd.C_drew ?_)))
             (case side4 => exact HC300_4.out)
             (case side5 => repeat (first | exact (Kd.C_below HR301_3.out HB.out) | (with_reducible refine Kd.C_alloc ?_ _) | (with_reducible refine Kd.C_drewN ?_ _) | (with_reducible refine Kd.C_drew ?_)))
             (case side6 => exact HC301_3.out)
             (case side7 => repeat (first | exact (Kd.C_below HR301_4.out HB.out) | (with_reducible refine Kd.C_alloc ?_ _) | (with_reducible refine Kd.C_drewN ?_ _) | (with_reducible refine Kd.C_drew ?_)))
             (case side8 => exact HC301_4.out)
             rintro e w50 ⟨rfl, hb⟩
             refine ⟨_, rfl, ?_⟩
             have n0_ := aM (blk_below (g := gb296) (o := .cells #[.int .i64 a0_0, .int .i64 a0_1, .string a0_2, .slice A0_3 l0_3.length c0_3, .slice (some ad300) l0_4.length c0_4] 25 (0, 0)) (by (with_reducible repeat (first | refine blk_drewN ?_ _ | refine blk_drew ?_ | refine blk_alloc ?_ _)); exact BK296.out) hb)
             have n1_ := aM (blk_below (g := gb297) (o := .cells #[.int .i64 a1_0, .int .i64 a1_1, .string a1_2, .slice A1_3 l1_3.length c1_3, .slice (some ad301) l1_4.length c1_4] 25 (0, 0)) (by (with_reducible repeat (first | refine blk_drewN ?_ _ | refine blk_drew ?_ | refine blk_alloc ?_ _)); exact BK297.out) hb)
             have n2_ := aM (below_step (by repeat (first | (with_reducible first | exact HB.out | apply below_alloc | apply pw_below_drewN | apply below_drew1 | refine below_set ?_ GE296.out | refine below_set ?_ GE297.out) | exact HB.out)) hb)
             clear BK296 BK297 HB; have BK296 := n0_; have BK297 := n1_; have HB := n2_; clear n0_ n1_ n2_
             (try clear hb)
             (try clear hb2)
             (try clear hk)
             (try clear hi)
             refine hK.out _ _ ⟨(blk_cell BK296.out 0).trans rfl, (blk_cell BK296.out 1).trans rfl, (blk_cell BK296.out 2).trans rfl, (blk_cell BK296.out 3).trans rfl, (blk_cell BK296.out 4).trans rfl, (blk_cell BK297.out 0).trans rfl, (blk_cell BK297.out 1).trans rfl, (blk_cell BK297.out 2).trans rfl, (blk_cell BK297.out 3).trans rfl, (blk_cell BK297.out 4).trans rfl, ((HB.out.cell (World.block_lt_of_cell? w _ hw300_0)).trans hw300_0), ((HB.out.cell (World.block_lt_of_cell? w _ hw300_1)).trans hw300_1), ((HB.out.cell (World.block_lt_of_cell? w _ hw300_2)).trans hw300_2), ((HB.out.cell (World.block_lt_of_cell? w _ hw300_3)).trans hw300_3), ((HB.out.cell (World.block_lt_of_cell? w _ hw300_4)).trans hw300_4), ((HB.out.cell (World.block_lt_of_cell? w _ hw301_0)).trans hw301_0), ((HB.out.cell (World.block_lt_of_cell? w _ hw301_1)).trans hw301_1), ((HB.out.cell (World.block_lt_of_cell? w _ hw301_2)).trans hw301_2), ((HB.out.cell (World.block_lt_of_cell? w _ hw301_3)).trans hw301_3), ((HB.out.cell (World.block_lt_of_cell? w _ hw301_4)).trans hw301_4)⟩ (fun hHeld => ?_)
             clear hK K
             refine norm_ (a' := ?_) ?_ ?_
             rotate_left
             ·show Act.put _ (some 79) _ = _
              simp only [Act.put, sA, sB, sC, i64_w, i32_w]; rfl
             refine pure_ (i := 11) (N := some 80) (v := ?_) (a' := ?_) #[true, true, true, true, true, true, true, true, true, true, true, true] rfl rfl (any_of HT_.out (by kernel_rfl)) (fun _ _ _ h => h) (Or.inl ⟨by rfl, ?_⟩) ?_ ?_
             rotate_left
             ·intro w'; go_simp; with_reducible rfl
             rotate_left
             ·simp only [Act.put, sA, sB, sC, i64_w, i32_w]; rfl
             refine done_ (done_of HT_.out (by kernel_rfl)) ?_
             try go_wp2
             go_ret
             exact ⟨by first | rfl | (simp [errW_none, errW_some] <;> rfl) | (simp [*, errW_none, errW_some] <;> rfl), by repeat (first | (with_reducible first | exact HB.out | apply below_alloc | apply pw_below_drewN | apply below_drew1 | refine below_set ?_ GE296.out | refine below_set ?_ GE297.out) | exact HB.out)⟩
           ·rw [if_neg c40] at H
            exact absurd H (by simp)
          ·rw [if_neg c39] at H
           exact absurd H (by simp)
         ·rw [if_neg c38] at H
          have c38b0 : decide (x6_3 < (l0_4.length : Int)) = false := decide_eq_false c38
          clear c38
          obtain rfl := Option.some.inj H
          have hnb51 := NB296_297.out
          have hnc51 := NB297_296.out
          have hcz52_0 : wr.cell? ⟨gb296, 0, none⟩ = some (.int .i64 a0_0) := (blk_cell BK296.out 0).trans rfl
          have hcz52_1 : wr.cell? ⟨gb296, 1, none⟩ = some (.int .i64 a0_1) := (blk_cell BK296.out 1).trans rfl
          have hcz52_2 : wr.cell? ⟨gb296, 2, none⟩ = some (.string a0_2) := (blk_cell BK296.out 2).trans rfl
          have hcz52_3 : wr.cell? ⟨gb296, 3, none⟩ = some (.slice A0_3 l0_3.length c0_3) := (blk_cell BK296.out 3).trans rfl
          have hcz52_4 : wr.cell? ⟨gb296, 4, none⟩ = some (.slice A0_4 l0_4.length c0_4) := (blk_cell BK296.out 4).trans rfl
          have hfz52_0 := blk_frozen BK296.out 0
          have hfz52_1 := blk_frozen BK296.out 1
          have hfz52_2 := blk_frozen BK296.out 2
          have hfz52_3 := blk_frozen BK296.out 3
          have hfz52_4 := blk_frozen BK296.out 4
          go_wp2
          go_ret
          exact ⟨by first | rfl | (simp [errW_none, errW_some] <;> rfl) | (simp [*, errW_none, errW_some] <;> rfl), by repeat (first | (with_reducible first | exact HB.out | apply below_alloc | apply pw_below_drewN | apply below_drew1 | refine below_set ?_ GE296.out | refine below_set ?_ GE297.out) | exact HB.out)⟩
end Go.Proofs.Ytaembebbaejfiaa.PS
namespace Go.Proofs.Ytaembebbaejfiaa.Tr
open Go.RowKit Go.Proofs.YtaembebbaejfiaaW.PrintWords Go.Proofs.YtaembebbaejfiaaW.PrintLast Go.Proofs.Ytaembebbaejfiaa.Str Go.Proofs.Ytaembebbaejfiaa.Kit Go.Proofs.Ytaembebbaejfiaa.MapV Go.Proofs.Ytaembebbaejfiaa.Frame Go.Proofs.Ytaembebbaejfiaa.PS
set_option linter.unusedVariables false
set_option linter.unusedSimpArgs false
inductive Short : VS → Prop
 | mk (x : VS) (hk : x.f3.length ≤ 8796093022000) (hl : x.f4.length ≤ 1759218604400) (hv : ∀ v, v ∈ x.f4 → Short v) : Short x
theorem rdS' {xs : List VS} {i : Nat} (h : i < xs.length) : rd_T25 xs (i : Int) = xs[i] := by
 unfold rd_T25
 simp [List.getD_eq_getElem?_getD, h]
theorem wrapQ (i : Nat) (h : i < 4611686018427387904) : wrap64 ((i : Int) + 1) = ((i + 1 : Nat) : Int) := by unfold wrap64; omega
def SameEv (x : VS) : Prop := Ev (fun k => spec_Same.f k x.f0 x.f1 x.f2 x.f3 x.f4 x.f0 x.f1 x.f2 x.f3 x.f4) true
theorem ev_same_l1 (a b : Int) (c : BA) (ks : List BA) (vs : List VS) (hl : vs.length ≤ 1759218604400) (hch : ∀ v, v ∈ vs → SameEv v) : ∀ (d i : Nat), i + d = vs.length → Ev (fun k => spec_Same.l1 k (i : Int) a b c ks vs a b c ks vs) true := by
 intro d
 induction d with
 | zero =>
  intro i hi
  refine Ev.step (fun k => ?_) (Ev.now _)
  simp only [spec_Same.l1]
  rw [if_neg (by omega)]
 | succ d ih =>
  intro i hi
  have hlt : i < vs.length := by omega
  refine Ev.step (f := fun k => (spec_Same.f k vs[i].f0 vs[i].f1 vs[i].f2 vs[i].f3 vs[i].f4 vs[i].f0 vs[i].f1 vs[i].f2 vs[i].f3 vs[i].f4).bind fun t => if t = true then spec_Same.l1 k ((i + 1 : Nat) : Int) a b c ks vs a b c ks vs else some false) (fun k => ?_) ?_
  ·simp only [spec_Same.l1]
   rw [if_pos (by omega), if_pos (by omega), if_pos (by omega), rdS' hlt, wrapQ i (by omega)]
  ·refine Ev.bind (hch vs[i] (List.getElem_mem hlt)) ?_
   simp only [if_true]
   exact ih (i + 1) (by omega)
theorem ev_same_l0 (a b : Int) (c : BA) (ks : List BA) (vs : List VS) (hk : ks.length ≤ 8796093022000) (hl : vs.length ≤ 1759218604400) (hch : ∀ v, v ∈ vs → SameEv v) : ∀ (d i : Nat), i + d = ks.length → Ev (fun k => spec_Same.l0 k (i : Int) a b c ks vs a b c ks vs) true := by
 intro d
 induction d with
 | zero =>
  intro i hi
  refine Ev.step (f := fun k => spec_Same.l1 k ((0 : Nat) : Int) a b c ks vs a b c ks vs) (fun k => ?_) (ev_same_l1 a b c ks vs hl hch vs.length 0 (by omega))
  simp only [spec_Same.l0]
  rw [if_neg (by omega)]
  rfl
 | succ d ih =>
  intro i hi
  refine Ev.step (f := fun k => spec_Same.l0 k ((i + 1 : Nat) : Int) a b c ks vs a b c ks vs) (fun k => ?_) (ih (i + 1) (by omega))
  simp only [spec_Same.l0]
  rw [if_pos (by omega), if_pos (by omega), if_pos (by omega), if_pos trivial, wrapQ i (by omega)]
theorem ev_same : ∀ x : VS, Short x → SameEv x := by
 intro x hx
 induction hx with
 | mk x hk hl hv ih =>
  obtain ⟨k, n, t, ks, vs⟩ := x
  have h := ev_same_l0 k n t ks vs hk hl ih ks.length 0 (by omega)
  unfold SameEv
  refine Ev.step (f := fun j => spec_Same.j0 j false k n t ks vs k n t ks vs) (fun j => ?_) (Ev.step (f := fun j => spec_Same.l0 j ((0 : Nat) : Int) k n t ks vs k n t ks vs) (fun j => ?_) h)
  ·simp only [spec_Same.f, if_true, bne_self_eq_false]
  ·simp only [spec_Same.j0, if_false, Bool.false_eq_true]
   rfl
end Go.Proofs.Ytaembebbaejfiaa.Tr
namespace Go.Proofs.Ytaembebbaejfiaa.Tr
open Go.RowKit Go.Proofs.YtaembebbaejfiaaW.PrintWords Go.Proofs.YtaembebbaejfiaaW.PrintLast Go.Proofs.Ytaembebbaejfiaa.Str Go.Proofs.Ytaembebbaejfiaa.Kit Go.Proofs.Ytaembebbaejfiaa.MapV Go.Proofs.Ytaembebbaejfiaa.Frame Go.Proofs.Ytaembebbaejfiaa.PS
set_option linter.unusedVariables false
set_option linter.unusedSimpArgs false
theorem nilC {α : Type} (d : Kd α) (w : World) (A : Option Addr) : d.C w A 0 [] := ⟨rfl, Nat.zero_le _, fun h => absurd h (Nat.lt_irrefl 0)⟩
theorem leaf_held (w : World) : kS.K w (leaf 0 0 ⟨#[]⟩) [.int .i64 (leaf 0 0 ⟨#[]⟩).f0, .int .i64 (leaf 0 0 ⟨#[]⟩).f1, .string (leaf 0 0 ⟨#[]⟩).f2, .slice none (leaf 0 0 ⟨#[]⟩).f3.length 0, .slice none (leaf 0 0 ⟨#[]⟩).f4.length 0] :=
 k25_mk w (leaf 0 0 ⟨#[]⟩) (Nat.zero_le _) (nilC _ _ _) (Nat.zero_le _) (nilC _ _ _)
abbrev kFix (w : World) : Kd VS := held 5 (fun x cs => kS.K w x cs) (fun hp => kS.K_len hp) (fun hp => kS.K_one hp)
theorem with_null (W : World) {A3 A4 : Option Addr} {c3 c4 : Nat} (ks : List BA) (vs : List VS) (key : BA) (w : World) (hk : Kd.string.C w A3 ks.length ks) (hv : (kFix W).C w A4 vs.length vs) (hlen : ks.length = vs.length) (hvn : vs.length ≤ 1759218604400) (K2 : List BA) (V2 : List VS) (hK2 : withK ks key = K2) (hV2 : withV ks vs key (leaf 0 0 ⟨#[]⟩) = V2) :
  Calls Try.prog 25 #[.agg #[.int .i64 5, .int .i64 0, .string ⟨#[]⟩, .slice A3 ks.length c3, .slice A4 vs.length c4], .string key, .agg #[.int .i64 0, .int .i64 0, .string ⟨#[]⟩, .slice none 0 0, .slice none 0 0]] w fun e w' => ∃ A7 c7 A8 c8, e = .returned (.agg #[.int .i64 5, .int .i64 0, .string ⟨#[]⟩, .slice A7 K2.length c7, .slice A8 V2.length c8]) ∧ Kd.string.R 9 w' w.heap.size (fun _ => True) (.slice A7 K2.length c7) K2 ∧ (kFix W).R 25 w' w.heap.size (fun _ => True) (.slice A8 V2.length c8) V2 ∧ Below w.heap.size w w' :=
 WithP (fun x cs => kS.K W x cs) (fun hp => kS.K_len hp) (fun hp => kS.K_one hp) 5 0 ⟨#[]⟩ ks vs key (leaf 0 0 ⟨#[]⟩) w hk hv (leaf_held W) hlen hvn K2 V2 hK2 hV2
structure Reads (w : World) (x : VS) (A3 : Option Addr) (c3 : Nat) (A4 : Option Addr) (c4 : Nat) : Prop where
 l3 : x.f3.length ≤ c3
 hk : Kd.string.C w A3 x.f3.length x.f3
 l4 : x.f4.length ≤ c4
 hv : kS.C w A4 x.f4.length x.f4
theorem Reads.below {w w1 : World} {x : VS} {A3 A4 : Option Addr} {c3 c4 : Nat} (h : Reads w x A3 c3 A4 c4) (hb : Below w.heap.size w w1) : Reads w1 x A3 c3 A4 c4 := ⟨h.l3, Kd.C_below h.hk hb, h.l4, Kd.C_below h.hv hb⟩
def Gives (x : VS) (w : World) (e : Ending) (w' : World) : Prop := ∃ A3 c3 A4 c4, e = .returned (.agg #[.int .i64 x.f0, .int .i64 x.f1, .string x.f2, .slice A3 x.f3.length c3, .slice A4 x.f4.length c4]) ∧ Reads w' x A3 c3 A4 c4 ∧ Below w.heap.size w w'
def GivesR (W : World) (x : VS) (w : World) (e : Ending) (w' : World) : Prop := ∃ v3 v4, e = .returned (.agg #[.int .i64 x.f0, .int .i64 x.f1, .string x.f2, v3, v4]) ∧ Kd.string.R 9 w' w.heap.size (fun k => w.heap.size ≤ k) v3 x.f3 ∧ (kFix W).R 25 w' w.heap.size (fun k => w.heap.size ≤ k) v4 x.f4 ∧ Below w.heap.size w w'
theorem fix_reads {W w : World} {x : VS} {v3 v4 : Value} {b3 b4 : Nat} {ok3 ok4 : Nat → Prop} (hb : Below W.heap.size W w) (h3 : Kd.string.R 9 w b3 ok3 v3 x.f3) (h4 : (kFix W).R 25 w b4 ok4 v4 x.f4) : ∃ A3 c3 A4 c4, v3 = .slice A3 x.f3.length c3 ∧ v4 = .slice A4 x.f4.length c4 ∧ Reads w x A3 c3 A4 c4 := by
 obtain ⟨B3, d3, rfl, m3, g3⟩ := Kd.R_reads h3
 obtain ⟨B4, d4, rfl, m4, g4⟩ := Kd.R_reads h4
 exact ⟨B3, d3, B4, d4, rfl, rfl, m3, g3, m4, ReadsRow.imp_ g4 (Below.refl _ _) (fun _ _ hp => kS.K_below hb hp)⟩
abbrev zC : Array Value := #[.int .i64 0, .int .i64 0, .string ⟨#[]⟩, .slice none 0 0, .slice none 0 0]
theorem empty_gives (w : World) : Calls Try.prog 24 #[] w fun e w' => e = .returned (.agg #[.int .i64 5, .int .i64 0, .string ⟨#[]⟩, .slice none 0 0, .slice none 0 0]) ∧ Below w.heap.size w w' := by
 have h0 := cb_new w (.cells #[.int .i64 0, .int .i64 0, .string ⟨#[]⟩, .slice none 0 0, .slice none 0 0] 25)
 have HB := aM ((Below.refl _ w).alloc (Nat.le_refl _) (.cells #[.int .i64 0, .int .i64 0, .string ⟨#[]⟩, .slice none 0 0, .slice none 0 0] 25))
 go_enter Try.func24, Try.ntmps24
 go_wp2_with (refine store_val (.tmp 0) (.tmp 1) rfl rfl rfl rfl h0 ?_)
 exact bodyPost_ret (v := .agg #[.int .i64 5, .int .i64 0, .string ⟨#[]⟩, .slice none 0 0, .slice none 0 0]) (val_result rfl rfl (setRow_heap _ _ _ _ _ _ h0)) rfl ⟨rfl, pw_below_grown HB.out (some w.heap.size) HB.out.size (grown_setRow _ w.heap.size _) (fun k hk => by injection hk with hk; have h2 : w.heap.size = k := hk; omega)⟩
theorem fits_reads (x : VS) (A3 A4 : Option Addr) (c3 c4 : Nat) (w : World) (h : Reads w x A3 c3 A4 c4) :
  Calls Try.prog 6 #[.agg #[.int .i64 x.f0, .int .i64 x.f1, .string x.f2, .slice A3 x.f3.length c3, .slice A4 x.f4.length c4]] w fun e w' => ∃ b, e = .returned (.bool b) ∧ Below w.heap.size w w' := by
 obtain ⟨b, hb⟩ := ev_zzFits1 x
 obtain ⟨k, hk⟩ := hb.rounds
 refine (laws_zzFits1.calls k x.f0 x.f1 x.f2 A3 c3 x.f3 A4 c4 x.f4 b w h.hk h.l3 h.hv h.l4 hk).mono ?_
 rintro e w1 ⟨rfl, hb1⟩
 exact ⟨b, rfl, hb1⟩
def GivesS (x : VS) (w : World) (e : Ending) (w' : World) : Prop := ∃ A3 c3 A4 c4, e = .returned (.agg #[.int .i64 x.f0, .int .i64 x.f1, .string x.f2, .slice A3 x.f3.length c3, .slice A4 x.f4.length c4]) ∧ (∀ W : World, (∀ k, w.heap.size ≤ k → k < w'.heap.size → W.heap[k]? = w'.heap[k]?) → Reads W x A3 c3 A4 c4) ∧ Below w.heap.size w w'
theorem fit_gives (x : VS) (hx : SmallS x) (A3 A4 : Option Addr) (c3 c4 : Nat) (w : World) (h : Reads w x A3 c3 A4 c4) :
  Calls Try.prog 7 #[.agg #[.int .i64 x.f0, .int .i64 x.f1, .string x.f2, .slice A3 x.f3.length c3, .slice A4 x.f4.length c4]] w (GivesS (fitV x) w) := by
 have hF := ev_Fit x hx
 unfold FitEv at hF
 obtain ⟨k, hk⟩ := hF.rounds
 refine (spec_Fit.calls k x.f0 x.f1 x.f2 A3 c3 x.f3 A4 c4 x.f4 _ _ _ _ _ w h.hk h.l3 h.hv h.l4 hk).mono ?_
 rintro e w1 ⟨v3, v4, rfl, hr3, hr4, hb⟩
 obtain ⟨B3, d3, rfl⟩ := Kd.R_slice hr3
 obtain ⟨B4, d4, rfl⟩ := Kd.N_slice hr4
 refine ⟨B3, d3, B4, d4, rfl, fun W hW => ?_, hb⟩
 have h3 := Kd.R_reads' (Kd.R_step hr3 (fun k hk hl => hW k hk hl))
 have h4 := Kd.N_reads' (Kd.N_step hr4 (fun k hk hl => hW k hk.1 hl))
 exact ⟨h3.2.1, h3.2.2, h4.2.1, h4.2.2⟩
theorem SmallS.short {x : VS} (h : SmallS x) : Short x := by
 induction h with
 | mk x ht hk hkl hvl hv ih => exact .mk x hkl hvl ih
theorem SmallS.at {x v : VS} (h : SmallS x) (hv : v ∈ x.f4) : SmallS v := by
 cases h with
 | mk _ _ _ _ _ h => exact h v hv
theorem SmallS.textIn {x : VS} (h : SmallS x) : x.f2.size < 4611686018427387904 := by
 cases h with
 | mk _ ht _ _ _ _ => omega
theorem SmallS.keyIn {x : VS} (h : SmallS x) {s : BA} (hs : s ∈ x.f3) : s.size ≤ maxLen := by
 cases h with
 | mk _ _ hk _ _ _ => exact hk s hs
theorem SmallS.vals {x : VS} (h : SmallS x) : x.f4.length ≤ 1759218604400 := by
 cases h with
 | mk _ _ _ _ h _ => exact h
theorem Canon.inStep {x : VS} (h : Canon x) (hs : SmallS x) : InStep x := by
 have hv := hs.vals
 cases h with
 | map ks vs hr hl h => exact ⟨Nat.le_of_eq hl, by show ks.length < _; have : vs.length ≤ 1759218604400 := hv; omega⟩
 | _ => exact ⟨Nat.zero_le _, by simp [leaf]⟩
theorem Canon.at {x v : VS} (h : Canon x) (hv : v ∈ x.f4) : Canon v := by
 cases h with
 | list l h => exact h v hv
 | map ks vs hr hl h => exact h v hv
 | _ => cases hv
theorem Canon.is_text {x : VS} (h : Canon x) (h3 : x.f0 = 3) : x = leaf 3 0 x.f2 := by
 cases h with
 | text s => rfl
 | _ => first | (simp [leaf] at h3; done) | (exfalso; revert h3; decide)
end Go.Proofs.Ytaembebbaejfiaa.Tr
namespace Go.Proofs.Ytaembebbaejfiaa.Tr
open Go.RowKit Go.Proofs.YtaembebbaejfiaaW.PrintWords Go.Proofs.YtaembebbaejfiaaW.PrintLast Go.Proofs.Ytaembebbaejfiaa.Str Go.Proofs.Ytaembebbaejfiaa.Kit Go.Proofs.Ytaembebbaejfiaa.MapV Go.Proofs.Ytaembebbaejfiaa.Frame Go.Proofs.Ytaembebbaejfiaa.PS
set_option linter.unusedVariables false
set_option linter.unusedSimpArgs false
set_option maxHeartbeats 3200000 in
set_option maxRecDepth 100000 in
theorem mergeNets_map (x : VS) (h5 : x.f0 = 5) (A3 A4 : Option Addr) (c3 c4 : Nat) (w : World) (h : Reads w x A3 c3 A4 c4) :
  Calls Try.prog 27 #[.agg #[.int .i64 x.f0, .int .i64 x.f1, .string x.f2, .slice A3 x.f3.length c3, .slice A4 x.f4.length c4]] w fun e w' => e = .returned (.agg #[.int .i64 x.f0, .int .i64 x.f1, .string x.f2, .slice A3 x.f3.length c3, .slice A4 x.f4.length c4]) ∧ Below w.heap.size w w' := by
 obtain ⟨x0, x1, x2, x3, x4⟩ := x
 have e5 : x0 = 5 := h5
 subst e5
 have HB := aM (below_alloc (below_alloc (Below.refl w.heap.size w) (.cells #[.int .i64 5, .int .i64 x1, .string x2, .slice A3 x3.length c3, .slice A4 x4.length c4] 25)) (.cells zC 25))
 have hxb : ((w.alloc (.cells #[.int .i64 5, .int .i64 x1, .string x2, .slice A3 x3.length c3, .slice A4 x4.length c4] 25)).alloc (.cells zC 25)).heap[w.heap.size]? = some (.cells #[.int .i64 5, .int .i64 x1, .string x2, .slice A3 x3.length c3, .slice A4 x4.length c4] 25 (0, 0)) := blk_alloc (cb_new _ _) _
 have hrb := cb_new (w.alloc (.cells #[.int .i64 5, .int .i64 x1, .string x2, .slice A3 x3.length c3, .slice A4 x4.length c4] 25)) (.cells zC 25)
 rw [World.size_alloc] at hrb
 have HR := aM h
 clear h
 go_enter Try.func27, Try.ntmps27
 go_wp2_with (first | refine load_val (.tmp 1) rfl rfl rfl hxb ?_ | refine store_val (.tmp 2) (.tmp 8) rfl rfl rfl rfl hrb ?_)
 have hg := grown_setRow ((w.alloc (.cells #[.int .i64 5, .int .i64 x1, .string x2, .slice A3 x3.length c3, .slice A4 x4.length c4] 25)).alloc (.cells zC 25)) (w.heap.size + 1) #[.int .i64 5, .int .i64 x1, .string x2, .slice A3 x3.length c3, .slice A4 x4.length c4]
 have hB := pw_below_grown HB.out (some (w.heap.size + 1)) HB.out.size hg (fun k hk => by injection hk with hk; omega)
 exact bodyPost_ret (v := .agg #[.int .i64 5, .int .i64 x1, .string x2, .slice A3 x3.length c3, .slice A4 x4.length c4]) (val_result rfl rfl (setRow_heap _ (w.heap.size + 1) _ _ _ _ hrb)) rfl ⟨rfl, hB⟩
set_option maxHeartbeats 6400000 in
set_option maxRecDepth 100000 in
theorem mergeNets_list (W0 : World) (x : VS) (h4 : x.f0 = 4) (hn : x.f4.length ≤ 1759218604400) (A3 A4 : Option Addr) (c3 c4 : Nat) (w : World) (h : Reads w x A3 c3 A4 c4) :
  Calls Try.prog 27 #[.agg #[.int .i64 x.f0, .int .i64 x.f1, .string x.f2, .slice A3 x.f3.length c3, .slice A4 x.f4.length c4]] w (GivesR W0 (nullsOf (x.f4.map fun v => v.f2)) w) := by
 obtain ⟨x0, x1, x2, x3, xs⟩ := x
 have e4 : x0 = 4 := h4
 have hn' : xs.length ≤ 1759218604400 := hn
 subst e4
 obtain ⟨KF, VF, hF⟩ : ∃ KF VF, fitW (xs.map fun v => v.f2) (xs.map fun _ => leaf 0 0 ⟨#[]⟩) [] [] = (KF, VF) := ⟨_, _, rfl⟩
 have hgoal : nullsOf (xs.map fun v => v.f2) = ⟨5, 0, ⟨#[]⟩, KF, VF⟩ := by
  unfold nullsOf
  rw [List.map_map]
  show (⟨5, 0, ⟨#[]⟩, (fitW (xs.map fun v => v.f2) (xs.map fun _ => leaf 0 0 ⟨#[]⟩) [] []).1, (fitW (xs.map fun v => v.f2) (xs.map fun _ => leaf 0 0 ⟨#[]⟩) [] []).2⟩ : VS) = _
  rw [hF]
 show Calls _ _ _ w (GivesR W0 (nullsOf (xs.map fun v => v.f2)) w)
 rw [hgoal]
 have HB := aM (below_alloc (below_alloc (Below.refl w.heap.size w) (.cells #[.int .i64 4, .int .i64 x1, .string x2, .slice A3 x3.length c3, .slice A4 xs.length c4] 25)) (.cells zC 25))
 have hxb : ((w.alloc (.cells #[.int .i64 4, .int .i64 x1, .string x2, .slice A3 x3.length c3, .slice A4 xs.length c4] 25)).alloc (.cells zC 25)).heap[w.heap.size]? = some (.cells #[.int .i64 4, .int .i64 x1, .string x2, .slice A3 x3.length c3, .slice A4 xs.length c4] 25 (0, 0)) := blk_alloc (cb_new _ _) _
 have hrb := cb_new (w.alloc (.cells #[.int .i64 4, .int .i64 x1, .string x2, .slice A3 x3.length c3, .slice A4 xs.length c4] 25)) (.cells zC 25)
 rw [World.size_alloc] at hrb
 have HX0 := aM hxb
 have HR0 := aM hrb
 have HRD := aM h.hv
 have HF := aM hF
 clear h hgoal hxb hrb hF hn h4
 have CE := aM (empty_gives ((w.alloc (.cells #[.int .i64 4, .int .i64 x1, .string x2, .slice A3 x3.length c3, .slice A4 xs.length c4] 25)).alloc (.cells zC 25)))
 go_enter Try.func27, Try.ntmps27
 go_wp2_with fail
 refine CE.out.mono ?_
 rintro e w1 ⟨rfl, hb⟩
 have hbn := below_alloc (Below.refl w1.heap.size w1) (.cells #[.int .i64 5, .int .i64 0, .string ⟨#[]⟩, .slice none 0 0, .slice none 0 0] 25)
 have hlt0 := cb_lt HR0.out
 rw [World.size_alloc, World.size_alloc] at hlt0
 have hsz1 := hb.size
 rw [World.size_alloc, World.size_alloc] at hsz1
 have HB2 := aM (hb_then (hb_then HB.out hb) hbn)
 have HX2 := aM (blk_alloc ((hb.block _ (cb_lt HX0.out)).trans HX0.out) (.cells #[.int .i64 5, .int .i64 0, .string ⟨#[]⟩, .slice none 0 0, .slice none 0 0] 25))
 have HR2 := aM (blk_alloc ((hb.block _ (cb_lt HR0.out)).trans HR0.out) (.cells #[.int .i64 5, .int .i64 0, .string ⟨#[]⟩, .slice none 0 0, .slice none 0 0] 25))
 have HG2 := aM (cb_new w1 (.cells #[.int .i64 5, .int .i64 0, .string ⟨#[]⟩, .slice none 0 0, .slice none 0 0] 25))
 clear hb hbn CE HB HX0 HR0
 go_wp2
 generalize hW2 : w1.alloc _ = W2 at HB2 HX2 HR2 HG2 ⊢
 generalize hb3 : w1.heap.size = b3 at HG2 hsz1 ⊢
 clear hW2 hb3
 go_loopw [4] (fun v wr => ∃ (i : Nat) (Ks : List BA) (Vs : List VS) (A7 A8 : Option Addr) (c7 c8 : Nat), v = .int .i64 i ∧ i ≤ xs.length ∧ Ks.length = Vs.length ∧ Vs.length ≤ i ∧ Aside0 (fitW ((xs.drop i).map fun v => v.f2) ((xs.drop i).map fun _ => leaf 0 0 ⟨#[]⟩) Ks Vs = (KF, VF))
  ∧ Aside0 (wr.heap[b3]? = some (.cells #[.int .i64 5, .int .i64 0, .string ⟨#[]⟩, .slice A7 Ks.length c7, .slice A8 Vs.length c8] 25 (0, 0)))
  ∧ Aside0 (wr.heap[w.heap.size]? = some (.cells #[.int .i64 4, .int .i64 x1, .string x2, .slice A3 x3.length c3, .slice A4 xs.length c4] 25 (0, 0)))
  ∧ Aside0 (wr.heap[w.heap.size + 1]? = some (.cells zC 25 (0, 0))) ∧ Aside0 (Below w.heap.size w wr)
  ∧ Aside0 (Kd.string.R 9 wr b3 (fun k => b3 < k) (.slice A7 Ks.length c7) Ks)
  ∧ Aside0 ((kFix W0).R 25 wr b3 (fun k => b3 < k) (.slice A8 Vs.length c8) Vs)) (fun v _ => xs.length - (intOf v).toNat)
 case atStart => exact ⟨0, [], [], none, none, 0, 0, rfl, Nat.zero_le _, rfl, Nat.le_refl _, HF, HG2, HX2, HR2, HB2, ⟨Kd.R_nil _ _ _ _ _⟩, ⟨Kd.R_nil _ _ _ _ _⟩⟩
 case round =>
  clear HG2 HX2 HR2 HB2 HF
  obtain ⟨i, Ks, Vs, A7, A8, c7, c8, rfl, hin, hKV, hVi, HF, HG, HX, HR, HB, HK, HV⟩ := hrel
  have HKV := aM hKV
  have hKi : Ks.length ≤ i := by omega
  clear hKV
  have q0 : (0 : Int) ≤ (i : Int) := by omega
  have hvn : Vs.length ≤ 1759218604400 := Nat.le_trans hVi (Nat.le_trans hin hn')
  have hlt3 := cb_lt HG.out
  have hltw := cb_lt HR.out
  have x4c : wr.cell? ⟨w.heap.size, 4, none⟩ = some (.slice A4 xs.length c4) := cb_cell (i := 4) HX.out rfl
  by_cases hlv : i < xs.length
  ·obtain ⟨vb, vo, rfl, hvb, hvc⟩ := kS_at HRD.out (by omega)
   obtain ⟨_, _, _, _, _, _, y2, _⟩ := hvc i hlv
   have n0 : wr.cell? ⟨vb, vo + i * 5 + 2, none⟩ = some (.string xs[i].f2) := by rw [HB.out.cell (p := ⟨vb, vo + i * 5 + 2, none⟩) hvb]; exact y2
   clear hvc y2
   have HD := aM (show (xs.drop i) = xs[i] :: xs.drop (i + 1) from List.drop_eq_getElem_cons hlv)
   have e0 : wr.cell? ⟨b3, 0, none⟩ = some (.int .i64 5) := cb_cell (i := 0) HG.out rfl
   have e1 : wr.cell? ⟨b3, 1, none⟩ = some (.int .i64 0) := cb_cell (i := 1) HG.out rfl
   have e2 : wr.cell? ⟨b3, 2, none⟩ = some (.string ⟨#[]⟩) := cb_cell (i := 2) HG.out rfl
   have e3 : wr.cell? ⟨b3, 3, none⟩ = some (.slice A7 Ks.length c7) := cb_cell (i := 3) HG.out rfl
   have e4 : wr.cell? ⟨b3, 4, none⟩ = some (.slice A8 Vs.length c8) := cb_cell (i := 4) HG.out rfl
   have q2 : (i : Int) < (xs.length : Int) := by omega
   have hd1 : decide ((i : Int) < (xs.length : Int)) = true := decide_eq_true q2
   have q5 : wrap64 ((i : Int) + 1) = (i : Int) + 1 := by unfold wrap64; omega
   have hKr := (Kd.R_reads' HK.out).2.2
   have hVr := (Kd.R_reads' HV.out).2.2
   obtain ⟨key, hkey⟩ : ∃ key, xs[i].f2 = key := ⟨_, rfl⟩
   rw [hkey] at n0
   have HKEY := aM hkey
   have hl1 := withV_length (key := key) (x := leaf 0 0 ⟨#[]⟩) HKV.out
   have hl2 := withK_length (ks := Ks) (key := key)
   obtain ⟨K2, hK2⟩ : ∃ K2, withK Ks key = K2 := ⟨_, rfl⟩
   obtain ⟨V2, hV2⟩ : ∃ V2, withV Ks Vs key (leaf 0 0 ⟨#[]⟩) = V2 := ⟨_, rfl⟩
   rw [hK2] at hl1 hl2
   rw [hV2] at hl1
   have HL := aM (And.intro hl1 hl2)
   have HN := aM (show fitW ((xs.drop (i + 1)).map fun v => v.f2) ((xs.drop (i + 1)).map fun _ => leaf 0 0 ⟨#[]⟩) K2 V2 = (KF, VF) by
    have := HF.out
    rw [HD.out, List.map_cons, List.map_cons, fitW, hkey, hK2, hV2] at this
    exact this)
   have CW := aM (with_null W0 (A3 := A7) (A4 := A8) (c3 := c7) (c4 := c8) Ks Vs key wr.drew (Kd.C_below hKr (below_drew (Below.refl _ _))) (Kd.C_below hVr (below_drew (Below.refl _ _))) HKV.out hvn K2 V2 hK2 hV2)
   clear hkey hl1 hl2 hK2 hV2 hKr hVr
   go_wp2_with fail
   refine start_ (n := 10) (S := fun w' => w'.cell? ⟨b3, 0, none⟩ = some (.int .i64 5) ∧ w'.cell? ⟨b3, 1, none⟩ = some (.int .i64 0) ∧ w'.cell? ⟨b3, 2, none⟩ = some (.string ⟨#[]⟩) ∧ w'.cell? ⟨b3, 3, none⟩ = some (.slice A7 Ks.length c7) ∧ w'.cell? ⟨b3, 4, none⟩ = some (.slice A8 Vs.length c8) ∧ w'.cell? ⟨w.heap.size, 4, none⟩ = some (.slice (some ⟨vb, vo, none⟩) xs.length c4) ∧ w'.cell? ⟨vb, vo + i * 5 + 2, none⟩ = some (.string key)) (ds := [8, 9]) #[false, false, false, false, false, false, false, false, false, false] (by kernel_rfl) rfl rfl ⟨e0, e1, e2, e3, e4, x4c, n0⟩ (fun hHeld => ?_)
   refine pure_ (i := 1) (N := some 18) (v := ?_) (a' := ?_) #[false, true, false, false, false, false, false, false, false, false] rfl rfl (by kernel_rfl) (fun _ _ _ h => h) (Or.inl ⟨by rfl, ?_⟩) ?_ ?_
   rotate_left
   ·intro w'; go_simp; with_reducible rfl
   rotate_left
   ·simp only [Act.put, sA, sB, sC, i64_w, i32_w]; rfl
   refine pure_ (i := 3) (N := some 20) (v := ?_) (a' := ?_) #[false, true, false, true, false, false, false, false, false, false] rfl rfl (by kernel_rfl) (fun _ _ _ h => h) (Or.inl ⟨by rfl, ?_⟩) ?_ ?_
   rotate_left
   ·intro w'; go_simp; with_reducible rfl
   rotate_left
   ·simp only [Act.put, sA, sB, sC, i64_w, i32_w]; rfl
   refine pure_ (i := 7) (N := some 24) (v := ?_) (a' := ?_) #[false, true, false, true, false, false, false, true, false, false] rfl rfl (by kernel_rfl) (fun _ _ _ h => h) (Or.inl ⟨by rfl, ?_⟩) ?_ ?_
   rotate_left
   ·intro w'; go_simp; with_reducible rfl
   rotate_left
   ·simp only [Act.put, sA, sB, sC, i64_w, i32_w]; rfl
   refine take_ (i := 0) (N := some 17) (v := ?_) (a' := ?_) #[true, true, false, true, false, false, false, true, false, false] rfl rfl (by kernel_rfl) (fun _ _ _ h => h) (Or.inl ⟨by rfl, ?_⟩) hHeld ?_ ?_
   rotate_left
   ·rintro w' ⟨s0, s1, s2, s3, s4, s5, s6⟩
    go_simp; with_reducible rfl
   rotate_left
   ·simp only [Act.put, sA, sB, sC, i64_w, i32_w]; rfl
   refine take_ (i := 2) (N := some 19) (v := ?_) (a' := ?_) #[true, true, true, true, false, false, false, true, false, false] rfl rfl (by kernel_rfl) (fun _ _ _ h => h) (Or.inl ⟨by rfl, ?_⟩) hHeld ?_ ?_
   rotate_left
   ·rintro w' ⟨s0, s1, s2, s3, s4, s5, s6⟩
    go_simp; with_reducible rfl
   rotate_left
   ·simp only [Act.put, sA, sB, sC, i64_w, i32_w]; rfl
   refine pure_ (i := 4) (N := some 21) (v := ?_) (a' := ?_) #[true, true, true, true, true, false, false, true, false, false] rfl rfl (by kernel_rfl) (fun _ _ _ h => h) (Or.inl ⟨by rfl, ?_⟩) ?_ ?_
   rotate_left
   ·intro w'; go_simp; with_reducible rfl
   rotate_left
   ·simp only [Act.put, sA, sB, sC, i64_w, i32_w]; rfl
   refine pure_ (i := 5) (N := some 22) (v := ?_) (a' := ?_) #[true, true, true, true, true, true, false, true, false, false] rfl rfl (by kernel_rfl) (fun _ _ _ h => h) (Or.inl ⟨by rfl, ?_⟩) ?_ ?_
   rotate_left
   ·intro w'; go_simp; with_reducible rfl
   rotate_left
   ·simp only [Act.put, sA, sB, sC, i64_w, i32_w]; rfl
   refine take_ (i := 6) (N := some 23) (v := ?_) (a' := ?_) #[true, true, true, true, true, true, true, true, false, false] rfl rfl (by kernel_rfl) (fun _ _ _ h => h) (Or.inl ⟨by rfl, ?_⟩) hHeld ?_ ?_
   rotate_left
   ·rintro w' ⟨s0, s1, s2, s3, s4, s5, s6⟩
    go_simp; with_reducible rfl
   rotate_left
   ·simp only [Act.put, sA, sB, sC, i64_w, i32_w]; rfl
   refine last_ (i := 8) (N := some 25) #[true, true, true, true, true, true, true, true, true, false] rfl rfl (by kernel_rfl) (by decide) (fun K hK => ?_)
   refine goes_ Try.func25 (by kernel_rfl) rfl #[.agg #[.int .i64 5, .int .i64 0, .string ⟨#[]⟩, .slice A7 Ks.length c7, .slice A8 Vs.length c8], .string key, .agg #[.int .i64 0, .int .i64 0, .string ⟨#[]⟩, .slice none 0 0, .slice none 0 0]] (by rfl) rfl rfl (by simp only [List.map_toArray, List.map_cons, List.map_nil]; rfl) ?_
   with_reducible refine (CW.out).mono ?_
   rintro e w4 ⟨B7, d7, B8, d8, rfl, k1, k2, hb⟩
   refine ⟨_, rfl, ?_⟩
   refine hK.out _ _ ?_
   clear hK K
   refine norm_ (a' := ?_) ?_ ?_
   rotate_left
   ·show Act.put _ (some 25) _ = _
    simp only [Act.put, sA, sB, sC, i64_w, i32_w]; rfl
   refine last_ (i := 9) (N := none) #[true, true, true, true, true, true, true, true, true, true] rfl rfl (by kernel_rfl) (by decide) (fun K hK => ?_)
   have HB4 := aM (hb_then (below_drew HB.out) hb)
   have HG4 := aM ((hb.block _ (cb_lt (show wr.drew.heap[b3]? = _ from HG.out))).trans HG.out)
   have HR4 := aM ((hb.block _ (cb_lt (show wr.drew.heap[w.heap.size + 1]? = _ from HR.out))).trans HR.out)
   have HX4 := aM ((hb.block _ (cb_lt (show wr.drew.heap[w.heap.size]? = _ from HX.out))).trans HX.out)
   refine store_row_step (w := w4) rfl rfl 25 (.tmp 3) (.tmp 25) rfl b3 #[.int .i64 5, .int .i64 0, .string ⟨#[]⟩, .slice B7 K2.length d7, .slice B8 V2.length d8] rfl rfl 25 _ HG4.out val_size rfl (val_one _ _ _ _ _ _ _ _ _) ?_
   refine hK.out _ _ ?_
   clear hK K
   refine done_ (by kernel_rfl) ?_
   have hlw : b3 < wr.drew.heap.size := hlt3
   have hg := grown_setRow w4 b3 #[.int .i64 5, .int .i64 0, .string ⟨#[]⟩, .slice B7 K2.length d7, .slice B8 V2.length d8]
   have HG5 := aM (setRow_heap w4 b3 _ #[.int .i64 5, .int .i64 0, .string ⟨#[]⟩, .slice B7 K2.length d7, .slice B8 V2.length d8] _ _ HG4.out)
   have HR5 := aM ((setRow_other w4 b3 (w.heap.size + 1) #[.int .i64 5, .int .i64 0, .string ⟨#[]⟩, .slice B7 K2.length d7, .slice B8 V2.length d8] (by omega)).trans HR4.out)
   have HX5 := aM ((setRow_other w4 b3 w.heap.size #[.int .i64 5, .int .i64 0, .string ⟨#[]⟩, .slice B7 K2.length d7, .slice B8 V2.length d8] (by omega)).trans HX4.out)
   have HB5 := aM (pw_below_grown HB4.out (some b3) HB4.out.size hg (fun k hk => by injection hk with hk; omega))
   have HK5 := aM (Kd.R_grown (Kd.R_lower (Kd.R_mono (Kd.R_bound k1) (ok' := fun k => b3 < k) (fun k h => Nat.lt_of_lt_of_le hlw h.2.1)) (Nat.le_of_lt hlw)) hg (fun k hk e => by injection e with e; omega))
   have HV5 := aM (Kd.R_grown (Kd.R_lower (Kd.R_mono (Kd.R_bound k2) (ok' := fun k => b3 < k) (fun k h => Nat.lt_of_lt_of_le hlw h.2.1)) (Nat.le_of_lt hlw)) hg (fun k hk e => by injection e with e; omega))
   have HI := aM (show ((i + 1 : Nat) : Int) = (i : Int) + 1 from rfl)
   clear hg k1 k2 HG4 HR4 HB4 HX4 hHeld hb
   generalize w4.setRow b3 #[.int .i64 5, .int .i64 0, .string ⟨#[]⟩, .slice B7 K2.length d7, .slice B8 V2.length d8] = w5 at HG5 HR5 HB5 HX5 HK5 HV5 ⊢
   have HKI := aM hKi
   clear e0 e1 e2 e3 e4 x4c n0 hlt3 hltw hlw hKi hvn hVi hin q2 hvb
   go_wp2
   go_roundw
   case rel => exact ⟨i + 1, K2, V2, B7, B8, d7, d8, by go_num, by omega, HL.out.1.symm, by have := HL.out.1; have := HL.out.2; have := HKI.out; omega, HN, HG5, HX5, HR5, HB5, HK5, HV5⟩
   case measure => simp [intOf]; omega
  ·have hd1 : decide ((i : Int) < (xs.length : Int)) = false := decide_eq_false (by omega)
   have hdr : xs.drop i = [] := List.drop_eq_nil_of_le (by omega)
   have hF1 : (Ks, Vs) = (KF, VF) := by
    have := HF.out
    rw [hdr] at this
    exact this
   obtain ⟨rfl, rfl⟩ := Prod.mk.inj hF1
   clear hF1 hdr
   go_wp2_with (first | refine load_val (.tmp 3) rfl rfl rfl HG.out ?_ | refine store_val (.tmp 2) (.tmp 26) rfl rfl rfl rfl HR.out ?_)
   have hg := grown_setRow wr (w.heap.size + 1) #[.int .i64 5, .int .i64 0, .string ⟨#[]⟩, .slice A7 Ks.length c7, .slice A8 Vs.length c8]
   have h5 := setRow_heap wr (w.heap.size + 1) _ #[.int .i64 5, .int .i64 0, .string ⟨#[]⟩, .slice A7 Ks.length c7, .slice A8 Vs.length c8] _ _ HR.out
   have hB := pw_below_grown HB.out (some (w.heap.size + 1)) HB.out.size hg (fun k hk => by injection hk with hk; omega)
   have hK := Kd.R_grown HK.out hg (fun k hk e => by injection e with e; omega)
   have hV := Kd.R_grown HV.out hg (fun k hk e => by injection e with e; omega)
   exact bodyPost_ret (v := .agg #[.int .i64 5, .int .i64 0, .string ⟨#[]⟩, .slice A7 Ks.length c7, .slice A8 Vs.length c8]) (val_result rfl rfl h5) rfl ⟨_, _, rfl, Kd.R_lower (Kd.R_mono hK (fun k hk => by omega)) (by omega), Kd.R_lower (Kd.R_mono hV (fun k hk => by omega)) (by omega), hB⟩
end Go.Proofs.Ytaembebbaejfiaa.Tr
namespace Go.Proofs.Ytaembebbaejfiaa.Tr
open Go.RowKit Go.Proofs.YtaembebbaejfiaaW.PrintWords Go.Proofs.YtaembebbaejfiaaW.PrintLast Go.Proofs.Ytaembebbaejfiaa.Str Go.Proofs.Ytaembebbaejfiaa.Kit Go.Proofs.Ytaembebbaejfiaa.MapV Go.Proofs.Ytaembebbaejfiaa.Frame Go.Proofs.Ytaembebbaejfiaa.PS
set_option linter.unusedVariables false
set_option linter.unusedSimpArgs false
def Turns (ig : Bool) (x y : VI) : Prop := ∀ (w : World) (A3 A4 : Option Addr) (c3 c4 : Nat), x.f3.length ≤ c3 → Kd.string.C w A3 x.f3.length x.f3 → x.f4.length ≤ c4 → kI.C w A4 x.f4.length x.f4 →
  Calls Try.prog 10 #[.agg #[.int .i64 x.f0, .int .i64 x.f1, .string x.f2, .slice A3 x.f3.length c3, .slice A4 x.f4.length c4], .bool ig] w (Told w y)
theorem from_calls (x : VI) (z : VS) (hz : fromI x = z) (hx : Small x) (A3 A4 : Option Addr) (c3 c4 : Nat) (w : World) (l3 : x.f3.length ≤ c3) (hk : Kd.string.C w A3 x.f3.length x.f3) (l4 : x.f4.length ≤ c4) (hv : kI.C w A4 x.f4.length x.f4) :
  Calls Try.prog 19 #[.agg #[.int .i64 x.f0, .int .i64 x.f1, .string x.f2, .slice A3 x.f3.length c3, .slice A4 x.f4.length c4]] w fun e w' => ∃ B3 d3 B4 d4, e = .returned (.agg #[.int .i64 z.f0, .int .i64 z.f1, .string z.f2, .slice B3 z.f3.length d3, .slice B4 z.f4.length d4]) ∧ z.f3.length ≤ d3 ∧ Kd.string.C w' B3 z.f3.length z.f3 ∧ z.f4.length ≤ d4 ∧ kS.C w' B4 z.f4.length z.f4 ∧ Below w.heap.size w w' := by
 subst hz
 obtain ⟨k, hk'⟩ := (ev_from x hx).rounds
 refine (laws_from.calls k x.f0 x.f1 x.f2 A3 c3 x.f3 A4 c4 x.f4 _ _ _ _ _ w hk l3 hv l4 hk').mono ?_
 rintro e w1 ⟨v3, v4, rfl, hr3, hr4, hb⟩
 obtain ⟨B3, d3, rfl, m3, g3⟩ := Kd.R_reads hr3
 obtain ⟨B4, d4, rfl, m4, g4⟩ := Kd.R_reads hr4
 exact ⟨B3, d3, B4, d4, rfl, m3, g3, m4, g4, hb⟩
theorem to_calls (x : VS) (hx : SmallS x) (A3 A4 : Option Addr) (c3 c4 : Nat) (w : World) (l3 : x.f3.length ≤ c3) (hk : Kd.string.C w A3 x.f3.length x.f3) (l4 : x.f4.length ≤ c4) (hv : kS.C w A4 x.f4.length x.f4) :
  Calls Try.prog 13 #[.agg #[.int .i64 x.f0, .int .i64 x.f1, .string x.f2, .slice A3 x.f3.length c3, .slice A4 x.f4.length c4]] w fun e w' => ∃ B3 d3 B4 d4, e = .returned (.agg #[.int .i64 (toI x).f0, .int .i64 (toI x).f1, .string (toI x).f2, .slice B3 (toI x).f3.length d3, .slice B4 (toI x).f4.length d4]) ∧ (toI x).f3.length ≤ d3 ∧ Kd.string.C w' B3 (toI x).f3.length (toI x).f3 ∧ (toI x).f4.length ≤ d4 ∧ kI.C w' B4 (toI x).f4.length (toI x).f4 ∧ Below w.heap.size w w' := by
 obtain ⟨k, hk'⟩ := (ev_to x hx).rounds
 refine (laws_to.calls k x.f0 x.f1 x.f2 A3 c3 x.f3 A4 c4 x.f4 _ _ _ _ _ w hk l3 hv l4 hk').mono ?_
 rintro e w1 ⟨v3, v4, rfl, hr3, hr4, hb⟩
 obtain ⟨B3, d3, rfl, m3, g3⟩ := Kd.R_reads hr3
 obtain ⟨B4, d4, rfl, m4, g4⟩ := Kd.R_reads hr4
 exact ⟨B3, d3, B4, d4, rfl, m3, g3, m4, g4, hb⟩
theorem same_calls (x : VS) (hx : Short x) (A3 A4 : Option Addr) (c3 c4 : Nat) (B3 B4 : Option Addr) (d3 d4 : Nat) (w : World) (l3 : x.f3.length ≤ c3) (hk : Kd.string.C w A3 x.f3.length x.f3) (l4 : x.f4.length ≤ c4) (hv : kS.C w A4 x.f4.length x.f4) (m3 : x.f3.length ≤ d3) (jk : Kd.string.C w B3 x.f3.length x.f3) (m4 : x.f4.length ≤ d4) (jv : kS.C w B4 x.f4.length x.f4) :
  Calls Try.prog 18 #[.agg #[.int .i64 x.f0, .int .i64 x.f1, .string x.f2, .slice A3 x.f3.length c3, .slice A4 x.f4.length c4], .agg #[.int .i64 x.f0, .int .i64 x.f1, .string x.f2, .slice B3 x.f3.length d3, .slice B4 x.f4.length d4]] w fun e w' => e = .returned (.bool true) ∧ Below w.heap.size w w' := by
 obtain ⟨k, hk'⟩ := (ev_same x hx).rounds
 exact spec_Same.calls k x.f0 x.f1 x.f2 A3 c3 x.f3 A4 c4 x.f4 x.f0 x.f1 x.f2 B3 d3 x.f3 B4 d4 x.f4 true w hk l3 hv l4 jk m3 jv m4 hk'
theorem cell_row5 {w : World} {b : Nat} {T : TypeId} {v0 v1 v2 v3 v4 : Value} (h : w.heap[b]? = some (.cells #[v0, v1, v2, v3, v4] T (0, 0))) :
  w.cell? ⟨b, 0, none⟩ = some v0 ∧ w.cell? ⟨b, 1, none⟩ = some v1 ∧ w.cell? ⟨b, 2, none⟩ = some v2 ∧ w.cell? ⟨b, 3, none⟩ = some v3 ∧ w.cell? ⟨b, 4, none⟩ = some v4 := by
 simp [World.cell?, h]
set_option maxHeartbeats 3200000 in
set_option maxRecDepth 100000 in
theorem part_is (ig : Bool) (x want : VS) (y1 y2 : VI) (hx : SmallS x) (h1 : Turns ig (toI x) y1) (h2 : Turns ig y1 y2) (hy1 : Small y1) (hy2 : Small y2) (e1 : fromI y1 = want) (e2 : fromI y2 = want) (hw : Short want)
  (A3 A4 B3 B4 : Option Addr) (c3 c4 d3 d4 : Nat) (w : World) (l3 : x.f3.length ≤ c3) (hk : Kd.string.C w A3 x.f3.length x.f3) (l4 : x.f4.length ≤ c4) (hv : kS.C w A4 x.f4.length x.f4) (m3 : want.f3.length ≤ d3) (jk : Kd.string.C w B3 want.f3.length want.f3) (m4 : want.f4.length ≤ d4) (jv : kS.C w B4 want.f4.length want.f4) :
  Calls Try.prog 9 #[.func (.func 10) #[] #[], .agg #[.int .i64 x.f0, .int .i64 x.f1, .string x.f2, .slice A3 x.f3.length c3, .slice A4 x.f4.length c4], .agg #[.int .i64 want.f0, .int .i64 want.f1, .string want.f2, .slice B3 want.f3.length d3, .slice B4 want.f4.length d4], .bool ig] w fun e w' => e = .returned (.bool true) ∧ Below w.heap.size w w' := by
 have hb1 := below_alloc (Below.refl w.heap.size w) (.cells #[.int .i64 x.f0, .int .i64 x.f1, .string x.f2, .slice A3 x.f3.length c3, .slice A4 x.f4.length c4] 25)
 have hb2 := below_alloc hb1 (.cells #[.int .i64 want.f0, .int .i64 want.f1, .string want.f2, .slice B3 want.f3.length d3, .slice B4 want.f4.length d4] 25)
 have HB := aM hb2
 have hxb : ((w.alloc (.cells #[.int .i64 x.f0, .int .i64 x.f1, .string x.f2, .slice A3 x.f3.length c3, .slice A4 x.f4.length c4] 25)).alloc (.cells #[.int .i64 want.f0, .int .i64 want.f1, .string want.f2, .slice B3 want.f3.length d3, .slice B4 want.f4.length d4] 25)).heap[w.heap.size]? = some (.cells #[.int .i64 x.f0, .int .i64 x.f1, .string x.f2, .slice A3 x.f3.length c3, .slice A4 x.f4.length c4] 25 (0, 0)) := blk_alloc (cb_new _ _) _
 have hwb := cb_new (w.alloc (.cells #[.int .i64 x.f0, .int .i64 x.f1, .string x.f2, .slice A3 x.f3.length c3, .slice A4 x.f4.length c4] 25)) (.cells #[.int .i64 want.f0, .int .i64 want.f1, .string want.f2, .slice B3 want.f3.length d3, .slice B4 want.f4.length d4] 25)
 rw [World.size_alloc] at hwb
 have HW := aM hwb
 have CT := aM (to_calls x hx A3 A4 c3 c4 _ l3 (Kd.C_below hk hb2) l4 (Kd.C_below hv hb2))
 have JK := aM (Kd.C_below jk hb2)
 have JV := aM (Kd.C_below jv hb2)
 have H1 := aM h1
 have H2 := aM h2
 have E1 := aM e1
 have E2 := aM e2
 clear hb1 hb2 hwb hk hv jk jv h1 h2 e1 e2
 generalize toI x = x1 at CT H1
 obtain ⟨z0, z1, z2, z3, z4⟩ := x1
 obtain ⟨p0, p1, p2, p3, p4⟩ := y1
 obtain ⟨q0, q1, q2, q3, q4⟩ := y2
 go_enter Try.func9, Try.ntmps9
 go_wp2_with (refine load_val (.tmp 5) rfl rfl rfl hxb ?_)
 refine CT.out.mono ?_
 rintro e w1 ⟨G3, g3, G4, g4, rfl, k3, r3, k4, r4, hb⟩
 have HB1 := aM (hb_then HB.out hb)
 have HW1 := aM ((hb.block _ (cb_lt HW.out)).trans HW.out)
 have JK1 := aM (Kd.C_below JK.out hb)
 have JV1 := aM (Kd.C_below JV.out hb)
 have CG := aM (H1.out w1 G3 G4 g3 g4 k3 r3 k4 r4)
 clear hb CT r3 r4 k3 k4 HB HW JK JV hxb H1
 go_wp2_with fail
 refine CG.out.mono ?_
 rintro e w2 ⟨v3, v4, rfl, hv3, hv4, hb⟩
 obtain ⟨P3, a3, rfl, k3, r3⟩ := Kd.R_reads hv3
 obtain ⟨P4, a4, rfl, k4, r4⟩ := Kd.R_reads hv4
 have hbn := below_alloc (Below.refl w2.heap.size w2) (.cells #[.int .i64 p0, .int .i64 p1, .string p2, .slice P3 p3.length a3, .slice P4 p4.length a4] 36)
 have HB2 := aM (hb_then (hb_then HB1.out hb) hbn)
 have HW2 := aM (blk_alloc ((hb.block _ (cb_lt HW1.out)).trans HW1.out) (.cells #[.int .i64 p0, .int .i64 p1, .string p2, .slice P3 p3.length a3, .slice P4 p4.length a4] 36))
 have JK2 := aM (Kd.C_below (Kd.C_below JK1.out hb) hbn)
 have JV2 := aM (Kd.C_below (Kd.C_below JV1.out hb) hbn)
 have RK2 := aM (Kd.C_below r3 hbn)
 have RV2 := aM (Kd.C_below r4 hbn)
 have hp := cb_new w2 (.cells #[.int .i64 p0, .int .i64 p1, .string p2, .slice P3 p3.length a3, .slice P4 p4.length a4] 36)
 have HP2 := aM hp
 have CG2 := aM (H2.out _ P3 P4 a3 a4 k3 (Kd.C_below r3 hbn) k4 (Kd.C_below r4 hbn))
 clear hb CG r3 r4 HB1 HW1 JK1 JV1 H2 hv3 hv4 hbn
 go_wp2_with (refine load_ival (.tmp 9) rfl rfl rfl hp ?_)
 refine CG2.out.mono ?_
 rintro e w3 ⟨v3, v4, rfl, hv3, hv4, hb⟩
 obtain ⟨Q3, s3, rfl, n3, t3⟩ := Kd.R_reads hv3
 obtain ⟨Q4, s4, rfl, n4, t4⟩ := Kd.R_reads hv4
 have hbn := below_alloc (Below.refl w3.heap.size w3) (.cells #[.int .i64 q0, .int .i64 q1, .string q2, .slice Q3 q3.length s3, .slice Q4 q4.length s4] 36)
 have hbw := hb_then hb hbn
 have HB3 := aM (hb_then HB2.out hbw)
 have HP3 := aM (cell_row5 ((hbw.block _ (cb_lt HP2.out)).trans HP2.out))
 have HW3 := aM (cell_row5 ((hbw.block _ (cb_lt HW2.out)).trans HW2.out))
 have HQ3 := aM (cell_row5 (cb_new w3 (.cells #[.int .i64 q0, .int .i64 q1, .string q2, .slice Q3 q3.length s3, .slice Q4 q4.length s4] 36)))
 have JK3 := aM (Kd.C_below JK2.out hbw)
 have JV3 := aM (Kd.C_below JV2.out hbw)
 have RK3 := aM (Kd.C_below RK2.out hbw)
 have RV3 := aM (Kd.C_below RV2.out hbw)
 have QK3 := aM (Kd.C_below t3 hbn)
 have QV3 := aM (Kd.C_below t4 hbn)
 have HL3 := aM k3
 have HL4 := aM k4
 have HM3 := aM n3
 have HM4 := aM n4
 clear hb hbw hbn hv3 hv4 t3 t4 CG2 JK2 JV2 RK2 RV2 HP2 HW2 HB2 k3 k4 n3 n4 hp
 go_wp2
 generalize hW0 : w3.alloc _ = W0 at HB3 HP3 HW3 HQ3 JK3 JV3 RK3 RV3 QK3 QV3 ⊢
 obtain ⟨x0, x1, x2, x3, x4⟩ := HP3.out
 obtain ⟨x5, x6, x7, x8, x9⟩ := HW3.out
 obtain ⟨x10, x11, x12, x13, x14⟩ := HQ3.out
 clear HP3 HW3 HQ3 hW0
 refine start_ (n := 17) (S := fun w' => w'.cell? ⟨w2.heap.size, 0, none⟩ = some (.int .i64 p0) ∧ w'.cell? ⟨w2.heap.size, 1, none⟩ = some (.int .i64 p1) ∧ w'.cell? ⟨w2.heap.size, 2, none⟩ = some (.string p2) ∧ w'.cell? ⟨w2.heap.size, 3, none⟩ = some (.slice P3 p3.length a3) ∧ w'.cell? ⟨w2.heap.size, 4, none⟩ = some (.slice P4 p4.length a4) ∧ w'.cell? ⟨w.heap.size + 1, 0, none⟩ = some (.int .i64 want.f0) ∧ w'.cell? ⟨w.heap.size + 1, 1, none⟩ = some (.int .i64 want.f1) ∧ w'.cell? ⟨w.heap.size + 1, 2, none⟩ = some (.string want.f2) ∧ w'.cell? ⟨w.heap.size + 1, 3, none⟩ = some (.slice B3 want.f3.length d3) ∧ w'.cell? ⟨w.heap.size + 1, 4, none⟩ = some (.slice B4 want.f4.length d4) ∧ w'.cell? ⟨w3.heap.size, 0, none⟩ = some (.int .i64 q0) ∧ w'.cell? ⟨w3.heap.size, 1, none⟩ = some (.int .i64 q1) ∧ w'.cell? ⟨w3.heap.size, 2, none⟩ = some (.string q2) ∧ w'.cell? ⟨w3.heap.size, 3, none⟩ = some (.slice Q3 q3.length s3) ∧ w'.cell? ⟨w3.heap.size, 4, none⟩ = some (.slice Q4 q4.length s4)) (ds := []) #[false, false, false, false, false, false, false, false, false, false, false, false, false, false, false, false, false] (by kernel_rfl) rfl rfl ⟨x0, x1, x2, x3, x4, x5, x6, x7, x8, x9, x10, x11, x12, x13, x14⟩ (fun hHeld => ?_)
 refine pure_ (i := 0) (N := some 28) (v := ?_) (a' := ?_) #[true, false, false, false, false, false, false, false, false, false, false, false, false, false, false, false, false] rfl rfl (by kernel_rfl) (fun _ _ _ h => h) (Or.inl ⟨by rfl, ?_⟩) ?_ ?_
 rotate_left
 ·intro w'; go_simp; with_reducible rfl
 rotate_left
 ·simp only [Act.put, sA, sB, sC, i64_w, i32_w]; rfl
 refine pure_ (i := 1) (N := some 29) (v := ?_) (a' := ?_) #[true, true, false, false, false, false, false, false, false, false, false, false, false, false, false, false, false] rfl rfl (by kernel_rfl) (fun _ _ _ h => h) (Or.inl ⟨by rfl, ?_⟩) ?_ ?_
 rotate_left
 ·intro w'; go_simp; with_reducible rfl
 rotate_left
 ·simp only [Act.put, sA, sB, sC, i64_w, i32_w]; rfl
 refine pure_ (i := 2) (N := some 30) (v := ?_) (a' := ?_) #[true, true, true, false, false, false, false, false, false, false, false, false, false, false, false, false, false] rfl rfl (by kernel_rfl) (fun _ _ _ h => h) (Or.inl ⟨by rfl, ?_⟩) ?_ ?_
 rotate_left
 ·intro w'; go_simp; with_reducible rfl
 rotate_left
 ·simp only [Act.put, sA, sB, sC, i64_w, i32_w]; rfl
 refine pure_ (i := 3) (N := some 31) (v := ?_) (a' := ?_) #[true, true, true, true, false, false, false, false, false, false, false, false, false, false, false, false, false] rfl rfl (by kernel_rfl) (fun _ _ _ h => h) (Or.inl ⟨by rfl, ?_⟩) ?_ ?_
 rotate_left
 ·intro w'; go_simp; with_reducible rfl
 rotate_left
 ·simp only [Act.put, sA, sB, sC, i64_w, i32_w]; rfl
 refine pure_ (i := 4) (N := some 32) (v := ?_) (a' := ?_) #[true, true, true, true, true, false, false, false, false, false, false, false, false, false, false, false, false] rfl rfl (by kernel_rfl) (fun _ _ _ h => h) (Or.inl ⟨by rfl, ?_⟩) ?_ ?_
 rotate_left
 ·intro w'; go_simp; with_reducible rfl
 rotate_left
 ·simp only [Act.put, sA, sB, sC, i64_w, i32_w]; rfl
 refine take_ (i := 5) (N := some 33) (v := ?_) (a' := ?_) #[true, true, true, true, true, true, false, false, false, false, false, false, false, false, false, false, false] rfl rfl (by kernel_rfl) (fun _ _ _ h => h) (Or.inl ⟨by rfl, ?_⟩) hHeld ?_ ?_
 rotate_left
 ·rintro w' ⟨s0, s1, s2, s3, s4, s5, s6, s7, s8, s9, s10, s11, s12, s13, s14⟩
  go_simp; with_reducible rfl
 rotate_left
 ·simp only [Act.put, sA, sB, sC, i64_w, i32_w]; rfl
 refine take_ (i := 7) (N := some 35) (v := ?_) (a' := ?_) #[true, true, true, true, true, true, false, true, false, false, false, false, false, false, false, false, false] rfl rfl (by kernel_rfl) (fun _ _ _ h => h) (Or.inl ⟨by rfl, ?_⟩) hHeld ?_ ?_
 rotate_left
 ·rintro w' ⟨s0, s1, s2, s3, s4, s5, s6, s7, s8, s9, s10, s11, s12, s13, s14⟩
  go_simp; with_reducible rfl
 rotate_left
 ·simp only [Act.put, sA, sB, sC, i64_w, i32_w]; rfl
 refine one_ (i := 6) (N := some 34) #[true, true, true, true, true, true, true, true, false, false, false, false, false, false, false, false, false] rfl rfl (by kernel_rfl) (by decide) (fun K hK => ?_)
 refine goes_ Try.func19 (by kernel_rfl) rfl #[.agg #[.int .i64 p0, .int .i64 p1, .string p2, .slice P3 p3.length a3, .slice P4 p4.length a4]] (by rfl) rfl rfl (by simp only [List.map_toArray, List.map_cons, List.map_nil]; rfl) ?_
 with_reducible refine (from_calls ⟨p0, p1, p2, p3, p4⟩ want E1.out hy1 P3 P4 a3 a4 W0.drew HL3.out (Kd.C_below RK3.out (below_drew (Below.refl _ _))) HL4.out (Kd.C_below RV3.out (below_drew (Below.refl _ _)))).mono ?_
 rintro e w4 ⟨F3, b3, F4, b4, rfl, f3, g3, f4, g4, hb4⟩
 refine ⟨_, rfl, ?_⟩
 have F4_ := aM (And.intro f3 (And.intro g3 (And.intro f4 g4)))
 have HB4 := aM (hb_then (below_drew (Below.refl W0.heap.size W0)) hb4)
 clear f3 g3 f4 g4
 refine hK.out _ _ ⟨pw_cell_below hb4 hHeld.1, pw_cell_below hb4 hHeld.2.1, pw_cell_below hb4 hHeld.2.2.1, pw_cell_below hb4 hHeld.2.2.2.1, pw_cell_below hb4 hHeld.2.2.2.2.1, pw_cell_below hb4 hHeld.2.2.2.2.2.1, pw_cell_below hb4 hHeld.2.2.2.2.2.2.1, pw_cell_below hb4 hHeld.2.2.2.2.2.2.2.1, pw_cell_below hb4 hHeld.2.2.2.2.2.2.2.2.1, pw_cell_below hb4 hHeld.2.2.2.2.2.2.2.2.2.1, pw_cell_below hb4 hHeld.2.2.2.2.2.2.2.2.2.2.1, pw_cell_below hb4 hHeld.2.2.2.2.2.2.2.2.2.2.2.1, pw_cell_below hb4 hHeld.2.2.2.2.2.2.2.2.2.2.2.2.1, pw_cell_below hb4 hHeld.2.2.2.2.2.2.2.2.2.2.2.2.2.1, pw_cell_below hb4 hHeld.2.2.2.2.2.2.2.2.2.2.2.2.2.2⟩ (fun hHeld => ?_)
 clear hK K
 refine norm_ (a' := ?_) ?_ ?_
 rotate_left
 ·show Act.put _ (some 34) _ = _
  simp only [Act.put, sA, sB, sC, i64_w, i32_w]; rfl
 refine one_ (i := 8) (N := some 36) #[true, true, true, true, true, true, true, true, true, false, false, false, false, false, false, false, false] rfl rfl (by kernel_rfl) (by decide) (fun K hK => ?_)
 refine goes_ Try.func18 (by kernel_rfl) rfl #[.agg #[.int .i64 want.f0, .int .i64 want.f1, .string want.f2, .slice F3 want.f3.length b3, .slice F4 want.f4.length b4], .agg #[.int .i64 want.f0, .int .i64 want.f1, .string want.f2, .slice B3 want.f3.length d3, .slice B4 want.f4.length d4]] (by rfl) rfl rfl (by simp only [List.map_toArray, List.map_cons, List.map_nil]; rfl) ?_
 with_reducible refine (same_calls want hw F3 F4 b3 b4 B3 B4 d3 d4 w4 F4_.out.1 F4_.out.2.1 F4_.out.2.2.1 F4_.out.2.2.2 m3 (Kd.C_below JK3.out HB4.out) m4 (Kd.C_below JV3.out HB4.out)).mono ?_
 rintro e w5 ⟨rfl, hb5⟩
 refine ⟨_, rfl, ?_⟩
 have HB5 := aM (hb_then HB4.out hb5)
 refine hK.out _ _ ⟨pw_cell_below hb5 hHeld.1, pw_cell_below hb5 hHeld.2.1, pw_cell_below hb5 hHeld.2.2.1, pw_cell_below hb5 hHeld.2.2.2.1, pw_cell_below hb5 hHeld.2.2.2.2.1, pw_cell_below hb5 hHeld.2.2.2.2.2.1, pw_cell_below hb5 hHeld.2.2.2.2.2.2.1, pw_cell_below hb5 hHeld.2.2.2.2.2.2.2.1, pw_cell_below hb5 hHeld.2.2.2.2.2.2.2.2.1, pw_cell_below hb5 hHeld.2.2.2.2.2.2.2.2.2.1, pw_cell_below hb5 hHeld.2.2.2.2.2.2.2.2.2.2.1, pw_cell_below hb5 hHeld.2.2.2.2.2.2.2.2.2.2.2.1, pw_cell_below hb5 hHeld.2.2.2.2.2.2.2.2.2.2.2.2.1, pw_cell_below hb5 hHeld.2.2.2.2.2.2.2.2.2.2.2.2.2.1, pw_cell_below hb5 hHeld.2.2.2.2.2.2.2.2.2.2.2.2.2.2⟩ (fun hHeld => ?_)
 clear hK K
 refine norm_ (a' := ?_) ?_ ?_
 rotate_left
 ·show Act.put _ (some 36) _ = _
  simp only [Act.put, sA, sB, sC, i64_w, i32_w]; rfl
 refine pure_ (i := 9) (N := some 37) (v := ?_) (a' := ?_) #[true, true, true, true, true, true, true, true, true, true, false, false, false, false, false, false, false] rfl rfl (by kernel_rfl) (fun _ _ _ h => h) (Or.inl ⟨by rfl, ?_⟩) ?_ ?_
 rotate_left
 ·intro w'; go_simp; with_reducible rfl
 rotate_left
 ·simp only [Act.put, sA, sB, sC, i64_w, i32_w]; rfl
 refine pure_ (i := 10) (N := some 38) (v := ?_) (a' := ?_) #[true, true, true, true, true, true, true, true, true, true, true, false, false, false, false, false, false] rfl rfl (by kernel_rfl) (fun _ _ _ h => h) (Or.inl ⟨by rfl, ?_⟩) ?_ ?_
 rotate_left
 ·intro w'; go_simp; with_reducible rfl
 rotate_left
 ·simp only [Act.put, sA, sB, sC, i64_w, i32_w]; rfl
 refine take_ (i := 11) (N := some 39) (v := ?_) (a' := ?_) #[true, true, true, true, true, true, true, true, true, true, true, true, false, false, false, false, false] rfl rfl (by kernel_rfl) (fun _ _ _ h => h) (Or.inl ⟨by rfl, ?_⟩) hHeld ?_ ?_
 rotate_left
 ·rintro w' ⟨s0, s1, s2, s3, s4, s5, s6, s7, s8, s9, s10, s11, s12, s13, s14⟩
  go_simp; with_reducible rfl
 rotate_left
 ·simp only [Act.put, sA, sB, sC, i64_w, i32_w]; rfl
 refine take_ (i := 13) (N := some 41) (v := ?_) (a' := ?_) #[true, true, true, true, true, true, true, true, true, true, true, true, false, true, false, false, false] rfl rfl (by kernel_rfl) (fun _ _ _ h => h) (Or.inl ⟨by rfl, ?_⟩) hHeld ?_ ?_
 rotate_left
 ·rintro w' ⟨s0, s1, s2, s3, s4, s5, s6, s7, s8, s9, s10, s11, s12, s13, s14⟩
  go_simp; with_reducible rfl
 rotate_left
 ·simp only [Act.put, sA, sB, sC, i64_w, i32_w]; rfl
 refine one_ (i := 12) (N := some 40) #[true, true, true, true, true, true, true, true, true, true, true, true, true, true, false, false, false] rfl rfl (by kernel_rfl) (by decide) (fun K hK => ?_)
 refine goes_ Try.func19 (by kernel_rfl) rfl #[.agg #[.int .i64 q0, .int .i64 q1, .string q2, .slice Q3 q3.length s3, .slice Q4 q4.length s4]] (by rfl) rfl rfl (by simp only [List.map_toArray, List.map_cons, List.map_nil]; rfl) ?_
 with_reducible refine (from_calls ⟨q0, q1, q2, q3, q4⟩ want E2.out hy2 Q3 Q4 s3 s4 w5 HM3.out (Kd.C_below QK3.out HB5.out) HM4.out (Kd.C_below QV3.out HB5.out)).mono ?_
 rintro e w6 ⟨G3_, i3, G4_, i4, rfl, f3, g3, f4, g4, hb6⟩
 refine ⟨_, rfl, ?_⟩
 have F6_ := aM (And.intro f3 (And.intro g3 (And.intro f4 g4)))
 have HB6 := aM (hb_then HB5.out hb6)
 clear f3 g3 f4 g4
 refine hK.out _ _ ⟨pw_cell_below hb6 hHeld.1, pw_cell_below hb6 hHeld.2.1, pw_cell_below hb6 hHeld.2.2.1, pw_cell_below hb6 hHeld.2.2.2.1, pw_cell_below hb6 hHeld.2.2.2.2.1, pw_cell_below hb6 hHeld.2.2.2.2.2.1, pw_cell_below hb6 hHeld.2.2.2.2.2.2.1, pw_cell_below hb6 hHeld.2.2.2.2.2.2.2.1, pw_cell_below hb6 hHeld.2.2.2.2.2.2.2.2.1, pw_cell_below hb6 hHeld.2.2.2.2.2.2.2.2.2.1, pw_cell_below hb6 hHeld.2.2.2.2.2.2.2.2.2.2.1, pw_cell_below hb6 hHeld.2.2.2.2.2.2.2.2.2.2.2.1, pw_cell_below hb6 hHeld.2.2.2.2.2.2.2.2.2.2.2.2.1, pw_cell_below hb6 hHeld.2.2.2.2.2.2.2.2.2.2.2.2.2.1, pw_cell_below hb6 hHeld.2.2.2.2.2.2.2.2.2.2.2.2.2.2⟩ (fun hHeld => ?_)
 clear hK K
 refine norm_ (a' := ?_) ?_ ?_
 rotate_left
 ·show Act.put _ (some 40) _ = _
  simp only [Act.put, sA, sB, sC, i64_w, i32_w]; rfl
 refine one_ (i := 14) (N := some 42) #[true, true, true, true, true, true, true, true, true, true, true, true, true, true, true, false, false] rfl rfl (by kernel_rfl) (by decide) (fun K hK => ?_)
 refine goes_ Try.func18 (by kernel_rfl) rfl #[.agg #[.int .i64 want.f0, .int .i64 want.f1, .string want.f2, .slice G3_ want.f3.length i3, .slice G4_ want.f4.length i4], .agg #[.int .i64 want.f0, .int .i64 want.f1, .string want.f2, .slice B3 want.f3.length d3, .slice B4 want.f4.length d4]] (by rfl) rfl rfl (by simp only [List.map_toArray, List.map_cons, List.map_nil]; rfl) ?_
 with_reducible refine (same_calls want hw G3_ G4_ i3 i4 B3 B4 d3 d4 w6 F6_.out.1 F6_.out.2.1 F6_.out.2.2.1 F6_.out.2.2.2 m3 (Kd.C_below JK3.out HB6.out) m4 (Kd.C_below JV3.out HB6.out)).mono ?_
 rintro e w7 ⟨rfl, hb7⟩
 refine ⟨_, rfl, ?_⟩
 have HB7 := aM (hb_then HB6.out hb7)
 refine hK.out _ _ ⟨pw_cell_below hb7 hHeld.1, pw_cell_below hb7 hHeld.2.1, pw_cell_below hb7 hHeld.2.2.1, pw_cell_below hb7 hHeld.2.2.2.1, pw_cell_below hb7 hHeld.2.2.2.2.1, pw_cell_below hb7 hHeld.2.2.2.2.2.1, pw_cell_below hb7 hHeld.2.2.2.2.2.2.1, pw_cell_below hb7 hHeld.2.2.2.2.2.2.2.1, pw_cell_below hb7 hHeld.2.2.2.2.2.2.2.2.1, pw_cell_below hb7 hHeld.2.2.2.2.2.2.2.2.2.1, pw_cell_below hb7 hHeld.2.2.2.2.2.2.2.2.2.2.1, pw_cell_below hb7 hHeld.2.2.2.2.2.2.2.2.2.2.2.1, pw_cell_below hb7 hHeld.2.2.2.2.2.2.2.2.2.2.2.2.1, pw_cell_below hb7 hHeld.2.2.2.2.2.2.2.2.2.2.2.2.2.1, pw_cell_below hb7 hHeld.2.2.2.2.2.2.2.2.2.2.2.2.2.2⟩ (fun hHeld => ?_)
 clear hK K
 refine norm_ (a' := ?_) ?_ ?_
 rotate_left
 ·show Act.put _ (some 42) _ = _
  simp only [Act.put, sA, sB, sC, i64_w, i32_w]; rfl
 refine pure_ (i := 15) (N := some 43) (v := ?_) (a' := ?_) #[true, true, true, true, true, true, true, true, true, true, true, true, true, true, true, true, false] rfl rfl (by kernel_rfl) (fun _ _ _ h => h) (Or.inl ⟨by rfl, ?_⟩) ?_ ?_
 rotate_left
 ·intro w'; go_simp; with_reducible rfl
 rotate_left
 ·simp only [Act.put, sA, sB, sC, i64_w, i32_w]; rfl
 refine pure_ (i := 16) (N := some 8) (v := ?_) (a' := ?_) #[true, true, true, true, true, true, true, true, true, true, true, true, true, true, true, true, true] rfl rfl (by kernel_rfl) (fun _ _ _ h => h) (Or.inl ⟨by rfl, ?_⟩) ?_ ?_
 rotate_left
 ·intro w'; go_simp; with_reducible rfl
 rotate_left
 ·simp only [Act.put, sA, sB, sC, i64_w, i32_w]; rfl
 refine done_ (by kernel_rfl) ?_
 go_wp2
 go_ret
 exact ⟨rfl, hb_then HB3.out (HB7.out)⟩
end Go.Proofs.Ytaembebbaejfiaa.Tr
namespace Go.Proofs.Ytaembebbaejfiaa.Tr
open Go.RowKit Go.Proofs.YtaembebbaejfiaaW.PrintWords Go.Proofs.YtaembebbaejfiaaW.PrintLast Go.Proofs.Ytaembebbaejfiaa.Str Go.Proofs.Ytaembebbaejfiaa.Kit Go.Proofs.Ytaembebbaejfiaa.MapV Go.Proofs.Ytaembebbaejfiaa.Frame Go.Proofs.Ytaembebbaejfiaa.PS
set_option linter.unusedVariables false
set_option linter.unusedSimpArgs false
theorem kAny_at {w : World} {A : Option Addr} {xs : List Value} (h : kAny.C w A xs.length xs) (h0 : 0 < xs.length) :
  ∃ bk off, A = some ⟨bk, off, none⟩ ∧ bk < w.heap.size ∧ ∀ (j : Nat) (hj : j < xs.length), w.cell? ⟨bk, off + j, none⟩ = some xs[j] := by
 obtain ⟨hl, hm, hc⟩ := h
 obtain ⟨ad, rfl, hcc⟩ := hc h0
 have cell : ∀ (j : Nat) (hj : j < xs.length), w.cell? (ad.add j) = some xs[j] := by
  intro j hj
  obtain ⟨c, hcl, hr, hcell⟩ := hcc j xs[j] (List.getElem?_eq_getElem hj)
  have hr' : c = [xs[j]] := hr.1
  subst hr'
  have := hcell 0 _ rfl
  rw [show j * kAny.sz + 0 = j from by show j * 1 + 0 = j; omega] at this
  exact this
 have c0 := cell 0 h0
 obtain ⟨bk, off, spot⟩ := ad
 have hspot : spot = none := by
  cases hs : spot with
  | none => rfl
  | some sp =>
   exfalso
   subst hs
   simp [World.cell?, Addr.add] at c0
   split at c0 <;> simp at c0
 subst hspot
 have add : ∀ j : Nat, (⟨bk, off, none⟩ : Addr).add j = ⟨bk, off + j, none⟩ := by intro j; unfold Addr.add; split <;> simp_all
 refine ⟨bk, off, rfl, ?_, fun j hj => (add j) ▸ cell j hj⟩
 rw [add] at c0
 by_cases hb : bk < w.heap.size
 ·exact hb
 ·simp [World.cell?, Array.getElem?_eq_none (Nat.le_of_not_lt hb)] at c0
def FromAt (y : Y) : Prop := ∀ (v : Value) (F : Nat → Prop) (w : World), AR w v y F → Calls Try.prog 42 #[v] w (Told w (valOf y))
theorem t_lst_bool (v : Value) (w : World) : (Instr.typeAssert (.iface 58 v) 20 4 true).run Try.prog w = .ok (.tuple #[.bool false, .bool false]) w := by kernel_rfl
theorem t_lst_int (v : Value) (w : World) : (Instr.typeAssert (.iface 58 v) 20 3 true).run Try.prog w = .ok (.tuple #[.int .i64 0, .bool false]) w := by kernel_rfl
theorem t_lst_i64 (v : Value) (w : World) : (Instr.typeAssert (.iface 58 v) 20 2 true).run Try.prog w = .ok (.tuple #[.int .i64 0, .bool false]) w := by kernel_rfl
theorem t_lst_u64 (v : Value) (w : World) : (Instr.typeAssert (.iface 58 v) 20 71 true).run Try.prog w = .ok (.tuple #[.int .u64 0, .bool false]) w := by kernel_rfl
theorem t_lst_str (v : Value) (w : World) : (Instr.typeAssert (.iface 58 v) 20 9 true).run Try.prog w = .ok (.tuple #[.string ⟨#[]⟩, .bool false]) w := by kernel_rfl
theorem t_lst (v : Value) (w : World) : (Instr.typeAssert (.iface 58 v) 20 58 true).run Try.prog w = .ok (.tuple #[v, .bool true]) w := by kernel_rfl
theorem info_iv : (Try.prog.info? 36).map (fun i => (i.zero, i.size, i.bytes)) = some (some (.agg #[.int .i64 0, .int .i64 0, .string ⟨#[]⟩, .slice none 0 0, .slice none 0 0]), 5, 80) := by kernel_rfl
theorem told_row {fn : Func} (hr : fn.results = #[.cell 2 36, .tmp 3]) {tmps : Array Value} {W : World} {b n3 c3 n4 c4 : Nat} {k n : Int} {t : BA} {A3 A4 : Option Addr} (hp : tmps.getD 2 undef = .pointer (some ⟨b, 0, none⟩)) (h3 : tmps.getD 3 undef = .bool true) (hb : W.heap[b]? = some (.cells #[.int .i64 k, .int .i64 n, .string t, .slice A3 n3 c3, .slice A4 n4 c4] 36 (0, 0))) :
  (results fn tmps).run Try.prog W = .ok (.tuple #[.agg #[.int .i64 k, .int .i64 n, .string t, .slice A3 n3 c3, .slice A4 n4 c4], .bool true]) W := by
 have := results_ct (P := Try.prog) hr tmps W b 36 _ (0, 0) _ hp hb Try.underlying36 rfl ival_size
 rw [h3] at this
 exact this
set_option maxHeartbeats 6400000 in
set_option maxRecDepth 100000 in
theorem from_list (zs : List En) (A : Option Addr) (c : Nat) (w : World) (hn : zs.length ≤ 1759218604400) (hC : kAny.C w A zs.length (zs.map (fun z => z.1))) (hz : ∀ z, z ∈ zs → AR w z.1 z.2.1 z.2.2) (hch : ∀ z, z ∈ zs → FromAt z.2.1) :
  Calls Try.prog 42 #[.iface 58 (.slice A zs.length c)] w (Told w (valOf (.list (zs.map (fun z => z.2.1))))) := by
 have f0 := t_lst_bool
 have f1 := t_lst_int
 have f2 := t_lst_i64
 have f3 := t_lst_u64
 have f4 := t_lst_str
 have f5 := t_lst
 have HC := aM hC
 have HZ := aM hz
 have HCH := aM hch
 have hb0 := below_alloc (Below.refl w.heap.size w) (.cells #[.int .i64 0, .int .i64 0, .string ⟨#[]⟩, .slice none 0 0, .slice none 0 0] 36)
 have HB0 := aM (below_alloc hb0 (.cells #[.int .i64 0, .int .i64 0, .string ⟨#[]⟩, .slice none 0 0, .slice none 0 0] 36))
 have HZ0 := aM (show ((w.alloc (.cells #[.int .i64 0, .int .i64 0, .string ⟨#[]⟩, .slice none 0 0, .slice none 0 0] 36)).alloc (.cells #[.int .i64 0, .int .i64 0, .string ⟨#[]⟩, .slice none 0 0, .slice none 0 0] 36)).heap[w.heap.size]? = some (.cells zI 36 (0, 0)) from blk_alloc (cb_new _ _) _)
 have h1 := cb_new (w.alloc (.cells #[.int .i64 0, .int .i64 0, .string ⟨#[]⟩, .slice none 0 0, .slice none 0 0] 36)) (.cells #[.int .i64 0, .int .i64 0, .string ⟨#[]⟩, .slice none 0 0, .slice none 0 0] 36)
 rw [World.size_alloc] at h1
 clear hC hz hch hb0
 go_enter Try.func42, Try.ntmps42
 go_wp2_with (refine store_ival (.tmp 11) (.tmp 49) rfl rfl rfl rfl h1 ?_)
 have HX1 := aM (setRow_heap _ (w.heap.size + 1) _ #[.int .i64 4, .int .i64 0, .string ⟨#[]⟩, .slice none 0 0, .slice none 0 0] _ _ h1)
 have hg := grown_setRow ((w.alloc (.cells #[.int .i64 0, .int .i64 0, .string ⟨#[]⟩, .slice none 0 0, .slice none 0 0] 36)).alloc (.cells #[.int .i64 0, .int .i64 0, .string ⟨#[]⟩, .slice none 0 0, .slice none 0 0] 36)) (w.heap.size + 1) #[.int .i64 4, .int .i64 0, .string ⟨#[]⟩, .slice none 0 0, .slice none 0 0]
 have HB1 := aM (pw_below_grown HB0.out (some (w.heap.size + 1)) HB0.out.size hg (fun k hk => by injection hk with hk; have h2 : w.heap.size + 1 = k := hk; omega))
 have HZ1 := aM ((hg.block w.heap.size (cb_lt HZ0.out) (fun e => by injection e with e; omega)).trans HZ0.out)
 clear hg h1 HB0 HZ0
 go_loopw [52, 12, 13, 14] (fun v52 v12 v13 v14 wr => ∃ (i : Nat) (A2 : Option Addr) (c2 : Nat), v52 = .int .i64 i ∧ i ≤ zs.length ∧ Aside0 (wr.heap[w.heap.size + 1]? = some (.cells #[.int .i64 4, .int .i64 0, .string ⟨#[]⟩, .slice none 0 0, .slice A2 i c2] 36 (0, 0))) ∧ Aside0 (kI.R 36 wr (w.heap.size + 2) (fun _ => True) (.slice A2 i c2) ((zs.take i).map (fun z => valOf z.2.1))) ∧ Aside0 (Below w.heap.size w wr) ∧ Aside0 (wr.heap[w.heap.size]? = some (.cells zI 36 (0, 0)))) (fun v52 _ _ _ _ => zs.length - (intOf v52).toNat)
 case atStart => exact ⟨0, none, 0, rfl, by omega, HX1, ⟨Kd.R_nil _ _ _ _ _⟩, HB1, HZ1⟩
 case round =>
  clear HX1 HB1 HZ1
  obtain ⟨i, A2, c2, rfl, hiv, HX, HR, HB, HZ0⟩ := hrel
  have q0 : (0 : Int) ≤ (i : Int) := by omega
  by_cases hlv : i < zs.length
  ·have q2 : (i : Int) < (zs.length : Int) := by omega
   have hl0 : (zs.map (fun z => z.1)).length = zs.length := List.length_map ..
   obtain ⟨vb, vo, rfl, hvb, hvc⟩ := kAny_at (A := A) (xs := zs.map (fun z => z.1)) (by rw [hl0]; exact HC.out) (by omega)
   have e0 : w.cell? ⟨vb, vo + i, none⟩ = some (zs[i]'hlv).1 := by
    have h := hvc i (by omega)
    rw [List.getElem_map] at h
    exact h
   have y0 := pw_cell_below HB.out e0
   have CA := aM (fun (W : World) (hb : Below w.heap.size w W) => HCH.out zs[i] (List.getElem_mem hlv) zs[i].1 _ W ((HZ.out zs[i] (List.getElem_mem hlv)).keep hb))
   clear hvc e0 hl0
   go_wp2_with fail
   refine (CA.out wr HB.out).mono ?_
   rintro e w3 ⟨v3, v4, rfl, hv3, hv4, hb3⟩
   have HXE := aM (show (zs.take (i + 1)).map (fun z => valOf z.2.1) = (zs.take i).map (fun z => valOf z.2.1) ++ [valOf (zs[i]'hlv).2.1] by rw [List.take_succ_eq_append_getElem hlv, List.map_append]; rfl)
   generalize valOf (zs[i]'hlv).2.1 = x at hv3 hv4 HXE
   obtain ⟨x0, x1, x2, x3, x4⟩ := x
   obtain ⟨A3, c3, rfl⟩ := Kd.R_slice hv3
   obtain ⟨A4, c4, rfl⟩ := Kd.R_slice hv4
   have hW := below_alloc hb3 (.cells #[.int .i64 0, .int .i64 0, .string ⟨#[]⟩, .slice none 0 0, .slice none 0 0] 36)
   have h5 := cb_new w3 (.cells #[.int .i64 0, .int .i64 0, .string ⟨#[]⟩, .slice none 0 0, .slice none 0 0] 36)
   have hg5 := grown_setRow (w3.alloc (.cells #[.int .i64 0, .int .i64 0, .string ⟨#[]⟩, .slice none 0 0, .slice none 0 0] 36)) w3.heap.size #[.int .i64 x0, .int .i64 x1, .string x2, .slice A3 x3.length c3, .slice A4 x4.length c4]
   have hb5 := pw_below_grown hW (some w3.heap.size) hW.size hg5 (fun k hk => by injection hk with hk; have := hb3.size; omega)
   have h6 := setRow_heap _ w3.heap.size _ #[.int .i64 x0, .int .i64 x1, .string x2, .slice A3 x3.length c3, .slice A4 x4.length c4] _ _ h5
   have hm5 : ∀ k, k < w3.heap.size → ((w3.alloc (.cells #[.int .i64 0, .int .i64 0, .string ⟨#[]⟩, .slice none 0 0, .slice none 0 0] 36)).setRow w3.heap.size #[.int .i64 x0, .int .i64 x1, .string x2, .slice A3 x3.length c3, .slice A4 x4.length c4]).heap[k]? = w3.heap[k]? := fun k hk => (hg5.block k (by rw [World.size_alloc]; omega) (fun e => by injection e with e; omega)).trans ((below_alloc (Below.refl w3.heap.size w3) _).block k hk)
   have HX5 := aM ((hb5.block _ (cb_lt HX.out)).trans HX.out)
   have x4_ := cb_cell (i := 4) HX5.out rfl
   have HZ5 := aM ((hb5.block _ (cb_lt HZ0.out)).trans HZ0.out)
   have HR5 := aM (Kd.R_below HR.out hb5)
   have HB5 := aM (hb_then HB.out hb5)
   have HM := aM (k36_mkM ((w3.alloc (.cells #[.int .i64 0, .int .i64 0, .string ⟨#[]⟩, .slice none 0 0, .slice none 0 0] 36)).setRow w3.heap.size #[.int .i64 x0, .int .i64 x1, .string x2, .slice A3 x3.length c3, .slice A4 x4.length c4]) (w.heap.size + 2) (fun k => wr.heap.size ≤ k ∧ k < w3.heap.size) ⟨x0, x1, x2, x3, x4⟩
    (Kd.R_lower (Kd.R_move (Kd.R_mono (ok' := fun k => wr.heap.size ≤ k ∧ k < w3.heap.size) (Kd.R_bound hv3) (fun k hk => ⟨hk.2.1, hk.2.2.1⟩)) (fun k hk => hm5 k hk.2)) (by have := cb_lt HX.out; omega))
    (Kd.R_lower (Kd.R_move (Kd.R_mono (ok' := fun k => wr.heap.size ≤ k ∧ k < w3.heap.size) (Kd.R_bound hv4) (fun k hk => ⟨hk.2.1, hk.2.2.1⟩)) (fun k hk => hm5 k hk.2)) (by have := cb_lt HX.out; omega)))
   have HOK := aM (show ∀ k, wr.heap.size ≤ k ∧ k < w3.heap.size → True ∧ some k ≠ (Value.slice A2 i c2).ownBlock from fun k hk => ⟨trivial, fun e => by have := ((Kd.R_bound HR.out).1 k e.symm).2.2.1; omega⟩)
   have hsz := cb_lt HX5.out
   clear hv3 hv4 hW hg5 hb5 hm5 HX HR HB HZ0
   go_wp2_with (first | (refine store_ival (.tmp 13) (.tmp 61) rfl rfl rfl rfl h5 ?_; generalize (w3.alloc (.cells #[.int .i64 0, .int .i64 0, .string ⟨#[]⟩, .slice none 0 0, .slice none 0 0] 36)).setRow w3.heap.size #[.int .i64 x0, .int .i64 x1, .string x2, .slice A3 x3.length c3, .slice A4 x4.length c4] = W5 at h6 x4_ HX5 HZ5 HR5 HB5 HM hsz ⊢; clear h5) | refine load_ival (.tmp 13) rfl rfl rfl h6 ?_ | refine Kd.R_append kI (w0 := W5) (w.heap.size + 2) rfl (.tmp 67) (.tmp 69) 34 36 (.agg #[.int .i64 0, .int .i64 0, .string ⟨#[]⟩, .slice none 0 0, .slice none 0 0]) 80 rfl Try.underlying34 info_iv rfl (show 0 < 5 by decide) (by decide) (.slice A2 i c2) ((zs.take i).map (fun z => valOf z.2.1)) ⟨x0, x1, x2, x3, x4⟩ _ (fun _ => True) _ rfl rfl HM.out HOK.out (fun _ _ => trivial) HR5.out (Below.refl _ _) (by omega) (by rw [List.length_map, List.length_take]; omega) ?_)
   intro v1 w6 ho hb6 hg6 hat
   rw [← List.map_take, ← HXE.out] at ho
   have hlen : ((zs.take (i + 1)).map (fun z => valOf z.2.1)).length = i + 1 := by rw [List.length_map, List.length_take]; omega
   obtain ⟨A5, c5, rfl⟩ := Kd.R_slice ho
   rw [hlen] at ho hat ⊢
   have hB6 := pw_below_grown HB5.out (Value.slice A2 i c2).ownBlock HB5.out.size hg6 (fun k hk => by have := Kd.R_base HR5.out k hk; omega)
   have hX6 := (hb6.block (w.heap.size + 1) (by omega)).trans HX5.out
   have hZ6 := (hb6.block w.heap.size (by omega)).trans HZ5.out
   have HX7 := aM (cb_set hX6 (i := 4) (.slice A5 (i + 1) c5))
   have hg7 := grown_setCell w6 (w.heap.size + 1) 4 (.slice A5 (i + 1) c5)
   have HB7 := aM (pw_below_grown hB6 (some (w.heap.size + 1)) hB6.size hg7 (fun k hk => by injection hk with hk; omega))
   have HZ7 := aM ((hg7.block w.heap.size (cb_lt hZ6) (fun e => by injection e with e; omega)).trans hZ6)
   have HR7 := aM (Kd.R_mono (ok' := fun _ => True) (Kd.R_move (Kd.R_bound ho) (fun k hk => hg7.block k hk.2.2.1 (fun e => by have h2 := Option.some.inj e; have h3 := hk.2.1; omega))) (fun _ _ => trivial))
   have y4 := cb_cell (i := 4) hX6 rfl
   have y5 := cb_frozen (i := 4) hX6
   clear ho hat hlen hB6 hX6 hZ6 hb6 hg6 hg7 HX5 HZ5 HR5 HB5 HM HOK HXE CA x4_ h6 hsz
   go_wp2
   go_roundw
   case rel => exact ⟨i + 1, A5, c5, by go_num, by omega, HX7, HR7, HB7, HZ7⟩
   case measure => simp [intOf]; omega
  ·have hin : i = zs.length := by omega
   subst hin
   have hg8 := grown_setRow wr w.heap.size #[.int .i64 4, .int .i64 0, .string ⟨#[]⟩, .slice none 0 0, .slice A2 zs.length c2]
   have HX8 := aM (setRow_heap _ w.heap.size _ #[.int .i64 4, .int .i64 0, .string ⟨#[]⟩, .slice none 0 0, .slice A2 zs.length c2] _ _ HZ0.out)
   have HB8 := aM (pw_below_grown HB.out (some w.heap.size) HB.out.size hg8 (fun k hk => by injection hk with hk; omega))
   have hR := HR.out
   rw [List.take_length] at hR
   have HR8 := aM (Kd.R_lower (base' := w.heap.size) (Kd.R_mono (ok' := fun _ => True) (Kd.R_move (Kd.R_bound hR) (fun k hk => hg8.block k hk.2.2.1 (fun e => by have h2 := Option.some.inj e; have h3 := hk.2.1; omega))) (fun _ _ => trivial)) (by omega))
   have h11 := HX.out
   have h2 := HZ0.out
   clear hR hg8
   go_wp2_with (first | refine load_ival (.tmp 11) rfl rfl rfl h11 ?_ | refine store_ival (.tmp 2) (.tmp 73) rfl rfl rfl rfl h2 ?_)
   exact bodyPost_ret (v := .tuple #[.agg #[.int .i64 4, .int .i64 0, .string ⟨#[]⟩, .slice none 0 0, .slice A2 zs.length c2], .bool true]) (told_row rfl rfl rfl HX8.out) rfl ⟨.slice none 0 0, .slice A2 zs.length c2, by simp [valOf], by simp only [valOf]; exact Kd.R_nil _ _ _ _ _, by simp only [valOf]; rw [valL_map, List.map_map]; exact HR8.out, HB8.out⟩
end Go.Proofs.Ytaembebbaejfiaa.Tr
namespace Go.Proofs
open Go.Shelf
def Try.lays156_ren : Go.Shelf.Ren := ⟨fun | 156 => 52 | 165 => 58 | 166 => 59 | 169 => 60 | 240 => 63 | 241 => 64 | 276 => 67 | 277 => 68 | n => n, fun | 31 => 22 | 9 => 9 | 3 => 3 | 4 => 4 | 0 => 0 | 20 => 20 | 72 => 83 | 76 => 85 | 70 => 81 | 37 => 69 | 75 => 52 | 127 => 93 | 164 => 97 | 5 => 5 | 80 => 87 | n => n, fun | n => n⟩
theorem Try.lays156 : Go.Proofs.Lays.n156 Try.prog Try.lays156_ren := {
 mixed := by kernel_rfl
 f156 := Try.func52.trans (congrArg some (by kernel_rfl))
 f165 := Try.func58.trans (congrArg some (by kernel_rfl))
 f166 := Try.func59.trans (congrArg some (by kernel_rfl))
 f169 := Try.func60.trans (congrArg some (by kernel_rfl))
 f240 := Try.func63.trans (congrArg some (by kernel_rfl))
 f241 := Try.func64.trans (congrArg some (by kernel_rfl))
 f276 := Try.func67.trans (congrArg some (by kernel_rfl))
 f277 := Try.func68.trans (congrArg some (by kernel_rfl))
 t0 := Try.underlying0
 a0 := Try.isAgg0
 z0 := Try.sizeOf0
 v0 := Try.zeroValue0
 t3 := Try.underlying3
 a3 := Try.isAgg3
 z3 := Try.sizeOf3
 v3 := Try.zeroValue3
 t4 := Try.underlying4
 a4 := Try.isAgg4
 z4 := Try.sizeOf4
 v4 := Try.zeroValue4
 t9 := Try.underlying9
 a9 := Try.isAgg9
 z9 := Try.sizeOf9
 v9 := Try.zeroValue9
 t20 := Try.underlying20
 a20 := Try.isAgg20
 z20 := Try.sizeOf20
 v20 := Try.zeroValue20
 t31 := Try.underlying22
 a31 := Try.isAgg22
 z31 := Try.sizeOf22
 v31 := Try.zeroValue22
 t37 := Try.underlying69
 a37 := Try.isAgg69
 z37 := Try.sizeOf69
 v37 := Try.zeroValue69
 t70 := Try.underlying81
 a70 := Try.isAgg81
 z70 := Try.sizeOf81
 v70 := Try.zeroValue81
 t72 := Try.underlying83
 a72 := Try.isAgg83
 z72 := Try.sizeOf83
 v72 := Try.zeroValue83
 t75 := Try.underlying52
 a75 := Try.isAgg52
 z75 := Try.sizeOf52
 v75 := Try.zeroValue52
 t76 := Try.underlying85
 a76 := Try.isAgg85
 z76 := Try.sizeOf85
 v76 := Try.zeroValue85
 t127 := Try.underlying93
 a127 := Try.isAgg93
 z127 := Try.sizeOf93
 v127 := Try.zeroValue93
 t164 := Try.underlying97
 a164 := Try.isAgg97
 z164 := Try.sizeOf97
 v164 := Try.zeroValue97 }
theorem Try.Builder_Extra_156 : Builder.Extra Try.prog Try.lays156_ren := {
 sizeBuilder := by kernel_rfl
 liesBuilder := by kernel_rfl
 t5 := Try.underlying5
 a5 := Try.isAgg5
 z5 := Try.sizeOf5
 v5 := Try.zeroValue5
 infoByte := by kernel_rfl
 cellsByte := by kernel_rfl
 sizeByte := by kernel_rfl
 neB5 := by decide }
open Go.RowKit in
theorem Try.strings_Join_none (a : Option Addr) (c : Nat) (sep : ByteArray) (w : World) :
  Calls Try.prog 52 #[.slice a 0 c, .string sep] w fun e w' => e = .returned (.string ⟨#[]⟩) ∧ w' = w := Any.strings_Join_none Try.lays156 Try.Builder_Extra_156 a c sep w
open Go.RowKit in
theorem Try.strings_Join (bk o c : Nat) (xs : List ByteArray) (sep : ByteArray) (w : World) (hcells : ∀ (j : Nat) x, xs[j]? = some x → w.cell? ⟨bk, o + j, none⟩ = some (.string x)) (hbk : bk < w.heap.size) (hN : xs.length ≤ 140737488355328) (hcap : xs.length ≤ c) (hlen : (Lib.join (xs.map (·.data.toList)) sep.data.toList).length ≤ 140737488355328) :
  Calls Try.prog 52 #[.slice (some ⟨bk, o, none⟩) xs.length c, .string sep] w fun e w' => e = .returned (.string ⟨(Lib.join (xs.map (·.data.toList)) sep.data.toList).toArray⟩) ∧ Below w.heap.size w w' := Any.strings_Join Try.lays156 Try.Builder_Extra_156 bk o c xs sep w hcells hbk hN hcap hlen
def Try.lays192_ren : Go.Shelf.Ren := ⟨fun | 192 => 57 | 190 => 62 | 125 => 66 | 258 => 65 | 128 => 78 | 129 => 79 | 302 => 69 | 303 => 70 | 304 => 71 | 305 => 72 | 306 => 73 | 307 => 74 | 308 => 75 | 309 => 76 | 310 => 77 | 333 => 80 | 329 => 81 | 330 => 82 | 334 => 83 | 335 => 84 | 336 => 85 | 344 => 86 | n => n, fun | 31 => 22 | 0 => 0 | 9 => 9 | 3 => 3 | 46 => 96 | 51 => 109 | 53 => 71 | 4 => 4 | 183 => 102 | 182 => 101 | 131 => 62 | 5 => 5 | 218 => 111 | 222 => 115 | 228 => 117 | 229 => 118 | n => n, fun | n => n⟩
theorem Try.lays192 : Go.Proofs.Lays.n192 Try.prog Try.lays192_ren := {
 mixed := by kernel_rfl
 f125 := Try.func66.trans (congrArg some (by kernel_rfl))
 f128 := Try.func78.trans (congrArg some (by kernel_rfl))
 f129 := Try.func79.trans (congrArg some (by kernel_rfl))
 f190 := Try.func62.trans (congrArg some (by kernel_rfl))
 f192 := Try.func57.trans (congrArg some (by kernel_rfl))
 f258 := Try.func65.trans (congrArg some (by kernel_rfl))
 f302 := Try.func69.trans (congrArg some (by kernel_rfl))
 f303 := Try.func70.trans (congrArg some (by kernel_rfl))
 f304 := Try.func71.trans (congrArg some (by kernel_rfl))
 f305 := Try.func72.trans (congrArg some (by kernel_rfl))
 f306 := Try.func73.trans (congrArg some (by kernel_rfl))
 f307 := Try.func74.trans (congrArg some (by kernel_rfl))
 f308 := Try.func75.trans (congrArg some (by kernel_rfl))
 f309 := Try.func76.trans (congrArg some (by kernel_rfl))
 f310 := Try.func77.trans (congrArg some (by kernel_rfl))
 f329 := Try.func81.trans (congrArg some (by kernel_rfl))
 f330 := Try.func82.trans (congrArg some (by kernel_rfl))
 f333 := Try.func80.trans (congrArg some (by kernel_rfl))
 f334 := Try.func83.trans (congrArg some (by kernel_rfl))
 f335 := Try.func84.trans (congrArg some (by kernel_rfl))
 f336 := Try.func85.trans (congrArg some (by kernel_rfl))
 f344 := Try.func86.trans (congrArg some (by kernel_rfl))
 t0 := Try.underlying0
 a0 := Try.isAgg0
 z0 := Try.sizeOf0
 v0 := Try.zeroValue0
 t3 := Try.underlying3
 a3 := Try.isAgg3
 z3 := Try.sizeOf3
 v3 := Try.zeroValue3
 t4 := Try.underlying4
 a4 := Try.isAgg4
 z4 := Try.sizeOf4
 v4 := Try.zeroValue4
 t5 := Try.underlying5
 a5 := Try.isAgg5
 z5 := Try.sizeOf5
 v5 := Try.zeroValue5
 t9 := Try.underlying9
 a9 := Try.isAgg9
 z9 := Try.sizeOf9
 v9 := Try.zeroValue9
 t31 := Try.underlying22
 a31 := Try.isAgg22
 z31 := Try.sizeOf22
 v31 := Try.zeroValue22
 t46 := Try.underlying96
 a46 := Try.isAgg96
 z46 := Try.sizeOf96
 v46 := Try.zeroValue96
 t51 := Try.underlying109
 a51 := Try.isAgg109
 z51 := Try.sizeOf109
 v51 := Try.zeroValue109
 t53 := Try.underlying71
 a53 := Try.isAgg71
 z53 := Try.sizeOf71
 v53 := Try.zeroValue71
 t131 := Try.underlying62
 a131 := Try.isAgg62
 z131 := Try.sizeOf62
 v131 := Try.zeroValue62
 t182 := Try.underlying101
 a182 := Try.isAgg101
 z182 := Try.sizeOf101
 v182 := Try.zeroValue101
 t183 := Try.underlying102
 a183 := Try.isAgg102
 z183 := Try.sizeOf102
 v183 := Try.zeroValue102
 t218 := Try.underlying111
 a218 := Try.isAgg111
 z218 := Try.sizeOf111
 v218 := Try.zeroValue111
 t222 := Try.underlying115
 a222 := Try.isAgg115
 z222 := Try.sizeOf115
 v222 := Try.zeroValue115
 t228 := Try.underlying117
 a228 := Try.isAgg117
 z228 := Try.sizeOf117
 v228 := Try.zeroValue117
 t229 := Try.underlying118
 a229 := Try.isAgg118
 z229 := Try.sizeOf118
 v229 := Try.zeroValue118 }
open Go.Sort Go.RowKit in
theorem Try.sort_Strings (blk off cap : Nat) (ss : List (List UInt8)) (w : World) (hH : Holds encStr w blk off ss.toArray) (hblk : blk < w.heap.size) (hsz : ss.length < 4611686018427387904) :
  Calls Try.prog 57 #[.slice (some ⟨blk, off, none⟩) ss.length cap] w fun e w' =>
   e = .returned (.tuple #[]) ∧ ∃ n os, w' = grow (putRow encStr (Sort.ahead w n) blk off (ss.mergeSort fun x y => decide (x ≤ y)).toArray) os := Any.sort_Strings Try.lays192 blk off cap ss w hH hblk hsz
open Go.RowKit Go.Sort in
theorem Try.sort_Strings_none (p : Option Addr) (cap : Nat) (w : World) :
  Calls Try.prog 57 #[.slice p 0 cap] w fun e w' => e = .returned (.tuple #[]) ∧ w' = w := Any.sort_Strings_none Try.lays192 p cap w
end Go.Proofs
namespace Go.Proofs.Ytaembebbaejfiaa.Flat
open Go.RowKit Go.Proofs.YtaembebbaejfiaaW.PrintWords Go.Proofs.Ytaembebbaejfiaa.Str Go.Sort
set_option linter.unusedVariables false
set_option linter.unusedSimpArgs false
def flat {α : Type} (enc : α → List Value) (k : Nat) (hk : ∀ x, (enc x).length = k) (h1 : ∀ x, ∀ u ∈ enc x, u.oneCell' = true) : Kd α where
 sz := k
 E := []
 K := fun _ x cs => cs = enc x
 M := fun _ _ _ x cs => cs = enc x
 K_len := fun h => by rw [h]; exact hk _
 K_one := fun h u hu => by rw [h] at hu; exact h1 _ u hu
 K_below := fun _ h => h
 K_of_M := fun h => h
 M_mono := fun _ h => h
 M_bound := fun h => h
 M_move := fun _ h => h
 M_lower := fun _ h => h
section
variable {α : Type} {enc : α → List Value} {k : Nat} {hk : ∀ x, (enc x).length = k} {h1 : ∀ x, ∀ u ∈ enc x, u.oneCell' = true}
theorem reps_flat (hk : ∀ x, (enc x).length = k) : ∀ (xs : List α) (cs : List Value), Reps (fun x cs => cs = enc x) k xs cs → cs = xs.flatMap enc
 | [], cs, h => by
  have := h.1
  simp at this
  exact this
 | x :: r, cs, h => by
  have h0 := h.2 0 x rfl
  simp only [Nat.zero_mul, List.drop_zero] at h0
  have hr : Reps (fun x cs => cs = enc x) k r (cs.drop k) := by
   refine ⟨by rw [List.length_drop, h.1, List.length_cons, Nat.add_mul, Nat.one_mul]; omega, fun j p hp => ?_⟩
   have := h.2 (j + 1) p (by simpa using hp)
   rw [List.drop_drop, show k + j * k = (j + 1) * k by rw [Nat.add_mul, Nat.one_mul, Nat.add_comm]]
   exact this
  have ih := reps_flat hk r _ hr
  rw [List.flatMap_cons, ← h0, ← ih, List.take_append_drop]
theorem flat_reps (hk : ∀ x, (enc x).length = k) (xs : List α) : Reps (fun x cs => cs = enc x) k xs (xs.flatMap enc) := by
 have go : ∀ (r l : List α), Reps (fun x cs => cs = enc x) k l (l.flatMap enc) → Reps (fun x cs => cs = enc x) k (l ++ r) ((l ++ r).flatMap enc) := by
  intro r
  induction r with
  | nil => intro l h; simpa using h
  | cons p r ih =>
   intro l h
   have := ih (l ++ [p]) (by
    rw [List.flatMap_append]
    have : [p].flatMap enc = enc p := by simp
    rw [this]
    exact Reps.snoc h rfl (hk p))
   simpa using this
 exact go xs [] (Reps.none _ _)
theorem R_flat {e : Nat} {w : World} {base : Nat} {ok : Nat → Prop} {v : Value} {xs : List α} :
  (flat enc k hk h1).R e w base ok v xs ↔ (∀ b, v.ownBlock = some b → ok b) ∧ w.ownsRow base e k v xs.length (xs.flatMap enc) := by
 constructor
 ·rintro ⟨h0, inner, ho, hr⟩
  have := reps_flat hk _ _ hr
  subst this
  exact ⟨h0, ho⟩
 ·rintro ⟨h0, ho⟩
  exact ⟨h0, _, ho, flat_reps hk xs⟩
end
end Go.Proofs.Ytaembebbaejfiaa.Flat
namespace Go.Proofs.Ytaembebbaejfiaa.Tr
open Go.RowKit Go.Proofs.YtaembebbaejfiaaW.PrintWords Go.Proofs.YtaembebbaejfiaaW.PrintLast Go.Proofs.Ytaembebbaejfiaa.Str Go.Proofs.Ytaembebbaejfiaa.Kit Go.Proofs.Ytaembebbaejfiaa.Flat Go.Proofs.Ytaembebbaejfiaa.MapV Go.Proofs.Ytaembebbaejfiaa.Frame Go.Sort
set_option linter.unusedVariables false
set_option linter.unusedSimpArgs false
def Srt (ys : List BA) : Prop := ys.Pairwise fun x y => ¬ lb y < lb x
theorem srt_unique {xs ys : List BA} (hx : Srt xs) (hy : Srt ys) (hp : xs.Perm ys) : xs = ys := by
 refine List.Perm.eq_of_pairwise (le := fun x y => ¬ lb y < lb x) (fun a b _ _ h1 h2 => ?_) hx hy hp
 rcases lt_total (lb a) (lb b) with e | e | e
 ·exact absurd e h2
 ·exact lb_inj e
 ·exact absurd e h1
theorem fm_map (f : BA → Value) : ∀ xs : List BA, (xs.flatMap fun x => [f x]) = xs.map f
 | [] => rfl
 | x :: r => by rw [List.flatMap_cons, fm_map f r]; rfl
theorem enc_lb (ys : List BA) : (ys.map lb).map encStr = ys.map Value.string := by
 rw [List.map_map]
 exact List.map_congr_left (fun y _ => by show Value.string ⟨(lb y).toArray⟩ = _; rw [mk_lb])
def ofL (l : List (List UInt8)) : List BA := l.map fun b => ⟨b.toArray⟩
theorem ofL_enc (l : List (List UInt8)) : (ofL l).map Value.string = l.map encStr := by unfold ofL; rw [List.map_map]; rfl
theorem ofL_lb (ys : List BA) : ofL (ys.map lb) = ys := by
 unfold ofL
 rw [List.map_map]
 exact (List.map_congr_left (fun y _ => mk_lb y)).trans (List.map_id ys)
theorem ofL_srt {l : List (List UInt8)} (h : l.Pairwise fun x y => decide (x ≤ y) = true) : Srt (ofL l) := by
 unfold Srt ofL
 rw [List.pairwise_map]
 refine h.imp (fun {x y} hxy => ?_)
 rw [lb_mk, lb_mk]
 exact List.not_lt.2 (of_decide_eq_true hxy)
set_option maxHeartbeats 800000 in
theorem sort_own {base g n c : Nat} {ys : List BA} (w : World) (h : Kd.string.R 9 w base (fun _ => True) (.slice (some ⟨g, 0, none⟩) n c) ys) (hn : ys.length ≤ 1759218604400) :
  Calls Try.prog 57 #[.slice (some ⟨g, 0, none⟩) n c] w fun e w' => e = .returned (.tuple #[]) ∧ ∃ zs, Kd.string.R 9 w' base (fun _ => True) (.slice (some ⟨g, 0, none⟩) n c) zs ∧ zs.Perm ys ∧ Srt zs ∧ w.grownBy w' (some g) := by
 have h' : (flat (fun x : BA => [Value.string x]) 1 (fun _ => rfl) (fun x u hu => by rw [List.mem_singleton.1 hu]; rfl)).R 9 w base (fun _ => True) (.slice (some ⟨g, 0, none⟩) n c) ys := h
 rcases (R_flat.1 h').2.2 with ⟨hv, _⟩ | ⟨g', cap, cur, hv, hgb, hblk, hle, hcap, hcsz, htk⟩
 ·cases hv
 injection hv with e1 e2 e3
 injection e1 with e1
 injection e1 with e1
 subst e1 e2 e3
 rw [fm_map, Nat.mul_one, ← enc_lb] at htk
 have hL : (ys.map lb).length = ys.length := List.length_map _
 have hH := holds_of_block (ss := ys.map lb) hblk (by rw [hL]; exact htk)
 have CS := Any.sort_Strings Try.lays192 g 0 c (ys.map lb) w hH (cb_lt hblk) (by rw [hL]; omega)
 rw [hL] at CS
 refine CS.mono ?_
 rintro e w1 ⟨rfl, m, os, rfl⟩
 have hls : ((ys.map lb).mergeSort fun x y => decide (x ≤ y)).length = (ys.map lb).length := by rw [List.length_mergeSort]
 have HO := ownsRow_sorted (n := m) (os := os) hls hgb hblk (by rw [hL]; exact hle) hcap hcsz
 have HG := grownBy_sorted (w := w) (g := g) (n := m) (os := os) ((ys.map lb).mergeSort fun x y => decide (x ≤ y)).toArray
 refine ⟨rfl, ofL ((ys.map lb).mergeSort fun x y => decide (x ≤ y)), ?_, ?_, ?_, HG⟩
 ·refine (show (flat (fun x : BA => [Value.string x]) 1 (fun _ => rfl) (fun x u hu => by rw [List.mem_singleton.1 hu]; rfl)).R 9 _ base (fun _ => True) (.slice (some ⟨g, 0, none⟩) ys.length c) (ofL ((ys.map lb).mergeSort fun x y => decide (x ≤ y))) from R_flat.2 ⟨fun _ _ => trivial, ?_⟩)
  have hl2 : (ofL ((ys.map lb).mergeSort fun x y => decide (x ≤ y))).length = ys.length := by unfold ofL; rw [List.length_map, hls, hL]
  rw [fm_map, ofL_enc, hl2]
  have := HO
  rw [hL] at this
  exact this
 ·have := (List.mergeSort_perm (ys.map lb) (fun x y => decide (x ≤ y))).map (fun b : List UInt8 => (⟨b.toArray⟩ : BA))
  have e : (ys.map lb).map (fun b : List UInt8 => (⟨b.toArray⟩ : BA)) = ys := ofL_lb ys
  rw [e] at this
  exact this
 ·refine ofL_srt (List.pairwise_mergeSort (fun a b c h1 h2 => ?_) (fun a b => ?_) _)
  ·exact decide_eq_true (List.le_trans (of_decide_eq_true h1) (of_decide_eq_true h2))
  ·rcases List.le_total a b with h | h
   ·simp [h]
   ·simp [h]
end Go.Proofs.Ytaembebbaejfiaa.Tr
namespace Go.Proofs.Ytaembebbaejfiaa.Tr
open Go.RowKit Go.Proofs.YtaembebbaejfiaaW.PrintWords Go.Proofs.YtaembebbaejfiaaW.PrintLast Go.Proofs.Ytaembebbaejfiaa.Str Go.Proofs.Ytaembebbaejfiaa.Kit Go.Proofs.Ytaembebbaejfiaa.Flat Go.Proofs.Ytaembebbaejfiaa.MapV Go.Proofs.Ytaembebbaejfiaa.Frame Go.Proofs.Ytaembebbaejfiaa.PS
set_option linter.unusedVariables false
set_option linter.unusedSimpArgs false
theorem sort_any {base : Nat} {v : Value} {ys : List BA} (w : World) (h : Kd.string.R 9 w base (fun _ => True) v ys) (hn : ys.length ≤ 1759218604400) :
  Calls Try.prog 57 #[v] w fun e w' => e = .returned (.tuple #[]) ∧ ∃ zs, Kd.string.R 9 w' base (fun _ => True) v zs ∧ zs.Perm ys ∧ Srt zs ∧ w.grownBy w' v.ownBlock := by
 obtain ⟨A, c, rfl⟩ := Kd.R_slice h
 rcases Kd.R_base2 h with hb | ⟨k, hk, _⟩
 ·have h0 : ys = [] := by
   obtain ⟨_, inner, ho, hr⟩ := h
   rcases ho.2 with ⟨hv, hi⟩ | ⟨g, cap, cur, hv, _⟩
   ·injection hv with _ e2 _
    exact List.length_eq_zero_iff.1 e2
   ·rw [hv] at hb
    simp [Value.ownBlock] at hb
  subst h0
  refine (Any.sort_Strings_none Try.lays192 A c w).mono ?_
  rintro e w' ⟨rfl, rfl⟩
  exact ⟨rfl, [], h, List.Perm.refl _, List.Pairwise.nil, ⟨rfl, rfl, rfl, Nat.le_refl _, fun _ _ _ => rfl⟩⟩
 ·obtain ⟨g, rfl⟩ : ∃ g, A = some ⟨g, 0, none⟩ := by
   obtain ⟨_, inner, ho, hr⟩ := h
   rcases ho.2 with ⟨hv, hi⟩ | ⟨g, cap, cur, hv, _⟩
   ·rw [hv] at hk
    simp [Value.ownBlock] at hk
   ·injection hv with e1 _ _
    exact ⟨g, e1⟩
  exact sort_own w h hn
theorem left_same' {w w' : World} {b r : Nat} (hb : w'.heap[b]? = w.heap[b]?) (hr : w'.heap[r]? = w.heap[r]?) : w'.rangeLeft b r = w.rangeLeft b r := by
 unfold World.rangeLeft
 rw [hb, hr]
theorem str_own {e : TypeId} {w : World} {base : Nat} {ok : Nat → Prop} {v : Value} {xs : List BA} (h : Kd.string.R e w base ok v xs) : Kd.string.R e w base (fun k => v.ownBlock = some k) v xs := by
 have h' : (flat (fun x : BA => [Value.string x]) 1 (fun _ => rfl) (fun x u hu => by rw [List.mem_singleton.1 hu]; rfl)).R e w base ok v xs := h
 exact (show (flat (fun x : BA => [Value.string x]) 1 (fun _ => rfl) (fun x u hu => by rw [List.mem_singleton.1 hu]; rfl)).R e w base (fun k => v.ownBlock = some k) v xs from R_flat.2 ⟨fun b hb => hb, (R_flat.1 h').2⟩)
def kOf (l : List (Bs × Value)) : List BA := l.map (fun p => ⟨p.1.toArray⟩)
theorem kOf_length (l : List (Bs × Value)) : (kOf l).length = l.length := List.length_map ..
theorem kOf_srt {f : List (Bs × Value)} (h : Rises f) : Srt (kOf f) := by
 unfold Srt kOf
 rw [List.pairwise_map]
 refine List.Pairwise.imp (fun {x y} hxy => ?_) h
 rw [lb_mk, lb_mk]
 exact fun h2 => Std.lt_irrefl (Std.lt_trans hxy h2)
set_option maxHeartbeats 6400000 in
set_option maxRecDepth 100000 in
theorem from_map (zs : List (Bs × En)) (b : Nat) (w : World) (hn : zs.length ≤ 1759218604400) (hm : MapA w b (zs.map (fun z => (z.1, z.2.1)))) (hz : ∀ z, z ∈ zs → ∃ F, AR w z.2.1 z.2.2.1 F) (hch : ∀ z, z ∈ zs → FromAt z.2.2.1) :
  Calls Try.prog 51 #[.map (some b)] w (Told w (valOf (.map (zs.map (fun z => (z.1, z.2.2.1)))))) := by
 have HK := aM (MapE.key_le akey_u hm)
 have HRS := aM (MapE.rises (Go.Maps.string_keyed akey_u) hm)
 have HFL := aM (show (zs.map (fun z => (z.1, z.2.1))).length = zs.length from List.length_map ..)
 have HM := aM hm
 have HZ := aM hz
 have HCH := aM hch
 have hbl := hm.lt
 have HF := aM (show zs.map (fun z => (z.1, z.2.1)) = zs.map (fun z => (z.1, z.2.1)) from rfl)
 generalize hf : zs.map (fun z => (z.1, z.2.1)) = f at HK HRS HFL HM HF
 clear HF
 have HF := aM hf
 clear hf hm hz hch
 have hb0 := below_alloc (Below.refl w.heap.size w) (.cells #[.int .i64 0, .int .i64 0, .string ⟨#[]⟩, .slice none 0 0, .slice none 0 0] 36)
 have hB0 := below_alloc hb0 (.cells #[.int .i64 0, .int .i64 0, .string ⟨#[]⟩, .slice none 0 0, .slice none 0 0] 36)
 have hZ0 : ((w.alloc (.cells #[.int .i64 0, .int .i64 0, .string ⟨#[]⟩, .slice none 0 0, .slice none 0 0] 36)).alloc (.cells #[.int .i64 0, .int .i64 0, .string ⟨#[]⟩, .slice none 0 0, .slice none 0 0] 36)).heap[w.heap.size]? = some (.cells zI 36 (0, 0)) := blk_alloc (cb_new _ _) _
 have h1 := cb_new (w.alloc (.cells #[.int .i64 0, .int .i64 0, .string ⟨#[]⟩, .slice none 0 0, .slice none 0 0] 36)) (.cells #[.int .i64 0, .int .i64 0, .string ⟨#[]⟩, .slice none 0 0, .slice none 0 0] 36)
 rw [World.size_alloc] at h1
 have hg := grown_setRow ((w.alloc (.cells #[.int .i64 0, .int .i64 0, .string ⟨#[]⟩, .slice none 0 0, .slice none 0 0] 36)).alloc (.cells #[.int .i64 0, .int .i64 0, .string ⟨#[]⟩, .slice none 0 0, .slice none 0 0] 36)) (w.heap.size + 1) #[.int .i64 5, .int .i64 0, .string ⟨#[]⟩, .slice none 0 0, .slice none 0 0]
 have HX1 := aM (setRow_heap _ (w.heap.size + 1) _ #[.int .i64 5, .int .i64 0, .string ⟨#[]⟩, .slice none 0 0, .slice none 0 0] _ _ h1)
 have HB1 := aM (pw_below_grown hB0 (some (w.heap.size + 1)) hB0.size hg (fun k hk => by injection hk with hk; have h2 : w.heap.size + 1 = k := hk; omega))
 have HZ1 := aM ((hg.block w.heap.size (cb_lt hZ0) (fun e => by injection e with e; omega)).trans hZ0)
 have HM1 := aM (HM.out.below HB1.out)
 have hs1 : (((w.alloc (.cells #[.int .i64 0, .int .i64 0, .string ⟨#[]⟩, .slice none 0 0, .slice none 0 0] 36)).alloc (.cells #[.int .i64 0, .int .i64 0, .string ⟨#[]⟩, .slice none 0 0, .slice none 0 0] 36)).setRow (w.heap.size + 1) #[.int .i64 5, .int .i64 0, .string ⟨#[]⟩, .slice none 0 0, .slice none 0 0]).heap.size = w.heap.size + 2 := by simp [World.setRow]
 clear hb0 hB0 hZ0 hg
 go_enter Try.func51, Try.ntmps51
 go_wp2_with (first | (refine store_ival (.tmp 4) (.tmp 10) rfl rfl rfl rfl h1 ?_; generalize ((w.alloc (.cells #[.int .i64 0, .int .i64 0, .string ⟨#[]⟩, .slice none 0 0, .slice none 0 0] 36)).alloc (.cells #[.int .i64 0, .int .i64 0, .string ⟨#[]⟩, .slice none 0 0, .slice none 0 0] 36)).setRow (w.heap.size + 1) #[.int .i64 5, .int .i64 0, .string ⟨#[]⟩, .slice none 0 0, .slice none 0 0] = W1 at HX1 HB1 HZ1 HM1 hs1 ⊢; clear h1) | (at_range; refine range_mapE akey_u amap_u rfl _ rfl rfl HM1.out ?_; intro w0 hrg0 hg0 hs0; rw [hs1] at hrg0 hs0; have HR0 := aM hrg0; have HG0 := aM hg0; have HS0 := aM hs0; clear hrg0 hg0 hs0))
 go_frame
 rw [hs1]
 have HX0 := aM ((HG0.out.block (w.heap.size + 1) (by omega) (by simp)).trans HX1.out)
 have HZ0 := aM ((HG0.out.block w.heap.size (by omega) (by simp)).trans HZ1.out)
 have HB0 := aM (pw_below_grown HB1.out none HB1.out.size HG0.out (fun k hk => by cases hk))
 have hs0 := HS0.out
 clear HG0 HX1 HZ1 HB1 HM1 HS0
 go_loopw [5] (fun v5 wr => ∃ (dn lf : List (Bs × Value)) (A0 : Option Addr) (c0 : Nat), Aside0 (Ranges Try.prog 9 id wr b (w.heap.size + 2) f lf) ∧ Aside0 (wr.heap[w.heap.size + 1]? = some (.cells #[.int .i64 5, .int .i64 0, .string ⟨#[]⟩, .slice A0 dn.length c0, .slice none 0 0] 36 (0, 0))) ∧ Aside0 (Kd.string.R 9 wr (w.heap.size + 3) (fun _ => True) (.slice A0 dn.length c0) (kOf dn)) ∧ Aside0 ((dn ++ lf).Perm f) ∧ Aside0 (Below w.heap.size w wr) ∧ Aside0 (wr.heap[w.heap.size]? = some (.cells zI 36 (0, 0))) ∧ w.heap.size + 3 ≤ wr.heap.size) (fun _ wr => wr.rangeLeft b (w.heap.size + 2))
 case atStart => exact ⟨[], f, none, 0, HR0, HX0, ⟨Kd.R_nil _ _ _ _ _⟩, ⟨List.Perm.refl _⟩, HB0, HZ0, by omega⟩
 case round =>
  clear HR0 HX0 HB0 HZ0 hs0
  obtain ⟨dn, lf, A0, c0, HR, HX, HV, HP, HB, HZ0, hsz⟩ := hrel
  have hcell : wr.cell? ⟨w.heap.size + 1, 3, none⟩ = some (.slice A0 dn.length c0) := cb_cell (i := 3) HX.out rfl
  have hlen : dn.length + lf.length = zs.length := by rw [← HFL.out, ← HP.out.length_eq, List.length_append]
  have HL := aM hlen
  clear hlen
  go_wp2_with (first | (at_next; refine next_mapA akey_u rfl _ rfl rfl HR.out (fun hd => ?_) (fun x c w2 hx hen => ?_); rotate_left; (have HX2 := aM (show w2.heap[w.heap.size + 1]? = some (.cells #[.int .i64 5, .int .i64 0, .string ⟨#[]⟩, .slice A0 dn.length c0, .slice none 0 0] 36 (0, 0)) from (hx.out.2.2.2.2.1.block _ (cb_lt HX.out) (by simp)).trans HX.out)); (have hc2 : w2.cell? ⟨w.heap.size + 1, 3, none⟩ = some (.slice A0 dn.length c0) := cb_cell (i := 3) HX2.out rfl); (have HV2 := aM (Kd.R_mono (ok' := fun _ => True) (Kd.R_grown (Kd.R_bound HV.out) hx.out.2.2.2.2.1 (fun k hk e => by have h2 := Option.some.inj e; have h3 := hk.2.1; omega)) (fun _ _ => trivial))); (have HB2 := aM (pw_below_grown HB.out (some (w.heap.size + 2)) HB.out.size hx.out.2.2.2.2.1 (fun k hk => by injection hk with hk; omega))); (have hsz2 : w.heap.size + 3 ≤ w2.heap.size := by have := hx.out.2.2.2.2.2; omega); (have hfit : ((kOf dn).length + 1) * 16 ≤ 140737488355328 := by rw [kOf_length]; have := HL.out; omega); rotate_right) | (at_builtin; refine Kd.R_append Kd.string (w0 := w2) (w.heap.size + 3) rfl (.tmp 18) (.tmp 20) 22 9 (.string ⟨#[]⟩) 16 rfl Try.underlying22 info_string rfl (show 0 < 1 by decide) (by decide) (.slice A0 dn.length c0) (kOf dn) x [.string x] (fun _ => True) (fun _ => False) rfl rfl rfl (fun _ h => h.elim) (fun _ _ => trivial) HV2.out (Below.refl _ _) hsz2 hfit ?_; intro v1 w3 ho hb3 hg3 hat; obtain ⟨A1, c1, rfl⟩ := Kd.R_slice ho; have HV3 := aM ho; have HB3 := aM hb3; have HG3 := aM hg3; clear ho hb3 hg3 hat; have HX3 := aM ((HB3.out.block (w.heap.size + 1) (by omega)).trans HX2.out); have hc3 : w3.cell? ⟨w.heap.size + 1, 3, none⟩ = some (.slice A0 dn.length c0) := cb_cell (i := 3) HX3.out rfl; have hf3 := cb_frozen (i := 3) HX3.out))
  ·-- all have come: they are sorted; then a value each
   have hpf : dn.Perm f := by have := HP.out; rw [hd.out, List.append_nil] at this; exact this
   have hdl : dn.length = zs.length := by rw [← HFL.out]; exact hpf.length_eq
   have HPK := aM (show (kOf dn).Perm (kOf f) from hpf.map _)
   rw [hdl] at HX HV ⊢
   clear hpf hd hcell HL HP HR hdl
   refine (sort_any wr HV.out (by rw [HPK.out.length_eq, kOf_length, HFL.out]; exact hn)).mono ?_
   rintro e w5 ⟨rfl, ys, hys, hpm, hsr, hg5⟩
   obtain rfl : ys = kOf f := srt_unique hsr (kOf_srt HRS.out) (hpm.trans HPK.out)
   have hown : ∀ k, (Value.slice A0 zs.length c0).ownBlock = some k → w.heap.size + 3 ≤ k ∧ k < wr.heap.size := fun k hk => ⟨((Kd.R_bound HV.out).1 k hk).2.1, ((Kd.R_bound HV.out).1 k hk).2.2.1⟩
   have hHX5 := (hg5.block (w.heap.size + 1) (by omega) (fun e => by have := hown _ e.symm; omega)).trans HX.out
   have HX5 := aM hHX5
   have HZ5 := aM ((hg5.block w.heap.size (by omega) (fun e => by have := hown _ e.symm; omega)).trans HZ0.out)
   have HB5 := aM (pw_below_grown HB.out _ HB.out.size hg5 (fun k hk => by have := hown k hk; omega))
   have HV5 := aM hys
   have hc5 : w5.cell? ⟨w.heap.size + 1, 3, none⟩ = some (.slice A0 zs.length c0) := cb_cell (i := 3) hHX5 rfl
   clear hys hpm hsr hown hHX5 HX HZ0 HB HV HPK hg5
   go_wp2
   go_loopw [29, 7, 8, 9] (fun v29 v7 v8 v9 wq => ∃ (i : Nat) (A2 : Option Addr) (c2 : Nat), v29 = .int .i64 i ∧ i ≤ zs.length ∧ Aside0 (wq.heap[w.heap.size + 1]? = some (.cells #[.int .i64 5, .int .i64 0, .string ⟨#[]⟩, .slice A0 zs.length c0, .slice A2 i c2] 36 (0, 0))) ∧ Aside0 (Kd.string.R 9 wq (w.heap.size + 3) (fun _ => True) (.slice A0 zs.length c0) (kOf f)) ∧ Aside0 (kI.R 36 wq (w.heap.size + 3) (fun k => some k ≠ (Value.slice A0 zs.length c0).ownBlock) (.slice A2 i c2) ((zs.take i).map (fun z => valOf z.2.2.1))) ∧ Aside0 (Below w.heap.size w wq) ∧ Aside0 (wq.heap[w.heap.size]? = some (.cells zI 36 (0, 0)))) (fun v29 _ _ _ _ => zs.length - (intOf v29).toNat)
   case atStart => exact ⟨0, none, 0, rfl, by omega, HX5, HV5, ⟨Kd.R_nil _ _ _ _ _⟩, HB5, HZ5⟩
   case round =>
    clear HX5 HV5 HB5 HZ5 hc5
    obtain ⟨i, A2, c2, rfl, hiv, HX, HV, HR, HB, HZ0⟩ := hrel
    have q0 : (0 : Int) ≤ (i : Int) := by omega
    have hown : ∀ k, (Value.slice A0 zs.length c0).ownBlock = some k → w.heap.size + 3 ≤ k ∧ k < wr.heap.size := fun k hk => ⟨((Kd.R_bound HV.out).1 k hk).2.1, ((Kd.R_bound HV.out).1 k hk).2.2.1⟩
    by_cases hlv : i < zs.length
    ·have q2 : (i : Int) < (zs.length : Int) := by omega
     have hkl : (kOf f).length = zs.length := by rw [kOf_length, HFL.out]
     obtain ⟨hn0, hnc, hC⟩ := Kd.R_reads' HV.out
     obtain ⟨kb, ko, rfl, hkb, hkc⟩ := strs_open hC (by omega)
     have hf1 : (zs[i]'hlv).1 = (zs[i]'hlv).1 := rfl
     have hfm : ((zs[i]'hlv).1, (zs[i]'hlv).2.1) ∈ f := by rw [← HF.out]; exact List.mem_map.2 ⟨zs[i]'hlv, List.getElem_mem hlv, rfl⟩
     have e0 : wr.cell? ⟨kb, ko + i, none⟩ = some (.string ⟨(zs[i]'hlv).1.toArray⟩) := by
      have h := hkc i (by omega)
      have h2 : (kOf f)[i]'(by omega) = ⟨(zs[i]'hlv).1.toArray⟩ := by
       have : f[i]'(by rw [HFL.out]; exact hlv) = ((zs[i]'hlv).1, (zs[i]'hlv).2.1) := by simp [← HF.out]
       unfold kOf
       rw [List.getElem_map, this]
      rw [h2] at h
      exact h
     have hks : (⟨(zs[i]'hlv).1.toArray⟩ : BA).size ≤ maxLen := by have := HK.out _ hfm; simpa [ByteArray.size] using this
     have hlk := run_look_mapE (s := ⟨(zs[i]'hlv).1.toArray⟩) akey_u amap_u (Try.zeroValue20 wr) (HM.out.below HB.out) hks
     rw [lb_mk, mget_of_mem HRS.out hfm] at hlk
     have CA := aM (show ∀ (W : World) (hb : Below w.heap.size w W), Calls Try.prog 42 #[(zs[i]'hlv).2.1] W (Told W (valOf (zs[i]'hlv).2.2.1)) from fun W hb => by obtain ⟨F, hF⟩ := HZ.out zs[i] (List.getElem_mem hlv); exact HCH.out zs[i] (List.getElem_mem hlv) zs[i].2.1 _ W (hF.keep hb))
     clear hkl hn0 hnc hC hkc hf1 hfm hks
     go_wp2_with fail
     refine (CA.out wr HB.out).mono ?_
     rintro e w3 ⟨v3, v4, rfl, hv3, hv4, hb3⟩
     have HXE := aM (show (zs.take (i + 1)).map (fun z => valOf z.2.2.1) = ((zs.take i).map (fun z => valOf z.2.2.1)) ++ [valOf (zs[i]'hlv).2.2.1] by rw [List.take_succ_eq_append_getElem hlv, List.map_append]; rfl)
     generalize valOf (zs[i]'hlv).2.2.1 = x at hv3 hv4 HXE
     obtain ⟨x0, x1, x2, x3, x4⟩ := x
     obtain ⟨A3, c3, rfl⟩ := Kd.R_slice hv3
     obtain ⟨A4, c4, rfl⟩ := Kd.R_slice hv4
     have hW := below_alloc hb3 (.cells #[.int .i64 0, .int .i64 0, .string ⟨#[]⟩, .slice none 0 0, .slice none 0 0] 36)
     have h5 := cb_new w3 (.cells #[.int .i64 0, .int .i64 0, .string ⟨#[]⟩, .slice none 0 0, .slice none 0 0] 36)
     have hg5 := grown_setRow (w3.alloc (.cells #[.int .i64 0, .int .i64 0, .string ⟨#[]⟩, .slice none 0 0, .slice none 0 0] 36)) w3.heap.size #[.int .i64 x0, .int .i64 x1, .string x2, .slice A3 x3.length c3, .slice A4 x4.length c4]
     have hb5 := pw_below_grown hW (some w3.heap.size) hW.size hg5 (fun k hk => by injection hk with hk; have := hb3.size; omega)
     have h6 := setRow_heap _ w3.heap.size _ #[.int .i64 x0, .int .i64 x1, .string x2, .slice A3 x3.length c3, .slice A4 x4.length c4] _ _ h5
     have hm5 : ∀ k, k < w3.heap.size → ((w3.alloc (.cells #[.int .i64 0, .int .i64 0, .string ⟨#[]⟩, .slice none 0 0, .slice none 0 0] 36)).setRow w3.heap.size #[.int .i64 x0, .int .i64 x1, .string x2, .slice A3 x3.length c3, .slice A4 x4.length c4]).heap[k]? = w3.heap[k]? := fun k hk => (hg5.block k (by rw [World.size_alloc]; omega) (fun e => by injection e with e; omega)).trans ((below_alloc (Below.refl w3.heap.size w3) _).block k hk)
     have hwr := (cb_lt HX.out)
     have hwr2 : w.heap.size + 3 ≤ wr.heap.size := by have := hown kb rfl; omega
     have HX5 := aM ((hb5.block _ (cb_lt HX.out)).trans HX.out)
     have x4_ := cb_cell (i := 4) HX5.out rfl
     have HZ5 := aM ((hb5.block _ (cb_lt HZ0.out)).trans HZ0.out)
     have HV5 := aM (Kd.R_below HV.out hb5)
     have HR5 := aM (Kd.R_below HR.out hb5)
     have HB5 := aM (hb_then HB.out hb5)
     have HM5 := aM (k36_mkM ((w3.alloc (.cells #[.int .i64 0, .int .i64 0, .string ⟨#[]⟩, .slice none 0 0, .slice none 0 0] 36)).setRow w3.heap.size #[.int .i64 x0, .int .i64 x1, .string x2, .slice A3 x3.length c3, .slice A4 x4.length c4]) (w.heap.size + 3) (fun k => wr.heap.size ≤ k ∧ k < w3.heap.size) ⟨x0, x1, x2, x3, x4⟩
      (Kd.R_lower (Kd.R_move (Kd.R_mono (ok' := (fun k => wr.heap.size ≤ k ∧ k < w3.heap.size)) (Kd.R_bound hv3) (fun k hk => ⟨hk.2.1, hk.2.2.1⟩)) (fun k hk => hm5 k hk.2)) hwr2)
      (Kd.R_lower (Kd.R_move (Kd.R_mono (ok' := (fun k => wr.heap.size ≤ k ∧ k < w3.heap.size)) (Kd.R_bound hv4) (fun k hk => ⟨hk.2.1, hk.2.2.1⟩)) (fun k hk => hm5 k hk.2)) hwr2))
     have HOK := aM (show ∀ k, wr.heap.size ≤ k ∧ k < w3.heap.size → (some k ≠ (Value.slice (some ⟨kb, ko, none⟩) zs.length c0).ownBlock) ∧ some k ≠ (Value.slice A2 i c2).ownBlock from fun k hk => ⟨fun e => by have := hown k e.symm; omega, fun e => by have := ((Kd.R_bound HR.out).1 k e.symm).2.2.1; omega⟩)
     have hsz : w.heap.size + 3 ≤ ((w3.alloc (.cells #[.int .i64 0, .int .i64 0, .string ⟨#[]⟩, .slice none 0 0, .slice none 0 0] 36)).setRow w3.heap.size #[.int .i64 x0, .int .i64 x1, .string x2, .slice A3 x3.length c3, .slice A4 x4.length c4]).heap.size := Nat.le_trans hwr2 hb5.size
     have hfr : ∀ k, ((w3.alloc (.cells #[.int .i64 0, .int .i64 0, .string ⟨#[]⟩, .slice none 0 0, .slice none 0 0] 36)).setRow w3.heap.size #[.int .i64 x0, .int .i64 x1, .string x2, .slice A3 x3.length c3, .slice A4 x4.length c4]).heap.size ≤ k → some k ≠ (Value.slice (some ⟨kb, ko, none⟩) zs.length c0).ownBlock := fun k hk e => by have h1 := hown k e.symm; have h2 := hb5.size; omega
     have HFR := aM hfr
     have hlow : ∀ k, (Value.slice (some ⟨kb, ko, none⟩) zs.length c0).ownBlock = some k → w.heap.size + 3 ≤ k := fun k hk => (hown k hk).1
     clear hv3 hv4 hW hg5 hb5 hm5 HX HV HR HB HZ0 hwr hwr2 hown hfr
     go_wp2_with (first | (refine store_ival (.tmp 8) (.tmp 38) rfl rfl rfl rfl h5 ?_; generalize (w3.alloc (.cells #[.int .i64 0, .int .i64 0, .string ⟨#[]⟩, .slice none 0 0, .slice none 0 0] 36)).setRow w3.heap.size #[.int .i64 x0, .int .i64 x1, .string x2, .slice A3 x3.length c3, .slice A4 x4.length c4] = W5 at h6 x4_ HX5 HZ5 HV5 HR5 HB5 HM5 HFR hsz ⊢; clear h5) | refine load_ival (.tmp 8) rfl rfl rfl h6 ?_ | refine Kd.R_append kI (w0 := W5) (w.heap.size + 3) rfl (.tmp 44) (.tmp 46) 34 36 (.agg #[.int .i64 0, .int .i64 0, .string ⟨#[]⟩, .slice none 0 0, .slice none 0 0]) 80 rfl Try.underlying34 info_iv rfl (show 0 < 5 by decide) (by decide) (.slice A2 i c2) ((zs.take i).map (fun z => valOf z.2.2.1)) ⟨x0, x1, x2, x3, x4⟩ _ (fun k => some k ≠ (Value.slice (some ⟨kb, ko, none⟩) zs.length c0).ownBlock) _ rfl rfl HM5.out HOK.out HFR.out HR5.out (Below.refl _ _) hsz (by rw [List.length_map, List.length_take]; omega) ?_)
     intro v1 w6 ho hb6 hg6 hat
     rw [← List.map_take, ← HXE.out] at ho
     have hlen : ((zs.take (i + 1)).map (fun z => valOf z.2.2.1)).length = i + 1 := by rw [List.length_map, List.length_take]; omega
     obtain ⟨A5, c5, rfl⟩ := Kd.R_slice ho
     rw [hlen] at ho hat ⊢
     have hB6 := pw_below_grown HB5.out (Value.slice A2 i c2).ownBlock HB5.out.size hg6 (fun k hk => by have := Kd.R_base HR5.out k hk; omega)
     have hX6 := (hb6.block (w.heap.size + 1) (by omega)).trans HX5.out
     have hZ6 := (hb6.block w.heap.size (by omega)).trans HZ5.out
     have hV6 := Kd.R_mono (ok' := fun _ => True) (Kd.R_grown (str_own HV5.out) hg6 (fun k hk e => HR5.out.1 k e.symm hk.symm)) (fun _ _ => trivial)
     have HX7 := aM (cb_set hX6 (i := 4) (.slice A5 (i + 1) c5))
     have hg7 := grown_setCell w6 (w.heap.size + 1) 4 (.slice A5 (i + 1) c5)
     have HB7 := aM (pw_below_grown hB6 (some (w.heap.size + 1)) hB6.size hg7 (fun k hk => by injection hk with hk; omega))
     have HZ7 := aM ((hg7.block w.heap.size (cb_lt hZ6) (fun e => by injection e with e; omega)).trans hZ6)
     have HV7 := aM (Kd.R_mono (ok' := fun _ => True) (Kd.R_grown (Kd.R_bound hV6) hg7 (fun k hk e => by have h2 := Option.some.inj e; have h3 := hk.2.1; omega)) (fun _ _ => trivial))
     have HR7 := aM (Kd.R_mono (ok' := fun k => some k ≠ (Value.slice (some ⟨kb, ko, none⟩) zs.length c0).ownBlock) (Kd.R_move (Kd.R_bound ho) (fun k hk => hg7.block k hk.2.2.1 (fun e => by have h2 := Option.some.inj e; have h3 := hk.2.1; omega))) (fun _ hk => hk.1))
     have y4 := cb_cell (i := 4) hX6 rfl
     have y5 := cb_frozen (i := 4) hX6
     clear ho hat hlen hB6 hX6 hZ6 hV6 hb6 hg6 hg7 HX5 HZ5 HV5 HR5 HB5 HM5 HOK HXE CA x4_ h6 hsz HFR
     go_wp2
     go_roundw
     case rel => exact ⟨i + 1, A5, c5, by go_num, by omega, HX7, HV7, HR7, HB7, HZ7⟩
     case measure => simp [intOf]; omega
    ·have hin : i = zs.length := by omega
     subst hin
     have hg8 := grown_setRow wr w.heap.size #[.int .i64 5, .int .i64 0, .string ⟨#[]⟩, .slice A0 zs.length c0, .slice A2 zs.length c2]
     have HX8 := aM (setRow_heap _ w.heap.size _ #[.int .i64 5, .int .i64 0, .string ⟨#[]⟩, .slice A0 zs.length c0, .slice A2 zs.length c2] _ _ HZ0.out)
     have HB8 := aM (pw_below_grown HB.out (some w.heap.size) HB.out.size hg8 (fun k hk => by injection hk with hk; omega))
     have hR := HR.out
     rw [List.take_length] at hR
     have HR8 := aM (Kd.R_lower (base' := w.heap.size) (Kd.R_mono (ok' := fun _ => True) (Kd.R_move (Kd.R_bound hR) (fun k hk => hg8.block k hk.2.2.1 (fun e => by have h2 := Option.some.inj e; have h3 := hk.2.1; omega))) (fun _ _ => trivial)) (by omega))
     have hKO : kOf f = (zs.map (fun z => (z.1, z.2.2.1))).map (fun p => (⟨p.1.toArray⟩ : BA)) := by rw [← HF.out]; unfold kOf; rw [List.map_map, List.map_map]; rfl
     have HV8 := aM (Kd.R_lower (base' := w.heap.size) (Kd.R_mono (ok' := fun _ => True) (Kd.R_move (Kd.R_bound HV.out) (fun k hk => hg8.block k hk.2.2.1 (fun e => by have h2 := Option.some.inj e; have h3 := hk.2.1; omega))) (fun _ _ => trivial)) (by omega))
     rw [hKO] at HV8
     have h11 := HX.out
     have h2 := HZ0.out
     clear hR hg8 hown hKO
     go_wp2_with (first | refine load_ival (.tmp 4) rfl rfl rfl h11 ?_ | refine store_ival (.tmp 2) (.tmp 50) rfl rfl rfl rfl h2 ?_)
     exact bodyPost_ret (v := .tuple #[.agg #[.int .i64 5, .int .i64 0, .string ⟨#[]⟩, .slice A0 zs.length c0, .slice A2 zs.length c2], .bool true]) (told_row rfl rfl rfl HX8.out) rfl ⟨.slice A0 zs.length c0, .slice A2 zs.length c2, by simp [valOf], by simp only [valOf]; exact HV8.out, by simp only [valOf]; rw [valM_map, List.map_map]; exact HR8.out, HB8.out⟩
  ·-- a key more
   have hl : (kOf dn).length + 1 = (dn ++ [(lb x, c)]).length := by rw [kOf_length, List.length_append, List.length_singleton]
   have hk : kOf dn ++ [x] = kOf (dn ++ [(lb x, c)]) := by unfold kOf; rw [List.map_append]; simp
   have hown : ∀ k, (Value.slice A0 dn.length c0).ownBlock = some k → w.heap.size + 3 ≤ k := fun k hk => ((Kd.R_bound HV2.out).1 k hk).2.1
   have nb : ∀ j, j < w.heap.size + 3 → some j ≠ (Value.slice A0 dn.length c0).ownBlock := fun j hj e => by have := hown j e.symm; omega
   rw [hk] at HV3
   rw [hl]
   rw [show (kOf (dn ++ [(lb x, c)])).length = (dn ++ [(lb x, c)]).length from kOf_length _] at HV3
   have hg7 := grown_setCell w3 (w.heap.size + 1) 3 (.slice A1 (dn ++ [(lb x, c)]).length c1)
   have HG7 := aM hg7
   have hHB3 : Below w.heap.size w w3 := pw_below_grown HB2.out _ HB2.out.size HG3.out (fun k hk => by have := hown k hk; omega)
   have hpm : lf.Perm ((lb x, c) :: mdel lf (lb x)) := rises_take ((HRS.out.sublist HR.out.sub).imp (fun {p q} h => lt_ne h)) hx.out.1
   clear hl hk
   go_roundw
   case rel =>
    refine ⟨dn ++ [(lb x, c)], mdel lf (lb x), A1, c1, ⟨?_⟩, ⟨cb_set HX3.out _⟩, ⟨?_⟩, ⟨?_⟩, ⟨?_⟩, ⟨?_⟩, ?_⟩
    ·exact (hx.out.2.2.1.kept HG3.out (nb _ (by omega)) (nb _ (by omega))).kept hg7 (fun e => by have := Option.some.inj e; omega) (fun e => by have := Option.some.inj e; omega)
    ·exact Kd.R_mono (Kd.R_grown (Kd.R_bound HV3.out) hg7 (fun k hk e => by have h2 := Option.some.inj e; have h3 := hk.2.1; omega)) (fun _ _ => trivial)
    ·rw [List.append_assoc]
     exact ((hpm.symm).append_left dn).trans HP.out
    ·exact pw_below_grown hHB3 (some (w.heap.size + 1)) hHB3.size hg7 (fun k hk => by have := Option.some.inj hk; omega)
    ·exact (hg7.block w.heap.size (by have := HG3.out.size; omega) (fun e => by have := Option.some.inj e; omega)).trans ((HB3.out.block w.heap.size (by omega)).trans ((hx.out.2.2.2.2.1.block w.heap.size (by omega) (fun e => by have := Option.some.inj e; omega)).trans HZ0.out))
    ·have h1 := hg7.size; have h2 := HG3.out.size; omega
   case measure =>
    have e1 := left_same' (b := b) (r := w.heap.size + 2) (w := w2) (w' := w3.setCell ⟨w.heap.size + 1, 3, none⟩ (.slice A1 (dn ++ [(lb x, c)]).length c1)) ?_ ?_
    ·rw [e1]; exact hx.out.2.2.2.1
    ·rw [hg7.block b (by have := hHB3.size; omega) (fun e => by have := Option.some.inj e; omega), HG3.out.block b (by omega) (nb _ (by omega))]
    ·rw [hg7.block _ (by have := HG3.out.size; omega) (fun e => by have := Option.some.inj e; omega), HG3.out.block _ (by omega) (nb _ (by omega))]
end Go.Proofs.Ytaembebbaejfiaa.Tr
namespace Go.Proofs.Ytaembebbaejfiaa.Tr
open Go.RowKit Go.Proofs.YtaembebbaejfiaaW.PrintWords Go.Proofs.YtaembebbaejfiaaW.PrintLast Go.Proofs.Ytaembebbaejfiaa.Str Go.Proofs.Ytaembebbaejfiaa.Kit Go.Proofs.Ytaembebbaejfiaa.MapV Go.Proofs.Ytaembebbaejfiaa.Frame Go.Proofs.Ytaembebbaejfiaa.PS
set_option linter.unusedVariables false
set_option linter.unusedSimpArgs false
theorem t_map_bool (v : Value) (w : World) : (Instr.typeAssert (.iface 65 v) 20 4 true).run Try.prog w = .ok (.tuple #[.bool false, .bool false]) w := by kernel_rfl
theorem t_map_int (v : Value) (w : World) : (Instr.typeAssert (.iface 65 v) 20 3 true).run Try.prog w = .ok (.tuple #[.int .i64 0, .bool false]) w := by kernel_rfl
theorem t_map_i64 (v : Value) (w : World) : (Instr.typeAssert (.iface 65 v) 20 2 true).run Try.prog w = .ok (.tuple #[.int .i64 0, .bool false]) w := by kernel_rfl
theorem t_map_u64 (v : Value) (w : World) : (Instr.typeAssert (.iface 65 v) 20 71 true).run Try.prog w = .ok (.tuple #[.int .u64 0, .bool false]) w := by kernel_rfl
theorem t_map_str (v : Value) (w : World) : (Instr.typeAssert (.iface 65 v) 20 9 true).run Try.prog w = .ok (.tuple #[.string ⟨#[]⟩, .bool false]) w := by kernel_rfl
theorem t_map_lst (v : Value) (w : World) : (Instr.typeAssert (.iface 65 v) 20 58 true).run Try.prog w = .ok (.tuple #[.slice none 0 0, .bool false]) w := by kernel_rfl
theorem t_map_map (v : Value) (w : World) : (Instr.typeAssert (.iface 65 v) 20 65 true).run Try.prog w = .ok (.tuple #[v, .bool true]) w := by kernel_rfl
inductive FitsY : Y → Prop
 | null : FitsY .null
 | bool (b) : FitsY (.bool b)
 | int (n) : FitsY (.int n)
 | text (s) : FitsY (.text s)
 | list (l : List Y) (hl : l.length ≤ 1759218604400) (h : ∀ y, y ∈ l → FitsY y) : FitsY (.list l)
 | map (m : List (Bs × Y)) (hl : m.length ≤ 1759218604400) (hk : ∀ p, p ∈ m → p.1.length ≤ maxLen) (h : ∀ p, p ∈ m → FitsY p.2) : FitsY (.map m)
set_option maxHeartbeats 1600000 in
theorem from_amap (b : Nat) (w : World) (y : Y) (hm : ∀ W, Below w.heap.size w W → Calls Try.prog 51 #[.map (some b)] W (Told W (valOf y))) :
  Calls Try.prog 42 #[.iface 65 (.map (some b))] w (Told w (valOf y)) := by
 have f0 := t_map_bool
 have f1 := t_map_int
 have f2 := t_map_i64
 have f3 := t_map_u64
 have f4 := t_map_str
 have f5 := t_map_lst
 have f6 := t_map_map
 have h0 := aM (cb_new w (.cells #[.int .i64 0, .int .i64 0, .string ⟨#[]⟩, .slice none 0 0, .slice none 0 0] 36))
 have HB := aM (below_alloc (Below.refl w.heap.size w) (.cells #[.int .i64 0, .int .i64 0, .string ⟨#[]⟩, .slice none 0 0, .slice none 0 0] 36))
 have CM := aM (hm _ HB.out)
 clear hm
 generalize valOf y = x at CM
 obtain ⟨x0, x1, x2, x3, x4⟩ := x
 go_enter Try.func42, Try.ntmps42
 go_wp2_with fail
 refine CM.out.mono ?_
 rintro e w3 ⟨v3, v4, rfl, hv3, hv4, hb3⟩
 obtain ⟨A3, c3, rfl⟩ := Kd.R_slice hv3
 obtain ⟨A4, c4, rfl⟩ := Kd.R_slice hv4
 have h1 := (hb3.block _ (cb_lt h0.out)).trans h0.out
 have hg := grown_setRow w3 w.heap.size #[.int .i64 x0, .int .i64 x1, .string x2, .slice A3 x3.length c3, .slice A4 x4.length c4]
 have HX := aM (setRow_heap _ w.heap.size _ #[.int .i64 x0, .int .i64 x1, .string x2, .slice A3 x3.length c3, .slice A4 x4.length c4] _ _ h1)
 have hb := hb_then HB.out hb3
 have HB8 := aM (pw_below_grown hb (some w.heap.size) hb.size hg (fun k hk => by have := Option.some.inj hk; omega))
 have hbase := HB.out.size
 have hlt := cb_lt h0.out
 have H3 := aM (Kd.R_lower (base' := w.heap.size) (Kd.R_mono (ok' := fun _ => True) (Kd.R_move (Kd.R_bound hv3) (fun k hk => hg.block k hk.2.2.1 (fun e => by have h2 := Option.some.inj e; have h3 := hk.2.1; omega))) (fun _ _ => trivial)) hbase)
 have H4 := aM (Kd.R_lower (base' := w.heap.size) (Kd.R_mono (ok' := fun _ => True) (Kd.R_move (Kd.R_bound hv4) (fun k hk => hg.block k hk.2.2.1 (fun e => by have h2 := Option.some.inj e; have h3 := hk.2.1; omega))) (fun _ _ => trivial)) hbase)
 clear hv3 hv4 hb3 hg hb hbase hlt HB h0 CM
 go_wp2_with (refine store_ival (.tmp 2) (.tmp 79) rfl rfl rfl rfl h1 ?_)
 exact bodyPost_ret (v := .tuple #[.agg #[.int .i64 x0, .int .i64 x1, .string x2, .slice A3 x3.length c3, .slice A4 x4.length c4], .bool true]) (told_row rfl rfl rfl HX.out) rfl ⟨.slice A3 x3.length c3, .slice A4 x4.length c4, rfl, H3.out, H4.out, HB8.out⟩
theorem from_any {y : Y} (h : FitsY y) : FromAt y := by
 induction h with
 | null => intro v F w ha; cases ha; exact from_null w
 | bool b =>
  intro v F w ha
  cases ha
  cases b
  ·exact from_bfalse w
  ·exact from_btrue w
 | int n => intro v F w ha; cases ha; exact from_int n w
 | text s => intro v F w ha; cases ha; exact from_text s w
 | list l hl h ih =>
  intro v F w ha
  cases ha with
  | list v zs _ _ hy hr hz hd hb hF =>
   subst hy
   obtain ⟨A, c, rfl⟩ := Kd.R_slice hr
   obtain ⟨hn, hc, hC⟩ := Kd.R_reads' hr
   rw [List.length_map] at hC hl ⊢
   exact from_list zs A c w hl hC hz (fun z hzz => ih z.2.1 (List.mem_map.2 ⟨z, hzz, rfl⟩))
 | map m hl hk h ih =>
  intro v F w ha
  cases ha with
  | map b zs _ _ hy hm hz hd hb hF =>
   subst hy
   rw [List.length_map] at hl
   exact from_amap b w _ (fun W hb => from_map zs b W hl (hm.below hb) (fun z hzz => ⟨_, (hz z hzz).keep hb⟩) (fun z hzz => ih (z.1, z.2.2.1) (List.mem_map.2 ⟨z, hzz, rfl⟩)))
end Go.Proofs.Ytaembebbaejfiaa.Tr
namespace Go.Proofs.Ytaembebbaejfiaa.Tr
open Go.RowKit Go.Proofs.YtaembebbaejfiaaW.PrintWords Go.Proofs.YtaembebbaejfiaaW.PrintLast Go.Proofs.Ytaembebbaejfiaa.Str Go.Proofs.Ytaembebbaejfiaa.Kit Go.Proofs.Ytaembebbaejfiaa.MapV Go.Proofs.Ytaembebbaejfiaa.Frame Go.Proofs.Ytaembebbaejfiaa.PS
set_option linter.unusedVariables false
set_option linter.unusedSimpArgs false
theorem t_one_str (v : Value) (w : World) : (Instr.typeAssert (.iface 9 v) 20 9 false).run Try.prog w = .ok v w := by kernel_rfl
def namesOf (ts : List BA) : List (Bs × Y) := fitM (ts.map fun t => (lb t, Y.null))
theorem namesOf_snoc (ts : List BA) (i : Nat) (hi : i < ts.length) : namesOf (ts.take (i + 1)) = mput (namesOf (ts.take i)) (lb (ts[i]'hi)) .null := by
 unfold namesOf
 rw [List.take_succ_eq_append_getElem hi, List.map_append]
 exact fitM_snoc _ _
theorem namesOf_length (ts : List BA) (i : Nat) : (namesOf (ts.take i)).length ≤ i := by
 unfold namesOf
 refine Nat.le_trans (fitM_length _) ?_
 rw [List.length_map]
 exact List.length_take_le _ _
set_option maxHeartbeats 3200000 in
set_option maxRecDepth 100000 in
theorem names_list (ts : List BA) (A : Option Addr) (c : Nat) (pv : Value) (ig : Bool) (w : World) (hn : ts.length ≤ 1759218604400) (hs : ∀ t, t ∈ ts → t.size ≤ maxLen) (hC : kAny.C w A ts.length (ts.map (fun t => Value.iface 9 (.string t)))) :
  Calls Try.prog 43 #[.iface 58 (.slice A ts.length c), pv, .bool ig] w fun e w' => ∃ v, e = .returned (.tuple #[v, .nilIface]) ∧ AR w' v (.map (namesOf ts)) (fun k => w.heap.size ≤ k ∧ k < w'.heap.size) ∧ Below w.heap.size w w' := by
 have f5 := t_lst
 have f6 := t_one_str
 have f7 := fun (n : Int) (W : World) => run_makeHint (P := Try.prog) amap_u .i64 n W
 have HC := aM hC
 have HS := aM hs
 have HB0 := aM (below_alloc (Below.refl w.heap.size w) (.map #[] 0))
 have HM0 := aM (MapAt.made w)
 clear hC hs
 go_enter Try.func43, Try.ntmps43
 go_wp2
 go_loopw [24, 12] (fun v24 v12 wr => ∃ i : Nat, v24 = .int .i64 i ∧ i ≤ ts.length ∧ Aside0 (∃ zs, MapAt wr w.heap.size zs (namesOf (ts.take i))) ∧ Aside0 (Below w.heap.size w wr)) (fun v24 _ _ => ts.length - (intOf v24).toNat)
 case atStart => exact ⟨0, rfl, by omega, ⟨[], HM0.out⟩, HB0⟩
 case round =>
  clear HM0 HB0
  obtain ⟨i, rfl, hiv, HM, HB⟩ := hrel
  have q0 : (0 : Int) ≤ (i : Int) := by omega
  by_cases hlv : i < ts.length
  ·have q2 : (i : Int) < (ts.length : Int) := by omega
   have hl0 : (ts.map (fun t => Value.iface 9 (.string t))).length = ts.length := List.length_map ..
   obtain ⟨vb, vo, rfl, hvb, hvc⟩ := kAny_at (A := A) (xs := ts.map (fun t => Value.iface 9 (.string t))) (by rw [hl0]; exact HC.out) (by omega)
   have e0 : w.cell? ⟨vb, vo + i, none⟩ = some (.iface 9 (.string (ts[i]'hlv))) := by
    have h := hvc i (by omega)
    rw [List.getElem_map] at h
    exact h
   have y0 := pw_cell_below HB.out e0
   have HKZ := aM (HS.out (ts[i]'hlv) (List.getElem_mem hlv))
   have HSN := aM (namesOf_snoc ts i hlv)
   obtain ⟨zs, hzs⟩ := HM.out
   have HZS := aM hzs
   have hlen := hzs.length
   have hle := namesOf_length ts i
   have hfit : (zs.map (fun z => (z.1, z.2.1))).length < maxLen := by rw [hlen]; unfold maxLen; omega
   have hmm := hzs.hm
   clear hvc e0 hl0 hlen hle hzs
   go_wp2_with (refine store_mapE (enc := (id : Value → Value)) (y := Value.nilIface) akey_u amap_u rfl _ _ _ rfl rfl hmm hfit rfl HKZ.out rfl ?_; intro w4 hm4 hg4; have HM4 := aM (HZS.out.put (Below.refl _ _) (AR.null _) (lb (ts[i]'hlv)) hm4 hg4); have HG4 := aM hg4; clear hm4 hg4)
   go_roundw
   case rel =>
    refine ⟨i + 1, by go_num, by omega, ⟨⟨_, by rw [HSN.out]; exact HM4.out⟩⟩, ⟨?_⟩⟩
    exact pw_below_grown HB.out _ HB.out.size HG4.out (fun k hk => by injection hk with hk; omega)
   case measure => simp [intOf]; omega
  ·have HTK := aM (show ts.take i = ts from List.take_of_length_le (by omega))
   go_wp2
   go_ret2
   obtain ⟨zs, hzs⟩ := HM.out
   rw [HTK.out] at hzs
   exact ⟨_, rfl, hzs.done, HB.out⟩
end Go.Proofs.Ytaembebbaejfiaa.Tr
namespace Go.Proofs.Ytaembebbaejfiaa.Mount
open Go.RowKit Go.Proofs.YtaembebbaejfiaaW.PrintWords Go.Proofs.Ytaembebbaejfiaa.Str Go.Proofs.Ytaembebbaejfiaa.Kit Go.Proofs.Ytaembebbaejfiaa.Frame
set_option linter.unusedVariables false
set_option linter.unusedSimpArgs false
theorem join_C {A : Option Addr} {c : Nat} {xs : List ByteArray} (sep : ByteArray) (w : World) (h : Kd.string.C w A xs.length xs) (hc : xs.length ≤ c)
  (hN : xs.length ≤ 140737488355328) (hlen : (Lib.join (xs.map lb) (lb sep)).length ≤ 140737488355328) :
  Calls Try.prog 52 #[.slice A xs.length c, .string sep] w fun e w' => e = .returned (.string ⟨(Lib.join (xs.map lb) (lb sep)).toArray⟩) ∧ Below w.heap.size w w' := by
 rcases Nat.eq_zero_or_pos xs.length with h0 | h0
 ·obtain rfl := List.eq_nil_of_length_eq_zero h0
  exact (Try.strings_Join_none A c sep w).mono fun e w' ⟨he, hw⟩ => ⟨he, hw ▸ Below.refl _ _⟩
 ·obtain ⟨bk, off, rfl, hbk, hcell⟩ := strs_open h h0
  exact Try.strings_Join bk off c xs sep w (fun j x hx => by
   obtain ⟨hj, rfl⟩ := List.getElem?_eq_some_iff.1 hx
   exact hcell j hj) hbk hN hc hlen
def newPath (xs : List ByteArray) : ByteArray := ⟨(Lib.join (xs.map lb) [46]).toArray⟩
set_option maxHeartbeats 400000 in
theorem tree_NewPath {A : Option Addr} {c : Nat} {xs : List ByteArray} (w : World) (h : Kd.string.C w A xs.length xs) (hc : xs.length ≤ c)
  (hN : xs.length ≤ 140737488355328) (hlen : (newPath xs).size ≤ 140737488355328) :
  Calls Try.prog 45 #[.slice A xs.length c] w fun e w' => e = .returned (.string (newPath xs)) ∧ Below w.heap.size w w' := by
 have H := aM h
 have HC := aM hc
 have HN := aM hN
 have HL := aM hlen
 clear h hc hN hlen
 go_enter Try.func45, Try.ntmps45
 go_wp2_with fail
 refine (join_C ⟨#[46]⟩ w H.out HC.out HN.out (by have := HL.out; rw [← lb_length, newPath, lb_mk] at this; exact this)).mono ?_
 rintro e w1 ⟨rfl, hb⟩
 have HB := aM hb
 clear hb
 go_wp2
 go_ret
 exact ⟨rfl, HB.out⟩
set_option maxHeartbeats 400000 in
theorem implAt (w : World) : Calls Try.prog 31 #[] w fun e w' => ∃ p, e = .returned (.string p) ∧ Below w.heap.size w w' := by
 have HC := aM (show Kd.string.C (w.alloc (.cells #[.string ⟨#[97, 116]⟩] 9)) (some ⟨w.heap.size, 0, none⟩) [(⟨#[97, 116]⟩ : ByteArray)].length [⟨#[97, 116]⟩] from strs_lit w 9 [(⟨#[97, 116]⟩ : ByteArray)] (by decide))
 go_enter Try.func31, Try.ntmps31
 go_wp2_with fail
 refine (tree_NewPath (c := 1) (xs := [(⟨#[97, 116]⟩ : ByteArray)]) _ HC.out (Nat.le_refl _) (by simp) (by decide)).mono ?_
 rintro e w1 ⟨rfl, hb⟩
 have HB := aM (hb_then ((Below.refl _ w).alloc (Nat.le_refl _) _) hb)
 clear hb
 go_wp2
 go_ret
 exact ⟨_, rfl, HB.out⟩
end Go.Proofs.Ytaembebbaejfiaa.Mount
