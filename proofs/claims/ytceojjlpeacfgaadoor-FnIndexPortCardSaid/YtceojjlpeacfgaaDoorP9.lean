/- Parts of the proof, laid together: QSpecSame, PortSame, PortLaw, PortVals, PortGet, PortUse, PortSamePart, PortWhole, LawPort, RowKit, PTab, ValArg. -/
import Derived.Test.YtceojjlpeacfgaaDoorP3
import Derived.Test.YtceojjlpeacfgaaDoorP4
import Derived.Test.YtceojjlpeacfgaaDoorP8
import Derived.Test.YtceojjlpeacfgaaDoorRows
import Derived.ProofKit
import Derived.OpenShut
import Derived.ShutString
import Derived.ChangeOld
import Derived.Below
import Derived.SizedLaws
import Derived.SliceStrings
import Derived.Test.YtceojjlpeacfgaaDoorCards
import Derived.PinnedBridge
import Derived.Stop.LaidErr
set_option linter.unusedVariables false
set_option linter.unusedSimpArgs false
namespace Go.Proofs.YtceojjlpeacfgaaDoor.PS
open Go.RowKit Go.Proofs.YtceojjlpeacfgaaDoorW.PrintWords Go.Proofs.YtceojjlpeacfgaaDoorW.PrintLast Go.Proofs.YtceojjlpeacfgaaDoorW.PrintMore
attribute [local go_sem] xf xd xj xi yw yu xe xc 
mutual
def spec_Same.j0 : Nat → Bool → Int → Int → ByteArray → List ByteArray → List (S25) → Int → Int → ByteArray → List ByteArray → List (S25) → Option (Bool)
 | 0, _, _, _, _, _, _, _, _, _, _, _ => none
 | k + 1, x43, x369000, x369001, x369002, x369003, x369004, x370000, x370001, x370002, x370003, x370004 => if x43 = true then (some false) else (spec_Same.l0 k 0 x369000 x369001 x369002 x369003 x369004 x370000 x370001 x370002 x370003 x370004)
def spec_Same.l0 : Nat → Int → Int → Int → ByteArray → List ByteArray → List (S25) → Int → Int → ByteArray → List ByteArray → List (S25) → Option (Bool)
 | 0, _, _, _, _, _, _, _, _, _, _, _ => none
 | k + 1, x5, x369000, x369001, x369002, x369003, x369004, x370000, x370001, x370002, x370003, x370004 => if x5 < (x369003.length : Int) then (if 0 ≤ x5 then (if x5 < (x370003.length : Int) then (if (rdOf ByteArray.empty x369003 x5).toList = (rdOf ByteArray.empty x370003 x5).toList then (spec_Same.l0 k (wrap64 (x5 + 1)) x369000 x369001 x369002 x369003 x369004 x370000 x370001 x370002 x370003 x370004) else (some false)) else (none)) else (none)) else (spec_Same.l1 k 0 x369000 x369001 x369002 x369003 x369004 x370000 x370001 x370002 x370003 x370004)
def spec_Same.l1 : Nat → Int → Int → Int → ByteArray → List ByteArray → List (S25) → Int → Int → ByteArray → List ByteArray → List (S25) → Option (Bool)
 | 0, _, _, _, _, _, _, _, _, _, _, _ => none
 | k + 1, x6, x369000, x369001, x369002, x369003, x369004, x370000, x370001, x370002, x370003, x370004 => if x6 < (x369004.length : Int) then (if 0 ≤ x6 then (if x6 < (x370004.length : Int) then ((spec_Same.f k ((rd_T25 x369004 x6).f0) ((rd_T25 x369004 x6).f1) ((rd_T25 x369004 x6).f2) ((rd_T25 x369004 x6).f3) ((rd_T25 x369004 x6).f4) ((rd_T25 x370004 x6).f0) ((rd_T25 x370004 x6).f1) ((rd_T25 x370004 x6).f2) ((rd_T25 x370004 x6).f3) ((rd_T25 x370004 x6).f4)).bind fun t374 => (if t374 = true then (spec_Same.l1 k (wrap64 (x6 + 1)) x369000 x369001 x369002 x369003 x369004 x370000 x370001 x370002 x370003 x370004) else (some false))) else (none)) else (none)) else (some true)
def spec_Same.f : Nat → Int → Int → ByteArray → List ByteArray → List (S25) → Int → Int → ByteArray → List ByteArray → List (S25) → Option (Bool)
 | 0, _, _, _, _, _, _, _, _, _, _ => none
 | k + 1, a0_0, a0_1, a0_2, l0_3, l0_4, a1_0, a1_1, a1_2, l1_3, l1_4 => if a0_0 = a1_0 then (if a0_1 = a1_1 then (if a0_2.toList = a1_2.toList then (if (l0_3.length : Int) = (l1_3.length : Int) then (spec_Same.j0 k ((l0_4.length : Int) != (l1_4.length : Int)) a0_0 a0_1 a0_2 l0_3 l0_4 a1_0 a1_1 a1_2 l1_3 l1_4) else (spec_Same.j0 k true a0_0 a0_1 a0_2 l0_3 l0_4 a1_0 a1_1 a1_2 l1_3 l1_4)) else (spec_Same.j0 k true a0_0 a0_1 a0_2 l0_3 l0_4 a1_0 a1_1 a1_2 l1_3 l1_4)) else (spec_Same.j0 k true a0_0 a0_1 a0_2 l0_3 l0_4 a1_0 a1_1 a1_2 l1_3 l1_4)) else (spec_Same.j0 k true a0_0 a0_1 a0_2 l0_3 l0_4 a1_0 a1_1 a1_2 l1_3 l1_4)
end
def spec_Same.T6 : Bool × List (List Nat × List Nat) := (true, [([], []), ([0], [0]), ([], []), ([1, 2], [1, 2]), ([3], [3]), ([], []), ([5], [5]), ([], []), ([6, 7], [6, 7]), ([8], [8]), ([4, 9], [4, 9])])
def spec_Same.B6 : List Nat := [0, 1, 0, 7, 15, 0, 32, 0, 224, 480, 1023]
theorem spec_Same.tab6 : rtab .any (opsOf Tryd.f23 6) = spec_Same.T6 := by kernel_rfl
theorem spec_Same.bits6 : waitsOk spec_Same.T6.2 spec_Same.B6 = true := by kernel_rfl
def spec_Same.T11 : Bool × List (List Nat × List Nat) := (true, [([], []), ([0], [0]), ([], []), ([1, 2], [1, 2]), ([3], [3]), ([], []), ([5], [5]), ([], []), ([6, 7], [6, 7]), ([8], [8]), ([4, 9], [4, 9]), ([10], [10])])
def spec_Same.B11 : List Nat := [0, 1, 0, 7, 15, 0, 32, 0, 224, 480, 1023, 2047]
theorem spec_Same.tab11 : rtab .any (opsOf Tryd.f23 11) = spec_Same.T11 := by kernel_rfl
theorem spec_Same.bits11 : waitsOk spec_Same.T11.2 spec_Same.B11 = true := by kernel_rfl
set_option maxHeartbeats 8000000 in
set_option maxRecDepth 100000 in
theorem spec_Same.calls (k : Nat) : ∀ (a0_0 : Int) (a0_1 : Int) (a0_2 : ByteArray) (A0_3 : Option Addr) (c0_3 : Nat) (l0_3 : List ByteArray) (A0_4 : Option Addr) (c0_4 : Nat) (l0_4 : List (S25)) (a1_0 : Int) (a1_1 : Int) (a1_2 : ByteArray) (A1_3 : Option Addr) (c1_3 : Nat) (l1_3 : List ByteArray) (A1_4 : Option Addr) (c1_4 : Nat) (l1_4 : List (S25)) (r : Bool) (w : World) (hr0_3 : Kd.C Kd.string w A0_3 l0_3.length l0_3) (hc0_3 : l0_3.length ≤ c0_3) (hr0_4 : Kd.C k25 w A0_4 l0_4.length l0_4) (hc0_4 : l0_4.length ≤ c0_4) (hr1_3 : Kd.C Kd.string w A1_3 l1_3.length l1_3) (hc1_3 : l1_3.length ≤ c1_3) (hr1_4 : Kd.C k25 w A1_4 l1_4.length l1_4) (hc1_4 : l1_4.length ≤ c1_4) (h : spec_Same.f k a0_0 a0_1 a0_2 l0_3 l0_4 a1_0 a1_1 a1_2 l1_3 l1_4 = some r),
  Calls Tryd.prog 23 #[.agg #[.int .i64 a0_0, .int .i64 a0_1, .string a0_2, .slice A0_3 l0_3.length c0_3, .slice A0_4 l0_4.length c0_4], .agg #[.int .i64 a1_0, .int .i64 a1_1, .string a1_2, .slice A1_3 l1_3.length c1_3, .slice A1_4 l1_4.length c1_4]] w fun e w' => e = .returned (.bool r) ∧ Below w.heap.size w w' := by
 induction k using Nat.strongRecOn with
 | _ k ih =>
 intro a0_0 a0_1 a0_2 A0_3 c0_3 l0_3 A0_4 c0_4 l0_4 a1_0 a1_1 a1_2 A1_3 c1_3 l1_3 A1_4 c1_4 l1_4 r w hr0_3 hc0_3 hr0_4 hc0_4 hr1_3 hc1_3 hr1_4 hc1_4 h
 cases k with
 | zero => exact absurd h (by simp [spec_Same.f])
 | succ k =>
 simp only [spec_Same.f] at h; have hu25 := Tryd.underlying25; have HR0_3 := aM hr0_3; have HC0_3 := aM hc0_3; clear hr0_3 hc0_3; have HR0_4 := aM hr0_4; have HC0_4 := aM hc0_4; clear hr0_4 hc0_4; have HR1_3 := aM hr1_3; have HC1_3 := aM hc1_3; clear hr1_3 hc1_3; have HR1_4 := aM hr1_4; have HC1_4 := aM hc1_4; clear hr1_4 hc1_4; have HB := aM (Below.refl w.heap.size w); have H : (if a0_0 = a1_0 then (if a0_1 = a1_1 then (if a0_2.toList = a1_2.toList then (if (l0_3.length : Int) = (l1_3.length : Int) then (spec_Same.j0 k ((l0_4.length : Int) != (l1_4.length : Int)) a0_0 a0_1 a0_2 l0_3 l0_4 a1_0 a1_1 a1_2 l1_3 l1_4) else (spec_Same.j0 k true a0_0 a0_1 a0_2 l0_3 l0_4 a1_0 a1_1 a1_2 l1_3 l1_4)) else (spec_Same.j0 k true a0_0 a0_1 a0_2 l0_3 l0_4 a1_0 a1_1 a1_2 l1_3 l1_4)) else (spec_Same.j0 k true a0_0 a0_1 a0_2 l0_3 l0_4 a1_0 a1_1 a1_2 l1_3 l1_4)) else (spec_Same.j0 k true a0_0 a0_1 a0_2 l0_3 l0_4 a1_0 a1_1 a1_2 l1_3 l1_4)) = some r := h; clear h; have HC3 := aM H; clear H
 go_enter Tryd.func23, Tryd.ntmps23
 go_upto_region 1 with (first | ((with_reducible refine ya (N := 2) rfl ?_); (try (refine yt (by rfl) ?_; dsimp only)); refine zw ?hg (N := 2) ?hd (cs := #[.int .i64 a0_0, .int .i64 a0_1, .string a0_2, .slice A0_3 l0_3.length c0_3, .slice A0_4 l0_4.length c0_4]) (t := 25) ?hr ?_; (case hd => rfl); (case hg => rfl); (case hr => first | (go_simp; done) | (go_simp; rfl)); intro gb368 hg w4 hbox hb; have n0_ := aM (zo (by repeat (first | (with_reducible first | exact HB.out | apply zf | apply zc | apply zj) | exact HB.out)) hb); have n1_ := aM (hbox); have n2_ := aM ((by rw [hg]; exact (zm (by repeat (first | (with_reducible first | exact HB.out | apply zf | apply zc | apply zj) | exact HB.out))) : w.heap.size ≤ gb368)); have n3_ := aM ((by rw [hg]; exact (zm (by repeat (first | (with_reducible first | exact HB.out | apply zf | apply zc | apply zj) | exact HB.out))) : w.heap.size ≤ gb368)); clear HB; have HB := n0_; have BK368 := n1_; have GW368 := n2_; have GE368 := n3_; clear n0_ n1_ n2_ n3_; clear hb hbox hg) | ((with_reducible refine ya (N := 3) rfl ?_); (try (refine yt (by rfl) ?_; dsimp only)); refine zw ?hg (N := 3) ?hd (cs := #[.int .i64 a1_0, .int .i64 a1_1, .string a1_2, .slice A1_3 l1_3.length c1_3, .slice A1_4 l1_4.length c1_4]) (t := 25) ?hr ?_; (case hd => rfl); (case hg => rfl); (case hr => first | (go_simp; done) | (go_simp; rfl)); intro gb369 hg w5 hbox hb; have n0_ := aM (zq (g := gb368) (o := .cells #[.int .i64 a0_0, .int .i64 a0_1, .string a0_2, .slice A0_3 l0_3.length c0_3, .slice A0_4 l0_4.length c0_4] 25 (0, 0)) (by (with_reducible repeat (first | refine zg ?_ _ | refine zh ?_ | refine ze ?_ _)); exact BK368.out) hb); have n1_ := aM (zo (by repeat (first | (with_reducible first | exact HB.out | apply zf | apply zc | apply zj | refine zi ?_ GE368.out) | exact HB.out)) hb); have n2_ := aM (hbox); have n3_ := aM ((by rw [hg]; exact (zm (by repeat (first | (with_reducible first | exact HB.out | apply zf | apply zc | apply zj | refine zi ?_ GE368.out) | exact HB.out))) : w.heap.size ≤ gb369)); have n4_ := aM ((by rw [hg]; exact (zm (by repeat (first | (with_reducible first | exact HB.out | apply zf | apply zc | apply zj | refine zi ?_ GE368.out) | exact HB.out))) : w.heap.size ≤ gb369)); have n5_ := aM ((by rw [hg]; exact Nat.ne_of_lt (ye (g := gb368) (o := .cells #[.int .i64 a0_0, .int .i64 a0_1, .string a0_2, .slice A0_3 l0_3.length c0_3, .slice A0_4 l0_4.length c0_4] 25 (0, 0)) (by (with_reducible repeat (first | refine zg ?_ _ | refine zh ?_ | refine ze ?_ _)); exact BK368.out)) : gb368 ≠ gb369)); have n6_ := aM ((by rw [hg]; exact Nat.ne_of_gt (ye (g := gb368) (o := .cells #[.int .i64 a0_0, .int .i64 a0_1, .string a0_2, .slice A0_3 l0_3.length c0_3, .slice A0_4 l0_4.length c0_4] 25 (0, 0)) (by (with_reducible repeat (first | refine zg ?_ _ | refine zh ?_ | refine ze ?_ _)); exact BK368.out)) : gb369 ≠ gb368)); clear BK368; clear HB; have BK368 := n0_; have HB := n1_; have BK369 := n2_; have GW369 := n3_; have GE369 := n4_; have NB368_369 := n5_; have NB369_368 := n6_; clear n0_ n1_ n2_ n3_ n4_ n5_ n6_; clear hb hbox hg))
 (try simp only [Act.put, List.setIfInBounds_toArray, List.set_cons_zero, List.set_cons_succ])
 go_cut [43] (fun v43 wc => ∃ (kq : Nat) (x43_2 : Bool), v43 = .bool x43_2 ∧ Aside0 (spec_Same.j0 kq x43_2 a0_0 a0_1 a0_2 l0_3 l0_4 a1_0 a1_1 a1_2 l1_3 l1_4 = some r) ∧ Aside0 (kq ≤ k) ∧ Aside0 (wc.heap[gb368]? = some (.cells #[.int .i64 a0_0, .int .i64 a0_1, .string a0_2, (.slice A0_3 l0_3.length c0_3), (.slice A0_4 l0_4.length c0_4)] 25 (0, 0))) ∧ Aside0 (wc.heap[gb369]? = some (.cells #[.int .i64 a1_0, .int .i64 a1_1, .string a1_2, (.slice A1_3 l1_3.length c1_3), (.slice A1_4 l1_4.length c1_4)] 25 (0, 0))) ∧ Aside0 (Below w.heap.size w wc))
 case first =>
  have H := HC3.out; clear HC3
  by_cases c6 : a0_0 = a1_0
  ·rw [if_pos c6] at H; have c6b0 : (a0_0 == a1_0) = true := beq_iff_eq.mpr c6; have c6b1 : (a0_0 != a1_0) = false := bne_eq_false_iff_eq.mpr c6; clear c6
   (first | rw [c6b0] | (simp only [yb, yc]; rw [c6b0]) | skip)
   by_cases c7 : a0_1 = a1_1
   ·rw [if_pos c7] at H; have c7b0 : (a0_1 == a1_1) = true := beq_iff_eq.mpr c7; have c7b1 : (a0_1 != a1_1) = false := bne_eq_false_iff_eq.mpr c7; clear c7
    by_cases c8 : a0_2.toList = a1_2.toList
    ·rw [if_pos c8] at H; have c8b0 : (a0_2.toList == a1_2.toList) = true := beq_iff_eq.mpr c8; have c8b1 : (a0_2.toList != a1_2.toList) = false := bne_eq_false_iff_eq.mpr c8; clear c8
     by_cases c9 : (l0_3.length : Int) = (l1_3.length : Int)
     ·rw [if_pos c9] at H; have c9b0 : ((l0_3.length : Int) == (l1_3.length : Int)) = true := beq_iff_eq.mpr c9; have c9b1 : ((l0_3.length : Int) != (l1_3.length : Int)) = false := bne_eq_false_iff_eq.mpr c9
      have c9b2 : (l0_3.length == l1_3.length) = true := by first | simpa using c9 | (simp at c9 ⊢; omega)
      clear c9; have H' := aM H; clear H; have hnb10 := NB368_369.out; have hnc10 := NB369_368.out; have hcz11_0 : w5.cell? ⟨gb368, 0, none⟩ = some (.int .i64 a0_0) := (za BK368.out 0).trans rfl; have hcz11_1 : w5.cell? ⟨gb368, 1, none⟩ = some (.int .i64 a0_1) := (za BK368.out 1).trans rfl; have hcz11_2 : w5.cell? ⟨gb368, 2, none⟩ = some (.string a0_2) := (za BK368.out 2).trans rfl; have hcz11_3 : w5.cell? ⟨gb368, 3, none⟩ = some (.slice A0_3 l0_3.length c0_3) := (za BK368.out 3).trans rfl; have hcz11_4 : w5.cell? ⟨gb368, 4, none⟩ = some (.slice A0_4 l0_4.length c0_4) := (za BK368.out 4).trans rfl; have hfz11_0 := zb BK368.out 0; have hfz11_1 := zb BK368.out 1; have hfz11_2 := zb BK368.out 2; have hfz11_3 := zb BK368.out 3; have hfz11_4 := zb BK368.out 4; have hcz12_0 : w5.cell? ⟨gb369, 0, none⟩ = some (.int .i64 a1_0) := (za BK369.out 0).trans rfl; have hcz12_1 : w5.cell? ⟨gb369, 1, none⟩ = some (.int .i64 a1_1) := (za BK369.out 1).trans rfl; have hcz12_2 : w5.cell? ⟨gb369, 2, none⟩ = some (.string a1_2) := (za BK369.out 2).trans rfl; have hcz12_3 : w5.cell? ⟨gb369, 3, none⟩ = some (.slice A1_3 l1_3.length c1_3) := (za BK369.out 3).trans rfl; have hcz12_4 : w5.cell? ⟨gb369, 4, none⟩ = some (.slice A1_4 l1_4.length c1_4) := (za BK369.out 4).trans rfl; have hfz12_0 := zb BK369.out 0; have hfz12_1 := zb BK369.out 1; have hfz12_2 := zb BK369.out 2; have hfz12_3 := zb BK369.out 3; have hfz12_4 := zb BK369.out 4
      go_wp2
      go_meet
      case rel => exact ⟨_, (((l0_4.length : Int) != (l1_4.length : Int))), (by first | rfl | (simp; done) | (simp [*]; done)), H', ⟨by first | omega | exact Nat.le_refl _⟩, ⟨by (with_reducible repeat (first | refine zg ?_ _ | refine zh ?_ | refine ze ?_ _)); exact BK368.out⟩, ⟨by (with_reducible repeat (first | refine zg ?_ _ | refine zh ?_ | refine ze ?_ _)); exact BK369.out⟩, ⟨by repeat (first | (with_reducible first | exact HB.out | apply zf | apply zc | apply zj | refine zi ?_ GE368.out | refine zi ?_ GE369.out) | exact HB.out)⟩⟩
     ·rw [if_neg c9] at H; have c9b0 : ((l0_3.length : Int) == (l1_3.length : Int)) = false := beq_eq_false_iff_ne.mpr c9; have c9b1 : ((l0_3.length : Int) != (l1_3.length : Int)) = true := bne_iff_ne.mpr c9
      have c9b2 : (l0_3.length == l1_3.length) = false := by first | simpa using c9 | (simp at c9 ⊢; omega)
      have H' := aM H; clear H; have hnb13 := NB368_369.out; have hnc13 := NB369_368.out; have hcz14_0 : w5.cell? ⟨gb368, 0, none⟩ = some (.int .i64 a0_0) := (za BK368.out 0).trans rfl; have hcz14_1 : w5.cell? ⟨gb368, 1, none⟩ = some (.int .i64 a0_1) := (za BK368.out 1).trans rfl; have hcz14_2 : w5.cell? ⟨gb368, 2, none⟩ = some (.string a0_2) := (za BK368.out 2).trans rfl; have hcz14_3 : w5.cell? ⟨gb368, 3, none⟩ = some (.slice A0_3 l0_3.length c0_3) := (za BK368.out 3).trans rfl; have hcz14_4 : w5.cell? ⟨gb368, 4, none⟩ = some (.slice A0_4 l0_4.length c0_4) := (za BK368.out 4).trans rfl; have hfz14_0 := zb BK368.out 0; have hfz14_1 := zb BK368.out 1; have hfz14_2 := zb BK368.out 2; have hfz14_3 := zb BK368.out 3; have hfz14_4 := zb BK368.out 4; have hcz15_0 : w5.cell? ⟨gb369, 0, none⟩ = some (.int .i64 a1_0) := (za BK369.out 0).trans rfl; have hcz15_1 : w5.cell? ⟨gb369, 1, none⟩ = some (.int .i64 a1_1) := (za BK369.out 1).trans rfl; have hcz15_2 : w5.cell? ⟨gb369, 2, none⟩ = some (.string a1_2) := (za BK369.out 2).trans rfl; have hcz15_3 : w5.cell? ⟨gb369, 3, none⟩ = some (.slice A1_3 l1_3.length c1_3) := (za BK369.out 3).trans rfl; have hcz15_4 : w5.cell? ⟨gb369, 4, none⟩ = some (.slice A1_4 l1_4.length c1_4) := (za BK369.out 4).trans rfl; have hfz15_0 := zb BK369.out 0; have hfz15_1 := zb BK369.out 1; have hfz15_2 := zb BK369.out 2; have hfz15_3 := zb BK369.out 3; have hfz15_4 := zb BK369.out 4
      go_wp2
      go_meet
      case rel => exact ⟨_, (true), (by first | rfl | (simp; done) | (simp [*]; done)), H', ⟨by first | omega | exact Nat.le_refl _⟩, ⟨by (with_reducible repeat (first | refine zg ?_ _ | refine zh ?_ | refine ze ?_ _)); exact BK368.out⟩, ⟨by (with_reducible repeat (first | refine zg ?_ _ | refine zh ?_ | refine ze ?_ _)); exact BK369.out⟩, ⟨by repeat (first | (with_reducible first | exact HB.out | apply zf | apply zc | apply zj | refine zi ?_ GE368.out | refine zi ?_ GE369.out) | exact HB.out)⟩⟩
    ·rw [if_neg c8] at H; have c8b0 : (a0_2.toList == a1_2.toList) = false := beq_eq_false_iff_ne.mpr c8; have c8b1 : (a0_2.toList != a1_2.toList) = true := bne_iff_ne.mpr c8; have H' := aM H; clear H; have hnb16 := NB368_369.out; have hnc16 := NB369_368.out; have hcz17_0 : w5.cell? ⟨gb368, 0, none⟩ = some (.int .i64 a0_0) := (za BK368.out 0).trans rfl; have hcz17_1 : w5.cell? ⟨gb368, 1, none⟩ = some (.int .i64 a0_1) := (za BK368.out 1).trans rfl; have hcz17_2 : w5.cell? ⟨gb368, 2, none⟩ = some (.string a0_2) := (za BK368.out 2).trans rfl; have hcz17_3 : w5.cell? ⟨gb368, 3, none⟩ = some (.slice A0_3 l0_3.length c0_3) := (za BK368.out 3).trans rfl; have hcz17_4 : w5.cell? ⟨gb368, 4, none⟩ = some (.slice A0_4 l0_4.length c0_4) := (za BK368.out 4).trans rfl; have hfz17_0 := zb BK368.out 0; have hfz17_1 := zb BK368.out 1; have hfz17_2 := zb BK368.out 2; have hfz17_3 := zb BK368.out 3; have hfz17_4 := zb BK368.out 4; have hcz18_0 : w5.cell? ⟨gb369, 0, none⟩ = some (.int .i64 a1_0) := (za BK369.out 0).trans rfl; have hcz18_1 : w5.cell? ⟨gb369, 1, none⟩ = some (.int .i64 a1_1) := (za BK369.out 1).trans rfl; have hcz18_2 : w5.cell? ⟨gb369, 2, none⟩ = some (.string a1_2) := (za BK369.out 2).trans rfl; have hcz18_3 : w5.cell? ⟨gb369, 3, none⟩ = some (.slice A1_3 l1_3.length c1_3) := (za BK369.out 3).trans rfl; have hcz18_4 : w5.cell? ⟨gb369, 4, none⟩ = some (.slice A1_4 l1_4.length c1_4) := (za BK369.out 4).trans rfl; have hfz18_0 := zb BK369.out 0; have hfz18_1 := zb BK369.out 1; have hfz18_2 := zb BK369.out 2; have hfz18_3 := zb BK369.out 3; have hfz18_4 := zb BK369.out 4
     go_wp2
     go_meet
     case rel => exact ⟨_, (true), (by first | rfl | (simp; done) | (simp [*]; done)), H', ⟨by first | omega | exact Nat.le_refl _⟩, ⟨by (with_reducible repeat (first | refine zg ?_ _ | refine zh ?_ | refine ze ?_ _)); exact BK368.out⟩, ⟨by (with_reducible repeat (first | refine zg ?_ _ | refine zh ?_ | refine ze ?_ _)); exact BK369.out⟩, ⟨by repeat (first | (with_reducible first | exact HB.out | apply zf | apply zc | apply zj | refine zi ?_ GE368.out | refine zi ?_ GE369.out) | exact HB.out)⟩⟩
   ·rw [if_neg c7] at H; have c7b0 : (a0_1 == a1_1) = false := beq_eq_false_iff_ne.mpr c7; have c7b1 : (a0_1 != a1_1) = true := bne_iff_ne.mpr c7; have H' := aM H; clear H; have hnb19 := NB368_369.out; have hnc19 := NB369_368.out; have hcz20_0 : w5.cell? ⟨gb368, 0, none⟩ = some (.int .i64 a0_0) := (za BK368.out 0).trans rfl; have hcz20_1 : w5.cell? ⟨gb368, 1, none⟩ = some (.int .i64 a0_1) := (za BK368.out 1).trans rfl; have hcz20_2 : w5.cell? ⟨gb368, 2, none⟩ = some (.string a0_2) := (za BK368.out 2).trans rfl; have hcz20_3 : w5.cell? ⟨gb368, 3, none⟩ = some (.slice A0_3 l0_3.length c0_3) := (za BK368.out 3).trans rfl; have hcz20_4 : w5.cell? ⟨gb368, 4, none⟩ = some (.slice A0_4 l0_4.length c0_4) := (za BK368.out 4).trans rfl; have hfz20_0 := zb BK368.out 0; have hfz20_1 := zb BK368.out 1; have hfz20_2 := zb BK368.out 2; have hfz20_3 := zb BK368.out 3; have hfz20_4 := zb BK368.out 4; have hcz21_0 : w5.cell? ⟨gb369, 0, none⟩ = some (.int .i64 a1_0) := (za BK369.out 0).trans rfl; have hcz21_1 : w5.cell? ⟨gb369, 1, none⟩ = some (.int .i64 a1_1) := (za BK369.out 1).trans rfl; have hcz21_2 : w5.cell? ⟨gb369, 2, none⟩ = some (.string a1_2) := (za BK369.out 2).trans rfl; have hcz21_3 : w5.cell? ⟨gb369, 3, none⟩ = some (.slice A1_3 l1_3.length c1_3) := (za BK369.out 3).trans rfl; have hcz21_4 : w5.cell? ⟨gb369, 4, none⟩ = some (.slice A1_4 l1_4.length c1_4) := (za BK369.out 4).trans rfl; have hfz21_0 := zb BK369.out 0; have hfz21_1 := zb BK369.out 1; have hfz21_2 := zb BK369.out 2; have hfz21_3 := zb BK369.out 3; have hfz21_4 := zb BK369.out 4
    go_wp2
    go_meet
    case rel => exact ⟨_, (true), (by first | rfl | (simp; done) | (simp [*]; done)), H', ⟨by first | omega | exact Nat.le_refl _⟩, ⟨by (with_reducible repeat (first | refine zg ?_ _ | refine zh ?_ | refine ze ?_ _)); exact BK368.out⟩, ⟨by (with_reducible repeat (first | refine zg ?_ _ | refine zh ?_ | refine ze ?_ _)); exact BK369.out⟩, ⟨by repeat (first | (with_reducible first | exact HB.out | apply zf | apply zc | apply zj | refine zi ?_ GE368.out | refine zi ?_ GE369.out) | exact HB.out)⟩⟩
  ·rw [if_neg c6] at H; have c6b0 : (a0_0 == a1_0) = false := beq_eq_false_iff_ne.mpr c6; have c6b1 : (a0_0 != a1_0) = true := bne_iff_ne.mpr c6
   (first | rw [c6b0] | (simp only [yb, yc]; rw [c6b0]) | skip)
   have H' := aM H; clear H; have hnb22 := NB368_369.out; have hnc22 := NB369_368.out; have hcz23_0 : w5.cell? ⟨gb368, 0, none⟩ = some (.int .i64 a0_0) := (za BK368.out 0).trans rfl; have hcz23_1 : w5.cell? ⟨gb368, 1, none⟩ = some (.int .i64 a0_1) := (za BK368.out 1).trans rfl; have hcz23_2 : w5.cell? ⟨gb368, 2, none⟩ = some (.string a0_2) := (za BK368.out 2).trans rfl; have hcz23_3 : w5.cell? ⟨gb368, 3, none⟩ = some (.slice A0_3 l0_3.length c0_3) := (za BK368.out 3).trans rfl; have hcz23_4 : w5.cell? ⟨gb368, 4, none⟩ = some (.slice A0_4 l0_4.length c0_4) := (za BK368.out 4).trans rfl; have hfz23_0 := zb BK368.out 0; have hfz23_1 := zb BK368.out 1; have hfz23_2 := zb BK368.out 2; have hfz23_3 := zb BK368.out 3; have hfz23_4 := zb BK368.out 4; have hcz24_0 : w5.cell? ⟨gb369, 0, none⟩ = some (.int .i64 a1_0) := (za BK369.out 0).trans rfl; have hcz24_1 : w5.cell? ⟨gb369, 1, none⟩ = some (.int .i64 a1_1) := (za BK369.out 1).trans rfl; have hcz24_2 : w5.cell? ⟨gb369, 2, none⟩ = some (.string a1_2) := (za BK369.out 2).trans rfl; have hcz24_3 : w5.cell? ⟨gb369, 3, none⟩ = some (.slice A1_3 l1_3.length c1_3) := (za BK369.out 3).trans rfl; have hcz24_4 : w5.cell? ⟨gb369, 4, none⟩ = some (.slice A1_4 l1_4.length c1_4) := (za BK369.out 4).trans rfl; have hfz24_0 := zb BK369.out 0; have hfz24_1 := zb BK369.out 1; have hfz24_2 := zb BK369.out 2; have hfz24_3 := zb BK369.out 3; have hfz24_4 := zb BK369.out 4
   go_wp2
   go_meet
   case rel => exact ⟨_, (true), (by first | rfl | (simp; done) | (simp [*]; done)), H', ⟨by first | omega | exact Nat.le_refl _⟩, ⟨by (with_reducible repeat (first | refine zg ?_ _ | refine zh ?_ | refine ze ?_ _)); exact BK368.out⟩, ⟨by (with_reducible repeat (first | refine zg ?_ _ | refine zh ?_ | refine ze ?_ _)); exact BK369.out⟩, ⟨by repeat (first | (with_reducible first | exact HB.out | apply zf | apply zc | apply zj | refine zi ?_ GE368.out | refine zi ?_ GE369.out) | exact HB.out)⟩⟩
 case rest =>
  clear HC3
  try clear c1
  try clear c2
  try clear p2
  try clear c6
  try clear c6b0
  try clear c6b1
  try clear c7
  try clear c7b0
  try clear c7b1
  try clear c8
  try clear c8b0
  try clear c8b1
  try clear c9
  try clear c9b0
  try clear c9b1
  try clear c9b2
  try clear c10
  try clear c13
  try clear c16
  try clear c19
  try clear c22
  try clear c23
  try clear hcz11_0
  try clear hcz11_1
  try clear hcz11_2
  try clear hcz11_3
  try clear hcz11_4
  try clear hcz12_0
  try clear hcz12_1
  try clear hcz12_2
  try clear hcz12_3
  try clear hcz12_4
  try clear hcz14_0
  try clear hcz14_1
  try clear hcz14_2
  try clear hcz14_3
  try clear hcz14_4
  try clear hcz15_0
  try clear hcz15_1
  try clear hcz15_2
  try clear hcz15_3
  try clear hcz15_4
  try clear hcz17_0
  try clear hcz17_1
  try clear hcz17_2
  try clear hcz17_3
  try clear hcz17_4
  try clear hcz18_0
  try clear hcz18_1
  try clear hcz18_2
  try clear hcz18_3
  try clear hcz18_4
  try clear hcz20_0
  try clear hcz20_1
  try clear hcz20_2
  try clear hcz20_3
  try clear hcz20_4
  try clear hcz21_0
  try clear hcz21_1
  try clear hcz21_2
  try clear hcz21_3
  try clear hcz21_4
  try clear hcz23_0
  try clear hcz23_1
  try clear hcz23_2
  try clear hcz23_3
  try clear hcz23_4
  try clear hcz24_0
  try clear hcz24_1
  try clear hcz24_2
  try clear hcz24_3
  try clear hcz24_4
  try clear hfz11_0
  try clear hfz11_1
  try clear hfz11_2
  try clear hfz11_3
  try clear hfz11_4
  try clear hfz12_0
  try clear hfz12_1
  try clear hfz12_2
  try clear hfz12_3
  try clear hfz12_4
  try clear hfz14_0
  try clear hfz14_1
  try clear hfz14_2
  try clear hfz14_3
  try clear hfz14_4
  try clear hfz15_0
  try clear hfz15_1
  try clear hfz15_2
  try clear hfz15_3
  try clear hfz15_4
  try clear hfz17_0
  try clear hfz17_1
  try clear hfz17_2
  try clear hfz17_3
  try clear hfz17_4
  try clear hfz18_0
  try clear hfz18_1
  try clear hfz18_2
  try clear hfz18_3
  try clear hfz18_4
  try clear hfz20_0
  try clear hfz20_1
  try clear hfz20_2
  try clear hfz20_3
  try clear hfz20_4
  try clear hfz21_0
  try clear hfz21_1
  try clear hfz21_2
  try clear hfz21_3
  try clear hfz21_4
  try clear hfz23_0
  try clear hfz23_1
  try clear hfz23_2
  try clear hfz23_3
  try clear hfz23_4
  try clear hfz24_0
  try clear hfz24_1
  try clear hfz24_2
  try clear hfz24_3
  try clear hfz24_4
  obtain ⟨kq, x43_2, rfl, HA, HJ2, BK368, BK369, HB⟩ := hcut
  cases kq with
  | zero => exact absurd HA.out (by simp [spec_Same.j0])
  | succ kj2 =>
   have H := HA.out; clear HA; simp only [spec_Same.j0] at H
   by_cases c25 : x43_2 = true
   ·subst c25
    have H1 : (some false) = some r := by rw [if_pos rfl] at H; exact H
    clear H; have H := H1; clear H1; obtain rfl := Option.some.inj H
    go_wp2
    go_ret
    exact ⟨by first | rfl | (simp [zu, zt] <;> rfl) | (simp [*, zu, zt] <;> rfl), by repeat (first | (with_reducible first | exact HB.out | apply zf | apply zc | apply zj | refine zi ?_ GE368.out | refine zi ?_ GE369.out) | exact HB.out)⟩
   ·replace c25 := Bool.eq_false_iff.mpr c25; subst c25
    have H1 : (spec_Same.l0 kj2 0 a0_0 a0_1 a0_2 l0_3 l0_4 a1_0 a1_1 a1_2 l1_3 l1_4) = some r := by rw [if_neg (show ¬ (false = true) by decide)] at H; exact H
    clear H; have H := H1; clear H1; have H' := aM H; clear H
    go_wp2
    go_loopg [5] kj2 (fun kq v5 w' => ∃ (x5_2 : Int), v5 = .int .i64 x5_2 ∧ Aside0 (spec_Same.l0 kq x5_2 a0_0 a0_1 a0_2 l0_3 l0_4 a1_0 a1_1 a1_2 l1_3 l1_4 = some r) ∧ Aside0 (kq ≤ kj2) ∧ Aside0 (w'.heap[gb368]? = some (.cells #[.int .i64 a0_0, .int .i64 a0_1, .string a0_2, (.slice A0_3 l0_3.length c0_3), (.slice A0_4 l0_4.length c0_4)] 25 (0, 0))) ∧ Aside0 (w'.heap[gb369]? = some (.cells #[.int .i64 a1_0, .int .i64 a1_1, .string a1_2, (.slice A1_3 l1_3.length c1_3), (.slice A1_4 l1_4.length c1_4)] 25 (0, 0))) ∧ Aside0 (Below w.heap.size w w'))
    case atStart => exact ⟨(0), (by first | rfl | (simp; done) | (simp [*]; done)), H', ⟨Nat.le_refl _⟩, ⟨by (with_reducible repeat (first | refine zg ?_ _ | refine zh ?_ | refine ze ?_ _)); exact BK368.out⟩, ⟨by (with_reducible repeat (first | refine zg ?_ _ | refine zh ?_ | refine ze ?_ _)); exact BK369.out⟩, ⟨by repeat (first | (with_reducible first | exact HB.out | apply zf | apply zc | apply zj | refine zi ?_ GE368.out | refine zi ?_ GE369.out) | exact HB.out)⟩⟩
    case round =>
     clear H'
     try clear c1
     try clear c2
     try clear p2
     try clear c6
     try clear c6b0
     try clear c6b1
     try clear c7
     try clear c7b0
     try clear c7b1
     try clear c8
     try clear c8b0
     try clear c8b1
     try clear c9
     try clear c9b0
     try clear c9b1
     try clear c9b2
     try clear c10
     try clear c13
     try clear c16
     try clear c19
     try clear c22
     try clear c23
     try clear c25
     try clear hcz11_0
     try clear hcz11_1
     try clear hcz11_2
     try clear hcz11_3
     try clear hcz11_4
     try clear hcz12_0
     try clear hcz12_1
     try clear hcz12_2
     try clear hcz12_3
     try clear hcz12_4
     try clear hcz14_0
     try clear hcz14_1
     try clear hcz14_2
     try clear hcz14_3
     try clear hcz14_4
     try clear hcz15_0
     try clear hcz15_1
     try clear hcz15_2
     try clear hcz15_3
     try clear hcz15_4
     try clear hcz17_0
     try clear hcz17_1
     try clear hcz17_2
     try clear hcz17_3
     try clear hcz17_4
     try clear hcz18_0
     try clear hcz18_1
     try clear hcz18_2
     try clear hcz18_3
     try clear hcz18_4
     try clear hcz20_0
     try clear hcz20_1
     try clear hcz20_2
     try clear hcz20_3
     try clear hcz20_4
     try clear hcz21_0
     try clear hcz21_1
     try clear hcz21_2
     try clear hcz21_3
     try clear hcz21_4
     try clear hcz23_0
     try clear hcz23_1
     try clear hcz23_2
     try clear hcz23_3
     try clear hcz23_4
     try clear hcz24_0
     try clear hcz24_1
     try clear hcz24_2
     try clear hcz24_3
     try clear hcz24_4
     try clear hfz11_0
     try clear hfz11_1
     try clear hfz11_2
     try clear hfz11_3
     try clear hfz11_4
     try clear hfz12_0
     try clear hfz12_1
     try clear hfz12_2
     try clear hfz12_3
     try clear hfz12_4
     try clear hfz14_0
     try clear hfz14_1
     try clear hfz14_2
     try clear hfz14_3
     try clear hfz14_4
     try clear hfz15_0
     try clear hfz15_1
     try clear hfz15_2
     try clear hfz15_3
     try clear hfz15_4
     try clear hfz17_0
     try clear hfz17_1
     try clear hfz17_2
     try clear hfz17_3
     try clear hfz17_4
     try clear hfz18_0
     try clear hfz18_1
     try clear hfz18_2
     try clear hfz18_3
     try clear hfz18_4
     try clear hfz20_0
     try clear hfz20_1
     try clear hfz20_2
     try clear hfz20_3
     try clear hfz20_4
     try clear hfz21_0
     try clear hfz21_1
     try clear hfz21_2
     try clear hfz21_3
     try clear hfz21_4
     try clear hfz23_0
     try clear hfz23_1
     try clear hfz23_2
     try clear hfz23_3
     try clear hfz23_4
     try clear hfz24_0
     try clear hfz24_1
     try clear hfz24_2
     try clear hfz24_3
     try clear hfz24_4
     try clear p2
     obtain ⟨x5_2, rfl, HA, HK2, BK368, BK369, HB⟩ := hrel
     cases gk with
     | zero => exact absurd HA.out (by simp [spec_Same.l0])
     | succ k2 =>
      have H := HA.out; clear HA; simp only [spec_Same.l0] at H
      by_cases c26 : x5_2 < (l0_3.length : Int)
      ·rw [if_pos c26] at H; have c26b0 : decide (x5_2 < (l0_3.length : Int)) = true := decide_eq_true c26; clear c26
       by_cases c27 : 0 ≤ x5_2
       ·rw [if_pos c27] at H; have c27b0 : decide (0 ≤ x5_2) = true := decide_eq_true c27; clear c27
        by_cases c28 : x5_2 < (l1_3.length : Int)
        ·rw [if_pos c28] at H; have c28b0 : decide (x5_2 < (l1_3.length : Int)) = true := decide_eq_true c28; clear c28
         by_cases c29 : (rdOf ByteArray.empty l0_3 x5_2).toList = (rdOf ByteArray.empty l1_3 x5_2).toList
         ·rw [if_pos c29] at H; have c29b0 : ((rdOf ByteArray.empty l0_3 x5_2).toList == (rdOf ByteArray.empty l1_3 x5_2).toList) = true := beq_iff_eq.mpr c29; have c29b1 : ((rdOf ByteArray.empty l0_3 x5_2).toList != (rdOf ByteArray.empty l1_3 x5_2).toList) = false := bne_eq_false_iff_eq.mpr c29; clear c29; have H' := aM H; clear H; have hnb30 := NB368_369.out; have hnc30 := NB369_368.out; have hcz31_0 : wr.cell? ⟨gb368, 0, none⟩ = some (.int .i64 a0_0) := (za BK368.out 0).trans rfl; have hcz31_1 : wr.cell? ⟨gb368, 1, none⟩ = some (.int .i64 a0_1) := (za BK368.out 1).trans rfl; have hcz31_2 : wr.cell? ⟨gb368, 2, none⟩ = some (.string a0_2) := (za BK368.out 2).trans rfl; have hcz31_3 : wr.cell? ⟨gb368, 3, none⟩ = some (.slice A0_3 l0_3.length c0_3) := (za BK368.out 3).trans rfl; have hcz31_4 : wr.cell? ⟨gb368, 4, none⟩ = some (.slice A0_4 l0_4.length c0_4) := (za BK368.out 4).trans rfl; have hfz31_0 := zb BK368.out 0; have hfz31_1 := zb BK368.out 1; have hfz31_2 := zb BK368.out 2; have hfz31_3 := zb BK368.out 3; have hfz31_4 := zb BK368.out 4
          try go_wp2
          have n0_ := aM (zh BK368.out); have n1_ := aM (zh BK369.out); have n2_ := aM (zj HB.out); clear BK368 BK369 HB; have BK368 := n0_; have BK369 := n1_; have HB := n2_; clear n0_ n1_ n2_; have p370 : 0 ≤ (x5_2 : Int) := of_decide_eq_true (by first | (with_reducible assumption) | assumption); have q370 : x5_2 < (l0_3.length : Int) := of_decide_eq_true (by first | (with_reducible assumption) | assumption); obtain ⟨ad370, e370, hx370_0⟩ := Kd.at_string HR0_3.out x5_2 p370 q370; have hw370_0 := hx370_0
          cases e370
          replace hx370_0 := (HB.out.cell (World.block_lt_of_cell? w _ hx370_0)).trans hx370_0; replace p370 := eq_true p370; replace q370 := eq_true q370; have p371 : 0 ≤ (x5_2 : Int) := of_decide_eq_true (by first | (with_reducible assumption) | assumption); have q371 : x5_2 < (l1_3.length : Int) := of_decide_eq_true (by first | (with_reducible assumption) | assumption); obtain ⟨ad371, e371, hx371_0⟩ := Kd.at_string HR1_3.out x5_2 p371 q371; have hw371_0 := hx371_0
          cases e371
          replace hx371_0 := (HB.out.cell (World.block_lt_of_cell? w _ hx371_0)).trans hx371_0; replace p371 := eq_true p371; replace q371 := eq_true q371; refine xl (n := 11) (S := fun w' => w'.cell? ⟨gb368, 0, none⟩ = some (.int .i64 a0_0) ∧ w'.cell? ⟨gb368, 1, none⟩ = some (.int .i64 a0_1) ∧ w'.cell? ⟨gb368, 2, none⟩ = some (.string a0_2) ∧ w'.cell? ⟨gb368, 3, none⟩ = some (.slice (some ad370) l0_3.length c0_3) ∧ w'.cell? ⟨gb368, 4, none⟩ = some (.slice A0_4 l0_4.length c0_4) ∧ w'.cell? ⟨gb369, 0, none⟩ = some (.int .i64 a1_0) ∧ w'.cell? ⟨gb369, 1, none⟩ = some (.int .i64 a1_1) ∧ w'.cell? ⟨gb369, 2, none⟩ = some (.string a1_2) ∧ w'.cell? ⟨gb369, 3, none⟩ = some (.slice (some ad371) l1_3.length c1_3) ∧ w'.cell? ⟨gb369, 4, none⟩ = some (.slice A1_4 l1_4.length c1_4) ∧ w'.cell? (ad370.add (x5_2).toNat) = some (.string (rdOf ByteArray.empty l0_3 x5_2)) ∧ w'.cell? (ad371.add (x5_2).toNat) = some (.string (rdOf ByteArray.empty l1_3 x5_2))) (ds := []) (bZ 11 0) (by kernel_rfl) rfl rfl ⟨(za BK368.out 0).trans rfl, (za BK368.out 1).trans rfl, (za BK368.out 2).trans rfl, (za BK368.out 3).trans rfl, (za BK368.out 4).trans rfl, (za BK369.out 0).trans rfl, (za BK369.out 1).trans rfl, (za BK369.out 2).trans rfl, (za BK369.out 3).trans rfl, (za BK369.out 4).trans rfl, ((HB.out.cell (World.block_lt_of_cell? w _ hw370_0)).trans hw370_0), ((HB.out.cell (World.block_lt_of_cell? w _ hw371_0)).trans hw371_0)⟩ (fun hHeld => ?_); refine xq spec_Same.tab6 spec_Same.bits6 (fun HT_ HW_ => ?_); generalize wr.drew = w32 at BK368 BK369 HB hx370_0 hx371_0 hHeld ⊢; refine pU 0 (some 51) (bZ 11 1) rfl (yj HT_.out (by kernel_rfl)) ?_; refine pU 2 (some 53) (bZ 11 5) rfl (yj HT_.out (by kernel_rfl)) ?_; refine pU 5 (some 56) (bZ 11 37) rfl (yj HT_.out (by kernel_rfl)) ?_; refine pU 7 (some 58) (bZ 11 165) rfl (yj HT_.out (by kernel_rfl)) ?_; refine tU 1 (some 52) (bZ 11 167) rfl (yn HT_.out HW_.out (by kernel_rfl)) (Or.inl ⟨by rfl, by rintro w' ⟨s0, s1, s2, s3, s4, s5, s6, s7, s8, s9, s10, s11⟩; go_simp; with_reducible rfl⟩) hHeld ?_; refine pU 3 (some 54) (bZ 11 175) rfl (yj HT_.out (by kernel_rfl)) ?_; refine tU 4 (some 55) (bZ 11 191) rfl (yn HT_.out HW_.out (by kernel_rfl)) (Or.inl ⟨by rfl, by rintro w' ⟨s0, s1, s2, s3, s4, s5, s6, s7, s8, s9, s10, s11⟩; go_simp; with_reducible rfl⟩) hHeld ?_; refine tU 6 (some 57) (bZ 11 255) rfl (yn HT_.out HW_.out (by kernel_rfl)) (Or.inl ⟨by rfl, by rintro w' ⟨s0, s1, s2, s3, s4, s5, s6, s7, s8, s9, s10, s11⟩; go_simp; with_reducible rfl⟩) hHeld ?_; refine pU 8 (some 59) (bZ 11 511) rfl (yj HT_.out (by kernel_rfl)) ?_; refine tU 9 (some 60) (bZ 11 1023) rfl (yn HT_.out HW_.out (by kernel_rfl)) (Or.inl ⟨by rfl, by rintro w' ⟨s0, s1, s2, s3, s4, s5, s6, s7, s8, s9, s10, s11⟩; go_simp; with_reducible rfl⟩) hHeld ?_; refine pU 10 (some 61) (bZ 11 2047) rfl (yj HT_.out (by kernel_rfl)) ?_; refine xt (done_of HT_.out (by kernel_rfl)) ?_
          try go_wp2
          go_roundg k2
          case measure => have := HJ2.out; have := HK2.out; omega
          case rel => exact ⟨(wrap64 (x5_2 + 1)), (by first | rfl | (simp; done) | (simp [*]; done)), H', ⟨by have := HJ2.out; have := HK2.out; omega⟩, ⟨by (with_reducible repeat (first | refine zg ?_ _ | refine zh ?_ | refine ze ?_ _)); exact BK368.out⟩, ⟨by (with_reducible repeat (first | refine zg ?_ _ | refine zh ?_ | refine ze ?_ _)); exact BK369.out⟩, ⟨by repeat (first | (with_reducible first | exact HB.out | apply zf | apply zc | apply zj | refine zi ?_ GE368.out | refine zi ?_ GE369.out) | exact HB.out)⟩⟩
         ·rw [if_neg c29] at H; have c29b0 : ((rdOf ByteArray.empty l0_3 x5_2).toList == (rdOf ByteArray.empty l1_3 x5_2).toList) = false := beq_eq_false_iff_ne.mpr c29; have c29b1 : ((rdOf ByteArray.empty l0_3 x5_2).toList != (rdOf ByteArray.empty l1_3 x5_2).toList) = true := bne_iff_ne.mpr c29; obtain rfl := Option.some.inj H; have hnb33 := NB368_369.out; have hnc33 := NB369_368.out; have hcz34_0 : wr.cell? ⟨gb368, 0, none⟩ = some (.int .i64 a0_0) := (za BK368.out 0).trans rfl; have hcz34_1 : wr.cell? ⟨gb368, 1, none⟩ = some (.int .i64 a0_1) := (za BK368.out 1).trans rfl; have hcz34_2 : wr.cell? ⟨gb368, 2, none⟩ = some (.string a0_2) := (za BK368.out 2).trans rfl; have hcz34_3 : wr.cell? ⟨gb368, 3, none⟩ = some (.slice A0_3 l0_3.length c0_3) := (za BK368.out 3).trans rfl; have hcz34_4 : wr.cell? ⟨gb368, 4, none⟩ = some (.slice A0_4 l0_4.length c0_4) := (za BK368.out 4).trans rfl; have hfz34_0 := zb BK368.out 0; have hfz34_1 := zb BK368.out 1; have hfz34_2 := zb BK368.out 2; have hfz34_3 := zb BK368.out 3; have hfz34_4 := zb BK368.out 4
          try go_wp2
          have n0_ := aM (zh BK368.out); have n1_ := aM (zh BK369.out); have n2_ := aM (zj HB.out); clear BK368 BK369 HB; have BK368 := n0_; have BK369 := n1_; have HB := n2_; clear n0_ n1_ n2_; have p370 : 0 ≤ (x5_2 : Int) := of_decide_eq_true (by first | (with_reducible assumption) | assumption); have q370 : x5_2 < (l0_3.length : Int) := of_decide_eq_true (by first | (with_reducible assumption) | assumption); obtain ⟨ad370, e370, hx370_0⟩ := Kd.at_string HR0_3.out x5_2 p370 q370; have hw370_0 := hx370_0
          cases e370
          replace hx370_0 := (HB.out.cell (World.block_lt_of_cell? w _ hx370_0)).trans hx370_0; replace p370 := eq_true p370; replace q370 := eq_true q370; have p371 : 0 ≤ (x5_2 : Int) := of_decide_eq_true (by first | (with_reducible assumption) | assumption); have q371 : x5_2 < (l1_3.length : Int) := of_decide_eq_true (by first | (with_reducible assumption) | assumption); obtain ⟨ad371, e371, hx371_0⟩ := Kd.at_string HR1_3.out x5_2 p371 q371; have hw371_0 := hx371_0
          cases e371
          replace hx371_0 := (HB.out.cell (World.block_lt_of_cell? w _ hx371_0)).trans hx371_0; replace p371 := eq_true p371; replace q371 := eq_true q371; refine xl (n := 11) (S := fun w' => w'.cell? ⟨gb368, 0, none⟩ = some (.int .i64 a0_0) ∧ w'.cell? ⟨gb368, 1, none⟩ = some (.int .i64 a0_1) ∧ w'.cell? ⟨gb368, 2, none⟩ = some (.string a0_2) ∧ w'.cell? ⟨gb368, 3, none⟩ = some (.slice (some ad370) l0_3.length c0_3) ∧ w'.cell? ⟨gb368, 4, none⟩ = some (.slice A0_4 l0_4.length c0_4) ∧ w'.cell? ⟨gb369, 0, none⟩ = some (.int .i64 a1_0) ∧ w'.cell? ⟨gb369, 1, none⟩ = some (.int .i64 a1_1) ∧ w'.cell? ⟨gb369, 2, none⟩ = some (.string a1_2) ∧ w'.cell? ⟨gb369, 3, none⟩ = some (.slice (some ad371) l1_3.length c1_3) ∧ w'.cell? ⟨gb369, 4, none⟩ = some (.slice A1_4 l1_4.length c1_4) ∧ w'.cell? (ad370.add (x5_2).toNat) = some (.string (rdOf ByteArray.empty l0_3 x5_2)) ∧ w'.cell? (ad371.add (x5_2).toNat) = some (.string (rdOf ByteArray.empty l1_3 x5_2))) (ds := []) (bZ 11 0) (by kernel_rfl) rfl rfl ⟨(za BK368.out 0).trans rfl, (za BK368.out 1).trans rfl, (za BK368.out 2).trans rfl, (za BK368.out 3).trans rfl, (za BK368.out 4).trans rfl, (za BK369.out 0).trans rfl, (za BK369.out 1).trans rfl, (za BK369.out 2).trans rfl, (za BK369.out 3).trans rfl, (za BK369.out 4).trans rfl, ((HB.out.cell (World.block_lt_of_cell? w _ hw370_0)).trans hw370_0), ((HB.out.cell (World.block_lt_of_cell? w _ hw371_0)).trans hw371_0)⟩ (fun hHeld => ?_); refine xq spec_Same.tab6 spec_Same.bits6 (fun HT_ HW_ => ?_); generalize wr.drew = w35 at BK368 BK369 HB hx370_0 hx371_0 hHeld ⊢; refine pU 0 (some 51) (bZ 11 1) rfl (yj HT_.out (by kernel_rfl)) ?_; refine pU 2 (some 53) (bZ 11 5) rfl (yj HT_.out (by kernel_rfl)) ?_; refine pU 5 (some 56) (bZ 11 37) rfl (yj HT_.out (by kernel_rfl)) ?_; refine pU 7 (some 58) (bZ 11 165) rfl (yj HT_.out (by kernel_rfl)) ?_; refine tU 1 (some 52) (bZ 11 167) rfl (yn HT_.out HW_.out (by kernel_rfl)) (Or.inl ⟨by rfl, by rintro w' ⟨s0, s1, s2, s3, s4, s5, s6, s7, s8, s9, s10, s11⟩; go_simp; with_reducible rfl⟩) hHeld ?_; refine pU 3 (some 54) (bZ 11 175) rfl (yj HT_.out (by kernel_rfl)) ?_; refine tU 4 (some 55) (bZ 11 191) rfl (yn HT_.out HW_.out (by kernel_rfl)) (Or.inl ⟨by rfl, by rintro w' ⟨s0, s1, s2, s3, s4, s5, s6, s7, s8, s9, s10, s11⟩; go_simp; with_reducible rfl⟩) hHeld ?_; refine tU 6 (some 57) (bZ 11 255) rfl (yn HT_.out HW_.out (by kernel_rfl)) (Or.inl ⟨by rfl, by rintro w' ⟨s0, s1, s2, s3, s4, s5, s6, s7, s8, s9, s10, s11⟩; go_simp; with_reducible rfl⟩) hHeld ?_; refine pU 8 (some 59) (bZ 11 511) rfl (yj HT_.out (by kernel_rfl)) ?_; refine tU 9 (some 60) (bZ 11 1023) rfl (yn HT_.out HW_.out (by kernel_rfl)) (Or.inl ⟨by rfl, by rintro w' ⟨s0, s1, s2, s3, s4, s5, s6, s7, s8, s9, s10, s11⟩; go_simp; with_reducible rfl⟩) hHeld ?_; refine pU 10 (some 61) (bZ 11 2047) rfl (yj HT_.out (by kernel_rfl)) ?_; refine xt (done_of HT_.out (by kernel_rfl)) ?_
          try go_wp2
          go_ret
          exact ⟨by first | rfl | (simp [zu, zt] <;> rfl) | (simp [*, zu, zt] <;> rfl), by repeat (first | (with_reducible first | exact HB.out | apply zf | apply zc | apply zj | refine zi ?_ GE368.out | refine zi ?_ GE369.out) | exact HB.out)⟩
        ·rw [if_neg c28] at H; exact absurd H (by simp)
       ·rw [if_neg c27] at H; exact absurd H (by simp)
      ·rw [if_neg c26] at H; have c26b0 : decide (x5_2 < (l0_3.length : Int)) = false := decide_eq_false c26; clear c26; have H' := aM H; clear H; have hnb36 := NB368_369.out; have hnc36 := NB369_368.out; have hcz37_0 : wr.cell? ⟨gb368, 0, none⟩ = some (.int .i64 a0_0) := (za BK368.out 0).trans rfl; have hcz37_1 : wr.cell? ⟨gb368, 1, none⟩ = some (.int .i64 a0_1) := (za BK368.out 1).trans rfl; have hcz37_2 : wr.cell? ⟨gb368, 2, none⟩ = some (.string a0_2) := (za BK368.out 2).trans rfl; have hcz37_3 : wr.cell? ⟨gb368, 3, none⟩ = some (.slice A0_3 l0_3.length c0_3) := (za BK368.out 3).trans rfl; have hcz37_4 : wr.cell? ⟨gb368, 4, none⟩ = some (.slice A0_4 l0_4.length c0_4) := (za BK368.out 4).trans rfl; have hfz37_0 := zb BK368.out 0; have hfz37_1 := zb BK368.out 1; have hfz37_2 := zb BK368.out 2; have hfz37_3 := zb BK368.out 3; have hfz37_4 := zb BK368.out 4
       go_wp2
       go_loopg [6] k2 (fun kq v6 w' => ∃ (x6_3 : Int), v6 = .int .i64 x6_3 ∧ Aside0 (spec_Same.l1 kq x6_3 a0_0 a0_1 a0_2 l0_3 l0_4 a1_0 a1_1 a1_2 l1_3 l1_4 = some r) ∧ Aside0 (kq ≤ k2) ∧ Aside0 (w'.heap[gb368]? = some (.cells #[.int .i64 a0_0, .int .i64 a0_1, .string a0_2, (.slice A0_3 l0_3.length c0_3), (.slice A0_4 l0_4.length c0_4)] 25 (0, 0))) ∧ Aside0 (w'.heap[gb369]? = some (.cells #[.int .i64 a1_0, .int .i64 a1_1, .string a1_2, (.slice A1_3 l1_3.length c1_3), (.slice A1_4 l1_4.length c1_4)] 25 (0, 0))) ∧ Aside0 (Below w.heap.size w w'))
       case atStart => exact ⟨(0), (by first | rfl | (simp; done) | (simp [*]; done)), H', ⟨Nat.le_refl _⟩, ⟨by (with_reducible repeat (first | refine zg ?_ _ | refine zh ?_ | refine ze ?_ _)); exact BK368.out⟩, ⟨by (with_reducible repeat (first | refine zg ?_ _ | refine zh ?_ | refine ze ?_ _)); exact BK369.out⟩, ⟨by repeat (first | (with_reducible first | exact HB.out | apply zf | apply zc | apply zj | refine zi ?_ GE368.out | refine zi ?_ GE369.out) | exact HB.out)⟩⟩
       case round =>
        clear H'
        try clear c1
        try clear c2
        try clear p2
        try clear c3
        try clear p3
        try clear q3
        try clear hx3
        try clear c6
        try clear c6b0
        try clear c6b1
        try clear p6
        try clear c7
        try clear c7b0
        try clear c7b1
        try clear c8
        try clear c8b0
        try clear c8b1
        try clear c9
        try clear c9b0
        try clear c9b1
        try clear c9b2
        try clear c10
        try clear c13
        try clear c16
        try clear c19
        try clear c22
        try clear c23
        try clear c25
        try clear c26
        try clear c26b0
        try clear c27
        try clear c27b0
        try clear c28
        try clear c28b0
        try clear c29
        try clear c29b0
        try clear c29b1
        try clear c30
        try clear c33
        try clear c36
        try clear p37
        try clear q37
        try clear hx37
        try clear hcz11_0
        try clear hcz11_1
        try clear hcz11_2
        try clear hcz11_3
        try clear hcz11_4
        try clear hcz12_0
        try clear hcz12_1
        try clear hcz12_2
        try clear hcz12_3
        try clear hcz12_4
        try clear hcz14_0
        try clear hcz14_1
        try clear hcz14_2
        try clear hcz14_3
        try clear hcz14_4
        try clear hcz15_0
        try clear hcz15_1
        try clear hcz15_2
        try clear hcz15_3
        try clear hcz15_4
        try clear hcz17_0
        try clear hcz17_1
        try clear hcz17_2
        try clear hcz17_3
        try clear hcz17_4
        try clear hcz18_0
        try clear hcz18_1
        try clear hcz18_2
        try clear hcz18_3
        try clear hcz18_4
        try clear hcz20_0
        try clear hcz20_1
        try clear hcz20_2
        try clear hcz20_3
        try clear hcz20_4
        try clear hcz21_0
        try clear hcz21_1
        try clear hcz21_2
        try clear hcz21_3
        try clear hcz21_4
        try clear hcz23_0
        try clear hcz23_1
        try clear hcz23_2
        try clear hcz23_3
        try clear hcz23_4
        try clear hcz24_0
        try clear hcz24_1
        try clear hcz24_2
        try clear hcz24_3
        try clear hcz24_4
        try clear hcz31_0
        try clear hcz31_1
        try clear hcz31_2
        try clear hcz31_3
        try clear hcz31_4
        try clear hcz34_0
        try clear hcz34_1
        try clear hcz34_2
        try clear hcz34_3
        try clear hcz34_4
        try clear hcz37_0
        try clear hcz37_1
        try clear hcz37_2
        try clear hcz37_3
        try clear hcz37_4
        try clear hfz11_0
        try clear hfz11_1
        try clear hfz11_2
        try clear hfz11_3
        try clear hfz11_4
        try clear hfz12_0
        try clear hfz12_1
        try clear hfz12_2
        try clear hfz12_3
        try clear hfz12_4
        try clear hfz14_0
        try clear hfz14_1
        try clear hfz14_2
        try clear hfz14_3
        try clear hfz14_4
        try clear hfz15_0
        try clear hfz15_1
        try clear hfz15_2
        try clear hfz15_3
        try clear hfz15_4
        try clear hfz17_0
        try clear hfz17_1
        try clear hfz17_2
        try clear hfz17_3
        try clear hfz17_4
        try clear hfz18_0
        try clear hfz18_1
        try clear hfz18_2
        try clear hfz18_3
        try clear hfz18_4
        try clear hfz20_0
        try clear hfz20_1
        try clear hfz20_2
        try clear hfz20_3
        try clear hfz20_4
        try clear hfz21_0
        try clear hfz21_1
        try clear hfz21_2
        try clear hfz21_3
        try clear hfz21_4
        try clear hfz23_0
        try clear hfz23_1
        try clear hfz23_2
        try clear hfz23_3
        try clear hfz23_4
        try clear hfz24_0
        try clear hfz24_1
        try clear hfz24_2
        try clear hfz24_3
        try clear hfz24_4
        try clear hfz31_0
        try clear hfz31_1
        try clear hfz31_2
        try clear hfz31_3
        try clear hfz31_4
        try clear hfz34_0
        try clear hfz34_1
        try clear hfz34_2
        try clear hfz34_3
        try clear hfz34_4
        try clear hfz37_0
        try clear hfz37_1
        try clear hfz37_2
        try clear hfz37_3
        try clear hfz37_4
        try clear hx370_0
        try clear hx371_0
        try clear p2
        try clear p370
        try clear p371
        try clear q370
        try clear q371
        obtain ⟨x6_3, rfl, HA, HK3, BK368, BK369, HB⟩ := hrel
        cases gk with
        | zero => exact absurd HA.out (by simp [spec_Same.l1])
        | succ k3 =>
         have H := HA.out; clear HA; simp only [spec_Same.l1] at H
         by_cases c38 : x6_3 < (l0_4.length : Int)
         ·rw [if_pos c38] at H; have c38b0 : decide (x6_3 < (l0_4.length : Int)) = true := decide_eq_true c38; clear c38
          by_cases c39 : 0 ≤ x6_3
          ·rw [if_pos c39] at H; have c39b0 : decide (0 ≤ x6_3) = true := decide_eq_true c39; clear c39
           by_cases c40 : x6_3 < (l1_4.length : Int)
           ·rw [if_pos c40] at H; have c40b0 : decide (x6_3 < (l1_4.length : Int)) = true := decide_eq_true c40; clear c40; replace H := Option.bind_eq_some_iff.mp H; obtain ⟨t374, A410, H⟩ := H; replace H : (if t374 = true then (spec_Same.l1 k3 (wrap64 (x6_3 + 1)) a0_0 a0_1 a0_2 l0_3 l0_4 a1_0 a1_1 a1_2 l1_3 l1_4) else (some false)) = some r := H; have A41 := aM A410; clear A410
            by_cases c42 : t374 = true
            ·subst c42
             have H1 : (spec_Same.l1 k3 (wrap64 (x6_3 + 1)) a0_0 a0_1 a0_2 l0_3 l0_4 a1_0 a1_1 a1_2 l1_3 l1_4) = some r := by rw [if_pos rfl] at H; exact H
             clear H; have H := H1; clear H1; have H' := aM H; clear H; have hnb43 := NB368_369.out; have hnc43 := NB369_368.out; have hcz44_0 : wr.cell? ⟨gb368, 0, none⟩ = some (.int .i64 a0_0) := (za BK368.out 0).trans rfl; have hcz44_1 : wr.cell? ⟨gb368, 1, none⟩ = some (.int .i64 a0_1) := (za BK368.out 1).trans rfl; have hcz44_2 : wr.cell? ⟨gb368, 2, none⟩ = some (.string a0_2) := (za BK368.out 2).trans rfl; have hcz44_3 : wr.cell? ⟨gb368, 3, none⟩ = some (.slice A0_3 l0_3.length c0_3) := (za BK368.out 3).trans rfl; have hcz44_4 : wr.cell? ⟨gb368, 4, none⟩ = some (.slice A0_4 l0_4.length c0_4) := (za BK368.out 4).trans rfl; have hfz44_0 := zb BK368.out 0; have hfz44_1 := zb BK368.out 1; have hfz44_2 := zb BK368.out 2; have hfz44_3 := zb BK368.out 3; have hfz44_4 := zb BK368.out 4
             try go_wp2
             have n0_ := aM (zh BK368.out); have n1_ := aM (zh BK369.out); have n2_ := aM (zj HB.out); clear BK368 BK369 HB; have BK368 := n0_; have BK369 := n1_; have HB := n2_; clear n0_ n1_ n2_; have p372 : 0 ≤ (x6_3 : Int) := of_decide_eq_true (by first | (with_reducible assumption) | assumption); have q372 : x6_3 < (l0_4.length : Int) := of_decide_eq_true (by first | (with_reducible assumption) | assumption); obtain ⟨ad372, A372_3, c372_3, A372_4, c372_4, e372, hx372_0, hx372_1, hx372_2, hx372_3, hx372_4, hl372_3, hi372_3, hl372_4, hi372_4⟩ := xk HR0_4.out x6_3 p372 q372; have hw372_4 := hx372_4; have hw372_3 := hx372_3; have hw372_2 := hx372_2; have hw372_1 := hx372_1; have hw372_0 := hx372_0
             cases e372
             replace hx372_0 := (HB.out.cell (World.block_lt_of_cell? w _ hx372_0)).trans hx372_0; replace hx372_1 := (HB.out.cell (World.block_lt_of_cell? w _ hx372_1)).trans hx372_1; replace hx372_2 := (HB.out.cell (World.block_lt_of_cell? w _ hx372_2)).trans hx372_2; replace hx372_3 := (HB.out.cell (World.block_lt_of_cell? w _ hx372_3)).trans hx372_3; replace hx372_4 := (HB.out.cell (World.block_lt_of_cell? w _ hx372_4)).trans hx372_4; have HR372_3 := aM hi372_3; have HC372_3 := aM hl372_3; clear hi372_3 hl372_3; have HR372_4 := aM hi372_4; have HC372_4 := aM hl372_4; clear hi372_4 hl372_4; replace p372 := eq_true p372; replace q372 := eq_true q372; have p373 : 0 ≤ (x6_3 : Int) := of_decide_eq_true (by first | (with_reducible assumption) | assumption); have q373 : x6_3 < (l1_4.length : Int) := of_decide_eq_true (by first | (with_reducible assumption) | assumption); obtain ⟨ad373, A373_3, c373_3, A373_4, c373_4, e373, hx373_0, hx373_1, hx373_2, hx373_3, hx373_4, hl373_3, hi373_3, hl373_4, hi373_4⟩ := xk HR1_4.out x6_3 p373 q373; have hw373_4 := hx373_4; have hw373_3 := hx373_3; have hw373_2 := hx373_2; have hw373_1 := hx373_1; have hw373_0 := hx373_0
             cases e373
             replace hx373_0 := (HB.out.cell (World.block_lt_of_cell? w _ hx373_0)).trans hx373_0; replace hx373_1 := (HB.out.cell (World.block_lt_of_cell? w _ hx373_1)).trans hx373_1; replace hx373_2 := (HB.out.cell (World.block_lt_of_cell? w _ hx373_2)).trans hx373_2; replace hx373_3 := (HB.out.cell (World.block_lt_of_cell? w _ hx373_3)).trans hx373_3; replace hx373_4 := (HB.out.cell (World.block_lt_of_cell? w _ hx373_4)).trans hx373_4; have HR373_3 := aM hi373_3; have HC373_3 := aM hl373_3; clear hi373_3 hl373_3; have HR373_4 := aM hi373_4; have HC373_4 := aM hl373_4; clear hi373_4 hl373_4; replace p373 := eq_true p373; replace q373 := eq_true q373; refine xl (n := 12) (S := fun w' => w'.cell? ⟨gb368, 0, none⟩ = some (.int .i64 a0_0) ∧ w'.cell? ⟨gb368, 1, none⟩ = some (.int .i64 a0_1) ∧ w'.cell? ⟨gb368, 2, none⟩ = some (.string a0_2) ∧ w'.cell? ⟨gb368, 3, none⟩ = some (.slice A0_3 l0_3.length c0_3) ∧ w'.cell? ⟨gb368, 4, none⟩ = some (.slice (some ad372) l0_4.length c0_4) ∧ w'.cell? ⟨gb369, 0, none⟩ = some (.int .i64 a1_0) ∧ w'.cell? ⟨gb369, 1, none⟩ = some (.int .i64 a1_1) ∧ w'.cell? ⟨gb369, 2, none⟩ = some (.string a1_2) ∧ w'.cell? ⟨gb369, 3, none⟩ = some (.slice A1_3 l1_3.length c1_3) ∧ w'.cell? ⟨gb369, 4, none⟩ = some (.slice (some ad373) l1_4.length c1_4) ∧ w'.cell? (ad372.add ((x6_3).toNat * 5)) = some (.int .i64 ((rd_T25 l0_4 x6_3).f0)) ∧ w'.cell? ⟨(ad372.add ((x6_3).toNat * 5)).block, (ad372.add ((x6_3).toNat * 5)).off + 1, none⟩ = some (.int .i64 ((rd_T25 l0_4 x6_3).f1)) ∧ w'.cell? ⟨(ad372.add ((x6_3).toNat * 5)).block, (ad372.add ((x6_3).toNat * 5)).off + 2, none⟩ = some (.string ((rd_T25 l0_4 x6_3).f2)) ∧ w'.cell? ⟨(ad372.add ((x6_3).toNat * 5)).block, (ad372.add ((x6_3).toNat * 5)).off + 3, none⟩ = some (.slice A372_3 ((rd_T25 l0_4 x6_3).f3).length c372_3) ∧ w'.cell? ⟨(ad372.add ((x6_3).toNat * 5)).block, (ad372.add ((x6_3).toNat * 5)).off + 4, none⟩ = some (.slice A372_4 ((rd_T25 l0_4 x6_3).f4).length c372_4) ∧ w'.cell? (ad373.add ((x6_3).toNat * 5)) = some (.int .i64 ((rd_T25 l1_4 x6_3).f0)) ∧ w'.cell? ⟨(ad373.add ((x6_3).toNat * 5)).block, (ad373.add ((x6_3).toNat * 5)).off + 1, none⟩ = some (.int .i64 ((rd_T25 l1_4 x6_3).f1)) ∧ w'.cell? ⟨(ad373.add ((x6_3).toNat * 5)).block, (ad373.add ((x6_3).toNat * 5)).off + 2, none⟩ = some (.string ((rd_T25 l1_4 x6_3).f2)) ∧ w'.cell? ⟨(ad373.add ((x6_3).toNat * 5)).block, (ad373.add ((x6_3).toNat * 5)).off + 3, none⟩ = some (.slice A373_3 ((rd_T25 l1_4 x6_3).f3).length c373_3) ∧ w'.cell? ⟨(ad373.add ((x6_3).toNat * 5)).block, (ad373.add ((x6_3).toNat * 5)).off + 4, none⟩ = some (.slice A373_4 ((rd_T25 l1_4 x6_3).f4).length c373_4)) (ds := []) (bZ 12 0) (by kernel_rfl) rfl rfl ⟨(za BK368.out 0).trans rfl, (za BK368.out 1).trans rfl, (za BK368.out 2).trans rfl, (za BK368.out 3).trans rfl, (za BK368.out 4).trans rfl, (za BK369.out 0).trans rfl, (za BK369.out 1).trans rfl, (za BK369.out 2).trans rfl, (za BK369.out 3).trans rfl, (za BK369.out 4).trans rfl, ((HB.out.cell (World.block_lt_of_cell? w _ hw372_0)).trans hw372_0), ((HB.out.cell (World.block_lt_of_cell? w _ hw372_1)).trans hw372_1), ((HB.out.cell (World.block_lt_of_cell? w _ hw372_2)).trans hw372_2), ((HB.out.cell (World.block_lt_of_cell? w _ hw372_3)).trans hw372_3), ((HB.out.cell (World.block_lt_of_cell? w _ hw372_4)).trans hw372_4), ((HB.out.cell (World.block_lt_of_cell? w _ hw373_0)).trans hw373_0), ((HB.out.cell (World.block_lt_of_cell? w _ hw373_1)).trans hw373_1), ((HB.out.cell (World.block_lt_of_cell? w _ hw373_2)).trans hw373_2), ((HB.out.cell (World.block_lt_of_cell? w _ hw373_3)).trans hw373_3), ((HB.out.cell (World.block_lt_of_cell? w _ hw373_4)).trans hw373_4)⟩ (fun hHeld => ?_); refine xq spec_Same.tab11 spec_Same.bits11 (fun HT_ HW_ => ?_); generalize wr.drew = w45 at BK368 BK369 HB HR372_3 HR372_4 HR373_3 HR373_4 hx372_0 hx372_1 hx372_2 hx372_3 hx372_4 hx373_0 hx373_1 hx373_2 hx373_3 hx373_4 hHeld ⊢; refine pU 0 (some 69) (bZ 12 1) rfl (yj HT_.out (by kernel_rfl)) ?_; refine pU 2 (some 71) (bZ 12 5) rfl (yj HT_.out (by kernel_rfl)) ?_; refine pU 5 (some 74) (bZ 12 37) rfl (yj HT_.out (by kernel_rfl)) ?_; refine pU 7 (some 76) (bZ 12 165) rfl (yj HT_.out (by kernel_rfl)) ?_; refine tU 1 (some 70) (bZ 12 167) rfl (yn HT_.out HW_.out (by kernel_rfl)) (Or.inl ⟨by rfl, by rintro w' ⟨s0, s1, s2, s3, s4, s5, s6, s7, s8, s9, s10, s11, s12, s13, s14, s15, s16, s17, s18, s19⟩; go_simp; with_reducible rfl⟩) hHeld ?_; refine pU 3 (some 72) (bZ 12 175) rfl (yj HT_.out (by kernel_rfl)) ?_; refine tU 4 (some 73) (bZ 12 191) rfl (yn HT_.out HW_.out (by kernel_rfl)) (Or.inl ⟨by rfl, by rintro w' ⟨s0, s1, s2, s3, s4, s5, s6, s7, s8, s9, s10, s11, s12, s13, s14, s15, s16, s17, s18, s19⟩; go_simp; with_reducible rfl⟩) hHeld ?_; refine tU 6 (some 75) (bZ 12 255) rfl (yn HT_.out HW_.out (by kernel_rfl)) (Or.inl ⟨by rfl, by rintro w' ⟨s0, s1, s2, s3, s4, s5, s6, s7, s8, s9, s10, s11, s12, s13, s14, s15, s16, s17, s18, s19⟩; go_simp; with_reducible rfl⟩) hHeld ?_; refine pU 8 (some 77) (bZ 12 511) rfl (yj HT_.out (by kernel_rfl)) ?_; refine tU 9 (some 78) (bZ 12 1023) rfl (yn HT_.out HW_.out (by kernel_rfl)) (Or.inl ⟨by rfl, by rintro w' ⟨s0, s1, s2, s3, s4, s5, s6, s7, s8, s9, s10, s11, s12, s13, s14, s15, s16, s17, s18, s19⟩; go_simp; with_reducible rfl⟩) hHeld ?_; refine one_ (i := 10) (N := some 79) (bZ 12 2047) rfl rfl (xa HT_.out (by kernel_rfl)) (by decide) (fun K hK => ?_); refine goes_ Tryd.func23 (by kernel_rfl) rfl #[.agg #[.int .i64 ((rd_T25 l0_4 x6_3).f0), .int .i64 ((rd_T25 l0_4 x6_3).f1), .string ((rd_T25 l0_4 x6_3).f2), .slice A372_3 ((rd_T25 l0_4 x6_3).f3).length c372_3, .slice A372_4 ((rd_T25 l0_4 x6_3).f4).length c372_4], .agg #[.int .i64 ((rd_T25 l1_4 x6_3).f0), .int .i64 ((rd_T25 l1_4 x6_3).f1), .string ((rd_T25 l1_4 x6_3).f2), .slice A373_3 ((rd_T25 l1_4 x6_3).f3).length c373_3, .slice A373_4 ((rd_T25 l1_4 x6_3).f4).length c373_4]] (by rfl) rfl rfl (by (try simp only [List.map_toArray, List.map_cons, List.map_nil]); first | done | rfl | (simp only [List.length_drop, List.length_take]; rfl)) ?_
             with_reducible refine (ih k3 (by have := HJ2.out; have := HK2.out; have := HK3.out; omega) ((rd_T25 l0_4 x6_3).f0) ((rd_T25 l0_4 x6_3).f1) ((rd_T25 l0_4 x6_3).f2) _ _ ((rd_T25 l0_4 x6_3).f3) _ _ ((rd_T25 l0_4 x6_3).f4) ((rd_T25 l1_4 x6_3).f0) ((rd_T25 l1_4 x6_3).f1) ((rd_T25 l1_4 x6_3).f2) _ _ ((rd_T25 l1_4 x6_3).f3) _ _ ((rd_T25 l1_4 x6_3).f4) true _ ?side1 ?side2 ?side3 ?side4 ?side5 ?side6 ?side7 ?side8 A41.out).mono ?_
             (case side1 => repeat (first | exact (Kd.C_below HR372_3.out HB.out) | (with_reducible refine Kd.C_alloc ?_ _) | (with_reducible refine Kd.C_drewN ?_ _) | (with_reducible refine Kd.C_drew ?_)))
             (case side2 => exact HC372_3.out)
             (case side3 => repeat (first | exact (Kd.C_below HR372_4.out HB.out) | (with_reducible refine Kd.C_alloc ?_ _) | (with_reducible refine Kd.C_drewN ?_ _) | (with_reducible refine Kd.C_drew ?_)))
             (case side4 => exact HC372_4.out)
             (case side5 => repeat (first | exact (Kd.C_below HR373_3.out HB.out) | (with_reducible refine Kd.C_alloc ?_ _) | (with_reducible refine Kd.C_drewN ?_ _) | (with_reducible refine Kd.C_drew ?_)))
             (case side6 => exact HC373_3.out)
             (case side7 => repeat (first | exact (Kd.C_below HR373_4.out HB.out) | (with_reducible refine Kd.C_alloc ?_ _) | (with_reducible refine Kd.C_drewN ?_ _) | (with_reducible refine Kd.C_drew ?_)))
             (case side8 => exact HC373_4.out)
             rintro e w46 ⟨rfl, hb⟩; refine ⟨_, rfl, ?_⟩; have n0_ := aM (zq (g := gb368) (o := .cells #[.int .i64 a0_0, .int .i64 a0_1, .string a0_2, .slice A0_3 l0_3.length c0_3, .slice (some ad372) l0_4.length c0_4] 25 (0, 0)) (by (with_reducible repeat (first | refine zg ?_ _ | refine zh ?_ | refine ze ?_ _)); exact BK368.out) hb); have n1_ := aM (zq (g := gb369) (o := .cells #[.int .i64 a1_0, .int .i64 a1_1, .string a1_2, .slice A1_3 l1_3.length c1_3, .slice (some ad373) l1_4.length c1_4] 25 (0, 0)) (by (with_reducible repeat (first | refine zg ?_ _ | refine zh ?_ | refine ze ?_ _)); exact BK369.out) hb); have n2_ := aM (zo (by repeat (first | (with_reducible first | exact HB.out | apply zf | apply zc | apply zj | refine zi ?_ GE368.out | refine zi ?_ GE369.out) | exact HB.out)) hb); clear BK368 BK369 HB; have BK368 := n0_; have BK369 := n1_; have HB := n2_; clear n0_ n1_ n2_
             (try clear hb)
             (try clear hb2)
             (try clear hk)
             (try clear hi)
             refine hK.out _ _ ⟨(za BK368.out 0).trans rfl, (za BK368.out 1).trans rfl, (za BK368.out 2).trans rfl, (za BK368.out 3).trans rfl, (za BK368.out 4).trans rfl, (za BK369.out 0).trans rfl, (za BK369.out 1).trans rfl, (za BK369.out 2).trans rfl, (za BK369.out 3).trans rfl, (za BK369.out 4).trans rfl, ((HB.out.cell (World.block_lt_of_cell? w _ hw372_0)).trans hw372_0), ((HB.out.cell (World.block_lt_of_cell? w _ hw372_1)).trans hw372_1), ((HB.out.cell (World.block_lt_of_cell? w _ hw372_2)).trans hw372_2), ((HB.out.cell (World.block_lt_of_cell? w _ hw372_3)).trans hw372_3), ((HB.out.cell (World.block_lt_of_cell? w _ hw372_4)).trans hw372_4), ((HB.out.cell (World.block_lt_of_cell? w _ hw373_0)).trans hw373_0), ((HB.out.cell (World.block_lt_of_cell? w _ hw373_1)).trans hw373_1), ((HB.out.cell (World.block_lt_of_cell? w _ hw373_2)).trans hw373_2), ((HB.out.cell (World.block_lt_of_cell? w _ hw373_3)).trans hw373_3), ((HB.out.cell (World.block_lt_of_cell? w _ hw373_4)).trans hw373_4)⟩ (fun hHeld => ?_); clear hK K; refine zx (a' := ?_) ?_ ?_; rotate_left
             ·show Act.put _ (some 79) _ = _
              simp only [Act.put, sA, sB, sC, yb, yc]; rfl
             refine pU 11 (some 80) (bZ 12 4095) rfl (yj HT_.out (by kernel_rfl)) ?_; refine xt (done_of HT_.out (by kernel_rfl)) ?_
             try go_wp2
             go_roundg k3
             case measure => have := HJ2.out; have := HK2.out; have := HK3.out; omega
             case rel => exact ⟨(wrap64 (x6_3 + 1)), (by first | rfl | (simp; done) | (simp [*]; done)), H', ⟨by have := HJ2.out; have := HK2.out; have := HK3.out; omega⟩, ⟨by (with_reducible repeat (first | refine zg ?_ _ | refine zh ?_ | refine ze ?_ _)); exact BK368.out⟩, ⟨by (with_reducible repeat (first | refine zg ?_ _ | refine zh ?_ | refine ze ?_ _)); exact BK369.out⟩, ⟨by repeat (first | (with_reducible first | exact HB.out | apply zf | apply zc | apply zj | refine zi ?_ GE368.out | refine zi ?_ GE369.out) | exact HB.out)⟩⟩
            ·replace c42 := Bool.eq_false_iff.mpr c42; subst c42
             have H1 : (some false) = some r := by rw [if_neg (show ¬ (false = true) by decide)] at H; exact H
             clear H; have H := H1; clear H1; obtain rfl := Option.some.inj H; have hnb47 := NB368_369.out; have hnc47 := NB369_368.out; have hcz48_0 : wr.cell? ⟨gb368, 0, none⟩ = some (.int .i64 a0_0) := (za BK368.out 0).trans rfl; have hcz48_1 : wr.cell? ⟨gb368, 1, none⟩ = some (.int .i64 a0_1) := (za BK368.out 1).trans rfl; have hcz48_2 : wr.cell? ⟨gb368, 2, none⟩ = some (.string a0_2) := (za BK368.out 2).trans rfl; have hcz48_3 : wr.cell? ⟨gb368, 3, none⟩ = some (.slice A0_3 l0_3.length c0_3) := (za BK368.out 3).trans rfl; have hcz48_4 : wr.cell? ⟨gb368, 4, none⟩ = some (.slice A0_4 l0_4.length c0_4) := (za BK368.out 4).trans rfl; have hfz48_0 := zb BK368.out 0; have hfz48_1 := zb BK368.out 1; have hfz48_2 := zb BK368.out 2; have hfz48_3 := zb BK368.out 3; have hfz48_4 := zb BK368.out 4
             try go_wp2
             have n0_ := aM (zh BK368.out); have n1_ := aM (zh BK369.out); have n2_ := aM (zj HB.out); clear BK368 BK369 HB; have BK368 := n0_; have BK369 := n1_; have HB := n2_; clear n0_ n1_ n2_; have p372 : 0 ≤ (x6_3 : Int) := of_decide_eq_true (by first | (with_reducible assumption) | assumption); have q372 : x6_3 < (l0_4.length : Int) := of_decide_eq_true (by first | (with_reducible assumption) | assumption); obtain ⟨ad372, A372_3, c372_3, A372_4, c372_4, e372, hx372_0, hx372_1, hx372_2, hx372_3, hx372_4, hl372_3, hi372_3, hl372_4, hi372_4⟩ := xk HR0_4.out x6_3 p372 q372; have hw372_4 := hx372_4; have hw372_3 := hx372_3; have hw372_2 := hx372_2; have hw372_1 := hx372_1; have hw372_0 := hx372_0
             cases e372
             replace hx372_0 := (HB.out.cell (World.block_lt_of_cell? w _ hx372_0)).trans hx372_0; replace hx372_1 := (HB.out.cell (World.block_lt_of_cell? w _ hx372_1)).trans hx372_1; replace hx372_2 := (HB.out.cell (World.block_lt_of_cell? w _ hx372_2)).trans hx372_2; replace hx372_3 := (HB.out.cell (World.block_lt_of_cell? w _ hx372_3)).trans hx372_3; replace hx372_4 := (HB.out.cell (World.block_lt_of_cell? w _ hx372_4)).trans hx372_4; have HR372_3 := aM hi372_3; have HC372_3 := aM hl372_3; clear hi372_3 hl372_3; have HR372_4 := aM hi372_4; have HC372_4 := aM hl372_4; clear hi372_4 hl372_4; replace p372 := eq_true p372; replace q372 := eq_true q372; have p373 : 0 ≤ (x6_3 : Int) := of_decide_eq_true (by first | (with_reducible assumption) | assumption); have q373 : x6_3 < (l1_4.length : Int) := of_decide_eq_true (by first | (with_reducible assumption) | assumption); obtain ⟨ad373, A373_3, c373_3, A373_4, c373_4, e373, hx373_0, hx373_1, hx373_2, hx373_3, hx373_4, hl373_3, hi373_3, hl373_4, hi373_4⟩ := xk HR1_4.out x6_3 p373 q373; have hw373_4 := hx373_4; have hw373_3 := hx373_3; have hw373_2 := hx373_2; have hw373_1 := hx373_1; have hw373_0 := hx373_0
             cases e373
             replace hx373_0 := (HB.out.cell (World.block_lt_of_cell? w _ hx373_0)).trans hx373_0; replace hx373_1 := (HB.out.cell (World.block_lt_of_cell? w _ hx373_1)).trans hx373_1; replace hx373_2 := (HB.out.cell (World.block_lt_of_cell? w _ hx373_2)).trans hx373_2; replace hx373_3 := (HB.out.cell (World.block_lt_of_cell? w _ hx373_3)).trans hx373_3; replace hx373_4 := (HB.out.cell (World.block_lt_of_cell? w _ hx373_4)).trans hx373_4; have HR373_3 := aM hi373_3; have HC373_3 := aM hl373_3; clear hi373_3 hl373_3; have HR373_4 := aM hi373_4; have HC373_4 := aM hl373_4; clear hi373_4 hl373_4; replace p373 := eq_true p373; replace q373 := eq_true q373; refine xl (n := 12) (S := fun w' => w'.cell? ⟨gb368, 0, none⟩ = some (.int .i64 a0_0) ∧ w'.cell? ⟨gb368, 1, none⟩ = some (.int .i64 a0_1) ∧ w'.cell? ⟨gb368, 2, none⟩ = some (.string a0_2) ∧ w'.cell? ⟨gb368, 3, none⟩ = some (.slice A0_3 l0_3.length c0_3) ∧ w'.cell? ⟨gb368, 4, none⟩ = some (.slice (some ad372) l0_4.length c0_4) ∧ w'.cell? ⟨gb369, 0, none⟩ = some (.int .i64 a1_0) ∧ w'.cell? ⟨gb369, 1, none⟩ = some (.int .i64 a1_1) ∧ w'.cell? ⟨gb369, 2, none⟩ = some (.string a1_2) ∧ w'.cell? ⟨gb369, 3, none⟩ = some (.slice A1_3 l1_3.length c1_3) ∧ w'.cell? ⟨gb369, 4, none⟩ = some (.slice (some ad373) l1_4.length c1_4) ∧ w'.cell? (ad372.add ((x6_3).toNat * 5)) = some (.int .i64 ((rd_T25 l0_4 x6_3).f0)) ∧ w'.cell? ⟨(ad372.add ((x6_3).toNat * 5)).block, (ad372.add ((x6_3).toNat * 5)).off + 1, none⟩ = some (.int .i64 ((rd_T25 l0_4 x6_3).f1)) ∧ w'.cell? ⟨(ad372.add ((x6_3).toNat * 5)).block, (ad372.add ((x6_3).toNat * 5)).off + 2, none⟩ = some (.string ((rd_T25 l0_4 x6_3).f2)) ∧ w'.cell? ⟨(ad372.add ((x6_3).toNat * 5)).block, (ad372.add ((x6_3).toNat * 5)).off + 3, none⟩ = some (.slice A372_3 ((rd_T25 l0_4 x6_3).f3).length c372_3) ∧ w'.cell? ⟨(ad372.add ((x6_3).toNat * 5)).block, (ad372.add ((x6_3).toNat * 5)).off + 4, none⟩ = some (.slice A372_4 ((rd_T25 l0_4 x6_3).f4).length c372_4) ∧ w'.cell? (ad373.add ((x6_3).toNat * 5)) = some (.int .i64 ((rd_T25 l1_4 x6_3).f0)) ∧ w'.cell? ⟨(ad373.add ((x6_3).toNat * 5)).block, (ad373.add ((x6_3).toNat * 5)).off + 1, none⟩ = some (.int .i64 ((rd_T25 l1_4 x6_3).f1)) ∧ w'.cell? ⟨(ad373.add ((x6_3).toNat * 5)).block, (ad373.add ((x6_3).toNat * 5)).off + 2, none⟩ = some (.string ((rd_T25 l1_4 x6_3).f2)) ∧ w'.cell? ⟨(ad373.add ((x6_3).toNat * 5)).block, (ad373.add ((x6_3).toNat * 5)).off + 3, none⟩ = some (.slice A373_3 ((rd_T25 l1_4 x6_3).f3).length c373_3) ∧ w'.cell? ⟨(ad373.add ((x6_3).toNat * 5)).block, (ad373.add ((x6_3).toNat * 5)).off + 4, none⟩ = some (.slice A373_4 ((rd_T25 l1_4 x6_3).f4).length c373_4)) (ds := []) (bZ 12 0) (by kernel_rfl) rfl rfl ⟨(za BK368.out 0).trans rfl, (za BK368.out 1).trans rfl, (za BK368.out 2).trans rfl, (za BK368.out 3).trans rfl, (za BK368.out 4).trans rfl, (za BK369.out 0).trans rfl, (za BK369.out 1).trans rfl, (za BK369.out 2).trans rfl, (za BK369.out 3).trans rfl, (za BK369.out 4).trans rfl, ((HB.out.cell (World.block_lt_of_cell? w _ hw372_0)).trans hw372_0), ((HB.out.cell (World.block_lt_of_cell? w _ hw372_1)).trans hw372_1), ((HB.out.cell (World.block_lt_of_cell? w _ hw372_2)).trans hw372_2), ((HB.out.cell (World.block_lt_of_cell? w _ hw372_3)).trans hw372_3), ((HB.out.cell (World.block_lt_of_cell? w _ hw372_4)).trans hw372_4), ((HB.out.cell (World.block_lt_of_cell? w _ hw373_0)).trans hw373_0), ((HB.out.cell (World.block_lt_of_cell? w _ hw373_1)).trans hw373_1), ((HB.out.cell (World.block_lt_of_cell? w _ hw373_2)).trans hw373_2), ((HB.out.cell (World.block_lt_of_cell? w _ hw373_3)).trans hw373_3), ((HB.out.cell (World.block_lt_of_cell? w _ hw373_4)).trans hw373_4)⟩ (fun hHeld => ?_); refine xq spec_Same.tab11 spec_Same.bits11 (fun HT_ HW_ => ?_); generalize wr.drew = w49 at BK368 BK369 HB HR372_3 HR372_4 HR373_3 HR373_4 hx372_0 hx372_1 hx372_2 hx372_3 hx372_4 hx373_0 hx373_1 hx373_2 hx373_3 hx373_4 hHeld ⊢; refine pU 0 (some 69) (bZ 12 1) rfl (yj HT_.out (by kernel_rfl)) ?_; refine pU 2 (some 71) (bZ 12 5) rfl (yj HT_.out (by kernel_rfl)) ?_; refine pU 5 (some 74) (bZ 12 37) rfl (yj HT_.out (by kernel_rfl)) ?_; refine pU 7 (some 76) (bZ 12 165) rfl (yj HT_.out (by kernel_rfl)) ?_; refine tU 1 (some 70) (bZ 12 167) rfl (yn HT_.out HW_.out (by kernel_rfl)) (Or.inl ⟨by rfl, by rintro w' ⟨s0, s1, s2, s3, s4, s5, s6, s7, s8, s9, s10, s11, s12, s13, s14, s15, s16, s17, s18, s19⟩; go_simp; with_reducible rfl⟩) hHeld ?_; refine pU 3 (some 72) (bZ 12 175) rfl (yj HT_.out (by kernel_rfl)) ?_; refine tU 4 (some 73) (bZ 12 191) rfl (yn HT_.out HW_.out (by kernel_rfl)) (Or.inl ⟨by rfl, by rintro w' ⟨s0, s1, s2, s3, s4, s5, s6, s7, s8, s9, s10, s11, s12, s13, s14, s15, s16, s17, s18, s19⟩; go_simp; with_reducible rfl⟩) hHeld ?_; refine tU 6 (some 75) (bZ 12 255) rfl (yn HT_.out HW_.out (by kernel_rfl)) (Or.inl ⟨by rfl, by rintro w' ⟨s0, s1, s2, s3, s4, s5, s6, s7, s8, s9, s10, s11, s12, s13, s14, s15, s16, s17, s18, s19⟩; go_simp; with_reducible rfl⟩) hHeld ?_; refine pU 8 (some 77) (bZ 12 511) rfl (yj HT_.out (by kernel_rfl)) ?_; refine tU 9 (some 78) (bZ 12 1023) rfl (yn HT_.out HW_.out (by kernel_rfl)) (Or.inl ⟨by rfl, by rintro w' ⟨s0, s1, s2, s3, s4, s5, s6, s7, s8, s9, s10, s11, s12, s13, s14, s15, s16, s17, s18, s19⟩; go_simp; with_reducible rfl⟩) hHeld ?_; refine one_ (i := 10) (N := some 79) (bZ 12 2047) rfl rfl (xa HT_.out (by kernel_rfl)) (by decide) (fun K hK => ?_); refine goes_ Tryd.func23 (by kernel_rfl) rfl #[.agg #[.int .i64 ((rd_T25 l0_4 x6_3).f0), .int .i64 ((rd_T25 l0_4 x6_3).f1), .string ((rd_T25 l0_4 x6_3).f2), .slice A372_3 ((rd_T25 l0_4 x6_3).f3).length c372_3, .slice A372_4 ((rd_T25 l0_4 x6_3).f4).length c372_4], .agg #[.int .i64 ((rd_T25 l1_4 x6_3).f0), .int .i64 ((rd_T25 l1_4 x6_3).f1), .string ((rd_T25 l1_4 x6_3).f2), .slice A373_3 ((rd_T25 l1_4 x6_3).f3).length c373_3, .slice A373_4 ((rd_T25 l1_4 x6_3).f4).length c373_4]] (by rfl) rfl rfl (by (try simp only [List.map_toArray, List.map_cons, List.map_nil]); first | done | rfl | (simp only [List.length_drop, List.length_take]; rfl)) ?_
             with_reducible refine (ih k3 (by have := HJ2.out; have := HK2.out; have := HK3.out; omega) ((rd_T25 l0_4 x6_3).f0) ((rd_T25 l0_4 x6_3).f1) ((rd_T25 l0_4 x6_3).f2) _ _ ((rd_T25 l0_4 x6_3).f3) _ _ ((rd_T25 l0_4 x6_3).f4) ((rd_T25 l1_4 x6_3).f0) ((rd_T25 l1_4 x6_3).f1) ((rd_T25 l1_4 x6_3).f2) _ _ ((rd_T25 l1_4 x6_3).f3) _ _ ((rd_T25 l1_4 x6_3).f4) false _ ?side1 ?side2 ?side3 ?side4 ?side5 ?side6 ?side7 ?side8 A41.out).mono ?_
             (case side1 => repeat (first | exact (Kd.C_below HR372_3.out HB.out) | (with_reducible refine Kd.C_alloc ?_ _) | (with_reducible refine Kd.C_drewN ?_ _) | (with_reducible refine Kd.C_drew ?_)))
             (case side2 => exact HC372_3.out)
             (case side3 => repeat (first | exact (Kd.C_below HR372_4.out HB.out) | (with_reducible refine Kd.C_alloc ?_ _) | (with_reducible refine Kd.C_drewN ?_ _) | (with_reducible refine Kd.C_drew ?_)))
             (case side4 => exact HC372_4.out)
             (case side5 => repeat (first | exact (Kd.C_below HR373_3.out HB.out) | (with_reducible refine Kd.C_alloc ?_ _) | (with_reducible refine Kd.C_drewN ?_ _) | (with_reducible refine Kd.C_drew ?_)))
             (case side6 => exact HC373_3.out)
             (case side7 => repeat (first | exact (Kd.C_below HR373_4.out HB.out) | (with_reducible refine Kd.C_alloc ?_ _) | (with_reducible refine Kd.C_drewN ?_ _) | (with_reducible refine Kd.C_drew ?_)))
             (case side8 => exact HC373_4.out)
             rintro e w50 ⟨rfl, hb⟩; refine ⟨_, rfl, ?_⟩; have n0_ := aM (zq (g := gb368) (o := .cells #[.int .i64 a0_0, .int .i64 a0_1, .string a0_2, .slice A0_3 l0_3.length c0_3, .slice (some ad372) l0_4.length c0_4] 25 (0, 0)) (by (with_reducible repeat (first | refine zg ?_ _ | refine zh ?_ | refine ze ?_ _)); exact BK368.out) hb); have n1_ := aM (zq (g := gb369) (o := .cells #[.int .i64 a1_0, .int .i64 a1_1, .string a1_2, .slice A1_3 l1_3.length c1_3, .slice (some ad373) l1_4.length c1_4] 25 (0, 0)) (by (with_reducible repeat (first | refine zg ?_ _ | refine zh ?_ | refine ze ?_ _)); exact BK369.out) hb); have n2_ := aM (zo (by repeat (first | (with_reducible first | exact HB.out | apply zf | apply zc | apply zj | refine zi ?_ GE368.out | refine zi ?_ GE369.out) | exact HB.out)) hb); clear BK368 BK369 HB; have BK368 := n0_; have BK369 := n1_; have HB := n2_; clear n0_ n1_ n2_
             (try clear hb)
             (try clear hb2)
             (try clear hk)
             (try clear hi)
             refine hK.out _ _ ⟨(za BK368.out 0).trans rfl, (za BK368.out 1).trans rfl, (za BK368.out 2).trans rfl, (za BK368.out 3).trans rfl, (za BK368.out 4).trans rfl, (za BK369.out 0).trans rfl, (za BK369.out 1).trans rfl, (za BK369.out 2).trans rfl, (za BK369.out 3).trans rfl, (za BK369.out 4).trans rfl, ((HB.out.cell (World.block_lt_of_cell? w _ hw372_0)).trans hw372_0), ((HB.out.cell (World.block_lt_of_cell? w _ hw372_1)).trans hw372_1), ((HB.out.cell (World.block_lt_of_cell? w _ hw372_2)).trans hw372_2), ((HB.out.cell (World.block_lt_of_cell? w _ hw372_3)).trans hw372_3), ((HB.out.cell (World.block_lt_of_cell? w _ hw372_4)).trans hw372_4), ((HB.out.cell (World.block_lt_of_cell? w _ hw373_0)).trans hw373_0), ((HB.out.cell (World.block_lt_of_cell? w _ hw373_1)).trans hw373_1), ((HB.out.cell (World.block_lt_of_cell? w _ hw373_2)).trans hw373_2), ((HB.out.cell (World.block_lt_of_cell? w _ hw373_3)).trans hw373_3), ((HB.out.cell (World.block_lt_of_cell? w _ hw373_4)).trans hw373_4)⟩ (fun hHeld => ?_); clear hK K; refine zx (a' := ?_) ?_ ?_; rotate_left
             ·show Act.put _ (some 79) _ = _
              simp only [Act.put, sA, sB, sC, yb, yc]; rfl
             refine pU 11 (some 80) (bZ 12 4095) rfl (yj HT_.out (by kernel_rfl)) ?_; refine xt (done_of HT_.out (by kernel_rfl)) ?_
             try go_wp2
             go_ret
             exact ⟨by first | rfl | (simp [zu, zt] <;> rfl) | (simp [*, zu, zt] <;> rfl), by repeat (first | (with_reducible first | exact HB.out | apply zf | apply zc | apply zj | refine zi ?_ GE368.out | refine zi ?_ GE369.out) | exact HB.out)⟩
           ·rw [if_neg c40] at H; exact absurd H (by simp)
          ·rw [if_neg c39] at H; exact absurd H (by simp)
         ·rw [if_neg c38] at H; have c38b0 : decide (x6_3 < (l0_4.length : Int)) = false := decide_eq_false c38; clear c38; obtain rfl := Option.some.inj H; have hnb51 := NB368_369.out; have hnc51 := NB369_368.out; have hcz52_0 : wr.cell? ⟨gb368, 0, none⟩ = some (.int .i64 a0_0) := (za BK368.out 0).trans rfl; have hcz52_1 : wr.cell? ⟨gb368, 1, none⟩ = some (.int .i64 a0_1) := (za BK368.out 1).trans rfl; have hcz52_2 : wr.cell? ⟨gb368, 2, none⟩ = some (.string a0_2) := (za BK368.out 2).trans rfl; have hcz52_3 : wr.cell? ⟨gb368, 3, none⟩ = some (.slice A0_3 l0_3.length c0_3) := (za BK368.out 3).trans rfl; have hcz52_4 : wr.cell? ⟨gb368, 4, none⟩ = some (.slice A0_4 l0_4.length c0_4) := (za BK368.out 4).trans rfl; have hfz52_0 := zb BK368.out 0; have hfz52_1 := zb BK368.out 1; have hfz52_2 := zb BK368.out 2; have hfz52_3 := zb BK368.out 3; have hfz52_4 := zb BK368.out 4
          go_wp2
          go_ret
          exact ⟨by first | rfl | (simp [zu, zt] <;> rfl) | (simp [*, zu, zt] <;> rfl), by repeat (first | (with_reducible first | exact HB.out | apply zf | apply zc | apply zj | refine zi ?_ GE368.out | refine zi ?_ GE369.out) | exact HB.out)⟩
end Go.Proofs.YtceojjlpeacfgaaDoor.PS
namespace Go.Proofs.YtceojjlpeacfgaaDoor.Tr
open Go.RowKit Go.Proofs.YtceojjlpeacfgaaDoorW.PrintWords Go.Proofs.YtceojjlpeacfgaaDoorW.PrintLast Go.Proofs.YtceojjlpeacfgaaDoor.Str Go.Proofs.YtceojjlpeacfgaaDoor.Kit Go.Proofs.YtceojjlpeacfgaaDoor.MapV Go.Proofs.YtceojjlpeacfgaaDoor.Frame Go.Proofs.YtceojjlpeacfgaaDoor.PS
theorem ba_eq {s t : BA} : s.toList = t.toList ↔ s = t := by
 rw [yo, yo]; constructor
 ·intro h
  cases s with | mk a => cases t with | mk b =>
  cases a with | mk a => cases b with | mk b =>
  simp only [lb] at h; rw [h]
 ·rintro rfl; rfl
def SameB (x y : VS) (r : Bool) : Prop := Ev (fun k => spec_Same.f k x.f0 x.f1 x.f2 x.f3 x.f4 y.f0 y.f1 y.f2 y.f3 y.f4) r
theorem same_no (x y : VS) (h : ∀ k, spec_Same.f (k + 1) x.f0 x.f1 x.f2 x.f3 x.f4 y.f0 y.f1 y.f2 y.f3 y.f4 = spec_Same.j0 k true x.f0 x.f1 x.f2 x.f3 x.f4 y.f0 y.f1 y.f2 y.f3 y.f4) : SameB x y false :=
 yf h (yf (f := fun _ => some false) (fun k => by simp [spec_Same.j0]) (Ev.now _))
theorem same_leaf (k n : Int) (t : BA) (k' n' : Int) (t' : BA) : SameB (leaf k n t) (leaf k' n' t') (decide (k = k' ∧ n = n' ∧ t = t')) := by
 by_cases h1 : k = k'
 ·by_cases h2 : n = n'
  ·by_cases h3 : t.toList = t'.toList
   ·rw [decide_eq_true (show k = k' ∧ n = n' ∧ t = t' from ⟨h1, h2, ba_eq.1 h3⟩)]; refine yf (f := fun j => spec_Same.j0 j false k n t [] [] k' n' t' [] []) (fun j => ?_) (yf (f := fun j => spec_Same.l0 j 0 k n t [] [] k' n' t' [] []) (fun j => ?_) (yf (f := fun j => spec_Same.l1 j 0 k n t [] [] k' n' t' [] []) (fun j => ?_) (yf (f := fun _ => some true) (fun j => ?_) (Ev.now _))))
    ·simp only [spec_Same.f, leaf]; rw [if_pos h1, if_pos h2, if_pos h3, if_pos trivial]; rfl
    ·simp [spec_Same.j0]
    ·simp [spec_Same.l0]
    ·simp [spec_Same.l1]
   ·rw [decide_eq_false (fun h => h3 (ba_eq.2 h.2.2))]; refine same_no _ _ (fun j => ?_); simp only [spec_Same.f, leaf]; rw [if_pos h1, if_pos h2, if_neg h3]
  ·rw [decide_eq_false (fun h => h2 h.2.1)]; refine same_no _ _ (fun j => ?_); simp only [spec_Same.f, leaf]; rw [if_pos h1, if_neg h2]
 ·rw [decide_eq_false (fun h => h1 h.1)]; refine same_no _ _ (fun j => ?_); simp only [spec_Same.f, leaf]; rw [if_neg h1]
theorem same_rows (l m : List VS) (rs : List Bool) (hl : l.length ≤ 1759218604400) (hm : m.length = l.length) (hr : rs.length = l.length) (hch : ∀ (j : Nat) (h1 : j < l.length) (h2 : j < m.length) (h3 : j < rs.length), SameB l[j] m[j] rs[j]) (a b : Int) (c : BA) (a' b' : Int) (c' : BA) : ∀ (d i : Nat), i + d = l.length →
  Ev (fun k => spec_Same.l1 k (i : Int) a b c [] l a' b' c' [] m) ((rs.drop i).all id) := by
 intro d
 induction d with
 | zero =>
  intro i hi; rw [List.drop_eq_nil_of_le (by omega)]; refine yf (f := fun _ => some true) (fun k => ?_) (Ev.now _); simp only [spec_Same.l1]; rw [if_neg (by omega)]
 | succ d ih =>
  intro i hi
  have h1 : i < l.length := by omega
  have h2 : i < m.length := by omega
  have h3 : i < rs.length := by omega
  have hs := hch i h1 h2 h3
  unfold SameB at hs
  refine yf (f := fun k => (spec_Same.f k l[i].f0 l[i].f1 l[i].f2 l[i].f3 l[i].f4 m[i].f0 m[i].f1 m[i].f2 m[i].f3 m[i].f4).bind fun t => if t = true then spec_Same.l1 k ((i + 1 : Nat) : Int) a b c [] l a' b' c' [] m else some false) (fun k => ?_) (xm hs ?_)
  ·simp only [spec_Same.l1]; rw [if_pos (by omega), if_pos (by omega), if_pos (by omega), rdS h1, rdS h2, wrapS i (by omega)]
  ·rw [List.drop_eq_getElem_cons h3, List.all_cons]
   cases rs[i]
   ·exact ev_now (fun k => by simp)
   ·simp only [if_true, id, Bool.true_and]; exact ih (i + 1) (by omega)
theorem same_list (l m : List VS) (rs : List Bool) (hl : l.length ≤ 1759218604400) (hm : m.length = l.length) (hr : rs.length = l.length) (hch : ∀ (j : Nat) (h1 : j < l.length) (h2 : j < m.length) (h3 : j < rs.length), SameB l[j] m[j] rs[j]) : SameB ⟨4, 0, ⟨#[]⟩, [], l⟩ ⟨4, 0, ⟨#[]⟩, [], m⟩ (rs.all id) := by
 have h := same_rows l m rs hl hm hr hch 4 0 ⟨#[]⟩ 4 0 ⟨#[]⟩ l.length 0 (by omega); rw [List.drop_zero] at h; refine yf (f := fun j => spec_Same.j0 j false 4 0 ⟨#[]⟩ [] l 4 0 ⟨#[]⟩ [] m) (fun j => ?_) (yf (f := fun j => spec_Same.l0 j 0 4 0 ⟨#[]⟩ [] l 4 0 ⟨#[]⟩ [] m) (fun j => ?_) (yf (f := fun j => spec_Same.l1 j ((0 : Nat) : Int) 4 0 ⟨#[]⟩ [] l 4 0 ⟨#[]⟩ [] m) (fun j => ?_) h))
 ·have e : ((l.length : Int) != (m.length : Int)) = false := by rw [hm]; exact bne_self_eq_false _
  simp only [spec_Same.f]; rw [if_pos trivial, if_pos trivial, if_pos trivial, if_pos trivial, e]
 ·simp [spec_Same.j0]
 ·simp [spec_Same.l0]
theorem lb_inj {s t : BA} (h : lb s = lb t) : s = t := ba_eq.1 (by rw [yo, yo]; exact h)
theorem adr_colon {l : List UInt8} (h : ∀ c, c ∈ l → AdrC c) : (58 : UInt8) ∉ l := fun hc => by
 rcases h 58 hc with h1 | h1
 ·exact absurd h1 (by decide)
 ·exact absurd h1.2 (by decide)
theorem dig_colon {l : List UInt8} (h : ∀ c, c ∈ l → DigC c) : (58 : UInt8) ∉ l := adr_colon (fun c hc => .inr (h c hc))
theorem port_iff {h p q h' p' q' : BA} {t t' : Int} (ht : 0 ≤ t) (ht' : 0 ≤ t') (hh : ∀ c, c ∈ lb h → AdrC c) (hh' : ∀ c, c ∈ lb h' → AdrC c) (hp : ∀ c, c ∈ lb p → DigC c) (hp' : ∀ c, c ∈ lb p' → DigC c) :
  portT h p t q = portT h' p' t' q' ↔ (t = t' ∧ p = p' ∧ q = q' ∧ h = h') := by
 constructor
 ·intro e; have e2 := congrArg lb e; rw [portT_lb, portT_lb] at e2; obtain ⟨e3, e4, e5, e6⟩ := portL_inj (adr_colon hh) (adr_colon hh') (dig_colon hp) (dig_colon hp') e2; exact ⟨by omega, lb_inj e4, lb_inj e6, lb_inj e3⟩
 ·rintro ⟨rfl, rfl, rfl, rfl⟩; rfl
theorem port_sides {h p q h' p' q' : BA} {t t' : Int} (ht : 0 ≤ t) (ht' : 0 ≤ t') (hh : ∀ c, c ∈ lb h → AdrC c) (hh' : ∀ c, c ∈ lb h' → AdrC c) (hp : ∀ c, c ∈ lb p → DigC c) (hp' : ∀ c, c ∈ lb p' → DigC c) :
  SameB ⟨4, 0, ⟨#[]⟩, [], [leaf 2 t ⟨#[]⟩, leaf 3 0 p, leaf 3 0 q, leaf 3 0 h]⟩ ⟨4, 0, ⟨#[]⟩, [], [leaf 2 t' ⟨#[]⟩, leaf 3 0 p', leaf 3 0 q', leaf 3 0 h']⟩ ((portT h p t q).toList == (portT h' p' t' q').toList) := by
 have key := same_list [leaf 2 t ⟨#[]⟩, leaf 3 0 p, leaf 3 0 q, leaf 3 0 h] [leaf 2 t' ⟨#[]⟩, leaf 3 0 p', leaf 3 0 q', leaf 3 0 h'] [decide ((2 : Int) = 2 ∧ t = t' ∧ (⟨#[]⟩ : BA) = ⟨#[]⟩), decide ((3 : Int) = 3 ∧ (0 : Int) = 0 ∧ p = p'), decide ((3 : Int) = 3 ∧ (0 : Int) = 0 ∧ q = q'), decide ((3 : Int) = 3 ∧ (0 : Int) = 0 ∧ h = h')] (by simp) rfl rfl (fun j h1 h2 h3 => by
  have hj : j < 4 := h1
  match j, hj with
  | 0, _ => exact same_leaf _ _ _ _ _ _
  | 1, _ => exact same_leaf _ _ _ _ _ _
  | 2, _ => exact same_leaf _ _ _ _ _ _
  | 3, _ => exact same_leaf _ _ _ _ _ _)
 have e : (List.all [decide ((2 : Int) = 2 ∧ t = t' ∧ (⟨#[]⟩ : BA) = ⟨#[]⟩), decide ((3 : Int) = 3 ∧ (0 : Int) = 0 ∧ p = p'), decide ((3 : Int) = 3 ∧ (0 : Int) = 0 ∧ q = q'), decide ((3 : Int) = 3 ∧ (0 : Int) = 0 ∧ h = h')] id) = ((portT h p t q).toList == (portT h' p' t' q').toList) := by
  rw [Bool.eq_iff_iff, beq_iff_eq, ba_eq, port_iff ht ht' hh hh' hp hp']
  simp
 rw [e] at key; exact key
end Go.Proofs.YtceojjlpeacfgaaDoor.Tr
namespace Go.Proofs.YtceojjlpeacfgaaDoor.Tr
open Go.RowKit Go.Proofs.YtceojjlpeacfgaaDoorW.PrintWords Go.Proofs.YtceojjlpeacfgaaDoorW.PrintLast Go.Proofs.YtceojjlpeacfgaaDoor.Str Go.Proofs.YtceojjlpeacfgaaDoor.Kit Go.Proofs.YtceojjlpeacfgaaDoor.MapV Go.Proofs.YtceojjlpeacfgaaDoor.Frame Go.Proofs.YtceojjlpeacfgaaDoor.PS
open Go.Proofs.YtceojjlpeacfgaaDoor.Val (place placeI placeB)
theorem fit_formed (y : VS) : ((fitV y).f0 = 2 → fitV y = leaf 2 (fitV y).f1 ⟨#[]⟩) ∧ ((fitV y).f0 = 3 → fitV y = leaf 3 0 (fitV y).f2) := by
 obtain ⟨k, n, t, ks, vs⟩ := y
 unfold fitV
 split
 ·split <;> exact ⟨fun h => absurd h (by decide), fun h => absurd h (by decide)⟩
 split
 ·exact ⟨fun _ => rfl, fun h => absurd (show (2 : Int) = 3 from h) (by decide)⟩
 split
 ·exact ⟨fun h => absurd (show (3 : Int) = 2 from h) (by decide), fun _ => rfl⟩
 split
 ·exact ⟨fun h => absurd h (by simp), fun h => absurd h (by simp)⟩
 split
 ·exact ⟨fun h => absurd h (by simp), fun h => absurd h (by simp)⟩
 ·exact ⟨fun h => absurd h (by decide), fun h => absurd h (by decide)⟩
theorem fit_mem {y v : VS} (h : v ∈ (fitV y).f4) : ∃ u, v = fitV u := by
 obtain ⟨k, n, t, ks, vs⟩ := y
 have key : ∀ v, v ∈ fitL vs → ∃ u, v = fitV u := fun v hv => by
  rw [fitL_map] at hv; obtain ⟨u, _, rfl⟩ := List.mem_map.1 hv; exact ⟨u, rfl⟩
 unfold fitV at h
 split at h
 ·split at h <;> cases h
 split at h
 ·cases h
 split at h
 ·cases h
 split at h
 ·exact key v h
 split at h
 ·rcases (fitW_facts ks (fitL vs) [] [] rfl List.Pairwise.nil).2.2.2.2.2 v h with h | h
  ·cases h
  ·exact key v h
 ·cases h
theorem key_at {ks : List BA} {key : BA} (h : placeB ks key = true) : ∃ hl : placeI ks key < ks.length, ks[placeI ks key].toList = key.toList := by
 have hl := placeB_lt h; refine ⟨hl, ?_⟩
 unfold placeB at h
 rw [List.getElem?_eq_getElem hl] at h
 simpa using h
def skipI (i j : Nat) : Nat := if j < i then j else j - 1
theorem skip_get {α : Type} (l : List α) {i j : Nat} (hj : j < l.length) (hi : i < l.length) (hd : j ≠ i) : ∃ h : skipI i j < (l.take i ++ l.drop (i + 1)).length, (l.take i ++ l.drop (i + 1))[skipI i j]'h = l[j] := by
 unfold skipI
 by_cases hlt : j < i
 ·simp only [if_pos hlt]; refine ⟨by simp only [List.length_append, List.length_take, List.length_drop]; omega, ?_⟩; rw [List.getElem_append_left (by rw [List.length_take]; omega), List.getElem_take]
 ·simp only [if_neg hlt]
  have ht3 : (l.take i).length = i := by rw [List.length_take]; omega
  refine ⟨by simp only [List.length_append, List.length_take, List.length_drop]; omega, ?_⟩; rw [List.getElem_append_right (by omega), List.getElem_drop]
  congr 1
  omega
theorem without_at {x v : VS} {k1 k2 : BA} (hne : k1.toList ≠ k2.toList) (h1 : (getV x k1).isSome = true) (h2 : getV x k2 = some v) : 1 < x.f3.length ∧ ∃ (j : Nat) (hj : j < (withoutV x k1).f3.length) (hj2 : j < (withoutV x k1).f4.length), (withoutV x k1).f3[j].toList = k2.toList ∧ (withoutV x k1).f4[j] = v := by
 obtain ⟨v1, hv1⟩ := Option.isSome_iff_exists.1 h1; obtain ⟨h5, p1, l1, _⟩ := getV_some hv1; obtain ⟨_, p2, l2, rfl⟩ := getV_some h2; obtain ⟨m1, e1⟩ := key_at p1; obtain ⟨m2, e2⟩ := key_at p2
 have hd : placeI x.f3 k2 ≠ placeI x.f3 k1 := fun e => hne (by
  rw [← e1, ← e2]
  congr 2
  exact e.symm)
 have ew : withoutV x k1 = ⟨5, 0, ⟨#[]⟩, x.f3.take (placeI x.f3 k1) ++ x.f3.drop (placeI x.f3 k1 + 1), x.f4.take (placeI x.f3 k1) ++ x.f4.drop (placeI x.f3 k1 + 1)⟩ := by
  unfold withoutV
  rw [if_pos ⟨h5, p1⟩]
 rw [ew]; generalize placeI x.f3 k1 = i at *; generalize placeI x.f3 k2 = j at *; obtain ⟨a1, b1⟩ := skip_get x.f3 m2 m1 hd; obtain ⟨a2, b2⟩ := skip_get x.f4 l2 l1 hd; exact ⟨by omega, skipI i j, a1, a2, by rw [b1]; exact e2, b2⟩
theorem getV_mem {x v : VS} {key : BA} (h : getV x key = some v) : v ∈ x.f4 := by
 obtain ⟨_, _, l, rfl⟩ := getV_some h; exact List.getElem_mem l
theorem getV_map {x v : VS} {key : BA} (h : getV x key = some v) : x.f0 = 5 := (getV_some h).1
structure Parts4 (x : VS) (t : Int) (p q h : BA) : Prop where
 h5 : x.f0 = 5
 gt : getV x tgtB = some (leaf 2 t ⟨#[]⟩)
 gp : getV x pubB = some (leaf 3 0 p)
 gq : getV x proB = some (leaf 3 0 q)
 gh : getV x hipB = some (leaf 3 0 h)
 t0 : 0 ≤ t
 t1 : t ≤ 65535
 dp : ∀ c, c ∈ lb p → DigC c
 dh : ∀ c, c ∈ lb h → AdrC c
theorem parts_of {y : VS} (hp : PortIs (fitV y)) (h1 : (getV (fitV y) pubB).isSome = true) (h2 : (getV (fitV y) proB).isSome = true) (h3 : (getV (fitV y) hipB).isSome = true) : ∃ t p q h, Parts4 (fitV y) t p q h := by
 obtain ⟨v, hv, e0, e1, e2, hor⟩ := hp
 have hs : (getV (fitV y) tgtB).isSome = true := by rw [hv]; rfl
 have hm : ∀ {key : BA} {u : VS}, getV (fitV y) key = some u → (u.f0 = 2 → u = leaf 2 u.f1 ⟨#[]⟩) ∧ (u.f0 = 3 → u = leaf 3 0 u.f2) := fun hu => by
  obtain ⟨z, rfl⟩ := fit_mem (getV_mem hu); exact fit_formed z
 obtain ⟨p, hpv⟩ := Option.isSome_iff_exists.1 h1; obtain ⟨q, hqv⟩ := Option.isSome_iff_exists.1 h2; obtain ⟨h, hhv⟩ := Option.isSome_iff_exists.1 h3
 have d1 : tgtB.toList ≠ pubB.toList := by rw [yo, yo]; decide
 have d2 : tgtB.toList ≠ proB.toList := by rw [yo, yo]; decide
 have d3 : tgtB.toList ≠ hipB.toList := by rw [yo, yo]; decide
 have all := hor.resolve_left (by have := (without_at d1 hs hpv).1; omega); obtain ⟨_, j, hj, hj2, k1, k2⟩ := without_at d1 hs hpv; have o1 := all j hj hj2; rw [k2] at o1; obtain ⟨_, j', hj', hj2', k1', k2'⟩ := without_at d2 hs hqv; have o2 := all j' hj' hj2'; rw [k2'] at o2; obtain ⟨_, j'', hj'', hj2'', k1'', k2''⟩ := without_at d3 hs hhv; have o3 := all j'' hj'' hj2''; rw [k2''] at o3; refine ⟨v.f1, p.f2, q.f2, h.f2, getV_map hv, ?_, ?_, ?_, ?_, by omega, e2, ?_, ?_⟩
 ·rw [hv]; exact congrArg some ((hm hv).1 e0)
 ·rw [hpv]; exact congrArg some ((hm hpv).2 o1.1)
 ·rw [hqv]; exact congrArg some ((hm hqv).2 o2.1)
 ·rw [hhv]; exact congrArg some ((hm hhv).2 o3.1)
 ·exact o1.2.1 (by rw [k1, yo]; decide)
 ·exact o3.2.2 (by rw [k1'', yo]; decide)
def GetsLeaf (w : World) (v : Value) (key : BA) (k n : Int) (s : BA) : Prop := ∀ W : World, Below w.heap.size w W → Calls Tryd.prog 26 #[v, .string key] W fun e W' => ∃ B3 d3 B4 d4, e = .returned (.tuple #[.agg #[.int .i64 k, .int .i64 n, .string s, .slice B3 0 d3, .slice B4 0 d4], .bool true]) ∧ Below W.heap.size W W'
def LeafC (x : VS) (cs : List Value) : Prop := x.f3 = [] ∧ x.f4 = [] ∧ ∃ B3 d3 B4 d4, cs = [.int .i64 x.f0, .int .i64 x.f1, .string x.f2, .slice B3 0 d3, .slice B4 0 d4]
theorem leafC_len {x : VS} {cs : List Value} (h : LeafC x cs) : cs.length = 5 := by obtain ⟨_, _, _, _, _, _, rfl⟩ := h; rfl
theorem leafC_one {x : VS} {cs : List Value} (h : LeafC x cs) : ∀ u ∈ cs, u.oneCell' = true := by
 obtain ⟨_, _, _, _, _, _, rfl⟩ := h; intro u hu
 simp at hu
 rcases hu with rfl | rfl | rfl | rfl | rfl <;> rfl
theorem four_leaves {W : World} {b : Nat} {T : TypeId} {k0 n0 k1 n1 k2 n2 k3 n3 : Int} {s0 s1 s2 s3 : BA} {a0 b0 a1 b1 a2 b2 a3 b3 : Option Addr} {c0 d0 c1 d1 c2 d2 c3 d3 : Nat}
  (h : W.heap[b]? = some (.cells #[.int .i64 k0, .int .i64 n0, .string s0, .slice a0 0 c0, .slice b0 0 d0, .int .i64 k1, .int .i64 n1, .string s1, .slice a1 0 c1, .slice b1 0 d1, .int .i64 k2, .int .i64 n2, .string s2, .slice a2 0 c2, .slice b2 0 d2, .int .i64 k3, .int .i64 n3, .string s3, .slice a3 0 c3, .slice b3 0 d3] T (0, 0))) :
  ReadsRow LeafC 5 W (some ⟨b, 0, none⟩) 4 [leaf k0 n0 s0, leaf k1 n1 s1, leaf k2 n2 s2, leaf k3 n3 s3] := by
 refine ⟨rfl, by omega, fun _ => ⟨⟨b, 0, none⟩, rfl, fun j p hj => ?_⟩⟩
 have cell : ∀ (i : Nat) (u : Value), (#[.int .i64 k0, .int .i64 n0, .string s0, .slice a0 0 c0, .slice b0 0 d0, .int .i64 k1, .int .i64 n1, .string s1, .slice a1 0 c1, .slice b1 0 d1, .int .i64 k2, .int .i64 n2, .string s2, .slice a2 0 c2, .slice b2 0 d2, .int .i64 k3, .int .i64 n3, .string s3, .slice a3 0 c3, .slice b3 0 d3] : Array Value)[i]? = some u → W.cell? ⟨b, i, none⟩ = some u := fun i u hu => zz (i := i) h hu
 match j, hj with
 | 0, hj => obtain rfl := Option.some.inj hj; exact ⟨_, rfl, ⟨rfl, rfl, a0, c0, b0, d0, rfl⟩, fun i u hu => by
   match i, hu with
   | 0, hu => exact cell 0 u hu
   | 1, hu => exact cell 1 u hu
   | 2, hu => exact cell 2 u hu
   | 3, hu => exact cell 3 u hu
   | 4, hu => exact cell 4 u hu
   | i + 5, hu => simp [leaf] at hu⟩
 | 1, hj => obtain rfl := Option.some.inj hj; exact ⟨_, rfl, ⟨rfl, rfl, a1, c1, b1, d1, rfl⟩, fun i u hu => by
   match i, hu with
   | 0, hu => exact cell 5 u hu
   | 1, hu => exact cell 6 u hu
   | 2, hu => exact cell 7 u hu
   | 3, hu => exact cell 8 u hu
   | 4, hu => exact cell 9 u hu
   | i + 5, hu => simp [leaf] at hu⟩
 | 2, hj => obtain rfl := Option.some.inj hj; exact ⟨_, rfl, ⟨rfl, rfl, a2, c2, b2, d2, rfl⟩, fun i u hu => by
   match i, hu with
   | 0, hu => exact cell 10 u hu
   | 1, hu => exact cell 11 u hu
   | 2, hu => exact cell 12 u hu
   | 3, hu => exact cell 13 u hu
   | 4, hu => exact cell 14 u hu
   | i + 5, hu => simp [leaf] at hu⟩
 | 3, hj => obtain rfl := Option.some.inj hj; exact ⟨_, rfl, ⟨rfl, rfl, a3, c3, b3, d3, rfl⟩, fun i u hu => by
   match i, hu with
   | 0, hu => exact cell 15 u hu
   | 1, hu => exact cell 16 u hu
   | 2, hu => exact cell 17 u hu
   | 3, hu => exact cell 18 u hu
   | 4, hu => exact cell 19 u hu
   | i + 5, hu => simp [leaf] at hu⟩
 | j + 4, hj => simp at hj
theorem listP4 {A : Option Addr} {c : Nat} (x y z u : VS) (w : World) (hv : ReadsRow LeafC 5 w A 4 [x, y, z, u]) :
  Calls Tryd.prog 17 #[.slice A 4 c] w fun e w' => ∃ A8 c8, e = .returned (.agg #[.int .i64 4, .int .i64 0, .string ⟨#[]⟩, .slice none 0 0, .slice A8 4 c8]) ∧ (held 5 LeafC leafC_len leafC_one).R 25 w' w.heap.size (fun _ => True) (.slice A8 4 c8) [x, y, z, u] ∧ Below w.heap.size w w' := listP LeafC leafC_len leafC_one [x, y, z, u] w hv (by simp)
set_option maxHeartbeats 6400000 in
set_option maxRecDepth 100000 in
theorem useP (kd nm : Int) (t : BA) {A3 A4 : Option Addr} {n3 c3 n4 c4 : Nat} (w : World) (hkd : kd ≠ 3) {k1 m1 : Int} {s1 : BA} (G1 : GetsLeaf w (.agg #[.int .i64 kd, .int .i64 nm, .string t, .slice A3 n3 c3, .slice A4 n4 c4]) ⟨#[104, 111, 115, 116, 95, 105, 112]⟩ k1 m1 s1) {k2 m2 : Int} {s2 : BA} (G2 : GetsLeaf w (.agg #[.int .i64 kd, .int .i64 nm, .string t, .slice A3 n3 c3, .slice A4 n4 c4]) ⟨#[116, 97, 114, 103, 101, 116]⟩ k2 m2 s2) {k3 m3 : Int} {s3 : BA} (G3 : GetsLeaf w (.agg #[.int .i64 kd, .int .i64 nm, .string t, .slice A3 n3 c3, .slice A4 n4 c4]) ⟨#[112, 117, 98, 108, 105, 115, 104, 101, 100]⟩ k3 m3 s3) {k4 m4 : Int} {s4 : BA} (G4 : GetsLeaf w (.agg #[.int .i64 kd, .int .i64 nm, .string t, .slice A3 n3 c3, .slice A4 n4 c4]) ⟨#[112, 114, 111, 116, 111, 99, 111, 108]⟩ k4 m4 s4) :
  Calls Tryd.prog 24 #[.string ⟨#[112, 111, 114, 116, 115]⟩, .agg #[.int .i64 kd, .int .i64 nm, .string t, .slice A3 n3 c3, .slice A4 n4 c4]] w fun e w' => ∃ A8 c8, e = .returned (.agg #[.int .i64 4, .int .i64 0, .string ⟨#[]⟩, .slice none 0 0, .slice A8 4 c8]) ∧ (held 5 LeafC leafC_len leafC_one).R 25 w' w.heap.size (fun _ => True) (.slice A8 4 c8) [leaf k2 m2 s2, leaf k3 m3 s3, leaf k4 m4 s4, leaf k1 m1 s1] ∧ Below w.heap.size w w' := by
 have b3 : ((kd : Int) == 3) = false := by simpa using hkd
 have hb0 := zf (zf (Below.refl w.heap.size w) (.cells #[.int .i64 kd, .int .i64 nm, .string t, .slice A3 n3 c3, .slice A4 n4 c4] 25)) (.cells #[.int .i64 0, .int .i64 0, .string ⟨#[]⟩, .slice none 0 0, .slice none 0 0] 25); have hx0 := ze (xb w (.cells #[.int .i64 kd, .int .i64 nm, .string t, .slice A3 n3 c3, .slice A4 n4 c4] 25)) (.cells #[.int .i64 0, .int .i64 0, .string ⟨#[]⟩, .slice none 0 0, .slice none 0 0] 25); have hz0 := xb (w.alloc (.cells #[.int .i64 kd, .int .i64 nm, .string t, .slice A3 n3 c3, .slice A4 n4 c4] 25)) (.cells #[.int .i64 0, .int .i64 0, .string ⟨#[]⟩, .slice none 0 0, .slice none 0 0] 25); rw [World.size_alloc] at hz0; have HB0 := aM hb0; have HX0 := aM hx0; have HZ0 := aM hz0; have C1 := aM G1; have C2 := aM G2; have C3 := aM G3; have C4 := aM G4; clear hb0 hz0 hkd G1 G2 G3 G4
 go_enter Tryd.func24, Tryd.ntmps24
 go_wp2_with (refine yx (.tmp 3) rfl rfl rfl hx0 ?_)
 refine (C1.out _ HB0.out).mono ?_; rintro e w1 ⟨p1, q1, u1, v1, rfl, hb⟩; have hbb := yp hb (zf (Below.refl w1.heap.size w1) (.cells #[.int .i64 k1, .int .i64 m1, .string s1, .slice p1 0 q1, .slice u1 0 v1] 25)); have HB1 := aM (yp HB0.out hbb); have hx1 := (hbb.block _ (yd HX0.out)).trans HX0.out; have HX1 := aM hx1; have HZ1 := aM ((hbb.block _ (yd HZ0.out)).trans HZ0.out); have HC1_1 := aM (xb w1 (.cells #[.int .i64 k1, .int .i64 m1, .string s1, .slice p1 0 q1, .slice u1 0 v1] 25)); clear hb hbb hx0
 go_wp2_with (refine yx (.tmp 3) rfl rfl rfl hx1 ?_)
 refine (C2.out _ HB1.out).mono ?_; rintro e w2 ⟨p2, q2, u2, v2, rfl, hb⟩; have hbb := yp hb (zf (Below.refl w2.heap.size w2) (.cells #[.int .i64 k2, .int .i64 m2, .string s2, .slice p2 0 q2, .slice u2 0 v2] 25)); have HB2 := aM (yp HB1.out hbb); have hx2 := (hbb.block _ (yd HX1.out)).trans HX1.out; have HX2 := aM hx2; have HZ2 := aM ((hbb.block _ (yd HZ1.out)).trans HZ1.out); have HC1_2 := aM ((hbb.block _ (yd HC1_1.out)).trans HC1_1.out); have HC2_2 := aM (xb w2 (.cells #[.int .i64 k2, .int .i64 m2, .string s2, .slice p2 0 q2, .slice u2 0 v2] 25)); clear hb hbb hx1
 go_wp2_with (refine yx (.tmp 3) rfl rfl rfl hx2 ?_)
 refine (C3.out _ HB2.out).mono ?_; rintro e w3 ⟨p3, q3, u3, v3, rfl, hb⟩; have hbb := yp hb (zf (Below.refl w3.heap.size w3) (.cells #[.int .i64 k3, .int .i64 m3, .string s3, .slice p3 0 q3, .slice u3 0 v3] 25)); have HB3 := aM (yp HB2.out hbb); have hx3 := (hbb.block _ (yd HX2.out)).trans HX2.out; have HX3 := aM hx3; have HZ3 := aM ((hbb.block _ (yd HZ2.out)).trans HZ2.out); have HC1_3 := aM ((hbb.block _ (yd HC1_2.out)).trans HC1_2.out); have HC2_3 := aM ((hbb.block _ (yd HC2_2.out)).trans HC2_2.out); have HC3_3 := aM (xb w3 (.cells #[.int .i64 k3, .int .i64 m3, .string s3, .slice p3 0 q3, .slice u3 0 v3] 25)); clear hb hbb hx2
 go_wp2_with (refine yx (.tmp 3) rfl rfl rfl hx3 ?_)
 refine (C4.out _ HB3.out).mono ?_; rintro e w4 ⟨p4, q4, u4, v4, rfl, hb⟩; have hbb := yp hb (zf (Below.refl w4.heap.size w4) (.cells #[.int .i64 k4, .int .i64 m4, .string s4, .slice p4 0 q4, .slice u4 0 v4] 25)); have HB4 := aM (yp HB3.out hbb); have hx4 := (hbb.block _ (yd HX3.out)).trans HX3.out; have HX4 := aM hx4; have HZ4 := aM ((hbb.block _ (yd HZ3.out)).trans HZ3.out); have HC1_4 := aM ((hbb.block _ (yd HC1_3.out)).trans HC1_3.out); have HC2_4 := aM ((hbb.block _ (yd HC2_3.out)).trans HC2_3.out); have HC3_4 := aM ((hbb.block _ (yd HC3_3.out)).trans HC3_3.out); have HC4_4 := aM (xb w4 (.cells #[.int .i64 k4, .int .i64 m4, .string s4, .slice p4 0 q4, .slice u4 0 v4] 25)); clear hb hbb hx3; have hc1 := HC1_4.out; have hc2 := HC2_4.out; have hc3 := HC3_4.out; have hc4 := HC4_4.out; have hbr := zf (Below.refl (w4.alloc (.cells #[.int .i64 k4, .int .i64 m4, .string s4, .slice p4 0 q4, .slice u4 0 v4] 25)).heap.size (w4.alloc (.cells #[.int .i64 k4, .int .i64 m4, .string s4, .slice p4 0 q4, .slice u4 0 v4] 25))) (.cells #[.int .i64 k2, .int .i64 m2, .string s2, .slice p2 0 q2, .slice u2 0 v2, .int .i64 k3, .int .i64 m3, .string s3, .slice p3 0 q3, .slice u3 0 v3, .int .i64 k4, .int .i64 m4, .string s4, .slice p4 0 q4, .slice u4 0 v4, .int .i64 k1, .int .i64 m1, .string s1, .slice p1 0 q1, .slice u1 0 v1] 25); have HB5 := aM (yp HB4.out hbr); have HZ5 := aM ((hbr.block _ (yd HZ4.out)).trans HZ4.out); have CL := aM (listP4 (c := 4) (leaf k2 m2 s2) (leaf k3 m3 s3) (leaf k4 m4 s4) (leaf k1 m1 s1) _ (four_leaves (xb (w4.alloc (.cells #[.int .i64 k4, .int .i64 m4, .string s4, .slice p4 0 q4, .slice u4 0 v4] 25)) (.cells #[.int .i64 k2, .int .i64 m2, .string s2, .slice p2 0 q2, .slice u2 0 v2, .int .i64 k3, .int .i64 m3, .string s3, .slice p3 0 q3, .slice u3 0 v3, .int .i64 k4, .int .i64 m4, .string s4, .slice p4 0 q4, .slice u4 0 v4, .int .i64 k1, .int .i64 m1, .string s1, .slice p1 0 q1, .slice u1 0 v1] 25)))); have hse : (w4.alloc (.cells #[.int .i64 k4, .int .i64 m4, .string s4, .slice p4 0 q4, .slice u4 0 v4] 25)).heap.size = w4.heap.size + 1 := World.size_alloc _ _; rw [hse] at CL; clear hse hbr
 go_wp2_with (first | refine yx (.tmp 7) rfl rfl rfl hc2 ?_ | refine yx (.tmp 9) rfl rfl rfl hc3 ?_ | refine yx (.tmp 11) rfl rfl rfl hc4 ?_ | refine yx (.tmp 5) rfl rfl rfl hc1 ?_)
 refine CL.out.mono ?_; rintro e w6 ⟨A8, c8, rfl, hr, hb⟩; have hz6 := (hb.block _ (yd HZ5.out)).trans HZ5.out; have hb6 := yp HB5.out hb; have hg := yy w6 (w.heap.size + 1) #[.int .i64 4, .int .i64 0, .string ⟨#[]⟩, .slice none 0 0, .slice A8 4 c8]; have HX := aM (setRow_heap w6 (w.heap.size + 1) _ #[.int .i64 4, .int .i64 0, .string ⟨#[]⟩, .slice none 0 0, .slice A8 4 c8] _ _ hz6); have HB8 := aM (yk hb6 (some (w.heap.size + 1)) hb6.size hg (fun k hk => by have := Option.some.inj hk; omega)); have hlt := yd HZ5.out; have HO := aM (Kd.R_lower (base' := w.heap.size) (Kd.R_mono (ok' := fun _ => True) (Kd.R_move (Kd.R_bound hr) (fun k hk => hg.block k hk.2.2.1 (fun e => by have h2 := Option.some.inj e; have h3 := hk.2.1; omega))) (fun _ _ => trivial)) HB5.out.size); clear hr hb hb6 hg hlt CL hc1 hc2 hc3 hc4 hx4
 go_wp2_with (refine xw (.tmp 4) (.tmp 46) rfl rfl rfl rfl hz6 ?_)
 exact bodyPost_ret (v := .agg #[.int .i64 4, .int .i64 0, .string ⟨#[]⟩, .slice none 0 0, .slice A8 4 c8]) (xp rfl rfl HX.out) rfl ⟨A8, c8, rfl, HO.out, HB8.out⟩
theorem xx {x : VS} (hx : InStep x) {key : BA} {k n : Int} {s : BA} (hg : getV x key = some (leaf k n s)) {G : Nat → Prop} {w0 w : World} {A3 A4 : Option Addr} {c3 c4 : Nat} (hp : PVal G w0 w (.slice A3 x.f3.length c3) (.slice A4 x.f4.length c4) x) : GetsLeaf w (.agg #[.int .i64 x.f0, .int .i64 x.f1, .string x.f2, .slice A3 x.f3.length c3, .slice A4 x.f4.length c4]) key k n s := fun W hW => by
 have h := ev_Get x key hx; rw [hg] at h; obtain ⟨kk, hk⟩ := h.rounds; have hp2 := hp.below hW; refine (spec_Get.calls kk x.f0 x.f1 x.f2 A3 c3 x.f3 _ A4 c4 x.f4 key k n s [] [] true W (Kd.R_reads' hp2.hk).2.2 (Kd.R_reads' hp2.hk).2.1 hp2.hv hk).mono ?_; rintro e W' ⟨v3, v4, rfl, h3, h4, hb⟩; obtain ⟨B3, d3, rfl⟩ := Kd.V_slice h3; obtain ⟨B4, d4, rfl⟩ := Kd.V_slice h4; exact ⟨B3, d3, B4, d4, rfl, hb⟩
theorem leaf_K {w : World} {x : VS} {cs : List Value} (h : LeafC x cs) : kS.K w x cs := by
 obtain ⟨e3, e4, B3, d3, B4, d4, rfl⟩ := h; obtain ⟨x0, x1, x2, x3, x4⟩ := x
 dsimp only at e3 e4
 subst e3; subst e4; exact k25_mk w ⟨x0, x1, x2, [], []⟩ (Nat.zero_le _) ⟨rfl, by simp, fun h => absurd h (by simp)⟩ (Nat.zero_le _) ⟨rfl, by simp, fun h => absurd h (by simp)⟩
theorem leaves_C {w : World} {A : Option Addr} {n : Nat} {xs : List VS} (h : ReadsRow LeafC 5 w A n xs) : kS.C w A n xs := ReadsRow.imp_ h (Below.refl _ _) (fun x cs hp => leaf_K hp)
theorem leaves_R {w : World} {e base n c : Nat} {ok : Nat → Prop} {A : Option Addr} {xs : List VS} (h : (held 5 LeafC leafC_len leafC_one).R e w base ok (.slice A n c) xs) : n = xs.length ∧ n ≤ c ∧ kS.C w A n xs := by
 obtain ⟨h1, h2, h3⟩ := Kd.R_reads' h; subst h1; exact ⟨rfl, h2, leaves_C h3⟩
set_option maxHeartbeats 6400000 in
set_option maxRecDepth 100000 in
theorem part_same {x y : VS} (hx : InStep x) (hy : InStep y) {t : Int} {p q h : BA} (px : Parts4 x t p q h) {t' : Int} {p' q' h' : BA} (py : Parts4 y t' p' q' h') {G G' : Nat → Prop} {w0 w : World} {A3 A4 B3 B4 : Option Addr} {c3 c4 d3 d4 : Nat} (hpx : PVal G w0 w (.slice A3 x.f3.length c3) (.slice A4 x.f4.length c4) x) (hpy : PVal G' w0 w (.slice B3 y.f3.length d3) (.slice B4 y.f4.length d4) y) :
  Calls Tryd.prog 9 #[.agg #[.int .i64 x.f0, .int .i64 x.f1, .string x.f2, .slice A3 x.f3.length c3, .slice A4 x.f4.length c4], .agg #[.int .i64 y.f0, .int .i64 y.f1, .string y.f2, .slice B3 y.f3.length d3, .slice B4 y.f4.length d4]] w fun e w' => e = .returned (.bool ((portT h p t q).toList == (portT h' p' t' q').toList)) ∧ Below w.heap.size w w' := by
 have hside := port_sides (q := q) (q' := q') px.t0 py.t0 px.dh py.dh px.dp py.dp
 unfold SameB at hside
 obtain ⟨kk, hkk⟩ := hside.rounds; generalize ((portT h p t q).toList == (portT h' p' t' q').toList) = r at hkk ⊢; have CX := aM (fun (W : World) (hW : Below w.heap.size w W) => useP x.f0 x.f1 x.f2 W (by rw [px.h5]; decide) (xx hx px.gh (hpx.below hW)) (xx hx px.gt (hpx.below hW)) (xx hx px.gp (hpx.below hW)) (xx hx px.gq (hpx.below hW))); have CY := aM (fun (W : World) (hW : Below w.heap.size w W) => useP y.f0 y.f1 y.f2 W (by rw [py.h5]; decide) (xx hy py.gh (hpy.below hW)) (xx hy py.gt (hpy.below hW)) (xx hy py.gp (hpy.below hW)) (xx hy py.gq (hpy.below hW))); have CS := aM (show ∀ (W : World) (D D' : Option Addr) (e e' : Nat) (g1 : 4 ≤ e) (g2 : kS.C W D 4 [leaf 2 t ⟨#[]⟩, leaf 3 0 p, leaf 3 0 q, leaf 3 0 h]) (g3 : 4 ≤ e') (g4 : kS.C W D' 4 [leaf 2 t' ⟨#[]⟩, leaf 3 0 p', leaf 3 0 q', leaf 3 0 h']), Calls Tryd.prog 23 #[.agg #[.int .i64 4, .int .i64 0, .string ⟨#[]⟩, .slice none 0 0, .slice D 4 e], .agg #[.int .i64 4, .int .i64 0, .string ⟨#[]⟩, .slice none 0 0, .slice D' 4 e']] W fun e w' => e = .returned (.bool r) ∧ Below W.heap.size W w' from fun W D D' e e' g1 g2 g3 g4 => spec_Same.calls kk 4 0 ⟨#[]⟩ none 0 [] D e [leaf 2 t ⟨#[]⟩, leaf 3 0 p, leaf 3 0 q, leaf 3 0 h] 4 0 ⟨#[]⟩ none 0 [] D' e' [leaf 2 t' ⟨#[]⟩, leaf 3 0 p', leaf 3 0 q', leaf 3 0 h'] r W ⟨rfl, by simp, fun h => absurd h (by simp)⟩ (Nat.zero_le _) g2 g1 ⟨rfl, by simp, fun h => absurd h (by simp)⟩ (Nat.zero_le _) g4 g3 hkk); clear px py hside hkk hpx hpy hx hy; obtain ⟨x0, x1, x2, x3, x4⟩ := x; obtain ⟨y0, y1, y2, y3, y4⟩ := y; have hb := zf (zf (Below.refl w.heap.size w) (.cells #[.int .i64 x0, .int .i64 x1, .string x2, .slice A3 x3.length c3, .slice A4 x4.length c4] 25)) (.cells #[.int .i64 y0, .int .i64 y1, .string y2, .slice B3 y3.length d3, .slice B4 y4.length d4] 25); have hbx : ((w.alloc (.cells #[.int .i64 x0, .int .i64 x1, .string x2, .slice A3 x3.length c3, .slice A4 x4.length c4] 25)).alloc (.cells #[.int .i64 y0, .int .i64 y1, .string y2, .slice B3 y3.length d3, .slice B4 y4.length d4] 25)).heap[w.heap.size]? = some (.cells #[.int .i64 x0, .int .i64 x1, .string x2, .slice A3 x3.length c3, .slice A4 x4.length c4] 25 (0, 0)) := ze (xb _ _) _
 have hby : ((w.alloc (.cells #[.int .i64 x0, .int .i64 x1, .string x2, .slice A3 x3.length c3, .slice A4 x4.length c4] 25)).alloc (.cells #[.int .i64 y0, .int .i64 y1, .string y2, .slice B3 y3.length d3, .slice B4 y4.length d4] 25)).heap[w.heap.size + 1]? = some (.cells #[.int .i64 y0, .int .i64 y1, .string y2, .slice B3 y3.length d3, .slice B4 y4.length d4] 25 (0, 0)) := by
  have h := xb (w.alloc (.cells #[.int .i64 x0, .int .i64 x1, .string x2, .slice A3 x3.length c3, .slice A4 x4.length c4] 25)) (.cells #[.int .i64 y0, .int .i64 y1, .string y2, .slice B3 y3.length d3, .slice B4 y4.length d4] 25); rw [World.size_alloc] at h; exact h
 obtain ⟨q0, q1, q2, q3, q4⟩ := xh hbx; obtain ⟨q5, q6, q7, q8, q9⟩ := xh hby; have HB := aM hb; clear hb hbx hby
 go_enter Tryd.func9, Tryd.ntmps9
 go_wp2
 generalize hW0 : ((w.alloc (.cells #[.int .i64 x0, .int .i64 x1, .string x2, .slice A3 x3.length c3, .slice A4 x4.length c4] 25)).alloc (.cells #[.int .i64 y0, .int .i64 y1, .string y2, .slice B3 y3.length d3, .slice B4 y4.length d4] 25)) = W0 at HB q0 q1 q2 q3 q4 q5 q6 q7 q8 q9 ⊢; clear hW0; refine xl (n := 6) (S := fun w' => w'.cell? ⟨w.heap.size, 0, none⟩ = some (.int .i64 x0) ∧ w'.cell? ⟨w.heap.size, 1, none⟩ = some (.int .i64 x1) ∧ w'.cell? ⟨w.heap.size, 2, none⟩ = some (.string x2) ∧ w'.cell? ⟨w.heap.size, 3, none⟩ = some (.slice A3 x3.length c3) ∧ w'.cell? ⟨w.heap.size, 4, none⟩ = some (.slice A4 x4.length c4) ∧ w'.cell? ⟨w.heap.size + 1, 0, none⟩ = some (.int .i64 y0) ∧ w'.cell? ⟨w.heap.size + 1, 1, none⟩ = some (.int .i64 y1) ∧ w'.cell? ⟨w.heap.size + 1, 2, none⟩ = some (.string y2) ∧ w'.cell? ⟨w.heap.size + 1, 3, none⟩ = some (.slice B3 y3.length d3) ∧ w'.cell? ⟨w.heap.size + 1, 4, none⟩ = some (.slice B4 y4.length d4)) (ds := [4]) (bZ 6 0) (by kernel_rfl) rfl rfl ⟨q0, q1, q2, q3, q4, q5, q6, q7, q8, q9⟩ (fun hHeld => ?_); refine tU 0 (some 5) (bZ 6 1) rfl (by kernel_rfl) (Or.inl ⟨by rfl, by rintro w' ⟨s0, s1, s2, s3, s4, s5, s6, s7, s8, s9⟩; go_simp; with_reducible rfl⟩) hHeld ?_; refine tU 2 (some 7) (bZ 6 5) rfl (by kernel_rfl) (Or.inl ⟨by rfl, by rintro w' ⟨s0, s1, s2, s3, s4, s5, s6, s7, s8, s9⟩; go_simp; with_reducible rfl⟩) hHeld ?_; refine one_ (i := 1) (N := some 6) (bZ 6 7) rfl rfl (by kernel_rfl) (by decide) (fun K hK => ?_); refine goes_ Tryd.func24 (by kernel_rfl) rfl #[.string ⟨#[112, 111, 114, 116, 115]⟩, .agg #[.int .i64 x0, .int .i64 x1, .string x2, .slice A3 x3.length c3, .slice A4 x4.length c4]] (by rfl) rfl rfl (by simp only [List.map_toArray, List.map_cons, List.map_nil]; rfl) ?_
 with_reducible refine (CX.out _ (yi HB.out)).mono ?_
 rintro e v1 ⟨D1, e1, rfl, hr1, hb1⟩; refine ⟨_, rfl, ?_⟩; have HB1 := aM (yp (yi HB.out) hb1); have HR1 := aM hr1; clear hr1; refine hK.out _ _ ⟨zk hb1 hHeld.1, zk hb1 hHeld.2.1, zk hb1 hHeld.2.2.1, zk hb1 hHeld.2.2.2.1, zk hb1 hHeld.2.2.2.2.1, zk hb1 hHeld.2.2.2.2.2.1, zk hb1 hHeld.2.2.2.2.2.2.1, zk hb1 hHeld.2.2.2.2.2.2.2.1, zk hb1 hHeld.2.2.2.2.2.2.2.2.1, zk hb1 hHeld.2.2.2.2.2.2.2.2.2⟩ (fun hHeld => ?_); clear hK K; refine zx (a' := ?_) ?_ ?_; rotate_left
 ·show Act.put _ (some 6) _ = _
  simp only [Act.put, sA, sB, sC, yb, yc]; rfl
 refine one_ (i := 3) (N := some 8) (bZ 6 15) rfl rfl (by kernel_rfl) (by decide) (fun K hK => ?_); refine goes_ Tryd.func24 (by kernel_rfl) rfl #[.string ⟨#[112, 111, 114, 116, 115]⟩, .agg #[.int .i64 y0, .int .i64 y1, .string y2, .slice B3 y3.length d3, .slice B4 y4.length d4]] (by rfl) rfl rfl (by simp only [List.map_toArray, List.map_cons, List.map_nil]; rfl) ?_
 with_reducible refine (CY.out v1 HB1.out).mono ?_
 rintro e v2 ⟨D2, e2, rfl, hr2, hb2⟩; refine ⟨_, rfl, ?_⟩; have HB2 := aM (yp HB1.out hb2); have HR2 := aM hr2; have HR3 := aM (Kd.R_below HR1.out hb2); clear hr2; refine hK.out _ _ ⟨zk hb2 hHeld.1, zk hb2 hHeld.2.1, zk hb2 hHeld.2.2.1, zk hb2 hHeld.2.2.2.1, zk hb2 hHeld.2.2.2.2.1, zk hb2 hHeld.2.2.2.2.2.1, zk hb2 hHeld.2.2.2.2.2.2.1, zk hb2 hHeld.2.2.2.2.2.2.2.1, zk hb2 hHeld.2.2.2.2.2.2.2.2.1, zk hb2 hHeld.2.2.2.2.2.2.2.2.2⟩ (fun hHeld => ?_); clear hK K; refine zx (a' := ?_) ?_ ?_; rotate_left
 ·show Act.put _ (some 8) _ = _
  simp only [Act.put, sA, sB, sC, yb, yc]; rfl
 refine xo (i := 4) (N := some 9) (bZ 6 31) rfl rfl (by kernel_rfl) (by decide) (fun K hK => ?_); refine goes_ Tryd.func23 (by kernel_rfl) rfl #[.agg #[.int .i64 4, .int .i64 0, .string ⟨#[]⟩, .slice none 0 0, .slice D1 4 e1], .agg #[.int .i64 4, .int .i64 0, .string ⟨#[]⟩, .slice none 0 0, .slice D2 4 e2]] (by rfl) rfl rfl (by simp only [List.map_toArray, List.map_cons, List.map_nil]; rfl) ?_
 with_reducible refine (CS.out v2 D1 D2 e1 e2 (leaves_R HR3.out).2.1 (leaves_R HR3.out).2.2 (leaves_R HR2.out).2.1 (leaves_R HR2.out).2.2).mono ?_
 rintro e v3 ⟨rfl, hb3⟩; refine ⟨_, rfl, ?_⟩; have HB3 := aM (yp HB2.out hb3); clear hb3; refine hK.out _ _ ?_; clear hK K; refine zx (a' := ?_) ?_ ?_; rotate_left
 ·show Act.put _ (some 9) _ = _
  simp only [Act.put, sA, sB, sC, yb, yc]; rfl
 refine pU 5 (some 4) (bZ 6 63) rfl (by kernel_rfl) ?_; refine xt (by kernel_rfl) ?_
 go_wp2
 go_ret
 exact ⟨rfl, HB3.out⟩
end Go.Proofs.YtceojjlpeacfgaaDoor.Tr
namespace Go.Proofs.YtceojjlpeacfgaaDoor.Tr
open Go.RowKit Go.Proofs.YtceojjlpeacfgaaDoorW.PrintWords Go.Proofs.YtceojjlpeacfgaaDoorW.PrintLast Go.Proofs.YtceojjlpeacfgaaDoor.Str Go.Proofs.YtceojjlpeacfgaaDoor.Kit Go.Proofs.YtceojjlpeacfgaaDoor.MapV Go.Proofs.YtceojjlpeacfgaaDoor.Frame Go.Proofs.YtceojjlpeacfgaaDoor.PS
theorem PTab.below {w w' : World} (h : PTab w) (hb : Below w.heap.size w w') : PTab w' := (Lib.tabBelow_of_tabIs h) w' hb
set_option maxHeartbeats 1600000 in
theorem implPort (x : VI) (hx : Small x) (h5 : x.f0 = 5) (t : Int) (pub hst pro : BA) (ht0 : 0 ≤ t) (ht1 : t ≤ 65535) (hz1 : hst.size ≤ 140737488355328) (hz2 : pub.size ≤ 140737488355328) (hz3 : pro.size ≤ 140737488355328)
  (g1 : mget (mapOf x) (lb tgtL) = some (.int t)) (g2 : mget (mapOf x) (lb pubL) = some (.text pub)) (g3 : mget (mapOf x) (lb hipL) = some (.text hst)) (g4 : mget (mapOf x) (lb proL) = some (.text pro))
  (A3 A4 : Option Addr) (c3 c4 : Nat) (w : World) (h3 : x.f3.length ≤ c3) (hk : Kd.string.C w A3 x.f3.length x.f3) (h4 : x.f4.length ≤ c4) (hv : kI.C w A4 x.f4.length x.f4) (hT : PTab w) :
  Calls Tryd.prog 7 #[.agg #[.int .i64 x.f0, .int .i64 x.f1, .string x.f2, .slice A3 x.f3.length c3, .slice A4 x.f4.length c4]] w fun e w' => e = .returned (.tuple #[.string (portT hst pub t pro), .bool true]) ∧ Below w.heap.size w w' := by
 have hb := zf (Below.refl w.heap.size w) (.cells #[.int .i64 x.f0, .int .i64 x.f1, .string x.f2, .slice A3 x.f3.length c3, .slice A4 x.f4.length c4] 32); have HB := aM hb; have CA := aM (toAny x hx A3 A4 c3 c4 (w.alloc (.cells #[.int .i64 x.f0, .int .i64 x.f1, .string x.f2, .slice A3 x.f3.length c3, .slice A4 x.f4.length c4] 32)) h3 (Kd.C_below hk hb) h4 (Kd.C_below hv hb)); have HG := aM (And.intro g1 (And.intro g2 (And.intro g3 g4))); have HT := aM hT; have HN := aM (And.intro ht0 (And.intro ht1 (And.intro hz1 (And.intro hz2 hz3))))
 have HY := aM (show anyOf x = .map (mapOf x) by
  obtain ⟨k, n, t, ks, vs⟩ := x; have h5' : k = 5 := h5; subst h5'
  exact anyOf_map n t ks vs)
 clear hb hk hv g1 g2 g3 g4 h3 h4 h5 hT ht0 ht1 hz1 hz2 hz3; obtain ⟨x0, x1, x2, x3, x4⟩ := x
 go_enter Tryd.func7, Tryd.ntmps7
 go_wp2_with fail
 refine CA.out.mono ?_; rintro e w1 ⟨v, rfl, ha, hb⟩; rw [HY.out] at ha
 have hv' : ∃ b, v = .iface 58 (.map (some b)) := by
  generalize hq : Y.map _ = q at ha
  cases ha <;> first | exact ⟨_, rfl⟩ | cases hq
 obtain ⟨b, rfl⟩ := hv'; obtain ⟨f, hf, hlook⟩ := AR.look ha; obtain ⟨u1, G1, k1, a1⟩ := hlook _ _ HG.out.1; obtain ⟨u2, G2, k2, a2⟩ := hlook _ _ HG.out.2.1; obtain ⟨u3, G3, k3, a3⟩ := hlook _ _ HG.out.2.2.1; obtain ⟨u4, G4, k4, a4⟩ := hlook _ _ HG.out.2.2.2; rw [AR.int_inv a1] at k1; rw [AR.text_inv a2] at k2; rw [AR.text_inv a3] at k3; rw [AR.text_inv a4] at k4; have HM := aM hf; have HK := aM (And.intro k1 (And.intro k2 (And.intro k3 k4))); have HB1 := aM (yp HB.out hb); clear ha hb CA hlook a1 a2 a3 a4 hf k1 k2 k3 k4
 go_wp2_with fail
 refine (Mount.implAt w1).mono ?_; rintro e w2 ⟨p, rfl, hb⟩; have HB2 := aM (yp HB1.out hb); have HM2 := aM (HM.out.below hb); have CO := aM (overridePort_map b p (portT hst pub t pro) w2 (portIndexer_map b p hst pub pro t HN.out.1 HN.out.2.1 HN.out.2.2.1 HN.out.2.2.2.1 HN.out.2.2.2.2 f w2 (HT.out.below HB2.out) HM2.out HK.out.1 HK.out.2.1 HK.out.2.2.1 HK.out.2.2.2)); clear hb
 go_wp2_with fail
 refine CO.out.mono ?_; rintro e w3 ⟨rfl, hb⟩; have HB3 := aM (yp HB2.out hb); clear hb
 go_wp2_with fail
 refine (Mount.implIndex _ w3).mono ?_; rintro e w4 ⟨rfl, rfl⟩
 go_wp2
 go_ret2
 exact ⟨rfl, HB3.out⟩
end Go.Proofs.YtceojjlpeacfgaaDoor.Tr
namespace Go.Proofs.YtceojjlpeacfgaaDoor.Tr
open Go.RowKit Go.Proofs.YtceojjlpeacfgaaDoorW.PrintWords Go.Proofs.YtceojjlpeacfgaaDoorW.PrintLast Go.Proofs.YtceojjlpeacfgaaDoor.Str Go.Proofs.YtceojjlpeacfgaaDoor.Kit Go.Proofs.YtceojjlpeacfgaaDoor.MapV Go.Proofs.YtceojjlpeacfgaaDoor.Frame Go.Proofs.YtceojjlpeacfgaaDoor.PS
open Go.Proofs.YtceojjlpeacfgaaDoor.Val (place placeI placeB)
theorem SmallS.val {x v : VS} (h : SmallS x) (hv : v ∈ x.f4) : SmallS v := by
 cases h with
 | mk _ _ _ _ _ h => exact h v hv
theorem SmallS.text {x : VS} (h : SmallS x) : x.f2.size ≤ 140737488355328 := by
 cases h with
 | mk _ ht _ _ _ _ => exact ht
theorem SmallS.lens {x : VS} (h : SmallS x) : x.f3.length ≤ 8796093022000 ∧ x.f4.length ≤ 1759218604400 := by
 cases h with
 | mk _ _ _ h1 h2 _ => exact ⟨h1, h2⟩
theorem pval_fit {w0 W w : World} {kv vv : Value} {x : VS} (hw : w0.heap.size ≤ W.heap.size) (h1 : Kd.R Kd.string 9 w W.heap.size (fun k => W.heap.size ≤ k) kv x.f3) (h2 : Kd.N kS 25 w W.heap.size (fun k => W.heap.size ≤ k ∧ some k ≠ kv.ownBlock) vv x.f4) : PVal (fun k => W.heap.size ≤ k ∧ k < w.heap.size) w0 w kv vv x :=
 ⟨Kd.R_lower ⟨fun k hk => ⟨hk.symm, h1.1 k hk, ((Kd.R_bound h1).1 k hk).2.2.1⟩, h1.2⟩ hw, Kd.V_mono (Kd.V_bound (Kd.N_V (base' := w0.heap.size) h2)) (fun k hk => ⟨hk.1.2, hk.1.1, hk.2⟩)⟩
theorem port_index {x : VS} (hs : SmallS x) (hf : Fitted x) {t : Int} {p q h : BA} (px : Parts4 x t p q h) {z0 z1 : Int} {z2 : BA} {z3 : List BA} {z4 : List VI} (hz : toI x = ⟨z0, z1, z2, z3, z4⟩) {A3 A4 : Option Addr} {c3 c4 : Nat} (w : World) (h3 : z3.length ≤ c3) (hk : Kd.string.C w A3 z3.length z3) (h4 : z4.length ≤ c4) (hv : kI.C w A4 z4.length z4) (hT : PTab w) :
  Calls Tryd.prog 7 #[.agg #[.int .i64 z0, .int .i64 z1, .string z2, .slice A3 z3.length c3, .slice A4 z4.length c4]] w fun e w' => e = .returned (.tuple #[.string (portT h p t q), .bool true]) ∧ Below w.heap.size w w' := by
 have hg : ∀ {key : BA} {k n : Int} {s : BA} (hq : getV x key = some (leaf k n s)), mget (mapOf (toI x)) (lb key) = some (anyOf ⟨k, n, s, [], []⟩) := fun hq => by
  rw [mapOf_get hf px.h5, hq]
  simp [leaf, toI, toL]
 have hsz : ∀ {key : BA} {k n : Int} {s : BA} (hq : getV x key = some (leaf k n s)), s.size ≤ 140737488355328 := fun hq => (hs.val (getV_mem hq)).text
 have h5 : z0 = 5 := by
  have := px.h5
  have e : (toI x).f0 = x.f0 := by rw [toI_eq]
  rw [hz] at e; exact e.trans this
 have g1 := hg px.gt; have g2 := hg px.gp; have g3 := hg px.gh; have g4 := hg px.gq; have hsm := small_to x hs; rw [hz] at g1 g2 g3 g4 hsm; exact implPort ⟨z0, z1, z2, z3, z4⟩ hsm h5 t p h q px.t0 px.t1 (hsz px.gh) (hsz px.gp) (hsz px.gq) (g1.trans (by simp [anyOf])) (g2.trans (by simp [anyOf])) (g3.trans (by simp [anyOf])) (g4.trans (by simp [anyOf])) A3 A4 c3 c4 w h3 hk h4 hv hT
set_option maxHeartbeats 12800000 in
set_option maxRecDepth 100000 in
theorem lawPort (x y : VS) (hx : SmallS x) (hy : SmallS y) (A3 A4 : Option Addr) (c3 c4 : Nat) (B3 B4 : Option Addr) (d3 d4 : Nat) (w : World) (l3 : x.f3.length ≤ c3) (hk : Kd.string.C w A3 x.f3.length x.f3) (l4 : x.f4.length ≤ c4) (hv : kS.C w A4 x.f4.length x.f4) (m3 : y.f3.length ≤ d3) (hk' : Kd.string.C w B3 y.f3.length y.f3) (m4 : y.f4.length ≤ d4) (hv' : kS.C w B4 y.f4.length y.f4) (hT : PTab w) :
  Calls Tryd.prog 3 #[.agg #[.int .i64 x.f0, .int .i64 x.f1, .string x.f2, .slice A3 x.f3.length c3, .slice A4 x.f4.length c4], .agg #[.int .i64 y.f0, .int .i64 y.f1, .string y.f2, .slice B3 y.f3.length d3, .slice B4 y.f4.length d4]] w fun e w' => e = .returned (.bool true) ∧ Below w.heap.size w w' := by
 obtain ⟨b1, hb1_⟩ := ev_zzFits1 x; obtain ⟨b2, hb2_⟩ := ev_zzFits1 y; obtain ⟨k1, hb1⟩ := hb1_.rounds; obtain ⟨k2, hb2⟩ := hb2_.rounds; obtain ⟨sx, fx⟩ := fit_facts x hx; obtain ⟨sy, fy⟩ := fit_facts y hy; have hFx_ := ev_Fit x hx; have hFy_ := ev_Fit y hy
 unfold FitEv at hFx_ hFy_
 obtain ⟨k3, hFx⟩ := hFx_.rounds; obtain ⟨k4, hFy⟩ := hFy_.rounds; have hTx_ := ev_to _ sx; have hTy_ := ev_to _ sy
 unfold ToEv at hTx_ hTy_
 obtain ⟨k5, hTx⟩ := hTx_.rounds; obtain ⟨k6, hTy⟩ := hTy_.rounds; clear hb1_ hb2_ hFx_ hFy_ hTx_ hTy_; have PX := aM (fun (h : PortIs (fitV x) ∧ (getV (fitV x) pubB).isSome = true ∧ (getV (fitV x) proB).isSome = true ∧ (getV (fitV x) hipB).isSome = true) => parts_of h.1 h.2.1 h.2.2.1 h.2.2.2); have PY := aM (fun (h : PortIs (fitV y) ∧ (getV (fitV y) pubB).isSome = true ∧ (getV (fitV y) proB).isSome = true ∧ (getV (fitV y) hipB).isSome = true) => parts_of h.1 h.2.1 h.2.2.1 h.2.2.2)
 have hCFx : ∀ (W : World), Below w.heap.size w W → Calls Tryd.prog 5 #[.agg #[.int .i64 x.f0, .int .i64 x.f1, .string x.f2, .slice A3 x.f3.length c3, .slice A4 x.f4.length c4]] W fun e w' => ∃ v3 v4, e = .returned (.agg #[.int .i64 (fitV x).f0, .int .i64 (fitV x).f1, .string (fitV x).f2, v3, v4]) ∧ PVal (fun k => W.heap.size ≤ k ∧ k < w'.heap.size) w w' v3 v4 (fitV x) ∧ Below W.heap.size W w' := fun W hW => (spec_Fit.calls k3 x.f0 x.f1 x.f2 A3 c3 x.f3 A4 c4 x.f4 _ _ _ _ _ W (Kd.C_below hk hW) l3 (Kd.C_below hv hW) l4 hFx).mono (fun e w' ⟨v3, v4, he, h1, h2, hb⟩ => ⟨v3, v4, he, pval_fit hW.size h1 h2, hb⟩)
 have hCFy : ∀ (W : World), Below w.heap.size w W → Calls Tryd.prog 5 #[.agg #[.int .i64 y.f0, .int .i64 y.f1, .string y.f2, .slice B3 y.f3.length d3, .slice B4 y.f4.length d4]] W fun e w' => ∃ v3 v4, e = .returned (.agg #[.int .i64 (fitV y).f0, .int .i64 (fitV y).f1, .string (fitV y).f2, v3, v4]) ∧ PVal (fun k => W.heap.size ≤ k ∧ k < w'.heap.size) w w' v3 v4 (fitV y) ∧ Below W.heap.size W w' := fun W hW => (spec_Fit.calls k4 y.f0 y.f1 y.f2 B3 d3 y.f3 B4 d4 y.f4 _ _ _ _ _ W (Kd.C_below hk' hW) m3 (Kd.C_below hv' hW) m4 hFy).mono (fun e w' ⟨v3, v4, he, h1, h2, hb⟩ => ⟨v3, v4, he, pval_fit hW.size h1 h2, hb⟩)
 have ix := fx.inStep sx; have iy := fy.inStep sy
 have hCPx : ∀ (G : Nat → Prop) (W : World) (kv vv : Value), Below w.heap.size w W → PVal G w W kv vv (fitV x) → (∀ k, G k → k < W.heap.size) → _ := fun G W kv vv h1 h2 h3 => part_port (fitV x) ix (fun v hv => by have := (sx.val hv).text; omega) sx.lens.1 sx.lens.2 h1 h2 h3
 have hCPy : ∀ (G : Nat → Prop) (W : World) (kv vv : Value), Below w.heap.size w W → PVal G w W kv vv (fitV y) → (∀ k, G k → k < W.heap.size) → _ := fun G W kv vv h1 h2 h3 => part_port (fitV y) iy (fun v hv => by have := (sy.val hv).text; omega) sy.lens.1 sy.lens.2 h1 h2 h3
 have hCSm := fun {t : Int} {p q h : BA} (px : Parts4 (fitV x) t p q h) {t' : Int} {p' q' h' : BA} (py : Parts4 (fitV y) t' p' q' h') => @part_same (fitV x) (fitV y) ix iy t p q h px t' p' q' h' py
 have hCTx := fun (W : World) (D3 : Option Addr) (e3 : Nat) (D4 : Option Addr) (e4 : Nat) (r1 : Kd.string.C W D3 (fitV x).f3.length (fitV x).f3) (r2 : (fitV x).f3.length ≤ e3) (r3 : kS.C W D4 (fitV x).f4.length (fitV x).f4) (r4 : (fitV x).f4.length ≤ e4) => laws_to.calls k5 (fitV x).f0 (fitV x).f1 (fitV x).f2 D3 e3 (fitV x).f3 D4 e4 (fitV x).f4 _ _ _ _ _ W r1 r2 r3 r4 hTx
 have hCTy := fun (W : World) (D3 : Option Addr) (e3 : Nat) (D4 : Option Addr) (e4 : Nat) (r1 : Kd.string.C W D3 (fitV y).f3.length (fitV y).f3) (r2 : (fitV y).f3.length ≤ e3) (r3 : kS.C W D4 (fitV y).f4.length (fitV y).f4) (r4 : (fitV y).f4.length ≤ e4) => laws_to.calls k6 (fitV y).f0 (fitV y).f1 (fitV y).f2 D3 e3 (fitV y).f3 D4 e4 (fitV y).f4 _ _ _ _ _ W r1 r2 r3 r4 hTy
 have hCIx := fun {t : Int} {p q h : BA} (px : Parts4 (fitV x) t p q h) {z0 z1 : Int} {z2 : BA} {z3 : List BA} {z4 : List VI} (hz : toI (fitV x) = ⟨z0, z1, z2, z3, z4⟩) => @port_index (fitV x) sx fx t p q h px z0 z1 z2 z3 z4 hz
 have hCIy := fun {t : Int} {p q h : BA} (px : Parts4 (fitV y) t p q h) {z0 z1 : Int} {z2 : BA} {z3 : List BA} {z4 : List VI} (hz : toI (fitV y) = ⟨z0, z1, z2, z3, z4⟩) => @port_index (fitV y) sy fy t p q h px z0 z1 z2 z3 z4 hz
 have hCZx := fun (W : World) (hW : Below w.heap.size w W) => laws_zzFits1.calls k1 x.f0 x.f1 x.f2 A3 c3 x.f3 A4 c4 x.f4 b1 W (Kd.C_below hk hW) l3 (Kd.C_below hv hW) l4 hb1
 have hCZy := fun (W : World) (hW : Below w.heap.size w W) => laws_zzFits1.calls k2 y.f0 y.f1 y.f2 B3 d3 y.f3 B4 d4 y.f4 b2 W (Kd.C_below hk' hW) m3 (Kd.C_below hv' hW) m4 hb2
 clear hb1 hb2 hFx hFy hk hv hk' hv' l3 l4 m3 m4 ix iy sx sy fx fy hx hy; generalize hfx : fitV x = f at *; generalize hfy : fitV y = g at *; generalize hzx : toI f = z at *; generalize hzy : toI g = u at *; clear hfx hfy; obtain ⟨x0, x1, x2, x3, x4⟩ := x; obtain ⟨y0, y1, y2, y3, y4⟩ := y; obtain ⟨f0, f1, f2, f3, f4⟩ := f; obtain ⟨g0, g1, g2, g3, g4⟩ := g; obtain ⟨z0, z1, z2, z3, z4⟩ := z; obtain ⟨u0, u1, u2, u3, u4⟩ := u
 dsimp only [tupI] at hCFx hCFy hCPx hCPy hCSm hCTx hCTy hCIx hCIy hCZx hCZy
 have CFx := aM hCFx; have CFy := aM hCFy; have CPx := aM hCPx; have CPy := aM hCPy; have CSm := aM @hCSm; have CTx := aM hCTx; have CTy := aM hCTy; have CIx := aM @hCIx; have CIy := aM @hCIy; have CZx := aM hCZx; have CZy := aM hCZy; have HT := aM hT; have HZX := aM hzx; have HZY := aM hzy; clear hCFx hCFy hCPx hCPy hCSm hCTx hCTy hCIx hCIy hCZx hCZy hT hzx hzy hTx hTy; have hb := zf (zf (Below.refl w.heap.size w) (.cells #[.int .i64 x0, .int .i64 x1, .string x2, .slice A3 x3.length c3, .slice A4 x4.length c4] 25)) (.cells #[.int .i64 y0, .int .i64 y1, .string y2, .slice B3 y3.length d3, .slice B4 y4.length d4] 25); have hbx : ((w.alloc (.cells #[.int .i64 x0, .int .i64 x1, .string x2, .slice A3 x3.length c3, .slice A4 x4.length c4] 25)).alloc (.cells #[.int .i64 y0, .int .i64 y1, .string y2, .slice B3 y3.length d3, .slice B4 y4.length d4] 25)).heap[w.heap.size]? = some (.cells #[.int .i64 x0, .int .i64 x1, .string x2, .slice A3 x3.length c3, .slice A4 x4.length c4] 25 (0, 0)) := ze (xb _ _) _
 have hby : ((w.alloc (.cells #[.int .i64 x0, .int .i64 x1, .string x2, .slice A3 x3.length c3, .slice A4 x4.length c4] 25)).alloc (.cells #[.int .i64 y0, .int .i64 y1, .string y2, .slice B3 y3.length d3, .slice B4 y4.length d4] 25)).heap[w.heap.size + 1]? = some (.cells #[.int .i64 y0, .int .i64 y1, .string y2, .slice B3 y3.length d3, .slice B4 y4.length d4] 25 (0, 0)) := by
  have h := xb (w.alloc (.cells #[.int .i64 x0, .int .i64 x1, .string x2, .slice A3 x3.length c3, .slice A4 x4.length c4] 25)) (.cells #[.int .i64 y0, .int .i64 y1, .string y2, .slice B3 y3.length d3, .slice B4 y4.length d4] 25); rw [World.size_alloc] at h; exact h
 have hs2 : w.heap.size + 2 ≤ ((w.alloc (.cells #[.int .i64 x0, .int .i64 x1, .string x2, .slice A3 x3.length c3, .slice A4 x4.length c4] 25)).alloc (.cells #[.int .i64 y0, .int .i64 y1, .string y2, .slice B3 y3.length d3, .slice B4 y4.length d4] 25)).heap.size := by simp only [World.size_alloc]; omega
 have HB := aM hb; have HX := aM hbx; have HY := aM hby; have HS := aM hs2; clear hb hby hs2
 go_enter Tryd.func3, Tryd.ntmps3
 go_wp2_with (refine yx (.tmp 2) rfl rfl rfl hbx ?_)
 refine (CZx.out _ HB.out).mono ?_; rintro e w1 ⟨rfl, hb1⟩; have HB1 := aM (yp HB.out hb1); have HX1 := aM ((hb1.block _ (yd HX.out)).trans HX.out); have hy1 := (hb1.block _ (yd HY.out)).trans HY.out; have HY1 := aM hy1; have HS1 := aM (Nat.le_trans HS.out hb1.size); clear hb1 hbx HX HY HS HB CZx
 cases b1
 ·clear hy1
  go_wp2
  go_ret
  exact ⟨rfl, HB1.out⟩
 obtain ⟨q0, q1, q2, q3, q4⟩ := xh hy1; clear hy1
 go_wp2_with fail
 refine (CZy.out w1 HB1.out).mono ?_; rintro e w2 ⟨rfl, hb2⟩; have HB2 := aM (yp HB1.out hb2); have HX2 := aM ((hb2.block _ (yd HX1.out)).trans HX1.out); have HY2 := aM ((hb2.block _ (yd HY1.out)).trans HY1.out); have HS2 := aM (Nat.le_trans HS1.out hb2.size); clear hb2 HX1 HY1 HB1 HS1 q0 q1 q2 q3 q4 CZy
 cases b2
 ·go_wp2
  go_ret
  exact ⟨rfl, HB2.out⟩
 obtain ⟨q0, q1, q2, q3, q4⟩ := xh HX2.out; obtain ⟨q5, q6, q7, q8, q9⟩ := xh HY2.out
 go_wp2
 refine xl (n := 6) (S := fun w' => w'.cell? ⟨w.heap.size, 0, none⟩ = some (.int .i64 x0) ∧ w'.cell? ⟨w.heap.size, 1, none⟩ = some (.int .i64 x1) ∧ w'.cell? ⟨w.heap.size, 2, none⟩ = some (.string x2) ∧ w'.cell? ⟨w.heap.size, 3, none⟩ = some (.slice A3 x3.length c3) ∧ w'.cell? ⟨w.heap.size, 4, none⟩ = some (.slice A4 x4.length c4) ∧ w'.cell? ⟨w.heap.size + 1, 0, none⟩ = some (.int .i64 y0) ∧ w'.cell? ⟨w.heap.size + 1, 1, none⟩ = some (.int .i64 y1) ∧ w'.cell? ⟨w.heap.size + 1, 2, none⟩ = some (.string y2) ∧ w'.cell? ⟨w.heap.size + 1, 3, none⟩ = some (.slice B3 y3.length d3) ∧ w'.cell? ⟨w.heap.size + 1, 4, none⟩ = some (.slice B4 y4.length d4)) (ds := [4, 5]) (bZ 6 0) (by kernel_rfl) rfl rfl ⟨q0, q1, q2, q3, q4, q5, q6, q7, q8, q9⟩ (fun hHeld => ?_); refine tU 0 (some 17) (bZ 6 1) rfl (by kernel_rfl) (Or.inl ⟨by rfl, by rintro w' ⟨s0, s1, s2, s3, s4, s5, s6, s7, s8, s9⟩; go_simp; with_reducible rfl⟩) hHeld ?_; refine tU 2 (some 19) (bZ 6 5) rfl (by kernel_rfl) (Or.inl ⟨by rfl, by rintro w' ⟨s0, s1, s2, s3, s4, s5, s6, s7, s8, s9⟩; go_simp; with_reducible rfl⟩) hHeld ?_; refine one_ (i := 1) (N := some 18) (bZ 6 7) rfl rfl (by kernel_rfl) (by decide) (fun K hK => ?_); refine goes_ Tryd.func5 (by kernel_rfl) rfl #[.agg #[.int .i64 x0, .int .i64 x1, .string x2, .slice A3 x3.length c3, .slice A4 x4.length c4]] (by rfl) rfl rfl (by simp only [List.map_toArray, List.map_cons, List.map_nil]; rfl) ?_
 with_reducible refine (CFx.out _ (yi HB2.out)).mono ?_
 rintro e v1 ⟨F3_, F4_, rfl, hp1, hb1⟩; refine ⟨_, rfl, ?_⟩; obtain ⟨F3, e3, rfl⟩ := Kd.R_slice hp1.hk; obtain ⟨F4, e4, rfl⟩ := Kd.V_slice hp1.hv; have HP1 := aM hp1; have HB1 := aM (yp (yi HB2.out) hb1); have HD1 := aM hb1; clear hp1; refine hK.out _ _ ⟨zk hb1 hHeld.1, zk hb1 hHeld.2.1, zk hb1 hHeld.2.2.1, zk hb1 hHeld.2.2.2.1, zk hb1 hHeld.2.2.2.2.1, zk hb1 hHeld.2.2.2.2.2.1, zk hb1 hHeld.2.2.2.2.2.2.1, zk hb1 hHeld.2.2.2.2.2.2.2.1, zk hb1 hHeld.2.2.2.2.2.2.2.2.1, zk hb1 hHeld.2.2.2.2.2.2.2.2.2⟩ (fun hHeld => ?_); clear hK K; refine zx (a' := ?_) ?_ ?_; rotate_left
 ·show Act.put _ (some 18) _ = _
  simp only [Act.put, sA, sB, sC, yb, yc]; rfl
 refine one_ (i := 3) (N := some 20) (bZ 6 15) rfl rfl (by kernel_rfl) (by decide) (fun K hK => ?_); refine goes_ Tryd.func5 (by kernel_rfl) rfl #[.agg #[.int .i64 y0, .int .i64 y1, .string y2, .slice B3 y3.length d3, .slice B4 y4.length d4]] (by rfl) rfl rfl (by simp only [List.map_toArray, List.map_cons, List.map_nil]; rfl) ?_
 with_reducible refine (CFy.out v1 HB1.out).mono ?_
 rintro e v2 ⟨H3_, H4_, rfl, hp2, hb2⟩; refine ⟨_, rfl, ?_⟩; obtain ⟨H3, i3, rfl⟩ := Kd.R_slice hp2.hk; obtain ⟨H4, i4, rfl⟩ := Kd.V_slice hp2.hv; have HP2 := aM hp2; have HB3 := aM (yp HB1.out hb2); have HD2 := aM hb2; have HX3 := aM ((hb2.block _ (Nat.lt_of_lt_of_le (yd HX2.out) HD1.out.size)).trans ((HD1.out.block _ (yd HX2.out)).trans HX2.out)); have HY3 := aM ((hb2.block _ (Nat.lt_of_lt_of_le (yd HY2.out) HD1.out.size)).trans ((HD1.out.block _ (yd HY2.out)).trans HY2.out)); clear hp2; refine hK.out _ _ ⟨zk hb2 hHeld.1, zk hb2 hHeld.2.1, zk hb2 hHeld.2.2.1, zk hb2 hHeld.2.2.2.1, zk hb2 hHeld.2.2.2.2.1, zk hb2 hHeld.2.2.2.2.2.1, zk hb2 hHeld.2.2.2.2.2.2.1, zk hb2 hHeld.2.2.2.2.2.2.2.1, zk hb2 hHeld.2.2.2.2.2.2.2.2.1, zk hb2 hHeld.2.2.2.2.2.2.2.2.2⟩ (fun hHeld => ?_); clear hK K; refine zx (a' := ?_) ?_ ?_; rotate_left
 ·show Act.put _ (some 20) _ = _
  simp only [Act.put, sA, sB, sC, yb, yc]; rfl
 refine xo (i := 4) (N := none) (bZ 6 31) rfl rfl (by kernel_rfl) (by decide) (fun K hK => ?_); refine store_row_step (w := v2) rfl rfl 25 (.tmp 2) (.tmp 18) rfl (w.heap.size) #[.int .i64 f0, .int .i64 f1, .string f2, .slice F3 f3.length e3, .slice F4 f4.length e4] rfl rfl 25 _ HX3.out val_size rfl (val_one _ _ _ _ _ _ _ _ _) ?_; refine hK.out _ _ ?_; clear hK K; refine xo (i := 5) (N := none) (bZ 6 63) rfl rfl (by kernel_rfl) (by decide) (fun K hK => ?_); have HY4 := aM (((yy v2 w.heap.size #[.int .i64 f0, .int .i64 f1, .string f2, .slice F3 f3.length e3, .slice F4 f4.length e4]).block _ (yd HY3.out) (fun e => by injection e with e; omega)).trans HY3.out); refine store_row_step (w := (v2.setRow w.heap.size #[.int .i64 f0, .int .i64 f1, .string f2, .slice F3 f3.length e3, .slice F4 f4.length e4])) rfl rfl 25 (.tmp 3) (.tmp 20) rfl (w.heap.size + 1) #[.int .i64 g0, .int .i64 g1, .string g2, .slice H3 g3.length i3, .slice H4 g4.length i4] rfl rfl 25 _ HY4.out val_size rfl (val_one _ _ _ _ _ _ _ _ _) ?_; refine hK.out _ _ ?_; clear hK K; refine xt (by kernel_rfl) ?_; have hgr1 := yy v2 w.heap.size #[.int .i64 f0, .int .i64 f1, .string f2, .slice F3 f3.length e3, .slice F4 f4.length e4]; have hgr2 := yy (v2.setRow w.heap.size #[.int .i64 f0, .int .i64 f1, .string f2, .slice F3 f3.length e3, .slice F4 f4.length e4]) (w.heap.size + 1) #[.int .i64 g0, .int .i64 g1, .string g2, .slice H3 g3.length i3, .slice H4 g4.length i4]
 have hkp : Kept v2 ((v2.setRow w.heap.size #[.int .i64 f0, .int .i64 f1, .string f2, .slice F3 f3.length e3, .slice F4 f4.length e4]).setRow (w.heap.size + 1) #[.int .i64 g0, .int .i64 g1, .string g2, .slice H3 g3.length i3, .slice H4 g4.length i4]) (fun k => k = w.heap.size ∨ k = w.heap.size + 1) := ⟨Nat.le_trans hgr1.size hgr2.size, fun i hi hn => (hgr2.block i (Nat.lt_of_lt_of_le hi hgr1.size) (fun e => hn (.inr (Option.some.inj e)))).trans (hgr1.block i hi (fun e => hn (.inl (Option.some.inj e))))⟩
 have hlow : ∀ k, (w2.drew.heap.size ≤ k ∧ k < v1.heap.size) ∨ (v1.heap.size ≤ k ∧ k < v2.heap.size) → ¬ (k = w.heap.size ∨ k = w.heap.size + 1) := fun k hk hh => by
  have e1 : w2.drew.heap.size = w2.heap.size := rfl; have := HS2.out; have := HD1.out.size
  omega
 have hpx5 : PVal (fun k => w2.drew.heap.size ≤ k ∧ k < v1.heap.size) w ((v2.setRow w.heap.size #[.int .i64 f0, .int .i64 f1, .string f2, .slice F3 f3.length e3, .slice F4 f4.length e4]).setRow (w.heap.size + 1) #[.int .i64 g0, .int .i64 g1, .string g2, .slice H3 g3.length i3, .slice H4 g4.length i4]) (.slice F3 f3.length e3) (.slice F4 f4.length e4) ⟨f0, f1, f2, f3, f4⟩ := (HP1.out.below HD2.out).other hkp (fun k hk => hlow k (.inl hk)); have hpy5 : PVal (fun k => v1.heap.size ≤ k ∧ k < v2.heap.size) w ((v2.setRow w.heap.size #[.int .i64 f0, .int .i64 f1, .string f2, .slice F3 f3.length e3, .slice F4 f4.length e4]).setRow (w.heap.size + 1) #[.int .i64 g0, .int .i64 g1, .string g2, .slice H3 g3.length i3, .slice H4 g4.length i4]) (.slice H3 g3.length i3) (.slice H4 g4.length i4) ⟨g0, g1, g2, g3, g4⟩ := HP2.out.other hkp (fun k hk => hlow k (.inr hk)); have hx5 : ((v2.setRow w.heap.size #[.int .i64 f0, .int .i64 f1, .string f2, .slice F3 f3.length e3, .slice F4 f4.length e4]).setRow (w.heap.size + 1) #[.int .i64 g0, .int .i64 g1, .string g2, .slice H3 g3.length i3, .slice H4 g4.length i4]).heap[w.heap.size]? = some (.cells #[.int .i64 f0, .int .i64 f1, .string f2, .slice F3 f3.length e3, .slice F4 f4.length e4] 25 (0, 0)) := (hgr2.block _ (yd (setRow_heap v2 w.heap.size _ #[.int .i64 f0, .int .i64 f1, .string f2, .slice F3 f3.length e3, .slice F4 f4.length e4] _ _ HX3.out)) (fun e => by injection e with e; omega)).trans (setRow_heap v2 w.heap.size _ #[.int .i64 f0, .int .i64 f1, .string f2, .slice F3 f3.length e3, .slice F4 f4.length e4] _ _ HX3.out); have hy5 : ((v2.setRow w.heap.size #[.int .i64 f0, .int .i64 f1, .string f2, .slice F3 f3.length e3, .slice F4 f4.length e4]).setRow (w.heap.size + 1) #[.int .i64 g0, .int .i64 g1, .string g2, .slice H3 g3.length i3, .slice H4 g4.length i4]).heap[w.heap.size + 1]? = some (.cells #[.int .i64 g0, .int .i64 g1, .string g2, .slice H3 g3.length i3, .slice H4 g4.length i4] 25 (0, 0)) := setRow_heap (v2.setRow w.heap.size #[.int .i64 f0, .int .i64 f1, .string f2, .slice F3 f3.length e3, .slice F4 f4.length e4]) (w.heap.size + 1) _ #[.int .i64 g0, .int .i64 g1, .string g2, .slice H3 g3.length i3, .slice H4 g4.length i4] _ _ HY4.out; have hb5 : Below w.heap.size w ((v2.setRow w.heap.size #[.int .i64 f0, .int .i64 f1, .string f2, .slice F3 f3.length e3, .slice F4 f4.length e4]).setRow (w.heap.size + 1) #[.int .i64 g0, .int .i64 g1, .string g2, .slice H3 g3.length i3, .slice H4 g4.length i4]) := yk (yk HB3.out (some w.heap.size) HB3.out.size hgr1 (fun k hk => by have := Option.some.inj hk; omega)) (some (w.heap.size + 1)) (Nat.le_trans HB3.out.size hgr1.size) hgr2 (fun k hk => by have := Option.some.inj hk; omega); have hsz5 : v2.heap.size ≤ ((v2.setRow w.heap.size #[.int .i64 f0, .int .i64 f1, .string f2, .slice F3 f3.length e3, .slice F4 f4.length e4]).setRow (w.heap.size + 1) #[.int .i64 g0, .int .i64 g1, .string g2, .slice H3 g3.length i3, .slice H4 g4.length i4]).heap.size := hkp.1; have HS5 := aM (show w.heap.size + 2 ≤ w2.drew.heap.size ∧ w2.drew.heap.size ≤ v1.heap.size ∧ v1.heap.size ≤ v2.heap.size from ⟨HS2.out, HD1.out.size, HD2.out.size⟩); clear hgr1 hgr2 hkp hlow hHeld q0 q1 q2 q3 q4 q5 q6 q7 q8 q9 HX2 HY2 HX3 HY3 HY4 HB1 HB2 HB3 HP1 HP2 HS2 HD1 HD2 CFx CFy hb1 hb2; generalize hW5 : (v2.setRow w.heap.size #[.int .i64 f0, .int .i64 f1, .string f2, .slice F3 f3.length e3, .slice F4 f4.length e4]).setRow (w.heap.size + 1) #[.int .i64 g0, .int .i64 g1, .string g2, .slice H3 g3.length i3, .slice H4 g4.length i4] = w5 at hpx5 hpy5 hx5 hy5 hb5 hsz5 ⊢; clear hW5; have HPX5 := aM hpx5; have HPY5 := aM hpy5; have HX5 := aM hx5; have HY5 := aM hy5; have HB5 := aM hb5; have HZ5 := aM hsz5; clear hpx5 hpy5 hy5 hb5 hsz5
 go_wp2_with (refine yx (.tmp 2) rfl rfl rfl hx5 ?_)
 refine (CPx.out _ w5 _ _ HB5.out HPX5.out (fun k hk => by have := HS5.out; have := HZ5.out; omega)).mono ?_; rintro e w6 ⟨b, rfl, hb6, hk6, hp6, hf6⟩
 have hno : ∀ k, some k = (Value.slice F3 f3.length e3).ownBlock → w2.drew.heap.size ≤ k ∧ k < v1.heap.size := fun k hk => (HPX5.out.hk.1 k hk.symm).2
 have hx6 := (hk6.2 _ (yd HX5.out) (fun h => by have := hno _ h; have := HS5.out; omega)).trans HX5.out; have hy6 := (hk6.2 _ (yd HY5.out) (fun h => by have := hno _ h; have := HS5.out; omega)).trans HY5.out; have HPX6 := aM hp6; have HPY6 := aM (HPY5.out.other hk6 (fun k hk h => by have := hno _ h; omega)); have HX6 := aM hx6; have HY6 := aM hy6; have HB6 := aM hb6; have HZ6 := aM (Nat.le_trans HZ5.out hk6.1); have HF6 := aM hf6; clear hb6 hk6 hp6 hf6 hno HPX5 HPY5 HX5 HY5 HB5 HZ5 hx5 CPx
 cases b
 ·clear hx6 hy6
  go_wp2
  go_ret
  exact ⟨rfl, HB6.out⟩
 obtain ⟨t, p, q, h, HQX_⟩ := PX.out (HF6.out (by first | rfl | trivial)); have HQX := aM HQX_; obtain ⟨q0, q1, q2, q3, q4⟩ := xh hy6; clear hx6 hy6 HQX_ HF6 PX
 go_wp2_with fail
 refine (CPy.out _ w6 _ _ HB6.out HPY6.out (fun k hk => by have := HZ6.out; omega)).mono ?_; rintro e w7 ⟨b, rfl, hb7, hk7, hp7, hf7⟩
 have hno : ∀ k, some k = (Value.slice H3 g3.length i3).ownBlock → v1.heap.size ≤ k ∧ k < v2.heap.size := fun k hk => (HPY6.out.hk.1 k hk.symm).2
 have hx7 := (hk7.2 _ (yd HX6.out) (fun h => by have := hno _ h; have := HS5.out; omega)).trans HX6.out; have hy7 := (hk7.2 _ (yd HY6.out) (fun h => by have := hno _ h; have := HS5.out; omega)).trans HY6.out; have HPY7 := aM hp7; have HPX7 := aM (HPX6.out.other hk7 (fun k hk h => by have := hno _ h; omega)); have HX7 := aM hx7; have HY7 := aM hy7; have HB7 := aM hb7; have HF7 := aM hf7; clear hb7 hk7 hp7 hf7 hno HPX6 HPY6 HX6 HY6 HB6 HZ6 CPy q0 q1 q2 q3 q4
 cases b
 ·clear hx7 hy7
  go_wp2
  go_ret
  exact ⟨rfl, HB7.out⟩
 obtain ⟨t', p', q', h', HQY_⟩ := PY.out (HF7.out (by first | rfl | trivial)); have HQY := aM HQY_; clear hy7 HQY_ HF7 PY
 go_wp2_with (refine yx (.tmp 2) rfl rfl rfl hx7 ?_)
 refine (CTx.out w7 F3 e3 F4 e4 (Kd.R_reads' HPX7.out.hk).2.2 (Kd.R_reads' HPX7.out.hk).2.1 (Kd.V_reads' HPX7.out.hv).2.2 (Kd.V_reads' HPX7.out.hv).2.1).mono ?_; rintro e w8 ⟨v3, v4, rfl, hr3, hr4, hb8⟩; obtain ⟨E3, j3, rfl⟩ := Kd.R_slice hr3; obtain ⟨E4, j4, rfl⟩ := Kd.R_slice hr4; have HB8 := aM (yp HB7.out hb8); have HPX8 := aM (HPX7.out.below hb8); have HPY8 := aM (HPY7.out.below hb8); have HX8 := aM ((hb8.block _ (yd HX7.out)).trans HX7.out); have HY8 := aM ((hb8.block _ (yd HY7.out)).trans HY7.out); have C8 := aM (CIx.out HQX.out rfl w8 (Kd.R_reads' hr3).2.1 (Kd.R_reads' hr3).2.2 (Kd.R_reads' hr4).2.1 (Kd.R_reads' hr4).2.2 (HT.out.below HB8.out)); clear hr3 hr4 hb8 HPX7 HPY7 HX7 HY7 HB7 hx7 CTx CIx HZX; generalize hT1 : portT h p t q = T1 at C8; have HT1 := aM hT1; clear hT1
 go_wp2_with fail
 refine C8.out.mono ?_; rintro e w9 ⟨rfl, hb9⟩; have HB9 := aM (yp HB8.out hb9); have HPX9 := aM (HPX8.out.below hb9); have HPY9 := aM (HPY8.out.below hb9); have HX9 := aM ((hb9.block _ (yd HX8.out)).trans HX8.out); have hy9 := (hb9.block _ (yd HY8.out)).trans HY8.out; have HY9 := aM hy9; clear hb9 HPX8 HPY8 HX8 HY8 HB8 C8
 go_wp2_with (refine yx (.tmp 3) rfl rfl rfl hy9 ?_)
 refine (CTy.out w9 H3 i3 H4 i4 (Kd.R_reads' HPY9.out.hk).2.2 (Kd.R_reads' HPY9.out.hk).2.1 (Kd.V_reads' HPY9.out.hv).2.2 (Kd.V_reads' HPY9.out.hv).2.1).mono ?_; rintro e w10 ⟨v3, v4, rfl, hr3, hr4, hb10⟩; obtain ⟨E5, j5, rfl⟩ := Kd.R_slice hr3; obtain ⟨E6, j6, rfl⟩ := Kd.R_slice hr4; have HB10 := aM (yp HB9.out hb10); have HPX10 := aM (HPX9.out.below hb10); have HPY10 := aM (HPY9.out.below hb10); have HX10 := aM ((hb10.block _ (yd HX9.out)).trans HX9.out); have HY10 := aM ((hb10.block _ (yd HY9.out)).trans HY9.out); have C10 := aM (CIy.out HQY.out rfl w10 (Kd.R_reads' hr3).2.1 (Kd.R_reads' hr3).2.2 (Kd.R_reads' hr4).2.1 (Kd.R_reads' hr4).2.2 (HT.out.below HB10.out)); clear hr3 hr4 hb10 HPX9 HPY9 HX9 HY9 HB9 hy9 CTy CIy HZY; generalize hT2 : portT h' p' t' q' = T2 at C10; have HT2 := aM hT2; clear hT2
 go_wp2_with fail
 refine C10.out.mono ?_; rintro e w11 ⟨rfl, hb11⟩; have HB11 := aM (yp HB10.out hb11); have HPX11 := aM (HPX10.out.below hb11); have HPY11 := aM (HPY10.out.below hb11); have hx11 := (hb11.block _ (yd HX10.out)).trans HX10.out; have hy11 := (hb11.block _ (yd HY10.out)).trans HY10.out; have C11 := aM (CSm.out HQX.out HQY.out HPX11.out HPY11.out); rw [HT1.out, HT2.out] at C11; obtain ⟨q0, q1, q2, q3, q4⟩ := xh hx11; obtain ⟨q5, q6, q7, q8, q9⟩ := xh hy11; clear hb11 HPX10 HPY10 HX10 HY10 HB10 C10 hx11 hy11 CSm HT1 HT2 HQX HQY HPX11 HPY11
 cases hr : (T1.toList == T2.toList)
 all_goals (
  rw [hr] at C11
  go_wp2_with fail
  refine C11.out.mono ?_; rintro e w12 ⟨rfl, hb12⟩; have HB12 := aM (yp HB11.out hb12); clear hb12 q0 q1 q2 q3 q4 q5 q6 q7 q8 q9
  go_wp2
  go_ret
  exact ⟨rfl, HB12.out⟩)
theorem lawPortRow (x : VS) (A3 A4 : Option Addr) (c3 c4 : Nat) (y : VS) (B3 B4 : Option Addr) (d3 d4 : Nat) (w : World) (l3 : x.f3.length ≤ c3) (hk : Kd.string.C w A3 x.f3.length x.f3) (l4 : x.f4.length ≤ c4) (hv : kS.C w A4 x.f4.length x.f4) (hx : SmallS x) (m3 : y.f3.length ≤ d3) (hk' : Kd.string.C w B3 y.f3.length y.f3) (m4 : y.f4.length ≤ d4) (hv' : kS.C w B4 y.f4.length y.f4) (hy : SmallS y) (hT : PTab w) :
  Calls Tryd.prog 3 #[.agg #[.int .i64 x.f0, .int .i64 x.f1, .string x.f2, .slice A3 x.f3.length c3, .slice A4 x.f4.length c4], .agg #[.int .i64 y.f0, .int .i64 y.f1, .string y.f2, .slice B3 y.f3.length d3, .slice B4 y.f4.length d4]] w fun e w' => e = .returned (.bool true) ∧ Below w.heap.size w w' := lawPort x y hx hy A3 A4 c3 c4 B3 B4 d3 d4 w l3 hk l4 hv m3 hk' m4 hv' hT
end Go.Proofs.YtceojjlpeacfgaaDoor.Tr
namespace Go.Proofs.YtceojjlpeacfgaaDoor.RowKit
open Go.RowKit Go.ChangeShapes Go.WideShapes Go.ChangeAt Go.Proofs.YtceojjlpeacfgaaDoorW.PrintWords Go.Proofs.YtceojjlpeacfgaaDoor.Str Go.Proofs.YtceojjlpeacfgaaDoor.Kit
theorem strs_arg {H : Type} {enc : TypeId × Value → H} {P : Program} {W : World} {base : Nat} {spare : Nat → Bool} {held : Bool} {t e : TypeId} {a : Option Addr} {len cap : Nat} {d : DataW H} {ps : List MemPlace}
  (ht : P.underlying t = some (.slice e)) (he : P.underlying e = some .string) (hc : P.cellsOf e = 1) (h : DataW.Trod enc P W base spare held t (.slice a len cap) d ps) :
  ∃ xs : List ByteArray, xs.length = len ∧ len ≤ cap ∧ Kd.string.C W a xs.length xs ∧ ((d = .nil ∧ xs = []) ∨ ∃ rest, d = .slice (strs xs) rest) := by
 obtain ⟨fuel, hf⟩ := h
 rcases open_strings ht he hc hf with ⟨hcs, hx⟩ | ⟨ad, l, c, ss, hcs, _, hl, hm, hss, hx, hcell, hws⟩
 ·simp [Value.cells] at hcs
  obtain ⟨rfl, rfl, rfl⟩ := hcs; simp only [Prod.mk.injEq] at hx; exact ⟨[], rfl, by omega, ⟨rfl, by simp, fun h => absurd h (by simp)⟩, .inl ⟨hx.1, rfl⟩⟩
 ·simp [Value.cells] at hcs
  obtain ⟨rfl, rfl, rfl⟩ := hcs; simp only [Prod.mk.injEq] at hx
  have hlen : len ≤ ss.length := by rw [hss]; split <;> omega
  have hl2 : (ss.take len).length = len := by rw [List.length_take]; omega
  refine ⟨ss.take len, hl2, hl, ⟨rfl, by unfold maxLen at hm; omega, fun _ => ⟨ad, rfl, fun j p hp => ?_⟩⟩, .inr ⟨_, hx.1⟩⟩; obtain ⟨hj, rfl⟩ := List.getElem?_eq_some_iff.1 hp; refine ⟨[.string (ss.take len)[j]], rfl, rfl, fun i u hu => ?_⟩; have hi : i < 1 := (List.getElem?_eq_some_iff.1 hu).1
  obtain rfl : i = 0 := by omega
  have hu' : Value.string (ss.take len)[j] = u := by simpa using hu
  subst hu'
  have : j * Kd.string.sz + 0 = j := by simp [Kd.string, Kd.scalar]
  rw [this, hcell j (by rw [hl2] at hj; omega)]; rw [hl2] at hj
  simp [List.getD_eq_getElem?_getD, List.getElem?_eq_getElem (show j < ss.length by omega)]
end Go.Proofs.YtceojjlpeacfgaaDoor.RowKit
namespace Go.Proofs.YtceojjlpeacfgaaDoor.PTabs
open Go.RowKit Go.Lib
set_option maxRecDepth 100000
theorem pow10_eq : (Rows.laid_internal_strconv_uint64pow10 : DataW Unit) = tabData .u64 Lib.pow10Tab := by kernel_rfl
theorem powers {W : World} (hL : laidMet Tryd.prog Rows.fnIndexPortRow.laid W) : Tr.PTab W := by
 have h2 : laidMet Tryd.prog [("internal/strconv.uint64pow10", Rows.laid_internal_strconv_uint64pow10)] W := laidMet.tail (laidMet.tail hL); rw [pow10_eq] at h2; exact Lib.tabIs_of_head (g := 0) (t := 93) (e := 83) (n := 20) (by kernel_rfl) (by kernel_rfl) (by kernel_rfl) (by kernel_rfl) (by kernel_rfl) (by kernel_rfl) h2
end Go.Proofs.YtceojjlpeacfgaaDoor.PTabs
namespace Go.Proofs.YtceojjlpeacfgaaDoor.RowKit
open Go.RowKit Go.ChangeShapes Go.WideShapes Go.ChangeAt Go.Proofs.YtceojjlpeacfgaaDoorW.PrintWords Go.Proofs.YtceojjlpeacfgaaDoorW.PrintLast Go.Proofs.YtceojjlpeacfgaaDoor.Str Go.Proofs.YtceojjlpeacfgaaDoor.Kit Go.Proofs.YtceojjlpeacfgaaDoor.PS Go.Proofs.YtceojjlpeacfgaaDoor.Tr
theorem addr_add (a : Addr) (i j : Nat) : (a.add i).add j = a.add (i + j) := by
 unfold Addr.add
 by_cases h : i = 0
 ·subst h; simp
 ·by_cases k : j = 0
  ·subst k; simp
  ·simp [h, k, Nat.add_assoc]
theorem agg_of {v : Value} {l : List Value} (h : v.cells.toList = l) (hl : 2 ≤ l.length) : v = .agg l.toArray := by
 cases v with
 | agg cs =>
  have : cs.toList = l := by simpa [Value.cells] using h
  rw [← this]
 | _ =>
  exfalso
  have := congrArg List.length h
  simp [Value.cells] at this
  omega
theorem weightsAll_in {H : Type} {P : Program} {e : TypeId} : ∀ {l : List (DataW H)} {d : DataW H}, d ∈ l → ∀ n ∈ d.weights P e, n ∈ DataW.weightsAll P e l
 | [], _, h, _, _ => by cases h
 | x :: r, d, h, n, hn => by
  simp only [DataW.weightsAll, List.mem_append]
  rcases List.mem_cons.1 h with rfl | h
  ·exact .inl hn
  ·exact .inr (weightsAll_in h n hn)
theorem row_of {α : Type} {R : Nat → α → Prop} : ∀ (len : Nat), (∀ i, i < len → ∃ p, R i p) → ∃ xs : List α, xs.length = len ∧ ∀ (i : Nat) (hi : i < xs.length), R i xs[i]
 | 0, _ => ⟨[], rfl, fun i hi => absurd hi (by simp)⟩
 | m + 1, each => by
  obtain ⟨xs, hx, hg⟩ := row_of m (fun i hi => each i (by omega)); obtain ⟨p, hp⟩ := each m (by omega); refine ⟨xs ++ [p], by simp [hx], fun i hi => ?_⟩
  by_cases h : i < xs.length
  ·rw [List.getElem_append_left h]; exact hg i h
  ·have : i = m := by simp at hi; omega
   subst this; subst hx
   simpa using hp
theorem list5 {α : Type} {cs : List α} (h : cs.length = 5) : ∃ a b c d e, cs = [a, b, c, d, e] := by
 match cs, h with
 | [a, b, c, d, e], _ => exact ⟨a, b, c, d, e, rfl⟩
section
variable {H : Type} {enc : TypeId × Value → H} {W : World} {base : Nat} {spare : Nat → Bool} {held : Bool}
theorem strs_small {d : DataW H} {ps : List MemPlace} {fuel : Nat} {v : Value} (hf : DataW.trod enc Tryd.prog W base spare held fuel 22 [v] = some (d, ps)) (hw : ∀ n ∈ d.weights Tryd.prog 22, n ≤ reachBytes) :
  ∃ A c xs, v = .slice A xs.length c ∧ xs.length ≤ c ∧ Kd.string.C W A xs.length xs ∧ (∀ s, s ∈ xs → s.size ≤ maxLen) ∧ xs.length ≤ 8796093022000 := by
 rcases DataW.trod_slice Tryd.underlying22 hf with ⟨hcs, hx⟩ | ⟨ad, l, c, elems, rest, n, _, hcs, hx, _, hl, hm, hlen, _, _, _⟩
 ·have hv : v = .slice none 0 0 := by simpa using hcs
  subst hv; exact ⟨none, 0, [], rfl, Nat.le_refl _, ⟨rfl, by simp, fun h => absurd h (by simp)⟩, (fun s h => absurd h (by simp)), by simp⟩
 ·have hv : v = .slice (some ad) l c := by simpa using hcs
  subst hv
  have hT : DataW.Trod enc Tryd.prog W base spare held 22 (.slice (some ad) l c) d ps := ⟨fuel, by simpa [Value.cells] using hf⟩
  obtain ⟨xs, hxl, hle, hC, hd⟩ := strs_arg Tryd.underlying22 Tryd.underlying9 (by kernel_rfl) hT; subst hxl; refine ⟨some ad, c, xs, rfl, hle, hC, fun s hs => ?_, ?_⟩
  ·rcases hd with ⟨_, rfl⟩ | ⟨rest, rfl⟩
   ·cases hs
   ·have h1 := hw s.data.toList.length (by
     simp only [DataW.weights, Tryd.underlying22, List.mem_cons, List.mem_append]; refine .inr (.inl (weightsAll_in (d := .lit (.string s.data.toList)) ?_ _ (by simp only [DataW.weights, List.mem_singleton])))
     unfold strs
     exact List.mem_map.2 ⟨s, hs, rfl⟩)
    have h2 : s.data.toList.length = s.size := by rw [Array.length_toList]; rfl
    unfold reachBytes at h1
    unfold maxLen
    omega
  ·rcases hd with ⟨_, rfl⟩ | ⟨rest, rfl⟩
   ·simp
   ·have h1 := hw _ (by
     simp only [DataW.weights, Tryd.underlying22, List.mem_cons]
     exact .inl rfl)
    have hb : Tryd.prog.bytesOf 9 = 16 := by kernel_rfl
    have h3 : (strs xs : List (DataW H)).length = xs.length := by simp [strs]
    rw [hb, h3] at h1
    unfold reachBytes at h1
    omega
theorem val_trod : ∀ (fuel : Nat) (cs : List Value) (d : DataW H) (ps : List MemPlace), DataW.trod enc Tryd.prog W base spare held fuel 25 cs = some (d, ps) → (∀ n ∈ d.weights Tryd.prog 25, n ≤ reachBytes) →
  ∃ x : VS, kS.K W x cs ∧ SmallS x := by
 intro fuel
 induction fuel using Nat.strongRecOn with
 | _ fuel ih =>
  intro cs d ps h hw; obtain ⟨xs, n, hfu, hx, hl, hxl, hf⟩ := DataW.trod_struct Tryd.underlying25 h
  have hc5 : Tryd.prog.cellsOf 25 = 5 := by kernel_rfl
  rw [hc5] at hl; obtain ⟨v0, v1, v2, v3, v4, rfl⟩ := list5 hl; simp only [Prod.mk.injEq] at hx; obtain ⟨rfl, _⟩ := hx; have hxl5 : xs.length = 5 := hxl; obtain ⟨y0, y1, y2, y3, y4, rfl⟩ := list5 hxl5
  have c1 : Tryd.prog.cellsOf 3 = 1 := by kernel_rfl
  have c2 : Tryd.prog.cellsOf 9 = 1 := by kernel_rfl
  have c3 : Tryd.prog.cellsOf 22 = 1 := by kernel_rfl
  have c4 : Tryd.prog.cellsOf 23 = 1 := by kernel_rfl
  have f0 : DataW.trod enc Tryd.prog W base spare held n 3 [v0] = some y0 := by
   have h_ : DataW.trod enc Tryd.prog W base spare held n 3 (([v0, v1, v2, v3, v4].drop 0).take (Tryd.prog.cellsOf 3)) = some y0 := hf 0 _ rfl; rw [c1] at h_; exact h_
  have f1 : DataW.trod enc Tryd.prog W base spare held n 3 [v1] = some y1 := by
   have h_ : DataW.trod enc Tryd.prog W base spare held n 3 (([v0, v1, v2, v3, v4].drop 1).take (Tryd.prog.cellsOf 3)) = some y1 := hf 1 _ rfl; rw [c1] at h_; exact h_
  have f2 : DataW.trod enc Tryd.prog W base spare held n 9 [v2] = some y2 := by
   have h_ : DataW.trod enc Tryd.prog W base spare held n 9 (([v0, v1, v2, v3, v4].drop 2).take (Tryd.prog.cellsOf 9)) = some y2 := hf 2 _ rfl; rw [c2] at h_; exact h_
  have f3 : DataW.trod enc Tryd.prog W base spare held n 22 [v3] = some y3 := by
   have h_ : DataW.trod enc Tryd.prog W base spare held n 22 (([v0, v1, v2, v3, v4].drop 3).take (Tryd.prog.cellsOf 22)) = some y3 := hf 3 _ rfl; rw [c3] at h_; exact h_
  have f4 : DataW.trod enc Tryd.prog W base spare held n 23 [v4] = some y4 := by
   have h_ : DataW.trod enc Tryd.prog W base spare held n 23 (([v0, v1, v2, v3, v4].drop 4).take (Tryd.prog.cellsOf 23)) = some y4 := hf 4 _ rfl; rw [c4] at h_; exact h_
  have hwE : ∀ (j : Nat) (t : TypeId) (e : DataW H), [3, 3, 9, 22, 23][j]? = some t → [y0.1, y1.1, y2.1, y3.1, y4.1][j]? = some e → ∀ m ∈ e.weights Tryd.prog t, m ≤ reachBytes := by
   intro j t e ht he m hm; refine hw m ?_; simp only [DataW.weights, Tryd.underlying25]; exact DataW.weights_mem_each (ts := [3, 3, 9, 22, 23]) ht he m hm
  obtain ⟨i0, e0, _, _⟩ := DataW.trod_int Tryd.underlying3 f0; obtain ⟨i1, e1, _, _⟩ := DataW.trod_int Tryd.underlying3 f1; obtain ⟨s2, e2, hx2, hs2⟩ := DataW.trod_string Tryd.underlying9 f2
  have e0' : v0 = .int .i64 i0 := by simpa using e0
  have e1' : v1 = .int .i64 i1 := by simpa using e1
  have e2' : v2 = .string s2 := by simpa using e2
  subst e0' e1' e2'
  have hsz2 : s2.size ≤ 140737488355328 := by
   have h1 := hwE 2 _ _ rfl rfl s2.data.toList.length (by
    rw [hx2]
    simp only [DataW.weights, List.mem_singleton])
   have h2 : s2.data.toList.length = s2.size := by rw [Array.length_toList]; rfl
   unfold reachBytes at h1
   omega
  obtain ⟨A3, cc3, ks, rfl, hk3, hC3, hks, hkl⟩ := strs_small (d := y3.1) (ps := y3.2) f3 (hwE 3 _ _ rfl rfl)
  have h4 : ∃ A4 cc4, ∃ vs : List VS, v4 = .slice A4 vs.length cc4 ∧ vs.length ≤ cc4 ∧ kS.C W A4 vs.length vs ∧ vs.length ≤ 1759218604400 ∧ ∀ v, v ∈ vs → SmallS v := by
   rcases DataW.trod_slice Tryd.underlying23 f4 with ⟨hcs, hx⟩ | ⟨ad, l, c, elems, rest, m, hfm, hcs, hx, _, hl4, hm4, hlen, hel, _, _⟩
   ·have hv : v4 = .slice none 0 0 := by simpa using hcs
    subst hv; exact ⟨none, 0, [], rfl, Nat.le_refl _, ⟨rfl, by simp, fun h => absurd h (by simp)⟩, by simp, (fun v h => absurd h (by simp))⟩
   ·have hv : v4 = .slice (some ad) l c := by simpa using hcs
    subst hv; have hw4 := hwE 4 _ _ rfl rfl; rw [hx] at hw4; simp only [DataW.weights, Tryd.underlying23, List.mem_cons, List.mem_append] at hw4
    have hb : Tryd.prog.bytesOf 25 = 80 := by kernel_rfl
    have hlb := hw4 _ (.inl rfl); rw [hb, List.length_map, List.length_map, hlen] at hlb
    have hlb2 : l ≤ 1759218604400 := by unfold reachBytes at hlb; omega
    have each : ∀ i, i < l → ∃ p : VS, (∃ c, c.length = 5 ∧ kS.K W p c ∧ ∀ j u, c[j]? = some u → W.cell? (ad.add (i * 5 + j)) = some u) ∧ SmallS p := by
     intro i hi; have h2 := hel i hi; rw [List.getElem?_eq_getElem (by omega), hc5, Option.bind_eq_some_iff] at h2; obtain ⟨cs, h3, h4⟩ := h2; obtain ⟨_, hcl, hcell⟩ := World.cells?_some h3; obtain ⟨p, hp, hps⟩ := ih m (by omega) cs (elems[i]'(by omega)).1 (elems[i]'(by omega)).2 h4 (fun q hq => hw4 q (.inr (.inl (weightsAll_in (List.mem_map.2 ⟨_, List.getElem_mem (by omega), rfl⟩) q hq)))); refine ⟨p, ⟨cs, hcl, hp, fun j u hu => ?_⟩, hps⟩
     have hj : j < 5 := by rw [← hcl]; exact (List.getElem?_eq_some_iff.1 hu).1
     rw [← addr_add, hcell j hj]; exact hu
    obtain ⟨vs, hvl, hvs⟩ := row_of l each; subst hvl; refine ⟨some ad, c, vs, rfl, hl4, ⟨rfl, by unfold maxLen at hm4; omega, fun _ => ⟨ad, rfl, fun j p hp => ?_⟩⟩, hlb2, fun v hv => ?_⟩
    ·obtain ⟨hj, rfl⟩ := List.getElem?_eq_some_iff.1 hp; exact (hvs j hj).1
    ·obtain ⟨i, hi, rfl⟩ := List.getElem_of_mem hv; exact (hvs i hi).2
  obtain ⟨A4, cc4, vs, rfl, hv4, hC4, hvl, hvs⟩ := h4; exact ⟨⟨i0, i1, s2, ks, vs⟩, k25_mk W ⟨i0, i1, s2, ks, vs⟩ hk3 hC3 hv4 hC4, .mk _ hsz2 hks hkl hvl hvs⟩
theorem val_arg {v : Value} {d : DataW H} {ps : List MemPlace} (h : DataW.Trod enc Tryd.prog W base spare held 25 v d ps) (hw : ∀ n ∈ d.weights Tryd.prog 25, n ≤ reachBytes) :
  ∃ (x : VS) (A3 A4 : Option Addr) (c3 c4 : Nat), v.cells.toList = [.int .i64 x.f0, .int .i64 x.f1, .string x.f2, .slice A3 x.f3.length c3, .slice A4 x.f4.length c4] ∧ x.f3.length ≤ c3 ∧ Kd.string.C W A3 x.f3.length x.f3 ∧ x.f4.length ≤ c4 ∧ kS.C W A4 x.f4.length x.f4 ∧ SmallS x := by
 obtain ⟨fuel, hf⟩ := h; obtain ⟨x, hx, hs⟩ := val_trod fuel _ d ps hf hw; obtain ⟨A3, c3, A4, c4, e, l3, g3, l4, g4⟩ := k25_open hx; exact ⟨x, A3, A4, c3, c4, e, l3, g3, l4, g4, hs⟩
end
end Go.Proofs.YtceojjlpeacfgaaDoor.RowKit
