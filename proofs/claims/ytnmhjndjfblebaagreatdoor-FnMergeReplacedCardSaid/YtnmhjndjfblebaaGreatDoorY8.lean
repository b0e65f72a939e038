/- Parts of the proof, laid vq: QSpecSame, PureSame, FromTo, ImplMergeAt, Ends, Gives, SpecMGA, M1, SaysRep, PortGet, QSpecSayWord, QSpecSayText, QSpecSayTexts, QSpecSayShell, HealthRep, QSpecSayNamed. -/
import Derived.Test.YtnmhjndjfblebaaGreatDoorY3
import Derived.Test.YtnmhjndjfblebaaGreatDoorY2
import Derived.Test.YtnmhjndjfblebaaGreatDoorY7
import Derived.Test.YtnmhjndjfblebaaGreatDoorY4
import Derived.Test.YtnmhjndjfblebaaGreatDoorY5
set_option linter.unusedVariables false
set_option linter.unusedSimpArgs false
namespace Go.Proofs.YtnmhjndjfblebaaGreatDoor.PS
open Go.RowKit Go.Proofs.YtnmhjndjfblebaaGreatDoorW.PrintWords Go.Proofs.YtnmhjndjfblebaaGreatDoorW.PrintLast Go.Proofs.YtnmhjndjfblebaaGreatDoorW.PrintMore
attribute [local go_sem] xl xj xv xu xe xd xk xi 
mutual
def spec_Same.j0 : Nat → Bool → Int → Int → ByteArray → List ByteArray → List (S25) → Int → Int → ByteArray → List ByteArray → List (S25) → Option (Bool)
 | 0, _, _, _, _, _, _, _, _, _, _, _ => none
 | k + 1,x43,x682000,x682001,x682002,x682003,x682004,x683000,x683001,x683002,x683003,x683004 => if x43 = true then (some false) else (spec_Same.l0 k 0 x682000 x682001 x682002 x682003 x682004 x683000 x683001 x683002 x683003 x683004)
def spec_Same.l0 : Nat → Int → Int → Int → ByteArray → List ByteArray → List (S25) → Int → Int → ByteArray → List ByteArray → List (S25) → Option (Bool)
 | 0, _, _, _, _, _, _, _, _, _, _, _ => none
 | k + 1,x5,x682000,x682001,x682002,x682003,x682004,x683000,x683001,x683002,x683003,x683004 => if x5 < (x682003.length : Int) then (if 0 ≤ x5 then (if x5 < (x683003.length : Int) then (if (rdOf ByteArray.empty x682003 x5).toList = (rdOf ByteArray.empty x683003 x5).toList then (spec_Same.l0 k (wrap64 (x5 + 1)) x682000 x682001 x682002 x682003 x682004 x683000 x683001 x683002 x683003 x683004) else (some false)) else (none)) else (none)) else (spec_Same.l1 k 0 x682000 x682001 x682002 x682003 x682004 x683000 x683001 x683002 x683003 x683004)
def spec_Same.l1 : Nat → Int → Int → Int → ByteArray → List ByteArray → List (S25) → Int → Int → ByteArray → List ByteArray → List (S25) → Option (Bool)
 | 0, _, _, _, _, _, _, _, _, _, _, _ => none
 | k + 1,x6,x682000,x682001,x682002,x682003,x682004,x683000,x683001,x683002,x683003,x683004 => if x6 < (x682004.length : Int) then (if 0 ≤ x6 then (if x6 < (x683004.length : Int) then ((spec_Same.f k ((rd_T25 x682004 x6).f0) ((rd_T25 x682004 x6).f1) ((rd_T25 x682004 x6).f2) ((rd_T25 x682004 x6).f3) ((rd_T25 x682004 x6).f4) ((rd_T25 x683004 x6).f0) ((rd_T25 x683004 x6).f1) ((rd_T25 x683004 x6).f2) ((rd_T25 x683004 x6).f3) ((rd_T25 x683004 x6).f4)).bind fun t687 => (if t687 = true then (spec_Same.l1 k (wrap64 (x6 + 1)) x682000 x682001 x682002 x682003 x682004 x683000 x683001 x683002 x683003 x683004) else (some false))) else (none)) else (none)) else (some true)
def spec_Same.f : Nat → Int → Int → ByteArray → List ByteArray → List (S25) → Int → Int → ByteArray → List ByteArray → List (S25) → Option (Bool)
 | 0, _, _, _, _, _, _, _, _, _, _ => none
 | k + 1,a0_0,a0_1,a0_2,l0_3,l0_4,a1_0,a1_1,a1_2,l1_3,l1_4 => if a0_0 = a1_0 then (if a0_1 = a1_1 then (if a0_2.toList = a1_2.toList then (if (l0_3.length : Int) = (l1_3.length : Int) then (spec_Same.j0 k ((l0_4.length : Int) != (l1_4.length : Int)) a0_0 a0_1 a0_2 l0_3 l0_4 a1_0 a1_1 a1_2 l1_3 l1_4) else (spec_Same.j0 k true a0_0 a0_1 a0_2 l0_3 l0_4 a1_0 a1_1 a1_2 l1_3 l1_4)) else (spec_Same.j0 k true a0_0 a0_1 a0_2 l0_3 l0_4 a1_0 a1_1 a1_2 l1_3 l1_4)) else (spec_Same.j0 k true a0_0 a0_1 a0_2 l0_3 l0_4 a1_0 a1_1 a1_2 l1_3 l1_4)) else (spec_Same.j0 k true a0_0 a0_1 a0_2 l0_3 l0_4 a1_0 a1_1 a1_2 l1_3 l1_4)
end
def spec_Same.T6 : Bool × List (List Nat × List Nat) := (true, [([], []),([0], [0]),([], []),([1,2], [1,2]),([3], [3]),([], []),([5], [5]),([], []),([6,7], [6,7]),([8], [8]),([4,9], [4,9])])
def spec_Same.B6 : List Nat := [0,1,0,7,15,0,32,0,224,480,1023]
theorem spec_Same.tab6 : rtab .any (opsOf Tryz.f10 6) = spec_Same.T6 := by kernel_rfl
theorem spec_Same.bits6 : waitsOk spec_Same.T6.2 spec_Same.B6 = true := by kernel_rfl
def spec_Same.T11 : Bool × List (List Nat × List Nat) := (true, [([], []),([0], [0]),([], []),([1,2], [1,2]),([3], [3]),([], []),([5], [5]),([], []),([6,7], [6,7]),([8], [8]),([4,9], [4,9]),([10], [10])])
def spec_Same.B11 : List Nat := [0,1,0,7,15,0,32,0,224,480,1023,2047]
theorem spec_Same.tab11 : rtab .any (opsOf Tryz.f10 11) = spec_Same.T11 := by kernel_rfl
theorem spec_Same.bits11 : waitsOk spec_Same.T11.2 spec_Same.B11 = true := by kernel_rfl
set_option maxHeartbeats 8000000 in
set_option maxRecDepth 100000 in
theorem spec_Same.calls (k : Nat) : ∀ (a0_0 : Int) (a0_1 : Int) (a0_2 : ByteArray) (A0_3 : Option Addr) (c0_3 : Nat) (l0_3 : List ByteArray) (A0_4 : Option Addr) (c0_4 : Nat) (l0_4 : List (S25)) (a1_0 : Int) (a1_1 : Int) (a1_2 : ByteArray) (A1_3 : Option Addr) (c1_3 : Nat) (l1_3 : List ByteArray) (A1_4 : Option Addr) (c1_4 : Nat) (l1_4 : List (S25)) (r : Bool) (w : World) (hr0_3 : Kd.C Kd.string w A0_3 l0_3.length l0_3) (hc0_3 : l0_3.length ≤ c0_3) (hr0_4 : Kd.C k25 w A0_4 l0_4.length l0_4) (hc0_4 : l0_4.length ≤ c0_4) (hr1_3 : Kd.C Kd.string w A1_3 l1_3.length l1_3) (hc1_3 : l1_3.length ≤ c1_3) (hr1_4 : Kd.C k25 w A1_4 l1_4.length l1_4) (hc1_4 : l1_4.length ≤ c1_4) (h : spec_Same.f k a0_0 a0_1 a0_2 l0_3 l0_4 a1_0 a1_1 a1_2 l1_3 l1_4 = some r),
  Calls Tryz.prog 10 #[.agg #[.int .i64 a0_0, .int .i64 a0_1, .string a0_2, .slice A0_3 l0_3.length c0_3, .slice A0_4 l0_4.length c0_4], .agg #[.int .i64 a1_0, .int .i64 a1_1, .string a1_2, .slice A1_3 l1_3.length c1_3, .slice A1_4 l1_4.length c1_4]] w fun e w' => e = .returned (.bool r) ∧ Below w.heap.size w w' := by
 induction k using Nat.strongRecOn with
 | _ k ih =>
 intro a0_0 a0_1 a0_2 A0_3 c0_3 l0_3 A0_4 c0_4 l0_4 a1_0 a1_1 a1_2 A1_3 c1_3 l1_3 A1_4 c1_4 l1_4 r w hr0_3 hc0_3 hr0_4 hc0_4 hr1_3 hc1_3 hr1_4 hc1_4 h
 cases k with
 | zero => exact absurd h (by simp [spec_Same.f])
 | succ k =>
 simp only [spec_Same.f] at h; have hu25 := Tryz.underlying25; have HR0_3 := aM hr0_3; have HC0_3 := aM hc0_3; clear hr0_3 hc0_3; have HR0_4 := aM hr0_4; have HC0_4 := aM hc0_4; clear hr0_4 hc0_4; have HR1_3 := aM hr1_3; have HC1_3 := aM hc1_3; clear hr1_3 hc1_3; have HR1_4 := aM hr1_4; have HC1_4 := aM hc1_4; clear hr1_4 hc1_4; have HB := aM (Below.refl w.heap.size w); have H : (if a0_0 = a1_0 then (if a0_1 = a1_1 then (if a0_2.toList = a1_2.toList then (if (l0_3.length : Int) = (l1_3.length : Int) then (spec_Same.j0 k ((l0_4.length : Int) != (l1_4.length : Int)) a0_0 a0_1 a0_2 l0_3 l0_4 a1_0 a1_1 a1_2 l1_3 l1_4) else (spec_Same.j0 k true a0_0 a0_1 a0_2 l0_3 l0_4 a1_0 a1_1 a1_2 l1_3 l1_4)) else (spec_Same.j0 k true a0_0 a0_1 a0_2 l0_3 l0_4 a1_0 a1_1 a1_2 l1_3 l1_4)) else (spec_Same.j0 k true a0_0 a0_1 a0_2 l0_3 l0_4 a1_0 a1_1 a1_2 l1_3 l1_4)) else (spec_Same.j0 k true a0_0 a0_1 a0_2 l0_3 l0_4 a1_0 a1_1 a1_2 l1_3 l1_4)) = some r := h; clear h; have HC3 := aM H; clear H
 go_enter Tryz.func10,Tryz.ntmps10
 go_upto_region 1 with (first | ((with_reducible refine yq (N := 2) rfl ?_); (try (refine yz (by rfl) ?_; dsimp only)); refine yp ?hg (N := 2) ?hd (cs := #[.int .i64 a0_0, .int .i64 a0_1, .string a0_2, .slice A0_3 l0_3.length c0_3, .slice A0_4 l0_4.length c0_4]) (t := 25) ?hr ?_; (case hd => rfl); (case hg => rfl); (case hr => first | (go_simp; done) | (go_simp; rfl)); intro gb681 hg w4 hbox hb; have n0_ := aM (zv (by repeat (first | (with_reducible first | exact HB.out | apply zb | apply zc | apply zl) | exact HB.out)) hb); have n1_ := aM (hbox); have n2_ := aM ((by rw [hg]; exact (zo (by repeat (first | (with_reducible first | exact HB.out | apply zb | apply zc | apply zl) | exact HB.out))) : w.heap.size ≤ gb681)); have n3_ := aM ((by rw [hg]; exact (zo (by repeat (first | (with_reducible first | exact HB.out | apply zb | apply zc | apply zl) | exact HB.out))) : w.heap.size ≤ gb681)); clear HB; have HB := n0_; have BK681 := n1_; have GW681 := n2_; have GE681 := n3_; clear n0_ n1_ n2_ n3_; clear hb hbox hg) | ((with_reducible refine yq (N := 3) rfl ?_); (try (refine yz (by rfl) ?_; dsimp only)); refine yp ?hg (N := 3) ?hd (cs := #[.int .i64 a1_0, .int .i64 a1_1, .string a1_2, .slice A1_3 l1_3.length c1_3, .slice A1_4 l1_4.length c1_4]) (t := 25) ?hr ?_; (case hd => rfl); (case hg => rfl); (case hr => first | (go_simp; done) | (go_simp; rfl)); intro gb682 hg w5 hbox hb; have n0_ := aM (ya (g := gb681) (o := .cells #[.int .i64 a0_0, .int .i64 a0_1, .string a0_2, .slice A0_3 l0_3.length c0_3, .slice A0_4 l0_4.length c0_4] 25 (0,0)) (by (with_reducible repeat (first | refine zg ?_ _ | refine zk ?_ | refine ze ?_ _)); exact BK681.out) hb); have n1_ := aM (zv (by repeat (first | (with_reducible first | exact HB.out | apply zb | apply zc | apply zl | refine zj ?_ GE681.out) | exact HB.out)) hb); have n2_ := aM (hbox); have n3_ := aM ((by rw [hg]; exact (zo (by repeat (first | (with_reducible first | exact HB.out | apply zb | apply zc | apply zl | refine zj ?_ GE681.out) | exact HB.out))) : w.heap.size ≤ gb682)); have n4_ := aM ((by rw [hg]; exact (zo (by repeat (first | (with_reducible first | exact HB.out | apply zb | apply zc | apply zl | refine zj ?_ GE681.out) | exact HB.out))) : w.heap.size ≤ gb682)); have n5_ := aM ((by rw [hg]; exact Nat.ne_of_lt (yt (g := gb681) (o := .cells #[.int .i64 a0_0, .int .i64 a0_1, .string a0_2, .slice A0_3 l0_3.length c0_3, .slice A0_4 l0_4.length c0_4] 25 (0,0)) (by (with_reducible repeat (first | refine zg ?_ _ | refine zk ?_ | refine ze ?_ _)); exact BK681.out)) : gb681 ≠ gb682)); have n6_ := aM ((by rw [hg]; exact Nat.ne_of_gt (yt (g := gb681) (o := .cells #[.int .i64 a0_0, .int .i64 a0_1, .string a0_2, .slice A0_3 l0_3.length c0_3, .slice A0_4 l0_4.length c0_4] 25 (0,0)) (by (with_reducible repeat (first | refine zg ?_ _ | refine zk ?_ | refine ze ?_ _)); exact BK681.out)) : gb682 ≠ gb681)); clear BK681; clear HB; have BK681 := n0_; have HB := n1_; have BK682 := n2_; have GW682 := n3_; have GE682 := n4_; have NB681_682 := n5_; have NB682_681 := n6_; clear n0_ n1_ n2_ n3_ n4_ n5_ n6_; clear hb hbox hg))
 (try simp only [Act.put,List.setIfInBounds_toArray,List.set_cons_zero,List.set_cons_succ])
 go_cut [43] (fun v43 wc => ∃ (kq : Nat) (x43_2 : Bool),v43 = .bool x43_2 ∧ Aside0 (spec_Same.j0 kq x43_2 a0_0 a0_1 a0_2 l0_3 l0_4 a1_0 a1_1 a1_2 l1_3 l1_4 = some r) ∧ Aside0 (kq ≤ k) ∧ Aside0 (wc.heap[gb681]? = some (.cells #[.int .i64 a0_0, .int .i64 a0_1, .string a0_2,(.slice A0_3 l0_3.length c0_3),(.slice A0_4 l0_4.length c0_4)] 25 (0,0))) ∧ Aside0 (wc.heap[gb682]? = some (.cells #[.int .i64 a1_0, .int .i64 a1_1, .string a1_2,(.slice A1_3 l1_3.length c1_3),(.slice A1_4 l1_4.length c1_4)] 25 (0,0))) ∧ Aside0 (Below w.heap.size w wc))
 case first =>
  have H := HC3.out; clear HC3
  by_cases c6 : a0_0 = a1_0
  ·rw [if_pos c6] at H; have c6b0 : (a0_0 == a1_0) = true := beq_iff_eq.mpr c6; have c6b1 : (a0_0 != a1_0) = false := bne_eq_false_iff_eq.mpr c6; clear c6
   (first | rw [c6b0] | (simp only [yf,yg]; rw [c6b0]) | skip)
   by_cases c7 : a0_1 = a1_1
   ·rw [if_pos c7] at H; have c7b0 : (a0_1 == a1_1) = true := beq_iff_eq.mpr c7; have c7b1 : (a0_1 != a1_1) = false := bne_eq_false_iff_eq.mpr c7; clear c7
    by_cases c8 : a0_2.toList = a1_2.toList
    ·rw [if_pos c8] at H; have c8b0 : (a0_2.toList == a1_2.toList) = true := beq_iff_eq.mpr c8; have c8b1 : (a0_2.toList != a1_2.toList) = false := bne_eq_false_iff_eq.mpr c8; clear c8
     by_cases c9 : (l0_3.length : Int) = (l1_3.length : Int)
     ·rw [if_pos c9] at H; have c9b0 : ((l0_3.length : Int) == (l1_3.length : Int)) = true := beq_iff_eq.mpr c9; have c9b1 : ((l0_3.length : Int) != (l1_3.length : Int)) = false := bne_eq_false_iff_eq.mpr c9
      have c9b2 : (l0_3.length == l1_3.length) = true := by first | simpa using c9 | (simp at c9 ⊢; omega)
      clear c9; have H' := aM H; clear H; have hnb10 := NB681_682.out; have hnc10 := NB682_681.out; have hcz11_0 : w5.cell? ⟨gb681,0,none⟩ = some (.int .i64 a0_0) := (za BK681.out 0).trans rfl; have hcz11_1 : w5.cell? ⟨gb681,1,none⟩ = some (.int .i64 a0_1) := (za BK681.out 1).trans rfl; have hcz11_2 : w5.cell? ⟨gb681,2,none⟩ = some (.string a0_2) := (za BK681.out 2).trans rfl; have hcz11_3 : w5.cell? ⟨gb681,3,none⟩ = some (.slice A0_3 l0_3.length c0_3) := (za BK681.out 3).trans rfl; have hcz11_4 : w5.cell? ⟨gb681,4,none⟩ = some (.slice A0_4 l0_4.length c0_4) := (za BK681.out 4).trans rfl; have hfz11_0 := zh BK681.out 0; have hfz11_1 := zh BK681.out 1; have hfz11_2 := zh BK681.out 2; have hfz11_3 := zh BK681.out 3; have hfz11_4 := zh BK681.out 4; have hcz12_0 : w5.cell? ⟨gb682,0,none⟩ = some (.int .i64 a1_0) := (za BK682.out 0).trans rfl; have hcz12_1 : w5.cell? ⟨gb682,1,none⟩ = some (.int .i64 a1_1) := (za BK682.out 1).trans rfl; have hcz12_2 : w5.cell? ⟨gb682,2,none⟩ = some (.string a1_2) := (za BK682.out 2).trans rfl; have hcz12_3 : w5.cell? ⟨gb682,3,none⟩ = some (.slice A1_3 l1_3.length c1_3) := (za BK682.out 3).trans rfl; have hcz12_4 : w5.cell? ⟨gb682,4,none⟩ = some (.slice A1_4 l1_4.length c1_4) := (za BK682.out 4).trans rfl; have hfz12_0 := zh BK682.out 0; have hfz12_1 := zh BK682.out 1; have hfz12_2 := zh BK682.out 2; have hfz12_3 := zh BK682.out 3; have hfz12_4 := zh BK682.out 4
      go_wp2
      go_meet
      case rel => exact ⟨_,(((l0_4.length : Int) != (l1_4.length : Int))),(by first | rfl | (simp; done) | (simp [*]; done)),H', ⟨by first | omega | exact Nat.le_refl _⟩,⟨by (with_reducible repeat (first | refine zg ?_ _ | refine zk ?_ | refine ze ?_ _)); exact BK681.out⟩,⟨by (with_reducible repeat (first | refine zg ?_ _ | refine zk ?_ | refine ze ?_ _)); exact BK682.out⟩,⟨by repeat (first | (with_reducible first | exact HB.out | apply zb | apply zc | apply zl | refine zj ?_ GE681.out | refine zj ?_ GE682.out) | exact HB.out)⟩⟩
     ·rw [if_neg c9] at H; have c9b0 : ((l0_3.length : Int) == (l1_3.length : Int)) = false := beq_eq_false_iff_ne.mpr c9; have c9b1 : ((l0_3.length : Int) != (l1_3.length : Int)) = true := bne_iff_ne.mpr c9
      have c9b2 : (l0_3.length == l1_3.length) = false := by first | simpa using c9 | (simp at c9 ⊢; omega)
      have H' := aM H; clear H; have hnb13 := NB681_682.out; have hnc13 := NB682_681.out; have hcz14_0 : w5.cell? ⟨gb681,0,none⟩ = some (.int .i64 a0_0) := (za BK681.out 0).trans rfl; have hcz14_1 : w5.cell? ⟨gb681,1,none⟩ = some (.int .i64 a0_1) := (za BK681.out 1).trans rfl; have hcz14_2 : w5.cell? ⟨gb681,2,none⟩ = some (.string a0_2) := (za BK681.out 2).trans rfl; have hcz14_3 : w5.cell? ⟨gb681,3,none⟩ = some (.slice A0_3 l0_3.length c0_3) := (za BK681.out 3).trans rfl; have hcz14_4 : w5.cell? ⟨gb681,4,none⟩ = some (.slice A0_4 l0_4.length c0_4) := (za BK681.out 4).trans rfl; have hfz14_0 := zh BK681.out 0; have hfz14_1 := zh BK681.out 1; have hfz14_2 := zh BK681.out 2; have hfz14_3 := zh BK681.out 3; have hfz14_4 := zh BK681.out 4; have hcz15_0 : w5.cell? ⟨gb682,0,none⟩ = some (.int .i64 a1_0) := (za BK682.out 0).trans rfl; have hcz15_1 : w5.cell? ⟨gb682,1,none⟩ = some (.int .i64 a1_1) := (za BK682.out 1).trans rfl; have hcz15_2 : w5.cell? ⟨gb682,2,none⟩ = some (.string a1_2) := (za BK682.out 2).trans rfl; have hcz15_3 : w5.cell? ⟨gb682,3,none⟩ = some (.slice A1_3 l1_3.length c1_3) := (za BK682.out 3).trans rfl; have hcz15_4 : w5.cell? ⟨gb682,4,none⟩ = some (.slice A1_4 l1_4.length c1_4) := (za BK682.out 4).trans rfl; have hfz15_0 := zh BK682.out 0; have hfz15_1 := zh BK682.out 1; have hfz15_2 := zh BK682.out 2; have hfz15_3 := zh BK682.out 3; have hfz15_4 := zh BK682.out 4
      go_wp2
      go_meet
      case rel => exact ⟨_,(true),(by first | rfl | (simp; done) | (simp [*]; done)),H', ⟨by first | omega | exact Nat.le_refl _⟩,⟨by (with_reducible repeat (first | refine zg ?_ _ | refine zk ?_ | refine ze ?_ _)); exact BK681.out⟩,⟨by (with_reducible repeat (first | refine zg ?_ _ | refine zk ?_ | refine ze ?_ _)); exact BK682.out⟩,⟨by repeat (first | (with_reducible first | exact HB.out | apply zb | apply zc | apply zl | refine zj ?_ GE681.out | refine zj ?_ GE682.out) | exact HB.out)⟩⟩
    ·rw [if_neg c8] at H; have c8b0 : (a0_2.toList == a1_2.toList) = false := beq_eq_false_iff_ne.mpr c8; have c8b1 : (a0_2.toList != a1_2.toList) = true := bne_iff_ne.mpr c8; have H' := aM H; clear H; have hnb16 := NB681_682.out; have hnc16 := NB682_681.out; have hcz17_0 : w5.cell? ⟨gb681,0,none⟩ = some (.int .i64 a0_0) := (za BK681.out 0).trans rfl; have hcz17_1 : w5.cell? ⟨gb681,1,none⟩ = some (.int .i64 a0_1) := (za BK681.out 1).trans rfl; have hcz17_2 : w5.cell? ⟨gb681,2,none⟩ = some (.string a0_2) := (za BK681.out 2).trans rfl; have hcz17_3 : w5.cell? ⟨gb681,3,none⟩ = some (.slice A0_3 l0_3.length c0_3) := (za BK681.out 3).trans rfl; have hcz17_4 : w5.cell? ⟨gb681,4,none⟩ = some (.slice A0_4 l0_4.length c0_4) := (za BK681.out 4).trans rfl; have hfz17_0 := zh BK681.out 0; have hfz17_1 := zh BK681.out 1; have hfz17_2 := zh BK681.out 2; have hfz17_3 := zh BK681.out 3; have hfz17_4 := zh BK681.out 4; have hcz18_0 : w5.cell? ⟨gb682,0,none⟩ = some (.int .i64 a1_0) := (za BK682.out 0).trans rfl; have hcz18_1 : w5.cell? ⟨gb682,1,none⟩ = some (.int .i64 a1_1) := (za BK682.out 1).trans rfl; have hcz18_2 : w5.cell? ⟨gb682,2,none⟩ = some (.string a1_2) := (za BK682.out 2).trans rfl; have hcz18_3 : w5.cell? ⟨gb682,3,none⟩ = some (.slice A1_3 l1_3.length c1_3) := (za BK682.out 3).trans rfl; have hcz18_4 : w5.cell? ⟨gb682,4,none⟩ = some (.slice A1_4 l1_4.length c1_4) := (za BK682.out 4).trans rfl; have hfz18_0 := zh BK682.out 0; have hfz18_1 := zh BK682.out 1; have hfz18_2 := zh BK682.out 2; have hfz18_3 := zh BK682.out 3; have hfz18_4 := zh BK682.out 4
     go_wp2
     go_meet
     case rel => exact ⟨_,(true),(by first | rfl | (simp; done) | (simp [*]; done)),H', ⟨by first | omega | exact Nat.le_refl _⟩,⟨by (with_reducible repeat (first | refine zg ?_ _ | refine zk ?_ | refine ze ?_ _)); exact BK681.out⟩,⟨by (with_reducible repeat (first | refine zg ?_ _ | refine zk ?_ | refine ze ?_ _)); exact BK682.out⟩,⟨by repeat (first | (with_reducible first | exact HB.out | apply zb | apply zc | apply zl | refine zj ?_ GE681.out | refine zj ?_ GE682.out) | exact HB.out)⟩⟩
   ·rw [if_neg c7] at H; have c7b0 : (a0_1 == a1_1) = false := beq_eq_false_iff_ne.mpr c7; have c7b1 : (a0_1 != a1_1) = true := bne_iff_ne.mpr c7; have H' := aM H; clear H; have hnb19 := NB681_682.out; have hnc19 := NB682_681.out; have hcz20_0 : w5.cell? ⟨gb681,0,none⟩ = some (.int .i64 a0_0) := (za BK681.out 0).trans rfl; have hcz20_1 : w5.cell? ⟨gb681,1,none⟩ = some (.int .i64 a0_1) := (za BK681.out 1).trans rfl; have hcz20_2 : w5.cell? ⟨gb681,2,none⟩ = some (.string a0_2) := (za BK681.out 2).trans rfl; have hcz20_3 : w5.cell? ⟨gb681,3,none⟩ = some (.slice A0_3 l0_3.length c0_3) := (za BK681.out 3).trans rfl; have hcz20_4 : w5.cell? ⟨gb681,4,none⟩ = some (.slice A0_4 l0_4.length c0_4) := (za BK681.out 4).trans rfl; have hfz20_0 := zh BK681.out 0; have hfz20_1 := zh BK681.out 1; have hfz20_2 := zh BK681.out 2; have hfz20_3 := zh BK681.out 3; have hfz20_4 := zh BK681.out 4; have hcz21_0 : w5.cell? ⟨gb682,0,none⟩ = some (.int .i64 a1_0) := (za BK682.out 0).trans rfl; have hcz21_1 : w5.cell? ⟨gb682,1,none⟩ = some (.int .i64 a1_1) := (za BK682.out 1).trans rfl; have hcz21_2 : w5.cell? ⟨gb682,2,none⟩ = some (.string a1_2) := (za BK682.out 2).trans rfl; have hcz21_3 : w5.cell? ⟨gb682,3,none⟩ = some (.slice A1_3 l1_3.length c1_3) := (za BK682.out 3).trans rfl; have hcz21_4 : w5.cell? ⟨gb682,4,none⟩ = some (.slice A1_4 l1_4.length c1_4) := (za BK682.out 4).trans rfl; have hfz21_0 := zh BK682.out 0; have hfz21_1 := zh BK682.out 1; have hfz21_2 := zh BK682.out 2; have hfz21_3 := zh BK682.out 3; have hfz21_4 := zh BK682.out 4
    go_wp2
    go_meet
    case rel => exact ⟨_,(true),(by first | rfl | (simp; done) | (simp [*]; done)),H', ⟨by first | omega | exact Nat.le_refl _⟩,⟨by (with_reducible repeat (first | refine zg ?_ _ | refine zk ?_ | refine ze ?_ _)); exact BK681.out⟩,⟨by (with_reducible repeat (first | refine zg ?_ _ | refine zk ?_ | refine ze ?_ _)); exact BK682.out⟩,⟨by repeat (first | (with_reducible first | exact HB.out | apply zb | apply zc | apply zl | refine zj ?_ GE681.out | refine zj ?_ GE682.out) | exact HB.out)⟩⟩
  ·rw [if_neg c6] at H; have c6b0 : (a0_0 == a1_0) = false := beq_eq_false_iff_ne.mpr c6; have c6b1 : (a0_0 != a1_0) = true := bne_iff_ne.mpr c6
   (first | rw [c6b0] | (simp only [yf,yg]; rw [c6b0]) | skip)
   have H' := aM H; clear H; have hnb22 := NB681_682.out; have hnc22 := NB682_681.out; have hcz23_0 : w5.cell? ⟨gb681,0,none⟩ = some (.int .i64 a0_0) := (za BK681.out 0).trans rfl; have hcz23_1 : w5.cell? ⟨gb681,1,none⟩ = some (.int .i64 a0_1) := (za BK681.out 1).trans rfl; have hcz23_2 : w5.cell? ⟨gb681,2,none⟩ = some (.string a0_2) := (za BK681.out 2).trans rfl; have hcz23_3 : w5.cell? ⟨gb681,3,none⟩ = some (.slice A0_3 l0_3.length c0_3) := (za BK681.out 3).trans rfl; have hcz23_4 : w5.cell? ⟨gb681,4,none⟩ = some (.slice A0_4 l0_4.length c0_4) := (za BK681.out 4).trans rfl; have hfz23_0 := zh BK681.out 0; have hfz23_1 := zh BK681.out 1; have hfz23_2 := zh BK681.out 2; have hfz23_3 := zh BK681.out 3; have hfz23_4 := zh BK681.out 4; have hcz24_0 : w5.cell? ⟨gb682,0,none⟩ = some (.int .i64 a1_0) := (za BK682.out 0).trans rfl; have hcz24_1 : w5.cell? ⟨gb682,1,none⟩ = some (.int .i64 a1_1) := (za BK682.out 1).trans rfl; have hcz24_2 : w5.cell? ⟨gb682,2,none⟩ = some (.string a1_2) := (za BK682.out 2).trans rfl; have hcz24_3 : w5.cell? ⟨gb682,3,none⟩ = some (.slice A1_3 l1_3.length c1_3) := (za BK682.out 3).trans rfl; have hcz24_4 : w5.cell? ⟨gb682,4,none⟩ = some (.slice A1_4 l1_4.length c1_4) := (za BK682.out 4).trans rfl; have hfz24_0 := zh BK682.out 0; have hfz24_1 := zh BK682.out 1; have hfz24_2 := zh BK682.out 2; have hfz24_3 := zh BK682.out 3; have hfz24_4 := zh BK682.out 4
   go_wp2
   go_meet
   case rel => exact ⟨_,(true),(by first | rfl | (simp; done) | (simp [*]; done)),H', ⟨by first | omega | exact Nat.le_refl _⟩,⟨by (with_reducible repeat (first | refine zg ?_ _ | refine zk ?_ | refine ze ?_ _)); exact BK681.out⟩,⟨by (with_reducible repeat (first | refine zg ?_ _ | refine zk ?_ | refine ze ?_ _)); exact BK682.out⟩,⟨by repeat (first | (with_reducible first | exact HB.out | apply zb | apply zc | apply zl | refine zj ?_ GE681.out | refine zj ?_ GE682.out) | exact HB.out)⟩⟩
 case rest =>
  clear HC3
  try clear c1
  try clear c2
  try clear p2
  try clear c6
  try clear c6b0
  try clear c6b1
  try clear c7
  try clear c7b0
  try clear c7b1
  try clear c8
  try clear c8b0
  try clear c8b1
  try clear c9
  try clear c9b0
  try clear c9b1
  try clear c9b2
  try clear c10
  try clear c13
  try clear c16
  try clear c19
  try clear c22
  try clear hcz11_0
  try clear hcz11_1
  try clear hcz11_2
  try clear hcz11_3
  try clear hcz11_4
  try clear hcz12_0
  try clear hcz12_1
  try clear hcz12_2
  try clear hcz12_3
  try clear hcz12_4
  try clear hcz14_0
  try clear hcz14_1
  try clear hcz14_2
  try clear hcz14_3
  try clear hcz14_4
  try clear hcz15_0
  try clear hcz15_1
  try clear hcz15_2
  try clear hcz15_3
  try clear hcz15_4
  try clear hcz17_0
  try clear hcz17_1
  try clear hcz17_2
  try clear hcz17_3
  try clear hcz17_4
  try clear hcz18_0
  try clear hcz18_1
  try clear hcz18_2
  try clear hcz18_3
  try clear hcz18_4
  try clear hcz20_0
  try clear hcz20_1
  try clear hcz20_2
  try clear hcz20_3
  try clear hcz20_4
  try clear hcz21_0
  try clear hcz21_1
  try clear hcz21_2
  try clear hcz21_3
  try clear hcz21_4
  try clear hcz23_0
  try clear hcz23_1
  try clear hcz23_2
  try clear hcz23_3
  try clear hcz23_4
  try clear hcz24_0
  try clear hcz24_1
  try clear hcz24_2
  try clear hcz24_3
  try clear hcz24_4
  try clear hfz11_0
  try clear hfz11_1
  try clear hfz11_2
  try clear hfz11_3
  try clear hfz11_4
  try clear hfz12_0
  try clear hfz12_1
  try clear hfz12_2
  try clear hfz12_3
  try clear hfz12_4
  try clear hfz14_0
  try clear hfz14_1
  try clear hfz14_2
  try clear hfz14_3
  try clear hfz14_4
  try clear hfz15_0
  try clear hfz15_1
  try clear hfz15_2
  try clear hfz15_3
  try clear hfz15_4
  try clear hfz17_0
  try clear hfz17_1
  try clear hfz17_2
  try clear hfz17_3
  try clear hfz17_4
  try clear hfz18_0
  try clear hfz18_1
  try clear hfz18_2
  try clear hfz18_3
  try clear hfz18_4
  try clear hfz20_0
  try clear hfz20_1
  try clear hfz20_2
  try clear hfz20_3
  try clear hfz20_4
  try clear hfz21_0
  try clear hfz21_1
  try clear hfz21_2
  try clear hfz21_3
  try clear hfz21_4
  try clear hfz23_0
  try clear hfz23_1
  try clear hfz23_2
  try clear hfz23_3
  try clear hfz23_4
  try clear hfz24_0
  try clear hfz24_1
  try clear hfz24_2
  try clear hfz24_3
  try clear hfz24_4
  obtain ⟨kq,x43_2,rfl,HA,HJ2,BK681,BK682,HB⟩ := hcut
  cases kq with
  | zero => exact absurd HA.out (by simp [spec_Same.j0])
  | succ kj2 =>
   have H := HA.out; clear HA; simp only [spec_Same.j0] at H
   by_cases c25 : x43_2 = true
   ·subst c25
    have H1 : (some false) = some r := by rw [if_pos rfl] at H; exact H
    clear H; have H := H1; clear H1; obtain rfl := Option.some.inj H
    go_wp2
    go_ret
    exact ⟨by first | rfl | (simp [zz,zw] <;> rfl) | (simp [*, zz,zw] <;> rfl),by repeat (first | (with_reducible first | exact HB.out | apply zb | apply zc | apply zl | refine zj ?_ GE681.out | refine zj ?_ GE682.out) | exact HB.out)⟩
   ·replace c25 := Bool.eq_false_iff.mpr c25; subst c25
    have H1 : (spec_Same.l0 kj2 0 a0_0 a0_1 a0_2 l0_3 l0_4 a1_0 a1_1 a1_2 l1_3 l1_4) = some r := by rw [if_neg (show ¬ (false = true) by decide)] at H; exact H
    clear H; have H := H1; clear H1; have H' := aM H; clear H
    go_wp2
    go_loopg [5] kj2 (fun kq v5 w' => ∃ (x5_2 : Int),v5 = .int .i64 x5_2 ∧ Aside0 (spec_Same.l0 kq x5_2 a0_0 a0_1 a0_2 l0_3 l0_4 a1_0 a1_1 a1_2 l1_3 l1_4 = some r) ∧ Aside0 (kq ≤ kj2) ∧ Aside0 (w'.heap[gb681]? = some (.cells #[.int .i64 a0_0, .int .i64 a0_1, .string a0_2,(.slice A0_3 l0_3.length c0_3),(.slice A0_4 l0_4.length c0_4)] 25 (0,0))) ∧ Aside0 (w'.heap[gb682]? = some (.cells #[.int .i64 a1_0, .int .i64 a1_1, .string a1_2,(.slice A1_3 l1_3.length c1_3),(.slice A1_4 l1_4.length c1_4)] 25 (0,0))) ∧ Aside0 (Below w.heap.size w w'))
    case atStart => exact ⟨(0),(by first | rfl | (simp; done) | (simp [*]; done)),H', ⟨Nat.le_refl _⟩,⟨by (with_reducible repeat (first | refine zg ?_ _ | refine zk ?_ | refine ze ?_ _)); exact BK681.out⟩,⟨by (with_reducible repeat (first | refine zg ?_ _ | refine zk ?_ | refine ze ?_ _)); exact BK682.out⟩,⟨by repeat (first | (with_reducible first | exact HB.out | apply zb | apply zc | apply zl | refine zj ?_ GE681.out | refine zj ?_ GE682.out) | exact HB.out)⟩⟩
    case round =>
     clear H'
     try clear c1
     try clear c2
     try clear p2
     try clear c6
     try clear c6b0
     try clear c6b1
     try clear c7
     try clear c7b0
     try clear c7b1
     try clear c8
     try clear c8b0
     try clear c8b1
     try clear c9
     try clear c9b0
     try clear c9b1
     try clear c9b2
     try clear c10
     try clear c13
     try clear c16
     try clear c19
     try clear c22
     try clear c25
     try clear hcz11_0
     try clear hcz11_1
     try clear hcz11_2
     try clear hcz11_3
     try clear hcz11_4
     try clear hcz12_0
     try clear hcz12_1
     try clear hcz12_2
     try clear hcz12_3
     try clear hcz12_4
     try clear hcz14_0
     try clear hcz14_1
     try clear hcz14_2
     try clear hcz14_3
     try clear hcz14_4
     try clear hcz15_0
     try clear hcz15_1
     try clear hcz15_2
     try clear hcz15_3
     try clear hcz15_4
     try clear hcz17_0
     try clear hcz17_1
     try clear hcz17_2
     try clear hcz17_3
     try clear hcz17_4
     try clear hcz18_0
     try clear hcz18_1
     try clear hcz18_2
     try clear hcz18_3
     try clear hcz18_4
     try clear hcz20_0
     try clear hcz20_1
     try clear hcz20_2
     try clear hcz20_3
     try clear hcz20_4
     try clear hcz21_0
     try clear hcz21_1
     try clear hcz21_2
     try clear hcz21_3
     try clear hcz21_4
     try clear hcz23_0
     try clear hcz23_1
     try clear hcz23_2
     try clear hcz23_3
     try clear hcz23_4
     try clear hcz24_0
     try clear hcz24_1
     try clear hcz24_2
     try clear hcz24_3
     try clear hcz24_4
     try clear hfz11_0
     try clear hfz11_1
     try clear hfz11_2
     try clear hfz11_3
     try clear hfz11_4
     try clear hfz12_0
     try clear hfz12_1
     try clear hfz12_2
     try clear hfz12_3
     try clear hfz12_4
     try clear hfz14_0
     try clear hfz14_1
     try clear hfz14_2
     try clear hfz14_3
     try clear hfz14_4
     try clear hfz15_0
     try clear hfz15_1
     try clear hfz15_2
     try clear hfz15_3
     try clear hfz15_4
     try clear hfz17_0
     try clear hfz17_1
     try clear hfz17_2
     try clear hfz17_3
     try clear hfz17_4
     try clear hfz18_0
     try clear hfz18_1
     try clear hfz18_2
     try clear hfz18_3
     try clear hfz18_4
     try clear hfz20_0
     try clear hfz20_1
     try clear hfz20_2
     try clear hfz20_3
     try clear hfz20_4
     try clear hfz21_0
     try clear hfz21_1
     try clear hfz21_2
     try clear hfz21_3
     try clear hfz21_4
     try clear hfz23_0
     try clear hfz23_1
     try clear hfz23_2
     try clear hfz23_3
     try clear hfz23_4
     try clear hfz24_0
     try clear hfz24_1
     try clear hfz24_2
     try clear hfz24_3
     try clear hfz24_4
     try clear p2
     obtain ⟨x5_2,rfl,HA,HK2,BK681,BK682,HB⟩ := hrel
     cases gk with
     | zero => exact absurd HA.out (by simp [spec_Same.l0])
     | succ k2 =>
      have H := HA.out; clear HA; simp only [spec_Same.l0] at H
      by_cases c26 : x5_2 < (l0_3.length : Int)
      ·rw [if_pos c26] at H; have c26b0 : decide (x5_2 < (l0_3.length : Int)) = true := decide_eq_true c26; clear c26
       by_cases c27 : 0 ≤ x5_2
       ·rw [if_pos c27] at H; have c27b0 : decide (0 ≤ x5_2) = true := decide_eq_true c27; clear c27
        by_cases c28 : x5_2 < (l1_3.length : Int)
        ·rw [if_pos c28] at H; have c28b0 : decide (x5_2 < (l1_3.length : Int)) = true := decide_eq_true c28; clear c28
         by_cases c29 : (rdOf ByteArray.empty l0_3 x5_2).toList = (rdOf ByteArray.empty l1_3 x5_2).toList
         ·rw [if_pos c29] at H; have c29b0 : ((rdOf ByteArray.empty l0_3 x5_2).toList == (rdOf ByteArray.empty l1_3 x5_2).toList) = true := beq_iff_eq.mpr c29; have c29b1 : ((rdOf ByteArray.empty l0_3 x5_2).toList != (rdOf ByteArray.empty l1_3 x5_2).toList) = false := bne_eq_false_iff_eq.mpr c29; clear c29; have H' := aM H; clear H; have hnb30 := NB681_682.out; have hnc30 := NB682_681.out; have hcz31_0 : wr.cell? ⟨gb681,0,none⟩ = some (.int .i64 a0_0) := (za BK681.out 0).trans rfl; have hcz31_1 : wr.cell? ⟨gb681,1,none⟩ = some (.int .i64 a0_1) := (za BK681.out 1).trans rfl; have hcz31_2 : wr.cell? ⟨gb681,2,none⟩ = some (.string a0_2) := (za BK681.out 2).trans rfl; have hcz31_3 : wr.cell? ⟨gb681,3,none⟩ = some (.slice A0_3 l0_3.length c0_3) := (za BK681.out 3).trans rfl; have hcz31_4 : wr.cell? ⟨gb681,4,none⟩ = some (.slice A0_4 l0_4.length c0_4) := (za BK681.out 4).trans rfl; have hfz31_0 := zh BK681.out 0; have hfz31_1 := zh BK681.out 1; have hfz31_2 := zh BK681.out 2; have hfz31_3 := zh BK681.out 3; have hfz31_4 := zh BK681.out 4
          try go_wp2
          have n0_ := aM (zk BK681.out); have n1_ := aM (zk BK682.out); have n2_ := aM (zl HB.out); clear BK681 BK682 HB; have BK681 := n0_; have BK682 := n1_; have HB := n2_; clear n0_ n1_ n2_; have p683 : 0 ≤ (x5_2 : Int) := of_decide_eq_true (by first | (with_reducible assumption) | assumption); have q683 : x5_2 < (l0_3.length : Int) := of_decide_eq_true (by first | (with_reducible assumption) | assumption); obtain ⟨ad683,e683,hx683_0⟩ := Kd.at_string HR0_3.out x5_2 p683 q683; have hw683_0 := hx683_0
          cases e683
          replace hx683_0 := (HB.out.cell (World.block_lt_of_cell? w _ hx683_0)).trans hx683_0; replace p683 := eq_true p683; replace q683 := eq_true q683; have p684 : 0 ≤ (x5_2 : Int) := of_decide_eq_true (by first | (with_reducible assumption) | assumption); have q684 : x5_2 < (l1_3.length : Int) := of_decide_eq_true (by first | (with_reducible assumption) | assumption); obtain ⟨ad684,e684,hx684_0⟩ := Kd.at_string HR1_3.out x5_2 p684 q684; have hw684_0 := hx684_0
          cases e684
          replace hx684_0 := (HB.out.cell (World.block_lt_of_cell? w _ hx684_0)).trans hx684_0; replace p684 := eq_true p684; replace q684 := eq_true q684; refine xm (n := 11) (S := fun w' => w'.cell? ⟨gb681,0,none⟩ = some (.int .i64 a0_0) ∧ w'.cell? ⟨gb681,1,none⟩ = some (.int .i64 a0_1) ∧ w'.cell? ⟨gb681,2,none⟩ = some (.string a0_2) ∧ w'.cell? ⟨gb681,3,none⟩ = some (.slice (some ad683) l0_3.length c0_3) ∧ w'.cell? ⟨gb681,4,none⟩ = some (.slice A0_4 l0_4.length c0_4) ∧ w'.cell? ⟨gb682,0,none⟩ = some (.int .i64 a1_0) ∧ w'.cell? ⟨gb682,1,none⟩ = some (.int .i64 a1_1) ∧ w'.cell? ⟨gb682,2,none⟩ = some (.string a1_2) ∧ w'.cell? ⟨gb682,3,none⟩ = some (.slice (some ad684) l1_3.length c1_3) ∧ w'.cell? ⟨gb682,4,none⟩ = some (.slice A1_4 l1_4.length c1_4) ∧ w'.cell? (ad683.add (x5_2).toNat) = some (.string (rdOf ByteArray.empty l0_3 x5_2)) ∧ w'.cell? (ad684.add (x5_2).toNat) = some (.string (rdOf ByteArray.empty l1_3 x5_2))) (ds := []) (bZ 11 0) (by kernel_rfl) rfl rfl ⟨(za BK681.out 0).trans rfl,(za BK681.out 1).trans rfl,(za BK681.out 2).trans rfl,(za BK681.out 3).trans rfl,(za BK681.out 4).trans rfl,(za BK682.out 0).trans rfl,(za BK682.out 1).trans rfl,(za BK682.out 2).trans rfl,(za BK682.out 3).trans rfl,(za BK682.out 4).trans rfl,((HB.out.cell (World.block_lt_of_cell? w _ hw683_0)).trans hw683_0),((HB.out.cell (World.block_lt_of_cell? w _ hw684_0)).trans hw684_0)⟩ (fun hHeld => ?_); refine vn spec_Same.tab6 spec_Same.bits6 (fun HT_ HW_ => ?_); generalize wr.drew = w32 at BK681 BK682 HB hx683_0 hx684_0 hHeld ⊢; refine pU 0 (some 51) (bZ 11 1) rfl (yn HT_.out (by kernel_rfl)) ?_; refine pU 2 (some 53) (bZ 11 5) rfl (yn HT_.out (by kernel_rfl)) ?_; refine pU 5 (some 56) (bZ 11 37) rfl (yn HT_.out (by kernel_rfl)) ?_; refine pU 7 (some 58) (bZ 11 165) rfl (yn HT_.out (by kernel_rfl)) ?_; refine tU 1 (some 52) (bZ 11 167) rfl (yr HT_.out HW_.out (by kernel_rfl)) (Or.inl ⟨by rfl,by rintro w' ⟨s0,s1,s2,s3,s4,s5,s6,s7,s8,s9,s10,s11⟩; go_simp; with_reducible rfl⟩) hHeld ?_; refine pU 3 (some 54) (bZ 11 175) rfl (yn HT_.out (by kernel_rfl)) ?_; refine tU 4 (some 55) (bZ 11 191) rfl (yr HT_.out HW_.out (by kernel_rfl)) (Or.inl ⟨by rfl,by rintro w' ⟨s0,s1,s2,s3,s4,s5,s6,s7,s8,s9,s10,s11⟩; go_simp; with_reducible rfl⟩) hHeld ?_; refine tU 6 (some 57) (bZ 11 255) rfl (yr HT_.out HW_.out (by kernel_rfl)) (Or.inl ⟨by rfl,by rintro w' ⟨s0,s1,s2,s3,s4,s5,s6,s7,s8,s9,s10,s11⟩; go_simp; with_reducible rfl⟩) hHeld ?_; refine pU 8 (some 59) (bZ 11 511) rfl (yn HT_.out (by kernel_rfl)) ?_; refine tU 9 (some 60) (bZ 11 1023) rfl (yr HT_.out HW_.out (by kernel_rfl)) (Or.inl ⟨by rfl,by rintro w' ⟨s0,s1,s2,s3,s4,s5,s6,s7,s8,s9,s10,s11⟩; go_simp; with_reducible rfl⟩) hHeld ?_; refine pU 10 (some 61) (bZ 11 2047) rfl (yn HT_.out (by kernel_rfl)) ?_; refine xy (done_of HT_.out (by kernel_rfl)) ?_
          try go_wp2
          go_roundg k2
          case measure => have := HJ2.out; have := HK2.out; omega
          case rel => exact ⟨(wrap64 (x5_2 + 1)),(by first | rfl | (simp; done) | (simp [*]; done)),H', ⟨by have := HJ2.out; have := HK2.out; omega⟩,⟨by (with_reducible repeat (first | refine zg ?_ _ | refine zk ?_ | refine ze ?_ _)); exact BK681.out⟩,⟨by (with_reducible repeat (first | refine zg ?_ _ | refine zk ?_ | refine ze ?_ _)); exact BK682.out⟩,⟨by repeat (first | (with_reducible first | exact HB.out | apply zb | apply zc | apply zl | refine zj ?_ GE681.out | refine zj ?_ GE682.out) | exact HB.out)⟩⟩
         ·rw [if_neg c29] at H; have c29b0 : ((rdOf ByteArray.empty l0_3 x5_2).toList == (rdOf ByteArray.empty l1_3 x5_2).toList) = false := beq_eq_false_iff_ne.mpr c29; have c29b1 : ((rdOf ByteArray.empty l0_3 x5_2).toList != (rdOf ByteArray.empty l1_3 x5_2).toList) = true := bne_iff_ne.mpr c29; obtain rfl := Option.some.inj H; have hnb33 := NB681_682.out; have hnc33 := NB682_681.out; have hcz34_0 : wr.cell? ⟨gb681,0,none⟩ = some (.int .i64 a0_0) := (za BK681.out 0).trans rfl; have hcz34_1 : wr.cell? ⟨gb681,1,none⟩ = some (.int .i64 a0_1) := (za BK681.out 1).trans rfl; have hcz34_2 : wr.cell? ⟨gb681,2,none⟩ = some (.string a0_2) := (za BK681.out 2).trans rfl; have hcz34_3 : wr.cell? ⟨gb681,3,none⟩ = some (.slice A0_3 l0_3.length c0_3) := (za BK681.out 3).trans rfl; have hcz34_4 : wr.cell? ⟨gb681,4,none⟩ = some (.slice A0_4 l0_4.length c0_4) := (za BK681.out 4).trans rfl; have hfz34_0 := zh BK681.out 0; have hfz34_1 := zh BK681.out 1; have hfz34_2 := zh BK681.out 2; have hfz34_3 := zh BK681.out 3; have hfz34_4 := zh BK681.out 4
          try go_wp2
          have n0_ := aM (zk BK681.out); have n1_ := aM (zk BK682.out); have n2_ := aM (zl HB.out); clear BK681 BK682 HB; have BK681 := n0_; have BK682 := n1_; have HB := n2_; clear n0_ n1_ n2_; have p683 : 0 ≤ (x5_2 : Int) := of_decide_eq_true (by first | (with_reducible assumption) | assumption); have q683 : x5_2 < (l0_3.length : Int) := of_decide_eq_true (by first | (with_reducible assumption) | assumption); obtain ⟨ad683,e683,hx683_0⟩ := Kd.at_string HR0_3.out x5_2 p683 q683; have hw683_0 := hx683_0
          cases e683
          replace hx683_0 := (HB.out.cell (World.block_lt_of_cell? w _ hx683_0)).trans hx683_0; replace p683 := eq_true p683; replace q683 := eq_true q683; have p684 : 0 ≤ (x5_2 : Int) := of_decide_eq_true (by first | (with_reducible assumption) | assumption); have q684 : x5_2 < (l1_3.length : Int) := of_decide_eq_true (by first | (with_reducible assumption) | assumption); obtain ⟨ad684,e684,hx684_0⟩ := Kd.at_string HR1_3.out x5_2 p684 q684; have hw684_0 := hx684_0
          cases e684
          replace hx684_0 := (HB.out.cell (World.block_lt_of_cell? w _ hx684_0)).trans hx684_0; replace p684 := eq_true p684; replace q684 := eq_true q684; refine xm (n := 11) (S := fun w' => w'.cell? ⟨gb681,0,none⟩ = some (.int .i64 a0_0) ∧ w'.cell? ⟨gb681,1,none⟩ = some (.int .i64 a0_1) ∧ w'.cell? ⟨gb681,2,none⟩ = some (.string a0_2) ∧ w'.cell? ⟨gb681,3,none⟩ = some (.slice (some ad683) l0_3.length c0_3) ∧ w'.cell? ⟨gb681,4,none⟩ = some (.slice A0_4 l0_4.length c0_4) ∧ w'.cell? ⟨gb682,0,none⟩ = some (.int .i64 a1_0) ∧ w'.cell? ⟨gb682,1,none⟩ = some (.int .i64 a1_1) ∧ w'.cell? ⟨gb682,2,none⟩ = some (.string a1_2) ∧ w'.cell? ⟨gb682,3,none⟩ = some (.slice (some ad684) l1_3.length c1_3) ∧ w'.cell? ⟨gb682,4,none⟩ = some (.slice A1_4 l1_4.length c1_4) ∧ w'.cell? (ad683.add (x5_2).toNat) = some (.string (rdOf ByteArray.empty l0_3 x5_2)) ∧ w'.cell? (ad684.add (x5_2).toNat) = some (.string (rdOf ByteArray.empty l1_3 x5_2))) (ds := []) (bZ 11 0) (by kernel_rfl) rfl rfl ⟨(za BK681.out 0).trans rfl,(za BK681.out 1).trans rfl,(za BK681.out 2).trans rfl,(za BK681.out 3).trans rfl,(za BK681.out 4).trans rfl,(za BK682.out 0).trans rfl,(za BK682.out 1).trans rfl,(za BK682.out 2).trans rfl,(za BK682.out 3).trans rfl,(za BK682.out 4).trans rfl,((HB.out.cell (World.block_lt_of_cell? w _ hw683_0)).trans hw683_0),((HB.out.cell (World.block_lt_of_cell? w _ hw684_0)).trans hw684_0)⟩ (fun hHeld => ?_); refine vn spec_Same.tab6 spec_Same.bits6 (fun HT_ HW_ => ?_); generalize wr.drew = w35 at BK681 BK682 HB hx683_0 hx684_0 hHeld ⊢; refine pU 0 (some 51) (bZ 11 1) rfl (yn HT_.out (by kernel_rfl)) ?_; refine pU 2 (some 53) (bZ 11 5) rfl (yn HT_.out (by kernel_rfl)) ?_; refine pU 5 (some 56) (bZ 11 37) rfl (yn HT_.out (by kernel_rfl)) ?_; refine pU 7 (some 58) (bZ 11 165) rfl (yn HT_.out (by kernel_rfl)) ?_; refine tU 1 (some 52) (bZ 11 167) rfl (yr HT_.out HW_.out (by kernel_rfl)) (Or.inl ⟨by rfl,by rintro w' ⟨s0,s1,s2,s3,s4,s5,s6,s7,s8,s9,s10,s11⟩; go_simp; with_reducible rfl⟩) hHeld ?_; refine pU 3 (some 54) (bZ 11 175) rfl (yn HT_.out (by kernel_rfl)) ?_; refine tU 4 (some 55) (bZ 11 191) rfl (yr HT_.out HW_.out (by kernel_rfl)) (Or.inl ⟨by rfl,by rintro w' ⟨s0,s1,s2,s3,s4,s5,s6,s7,s8,s9,s10,s11⟩; go_simp; with_reducible rfl⟩) hHeld ?_; refine tU 6 (some 57) (bZ 11 255) rfl (yr HT_.out HW_.out (by kernel_rfl)) (Or.inl ⟨by rfl,by rintro w' ⟨s0,s1,s2,s3,s4,s5,s6,s7,s8,s9,s10,s11⟩; go_simp; with_reducible rfl⟩) hHeld ?_; refine pU 8 (some 59) (bZ 11 511) rfl (yn HT_.out (by kernel_rfl)) ?_; refine tU 9 (some 60) (bZ 11 1023) rfl (yr HT_.out HW_.out (by kernel_rfl)) (Or.inl ⟨by rfl,by rintro w' ⟨s0,s1,s2,s3,s4,s5,s6,s7,s8,s9,s10,s11⟩; go_simp; with_reducible rfl⟩) hHeld ?_; refine pU 10 (some 61) (bZ 11 2047) rfl (yn HT_.out (by kernel_rfl)) ?_; refine xy (done_of HT_.out (by kernel_rfl)) ?_
          try go_wp2
          go_ret
          exact ⟨by first | rfl | (simp [zz,zw] <;> rfl) | (simp [*, zz,zw] <;> rfl),by repeat (first | (with_reducible first | exact HB.out | apply zb | apply zc | apply zl | refine zj ?_ GE681.out | refine zj ?_ GE682.out) | exact HB.out)⟩
        ·rw [if_neg c28] at H; exact absurd H (by simp)
       ·rw [if_neg c27] at H; exact absurd H (by simp)
      ·rw [if_neg c26] at H; have c26b0 : decide (x5_2 < (l0_3.length : Int)) = false := decide_eq_false c26; clear c26; have H' := aM H; clear H; have hnb36 := NB681_682.out; have hnc36 := NB682_681.out; have hcz37_0 : wr.cell? ⟨gb681,0,none⟩ = some (.int .i64 a0_0) := (za BK681.out 0).trans rfl; have hcz37_1 : wr.cell? ⟨gb681,1,none⟩ = some (.int .i64 a0_1) := (za BK681.out 1).trans rfl; have hcz37_2 : wr.cell? ⟨gb681,2,none⟩ = some (.string a0_2) := (za BK681.out 2).trans rfl; have hcz37_3 : wr.cell? ⟨gb681,3,none⟩ = some (.slice A0_3 l0_3.length c0_3) := (za BK681.out 3).trans rfl; have hcz37_4 : wr.cell? ⟨gb681,4,none⟩ = some (.slice A0_4 l0_4.length c0_4) := (za BK681.out 4).trans rfl; have hfz37_0 := zh BK681.out 0; have hfz37_1 := zh BK681.out 1; have hfz37_2 := zh BK681.out 2; have hfz37_3 := zh BK681.out 3; have hfz37_4 := zh BK681.out 4
       go_wp2
       go_loopg [6] k2 (fun kq v6 w' => ∃ (x6_3 : Int),v6 = .int .i64 x6_3 ∧ Aside0 (spec_Same.l1 kq x6_3 a0_0 a0_1 a0_2 l0_3 l0_4 a1_0 a1_1 a1_2 l1_3 l1_4 = some r) ∧ Aside0 (kq ≤ k2) ∧ Aside0 (w'.heap[gb681]? = some (.cells #[.int .i64 a0_0, .int .i64 a0_1, .string a0_2,(.slice A0_3 l0_3.length c0_3),(.slice A0_4 l0_4.length c0_4)] 25 (0,0))) ∧ Aside0 (w'.heap[gb682]? = some (.cells #[.int .i64 a1_0, .int .i64 a1_1, .string a1_2,(.slice A1_3 l1_3.length c1_3),(.slice A1_4 l1_4.length c1_4)] 25 (0,0))) ∧ Aside0 (Below w.heap.size w w'))
       case atStart => exact ⟨(0),(by first | rfl | (simp; done) | (simp [*]; done)),H', ⟨Nat.le_refl _⟩,⟨by (with_reducible repeat (first | refine zg ?_ _ | refine zk ?_ | refine ze ?_ _)); exact BK681.out⟩,⟨by (with_reducible repeat (first | refine zg ?_ _ | refine zk ?_ | refine ze ?_ _)); exact BK682.out⟩,⟨by repeat (first | (with_reducible first | exact HB.out | apply zb | apply zc | apply zl | refine zj ?_ GE681.out | refine zj ?_ GE682.out) | exact HB.out)⟩⟩
       case round =>
        clear H'
        try clear c1
        try clear c2
        try clear p2
        try clear c3
        try clear c6
        try clear c6b0
        try clear c6b1
        try clear p6
        try clear q6
        try clear hx6
        try clear c7
        try clear c7b0
        try clear c7b1
        try clear c8
        try clear c8b0
        try clear c8b1
        try clear c9
        try clear c9b0
        try clear c9b1
        try clear c9b2
        try clear c10
        try clear c13
        try clear c16
        try clear c19
        try clear c22
        try clear c25
        try clear c26
        try clear c26b0
        try clear c27
        try clear c27b0
        try clear c28
        try clear c28b0
        try clear c29
        try clear c29b0
        try clear c29b1
        try clear c30
        try clear c33
        try clear c36
        try clear hcz11_0
        try clear hcz11_1
        try clear hcz11_2
        try clear hcz11_3
        try clear hcz11_4
        try clear hcz12_0
        try clear hcz12_1
        try clear hcz12_2
        try clear hcz12_3
        try clear hcz12_4
        try clear hcz14_0
        try clear hcz14_1
        try clear hcz14_2
        try clear hcz14_3
        try clear hcz14_4
        try clear hcz15_0
        try clear hcz15_1
        try clear hcz15_2
        try clear hcz15_3
        try clear hcz15_4
        try clear hcz17_0
        try clear hcz17_1
        try clear hcz17_2
        try clear hcz17_3
        try clear hcz17_4
        try clear hcz18_0
        try clear hcz18_1
        try clear hcz18_2
        try clear hcz18_3
        try clear hcz18_4
        try clear hcz20_0
        try clear hcz20_1
        try clear hcz20_2
        try clear hcz20_3
        try clear hcz20_4
        try clear hcz21_0
        try clear hcz21_1
        try clear hcz21_2
        try clear hcz21_3
        try clear hcz21_4
        try clear hcz23_0
        try clear hcz23_1
        try clear hcz23_2
        try clear hcz23_3
        try clear hcz23_4
        try clear hcz24_0
        try clear hcz24_1
        try clear hcz24_2
        try clear hcz24_3
        try clear hcz24_4
        try clear hcz31_0
        try clear hcz31_1
        try clear hcz31_2
        try clear hcz31_3
        try clear hcz31_4
        try clear hcz34_0
        try clear hcz34_1
        try clear hcz34_2
        try clear hcz34_3
        try clear hcz34_4
        try clear hcz37_0
        try clear hcz37_1
        try clear hcz37_2
        try clear hcz37_3
        try clear hcz37_4
        try clear hfz11_0
        try clear hfz11_1
        try clear hfz11_2
        try clear hfz11_3
        try clear hfz11_4
        try clear hfz12_0
        try clear hfz12_1
        try clear hfz12_2
        try clear hfz12_3
        try clear hfz12_4
        try clear hfz14_0
        try clear hfz14_1
        try clear hfz14_2
        try clear hfz14_3
        try clear hfz14_4
        try clear hfz15_0
        try clear hfz15_1
        try clear hfz15_2
        try clear hfz15_3
        try clear hfz15_4
        try clear hfz17_0
        try clear hfz17_1
        try clear hfz17_2
        try clear hfz17_3
        try clear hfz17_4
        try clear hfz18_0
        try clear hfz18_1
        try clear hfz18_2
        try clear hfz18_3
        try clear hfz18_4
        try clear hfz20_0
        try clear hfz20_1
        try clear hfz20_2
        try clear hfz20_3
        try clear hfz20_4
        try clear hfz21_0
        try clear hfz21_1
        try clear hfz21_2
        try clear hfz21_3
        try clear hfz21_4
        try clear hfz23_0
        try clear hfz23_1
        try clear hfz23_2
        try clear hfz23_3
        try clear hfz23_4
        try clear hfz24_0
        try clear hfz24_1
        try clear hfz24_2
        try clear hfz24_3
        try clear hfz24_4
        try clear hfz31_0
        try clear hfz31_1
        try clear hfz31_2
        try clear hfz31_3
        try clear hfz31_4
        try clear hfz34_0
        try clear hfz34_1
        try clear hfz34_2
        try clear hfz34_3
        try clear hfz34_4
        try clear hfz37_0
        try clear hfz37_1
        try clear hfz37_2
        try clear hfz37_3
        try clear hfz37_4
        try clear hx683_0
        try clear hx684_0
        try clear p2
        try clear p683
        try clear p684
        try clear q683
        try clear q684
        obtain ⟨x6_3,rfl,HA,HK3,BK681,BK682,HB⟩ := hrel
        cases gk with
        | zero => exact absurd HA.out (by simp [spec_Same.l1])
        | succ k3 =>
         have H := HA.out; clear HA; simp only [spec_Same.l1] at H
         by_cases c38 : x6_3 < (l0_4.length : Int)
         ·rw [if_pos c38] at H; have c38b0 : decide (x6_3 < (l0_4.length : Int)) = true := decide_eq_true c38; clear c38
          by_cases c39 : 0 ≤ x6_3
          ·rw [if_pos c39] at H; have c39b0 : decide (0 ≤ x6_3) = true := decide_eq_true c39; clear c39
           by_cases c40 : x6_3 < (l1_4.length : Int)
           ·rw [if_pos c40] at H; have c40b0 : decide (x6_3 < (l1_4.length : Int)) = true := decide_eq_true c40; clear c40; replace H := Option.bind_eq_some_iff.mp H; obtain ⟨t687,A410,H⟩ := H; replace H : (if t687 = true then (spec_Same.l1 k3 (wrap64 (x6_3 + 1)) a0_0 a0_1 a0_2 l0_3 l0_4 a1_0 a1_1 a1_2 l1_3 l1_4) else (some false)) = some r := H; have A41 := aM A410; clear A410
            by_cases c42 : t687 = true
            ·subst c42
             have H1 : (spec_Same.l1 k3 (wrap64 (x6_3 + 1)) a0_0 a0_1 a0_2 l0_3 l0_4 a1_0 a1_1 a1_2 l1_3 l1_4) = some r := by rw [if_pos rfl] at H; exact H
             clear H; have H := H1; clear H1; have H' := aM H; clear H; have hnb43 := NB681_682.out; have hnc43 := NB682_681.out; have hcz44_0 : wr.cell? ⟨gb681,0,none⟩ = some (.int .i64 a0_0) := (za BK681.out 0).trans rfl; have hcz44_1 : wr.cell? ⟨gb681,1,none⟩ = some (.int .i64 a0_1) := (za BK681.out 1).trans rfl; have hcz44_2 : wr.cell? ⟨gb681,2,none⟩ = some (.string a0_2) := (za BK681.out 2).trans rfl; have hcz44_3 : wr.cell? ⟨gb681,3,none⟩ = some (.slice A0_3 l0_3.length c0_3) := (za BK681.out 3).trans rfl; have hcz44_4 : wr.cell? ⟨gb681,4,none⟩ = some (.slice A0_4 l0_4.length c0_4) := (za BK681.out 4).trans rfl; have hfz44_0 := zh BK681.out 0; have hfz44_1 := zh BK681.out 1; have hfz44_2 := zh BK681.out 2; have hfz44_3 := zh BK681.out 3; have hfz44_4 := zh BK681.out 4
             try go_wp2
             have n0_ := aM (zk BK681.out); have n1_ := aM (zk BK682.out); have n2_ := aM (zl HB.out); clear BK681 BK682 HB; have BK681 := n0_; have BK682 := n1_; have HB := n2_; clear n0_ n1_ n2_; have p685 : 0 ≤ (x6_3 : Int) := of_decide_eq_true (by first | (with_reducible assumption) | assumption); have q685 : x6_3 < (l0_4.length : Int) := of_decide_eq_true (by first | (with_reducible assumption) | assumption); obtain ⟨ad685,A685_3,c685_3,A685_4,c685_4,e685,hx685_0,hx685_1,hx685_2,hx685_3,hx685_4,hl685_3,hi685_3,hl685_4,hi685_4⟩ := at_T25 HR0_4.out x6_3 p685 q685; have hw685_4 := hx685_4; have hw685_3 := hx685_3; have hw685_2 := hx685_2; have hw685_1 := hx685_1; have hw685_0 := hx685_0
             cases e685
             replace hx685_0 := (HB.out.cell (World.block_lt_of_cell? w _ hx685_0)).trans hx685_0; replace hx685_1 := (HB.out.cell (World.block_lt_of_cell? w _ hx685_1)).trans hx685_1; replace hx685_2 := (HB.out.cell (World.block_lt_of_cell? w _ hx685_2)).trans hx685_2; replace hx685_3 := (HB.out.cell (World.block_lt_of_cell? w _ hx685_3)).trans hx685_3; replace hx685_4 := (HB.out.cell (World.block_lt_of_cell? w _ hx685_4)).trans hx685_4; have HR685_3 := aM hi685_3; have HC685_3 := aM hl685_3; clear hi685_3 hl685_3; have HR685_4 := aM hi685_4; have HC685_4 := aM hl685_4; clear hi685_4 hl685_4; replace p685 := eq_true p685; replace q685 := eq_true q685; have p686 : 0 ≤ (x6_3 : Int) := of_decide_eq_true (by first | (with_reducible assumption) | assumption); have q686 : x6_3 < (l1_4.length : Int) := of_decide_eq_true (by first | (with_reducible assumption) | assumption); obtain ⟨ad686,A686_3,c686_3,A686_4,c686_4,e686,hx686_0,hx686_1,hx686_2,hx686_3,hx686_4,hl686_3,hi686_3,hl686_4,hi686_4⟩ := at_T25 HR1_4.out x6_3 p686 q686; have hw686_4 := hx686_4; have hw686_3 := hx686_3; have hw686_2 := hx686_2; have hw686_1 := hx686_1; have hw686_0 := hx686_0
             cases e686
             replace hx686_0 := (HB.out.cell (World.block_lt_of_cell? w _ hx686_0)).trans hx686_0; replace hx686_1 := (HB.out.cell (World.block_lt_of_cell? w _ hx686_1)).trans hx686_1; replace hx686_2 := (HB.out.cell (World.block_lt_of_cell? w _ hx686_2)).trans hx686_2; replace hx686_3 := (HB.out.cell (World.block_lt_of_cell? w _ hx686_3)).trans hx686_3; replace hx686_4 := (HB.out.cell (World.block_lt_of_cell? w _ hx686_4)).trans hx686_4; have HR686_3 := aM hi686_3; have HC686_3 := aM hl686_3; clear hi686_3 hl686_3; have HR686_4 := aM hi686_4; have HC686_4 := aM hl686_4; clear hi686_4 hl686_4; replace p686 := eq_true p686; replace q686 := eq_true q686; refine xm (n := 12) (S := fun w' => w'.cell? ⟨gb681,0,none⟩ = some (.int .i64 a0_0) ∧ w'.cell? ⟨gb681,1,none⟩ = some (.int .i64 a0_1) ∧ w'.cell? ⟨gb681,2,none⟩ = some (.string a0_2) ∧ w'.cell? ⟨gb681,3,none⟩ = some (.slice A0_3 l0_3.length c0_3) ∧ w'.cell? ⟨gb681,4,none⟩ = some (.slice (some ad685) l0_4.length c0_4) ∧ w'.cell? ⟨gb682,0,none⟩ = some (.int .i64 a1_0) ∧ w'.cell? ⟨gb682,1,none⟩ = some (.int .i64 a1_1) ∧ w'.cell? ⟨gb682,2,none⟩ = some (.string a1_2) ∧ w'.cell? ⟨gb682,3,none⟩ = some (.slice A1_3 l1_3.length c1_3) ∧ w'.cell? ⟨gb682,4,none⟩ = some (.slice (some ad686) l1_4.length c1_4) ∧ w'.cell? (ad685.add ((x6_3).toNat * 5)) = some (.int .i64 ((rd_T25 l0_4 x6_3).f0)) ∧ w'.cell? ⟨(ad685.add ((x6_3).toNat * 5)).block,(ad685.add ((x6_3).toNat * 5)).off + 1,none⟩ = some (.int .i64 ((rd_T25 l0_4 x6_3).f1)) ∧ w'.cell? ⟨(ad685.add ((x6_3).toNat * 5)).block,(ad685.add ((x6_3).toNat * 5)).off + 2,none⟩ = some (.string ((rd_T25 l0_4 x6_3).f2)) ∧ w'.cell? ⟨(ad685.add ((x6_3).toNat * 5)).block,(ad685.add ((x6_3).toNat * 5)).off + 3,none⟩ = some (.slice A685_3 ((rd_T25 l0_4 x6_3).f3).length c685_3) ∧ w'.cell? ⟨(ad685.add ((x6_3).toNat * 5)).block,(ad685.add ((x6_3).toNat * 5)).off + 4,none⟩ = some (.slice A685_4 ((rd_T25 l0_4 x6_3).f4).length c685_4) ∧ w'.cell? (ad686.add ((x6_3).toNat * 5)) = some (.int .i64 ((rd_T25 l1_4 x6_3).f0)) ∧ w'.cell? ⟨(ad686.add ((x6_3).toNat * 5)).block,(ad686.add ((x6_3).toNat * 5)).off + 1,none⟩ = some (.int .i64 ((rd_T25 l1_4 x6_3).f1)) ∧ w'.cell? ⟨(ad686.add ((x6_3).toNat * 5)).block,(ad686.add ((x6_3).toNat * 5)).off + 2,none⟩ = some (.string ((rd_T25 l1_4 x6_3).f2)) ∧ w'.cell? ⟨(ad686.add ((x6_3).toNat * 5)).block,(ad686.add ((x6_3).toNat * 5)).off + 3,none⟩ = some (.slice A686_3 ((rd_T25 l1_4 x6_3).f3).length c686_3) ∧ w'.cell? ⟨(ad686.add ((x6_3).toNat * 5)).block,(ad686.add ((x6_3).toNat * 5)).off + 4,none⟩ = some (.slice A686_4 ((rd_T25 l1_4 x6_3).f4).length c686_4)) (ds := []) (bZ 12 0) (by kernel_rfl) rfl rfl ⟨(za BK681.out 0).trans rfl,(za BK681.out 1).trans rfl,(za BK681.out 2).trans rfl,(za BK681.out 3).trans rfl,(za BK681.out 4).trans rfl,(za BK682.out 0).trans rfl,(za BK682.out 1).trans rfl,(za BK682.out 2).trans rfl,(za BK682.out 3).trans rfl,(za BK682.out 4).trans rfl,((HB.out.cell (World.block_lt_of_cell? w _ hw685_0)).trans hw685_0),((HB.out.cell (World.block_lt_of_cell? w _ hw685_1)).trans hw685_1),((HB.out.cell (World.block_lt_of_cell? w _ hw685_2)).trans hw685_2),((HB.out.cell (World.block_lt_of_cell? w _ hw685_3)).trans hw685_3),((HB.out.cell (World.block_lt_of_cell? w _ hw685_4)).trans hw685_4),((HB.out.cell (World.block_lt_of_cell? w _ hw686_0)).trans hw686_0),((HB.out.cell (World.block_lt_of_cell? w _ hw686_1)).trans hw686_1),((HB.out.cell (World.block_lt_of_cell? w _ hw686_2)).trans hw686_2),((HB.out.cell (World.block_lt_of_cell? w _ hw686_3)).trans hw686_3),((HB.out.cell (World.block_lt_of_cell? w _ hw686_4)).trans hw686_4)⟩ (fun hHeld => ?_); refine vn spec_Same.tab11 spec_Same.bits11 (fun HT_ HW_ => ?_); generalize wr.drew = w45 at BK681 BK682 HB HR685_3 HR685_4 HR686_3 HR686_4 hx685_0 hx685_1 hx685_2 hx685_3 hx685_4 hx686_0 hx686_1 hx686_2 hx686_3 hx686_4 hHeld ⊢; refine pU 0 (some 69) (bZ 12 1) rfl (yn HT_.out (by kernel_rfl)) ?_; refine pU 2 (some 71) (bZ 12 5) rfl (yn HT_.out (by kernel_rfl)) ?_; refine pU 5 (some 74) (bZ 12 37) rfl (yn HT_.out (by kernel_rfl)) ?_; refine pU 7 (some 76) (bZ 12 165) rfl (yn HT_.out (by kernel_rfl)) ?_; refine tU 1 (some 70) (bZ 12 167) rfl (yr HT_.out HW_.out (by kernel_rfl)) (Or.inl ⟨by rfl,by rintro w' ⟨s0,s1,s2,s3,s4,s5,s6,s7,s8,s9,s10,s11,s12,s13,s14,s15,s16,s17,s18,s19⟩; go_simp; with_reducible rfl⟩) hHeld ?_; refine pU 3 (some 72) (bZ 12 175) rfl (yn HT_.out (by kernel_rfl)) ?_; refine tU 4 (some 73) (bZ 12 191) rfl (yr HT_.out HW_.out (by kernel_rfl)) (Or.inl ⟨by rfl,by rintro w' ⟨s0,s1,s2,s3,s4,s5,s6,s7,s8,s9,s10,s11,s12,s13,s14,s15,s16,s17,s18,s19⟩; go_simp; with_reducible rfl⟩) hHeld ?_; refine tU 6 (some 75) (bZ 12 255) rfl (yr HT_.out HW_.out (by kernel_rfl)) (Or.inl ⟨by rfl,by rintro w' ⟨s0,s1,s2,s3,s4,s5,s6,s7,s8,s9,s10,s11,s12,s13,s14,s15,s16,s17,s18,s19⟩; go_simp; with_reducible rfl⟩) hHeld ?_; refine pU 8 (some 77) (bZ 12 511) rfl (yn HT_.out (by kernel_rfl)) ?_; refine tU 9 (some 78) (bZ 12 1023) rfl (yr HT_.out HW_.out (by kernel_rfl)) (Or.inl ⟨by rfl,by rintro w' ⟨s0,s1,s2,s3,s4,s5,s6,s7,s8,s9,s10,s11,s12,s13,s14,s15,s16,s17,s18,s19⟩; go_simp; with_reducible rfl⟩) hHeld ?_; refine one_ (i := 10) (N := some 79) (bZ 12 2047) rfl rfl (xp HT_.out (by kernel_rfl)) (by decide) (fun K hK => ?_); refine xc Tryz.func10 (by kernel_rfl) rfl #[.agg #[.int .i64 ((rd_T25 l0_4 x6_3).f0), .int .i64 ((rd_T25 l0_4 x6_3).f1), .string ((rd_T25 l0_4 x6_3).f2), .slice A685_3 ((rd_T25 l0_4 x6_3).f3).length c685_3, .slice A685_4 ((rd_T25 l0_4 x6_3).f4).length c685_4], .agg #[.int .i64 ((rd_T25 l1_4 x6_3).f0), .int .i64 ((rd_T25 l1_4 x6_3).f1), .string ((rd_T25 l1_4 x6_3).f2), .slice A686_3 ((rd_T25 l1_4 x6_3).f3).length c686_3, .slice A686_4 ((rd_T25 l1_4 x6_3).f4).length c686_4]] (by rfl) rfl rfl (by (try simp only [List.map_toArray,List.map_cons,List.map_nil]); first | done | rfl | (simp only [List.length_drop,List.length_take]; rfl)) ?_
             with_reducible refine (ih k3 (by have := HJ2.out; have := HK2.out; have := HK3.out; omega) ((rd_T25 l0_4 x6_3).f0) ((rd_T25 l0_4 x6_3).f1) ((rd_T25 l0_4 x6_3).f2) _ _ ((rd_T25 l0_4 x6_3).f3) _ _ ((rd_T25 l0_4 x6_3).f4) ((rd_T25 l1_4 x6_3).f0) ((rd_T25 l1_4 x6_3).f1) ((rd_T25 l1_4 x6_3).f2) _ _ ((rd_T25 l1_4 x6_3).f3) _ _ ((rd_T25 l1_4 x6_3).f4) true _ ?side1 ?side2 ?side3 ?side4 ?side5 ?side6 ?side7 ?side8 A41.out).mono ?_
             (case side1 => repeat (first | exact (Kd.C_below HR685_3.out HB.out) | (with_reducible refine Kd.C_alloc ?_ _) | (with_reducible refine Kd.C_drewN ?_ _) | (with_reducible refine Kd.C_drew ?_)))
             (case side2 => exact HC685_3.out)
             (case side3 => repeat (first | exact (Kd.C_below HR685_4.out HB.out) | (with_reducible refine Kd.C_alloc ?_ _) | (with_reducible refine Kd.C_drewN ?_ _) | (with_reducible refine Kd.C_drew ?_)))
             (case side4 => exact HC685_4.out)
             (case side5 => repeat (first | exact (Kd.C_below HR686_3.out HB.out) | (with_reducible refine Kd.C_alloc ?_ _) | (with_reducible refine Kd.C_drewN ?_ _) | (with_reducible refine Kd.C_drew ?_)))
             (case side6 => exact HC686_3.out)
             (case side7 => repeat (first | exact (Kd.C_below HR686_4.out HB.out) | (with_reducible refine Kd.C_alloc ?_ _) | (with_reducible refine Kd.C_drewN ?_ _) | (with_reducible refine Kd.C_drew ?_)))
             (case side8 => exact HC686_4.out)
             rintro e w46 ⟨rfl,hb⟩; refine ⟨_,rfl, ?_⟩; have n0_ := aM (ya (g := gb681) (o := .cells #[.int .i64 a0_0, .int .i64 a0_1, .string a0_2, .slice A0_3 l0_3.length c0_3, .slice (some ad685) l0_4.length c0_4] 25 (0,0)) (by (with_reducible repeat (first | refine zg ?_ _ | refine zk ?_ | refine ze ?_ _)); exact BK681.out) hb); have n1_ := aM (ya (g := gb682) (o := .cells #[.int .i64 a1_0, .int .i64 a1_1, .string a1_2, .slice A1_3 l1_3.length c1_3, .slice (some ad686) l1_4.length c1_4] 25 (0,0)) (by (with_reducible repeat (first | refine zg ?_ _ | refine zk ?_ | refine ze ?_ _)); exact BK682.out) hb); have n2_ := aM (zv (by repeat (first | (with_reducible first | exact HB.out | apply zb | apply zc | apply zl | refine zj ?_ GE681.out | refine zj ?_ GE682.out) | exact HB.out)) hb); clear BK681 BK682 HB; have BK681 := n0_; have BK682 := n1_; have HB := n2_; clear n0_ n1_ n2_
             (try clear hb)
             (try clear hb2)
             (try clear hk)
             (try clear hi)
             refine hK.out _ _ ⟨(za BK681.out 0).trans rfl,(za BK681.out 1).trans rfl,(za BK681.out 2).trans rfl,(za BK681.out 3).trans rfl,(za BK681.out 4).trans rfl,(za BK682.out 0).trans rfl,(za BK682.out 1).trans rfl,(za BK682.out 2).trans rfl,(za BK682.out 3).trans rfl,(za BK682.out 4).trans rfl,((HB.out.cell (World.block_lt_of_cell? w _ hw685_0)).trans hw685_0),((HB.out.cell (World.block_lt_of_cell? w _ hw685_1)).trans hw685_1),((HB.out.cell (World.block_lt_of_cell? w _ hw685_2)).trans hw685_2),((HB.out.cell (World.block_lt_of_cell? w _ hw685_3)).trans hw685_3),((HB.out.cell (World.block_lt_of_cell? w _ hw685_4)).trans hw685_4),((HB.out.cell (World.block_lt_of_cell? w _ hw686_0)).trans hw686_0),((HB.out.cell (World.block_lt_of_cell? w _ hw686_1)).trans hw686_1),((HB.out.cell (World.block_lt_of_cell? w _ hw686_2)).trans hw686_2),((HB.out.cell (World.block_lt_of_cell? w _ hw686_3)).trans hw686_3),((HB.out.cell (World.block_lt_of_cell? w _ hw686_4)).trans hw686_4)⟩ (fun hHeld => ?_); clear hK K; refine zr (a' := ?_) ?_ ?_; rotate_left
             ·show Act.put _ (some 79) _ = _
              simp only [Act.put,sA,sB,sC,yf,yg]; rfl
             refine pU 11 (some 80) (bZ 12 4095) rfl (yn HT_.out (by kernel_rfl)) ?_; refine xy (done_of HT_.out (by kernel_rfl)) ?_
             try go_wp2
             go_roundg k3
             case measure => have := HJ2.out; have := HK2.out; have := HK3.out; omega
             case rel => exact ⟨(wrap64 (x6_3 + 1)),(by first | rfl | (simp; done) | (simp [*]; done)),H', ⟨by have := HJ2.out; have := HK2.out; have := HK3.out; omega⟩,⟨by (with_reducible repeat (first | refine zg ?_ _ | refine zk ?_ | refine ze ?_ _)); exact BK681.out⟩,⟨by (with_reducible repeat (first | refine zg ?_ _ | refine zk ?_ | refine ze ?_ _)); exact BK682.out⟩,⟨by repeat (first | (with_reducible first | exact HB.out | apply zb | apply zc | apply zl | refine zj ?_ GE681.out | refine zj ?_ GE682.out) | exact HB.out)⟩⟩
            ·replace c42 := Bool.eq_false_iff.mpr c42; subst c42
             have H1 : (some false) = some r := by rw [if_neg (show ¬ (false = true) by decide)] at H; exact H
             clear H; have H := H1; clear H1; obtain rfl := Option.some.inj H; have hnb47 := NB681_682.out; have hnc47 := NB682_681.out; have hcz48_0 : wr.cell? ⟨gb681,0,none⟩ = some (.int .i64 a0_0) := (za BK681.out 0).trans rfl; have hcz48_1 : wr.cell? ⟨gb681,1,none⟩ = some (.int .i64 a0_1) := (za BK681.out 1).trans rfl; have hcz48_2 : wr.cell? ⟨gb681,2,none⟩ = some (.string a0_2) := (za BK681.out 2).trans rfl; have hcz48_3 : wr.cell? ⟨gb681,3,none⟩ = some (.slice A0_3 l0_3.length c0_3) := (za BK681.out 3).trans rfl; have hcz48_4 : wr.cell? ⟨gb681,4,none⟩ = some (.slice A0_4 l0_4.length c0_4) := (za BK681.out 4).trans rfl; have hfz48_0 := zh BK681.out 0; have hfz48_1 := zh BK681.out 1; have hfz48_2 := zh BK681.out 2; have hfz48_3 := zh BK681.out 3; have hfz48_4 := zh BK681.out 4
             try go_wp2
             have n0_ := aM (zk BK681.out); have n1_ := aM (zk BK682.out); have n2_ := aM (zl HB.out); clear BK681 BK682 HB; have BK681 := n0_; have BK682 := n1_; have HB := n2_; clear n0_ n1_ n2_; have p685 : 0 ≤ (x6_3 : Int) := of_decide_eq_true (by first | (with_reducible assumption) | assumption); have q685 : x6_3 < (l0_4.length : Int) := of_decide_eq_true (by first | (with_reducible assumption) | assumption); obtain ⟨ad685,A685_3,c685_3,A685_4,c685_4,e685,hx685_0,hx685_1,hx685_2,hx685_3,hx685_4,hl685_3,hi685_3,hl685_4,hi685_4⟩ := at_T25 HR0_4.out x6_3 p685 q685; have hw685_4 := hx685_4; have hw685_3 := hx685_3; have hw685_2 := hx685_2; have hw685_1 := hx685_1; have hw685_0 := hx685_0
             cases e685
             replace hx685_0 := (HB.out.cell (World.block_lt_of_cell? w _ hx685_0)).trans hx685_0; replace hx685_1 := (HB.out.cell (World.block_lt_of_cell? w _ hx685_1)).trans hx685_1; replace hx685_2 := (HB.out.cell (World.block_lt_of_cell? w _ hx685_2)).trans hx685_2; replace hx685_3 := (HB.out.cell (World.block_lt_of_cell? w _ hx685_3)).trans hx685_3; replace hx685_4 := (HB.out.cell (World.block_lt_of_cell? w _ hx685_4)).trans hx685_4; have HR685_3 := aM hi685_3; have HC685_3 := aM hl685_3; clear hi685_3 hl685_3; have HR685_4 := aM hi685_4; have HC685_4 := aM hl685_4; clear hi685_4 hl685_4; replace p685 := eq_true p685; replace q685 := eq_true q685; have p686 : 0 ≤ (x6_3 : Int) := of_decide_eq_true (by first | (with_reducible assumption) | assumption); have q686 : x6_3 < (l1_4.length : Int) := of_decide_eq_true (by first | (with_reducible assumption) | assumption); obtain ⟨ad686,A686_3,c686_3,A686_4,c686_4,e686,hx686_0,hx686_1,hx686_2,hx686_3,hx686_4,hl686_3,hi686_3,hl686_4,hi686_4⟩ := at_T25 HR1_4.out x6_3 p686 q686; have hw686_4 := hx686_4; have hw686_3 := hx686_3; have hw686_2 := hx686_2; have hw686_1 := hx686_1; have hw686_0 := hx686_0
             cases e686
             replace hx686_0 := (HB.out.cell (World.block_lt_of_cell? w _ hx686_0)).trans hx686_0; replace hx686_1 := (HB.out.cell (World.block_lt_of_cell? w _ hx686_1)).trans hx686_1; replace hx686_2 := (HB.out.cell (World.block_lt_of_cell? w _ hx686_2)).trans hx686_2; replace hx686_3 := (HB.out.cell (World.block_lt_of_cell? w _ hx686_3)).trans hx686_3; replace hx686_4 := (HB.out.cell (World.block_lt_of_cell? w _ hx686_4)).trans hx686_4; have HR686_3 := aM hi686_3; have HC686_3 := aM hl686_3; clear hi686_3 hl686_3; have HR686_4 := aM hi686_4; have HC686_4 := aM hl686_4; clear hi686_4 hl686_4; replace p686 := eq_true p686; replace q686 := eq_true q686; refine xm (n := 12) (S := fun w' => w'.cell? ⟨gb681,0,none⟩ = some (.int .i64 a0_0) ∧ w'.cell? ⟨gb681,1,none⟩ = some (.int .i64 a0_1) ∧ w'.cell? ⟨gb681,2,none⟩ = some (.string a0_2) ∧ w'.cell? ⟨gb681,3,none⟩ = some (.slice A0_3 l0_3.length c0_3) ∧ w'.cell? ⟨gb681,4,none⟩ = some (.slice (some ad685) l0_4.length c0_4) ∧ w'.cell? ⟨gb682,0,none⟩ = some (.int .i64 a1_0) ∧ w'.cell? ⟨gb682,1,none⟩ = some (.int .i64 a1_1) ∧ w'.cell? ⟨gb682,2,none⟩ = some (.string a1_2) ∧ w'.cell? ⟨gb682,3,none⟩ = some (.slice A1_3 l1_3.length c1_3) ∧ w'.cell? ⟨gb682,4,none⟩ = some (.slice (some ad686) l1_4.length c1_4) ∧ w'.cell? (ad685.add ((x6_3).toNat * 5)) = some (.int .i64 ((rd_T25 l0_4 x6_3).f0)) ∧ w'.cell? ⟨(ad685.add ((x6_3).toNat * 5)).block,(ad685.add ((x6_3).toNat * 5)).off + 1,none⟩ = some (.int .i64 ((rd_T25 l0_4 x6_3).f1)) ∧ w'.cell? ⟨(ad685.add ((x6_3).toNat * 5)).block,(ad685.add ((x6_3).toNat * 5)).off + 2,none⟩ = some (.string ((rd_T25 l0_4 x6_3).f2)) ∧ w'.cell? ⟨(ad685.add ((x6_3).toNat * 5)).block,(ad685.add ((x6_3).toNat * 5)).off + 3,none⟩ = some (.slice A685_3 ((rd_T25 l0_4 x6_3).f3).length c685_3) ∧ w'.cell? ⟨(ad685.add ((x6_3).toNat * 5)).block,(ad685.add ((x6_3).toNat * 5)).off + 4,none⟩ = some (.slice A685_4 ((rd_T25 l0_4 x6_3).f4).length c685_4) ∧ w'.cell? (ad686.add ((x6_3).toNat * 5)) = some (.int .i64 ((rd_T25 l1_4 x6_3).f0)) ∧ w'.cell? ⟨(ad686.add ((x6_3).toNat * 5)).block,(ad686.add ((x6_3).toNat * 5)).off + 1,none⟩ = some (.int .i64 ((rd_T25 l1_4 x6_3).f1)) ∧ w'.cell? ⟨(ad686.add ((x6_3).toNat * 5)).block,(ad686.add ((x6_3).toNat * 5)).off + 2,none⟩ = some (.string ((rd_T25 l1_4 x6_3).f2)) ∧ w'.cell? ⟨(ad686.add ((x6_3).toNat * 5)).block,(ad686.add ((x6_3).toNat * 5)).off + 3,none⟩ = some (.slice A686_3 ((rd_T25 l1_4 x6_3).f3).length c686_3) ∧ w'.cell? ⟨(ad686.add ((x6_3).toNat * 5)).block,(ad686.add ((x6_3).toNat * 5)).off + 4,none⟩ = some (.slice A686_4 ((rd_T25 l1_4 x6_3).f4).length c686_4)) (ds := []) (bZ 12 0) (by kernel_rfl) rfl rfl ⟨(za BK681.out 0).trans rfl,(za BK681.out 1).trans rfl,(za BK681.out 2).trans rfl,(za BK681.out 3).trans rfl,(za BK681.out 4).trans rfl,(za BK682.out 0).trans rfl,(za BK682.out 1).trans rfl,(za BK682.out 2).trans rfl,(za BK682.out 3).trans rfl,(za BK682.out 4).trans rfl,((HB.out.cell (World.block_lt_of_cell? w _ hw685_0)).trans hw685_0),((HB.out.cell (World.block_lt_of_cell? w _ hw685_1)).trans hw685_1),((HB.out.cell (World.block_lt_of_cell? w _ hw685_2)).trans hw685_2),((HB.out.cell (World.block_lt_of_cell? w _ hw685_3)).trans hw685_3),((HB.out.cell (World.block_lt_of_cell? w _ hw685_4)).trans hw685_4),((HB.out.cell (World.block_lt_of_cell? w _ hw686_0)).trans hw686_0),((HB.out.cell (World.block_lt_of_cell? w _ hw686_1)).trans hw686_1),((HB.out.cell (World.block_lt_of_cell? w _ hw686_2)).trans hw686_2),((HB.out.cell (World.block_lt_of_cell? w _ hw686_3)).trans hw686_3),((HB.out.cell (World.block_lt_of_cell? w _ hw686_4)).trans hw686_4)⟩ (fun hHeld => ?_); refine vn spec_Same.tab11 spec_Same.bits11 (fun HT_ HW_ => ?_); generalize wr.drew = w49 at BK681 BK682 HB HR685_3 HR685_4 HR686_3 HR686_4 hx685_0 hx685_1 hx685_2 hx685_3 hx685_4 hx686_0 hx686_1 hx686_2 hx686_3 hx686_4 hHeld ⊢; refine pU 0 (some 69) (bZ 12 1) rfl (yn HT_.out (by kernel_rfl)) ?_; refine pU 2 (some 71) (bZ 12 5) rfl (yn HT_.out (by kernel_rfl)) ?_; refine pU 5 (some 74) (bZ 12 37) rfl (yn HT_.out (by kernel_rfl)) ?_; refine pU 7 (some 76) (bZ 12 165) rfl (yn HT_.out (by kernel_rfl)) ?_; refine tU 1 (some 70) (bZ 12 167) rfl (yr HT_.out HW_.out (by kernel_rfl)) (Or.inl ⟨by rfl,by rintro w' ⟨s0,s1,s2,s3,s4,s5,s6,s7,s8,s9,s10,s11,s12,s13,s14,s15,s16,s17,s18,s19⟩; go_simp; with_reducible rfl⟩) hHeld ?_; refine pU 3 (some 72) (bZ 12 175) rfl (yn HT_.out (by kernel_rfl)) ?_; refine tU 4 (some 73) (bZ 12 191) rfl (yr HT_.out HW_.out (by kernel_rfl)) (Or.inl ⟨by rfl,by rintro w' ⟨s0,s1,s2,s3,s4,s5,s6,s7,s8,s9,s10,s11,s12,s13,s14,s15,s16,s17,s18,s19⟩; go_simp; with_reducible rfl⟩) hHeld ?_; refine tU 6 (some 75) (bZ 12 255) rfl (yr HT_.out HW_.out (by kernel_rfl)) (Or.inl ⟨by rfl,by rintro w' ⟨s0,s1,s2,s3,s4,s5,s6,s7,s8,s9,s10,s11,s12,s13,s14,s15,s16,s17,s18,s19⟩; go_simp; with_reducible rfl⟩) hHeld ?_; refine pU 8 (some 77) (bZ 12 511) rfl (yn HT_.out (by kernel_rfl)) ?_; refine tU 9 (some 78) (bZ 12 1023) rfl (yr HT_.out HW_.out (by kernel_rfl)) (Or.inl ⟨by rfl,by rintro w' ⟨s0,s1,s2,s3,s4,s5,s6,s7,s8,s9,s10,s11,s12,s13,s14,s15,s16,s17,s18,s19⟩; go_simp; with_reducible rfl⟩) hHeld ?_; refine one_ (i := 10) (N := some 79) (bZ 12 2047) rfl rfl (xp HT_.out (by kernel_rfl)) (by decide) (fun K hK => ?_); refine xc Tryz.func10 (by kernel_rfl) rfl #[.agg #[.int .i64 ((rd_T25 l0_4 x6_3).f0), .int .i64 ((rd_T25 l0_4 x6_3).f1), .string ((rd_T25 l0_4 x6_3).f2), .slice A685_3 ((rd_T25 l0_4 x6_3).f3).length c685_3, .slice A685_4 ((rd_T25 l0_4 x6_3).f4).length c685_4], .agg #[.int .i64 ((rd_T25 l1_4 x6_3).f0), .int .i64 ((rd_T25 l1_4 x6_3).f1), .string ((rd_T25 l1_4 x6_3).f2), .slice A686_3 ((rd_T25 l1_4 x6_3).f3).length c686_3, .slice A686_4 ((rd_T25 l1_4 x6_3).f4).length c686_4]] (by rfl) rfl rfl (by (try simp only [List.map_toArray,List.map_cons,List.map_nil]); first | done | rfl | (simp only [List.length_drop,List.length_take]; rfl)) ?_
             with_reducible refine (ih k3 (by have := HJ2.out; have := HK2.out; have := HK3.out; omega) ((rd_T25 l0_4 x6_3).f0) ((rd_T25 l0_4 x6_3).f1) ((rd_T25 l0_4 x6_3).f2) _ _ ((rd_T25 l0_4 x6_3).f3) _ _ ((rd_T25 l0_4 x6_3).f4) ((rd_T25 l1_4 x6_3).f0) ((rd_T25 l1_4 x6_3).f1) ((rd_T25 l1_4 x6_3).f2) _ _ ((rd_T25 l1_4 x6_3).f3) _ _ ((rd_T25 l1_4 x6_3).f4) false _ ?side1 ?side2 ?side3 ?side4 ?side5 ?side6 ?side7 ?side8 A41.out).mono ?_
             (case side1 => repeat (first | exact (Kd.C_below HR685_3.out HB.out) | (with_reducible refine Kd.C_alloc ?_ _) | (with_reducible refine Kd.C_drewN ?_ _) | (with_reducible refine Kd.C_drew ?_)))
             (case side2 => exact HC685_3.out)
             (case side3 => repeat (first | exact (Kd.C_below HR685_4.out HB.out) | (with_reducible refine Kd.C_alloc ?_ _) | (with_reducible refine Kd.C_drewN ?_ _) | (with_reducible refine Kd.C_drew ?_)))
             (case side4 => exact HC685_4.out)
             (case side5 => repeat (first | exact (Kd.C_below HR686_3.out HB.out) | (with_reducible refine Kd.C_alloc ?_ _) | (with_reducible refine Kd.C_drewN ?_ _) | (with_reducible refine Kd.C_drew ?_)))
             (case side6 => exact HC686_3.out)
             (case side7 => repeat (first | exact (Kd.C_below HR686_4.out HB.out) | (with_reducible refine Kd.C_alloc ?_ _) | (with_reducible refine Kd.C_drewN ?_ _) | (with_reducible refine Kd.C_drew ?_)))
             (case side8 => exact HC686_4.out)
             rintro e w50 ⟨rfl,hb⟩; refine ⟨_,rfl, ?_⟩; have n0_ := aM (ya (g := gb681) (o := .cells #[.int .i64 a0_0, .int .i64 a0_1, .string a0_2, .slice A0_3 l0_3.length c0_3, .slice (some ad685) l0_4.length c0_4] 25 (0,0)) (by (with_reducible repeat (first | refine zg ?_ _ | refine zk ?_ | refine ze ?_ _)); exact BK681.out) hb); have n1_ := aM (ya (g := gb682) (o := .cells #[.int .i64 a1_0, .int .i64 a1_1, .string a1_2, .slice A1_3 l1_3.length c1_3, .slice (some ad686) l1_4.length c1_4] 25 (0,0)) (by (with_reducible repeat (first | refine zg ?_ _ | refine zk ?_ | refine ze ?_ _)); exact BK682.out) hb); have n2_ := aM (zv (by repeat (first | (with_reducible first | exact HB.out | apply zb | apply zc | apply zl | refine zj ?_ GE681.out | refine zj ?_ GE682.out) | exact HB.out)) hb); clear BK681 BK682 HB; have BK681 := n0_; have BK682 := n1_; have HB := n2_; clear n0_ n1_ n2_
             (try clear hb)
             (try clear hb2)
             (try clear hk)
             (try clear hi)
             refine hK.out _ _ ⟨(za BK681.out 0).trans rfl,(za BK681.out 1).trans rfl,(za BK681.out 2).trans rfl,(za BK681.out 3).trans rfl,(za BK681.out 4).trans rfl,(za BK682.out 0).trans rfl,(za BK682.out 1).trans rfl,(za BK682.out 2).trans rfl,(za BK682.out 3).trans rfl,(za BK682.out 4).trans rfl,((HB.out.cell (World.block_lt_of_cell? w _ hw685_0)).trans hw685_0),((HB.out.cell (World.block_lt_of_cell? w _ hw685_1)).trans hw685_1),((HB.out.cell (World.block_lt_of_cell? w _ hw685_2)).trans hw685_2),((HB.out.cell (World.block_lt_of_cell? w _ hw685_3)).trans hw685_3),((HB.out.cell (World.block_lt_of_cell? w _ hw685_4)).trans hw685_4),((HB.out.cell (World.block_lt_of_cell? w _ hw686_0)).trans hw686_0),((HB.out.cell (World.block_lt_of_cell? w _ hw686_1)).trans hw686_1),((HB.out.cell (World.block_lt_of_cell? w _ hw686_2)).trans hw686_2),((HB.out.cell (World.block_lt_of_cell? w _ hw686_3)).trans hw686_3),((HB.out.cell (World.block_lt_of_cell? w _ hw686_4)).trans hw686_4)⟩ (fun hHeld => ?_); clear hK K; refine zr (a' := ?_) ?_ ?_; rotate_left
             ·show Act.put _ (some 79) _ = _
              simp only [Act.put,sA,sB,sC,yf,yg]; rfl
             refine pU 11 (some 80) (bZ 12 4095) rfl (yn HT_.out (by kernel_rfl)) ?_; refine xy (done_of HT_.out (by kernel_rfl)) ?_
             try go_wp2
             go_ret
             exact ⟨by first | rfl | (simp [zz,zw] <;> rfl) | (simp [*, zz,zw] <;> rfl),by repeat (first | (with_reducible first | exact HB.out | apply zb | apply zc | apply zl | refine zj ?_ GE681.out | refine zj ?_ GE682.out) | exact HB.out)⟩
           ·rw [if_neg c40] at H; exact absurd H (by simp)
          ·rw [if_neg c39] at H; exact absurd H (by simp)
         ·rw [if_neg c38] at H; have c38b0 : decide (x6_3 < (l0_4.length : Int)) = false := decide_eq_false c38; clear c38; obtain rfl := Option.some.inj H; have hnb51 := NB681_682.out; have hnc51 := NB682_681.out; have hcz52_0 : wr.cell? ⟨gb681,0,none⟩ = some (.int .i64 a0_0) := (za BK681.out 0).trans rfl; have hcz52_1 : wr.cell? ⟨gb681,1,none⟩ = some (.int .i64 a0_1) := (za BK681.out 1).trans rfl; have hcz52_2 : wr.cell? ⟨gb681,2,none⟩ = some (.string a0_2) := (za BK681.out 2).trans rfl; have hcz52_3 : wr.cell? ⟨gb681,3,none⟩ = some (.slice A0_3 l0_3.length c0_3) := (za BK681.out 3).trans rfl; have hcz52_4 : wr.cell? ⟨gb681,4,none⟩ = some (.slice A0_4 l0_4.length c0_4) := (za BK681.out 4).trans rfl; have hfz52_0 := zh BK681.out 0; have hfz52_1 := zh BK681.out 1; have hfz52_2 := zh BK681.out 2; have hfz52_3 := zh BK681.out 3; have hfz52_4 := zh BK681.out 4
          go_wp2
          go_ret
          exact ⟨by first | rfl | (simp [zz,zw] <;> rfl) | (simp [*, zz,zw] <;> rfl),by repeat (first | (with_reducible first | exact HB.out | apply zb | apply zc | apply zl | refine zj ?_ GE681.out | refine zj ?_ GE682.out) | exact HB.out)⟩
end Go.Proofs.YtnmhjndjfblebaaGreatDoor.PS
namespace Go.Proofs.YtnmhjndjfblebaaGreatDoor.Tr
open Go.RowKit Go.Proofs.YtnmhjndjfblebaaGreatDoorW.PrintWords Go.Proofs.YtnmhjndjfblebaaGreatDoorW.PrintLast Go.Proofs.YtnmhjndjfblebaaGreatDoor.Str Go.Proofs.YtnmhjndjfblebaaGreatDoor.Kit Go.Proofs.YtnmhjndjfblebaaGreatDoor.MapV Go.Proofs.YtnmhjndjfblebaaGreatDoor.Frame Go.Proofs.YtnmhjndjfblebaaGreatDoor.PS
inductive Short : VS → Prop
 | mk (x : VS) (hk : x.f3.length ≤ 8796093022000) (hl : x.f4.length ≤ 1759218604400) (hv : ∀ v,v ∈ x.f4 → Short v) : Short x
theorem rdS' {xs : List VS} {i : Nat} (h : i < xs.length) : rd_T25 xs (i : Int) = xs[i] := by
 unfold rd_T25
 simp [List.getD_eq_getElem?_getD,h]
theorem wrapQ (i : Nat) (h : i < 4611686018427387904) : wrap64 ((i : Int) + 1) = ((i + 1 : Nat) : Int) := by unfold wrap64; omega
def SameEv (x : VS) : Prop := Ev (fun k => spec_Same.f k x.f0 x.f1 x.f2 x.f3 x.f4 x.f0 x.f1 x.f2 x.f3 x.f4) true
theorem ev_same_l1 (a b : Int) (c : BA) (ks : List BA) (vs : List VS) (hl : vs.length ≤ 1759218604400) (hch : ∀ v,v ∈ vs → SameEv v) : ∀ (d i : Nat),i + d = vs.length → Ev (fun k => spec_Same.l1 k (i : Int) a b c ks vs a b c ks vs) true := by
 intro d
 induction d with
 | zero =>
  intro i hi; refine Ev.step (fun k => ?_) (Ev.now _); simp only [spec_Same.l1]; rw [if_neg (by omega)]
 | succ d ih =>
  intro i hi
  have hlt : i < vs.length := by omega
  refine Ev.step (f := fun k => (spec_Same.f k vs[i].f0 vs[i].f1 vs[i].f2 vs[i].f3 vs[i].f4 vs[i].f0 vs[i].f1 vs[i].f2 vs[i].f3 vs[i].f4).bind fun t => if t = true then spec_Same.l1 k ((i + 1 : Nat) : Int) a b c ks vs a b c ks vs else some false) (fun k => ?_) ?_
  ·simp only [spec_Same.l1]; rw [if_pos (by omega),if_pos (by omega),if_pos (by omega),rdS' hlt,wrapQ i (by omega)]
  ·refine Ev.bind (hch vs[i] (List.getElem_mem hlt)) ?_; simp only [if_true]; exact ih (i + 1) (by omega)
theorem ev_same_l0 (a b : Int) (c : BA) (ks : List BA) (vs : List VS) (hk : ks.length ≤ 8796093022000) (hl : vs.length ≤ 1759218604400) (hch : ∀ v,v ∈ vs → SameEv v) : ∀ (d i : Nat),i + d = ks.length → Ev (fun k => spec_Same.l0 k (i : Int) a b c ks vs a b c ks vs) true := by
 intro d
 induction d with
 | zero =>
  intro i hi; refine Ev.step (f := fun k => spec_Same.l1 k ((0 : Nat) : Int) a b c ks vs a b c ks vs) (fun k => ?_) (ev_same_l1 a b c ks vs hl hch vs.length 0 (by omega)); simp only [spec_Same.l0]; rw [if_neg (by omega)]; rfl
 | succ d ih =>
  intro i hi; refine Ev.step (f := fun k => spec_Same.l0 k ((i + 1 : Nat) : Int) a b c ks vs a b c ks vs) (fun k => ?_) (ih (i + 1) (by omega)); simp only [spec_Same.l0]; rw [if_pos (by omega),if_pos (by omega),if_pos (by omega),if_pos trivial,wrapQ i (by omega)]
theorem ev_same : ∀ x : VS,Short x → SameEv x := by
 intro x hx
 induction hx with
 | mk x hk hl hv ih =>
  obtain ⟨k,n,t,ks,vs⟩ := x; have h := ev_same_l0 k n t ks vs hk hl ih ks.length 0 (by omega)
  unfold SameEv
  refine Ev.step (f := fun j => spec_Same.j0 j false k n t ks vs k n t ks vs) (fun j => ?_) (Ev.step (f := fun j => spec_Same.l0 j ((0 : Nat) : Int) k n t ks vs k n t ks vs) (fun j => ?_) h)
  ·simp only [spec_Same.f,if_true,bne_self_eq_false]
  ·simp only [spec_Same.j0,if_false,Bool.false_eq_true]; rfl
theorem from_calls (x : VI) (z : VS) (hz : fromI x = z) (hx : Small x) (A3 A4 : Option Addr) (c3 c4 : Nat) (w : World) (l3 : x.f3.length ≤ c3) (hk : Kd.string.C w A3 x.f3.length x.f3) (l4 : x.f4.length ≤ c4) (hv : kI.C w A4 x.f4.length x.f4) :
  Calls Tryz.prog 11 #[.agg #[.int .i64 x.f0, .int .i64 x.f1, .string x.f2, .slice A3 x.f3.length c3, .slice A4 x.f4.length c4]] w fun e w' => ∃ B3 d3 B4 d4,e = .returned (.agg #[.int .i64 z.f0, .int .i64 z.f1, .string z.f2, .slice B3 z.f3.length d3, .slice B4 z.f4.length d4]) ∧ z.f3.length ≤ d3 ∧ Kd.string.C w' B3 z.f3.length z.f3 ∧ z.f4.length ≤ d4 ∧ kS.C w' B4 z.f4.length z.f4 ∧ Below w.heap.size w w' := by
 subst hz; obtain ⟨k,hk'⟩ := (ev_from x hx).rounds; refine (laws_from.calls k x.f0 x.f1 x.f2 A3 c3 x.f3 A4 c4 x.f4 _ _ _ _ _ w hk l3 hv l4 hk').mono ?_; rintro e w1 ⟨v3,v4,rfl,hr3,hr4,hb⟩; obtain ⟨B3,d3,rfl,m3,g3⟩ := Kd.R_reads hr3; obtain ⟨B4,d4,rfl,m4,g4⟩ := Kd.R_reads hr4; exact ⟨B3,d3,B4,d4,rfl,m3,g3,m4,g4,hb⟩
theorem to_calls (x : VS) (hx : SmallS x) (A3 A4 : Option Addr) (c3 c4 : Nat) (w : World) (l3 : x.f3.length ≤ c3) (hk : Kd.string.C w A3 x.f3.length x.f3) (l4 : x.f4.length ≤ c4) (hv : kS.C w A4 x.f4.length x.f4) :
  Calls Tryz.prog 9 #[.agg #[.int .i64 x.f0, .int .i64 x.f1, .string x.f2, .slice A3 x.f3.length c3, .slice A4 x.f4.length c4]] w fun e w' => ∃ B3 d3 B4 d4,e = .returned (.agg #[.int .i64 (toI x).f0, .int .i64 (toI x).f1, .string (toI x).f2, .slice B3 (toI x).f3.length d3, .slice B4 (toI x).f4.length d4]) ∧ (toI x).f3.length ≤ d3 ∧ Kd.string.C w' B3 (toI x).f3.length (toI x).f3 ∧ (toI x).f4.length ≤ d4 ∧ kI.C w' B4 (toI x).f4.length (toI x).f4 ∧ Below w.heap.size w w' := by
 obtain ⟨k,hk'⟩ := (ev_to x hx).rounds; refine (laws_to.calls k x.f0 x.f1 x.f2 A3 c3 x.f3 A4 c4 x.f4 _ _ _ _ _ w hk l3 hv l4 hk').mono ?_; rintro e w1 ⟨v3,v4,rfl,hr3,hr4,hb⟩; obtain ⟨B3,d3,rfl,m3,g3⟩ := Kd.R_reads hr3; obtain ⟨B4,d4,rfl,m4,g4⟩ := Kd.R_reads hr4; exact ⟨B3,d3,B4,d4,rfl,m3,g3,m4,g4,hb⟩
theorem same_calls (x : VS) (hx : Short x) (A3 A4 : Option Addr) (c3 c4 : Nat) (B3 B4 : Option Addr) (d3 d4 : Nat) (w : World) (l3 : x.f3.length ≤ c3) (hk : Kd.string.C w A3 x.f3.length x.f3) (l4 : x.f4.length ≤ c4) (hv : kS.C w A4 x.f4.length x.f4) (m3 : x.f3.length ≤ d3) (jk : Kd.string.C w B3 x.f3.length x.f3) (m4 : x.f4.length ≤ d4) (jv : kS.C w B4 x.f4.length x.f4) :
  Calls Tryz.prog 10 #[.agg #[.int .i64 x.f0, .int .i64 x.f1, .string x.f2, .slice A3 x.f3.length c3, .slice A4 x.f4.length c4], .agg #[.int .i64 x.f0, .int .i64 x.f1, .string x.f2, .slice B3 x.f3.length d3, .slice B4 x.f4.length d4]] w fun e w' => e = .returned (.bool true) ∧ Below w.heap.size w w' := by
 obtain ⟨k,hk'⟩ := (ev_same x hx).rounds; exact spec_Same.calls k x.f0 x.f1 x.f2 A3 c3 x.f3 A4 c4 x.f4 x.f0 x.f1 x.f2 B3 d3 x.f3 B4 d4 x.f4 true w hk l3 hv l4 jk m3 jv m4 hk'
theorem xh {w : World} {b : Nat} {T : TypeId} {v0 v1 v2 v3 v4 : Value} (h : w.heap[b]? = some (.cells #[v0,v1,v2,v3,v4] T (0,0))) :
  w.cell? ⟨b,0,none⟩ = some v0 ∧ w.cell? ⟨b,1,none⟩ = some v1 ∧ w.cell? ⟨b,2,none⟩ = some v2 ∧ w.cell? ⟨b,3,none⟩ = some v3 ∧ w.cell? ⟨b,4,none⟩ = some v4 := by
 simp [World.cell?, h]
def svB : BA := ⟨#[115,101,114,118,105,99,101,115,46,115]⟩
theorem value_told {v : Value} {y : Y} {F : Nat → Prop} {u : VI} (w : World) (hy : FitsY y) (ha : AR w v y F) (hu : valOf y = u) : Calls Tryz.prog 19 #[v, .nilIface] w (Told w u) := by
 subst hu; exact impl_value w hy ha
structure ReadsI (w : World) (x : VI) (A3 : Option Addr) (c3 : Nat) (A4 : Option Addr) (c4 : Nat) : Prop where
 l3 : x.f3.length ≤ c3
 hk : Kd.string.C w A3 x.f3.length x.f3
 l4 : x.f4.length ≤ c4
 hv : kI.C w A4 x.f4.length x.f4
theorem ReadsI.below {w w1 : World} {x : VI} {A3 A4 : Option Addr} {c3 c4 : Nat} (h : ReadsI w x A3 c3 A4 c4) (hb : Below w.heap.size w w1) : ReadsI w1 x A3 c3 A4 c4 := ⟨h.l3,Kd.C_below h.hk hb,h.l4,Kd.C_below h.hv hb⟩
set_option maxHeartbeats 3200000 in
set_option maxRecDepth 100000 in
theorem impl_mergeAt (x y u : VI) (hx : Small x) (hy : Small y) (k : BA) (ye yo : Y) (hxa : anyOf x = .map [(lb k,ye)]) (hya : anyOf y = .map [(lb k,yo)]) (hu : valOf (.map [(lb k,yo)]) = u) (hf : FitsY (.map [(lb k,yo)]))
  (hyaml : ∀ (v : World) (e o : Value) (F G : Nat → Prop),AR v e (.map [(lb k,ye)]) F → AR v o (.map [(lb k,yo)]) G → (∀ j,F j → j < v.heap.size) → (∀ j,G j → j < v.heap.size) → (∀ j,F j → ¬ G j) → Calls Tryz.prog 20 #[e,o, .string svB] v (MergedOne v F G (lb k) yo))
  (A3 A4 : Option Addr) (c3 c4 : Nat) (B3 B4 : Option Addr) (d3 d4 : Nat) (w : World) (h1 : ReadsI w x A3 c3 A4 c4) (h2 : ReadsI w y B3 d3 B4 d4) :
  Calls Tryz.prog 8 #[.agg #[.int .i64 x.f0, .int .i64 x.f1, .string x.f2, .slice A3 x.f3.length c3, .slice A4 x.f4.length c4], .agg #[.int .i64 y.f0, .int .i64 y.f1, .string y.f2, .slice B3 y.f3.length d3, .slice B4 y.f4.length d4], .string svB] w (Told w u) := by
 have CTX := aM (fun (W : World) (hr : ReadsI W x A3 c3 A4 c4) => toAny x hx A3 A4 c3 c4 W hr.l3 hr.hk hr.l4 hr.hv); have CTY := aM (fun (W : World) (hr : ReadsI W y B3 d3 B4 d4) => toAny y hy B3 B4 d3 d4 W hr.l3 hr.hk hr.l4 hr.hv); rw [hxa] at CTX; rw [hya] at CTY; have HY := aM hyaml; have HF := aM hf; have HU := aM hu; clear hxa hya hx hy hyaml hf hu; obtain ⟨x0,x1,x2,x3,x4⟩ := x; obtain ⟨y0,y1,y2,y3,y4⟩ := y; obtain ⟨u0,u1,u2,u3,u4⟩ := u; have hb := zb (zb (zb (Below.refl w.heap.size w) (.cells #[.int .i64 x0, .int .i64 x1, .string x2, .slice A3 x3.length c3, .slice A4 x4.length c4] 31)) (.cells #[.int .i64 y0, .int .i64 y1, .string y2, .slice B3 y3.length d3, .slice B4 y4.length d4] 31)) (.cells #[.int .i64 0, .int .i64 0, .string ⟨#[]⟩, .slice none 0 0, .slice none 0 0] 31); have hbx : (((w.alloc (.cells #[.int .i64 x0, .int .i64 x1, .string x2, .slice A3 x3.length c3, .slice A4 x4.length c4] 31)).alloc (.cells #[.int .i64 y0, .int .i64 y1, .string y2, .slice B3 y3.length d3, .slice B4 y4.length d4] 31)).alloc (.cells #[.int .i64 0, .int .i64 0, .string ⟨#[]⟩, .slice none 0 0, .slice none 0 0] 31)).heap[w.heap.size]? = some (.cells #[.int .i64 x0, .int .i64 x1, .string x2, .slice A3 x3.length c3, .slice A4 x4.length c4] 31 (0,0)) := ze (ze (yw _ _) _) _
 have hby : (((w.alloc (.cells #[.int .i64 x0, .int .i64 x1, .string x2, .slice A3 x3.length c3, .slice A4 x4.length c4] 31)).alloc (.cells #[.int .i64 y0, .int .i64 y1, .string y2, .slice B3 y3.length d3, .slice B4 y4.length d4] 31)).alloc (.cells #[.int .i64 0, .int .i64 0, .string ⟨#[]⟩, .slice none 0 0, .slice none 0 0] 31)).heap[w.heap.size + 1]? = some (.cells #[.int .i64 y0, .int .i64 y1, .string y2, .slice B3 y3.length d3, .slice B4 y4.length d4] 31 (0,0)) := by
  have h := yw (w.alloc (.cells #[.int .i64 x0, .int .i64 x1, .string x2, .slice A3 x3.length c3, .slice A4 x4.length c4] 31)) (.cells #[.int .i64 y0, .int .i64 y1, .string y2, .slice B3 y3.length d3, .slice B4 y4.length d4] 31); rw [World.size_alloc] at h; exact ze h _
 have hbr : (((w.alloc (.cells #[.int .i64 x0, .int .i64 x1, .string x2, .slice A3 x3.length c3, .slice A4 x4.length c4] 31)).alloc (.cells #[.int .i64 y0, .int .i64 y1, .string y2, .slice B3 y3.length d3, .slice B4 y4.length d4] 31)).alloc (.cells #[.int .i64 0, .int .i64 0, .string ⟨#[]⟩, .slice none 0 0, .slice none 0 0] 31)).heap[w.heap.size + 2]? = some (.cells #[.int .i64 0, .int .i64 0, .string ⟨#[]⟩, .slice none 0 0, .slice none 0 0] 31 (0,0)) := by
  have h := yw ((w.alloc (.cells #[.int .i64 x0, .int .i64 x1, .string x2, .slice A3 x3.length c3, .slice A4 x4.length c4] 31)).alloc (.cells #[.int .i64 y0, .int .i64 y1, .string y2, .slice B3 y3.length d3, .slice B4 y4.length d4] 31)) (.cells #[.int .i64 0, .int .i64 0, .string ⟨#[]⟩, .slice none 0 0, .slice none 0 0] 31); rw [World.size_alloc,World.size_alloc] at h; exact h
 have HB := aM hb; have HR := aM hbr; have HR1 := aM (h1.below hb); have HR2 := aM (h2.below hb)
 have hsz : w.heap.size + 3 ≤ (((w.alloc (.cells #[.int .i64 x0, .int .i64 x1, .string x2, .slice A3 x3.length c3, .slice A4 x4.length c4] 31)).alloc (.cells #[.int .i64 y0, .int .i64 y1, .string y2, .slice B3 y3.length d3, .slice B4 y4.length d4] 31)).alloc (.cells #[.int .i64 0, .int .i64 0, .string ⟨#[]⟩, .slice none 0 0, .slice none 0 0] 31)).heap.size := by simp only [World.size_alloc]; omega
 have HSZ := aM hsz; obtain ⟨q0,q1,q2,q3,q4⟩ := xh hbx; obtain ⟨q5,q6,q7,q8,q9⟩ := xh hby; clear hb hbx hby hbr h1 h2 hsz
 go_enter Tryz.func8,Tryz.ntmps8
 go_wp2
 generalize hW0 : ((w.alloc (.cells #[.int .i64 x0, .int .i64 x1, .string x2, .slice A3 x3.length c3, .slice A4 x4.length c4] 31)).alloc (.cells #[.int .i64 y0, .int .i64 y1, .string y2, .slice B3 y3.length d3, .slice B4 y4.length d4] 31)).alloc (.cells #[.int .i64 0, .int .i64 0, .string ⟨#[]⟩, .slice none 0 0, .slice none 0 0] 31) = W0 at HB HR HR1 HR2 HSZ q0 q1 q2 q3 q4 q5 q6 q7 q8 q9 ⊢; clear hW0; refine xm (n := 13) (S := fun w' => w'.cell? ⟨w.heap.size,0,none⟩ = some (.int .i64 x0) ∧ w'.cell? ⟨w.heap.size,1,none⟩ = some (.int .i64 x1) ∧ w'.cell? ⟨w.heap.size,2,none⟩ = some (.string x2) ∧ w'.cell? ⟨w.heap.size,3,none⟩ = some (.slice A3 x3.length c3) ∧ w'.cell? ⟨w.heap.size,4,none⟩ = some (.slice A4 x4.length c4) ∧ w'.cell? ⟨w.heap.size + 1,0,none⟩ = some (.int .i64 y0) ∧ w'.cell? ⟨w.heap.size + 1,1,none⟩ = some (.int .i64 y1) ∧ w'.cell? ⟨w.heap.size + 1,2,none⟩ = some (.string y2) ∧ w'.cell? ⟨w.heap.size + 1,3,none⟩ = some (.slice B3 y3.length d3) ∧ w'.cell? ⟨w.heap.size + 1,4,none⟩ = some (.slice B4 y4.length d4)) (ds := [5,8,11]) (bZ 13 0) (by kernel_rfl) rfl rfl ⟨q0,q1,q2,q3,q4,q5,q6,q7,q8,q9⟩ (fun hHeld => ?_); refine pU 4 (some 12) (bZ 13 16) rfl (by kernel_rfl) ?_; refine tU 0 (some 8) (bZ 13 17) rfl (by kernel_rfl) (Or.inl ⟨by rfl,by rintro w' ⟨s0,s1,s2,s3,s4,s5,s6,s7,s8,s9⟩; go_simp; with_reducible rfl⟩) hHeld ?_; refine tU 2 (some 10) (bZ 13 21) rfl (by kernel_rfl) (Or.inl ⟨by rfl,by rintro w' ⟨s0,s1,s2,s3,s4,s5,s6,s7,s8,s9⟩; go_simp; with_reducible rfl⟩) hHeld ?_; refine one_ (i := 1) (N := some 9) (bZ 13 23) rfl rfl (by kernel_rfl) (by decide) (fun K hK => ?_); refine xc Tryz.func21 (by kernel_rfl) rfl #[.agg #[.int .i64 x0, .int .i64 x1, .string x2, .slice A3 x3.length c3, .slice A4 x4.length c4]] (by rfl) rfl rfl (by simp only [List.map_toArray,List.map_cons,List.map_nil]; rfl) ?_
 with_reducible refine (CTX.out _ (HR1.out.below (yh (Below.refl _ _)))).mono ?_
 rintro e v1 ⟨z1,rfl,ha1,hb1⟩; refine ⟨_,rfl, ?_⟩; have HA1 := aM ha1; have HB1 := aM hb1; clear ha1; refine hK.out _ _ ⟨zf hb1 (hHeld.1),zf hb1 (hHeld.2.1),zf hb1 (hHeld.2.2.1),zf hb1 (hHeld.2.2.2.1),zf hb1 (hHeld.2.2.2.2.1),zf hb1 (hHeld.2.2.2.2.2.1),zf hb1 (hHeld.2.2.2.2.2.2.1),zf hb1 (hHeld.2.2.2.2.2.2.2.1),zf hb1 (hHeld.2.2.2.2.2.2.2.2.1),zf hb1 (hHeld.2.2.2.2.2.2.2.2.2)⟩ (fun hHeld => ?_); clear hK K; refine zr (a' := ?_) ?_ ?_; rotate_left
 ·show Act.put _ (some 9) _ = _
  simp only [Act.put,sA,sB,sC,yf,yg]; rfl
 refine one_ (i := 3) (N := some 11) (bZ 13 31) rfl rfl (by kernel_rfl) (by decide) (fun K hK => ?_); refine xc Tryz.func21 (by kernel_rfl) rfl #[.agg #[.int .i64 y0, .int .i64 y1, .string y2, .slice B3 y3.length d3, .slice B4 y4.length d4]] (by rfl) rfl rfl (by simp only [List.map_toArray,List.map_cons,List.map_nil]; rfl) ?_
 with_reducible refine (CTY.out v1 (HR2.out.below (zm (yh (Below.refl _ _)) HB1.out))).mono ?_
 rintro e v2 ⟨z2,rfl,ha2,hb2⟩; refine ⟨_,rfl, ?_⟩; have HA2 := aM ha2; have HB2 := aM hb2; clear ha2; refine hK.out _ _ ⟨zf hb2 (hHeld.1),zf hb2 (hHeld.2.1),zf hb2 (hHeld.2.2.1),zf hb2 (hHeld.2.2.2.1),zf hb2 (hHeld.2.2.2.2.1),zf hb2 (hHeld.2.2.2.2.2.1),zf hb2 (hHeld.2.2.2.2.2.2.1),zf hb2 (hHeld.2.2.2.2.2.2.2.1),zf hb2 (hHeld.2.2.2.2.2.2.2.2.1),zf hb2 (hHeld.2.2.2.2.2.2.2.2.2)⟩ (fun hHeld => ?_); clear hK K; refine zr (a' := ?_) ?_ ?_; rotate_left
 ·show Act.put _ (some 11) _ = _
  simp only [Act.put,sA,sB,sC,yf,yg]; rfl
 refine xn (i := 5) (N := some 13) (bZ 13 63) rfl rfl (by kernel_rfl) (by decide) (fun K hK => ?_); refine xc Tryz.func20 (by kernel_rfl) rfl #[z1,z2, .string svB] (by rfl) rfl rfl (by simp only [List.map_toArray,List.map_cons,List.map_nil]; rfl) ?_
 with_reducible refine (HY.out v2 z1 z2 _ _ (HA1.out.keep HB2.out) HA2.out (fun j hj => Nat.lt_of_lt_of_le hj.2 HB2.out.size) (fun j hj => hj.2) (fun j h1 h2 => absurd h2.1 (Nat.not_le.2 h1.1.2))).mono ?_
 rintro e v3 ⟨z3,rfl,ha3,hT3⟩; refine ⟨_,rfl, ?_⟩; have HA3 := aM ha3; have HT3 := aM hT3; clear ha3 hT3; refine hK.out _ _ ?_; clear hK K; refine zr (a' := ?_) ?_ ?_; rotate_left
 ·show Act.put _ (some 13) _ = _
  simp only [Act.put,sA,sB,sC,yf,yg]; rfl
 refine pU 6 (some 14) (bZ 13 127) rfl (by kernel_rfl) ?_; refine pU 7 (some 15) (bZ 13 255) rfl (by kernel_rfl) ?_; refine xn (i := 8) (N := some 16) (bZ 13 511) rfl rfl (by kernel_rfl) (by decide) (fun K hK => ?_); refine xc Tryz.func19 (by kernel_rfl) rfl #[z3, .nilIface] (by rfl) rfl rfl (by simp only [List.map_toArray,List.map_cons,List.map_nil]; rfl) ?_
 with_reducible refine (value_told v3 HF.out HA3.out HU.out).mono ?_
 rintro e v4 ⟨u3_,u4_,rfl,hv3,hv4,hb4⟩; refine ⟨_,rfl, ?_⟩; have HV3 := aM hv3; have HV4 := aM hv4; have HB4 := aM hb4; clear hv3 hv4; refine hK.out _ _ ?_; clear hK K; refine zr (a' := ?_) ?_ ?_; rotate_left
 ·show Act.put _ (some 16) _ = _
  simp only [Act.put,sA,sB,sC,yf,yg]; rfl
 refine pU 9 (some 17) (bZ 13 1023) rfl (by kernel_rfl) ?_; refine pU 10 (some 18) (bZ 13 2047) rfl (by kernel_rfl) ?_; refine xn (i := 11) (N := none) (bZ 13 4095) rfl rfl (by kernel_rfl) (by decide) (fun K hK => ?_); obtain ⟨E3,e3,rfl⟩ := Kd.R_slice HV3.out; obtain ⟨E4,e4,rfl⟩ := Kd.R_slice HV4.out; have hb02 := zm (zm (yh (Below.refl W0.heap.size W0)) HB1.out) HB2.out
 have hlo : ∀ j,j < W0.heap.size → ¬ (W0.drew.heap.size ≤ j ∧ j < v1.heap.size) := fun j hj h => absurd h.1 (Nat.not_le.2 hj)
 have hb03 := HT3.out.below hb02 (fun j hj h => absurd h.1.1 (Nat.not_le.2 hj)); have hb04 := zm hb03 HB4.out; have HB04 := aM hb04; have HB03 := aM hb03; have HR4 := aM ((hb04.block _ (zn HR.out)).trans HR.out); clear hb02 hlo hb03 hb04; refine xg (w := v4) rfl rfl 31 (.tmp 6) (.tmp 17) rfl (w.heap.size + 2) #[.int .i64 u0, .int .i64 u1, .string u2, .slice E3 u3.length e3, .slice E4 u4.length e4] rfl rfl 31 _ HR4.out vx rfl (vr _ _ _ _ _ _ _ _ _) ?_; refine hK.out _ _ ?_; clear hK K; refine pU 12 (some 7) (bZ 13 8191) rfl (by kernel_rfl) ?_; refine xy (by kernel_rfl) ?_; have hb := HB.out.trans (HB04.out.mono HB.out.size); have hg := yi v4 (w.heap.size + 2) #[.int .i64 u0, .int .i64 u1, .string u2, .slice E3 u3.length e3, .slice E4 u4.length e4]; have HX := aM (setRow_heap v4 (w.heap.size + 2) _ #[.int .i64 u0, .int .i64 u1, .string u2, .slice E3 u3.length e3, .slice E4 u4.length e4] _ _ HR4.out); have HB8 := aM (zt hb (some (w.heap.size + 2)) hb.size hg (fun k hk => by have := Option.some.inj hk; omega))
 have hlt : w.heap.size + 2 < v3.heap.size := by have := HSZ.out; have := HB03.out.size; omega
 have hbase : w.heap.size ≤ v3.heap.size := by omega
 have G3 := aM (Kd.R_lower (base' := w.heap.size) (Kd.R_mono (ok' := fun _ => True) (Kd.R_move (Kd.R_bound HV3.out) (fun k hk => hg.block k hk.2.2.1 (fun e => by have h2 := Option.some.inj e; have h3 := hk.2.1; omega))) (fun _ _ => trivial)) hbase); have G4 := aM (Kd.R_lower (base' := w.heap.size) (Kd.R_mono (ok' := fun _ => True) (Kd.R_move (Kd.R_bound HV4.out) (fun k hk => hg.block k hk.2.2.1 (fun e => by have h2 := Option.some.inj e; have h3 := hk.2.1; omega))) (fun _ _ => trivial)) hbase); clear hg hb hbase hlt hb4 HV3 HV4 hHeld q0 q1 q2 q3 q4 q5 q6 q7 q8 q9
 go_wp2
 exact bodyPost_ret (v := .tuple #[.agg #[.int .i64 u0, .int .i64 u1, .string u2, .slice E3 u3.length e3, .slice E4 u4.length e4], .bool true]) (told_at rfl rfl rfl HX.out) rfl ⟨.slice E3 u3.length e3, .slice E4 u4.length e4,rfl,G3.out,G4.out,HB8.out⟩
end Go.Proofs.YtnmhjndjfblebaaGreatDoor.Tr
namespace Go.Proofs.YtnmhjndjfblebaaGreatDoor.Tr
open Go.RowKit Go.Proofs.YtnmhjndjfblebaaGreatDoorW.PrintWords Go.Proofs.YtnmhjndjfblebaaGreatDoorW.PrintLast
def Ends {α : Type} (P : α → Prop) (g : Nat → Option α) : Prop := ∃ r,Ev g r ∧ P r
section
variable {α β : Type} {P : α → Prop} {g f : Nat → Option α}
theorem Ends.of {r : α} (h : Ev g r) (hp : P r) : Ends P g := ⟨r,h,hp⟩
theorem Ev.ends {r : α} (h : Ev g r) : Ends (fun x => x = r) g := ⟨r,h,rfl⟩
theorem Ends.mono {Q : α → Prop} (h : Ends P g) (hq : ∀ r,P r → Q r) : Ends Q g := by
 obtain ⟨x,hx,hp⟩ := h; exact ⟨x,hx,hq x hp⟩
theorem Ends.now {r : α} (h : P r) : Ends P (fun _ => some r) := ⟨r,Ev.now r,h⟩
theorem Ends.ite {c : Prop} [Decidable c] (h1 : c → Ends P f) (h2 : ¬ c → Ends P g) : Ends P (fun k => if c then f k else g k) := by
 by_cases h : c
 ·obtain ⟨r,hr,hp⟩ := h1 h; exact ⟨r,Ev.congr (fun k => by rw [if_pos h]) hr,hp⟩
 ·obtain ⟨r,hr,hp⟩ := h2 h; exact ⟨r,Ev.congr (fun k => by rw [if_neg h]) hr,hp⟩
theorem Ends.yes {c : Prop} [Decidable c] (hc : c) (h : Ends P f) : Ends P (fun k => if c then f k else g k) := Ends.ite (fun _ => h) (fun n => absurd hc n)
theorem Ends.no {c : Prop} [Decidable c] (hc : ¬ c) (h : Ends P g) : Ends P (fun k => if c then f k else g k) := Ends.ite (fun n => absurd n hc) (fun _ => h)
theorem Ends.bind {Q : β → Prop} {u : Nat → Option β} {v : Nat → β → Option α} (hu : Ends Q u) (hv : ∀ a,Q a → Ends P (fun k => v k a)) : Ends P (fun k => (u k).bind (v k)) := by
 obtain ⟨a,ha,hq⟩ := hu; obtain ⟨r,hr,hp⟩ := hv a hq; exact ⟨r,Ev.bind ha hr,hp⟩
theorem Ends.bindEv {u : Nat → Option β} {v : Nat → β → Option α} {a : β} (hu : Ev u a) (hv : Ends P (fun k => v k a)) : Ends P (fun k => (u k).bind (v k)) := Ends.bind (Ev.ends hu) (fun _ h => by rw [h]; exact hv)
theorem Ends.step (h : ∀ k,g (k + 1) = f k) (k : Ends P f) : Ends P g := by
 obtain ⟨r,hr,hp⟩ := k; exact ⟨r,Ev.step h hr,hp⟩
theorem Ends.congr (h : ∀ k,g k = f k) (k : Ends P f) : Ends P g := by
 obtain ⟨r,hr,hp⟩ := k; exact ⟨r,Ev.congr h hr,hp⟩
end
end Go.Proofs.YtnmhjndjfblebaaGreatDoor.Tr
namespace Go.Proofs.YtnmhjndjfblebaaGreatDoor.Tr
open Go.RowKit Go.Proofs.YtnmhjndjfblebaaGreatDoorW.PrintWords Go.Proofs.YtnmhjndjfblebaaGreatDoorW.PrintLast Go.Proofs.YtnmhjndjfblebaaGreatDoor.Str Go.Proofs.YtnmhjndjfblebaaGreatDoor.Kit Go.Proofs.YtnmhjndjfblebaaGreatDoor.MapV Go.Proofs.YtnmhjndjfblebaaGreatDoor.Frame Go.Proofs.YtnmhjndjfblebaaGreatDoor.PS
structure Reads (w : World) (x : VS) (A3 : Option Addr) (c3 : Nat) (A4 : Option Addr) (c4 : Nat) : Prop where
 l3 : x.f3.length ≤ c3
 hk : Kd.string.C w A3 x.f3.length x.f3
 l4 : x.f4.length ≤ c4
 hv : kS.C w A4 x.f4.length x.f4
theorem Reads.below {w w1 : World} {x : VS} {A3 A4 : Option Addr} {c3 c4 : Nat} (h : Reads w x A3 c3 A4 c4) (hb : Below w.heap.size w w1) : Reads w1 x A3 c3 A4 c4 := ⟨h.l3,Kd.C_below h.hk hb,h.l4,Kd.C_below h.hv hb⟩
def Gives (x : VS) (w : World) (e : Ending) (w' : World) : Prop := ∃ A3 c3 A4 c4,e = .returned (.agg #[.int .i64 x.f0, .int .i64 x.f1, .string x.f2, .slice A3 x.f3.length c3, .slice A4 x.f4.length c4]) ∧ Reads w' x A3 c3 A4 c4 ∧ Below w.heap.size w w'
def mapsOf (ks : List BA) (vs : List VS) : VS := ⟨5,0,⟨#[]⟩,(fitW ks vs [] []).1,(fitW ks vs [] []).2⟩
abbrev zC : Array Value := #[.int .i64 0, .int .i64 0, .string ⟨#[]⟩, .slice none 0 0, .slice none 0 0]
theorem empty_gives (w : World) : Calls Tryz.prog 16 #[] w fun e w' => e = .returned (.agg #[.int .i64 5, .int .i64 0, .string ⟨#[]⟩, .slice none 0 0, .slice none 0 0]) ∧ Below w.heap.size w w' := by
 have h0 := yw w (.cells #[.int .i64 0, .int .i64 0, .string ⟨#[]⟩, .slice none 0 0, .slice none 0 0] 25); have HB := aM ((Below.refl _ w).alloc (Nat.le_refl _) (.cells #[.int .i64 0, .int .i64 0, .string ⟨#[]⟩, .slice none 0 0, .slice none 0 0] 25))
 go_enter Tryz.func16,Tryz.ntmps16
 go_wp2_with (refine vt (.tmp 0) (.tmp 1) rfl rfl rfl rfl h0 ?_)
 exact bodyPost_ret (v := .agg #[.int .i64 5, .int .i64 0, .string ⟨#[]⟩, .slice none 0 0, .slice none 0 0]) (vp rfl rfl (setRow_heap _ _ _ _ _ _ h0)) rfl ⟨rfl,zt HB.out (some w.heap.size) HB.out.size (yi _ w.heap.size _) (fun k hk => by injection hk with hk; have h2 : w.heap.size = k := hk; omega)⟩
theorem fits_reads (x : VS) (A3 A4 : Option Addr) (c3 c4 : Nat) (w : World) (h : Reads w x A3 c3 A4 c4) :
  Calls Tryz.prog 4 #[.agg #[.int .i64 x.f0, .int .i64 x.f1, .string x.f2, .slice A3 x.f3.length c3, .slice A4 x.f4.length c4]] w fun e w' => ∃ b,e = .returned (.bool b) ∧ Below w.heap.size w w' := by
 obtain ⟨b,hb⟩ := ev_zzFits1 x; obtain ⟨k,hk⟩ := hb.rounds; refine (laws_zzFits1.calls k x.f0 x.f1 x.f2 A3 c3 x.f3 A4 c4 x.f4 b w h.hk h.l3 h.hv h.l4 hk).mono ?_; rintro e w1 ⟨rfl,hb1⟩; exact ⟨b,rfl,hb1⟩
def GivesS (x : VS) (w : World) (e : Ending) (w' : World) : Prop := ∃ A3 c3 A4 c4,e = .returned (.agg #[.int .i64 x.f0, .int .i64 x.f1, .string x.f2, .slice A3 x.f3.length c3, .slice A4 x.f4.length c4]) ∧ (∀ W : World,(∀ k,w.heap.size ≤ k → k < w'.heap.size → W.heap[k]? = w'.heap[k]?) → Reads W x A3 c3 A4 c4) ∧ Below w.heap.size w w'
theorem fit_gives (x : VS) (hx : SmallS x) (A3 A4 : Option Addr) (c3 c4 : Nat) (w : World) (h : Reads w x A3 c3 A4 c4) :
  Calls Tryz.prog 5 #[.agg #[.int .i64 x.f0, .int .i64 x.f1, .string x.f2, .slice A3 x.f3.length c3, .slice A4 x.f4.length c4]] w (GivesS (fitV x) w) := by
 have hF := ev_Fit x hx
 unfold FitEv at hF
 obtain ⟨k,hk⟩ := hF.rounds; refine (spec_Fit.calls k x.f0 x.f1 x.f2 A3 c3 x.f3 A4 c4 x.f4 _ _ _ _ _ w h.hk h.l3 h.hv h.l4 hk).mono ?_; rintro e w1 ⟨v3,v4,rfl,hr3,hr4,hb⟩; obtain ⟨B3,d3,rfl⟩ := Kd.R_slice hr3; obtain ⟨B4,d4,rfl⟩ := Kd.N_slice hr4; refine ⟨B3,d3,B4,d4,rfl,fun W hW => ?_,hb⟩; have h3 := Kd.R_reads' (Kd.R_step hr3 (fun k hk hl => hW k hk hl)); have h4 := Kd.N_reads' (Kd.N_step hr4 (fun k hk hl => hW k hk.1 hl)); exact ⟨h3.2.1,h3.2.2,h4.2.1,h4.2.2⟩
theorem SmallS.short {x : VS} (h : SmallS x) : Short x := by
 induction h with
 | mk x ht hk hkl hvl hv ih => exact .mk x hkl hvl ih
theorem SmallS.at {x v : VS} (h : SmallS x) (hv : v ∈ x.f4) : SmallS v := by
 cases h with
 | mk _ _ _ _ _ h => exact h v hv
theorem SmallS.textIn {x : VS} (h : SmallS x) : x.f2.size < 4611686018427387904 := by
 cases h with
 | mk _ ht _ _ _ _ => omega
theorem SmallS.vals {x : VS} (h : SmallS x) : x.f4.length ≤ 1759218604400 := by
 cases h with
 | mk _ _ _ _ h _ => exact h
theorem Canon.at {x v : VS} (h : Canon x) (hv : v ∈ x.f4) : Canon v := by
 cases h with
 | list l h => exact h v hv
 | map ks vs hr hl h => exact h v hv
 | _ => cases hv
theorem need_str (v : Value) (w : World) : (Instr.typeAssert (.iface 9 v) 20 9 false).run Tryz.prog w = .ok v w := by kernel_rfl
theorem need_val (v : Value) (w : World) : (Instr.typeAssert (.iface 25 v) 20 25 false).run Tryz.prog w = .ok v w := by kernel_rfl
end Go.Proofs.YtnmhjndjfblebaaGreatDoor.Tr
namespace Go.Proofs.YtnmhjndjfblebaaGreatDoor.Tr
open Go.RowKit Go.Proofs.YtnmhjndjfblebaaGreatDoorW.PrintWords Go.Proofs.YtnmhjndjfblebaaGreatDoorW.PrintLast Go.Proofs.YtnmhjndjfblebaaGreatDoor.Str Go.Proofs.YtnmhjndjfblebaaGreatDoor.Kit Go.Proofs.YtnmhjndjfblebaaGreatDoor.MapV Go.Proofs.YtnmhjndjfblebaaGreatDoor.Frame Go.Proofs.YtnmhjndjfblebaaGreatDoor.PS
open Go.Proofs.YtnmhjndjfblebaaGreatDoor.Val (place placeI placeB)
theorem mapsOf_one (k : BA) (x : VS) : mapsOf [k] [x] = ⟨5,0,⟨#[]⟩, [k], [x]⟩ := by
 unfold mapsOf
 simp [fitW,withK,withV,placeI,placeB]
set_option maxHeartbeats 3200000 in
set_option maxRecDepth 100000 in
theorem says_service (s : BA) (x : VS) (b : Bool) (A3 A4 : Option Addr) (c3 c4 : Nat) (w : World) (h : Reads w ⟨5,0,⟨#[]⟩, [s], [x]⟩ A3 c3 A4 c4)
  (hattr : ∀ (W : World) (B3 B4 : Option Addr) (d3 d4 : Nat),Reads W x B3 d3 B4 d4 → Calls Tryz.prog 18 #[.string s, .agg #[.int .i64 x.f0, .int .i64 x.f1, .string x.f2, .slice B3 x.f3.length d3, .slice B4 x.f4.length d4]] W fun e w' => e = .returned (.bool b) ∧ Below W.heap.size W w') :
  Calls Tryz.prog 7 #[.agg #[.int .i64 5, .int .i64 0, .string ⟨#[]⟩, .slice A3 1 c3, .slice A4 1 c4]] w fun e w' => e = .returned (.bool b) ∧ Below w.heap.size w w' := by
 have hb1 := zb (Below.refl w.heap.size w) (.cells #[.int .i64 5, .int .i64 0, .string ⟨#[]⟩, .slice A3 1 c3, .slice A4 1 c4] 25); have hr1 := h.below hb1; obtain ⟨bk,ok,rfl, _,hk⟩ := strs_open hr1.hk (by simp); obtain ⟨bv,ov,rfl, _,hv⟩ := kS_at hr1.hv (by simp); obtain ⟨B3,d3,B4,d4,g0,g1,g2,g3,g4,l3,r3,l4,r4⟩ := hv 0 (by simp); have g5 := hk 0 (by simp); have hx0 := yw w (.cells #[.int .i64 5, .int .i64 0, .string ⟨#[]⟩, .slice (some ⟨bk,ok,none⟩) 1 c3, .slice (some ⟨bv,ov,none⟩) 1 c4] 25); simp only [List.getElem_cons_zero,Nat.zero_mul,Nat.add_zero] at g0 g1 g2 g3 g4 g5 l3 r3 l4 r4; have HR := aM (show Reads _ x B3 d3 B4 d4 from ⟨l3,r3,l4,r4⟩); have HX := aM hx0; have HB := aM hb1; have CA := aM hattr; have y3 := zu (i := 3) hx0 rfl; have y4 := zu (i := 4) hx0 rfl; clear h hr1 hk hv l3 r3 l4 r4 hattr hb1; obtain ⟨x0,x1,x2,x3,x4⟩ := x
 go_enter Tryz.func7,Tryz.ntmps7
 go_wp2
 generalize hW1 : w.alloc _ = W1 at HR HX HB y3 y4 g0 g1 g2 g3 g4 g5 ⊢; clear hW1 hx0
 go_loopw [3] (fun v3 wr => (v3 = .int .i64 0 ∧ wr = W1) ∨ (v3 = .int .i64 1 ∧ Aside0 (b = true ∧ Below w.heap.size w wr) ∧ Aside0 (wr.heap[w.heap.size]? = some (.cells #[.int .i64 5, .int .i64 0, .string ⟨#[]⟩, .slice (some ⟨bk,ok,none⟩) 1 c3, .slice (some ⟨bv,ov,none⟩) 1 c4] 25 (0,0))))) (fun v3 _ => 1 - (intOf v3).toNat)
 case atStart => exact .inl ⟨rfl,rfl⟩
 case round =>
  rcases hrel with ⟨rfl,rfl⟩ | ⟨rfl,HF,HY⟩
  rotate_left
  ·have z3 := zu (i := 3) HY.out rfl; have z0 := zu (i := 0) HY.out rfl; clear HR HX HB CA g0 g1 g2 g3 g4 g5 y3 y4
   go_wp2
   go_ret
   exact ⟨by rw [HF.out.1]; rfl,HF.out.2⟩
  ·go_wp2
   refine xm (n := 12) (S := fun w' => w'.cell? ⟨w.heap.size,3,none⟩ = some (.slice (some ⟨bk,ok,none⟩) 1 c3) ∧ w'.cell? ⟨w.heap.size,4,none⟩ = some (.slice (some ⟨bv,ov,none⟩) 1 c4) ∧ w'.cell? ⟨bk,ok,none⟩ = some (.string s) ∧ w'.cell? ⟨bv,ov,none⟩ = some (.int .i64 x0) ∧ w'.cell? ⟨bv,ov + 1,none⟩ = some (.int .i64 x1) ∧ w'.cell? ⟨bv,ov + 2,none⟩ = some (.string x2) ∧ w'.cell? ⟨bv,ov + 3,none⟩ = some (.slice B3 x3.length d3) ∧ w'.cell? ⟨bv,ov + 4,none⟩ = some (.slice B4 x4.length d4)) (ds := [10]) (bZ 12 0) (by kernel_rfl) rfl rfl ⟨y3,y4,g5,g0,g1,g2,g3,g4⟩ (fun hHeld => ?_); refine pU 0 (some 11) (bZ 12 1) rfl (by kernel_rfl) ?_; refine pU 2 (some 13) (bZ 12 5) rfl (by kernel_rfl) ?_; refine pU 5 (some 16) (bZ 12 37) rfl (by kernel_rfl) ?_; refine pU 7 (some 18) (bZ 12 165) rfl (by kernel_rfl) ?_; refine tU 1 (some 12) (bZ 12 167) rfl (by kernel_rfl) (Or.inl ⟨by rfl,by rintro w' ⟨s0,s1,s2,s3,s4,s5,s6,s7⟩; go_simp; with_reducible rfl⟩) hHeld ?_; refine pU 3 (some 14) (bZ 12 175) rfl (by kernel_rfl) ?_; refine tU 4 (some 15) (bZ 12 191) rfl (by kernel_rfl) (Or.inl ⟨by rfl,by rintro w' ⟨s0,s1,s2,s3,s4,s5,s6,s7⟩; go_simp; with_reducible rfl⟩) hHeld ?_; refine tU 6 (some 17) (bZ 12 255) rfl (by kernel_rfl) (Or.inl ⟨by rfl,by rintro w' ⟨s0,s1,s2,s3,s4,s5,s6,s7⟩; go_simp; with_reducible rfl⟩) hHeld ?_; refine pU 8 (some 19) (bZ 12 511) rfl (by kernel_rfl) ?_; refine tU 9 (some 20) (bZ 12 1023) rfl (by kernel_rfl) (Or.inl ⟨by rfl,by rintro w' ⟨s0,s1,s2,s3,s4,s5,s6,s7⟩; go_simp; with_reducible rfl⟩) hHeld ?_; refine xn (i := 10) (N := some 21) (bZ 12 2047) rfl rfl (by kernel_rfl) (by decide) (fun K hK => ?_); refine xc Tryz.func18 (by kernel_rfl) rfl #[.string s, .agg #[.int .i64 x0, .int .i64 x1, .string x2, .slice B3 x3.length d3, .slice B4 x4.length d4]] (by rfl) rfl rfl (by simp only [List.map_toArray,List.map_cons,List.map_nil]; rfl) ?_
   with_reducible refine (CA.out _ B3 B4 d3 d4 (HR.out.below (yh (Below.refl _ _)))).mono ?_
   rintro e w5 ⟨rfl,hb5⟩; refine ⟨_,rfl, ?_⟩; have HB5 := aM (zm (yh HB.out) hb5); have HX5 := aM ((hb5.block _ (zn HX.out)).trans HX.out); clear hb5; refine hK.out _ _ ?_; clear hK K; refine zr (a' := ?_) ?_ ?_; rotate_left
   ·show Act.put _ (some 21) _ = _
    simp only [Act.put,sA,sB,sC,yf,yg]; rfl
   refine pU 11 (some 22) (bZ 12 4095) rfl (by kernel_rfl) ?_; refine xy (by kernel_rfl) ?_
   cases b
   ·go_wp2
    go_ret
    exact ⟨rfl,HB5.out⟩
   ·go_wp2
    go_roundw
    case rel => exact .inr ⟨by go_num,⟨by first | rfl | trivial,HB5.out⟩,HX5⟩
    case measure => first | decide | omega | (simp; done) | skip
theorem toldS_at {fn : Func} {p q : Tmp} (hr : fn.results = #[.cell p 25, .tmp q]) {tmps : Array Value} {W : World} {b n3 c3 n4 c4 : Nat} {k n : Int} {t : BA} {A3 A4 : Option Addr} {f : Bool} (hp : tmps.getD p undef = .pointer (some ⟨b,0,none⟩)) (h3 : tmps.getD q undef = .bool f) (hb : W.heap[b]? = some (.cells #[.int .i64 k, .int .i64 n, .string t, .slice A3 n3 c3, .slice A4 n4 c4] 25 (0,0))) :
  (results fn tmps).run Tryz.prog W = .ok (.tuple #[.agg #[.int .i64 k, .int .i64 n, .string t, .slice A3 n3 c3, .slice A4 n4 c4], .bool f]) W := by
 have := results_ct (P := Tryz.prog) hr tmps W b 25 _ (0,0) _ hp hb Tryz.underlying25 rfl xz; rw [h3] at this; exact this
set_option maxHeartbeats 3200000 in
set_option maxRecDepth 100000 in
theorem getP (nm : Int) (t : BA) (ks : List BA) (key : BA) {A3 : Option Addr} {c3 n4 c4 : Nat} (bk off i : Nat) (e0 e1 : Int) (e2 : BA) (B3 B4 : Option Addr) (m3 d3 m4 d4 : Nat) (w : World) (hk : Kd.string.C w A3 ks.length ks) (hn : ks.length ≤ 8796093022000) (hi : placeI ks key = i) (hpb : placeB ks key = true) (hin : i < n4) (hn4 : n4 ≤ 1759218604400)
  (g0 : w.cell? ⟨bk,off + i * 5,none⟩ = some (.int .i64 e0)) (g1 : w.cell? ⟨bk,off + i * 5 + 1,none⟩ = some (.int .i64 e1)) (g2 : w.cell? ⟨bk,off + i * 5 + 2,none⟩ = some (.string e2)) (g3 : w.cell? ⟨bk,off + i * 5 + 3,none⟩ = some (.slice B3 m3 d3)) (g4 : w.cell? ⟨bk,off + i * 5 + 4,none⟩ = some (.slice B4 m4 d4)) :
  Calls Tryz.prog 48 #[.agg #[.int .i64 5, .int .i64 nm, .string t, .slice A3 ks.length c3, .slice (some ⟨bk,off,none⟩) n4 c4], .string key] w fun e w' => e = .returned (.tuple #[.agg #[.int .i64 e0, .int .i64 e1, .string e2, .slice B3 m3 d3, .slice B4 m4 d4], .bool true]) ∧ Below w.heap.size w w' := by
 have hbx := zb (zb (Below.refl w.heap.size w) (.cells #[.int .i64 5, .int .i64 nm, .string t, .slice A3 ks.length c3, .slice (some ⟨bk,off,none⟩) n4 c4] 25)) (.cells #[.int .i64 0, .int .i64 0, .string ⟨#[]⟩, .slice none 0 0, .slice none 0 0] 25); have hx0 : ((w.alloc (.cells #[.int .i64 5, .int .i64 nm, .string t, .slice A3 ks.length c3, .slice (some ⟨bk,off,none⟩) n4 c4] 25)).alloc (.cells #[.int .i64 0, .int .i64 0, .string ⟨#[]⟩, .slice none 0 0, .slice none 0 0] 25)).heap[w.heap.size]? = some (.cells #[.int .i64 5, .int .i64 nm, .string t, .slice A3 ks.length c3, .slice (some ⟨bk,off,none⟩) n4 c4] 25 (0,0)) := ze (yw _ _) _
 have hz0 : ((w.alloc (.cells #[.int .i64 5, .int .i64 nm, .string t, .slice A3 ks.length c3, .slice (some ⟨bk,off,none⟩) n4 c4] 25)).alloc (.cells #[.int .i64 0, .int .i64 0, .string ⟨#[]⟩, .slice none 0 0, .slice none 0 0] 25)).heap[w.heap.size + 1]? = some (.cells #[.int .i64 0, .int .i64 0, .string ⟨#[]⟩, .slice none 0 0, .slice none 0 0] 25 (0,0)) := by
  have h := yw (w.alloc (.cells #[.int .i64 5, .int .i64 nm, .string t, .slice A3 ks.length c3, .slice (some ⟨bk,off,none⟩) n4 c4] 25)) (.cells #[.int .i64 0, .int .i64 0, .string ⟨#[]⟩, .slice none 0 0, .slice none 0 0] 25); rw [World.size_alloc] at h; exact h
 have CP := aM (place 5 nm t (c3 := c3) (A4 := some ⟨bk,off,none⟩) (n4 := n4) (c4 := c4) ks key _ (Kd.C_below hk hbx) (by omega)); rw [hi,hpb] at CP; have HB := aM hbx; have HX := aM hx0; have HZ := aM hz0; have HG := aM (And.intro g0 (And.intro g1 (And.intro g2 (And.intro g3 g4)))); clear hbx hz0 hk hi hpb g0 g1 g2 g3 g4
 go_enter Tryz.func48,Tryz.ntmps48
 go_wp2_with (refine xr (.tmp 2) rfl rfl rfl hx0 ?_)
 refine CP.out.mono ?_; rintro e w3 ⟨rfl,hb⟩; have HB3 := aM (zm HB.out hb); have hx3 := (hb.block _ (zn HX.out)).trans HX.out; have hz3 := (hb.block _ (zn HZ.out)).trans HZ.out; have y4 := zu (i := 4) hx3 rfl; have g0 := zf HB3.out HG.out.1; have g1 := zf HB3.out HG.out.2.1; have g2 := zf HB3.out HG.out.2.2.1; have g3 := zf HB3.out HG.out.2.2.2.1; have g4 := zf HB3.out HG.out.2.2.2.2
 have q0 : (0 : Int) ≤ (i : Int) := by omega
 have q1 : (i : Int) < (n4 : Int) := by omega
 have hg := yi w3 (w.heap.size + 1) #[.int .i64 e0, .int .i64 e1, .string e2, .slice B3 m3 d3, .slice B4 m4 d4]; have HR := aM (setRow_heap w3 (w.heap.size + 1) _ #[.int .i64 e0, .int .i64 e1, .string e2, .slice B3 m3 d3, .slice B4 m4 d4] _ _ hz3); have HB8 := aM (zt HB3.out (some (w.heap.size + 1)) HB3.out.size hg (fun k hk => by have := Option.some.inj hk; omega)); clear hb hg CP hx0
 go_wp2_with (refine vt (.tmp 4) (.tmp 25) rfl rfl rfl rfl hz3 ?_)
 exact bodyPost_ret (v := .tuple #[.agg #[.int .i64 e0, .int .i64 e1, .string e2, .slice B3 m3 d3, .slice B4 m4 d4], .bool true]) (toldS_at rfl rfl rfl HR.out) rfl ⟨rfl,HB8.out⟩
end Go.Proofs.YtnmhjndjfblebaaGreatDoor.Tr
namespace Go.Proofs.YtnmhjndjfblebaaGreatDoor.PS
open Go.RowKit Go.Proofs.YtnmhjndjfblebaaGreatDoorW.PrintWords Go.Proofs.YtnmhjndjfblebaaGreatDoorW.PrintLast Go.Proofs.YtnmhjndjfblebaaGreatDoorW.PrintMore
attribute [local go_sem] xl xj xv xu xe xd xk xi 
theorem sayWordisE_ (l : List UInt8) : l.isEmpty = (l == []) := by cases l <;> rfl
theorem nsayWordisE_ (l : List UInt8) : (!l.isEmpty) = (l != []) := by cases l <;> rfl
def spec_sayWord.l0 : Nat → ByteArray → Int → Option (Bool)
 | 0, _, _ => none
 | k + 1,x0,x3 => if x3 < (x0.size : Int) then (if 0 ≤ x3 then (if (bt x0 x3) < 33 then (some false) else (if (bt x0 x3) > 126 then (some false) else ((spec_sayIn.f k (strOfNums (([bt x0 x3] : List Int))) (([(⟨#[61]⟩ : ByteArray),(⟨#[36]⟩ : ByteArray),(⟨#[58]⟩ : ByteArray),(⟨#[34]⟩ : ByteArray),(⟨#[39]⟩ : ByteArray),(⟨#[92]⟩ : ByteArray),(⟨#[126]⟩ : ByteArray)] : List ByteArray))).bind fun t216 => (if t216 = true then (some false) else (spec_sayWord.l0 k x0 (wrap64 (x3 + 1))))))) else (none)) else (some (x0.toList != ([] : List UInt8)))
def spec_sayWord.f (k : Nat) (a0 : ByteArray) : Option (Bool) := spec_sayWord.l0 k a0 0
set_option maxHeartbeats 8000000 in
set_option maxRecDepth 100000 in
theorem spec_sayWord.calls (k : Nat) (a0 : ByteArray) (r : Bool) (w : World) (h : spec_sayWord.f k a0 = some r) :
  Calls Tryz.prog 44 #[.string a0] w fun e w' => e = .returned (.bool r) ∧ Below w.heap.size w w' := by
 have HB := aM (Below.refl w.heap.size w); have H : (spec_sayWord.l0 k a0 0) = some r := h; clear h; have H' := aM H; clear H
 go_enter Tryz.func44,Tryz.ntmps44
 go_wp2
 go_loopg [3] k (fun kq v3 w' => ∃ (x3_1 : Int),v3 = .int .i64 x3_1 ∧ Aside0 (spec_sayWord.l0 kq a0 x3_1 = some r) ∧ Aside0 (kq ≤ k) ∧ Aside0 (Below w.heap.size w w'))
 case atStart => exact ⟨(0),(by first | rfl | (simp; done) | (simp [*]; done)),H', ⟨Nat.le_refl _⟩,⟨by repeat (first | (with_reducible first | exact HB.out | apply zb | apply zc | apply zl) | exact HB.out)⟩⟩
 case round =>
  clear H'; obtain ⟨x3_1,rfl,HA,HK1,HB⟩ := hrel
  cases gk with
  | zero => exact absurd HA.out (by simp [spec_sayWord.l0])
  | succ k1 =>
   have H := HA.out; clear HA; simp only [spec_sayWord.l0] at H
   by_cases c2 : x3_1 < (a0.size : Int)
   ·rw [if_pos c2] at H; have c2b0 : decide (x3_1 < (a0.size : Int)) = true := decide_eq_true c2; clear c2
    by_cases c3 : 0 ≤ x3_1
    ·rw [if_pos c3] at H; have c3b0 : decide (0 ≤ x3_1) = true := decide_eq_true c3; clear c3
     by_cases c5 : (bt a0 x3_1) < 33
     ·rw [if_pos c5] at H; have c5b0 : decide ((bt a0 x3_1) < 33) = true := decide_eq_true c5; clear c5; obtain rfl := Option.some.inj H; have p4 : 0 ≤ (x3_1 : Int) := of_decide_eq_true (by first | (with_reducible assumption) | assumption); have q4 : x3_1 < (a0.size : Int) := of_decide_eq_true (by first | (with_reducible assumption) | assumption); have hx4 := bt_at a0 x3_1; replace p4 := eq_true p4; replace q4 := eq_true q4
      go_wp2
      go_ret
      exact ⟨by first | rfl | (simp [zz,zw] <;> rfl) | (simp [*, zz,zw] <;> rfl) | (refine congrArg (fun b_ => Ending.returned (.bool b_)) ?_; exact sayWordisE_ _) | (refine congrArg (fun b_ => Ending.returned (.bool b_)) ?_; exact nsayWordisE_ _),by repeat (first | (with_reducible first | exact HB.out | apply zb | apply zc | apply zl) | exact HB.out)⟩
     ·rw [if_neg c5] at H; have c5b0 : decide ((bt a0 x3_1) < 33) = false := decide_eq_false c5; clear c5
      by_cases c6 : (bt a0 x3_1) > 126
      ·rw [if_pos c6] at H; have c6b0 : decide (126 < (bt a0 x3_1)) = true := decide_eq_true c6; clear c6; obtain rfl := Option.some.inj H; have p4 : 0 ≤ (x3_1 : Int) := of_decide_eq_true (by first | (with_reducible assumption) | assumption); have q4 : x3_1 < (a0.size : Int) := of_decide_eq_true (by first | (with_reducible assumption) | assumption); have hx4 := bt_at a0 x3_1; replace p4 := eq_true p4; replace q4 := eq_true q4
       go_wp2
       go_ret
       exact ⟨by first | rfl | (simp [zz,zw] <;> rfl) | (simp [*, zz,zw] <;> rfl) | (refine congrArg (fun b_ => Ending.returned (.bool b_)) ?_; exact sayWordisE_ _) | (refine congrArg (fun b_ => Ending.returned (.bool b_)) ?_; exact nsayWordisE_ _),by repeat (first | (with_reducible first | exact HB.out | apply zb | apply zc | apply zl) | exact HB.out)⟩
      ·rw [if_neg c6] at H; have c6b0 : decide (126 < (bt a0 x3_1)) = false := decide_eq_false c6; clear c6
       obtain ⟨y210,hy210⟩ : ∃ y_ : List Int,y_ = (([bt a0 x3_1] : List Int)) := ⟨_,rfl⟩
       replace H : ((spec_sayIn.f k1 (strOfNums y210) (([(⟨#[61]⟩ : ByteArray),(⟨#[36]⟩ : ByteArray),(⟨#[58]⟩ : ByteArray),(⟨#[34]⟩ : ByteArray),(⟨#[39]⟩ : ByteArray),(⟨#[92]⟩ : ByteArray),(⟨#[126]⟩ : ByteArray)] : List ByteArray))).bind fun t216 => (if t216 = true then (some false) else (spec_sayWord.l0 k1 a0 (wrap64 (x3_1 + 1))))) = some r := by first | (rw [hy210]; with_reducible exact H) | (have H2_ := (Option.bind_some _ _).symm.trans H; rw [hy210]; with_reducible exact H2_) | (have H2_ := (Option.bind_some _ _).symm.trans H; with_reducible exact H2_) | with_reducible exact H | (rw [hy210]; exact H) | exact H
       have Ny210 := aM hy210; clear hy210
       obtain ⟨y213,hy213⟩ : ∃ y_ : List ByteArray,y_ = (([(⟨#[61]⟩ : ByteArray),(⟨#[36]⟩ : ByteArray),(⟨#[58]⟩ : ByteArray),(⟨#[34]⟩ : ByteArray),(⟨#[39]⟩ : ByteArray),(⟨#[92]⟩ : ByteArray),(⟨#[126]⟩ : ByteArray)] : List ByteArray)) := ⟨_,rfl⟩
       replace H : ((spec_sayIn.f k1 (strOfNums y210) y213).bind fun t216 => (if t216 = true then (some false) else (spec_sayWord.l0 k1 a0 (wrap64 (x3_1 + 1))))) = some r := by first | (rw [hy213]; with_reducible exact H) | (have H2_ := (Option.bind_some _ _).symm.trans H; rw [hy213]; with_reducible exact H2_) | (have H2_ := (Option.bind_some _ _).symm.trans H; with_reducible exact H2_) | with_reducible exact H | (rw [hy213]; exact H) | exact H
       have Ny213 := aM hy213; clear hy213; replace H := Option.bind_eq_some_iff.mp H; obtain ⟨t216,A70,H⟩ := H; replace H : (if t216 = true then (some false) else (spec_sayWord.l0 k1 a0 (wrap64 (x3_1 + 1)))) = some r := H; have A7 := aM A70; clear A70
       by_cases c8 : t216 = true
       ·subst c8
        have H1 : (some false) = some r := by rw [if_pos rfl] at H; exact H
        clear H; have H := H1; clear H1; obtain rfl := Option.some.inj H; have p4 : 0 ≤ (x3_1 : Int) := of_decide_eq_true (by first | (with_reducible assumption) | assumption); have q4 : x3_1 < (a0.size : Int) := of_decide_eq_true (by first | (with_reducible assumption) | assumption); have hx4 := bt_at a0 x3_1; replace p4 := eq_true p4; replace q4 := eq_true q4
        go_wp2_with (first | ((with_reducible refine yq (N := 22) rfl ?_); (try (refine yz (by rfl) ?_; dsimp only)); refine Kd.R_lit (Kd.int .u8) _ 5 ?hg (N := 22) ?hd (xs := ([bt a0 x3_1] : List Int)) (inner := [.int .u8 (bt a0 x3_1)]) (ok := fun _ => True) (okp := fun _ => True) ?hr ?hp (fun _ hk => hk) trivial (Below.refl _ _) (Nat.le_refl _) (by simp) ?_; (case hd => rfl); (case hg => rfl); (case hr => first | (go_simp; done) | (go_simp; rfl)); (case hp => exact (Reps.one (show Kd.M (Kd.int .u8) _ _ _ (bt a0 x3_1) [.int .u8 (bt a0 x3_1)] from rfl) (Reps.none _ _))); intro v211 w9 ho10 hb hg_ hnew_; clear hg_ hnew_; (first | rw [← Ny210.out] at ho10 | (simp only [Int.reduceToNat] at ho10; rw [← Ny210.out] at ho10)); have n0_ := aM (Kd.R_lower ho10 (zo (by repeat (first | (with_reducible first | exact HB.out | apply zb | apply zc | apply zl) | exact HB.out)))); have n1_ := aM (zv (by repeat (first | (with_reducible first | exact HB.out | apply zb | apply zc | apply zl) | exact HB.out)) hb); clear HB; have HO212 := n0_; have HB := n1_; clear n0_ n1_; clear hb ho10; have hcv11 := own_string (P := Tryz.prog) Tryz.underlying89 Tryz.underlying5 Tryz.underlying9 (Kd.own_of_R HO212.out)) | ((with_reducible refine yq (N := 24) rfl ?_); (try (refine yz (by rfl) ?_; dsimp only)); refine Kd.R_lit Kd.string _ 9 ?hg (N := 24) ?hd (xs := ([(⟨#[61]⟩ : ByteArray),(⟨#[36]⟩ : ByteArray),(⟨#[58]⟩ : ByteArray),(⟨#[34]⟩ : ByteArray),(⟨#[39]⟩ : ByteArray),(⟨#[92]⟩ : ByteArray),(⟨#[126]⟩ : ByteArray)] : List ByteArray)) (inner := [.string (⟨#[61]⟩ : ByteArray), .string (⟨#[36]⟩ : ByteArray), .string (⟨#[58]⟩ : ByteArray), .string (⟨#[34]⟩ : ByteArray), .string (⟨#[39]⟩ : ByteArray), .string (⟨#[92]⟩ : ByteArray), .string (⟨#[126]⟩ : ByteArray)]) (ok := fun _ => True) (okp := fun _ => True) ?hr ?hp (fun _ hk => hk) trivial (Below.refl _ _) (Nat.le_refl _) (by simp) ?_; (case hd => rfl); (case hg => rfl); (case hr => first | (go_simp; done) | (go_simp; rfl)); (case hp => exact (Reps.one (show Kd.M Kd.string _ _ _ (⟨#[61]⟩ : ByteArray) [.string (⟨#[61]⟩ : ByteArray)] from rfl) (Reps.one (show Kd.M Kd.string _ _ _ (⟨#[36]⟩ : ByteArray) [.string (⟨#[36]⟩ : ByteArray)] from rfl) (Reps.one (show Kd.M Kd.string _ _ _ (⟨#[58]⟩ : ByteArray) [.string (⟨#[58]⟩ : ByteArray)] from rfl) (Reps.one (show Kd.M Kd.string _ _ _ (⟨#[34]⟩ : ByteArray) [.string (⟨#[34]⟩ : ByteArray)] from rfl) (Reps.one (show Kd.M Kd.string _ _ _ (⟨#[39]⟩ : ByteArray) [.string (⟨#[39]⟩ : ByteArray)] from rfl) (Reps.one (show Kd.M Kd.string _ _ _ (⟨#[92]⟩ : ByteArray) [.string (⟨#[92]⟩ : ByteArray)] from rfl) (Reps.one (show Kd.M Kd.string _ _ _ (⟨#[126]⟩ : ByteArray) [.string (⟨#[126]⟩ : ByteArray)] from rfl) (Reps.none _ _))))))))); intro v214 w12 ho13 hb hg_ hnew_; clear hg_ hnew_; (first | rw [← Ny213.out] at ho13 | (simp only [Int.reduceToNat] at ho13; rw [← Ny213.out] at ho13)); have n0_ := aM (Kd.R_below (by (with_reducible repeat (first | apply Kd.R_alloc | apply Kd.R_drewN | apply Kd.R_drew)); exact HO212.out) hb); have n1_ := aM (Kd.R_lower ho13 (zo (by repeat (first | (with_reducible first | exact HB.out | apply zb | apply zc | apply zl) | exact HB.out)))); have n2_ := aM (zv (by repeat (first | (with_reducible first | exact HB.out | apply zb | apply zc | apply zl) | exact HB.out)) hb); clear HO212; clear HB; have HO212 := n0_; have HO215 := n1_; have HB := n2_; clear n0_ n1_ n2_; clear hb ho13; obtain ⟨Ao14,co14,eo14⟩ := Kd.R_slice HO215.out; subst eo14) | (go_at_call 23; (with_reducible refine (spec_sayIn.calls k1 (strOfNums y210) _ _ y213 true _ ?side1 ?side2 A7.out).mono ?_); (case side1 => repeat (first | exact (Kd.R_reads' HO215.out).2.2 | (with_reducible refine Kd.C_alloc ?_ _) | (with_reducible refine Kd.C_drewN ?_ _) | (with_reducible refine Kd.C_drew ?_))); (case side2 => exact (Kd.R_reads' HO215.out).2.1); rintro e w' ⟨rfl,⟨nd,rfl⟩⟩))
        go_ret
        exact ⟨by first | rfl | (simp [zz,zw] <;> rfl) | (simp [*, zz,zw] <;> rfl) | (refine congrArg (fun b_ => Ending.returned (.bool b_)) ?_; exact sayWordisE_ _) | (refine congrArg (fun b_ => Ending.returned (.bool b_)) ?_; exact nsayWordisE_ _),by repeat (first | (with_reducible first | exact HB.out | apply zb | apply zc | apply zl) | exact HB.out)⟩
       ·replace c8 := Bool.eq_false_iff.mpr c8; subst c8
        have H1 : (spec_sayWord.l0 k1 a0 (wrap64 (x3_1 + 1))) = some r := by rw [if_neg (show ¬ (false = true) by decide)] at H; exact H
        clear H; have H := H1; clear H1; have H' := aM H; clear H; have p4 : 0 ≤ (x3_1 : Int) := of_decide_eq_true (by first | (with_reducible assumption) | assumption); have q4 : x3_1 < (a0.size : Int) := of_decide_eq_true (by first | (with_reducible assumption) | assumption); have hx4 := bt_at a0 x3_1; replace p4 := eq_true p4; replace q4 := eq_true q4
        go_wp2_with (first | ((with_reducible refine yq (N := 22) rfl ?_); (try (refine yz (by rfl) ?_; dsimp only)); refine Kd.R_lit (Kd.int .u8) _ 5 ?hg (N := 22) ?hd (xs := ([bt a0 x3_1] : List Int)) (inner := [.int .u8 (bt a0 x3_1)]) (ok := fun _ => True) (okp := fun _ => True) ?hr ?hp (fun _ hk => hk) trivial (Below.refl _ _) (Nat.le_refl _) (by simp) ?_; (case hd => rfl); (case hg => rfl); (case hr => first | (go_simp; done) | (go_simp; rfl)); (case hp => exact (Reps.one (show Kd.M (Kd.int .u8) _ _ _ (bt a0 x3_1) [.int .u8 (bt a0 x3_1)] from rfl) (Reps.none _ _))); intro v211 w15 ho16 hb hg_ hnew_; clear hg_ hnew_; (first | rw [← Ny210.out] at ho16 | (simp only [Int.reduceToNat] at ho16; rw [← Ny210.out] at ho16)); have n0_ := aM (Kd.R_lower ho16 (zo (by repeat (first | (with_reducible first | exact HB.out | apply zb | apply zc | apply zl) | exact HB.out)))); have n1_ := aM (zv (by repeat (first | (with_reducible first | exact HB.out | apply zb | apply zc | apply zl) | exact HB.out)) hb); clear HB; have HO212 := n0_; have HB := n1_; clear n0_ n1_; clear hb ho16; have hcv17 := own_string (P := Tryz.prog) Tryz.underlying89 Tryz.underlying5 Tryz.underlying9 (Kd.own_of_R HO212.out)) | ((with_reducible refine yq (N := 24) rfl ?_); (try (refine yz (by rfl) ?_; dsimp only)); refine Kd.R_lit Kd.string _ 9 ?hg (N := 24) ?hd (xs := ([(⟨#[61]⟩ : ByteArray),(⟨#[36]⟩ : ByteArray),(⟨#[58]⟩ : ByteArray),(⟨#[34]⟩ : ByteArray),(⟨#[39]⟩ : ByteArray),(⟨#[92]⟩ : ByteArray),(⟨#[126]⟩ : ByteArray)] : List ByteArray)) (inner := [.string (⟨#[61]⟩ : ByteArray), .string (⟨#[36]⟩ : ByteArray), .string (⟨#[58]⟩ : ByteArray), .string (⟨#[34]⟩ : ByteArray), .string (⟨#[39]⟩ : ByteArray), .string (⟨#[92]⟩ : ByteArray), .string (⟨#[126]⟩ : ByteArray)]) (ok := fun _ => True) (okp := fun _ => True) ?hr ?hp (fun _ hk => hk) trivial (Below.refl _ _) (Nat.le_refl _) (by simp) ?_; (case hd => rfl); (case hg => rfl); (case hr => first | (go_simp; done) | (go_simp; rfl)); (case hp => exact (Reps.one (show Kd.M Kd.string _ _ _ (⟨#[61]⟩ : ByteArray) [.string (⟨#[61]⟩ : ByteArray)] from rfl) (Reps.one (show Kd.M Kd.string _ _ _ (⟨#[36]⟩ : ByteArray) [.string (⟨#[36]⟩ : ByteArray)] from rfl) (Reps.one (show Kd.M Kd.string _ _ _ (⟨#[58]⟩ : ByteArray) [.string (⟨#[58]⟩ : ByteArray)] from rfl) (Reps.one (show Kd.M Kd.string _ _ _ (⟨#[34]⟩ : ByteArray) [.string (⟨#[34]⟩ : ByteArray)] from rfl) (Reps.one (show Kd.M Kd.string _ _ _ (⟨#[39]⟩ : ByteArray) [.string (⟨#[39]⟩ : ByteArray)] from rfl) (Reps.one (show Kd.M Kd.string _ _ _ (⟨#[92]⟩ : ByteArray) [.string (⟨#[92]⟩ : ByteArray)] from rfl) (Reps.one (show Kd.M Kd.string _ _ _ (⟨#[126]⟩ : ByteArray) [.string (⟨#[126]⟩ : ByteArray)] from rfl) (Reps.none _ _))))))))); intro v214 w18 ho19 hb hg_ hnew_; clear hg_ hnew_; (first | rw [← Ny213.out] at ho19 | (simp only [Int.reduceToNat] at ho19; rw [← Ny213.out] at ho19)); have n0_ := aM (Kd.R_below (by (with_reducible repeat (first | apply Kd.R_alloc | apply Kd.R_drewN | apply Kd.R_drew)); exact HO212.out) hb); have n1_ := aM (Kd.R_lower ho19 (zo (by repeat (first | (with_reducible first | exact HB.out | apply zb | apply zc | apply zl) | exact HB.out)))); have n2_ := aM (zv (by repeat (first | (with_reducible first | exact HB.out | apply zb | apply zc | apply zl) | exact HB.out)) hb); clear HO212; clear HB; have HO212 := n0_; have HO215 := n1_; have HB := n2_; clear n0_ n1_ n2_; clear hb ho19; obtain ⟨Ao20,co20,eo20⟩ := Kd.R_slice HO215.out; subst eo20) | (go_at_call 23; (with_reducible refine (spec_sayIn.calls k1 (strOfNums y210) _ _ y213 false _ ?side1 ?side2 A7.out).mono ?_); (case side1 => repeat (first | exact (Kd.R_reads' HO215.out).2.2 | (with_reducible refine Kd.C_alloc ?_ _) | (with_reducible refine Kd.C_drewN ?_ _) | (with_reducible refine Kd.C_drew ?_))); (case side2 => exact (Kd.R_reads' HO215.out).2.1); rintro e w' ⟨rfl,⟨nd,rfl⟩⟩))
        go_roundg k1
        case measure => have := HK1.out; omega
        case rel => exact ⟨(wrap64 (x3_1 + 1)),(by first | rfl | (simp; done) | (simp [*]; done)),H', ⟨by have := HK1.out; omega⟩,⟨by repeat (first | (with_reducible first | exact HB.out | apply zb | apply zc | apply zl) | exact HB.out)⟩⟩
    ·rw [if_neg c3] at H; exact absurd H (by simp)
   ·rw [if_neg c2] at H; have c2b0 : decide (x3_1 < (a0.size : Int)) = false := decide_eq_false c2; clear c2; obtain rfl := Option.some.inj H
    go_wp2
    go_ret
    exact ⟨by first | rfl | (simp [zz,zw] <;> rfl) | (simp [*, zz,zw] <;> rfl) | (refine congrArg (fun b_ => Ending.returned (.bool b_)) ?_; exact sayWordisE_ _) | (refine congrArg (fun b_ => Ending.returned (.bool b_)) ?_; exact nsayWordisE_ _),by repeat (first | (with_reducible first | exact HB.out | apply zb | apply zc | apply zl) | exact HB.out)⟩
attribute [local go_sem] xl xj xv xu xe xd xk xi 
def spec_sayText.f (k : Nat) (a0_0 : Int) (a0_1 : Int) (a0_2 : ByteArray) (l0_3 : List ByteArray) (l0_4 : List (S25)) : Option (Bool) := if a0_0 = 3 then ((spec_sayWord.f k a0_2).bind fun t218 => (some t218)) else (some false)
set_option maxHeartbeats 8000000 in
set_option maxRecDepth 100000 in
theorem spec_sayText.calls (k : Nat) (a0_0 : Int) (a0_1 : Int) (a0_2 : ByteArray) (A0_3 : Option Addr) (c0_3 : Nat) (l0_3 : List ByteArray) (A0_4 : Option Addr) (c0_4 : Nat) (l0_4 : List (S25)) (r : Bool) (w : World) (hr0_3 : Kd.C Kd.string w A0_3 l0_3.length l0_3) (hc0_3 : l0_3.length ≤ c0_3) (hr0_4 : Kd.C k25 w A0_4 l0_4.length l0_4) (hc0_4 : l0_4.length ≤ c0_4) (h : spec_sayText.f k a0_0 a0_1 a0_2 l0_3 l0_4 = some r) :
  Calls Tryz.prog 24 #[.agg #[.int .i64 a0_0, .int .i64 a0_1, .string a0_2, .slice A0_3 l0_3.length c0_3, .slice A0_4 l0_4.length c0_4]] w fun e w' => e = .returned (.bool r) ∧ Below w.heap.size w w' := by
 have hu25 := Tryz.underlying25; have HR0_3 := aM hr0_3; have HC0_3 := aM hc0_3; clear hr0_3 hc0_3; have HR0_4 := aM hr0_4; have HC0_4 := aM hc0_4; clear hr0_4 hc0_4; have HB := aM (Below.refl w.heap.size w); have H : (if a0_0 = 3 then ((spec_sayWord.f k a0_2).bind fun t218 => (some t218)) else (some false)) = some r := h; clear h
 by_cases c2 : a0_0 = 3
 ·rw [if_pos c2] at H; have c2b0 : (a0_0 == 3) = true := beq_iff_eq.mpr c2; have c2b1 : (a0_0 != 3) = false := bne_eq_false_iff_eq.mpr c2; clear c2; replace H := Option.bind_eq_some_iff.mp H; obtain ⟨t218,A30,H⟩ := H; replace H : (some t218) = some r := H; have A3 := aM A30; clear A30; obtain rfl := Option.some.inj H
  go_enter Tryz.func24,Tryz.ntmps24
  go_wp2_with (first | ((with_reducible refine yq (N := 1) rfl ?_); refine yp ?hg (N := 1) ?hd (cs := #[.int .i64 a0_0, .int .i64 a0_1, .string a0_2, .slice A0_3 l0_3.length c0_3, .slice A0_4 l0_4.length c0_4]) (t := 25) ?hr ?_; (case hd => rfl); (case hg => rfl); (case hr => first | (go_simp; done) | (go_simp; rfl)); intro gb217 hg w4 hbox hb; have n0_ := aM (zv (by repeat (first | (with_reducible first | exact HB.out | apply zb | apply zc | apply zl) | exact HB.out)) hb); have n1_ := aM (hbox); have n2_ := aM ((by rw [hg]; exact (zo (by repeat (first | (with_reducible first | exact HB.out | apply zb | apply zc | apply zl) | exact HB.out))) : w.heap.size ≤ gb217)); have n3_ := aM ((by rw [hg]; exact (zo (by repeat (first | (with_reducible first | exact HB.out | apply zb | apply zc | apply zl) | exact HB.out))) : w.heap.size ≤ gb217)); clear HB; have HB := n0_; have BK217 := n1_; have GW217 := n2_; have GE217 := n3_; clear n0_ n1_ n2_ n3_; clear hb hbox hg; have hcz5_0 : w4.cell? ⟨gb217,0,none⟩ = some (.int .i64 a0_0) := (za BK217.out 0).trans rfl; have hcz5_1 : w4.cell? ⟨gb217,1,none⟩ = some (.int .i64 a0_1) := (za BK217.out 1).trans rfl; have hcz5_2 : w4.cell? ⟨gb217,2,none⟩ = some (.string a0_2) := (za BK217.out 2).trans rfl; have hcz5_3 : w4.cell? ⟨gb217,3,none⟩ = some (.slice A0_3 l0_3.length c0_3) := (za BK217.out 3).trans rfl; have hcz5_4 : w4.cell? ⟨gb217,4,none⟩ = some (.slice A0_4 l0_4.length c0_4) := (za BK217.out 4).trans rfl; have hfz5_0 := zh BK217.out 0; have hfz5_1 := zh BK217.out 1; have hfz5_2 := zh BK217.out 2; have hfz5_3 := zh BK217.out 3; have hfz5_4 := zh BK217.out 4) | (go_at_call 44; (with_reducible refine (spec_sayWord.calls k a0_2 t218 _ A3.out).mono ?_); rintro e w6 ⟨rfl,hb⟩; have n0_ := aM (ya (g := gb217) (o := .cells #[.int .i64 a0_0, .int .i64 a0_1, .string a0_2, .slice A0_3 l0_3.length c0_3, .slice A0_4 l0_4.length c0_4] 25 (0,0)) (by (with_reducible repeat (first | refine zg ?_ _ | refine zk ?_ | refine ze ?_ _)); exact BK217.out) hb); have n1_ := aM (zv (by repeat (first | (with_reducible first | exact HB.out | apply zb | apply zc | apply zl | refine zj ?_ GE217.out) | exact HB.out)) hb); clear BK217; clear HB; have BK217 := n0_; have HB := n1_; clear n0_ n1_; (try clear hb); (try clear hb2); (try clear hk); (try clear hi)))
  go_ret
  exact ⟨by first | rfl | (simp [zz,zw] <;> rfl) | (simp [*, zz,zw] <;> rfl),by repeat (first | (with_reducible first | exact HB.out | apply zb | apply zc | apply zl | refine zj ?_ GE217.out) | exact HB.out)⟩
 ·rw [if_neg c2] at H; have c2b0 : (a0_0 == 3) = false := beq_eq_false_iff_ne.mpr c2; have c2b1 : (a0_0 != 3) = true := bne_iff_ne.mpr c2; obtain rfl := Option.some.inj H
  go_enter Tryz.func24,Tryz.ntmps24
  go_wp2_with (first | ((with_reducible refine yq (N := 1) rfl ?_); refine yp ?hg (N := 1) ?hd (cs := #[.int .i64 a0_0, .int .i64 a0_1, .string a0_2, .slice A0_3 l0_3.length c0_3, .slice A0_4 l0_4.length c0_4]) (t := 25) ?hr ?_; (case hd => rfl); (case hg => rfl); (case hr => first | (go_simp; done) | (go_simp; rfl)); intro gb217 hg w7 hbox hb; have n0_ := aM (zv (by repeat (first | (with_reducible first | exact HB.out | apply zb | apply zc | apply zl) | exact HB.out)) hb); have n1_ := aM (hbox); have n2_ := aM ((by rw [hg]; exact (zo (by repeat (first | (with_reducible first | exact HB.out | apply zb | apply zc | apply zl) | exact HB.out))) : w.heap.size ≤ gb217)); have n3_ := aM ((by rw [hg]; exact (zo (by repeat (first | (with_reducible first | exact HB.out | apply zb | apply zc | apply zl) | exact HB.out))) : w.heap.size ≤ gb217)); clear HB; have HB := n0_; have BK217 := n1_; have GW217 := n2_; have GE217 := n3_; clear n0_ n1_ n2_ n3_; clear hb hbox hg; have hcz8_0 : w7.cell? ⟨gb217,0,none⟩ = some (.int .i64 a0_0) := (za BK217.out 0).trans rfl; have hcz8_1 : w7.cell? ⟨gb217,1,none⟩ = some (.int .i64 a0_1) := (za BK217.out 1).trans rfl; have hcz8_2 : w7.cell? ⟨gb217,2,none⟩ = some (.string a0_2) := (za BK217.out 2).trans rfl; have hcz8_3 : w7.cell? ⟨gb217,3,none⟩ = some (.slice A0_3 l0_3.length c0_3) := (za BK217.out 3).trans rfl; have hcz8_4 : w7.cell? ⟨gb217,4,none⟩ = some (.slice A0_4 l0_4.length c0_4) := (za BK217.out 4).trans rfl; have hfz8_0 := zh BK217.out 0; have hfz8_1 := zh BK217.out 1; have hfz8_2 := zh BK217.out 2; have hfz8_3 := zh BK217.out 3; have hfz8_4 := zh BK217.out 4))
  go_ret
  exact ⟨by first | rfl | (simp [zz,zw] <;> rfl) | (simp [*, zz,zw] <;> rfl),by repeat (first | (with_reducible first | exact HB.out | apply zb | apply zc | apply zl | refine zj ?_ GE217.out) | exact HB.out)⟩
attribute [local go_sem] xl xj xv xu xe xd xk xi 
def spec_sayTexts.l0 : Nat → Int → Int → Int → ByteArray → List ByteArray → List (S25) → Option (Bool)
 | 0, _, _, _, _, _, _ => none
 | k + 1,x3,x220000,x220001,x220002,x220003,x220004 => if x3 < (x220004.length : Int) then (if 0 ≤ x3 then (if ((rd_T25 x220004 x3).f0) = 3 then ((spec_sayWord.f k ((rd_T25 x220004 x3).f2)).bind fun t222 => (if t222 = true then (spec_sayTexts.l0 k (wrap64 (x3 + 1)) x220000 x220001 x220002 x220003 x220004) else (some false))) else (some false)) else (none)) else (if x220000 = 4 then (some (decide ((x220004.length : Int) > 0))) else (some false))
def spec_sayTexts.f (k : Nat) (a0_0 : Int) (a0_1 : Int) (a0_2 : ByteArray) (l0_3 : List ByteArray) (l0_4 : List (S25)) : Option (Bool) := spec_sayTexts.l0 k 0 a0_0 a0_1 a0_2 l0_3 l0_4
set_option maxHeartbeats 8000000 in
set_option maxRecDepth 100000 in
theorem spec_sayTexts.calls (k : Nat) (a0_0 : Int) (a0_1 : Int) (a0_2 : ByteArray) (A0_3 : Option Addr) (c0_3 : Nat) (l0_3 : List ByteArray) (A0_4 : Option Addr) (c0_4 : Nat) (l0_4 : List (S25)) (r : Bool) (w : World) (hr0_3 : Kd.C Kd.string w A0_3 l0_3.length l0_3) (hc0_3 : l0_3.length ≤ c0_3) (hr0_4 : Kd.C k25 w A0_4 l0_4.length l0_4) (hc0_4 : l0_4.length ≤ c0_4) (h : spec_sayTexts.f k a0_0 a0_1 a0_2 l0_3 l0_4 = some r) :
  Calls Tryz.prog 25 #[.agg #[.int .i64 a0_0, .int .i64 a0_1, .string a0_2, .slice A0_3 l0_3.length c0_3, .slice A0_4 l0_4.length c0_4]] w fun e w' => e = .returned (.bool r) ∧ Below w.heap.size w w' := by
 have hu25 := Tryz.underlying25; have HR0_3 := aM hr0_3; have HC0_3 := aM hc0_3; clear hr0_3 hc0_3; have HR0_4 := aM hr0_4; have HC0_4 := aM hc0_4; clear hr0_4 hc0_4; have HB := aM (Below.refl w.heap.size w); have H : (spec_sayTexts.l0 k 0 a0_0 a0_1 a0_2 l0_3 l0_4) = some r := h; clear h; have H' := aM H; clear H
 go_enter Tryz.func25,Tryz.ntmps25
 go_wp2_with (first | ((with_reducible refine yq (N := 1) rfl ?_); (try (refine yz (by rfl) ?_; dsimp only)); refine yp ?hg (N := 1) ?hd (cs := #[.int .i64 a0_0, .int .i64 a0_1, .string a0_2, .slice A0_3 l0_3.length c0_3, .slice A0_4 l0_4.length c0_4]) (t := 25) ?hr ?_; (case hd => rfl); (case hg => rfl); (case hr => first | (go_simp; done) | (go_simp; rfl)); intro gb219 hg w2 hbox hb; have n0_ := aM (zv (by repeat (first | (with_reducible first | exact HB.out | apply zb | apply zc | apply zl) | exact HB.out)) hb); have n1_ := aM (hbox); have n2_ := aM ((by rw [hg]; exact (zo (by repeat (first | (with_reducible first | exact HB.out | apply zb | apply zc | apply zl) | exact HB.out))) : w.heap.size ≤ gb219)); have n3_ := aM ((by rw [hg]; exact (zo (by repeat (first | (with_reducible first | exact HB.out | apply zb | apply zc | apply zl) | exact HB.out))) : w.heap.size ≤ gb219)); clear HB; have HB := n0_; have BK219 := n1_; have GW219 := n2_; have GE219 := n3_; clear n0_ n1_ n2_ n3_; clear hb hbox hg))
 go_loopg [3] k (fun kq v3 w' => ∃ (x3_1 : Int),v3 = .int .i64 x3_1 ∧ Aside0 (spec_sayTexts.l0 kq x3_1 a0_0 a0_1 a0_2 l0_3 l0_4 = some r) ∧ Aside0 (kq ≤ k) ∧ Aside0 (w'.heap[gb219]? = some (.cells #[.int .i64 a0_0, .int .i64 a0_1, .string a0_2,(.slice A0_3 l0_3.length c0_3),(.slice A0_4 l0_4.length c0_4)] 25 (0,0))) ∧ Aside0 (Below w.heap.size w w'))
 case atStart => exact ⟨(0),(by first | rfl | (simp; done) | (simp [*]; done)),H', ⟨Nat.le_refl _⟩,⟨by (with_reducible repeat (first | refine zg ?_ _ | refine zk ?_ | refine ze ?_ _)); exact BK219.out⟩,⟨by repeat (first | (with_reducible first | exact HB.out | apply zb | apply zc | apply zl | refine zj ?_ GE219.out) | exact HB.out)⟩⟩
 case round =>
  clear H'
  try clear c2
  try clear p2
  obtain ⟨x3_1,rfl,HA,HK1,BK219,HB⟩ := hrel
  cases gk with
  | zero => exact absurd HA.out (by simp [spec_sayTexts.l0])
  | succ k1 =>
   have H := HA.out; clear HA; simp only [spec_sayTexts.l0] at H
   by_cases c3 : x3_1 < (l0_4.length : Int)
   ·rw [if_pos c3] at H; have c3b0 : decide (x3_1 < (l0_4.length : Int)) = true := decide_eq_true c3; clear c3
    by_cases c4 : 0 ≤ x3_1
    ·rw [if_pos c4] at H; have c4b0 : decide (0 ≤ x3_1) = true := decide_eq_true c4; clear c4
     by_cases c5 : ((rd_T25 l0_4 x3_1).f0) = 3
     ·rw [if_pos c5] at H; have c5b0 : (((rd_T25 l0_4 x3_1).f0) == 3) = true := beq_iff_eq.mpr c5; have c5b1 : (((rd_T25 l0_4 x3_1).f0) != 3) = false := bne_eq_false_iff_eq.mpr c5; clear c5; replace H := Option.bind_eq_some_iff.mp H; obtain ⟨t222,A60,H⟩ := H; replace H : (if t222 = true then (spec_sayTexts.l0 k1 (wrap64 (x3_1 + 1)) a0_0 a0_1 a0_2 l0_3 l0_4) else (some false)) = some r := H; have A6 := aM A60; clear A60
      by_cases c7 : t222 = true
      ·subst c7
       have H1 : (spec_sayTexts.l0 k1 (wrap64 (x3_1 + 1)) a0_0 a0_1 a0_2 l0_3 l0_4) = some r := by rw [if_pos rfl] at H; exact H
       clear H; have H := H1; clear H1; have H' := aM H; clear H; have hcz8_0 : wr.cell? ⟨gb219,0,none⟩ = some (.int .i64 a0_0) := (za BK219.out 0).trans rfl; have hcz8_1 : wr.cell? ⟨gb219,1,none⟩ = some (.int .i64 a0_1) := (za BK219.out 1).trans rfl; have hcz8_2 : wr.cell? ⟨gb219,2,none⟩ = some (.string a0_2) := (za BK219.out 2).trans rfl; have hcz8_3 : wr.cell? ⟨gb219,3,none⟩ = some (.slice A0_3 l0_3.length c0_3) := (za BK219.out 3).trans rfl; have hcz8_4 : wr.cell? ⟨gb219,4,none⟩ = some (.slice A0_4 l0_4.length c0_4) := (za BK219.out 4).trans rfl; have hfz8_0 := zh BK219.out 0; have hfz8_1 := zh BK219.out 1; have hfz8_2 := zh BK219.out 2; have hfz8_3 := zh BK219.out 3; have hfz8_4 := zh BK219.out 4; have p220 : 0 ≤ (x3_1 : Int) := of_decide_eq_true (by first | (with_reducible assumption) | assumption); have q220 : x3_1 < (l0_4.length : Int) := of_decide_eq_true (by first | (with_reducible assumption) | assumption); obtain ⟨ad220,A220_3,c220_3,A220_4,c220_4,e220,hx220_0,hx220_1,hx220_2,hx220_3,hx220_4,hl220_3,hi220_3,hl220_4,hi220_4⟩ := at_T25 HR0_4.out x3_1 p220 q220
       cases e220
       replace hx220_0 := (HB.out.cell (World.block_lt_of_cell? w _ hx220_0)).trans hx220_0; replace hx220_1 := (HB.out.cell (World.block_lt_of_cell? w _ hx220_1)).trans hx220_1; replace hx220_2 := (HB.out.cell (World.block_lt_of_cell? w _ hx220_2)).trans hx220_2; replace hx220_3 := (HB.out.cell (World.block_lt_of_cell? w _ hx220_3)).trans hx220_3; replace hx220_4 := (HB.out.cell (World.block_lt_of_cell? w _ hx220_4)).trans hx220_4; have HR220_3 := aM hi220_3; have HC220_3 := aM hl220_3; clear hi220_3 hl220_3; have HR220_4 := aM hi220_4; have HC220_4 := aM hl220_4; clear hi220_4 hl220_4; replace p220 := eq_true p220; replace q220 := eq_true q220; have p221 : 0 ≤ (x3_1 : Int) := of_decide_eq_true (by first | (with_reducible assumption) | assumption); have q221 : x3_1 < (l0_4.length : Int) := of_decide_eq_true (by first | (with_reducible assumption) | assumption); obtain ⟨ad221,A221_3,c221_3,A221_4,c221_4,e221,hx221_0,hx221_1,hx221_2,hx221_3,hx221_4,hl221_3,hi221_3,hl221_4,hi221_4⟩ := at_T25 HR0_4.out x3_1 p221 q221
       obtain rfl : ad220 = ad221 := (by injection e221)
       replace hx221_0 := (HB.out.cell (World.block_lt_of_cell? w _ hx221_0)).trans hx221_0; replace hx221_1 := (HB.out.cell (World.block_lt_of_cell? w _ hx221_1)).trans hx221_1; replace hx221_2 := (HB.out.cell (World.block_lt_of_cell? w _ hx221_2)).trans hx221_2; replace hx221_3 := (HB.out.cell (World.block_lt_of_cell? w _ hx221_3)).trans hx221_3; replace hx221_4 := (HB.out.cell (World.block_lt_of_cell? w _ hx221_4)).trans hx221_4; have HR221_3 := aM hi221_3; have HC221_3 := aM hl221_3; clear hi221_3 hl221_3; have HR221_4 := aM hi221_4; have HC221_4 := aM hl221_4; clear hi221_4 hl221_4; replace p221 := eq_true p221; replace q221 := eq_true q221; have ea_ := Option.some.inj (hx220_3.symm.trans hx221_3)
       injection ea_ with ea_ en_ ec_
       subst ea_; subst ec_; clear en_; have ea_ := Option.some.inj (hx220_4.symm.trans hx221_4)
       injection ea_ with ea_ en_ ec_
       subst ea_; subst ec_; clear en_
       go_wp2_with (first | (go_at_call 44; (with_reducible refine (spec_sayWord.calls k1 ((rd_T25 l0_4 x3_1).f2) true _ A6.out).mono ?_); rintro e w9 ⟨rfl,hb⟩; have n0_ := aM (ya (g := gb219) (o := .cells #[.int .i64 a0_0, .int .i64 a0_1, .string a0_2, .slice A0_3 l0_3.length c0_3, .slice (some ad220) l0_4.length c0_4] 25 (0,0)) (by (with_reducible repeat (first | refine zg ?_ _ | refine zk ?_ | refine ze ?_ _)); exact BK219.out) hb); have n1_ := aM (zv (by repeat (first | (with_reducible first | exact HB.out | apply zb | apply zc | apply zl | refine zj ?_ GE219.out) | exact HB.out)) hb); clear BK219; clear HB; have BK219 := n0_; have HB := n1_; clear n0_ n1_; (try clear hb); (try clear hb2); (try clear hk); (try clear hi)))
       go_roundg k1
       case measure => have := HK1.out; omega
       case rel => exact ⟨(wrap64 (x3_1 + 1)),(by first | rfl | (simp; done) | (simp [*]; done)),H', ⟨by have := HK1.out; omega⟩,⟨by (with_reducible repeat (first | refine zg ?_ _ | refine zk ?_ | refine ze ?_ _)); exact BK219.out⟩,⟨by repeat (first | (with_reducible first | exact HB.out | apply zb | apply zc | apply zl | refine zj ?_ GE219.out) | exact HB.out)⟩⟩
      ·replace c7 := Bool.eq_false_iff.mpr c7; subst c7
       have H1 : (some false) = some r := by rw [if_neg (show ¬ (false = true) by decide)] at H; exact H
       clear H; have H := H1; clear H1; obtain rfl := Option.some.inj H; have hcz10_0 : wr.cell? ⟨gb219,0,none⟩ = some (.int .i64 a0_0) := (za BK219.out 0).trans rfl; have hcz10_1 : wr.cell? ⟨gb219,1,none⟩ = some (.int .i64 a0_1) := (za BK219.out 1).trans rfl; have hcz10_2 : wr.cell? ⟨gb219,2,none⟩ = some (.string a0_2) := (za BK219.out 2).trans rfl; have hcz10_3 : wr.cell? ⟨gb219,3,none⟩ = some (.slice A0_3 l0_3.length c0_3) := (za BK219.out 3).trans rfl; have hcz10_4 : wr.cell? ⟨gb219,4,none⟩ = some (.slice A0_4 l0_4.length c0_4) := (za BK219.out 4).trans rfl; have hfz10_0 := zh BK219.out 0; have hfz10_1 := zh BK219.out 1; have hfz10_2 := zh BK219.out 2; have hfz10_3 := zh BK219.out 3; have hfz10_4 := zh BK219.out 4; have p220 : 0 ≤ (x3_1 : Int) := of_decide_eq_true (by first | (with_reducible assumption) | assumption); have q220 : x3_1 < (l0_4.length : Int) := of_decide_eq_true (by first | (with_reducible assumption) | assumption); obtain ⟨ad220,A220_3,c220_3,A220_4,c220_4,e220,hx220_0,hx220_1,hx220_2,hx220_3,hx220_4,hl220_3,hi220_3,hl220_4,hi220_4⟩ := at_T25 HR0_4.out x3_1 p220 q220
       cases e220
       replace hx220_0 := (HB.out.cell (World.block_lt_of_cell? w _ hx220_0)).trans hx220_0; replace hx220_1 := (HB.out.cell (World.block_lt_of_cell? w _ hx220_1)).trans hx220_1; replace hx220_2 := (HB.out.cell (World.block_lt_of_cell? w _ hx220_2)).trans hx220_2; replace hx220_3 := (HB.out.cell (World.block_lt_of_cell? w _ hx220_3)).trans hx220_3; replace hx220_4 := (HB.out.cell (World.block_lt_of_cell? w _ hx220_4)).trans hx220_4; have HR220_3 := aM hi220_3; have HC220_3 := aM hl220_3; clear hi220_3 hl220_3; have HR220_4 := aM hi220_4; have HC220_4 := aM hl220_4; clear hi220_4 hl220_4; replace p220 := eq_true p220; replace q220 := eq_true q220; have p221 : 0 ≤ (x3_1 : Int) := of_decide_eq_true (by first | (with_reducible assumption) | assumption); have q221 : x3_1 < (l0_4.length : Int) := of_decide_eq_true (by first | (with_reducible assumption) | assumption); obtain ⟨ad221,A221_3,c221_3,A221_4,c221_4,e221,hx221_0,hx221_1,hx221_2,hx221_3,hx221_4,hl221_3,hi221_3,hl221_4,hi221_4⟩ := at_T25 HR0_4.out x3_1 p221 q221
       obtain rfl : ad220 = ad221 := (by injection e221)
       replace hx221_0 := (HB.out.cell (World.block_lt_of_cell? w _ hx221_0)).trans hx221_0; replace hx221_1 := (HB.out.cell (World.block_lt_of_cell? w _ hx221_1)).trans hx221_1; replace hx221_2 := (HB.out.cell (World.block_lt_of_cell? w _ hx221_2)).trans hx221_2; replace hx221_3 := (HB.out.cell (World.block_lt_of_cell? w _ hx221_3)).trans hx221_3; replace hx221_4 := (HB.out.cell (World.block_lt_of_cell? w _ hx221_4)).trans hx221_4; have HR221_3 := aM hi221_3; have HC221_3 := aM hl221_3; clear hi221_3 hl221_3; have HR221_4 := aM hi221_4; have HC221_4 := aM hl221_4; clear hi221_4 hl221_4; replace p221 := eq_true p221; replace q221 := eq_true q221; have ea_ := Option.some.inj (hx220_3.symm.trans hx221_3)
       injection ea_ with ea_ en_ ec_
       subst ea_; subst ec_; clear en_; have ea_ := Option.some.inj (hx220_4.symm.trans hx221_4)
       injection ea_ with ea_ en_ ec_
       subst ea_; subst ec_; clear en_
       go_wp2_with (first | (go_at_call 44; (with_reducible refine (spec_sayWord.calls k1 ((rd_T25 l0_4 x3_1).f2) false _ A6.out).mono ?_); rintro e w11 ⟨rfl,hb⟩; have n0_ := aM (ya (g := gb219) (o := .cells #[.int .i64 a0_0, .int .i64 a0_1, .string a0_2, .slice A0_3 l0_3.length c0_3, .slice (some ad220) l0_4.length c0_4] 25 (0,0)) (by (with_reducible repeat (first | refine zg ?_ _ | refine zk ?_ | refine ze ?_ _)); exact BK219.out) hb); have n1_ := aM (zv (by repeat (first | (with_reducible first | exact HB.out | apply zb | apply zc | apply zl | refine zj ?_ GE219.out) | exact HB.out)) hb); clear BK219; clear HB; have BK219 := n0_; have HB := n1_; clear n0_ n1_; (try clear hb); (try clear hb2); (try clear hk); (try clear hi)))
       go_ret
       exact ⟨by first | rfl | (simp [zz,zw] <;> rfl) | (simp [*, zz,zw] <;> rfl),by repeat (first | (with_reducible first | exact HB.out | apply zb | apply zc | apply zl | refine zj ?_ GE219.out) | exact HB.out)⟩
     ·rw [if_neg c5] at H; have c5b0 : (((rd_T25 l0_4 x3_1).f0) == 3) = false := beq_eq_false_iff_ne.mpr c5; have c5b1 : (((rd_T25 l0_4 x3_1).f0) != 3) = true := bne_iff_ne.mpr c5; obtain rfl := Option.some.inj H; have hcz12_0 : wr.cell? ⟨gb219,0,none⟩ = some (.int .i64 a0_0) := (za BK219.out 0).trans rfl; have hcz12_1 : wr.cell? ⟨gb219,1,none⟩ = some (.int .i64 a0_1) := (za BK219.out 1).trans rfl; have hcz12_2 : wr.cell? ⟨gb219,2,none⟩ = some (.string a0_2) := (za BK219.out 2).trans rfl; have hcz12_3 : wr.cell? ⟨gb219,3,none⟩ = some (.slice A0_3 l0_3.length c0_3) := (za BK219.out 3).trans rfl; have hcz12_4 : wr.cell? ⟨gb219,4,none⟩ = some (.slice A0_4 l0_4.length c0_4) := (za BK219.out 4).trans rfl; have hfz12_0 := zh BK219.out 0; have hfz12_1 := zh BK219.out 1; have hfz12_2 := zh BK219.out 2; have hfz12_3 := zh BK219.out 3; have hfz12_4 := zh BK219.out 4; have p220 : 0 ≤ (x3_1 : Int) := of_decide_eq_true (by first | (with_reducible assumption) | assumption); have q220 : x3_1 < (l0_4.length : Int) := of_decide_eq_true (by first | (with_reducible assumption) | assumption); obtain ⟨ad220,A220_3,c220_3,A220_4,c220_4,e220,hx220_0,hx220_1,hx220_2,hx220_3,hx220_4,hl220_3,hi220_3,hl220_4,hi220_4⟩ := at_T25 HR0_4.out x3_1 p220 q220
      cases e220
      replace hx220_0 := (HB.out.cell (World.block_lt_of_cell? w _ hx220_0)).trans hx220_0; replace hx220_1 := (HB.out.cell (World.block_lt_of_cell? w _ hx220_1)).trans hx220_1; replace hx220_2 := (HB.out.cell (World.block_lt_of_cell? w _ hx220_2)).trans hx220_2; replace hx220_3 := (HB.out.cell (World.block_lt_of_cell? w _ hx220_3)).trans hx220_3; replace hx220_4 := (HB.out.cell (World.block_lt_of_cell? w _ hx220_4)).trans hx220_4; have HR220_3 := aM hi220_3; have HC220_3 := aM hl220_3; clear hi220_3 hl220_3; have HR220_4 := aM hi220_4; have HC220_4 := aM hl220_4; clear hi220_4 hl220_4; replace p220 := eq_true p220; replace q220 := eq_true q220
      go_wp2
      go_ret
      exact ⟨by first | rfl | (simp [zz,zw] <;> rfl) | (simp [*, zz,zw] <;> rfl),by repeat (first | (with_reducible first | exact HB.out | apply zb | apply zc | apply zl | refine zj ?_ GE219.out) | exact HB.out)⟩
    ·rw [if_neg c4] at H; exact absurd H (by simp)
   ·rw [if_neg c3] at H; have c3b0 : decide (x3_1 < (l0_4.length : Int)) = false := decide_eq_false c3; clear c3
    by_cases c13 : a0_0 = 4
    ·rw [if_pos c13] at H; have c13b0 : (a0_0 == 4) = true := beq_iff_eq.mpr c13; have c13b1 : (a0_0 != 4) = false := bne_eq_false_iff_eq.mpr c13; clear c13; obtain rfl := Option.some.inj H; have hcz14_0 : wr.cell? ⟨gb219,0,none⟩ = some (.int .i64 a0_0) := (za BK219.out 0).trans rfl; have hcz14_1 : wr.cell? ⟨gb219,1,none⟩ = some (.int .i64 a0_1) := (za BK219.out 1).trans rfl; have hcz14_2 : wr.cell? ⟨gb219,2,none⟩ = some (.string a0_2) := (za BK219.out 2).trans rfl; have hcz14_3 : wr.cell? ⟨gb219,3,none⟩ = some (.slice A0_3 l0_3.length c0_3) := (za BK219.out 3).trans rfl; have hcz14_4 : wr.cell? ⟨gb219,4,none⟩ = some (.slice A0_4 l0_4.length c0_4) := (za BK219.out 4).trans rfl; have hfz14_0 := zh BK219.out 0; have hfz14_1 := zh BK219.out 1; have hfz14_2 := zh BK219.out 2; have hfz14_3 := zh BK219.out 3; have hfz14_4 := zh BK219.out 4
     go_wp2
     go_ret
     exact ⟨by first | rfl | (simp [zz,zw] <;> rfl) | (simp [*, zz,zw] <;> rfl),by repeat (first | (with_reducible first | exact HB.out | apply zb | apply zc | apply zl | refine zj ?_ GE219.out) | exact HB.out)⟩
    ·rw [if_neg c13] at H; have c13b0 : (a0_0 == 4) = false := beq_eq_false_iff_ne.mpr c13; have c13b1 : (a0_0 != 4) = true := bne_iff_ne.mpr c13; obtain rfl := Option.some.inj H; have hcz15_0 : wr.cell? ⟨gb219,0,none⟩ = some (.int .i64 a0_0) := (za BK219.out 0).trans rfl; have hcz15_1 : wr.cell? ⟨gb219,1,none⟩ = some (.int .i64 a0_1) := (za BK219.out 1).trans rfl; have hcz15_2 : wr.cell? ⟨gb219,2,none⟩ = some (.string a0_2) := (za BK219.out 2).trans rfl; have hcz15_3 : wr.cell? ⟨gb219,3,none⟩ = some (.slice A0_3 l0_3.length c0_3) := (za BK219.out 3).trans rfl; have hcz15_4 : wr.cell? ⟨gb219,4,none⟩ = some (.slice A0_4 l0_4.length c0_4) := (za BK219.out 4).trans rfl; have hfz15_0 := zh BK219.out 0; have hfz15_1 := zh BK219.out 1; have hfz15_2 := zh BK219.out 2; have hfz15_3 := zh BK219.out 3; have hfz15_4 := zh BK219.out 4
     go_wp2
     go_ret
     exact ⟨by first | rfl | (simp [zz,zw] <;> rfl) | (simp [*, zz,zw] <;> rfl),by repeat (first | (with_reducible first | exact HB.out | apply zb | apply zc | apply zl | refine zj ?_ GE219.out) | exact HB.out)⟩
attribute [local go_sem] xl xj xv xu xe xd xk xi 
def spec_sayShell.f (k : Nat) (a0_0 : Int) (a0_1 : Int) (a0_2 : ByteArray) (l0_3 : List ByteArray) (l0_4 : List (S25)) : Option (Bool) := (spec_sayText.f k a0_0 a0_1 a0_2 l0_3 l0_4).bind fun t259 => (if t259 = true then (some true) else ((spec_sayTexts.f k a0_0 a0_1 a0_2 l0_3 l0_4).bind fun t260 => (some t260)))
set_option maxHeartbeats 8000000 in
set_option maxRecDepth 100000 in
theorem spec_sayShell.calls (k : Nat) (a0_0 : Int) (a0_1 : Int) (a0_2 : ByteArray) (A0_3 : Option Addr) (c0_3 : Nat) (l0_3 : List ByteArray) (A0_4 : Option Addr) (c0_4 : Nat) (l0_4 : List (S25)) (r : Bool) (w : World) (hr0_3 : Kd.C Kd.string w A0_3 l0_3.length l0_3) (hc0_3 : l0_3.length ≤ c0_3) (hr0_4 : Kd.C k25 w A0_4 l0_4.length l0_4) (hc0_4 : l0_4.length ≤ c0_4) (h : spec_sayShell.f k a0_0 a0_1 a0_2 l0_3 l0_4 = some r) :
  Calls Tryz.prog 29 #[.agg #[.int .i64 a0_0, .int .i64 a0_1, .string a0_2, .slice A0_3 l0_3.length c0_3, .slice A0_4 l0_4.length c0_4]] w fun e w' => e = .returned (.bool r) ∧ Below w.heap.size w w' := by
 have hu25 := Tryz.underlying25; have HR0_3 := aM hr0_3; have HC0_3 := aM hc0_3; clear hr0_3 hc0_3; have HR0_4 := aM hr0_4; have HC0_4 := aM hc0_4; clear hr0_4 hc0_4; have HB := aM (Below.refl w.heap.size w); have H : ((spec_sayText.f k a0_0 a0_1 a0_2 l0_3 l0_4).bind fun t259 => (if t259 = true then (some true) else ((spec_sayTexts.f k a0_0 a0_1 a0_2 l0_3 l0_4).bind fun t260 => (some t260)))) = some r := h; clear h; replace H := Option.bind_eq_some_iff.mp H; obtain ⟨t259,A20,H⟩ := H; replace H : (if t259 = true then (some true) else ((spec_sayTexts.f k a0_0 a0_1 a0_2 l0_3 l0_4).bind fun t260 => (some t260))) = some r := H; have A2 := aM A20; clear A20
 by_cases c3 : t259 = true
 ·subst c3
  have H1 : (some true) = some r := by rw [if_pos rfl] at H; exact H
  clear H; have H := H1; clear H1; obtain rfl := Option.some.inj H
  go_enter Tryz.func29,Tryz.ntmps29
  go_wp2_with (first | ((with_reducible refine yq (N := 1) rfl ?_); refine yp ?hg (N := 1) ?hd (cs := #[.int .i64 a0_0, .int .i64 a0_1, .string a0_2, .slice A0_3 l0_3.length c0_3, .slice A0_4 l0_4.length c0_4]) (t := 25) ?hr ?_; (case hd => rfl); (case hg => rfl); (case hr => first | (go_simp; done) | (go_simp; rfl)); intro gb258 hg w4 hbox hb; have n0_ := aM (zv (by repeat (first | (with_reducible first | exact HB.out | apply zb | apply zc | apply zl) | exact HB.out)) hb); have n1_ := aM (hbox); have n2_ := aM ((by rw [hg]; exact (zo (by repeat (first | (with_reducible first | exact HB.out | apply zb | apply zc | apply zl) | exact HB.out))) : w.heap.size ≤ gb258)); have n3_ := aM ((by rw [hg]; exact (zo (by repeat (first | (with_reducible first | exact HB.out | apply zb | apply zc | apply zl) | exact HB.out))) : w.heap.size ≤ gb258)); clear HB; have HB := n0_; have BK258 := n1_; have GW258 := n2_; have GE258 := n3_; clear n0_ n1_ n2_ n3_; clear hb hbox hg; have hcz5_0 : w4.cell? ⟨gb258,0,none⟩ = some (.int .i64 a0_0) := (za BK258.out 0).trans rfl; have hcz5_1 : w4.cell? ⟨gb258,1,none⟩ = some (.int .i64 a0_1) := (za BK258.out 1).trans rfl; have hcz5_2 : w4.cell? ⟨gb258,2,none⟩ = some (.string a0_2) := (za BK258.out 2).trans rfl; have hcz5_3 : w4.cell? ⟨gb258,3,none⟩ = some (.slice A0_3 l0_3.length c0_3) := (za BK258.out 3).trans rfl; have hcz5_4 : w4.cell? ⟨gb258,4,none⟩ = some (.slice A0_4 l0_4.length c0_4) := (za BK258.out 4).trans rfl; have hfz5_0 := zh BK258.out 0; have hfz5_1 := zh BK258.out 1; have hfz5_2 := zh BK258.out 2; have hfz5_3 := zh BK258.out 3; have hfz5_4 := zh BK258.out 4) | ((with_reducible refine xx (f := 24) rfl ?_); refine goesL_ (some 4) rfl rfl Tryz.func24 (by kernel_rfl) rfl #[.agg #[.int .i64 a0_0, .int .i64 a0_1, .string a0_2, .slice A0_3 l0_3.length c0_3, .slice A0_4 l0_4.length c0_4]] rfl (by (try simp only [List.map_toArray,List.map_cons,List.map_nil]); first | done | rfl | (simp only [List.length_drop,List.length_take]; rfl)) ?_; (with_reducible refine (spec_sayText.calls k a0_0 a0_1 a0_2 _ _ l0_3 _ _ l0_4 true _ ?side1 ?side2 ?side3 ?side4 A2.out).mono ?_); (case side1 => repeat (first | exact (Kd.C_below HR0_3.out HB.out) | (with_reducible refine Kd.C_alloc ?_ _) | (with_reducible refine Kd.C_drewN ?_ _) | (with_reducible refine Kd.C_drew ?_))); (case side2 => exact HC0_3.out); (case side3 => repeat (first | exact (Kd.C_below HR0_4.out HB.out) | (with_reducible refine Kd.C_alloc ?_ _) | (with_reducible refine Kd.C_drewN ?_ _) | (with_reducible refine Kd.C_drew ?_))); (case side4 => exact HC0_4.out); rintro e w6 ⟨rfl,hb⟩; refine ⟨_,rfl, ?_⟩; have n0_ := aM (ya (g := gb258) (o := .cells #[.int .i64 a0_0, .int .i64 a0_1, .string a0_2, .slice A0_3 l0_3.length c0_3, .slice A0_4 l0_4.length c0_4] 25 (0,0)) (by (with_reducible repeat (first | refine zg ?_ _ | refine zk ?_ | refine ze ?_ _)); exact BK258.out) hb); have n1_ := aM (zv (by repeat (first | (with_reducible first | exact HB.out | apply zb | apply zc | apply zl | refine zj ?_ GE258.out) | exact HB.out)) hb); clear BK258; clear HB; have BK258 := n0_; have HB := n1_; clear n0_ n1_; (try clear hb); (try clear hb2); (try clear hk); (try clear hi)))
  go_ret
  exact ⟨by first | rfl | (simp [zz,zw] <;> rfl) | (simp [*, zz,zw] <;> rfl),by repeat (first | (with_reducible first | exact HB.out | apply zb | apply zc | apply zl | refine zj ?_ GE258.out) | exact HB.out)⟩
 ·replace c3 := Bool.eq_false_iff.mpr c3; subst c3
  have H1 : ((spec_sayTexts.f k a0_0 a0_1 a0_2 l0_3 l0_4).bind fun t260 => (some t260)) = some r := by rw [if_neg (show ¬ (false = true) by decide)] at H; exact H
  clear H; have H := H1; clear H1; replace H := Option.bind_eq_some_iff.mp H; obtain ⟨t260,A70,H⟩ := H; replace H : (some t260) = some r := H; have A7 := aM A70; clear A70; obtain rfl := Option.some.inj H
  go_enter Tryz.func29,Tryz.ntmps29
  go_wp2_with (first | ((with_reducible refine yq (N := 1) rfl ?_); refine yp ?hg (N := 1) ?hd (cs := #[.int .i64 a0_0, .int .i64 a0_1, .string a0_2, .slice A0_3 l0_3.length c0_3, .slice A0_4 l0_4.length c0_4]) (t := 25) ?hr ?_; (case hd => rfl); (case hg => rfl); (case hr => first | (go_simp; done) | (go_simp; rfl)); intro gb258 hg w8 hbox hb; have n0_ := aM (zv (by repeat (first | (with_reducible first | exact HB.out | apply zb | apply zc | apply zl) | exact HB.out)) hb); have n1_ := aM (hbox); have n2_ := aM ((by rw [hg]; exact (zo (by repeat (first | (with_reducible first | exact HB.out | apply zb | apply zc | apply zl) | exact HB.out))) : w.heap.size ≤ gb258)); have n3_ := aM ((by rw [hg]; exact (zo (by repeat (first | (with_reducible first | exact HB.out | apply zb | apply zc | apply zl) | exact HB.out))) : w.heap.size ≤ gb258)); clear HB; have HB := n0_; have BK258 := n1_; have GW258 := n2_; have GE258 := n3_; clear n0_ n1_ n2_ n3_; clear hb hbox hg; have hcz9_0 : w8.cell? ⟨gb258,0,none⟩ = some (.int .i64 a0_0) := (za BK258.out 0).trans rfl; have hcz9_1 : w8.cell? ⟨gb258,1,none⟩ = some (.int .i64 a0_1) := (za BK258.out 1).trans rfl; have hcz9_2 : w8.cell? ⟨gb258,2,none⟩ = some (.string a0_2) := (za BK258.out 2).trans rfl; have hcz9_3 : w8.cell? ⟨gb258,3,none⟩ = some (.slice A0_3 l0_3.length c0_3) := (za BK258.out 3).trans rfl; have hcz9_4 : w8.cell? ⟨gb258,4,none⟩ = some (.slice A0_4 l0_4.length c0_4) := (za BK258.out 4).trans rfl; have hfz9_0 := zh BK258.out 0; have hfz9_1 := zh BK258.out 1; have hfz9_2 := zh BK258.out 2; have hfz9_3 := zh BK258.out 3; have hfz9_4 := zh BK258.out 4) | ((with_reducible refine xx (f := 24) rfl ?_); refine goesL_ (some 4) rfl rfl Tryz.func24 (by kernel_rfl) rfl #[.agg #[.int .i64 a0_0, .int .i64 a0_1, .string a0_2, .slice A0_3 l0_3.length c0_3, .slice A0_4 l0_4.length c0_4]] rfl (by (try simp only [List.map_toArray,List.map_cons,List.map_nil]); first | done | rfl | (simp only [List.length_drop,List.length_take]; rfl)) ?_; (with_reducible refine (spec_sayText.calls k a0_0 a0_1 a0_2 _ _ l0_3 _ _ l0_4 false _ ?side1 ?side2 ?side3 ?side4 A2.out).mono ?_); (case side1 => repeat (first | exact (Kd.C_below HR0_3.out HB.out) | (with_reducible refine Kd.C_alloc ?_ _) | (with_reducible refine Kd.C_drewN ?_ _) | (with_reducible refine Kd.C_drew ?_))); (case side2 => exact HC0_3.out); (case side3 => repeat (first | exact (Kd.C_below HR0_4.out HB.out) | (with_reducible refine Kd.C_alloc ?_ _) | (with_reducible refine Kd.C_drewN ?_ _) | (with_reducible refine Kd.C_drew ?_))); (case side4 => exact HC0_4.out); rintro e w10 ⟨rfl,hb⟩; refine ⟨_,rfl, ?_⟩; have n0_ := aM (ya (g := gb258) (o := .cells #[.int .i64 a0_0, .int .i64 a0_1, .string a0_2, .slice A0_3 l0_3.length c0_3, .slice A0_4 l0_4.length c0_4] 25 (0,0)) (by (with_reducible repeat (first | refine zg ?_ _ | refine zk ?_ | refine ze ?_ _)); exact BK258.out) hb); have n1_ := aM (zv (by repeat (first | (with_reducible first | exact HB.out | apply zb | apply zc | apply zl | refine zj ?_ GE258.out) | exact HB.out)) hb); clear BK258; clear HB; have BK258 := n0_; have HB := n1_; clear n0_ n1_; (try clear hb); (try clear hb2); (try clear hk); (try clear hi); have hcz11_0 : w10.cell? ⟨gb258,0,none⟩ = some (.int .i64 a0_0) := (za BK258.out 0).trans rfl; have hcz11_1 : w10.cell? ⟨gb258,1,none⟩ = some (.int .i64 a0_1) := (za BK258.out 1).trans rfl; have hcz11_2 : w10.cell? ⟨gb258,2,none⟩ = some (.string a0_2) := (za BK258.out 2).trans rfl; have hcz11_3 : w10.cell? ⟨gb258,3,none⟩ = some (.slice A0_3 l0_3.length c0_3) := (za BK258.out 3).trans rfl; have hcz11_4 : w10.cell? ⟨gb258,4,none⟩ = some (.slice A0_4 l0_4.length c0_4) := (za BK258.out 4).trans rfl; have hfz11_0 := zh BK258.out 0; have hfz11_1 := zh BK258.out 1; have hfz11_2 := zh BK258.out 2; have hfz11_3 := zh BK258.out 3; have hfz11_4 := zh BK258.out 4) | (go_at_call 25; (with_reducible refine (spec_sayTexts.calls k a0_0 a0_1 a0_2 _ _ l0_3 _ _ l0_4 t260 _ ?side1 ?side2 ?side3 ?side4 A7.out).mono ?_); (case side1 => repeat (first | exact (Kd.C_below HR0_3.out HB.out) | (with_reducible refine Kd.C_alloc ?_ _) | (with_reducible refine Kd.C_drewN ?_ _) | (with_reducible refine Kd.C_drew ?_))); (case side2 => exact HC0_3.out); (case side3 => repeat (first | exact (Kd.C_below HR0_4.out HB.out) | (with_reducible refine Kd.C_alloc ?_ _) | (with_reducible refine Kd.C_drewN ?_ _) | (with_reducible refine Kd.C_drew ?_))); (case side4 => exact HC0_4.out); rintro e w12 ⟨rfl,hb⟩; have n0_ := aM (ya (g := gb258) (o := .cells #[.int .i64 a0_0, .int .i64 a0_1, .string a0_2, .slice A0_3 l0_3.length c0_3, .slice A0_4 l0_4.length c0_4] 25 (0,0)) (by (with_reducible repeat (first | refine zg ?_ _ | refine zk ?_ | refine ze ?_ _)); exact BK258.out) hb); have n1_ := aM (zv (by repeat (first | (with_reducible first | exact HB.out | apply zb | apply zc | apply zl | refine zj ?_ GE258.out) | exact HB.out)) hb); clear BK258; clear HB; have BK258 := n0_; have HB := n1_; clear n0_ n1_; (try clear hb); (try clear hb2); (try clear hk); (try clear hi)))
  go_ret
  exact ⟨by first | rfl | (simp [zz,zw] <;> rfl) | (simp [*, zz,zw] <;> rfl),by repeat (first | (with_reducible first | exact HB.out | apply zb | apply zc | apply zl | refine zj ?_ GE258.out) | exact HB.out)⟩
end Go.Proofs.YtnmhjndjfblebaaGreatDoor.PS
namespace Go.Proofs.YtnmhjndjfblebaaGreatDoor.Tr
open Go.RowKit Go.Proofs.YtnmhjndjfblebaaGreatDoorW.PrintWords Go.Proofs.YtnmhjndjfblebaaGreatDoorW.PrintLast Go.Proofs.YtnmhjndjfblebaaGreatDoor.Str Go.Proofs.YtnmhjndjfblebaaGreatDoor.Kit Go.Proofs.YtnmhjndjfblebaaGreatDoor.MapV Go.Proofs.YtnmhjndjfblebaaGreatDoor.Frame Go.Proofs.YtnmhjndjfblebaaGreatDoor.PS
open Go.Proofs.YtnmhjndjfblebaaGreatDoor.Val (place placeI placeB)
theorem ev_sayWord_l (s : BA) (hs : s.size < 4611686018427387904) : ∀ (d i : Nat),i + d = s.size → ∃ b,Ev (fun k => spec_sayWord.l0 k s (i : Int)) b := by
 intro d
 induction d with
 | zero =>
  intro i hi; refine ⟨_,xf (fun k => ?_) (Ev.now (s.toList != ([] : List UInt8)))⟩; simp only [spec_sayWord.l0]; rw [if_neg (by omega)]
 | succ d ih =>
  intro i hi
  by_cases h1 : bt s (i : Int) < 33
  ·refine ⟨false,xf (fun k => ?_) (Ev.now _)⟩; simp only [spec_sayWord.l0]; rw [if_pos (by omega),if_pos (by omega),if_pos h1]
  by_cases h2 : bt s (i : Int) > 126
  ·refine ⟨false,xf (fun k => ?_) (Ev.now _)⟩; simp only [spec_sayWord.l0]; rw [if_pos (by omega),if_pos (by omega),if_neg h1,if_pos h2]
  obtain ⟨b,hb⟩ := ih (i + 1) (by omega); have hin := ev_sayIn (strOfNums ([bt s (i : Int)] : List Int)) ([(⟨#[61]⟩ : ByteArray),(⟨#[36]⟩ : ByteArray),(⟨#[58]⟩ : ByteArray),(⟨#[34]⟩ : ByteArray),(⟨#[39]⟩ : ByteArray),(⟨#[92]⟩ : ByteArray),(⟨#[126]⟩ : ByteArray)] : List ByteArray) (by simp)
  cases hc : inB (strOfNums ([bt s (i : Int)] : List Int)) ([(⟨#[61]⟩ : ByteArray),(⟨#[36]⟩ : ByteArray),(⟨#[58]⟩ : ByteArray),(⟨#[34]⟩ : ByteArray),(⟨#[39]⟩ : ByteArray),(⟨#[92]⟩ : ByteArray),(⟨#[126]⟩ : ByteArray)] : List ByteArray)
  all_goals rw [hc] at hin
  ·refine ⟨b,xf (fun k => ?_) (ev_bind (f := fun k t => if t = true then some false else spec_sayWord.l0 k s ((i + 1 : Nat) : Int)) hin hb)⟩; simp only [spec_sayWord.l0]; rw [if_pos (by omega),if_pos (by omega),if_neg h1,if_neg h2,wrapS i (by omega)]
  ·refine ⟨false,xf (fun k => ?_) (ev_bind (f := fun k t => if t = true then some false else spec_sayWord.l0 k s ((i + 1 : Nat) : Int)) hin (Ev.now _))⟩; simp only [spec_sayWord.l0]; rw [if_pos (by omega),if_pos (by omega),if_neg h1,if_neg h2,wrapS i (by omega)]
theorem ev_sayWord (s : BA) (hs : s.size < 4611686018427387904) : ∃ b,Ev (fun k => spec_sayWord.f k s) b := ev_sayWord_l s hs s.size 0 (by omega)
theorem ends_sayTexts_l (x : VS) (hl : x.f4.length < 4611686018427387904) (ht : ∀ v,v ∈ x.f4 → v.f2.size < 4611686018427387904) : ∀ (d i : Nat),i + d = x.f4.length →
  Ends (fun _ => True) (fun k => spec_sayTexts.l0 k (i : Int) x.f0 x.f1 x.f2 x.f3 x.f4) := by
 intro d
 induction d with
 | zero =>
  intro i hi; refine Ends.step (fun k => by simp only [spec_sayTexts.l0]; rfl) ?_; exact Ends.no (by omega) (Ends.ite (fun h => Ends.now trivial) (fun _ => Ends.now trivial))
 | succ d ih =>
  intro i hi
  have hlt : i < x.f4.length := by omega
  have hn := ih (i + 1) (by omega); obtain ⟨bw,hw⟩ := ev_sayWord x.f4[i].f2 (ht _ (List.getElem_mem hlt)); refine Ends.step (fun k => by simp only [spec_sayTexts.l0]; rfl) ?_; rw [wrapS i (by omega),rdS hlt]; exact Ends.yes (by omega) (Ends.yes (by omega) (Ends.ite (fun h3 => Ends.bindEv hw (Ends.ite (fun _ => hn) (fun _ => Ends.now trivial))) (fun _ => Ends.now trivial)))
theorem ends_sayShell (x : VS) (h2 : x.f2.size < 4611686018427387904) (hl : x.f4.length < 4611686018427387904) (ht : ∀ v,v ∈ x.f4 → v.f2.size < 4611686018427387904) : ∃ b,Ev (fun k => spec_sayShell.f k x.f0 x.f1 x.f2 x.f3 x.f4) b := by
 obtain ⟨bw,hw⟩ := ev_sayWord x.f2 h2
 have h1 : Ends (fun _ => True) (fun k => spec_sayText.f k x.f0 x.f1 x.f2 x.f3 x.f4) := by
  unfold spec_sayText.f
  exact Ends.ite (fun h3 => Ends.bindEv hw (Ends.now trivial)) (fun _ => Ends.now trivial)
 have h3 : Ends (fun _ => True) (fun k => spec_sayShell.f k x.f0 x.f1 x.f2 x.f3 x.f4) := by
  unfold spec_sayShell.f
  exact Ends.bind h1 (fun a _ => Ends.ite (fun _ => Ends.now trivial) (fun _ => Ends.bind (ends_sayTexts_l x hl ht x.f4.length 0 (by omega)) (fun a _ => Ends.now trivial)))
 obtain ⟨b,hb, _⟩ := h3; exact ⟨b,hb⟩
def Tells (f : Nat) (x : VS) (b : Bool) : Prop := ∀ (W : World) (B3 B4 : Option Addr) (d3 d4 : Nat),Reads W x B3 d3 B4 d4 → Calls Tryz.prog f #[.agg #[.int .i64 x.f0, .int .i64 x.f1, .string x.f2, .slice B3 x.f3.length d3, .slice B4 x.f4.length d4]] W fun e w' => e = .returned (.bool b) ∧ Below W.heap.size W w'
theorem tells_shell (x : VS) (h2 : x.f2.size < 4611686018427387904) (hl : x.f4.length < 4611686018427387904) (ht : ∀ v,v ∈ x.f4 → v.f2.size < 4611686018427387904) : ∃ b,Tells 29 x b := by
 obtain ⟨b,hb⟩ := ends_sayShell x h2 hl ht; obtain ⟨k,hk⟩ := hb.rounds; exact ⟨b,fun W B3 B4 d3 d4 h => spec_sayShell.calls k x.f0 x.f1 x.f2 B3 d3 x.f3 B4 d4 x.f4 b W h.hk h.l3 h.hv h.l4 hk⟩
def tstB : BA := ⟨#[116,101,115,116]⟩
set_option maxHeartbeats 3200000 in
set_option maxRecDepth 100000 in
theorem tells_health (x : VS) (b : Bool) (hc : Tells 29 x b) : Tells 30 ⟨5,0,⟨#[]⟩, [tstB], [x]⟩ b := by
 intro w A3 A4 c3 c4 h; obtain ⟨bk,ok,rfl, _,hk⟩ := strs_open h.hk (by simp); obtain ⟨bv,ov,rfl, _,hv⟩ := kS_at h.hv (by simp); obtain ⟨B3,d3,B4,d4,g0,g1,g2,g3,g4,l3,r3,l4,r4⟩ := hv 0 (by simp); have hb1 := zb (Below.refl w.heap.size w) (.cells #[.int .i64 5, .int .i64 0, .string ⟨#[]⟩, .slice (some ⟨bk,ok,none⟩) 1 c3, .slice (some ⟨bv,ov,none⟩) 1 c4] 25); have hx0 := yw w (.cells #[.int .i64 5, .int .i64 0, .string ⟨#[]⟩, .slice (some ⟨bk,ok,none⟩) 1 c3, .slice (some ⟨bv,ov,none⟩) 1 c4] 25)
 have hp1 : placeI [tstB] ⟨#[116,101,115,116]⟩ = 0 := by decide +kernel
 have hp2 : placeB [tstB] ⟨#[116,101,115,116]⟩ = true := by decide +kernel
 have CG := aM (getP 0 ⟨#[]⟩ [tstB] ⟨#[116,101,115,116]⟩ (c3 := c3) (n4 := 1) (c4 := c4) bv ov 0 x.f0 x.f1 x.f2 B3 B4 x.f3.length d3 x.f4.length d4 _ (Kd.C_below h.hk hb1) (by simp) hp1 hp2 (by omega) (by omega) (zf hb1 g0) (zf hb1 g1) (zf hb1 g2) (zf hb1 g3) (zf hb1 g4)); have HR := aM (show Reads _ x B3 d3 B4 d4 from (show Reads w x B3 d3 B4 d4 from ⟨l3,r3,l4,r4⟩).below hb1); have HX := aM hx0; have HB := aM hb1; have CC := aM hc; clear h hk hv l3 r3 l4 r4 hc hb1 g0 g1 g2 g3 g4 hp1 hp2; obtain ⟨x0,x1,x2,x3,x4⟩ := x
 go_enter Tryz.func30,Tryz.ntmps30
 go_wp2_with (refine xr (.tmp 1) rfl rfl rfl hx0 ?_)
 refine CG.out.mono ?_; rintro e w1 ⟨rfl,hb⟩; have hbn := zb (Below.refl w1.heap.size w1) (.cells #[.int .i64 x0, .int .i64 x1, .string x2, .slice B3 x3.length d3, .slice B4 x4.length d4] 25); have HR2 := aM ((HR.out.below hb).below hbn); have HX2 := aM ((zm hb hbn).block _ (zn HX.out) |>.trans HX.out); have HB2 := aM (zm (zm HB.out hb) hbn); have hz := yw w1 (.cells #[.int .i64 x0, .int .i64 x1, .string x2, .slice B3 x3.length d3, .slice B4 x4.length d4] 25); clear hb hbn HR HX HB CG hx0; have C2 := aM (CC.out _ B3 B4 d3 d4 HR2.out)
 go_wp2_with (refine xr (.tmp 3) rfl rfl rfl hz ?_)
 refine C2.out.mono ?_; rintro e w2 ⟨rfl,hb⟩; have HB3 := aM (zm HB2.out hb); have y3 := zu (i := 3) ((hb.block _ (zn HX2.out)).trans HX2.out) rfl; clear hb HX2 HB2 C2 HR2 hz
 cases b
 ·go_wp2
  go_ret
  exact ⟨rfl,HB3.out⟩
 ·go_wp2
  go_ret
  exact ⟨rfl,HB3.out⟩
end Go.Proofs.YtnmhjndjfblebaaGreatDoor.Tr
namespace Go.Proofs.YtnmhjndjfblebaaGreatDoor.PS
open Go.RowKit Go.Proofs.YtnmhjndjfblebaaGreatDoorW.PrintWords Go.Proofs.YtnmhjndjfblebaaGreatDoorW.PrintLast Go.Proofs.YtnmhjndjfblebaaGreatDoorW.PrintMore
attribute [local go_sem] xl xj xv xu xe xd xk xi 
def spec_sayNamed.f (k : Nat) (a0 : ByteArray) : Option (Bool) := (spec_sayIn.f k a0 (([(⟨#[101,110,118,105,114,111,110,109,101,110,116]⟩ : ByteArray),(⟨#[108,97,98,101,108,115]⟩ : ByteArray),(⟨#[97,110,110,111,116,97,116,105,111,110,115]⟩ : ByteArray),(⟨#[115,121,115,99,116,108,115]⟩ : ByteArray)] : List ByteArray))).bind fun t230 => (some t230)
set_option maxHeartbeats 8000000 in
set_option maxRecDepth 100000 in
theorem spec_sayNamed.calls (k : Nat) (a0 : ByteArray) (r : Bool) (w : World) (h : spec_sayNamed.f k a0 = some r) :
  Calls Tryz.prog 27 #[.string a0] w fun e w' => e = .returned (.bool r) ∧ Below w.heap.size w w' := by
 have HB := aM (Below.refl w.heap.size w); have H : ((spec_sayIn.f k a0 (([(⟨#[101,110,118,105,114,111,110,109,101,110,116]⟩ : ByteArray),(⟨#[108,97,98,101,108,115]⟩ : ByteArray),(⟨#[97,110,110,111,116,97,116,105,111,110,115]⟩ : ByteArray),(⟨#[115,121,115,99,116,108,115]⟩ : ByteArray)] : List ByteArray))).bind fun t230 => (some t230)) = some r := h; clear h
 obtain ⟨y227,hy227⟩ : ∃ y_ : List ByteArray,y_ = (([(⟨#[101,110,118,105,114,111,110,109,101,110,116]⟩ : ByteArray),(⟨#[108,97,98,101,108,115]⟩ : ByteArray),(⟨#[97,110,110,111,116,97,116,105,111,110,115]⟩ : ByteArray),(⟨#[115,121,115,99,116,108,115]⟩ : ByteArray)] : List ByteArray)) := ⟨_,rfl⟩
 replace H : ((spec_sayIn.f k a0 y227).bind fun t230 => (some t230)) = some r := by first | (rw [hy227]; with_reducible exact H) | (have H2_ := (Option.bind_some _ _).symm.trans H; rw [hy227]; with_reducible exact H2_) | (have H2_ := (Option.bind_some _ _).symm.trans H; with_reducible exact H2_) | with_reducible exact H | (rw [hy227]; exact H) | exact H
 have Ny227 := aM hy227; clear hy227; replace H := Option.bind_eq_some_iff.mp H; obtain ⟨t230,A20,H⟩ := H; replace H : (some t230) = some r := H; have A2 := aM A20; clear A20; obtain rfl := Option.some.inj H
 go_enter Tryz.func27,Tryz.ntmps27
 go_wp2_with (first | ((with_reducible refine yq (N := 4) rfl ?_); refine Kd.R_lit Kd.string _ 9 ?hg (N := 4) ?hd (xs := ([(⟨#[101,110,118,105,114,111,110,109,101,110,116]⟩ : ByteArray),(⟨#[108,97,98,101,108,115]⟩ : ByteArray),(⟨#[97,110,110,111,116,97,116,105,111,110,115]⟩ : ByteArray),(⟨#[115,121,115,99,116,108,115]⟩ : ByteArray)] : List ByteArray)) (inner := [.string (⟨#[101,110,118,105,114,111,110,109,101,110,116]⟩ : ByteArray), .string (⟨#[108,97,98,101,108,115]⟩ : ByteArray), .string (⟨#[97,110,110,111,116,97,116,105,111,110,115]⟩ : ByteArray), .string (⟨#[115,121,115,99,116,108,115]⟩ : ByteArray)]) (ok := fun _ => True) (okp := fun _ => True) ?hr ?hp (fun _ hk => hk) trivial (Below.refl _ _) (Nat.le_refl _) (by simp) ?_; (case hd => rfl); (case hg => rfl); (case hr => first | (go_simp; done) | (go_simp; rfl)); (case hp => exact (Reps.one (show Kd.M Kd.string _ _ _ (⟨#[101,110,118,105,114,111,110,109,101,110,116]⟩ : ByteArray) [.string (⟨#[101,110,118,105,114,111,110,109,101,110,116]⟩ : ByteArray)] from rfl) (Reps.one (show Kd.M Kd.string _ _ _ (⟨#[108,97,98,101,108,115]⟩ : ByteArray) [.string (⟨#[108,97,98,101,108,115]⟩ : ByteArray)] from rfl) (Reps.one (show Kd.M Kd.string _ _ _ (⟨#[97,110,110,111,116,97,116,105,111,110,115]⟩ : ByteArray) [.string (⟨#[97,110,110,111,116,97,116,105,111,110,115]⟩ : ByteArray)] from rfl) (Reps.one (show Kd.M Kd.string _ _ _ (⟨#[115,121,115,99,116,108,115]⟩ : ByteArray) [.string (⟨#[115,121,115,99,116,108,115]⟩ : ByteArray)] from rfl) (Reps.none _ _)))))); intro v228 w3 ho4 hb hg_ hnew_; clear hg_ hnew_; (first | rw [← Ny227.out] at ho4 | (simp only [Int.reduceToNat] at ho4; rw [← Ny227.out] at ho4)); have n0_ := aM (Kd.R_lower ho4 (zo (by repeat (first | (with_reducible first | exact HB.out | apply zb | apply zc | apply zl) | exact HB.out)))); have n1_ := aM (zv (by repeat (first | (with_reducible first | exact HB.out | apply zb | apply zc | apply zl) | exact HB.out)) hb); clear HB; have HO229 := n0_; have HB := n1_; clear n0_ n1_; clear hb ho4; obtain ⟨Ao5,co5,eo5⟩ := Kd.R_slice HO229.out; subst eo5) | ((with_reducible refine xx (f := 23) rfl ?_); refine goesL_ (some 5) rfl rfl Tryz.func23 (by kernel_rfl) rfl #[.string a0, .slice Ao5 y227.length co5] rfl (by (try simp only [List.map_toArray,List.map_cons,List.map_nil]); first | done | rfl | (simp only [List.length_drop,List.length_take]; rfl)) ?_; (with_reducible refine (spec_sayIn.calls k a0 _ _ y227 t230 _ ?side1 ?side2 A2.out).mono ?_); (case side1 => repeat (first | exact (Kd.R_reads' HO229.out).2.2 | (with_reducible refine Kd.C_alloc ?_ _) | (with_reducible refine Kd.C_drewN ?_ _) | (with_reducible refine Kd.C_drew ?_))); (case side2 => exact (Kd.R_reads' HO229.out).2.1); rintro e w' ⟨rfl,⟨nd,rfl⟩⟩; refine ⟨_,rfl, ?_⟩))
 go_ret
 exact ⟨by first | rfl | (simp [zz,zw] <;> rfl) | (simp [*, zz,zw] <;> rfl),by repeat (first | (with_reducible first | exact HB.out | apply zb | apply zc | apply zl) | exact HB.out)⟩
end Go.Proofs.YtnmhjndjfblebaaGreatDoor.PS
