/- Parts of the proof, laid vq: QSpecSame, PureSame, Gives, QSpecSubstDouble, RF, FromTo, Doubled, EscPlain, Index, ReplAll, ItpKit, ItpList, NewPathOne, ItpMap, ItpTop. -/
import Derived.Test.YtjcffojiacgocaaGreatDoorI3
import Derived.Test.YtjcffojiacgocaaGreatDoorI2
import Derived.Test.YtjcffojiacgocaaGreatDoorI6
import Derived.Test.YtjcffojiacgocaaGreatDoorI8
import Derived.Test.YtjcffojiacgocaaGreatDoorI5
import Derived.Carry
import Derived.Laws.EntriesVeiled
set_option linter.unusedVariables false
set_option linter.unusedSimpArgs false
namespace Go.Proofs.YtjcffojiacgocaaGreatDoor.PS
open Go.RowKit Go.Proofs.YtjcffojiacgocaaGreatDoorW.PrintWords Go.Proofs.YtjcffojiacgocaaGreatDoorW.PrintLast Go.Proofs.YtjcffojiacgocaaGreatDoorW.PrintMore
attribute [local go_sem] xf xd xk xj yt yr xe xc 
mutual
def spec_Same.j0 : Nat → Bool → Int → Int → ByteArray → List ByteArray → List (S25) → Int → Int → ByteArray → List ByteArray → List (S25) → Option (Bool)
 | 0, _, _, _, _, _, _, _, _, _, _, _ => none
 | k + 1, x43, x432000, x432001, x432002, x432003, x432004, x433000, x433001, x433002, x433003, x433004 => if x43 = true then (some false) else (spec_Same.l0 k 0 x432000 x432001 x432002 x432003 x432004 x433000 x433001 x433002 x433003 x433004)
def spec_Same.l0 : Nat → Int → Int → Int → ByteArray → List ByteArray → List (S25) → Int → Int → ByteArray → List ByteArray → List (S25) → Option (Bool)
 | 0, _, _, _, _, _, _, _, _, _, _, _ => none
 | k + 1, x5, x432000, x432001, x432002, x432003, x432004, x433000, x433001, x433002, x433003, x433004 => if x5 < (x432003.length : Int) then (if 0 ≤ x5 then (if x5 < (x433003.length : Int) then (if (rdOf ByteArray.empty x432003 x5).toList = (rdOf ByteArray.empty x433003 x5).toList then (spec_Same.l0 k (wrap64 (x5 + 1)) x432000 x432001 x432002 x432003 x432004 x433000 x433001 x433002 x433003 x433004) else (some false)) else (none)) else (none)) else (spec_Same.l1 k 0 x432000 x432001 x432002 x432003 x432004 x433000 x433001 x433002 x433003 x433004)
def spec_Same.l1 : Nat → Int → Int → Int → ByteArray → List ByteArray → List (S25) → Int → Int → ByteArray → List ByteArray → List (S25) → Option (Bool)
 | 0, _, _, _, _, _, _, _, _, _, _, _ => none
 | k + 1, x6, x432000, x432001, x432002, x432003, x432004, x433000, x433001, x433002, x433003, x433004 => if x6 < (x432004.length : Int) then (if 0 ≤ x6 then (if x6 < (x433004.length : Int) then ((spec_Same.f k ((rd_T25 x432004 x6).f0) ((rd_T25 x432004 x6).f1) ((rd_T25 x432004 x6).f2) ((rd_T25 x432004 x6).f3) ((rd_T25 x432004 x6).f4) ((rd_T25 x433004 x6).f0) ((rd_T25 x433004 x6).f1) ((rd_T25 x433004 x6).f2) ((rd_T25 x433004 x6).f3) ((rd_T25 x433004 x6).f4)).bind fun t437 => (if t437 = true then (spec_Same.l1 k (wrap64 (x6 + 1)) x432000 x432001 x432002 x432003 x432004 x433000 x433001 x433002 x433003 x433004) else (some false))) else (none)) else (none)) else (some true)
def spec_Same.f : Nat → Int → Int → ByteArray → List ByteArray → List (S25) → Int → Int → ByteArray → List ByteArray → List (S25) → Option (Bool)
 | 0, _, _, _, _, _, _, _, _, _, _ => none
 | k + 1, a0_0, a0_1, a0_2, l0_3, l0_4, a1_0, a1_1, a1_2, l1_3, l1_4 => if a0_0 = a1_0 then (if a0_1 = a1_1 then (if a0_2.toList = a1_2.toList then (if (l0_3.length : Int) = (l1_3.length : Int) then (spec_Same.j0 k ((l0_4.length : Int) != (l1_4.length : Int)) a0_0 a0_1 a0_2 l0_3 l0_4 a1_0 a1_1 a1_2 l1_3 l1_4) else (spec_Same.j0 k true a0_0 a0_1 a0_2 l0_3 l0_4 a1_0 a1_1 a1_2 l1_3 l1_4)) else (spec_Same.j0 k true a0_0 a0_1 a0_2 l0_3 l0_4 a1_0 a1_1 a1_2 l1_3 l1_4)) else (spec_Same.j0 k true a0_0 a0_1 a0_2 l0_3 l0_4 a1_0 a1_1 a1_2 l1_3 l1_4)) else (spec_Same.j0 k true a0_0 a0_1 a0_2 l0_3 l0_4 a1_0 a1_1 a1_2 l1_3 l1_4)
end
def spec_Same.T6 : Bool × List (List Nat × List Nat) := (true, [([], []), ([0], [0]), ([], []), ([1, 2], [1, 2]), ([3], [3]), ([], []), ([5], [5]), ([], []), ([6, 7], [6, 7]), ([8], [8]), ([4, 9], [4, 9])])
def spec_Same.B6 : List Nat := [0, 1, 0, 7, 15, 0, 32, 0, 224, 480, 1023]
theorem spec_Same.tab6 : rtab .any (opsOf Tryz.f15 6) = spec_Same.T6 := by kernel_rfl
theorem spec_Same.bits6 : waitsOk spec_Same.T6.2 spec_Same.B6 = true := by kernel_rfl
def spec_Same.T11 : Bool × List (List Nat × List Nat) := (true, [([], []), ([0], [0]), ([], []), ([1, 2], [1, 2]), ([3], [3]), ([], []), ([5], [5]), ([], []), ([6, 7], [6, 7]), ([8], [8]), ([4, 9], [4, 9]), ([10], [10])])
def spec_Same.B11 : List Nat := [0, 1, 0, 7, 15, 0, 32, 0, 224, 480, 1023, 2047]
theorem spec_Same.tab11 : rtab .any (opsOf Tryz.f15 11) = spec_Same.T11 := by kernel_rfl
theorem spec_Same.bits11 : waitsOk spec_Same.T11.2 spec_Same.B11 = true := by kernel_rfl
set_option maxHeartbeats 8000000 in
set_option maxRecDepth 100000 in
theorem spec_Same.calls (k : Nat) : ∀ (a0_0 : Int) (a0_1 : Int) (a0_2 : ByteArray) (A0_3 : Option Addr) (c0_3 : Nat) (l0_3 : List ByteArray) (A0_4 : Option Addr) (c0_4 : Nat) (l0_4 : List (S25)) (a1_0 : Int) (a1_1 : Int) (a1_2 : ByteArray) (A1_3 : Option Addr) (c1_3 : Nat) (l1_3 : List ByteArray) (A1_4 : Option Addr) (c1_4 : Nat) (l1_4 : List (S25)) (r : Bool) (w : World) (hr0_3 : Kd.C Kd.string w A0_3 l0_3.length l0_3) (hc0_3 : l0_3.length ≤ c0_3) (hr0_4 : Kd.C k25 w A0_4 l0_4.length l0_4) (hc0_4 : l0_4.length ≤ c0_4) (hr1_3 : Kd.C Kd.string w A1_3 l1_3.length l1_3) (hc1_3 : l1_3.length ≤ c1_3) (hr1_4 : Kd.C k25 w A1_4 l1_4.length l1_4) (hc1_4 : l1_4.length ≤ c1_4) (h : spec_Same.f k a0_0 a0_1 a0_2 l0_3 l0_4 a1_0 a1_1 a1_2 l1_3 l1_4 = some r),
  Calls Tryz.prog 15 #[.agg #[.int .i64 a0_0, .int .i64 a0_1, .string a0_2, .slice A0_3 l0_3.length c0_3, .slice A0_4 l0_4.length c0_4], .agg #[.int .i64 a1_0, .int .i64 a1_1, .string a1_2, .slice A1_3 l1_3.length c1_3, .slice A1_4 l1_4.length c1_4]] w fun e w' => e = .returned (.bool r) ∧ Below w.heap.size w w' := by
 induction k using Nat.strongRecOn with
 | _ k ih =>
 intro a0_0 a0_1 a0_2 A0_3 c0_3 l0_3 A0_4 c0_4 l0_4 a1_0 a1_1 a1_2 A1_3 c1_3 l1_3 A1_4 c1_4 l1_4 r w hr0_3 hc0_3 hr0_4 hc0_4 hr1_3 hc1_3 hr1_4 hc1_4 h
 cases k with
 | zero => exact absurd h (by simp [spec_Same.f])
 | succ k =>
 simp only [spec_Same.f] at h; have hu25 := Tryz.underlying25; have HR0_3 := aM hr0_3; have HC0_3 := aM hc0_3; clear hr0_3 hc0_3; have HR0_4 := aM hr0_4; have HC0_4 := aM hc0_4; clear hr0_4 hc0_4; have HR1_3 := aM hr1_3; have HC1_3 := aM hc1_3; clear hr1_3 hc1_3; have HR1_4 := aM hr1_4; have HC1_4 := aM hc1_4; clear hr1_4 hc1_4; have HB := aM (Below.refl w.heap.size w); have H : (if a0_0 = a1_0 then (if a0_1 = a1_1 then (if a0_2.toList = a1_2.toList then (if (l0_3.length : Int) = (l1_3.length : Int) then (spec_Same.j0 k ((l0_4.length : Int) != (l1_4.length : Int)) a0_0 a0_1 a0_2 l0_3 l0_4 a1_0 a1_1 a1_2 l1_3 l1_4) else (spec_Same.j0 k true a0_0 a0_1 a0_2 l0_3 l0_4 a1_0 a1_1 a1_2 l1_3 l1_4)) else (spec_Same.j0 k true a0_0 a0_1 a0_2 l0_3 l0_4 a1_0 a1_1 a1_2 l1_3 l1_4)) else (spec_Same.j0 k true a0_0 a0_1 a0_2 l0_3 l0_4 a1_0 a1_1 a1_2 l1_3 l1_4)) else (spec_Same.j0 k true a0_0 a0_1 a0_2 l0_3 l0_4 a1_0 a1_1 a1_2 l1_3 l1_4)) = some r := h; clear h; have HC3 := aM H; clear H
 go_enter Tryz.func15, Tryz.ntmps15
 go_upto_region 1 with (first | ((with_reducible refine yn (N := 2) rfl ?_); (try (refine xa (by rfl) ?_; dsimp only)); refine ym ?hg (N := 2) ?hd (cs := #[.int .i64 a0_0, .int .i64 a0_1, .string a0_2, .slice A0_3 l0_3.length c0_3, .slice A0_4 l0_4.length c0_4]) (t := 25) ?hr ?_; (case hd => rfl); (case hg => rfl); (case hr => first | (go_simp; done) | (go_simp; rfl)); intro gb431 hg w4 hbox hb; have n0_ := aM (zx (by repeat (first | (with_reducible first | exact HB.out | apply za | apply zc | apply zj) | exact HB.out)) hb); have n1_ := aM (hbox); have n2_ := aM ((by rw [hg]; exact (zl (by repeat (first | (with_reducible first | exact HB.out | apply za | apply zc | apply zj) | exact HB.out))) : w.heap.size ≤ gb431)); have n3_ := aM ((by rw [hg]; exact (zl (by repeat (first | (with_reducible first | exact HB.out | apply za | apply zc | apply zj) | exact HB.out))) : w.heap.size ≤ gb431)); clear HB; have HB := n0_; have BK431 := n1_; have GW431 := n2_; have GE431 := n3_; clear n0_ n1_ n2_ n3_; clear hb hbox hg) | ((with_reducible refine yn (N := 3) rfl ?_); (try (refine xa (by rfl) ?_; dsimp only)); refine ym ?hg (N := 3) ?hd (cs := #[.int .i64 a1_0, .int .i64 a1_1, .string a1_2, .slice A1_3 l1_3.length c1_3, .slice A1_4 l1_4.length c1_4]) (t := 25) ?hr ?_; (case hd => rfl); (case hg => rfl); (case hr => first | (go_simp; done) | (go_simp; rfl)); intro gb432 hg w5 hbox hb; have n0_ := aM (ya (g := gb431) (o := .cells #[.int .i64 a0_0, .int .i64 a0_1, .string a0_2, .slice A0_3 l0_3.length c0_3, .slice A0_4 l0_4.length c0_4] 25 (0, 0)) (by (with_reducible repeat (first | refine zg ?_ _ | refine zi ?_ | refine ze ?_ _)); exact BK431.out) hb); have n1_ := aM (zx (by repeat (first | (with_reducible first | exact HB.out | apply za | apply zc | apply zj | refine zh ?_ GE431.out) | exact HB.out)) hb); have n2_ := aM (hbox); have n3_ := aM ((by rw [hg]; exact (zl (by repeat (first | (with_reducible first | exact HB.out | apply za | apply zc | apply zj | refine zh ?_ GE431.out) | exact HB.out))) : w.heap.size ≤ gb432)); have n4_ := aM ((by rw [hg]; exact (zl (by repeat (first | (with_reducible first | exact HB.out | apply za | apply zc | apply zj | refine zh ?_ GE431.out) | exact HB.out))) : w.heap.size ≤ gb432)); have n5_ := aM ((by rw [hg]; exact Nat.ne_of_lt (yl (g := gb431) (o := .cells #[.int .i64 a0_0, .int .i64 a0_1, .string a0_2, .slice A0_3 l0_3.length c0_3, .slice A0_4 l0_4.length c0_4] 25 (0, 0)) (by (with_reducible repeat (first | refine zg ?_ _ | refine zi ?_ | refine ze ?_ _)); exact BK431.out)) : gb431 ≠ gb432)); have n6_ := aM ((by rw [hg]; exact Nat.ne_of_gt (yl (g := gb431) (o := .cells #[.int .i64 a0_0, .int .i64 a0_1, .string a0_2, .slice A0_3 l0_3.length c0_3, .slice A0_4 l0_4.length c0_4] 25 (0, 0)) (by (with_reducible repeat (first | refine zg ?_ _ | refine zi ?_ | refine ze ?_ _)); exact BK431.out)) : gb432 ≠ gb431)); clear BK431; clear HB; have BK431 := n0_; have HB := n1_; have BK432 := n2_; have GW432 := n3_; have GE432 := n4_; have NB431_432 := n5_; have NB432_431 := n6_; clear n0_ n1_ n2_ n3_ n4_ n5_ n6_; clear hb hbox hg))
 (try simp only [Act.put, List.setIfInBounds_toArray, List.set_cons_zero, List.set_cons_succ])
 go_cut [43] (fun v43 wc => ∃ (kq : Nat) (x43_2 : Bool), v43 = .bool x43_2 ∧ Aside0 (spec_Same.j0 kq x43_2 a0_0 a0_1 a0_2 l0_3 l0_4 a1_0 a1_1 a1_2 l1_3 l1_4 = some r) ∧ Aside0 (kq ≤ k) ∧ Aside0 (wc.heap[gb431]? = some (.cells #[.int .i64 a0_0, .int .i64 a0_1, .string a0_2, (.slice A0_3 l0_3.length c0_3), (.slice A0_4 l0_4.length c0_4)] 25 (0, 0))) ∧ Aside0 (wc.heap[gb432]? = some (.cells #[.int .i64 a1_0, .int .i64 a1_1, .string a1_2, (.slice A1_3 l1_3.length c1_3), (.slice A1_4 l1_4.length c1_4)] 25 (0, 0))) ∧ Aside0 (Below w.heap.size w wc))
 case first =>
  have H := HC3.out; clear HC3
  by_cases c6 : a0_0 = a1_0
  ·rw [if_pos c6] at H; have c6b0 : (a0_0 == a1_0) = true := beq_iff_eq.mpr c6; have c6b1 : (a0_0 != a1_0) = false := bne_eq_false_iff_eq.mpr c6; clear c6
   (first | rw [c6b0] | (simp only [zo, zt]; rw [c6b0]) | skip)
   by_cases c7 : a0_1 = a1_1
   ·rw [if_pos c7] at H; have c7b0 : (a0_1 == a1_1) = true := beq_iff_eq.mpr c7; have c7b1 : (a0_1 != a1_1) = false := bne_eq_false_iff_eq.mpr c7; clear c7
    by_cases c8 : a0_2.toList = a1_2.toList
    ·rw [if_pos c8] at H; have c8b0 : (a0_2.toList == a1_2.toList) = true := beq_iff_eq.mpr c8; have c8b1 : (a0_2.toList != a1_2.toList) = false := bne_eq_false_iff_eq.mpr c8; clear c8
     by_cases c9 : (l0_3.length : Int) = (l1_3.length : Int)
     ·rw [if_pos c9] at H; have c9b0 : ((l0_3.length : Int) == (l1_3.length : Int)) = true := beq_iff_eq.mpr c9; have c9b1 : ((l0_3.length : Int) != (l1_3.length : Int)) = false := bne_eq_false_iff_eq.mpr c9
      have c9b2 : (l0_3.length == l1_3.length) = true := by first | simpa using c9 | (simp at c9 ⊢; omega)
      clear c9; have H' := aM H; clear H; have hnb10 := NB431_432.out; have hnc10 := NB432_431.out; have hcz11_0 : w5.cell? ⟨gb431, 0, none⟩ = some (.int .i64 a0_0) := (zb BK431.out 0).trans rfl; have hcz11_1 : w5.cell? ⟨gb431, 1, none⟩ = some (.int .i64 a0_1) := (zb BK431.out 1).trans rfl; have hcz11_2 : w5.cell? ⟨gb431, 2, none⟩ = some (.string a0_2) := (zb BK431.out 2).trans rfl; have hcz11_3 : w5.cell? ⟨gb431, 3, none⟩ = some (.slice A0_3 l0_3.length c0_3) := (zb BK431.out 3).trans rfl; have hcz11_4 : w5.cell? ⟨gb431, 4, none⟩ = some (.slice A0_4 l0_4.length c0_4) := (zb BK431.out 4).trans rfl; have hfz11_0 := zk BK431.out 0; have hfz11_1 := zk BK431.out 1; have hfz11_2 := zk BK431.out 2; have hfz11_3 := zk BK431.out 3; have hfz11_4 := zk BK431.out 4; have hcz12_0 : w5.cell? ⟨gb432, 0, none⟩ = some (.int .i64 a1_0) := (zb BK432.out 0).trans rfl; have hcz12_1 : w5.cell? ⟨gb432, 1, none⟩ = some (.int .i64 a1_1) := (zb BK432.out 1).trans rfl; have hcz12_2 : w5.cell? ⟨gb432, 2, none⟩ = some (.string a1_2) := (zb BK432.out 2).trans rfl; have hcz12_3 : w5.cell? ⟨gb432, 3, none⟩ = some (.slice A1_3 l1_3.length c1_3) := (zb BK432.out 3).trans rfl; have hcz12_4 : w5.cell? ⟨gb432, 4, none⟩ = some (.slice A1_4 l1_4.length c1_4) := (zb BK432.out 4).trans rfl; have hfz12_0 := zk BK432.out 0; have hfz12_1 := zk BK432.out 1; have hfz12_2 := zk BK432.out 2; have hfz12_3 := zk BK432.out 3; have hfz12_4 := zk BK432.out 4
      go_wp2
      go_meet
      case rel => exact ⟨_, (((l0_4.length : Int) != (l1_4.length : Int))), (by first | rfl | (simp; done) | (simp [*]; done)), H', ⟨by first | omega | exact Nat.le_refl _⟩, ⟨by (with_reducible repeat (first | refine zg ?_ _ | refine zi ?_ | refine ze ?_ _)); exact BK431.out⟩, ⟨by (with_reducible repeat (first | refine zg ?_ _ | refine zi ?_ | refine ze ?_ _)); exact BK432.out⟩, ⟨by repeat (first | (with_reducible first | exact HB.out | apply za | apply zc | apply zj | refine zh ?_ GE431.out | refine zh ?_ GE432.out) | exact HB.out)⟩⟩
     ·rw [if_neg c9] at H; have c9b0 : ((l0_3.length : Int) == (l1_3.length : Int)) = false := beq_eq_false_iff_ne.mpr c9; have c9b1 : ((l0_3.length : Int) != (l1_3.length : Int)) = true := bne_iff_ne.mpr c9
      have c9b2 : (l0_3.length == l1_3.length) = false := by first | simpa using c9 | (simp at c9 ⊢; omega)
      have H' := aM H; clear H; have hnb13 := NB431_432.out; have hnc13 := NB432_431.out; have hcz14_0 : w5.cell? ⟨gb431, 0, none⟩ = some (.int .i64 a0_0) := (zb BK431.out 0).trans rfl; have hcz14_1 : w5.cell? ⟨gb431, 1, none⟩ = some (.int .i64 a0_1) := (zb BK431.out 1).trans rfl; have hcz14_2 : w5.cell? ⟨gb431, 2, none⟩ = some (.string a0_2) := (zb BK431.out 2).trans rfl; have hcz14_3 : w5.cell? ⟨gb431, 3, none⟩ = some (.slice A0_3 l0_3.length c0_3) := (zb BK431.out 3).trans rfl; have hcz14_4 : w5.cell? ⟨gb431, 4, none⟩ = some (.slice A0_4 l0_4.length c0_4) := (zb BK431.out 4).trans rfl; have hfz14_0 := zk BK431.out 0; have hfz14_1 := zk BK431.out 1; have hfz14_2 := zk BK431.out 2; have hfz14_3 := zk BK431.out 3; have hfz14_4 := zk BK431.out 4; have hcz15_0 : w5.cell? ⟨gb432, 0, none⟩ = some (.int .i64 a1_0) := (zb BK432.out 0).trans rfl; have hcz15_1 : w5.cell? ⟨gb432, 1, none⟩ = some (.int .i64 a1_1) := (zb BK432.out 1).trans rfl; have hcz15_2 : w5.cell? ⟨gb432, 2, none⟩ = some (.string a1_2) := (zb BK432.out 2).trans rfl; have hcz15_3 : w5.cell? ⟨gb432, 3, none⟩ = some (.slice A1_3 l1_3.length c1_3) := (zb BK432.out 3).trans rfl; have hcz15_4 : w5.cell? ⟨gb432, 4, none⟩ = some (.slice A1_4 l1_4.length c1_4) := (zb BK432.out 4).trans rfl; have hfz15_0 := zk BK432.out 0; have hfz15_1 := zk BK432.out 1; have hfz15_2 := zk BK432.out 2; have hfz15_3 := zk BK432.out 3; have hfz15_4 := zk BK432.out 4
      go_wp2
      go_meet
      case rel => exact ⟨_, (true), (by first | rfl | (simp; done) | (simp [*]; done)), H', ⟨by first | omega | exact Nat.le_refl _⟩, ⟨by (with_reducible repeat (first | refine zg ?_ _ | refine zi ?_ | refine ze ?_ _)); exact BK431.out⟩, ⟨by (with_reducible repeat (first | refine zg ?_ _ | refine zi ?_ | refine ze ?_ _)); exact BK432.out⟩, ⟨by repeat (first | (with_reducible first | exact HB.out | apply za | apply zc | apply zj | refine zh ?_ GE431.out | refine zh ?_ GE432.out) | exact HB.out)⟩⟩
    ·rw [if_neg c8] at H; have c8b0 : (a0_2.toList == a1_2.toList) = false := beq_eq_false_iff_ne.mpr c8; have c8b1 : (a0_2.toList != a1_2.toList) = true := bne_iff_ne.mpr c8; have H' := aM H; clear H; have hnb16 := NB431_432.out; have hnc16 := NB432_431.out; have hcz17_0 : w5.cell? ⟨gb431, 0, none⟩ = some (.int .i64 a0_0) := (zb BK431.out 0).trans rfl; have hcz17_1 : w5.cell? ⟨gb431, 1, none⟩ = some (.int .i64 a0_1) := (zb BK431.out 1).trans rfl; have hcz17_2 : w5.cell? ⟨gb431, 2, none⟩ = some (.string a0_2) := (zb BK431.out 2).trans rfl; have hcz17_3 : w5.cell? ⟨gb431, 3, none⟩ = some (.slice A0_3 l0_3.length c0_3) := (zb BK431.out 3).trans rfl; have hcz17_4 : w5.cell? ⟨gb431, 4, none⟩ = some (.slice A0_4 l0_4.length c0_4) := (zb BK431.out 4).trans rfl; have hfz17_0 := zk BK431.out 0; have hfz17_1 := zk BK431.out 1; have hfz17_2 := zk BK431.out 2; have hfz17_3 := zk BK431.out 3; have hfz17_4 := zk BK431.out 4; have hcz18_0 : w5.cell? ⟨gb432, 0, none⟩ = some (.int .i64 a1_0) := (zb BK432.out 0).trans rfl; have hcz18_1 : w5.cell? ⟨gb432, 1, none⟩ = some (.int .i64 a1_1) := (zb BK432.out 1).trans rfl; have hcz18_2 : w5.cell? ⟨gb432, 2, none⟩ = some (.string a1_2) := (zb BK432.out 2).trans rfl; have hcz18_3 : w5.cell? ⟨gb432, 3, none⟩ = some (.slice A1_3 l1_3.length c1_3) := (zb BK432.out 3).trans rfl; have hcz18_4 : w5.cell? ⟨gb432, 4, none⟩ = some (.slice A1_4 l1_4.length c1_4) := (zb BK432.out 4).trans rfl; have hfz18_0 := zk BK432.out 0; have hfz18_1 := zk BK432.out 1; have hfz18_2 := zk BK432.out 2; have hfz18_3 := zk BK432.out 3; have hfz18_4 := zk BK432.out 4
     go_wp2
     go_meet
     case rel => exact ⟨_, (true), (by first | rfl | (simp; done) | (simp [*]; done)), H', ⟨by first | omega | exact Nat.le_refl _⟩, ⟨by (with_reducible repeat (first | refine zg ?_ _ | refine zi ?_ | refine ze ?_ _)); exact BK431.out⟩, ⟨by (with_reducible repeat (first | refine zg ?_ _ | refine zi ?_ | refine ze ?_ _)); exact BK432.out⟩, ⟨by repeat (first | (with_reducible first | exact HB.out | apply za | apply zc | apply zj | refine zh ?_ GE431.out | refine zh ?_ GE432.out) | exact HB.out)⟩⟩
   ·rw [if_neg c7] at H; have c7b0 : (a0_1 == a1_1) = false := beq_eq_false_iff_ne.mpr c7; have c7b1 : (a0_1 != a1_1) = true := bne_iff_ne.mpr c7; have H' := aM H; clear H; have hnb19 := NB431_432.out; have hnc19 := NB432_431.out; have hcz20_0 : w5.cell? ⟨gb431, 0, none⟩ = some (.int .i64 a0_0) := (zb BK431.out 0).trans rfl; have hcz20_1 : w5.cell? ⟨gb431, 1, none⟩ = some (.int .i64 a0_1) := (zb BK431.out 1).trans rfl; have hcz20_2 : w5.cell? ⟨gb431, 2, none⟩ = some (.string a0_2) := (zb BK431.out 2).trans rfl; have hcz20_3 : w5.cell? ⟨gb431, 3, none⟩ = some (.slice A0_3 l0_3.length c0_3) := (zb BK431.out 3).trans rfl; have hcz20_4 : w5.cell? ⟨gb431, 4, none⟩ = some (.slice A0_4 l0_4.length c0_4) := (zb BK431.out 4).trans rfl; have hfz20_0 := zk BK431.out 0; have hfz20_1 := zk BK431.out 1; have hfz20_2 := zk BK431.out 2; have hfz20_3 := zk BK431.out 3; have hfz20_4 := zk BK431.out 4; have hcz21_0 : w5.cell? ⟨gb432, 0, none⟩ = some (.int .i64 a1_0) := (zb BK432.out 0).trans rfl; have hcz21_1 : w5.cell? ⟨gb432, 1, none⟩ = some (.int .i64 a1_1) := (zb BK432.out 1).trans rfl; have hcz21_2 : w5.cell? ⟨gb432, 2, none⟩ = some (.string a1_2) := (zb BK432.out 2).trans rfl; have hcz21_3 : w5.cell? ⟨gb432, 3, none⟩ = some (.slice A1_3 l1_3.length c1_3) := (zb BK432.out 3).trans rfl; have hcz21_4 : w5.cell? ⟨gb432, 4, none⟩ = some (.slice A1_4 l1_4.length c1_4) := (zb BK432.out 4).trans rfl; have hfz21_0 := zk BK432.out 0; have hfz21_1 := zk BK432.out 1; have hfz21_2 := zk BK432.out 2; have hfz21_3 := zk BK432.out 3; have hfz21_4 := zk BK432.out 4
    go_wp2
    go_meet
    case rel => exact ⟨_, (true), (by first | rfl | (simp; done) | (simp [*]; done)), H', ⟨by first | omega | exact Nat.le_refl _⟩, ⟨by (with_reducible repeat (first | refine zg ?_ _ | refine zi ?_ | refine ze ?_ _)); exact BK431.out⟩, ⟨by (with_reducible repeat (first | refine zg ?_ _ | refine zi ?_ | refine ze ?_ _)); exact BK432.out⟩, ⟨by repeat (first | (with_reducible first | exact HB.out | apply za | apply zc | apply zj | refine zh ?_ GE431.out | refine zh ?_ GE432.out) | exact HB.out)⟩⟩
  ·rw [if_neg c6] at H; have c6b0 : (a0_0 == a1_0) = false := beq_eq_false_iff_ne.mpr c6; have c6b1 : (a0_0 != a1_0) = true := bne_iff_ne.mpr c6
   (first | rw [c6b0] | (simp only [zo, zt]; rw [c6b0]) | skip)
   have H' := aM H; clear H; have hnb22 := NB431_432.out; have hnc22 := NB432_431.out; have hcz23_0 : w5.cell? ⟨gb431, 0, none⟩ = some (.int .i64 a0_0) := (zb BK431.out 0).trans rfl; have hcz23_1 : w5.cell? ⟨gb431, 1, none⟩ = some (.int .i64 a0_1) := (zb BK431.out 1).trans rfl; have hcz23_2 : w5.cell? ⟨gb431, 2, none⟩ = some (.string a0_2) := (zb BK431.out 2).trans rfl; have hcz23_3 : w5.cell? ⟨gb431, 3, none⟩ = some (.slice A0_3 l0_3.length c0_3) := (zb BK431.out 3).trans rfl; have hcz23_4 : w5.cell? ⟨gb431, 4, none⟩ = some (.slice A0_4 l0_4.length c0_4) := (zb BK431.out 4).trans rfl; have hfz23_0 := zk BK431.out 0; have hfz23_1 := zk BK431.out 1; have hfz23_2 := zk BK431.out 2; have hfz23_3 := zk BK431.out 3; have hfz23_4 := zk BK431.out 4; have hcz24_0 : w5.cell? ⟨gb432, 0, none⟩ = some (.int .i64 a1_0) := (zb BK432.out 0).trans rfl; have hcz24_1 : w5.cell? ⟨gb432, 1, none⟩ = some (.int .i64 a1_1) := (zb BK432.out 1).trans rfl; have hcz24_2 : w5.cell? ⟨gb432, 2, none⟩ = some (.string a1_2) := (zb BK432.out 2).trans rfl; have hcz24_3 : w5.cell? ⟨gb432, 3, none⟩ = some (.slice A1_3 l1_3.length c1_3) := (zb BK432.out 3).trans rfl; have hcz24_4 : w5.cell? ⟨gb432, 4, none⟩ = some (.slice A1_4 l1_4.length c1_4) := (zb BK432.out 4).trans rfl; have hfz24_0 := zk BK432.out 0; have hfz24_1 := zk BK432.out 1; have hfz24_2 := zk BK432.out 2; have hfz24_3 := zk BK432.out 3; have hfz24_4 := zk BK432.out 4
   go_wp2
   go_meet
   case rel => exact ⟨_, (true), (by first | rfl | (simp; done) | (simp [*]; done)), H', ⟨by first | omega | exact Nat.le_refl _⟩, ⟨by (with_reducible repeat (first | refine zg ?_ _ | refine zi ?_ | refine ze ?_ _)); exact BK431.out⟩, ⟨by (with_reducible repeat (first | refine zg ?_ _ | refine zi ?_ | refine ze ?_ _)); exact BK432.out⟩, ⟨by repeat (first | (with_reducible first | exact HB.out | apply za | apply zc | apply zj | refine zh ?_ GE431.out | refine zh ?_ GE432.out) | exact HB.out)⟩⟩
 case rest =>
  clear HC3
  try clear c1
  try clear c2
  try clear p2
  try clear c6
  try clear c6b0
  try clear c6b1
  try clear c7
  try clear c7b0
  try clear c7b1
  try clear c8
  try clear c8b0
  try clear c8b1
  try clear c9
  try clear c9b0
  try clear c9b1
  try clear c9b2
  try clear c10
  try clear c13
  try clear c15
  try clear c16
  try clear c19
  try clear c22
  try clear hcz11_0
  try clear hcz11_1
  try clear hcz11_2
  try clear hcz11_3
  try clear hcz11_4
  try clear hcz12_0
  try clear hcz12_1
  try clear hcz12_2
  try clear hcz12_3
  try clear hcz12_4
  try clear hcz14_0
  try clear hcz14_1
  try clear hcz14_2
  try clear hcz14_3
  try clear hcz14_4
  try clear hcz15_0
  try clear hcz15_1
  try clear hcz15_2
  try clear hcz15_3
  try clear hcz15_4
  try clear hcz17_0
  try clear hcz17_1
  try clear hcz17_2
  try clear hcz17_3
  try clear hcz17_4
  try clear hcz18_0
  try clear hcz18_1
  try clear hcz18_2
  try clear hcz18_3
  try clear hcz18_4
  try clear hcz20_0
  try clear hcz20_1
  try clear hcz20_2
  try clear hcz20_3
  try clear hcz20_4
  try clear hcz21_0
  try clear hcz21_1
  try clear hcz21_2
  try clear hcz21_3
  try clear hcz21_4
  try clear hcz23_0
  try clear hcz23_1
  try clear hcz23_2
  try clear hcz23_3
  try clear hcz23_4
  try clear hcz24_0
  try clear hcz24_1
  try clear hcz24_2
  try clear hcz24_3
  try clear hcz24_4
  try clear hfz11_0
  try clear hfz11_1
  try clear hfz11_2
  try clear hfz11_3
  try clear hfz11_4
  try clear hfz12_0
  try clear hfz12_1
  try clear hfz12_2
  try clear hfz12_3
  try clear hfz12_4
  try clear hfz14_0
  try clear hfz14_1
  try clear hfz14_2
  try clear hfz14_3
  try clear hfz14_4
  try clear hfz15_0
  try clear hfz15_1
  try clear hfz15_2
  try clear hfz15_3
  try clear hfz15_4
  try clear hfz17_0
  try clear hfz17_1
  try clear hfz17_2
  try clear hfz17_3
  try clear hfz17_4
  try clear hfz18_0
  try clear hfz18_1
  try clear hfz18_2
  try clear hfz18_3
  try clear hfz18_4
  try clear hfz20_0
  try clear hfz20_1
  try clear hfz20_2
  try clear hfz20_3
  try clear hfz20_4
  try clear hfz21_0
  try clear hfz21_1
  try clear hfz21_2
  try clear hfz21_3
  try clear hfz21_4
  try clear hfz23_0
  try clear hfz23_1
  try clear hfz23_2
  try clear hfz23_3
  try clear hfz23_4
  try clear hfz24_0
  try clear hfz24_1
  try clear hfz24_2
  try clear hfz24_3
  try clear hfz24_4
  obtain ⟨kq, x43_2, rfl, HA, HJ2, BK431, BK432, HB⟩ := hcut
  cases kq with
  | zero => exact absurd HA.out (by simp [spec_Same.j0])
  | succ kj2 =>
   have H := HA.out; clear HA; simp only [spec_Same.j0] at H
   by_cases c25 : x43_2 = true
   ·subst c25
    have H1 : (some false) = some r := by rw [if_pos rfl] at H; exact H
    clear H; have H := H1; clear H1; obtain rfl := Option.some.inj H
    go_wp2
    go_ret
    exact ⟨by first | rfl | (simp [zv, zu] <;> rfl) | (simp [*, zv, zu] <;> rfl), by repeat (first | (with_reducible first | exact HB.out | apply za | apply zc | apply zj | refine zh ?_ GE431.out | refine zh ?_ GE432.out) | exact HB.out)⟩
   ·replace c25 := Bool.eq_false_iff.mpr c25; subst c25
    have H1 : (spec_Same.l0 kj2 0 a0_0 a0_1 a0_2 l0_3 l0_4 a1_0 a1_1 a1_2 l1_3 l1_4) = some r := by rw [if_neg (show ¬ (false = true) by decide)] at H; exact H
    clear H; have H := H1; clear H1; have H' := aM H; clear H
    go_wp2
    go_loopg [5] kj2 (fun kq v5 w' => ∃ (x5_2 : Int), v5 = .int .i64 x5_2 ∧ Aside0 (spec_Same.l0 kq x5_2 a0_0 a0_1 a0_2 l0_3 l0_4 a1_0 a1_1 a1_2 l1_3 l1_4 = some r) ∧ Aside0 (kq ≤ kj2) ∧ Aside0 (w'.heap[gb431]? = some (.cells #[.int .i64 a0_0, .int .i64 a0_1, .string a0_2, (.slice A0_3 l0_3.length c0_3), (.slice A0_4 l0_4.length c0_4)] 25 (0, 0))) ∧ Aside0 (w'.heap[gb432]? = some (.cells #[.int .i64 a1_0, .int .i64 a1_1, .string a1_2, (.slice A1_3 l1_3.length c1_3), (.slice A1_4 l1_4.length c1_4)] 25 (0, 0))) ∧ Aside0 (Below w.heap.size w w'))
    case atStart => exact ⟨(0), (by first | rfl | (simp; done) | (simp [*]; done)), H', ⟨Nat.le_refl _⟩, ⟨by (with_reducible repeat (first | refine zg ?_ _ | refine zi ?_ | refine ze ?_ _)); exact BK431.out⟩, ⟨by (with_reducible repeat (first | refine zg ?_ _ | refine zi ?_ | refine ze ?_ _)); exact BK432.out⟩, ⟨by repeat (first | (with_reducible first | exact HB.out | apply za | apply zc | apply zj | refine zh ?_ GE431.out | refine zh ?_ GE432.out) | exact HB.out)⟩⟩
    case round =>
     clear H'
     try clear c1
     try clear c2
     try clear p2
     try clear c6
     try clear c6b0
     try clear c6b1
     try clear c7
     try clear c7b0
     try clear c7b1
     try clear c8
     try clear c8b0
     try clear c8b1
     try clear c9
     try clear c9b0
     try clear c9b1
     try clear c9b2
     try clear c10
     try clear c13
     try clear c15
     try clear c16
     try clear c19
     try clear c22
     try clear c25
     try clear hcz11_0
     try clear hcz11_1
     try clear hcz11_2
     try clear hcz11_3
     try clear hcz11_4
     try clear hcz12_0
     try clear hcz12_1
     try clear hcz12_2
     try clear hcz12_3
     try clear hcz12_4
     try clear hcz14_0
     try clear hcz14_1
     try clear hcz14_2
     try clear hcz14_3
     try clear hcz14_4
     try clear hcz15_0
     try clear hcz15_1
     try clear hcz15_2
     try clear hcz15_3
     try clear hcz15_4
     try clear hcz17_0
     try clear hcz17_1
     try clear hcz17_2
     try clear hcz17_3
     try clear hcz17_4
     try clear hcz18_0
     try clear hcz18_1
     try clear hcz18_2
     try clear hcz18_3
     try clear hcz18_4
     try clear hcz20_0
     try clear hcz20_1
     try clear hcz20_2
     try clear hcz20_3
     try clear hcz20_4
     try clear hcz21_0
     try clear hcz21_1
     try clear hcz21_2
     try clear hcz21_3
     try clear hcz21_4
     try clear hcz23_0
     try clear hcz23_1
     try clear hcz23_2
     try clear hcz23_3
     try clear hcz23_4
     try clear hcz24_0
     try clear hcz24_1
     try clear hcz24_2
     try clear hcz24_3
     try clear hcz24_4
     try clear hfz11_0
     try clear hfz11_1
     try clear hfz11_2
     try clear hfz11_3
     try clear hfz11_4
     try clear hfz12_0
     try clear hfz12_1
     try clear hfz12_2
     try clear hfz12_3
     try clear hfz12_4
     try clear hfz14_0
     try clear hfz14_1
     try clear hfz14_2
     try clear hfz14_3
     try clear hfz14_4
     try clear hfz15_0
     try clear hfz15_1
     try clear hfz15_2
     try clear hfz15_3
     try clear hfz15_4
     try clear hfz17_0
     try clear hfz17_1
     try clear hfz17_2
     try clear hfz17_3
     try clear hfz17_4
     try clear hfz18_0
     try clear hfz18_1
     try clear hfz18_2
     try clear hfz18_3
     try clear hfz18_4
     try clear hfz20_0
     try clear hfz20_1
     try clear hfz20_2
     try clear hfz20_3
     try clear hfz20_4
     try clear hfz21_0
     try clear hfz21_1
     try clear hfz21_2
     try clear hfz21_3
     try clear hfz21_4
     try clear hfz23_0
     try clear hfz23_1
     try clear hfz23_2
     try clear hfz23_3
     try clear hfz23_4
     try clear hfz24_0
     try clear hfz24_1
     try clear hfz24_2
     try clear hfz24_3
     try clear hfz24_4
     try clear p2
     obtain ⟨x5_2, rfl, HA, HK2, BK431, BK432, HB⟩ := hrel
     cases gk with
     | zero => exact absurd HA.out (by simp [spec_Same.l0])
     | succ k2 =>
      have H := HA.out; clear HA; simp only [spec_Same.l0] at H
      by_cases c26 : x5_2 < (l0_3.length : Int)
      ·rw [if_pos c26] at H; have c26b0 : decide (x5_2 < (l0_3.length : Int)) = true := decide_eq_true c26; clear c26
       by_cases c27 : 0 ≤ x5_2
       ·rw [if_pos c27] at H; have c27b0 : decide (0 ≤ x5_2) = true := decide_eq_true c27; clear c27
        by_cases c28 : x5_2 < (l1_3.length : Int)
        ·rw [if_pos c28] at H; have c28b0 : decide (x5_2 < (l1_3.length : Int)) = true := decide_eq_true c28; clear c28
         by_cases c29 : (rdOf ByteArray.empty l0_3 x5_2).toList = (rdOf ByteArray.empty l1_3 x5_2).toList
         ·rw [if_pos c29] at H; have c29b0 : ((rdOf ByteArray.empty l0_3 x5_2).toList == (rdOf ByteArray.empty l1_3 x5_2).toList) = true := beq_iff_eq.mpr c29; have c29b1 : ((rdOf ByteArray.empty l0_3 x5_2).toList != (rdOf ByteArray.empty l1_3 x5_2).toList) = false := bne_eq_false_iff_eq.mpr c29; clear c29; have H' := aM H; clear H; have hnb30 := NB431_432.out; have hnc30 := NB432_431.out; have hcz31_0 : wr.cell? ⟨gb431, 0, none⟩ = some (.int .i64 a0_0) := (zb BK431.out 0).trans rfl; have hcz31_1 : wr.cell? ⟨gb431, 1, none⟩ = some (.int .i64 a0_1) := (zb BK431.out 1).trans rfl; have hcz31_2 : wr.cell? ⟨gb431, 2, none⟩ = some (.string a0_2) := (zb BK431.out 2).trans rfl; have hcz31_3 : wr.cell? ⟨gb431, 3, none⟩ = some (.slice A0_3 l0_3.length c0_3) := (zb BK431.out 3).trans rfl; have hcz31_4 : wr.cell? ⟨gb431, 4, none⟩ = some (.slice A0_4 l0_4.length c0_4) := (zb BK431.out 4).trans rfl; have hfz31_0 := zk BK431.out 0; have hfz31_1 := zk BK431.out 1; have hfz31_2 := zk BK431.out 2; have hfz31_3 := zk BK431.out 3; have hfz31_4 := zk BK431.out 4
          try go_wp2
          have n0_ := aM (zi BK431.out); have n1_ := aM (zi BK432.out); have n2_ := aM (zj HB.out); clear BK431 BK432 HB; have BK431 := n0_; have BK432 := n1_; have HB := n2_; clear n0_ n1_ n2_; have p433 : 0 ≤ (x5_2 : Int) := of_decide_eq_true (by first | (with_reducible assumption) | assumption); have q433 : x5_2 < (l0_3.length : Int) := of_decide_eq_true (by first | (with_reducible assumption) | assumption); obtain ⟨ad433, e433, hx433_0⟩ := Kd.at_string HR0_3.out x5_2 p433 q433; have hw433_0 := hx433_0
          cases e433
          replace hx433_0 := (HB.out.cell (World.block_lt_of_cell? w _ hx433_0)).trans hx433_0; replace p433 := eq_true p433; replace q433 := eq_true q433; have p434 : 0 ≤ (x5_2 : Int) := of_decide_eq_true (by first | (with_reducible assumption) | assumption); have q434 : x5_2 < (l1_3.length : Int) := of_decide_eq_true (by first | (with_reducible assumption) | assumption); obtain ⟨ad434, e434, hx434_0⟩ := Kd.at_string HR1_3.out x5_2 p434 q434; have hw434_0 := hx434_0
          cases e434
          replace hx434_0 := (HB.out.cell (World.block_lt_of_cell? w _ hx434_0)).trans hx434_0; replace p434 := eq_true p434; replace q434 := eq_true q434; refine xb (n := 11) (S := fun w' => w'.cell? ⟨gb431, 0, none⟩ = some (.int .i64 a0_0) ∧ w'.cell? ⟨gb431, 1, none⟩ = some (.int .i64 a0_1) ∧ w'.cell? ⟨gb431, 2, none⟩ = some (.string a0_2) ∧ w'.cell? ⟨gb431, 3, none⟩ = some (.slice (some ad433) l0_3.length c0_3) ∧ w'.cell? ⟨gb431, 4, none⟩ = some (.slice A0_4 l0_4.length c0_4) ∧ w'.cell? ⟨gb432, 0, none⟩ = some (.int .i64 a1_0) ∧ w'.cell? ⟨gb432, 1, none⟩ = some (.int .i64 a1_1) ∧ w'.cell? ⟨gb432, 2, none⟩ = some (.string a1_2) ∧ w'.cell? ⟨gb432, 3, none⟩ = some (.slice (some ad434) l1_3.length c1_3) ∧ w'.cell? ⟨gb432, 4, none⟩ = some (.slice A1_4 l1_4.length c1_4) ∧ w'.cell? (ad433.add (x5_2).toNat) = some (.string (rdOf ByteArray.empty l0_3 x5_2)) ∧ w'.cell? (ad434.add (x5_2).toNat) = some (.string (rdOf ByteArray.empty l1_3 x5_2))) (ds := []) (bZ 11 0) (by kernel_rfl) rfl rfl ⟨(zb BK431.out 0).trans rfl, (zb BK431.out 1).trans rfl, (zb BK431.out 2).trans rfl, (zb BK431.out 3).trans rfl, (zb BK431.out 4).trans rfl, (zb BK432.out 0).trans rfl, (zb BK432.out 1).trans rfl, (zb BK432.out 2).trans rfl, (zb BK432.out 3).trans rfl, (zb BK432.out 4).trans rfl, ((HB.out.cell (World.block_lt_of_cell? w _ hw433_0)).trans hw433_0), ((HB.out.cell (World.block_lt_of_cell? w _ hw434_0)).trans hw434_0)⟩ (fun hHeld => ?_); refine xr spec_Same.tab6 spec_Same.bits6 (fun HT_ HW_ => ?_); generalize wr.drew = w32 at BK431 BK432 HB hx433_0 hx434_0 hHeld ⊢; refine pU 0 (some 51) (bZ 11 1) rfl (zz HT_.out (by kernel_rfl)) ?_; refine pU 2 (some 53) (bZ 11 5) rfl (zz HT_.out (by kernel_rfl)) ?_; refine pU 5 (some 56) (bZ 11 37) rfl (zz HT_.out (by kernel_rfl)) ?_; refine pU 7 (some 58) (bZ 11 165) rfl (zz HT_.out (by kernel_rfl)) ?_; refine tU 1 (some 52) (bZ 11 167) rfl (yj HT_.out HW_.out (by kernel_rfl)) (Or.inl ⟨by rfl, by rintro w' ⟨s0, s1, s2, s3, s4, s5, s6, s7, s8, s9, s10, s11⟩; go_simp; with_reducible rfl⟩) hHeld ?_; refine pU 3 (some 54) (bZ 11 175) rfl (zz HT_.out (by kernel_rfl)) ?_; refine tU 4 (some 55) (bZ 11 191) rfl (yj HT_.out HW_.out (by kernel_rfl)) (Or.inl ⟨by rfl, by rintro w' ⟨s0, s1, s2, s3, s4, s5, s6, s7, s8, s9, s10, s11⟩; go_simp; with_reducible rfl⟩) hHeld ?_; refine tU 6 (some 57) (bZ 11 255) rfl (yj HT_.out HW_.out (by kernel_rfl)) (Or.inl ⟨by rfl, by rintro w' ⟨s0, s1, s2, s3, s4, s5, s6, s7, s8, s9, s10, s11⟩; go_simp; with_reducible rfl⟩) hHeld ?_; refine pU 8 (some 59) (bZ 11 511) rfl (zz HT_.out (by kernel_rfl)) ?_; refine tU 9 (some 60) (bZ 11 1023) rfl (yj HT_.out HW_.out (by kernel_rfl)) (Or.inl ⟨by rfl, by rintro w' ⟨s0, s1, s2, s3, s4, s5, s6, s7, s8, s9, s10, s11⟩; go_simp; with_reducible rfl⟩) hHeld ?_; refine pU 10 (some 61) (bZ 11 2047) rfl (zz HT_.out (by kernel_rfl)) ?_; refine xl (vm HT_.out (by kernel_rfl)) ?_
          try go_wp2
          go_roundg k2
          case measure => have := HJ2.out; have := HK2.out; omega
          case rel => exact ⟨(wrap64 (x5_2 + 1)), (by first | rfl | (simp; done) | (simp [*]; done)), H', ⟨by have := HJ2.out; have := HK2.out; omega⟩, ⟨by (with_reducible repeat (first | refine zg ?_ _ | refine zi ?_ | refine ze ?_ _)); exact BK431.out⟩, ⟨by (with_reducible repeat (first | refine zg ?_ _ | refine zi ?_ | refine ze ?_ _)); exact BK432.out⟩, ⟨by repeat (first | (with_reducible first | exact HB.out | apply za | apply zc | apply zj | refine zh ?_ GE431.out | refine zh ?_ GE432.out) | exact HB.out)⟩⟩
         ·rw [if_neg c29] at H; have c29b0 : ((rdOf ByteArray.empty l0_3 x5_2).toList == (rdOf ByteArray.empty l1_3 x5_2).toList) = false := beq_eq_false_iff_ne.mpr c29; have c29b1 : ((rdOf ByteArray.empty l0_3 x5_2).toList != (rdOf ByteArray.empty l1_3 x5_2).toList) = true := bne_iff_ne.mpr c29; obtain rfl := Option.some.inj H; have hnb33 := NB431_432.out; have hnc33 := NB432_431.out; have hcz34_0 : wr.cell? ⟨gb431, 0, none⟩ = some (.int .i64 a0_0) := (zb BK431.out 0).trans rfl; have hcz34_1 : wr.cell? ⟨gb431, 1, none⟩ = some (.int .i64 a0_1) := (zb BK431.out 1).trans rfl; have hcz34_2 : wr.cell? ⟨gb431, 2, none⟩ = some (.string a0_2) := (zb BK431.out 2).trans rfl; have hcz34_3 : wr.cell? ⟨gb431, 3, none⟩ = some (.slice A0_3 l0_3.length c0_3) := (zb BK431.out 3).trans rfl; have hcz34_4 : wr.cell? ⟨gb431, 4, none⟩ = some (.slice A0_4 l0_4.length c0_4) := (zb BK431.out 4).trans rfl; have hfz34_0 := zk BK431.out 0; have hfz34_1 := zk BK431.out 1; have hfz34_2 := zk BK431.out 2; have hfz34_3 := zk BK431.out 3; have hfz34_4 := zk BK431.out 4
          try go_wp2
          have n0_ := aM (zi BK431.out); have n1_ := aM (zi BK432.out); have n2_ := aM (zj HB.out); clear BK431 BK432 HB; have BK431 := n0_; have BK432 := n1_; have HB := n2_; clear n0_ n1_ n2_; have p433 : 0 ≤ (x5_2 : Int) := of_decide_eq_true (by first | (with_reducible assumption) | assumption); have q433 : x5_2 < (l0_3.length : Int) := of_decide_eq_true (by first | (with_reducible assumption) | assumption); obtain ⟨ad433, e433, hx433_0⟩ := Kd.at_string HR0_3.out x5_2 p433 q433; have hw433_0 := hx433_0
          cases e433
          replace hx433_0 := (HB.out.cell (World.block_lt_of_cell? w _ hx433_0)).trans hx433_0; replace p433 := eq_true p433; replace q433 := eq_true q433; have p434 : 0 ≤ (x5_2 : Int) := of_decide_eq_true (by first | (with_reducible assumption) | assumption); have q434 : x5_2 < (l1_3.length : Int) := of_decide_eq_true (by first | (with_reducible assumption) | assumption); obtain ⟨ad434, e434, hx434_0⟩ := Kd.at_string HR1_3.out x5_2 p434 q434; have hw434_0 := hx434_0
          cases e434
          replace hx434_0 := (HB.out.cell (World.block_lt_of_cell? w _ hx434_0)).trans hx434_0; replace p434 := eq_true p434; replace q434 := eq_true q434; refine xb (n := 11) (S := fun w' => w'.cell? ⟨gb431, 0, none⟩ = some (.int .i64 a0_0) ∧ w'.cell? ⟨gb431, 1, none⟩ = some (.int .i64 a0_1) ∧ w'.cell? ⟨gb431, 2, none⟩ = some (.string a0_2) ∧ w'.cell? ⟨gb431, 3, none⟩ = some (.slice (some ad433) l0_3.length c0_3) ∧ w'.cell? ⟨gb431, 4, none⟩ = some (.slice A0_4 l0_4.length c0_4) ∧ w'.cell? ⟨gb432, 0, none⟩ = some (.int .i64 a1_0) ∧ w'.cell? ⟨gb432, 1, none⟩ = some (.int .i64 a1_1) ∧ w'.cell? ⟨gb432, 2, none⟩ = some (.string a1_2) ∧ w'.cell? ⟨gb432, 3, none⟩ = some (.slice (some ad434) l1_3.length c1_3) ∧ w'.cell? ⟨gb432, 4, none⟩ = some (.slice A1_4 l1_4.length c1_4) ∧ w'.cell? (ad433.add (x5_2).toNat) = some (.string (rdOf ByteArray.empty l0_3 x5_2)) ∧ w'.cell? (ad434.add (x5_2).toNat) = some (.string (rdOf ByteArray.empty l1_3 x5_2))) (ds := []) (bZ 11 0) (by kernel_rfl) rfl rfl ⟨(zb BK431.out 0).trans rfl, (zb BK431.out 1).trans rfl, (zb BK431.out 2).trans rfl, (zb BK431.out 3).trans rfl, (zb BK431.out 4).trans rfl, (zb BK432.out 0).trans rfl, (zb BK432.out 1).trans rfl, (zb BK432.out 2).trans rfl, (zb BK432.out 3).trans rfl, (zb BK432.out 4).trans rfl, ((HB.out.cell (World.block_lt_of_cell? w _ hw433_0)).trans hw433_0), ((HB.out.cell (World.block_lt_of_cell? w _ hw434_0)).trans hw434_0)⟩ (fun hHeld => ?_); refine xr spec_Same.tab6 spec_Same.bits6 (fun HT_ HW_ => ?_); generalize wr.drew = w35 at BK431 BK432 HB hx433_0 hx434_0 hHeld ⊢; refine pU 0 (some 51) (bZ 11 1) rfl (zz HT_.out (by kernel_rfl)) ?_; refine pU 2 (some 53) (bZ 11 5) rfl (zz HT_.out (by kernel_rfl)) ?_; refine pU 5 (some 56) (bZ 11 37) rfl (zz HT_.out (by kernel_rfl)) ?_; refine pU 7 (some 58) (bZ 11 165) rfl (zz HT_.out (by kernel_rfl)) ?_; refine tU 1 (some 52) (bZ 11 167) rfl (yj HT_.out HW_.out (by kernel_rfl)) (Or.inl ⟨by rfl, by rintro w' ⟨s0, s1, s2, s3, s4, s5, s6, s7, s8, s9, s10, s11⟩; go_simp; with_reducible rfl⟩) hHeld ?_; refine pU 3 (some 54) (bZ 11 175) rfl (zz HT_.out (by kernel_rfl)) ?_; refine tU 4 (some 55) (bZ 11 191) rfl (yj HT_.out HW_.out (by kernel_rfl)) (Or.inl ⟨by rfl, by rintro w' ⟨s0, s1, s2, s3, s4, s5, s6, s7, s8, s9, s10, s11⟩; go_simp; with_reducible rfl⟩) hHeld ?_; refine tU 6 (some 57) (bZ 11 255) rfl (yj HT_.out HW_.out (by kernel_rfl)) (Or.inl ⟨by rfl, by rintro w' ⟨s0, s1, s2, s3, s4, s5, s6, s7, s8, s9, s10, s11⟩; go_simp; with_reducible rfl⟩) hHeld ?_; refine pU 8 (some 59) (bZ 11 511) rfl (zz HT_.out (by kernel_rfl)) ?_; refine tU 9 (some 60) (bZ 11 1023) rfl (yj HT_.out HW_.out (by kernel_rfl)) (Or.inl ⟨by rfl, by rintro w' ⟨s0, s1, s2, s3, s4, s5, s6, s7, s8, s9, s10, s11⟩; go_simp; with_reducible rfl⟩) hHeld ?_; refine pU 10 (some 61) (bZ 11 2047) rfl (zz HT_.out (by kernel_rfl)) ?_; refine xl (vm HT_.out (by kernel_rfl)) ?_
          try go_wp2
          go_ret
          exact ⟨by first | rfl | (simp [zv, zu] <;> rfl) | (simp [*, zv, zu] <;> rfl), by repeat (first | (with_reducible first | exact HB.out | apply za | apply zc | apply zj | refine zh ?_ GE431.out | refine zh ?_ GE432.out) | exact HB.out)⟩
        ·rw [if_neg c28] at H; exact absurd H (by simp)
       ·rw [if_neg c27] at H; exact absurd H (by simp)
      ·rw [if_neg c26] at H; have c26b0 : decide (x5_2 < (l0_3.length : Int)) = false := decide_eq_false c26; clear c26; have H' := aM H; clear H; have hnb36 := NB431_432.out; have hnc36 := NB432_431.out; have hcz37_0 : wr.cell? ⟨gb431, 0, none⟩ = some (.int .i64 a0_0) := (zb BK431.out 0).trans rfl; have hcz37_1 : wr.cell? ⟨gb431, 1, none⟩ = some (.int .i64 a0_1) := (zb BK431.out 1).trans rfl; have hcz37_2 : wr.cell? ⟨gb431, 2, none⟩ = some (.string a0_2) := (zb BK431.out 2).trans rfl; have hcz37_3 : wr.cell? ⟨gb431, 3, none⟩ = some (.slice A0_3 l0_3.length c0_3) := (zb BK431.out 3).trans rfl; have hcz37_4 : wr.cell? ⟨gb431, 4, none⟩ = some (.slice A0_4 l0_4.length c0_4) := (zb BK431.out 4).trans rfl; have hfz37_0 := zk BK431.out 0; have hfz37_1 := zk BK431.out 1; have hfz37_2 := zk BK431.out 2; have hfz37_3 := zk BK431.out 3; have hfz37_4 := zk BK431.out 4
       go_wp2
       go_loopg [6] k2 (fun kq v6 w' => ∃ (x6_3 : Int), v6 = .int .i64 x6_3 ∧ Aside0 (spec_Same.l1 kq x6_3 a0_0 a0_1 a0_2 l0_3 l0_4 a1_0 a1_1 a1_2 l1_3 l1_4 = some r) ∧ Aside0 (kq ≤ k2) ∧ Aside0 (w'.heap[gb431]? = some (.cells #[.int .i64 a0_0, .int .i64 a0_1, .string a0_2, (.slice A0_3 l0_3.length c0_3), (.slice A0_4 l0_4.length c0_4)] 25 (0, 0))) ∧ Aside0 (w'.heap[gb432]? = some (.cells #[.int .i64 a1_0, .int .i64 a1_1, .string a1_2, (.slice A1_3 l1_3.length c1_3), (.slice A1_4 l1_4.length c1_4)] 25 (0, 0))) ∧ Aside0 (Below w.heap.size w w'))
       case atStart => exact ⟨(0), (by first | rfl | (simp; done) | (simp [*]; done)), H', ⟨Nat.le_refl _⟩, ⟨by (with_reducible repeat (first | refine zg ?_ _ | refine zi ?_ | refine ze ?_ _)); exact BK431.out⟩, ⟨by (with_reducible repeat (first | refine zg ?_ _ | refine zi ?_ | refine ze ?_ _)); exact BK432.out⟩, ⟨by repeat (first | (with_reducible first | exact HB.out | apply za | apply zc | apply zj | refine zh ?_ GE431.out | refine zh ?_ GE432.out) | exact HB.out)⟩⟩
       case round =>
        clear H'
        try clear c1
        try clear c2
        try clear p2
        try clear c3
        try clear p4
        try clear q4
        try clear hx4
        try clear c6
        try clear c6b0
        try clear c6b1
        try clear p6
        try clear c7
        try clear c7b0
        try clear c7b1
        try clear c8
        try clear c8b0
        try clear c8b1
        try clear c9
        try clear c9b0
        try clear c9b1
        try clear c9b2
        try clear c10
        try clear c13
        try clear c15
        try clear c16
        try clear c19
        try clear c22
        try clear c25
        try clear c26
        try clear c26b0
        try clear c27
        try clear c27b0
        try clear c28
        try clear c28b0
        try clear c29
        try clear c29b0
        try clear c29b1
        try clear c30
        try clear c33
        try clear c36
        try clear hcz11_0
        try clear hcz11_1
        try clear hcz11_2
        try clear hcz11_3
        try clear hcz11_4
        try clear hcz12_0
        try clear hcz12_1
        try clear hcz12_2
        try clear hcz12_3
        try clear hcz12_4
        try clear hcz14_0
        try clear hcz14_1
        try clear hcz14_2
        try clear hcz14_3
        try clear hcz14_4
        try clear hcz15_0
        try clear hcz15_1
        try clear hcz15_2
        try clear hcz15_3
        try clear hcz15_4
        try clear hcz17_0
        try clear hcz17_1
        try clear hcz17_2
        try clear hcz17_3
        try clear hcz17_4
        try clear hcz18_0
        try clear hcz18_1
        try clear hcz18_2
        try clear hcz18_3
        try clear hcz18_4
        try clear hcz20_0
        try clear hcz20_1
        try clear hcz20_2
        try clear hcz20_3
        try clear hcz20_4
        try clear hcz21_0
        try clear hcz21_1
        try clear hcz21_2
        try clear hcz21_3
        try clear hcz21_4
        try clear hcz23_0
        try clear hcz23_1
        try clear hcz23_2
        try clear hcz23_3
        try clear hcz23_4
        try clear hcz24_0
        try clear hcz24_1
        try clear hcz24_2
        try clear hcz24_3
        try clear hcz24_4
        try clear hcz31_0
        try clear hcz31_1
        try clear hcz31_2
        try clear hcz31_3
        try clear hcz31_4
        try clear hcz34_0
        try clear hcz34_1
        try clear hcz34_2
        try clear hcz34_3
        try clear hcz34_4
        try clear hcz37_0
        try clear hcz37_1
        try clear hcz37_2
        try clear hcz37_3
        try clear hcz37_4
        try clear hfz11_0
        try clear hfz11_1
        try clear hfz11_2
        try clear hfz11_3
        try clear hfz11_4
        try clear hfz12_0
        try clear hfz12_1
        try clear hfz12_2
        try clear hfz12_3
        try clear hfz12_4
        try clear hfz14_0
        try clear hfz14_1
        try clear hfz14_2
        try clear hfz14_3
        try clear hfz14_4
        try clear hfz15_0
        try clear hfz15_1
        try clear hfz15_2
        try clear hfz15_3
        try clear hfz15_4
        try clear hfz17_0
        try clear hfz17_1
        try clear hfz17_2
        try clear hfz17_3
        try clear hfz17_4
        try clear hfz18_0
        try clear hfz18_1
        try clear hfz18_2
        try clear hfz18_3
        try clear hfz18_4
        try clear hfz20_0
        try clear hfz20_1
        try clear hfz20_2
        try clear hfz20_3
        try clear hfz20_4
        try clear hfz21_0
        try clear hfz21_1
        try clear hfz21_2
        try clear hfz21_3
        try clear hfz21_4
        try clear hfz23_0
        try clear hfz23_1
        try clear hfz23_2
        try clear hfz23_3
        try clear hfz23_4
        try clear hfz24_0
        try clear hfz24_1
        try clear hfz24_2
        try clear hfz24_3
        try clear hfz24_4
        try clear hfz31_0
        try clear hfz31_1
        try clear hfz31_2
        try clear hfz31_3
        try clear hfz31_4
        try clear hfz34_0
        try clear hfz34_1
        try clear hfz34_2
        try clear hfz34_3
        try clear hfz34_4
        try clear hfz37_0
        try clear hfz37_1
        try clear hfz37_2
        try clear hfz37_3
        try clear hfz37_4
        try clear hx433_0
        try clear hx434_0
        try clear p2
        try clear p433
        try clear p434
        try clear q433
        try clear q434
        obtain ⟨x6_3, rfl, HA, HK3, BK431, BK432, HB⟩ := hrel
        cases gk with
        | zero => exact absurd HA.out (by simp [spec_Same.l1])
        | succ k3 =>
         have H := HA.out; clear HA; simp only [spec_Same.l1] at H
         by_cases c38 : x6_3 < (l0_4.length : Int)
         ·rw [if_pos c38] at H; have c38b0 : decide (x6_3 < (l0_4.length : Int)) = true := decide_eq_true c38; clear c38
          by_cases c39 : 0 ≤ x6_3
          ·rw [if_pos c39] at H; have c39b0 : decide (0 ≤ x6_3) = true := decide_eq_true c39; clear c39
           by_cases c40 : x6_3 < (l1_4.length : Int)
           ·rw [if_pos c40] at H; have c40b0 : decide (x6_3 < (l1_4.length : Int)) = true := decide_eq_true c40; clear c40; replace H := Option.bind_eq_some_iff.mp H; obtain ⟨t437, A410, H⟩ := H; replace H : (if t437 = true then (spec_Same.l1 k3 (wrap64 (x6_3 + 1)) a0_0 a0_1 a0_2 l0_3 l0_4 a1_0 a1_1 a1_2 l1_3 l1_4) else (some false)) = some r := H; have A41 := aM A410; clear A410
            by_cases c42 : t437 = true
            ·subst c42
             have H1 : (spec_Same.l1 k3 (wrap64 (x6_3 + 1)) a0_0 a0_1 a0_2 l0_3 l0_4 a1_0 a1_1 a1_2 l1_3 l1_4) = some r := by rw [if_pos rfl] at H; exact H
             clear H; have H := H1; clear H1; have H' := aM H; clear H; have hnb43 := NB431_432.out; have hnc43 := NB432_431.out; have hcz44_0 : wr.cell? ⟨gb431, 0, none⟩ = some (.int .i64 a0_0) := (zb BK431.out 0).trans rfl; have hcz44_1 : wr.cell? ⟨gb431, 1, none⟩ = some (.int .i64 a0_1) := (zb BK431.out 1).trans rfl; have hcz44_2 : wr.cell? ⟨gb431, 2, none⟩ = some (.string a0_2) := (zb BK431.out 2).trans rfl; have hcz44_3 : wr.cell? ⟨gb431, 3, none⟩ = some (.slice A0_3 l0_3.length c0_3) := (zb BK431.out 3).trans rfl; have hcz44_4 : wr.cell? ⟨gb431, 4, none⟩ = some (.slice A0_4 l0_4.length c0_4) := (zb BK431.out 4).trans rfl; have hfz44_0 := zk BK431.out 0; have hfz44_1 := zk BK431.out 1; have hfz44_2 := zk BK431.out 2; have hfz44_3 := zk BK431.out 3; have hfz44_4 := zk BK431.out 4
             try go_wp2
             have n0_ := aM (zi BK431.out); have n1_ := aM (zi BK432.out); have n2_ := aM (zj HB.out); clear BK431 BK432 HB; have BK431 := n0_; have BK432 := n1_; have HB := n2_; clear n0_ n1_ n2_; have p435 : 0 ≤ (x6_3 : Int) := of_decide_eq_true (by first | (with_reducible assumption) | assumption); have q435 : x6_3 < (l0_4.length : Int) := of_decide_eq_true (by first | (with_reducible assumption) | assumption); obtain ⟨ad435, A435_3, c435_3, A435_4, c435_4, e435, hx435_0, hx435_1, hx435_2, hx435_3, hx435_4, hl435_3, hi435_3, hl435_4, hi435_4⟩ := at_T25 HR0_4.out x6_3 p435 q435; have hw435_4 := hx435_4; have hw435_3 := hx435_3; have hw435_2 := hx435_2; have hw435_1 := hx435_1; have hw435_0 := hx435_0
             cases e435
             replace hx435_0 := (HB.out.cell (World.block_lt_of_cell? w _ hx435_0)).trans hx435_0; replace hx435_1 := (HB.out.cell (World.block_lt_of_cell? w _ hx435_1)).trans hx435_1; replace hx435_2 := (HB.out.cell (World.block_lt_of_cell? w _ hx435_2)).trans hx435_2; replace hx435_3 := (HB.out.cell (World.block_lt_of_cell? w _ hx435_3)).trans hx435_3; replace hx435_4 := (HB.out.cell (World.block_lt_of_cell? w _ hx435_4)).trans hx435_4; have HR435_3 := aM hi435_3; have HC435_3 := aM hl435_3; clear hi435_3 hl435_3; have HR435_4 := aM hi435_4; have HC435_4 := aM hl435_4; clear hi435_4 hl435_4; replace p435 := eq_true p435; replace q435 := eq_true q435; have p436 : 0 ≤ (x6_3 : Int) := of_decide_eq_true (by first | (with_reducible assumption) | assumption); have q436 : x6_3 < (l1_4.length : Int) := of_decide_eq_true (by first | (with_reducible assumption) | assumption); obtain ⟨ad436, A436_3, c436_3, A436_4, c436_4, e436, hx436_0, hx436_1, hx436_2, hx436_3, hx436_4, hl436_3, hi436_3, hl436_4, hi436_4⟩ := at_T25 HR1_4.out x6_3 p436 q436; have hw436_4 := hx436_4; have hw436_3 := hx436_3; have hw436_2 := hx436_2; have hw436_1 := hx436_1; have hw436_0 := hx436_0
             cases e436
             replace hx436_0 := (HB.out.cell (World.block_lt_of_cell? w _ hx436_0)).trans hx436_0; replace hx436_1 := (HB.out.cell (World.block_lt_of_cell? w _ hx436_1)).trans hx436_1; replace hx436_2 := (HB.out.cell (World.block_lt_of_cell? w _ hx436_2)).trans hx436_2; replace hx436_3 := (HB.out.cell (World.block_lt_of_cell? w _ hx436_3)).trans hx436_3; replace hx436_4 := (HB.out.cell (World.block_lt_of_cell? w _ hx436_4)).trans hx436_4; have HR436_3 := aM hi436_3; have HC436_3 := aM hl436_3; clear hi436_3 hl436_3; have HR436_4 := aM hi436_4; have HC436_4 := aM hl436_4; clear hi436_4 hl436_4; replace p436 := eq_true p436; replace q436 := eq_true q436; refine xb (n := 12) (S := fun w' => w'.cell? ⟨gb431, 0, none⟩ = some (.int .i64 a0_0) ∧ w'.cell? ⟨gb431, 1, none⟩ = some (.int .i64 a0_1) ∧ w'.cell? ⟨gb431, 2, none⟩ = some (.string a0_2) ∧ w'.cell? ⟨gb431, 3, none⟩ = some (.slice A0_3 l0_3.length c0_3) ∧ w'.cell? ⟨gb431, 4, none⟩ = some (.slice (some ad435) l0_4.length c0_4) ∧ w'.cell? ⟨gb432, 0, none⟩ = some (.int .i64 a1_0) ∧ w'.cell? ⟨gb432, 1, none⟩ = some (.int .i64 a1_1) ∧ w'.cell? ⟨gb432, 2, none⟩ = some (.string a1_2) ∧ w'.cell? ⟨gb432, 3, none⟩ = some (.slice A1_3 l1_3.length c1_3) ∧ w'.cell? ⟨gb432, 4, none⟩ = some (.slice (some ad436) l1_4.length c1_4) ∧ w'.cell? (ad435.add ((x6_3).toNat * 5)) = some (.int .i64 ((rd_T25 l0_4 x6_3).f0)) ∧ w'.cell? ⟨(ad435.add ((x6_3).toNat * 5)).block, (ad435.add ((x6_3).toNat * 5)).off + 1, none⟩ = some (.int .i64 ((rd_T25 l0_4 x6_3).f1)) ∧ w'.cell? ⟨(ad435.add ((x6_3).toNat * 5)).block, (ad435.add ((x6_3).toNat * 5)).off + 2, none⟩ = some (.string ((rd_T25 l0_4 x6_3).f2)) ∧ w'.cell? ⟨(ad435.add ((x6_3).toNat * 5)).block, (ad435.add ((x6_3).toNat * 5)).off + 3, none⟩ = some (.slice A435_3 ((rd_T25 l0_4 x6_3).f3).length c435_3) ∧ w'.cell? ⟨(ad435.add ((x6_3).toNat * 5)).block, (ad435.add ((x6_3).toNat * 5)).off + 4, none⟩ = some (.slice A435_4 ((rd_T25 l0_4 x6_3).f4).length c435_4) ∧ w'.cell? (ad436.add ((x6_3).toNat * 5)) = some (.int .i64 ((rd_T25 l1_4 x6_3).f0)) ∧ w'.cell? ⟨(ad436.add ((x6_3).toNat * 5)).block, (ad436.add ((x6_3).toNat * 5)).off + 1, none⟩ = some (.int .i64 ((rd_T25 l1_4 x6_3).f1)) ∧ w'.cell? ⟨(ad436.add ((x6_3).toNat * 5)).block, (ad436.add ((x6_3).toNat * 5)).off + 2, none⟩ = some (.string ((rd_T25 l1_4 x6_3).f2)) ∧ w'.cell? ⟨(ad436.add ((x6_3).toNat * 5)).block, (ad436.add ((x6_3).toNat * 5)).off + 3, none⟩ = some (.slice A436_3 ((rd_T25 l1_4 x6_3).f3).length c436_3) ∧ w'.cell? ⟨(ad436.add ((x6_3).toNat * 5)).block, (ad436.add ((x6_3).toNat * 5)).off + 4, none⟩ = some (.slice A436_4 ((rd_T25 l1_4 x6_3).f4).length c436_4)) (ds := []) (bZ 12 0) (by kernel_rfl) rfl rfl ⟨(zb BK431.out 0).trans rfl, (zb BK431.out 1).trans rfl, (zb BK431.out 2).trans rfl, (zb BK431.out 3).trans rfl, (zb BK431.out 4).trans rfl, (zb BK432.out 0).trans rfl, (zb BK432.out 1).trans rfl, (zb BK432.out 2).trans rfl, (zb BK432.out 3).trans rfl, (zb BK432.out 4).trans rfl, ((HB.out.cell (World.block_lt_of_cell? w _ hw435_0)).trans hw435_0), ((HB.out.cell (World.block_lt_of_cell? w _ hw435_1)).trans hw435_1), ((HB.out.cell (World.block_lt_of_cell? w _ hw435_2)).trans hw435_2), ((HB.out.cell (World.block_lt_of_cell? w _ hw435_3)).trans hw435_3), ((HB.out.cell (World.block_lt_of_cell? w _ hw435_4)).trans hw435_4), ((HB.out.cell (World.block_lt_of_cell? w _ hw436_0)).trans hw436_0), ((HB.out.cell (World.block_lt_of_cell? w _ hw436_1)).trans hw436_1), ((HB.out.cell (World.block_lt_of_cell? w _ hw436_2)).trans hw436_2), ((HB.out.cell (World.block_lt_of_cell? w _ hw436_3)).trans hw436_3), ((HB.out.cell (World.block_lt_of_cell? w _ hw436_4)).trans hw436_4)⟩ (fun hHeld => ?_); refine xr spec_Same.tab11 spec_Same.bits11 (fun HT_ HW_ => ?_); generalize wr.drew = w45 at BK431 BK432 HB HR435_3 HR435_4 HR436_3 HR436_4 hx435_0 hx435_1 hx435_2 hx435_3 hx435_4 hx436_0 hx436_1 hx436_2 hx436_3 hx436_4 hHeld ⊢; refine pU 0 (some 69) (bZ 12 1) rfl (zz HT_.out (by kernel_rfl)) ?_; refine pU 2 (some 71) (bZ 12 5) rfl (zz HT_.out (by kernel_rfl)) ?_; refine pU 5 (some 74) (bZ 12 37) rfl (zz HT_.out (by kernel_rfl)) ?_; refine pU 7 (some 76) (bZ 12 165) rfl (zz HT_.out (by kernel_rfl)) ?_; refine tU 1 (some 70) (bZ 12 167) rfl (yj HT_.out HW_.out (by kernel_rfl)) (Or.inl ⟨by rfl, by rintro w' ⟨s0, s1, s2, s3, s4, s5, s6, s7, s8, s9, s10, s11, s12, s13, s14, s15, s16, s17, s18, s19⟩; go_simp; with_reducible rfl⟩) hHeld ?_; refine pU 3 (some 72) (bZ 12 175) rfl (zz HT_.out (by kernel_rfl)) ?_; refine tU 4 (some 73) (bZ 12 191) rfl (yj HT_.out HW_.out (by kernel_rfl)) (Or.inl ⟨by rfl, by rintro w' ⟨s0, s1, s2, s3, s4, s5, s6, s7, s8, s9, s10, s11, s12, s13, s14, s15, s16, s17, s18, s19⟩; go_simp; with_reducible rfl⟩) hHeld ?_; refine tU 6 (some 75) (bZ 12 255) rfl (yj HT_.out HW_.out (by kernel_rfl)) (Or.inl ⟨by rfl, by rintro w' ⟨s0, s1, s2, s3, s4, s5, s6, s7, s8, s9, s10, s11, s12, s13, s14, s15, s16, s17, s18, s19⟩; go_simp; with_reducible rfl⟩) hHeld ?_; refine pU 8 (some 77) (bZ 12 511) rfl (zz HT_.out (by kernel_rfl)) ?_; refine tU 9 (some 78) (bZ 12 1023) rfl (yj HT_.out HW_.out (by kernel_rfl)) (Or.inl ⟨by rfl, by rintro w' ⟨s0, s1, s2, s3, s4, s5, s6, s7, s8, s9, s10, s11, s12, s13, s14, s15, s16, s17, s18, s19⟩; go_simp; with_reducible rfl⟩) hHeld ?_; refine one_ (i := 10) (N := some 79) (bZ 12 2047) rfl rfl (xi HT_.out (by kernel_rfl)) (by decide) (fun K hK => ?_); refine vn Tryz.func15 (by kernel_rfl) rfl #[.agg #[.int .i64 ((rd_T25 l0_4 x6_3).f0), .int .i64 ((rd_T25 l0_4 x6_3).f1), .string ((rd_T25 l0_4 x6_3).f2), .slice A435_3 ((rd_T25 l0_4 x6_3).f3).length c435_3, .slice A435_4 ((rd_T25 l0_4 x6_3).f4).length c435_4], .agg #[.int .i64 ((rd_T25 l1_4 x6_3).f0), .int .i64 ((rd_T25 l1_4 x6_3).f1), .string ((rd_T25 l1_4 x6_3).f2), .slice A436_3 ((rd_T25 l1_4 x6_3).f3).length c436_3, .slice A436_4 ((rd_T25 l1_4 x6_3).f4).length c436_4]] (by rfl) rfl rfl (by (try simp only [List.map_toArray, List.map_cons, List.map_nil]); first | done | rfl | (simp only [List.length_drop, List.length_take]; rfl)) ?_
             with_reducible refine (ih k3 (by have := HJ2.out; have := HK2.out; have := HK3.out; omega) ((rd_T25 l0_4 x6_3).f0) ((rd_T25 l0_4 x6_3).f1) ((rd_T25 l0_4 x6_3).f2) _ _ ((rd_T25 l0_4 x6_3).f3) _ _ ((rd_T25 l0_4 x6_3).f4) ((rd_T25 l1_4 x6_3).f0) ((rd_T25 l1_4 x6_3).f1) ((rd_T25 l1_4 x6_3).f2) _ _ ((rd_T25 l1_4 x6_3).f3) _ _ ((rd_T25 l1_4 x6_3).f4) true _ ?side1 ?side2 ?side3 ?side4 ?side5 ?side6 ?side7 ?side8 A41.out).mono ?_
             (case side1 => repeat (first | exact (Kd.C_below HR435_3.out HB.out) | (with_reducible refine Kd.C_alloc ?_ _) | (with_reducible refine Kd.C_drewN ?_ _) | (with_reducible refine Kd.C_drew ?_)))
             (case side2 => exact HC435_3.out)
             (case side3 => repeat (first | exact (Kd.C_below HR435_4.out HB.out) | (with_reducible refine Kd.C_alloc ?_ _) | (with_reducible refine Kd.C_drewN ?_ _) | (with_reducible refine Kd.C_drew ?_)))
             (case side4 => exact HC435_4.out)
             (case side5 => repeat (first | exact (Kd.C_below HR436_3.out HB.out) | (with_reducible refine Kd.C_alloc ?_ _) | (with_reducible refine Kd.C_drewN ?_ _) | (with_reducible refine Kd.C_drew ?_)))
             (case side6 => exact HC436_3.out)
             (case side7 => repeat (first | exact (Kd.C_below HR436_4.out HB.out) | (with_reducible refine Kd.C_alloc ?_ _) | (with_reducible refine Kd.C_drewN ?_ _) | (with_reducible refine Kd.C_drew ?_)))
             (case side8 => exact HC436_4.out)
             rintro e w46 ⟨rfl, hb⟩; refine ⟨_, rfl, ?_⟩; have n0_ := aM (ya (g := gb431) (o := .cells #[.int .i64 a0_0, .int .i64 a0_1, .string a0_2, .slice A0_3 l0_3.length c0_3, .slice (some ad435) l0_4.length c0_4] 25 (0, 0)) (by (with_reducible repeat (first | refine zg ?_ _ | refine zi ?_ | refine ze ?_ _)); exact BK431.out) hb); have n1_ := aM (ya (g := gb432) (o := .cells #[.int .i64 a1_0, .int .i64 a1_1, .string a1_2, .slice A1_3 l1_3.length c1_3, .slice (some ad436) l1_4.length c1_4] 25 (0, 0)) (by (with_reducible repeat (first | refine zg ?_ _ | refine zi ?_ | refine ze ?_ _)); exact BK432.out) hb); have n2_ := aM (zx (by repeat (first | (with_reducible first | exact HB.out | apply za | apply zc | apply zj | refine zh ?_ GE431.out | refine zh ?_ GE432.out) | exact HB.out)) hb); clear BK431 BK432 HB; have BK431 := n0_; have BK432 := n1_; have HB := n2_; clear n0_ n1_ n2_
             (try clear hb)
             (try clear hb2)
             (try clear hk)
             (try clear hi)
             refine hK.out _ _ ⟨(zb BK431.out 0).trans rfl, (zb BK431.out 1).trans rfl, (zb BK431.out 2).trans rfl, (zb BK431.out 3).trans rfl, (zb BK431.out 4).trans rfl, (zb BK432.out 0).trans rfl, (zb BK432.out 1).trans rfl, (zb BK432.out 2).trans rfl, (zb BK432.out 3).trans rfl, (zb BK432.out 4).trans rfl, ((HB.out.cell (World.block_lt_of_cell? w _ hw435_0)).trans hw435_0), ((HB.out.cell (World.block_lt_of_cell? w _ hw435_1)).trans hw435_1), ((HB.out.cell (World.block_lt_of_cell? w _ hw435_2)).trans hw435_2), ((HB.out.cell (World.block_lt_of_cell? w _ hw435_3)).trans hw435_3), ((HB.out.cell (World.block_lt_of_cell? w _ hw435_4)).trans hw435_4), ((HB.out.cell (World.block_lt_of_cell? w _ hw436_0)).trans hw436_0), ((HB.out.cell (World.block_lt_of_cell? w _ hw436_1)).trans hw436_1), ((HB.out.cell (World.block_lt_of_cell? w _ hw436_2)).trans hw436_2), ((HB.out.cell (World.block_lt_of_cell? w _ hw436_3)).trans hw436_3), ((HB.out.cell (World.block_lt_of_cell? w _ hw436_4)).trans hw436_4)⟩ (fun hHeld => ?_); clear hK K; refine zq (a' := ?_) ?_ ?_; rotate_left
             ·show Act.put _ (some 79) _ = _
              simp only [Act.put, sA, sB, sC, zo, zt]; rfl
             refine pU 11 (some 80) (bZ 12 4095) rfl (zz HT_.out (by kernel_rfl)) ?_; refine xl (vm HT_.out (by kernel_rfl)) ?_
             try go_wp2
             go_roundg k3
             case measure => have := HJ2.out; have := HK2.out; have := HK3.out; omega
             case rel => exact ⟨(wrap64 (x6_3 + 1)), (by first | rfl | (simp; done) | (simp [*]; done)), H', ⟨by have := HJ2.out; have := HK2.out; have := HK3.out; omega⟩, ⟨by (with_reducible repeat (first | refine zg ?_ _ | refine zi ?_ | refine ze ?_ _)); exact BK431.out⟩, ⟨by (with_reducible repeat (first | refine zg ?_ _ | refine zi ?_ | refine ze ?_ _)); exact BK432.out⟩, ⟨by repeat (first | (with_reducible first | exact HB.out | apply za | apply zc | apply zj | refine zh ?_ GE431.out | refine zh ?_ GE432.out) | exact HB.out)⟩⟩
            ·replace c42 := Bool.eq_false_iff.mpr c42; subst c42
             have H1 : (some false) = some r := by rw [if_neg (show ¬ (false = true) by decide)] at H; exact H
             clear H; have H := H1; clear H1; obtain rfl := Option.some.inj H; have hnb47 := NB431_432.out; have hnc47 := NB432_431.out; have hcz48_0 : wr.cell? ⟨gb431, 0, none⟩ = some (.int .i64 a0_0) := (zb BK431.out 0).trans rfl; have hcz48_1 : wr.cell? ⟨gb431, 1, none⟩ = some (.int .i64 a0_1) := (zb BK431.out 1).trans rfl; have hcz48_2 : wr.cell? ⟨gb431, 2, none⟩ = some (.string a0_2) := (zb BK431.out 2).trans rfl; have hcz48_3 : wr.cell? ⟨gb431, 3, none⟩ = some (.slice A0_3 l0_3.length c0_3) := (zb BK431.out 3).trans rfl; have hcz48_4 : wr.cell? ⟨gb431, 4, none⟩ = some (.slice A0_4 l0_4.length c0_4) := (zb BK431.out 4).trans rfl; have hfz48_0 := zk BK431.out 0; have hfz48_1 := zk BK431.out 1; have hfz48_2 := zk BK431.out 2; have hfz48_3 := zk BK431.out 3; have hfz48_4 := zk BK431.out 4
             try go_wp2
             have n0_ := aM (zi BK431.out); have n1_ := aM (zi BK432.out); have n2_ := aM (zj HB.out); clear BK431 BK432 HB; have BK431 := n0_; have BK432 := n1_; have HB := n2_; clear n0_ n1_ n2_; have p435 : 0 ≤ (x6_3 : Int) := of_decide_eq_true (by first | (with_reducible assumption) | assumption); have q435 : x6_3 < (l0_4.length : Int) := of_decide_eq_true (by first | (with_reducible assumption) | assumption); obtain ⟨ad435, A435_3, c435_3, A435_4, c435_4, e435, hx435_0, hx435_1, hx435_2, hx435_3, hx435_4, hl435_3, hi435_3, hl435_4, hi435_4⟩ := at_T25 HR0_4.out x6_3 p435 q435; have hw435_4 := hx435_4; have hw435_3 := hx435_3; have hw435_2 := hx435_2; have hw435_1 := hx435_1; have hw435_0 := hx435_0
             cases e435
             replace hx435_0 := (HB.out.cell (World.block_lt_of_cell? w _ hx435_0)).trans hx435_0; replace hx435_1 := (HB.out.cell (World.block_lt_of_cell? w _ hx435_1)).trans hx435_1; replace hx435_2 := (HB.out.cell (World.block_lt_of_cell? w _ hx435_2)).trans hx435_2; replace hx435_3 := (HB.out.cell (World.block_lt_of_cell? w _ hx435_3)).trans hx435_3; replace hx435_4 := (HB.out.cell (World.block_lt_of_cell? w _ hx435_4)).trans hx435_4; have HR435_3 := aM hi435_3; have HC435_3 := aM hl435_3; clear hi435_3 hl435_3; have HR435_4 := aM hi435_4; have HC435_4 := aM hl435_4; clear hi435_4 hl435_4; replace p435 := eq_true p435; replace q435 := eq_true q435; have p436 : 0 ≤ (x6_3 : Int) := of_decide_eq_true (by first | (with_reducible assumption) | assumption); have q436 : x6_3 < (l1_4.length : Int) := of_decide_eq_true (by first | (with_reducible assumption) | assumption); obtain ⟨ad436, A436_3, c436_3, A436_4, c436_4, e436, hx436_0, hx436_1, hx436_2, hx436_3, hx436_4, hl436_3, hi436_3, hl436_4, hi436_4⟩ := at_T25 HR1_4.out x6_3 p436 q436; have hw436_4 := hx436_4; have hw436_3 := hx436_3; have hw436_2 := hx436_2; have hw436_1 := hx436_1; have hw436_0 := hx436_0
             cases e436
             replace hx436_0 := (HB.out.cell (World.block_lt_of_cell? w _ hx436_0)).trans hx436_0; replace hx436_1 := (HB.out.cell (World.block_lt_of_cell? w _ hx436_1)).trans hx436_1; replace hx436_2 := (HB.out.cell (World.block_lt_of_cell? w _ hx436_2)).trans hx436_2; replace hx436_3 := (HB.out.cell (World.block_lt_of_cell? w _ hx436_3)).trans hx436_3; replace hx436_4 := (HB.out.cell (World.block_lt_of_cell? w _ hx436_4)).trans hx436_4; have HR436_3 := aM hi436_3; have HC436_3 := aM hl436_3; clear hi436_3 hl436_3; have HR436_4 := aM hi436_4; have HC436_4 := aM hl436_4; clear hi436_4 hl436_4; replace p436 := eq_true p436; replace q436 := eq_true q436; refine xb (n := 12) (S := fun w' => w'.cell? ⟨gb431, 0, none⟩ = some (.int .i64 a0_0) ∧ w'.cell? ⟨gb431, 1, none⟩ = some (.int .i64 a0_1) ∧ w'.cell? ⟨gb431, 2, none⟩ = some (.string a0_2) ∧ w'.cell? ⟨gb431, 3, none⟩ = some (.slice A0_3 l0_3.length c0_3) ∧ w'.cell? ⟨gb431, 4, none⟩ = some (.slice (some ad435) l0_4.length c0_4) ∧ w'.cell? ⟨gb432, 0, none⟩ = some (.int .i64 a1_0) ∧ w'.cell? ⟨gb432, 1, none⟩ = some (.int .i64 a1_1) ∧ w'.cell? ⟨gb432, 2, none⟩ = some (.string a1_2) ∧ w'.cell? ⟨gb432, 3, none⟩ = some (.slice A1_3 l1_3.length c1_3) ∧ w'.cell? ⟨gb432, 4, none⟩ = some (.slice (some ad436) l1_4.length c1_4) ∧ w'.cell? (ad435.add ((x6_3).toNat * 5)) = some (.int .i64 ((rd_T25 l0_4 x6_3).f0)) ∧ w'.cell? ⟨(ad435.add ((x6_3).toNat * 5)).block, (ad435.add ((x6_3).toNat * 5)).off + 1, none⟩ = some (.int .i64 ((rd_T25 l0_4 x6_3).f1)) ∧ w'.cell? ⟨(ad435.add ((x6_3).toNat * 5)).block, (ad435.add ((x6_3).toNat * 5)).off + 2, none⟩ = some (.string ((rd_T25 l0_4 x6_3).f2)) ∧ w'.cell? ⟨(ad435.add ((x6_3).toNat * 5)).block, (ad435.add ((x6_3).toNat * 5)).off + 3, none⟩ = some (.slice A435_3 ((rd_T25 l0_4 x6_3).f3).length c435_3) ∧ w'.cell? ⟨(ad435.add ((x6_3).toNat * 5)).block, (ad435.add ((x6_3).toNat * 5)).off + 4, none⟩ = some (.slice A435_4 ((rd_T25 l0_4 x6_3).f4).length c435_4) ∧ w'.cell? (ad436.add ((x6_3).toNat * 5)) = some (.int .i64 ((rd_T25 l1_4 x6_3).f0)) ∧ w'.cell? ⟨(ad436.add ((x6_3).toNat * 5)).block, (ad436.add ((x6_3).toNat * 5)).off + 1, none⟩ = some (.int .i64 ((rd_T25 l1_4 x6_3).f1)) ∧ w'.cell? ⟨(ad436.add ((x6_3).toNat * 5)).block, (ad436.add ((x6_3).toNat * 5)).off + 2, none⟩ = some (.string ((rd_T25 l1_4 x6_3).f2)) ∧ w'.cell? ⟨(ad436.add ((x6_3).toNat * 5)).block, (ad436.add ((x6_3).toNat * 5)).off + 3, none⟩ = some (.slice A436_3 ((rd_T25 l1_4 x6_3).f3).length c436_3) ∧ w'.cell? ⟨(ad436.add ((x6_3).toNat * 5)).block, (ad436.add ((x6_3).toNat * 5)).off + 4, none⟩ = some (.slice A436_4 ((rd_T25 l1_4 x6_3).f4).length c436_4)) (ds := []) (bZ 12 0) (by kernel_rfl) rfl rfl ⟨(zb BK431.out 0).trans rfl, (zb BK431.out 1).trans rfl, (zb BK431.out 2).trans rfl, (zb BK431.out 3).trans rfl, (zb BK431.out 4).trans rfl, (zb BK432.out 0).trans rfl, (zb BK432.out 1).trans rfl, (zb BK432.out 2).trans rfl, (zb BK432.out 3).trans rfl, (zb BK432.out 4).trans rfl, ((HB.out.cell (World.block_lt_of_cell? w _ hw435_0)).trans hw435_0), ((HB.out.cell (World.block_lt_of_cell? w _ hw435_1)).trans hw435_1), ((HB.out.cell (World.block_lt_of_cell? w _ hw435_2)).trans hw435_2), ((HB.out.cell (World.block_lt_of_cell? w _ hw435_3)).trans hw435_3), ((HB.out.cell (World.block_lt_of_cell? w _ hw435_4)).trans hw435_4), ((HB.out.cell (World.block_lt_of_cell? w _ hw436_0)).trans hw436_0), ((HB.out.cell (World.block_lt_of_cell? w _ hw436_1)).trans hw436_1), ((HB.out.cell (World.block_lt_of_cell? w _ hw436_2)).trans hw436_2), ((HB.out.cell (World.block_lt_of_cell? w _ hw436_3)).trans hw436_3), ((HB.out.cell (World.block_lt_of_cell? w _ hw436_4)).trans hw436_4)⟩ (fun hHeld => ?_); refine xr spec_Same.tab11 spec_Same.bits11 (fun HT_ HW_ => ?_); generalize wr.drew = w49 at BK431 BK432 HB HR435_3 HR435_4 HR436_3 HR436_4 hx435_0 hx435_1 hx435_2 hx435_3 hx435_4 hx436_0 hx436_1 hx436_2 hx436_3 hx436_4 hHeld ⊢; refine pU 0 (some 69) (bZ 12 1) rfl (zz HT_.out (by kernel_rfl)) ?_; refine pU 2 (some 71) (bZ 12 5) rfl (zz HT_.out (by kernel_rfl)) ?_; refine pU 5 (some 74) (bZ 12 37) rfl (zz HT_.out (by kernel_rfl)) ?_; refine pU 7 (some 76) (bZ 12 165) rfl (zz HT_.out (by kernel_rfl)) ?_; refine tU 1 (some 70) (bZ 12 167) rfl (yj HT_.out HW_.out (by kernel_rfl)) (Or.inl ⟨by rfl, by rintro w' ⟨s0, s1, s2, s3, s4, s5, s6, s7, s8, s9, s10, s11, s12, s13, s14, s15, s16, s17, s18, s19⟩; go_simp; with_reducible rfl⟩) hHeld ?_; refine pU 3 (some 72) (bZ 12 175) rfl (zz HT_.out (by kernel_rfl)) ?_; refine tU 4 (some 73) (bZ 12 191) rfl (yj HT_.out HW_.out (by kernel_rfl)) (Or.inl ⟨by rfl, by rintro w' ⟨s0, s1, s2, s3, s4, s5, s6, s7, s8, s9, s10, s11, s12, s13, s14, s15, s16, s17, s18, s19⟩; go_simp; with_reducible rfl⟩) hHeld ?_; refine tU 6 (some 75) (bZ 12 255) rfl (yj HT_.out HW_.out (by kernel_rfl)) (Or.inl ⟨by rfl, by rintro w' ⟨s0, s1, s2, s3, s4, s5, s6, s7, s8, s9, s10, s11, s12, s13, s14, s15, s16, s17, s18, s19⟩; go_simp; with_reducible rfl⟩) hHeld ?_; refine pU 8 (some 77) (bZ 12 511) rfl (zz HT_.out (by kernel_rfl)) ?_; refine tU 9 (some 78) (bZ 12 1023) rfl (yj HT_.out HW_.out (by kernel_rfl)) (Or.inl ⟨by rfl, by rintro w' ⟨s0, s1, s2, s3, s4, s5, s6, s7, s8, s9, s10, s11, s12, s13, s14, s15, s16, s17, s18, s19⟩; go_simp; with_reducible rfl⟩) hHeld ?_; refine one_ (i := 10) (N := some 79) (bZ 12 2047) rfl rfl (xi HT_.out (by kernel_rfl)) (by decide) (fun K hK => ?_); refine vn Tryz.func15 (by kernel_rfl) rfl #[.agg #[.int .i64 ((rd_T25 l0_4 x6_3).f0), .int .i64 ((rd_T25 l0_4 x6_3).f1), .string ((rd_T25 l0_4 x6_3).f2), .slice A435_3 ((rd_T25 l0_4 x6_3).f3).length c435_3, .slice A435_4 ((rd_T25 l0_4 x6_3).f4).length c435_4], .agg #[.int .i64 ((rd_T25 l1_4 x6_3).f0), .int .i64 ((rd_T25 l1_4 x6_3).f1), .string ((rd_T25 l1_4 x6_3).f2), .slice A436_3 ((rd_T25 l1_4 x6_3).f3).length c436_3, .slice A436_4 ((rd_T25 l1_4 x6_3).f4).length c436_4]] (by rfl) rfl rfl (by (try simp only [List.map_toArray, List.map_cons, List.map_nil]); first | done | rfl | (simp only [List.length_drop, List.length_take]; rfl)) ?_
             with_reducible refine (ih k3 (by have := HJ2.out; have := HK2.out; have := HK3.out; omega) ((rd_T25 l0_4 x6_3).f0) ((rd_T25 l0_4 x6_3).f1) ((rd_T25 l0_4 x6_3).f2) _ _ ((rd_T25 l0_4 x6_3).f3) _ _ ((rd_T25 l0_4 x6_3).f4) ((rd_T25 l1_4 x6_3).f0) ((rd_T25 l1_4 x6_3).f1) ((rd_T25 l1_4 x6_3).f2) _ _ ((rd_T25 l1_4 x6_3).f3) _ _ ((rd_T25 l1_4 x6_3).f4) false _ ?side1 ?side2 ?side3 ?side4 ?side5 ?side6 ?side7 ?side8 A41.out).mono ?_
             (case side1 => repeat (first | exact (Kd.C_below HR435_3.out HB.out) | (with_reducible refine Kd.C_alloc ?_ _) | (with_reducible refine Kd.C_drewN ?_ _) | (with_reducible refine Kd.C_drew ?_)))
             (case side2 => exact HC435_3.out)
             (case side3 => repeat (first | exact (Kd.C_below HR435_4.out HB.out) | (with_reducible refine Kd.C_alloc ?_ _) | (with_reducible refine Kd.C_drewN ?_ _) | (with_reducible refine Kd.C_drew ?_)))
             (case side4 => exact HC435_4.out)
             (case side5 => repeat (first | exact (Kd.C_below HR436_3.out HB.out) | (with_reducible refine Kd.C_alloc ?_ _) | (with_reducible refine Kd.C_drewN ?_ _) | (with_reducible refine Kd.C_drew ?_)))
             (case side6 => exact HC436_3.out)
             (case side7 => repeat (first | exact (Kd.C_below HR436_4.out HB.out) | (with_reducible refine Kd.C_alloc ?_ _) | (with_reducible refine Kd.C_drewN ?_ _) | (with_reducible refine Kd.C_drew ?_)))
             (case side8 => exact HC436_4.out)
             rintro e w50 ⟨rfl, hb⟩; refine ⟨_, rfl, ?_⟩; have n0_ := aM (ya (g := gb431) (o := .cells #[.int .i64 a0_0, .int .i64 a0_1, .string a0_2, .slice A0_3 l0_3.length c0_3, .slice (some ad435) l0_4.length c0_4] 25 (0, 0)) (by (with_reducible repeat (first | refine zg ?_ _ | refine zi ?_ | refine ze ?_ _)); exact BK431.out) hb); have n1_ := aM (ya (g := gb432) (o := .cells #[.int .i64 a1_0, .int .i64 a1_1, .string a1_2, .slice A1_3 l1_3.length c1_3, .slice (some ad436) l1_4.length c1_4] 25 (0, 0)) (by (with_reducible repeat (first | refine zg ?_ _ | refine zi ?_ | refine ze ?_ _)); exact BK432.out) hb); have n2_ := aM (zx (by repeat (first | (with_reducible first | exact HB.out | apply za | apply zc | apply zj | refine zh ?_ GE431.out | refine zh ?_ GE432.out) | exact HB.out)) hb); clear BK431 BK432 HB; have BK431 := n0_; have BK432 := n1_; have HB := n2_; clear n0_ n1_ n2_
             (try clear hb)
             (try clear hb2)
             (try clear hk)
             (try clear hi)
             refine hK.out _ _ ⟨(zb BK431.out 0).trans rfl, (zb BK431.out 1).trans rfl, (zb BK431.out 2).trans rfl, (zb BK431.out 3).trans rfl, (zb BK431.out 4).trans rfl, (zb BK432.out 0).trans rfl, (zb BK432.out 1).trans rfl, (zb BK432.out 2).trans rfl, (zb BK432.out 3).trans rfl, (zb BK432.out 4).trans rfl, ((HB.out.cell (World.block_lt_of_cell? w _ hw435_0)).trans hw435_0), ((HB.out.cell (World.block_lt_of_cell? w _ hw435_1)).trans hw435_1), ((HB.out.cell (World.block_lt_of_cell? w _ hw435_2)).trans hw435_2), ((HB.out.cell (World.block_lt_of_cell? w _ hw435_3)).trans hw435_3), ((HB.out.cell (World.block_lt_of_cell? w _ hw435_4)).trans hw435_4), ((HB.out.cell (World.block_lt_of_cell? w _ hw436_0)).trans hw436_0), ((HB.out.cell (World.block_lt_of_cell? w _ hw436_1)).trans hw436_1), ((HB.out.cell (World.block_lt_of_cell? w _ hw436_2)).trans hw436_2), ((HB.out.cell (World.block_lt_of_cell? w _ hw436_3)).trans hw436_3), ((HB.out.cell (World.block_lt_of_cell? w _ hw436_4)).trans hw436_4)⟩ (fun hHeld => ?_); clear hK K; refine zq (a' := ?_) ?_ ?_; rotate_left
             ·show Act.put _ (some 79) _ = _
              simp only [Act.put, sA, sB, sC, zo, zt]; rfl
             refine pU 11 (some 80) (bZ 12 4095) rfl (zz HT_.out (by kernel_rfl)) ?_; refine xl (vm HT_.out (by kernel_rfl)) ?_
             try go_wp2
             go_ret
             exact ⟨by first | rfl | (simp [zv, zu] <;> rfl) | (simp [*, zv, zu] <;> rfl), by repeat (first | (with_reducible first | exact HB.out | apply za | apply zc | apply zj | refine zh ?_ GE431.out | refine zh ?_ GE432.out) | exact HB.out)⟩
           ·rw [if_neg c40] at H; exact absurd H (by simp)
          ·rw [if_neg c39] at H; exact absurd H (by simp)
         ·rw [if_neg c38] at H; have c38b0 : decide (x6_3 < (l0_4.length : Int)) = false := decide_eq_false c38; clear c38; obtain rfl := Option.some.inj H; have hnb51 := NB431_432.out; have hnc51 := NB432_431.out; have hcz52_0 : wr.cell? ⟨gb431, 0, none⟩ = some (.int .i64 a0_0) := (zb BK431.out 0).trans rfl; have hcz52_1 : wr.cell? ⟨gb431, 1, none⟩ = some (.int .i64 a0_1) := (zb BK431.out 1).trans rfl; have hcz52_2 : wr.cell? ⟨gb431, 2, none⟩ = some (.string a0_2) := (zb BK431.out 2).trans rfl; have hcz52_3 : wr.cell? ⟨gb431, 3, none⟩ = some (.slice A0_3 l0_3.length c0_3) := (zb BK431.out 3).trans rfl; have hcz52_4 : wr.cell? ⟨gb431, 4, none⟩ = some (.slice A0_4 l0_4.length c0_4) := (zb BK431.out 4).trans rfl; have hfz52_0 := zk BK431.out 0; have hfz52_1 := zk BK431.out 1; have hfz52_2 := zk BK431.out 2; have hfz52_3 := zk BK431.out 3; have hfz52_4 := zk BK431.out 4
          go_wp2
          go_ret
          exact ⟨by first | rfl | (simp [zv, zu] <;> rfl) | (simp [*, zv, zu] <;> rfl), by repeat (first | (with_reducible first | exact HB.out | apply za | apply zc | apply zj | refine zh ?_ GE431.out | refine zh ?_ GE432.out) | exact HB.out)⟩
end Go.Proofs.YtjcffojiacgocaaGreatDoor.PS
namespace Go.Proofs.YtjcffojiacgocaaGreatDoor.Tr
open Go.RowKit Go.Proofs.YtjcffojiacgocaaGreatDoorW.PrintWords Go.Proofs.YtjcffojiacgocaaGreatDoorW.PrintLast Go.Proofs.YtjcffojiacgocaaGreatDoor.Str Go.Proofs.YtjcffojiacgocaaGreatDoor.Kit Go.Proofs.YtjcffojiacgocaaGreatDoor.MapV Go.Proofs.YtjcffojiacgocaaGreatDoor.Frame Go.Proofs.YtjcffojiacgocaaGreatDoor.PS
inductive Short : VS → Prop
 | mk (x : VS) (hk : x.f3.length ≤ 8796093022000) (hl : x.f4.length ≤ 1759218604400) (hv : ∀ v, v ∈ x.f4 → Short v) : Short x
theorem rdS' {xs : List VS} {i : Nat} (h : i < xs.length) : rd_T25 xs (i : Int) = xs[i] := by
 unfold rd_T25
 simp [List.getD_eq_getElem?_getD, h]
theorem wrapQ (i : Nat) (h : i < 4611686018427387904) : wrap64 ((i : Int) + 1) = ((i + 1 : Nat) : Int) := by unfold wrap64; omega
def SameEv (x : VS) : Prop := Ev (fun k => spec_Same.f k x.f0 x.f1 x.f2 x.f3 x.f4 x.f0 x.f1 x.f2 x.f3 x.f4) true
theorem ev_same_l1 (a b : Int) (c : BA) (ks : List BA) (vs : List VS) (hl : vs.length ≤ 1759218604400) (hch : ∀ v, v ∈ vs → SameEv v) : ∀ (d i : Nat), i + d = vs.length → Ev (fun k => spec_Same.l1 k (i : Int) a b c ks vs a b c ks vs) true := by
 intro d
 induction d with
 | zero =>
  intro i hi; refine Ev.step (fun k => ?_) (Ev.now _); simp only [spec_Same.l1]; rw [if_neg (by omega)]
 | succ d ih =>
  intro i hi
  have hlt : i < vs.length := by omega
  refine Ev.step (f := fun k => (spec_Same.f k vs[i].f0 vs[i].f1 vs[i].f2 vs[i].f3 vs[i].f4 vs[i].f0 vs[i].f1 vs[i].f2 vs[i].f3 vs[i].f4).bind fun t => if t = true then spec_Same.l1 k ((i + 1 : Nat) : Int) a b c ks vs a b c ks vs else some false) (fun k => ?_) ?_
  ·simp only [spec_Same.l1]; rw [if_pos (by omega), if_pos (by omega), if_pos (by omega), rdS' hlt, wrapQ i (by omega)]
  ·refine Ev.bind (hch vs[i] (List.getElem_mem hlt)) ?_; simp only [if_true]; exact ih (i + 1) (by omega)
theorem ev_same_l0 (a b : Int) (c : BA) (ks : List BA) (vs : List VS) (hk : ks.length ≤ 8796093022000) (hl : vs.length ≤ 1759218604400) (hch : ∀ v, v ∈ vs → SameEv v) : ∀ (d i : Nat), i + d = ks.length → Ev (fun k => spec_Same.l0 k (i : Int) a b c ks vs a b c ks vs) true := by
 intro d
 induction d with
 | zero =>
  intro i hi; refine Ev.step (f := fun k => spec_Same.l1 k ((0 : Nat) : Int) a b c ks vs a b c ks vs) (fun k => ?_) (ev_same_l1 a b c ks vs hl hch vs.length 0 (by omega)); simp only [spec_Same.l0]; rw [if_neg (by omega)]; rfl
 | succ d ih =>
  intro i hi; refine Ev.step (f := fun k => spec_Same.l0 k ((i + 1 : Nat) : Int) a b c ks vs a b c ks vs) (fun k => ?_) (ih (i + 1) (by omega)); simp only [spec_Same.l0]; rw [if_pos (by omega), if_pos (by omega), if_pos (by omega), if_pos trivial, wrapQ i (by omega)]
theorem ev_same : ∀ x : VS, Short x → SameEv x := by
 intro x hx
 induction hx with
 | mk x hk hl hv ih =>
  obtain ⟨k, n, t, ks, vs⟩ := x; have h := ev_same_l0 k n t ks vs hk hl ih ks.length 0 (by omega)
  unfold SameEv
  refine Ev.step (f := fun j => spec_Same.j0 j false k n t ks vs k n t ks vs) (fun j => ?_) (Ev.step (f := fun j => spec_Same.l0 j ((0 : Nat) : Int) k n t ks vs k n t ks vs) (fun j => ?_) h)
  ·simp only [spec_Same.f, if_true, bne_self_eq_false]
  ·simp only [spec_Same.j0, if_false, Bool.false_eq_true]; rfl
abbrev kFix (w : World) : Kd VS := held 5 (fun x cs => kS.K w x cs) (fun hp => kS.K_len hp) (fun hp => kS.K_one hp)
structure Reads (w : World) (x : VS) (A3 : Option Addr) (c3 : Nat) (A4 : Option Addr) (c4 : Nat) : Prop where
 l3 : x.f3.length ≤ c3
 hk : Kd.string.C w A3 x.f3.length x.f3
 l4 : x.f4.length ≤ c4
 hv : kS.C w A4 x.f4.length x.f4
theorem Reads.below {w w1 : World} {x : VS} {A3 A4 : Option Addr} {c3 c4 : Nat} (h : Reads w x A3 c3 A4 c4) (hb : Below w.heap.size w w1) : Reads w1 x A3 c3 A4 c4 := ⟨h.l3, Kd.C_below h.hk hb, h.l4, Kd.C_below h.hv hb⟩
def Gives (x : VS) (w : World) (e : Ending) (w' : World) : Prop := ∃ A3 c3 A4 c4, e = .returned (.agg #[.int .i64 x.f0, .int .i64 x.f1, .string x.f2, .slice A3 x.f3.length c3, .slice A4 x.f4.length c4]) ∧ Reads w' x A3 c3 A4 c4 ∧ Below w.heap.size w w'
def mapsOf (ks : List BA) (vs : List VS) : VS := ⟨5, 0, ⟨#[]⟩, (fitW ks vs [] []).1, (fitW ks vs [] []).2⟩
def GivesR (W : World) (x : VS) (w : World) (e : Ending) (w' : World) : Prop := ∃ v3 v4, e = .returned (.agg #[.int .i64 x.f0, .int .i64 x.f1, .string x.f2, v3, v4]) ∧ Kd.string.R 9 w' w.heap.size (fun k => w.heap.size ≤ k) v3 x.f3 ∧ (kFix W).R 25 w' w.heap.size (fun k => w.heap.size ≤ k) v4 x.f4 ∧ Below w.heap.size w w'
theorem fix_reads {W w : World} {x : VS} {v3 v4 : Value} {b3 b4 : Nat} {ok3 ok4 : Nat → Prop} (hb : Below W.heap.size W w) (h3 : Kd.string.R 9 w b3 ok3 v3 x.f3) (h4 : (kFix W).R 25 w b4 ok4 v4 x.f4) : ∃ A3 c3 A4 c4, v3 = .slice A3 x.f3.length c3 ∧ v4 = .slice A4 x.f4.length c4 ∧ Reads w x A3 c3 A4 c4 := by
 obtain ⟨B3, d3, rfl, m3, g3⟩ := Kd.R_reads h3; obtain ⟨B4, d4, rfl, m4, g4⟩ := Kd.R_reads h4; exact ⟨B3, d3, B4, d4, rfl, rfl, m3, g3, m4, ReadsRow.imp_ g4 (Below.refl _ _) (fun _ _ hp => kS.K_below hb hp)⟩
abbrev zC : Array Value := #[.int .i64 0, .int .i64 0, .string ⟨#[]⟩, .slice none 0 0, .slice none 0 0]
theorem empty_gives (w : World) : Calls Tryz.prog 27 #[] w fun e w' => e = .returned (.agg #[.int .i64 5, .int .i64 0, .string ⟨#[]⟩, .slice none 0 0, .slice none 0 0]) ∧ Below w.heap.size w w' := by
 have h0 := yk w (.cells #[.int .i64 0, .int .i64 0, .string ⟨#[]⟩, .slice none 0 0, .slice none 0 0] 25); have HB := aM ((Below.refl _ w).alloc (Nat.le_refl _) (.cells #[.int .i64 0, .int .i64 0, .string ⟨#[]⟩, .slice none 0 0, .slice none 0 0] 25))
 go_enter Tryz.func27, Tryz.ntmps27
 go_wp2_with (refine xt (.tmp 0) (.tmp 1) rfl rfl rfl rfl h0 ?_)
 exact bodyPost_ret (v := .agg #[.int .i64 5, .int .i64 0, .string ⟨#[]⟩, .slice none 0 0, .slice none 0 0]) (xv rfl rfl (setRow_heap _ _ _ _ _ _ h0)) rfl ⟨rfl, zm HB.out (some w.heap.size) HB.out.size (yi _ w.heap.size _) (fun k hk => by injection hk with hk; have h2 : w.heap.size = k := hk; omega)⟩
theorem fits_reads (x : VS) (A3 A4 : Option Addr) (c3 c4 : Nat) (w : World) (h : Reads w x A3 c3 A4 c4) :
  Calls Tryz.prog 6 #[.agg #[.int .i64 x.f0, .int .i64 x.f1, .string x.f2, .slice A3 x.f3.length c3, .slice A4 x.f4.length c4]] w fun e w' => ∃ b, e = .returned (.bool b) ∧ Below w.heap.size w w' := by
 obtain ⟨b, hb⟩ := ev_zzFits1 x; obtain ⟨k, hk⟩ := hb.rounds; refine (laws_zzFits1.calls k x.f0 x.f1 x.f2 A3 c3 x.f3 A4 c4 x.f4 b w h.hk h.l3 h.hv h.l4 hk).mono ?_; rintro e w1 ⟨rfl, hb1⟩; exact ⟨b, rfl, hb1⟩
def GivesS (x : VS) (w : World) (e : Ending) (w' : World) : Prop := ∃ A3 c3 A4 c4, e = .returned (.agg #[.int .i64 x.f0, .int .i64 x.f1, .string x.f2, .slice A3 x.f3.length c3, .slice A4 x.f4.length c4]) ∧ (∀ W : World, (∀ k, w.heap.size ≤ k → k < w'.heap.size → W.heap[k]? = w'.heap[k]?) → Reads W x A3 c3 A4 c4) ∧ Below w.heap.size w w'
theorem fit_gives (x : VS) (hx : SmallS x) (A3 A4 : Option Addr) (c3 c4 : Nat) (w : World) (h : Reads w x A3 c3 A4 c4) :
  Calls Tryz.prog 8 #[.agg #[.int .i64 x.f0, .int .i64 x.f1, .string x.f2, .slice A3 x.f3.length c3, .slice A4 x.f4.length c4]] w (GivesS (fitV x) w) := by
 have hF := ev_Fit x hx
 unfold FitEv at hF
 obtain ⟨k, hk⟩ := hF.rounds; refine (spec_Fit.calls k x.f0 x.f1 x.f2 A3 c3 x.f3 A4 c4 x.f4 _ _ _ _ _ w h.hk h.l3 h.hv h.l4 hk).mono ?_; rintro e w1 ⟨v3, v4, rfl, hr3, hr4, hb⟩; obtain ⟨B3, d3, rfl⟩ := Kd.R_slice hr3; obtain ⟨B4, d4, rfl⟩ := Kd.N_slice hr4; refine ⟨B3, d3, B4, d4, rfl, fun W hW => ?_, hb⟩; have h3 := Kd.R_reads' (Kd.R_step hr3 (fun k hk hl => hW k hk hl)); have h4 := Kd.N_reads' (Kd.N_step hr4 (fun k hk hl => hW k hk.1 hl)); exact ⟨h3.2.1, h3.2.2, h4.2.1, h4.2.2⟩
theorem SmallS.short {x : VS} (h : SmallS x) : Short x := by
 induction h with
 | mk x ht hk hkl hvl hv ih => exact .mk x hkl hvl ih
theorem SmallS.at {x v : VS} (h : SmallS x) (hv : v ∈ x.f4) : SmallS v := by
 cases h with
 | mk _ _ _ _ _ h => exact h v hv
theorem Canon.at {x v : VS} (h : Canon x) (hv : v ∈ x.f4) : Canon v := by
 cases h with
 | list l h => exact h v hv
 | map ks vs hr hl h => exact h v hv
 | _ => cases hv
end Go.Proofs.YtjcffojiacgocaaGreatDoor.Tr
namespace Go.Proofs.YtjcffojiacgocaaGreatDoor.PS
open Go.RowKit Go.Proofs.YtjcffojiacgocaaGreatDoorW.PrintWords Go.Proofs.YtjcffojiacgocaaGreatDoorW.PrintLast Go.Proofs.YtjcffojiacgocaaGreatDoorW.PrintMore
attribute [local go_sem] xf xd xk xj yt yr xe xc 
def spec_SubstDouble.l0 : Nat → ByteArray → List Int → Int → Option (ByteArray)
 | 0, _, _, _ => none
 | k + 1, x0, x3, x4 => if x4 < (x0.size : Int) then (if 0 ≤ x4 then (if x3.length < 140737488355328 then ((some (x3 ++ [bt x0 x4] : List Int)).bind fun y460 => (if (bt x0 x4) = 36 then (if y460.length < 140737488355328 then (spec_SubstDouble.l0 k x0 (y460 ++ [36]) (wrap64 (x4 + 1))) else (none)) else (spec_SubstDouble.l0 k x0 y460 (wrap64 (x4 + 1))))) else (none)) else (none)) else (some (strOfNums x3))
def spec_SubstDouble.f (k : Nat) (a0 : ByteArray) : Option (ByteArray) := spec_SubstDouble.l0 k a0 ([] : List Int) 0
set_option maxHeartbeats 8000000 in
set_option maxRecDepth 100000 in
theorem spec_SubstDouble.calls (k : Nat) (a0 : ByteArray) (r : ByteArray) (w : World) (h : spec_SubstDouble.f k a0 = some r) :
  Calls Tryz.prog 35 #[.string a0] w fun e w' => e = .returned (.string r) ∧ Below w.heap.size w w' := by
 have HB := aM (Below.refl w.heap.size w); have H : (spec_SubstDouble.l0 k a0 ([] : List Int) 0) = some r := h; clear h; have H' := aM H; clear H
 go_enter Tryz.func35, Tryz.ntmps35
 go_wp2
 go_loopg [3, 4] k (fun kq v3 v4 w' => ∃ (x3_1 : List Int) (x4_1 : Int), v4 = .int .i64 x4_1 ∧ Aside0 (spec_SubstDouble.l0 kq a0 x3_1 x4_1 = some r) ∧ Aside0 (kq ≤ k) ∧ Aside0 (Kd.R (Kd.int .u8) 5 w' w.heap.size (fun _ => True) v3 x3_1) ∧ Aside0 (Below w.heap.size w w'))
 case atStart => exact ⟨(([] : List Int)), (0), (by first | rfl | (simp; done) | (simp [*]; done)), H', ⟨Nat.le_refl _⟩, ⟨by first | exact Kd.R_nil _ _ _ _ _ | exact Kd.N_nil _ _ _ _ _ | exact Kd.V_nil _ _ _ _ _ | exact Kd.Q_nil _ _ _ _ _ | exact Kd.S_nil _ _ _ _ _⟩, ⟨by repeat (first | (with_reducible first | exact HB.out | apply za | apply zc | apply zj) | exact HB.out)⟩⟩
 case round =>
  clear H'; obtain ⟨x3_1, x4_1, rfl, HA, HK1, HO_3, HB⟩ := hrel
  cases gk with
  | zero => exact absurd HA.out (by simp [spec_SubstDouble.l0])
  | succ k1 =>
   have H := HA.out; clear HA; simp only [spec_SubstDouble.l0] at H
   by_cases c2 : x4_1 < (a0.size : Int)
   ·rw [if_pos c2] at H; have c2b0 : decide (x4_1 < (a0.size : Int)) = true := decide_eq_true c2; clear c2
    by_cases c3 : 0 ≤ x4_1
    ·rw [if_pos c3] at H; have c3b0 : decide (0 ≤ x4_1) = true := decide_eq_true c3; clear c3
     by_cases c5 : x3_1.length < 140737488355328
     ·rw [if_pos c5] at H; have LMc5 := aM c5; clear c5
      obtain ⟨y460, hy460⟩ : ∃ y_ : List Int, y_ = (x3_1 ++ [bt a0 x4_1]) := ⟨_, rfl⟩
      replace H : (if (bt a0 x4_1) = 36 then (if y460.length < 140737488355328 then (spec_SubstDouble.l0 k1 a0 (y460 ++ [36]) (wrap64 (x4_1 + 1))) else (none)) else (spec_SubstDouble.l0 k1 a0 y460 (wrap64 (x4_1 + 1)))) = some r := by first | (rw [hy460]; with_reducible exact H) | (have H2_ := (Option.bind_some _ _).symm.trans H; rw [hy460]; with_reducible exact H2_) | (have H2_ := (Option.bind_some _ _).symm.trans H; with_reducible exact H2_) | with_reducible exact H | (rw [hy460]; exact H) | exact H
      have Ny460 := aM hy460; clear hy460
      by_cases c7 : (bt a0 x4_1) = 36
      ·rw [if_pos c7] at H; have c7b0 : ((bt a0 x4_1) == 36) = true := beq_iff_eq.mpr c7; have c7b1 : ((bt a0 x4_1) != 36) = false := bne_eq_false_iff_eq.mpr c7; clear c7
       by_cases c8 : y460.length < 140737488355328
       ·rw [if_pos c8] at H; have LMc8 := aM c8; clear c8
        obtain ⟨y463, hy463⟩ : ∃ y_ : List Int, y_ = (y460 ++ [36]) := ⟨_, rfl⟩
        replace H : (spec_SubstDouble.l0 k1 a0 y463 (wrap64 (x4_1 + 1))) = some r := by first | (rw [hy463]; with_reducible exact H) | (have H2_ := (Option.bind_some _ _).symm.trans H; rw [hy463]; with_reducible exact H2_) | (have H2_ := (Option.bind_some _ _).symm.trans H; with_reducible exact H2_) | with_reducible exact H | (rw [hy463]; exact H) | exact H
        have Ny463 := aM hy463; clear hy463; have H' := aM H; clear H; have p4 : 0 ≤ (x4_1 : Int) := of_decide_eq_true (by first | (with_reducible assumption) | assumption); have q4 : x4_1 < (a0.size : Int) := of_decide_eq_true (by first | (with_reducible assumption) | assumption); have hx4 := yw a0 x4_1; replace p4 := eq_true p4; replace q4 := eq_true q4
        go_wp2_with (first | ((with_reducible refine gate_builtin (b := .append) (xs := #[.tmp 11, .tmp 15]) rfl ?_); at_builtin; refine Kd.R_append (Kd.int .u8) (w0 := w) w.heap.size rfl (.tmp 11) (.tmp 15) 116 5 (.int .u8 0) 1 rfl Tryz.underlying116 info5 rfl (by decide) (by omega) u3 x3_1 (bt a0 x4_1) [.int .u8 (bt a0 x4_1)] (fun _ => True) (fun _ => False) rfl rfl ?aP (fun _ hk => hk.elim) ?aF ?aO ?aB ?aS ?aL ?_; (case aP => exact rfl); (case aB => exact (by repeat (first | (with_reducible first | exact HB.out | apply za | apply zc | apply zj) | exact HB.out))); (case aF => exact (fun _ _ => trivial)); (case aO => exact (by (with_reducible repeat (first | apply Kd.R_alloc | apply Kd.R_drewN | apply Kd.R_drew)); exact HO_3.out)); (case aS => exact (zl (by repeat (first | (with_reducible first | exact HB.out | apply za | apply zc | apply zj) | exact HB.out)))); (case aL => have := LMc5.out; omega); intro v461 w9 ho hb hg hat; rw [← Ny460.out] at ho; have n0_ := aM (hb); have n1_ := aM (ho); clear HB; clear HO_3; have HB := n0_; have HO462 := n1_; clear n0_ n1_; clear ho hb hg hat; have p6 : 0 ≤ (x4_1 : Int) := of_decide_eq_true (by first | (with_reducible assumption) | assumption); have q6 : x4_1 < (a0.size : Int) := of_decide_eq_true (by first | (with_reducible assumption) | assumption); have hx6 := yw a0 x4_1; replace p6 := eq_true p6; replace q6 := eq_true q6) | ((with_reducible refine gate_builtin (b := .append) (xs := #[.tmp 21, .tmp 22]) rfl ?_); at_builtin; refine Kd.R_append (Kd.int .u8) (w0 := w) w.heap.size rfl (.tmp 21) (.tmp 22) 116 5 (.int .u8 0) 1 rfl Tryz.underlying116 info5 rfl (by decide) (by omega) v461 y460 36 [.int .u8 36] (fun _ => True) (fun _ => False) rfl rfl ?aP (fun _ hk => hk.elim) ?aF ?aO ?aB ?aS ?aL ?_; (case aP => exact rfl); (case aB => exact (by repeat (first | (with_reducible first | exact HB.out | apply za | apply zc | apply zj) | exact HB.out))); (case aF => exact (fun _ _ => trivial)); (case aO => exact (by (with_reducible repeat (first | apply Kd.R_alloc | apply Kd.R_drewN | apply Kd.R_drew)); exact HO462.out)); (case aS => exact (zl (by repeat (first | (with_reducible first | exact HB.out | apply za | apply zc | apply zj) | exact HB.out)))); (case aL => have := LMc8.out; omega); intro v464 w10 ho hb hg hat; rw [← Ny463.out] at ho; have n0_ := aM (hb); have n1_ := aM (ho); clear HB; clear HO462; have HB := n0_; have HO465 := n1_; clear n0_ n1_; clear ho hb hg hat))
        go_roundg k1
        case measure => have := HK1.out; omega
        case rel => exact ⟨(y463), (wrap64 (x4_1 + 1)), (by first | rfl | (simp; done) | (simp [*]; done)), H', ⟨by have := HK1.out; omega⟩, ⟨by (with_reducible repeat (first | apply Kd.R_alloc | apply Kd.R_drewN | apply Kd.R_drew)); exact HO465.out⟩, ⟨by repeat (first | (with_reducible first | exact HB.out | apply za | apply zc | apply zj) | exact HB.out)⟩⟩
       ·rw [if_neg c8] at H; exact absurd H (by simp)
      ·rw [if_neg c7] at H; have c7b0 : ((bt a0 x4_1) == 36) = false := beq_eq_false_iff_ne.mpr c7; have c7b1 : ((bt a0 x4_1) != 36) = true := bne_iff_ne.mpr c7; have H' := aM H; clear H; have p4 : 0 ≤ (x4_1 : Int) := of_decide_eq_true (by first | (with_reducible assumption) | assumption); have q4 : x4_1 < (a0.size : Int) := of_decide_eq_true (by first | (with_reducible assumption) | assumption); have hx4 := yw a0 x4_1; replace p4 := eq_true p4; replace q4 := eq_true q4
       go_wp2_with (first | ((with_reducible refine gate_builtin (b := .append) (xs := #[.tmp 11, .tmp 15]) rfl ?_); at_builtin; refine Kd.R_append (Kd.int .u8) (w0 := w) w.heap.size rfl (.tmp 11) (.tmp 15) 116 5 (.int .u8 0) 1 rfl Tryz.underlying116 info5 rfl (by decide) (by omega) u3 x3_1 (bt a0 x4_1) [.int .u8 (bt a0 x4_1)] (fun _ => True) (fun _ => False) rfl rfl ?aP (fun _ hk => hk.elim) ?aF ?aO ?aB ?aS ?aL ?_; (case aP => exact rfl); (case aB => exact (by repeat (first | (with_reducible first | exact HB.out | apply za | apply zc | apply zj) | exact HB.out))); (case aF => exact (fun _ _ => trivial)); (case aO => exact (by (with_reducible repeat (first | apply Kd.R_alloc | apply Kd.R_drewN | apply Kd.R_drew)); exact HO_3.out)); (case aS => exact (zl (by repeat (first | (with_reducible first | exact HB.out | apply za | apply zc | apply zj) | exact HB.out)))); (case aL => have := LMc5.out; omega); intro v461 w11 ho hb hg hat; rw [← Ny460.out] at ho; have n0_ := aM (hb); have n1_ := aM (ho); clear HB; clear HO_3; have HB := n0_; have HO462 := n1_; clear n0_ n1_; clear ho hb hg hat; have p6 : 0 ≤ (x4_1 : Int) := of_decide_eq_true (by first | (with_reducible assumption) | assumption); have q6 : x4_1 < (a0.size : Int) := of_decide_eq_true (by first | (with_reducible assumption) | assumption); have hx6 := yw a0 x4_1; replace p6 := eq_true p6; replace q6 := eq_true q6))
       go_roundg k1
       case measure => have := HK1.out; omega
       case rel => exact ⟨(y460), (wrap64 (x4_1 + 1)), (by first | rfl | (simp; done) | (simp [*]; done)), H', ⟨by have := HK1.out; omega⟩, ⟨by (with_reducible repeat (first | apply Kd.R_alloc | apply Kd.R_drewN | apply Kd.R_drew)); exact HO462.out⟩, ⟨by repeat (first | (with_reducible first | exact HB.out | apply za | apply zc | apply zj) | exact HB.out)⟩⟩
     ·rw [if_neg c5] at H; exact absurd H (by simp)
    ·rw [if_neg c3] at H; exact absurd H (by simp)
   ·rw [if_neg c2] at H; have c2b0 : decide (x4_1 < (a0.size : Int)) = false := decide_eq_false c2; clear c2; obtain rfl := Option.some.inj H; have hcv12 := own_string (P := Tryz.prog) Tryz.underlying116 Tryz.underlying5 Tryz.underlying9 (Kd.own_of_R HO_3.out)
    go_wp2
    go_ret
    exact ⟨by first | rfl | (simp [zv, zu] <;> rfl) | (simp [*, zv, zu] <;> rfl), by repeat (first | (with_reducible first | exact HB.out | apply za | apply zc | apply zj) | exact HB.out)⟩
end Go.Proofs.YtjcffojiacgocaaGreatDoor.PS
namespace Go.Proofs.YtjcffojiacgocaaGreatDoor.Tr
open Go.RowKit Go.Proofs.YtjcffojiacgocaaGreatDoorW.PrintWords Go.Proofs.YtjcffojiacgocaaGreatDoorW.PrintLast Go.Proofs.YtjcffojiacgocaaGreatDoor.Str Go.Proofs.YtjcffojiacgocaaGreatDoor.Kit Go.Proofs.YtjcffojiacgocaaGreatDoor.MapV Go.Proofs.YtjcffojiacgocaaGreatDoor.Frame Go.Proofs.YtjcffojiacgocaaGreatDoor.PS
open Go.Proofs.YtjcffojiacgocaaGreatDoor.Tr.Sb (twice mk wrap1)
theorem at_getI (s : BA) (i : Nat) (h : i < (lb s).length) : Sb.At s i (lb s)[i] := by unfold Sb.At; exact List.getElem?_eq_getElem h
theorem ends_double_l (s : BA) (hs : s.size ≤ 4194304) : ∀ (d i : Nat) (l : Bs), i + d = s.size → l.length ≤ 2 * i → Ends (fun r => r = mk (l ++ twice ((lb s).drop i))) (fun k => spec_SubstDouble.l0 k s (bnums l) (i : Int)) := by
 intro d
 induction d with
 | zero =>
  intro i l hi hl; refine Ends.step (fun k => by simp only [spec_SubstDouble.l0, Option.bind_some]; rfl) ?_; refine Ends.no (by omega) (Ends.now ?_); rw [str_bnums, List.drop_eq_nil_of_le (by rw [yd]; omega)]
  simp [mk, twice]
 | succ d ih =>
  intro i l hi hl
  have hlt : i < (lb s).length := by rw [yd]; omega
  have hbt := (at_getI s i hlt).bt; have hd : (lb s).drop i = (lb s)[i] :: (lb s).drop (i + 1) := List.drop_eq_getElem_cons hlt; refine Ends.step (fun k => by simp only [spec_SubstDouble.l0, Option.bind_some]; rfl) ?_; rw [hbt, wrap1 i (by omega), hd]; generalize (lb s)[i] = c
  have e1 : ∀ (m : Bs) (b : UInt8), bnums m ++ [(b.toNat : Int)] = bnums (m ++ [b]) := fun m b => by rw [bnums_append]; rfl
  refine Ends.yes (by omega) (Ends.yes (by omega) (Ends.yes (by rw [xu]; omega) (Ends.ite (fun h36 => ?_) (fun h36 => ?_))))
  ·have hc : c = 36 := UInt8.toNat_inj.1 (by show c.toNat = 36; omega); subst hc; refine Ends.yes (by rw [e1, xu]; simp; omega) ?_; have h := ih (i + 1) (l ++ [36] ++ [36]) (by omega) (by simp; omega); rw [show twice (36 :: (lb s).drop (i + 1)) = 36 :: 36 :: twice ((lb s).drop (i + 1)) by simp [twice]]; rw [show l ++ 36 :: 36 :: twice ((lb s).drop (i + 1)) = l ++ [36] ++ [36] ++ twice ((lb s).drop (i + 1)) by simp]; rw [← e1, ← e1] at h; exact h
  ·have hc : c ≠ 36 := fun e => h36 (by rw [e]; rfl)
   rw [show twice (c :: (lb s).drop (i + 1)) = c :: twice ((lb s).drop (i + 1)) by simp [twice, hc]]; have h := ih (i + 1) (l ++ [c]) (by omega) (by simp; omega); rw [show l ++ c :: twice ((lb s).drop (i + 1)) = l ++ [c] ++ twice ((lb s).drop (i + 1)) by simp, e1]; exact h
theorem double_c (s : BA) (hs : s.size ≤ 4194304) (w : World) : Calls Tryz.prog 35 #[.string s] w fun e w' => e = .returned (.string (mk (twice (lb s)))) ∧ Below w.heap.size w w' := by
 have h := ends_double_l s hs s.size 0 [] (by omega) (by simp); rw [List.drop_zero, List.nil_append] at h; have h2 : Ends (fun r => r = mk (twice (lb s))) (fun k => spec_SubstDouble.f k s) := h; obtain ⟨k, hk⟩ := h2.ev.rounds; exact spec_SubstDouble.calls k s _ w hk
abbrev Zt := VS × Option Addr × Nat × Option Addr × Nat
def zcells (z : Zt) : List Value := [.int .i64 z.1.f0, .int .i64 z.1.f1, .string z.1.f2, .slice z.2.1 z.1.f3.length z.2.2.1, .slice z.2.2.2.1 z.1.f4.length z.2.2.2.2]
def PZ (z : Zt) (cs : List Value) : Prop := cs = zcells z
theorem PZ5 {z : Zt} {cs : List Value} (h : PZ z cs) : cs.length = 5 := by rw [h]; rfl
theorem PZ1 {z : Zt} {cs : List Value} (h : PZ z cs) : ∀ u ∈ cs, u.oneCell' = true := by
 intro u hu; rw [h] at hu; simp only [zcells, List.mem_cons, List.not_mem_nil, or_false] at hu
 rcases hu with rfl | rfl | rfl | rfl | rfl <;> rfl
abbrev kZ : Kd Zt := held 5 PZ PZ5 PZ1
structure RowIn {α : Type} (Q : α → List Value → Prop) (sz : Nat) (w : World) (A : Option Addr) (xs : List α) (F : Nat → Prop) : Prop where
 c : ReadsRow Q sz w A xs.length xs
 b : xs ≠ [] → ∃ bk off, A = some ⟨bk, off, none⟩ ∧ F bk
theorem cell_move {w w1 : World} {b : Nat} (h : w1.heap[b]? = w.heap[b]?) (i : Nat) : w1.cell? ⟨b, i, none⟩ = w.cell? ⟨b, i, none⟩ := by simp [World.cell?, h]
theorem RowIn.move {α : Type} {Q : α → List Value → Prop} {sz : Nat} {w w1 : World} {A : Option Addr} {xs : List α} {F : Nat → Prop} (h : RowIn Q sz w A xs F) (hm : ∀ k, F k → w1.heap[k]? = w.heap[k]?) : RowIn Q sz w1 A xs F := by
 refine ⟨?_, h.b⟩; obtain ⟨hl, hmx, hc⟩ := h.c; refine ⟨hl, hmx, fun h0 => ?_⟩; obtain ⟨ad, rfl, hcc⟩ := hc h0; obtain ⟨bk, off, e, hF⟩ := h.b (fun e => by rw [e] at h0; exact absurd h0 (by simp))
 injection e with e
 subst e
 have add : ∀ j : Nat, (⟨bk, off, none⟩ : Addr).add j = ⟨bk, off + j, none⟩ := by intro j; unfold Addr.add; split <;> simp_all
 refine ⟨_, rfl, fun j p hp => ?_⟩; obtain ⟨c, h1, h2, h3⟩ := hcc j p hp; refine ⟨c, h1, h2, fun i u hu => ?_⟩; have := h3 i u hu; rw [add] at this ⊢; rw [cell_move (hm bk hF)]; exact this
theorem RowIn.mono {α : Type} {Q : α → List Value → Prop} {sz : Nat} {w : World} {A : Option Addr} {xs : List α} {F G : Nat → Prop} (h : RowIn Q sz w A xs F) (hFG : ∀ k, F k → G k) : RowIn Q sz w A xs G :=
 ⟨h.c, fun h0 => by obtain ⟨bk, off, e, hF⟩ := h.b h0; exact ⟨bk, off, e, hFG _ hF⟩⟩
inductive RF (w : World) (F : Nat → Prop) : Zt → Prop
 | mk (z : Zt) (zs : List Zt) (h3 : z.1.f3.length ≤ z.2.2.1) (hk : RowIn (Kd.string.K w) 1 w z.2.1 z.1.f3 F) (h4 : z.1.f4.length ≤ z.2.2.2.2) (hz : zs.map (fun q => q.1) = z.1.f4) (hr : RowIn PZ 5 w z.2.2.2.1 zs F) (hc : ∀ q, q ∈ zs → RF w F q) : RF w F z
theorem RF.move {w w1 : World} {F : Nat → Prop} {z : Zt} (h : RF w F z) (hm : ∀ k, F k → w1.heap[k]? = w.heap[k]?) : RF w1 F z := by
 induction h with
 | mk z zs h3 hk h4 hz hr hc ih => exact .mk z zs h3 (hk.move hm) h4 hz (hr.move hm) ih
theorem RF.mono {w : World} {F G : Nat → Prop} {z : Zt} (h : RF w F z) (hFG : ∀ k, F k → G k) : RF w G z := by
 induction h with
 | mk z zs h3 hk h4 hz hr hc ih => exact .mk z zs h3 (hk.mono hFG) h4 hz (hr.mono hFG) ih
theorem RF.reads {w : World} {F : Nat → Prop} {z : Zt} (h : RF w F z) : Reads w z.1 z.2.1 z.2.2.1 z.2.2.2.1 z.2.2.2.2 := by
 induction h with
 | mk z zs h3 hk h4 hz hr hc ih =>
  refine ⟨h3, hk.c, h4, ?_⟩; obtain ⟨hl, hm, hcc⟩ := hr.c
  have hlen : z.1.f4.length = zs.length := by rw [← hz, List.length_map]
  refine ⟨rfl, by rw [hlen]; exact hm, fun h0 => ?_⟩; obtain ⟨ad, e, hcc⟩ := hcc (by omega); refine ⟨ad, e, fun j p hp => ?_⟩; rw [← hz, List.getElem?_map] at hp
  cases hq : zs[j]? with
  | none => rw [hq] at hp; cases hp
  | some q =>
   rw [hq] at hp
   injection hp with hp
   subst hp; obtain ⟨c, h1, h2, h3⟩ := hcc j q hq; have hq2 := ih q (List.mem_of_getElem? hq); rw [show c = zcells q from h2] at h1 h3; exact ⟨zcells q, h1, k25_mk w q.1 hq2.l3 hq2.hk hq2.l4 hq2.hv, h3⟩
theorem rowInI {α : Type} {R : Nat → α → Prop} : ∀ (len : Nat), (∀ i, i < len → ∃ p, R i p) → ∃ xs : List α, xs.length = len ∧ ∀ (i : Nat) (hi : i < xs.length), R i xs[i]
 | 0, _ => ⟨[], rfl, fun i hi => absurd hi (by simp)⟩
 | m + 1, each => by
  obtain ⟨xs, hx, hg⟩ := rowInI m (fun i hi => each i (by omega)); obtain ⟨p, hp⟩ := each m (by omega); refine ⟨xs ++ [p], by simp [hx], fun i hi => ?_⟩
  by_cases h : i < xs.length
  ·rw [List.getElem_append_left h]; exact hg i h
  ·have : i = m := by simp at hi; omega
   subst this; subst hx
   simpa using hp
theorem RF.of {x : VS} (hx : SmallS x) : ∀ {w : World} {A3 A4 : Option Addr} {c3 c4 : Nat}, Reads w x A3 c3 A4 c4 → RF w (fun k => k < w.heap.size) (x, A3, c3, A4, c4) := by
 induction hx with
 | mk x ht hk hkl hvl hv ih =>
  intro w A3 A4 c3 c4 h
  have hks : RowIn (Kd.string.K w) 1 w A3 x.f3 (fun k => k < w.heap.size) := ⟨h.hk, fun h0 => by
   obtain ⟨bk, off, e, hb, _⟩ := vt h.hk (List.length_pos_iff.2 h0)
   exact ⟨bk, off, e, hb⟩⟩
  by_cases h0 : 0 < x.f4.length
  ·obtain ⟨bk, off, e, hb, hcell⟩ := kS_at h.hv h0
   have each : ∀ i, i < x.f4.length → ∃ q : Zt, (∃ hi : i < x.f4.length, q.1 = x.f4[i]) ∧ RF w (fun k => k < w.heap.size) q ∧ ∀ (j : Nat) (u : Value), (zcells q)[j]? = some u → w.cell? ⟨bk, off + (i * 5 + j), none⟩ = some u := by
    intro i hi; obtain ⟨B3, d3, B4, d4, e0, e1, e2, e3, e4, l3, g3, l4, g4⟩ := hcell i hi; refine ⟨(x.f4[i], B3, d3, B4, d4), ⟨hi, rfl⟩, ih _ (List.getElem_mem hi) ⟨l3, g3, l4, g4⟩, fun j u hu => ?_⟩
    match j, hu with
    | 0, hu => injection hu with hu; subst hu; exact e0
    | 1, hu => injection hu with hu; subst hu; exact e1
    | 2, hu => injection hu with hu; subst hu; exact e2
    | 3, hu => injection hu with hu; subst hu; exact e3
    | 4, hu => injection hu with hu; subst hu; exact e4
    | j + 5, hu => simp [zcells] at hu
   obtain ⟨zs, hzl, hzs⟩ := rowInI x.f4.length each; refine .mk _ zs h.l3 hks h.l4 ?_ ⟨⟨rfl, by have := h.hv.2.1; rw [hzl]; exact this, fun _ => ⟨_, e, fun j q hq => ?_⟩⟩, fun _ => ⟨bk, off, e, hb⟩⟩ (fun q hq => ?_)
   ·refine List.ext_getElem (by rw [List.length_map, hzl]) (fun i h1 h2 => ?_); obtain ⟨⟨hi, he⟩, _⟩ := hzs i (by rw [hzl]; exact h2); rw [List.getElem_map, he]
   ·obtain ⟨hj, rfl⟩ := List.getElem?_eq_some_iff.1 hq; obtain ⟨_, _, hu⟩ := hzs j hj; refine ⟨zcells zs[j], rfl, rfl, fun i u hiu => ?_⟩
    have add : ∀ j : Nat, (⟨bk, off, none⟩ : Addr).add j = ⟨bk, off + j, none⟩ := by intro j; unfold Addr.add; split <;> simp_all
    rw [add]; exact hu i u hiu
   ·obtain ⟨i, hi, rfl⟩ := List.getElem_of_mem hq; exact (hzs i hi).2.1
  ·have hn : x.f4 = [] := List.eq_nil_of_length_eq_zero (by omega); exact .mk _ [] h.l3 hks h.l4 (by rw [hn]; rfl) ⟨⟨rfl, Nat.zero_le _, fun h => absurd h (by simp)⟩, fun h => absurd rfl h⟩ (fun q hq => by cases hq)
theorem RowIn.at {w : World} {A : Option Addr} {zs : List Zt} {F : Nat → Prop} (h : RowIn PZ 5 w A zs F) (h0 : 0 < zs.length) : ∃ bk off, A = some ⟨bk, off, none⟩ ∧ F bk ∧ ∀ (j : Nat) (hj : j < zs.length), ∀ (i : Nat) (u : Value), (zcells zs[j])[i]? = some u → w.cell? ⟨bk, off + j * 5 + i, none⟩ = some u := by
 obtain ⟨hl, hm, hc⟩ := h.c; obtain ⟨ad, e, hcc⟩ := hc h0; obtain ⟨bk, off, e2, hF⟩ := h.b (List.length_pos_iff.1 h0); have e3 := e.symm.trans e2
 injection e3 with e3
 subst e3; refine ⟨bk, off, e, hF, fun j hj i u hu => ?_⟩; obtain ⟨c, h1, h2, h3⟩ := hcc j zs[j] (List.getElem?_eq_getElem hj); rw [show c = zcells zs[j] from h2] at h3
 have add : ∀ j : Nat, (⟨bk, off, none⟩ : Addr).add j = ⟨bk, off + j, none⟩ := by intro j; unfold Addr.add; split <;> simp_all
 have := h3 i u hu; rw [add, ← Nat.add_assoc] at this; exact this
end Go.Proofs.YtjcffojiacgocaaGreatDoor.Tr
namespace Go.Proofs.YtjcffojiacgocaaGreatDoor.Tr
open Go.RowKit Go.Proofs.YtjcffojiacgocaaGreatDoorW.PrintWords Go.Proofs.YtjcffojiacgocaaGreatDoorW.PrintLast Go.Proofs.YtjcffojiacgocaaGreatDoor.Str Go.Proofs.YtjcffojiacgocaaGreatDoor.Kit Go.Proofs.YtjcffojiacgocaaGreatDoor.MapV Go.Proofs.YtjcffojiacgocaaGreatDoor.Frame Go.Proofs.YtjcffojiacgocaaGreatDoor.PS
theorem from_calls (x : VI) (z : VS) (hz : fromI x = z) (hx : Small x) (A3 A4 : Option Addr) (c3 c4 : Nat) (w : World) (l3 : x.f3.length ≤ c3) (hk : Kd.string.C w A3 x.f3.length x.f3) (l4 : x.f4.length ≤ c4) (hv : kI.C w A4 x.f4.length x.f4) :
  Calls Tryz.prog 16 #[.agg #[.int .i64 x.f0, .int .i64 x.f1, .string x.f2, .slice A3 x.f3.length c3, .slice A4 x.f4.length c4]] w fun e w' => ∃ B3 d3 B4 d4, e = .returned (.agg #[.int .i64 z.f0, .int .i64 z.f1, .string z.f2, .slice B3 z.f3.length d3, .slice B4 z.f4.length d4]) ∧ z.f3.length ≤ d3 ∧ Kd.string.C w' B3 z.f3.length z.f3 ∧ z.f4.length ≤ d4 ∧ kS.C w' B4 z.f4.length z.f4 ∧ Below w.heap.size w w' := by
 subst hz; obtain ⟨k, hk'⟩ := (ev_from x hx).rounds; refine (laws_from.calls k x.f0 x.f1 x.f2 A3 c3 x.f3 A4 c4 x.f4 _ _ _ _ _ w hk l3 hv l4 hk').mono ?_; rintro e w1 ⟨v3, v4, rfl, hr3, hr4, hb⟩; obtain ⟨B3, d3, rfl, m3, g3⟩ := Kd.R_reads hr3; obtain ⟨B4, d4, rfl, m4, g4⟩ := Kd.R_reads hr4; exact ⟨B3, d3, B4, d4, rfl, m3, g3, m4, g4, hb⟩
theorem to_calls (x : VS) (hx : SmallS x) (A3 A4 : Option Addr) (c3 c4 : Nat) (w : World) (l3 : x.f3.length ≤ c3) (hk : Kd.string.C w A3 x.f3.length x.f3) (l4 : x.f4.length ≤ c4) (hv : kS.C w A4 x.f4.length x.f4) :
  Calls Tryz.prog 11 #[.agg #[.int .i64 x.f0, .int .i64 x.f1, .string x.f2, .slice A3 x.f3.length c3, .slice A4 x.f4.length c4]] w fun e w' => ∃ B3 d3 B4 d4, e = .returned (.agg #[.int .i64 (toI x).f0, .int .i64 (toI x).f1, .string (toI x).f2, .slice B3 (toI x).f3.length d3, .slice B4 (toI x).f4.length d4]) ∧ (toI x).f3.length ≤ d3 ∧ Kd.string.C w' B3 (toI x).f3.length (toI x).f3 ∧ (toI x).f4.length ≤ d4 ∧ kI.C w' B4 (toI x).f4.length (toI x).f4 ∧ Below w.heap.size w w' := by
 obtain ⟨k, hk'⟩ := (ev_to x hx).rounds; refine (laws_to.calls k x.f0 x.f1 x.f2 A3 c3 x.f3 A4 c4 x.f4 _ _ _ _ _ w hk l3 hv l4 hk').mono ?_; rintro e w1 ⟨v3, v4, rfl, hr3, hr4, hb⟩; obtain ⟨B3, d3, rfl, m3, g3⟩ := Kd.R_reads hr3; obtain ⟨B4, d4, rfl, m4, g4⟩ := Kd.R_reads hr4; exact ⟨B3, d3, B4, d4, rfl, m3, g3, m4, g4, hb⟩
theorem same_calls (x : VS) (hx : Short x) (A3 A4 : Option Addr) (c3 c4 : Nat) (B3 B4 : Option Addr) (d3 d4 : Nat) (w : World) (l3 : x.f3.length ≤ c3) (hk : Kd.string.C w A3 x.f3.length x.f3) (l4 : x.f4.length ≤ c4) (hv : kS.C w A4 x.f4.length x.f4) (m3 : x.f3.length ≤ d3) (jk : Kd.string.C w B3 x.f3.length x.f3) (m4 : x.f4.length ≤ d4) (jv : kS.C w B4 x.f4.length x.f4) :
  Calls Tryz.prog 15 #[.agg #[.int .i64 x.f0, .int .i64 x.f1, .string x.f2, .slice A3 x.f3.length c3, .slice A4 x.f4.length c4], .agg #[.int .i64 x.f0, .int .i64 x.f1, .string x.f2, .slice B3 x.f3.length d3, .slice B4 x.f4.length d4]] w fun e w' => e = .returned (.bool true) ∧ Below w.heap.size w w' := by
 obtain ⟨k, hk'⟩ := (ev_same x hx).rounds; exact spec_Same.calls k x.f0 x.f1 x.f2 A3 c3 x.f3 A4 c4 x.f4 x.f0 x.f1 x.f2 B3 d3 x.f3 B4 d4 x.f4 true w hk l3 hv l4 jk m3 jv m4 hk'
theorem cell_row5 {w : World} {b : Nat} {T : TypeId} {v0 v1 v2 v3 v4 : Value} (h : w.heap[b]? = some (.cells #[v0, v1, v2, v3, v4] T (0, 0))) :
  w.cell? ⟨b, 0, none⟩ = some v0 ∧ w.cell? ⟨b, 1, none⟩ = some v1 ∧ w.cell? ⟨b, 2, none⟩ = some v2 ∧ w.cell? ⟨b, 3, none⟩ = some v3 ∧ w.cell? ⟨b, 4, none⟩ = some v4 := by
 simp [World.cell?, h]
end Go.Proofs.YtjcffojiacgocaaGreatDoor.Tr
namespace Go.Proofs.YtjcffojiacgocaaGreatDoor.Tr
open Go.RowKit Go.Proofs.YtjcffojiacgocaaGreatDoorW.PrintWords Go.Proofs.YtjcffojiacgocaaGreatDoorW.PrintLast Go.Proofs.YtjcffojiacgocaaGreatDoor.Str Go.Proofs.YtjcffojiacgocaaGreatDoor.Kit Go.Proofs.YtjcffojiacgocaaGreatDoor.MapV Go.Proofs.YtjcffojiacgocaaGreatDoor.Frame Go.Proofs.YtjcffojiacgocaaGreatDoor.PS
open Go.Proofs.YtjcffojiacgocaaGreatDoor.Tr.Sb (twice mk)
theorem tI_gives (s : BA) (w : World) : Calls Tryz.prog 26 #[.string s] w (Gives (leaf 3 0 s) w) := by
 refine (spec_T.calls s 3 0 s [] [] w rfl).mono ?_; rintro e w1 ⟨v3, v4, rfl, hr3, hr4, hb⟩; obtain ⟨A3, c3, rfl, l3, g3⟩ := Kd.R_reads hr3; obtain ⟨A4, c4, rfl, l4, g4⟩ := Kd.R_reads hr4; exact ⟨A3, c3, A4, c4, rfl, ⟨l3, g3, l4, g4⟩, hb⟩
theorem rf_leaf (w : World) (F : Nat → Prop) (k n : Int) (t : BA) (A3 A4 : Option Addr) (c3 c4 : Nat) : RF w F (leaf k n t, A3, c3, A4, c4) :=
 .mk _ [] (Nat.zero_le _) ⟨⟨rfl, Nat.zero_le _, fun h => absurd h (by simp [leaf])⟩, fun h => absurd rfl h⟩ (Nat.zero_le _) rfl ⟨⟨rfl, Nat.zero_le _, fun h => absurd h (by simp)⟩, fun h => absurd rfl h⟩ (fun q hq => by cases hq)
inductive Texts : VS → Prop
 | mk (x : VS) (ht : x.f2.size ≤ 4194304) (hc : ∀ v, v ∈ x.f4 → Texts v) : Texts x
def DblAt (x : VS) : Prop := ∀ (A3 A4 : Option Addr) (c3 c4 : Nat) (F : Nat → Prop) (w : World), RF w F (x, A3, c3, A4, c4) → (∀ k, F k → k < w.heap.size) →
  Calls Tryz.prog 12 #[.agg #[.int .i64 x.f0, .int .i64 x.f1, .string x.f2, .slice A3 x.f3.length c3, .slice A4 x.f4.length c4]] w fun e w' => ∃ B3 d3 B4 d4, e = .returned (.agg #[.int .i64 (dblV x).f0, .int .i64 (dblV x).f1, .string (dblV x).f2, .slice B3 (dblV x).f3.length d3, .slice B4 (dblV x).f4.length d4]) ∧ RF w' (fun k => F k ∨ (w.heap.size ≤ k ∧ k < w'.heap.size)) (dblV x, B3, d3, B4, d4) ∧ Below w.heap.size w w'
set_option maxHeartbeats 1600000 in
theorem dbl_text (n : Int) (t : BA) (ks : List BA) (vs : List VS) (ht : t.size ≤ 4194304) : DblAt ⟨3, n, t, ks, vs⟩ := by
 intro A3 A4 c3 c4 F w _ _
 have e0 : dblV ⟨3, n, t, ks, vs⟩ = leaf 3 0 (mk (twice (lb t))) := by simp [dblV]
 rw [e0]; have hb := za (za (Below.refl w.heap.size w) (.cells #[.int .i64 3, .int .i64 n, .string t, .slice A3 ks.length c3, .slice A4 vs.length c4] 25)) (.cells #[.int .i64 0, .int .i64 0, .string ⟨#[]⟩, .slice none 0 0, .slice none 0 0] 25); have HB := aM hb
 have HZ := aM (show ((w.alloc (.cells #[.int .i64 3, .int .i64 n, .string t, .slice A3 ks.length c3, .slice A4 vs.length c4] 25)).alloc (.cells #[.int .i64 0, .int .i64 0, .string ⟨#[]⟩, .slice none 0 0, .slice none 0 0] 25)).heap[w.heap.size + 1]? = some (.cells #[.int .i64 0, .int .i64 0, .string ⟨#[]⟩, .slice none 0 0, .slice none 0 0] 25 (0, 0)) from by
  have h := yk (w.alloc (.cells #[.int .i64 3, .int .i64 n, .string t, .slice A3 ks.length c3, .slice A4 vs.length c4] 25)) (.cells #[.int .i64 0, .int .i64 0, .string ⟨#[]⟩, .slice none 0 0, .slice none 0 0] 25); rw [World.size_alloc] at h
  exact h)
 have CD := aM (fun W => double_c t ht W); generalize mk (twice (lb t)) = r at CD ⊢; clear hb e0
 go_enter Tryz.func12, Tryz.ntmps12
 go_wp2_with fail
 refine (CD.out _).mono ?_; rintro e w1 ⟨rfl, hb1⟩; have HB1 := aM hb1; clear hb1 CD
 go_wp2_with fail
 refine (tI_gives r w1).mono ?_; rintro e w2 ⟨B3, d3, B4, d4, rfl, _, hb2⟩; have hbb := yb HB1.out hb2; have hz2 := (hbb.block _ (yc HZ.out)).trans HZ.out; have HB2 := aM (yb HB.out hbb); have HX := aM (setRow_heap w2 (w.heap.size + 1) _ #[.int .i64 3, .int .i64 0, .string r, .slice B3 0 d3, .slice B4 0 d4] _ _ hz2); have HG := aM (yi w2 (w.heap.size + 1) #[.int .i64 3, .int .i64 0, .string r, .slice B3 0 d3, .slice B4 0 d4]); clear hbb hb2 HB1 HZ HB
 go_wp2_with (refine xt (.tmp 2) (.tmp 11) rfl rfl rfl rfl hz2 ?_)
 exact bodyPost_ret (v := .agg #[.int .i64 3, .int .i64 0, .string r, .slice B3 0 d3, .slice B4 0 d4]) (xv rfl rfl HX.out) rfl ⟨B3, d3, B4, d4, rfl, rf_leaf _ _ _ _ _ _ _ _ _, zm HB2.out _ HB2.out.size HG.out (fun k hk => by have := Option.some.inj hk; omega)⟩
theorem info_sv : (Tryz.prog.info? 25).map (fun i => (i.zero, i.size, i.bytes)) = some (some (.agg #[.int .i64 0, .int .i64 0, .string ⟨#[]⟩, .slice none 0 0, .slice none 0 0]), 5, 80) := by kernel_rfl
theorem rowIn_own {w : World} {base : Nat} {A : Option Addr} {n c : Nat} {zs : List Zt} {G : Nat → Prop} (h : kZ.R 25 w base (fun _ => True) (.slice A n c) zs) (hG : ∀ k, base ≤ k → k < w.heap.size → G k) : RowIn PZ 5 w A zs G := by
 obtain ⟨hn, hc, hC⟩ := Kd.R_reads' h; refine ⟨hC, fun h0 => ?_⟩; have hb := Kd.R_bound h; obtain ⟨_, inner, ho, _⟩ := h
 rcases ho.2 with ⟨e, _⟩ | ⟨g', cap, cur, e, _⟩
 ·injection e with e1 e2 e3
  rw [e2] at hn; exact absurd (List.eq_nil_of_length_eq_zero hn.symm) h0
 ·injection e with e1 e2 e3
  subst e1; have h1 := hb.1 g' (by simp [Value.ownBlock]); exact ⟨g', 0, rfl, hG g' h1.2.1 h1.2.2.1⟩
set_option maxHeartbeats 6400000 in
set_option maxRecDepth 100000 in
theorem dbl_tree (kd n : Int) (t : BA) (ks : List BA) (vs : List VS) (h3 : kd ≠ 3) (hvl : vs.length ≤ 1759218604400) (hch : ∀ v, v ∈ vs → DblAt v) : DblAt ⟨kd, n, t, ks, vs⟩ := by
 intro A3 A4 c3 c4 F w hrf hF
 have e0 : dblV ⟨kd, n, t, ks, vs⟩ = ⟨kd, n, t, ks, dblL vs⟩ := by simp [dblV, h3]
 rw [e0]
 have b3 : ((kd : Int) == 3) = false := by simpa using h3
 have HF := aM hF; have HCH := aM hch
 obtain ⟨zs0, hk3, hk, hk4, hzs, hr, hc⟩ : ∃ zs0 : List Zt, ks.length ≤ c3 ∧ RowIn (Kd.string.K w) 1 w A3 ks F ∧ vs.length ≤ c4 ∧ zs0.map (fun q => q.1) = vs ∧ RowIn PZ 5 w A4 zs0 F ∧ ∀ q, q ∈ zs0 → RF w F q := by
  cases hrf with
  | mk _ zs h3 hk h4 hz hr hc => exact ⟨zs, h3, hk, h4, hz, hr, hc⟩
 have hlen : vs.length = zs0.length := by rw [← hzs, List.length_map]
 have HK := aM (And.intro hk3 hk); have HR := aM hr; have HC := aM hc; have HZS := aM hzs; have HLEN := aM hlen; have hb3 := za (za (za (Below.refl w.heap.size w) (.cells #[.int .i64 kd, .int .i64 n, .string t, .slice A3 ks.length c3, .slice A4 vs.length c4] 25)) (.cells #[.int .i64 0, .int .i64 0, .string ⟨#[]⟩, .slice none 0 0, .slice none 0 0] 25)) (.cells #[.int .i64 kd, .int .i64 n, .string t, .slice A3 ks.length c3, .slice none 0 0] 25); have hx3 : (((w.alloc (.cells #[.int .i64 kd, .int .i64 n, .string t, .slice A3 ks.length c3, .slice A4 vs.length c4] 25)).alloc (.cells #[.int .i64 0, .int .i64 0, .string ⟨#[]⟩, .slice none 0 0, .slice none 0 0] 25)).alloc (.cells #[.int .i64 kd, .int .i64 n, .string t, .slice A3 ks.length c3, .slice none 0 0] 25)).heap[w.heap.size]? = some (.cells #[.int .i64 kd, .int .i64 n, .string t, .slice A3 ks.length c3, .slice A4 vs.length c4] 25 (0, 0)) := ze (ze (yk _ _) _) _
 have hz3 : (((w.alloc (.cells #[.int .i64 kd, .int .i64 n, .string t, .slice A3 ks.length c3, .slice A4 vs.length c4] 25)).alloc (.cells #[.int .i64 0, .int .i64 0, .string ⟨#[]⟩, .slice none 0 0, .slice none 0 0] 25)).alloc (.cells #[.int .i64 kd, .int .i64 n, .string t, .slice A3 ks.length c3, .slice none 0 0] 25)).heap[w.heap.size + 1]? = some (.cells #[.int .i64 0, .int .i64 0, .string ⟨#[]⟩, .slice none 0 0, .slice none 0 0] 25 (0, 0)) := by
  have h := yk (w.alloc (.cells #[.int .i64 kd, .int .i64 n, .string t, .slice A3 ks.length c3, .slice A4 vs.length c4] 25)) (.cells #[.int .i64 0, .int .i64 0, .string ⟨#[]⟩, .slice none 0 0, .slice none 0 0] 25); rw [World.size_alloc] at h; exact ze h _
 have hp3 : (((w.alloc (.cells #[.int .i64 kd, .int .i64 n, .string t, .slice A3 ks.length c3, .slice A4 vs.length c4] 25)).alloc (.cells #[.int .i64 0, .int .i64 0, .string ⟨#[]⟩, .slice none 0 0, .slice none 0 0] 25)).alloc (.cells #[.int .i64 kd, .int .i64 n, .string t, .slice A3 ks.length c3, .slice none 0 0] 25)).heap[w.heap.size + 2]? = some (.cells #[.int .i64 kd, .int .i64 n, .string t, .slice A3 ks.length c3, .slice none 0 0] 25 (0, 0)) := by
  have h := yk ((w.alloc (.cells #[.int .i64 kd, .int .i64 n, .string t, .slice A3 ks.length c3, .slice A4 vs.length c4] 25)).alloc (.cells #[.int .i64 0, .int .i64 0, .string ⟨#[]⟩, .slice none 0 0, .slice none 0 0] 25)) (.cells #[.int .i64 kd, .int .i64 n, .string t, .slice A3 ks.length c3, .slice none 0 0] 25); rw [World.size_alloc, World.size_alloc] at h; exact h
 have hs3 : (((w.alloc (.cells #[.int .i64 kd, .int .i64 n, .string t, .slice A3 ks.length c3, .slice A4 vs.length c4] 25)).alloc (.cells #[.int .i64 0, .int .i64 0, .string ⟨#[]⟩, .slice none 0 0, .slice none 0 0] 25)).alloc (.cells #[.int .i64 kd, .int .i64 n, .string t, .slice A3 ks.length c3, .slice none 0 0] 25)).heap.size = w.heap.size + 3 := by simp only [World.size_alloc]
 have HB4 := aM hb3; have HX4 := aM hx3; have HZ4 := aM hz3; have HP4 := aM hp3; have HS4 := aM (show w.heap.size + 3 ≤ (((w.alloc (.cells #[.int .i64 kd, .int .i64 n, .string t, .slice A3 ks.length c3, .slice A4 vs.length c4] 25)).alloc (.cells #[.int .i64 0, .int .i64 0, .string ⟨#[]⟩, .slice none 0 0, .slice none 0 0] 25)).alloc (.cells #[.int .i64 kd, .int .i64 n, .string t, .slice A3 ks.length c3, .slice none 0 0] 25)).heap.size by omega); clear hrf hF hch hzs hr hc hk hk3 hk4 e0 h3 hlen hb3 hx3 hz3 hp3 hs3
 go_enter Tryz.func12, Tryz.ntmps12
 go_wp2
 go_loopw [4] (fun v4 wr => ∃ (i : Nat) (A2 : Option Addr) (c2 : Nat) (zs : List Zt), v4 = .int .i64 i ∧ i ≤ vs.length ∧ Aside0 (wr.heap[w.heap.size + 2]? = some (.cells #[.int .i64 kd, .int .i64 n, .string t, .slice A3 ks.length c3, .slice A2 i c2] 25 (0, 0))) ∧ Aside0 (kZ.R 25 wr (w.heap.size + 3) (fun _ => True) (.slice A2 i c2) zs) ∧ Aside0 (zs.map (fun q => q.1) = (dblL vs).take i ∧ ∀ z, z ∈ zs → RF wr (fun k => F k ∨ (w.heap.size + 3 ≤ k ∧ k < wr.heap.size ∧ some k ≠ (Value.slice A2 i c2).ownBlock)) z) ∧ Aside0 (Below w.heap.size w wr) ∧ Aside0 (wr.heap[w.heap.size]? = some (.cells #[.int .i64 kd, .int .i64 n, .string t, .slice A3 ks.length c3, .slice A4 vs.length c4] 25 (0, 0))) ∧ Aside0 (wr.heap[w.heap.size + 1]? = some (.cells #[.int .i64 0, .int .i64 0, .string ⟨#[]⟩, .slice none 0 0, .slice none 0 0] 25 (0, 0))) ∧ w.heap.size + 3 ≤ wr.heap.size) (fun v4 _ => vs.length - (intOf v4).toNat)
 case atStart => exact ⟨0, none, 0, [], rfl, by omega, HP4, ⟨Kd.R_nil _ _ _ _ _⟩, ⟨by simp, fun z h => by cases h⟩, HB4, HX4, HZ4, HS4.out⟩
 case round =>
  clear HP4 HB4 HX4 HZ4 HS4; obtain ⟨i, A2, c2, zs, rfl, hiv, HP, HO, HD, HB, HX, HZ, hsz⟩ := hrel
  have q0 : (0 : Int) ≤ (i : Int) := by omega
  have x4 := zn (i := 4) HX.out rfl
  by_cases hlv : i < vs.length
  ·have q2 : (i : Int) < (vs.length : Int) := by omega
   have hlz : i < zs0.length := by have := HLEN.out; omega
   obtain ⟨bk, off, rfl, hFb, hcell⟩ := HR.out.at (by omega)
   have hc0 := hcell i hlz
   have hvi : (zs0[i]'hlz).1 = vs[i] := by simp only [← HZS.out, List.getElem_map]
   have hm := List.getElem_mem hlz
   have hde : (dblL vs).take (i + 1) = (dblL vs).take i ++ [dblV (zs0[i]'hlz).1] := by
    rw [List.take_succ_eq_append_getElem (by rw [dblL_length]; exact hlv)]; simp only [dblL_map, List.getElem_map, hvi]
   have HDE := aM hde; have CA := aM (fun (W : World) (hb : Below w.heap.size w W) => HCH.out (zs0[i]'hlz).1 (by rw [hvi]; exact List.getElem_mem hlv) (zs0[i]'hlz).2.1 (zs0[i]'hlz).2.2.2.1 (zs0[i]'hlz).2.2.1 (zs0[i]'hlz).2.2.2.2 F W ((HC.out _ hm).move (fun k hk => hb.block k (HF.out k hk))) (fun k hk => Nat.lt_of_lt_of_le (HF.out k hk) hb.size)); generalize zs0[i]'hlz = q at hc0 HDE CA; obtain ⟨v, B3, d3, B4, d4⟩ := q; generalize dblV v = r at HDE CA; obtain ⟨r0, r1, r2, r3, r4⟩ := r; obtain ⟨a0, a1, a2, a3, a4⟩ := v; have g0 : wr.drew.cell? ⟨bk, off + i * 5, none⟩ = some (.int .i64 a0) := zf (zr HB.out) (hc0 0 _ rfl); have g1 : wr.drew.cell? ⟨bk, off + i * 5 + 1, none⟩ = some (.int .i64 a1) := zf (zr HB.out) (hc0 1 _ rfl); have g2 : wr.drew.cell? ⟨bk, off + i * 5 + 2, none⟩ = some (.string a2) := zf (zr HB.out) (hc0 2 _ rfl); have g3 : wr.drew.cell? ⟨bk, off + i * 5 + 3, none⟩ = some (.slice B3 a3.length d3) := zf (zr HB.out) (hc0 3 _ rfl); have g4 : wr.drew.cell? ⟨bk, off + i * 5 + 4, none⟩ = some (.slice B4 a4.length d4) := zf (zr HB.out) (hc0 4 _ rfl); have p4 : wr.drew.cell? ⟨w.heap.size + 2, 4, none⟩ = some (.slice A2 i c2) := zn (i := 4) (show wr.drew.heap[w.heap.size + 2]? = _ from HP.out) rfl; have z4 : wr.drew.cell? ⟨w.heap.size, 4, none⟩ = some (.slice (some ⟨bk, off, none⟩) vs.length c4) := x4; clear hcell hc0 hvi hm hde
   go_wp2_with fail
   refine xb (n := 12) (S := fun w' => w'.cell? ⟨w.heap.size + 2, 4, none⟩ = some (.slice A2 i c2) ∧ w'.cell? ⟨w.heap.size, 4, none⟩ = some (.slice (some ⟨bk, off, none⟩) vs.length c4) ∧ w'.cell? ⟨bk, off + i * 5, none⟩ = some (.int .i64 a0) ∧ w'.cell? ⟨bk, off + i * 5 + 1, none⟩ = some (.int .i64 a1) ∧ w'.cell? ⟨bk, off + i * 5 + 2, none⟩ = some (.string a2) ∧ w'.cell? ⟨bk, off + i * 5 + 3, none⟩ = some (.slice B3 a3.length d3) ∧ w'.cell? ⟨bk, off + i * 5 + 4, none⟩ = some (.slice B4 a4.length d4)) (ds := [9, 11]) (bZ 12 0) (by kernel_rfl) rfl rfl ⟨p4, z4, g0, g1, g2, g3, g4⟩ (fun hHeld => ?_); refine pU 0 (some 21) (bZ 12 1) rfl (by kernel_rfl) ?_; refine pU 2 (some 23) (bZ 12 5) rfl (by kernel_rfl) ?_; refine pU 4 (some 25) (bZ 12 21) rfl (by kernel_rfl) ?_; refine tU 1 (some 22) (bZ 12 23) rfl (by kernel_rfl) (Or.inl ⟨by rfl, by rintro w' ⟨s0, s1, s2, s3, s4, s5, s6⟩; go_simp; with_reducible rfl⟩) hHeld ?_; refine tU 3 (some 24) (bZ 12 31) rfl (by kernel_rfl) (Or.inl ⟨by rfl, by rintro w' ⟨s0, s1, s2, s3, s4, s5, s6⟩; go_simp; with_reducible rfl⟩) hHeld ?_; refine pU 5 (some 26) (bZ 12 63) rfl (by kernel_rfl) ?_; refine tU 6 (some 27) (bZ 12 127) rfl (by kernel_rfl) (Or.inl ⟨by rfl, by rintro w' ⟨s0, s1, s2, s3, s4, s5, s6⟩; go_simp; with_reducible rfl⟩) hHeld ?_; refine one_ (i := 7) (N := some 28) (bZ 12 255) rfl rfl (by kernel_rfl) (by decide) (fun K hK => ?_); refine vn Tryz.func12 (by kernel_rfl) rfl #[.agg #[.int .i64 a0, .int .i64 a1, .string a2, .slice B3 a3.length d3, .slice B4 a4.length d4]] (by rfl) rfl rfl (by simp only [List.map_toArray, List.map_cons, List.map_nil]; rfl) ?_
   with_reducible refine (CA.out wr.drew (zr HB.out)).mono ?_
   rintro e w3 ⟨D3, e3, D4, e4, rfl, hrf3, hb3⟩; refine ⟨_, rfl, ?_⟩; have HB3 := aM hb3; have HRF3 := aM hrf3; have HO3 := aM (Kd.R_below (Kd.R_drew HO.out) hb3); have HP3 := aM ((hb3.block _ (yc (show wr.drew.heap[w.heap.size + 2]? = _ from HP.out))).trans (show wr.drew.heap[w.heap.size + 2]? = _ from HP.out)); have hsz3 : w.heap.size + 3 ≤ w3.heap.size := Nat.le_trans hsz hb3.size; clear hrf3; refine hK.out _ _ ⟨zf hb3 hHeld.1, zf hb3 hHeld.2.1, zf hb3 hHeld.2.2.1, zf hb3 hHeld.2.2.2.1, zf hb3 hHeld.2.2.2.2.1, zf hb3 hHeld.2.2.2.2.2.1, zf hb3 hHeld.2.2.2.2.2.2⟩ (fun hHeld => ?_); clear hK K; refine zq (a' := ?_) ?_ ?_; rotate_left
   ·show Act.put _ (some 28) _ = _
    simp only [Act.put, sA, sB, sC, zo, zt]; rfl
   refine one_ (i := 8) (N := some 29) (bZ 12 511) rfl rfl (by kernel_rfl) (by decide) (fun K hK => ?_); refine yp (w1 := ?_) (v := ?_) (by rfl) rfl ?_ ?_; rotate_left 2
   ·go_simp; constructor
    ·rfl
    ·rfl
   refine hK.out _ _ ⟨zf (za (Below.refl _ _) _) hHeld.1, zf (za (Below.refl _ _) _) hHeld.2.1, zf (za (Below.refl _ _) _) hHeld.2.2.1, zf (za (Below.refl _ _) _) hHeld.2.2.2.1, zf (za (Below.refl _ _) _) hHeld.2.2.2.2.1, zf (za (Below.refl _ _) _) hHeld.2.2.2.2.2.1, zf (za (Below.refl _ _) _) hHeld.2.2.2.2.2.2⟩ (fun hHeld => ?_); clear hK K; refine zq (a' := ?_) ?_ ?_; rotate_left
   ·show Act.put _ (some 29) _ = _
    simp only [Act.put, sA, sB, sC, zo, zt]; rfl
   refine xg (i := 9) (N := some 30) (bZ 12 1023) rfl rfl (by kernel_rfl) (by decide) (fun K hK => ?_); refine Kd.R_append_step kZ (w0 := w3) (W := w3) (w.heap.size + 3) rfl (.tmp 22) (.tmp 29) 23 25 (.agg #[.int .i64 0, .int .i64 0, .string ⟨#[]⟩, .slice none 0 0, .slice none 0 0]) 80 rfl Tryz.underlying23 info_sv rfl (show 0 < 5 by decide) (by decide) (.slice A2 i c2) zs ((⟨r0, r1, r2, r3, r4⟩, D3, e3, D4, e4) : Zt) [.int .i64 r0, .int .i64 r1, .string r2, .slice D3 r3.length e3, .slice D4 r4.length e4] (fun _ => True) (fun _ => False) rfl rfl (show PZ _ _ from rfl) (fun _ h => h.elim) (fun _ _ => trivial) HO3.out (Below.refl _ _) hsz3 (by have := (Kd.R_reads' HO3.out).1; omega) ?_; intro v1 w5 ho hb5 hg5 hat; obtain ⟨A5, c5, rfl⟩ := Kd.R_slice ho; rw [List.length_append, List.length_singleton] at ho hat; have HO5 := aM ho; have HG5 := aM hg5; have HAT := aM hat; have HB5 := aM hb5; clear ho hg5 hat hb5; refine hK.out _ _ ?_; clear hK K; refine zq (a' := ?_) ?_ ?_; rotate_left
   ·show Act.put _ (some 30) _ = _
    simp only [Act.put, sA, sB, sC, zo, zt]; rfl
   refine pU 10 (some 31) (bZ 12 2047) rfl (by kernel_rfl) ?_; refine xg (i := 11) (N := none) (bZ 12 4095) rfl rfl (by kernel_rfl) (by decide) (fun K hK => ?_); have HP5 := aM ((HB5.out.block _ (by omega)).trans HP3.out); have hfz : w5.frozen? ⟨w.heap.size + 2, 4, none⟩ = false := xq (i := 4) HP5.out; have hk5 : w5.cell? ⟨w.heap.size + 2, 4, none⟩ = some (.slice A2 i c2) := zn (i := 4) HP5.out rfl; refine skip_ (w1 := ?_) (by rfl) rfl ?_ ?_; rotate_left
   ·go_simp; rfl
   refine hK.out _ _ ?_; clear hK K; refine xl (by kernel_rfl) ?_; have hg6 := ye w5 (w.heap.size + 2) 4 (.slice A5 (zs.length + 1) c5); have HG6 := aM hg6; have HP6 := aM (cb_set HP5.out (i := 4) (.slice A5 (zs.length + 1) c5)); have hl5 := (Kd.R_reads' HO.out).1
   have hown : ∀ k, (Value.slice A2 i c2).ownBlock = some k → w.heap.size + 3 ≤ k ∧ k < wr.heap.size := fun k hk => by have := (Kd.R_bound HO.out).1 k hk; exact ⟨this.2.1, this.2.2.1⟩
   have hb35 : w3.heap.size ≤ w5.heap.size := HG5.out.size; have hb13 : wr.heap.size ≤ w3.heap.size := HB3.out.size; have hFl : ∀ k, F k → k < w.heap.size := HF.out
   have HMV := aM (show ∀ (z : Zt) (G : Nat → Prop), RF w3 G z → (∀ k, G k → F k ∨ (w.heap.size + 3 ≤ k ∧ k < w3.heap.size ∧ some k ≠ (Value.slice A2 i c2).ownBlock)) → RF (w5.setCell ⟨w.heap.size + 2, 4, none⟩ (.slice A5 (zs.length + 1) c5)) (fun k => F k ∨ (w.heap.size + 3 ≤ k ∧ k < (w5.setCell ⟨w.heap.size + 2, 4, none⟩ (.slice A5 (zs.length + 1) c5)).heap.size ∧ some k ≠ (Value.slice A5 (zs.length + 1) c5).ownBlock)) z from fun z G h hG => by
    refine (h.move (fun k hk => ?_)).mono (fun k hk => ?_)
    ·have h1 : k < w3.heap.size ∧ k ≠ w.heap.size + 2 ∧ some k ≠ (Value.slice A2 i c2).ownBlock := by
      rcases hG k hk with h2 | ⟨h2, h3, h4⟩
      ·have := hFl k h2; refine ⟨by omega, by omega, fun e => ?_⟩; have := (hown k e.symm).1
       omega
      ·exact ⟨h3, by omega, h4⟩
     exact (HG6.out.block k (by omega) (fun e => h1.2.1 (Option.some.inj e))).trans (HG5.out.block k h1.1 (fun e => h1.2.2 e))
    ·rcases hG k hk with h2 | ⟨h2, h3, h4⟩
     ·exact .inl h2
     ·refine .inr ⟨h2, by have := HG6.out.size; omega, fun e => ?_⟩
      rcases HAT.out with h5 | ⟨b5, h5, h6⟩
      ·exact h4 (e.trans h5)
      ·have := e.trans h5
       injection this with this
       omega)
   go_wp2
   have hl6 : zs.length + 1 = i + 1 := by omega
   go_roundw
   case rel =>
    refine ⟨i + 1, A5, c5, zs ++ [((⟨r0, r1, r2, r3, r4⟩, D3, e3, D4, e4) : Zt)], by go_num, by omega, ?_, ?_, ?_, ?_, ?_, ?_, ?_⟩
    ·rw [← hl6]; exact HP6
    ·rw [← hl6]; exact ⟨Kd.R_mono (ok' := fun _ => True) (Kd.R_move (Kd.R_bound HO5.out) (fun k hk => HG6.out.block k hk.2.2.1 (fun e => by have h2 := Option.some.inj e; have h3 := hk.2.1; omega))) (fun _ _ => trivial)⟩
    ·refine ⟨⟨?_, fun z hz => ?_⟩⟩
     ·rw [List.map_append, HD.out.1, HDE.out]; rfl
     ·rw [← hl6]
      rcases List.mem_append.1 hz with hz | hz
      ·refine HMV.out z _ ((HD.out.2 z hz).move (fun k hk => HB3.out.block k ?_)) (fun k hk => ?_)
       ·rcases hk with hk | hk
        ·have := hFl k hk
         show k < wr.heap.size
         omega
        ·exact hk.2.1
       ·rcases hk with hk | hk
        ·exact .inl hk
        ·exact .inr ⟨hk.1, by have := hk.2.1; omega, hk.2.2⟩
      ·simp only [List.mem_singleton] at hz; subst hz; refine HMV.out _ _ HRF3.out (fun k hk => ?_)
       rcases hk with hk | hk
       ·exact .inl hk
       ·have h1 : wr.heap.size ≤ k := hk.1; exact .inr ⟨by omega, hk.2, fun e => by have := (hown k e.symm).2; omega⟩
    ·have h6 := yb (zr HB.out) HB3.out; have h7 : Below w.heap.size w w5 := zm h6 _ h6.size HG5.out (fun k hk => by have := (hown k hk).1; omega); exact ⟨zm h7 _ h7.size HG6.out (fun k hk => by have := Option.some.inj hk; omega)⟩
    ·exact ⟨(HG6.out.block _ (by omega) (fun e => by have := Option.some.inj e; omega)).trans ((HB5.out.block _ (by omega)).trans ((HB3.out.block _ (yc (show wr.drew.heap[w.heap.size]? = _ from HX.out))).trans HX.out))⟩
    ·exact ⟨(HG6.out.block _ (by omega) (fun e => by have := Option.some.inj e; omega)).trans ((HB5.out.block _ (by omega)).trans ((HB3.out.block _ (yc (show wr.drew.heap[w.heap.size + 1]? = _ from HZ.out))).trans HZ.out))⟩
    ·exact Nat.le_trans (show w.heap.size + 3 ≤ w5.heap.size by omega) HG6.out.size
   case measure => simp [intOf]; omega
  ·have hin : i = vs.length := by omega
   have HTK := aM (show (dblL vs).take i = dblL vs from List.take_of_length_le (by rw [dblL_length]; omega))
   have hlz : (dblL vs).length = i := by rw [dblL_length]; omega
   have hp := HP.out; have hz := HZ.out; have hg8 := yi wr (w.heap.size + 1) #[.int .i64 kd, .int .i64 n, .string t, .slice A3 ks.length c3, .slice A2 i c2]; have HX8 := aM (setRow_heap wr (w.heap.size + 1) _ #[.int .i64 kd, .int .i64 n, .string t, .slice A3 ks.length c3, .slice A2 i c2] _ _ hz); have HB8 := aM (zm HB.out (some (w.heap.size + 1)) HB.out.size hg8 (fun k hk => by have := Option.some.inj hk; omega))
   have HRF := aM (show RF (wr.setRow (w.heap.size + 1) #[.int .i64 kd, .int .i64 n, .string t, .slice A3 ks.length c3, .slice A2 i c2]) (fun k => F k ∨ (w.heap.size ≤ k ∧ k < (wr.setRow (w.heap.size + 1) #[.int .i64 kd, .int .i64 n, .string t, .slice A3 ks.length c3, .slice A2 i c2]).heap.size)) ((⟨kd, n, t, ks, dblL vs⟩, A3, c3, A2, c2) : Zt) from by
    have hF := HF.out; have hs8 := hg8.size
    have mv : ∀ k, (F k ∨ (w.heap.size + 3 ≤ k ∧ k < wr.heap.size)) → (wr.setRow (w.heap.size + 1) #[.int .i64 kd, .int .i64 n, .string t, .slice A3 ks.length c3, .slice A2 i c2]).heap[k]? = wr.heap[k]? := fun k hk => hg8.block k (by rcases hk with hk | hk; (have := hF k hk; omega); exact hk.2) (fun e => by have := Option.some.inj e; rcases hk with hk | hk; (have := hF k hk; omega); omega)
    have up : ∀ k, (F k ∨ (w.heap.size + 3 ≤ k ∧ k < wr.heap.size)) → (F k ∨ (w.heap.size ≤ k ∧ k < (wr.setRow (w.heap.size + 1) #[.int .i64 kd, .int .i64 n, .string t, .slice A3 ks.length c3, .slice A2 i c2]).heap.size)) := fun k hk => by
     rcases hk with hk | hk
     ·exact .inl hk
     ·exact .inr ⟨by omega, by omega⟩
    have hrd := Kd.R_reads' HO.out; refine .mk _ zs HK.out.1 ?_ ?_ ?_ ?_ (fun q hq => ?_)
    ·have h1 : RowIn (Kd.string.K w) 1 wr A3 ks F := HK.out.2.move (fun k hk => HB.out.block k (hF k hk)); exact ((h1.mono (fun k hk => (.inl hk : F k ∨ (w.heap.size + 3 ≤ k ∧ k < wr.heap.size)))).move mv).mono up
    ·show (dblL vs).length ≤ c2
     rw [hlz]; exact hrd.2.1
    ·show zs.map (fun q => q.1) = dblL vs
     rw [HD.out.1, HTK.out]
    ·have h1 := rowIn_own (G := fun k => F k ∨ (w.heap.size + 3 ≤ k ∧ k < wr.heap.size)) HO.out (fun k h1 h2 => .inr ⟨h1, h2⟩); exact (h1.move mv).mono up
    ·exact (((HD.out.2 q hq).mono (fun k hk => by
      rcases hk with hk | hk
      ·exact (.inl hk : F k ∨ (w.heap.size + 3 ≤ k ∧ k < wr.heap.size))
      ·exact .inr ⟨hk.1, hk.2.1⟩)).move mv).mono up)
   have d2 : decide ((i : Int) < (vs.length : Int)) = false := decide_eq_false (by omega); clear hg8
   go_wp2_with (first | refine xx (.tmp 3) rfl rfl rfl hp ?_ | refine xt (.tmp 2) (.tmp 32) rfl rfl rfl rfl hz ?_)
   refine bodyPost_ret (v := .agg #[.int .i64 kd, .int .i64 n, .string t, .slice A3 ks.length c3, .slice A2 i c2]) (xv rfl rfl HX8.out) rfl ⟨A3, c3, A2, c2, ?_, HRF.out, HB8.out⟩; rw [hlz]
theorem dbl_all {x : VS} (h : SmallS x) (ht : Texts x) : DblAt x := by
 induction h with
 | mk x htx hk hkl hvl hv ih =>
  obtain ⟨kd, n, t, ks, vs⟩ := x
  cases ht with
  | mk _ ht hc =>
   by_cases h3 : kd = 3
   ·subst h3; exact dbl_text n t ks vs ht
   ·exact dbl_tree kd n t ks vs h3 hvl (fun v hvv => ih v hvv (hc v hvv))
theorem volYl_le {α : Type} (f g : α → Y) : ∀ l : List α, (∀ v, v ∈ l → volY (f v) ≤ 2 * volY (g v)) → volYl (l.map f) ≤ 2 * volYl (l.map g)
 | [], _ => by simp [volYl]
 | v :: r, h => by
  have h1 := h v (by simp); have h2 := volYl_le f g r (fun u hu => h u (by simp [hu])); simp only [List.map_cons, volYl]
  omega
theorem volYm_le {α : Type} (f g : α → Y) : ∀ (ks : List Bs) (l : List α), (∀ v, v ∈ l → volY (f v) ≤ 2 * volY (g v)) → volYm (ks.zip (l.map f)) ≤ 2 * volYm (ks.zip (l.map g))
 | [], _, _ => by simp [volYm]
 | k :: ks, [], _ => by simp [volYm]
 | k :: ks, v :: r, h => by
  have h1 := h v (by simp); have h2 := volYm_le f g ks r (fun u hu => h u (by simp [hu])); simp only [List.map_cons, List.zip_cons_cons, volYm, volYp]
  omega
theorem vol_dbl {x : VS} (h : Canon x) : volY (anyOf (toI (dblV x))) ≤ 2 * volY (anyOf (toI x)) := by
 induction h with
 | null => simp [leaf, dblV, dblL, toI, toL, anyOf, volY]
 | bool b => simp [leaf, dblV, dblL, toI, toL, anyOf, volY]
 | int n => simp [leaf, dblV, dblL, toI, toL, anyOf, volY]
 | text s =>
  have e1 : anyOf (toI (leaf 3 0 s)) = .text s := by simp [leaf, toI, toL, anyOf]
  have e2 : anyOf (toI (dblV (leaf 3 0 s))) = .text (mk (twice (lb s))) := by simp [leaf, dblV, toI, toL, anyOf]
  rw [e1, e2]; have h2 := twice_size s; simp only [volY]
  omega
 | list l h ih =>
  have e : dblV ⟨4, 0, ⟨#[]⟩, [], l⟩ = ⟨4, 0, ⟨#[]⟩, [], dblL l⟩ := by simp [dblV]
  rw [e, any_list, any_list, dblL_map, List.map_map]; have := volYl_le (fun v => anyOf (toI (dblV v))) (fun v => anyOf (toI v)) l ih; simp only [volY]; have e3 : List.map ((fun v => anyOf (toI v)) ∘ dblV) l = List.map (fun v => anyOf (toI (dblV v))) l := rfl; rw [e3]
  omega
 | map ks vs hr hl h ih =>
  have e : dblV ⟨5, 0, ⟨#[]⟩, ks, vs⟩ = ⟨5, 0, ⟨#[]⟩, ks, dblL vs⟩ := by simp [dblV]
  rw [e, any_map hr, any_map hr, dblL_map, List.map_map]; have := volYm_le (fun v => anyOf (toI (dblV v))) (fun v => anyOf (toI v)) (ks.map lb) vs ih; simp only [volY]; have e3 : List.map ((fun v => anyOf (toI v)) ∘ dblV) vs = List.map (fun v => anyOf (toI (dblV v))) vs := rfl; rw [e3]
  omega
theorem texts_of {x : VS} (h : Canon x) (hv : volY (anyOf (toI x)) ≤ 4194304) : Texts x := by
 induction h with
 | null => exact .mk _ (Nat.zero_le _) (fun v h => by cases h)
 | bool b => exact .mk _ (Nat.zero_le _) (fun v h => by cases h)
 | int n => exact .mk _ (Nat.zero_le _) (fun v h => by cases h)
 | text s =>
  have e1 : anyOf (toI (leaf 3 0 s)) = .text s := by simp [leaf, toI, toL, anyOf]
  rw [e1] at hv; simp only [volY] at hv; exact .mk _ (by show s.size ≤ _; omega) (fun v h => by cases h)
 | list l h ih =>
  rw [any_list] at hv; simp only [volY] at hv; refine .mk _ (Nat.zero_le _) (fun u hu => ih u hu ?_); have := volYl_mem (List.mem_map.2 ⟨u, hu, rfl⟩ : anyOf (toI u) ∈ l.map (fun v => anyOf (toI v)))
  omega
 | map ks vs hr hl h ih =>
  rw [any_map hr] at hv; simp only [volY] at hv; refine .mk _ (Nat.zero_le _) (fun u hu => ih u hu ?_); obtain ⟨i, hi, he⟩ := List.getElem_of_mem (show u ∈ vs from hu)
  have hm : ((ks.map lb)[i]'(by rw [List.length_map]; omega), anyOf (toI u)) ∈ (ks.map lb).zip (vs.map (fun v => anyOf (toI v))) := by
   refine List.mem_iff_getElem.2 ⟨i, by simp; omega, ?_⟩; rw [List.getElem_zip, List.getElem_map, List.getElem_map, he]
  have := volYm_mem hm; simp only at this
  omega
theorem any_map5 {z : VS} (h5 : z.f0 = 5) : anyOf (toI z) = .map (mapOf (toI z)) := by
 rw [toI_eq, h5]; simp only [anyOf]; rw [if_neg (by decide), if_neg (by decide), if_neg (by decide), if_neg (by decide), if_pos trivial]; rfl
theorem dbl_f0 {z : VS} (h5 : z.f0 = 5) : (dblV z).f0 = 5 := by
 obtain ⟨k, n, t, ks, vs⟩ := z; have h5' : k = 5 := h5; subst h5'
 simp [dblV]
end Go.Proofs.YtjcffojiacgocaaGreatDoor.Tr
namespace Go.Proofs.YtjcffojiacgocaaGreatDoor.Index
open Go.RowKit Go.Proofs.YtjcffojiacgocaaGreatDoorW.PrintWords Go.Proofs.YtjcffojiacgocaaGreatDoor.Str Go.Proofs.YtjcffojiacgocaaGreatDoor.Kit
set_option maxHeartbeats 400000 in
theorem tree_zzIndex (s sub : ByteArray) (w : World) (hs : s.size ≤ 281474976710656) (hb : sub.size ≤ 281474976710656) :
  Calls Tryz.prog 141 #[.string s, .string sub] w fun e w' => e = .returned (.int .i64 (findI (lb sub) (lb s))) ∧ Drawn0 w w' := by
 go_enter Tryz.func141, Tryz.ntmps141
 go_wp2
 go_loopw [5] (fun v5 wr => ∃ j : Nat, v5 = .int .i64 j ∧ j ≤ s.size ∧ Aside0 (At (lb sub) (lb s) j) ∧ Drawn0 w wr) (fun v5 _ => s.size + 1 - (intOf v5).toNat)
 case atStart => exact ⟨0, rfl, by omega, ⟨At.start _ _⟩, Drawn0.refl _⟩
 case round =>
  obtain ⟨j, rfl, hj, HA, HD⟩ := hrel
  by_cases hlt : (j : Int) + (sub.size : Int) ≤ (s.size : Int)
  ·have hm : j + sub.size ≤ s.size := by omega
   have q1 : (j : Int) ≤ (j : Int) + (sub.size : Int) := by omega
   have q0 : (0 : Int) ≤ (j : Int) := by omega
   by_cases e : (s.extract j (j + sub.size)).toList = sub.toList
   ·have e1 : ((s.extract j (j + sub.size)).toList == sub.toList) = true := beq_iff_eq.mpr e; have hit := HA.out.hit (by rw [yd, yd]; exact hm) (by rw [yd, ← lb_piece, ← yz, ← yz]; exact e); have Hit := aM hit; clear e hit
    go_wp2
    go_ret
    exact ⟨by rw [Hit.out]; rfl, by repeat (first | exact HD | apply Drawn0.step)⟩
   ·have e1 : ((s.extract j (j + sub.size)).toList == sub.toList) = false := beq_eq_false_iff_ne.mpr e; have nxt := HA.out.next (by rw [yd, yd]; exact hm) (by rw [yd, ← lb_piece, ← yz, ← yz]; exact e)
    have hj1 : j + 1 ≤ s.size := by have := nxt.1; rw [yd] at this; exact this
    have Nxt := aM nxt; clear e nxt
    go_wp2
    go_roundw
    case rel => exact ⟨j + 1, by go_num, by omega, Nxt, by repeat (first | exact HD | apply Drawn0.step)⟩
    case measure => simp [intOf]; omega
  ·have miss := HA.out.miss (by rw [yd, yd]; omega); have Miss := aM miss; have d : decide ((j : Int) + (sub.size : Int) ≤ (s.size : Int)) = false := decide_eq_false hlt; clear miss hlt
   go_wp2
   go_ret
   exact ⟨by rw [Miss.out]; rfl, by repeat (first | exact HD | apply Drawn0.step)⟩
def parts (c : UInt8) (s : ByteArray) : List ByteArray := (split c (lb s)).map fun p => ⟨p.toArray⟩
end Go.Proofs.YtjcffojiacgocaaGreatDoor.Index
namespace Go.Proofs.YtjcffojiacgocaaGreatDoor.Tr
open Go.RowKit Go.Proofs.YtjcffojiacgocaaGreatDoorW.PrintWords Go.Proofs.YtjcffojiacgocaaGreatDoorW.PrintLast Go.Proofs.YtjcffojiacgocaaGreatDoor.Str Go.Proofs.YtjcffojiacgocaaGreatDoor.Kit Go.Proofs.YtjcffojiacgocaaGreatDoor.Frame
open Go.Proofs.YtjcffojiacgocaaGreatDoor.Index (tree_zzIndex)
def ghost : ByteArray := ⟨#[240, 159, 145, 187]⟩
def strSz : Value → Nat
 | .string s => s.size
 | _ => 0
set_option maxHeartbeats 1600000 in
theorem replace_any (k : ByteArray) (w : World) (hs : k.size ≤ 4398046511104) : Calls Tryz.prog 110 #[.string k, .string ⟨#[46]⟩, .string ⟨#[240, 159, 145, 187]⟩] w fun e w' => ∃ t : ByteArray, e = .returned (.string t) ∧ t.size ≤ 4 * k.size ∧ Below w.heap.size w w' := by
 have HB := aM (Below.refl w.heap.size w)
 go_enter Tryz.func110, Tryz.ntmps110
 go_wp2
 go_loopw [0, 7, 10] (fun v0 v7 v10 wr => ∃ (s : ByteArray) (l : Bs), v0 = .string s ∧ s.size ≤ 4398046511104 ∧ l.length + 4 * s.size ≤ 4 * k.size ∧ Aside0 (Buf wr w.heap.size v7 l) ∧ Aside0 (Below w.heap.size w wr)) (fun v0 _ _ _ => strSz v0)
 case atStart => exact ⟨k, [], rfl, hs, by simp, ⟨Buf.nil _ _⟩, HB⟩
 case round =>
  clear HB; obtain ⟨s, l, rfl, hss, hl, HO, HB⟩ := hrel
  cases hf : find [46] (lb s) with
  | none =>
   have hfi : findI [46] (lb s) = -1 := by rw [findI, hf]
   have Hfi := aM hfi; clear hf hfi
   go_wp2_with fail
   refine (tree_zzIndex s ⟨#[46]⟩ _ (by omega) (by show 1 ≤ _; omega)).mono ?_; rintro e w1 ⟨rfl, hd⟩; rw [show lb ⟨#[46]⟩ = [46] from rfl, Hfi.out]; have HB1 := aM (yb HB.out hd.below); have HO1 := aM (HO.out.below hd.below); have HLL := aM (show l.length + s.size ≤ 140737488355328 by omega); clear hd HB HO
   go_wp2_with (at_builtin; refine append_bufS _ _ rfl rfl rfl rfl HO1.out HB1.out HLL.out ?_; intro v1 w2 ho hb hg; have HB2 := aM hb; have hst := ho.string; clear ho hg hb)
   go_ret
   refine ⟨_, rfl, ?_, HB2.out⟩; rw [← yd, lb_mk, List.length_append, yd]
   omega
  | some i =>
   have hfi : findI [46] (lb s) = i := by rw [findI, hf]
   have hi := (find_some hf).1; rw [yd] at hi; have hi2 : i + 1 ≤ s.size := hi; have Hfi := aM hfi; clear hf hfi hi
   go_wp2_with fail
   refine (tree_zzIndex s ⟨#[46]⟩ _ (by omega) (by show 1 ≤ _; omega)).mono ?_; rintro e w1 ⟨rfl, hd⟩; rw [show lb ⟨#[46]⟩ = [46] from rfl, Hfi.out]; have HB1 := aM (yb HB.out hd.below); have HO1 := aM (HO.out.below hd.below); clear hd HB HO
   have q0 : (0 : Int) ≤ (i : Int) := by omega
   have q1 : (i : Int) ≤ (s.size : Int) := by omega
   have q2 : ((i : Int) + 1) ≤ (s.size : Int) := by omega
   have HLL := aM (show l.length + (s.extract 0 i).size ≤ 140737488355328 by rw [ByteArray.size_extract]; omega); have HLM := aM (show (l ++ lb (s.extract 0 i)).length + ghost.size ≤ 140737488355328 by rw [List.length_append, yd, ByteArray.size_extract]; have : ghost.size = 4 := rfl; omega); have HLE := aM (show (l ++ lb (s.extract 0 i) ++ lb ghost).length + 4 * (s.extract (i + 1) s.size).size ≤ 4 * k.size by rw [List.length_append, List.length_append, yd, yd, ByteArray.size_extract, ByteArray.size_extract]; have : ghost.size = 4 := rfl; omega)
   go_wp2_with (at_builtin; first | (refine append_bufS (.tmp 54) (.tmp 57) rfl rfl rfl rfl HO1.out HB1.out HLL.out ?_; intro v1 w2 ho hb hg; have HO2 := aM ho; have HB2 := aM hb; clear ho hb hg) | (refine append_bufS (.tmp 58) (.tmp 59) rfl rfl rfl rfl HO2.out HB2.out HLM.out ?_; intro v3 w3 ho hb hg; have HO3 := aM ho; have HB3 := aM hb; clear ho hb hg))
   go_roundw
   case rel => exact ⟨_, _, rfl, by rw [ByteArray.size_extract]; omega, HLE.out, HO3, HB3⟩
   case measure => simp [strSz]; omega
set_option maxHeartbeats 800000 in
theorem next_any (p k : ByteArray) (w : World) (hp : p.size ≤ 4398046511104) (hk : k.size ≤ 4398046511104) : Calls Tryz.prog 67 #[.string p, .string k] w fun e w' => ∃ t : ByteArray, e = .returned (.string t) ∧ t.size ≤ p.size + 1 + 4 * k.size ∧ Below w.heap.size w w' := by
 have CR := aM (replace_any k w hk)
 by_cases h0 : p.toList = []
 ·have q0 : (p.toList == []) = true := by rw [h0]; rfl
  clear h0
  go_enter Tryz.func67, Tryz.ntmps67
  go_wp2
  go_ret
  exact ⟨k, rfl, by omega, Below.refl _ _⟩
 ·have q0 : (p.toList == []) = false := beq_eq_false_iff_ne.2 h0; clear h0
  go_enter Tryz.func67, Tryz.ntmps67
  go_wp2_with fail
  refine CR.out.mono ?_; rintro e w1 ⟨r, rfl, hr, hb⟩; have HB := aM hb
  have z1 : ¬ 9223372036854775807 < ByteArray.size p + 1 := by omega
  have z2 : ¬ 9223372036854775807 < ByteArray.size p + 1 + ByteArray.size r := by omega
  clear hb CR
  go_wp2
  go_ret
  exact ⟨_, rfl, by have h46 : (⟨#[46]⟩ : ByteArray).size = 1 := rfl; rw [ByteArray.size_append, ByteArray.size_append, h46]; omega, HB.out⟩
end Go.Proofs.YtjcffojiacgocaaGreatDoor.Tr
namespace Go.Proofs.YtjcffojiacgocaaGreatDoor.Tr
open Go.RowKit Go.Proofs.YtjcffojiacgocaaGreatDoorW.PrintWords Go.Proofs.YtjcffojiacgocaaGreatDoorW.PrintLast Go.Proofs.YtjcffojiacgocaaGreatDoor.Str Go.Proofs.YtjcffojiacgocaaGreatDoor.Kit Go.Proofs.YtjcffojiacgocaaGreatDoor.MapV Go.Proofs.YtjcffojiacgocaaGreatDoor.Frame Go.Proofs.YtjcffojiacgocaaGreatDoor.PS
open Go.Proofs.YtjcffojiacgocaaGreatDoor.Tr.Sb (Rw Repl EnvAt envF goesVL_)
theorem path_u : Tryz.prog.underlying 70 = some .string := Tryz.underlying70
theorem casts_u : Tryz.prog.underlying 65 = some (.map 70 69) := Tryz.underlying65
abbrev subF : Value := .func (.func 45) #[] #[]
structure OptsAt (g : List (Bs × BA)) (w : World) (cb mb : Nat) : Prop where
 env : EnvAt w cb g
 cast : MapE Tryz.prog 70 (id : Value → Value) w mb []
theorem OptsAt.below {g : List (Bs × BA)} {w w1 : World} {cb mb : Nat} (h : OptsAt g w cb mb) (hb : Below w.heap.size w w1) : OptsAt g w1 cb mb := ⟨h.env.below hb, h.cast.below hb⟩
def ItpMade (w : World) (y : Y) (e : Ending) (w' : World) : Prop := ∃ v, e = .returned (.tuple #[v, .nilIface]) ∧ AR w' v y (fun k => w.heap.size ≤ k ∧ k < w'.heap.size) ∧ Below w.heap.size w w'
def ItpAt (g : List (Bs × BA)) (y y' : Y) : Prop := ∀ (v : Value) (F : Nat → Prop) (w : World) (path : BA) (cb mb : Nat), AR w v y F → path.size + 10 * volY y ≤ 1099511627776 → OptsAt g w cb mb →
 Calls Tryz.prog 46 #[v, .string path, .agg #[envF cb, .map (some mb), subF]] w (ItpMade w y')
theorem i_nil_str (w : World) : (Instr.typeAssert .nilIface 20 9 true).run Tryz.prog w = .ok (.tuple #[.string ⟨#[]⟩, .bool false]) w := by kernel_rfl
theorem i_nil_map (w : World) : (Instr.typeAssert .nilIface 20 71 true).run Tryz.prog w = .ok (.tuple #[.map none, .bool false]) w := by kernel_rfl
theorem i_nil_lst (w : World) : (Instr.typeAssert .nilIface 20 101 true).run Tryz.prog w = .ok (.tuple #[.slice none 0 0, .bool false]) w := by kernel_rfl
theorem i_bool_str (v : Value) (w : World) : (Instr.typeAssert (.iface 4 v) 20 9 true).run Tryz.prog w = .ok (.tuple #[.string ⟨#[]⟩, .bool false]) w := by kernel_rfl
theorem i_bool_map (v : Value) (w : World) : (Instr.typeAssert (.iface 4 v) 20 71 true).run Tryz.prog w = .ok (.tuple #[.map none, .bool false]) w := by kernel_rfl
theorem i_bool_lst (v : Value) (w : World) : (Instr.typeAssert (.iface 4 v) 20 101 true).run Tryz.prog w = .ok (.tuple #[.slice none 0 0, .bool false]) w := by kernel_rfl
theorem i_int_str (v : Value) (w : World) : (Instr.typeAssert (.iface 3 v) 20 9 true).run Tryz.prog w = .ok (.tuple #[.string ⟨#[]⟩, .bool false]) w := by kernel_rfl
theorem i_int_map (v : Value) (w : World) : (Instr.typeAssert (.iface 3 v) 20 71 true).run Tryz.prog w = .ok (.tuple #[.map none, .bool false]) w := by kernel_rfl
theorem i_int_lst (v : Value) (w : World) : (Instr.typeAssert (.iface 3 v) 20 101 true).run Tryz.prog w = .ok (.tuple #[.slice none 0 0, .bool false]) w := by kernel_rfl
theorem i_str_str (v : Value) (w : World) : (Instr.typeAssert (.iface 9 v) 20 9 true).run Tryz.prog w = .ok (.tuple #[v, .bool true]) w := by kernel_rfl
theorem i_map_str (v : Value) (w : World) : (Instr.typeAssert (.iface 71 v) 20 9 true).run Tryz.prog w = .ok (.tuple #[.string ⟨#[]⟩, .bool false]) w := by kernel_rfl
theorem i_map_map (v : Value) (w : World) : (Instr.typeAssert (.iface 71 v) 20 71 true).run Tryz.prog w = .ok (.tuple #[v, .bool true]) w := by kernel_rfl
theorem i_lst_str (v : Value) (w : World) : (Instr.typeAssert (.iface 101 v) 20 9 true).run Tryz.prog w = .ok (.tuple #[.string ⟨#[]⟩, .bool false]) w := by kernel_rfl
theorem i_lst_map (v : Value) (w : World) : (Instr.typeAssert (.iface 101 v) 20 71 true).run Tryz.prog w = .ok (.tuple #[.map none, .bool false]) w := by kernel_rfl
theorem i_lst_lst (v : Value) (w : World) : (Instr.typeAssert (.iface 101 v) 20 101 true).run Tryz.prog w = .ok (.tuple #[v, .bool true]) w := by kernel_rfl
set_option maxHeartbeats 800000 in
theorem caster_none (f1 f2 : Value) (mb : Nat) (path : BA) (w : World) (h : MapE Tryz.prog 70 (id : Value → Value) w mb []) :
  Calls Tryz.prog 66 #[.agg #[f1, .map (some mb), f2], .string path] w fun e w' => e = .returned (.tuple #[.nilFunc, .bool false]) ∧ Below w.heap.size w w' := by
 have HB := aM (za (Below.refl w.heap.size w) (.cells #[f1, .map (some mb), f2] 82)); have HM := aM (h.below HB.out); clear h
 go_enter Tryz.func66, Tryz.ntmps66
 go_wp2_with (at_range; refine range_mapE (enc := (id : Value → Value)) path_u casts_u rfl _ rfl rfl HM.out ?_; intro w0 hrg0 hg0 hs0; have HR0 := aM hrg0; have HG0 := aM (zm HB.out none HB.out.size hg0 (fun k hk => by cases hk)); clear hrg0 hg0 hs0)
 go_frame
 go_loopw [6, 7] (fun v6 v7 wr => Aside0 (wr = w0)) (fun _ _ _ => 0)
 case atStart => exact ⟨rfl⟩
 case round =>
  obtain rfl := hrel.out
  go_wp2_with (at_next; refine next_mapA (enc := (id : Value → Value)) path_u rfl _ rfl rfl HR0.out (fun hd => ?_) (fun x c w2 hx hen => absurd hx.out.1 (by simp)))
  go_wp2
  go_ret2
  exact ⟨rfl, HG0.out⟩
theorem joinErrors_none (w : World) : Calls Tryz.prog 48 #[.slice none 0 0] w fun e w' => e = .returned .nilIface ∧ Below w.heap.size w w' := by
 go_enter Tryz.func48, Tryz.ntmps48
 go_wp2
 go_ret
 exact ⟨rfl, Below.refl _ _⟩
theorem Join_none (w : World) : Calls Tryz.prog 68 #[.slice none 0 0] w fun e w' => e = .returned .nilIface ∧ Below w.heap.size w w' := by
 go_enter Tryz.func68, Tryz.ntmps68
 go_wp2
 go_loopw [3, 5, 11] (fun v3 v5 v11 wr => v3 = .int .i64 0 ∧ v11 = .int .i64 0 ∧ wr = w) (fun _ _ _ _ => 0)
 case atStart => exact ⟨rfl, rfl, rfl⟩
 case round =>
  obtain ⟨rfl, rfl, rfl⟩ := hrel
  go_wp2
  go_ret
  exact ⟨rfl, Below.refl _ _⟩
theorem opts_size : (Tryz.prog.info? 82).map (fun i => i.size) = some 3 := by kernel_rfl
section
variable {ops : Array Oper} {rest : List Oper} {o : Oper} {a : Act} {Q : Exit → Act → World → Prop}
theorem load_opts {w : World} {b : Nat} {f1 f2 f3 : Value} (x : Operand) (hgd : o.guard = none) (ho : o.op = .load 82 x) (hx : a.eval x = .pointer (some ⟨b, 0, none⟩)) (hb : w.heap[b]? = some (.cells #[f1, f2, f3] 82 (0, 0)))
  (h : wpList Tryz.prog ops Q rest (a.put o.dst (.agg #[f1, f2, f3])) w) : wpList Tryz.prog ops Q (o :: rest) a w :=
 wpList_load_row hgd _ x ho b hx _ _ _ _ hb Tryz.underlying82 rfl opts_size h
end
set_option maxHeartbeats 800000 in
theorem itp_leaf (c : Value) (y : Y) (hc : ∀ w F, AR w c y F) (h1 : ∀ w : World, (Instr.typeAssert c 20 9 true).run Tryz.prog w = .ok (.tuple #[.string ⟨#[]⟩, .bool false]) w) (h2 : ∀ w : World, (Instr.typeAssert c 20 71 true).run Tryz.prog w = .ok (.tuple #[.map none, .bool false]) w) (h3 : ∀ w : World, (Instr.typeAssert c 20 101 true).run Tryz.prog w = .ok (.tuple #[.slice none 0 0, .bool false]) w) (path : BA) (f1 f2 f3 : Value) (w : World) :
  Calls Tryz.prog 46 #[c, .string path, .agg #[f1, f2, f3]] w (ItpMade w y) := by
 have HC := aM hc; have HB := aM (za (Below.refl w.heap.size w) (.cells #[f1, f2, f3] 82)); clear hc
 go_enter Tryz.func46, Tryz.ntmps46
 go_wp2
 go_ret2
 exact ⟨c, rfl, HC.out _ _, HB.out⟩
theorem sub_enters (args : Array Value) (w : World) : (callFunc 45 args).run Tryz.prog w = .ok (.enter 45 args) w :=
 enters_ Tryz.func45 (by kernel_rfl) rfl args w
set_option maxHeartbeats 1600000 in
set_option maxRecDepth 100000 in
theorem itp_text {P : BA → BA → Prop} {g : List (Bs × BA)} (hP : Repl P g) (s : BA) (out : Bs) (hs : s.size < 140737488355328) (ho : out.length ≤ 140737488355328) (hrw : Rw P s 0 out) (path : BA) (cb mb : Nat) (w : World) (hO : OptsAt g w cb mb) :
  Calls Tryz.prog 46 #[.iface 9 (.string s), .string path, .agg #[envF cb, .map (some mb), subF]] w (ItpMade w (.text ⟨out.toArray⟩)) := by
 have f1 := i_str_str; have HB := aM (za (Below.refl w.heap.size w) (.cells #[envF cb, .map (some mb), subF] 82)); have HOX := aM (yk w (.cells #[envF cb, .map (some mb), subF] 82)); have CS := aM (Sb.Substitute hP s out hs ho hrw (w.alloc (.cells #[envF cb, .map (some mb), subF] 82)) cb (hO.env.below HB.out)); have HO := aM (hO.below HB.out); generalize (⟨out.toArray⟩ : BA) = r at CS ⊢; clear hP hrw hO hs ho
 go_enter Tryz.func46, Tryz.ntmps46
 go_wp2_with (first | (refine goesVL_ (.tmp 36) #[] (some 40) rfl rfl #[.string s, envF cb] (sub_enters _ _) rfl rfl (by simp only [List.map_toArray, List.map_cons, List.map_nil, Array.append_empty]; rfl) ?_; refine CS.out.mono ?_; rintro e w5 ⟨rfl, hb⟩; have HB5 := aM hb; have hx5 := (hb.block _ (yc HOX.out)).trans HOX.out; clear hb; refine ⟨_, rfl, ?_⟩) | refine load_opts (.tmp 5) rfl rfl rfl hx5 ?_)
 have CC := aM (caster_none (envF cb) subF mb path w5 (HO.out.below HB5.out).cast); clear CS; refine CC.out.mono ?_; rintro e w6 ⟨rfl, hb⟩; have HB6 := aM (yb HB.out (yb HB5.out hb)); clear hb CC hx5
 go_wp2
 go_ret2
 exact ⟨_, rfl, .text r _, HB6.out⟩
end Go.Proofs.YtjcffojiacgocaaGreatDoor.Tr
namespace Go.Proofs.YtjcffojiacgocaaGreatDoor.Tr
open Go.RowKit Go.Proofs.YtjcffojiacgocaaGreatDoorW.PrintWords Go.Proofs.YtjcffojiacgocaaGreatDoorW.PrintLast Go.Proofs.YtjcffojiacgocaaGreatDoor.Str Go.Proofs.YtjcffojiacgocaaGreatDoor.Kit Go.Proofs.YtjcffojiacgocaaGreatDoor.MapV Go.Proofs.YtjcffojiacgocaaGreatDoor.Frame Go.Proofs.YtjcffojiacgocaaGreatDoor.PS
open Go.Proofs.YtjcffojiacgocaaGreatDoor.Tr.Sb (Rw Repl EnvAt envF)
abbrev Lu := Value × Y × Y
set_option maxHeartbeats 6400000 in
set_option maxRecDepth 100000 in
theorem itp_list {g : List (Bs × BA)} (us : List Lu) (hul : us.length ≤ 1759218604400) (A : Option Addr) (c : Nat) (path : BA) (cb mb : Nat) (w : World) (hC : kAny.C w A us.length (us.map (fun u => u.1))) (hz : ∀ u, u ∈ us → ∃ F, AR w u.1 u.2.1 F) (hch : ∀ u, u ∈ us → ItpAt g u.2.1 u.2.2)
  (hv : ∀ u, u ∈ us → path.size + 9 + 10 * volY u.2.1 ≤ 1099511627776) (hp : path.size ≤ 4398046511104) (hO : OptsAt g w cb mb) :
  Calls Tryz.prog 46 #[.iface 101 (.slice A us.length c), .string path, .agg #[envF cb, .map (some mb), subF]] w (ItpMade w (.list (us.map (fun u => u.2.2)))) := by
 have f1 := i_lst_str; have f2 := i_lst_map; have f3 := i_lst_lst; have HC := aM hC; have HZ := aM hz; have HCH := aM hch; have HVV := aM hv; have HOO := aM hO
 have hmk := fun W => run_make_row' (P := Tryz.prog) 101 20 .nilIface 16 Tryz.underlying101 info_any rfl .i64 .i64 us.length (by omega) (by omega) W
 have hbx := za (Below.refl w.heap.size w) (.cells #[envF cb, .map (some mb), subF] 82); have HB0 := aM (za hbx (.cells (madeCells #[.nilIface] us.length) 20)); have HX0 := aM (show ((w.alloc (.cells #[envF cb, .map (some mb), subF] 82)).alloc (.cells (madeCells #[.nilIface] us.length) 20)).heap[w.heap.size]? = some (.cells #[envF cb, .map (some mb), subF] 82 (0, 0)) from ze (yk _ _) _); have hm0 := ListAt.made (w.alloc (.cells #[envF cb, .map (some mb), subF] 82)) us.length hul; rw [World.size_alloc] at hm0; have HM0 := aM hm0; have HT0 := aM (show (List.replicate us.length noEn).map (fun z => z.2.1) = saidTo (us.map (fun u => u.2.2)) 0 us.length from by rw [List.map_replicate]; rfl); clear hC hz hch hv hO hbx hm0
 go_enter Tryz.func46, Tryz.ntmps46
 go_wp2
 go_loopw [24, 25, 26, 27, 114, 23] (fun v24 v25 v26 v27 v114 v23 wr => ∃ i : Nat, v114 = .int .i64 i ∧ v23 = .slice none 0 0 ∧ i ≤ us.length ∧ Aside0 (∃ zs, ListAt wr (w.heap.size + 1) us.length zs ∧ zs.map (fun z => z.2.1) = saidTo (us.map (fun u => u.2.2)) i us.length) ∧ Aside0 (Below w.heap.size w wr) ∧ Aside0 (wr.heap[w.heap.size]? = some (.cells #[envF cb, .map (some mb), subF] 82 (0, 0)))) (fun _ _ _ _ v114 _ _ => us.length - (intOf v114).toNat)
 case atStart => exact ⟨0, rfl, rfl, by omega, ⟨_, HM0.out, HT0.out⟩, HB0, HX0⟩
 case round =>
  clear HM0 HB0 HX0 HT0; obtain ⟨i, rfl, rfl, hiv, HM, HB, HX⟩ := hrel
  have q0 : (0 : Int) ≤ (i : Int) := by omega
  by_cases hlv : i < us.length
  ·have q2 : (i : Int) < (us.length : Int) := by omega
   have hl0 : (us.map (fun u => u.1)).length = us.length := List.length_map ..; obtain ⟨vb, vo, rfl, hvb, hvc⟩ := kAny_at (A := A) (xs := us.map (fun u => u.1)) (by rw [hl0]; exact HC.out) (by omega)
   have e0 : w.cell? ⟨vb, vo + i, none⟩ = some (us[i]'hlv).1 := by
    have h := hvc i (by omega); rw [List.getElem_map] at h; exact h
   have y0 := zf HB.out e0
   have CA := aM (fun (W : World) (hb : Below w.heap.size w W) (q : BA) (hq : q.size ≤ path.size + 9) => by
    obtain ⟨F, hF⟩ := HZ.out us[i] (List.getElem_mem hlv)
    exact HCH.out us[i] (List.getElem_mem hlv) us[i].1 _ W q cb mb (hF.keep hb) (by have := HVV.out us[i] (List.getElem_mem hlv); omega) (HOO.out.below hb))
   have HST := aM (saidTo_set (us.map (fun u => u.2.2)) i us.length hlv (List.length_map ..)); have HGE := aM (show (us.map (fun u => u.2.2))[i]'(by rw [List.length_map]; exact hlv) = (us[i]'hlv).2.2 by simp); clear hvc e0 hl0; generalize us[i]'hlv = u at y0 HGE CA; obtain ⟨x, yx, yy⟩ := u; have hx5 : wr.drew.heap[w.heap.size]? = some (.cells #[envF cb, .map (some mb), subF] 82 (0, 0)) := HX.out; have c0 := zn (i := 0) hx5 rfl; have c1 := zn (i := 1) hx5 rfl; have c2 := zn (i := 2) hx5 rfl; have HX5 := aM hx5; clear hx5
   go_wp2_with fail
   refine xb (n := 10) (S := fun w' => w'.cell? ⟨w.heap.size, 0, none⟩ = some (envF cb) ∧ w'.cell? ⟨w.heap.size, 1, none⟩ = some (.map (some mb)) ∧ w'.cell? ⟨w.heap.size, 2, none⟩ = some subF) (ds := [4]) (bZ 10 0) (by kernel_rfl) rfl rfl ⟨c0, c1, c2⟩ (fun hHeld => ?_); refine pU 0 (some 120) (bZ 10 1) rfl (by kernel_rfl) ?_; refine pU 1 (some 121) (bZ 10 3) rfl (by kernel_rfl) ?_; refine tU 3 (some 123) (bZ 10 11) rfl (by kernel_rfl) (Or.inl ⟨by rfl, by rintro w' ⟨s0, s1, s2⟩; go_simp; with_reducible rfl⟩) hHeld ?_; refine one_ (i := 2) (N := some 122) (bZ 10 15) rfl rfl (by kernel_rfl) (by decide) (fun K hK => ?_); refine vn Tryz.func67 (by kernel_rfl) rfl #[.string path, .string ⟨#[91, 93]⟩] (by rfl) rfl rfl (by simp only [List.map_toArray, List.map_cons, List.map_nil]; rfl) ?_
   with_reducible refine (next_any path ⟨#[91, 93]⟩ wr.drew hp (by decide)).mono ?_
   rintro e w3 ⟨q, rfl, hq, hb3⟩; refine ⟨_, rfl, ?_⟩; have HB3 := aM hb3; have HQ := aM (show q.size ≤ path.size + 9 from hq); refine hK.out _ _ ⟨zf hb3 hHeld.1, zf hb3 hHeld.2.1, zf hb3 hHeld.2.2⟩ (fun hHeld => ?_); clear hK K; refine zq (a' := ?_) ?_ ?_; rotate_left
   ·show Act.put _ (some 122) _ = _
    simp only [Act.put, sA, sB, sC, zo, zt]; rfl
   refine xg (i := 4) (N := some 124) (bZ 10 31) rfl rfl (by kernel_rfl) (by decide) (fun K hK => ?_); refine vn Tryz.func46 (by kernel_rfl) rfl #[x, .string q, .agg #[envF cb, .map (some mb), subF]] (by rfl) rfl rfl (by simp only [List.map_toArray, List.map_cons, List.map_nil]; rfl) ?_
   with_reducible refine (CA.out w3 (yb (zr HB.out) HB3.out) q HQ.out).mono ?_
   rintro e w4 ⟨v4, rfl, ha4, hb4⟩; refine ⟨_, rfl, ?_⟩; have HB4 := aM (yb HB3.out hb4); have HA4 := aM (ha4.mono (fun k hk => (⟨Nat.le_trans HB3.out.size hk.1, hk.2⟩ : wr.heap.size ≤ k ∧ k < w4.heap.size))); have h1 := ha4.one; have H1 := aM h1; clear ha4 h1; refine hK.out _ _ ?_; clear hK K; refine zq (a' := ?_) ?_ ?_; rotate_left
   ·show Act.put _ (some 124) _ = _
    simp only [Act.put, sA, sB, sC, zo, zt]; rfl
   refine pU 5 (some 119) (bZ 10 63) rfl (by kernel_rfl) ?_; refine pU 6 (some 125) (bZ 10 127) rfl (by kernel_rfl) ?_; refine pU 7 (some 126) (bZ 10 255) rfl (by kernel_rfl) ?_; refine pU 8 (some 26) (bZ 10 511) rfl (by kernel_rfl) ?_; refine pU 9 (some 27) (bZ 10 1023) rfl (by kernel_rfl) ?_; refine xl (by kernel_rfl) ?_; have hbb := yb (zr (Below.refl wr.heap.size wr)) HB4.out; have HB5 := aM hbb; have HX6 := aM ((hbb.block _ (yc HX.out)).trans HX.out); obtain ⟨zs, hzs, hsaid⟩ := HM.out; have HZS := aM hzs; have HSD := aM hsaid; have hzt := kAny_put (hzs.move hbb).hr i hlv v4 H1.out
   have hst : (storeCells ⟨w.heap.size + 1, i, none⟩ [v4]).run Tryz.prog w4 = .ok () (w4.setCell ⟨w.heap.size + 1, i, none⟩ v4) := by
    have := run_storeCells_cells (P := Tryz.prog) (w.heap.size + 1) i [v4] 0 w4 (fun j hj => by
     have : j = 0 := by simpa using hj
     subst this
     exact hzt.1) (fun j hj => by
     have : j = 0 := by simpa using hj
     subst this
     exact hzt.2.1) (fun u hu => by
     have : u = v4 := by simpa using hu
     rw [this]
     exact H1.out)
    simpa [World.setCells] using this
   clear hbb hzs hsaid hzt c0 c1 c2 hb4 y0
   try clear hHeld
   go_wp2
   rw [hst]
   go_wp2
   go_roundw
   case rel =>
    have hp := HZS.out.put HB5.out HA4.out i hlv; refine ⟨i + 1, by go_num, rfl, by omega, ⟨⟨_, hp, ?_⟩⟩, ⟨?_⟩, ⟨?_⟩⟩
    ·rw [List.map_set, HSD.out, ← HST.out, HGE.out]
    ·exact (yb HB.out HB5.out).setCell (by show w.heap.size ≤ w.heap.size + 1; omega) _
    ·exact (Below.heap_setCell w4 ⟨w.heap.size + 1, i, none⟩ v4 _ (by show w.heap.size ≠ w.heap.size + 1; omega)).trans HX6.out
   case measure => simp [intOf]; omega
  ·have HTK := aM (show saidTo (us.map (fun u => u.2.2)) i us.length = us.map (fun u => u.2.2) by
    unfold saidTo
    rw [List.take_of_length_le (by rw [List.length_map]; omega), show us.length - i = 0 by omega]
    simp)
   go_wp2_with fail
   refine (Join_none _).mono ?_; rintro e w7 ⟨rfl, hb7⟩; have HB7 := aM hb7; clear hb7
   go_wp2
   go_ret2
   obtain ⟨zs, hzs, hsaid⟩ := HM.out; rw [HTK.out] at hsaid; exact ⟨_, rfl, ((hzs.move HB7.out).done hsaid).mono (fun k hk => ⟨by have := hk.1; omega, hk.2⟩), yb HB.out HB7.out⟩
end Go.Proofs.YtjcffojiacgocaaGreatDoor.Tr
namespace Go.Proofs.YtjcffojiacgocaaGreatDoor.Mount
open Go.RowKit Go.Proofs.YtjcffojiacgocaaGreatDoorW.PrintWords Go.Proofs.YtjcffojiacgocaaGreatDoor.Str Go.Proofs.YtjcffojiacgocaaGreatDoor.Kit Go.Proofs.YtjcffojiacgocaaGreatDoor.Frame
theorem join_C {A : Option Addr} {c : Nat} {xs : List ByteArray} (sep : ByteArray) (w : World) (h : Kd.string.C w A xs.length xs) (hc : xs.length ≤ c)
  (hN : xs.length ≤ 140737488355328) (hlen : (Lib.join (xs.map lb) (lb sep)).length ≤ 140737488355328) :
  Calls Tryz.prog 69 #[.slice A xs.length c, .string sep] w fun e w' => e = .returned (.string ⟨(Lib.join (xs.map lb) (lb sep)).toArray⟩) ∧ Below w.heap.size w w' := by
 rcases Nat.eq_zero_or_pos xs.length with h0 | h0
 ·obtain rfl := List.eq_nil_of_length_eq_zero h0
  exact (Tryz.strings_Join_none A c sep w).mono fun e w' ⟨he, hw⟩ => ⟨he, hw ▸ Below.refl _ _⟩
 ·obtain ⟨bk, off, rfl, hbk, hcell⟩ := vt h h0
  exact Tryz.strings_Join bk off c xs sep w (fun j x hx => by
   obtain ⟨hj, rfl⟩ := List.getElem?_eq_some_iff.1 hx
   exact hcell j hj) hbk hN hc hlen
def newPath (xs : List ByteArray) : ByteArray := ⟨(Lib.join (xs.map lb) [46]).toArray⟩
set_option maxHeartbeats 400000 in
theorem tree_NewPath {A : Option Addr} {c : Nat} {xs : List ByteArray} (w : World) (h : Kd.string.C w A xs.length xs) (hc : xs.length ≤ c)
  (hN : xs.length ≤ 140737488355328) (hlen : (newPath xs).size ≤ 140737488355328) :
  Calls Tryz.prog 47 #[.slice A xs.length c] w fun e w' => e = .returned (.string (newPath xs)) ∧ Below w.heap.size w w' := by
 have H := aM h; have HC := aM hc; have HN := aM hN; have HL := aM hlen; clear h hc hN hlen
 go_enter Tryz.func47, Tryz.ntmps47
 go_wp2_with fail
 refine (join_C ⟨#[46]⟩ w H.out HC.out HN.out (by have := HL.out; rw [← yd, newPath, lb_mk] at this; exact this)).mono ?_; rintro e w1 ⟨rfl, hb⟩; have HB := aM hb; clear hb
 go_wp2
 go_ret
 exact ⟨rfl, HB.out⟩
theorem newPath_oneD (k : ByteArray) (w : World) (b : Nat) (hb : b = w.heap.size) (hk : k.size ≤ 4398046511104) : Calls Tryz.prog 47 #[.slice (some ⟨b, 0, none⟩) 1 1] (w.alloc (.cells #[.string k] 9)).drew fun e w' => e = .returned (.string k) ∧ Below (w.alloc (.cells #[.string k] 9)).drew.heap.size (w.alloc (.cells #[.string k] 9)).drew w' := by
 subst hb
 have e : newPath [k] = k := by
  unfold newPath
  have h : Lib.join ([k].map lb) [46] = lb k := by simp [Lib.join]
  rw [h]
 have h := tree_NewPath (c := 1) (xs := [k]) (w.alloc (.cells #[.string k] 9)).drew (Kd.C_below (strs_lit w 9 [k] (by show 1 ≤ _; omega)) (zr (Below.refl _ _))) (Nat.le_refl _) (by simp) (by rw [e]; omega); rw [e] at h; exact h
end Go.Proofs.YtjcffojiacgocaaGreatDoor.Mount
namespace Go.Proofs.YtjcffojiacgocaaGreatDoor.Tr
open Go.RowKit Go.Proofs.YtjcffojiacgocaaGreatDoorW.PrintWords Go.Proofs.YtjcffojiacgocaaGreatDoorW.PrintLast Go.Proofs.YtjcffojiacgocaaGreatDoor.Str Go.Proofs.YtjcffojiacgocaaGreatDoor.Kit Go.Proofs.YtjcffojiacgocaaGreatDoor.MapV Go.Proofs.YtjcffojiacgocaaGreatDoor.Frame Go.Proofs.YtjcffojiacgocaaGreatDoor.PS
open Go.Proofs.YtjcffojiacgocaaGreatDoor.Tr.Sb (Rw Repl EnvAt envF)
section
variable {α β : Type}
def MovedTo (mf : List (Bs × α)) (lf : List (Bs × β)) (cur : List (Bs × α)) : Prop := Rises cur ∧ cur.length + lf.length ≤ mf.length ∧ ∀ k, mget cur k = if (mget lf k).isSome then none else mget mf k
theorem mdel_less {f : List (Bs × α)} {k : Bs} {c : α} (h : (k, c) ∈ f) : (mdel f k).length + 1 ≤ f.length := by
 have : (mdel f k).length < f.length := by
  unfold mdel
  exact List.length_filter_lt_length_iff_exists.2 ⟨(k, c), h, by simp⟩
 omega
theorem MovedTo.put {mf : List (Bs × α)} {lf : List (Bs × β)} {cur : List (Bs × α)} (h : MovedTo mf lf cur) {k : Bs} {c : β} {v : α} (hk : (k, c) ∈ lf) (hv : mget mf k = some v) : MovedTo mf (mdel lf k) (mput cur k v) := by
 obtain ⟨h1, h2, h3⟩ := h; have hl := mdel_less hk; have hp := mput_length cur k v; refine ⟨mput_rises h1 _ _, by omega, fun q => ?_⟩; rw [xo]
 by_cases e : k = q
 ·subst e; rw [if_pos rfl, mget_mdel_same]
  simp
  exact hv.symm
 ·rw [if_neg e, h3, mget_mdel_other e]
theorem MovedTo.done {mf : List (Bs × α)} {cur : List (Bs × α)} (h : MovedTo mf ([] : List (Bs × β)) cur) (hg : Rises mf) : cur = mf := rises_ext h.1 hg (fun k => by rw [h.2.2 k]; simp [mget])
theorem mget_map {γ : Type} (f : γ → α) : ∀ (l : List (Bs × γ)) (k : Bs), mget (l.map (fun u => (u.1, f u.2))) k = (mget l k).map f
 | [], k => rfl
 | u :: r, k => by
  have ih := mget_map f r k
  unfold mget at ih ⊢
  rw [List.map_cons, List.find?_cons, List.find?_cons]
  by_cases h : (u.1 == k) = true
  ·simp only [h]; rfl
  ·have h' : (u.1 == k) = false := by simpa using h
   simp only [h']; exact ih
theorem MovedTo.start {γ : Type} (f : γ → α) (h : γ → β) (l : List (Bs × γ)) : MovedTo (l.map (fun u => (u.1, f u.2))) (l.map (fun u => (u.1, h u.2))) [] := ⟨List.Pairwise.nil, by simp, fun k => by
 rw [mget_map, mget_map]
 cases mget l k with
 | none => simp [mget]
 | some v => simp [mget]⟩
theorem rises_map {γ : Type} (f : γ → α) {l : List (Bs × γ)} : Rises (l.map (fun u => (u.1, f u.2))) ↔ Rises l := by
 unfold Rises
 rw [List.pairwise_map]
end
theorem MapAt.kept {wr w2 : World} {b r : Nat} {zs : List (Bs × En)} {m : List (Bs × Y)} (h : MapAt wr b zs m) (hg : wr.grownBy w2 (some r)) (hbr : b ≠ r) (hF : ∀ z, z ∈ zs → ∀ k, z.2.2.2 k → r < k) : MapAt w2 b zs m :=
 ⟨h.hm.move (hg.block b h.lt (fun e => hbr (Option.some.inj e))), fun z hz => (h.hz z hz).move (fun k hk => hg.block k (h.hF z hz k hk).2 (fun e => by have := Option.some.inj e; have := hF z hz k hk; omega)), h.hd, fun z hz k hk => ⟨(h.hF z hz k hk).1, Nat.lt_of_lt_of_le (h.hF z hz k hk).2 hg.size⟩, h.hy⟩
theorem left_sameI {w w' : World} {b r : Nat} (hb : w'.heap[b]? = w.heap[b]?) (hr : w'.heap[r]? = w.heap[r]?) : w'.rangeLeft b r = w.rangeLeft b r := by
 unfold World.rangeLeft
 rw [hb, hr]
abbrev Mu := Bs × Value × Y × Y
set_option maxHeartbeats 6400000 in
set_option maxRecDepth 100000 in
theorem itp_map {g : List (Bs × BA)} (us : List Mu) (hul : us.length ≤ 1759218604400) (b : Nat) (path : BA) (cb mb : Nat) (w : World) (hm : MapA w b (us.map (fun u => (u.1, u.2.1)))) (hz : ∀ u, u ∈ us → ∃ F, AR w u.2.1 u.2.2.1 F) (hch : ∀ u, u ∈ us → ItpAt g u.2.2.1 u.2.2.2)
  (hv : ∀ u, u ∈ us → path.size + 1 + 4 * u.1.length + 10 * volY u.2.2.1 ≤ 1099511627776) (hp : path.size ≤ 4398046511104) (hO : OptsAt g w cb mb) :
  Calls Tryz.prog 46 #[.iface 71 (.map (some b)), .string path, .agg #[envF cb, .map (some mb), subF]] w (ItpMade w (.map (us.map (fun u => (u.1, u.2.2.2))))) := by
 have f1 := i_map_str; have f2 := i_map_map; have HRI := aM ((rises_map (fun p : Value × Y × Y => p.1)).1 (MapE.rises (Go.Maps.string_keyed akey_u) hm)); have HZ := aM hz; have HCH := aM hch; have HVV := aM hv; have HOO := aM hO; have hbx := za (Below.refl w.heap.size w) (.cells #[envF cb, .map (some mb), subF] 82); have hb0 := za hbx (.map #[] 0); have hx0 : ((w.alloc (.cells #[envF cb, .map (some mb), subF] 82)).alloc (.map #[] 0)).heap[w.heap.size]? = some (.cells #[envF cb, .map (some mb), subF] 82 (0, 0)) := ze (yk _ _) _; have hm0 := MapAt.made (w.alloc (.cells #[envF cb, .map (some mb), subF] 82)); rw [World.size_alloc] at hm0
 have hs0 : ((w.alloc (.cells #[envF cb, .map (some mb), subF] 82)).alloc (.map #[] 0)).heap.size = w.heap.size + 2 := by simp only [World.size_alloc]
 have hmm := hm.below hb0; have hblt := hm.lt; have hmk := @run_makeMap Tryz.prog; clear hz hch hv hO hbx hm
 go_enter Tryz.func46, Tryz.ntmps46
 go_wp2_with (at_range; generalize (w.alloc (.cells #[envF cb, .map (some mb), subF] 82)).alloc (.map #[] 0) = W1 at hb0 hx0 hm0 hs0 hmm ⊢; refine range_mapE (enc := (id : Value → Value)) akey_u amap_u rfl _ rfl rfl hmm ?_; intro w0 hrg0 hg0 hs1; have HR0 := aM hrg0; have HG0 := aM hg0; clear hrg0 hg0)
 go_frame
 have HS0 := aM hs0; have HB0 := aM (zm hb0 none hb0.size HG0.out (fun k hk => by cases hk)); have HX0 := aM ((HG0.out.block w.heap.size (by omega) (by simp)).trans hx0); have HM0 := aM (hm0.move (zm (Below.refl W1.heap.size W1) none (Nat.le_refl _) HG0.out (fun k hk => by cases hk))); have HT0 := aM (MovedTo.start (fun p : Value × Y × Y => p.2.2) (fun p : Value × Y × Y => p.1) us); have HRF := aM ((rises_map (fun p : Value × Y × Y => p.2.2)).2 HRI.out); clear hb0 hx0 hm0 hmm HG0; rw [hs0] at HR0; generalize hr0 : W1.heap.size = r at *; subst hs0
 go_loopw [17, 18, 19, 20, 16] (fun v17 v18 v19 v20 v16 wr => ∃ (zs : List (Bs × En)) (m : List (Bs × Y)) (lf : List (Bs × Value)), v16 = .slice none 0 0 ∧ Aside0 (Ranges Tryz.prog 9 (id : Value → Value) wr b (w.heap.size + 2) (us.map (fun u => (u.1, u.2.1))) lf) ∧ Aside0 (MapAt wr (w.heap.size + 1) zs m ∧ ∀ z, z ∈ zs → ∀ k, z.2.2.2 k → w.heap.size + 2 < k) ∧ Aside0 (MovedTo (us.map (fun u => (u.1, u.2.2.2))) lf m) ∧ Aside0 (Below w.heap.size w wr) ∧ Aside0 (wr.heap[w.heap.size]? = some (.cells #[envF cb, .map (some mb), subF] 82 (0, 0)))) (fun _ _ _ _ _ wr => wr.rangeLeft b (w.heap.size + 2))
 case atStart => exact ⟨[], [], _, rfl, HR0, ⟨HM0.out, fun z h => by cases h⟩, HT0, HB0, HX0⟩
 case round =>
  clear HR0 HM0 HT0 HB0 HX0; obtain ⟨zs, m, lf, rfl, HR, HM, HT, HB, HX⟩ := hrel; have hwl := HB.out.size; have hrl := HR.out.lt
  go_wp2_with (at_next; refine next_mapA akey_u rfl _ rfl rfl HR.out (fun hd => ?_) (fun x c w2 hx hen => ?_); rotate_left; (have HB2 := aM (zm HB.out (some (w.heap.size + 2)) HB.out.size hx.out.2.2.2.2.1 (fun k hk => by have := Option.some.inj hk; omega))))
  ·obtain ⟨u, hu, hue⟩ := List.mem_map.1 (HR.out.sub.subset hx.out.1); have HU1 := aM (show u.1 = lb x from congrArg Prod.fst hue); have HU2 := aM (show u.2.1 = c from congrArg Prod.snd hue); have HMG := aM (show mget (us.map (fun u => (u.1, u.2.2.2))) (lb x) = some u.2.2.2 from vu HRF.out (List.mem_map.2 ⟨u, hu, by rw [HU1.out]⟩)); have hvv := HVV.out u hu; rw [HU1.out, yd] at hvv
   have hxs : x.size ≤ 4398046511104 := by omega
   have CA := aM (fun (W : World) (hb : Below w.heap.size w W) (q : BA) (hq : q.size ≤ path.size + 1 + 4 * x.size) => by
    obtain ⟨F, hF⟩ := HZ.out u hu; have := HCH.out u hu u.2.1 _ W q cb mb (hF.keep hb) (by omega) (HOO.out.below hb); rw [HU2.out] at this
    exact this)
   have hsz2 := hx.out.2.2.2.2.2; have HX2 := aM ((hx.out.2.2.2.2.1.block w.heap.size (by omega) (fun e => by have := Option.some.inj e; omega)).trans HX.out); have HM2 := aM (HM.out.1.kept hx.out.2.2.2.2.1 (by omega) HM.out.2); have HT2 := aM (HT.out.put hx.out.1 HMG.out); have hks : x.size ≤ maxLen := hx.out.2.1; have HXX := aM hx; generalize u.2.2.2 = yy at CA HT2 HMG; clear hue hu hvv HU1 HU2 HMG; have hx5 : w2.drew.heap[w.heap.size]? = some (.cells #[envF cb, .map (some mb), subF] 82 (0, 0)) := HX2.out; have c0 := zn (i := 0) hx5 rfl; have c1 := zn (i := 1) hx5 rfl; have c2 := zn (i := 2) hx5 rfl; clear hx5 hx; refine xb (n := 11) (S := fun w' => w'.cell? ⟨w.heap.size, 0, none⟩ = some (envF cb) ∧ w'.cell? ⟨w.heap.size, 1, none⟩ = some (.map (some mb)) ∧ w'.cell? ⟨w.heap.size, 2, none⟩ = some subF) (ds := [5]) (bZ 11 0) (by kernel_rfl) rfl rfl ⟨c0, c1, c2⟩ (fun hHeld => ?_); refine pU 0 (some 85) (bZ 11 1) rfl (by kernel_rfl) ?_; refine pU 1 (some 86) (bZ 11 3) rfl (by kernel_rfl) ?_; refine pU 2 (some 87) (bZ 11 7) rfl (by kernel_rfl) ?_; refine tU 4 (some 89) (bZ 11 23) rfl (by kernel_rfl) (Or.inl ⟨by rfl, by rintro w' ⟨s0, s1, s2⟩; go_simp; with_reducible rfl⟩) hHeld ?_; refine one_ (i := 3) (N := some 88) (bZ 11 31) rfl rfl (by kernel_rfl) (by decide) (fun K hK => ?_); refine vn Tryz.func67 (by kernel_rfl) rfl #[.string path, .string x] (by rfl) rfl rfl (by simp only [List.map_toArray, List.map_cons, List.map_nil]; rfl) ?_
   with_reducible refine (next_any path x w2.drew hp hxs).mono ?_
   rintro e w3 ⟨q, rfl, hq, hb3⟩; refine ⟨_, rfl, ?_⟩; have HB3 := aM hb3; have HQ := aM hq; refine hK.out _ _ ⟨zf hb3 hHeld.1, zf hb3 hHeld.2.1, zf hb3 hHeld.2.2⟩ (fun hHeld => ?_); clear hK K; refine zq (a' := ?_) ?_ ?_; rotate_left
   ·show Act.put _ (some 88) _ = _
    simp only [Act.put, sA, sB, sC, zo, zt]; rfl
   refine xg (i := 5) (N := some 90) (bZ 11 63) rfl rfl (by kernel_rfl) (by decide) (fun K hK => ?_); refine vn Tryz.func46 (by kernel_rfl) rfl #[c, .string q, .agg #[envF cb, .map (some mb), subF]] (by rfl) rfl rfl (by simp only [List.map_toArray, List.map_cons, List.map_nil]; rfl) ?_
   with_reducible refine (CA.out w3 (yb (zr HB2.out) HB3.out) q HQ.out).mono ?_
   rintro e w4 ⟨v4, rfl, ha4, hb4⟩; refine ⟨_, rfl, ?_⟩; have HB4 := aM (yb HB3.out hb4); have HA4 := aM (ha4.mono (fun k hk => (⟨Nat.le_trans HB3.out.size hk.1, hk.2⟩ : w2.heap.size ≤ k ∧ k < w4.heap.size))); clear ha4; refine hK.out _ _ ?_; clear hK K; refine zq (a' := ?_) ?_ ?_; rotate_left
   ·show Act.put _ (some 90) _ = _
    simp only [Act.put, sA, sB, sC, zo, zt]; rfl
   refine pU 6 (some 84) (bZ 11 127) rfl (by kernel_rfl) ?_; refine pU 7 (some 91) (bZ 11 255) rfl (by kernel_rfl) ?_; refine pU 8 (some 92) (bZ 11 511) rfl (by kernel_rfl) ?_; refine pU 9 (some 19) (bZ 11 1023) rfl (by kernel_rfl) ?_; refine pU 10 (some 20) (bZ 11 2047) rfl (by kernel_rfl) ?_; refine xl (by kernel_rfl) ?_; have hbb := yb (zr (Below.refl w2.heap.size w2)) HB4.out; have HB5 := aM hbb; have HX5 := aM ((hbb.block _ (yc HX2.out)).trans HX2.out)
   have hml : (zs.map (fun z => (z.1, z.2.1))).length < maxLen := by
    rw [HM.out.1.length]; have h1 := HT.out.2.1; rw [List.length_map] at h1
    unfold maxLen
    omega
   have HM5 := aM (HM2.out.move hbb).hm; clear hbb hb4 c0 c1 c2
   try clear hHeld
   go_wp2_with (at_mapUpdate; refine store_mapE (enc := (id : Value → Value)) (y := v4) akey_u amap_u rfl _ _ _ rfl rfl HM5.out hml rfl hks rfl ?_; intro w5 hm5 hg5; have HM6 := aM hm5; have HG6 := aM hg5; clear hm5 hg5)
   simp only [Act.put]
   go_roundw
   case rel =>
    have hr2 := (HXX.out.out.2.2.1.below HB5.out).kept HG6.out (fun e => by have := Option.some.inj e; omega) (fun e => by have := Option.some.inj e; omega); have hmp := HM2.out.put HB5.out HA4.out (lb x) HM6.out HG6.out; refine ⟨_, _, _, rfl, ⟨hr2⟩, ⟨hmp, fun z hz k hk => ?_⟩, HT2, ⟨?_⟩, ⟨?_⟩⟩
    ·rcases mput_mem hz with rfl | hz
     ·have h1 : w2.heap.size ≤ k := hk.1
      omega
     ·exact HM.out.2 z hz k hk
    ·have hb6 := yb HB2.out HB5.out; exact zm hb6 _ hb6.size HG6.out (fun k hk => by have := Option.some.inj hk; omega)
    ·exact (HG6.out.block _ (yc HX5.out) (fun e => by have := Option.some.inj e; omega)).trans HX5.out
   case measure =>
    have e1 := left_sameI (b := b) (r := w.heap.size + 2) (w := w2) (w' := w5) ?_ ?_
    ·rw [e1]; exact HXX.out.out.2.2.2.1
    ·exact (HG6.out.block b (by have := HB5.out.size; omega) (fun e => by have := Option.some.inj e; omega)).trans (HB5.out.block b (by omega))
    ·exact (HG6.out.block _ (by have := HB5.out.size; omega) (fun e => by have := Option.some.inj e; omega)).trans (HB5.out.block _ (by omega))
  ·have HY := aM (MovedTo.done (β := Value) (by rw [← hd.out]; exact HT.out) HRF.out)
   go_wp2_with fail
   refine (joinErrors_none _).mono ?_; rintro e w7 ⟨rfl, hb7⟩; have HB7 := aM hb7; clear hb7
   go_wp2
   go_ret2
   refine ⟨_, rfl, ?_, yb HB.out HB7.out⟩; rw [← HY.out]; exact ((HM.out.1.move HB7.out).done).mono (fun k hk => ⟨by have := hk.1; omega, hk.2⟩)
end Go.Proofs.YtjcffojiacgocaaGreatDoor.Tr
namespace Go.Proofs.YtjcffojiacgocaaGreatDoor.Tr
open Go.RowKit Go.Proofs.YtjcffojiacgocaaGreatDoorW.PrintWords Go.Proofs.YtjcffojiacgocaaGreatDoorW.PrintLast Go.Proofs.YtjcffojiacgocaaGreatDoor.Str Go.Proofs.YtjcffojiacgocaaGreatDoor.Kit Go.Proofs.YtjcffojiacgocaaGreatDoor.MapV Go.Proofs.YtjcffojiacgocaaGreatDoor.Frame Go.Proofs.YtjcffojiacgocaaGreatDoor.PS
open Go.Proofs.YtjcffojiacgocaaGreatDoor.Tr.Sb (Rw Repl EnvAt envF)
open Go.Proofs.YtjcffojiacgocaaGreatDoor.Mount (newPath_oneD)
theorem casts_some (b : Nat) (w : World) : (binOp BinOp.eql 65 (.map (some b)) (.map none)).run Tryz.prog w = .ok (.bool false) w := by kernel_rfl
theorem subst_nil (w : World) : (binOp BinOp.eql 80 .nilFunc .nilFunc).run Tryz.prog w = .ok (.bool true) w := by kernel_rfl
set_option maxHeartbeats 6400000 in
set_option maxRecDepth 100000 in
theorem itp_top {g : List (Bs × BA)} (us : List Mu) (hul : us.length ≤ 1759218604400) (b : Nat)  (cb mb : Nat) (w : World) (hm : MapA w b (us.map (fun u => (u.1, u.2.1)))) (hz : ∀ u, u ∈ us → ∃ F, AR w u.2.1 u.2.2.1 F) (hch : ∀ u, u ∈ us → ItpAt g u.2.2.1 u.2.2.2)
  (hv : ∀ u, u ∈ us → u.1.length + 10 * volY u.2.2.1 ≤ 1099511627776) (hO : OptsAt g w cb mb) :
  Calls Tryz.prog 31 #[.map (some b), .agg #[envF cb, .map (some mb), .nilFunc]] w fun e w' => ∃ ob, e = .returned (.tuple #[.map (some ob), .nilIface]) ∧ AR w' (.iface 71 (.map (some ob))) (.map (us.map (fun u => (u.1, u.2.2.2)))) (fun k => w.heap.size ≤ k ∧ k < w'.heap.size) ∧ Below w.heap.size w w' := by
 have f1 := casts_some; have f2 := subst_nil; have HRI := aM ((rises_map (fun p : Value × Y × Y => p.1)).1 (MapE.rises (Go.Maps.string_keyed akey_u) hm)); have HZ := aM hz; have HCH := aM hch; have HVV := aM hv; have HOO := aM hO; have hbx := za (Below.refl w.heap.size w) (.cells #[envF cb, .map (some mb), subF] 82); have hb0 := za hbx (.map #[] 0); have hx0 : ((w.alloc (.cells #[envF cb, .map (some mb), subF] 82)).alloc (.map #[] 0)).heap[w.heap.size]? = some (.cells #[envF cb, .map (some mb), subF] 82 (0, 0)) := ze (yk _ _) _; have hm0 := MapAt.made (w.alloc (.cells #[envF cb, .map (some mb), subF] 82)); rw [World.size_alloc] at hm0
 have hs0 : ((w.alloc (.cells #[envF cb, .map (some mb), subF] 82)).alloc (.map #[] 0)).heap.size = w.heap.size + 2 := by simp only [World.size_alloc]
 have hmm := hm.below hb0; have hblt := hm.lt; have y2 : (w.alloc (.cells #[envF cb, .map (some mb), .nilFunc] 82)).cell? ⟨w.heap.size, 2, none⟩ = some .nilFunc := zn (i := 2) (yk w _) rfl; have y3 := xq (i := 2) (yk w (.cells #[envF cb, .map (some mb), .nilFunc] 82)); have hmk := @run_makeMap Tryz.prog; clear hz hch hv hO hbx hm
 go_enter Tryz.func31, Tryz.ntmps31
 go_wp2_with (at_range; generalize (w.alloc (.cells #[envF cb, .map (some mb), subF] 82)).alloc (.map #[] 0) = W1 at hb0 hx0 hm0 hs0 hmm ⊢; refine range_mapE (enc := (id : Value → Value)) akey_u amap_u rfl _ rfl rfl hmm ?_; intro w0 hrg0 hg0 hs1; clear y2 y3; have HR0 := aM hrg0; have HG0 := aM hg0; clear hrg0 hg0)
 go_frame
 have HS0 := aM hs0; have HB0 := aM (zm hb0 none hb0.size HG0.out (fun k hk => by cases hk)); have HX0 := aM ((HG0.out.block w.heap.size (by omega) (by simp)).trans hx0); have HM0 := aM (hm0.move (zm (Below.refl W1.heap.size W1) none (Nat.le_refl _) HG0.out (fun k hk => by cases hk))); have HT0 := aM (MovedTo.start (fun p : Value × Y × Y => p.2.2) (fun p : Value × Y × Y => p.1) us); have HRF := aM ((rises_map (fun p : Value × Y × Y => p.2.2)).2 HRI.out); clear hb0 hx0 hm0 hmm HG0; rw [hs0] at HR0; generalize hr0 : W1.heap.size = r at *; subst hs0
 go_loopw [8, 9, 10, 11, 7] (fun v17 v18 v19 v20 v16 wr => ∃ (zs : List (Bs × En)) (m : List (Bs × Y)) (lf : List (Bs × Value)), v16 = .slice none 0 0 ∧ Aside0 (Ranges Tryz.prog 9 (id : Value → Value) wr b (w.heap.size + 2) (us.map (fun u => (u.1, u.2.1))) lf) ∧ Aside0 (MapAt wr (w.heap.size + 1) zs m ∧ ∀ z, z ∈ zs → ∀ k, z.2.2.2 k → w.heap.size + 2 < k) ∧ Aside0 (MovedTo (us.map (fun u => (u.1, u.2.2.2))) lf m) ∧ Aside0 (Below w.heap.size w wr) ∧ Aside0 (wr.heap[w.heap.size]? = some (.cells #[envF cb, .map (some mb), subF] 82 (0, 0)))) (fun _ _ _ _ _ wr => wr.rangeLeft b (w.heap.size + 2))
 case atStart => exact ⟨[], [], _, rfl, HR0, ⟨HM0.out, fun z h => by cases h⟩, HT0, HB0, HX0⟩
 case round =>
  clear HR0 HM0 HT0 HB0 HX0; obtain ⟨zs, m, lf, rfl, HR, HM, HT, HB, HX⟩ := hrel; have hwl := HB.out.size; have hrl := HR.out.lt
  go_wp2_with (at_next; refine next_mapA akey_u rfl _ rfl rfl HR.out (fun hd => ?_) (fun x c w2 hx hen => ?_); rotate_left; (have HB2 := aM (zm HB.out (some (w.heap.size + 2)) HB.out.size hx.out.2.2.2.2.1 (fun k hk => by have := Option.some.inj hk; omega))))
  ·obtain ⟨u, hu, hue⟩ := List.mem_map.1 (HR.out.sub.subset hx.out.1); have HU1 := aM (show u.1 = lb x from congrArg Prod.fst hue); have HU2 := aM (show u.2.1 = c from congrArg Prod.snd hue); have HMG := aM (show mget (us.map (fun u => (u.1, u.2.2.2))) (lb x) = some u.2.2.2 from vu HRF.out (List.mem_map.2 ⟨u, hu, by rw [HU1.out]⟩)); have hvv := HVV.out u hu; rw [HU1.out, yd] at hvv
   have hxs : x.size ≤ 4398046511104 := by omega
   have CA := aM (fun (W : World) (hb : Below w.heap.size w W) (q : BA) (hq : q.size ≤ x.size) => by
    obtain ⟨F, hF⟩ := HZ.out u hu; have := HCH.out u hu u.2.1 _ W q cb mb (hF.keep hb) (by omega) (HOO.out.below hb); rw [HU2.out] at this
    exact this)
   have hsz2 := hx.out.2.2.2.2.2; have HX2 := aM ((hx.out.2.2.2.2.1.block w.heap.size (by omega) (fun e => by have := Option.some.inj e; omega)).trans HX.out); have HM2 := aM (HM.out.1.kept hx.out.2.2.2.2.1 (by omega) HM.out.2); have HT2 := aM (HT.out.put hx.out.1 HMG.out); have hks : x.size ≤ maxLen := hx.out.2.1; have HXX := aM hx; generalize u.2.2.2 = yy at CA HT2 HMG; clear hue hu hvv HU1 HU2 HMG; have hx5 : w2.drew.heap[w.heap.size]? = some (.cells #[envF cb, .map (some mb), subF] 82 (0, 0)) := HX2.out; have c0 := zn (i := 0) hx5 rfl; have c1 := zn (i := 1) hx5 rfl; have c2 := zn (i := 2) hx5 rfl; clear hx5 hx; refine xb (n := 11) (S := fun w' => w'.cell? ⟨w.heap.size, 0, none⟩ = some (envF cb) ∧ w'.cell? ⟨w.heap.size, 1, none⟩ = some (.map (some mb)) ∧ w'.cell? ⟨w.heap.size, 2, none⟩ = some subF) (ds := [5]) (bZ 11 0) (by kernel_rfl) rfl rfl ⟨c0, c1, c2⟩ (fun hHeld => ?_); refine pU 0 (some 30) (bZ 11 1) rfl (by kernel_rfl) ?_; refine pU 1 (some 31) (bZ 11 3) rfl (by kernel_rfl) ?_; refine tU 4 (some 34) (bZ 11 19) rfl (by kernel_rfl) (Or.inl ⟨by rfl, by rintro w' ⟨s0, s1, s2⟩; go_simp; with_reducible rfl⟩) hHeld ?_; refine one_ (i := 2) (N := some 32) (bZ 11 23) rfl rfl (by kernel_rfl) (by decide) (fun K hK => ?_); refine yp (w1 := ?_) (v := ?_) (by rfl) rfl ?_ ?_; rotate_left 2
   ·go_simp; constructor
    ·rfl
    ·rfl
   refine hK.out _ _ ⟨zf (za (Below.refl _ _) _) hHeld.1, zf (za (Below.refl _ _) _) hHeld.2.1, zf (za (Below.refl _ _) _) hHeld.2.2⟩ (fun hHeld => ?_); clear hK K; refine zq (a' := ?_) ?_ ?_; rotate_left
   ·show Act.put _ (some 32) _ = _
    simp only [Act.put, sA, sB, sC, zo, zt]; rfl
   refine one_ (i := 3) (N := some 33) (bZ 11 31) rfl rfl (by kernel_rfl) (by decide) (fun K hK => ?_); refine vn Tryz.func47 (by kernel_rfl) rfl #[.slice (some ⟨wr.heap.size, 0, none⟩) 1 1] (by rfl) rfl rfl (by simp only [List.map_toArray, List.map_cons, List.map_nil]; rfl) ?_
   with_reducible refine (newPath_oneD x w2 wr.heap.size hsz2.symm hxs).mono ?_
   rintro e w3 ⟨rfl, hb3⟩; refine ⟨_, rfl, ?_⟩; have HB3 := aM (yb (zr (za (Below.refl w2.heap.size w2) (.cells #[.string x] 9))) hb3); refine hK.out _ _ ⟨zf hb3 hHeld.1, zf hb3 hHeld.2.1, zf hb3 hHeld.2.2⟩ (fun hHeld => ?_); clear hK K; refine zq (a' := ?_) ?_ ?_; rotate_left
   ·show Act.put _ (some 33) _ = _
    simp only [Act.put, sA, sB, sC, zo, zt]; rfl
   refine xg (i := 5) (N := some 35) (bZ 11 63) rfl rfl (by kernel_rfl) (by decide) (fun K hK => ?_); refine vn Tryz.func46 (by kernel_rfl) rfl #[c, .string x, .agg #[envF cb, .map (some mb), subF]] (by rfl) rfl rfl (by simp only [List.map_toArray, List.map_cons, List.map_nil]; rfl) ?_
   with_reducible refine (CA.out w3 (yb HB2.out HB3.out) x (Nat.le_refl _)).mono ?_
   rintro e w4 ⟨v4, rfl, ha4, hb4⟩; refine ⟨_, rfl, ?_⟩; have HB4 := aM (yb HB3.out hb4); have HA4 := aM (ha4.mono (fun k hk => (⟨Nat.le_trans HB3.out.size hk.1, hk.2⟩ : w2.heap.size ≤ k ∧ k < w4.heap.size))); clear ha4; refine hK.out _ _ ?_; clear hK K; refine zq (a' := ?_) ?_ ?_; rotate_left
   ·show Act.put _ (some 35) _ = _
    simp only [Act.put, sA, sB, sC, zo, zt]; rfl
   refine pU 6 (some 29) (bZ 11 127) rfl (by kernel_rfl) ?_; refine pU 7 (some 36) (bZ 11 255) rfl (by kernel_rfl) ?_; refine pU 8 (some 37) (bZ 11 511) rfl (by kernel_rfl) ?_; refine pU 9 (some 10) (bZ 11 1023) rfl (by kernel_rfl) ?_; refine pU 10 (some 11) (bZ 11 2047) rfl (by kernel_rfl) ?_; refine xl (by kernel_rfl) ?_; have hbb := HB4.out; have HB5 := aM hbb; have HX5 := aM ((hbb.block _ (yc HX2.out)).trans HX2.out)
   have hml : (zs.map (fun z => (z.1, z.2.1))).length < maxLen := by
    rw [HM.out.1.length]; have h1 := HT.out.2.1; rw [List.length_map] at h1
    unfold maxLen
    omega
   have HM5 := aM (HM2.out.move hbb).hm; clear hbb hb4 c0 c1 c2
   try clear hHeld
   go_wp2_with (at_mapUpdate; refine store_mapE (enc := (id : Value → Value)) (y := v4) akey_u amap_u rfl _ _ _ rfl rfl HM5.out hml rfl hks rfl ?_; intro w5 hm5 hg5; have HM6 := aM hm5; have HG6 := aM hg5; clear hm5 hg5)
   simp only [Act.put]
   go_roundw
   case rel =>
    have hr2 := (HXX.out.out.2.2.1.below HB5.out).kept HG6.out (fun e => by have := Option.some.inj e; omega) (fun e => by have := Option.some.inj e; omega); have hmp := HM2.out.put HB5.out HA4.out (lb x) HM6.out HG6.out; refine ⟨_, _, _, rfl, ⟨hr2⟩, ⟨hmp, fun z hz k hk => ?_⟩, HT2, ⟨?_⟩, ⟨?_⟩⟩
    ·rcases mput_mem hz with rfl | hz
     ·have h1 : w2.heap.size ≤ k := hk.1
      omega
     ·exact HM.out.2 z hz k hk
    ·have hb6 := yb HB2.out HB5.out; exact zm hb6 _ hb6.size HG6.out (fun k hk => by have := Option.some.inj hk; omega)
    ·exact (HG6.out.block _ (yc HX5.out) (fun e => by have := Option.some.inj e; omega)).trans HX5.out
   case measure =>
    have e1 := left_sameI (b := b) (r := w.heap.size + 2) (w := w2) (w' := w5) ?_ ?_
    ·rw [e1]; exact HXX.out.out.2.2.2.1
    ·exact (HG6.out.block b (by have := HB5.out.size; omega) (fun e => by have := Option.some.inj e; omega)).trans (HB5.out.block b (by omega))
    ·exact (HG6.out.block _ (by have := HB5.out.size; omega) (fun e => by have := Option.some.inj e; omega)).trans (HB5.out.block _ (by omega))
  ·have HY := aM (MovedTo.done (β := Value) (by rw [← hd.out]; exact HT.out) HRF.out)
   go_wp2_with fail
   refine (joinErrors_none _).mono ?_; rintro e w7 ⟨rfl, hb7⟩; have HB7 := aM hb7; clear hb7
   go_wp2
   go_ret2
   refine ⟨_, rfl, ?_, yb HB.out HB7.out⟩; rw [← HY.out]; exact ((HM.out.1.move HB7.out).done).mono (fun k hk => ⟨by have := hk.1; omega, hk.2⟩)
theorem pair_up {α β γ : Type} (f : α → γ) (g : β → γ) : ∀ (l : List α) (m : List β), l.map f = m.map g → ∃ us : List (α × β), us.map (fun u => u.1) = l ∧ us.map (fun u => u.2) = m ∧ ∀ u, u ∈ us → f u.1 = g u.2
 | [], [], _ => ⟨[], rfl, rfl, fun u h => by cases h⟩
 | [], _ :: _, h => by simp at h
 | _ :: _, [], h => by simp at h
 | a :: l, b :: m, h => by
  simp only [List.map_cons, List.cons.injEq] at h; obtain ⟨us, h1, h2, h3⟩ := pair_up f g l m h.2; refine ⟨(a, b) :: us, by simp [h1], by simp [h2], fun u hu => ?_⟩
  rcases List.mem_cons.1 hu with rfl | hu
  ·exact h.1
  ·exact h3 u hu
theorem itp_all {P : BA → BA → Prop} {g : List (Bs × BA)} (hP : Repl P g) {y y' : Y} (h : IY P y y') (hb : volY y ≤ 4194304) : ItpAt g y y' := by
 induction h with
 | null => intro v F w path cb mb ha hs hO; cases ha; exact itp_leaf _ _ (fun _ _ => .null _) i_nil_str i_nil_map i_nil_lst path _ _ _ w
 | bool b => intro v F w path cb mb ha hs hO; cases ha; exact itp_leaf _ _ (fun _ _ => .bool _ _) (i_bool_str _) (i_bool_map _) (i_bool_lst _) path _ _ _ w
 | int n => intro v F w path cb mb ha hs hO; cases ha; exact itp_leaf _ _ (fun _ _ => .int _ _) (i_int_str _) (i_int_map _) (i_int_lst _) path _ _ _ w
 | text s out hs ho hr => intro v F w path cb mb ha hs2 hO; cases ha; exact itp_text hP s out hs ho hr path cb mb w hO
 | list l h ih =>
  intro v F w path cb mb ha hs hO
  cases ha with
  | list v zs _ _ hy hr hz hd hbb hF =>
   obtain ⟨A, c, rfl⟩ := Kd.R_slice hr; obtain ⟨hn, hc, hC⟩ := Kd.R_reads' hr; rw [List.length_map] at hC hn ⊢; simp only [volY] at hs hb; have hvl := volYl_len (l.map (fun p => p.1)); rw [List.length_map] at hvl; obtain ⟨us, e1, e2, e3⟩ := pair_up (fun z : En => z.2.1) (fun p : Y × Y => p.1) zs l hy.symm
   have hlen : us.length = zs.length := by rw [← e1, List.length_map]
   have hlen2 : us.length = l.length := by rw [← e2, List.length_map]
   have key := itp_list (g := g) (us.map (fun u => ((u.1.1, u.2.1, u.2.2) : Lu))) (by rw [List.length_map]; omega) A c path cb mb w (by rw [List.length_map, hlen, List.map_map]; rw [← e1, List.map_map] at hC; rw [← hlen]; simpa [Function.comp_def, hlen] using hC)
    (fun q hq => by obtain ⟨u, hu, rfl⟩ := List.mem_map.1 hq; exact ⟨u.1.2.2, by have := hz u.1 (by rw [← e1]; exact List.mem_map.2 ⟨u, hu, rfl⟩); rw [e3 u hu] at this; exact this⟩)
    (fun q hq => by obtain ⟨u, hu, rfl⟩ := List.mem_map.1 hq; exact ih u.2 (by rw [← e2]; exact List.mem_map.2 ⟨u, hu, rfl⟩) (by have := volYl_mem (l := l.map (fun p => p.1)) (List.mem_map.2 ⟨u.2, by rw [← e2]; exact List.mem_map.2 ⟨u, hu, rfl⟩, rfl⟩); omega))
    (fun q hq => by obtain ⟨u, hu, rfl⟩ := List.mem_map.1 hq; have := volYl_mem (l := l.map (fun p => p.1)) (List.mem_map.2 ⟨u.2, by rw [← e2]; exact List.mem_map.2 ⟨u, hu, rfl⟩, rfl⟩); show path.size + 9 + 10 * volY u.2.1 ≤ _; omega)
    (by omega) hO
   rw [List.length_map, hlen, List.map_map] at key
   have e4 : us.map ((fun u : Lu => u.2.2) ∘ fun u : En × (Y × Y) => ((u.1.1, u.2.1, u.2.2) : Lu)) = l.map (fun p => p.2) := by rw [← e2, List.map_map]; rfl
   rw [e4] at key; exact key
 | map m h ih =>
  intro v F w path cb mb ha hs hO
  cases ha with
  | map b zs _ _ hy hm hz hd hbb hF =>
   simp only [volY] at hs hb; have hvl := volYm_len (m.map (fun p => (p.1, p.2.1))); rw [List.length_map] at hvl; obtain ⟨us, e1, e2, e3⟩ := pair_up (fun z : Bs × En => (z.1, z.2.2.1)) (fun p : Bs × Y × Y => (p.1, p.2.1)) zs m hy.symm
   have hlen2 : us.length = m.length := by rw [← e2, List.length_map]
   have hmem : ∀ u, u ∈ us → u.1.1.length + volY u.2.2.1 ≤ volYm (m.map (fun p => (p.1, p.2.1))) := fun u hu => by
    have h1 := volYm_mem (List.mem_map.2 ⟨u.2, by rw [← e2]; exact List.mem_map.2 ⟨u, hu, rfl⟩, rfl⟩ : (u.2.1, u.2.2.1) ∈ m.map (fun p => (p.1, p.2.1))); have h2 := congrArg Prod.fst (e3 u hu); simp only at h1 h2; rw [h2]; exact h1
   have key := itp_map (g := g) (us.map (fun u => ((u.1.1, u.1.2.1, u.2.2.1, u.2.2.2) : Mu))) (by rw [List.length_map]; omega) b path cb mb w (by rw [← e1, List.map_map] at hm; rw [List.map_map]; exact hm)
    (fun q hq => by obtain ⟨u, hu, rfl⟩ := List.mem_map.1 hq; exact ⟨u.1.2.2.2, by have := hz u.1 (by rw [← e1]; exact List.mem_map.2 ⟨u, hu, rfl⟩); have h2 := congrArg Prod.snd (e3 u hu); simp only at h2; rw [h2] at this; exact this⟩)
    (fun q hq => by obtain ⟨u, hu, rfl⟩ := List.mem_map.1 hq; exact ih u.2 (by rw [← e2]; exact List.mem_map.2 ⟨u, hu, rfl⟩) (by have := hmem u hu; omega))
    (fun q hq => by obtain ⟨u, hu, rfl⟩ := List.mem_map.1 hq; have := hmem u hu; show path.size + 1 + 4 * u.1.1.length + 10 * volY u.2.2.1 ≤ _; omega)
    (by omega) hO
   rw [List.map_map] at key
   have e4 : us.map ((fun u : Mu => (u.1, u.2.2.2)) ∘ fun u : (Bs × En) × (Bs × Y × Y) => ((u.1.1, u.1.2.1, u.2.2.1, u.2.2.2) : Mu)) = m.map (fun p => (p.1, p.2.2)) := by
    rw [← e2, List.map_map]; refine List.map_congr_left (fun u hu => ?_); have h2 := congrArg Prod.fst (e3 u hu); simp only at h2; simp only [Function.comp_apply, h2]
   rw [e4] at key; exact key
end Go.Proofs.YtjcffojiacgocaaGreatDoor.Tr
