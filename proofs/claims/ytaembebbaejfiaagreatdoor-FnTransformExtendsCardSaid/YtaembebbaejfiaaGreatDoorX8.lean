/- Parts of the proof, laid together: QSpecSame, PureSame, Gives, SpecMGA, QSpecSayName, QSpecSayNames, QSpecSayDigits, QSpecSayAddress. -/
import Derived.Test.YtaembebbaejfiaaGreatDoorX3
import Derived.Test.YtaembebbaejfiaaGreatDoorX2
import Derived.Test.YtaembebbaejfiaaGreatDoorX7
import Derived.Test.YtaembebbaejfiaaGreatDoorX5
namespace Go.Proofs.YtaembebbaejfiaaGreatDoor.PS
open Go.RowKit Go.Proofs.YtaembebbaejfiaaGreatDoorW.PrintWords Go.Proofs.YtaembebbaejfiaaGreatDoorW.PrintLast Go.Proofs.YtaembebbaejfiaaGreatDoorW.PrintMore
attribute [local go_sem] max2_int min2_int max_two min_two max_three min_three max_four min_four 
set_option linter.unusedVariables false
set_option linter.unusedSimpArgs false
mutual
def spec_Same.j0 : Nat → Bool → Int → Int → ByteArray → List ByteArray → List (S25) → Int → Int → ByteArray → List ByteArray → List (S25) → Option (Bool)
 | 0, _, _, _, _, _, _, _, _, _, _, _ => none
 | k + 1, x43, x535000, x535001, x535002, x535003, x535004, x536000, x536001, x536002, x536003, x536004 => if x43 = true then (some false) else (spec_Same.l0 k 0 x535000 x535001 x535002 x535003 x535004 x536000 x536001 x536002 x536003 x536004)
def spec_Same.l0 : Nat → Int → Int → Int → ByteArray → List ByteArray → List (S25) → Int → Int → ByteArray → List ByteArray → List (S25) → Option (Bool)
 | 0, _, _, _, _, _, _, _, _, _, _, _ => none
 | k + 1, x5, x535000, x535001, x535002, x535003, x535004, x536000, x536001, x536002, x536003, x536004 => if x5 < (x535003.length : Int) then (if 0 ≤ x5 then (if x5 < (x536003.length : Int) then (if (rdOf ByteArray.empty x535003 x5).toList = (rdOf ByteArray.empty x536003 x5).toList then (spec_Same.l0 k (wrap64 (x5 + 1)) x535000 x535001 x535002 x535003 x535004 x536000 x536001 x536002 x536003 x536004) else (some false)) else (none)) else (none)) else (spec_Same.l1 k 0 x535000 x535001 x535002 x535003 x535004 x536000 x536001 x536002 x536003 x536004)
def spec_Same.l1 : Nat → Int → Int → Int → ByteArray → List ByteArray → List (S25) → Int → Int → ByteArray → List ByteArray → List (S25) → Option (Bool)
 | 0, _, _, _, _, _, _, _, _, _, _, _ => none
 | k + 1, x6, x535000, x535001, x535002, x535003, x535004, x536000, x536001, x536002, x536003, x536004 => if x6 < (x535004.length : Int) then (if 0 ≤ x6 then (if x6 < (x536004.length : Int) then ((spec_Same.f k ((rd_T25 x535004 x6).f0) ((rd_T25 x535004 x6).f1) ((rd_T25 x535004 x6).f2) ((rd_T25 x535004 x6).f3) ((rd_T25 x535004 x6).f4) ((rd_T25 x536004 x6).f0) ((rd_T25 x536004 x6).f1) ((rd_T25 x536004 x6).f2) ((rd_T25 x536004 x6).f3) ((rd_T25 x536004 x6).f4)).bind fun t540 => (if t540 = true then (spec_Same.l1 k (wrap64 (x6 + 1)) x535000 x535001 x535002 x535003 x535004 x536000 x536001 x536002 x536003 x536004) else (some false))) else (none)) else (none)) else (some true)
def spec_Same.f : Nat → Int → Int → ByteArray → List ByteArray → List (S25) → Int → Int → ByteArray → List ByteArray → List (S25) → Option (Bool)
 | 0, _, _, _, _, _, _, _, _, _, _ => none
 | k + 1, a0_0, a0_1, a0_2, l0_3, l0_4, a1_0, a1_1, a1_2, l1_3, l1_4 => if a0_0 = a1_0 then (if a0_1 = a1_1 then (if a0_2.toList = a1_2.toList then (if (l0_3.length : Int) = (l1_3.length : Int) then (spec_Same.j0 k ((l0_4.length : Int) != (l1_4.length : Int)) a0_0 a0_1 a0_2 l0_3 l0_4 a1_0 a1_1 a1_2 l1_3 l1_4) else (spec_Same.j0 k true a0_0 a0_1 a0_2 l0_3 l0_4 a1_0 a1_1 a1_2 l1_3 l1_4)) else (spec_Same.j0 k true a0_0 a0_1 a0_2 l0_3 l0_4 a1_0 a1_1 a1_2 l1_3 l1_4)) else (spec_Same.j0 k true a0_0 a0_1 a0_2 l0_3 l0_4 a1_0 a1_1 a1_2 l1_3 l1_4)) else (spec_Same.j0 k true a0_0 a0_1 a0_2 l0_3 l0_4 a1_0 a1_1 a1_2 l1_3 l1_4)
end
def spec_Same.T6 : Bool × List (List Nat × List Nat) := (true, [([], []), ([0], [0]), ([], []), ([1, 2], [1, 2]), ([3], [3]), ([], []), ([5], [5]), ([], []), ([6, 7], [6, 7]), ([8], [8]), ([4, 9], [4, 9])])
def spec_Same.B6 : List Nat := [0, 1, 0, 7, 15, 0, 32, 0, 224, 480, 1023]
theorem spec_Same.tab6 : rtab .any (opsOf Tryz.f22 6) = spec_Same.T6 := by kernel_rfl
theorem spec_Same.bits6 : waitsOk spec_Same.T6.2 spec_Same.B6 = true := by kernel_rfl
def spec_Same.T11 : Bool × List (List Nat × List Nat) := (true, [([], []), ([0], [0]), ([], []), ([1, 2], [1, 2]), ([3], [3]), ([], []), ([5], [5]), ([], []), ([6, 7], [6, 7]), ([8], [8]), ([4, 9], [4, 9]), ([10], [10])])
def spec_Same.B11 : List Nat := [0, 1, 0, 7, 15, 0, 32, 0, 224, 480, 1023, 2047]
theorem spec_Same.tab11 : rtab .any (opsOf Tryz.f22 11) = spec_Same.T11 := by kernel_rfl
theorem spec_Same.bits11 : waitsOk spec_Same.T11.2 spec_Same.B11 = true := by kernel_rfl
set_option maxHeartbeats 8000000 in
set_option maxRecDepth 100000 in
theorem spec_Same.calls (k : Nat) : ∀ (a0_0 : Int) (a0_1 : Int) (a0_2 : ByteArray) (A0_3 : Option Addr) (c0_3 : Nat) (l0_3 : List ByteArray) (A0_4 : Option Addr) (c0_4 : Nat) (l0_4 : List (S25)) (a1_0 : Int) (a1_1 : Int) (a1_2 : ByteArray) (A1_3 : Option Addr) (c1_3 : Nat) (l1_3 : List ByteArray) (A1_4 : Option Addr) (c1_4 : Nat) (l1_4 : List (S25)) (r : Bool) (w : World) (hr0_3 : Kd.C Kd.string w A0_3 l0_3.length l0_3) (hc0_3 : l0_3.length ≤ c0_3) (hr0_4 : Kd.C k25 w A0_4 l0_4.length l0_4) (hc0_4 : l0_4.length ≤ c0_4) (hr1_3 : Kd.C Kd.string w A1_3 l1_3.length l1_3) (hc1_3 : l1_3.length ≤ c1_3) (hr1_4 : Kd.C k25 w A1_4 l1_4.length l1_4) (hc1_4 : l1_4.length ≤ c1_4) (h : spec_Same.f k a0_0 a0_1 a0_2 l0_3 l0_4 a1_0 a1_1 a1_2 l1_3 l1_4 = some r),
  Calls Tryz.prog 22 #[.agg #[.int .i64 a0_0, .int .i64 a0_1, .string a0_2, .slice A0_3 l0_3.length c0_3, .slice A0_4 l0_4.length c0_4], .agg #[.int .i64 a1_0, .int .i64 a1_1, .string a1_2, .slice A1_3 l1_3.length c1_3, .slice A1_4 l1_4.length c1_4]] w fun e w' => e = .returned (.bool r) ∧ Below w.heap.size w w' := by
 induction k using Nat.strongRecOn with
 | _ k ih =>
 intro a0_0 a0_1 a0_2 A0_3 c0_3 l0_3 A0_4 c0_4 l0_4 a1_0 a1_1 a1_2 A1_3 c1_3 l1_3 A1_4 c1_4 l1_4 r w hr0_3 hc0_3 hr0_4 hc0_4 hr1_3 hc1_3 hr1_4 hc1_4 h
 cases k with
 | zero => exact absurd h (by simp [spec_Same.f])
 | succ k =>
 simp only [spec_Same.f] at h
 have hu25 := Tryz.underlying25
 have HR0_3 := aM hr0_3
 have HC0_3 := aM hc0_3
 clear hr0_3 hc0_3
 have HR0_4 := aM hr0_4
 have HC0_4 := aM hc0_4
 clear hr0_4 hc0_4
 have HR1_3 := aM hr1_3
 have HC1_3 := aM hc1_3
 clear hr1_3 hc1_3
 have HR1_4 := aM hr1_4
 have HC1_4 := aM hc1_4
 clear hr1_4 hc1_4
 have HB := aM (Below.refl w.heap.size w)
 have H : (if a0_0 = a1_0 then (if a0_1 = a1_1 then (if a0_2.toList = a1_2.toList then (if (l0_3.length : Int) = (l1_3.length : Int) then (spec_Same.j0 k ((l0_4.length : Int) != (l1_4.length : Int)) a0_0 a0_1 a0_2 l0_3 l0_4 a1_0 a1_1 a1_2 l1_3 l1_4) else (spec_Same.j0 k true a0_0 a0_1 a0_2 l0_3 l0_4 a1_0 a1_1 a1_2 l1_3 l1_4)) else (spec_Same.j0 k true a0_0 a0_1 a0_2 l0_3 l0_4 a1_0 a1_1 a1_2 l1_3 l1_4)) else (spec_Same.j0 k true a0_0 a0_1 a0_2 l0_3 l0_4 a1_0 a1_1 a1_2 l1_3 l1_4)) else (spec_Same.j0 k true a0_0 a0_1 a0_2 l0_3 l0_4 a1_0 a1_1 a1_2 l1_3 l1_4)) = some r := h
 clear h
 have HC3 := aM H
 clear H
 go_enter Tryz.func22, Tryz.ntmps22
 go_upto_region 1 with (first | ((with_reducible refine gate_dst (N := 2) rfl ?_); (try (refine gate_guard (by rfl) ?_; dsimp only)); refine box_event ?hg (N := 2) ?hd (cs := #[.int .i64 a0_0, .int .i64 a0_1, .string a0_2, .slice A0_3 l0_3.length c0_3, .slice A0_4 l0_4.length c0_4]) (t := 25) ?hr ?_; (case hd => rfl); (case hg => rfl); (case hr => first | (go_simp; done) | (go_simp; rfl)); intro gb534 hg w4 hbox hb; have n0_ := aM (below_step (by repeat (first | (with_reducible first | exact HB.out | apply below_alloc | apply pw_below_drewN | apply below_drew1) | exact HB.out)) hb); have n1_ := aM (hbox); have n2_ := aM ((by rw [hg]; exact (below_size (by repeat (first | (with_reducible first | exact HB.out | apply below_alloc | apply pw_below_drewN | apply below_drew1) | exact HB.out))) : w.heap.size ≤ gb534)); have n3_ := aM ((by rw [hg]; exact (below_size (by repeat (first | (with_reducible first | exact HB.out | apply below_alloc | apply pw_below_drewN | apply below_drew1) | exact HB.out))) : w.heap.size ≤ gb534)); clear HB; have HB := n0_; have BK534 := n1_; have GW534 := n2_; have GE534 := n3_; clear n0_ n1_ n2_ n3_; clear hb hbox hg) | ((with_reducible refine gate_dst (N := 3) rfl ?_); (try (refine gate_guard (by rfl) ?_; dsimp only)); refine box_event ?hg (N := 3) ?hd (cs := #[.int .i64 a1_0, .int .i64 a1_1, .string a1_2, .slice A1_3 l1_3.length c1_3, .slice A1_4 l1_4.length c1_4]) (t := 25) ?hr ?_; (case hd => rfl); (case hg => rfl); (case hr => first | (go_simp; done) | (go_simp; rfl)); intro gb535 hg w5 hbox hb; have n0_ := aM (blk_below (g := gb534) (o := .cells #[.int .i64 a0_0, .int .i64 a0_1, .string a0_2, .slice A0_3 l0_3.length c0_3, .slice A0_4 l0_4.length c0_4] 25 (0, 0)) (by (with_reducible repeat (first | refine blk_drewN ?_ _ | refine blk_drew ?_ | refine blk_alloc ?_ _)); exact BK534.out) hb); have n1_ := aM (below_step (by repeat (first | (with_reducible first | exact HB.out | apply below_alloc | apply pw_below_drewN | apply below_drew1 | refine below_set ?_ GE534.out) | exact HB.out)) hb); have n2_ := aM (hbox); have n3_ := aM ((by rw [hg]; exact (below_size (by repeat (first | (with_reducible first | exact HB.out | apply below_alloc | apply pw_below_drewN | apply below_drew1 | refine below_set ?_ GE534.out) | exact HB.out))) : w.heap.size ≤ gb535)); have n4_ := aM ((by rw [hg]; exact (below_size (by repeat (first | (with_reducible first | exact HB.out | apply below_alloc | apply pw_below_drewN | apply below_drew1 | refine below_set ?_ GE534.out) | exact HB.out))) : w.heap.size ≤ gb535)); have n5_ := aM ((by rw [hg]; exact Nat.ne_of_lt (blk_lt (g := gb534) (o := .cells #[.int .i64 a0_0, .int .i64 a0_1, .string a0_2, .slice A0_3 l0_3.length c0_3, .slice A0_4 l0_4.length c0_4] 25 (0, 0)) (by (with_reducible repeat (first | refine blk_drewN ?_ _ | refine blk_drew ?_ | refine blk_alloc ?_ _)); exact BK534.out)) : gb534 ≠ gb535)); have n6_ := aM ((by rw [hg]; exact Nat.ne_of_gt (blk_lt (g := gb534) (o := .cells #[.int .i64 a0_0, .int .i64 a0_1, .string a0_2, .slice A0_3 l0_3.length c0_3, .slice A0_4 l0_4.length c0_4] 25 (0, 0)) (by (with_reducible repeat (first | refine blk_drewN ?_ _ | refine blk_drew ?_ | refine blk_alloc ?_ _)); exact BK534.out)) : gb535 ≠ gb534)); clear BK534; clear HB; have BK534 := n0_; have HB := n1_; have BK535 := n2_; have GW535 := n3_; have GE535 := n4_; have NB534_535 := n5_; have NB535_534 := n6_; clear n0_ n1_ n2_ n3_ n4_ n5_ n6_; clear hb hbox hg))
 (try simp only [Act.put, List.setIfInBounds_toArray, List.set_cons_zero, List.set_cons_succ])
 go_cut [43] (fun v43 wc => ∃ (kq : Nat) (x43_2 : Bool), v43 = .bool x43_2 ∧ Aside0 (spec_Same.j0 kq x43_2 a0_0 a0_1 a0_2 l0_3 l0_4 a1_0 a1_1 a1_2 l1_3 l1_4 = some r) ∧ Aside0 (kq ≤ k) ∧ Aside0 (wc.heap[gb534]? = some (.cells #[.int .i64 a0_0, .int .i64 a0_1, .string a0_2, (.slice A0_3 l0_3.length c0_3), (.slice A0_4 l0_4.length c0_4)] 25 (0, 0))) ∧ Aside0 (wc.heap[gb535]? = some (.cells #[.int .i64 a1_0, .int .i64 a1_1, .string a1_2, (.slice A1_3 l1_3.length c1_3), (.slice A1_4 l1_4.length c1_4)] 25 (0, 0))) ∧ Aside0 (Below w.heap.size w wc))
 case first =>
  have H := HC3.out
  clear HC3
  by_cases c6 : a0_0 = a1_0
  ·rw [if_pos c6] at H
   have c6b0 : (a0_0 == a1_0) = true := beq_iff_eq.mpr c6
   have c6b1 : (a0_0 != a1_0) = false := bne_eq_false_iff_eq.mpr c6
   clear c6
   (first | rw [c6b0] | (simp only [i64_w, i32_w]; rw [c6b0]) | skip)
   by_cases c7 : a0_1 = a1_1
   ·rw [if_pos c7] at H
    have c7b0 : (a0_1 == a1_1) = true := beq_iff_eq.mpr c7
    have c7b1 : (a0_1 != a1_1) = false := bne_eq_false_iff_eq.mpr c7
    clear c7
    by_cases c8 : a0_2.toList = a1_2.toList
    ·rw [if_pos c8] at H
     have c8b0 : (a0_2.toList == a1_2.toList) = true := beq_iff_eq.mpr c8
     have c8b1 : (a0_2.toList != a1_2.toList) = false := bne_eq_false_iff_eq.mpr c8
     clear c8
     by_cases c9 : (l0_3.length : Int) = (l1_3.length : Int)
     ·rw [if_pos c9] at H
      have c9b0 : ((l0_3.length : Int) == (l1_3.length : Int)) = true := beq_iff_eq.mpr c9
      have c9b1 : ((l0_3.length : Int) != (l1_3.length : Int)) = false := bne_eq_false_iff_eq.mpr c9
      have c9b2 : (l0_3.length == l1_3.length) = true := by first | simpa using c9 | (simp at c9 ⊢; omega)
      clear c9
      have H' := aM H
      clear H
      have hnb10 := NB534_535.out
      have hnc10 := NB535_534.out
      have hcz11_0 : w5.cell? ⟨gb534, 0, none⟩ = some (.int .i64 a0_0) := (blk_cell BK534.out 0).trans rfl
      have hcz11_1 : w5.cell? ⟨gb534, 1, none⟩ = some (.int .i64 a0_1) := (blk_cell BK534.out 1).trans rfl
      have hcz11_2 : w5.cell? ⟨gb534, 2, none⟩ = some (.string a0_2) := (blk_cell BK534.out 2).trans rfl
      have hcz11_3 : w5.cell? ⟨gb534, 3, none⟩ = some (.slice A0_3 l0_3.length c0_3) := (blk_cell BK534.out 3).trans rfl
      have hcz11_4 : w5.cell? ⟨gb534, 4, none⟩ = some (.slice A0_4 l0_4.length c0_4) := (blk_cell BK534.out 4).trans rfl
      have hfz11_0 := blk_frozen BK534.out 0
      have hfz11_1 := blk_frozen BK534.out 1
      have hfz11_2 := blk_frozen BK534.out 2
      have hfz11_3 := blk_frozen BK534.out 3
      have hfz11_4 := blk_frozen BK534.out 4
      have hcz12_0 : w5.cell? ⟨gb535, 0, none⟩ = some (.int .i64 a1_0) := (blk_cell BK535.out 0).trans rfl
      have hcz12_1 : w5.cell? ⟨gb535, 1, none⟩ = some (.int .i64 a1_1) := (blk_cell BK535.out 1).trans rfl
      have hcz12_2 : w5.cell? ⟨gb535, 2, none⟩ = some (.string a1_2) := (blk_cell BK535.out 2).trans rfl
      have hcz12_3 : w5.cell? ⟨gb535, 3, none⟩ = some (.slice A1_3 l1_3.length c1_3) := (blk_cell BK535.out 3).trans rfl
      have hcz12_4 : w5.cell? ⟨gb535, 4, none⟩ = some (.slice A1_4 l1_4.length c1_4) := (blk_cell BK535.out 4).trans rfl
      have hfz12_0 := blk_frozen BK535.out 0
      have hfz12_1 := blk_frozen BK535.out 1
      have hfz12_2 := blk_frozen BK535.out 2
      have hfz12_3 := blk_frozen BK535.out 3
      have hfz12_4 := blk_frozen BK535.out 4
      go_wp2
      go_meet
      case rel => exact ⟨_, (((l0_4.length : Int) != (l1_4.length : Int))), (by first | rfl | (simp; done) | (simp [*]; done)), H', ⟨by first | omega | exact Nat.le_refl _⟩, ⟨by (with_reducible repeat (first | refine blk_drewN ?_ _ | refine blk_drew ?_ | refine blk_alloc ?_ _)); exact BK534.out⟩, ⟨by (with_reducible repeat (first | refine blk_drewN ?_ _ | refine blk_drew ?_ | refine blk_alloc ?_ _)); exact BK535.out⟩, ⟨by repeat (first | (with_reducible first | exact HB.out | apply below_alloc | apply pw_below_drewN | apply below_drew1 | refine below_set ?_ GE534.out | refine below_set ?_ GE535.out) | exact HB.out)⟩⟩
     ·rw [if_neg c9] at H
      have c9b0 : ((l0_3.length : Int) == (l1_3.length : Int)) = false := beq_eq_false_iff_ne.mpr c9
      have c9b1 : ((l0_3.length : Int) != (l1_3.length : Int)) = true := bne_iff_ne.mpr c9
      have c9b2 : (l0_3.length == l1_3.length) = false := by first | simpa using c9 | (simp at c9 ⊢; omega)
      have H' := aM H
      clear H
      have hnb13 := NB534_535.out
      have hnc13 := NB535_534.out
      have hcz14_0 : w5.cell? ⟨gb534, 0, none⟩ = some (.int .i64 a0_0) := (blk_cell BK534.out 0).trans rfl
      have hcz14_1 : w5.cell? ⟨gb534, 1, none⟩ = some (.int .i64 a0_1) := (blk_cell BK534.out 1).trans rfl
      have hcz14_2 : w5.cell? ⟨gb534, 2, none⟩ = some (.string a0_2) := (blk_cell BK534.out 2).trans rfl
      have hcz14_3 : w5.cell? ⟨gb534, 3, none⟩ = some (.slice A0_3 l0_3.length c0_3) := (blk_cell BK534.out 3).trans rfl
      have hcz14_4 : w5.cell? ⟨gb534, 4, none⟩ = some (.slice A0_4 l0_4.length c0_4) := (blk_cell BK534.out 4).trans rfl
      have hfz14_0 := blk_frozen BK534.out 0
      have hfz14_1 := blk_frozen BK534.out 1
      have hfz14_2 := blk_frozen BK534.out 2
      have hfz14_3 := blk_frozen BK534.out 3
      have hfz14_4 := blk_frozen BK534.out 4
      have hcz15_0 : w5.cell? ⟨gb535, 0, none⟩ = some (.int .i64 a1_0) := (blk_cell BK535.out 0).trans rfl
      have hcz15_1 : w5.cell? ⟨gb535, 1, none⟩ = some (.int .i64 a1_1) := (blk_cell BK535.out 1).trans rfl
      have hcz15_2 : w5.cell? ⟨gb535, 2, none⟩ = some (.string a1_2) := (blk_cell BK535.out 2).trans rfl
      have hcz15_3 : w5.cell? ⟨gb535, 3, none⟩ = some (.slice A1_3 l1_3.length c1_3) := (blk_cell BK535.out 3).trans rfl
      have hcz15_4 : w5.cell? ⟨gb535, 4, none⟩ = some (.slice A1_4 l1_4.length c1_4) := (blk_cell BK535.out 4).trans rfl
      have hfz15_0 := blk_frozen BK535.out 0
      have hfz15_1 := blk_frozen BK535.out 1
      have hfz15_2 := blk_frozen BK535.out 2
      have hfz15_3 := blk_frozen BK535.out 3
      have hfz15_4 := blk_frozen BK535.out 4
      go_wp2
      go_meet
      case rel => exact ⟨_, (true), (by first | rfl | (simp; done) | (simp [*]; done)), H', ⟨by first | omega | exact Nat.le_refl _⟩, ⟨by (with_reducible repeat (first | refine blk_drewN ?_ _ | refine blk_drew ?_ | refine blk_alloc ?_ _)); exact BK534.out⟩, ⟨by (with_reducible repeat (first | refine blk_drewN ?_ _ | refine blk_drew ?_ | refine blk_alloc ?_ _)); exact BK535.out⟩, ⟨by repeat (first | (with_reducible first | exact HB.out | apply below_alloc | apply pw_below_drewN | apply below_drew1 | refine below_set ?_ GE534.out | refine below_set ?_ GE535.out) | exact HB.out)⟩⟩
    ·rw [if_neg c8] at H
     have c8b0 : (a0_2.toList == a1_2.toList) = false := beq_eq_false_iff_ne.mpr c8
     have c8b1 : (a0_2.toList != a1_2.toList) = true := bne_iff_ne.mpr c8
     have H' := aM H
     clear H
     have hnb16 := NB534_535.out
     have hnc16 := NB535_534.out
     have hcz17_0 : w5.cell? ⟨gb534, 0, none⟩ = some (.int .i64 a0_0) := (blk_cell BK534.out 0).trans rfl
     have hcz17_1 : w5.cell? ⟨gb534, 1, none⟩ = some (.int .i64 a0_1) := (blk_cell BK534.out 1).trans rfl
     have hcz17_2 : w5.cell? ⟨gb534, 2, none⟩ = some (.string a0_2) := (blk_cell BK534.out 2).trans rfl
     have hcz17_3 : w5.cell? ⟨gb534, 3, none⟩ = some (.slice A0_3 l0_3.length c0_3) := (blk_cell BK534.out 3).trans rfl
     have hcz17_4 : w5.cell? ⟨gb534, 4, none⟩ = some (.slice A0_4 l0_4.length c0_4) := (blk_cell BK534.out 4).trans rfl
     have hfz17_0 := blk_frozen BK534.out 0
     have hfz17_1 := blk_frozen BK534.out 1
     have hfz17_2 := blk_frozen BK534.out 2
     have hfz17_3 := blk_frozen BK534.out 3
     have hfz17_4 := blk_frozen BK534.out 4
     have hcz18_0 : w5.cell? ⟨gb535, 0, none⟩ = some (.int .i64 a1_0) := (blk_cell BK535.out 0).trans rfl
     have hcz18_1 : w5.cell? ⟨gb535, 1, none⟩ = some (.int .i64 a1_1) := (blk_cell BK535.out 1).trans rfl
     have hcz18_2 : w5.cell? ⟨gb535, 2, none⟩ = some (.string a1_2) := (blk_cell BK535.out 2).trans rfl
     have hcz18_3 : w5.cell? ⟨gb535, 3, none⟩ = some (.slice A1_3 l1_3.length c1_3) := (blk_cell BK535.out 3).trans rfl
     have hcz18_4 : w5.cell? ⟨gb535, 4, none⟩ = some (.slice A1_4 l1_4.length c1_4) := (blk_cell BK535.out 4).trans rfl
     have hfz18_0 := blk_frozen BK535.out 0
     have hfz18_1 := blk_frozen BK535.out 1
     have hfz18_2 := blk_frozen BK535.out 2
     have hfz18_3 := blk_frozen BK535.out 3
     have hfz18_4 := blk_frozen BK535.out 4
     go_wp2
     go_meet
     case rel => exact ⟨_, (true), (by first | rfl | (simp; done) | (simp [*]; done)), H', ⟨by first | omega | exact Nat.le_refl _⟩, ⟨by (with_reducible repeat (first | refine blk_drewN ?_ _ | refine blk_drew ?_ | refine blk_alloc ?_ _)); exact BK534.out⟩, ⟨by (with_reducible repeat (first | refine blk_drewN ?_ _ | refine blk_drew ?_ | refine blk_alloc ?_ _)); exact BK535.out⟩, ⟨by repeat (first | (with_reducible first | exact HB.out | apply below_alloc | apply pw_below_drewN | apply below_drew1 | refine below_set ?_ GE534.out | refine below_set ?_ GE535.out) | exact HB.out)⟩⟩
   ·rw [if_neg c7] at H
    have c7b0 : (a0_1 == a1_1) = false := beq_eq_false_iff_ne.mpr c7
    have c7b1 : (a0_1 != a1_1) = true := bne_iff_ne.mpr c7
    have H' := aM H
    clear H
    have hnb19 := NB534_535.out
    have hnc19 := NB535_534.out
    have hcz20_0 : w5.cell? ⟨gb534, 0, none⟩ = some (.int .i64 a0_0) := (blk_cell BK534.out 0).trans rfl
    have hcz20_1 : w5.cell? ⟨gb534, 1, none⟩ = some (.int .i64 a0_1) := (blk_cell BK534.out 1).trans rfl
    have hcz20_2 : w5.cell? ⟨gb534, 2, none⟩ = some (.string a0_2) := (blk_cell BK534.out 2).trans rfl
    have hcz20_3 : w5.cell? ⟨gb534, 3, none⟩ = some (.slice A0_3 l0_3.length c0_3) := (blk_cell BK534.out 3).trans rfl
    have hcz20_4 : w5.cell? ⟨gb534, 4, none⟩ = some (.slice A0_4 l0_4.length c0_4) := (blk_cell BK534.out 4).trans rfl
    have hfz20_0 := blk_frozen BK534.out 0
    have hfz20_1 := blk_frozen BK534.out 1
    have hfz20_2 := blk_frozen BK534.out 2
    have hfz20_3 := blk_frozen BK534.out 3
    have hfz20_4 := blk_frozen BK534.out 4
    have hcz21_0 : w5.cell? ⟨gb535, 0, none⟩ = some (.int .i64 a1_0) := (blk_cell BK535.out 0).trans rfl
    have hcz21_1 : w5.cell? ⟨gb535, 1, none⟩ = some (.int .i64 a1_1) := (blk_cell BK535.out 1).trans rfl
    have hcz21_2 : w5.cell? ⟨gb535, 2, none⟩ = some (.string a1_2) := (blk_cell BK535.out 2).trans rfl
    have hcz21_3 : w5.cell? ⟨gb535, 3, none⟩ = some (.slice A1_3 l1_3.length c1_3) := (blk_cell BK535.out 3).trans rfl
    have hcz21_4 : w5.cell? ⟨gb535, 4, none⟩ = some (.slice A1_4 l1_4.length c1_4) := (blk_cell BK535.out 4).trans rfl
    have hfz21_0 := blk_frozen BK535.out 0
    have hfz21_1 := blk_frozen BK535.out 1
    have hfz21_2 := blk_frozen BK535.out 2
    have hfz21_3 := blk_frozen BK535.out 3
    have hfz21_4 := blk_frozen BK535.out 4
    go_wp2
    go_meet
    case rel => exact ⟨_, (true), (by first | rfl | (simp; done) | (simp [*]; done)), H', ⟨by first | omega | exact Nat.le_refl _⟩, ⟨by (with_reducible repeat (first | refine blk_drewN ?_ _ | refine blk_drew ?_ | refine blk_alloc ?_ _)); exact BK534.out⟩, ⟨by (with_reducible repeat (first | refine blk_drewN ?_ _ | refine blk_drew ?_ | refine blk_alloc ?_ _)); exact BK535.out⟩, ⟨by repeat (first | (with_reducible first | exact HB.out | apply below_alloc | apply pw_below_drewN | apply below_drew1 | refine below_set ?_ GE534.out | refine below_set ?_ GE535.out) | exact HB.out)⟩⟩
  ·rw [if_neg c6] at H
   have c6b0 : (a0_0 == a1_0) = false := beq_eq_false_iff_ne.mpr c6
   have c6b1 : (a0_0 != a1_0) = true := bne_iff_ne.mpr c6
   (first | rw [c6b0] | (simp only [i64_w, i32_w]; rw [c6b0]) | skip)
   have H' := aM H
   clear H
   have hnb22 := NB534_535.out
   have hnc22 := NB535_534.out
   have hcz23_0 : w5.cell? ⟨gb534, 0, none⟩ = some (.int .i64 a0_0) := (blk_cell BK534.out 0).trans rfl
   have hcz23_1 : w5.cell? ⟨gb534, 1, none⟩ = some (.int .i64 a0_1) := (blk_cell BK534.out 1).trans rfl
   have hcz23_2 : w5.cell? ⟨gb534, 2, none⟩ = some (.string a0_2) := (blk_cell BK534.out 2).trans rfl
   have hcz23_3 : w5.cell? ⟨gb534, 3, none⟩ = some (.slice A0_3 l0_3.length c0_3) := (blk_cell BK534.out 3).trans rfl
   have hcz23_4 : w5.cell? ⟨gb534, 4, none⟩ = some (.slice A0_4 l0_4.length c0_4) := (blk_cell BK534.out 4).trans rfl
   have hfz23_0 := blk_frozen BK534.out 0
   have hfz23_1 := blk_frozen BK534.out 1
   have hfz23_2 := blk_frozen BK534.out 2
   have hfz23_3 := blk_frozen BK534.out 3
   have hfz23_4 := blk_frozen BK534.out 4
   have hcz24_0 : w5.cell? ⟨gb535, 0, none⟩ = some (.int .i64 a1_0) := (blk_cell BK535.out 0).trans rfl
   have hcz24_1 : w5.cell? ⟨gb535, 1, none⟩ = some (.int .i64 a1_1) := (blk_cell BK535.out 1).trans rfl
   have hcz24_2 : w5.cell? ⟨gb535, 2, none⟩ = some (.string a1_2) := (blk_cell BK535.out 2).trans rfl
   have hcz24_3 : w5.cell? ⟨gb535, 3, none⟩ = some (.slice A1_3 l1_3.length c1_3) := (blk_cell BK535.out 3).trans rfl
   have hcz24_4 : w5.cell? ⟨gb535, 4, none⟩ = some (.slice A1_4 l1_4.length c1_4) := (blk_cell BK535.out 4).trans rfl
   have hfz24_0 := blk_frozen BK535.out 0
   have hfz24_1 := blk_frozen BK535.out 1
   have hfz24_2 := blk_frozen BK535.out 2
   have hfz24_3 := blk_frozen BK535.out 3
   have hfz24_4 := blk_frozen BK535.out 4
   go_wp2
   go_meet
   case rel => exact ⟨_, (true), (by first | rfl | (simp; done) | (simp [*]; done)), H', ⟨by first | omega | exact Nat.le_refl _⟩, ⟨by (with_reducible repeat (first | refine blk_drewN ?_ _ | refine blk_drew ?_ | refine blk_alloc ?_ _)); exact BK534.out⟩, ⟨by (with_reducible repeat (first | refine blk_drewN ?_ _ | refine blk_drew ?_ | refine blk_alloc ?_ _)); exact BK535.out⟩, ⟨by repeat (first | (with_reducible first | exact HB.out | apply below_alloc | apply pw_below_drewN | apply below_drew1 | refine below_set ?_ GE534.out | refine below_set ?_ GE535.out) | exact HB.out)⟩⟩
 case rest =>
  clear HC3
  try clear c1
  try clear c2
  try clear p2
  try clear c6
  try clear c6b0
  try clear c6b1
  try clear c7
  try clear c7b0
  try clear c7b1
  try clear c8
  try clear c8b0
  try clear c8b1
  try clear c9
  try clear c9b0
  try clear c9b1
  try clear c9b2
  try clear c10
  try clear c13
  try clear c16
  try clear c19
  try clear c22
  try clear hcz11_0
  try clear hcz11_1
  try clear hcz11_2
  try clear hcz11_3
  try clear hcz11_4
  try clear hcz12_0
  try clear hcz12_1
  try clear hcz12_2
  try clear hcz12_3
  try clear hcz12_4
  try clear hcz14_0
  try clear hcz14_1
  try clear hcz14_2
  try clear hcz14_3
  try clear hcz14_4
  try clear hcz15_0
  try clear hcz15_1
  try clear hcz15_2
  try clear hcz15_3
  try clear hcz15_4
  try clear hcz17_0
  try clear hcz17_1
  try clear hcz17_2
  try clear hcz17_3
  try clear hcz17_4
  try clear hcz18_0
  try clear hcz18_1
  try clear hcz18_2
  try clear hcz18_3
  try clear hcz18_4
  try clear hcz20_0
  try clear hcz20_1
  try clear hcz20_2
  try clear hcz20_3
  try clear hcz20_4
  try clear hcz21_0
  try clear hcz21_1
  try clear hcz21_2
  try clear hcz21_3
  try clear hcz21_4
  try clear hcz23_0
  try clear hcz23_1
  try clear hcz23_2
  try clear hcz23_3
  try clear hcz23_4
  try clear hcz24_0
  try clear hcz24_1
  try clear hcz24_2
  try clear hcz24_3
  try clear hcz24_4
  try clear hfz11_0
  try clear hfz11_1
  try clear hfz11_2
  try clear hfz11_3
  try clear hfz11_4
  try clear hfz12_0
  try clear hfz12_1
  try clear hfz12_2
  try clear hfz12_3
  try clear hfz12_4
  try clear hfz14_0
  try clear hfz14_1
  try clear hfz14_2
  try clear hfz14_3
  try clear hfz14_4
  try clear hfz15_0
  try clear hfz15_1
  try clear hfz15_2
  try clear hfz15_3
  try clear hfz15_4
  try clear hfz17_0
  try clear hfz17_1
  try clear hfz17_2
  try clear hfz17_3
  try clear hfz17_4
  try clear hfz18_0
  try clear hfz18_1
  try clear hfz18_2
  try clear hfz18_3
  try clear hfz18_4
  try clear hfz20_0
  try clear hfz20_1
  try clear hfz20_2
  try clear hfz20_3
  try clear hfz20_4
  try clear hfz21_0
  try clear hfz21_1
  try clear hfz21_2
  try clear hfz21_3
  try clear hfz21_4
  try clear hfz23_0
  try clear hfz23_1
  try clear hfz23_2
  try clear hfz23_3
  try clear hfz23_4
  try clear hfz24_0
  try clear hfz24_1
  try clear hfz24_2
  try clear hfz24_3
  try clear hfz24_4
  obtain ⟨kq, x43_2, rfl, HA, HJ2, BK534, BK535, HB⟩ := hcut
  cases kq with
  | zero => exact absurd HA.out (by simp [spec_Same.j0])
  | succ kj2 =>
   have H := HA.out
   clear HA
   simp only [spec_Same.j0] at H
   by_cases c25 : x43_2 = true
   ·subst c25
    have H1 : (some false) = some r := by rw [if_pos rfl] at H; exact H
    clear H
    have H := H1
    clear H1
    obtain rfl := Option.some.inj H
    go_wp2
    go_ret
    exact ⟨by first | rfl | (simp [errW_none, errW_some] <;> rfl) | (simp [*, errW_none, errW_some] <;> rfl), by repeat (first | (with_reducible first | exact HB.out | apply below_alloc | apply pw_below_drewN | apply below_drew1 | refine below_set ?_ GE534.out | refine below_set ?_ GE535.out) | exact HB.out)⟩
   ·replace c25 := Bool.eq_false_iff.mpr c25
    subst c25
    have H1 : (spec_Same.l0 kj2 0 a0_0 a0_1 a0_2 l0_3 l0_4 a1_0 a1_1 a1_2 l1_3 l1_4) = some r := by rw [if_neg (show ¬ (false = true) by decide)] at H; exact H
    clear H
    have H := H1
    clear H1
    have H' := aM H
    clear H
    go_wp2
    go_loopg [5] kj2 (fun kq v5 w' => ∃ (x5_2 : Int), v5 = .int .i64 x5_2 ∧ Aside0 (spec_Same.l0 kq x5_2 a0_0 a0_1 a0_2 l0_3 l0_4 a1_0 a1_1 a1_2 l1_3 l1_4 = some r) ∧ Aside0 (kq ≤ kj2) ∧ Aside0 (w'.heap[gb534]? = some (.cells #[.int .i64 a0_0, .int .i64 a0_1, .string a0_2, (.slice A0_3 l0_3.length c0_3), (.slice A0_4 l0_4.length c0_4)] 25 (0, 0))) ∧ Aside0 (w'.heap[gb535]? = some (.cells #[.int .i64 a1_0, .int .i64 a1_1, .string a1_2, (.slice A1_3 l1_3.length c1_3), (.slice A1_4 l1_4.length c1_4)] 25 (0, 0))) ∧ Aside0 (Below w.heap.size w w'))
    case atStart => exact ⟨(0), (by first | rfl | (simp; done) | (simp [*]; done)), H', ⟨Nat.le_refl _⟩, ⟨by (with_reducible repeat (first | refine blk_drewN ?_ _ | refine blk_drew ?_ | refine blk_alloc ?_ _)); exact BK534.out⟩, ⟨by (with_reducible repeat (first | refine blk_drewN ?_ _ | refine blk_drew ?_ | refine blk_alloc ?_ _)); exact BK535.out⟩, ⟨by repeat (first | (with_reducible first | exact HB.out | apply below_alloc | apply pw_below_drewN | apply below_drew1 | refine below_set ?_ GE534.out | refine below_set ?_ GE535.out) | exact HB.out)⟩⟩
    case round =>
     clear H'
     try clear c1
     try clear c2
     try clear p2
     try clear c6
     try clear c6b0
     try clear c6b1
     try clear c7
     try clear c7b0
     try clear c7b1
     try clear c8
     try clear c8b0
     try clear c8b1
     try clear c9
     try clear c9b0
     try clear c9b1
     try clear c9b2
     try clear c10
     try clear c13
     try clear c16
     try clear c19
     try clear c22
     try clear c25
     try clear hcz11_0
     try clear hcz11_1
     try clear hcz11_2
     try clear hcz11_3
     try clear hcz11_4
     try clear hcz12_0
     try clear hcz12_1
     try clear hcz12_2
     try clear hcz12_3
     try clear hcz12_4
     try clear hcz14_0
     try clear hcz14_1
     try clear hcz14_2
     try clear hcz14_3
     try clear hcz14_4
     try clear hcz15_0
     try clear hcz15_1
     try clear hcz15_2
     try clear hcz15_3
     try clear hcz15_4
     try clear hcz17_0
     try clear hcz17_1
     try clear hcz17_2
     try clear hcz17_3
     try clear hcz17_4
     try clear hcz18_0
     try clear hcz18_1
     try clear hcz18_2
     try clear hcz18_3
     try clear hcz18_4
     try clear hcz20_0
     try clear hcz20_1
     try clear hcz20_2
     try clear hcz20_3
     try clear hcz20_4
     try clear hcz21_0
     try clear hcz21_1
     try clear hcz21_2
     try clear hcz21_3
     try clear hcz21_4
     try clear hcz23_0
     try clear hcz23_1
     try clear hcz23_2
     try clear hcz23_3
     try clear hcz23_4
     try clear hcz24_0
     try clear hcz24_1
     try clear hcz24_2
     try clear hcz24_3
     try clear hcz24_4
     try clear hfz11_0
     try clear hfz11_1
     try clear hfz11_2
     try clear hfz11_3
     try clear hfz11_4
     try clear hfz12_0
     try clear hfz12_1
     try clear hfz12_2
     try clear hfz12_3
     try clear hfz12_4
     try clear hfz14_0
     try clear hfz14_1
     try clear hfz14_2
     try clear hfz14_3
     try clear hfz14_4
     try clear hfz15_0
     try clear hfz15_1
     try clear hfz15_2
     try clear hfz15_3
     try clear hfz15_4
     try clear hfz17_0
     try clear hfz17_1
     try clear hfz17_2
     try clear hfz17_3
     try clear hfz17_4
     try clear hfz18_0
     try clear hfz18_1
     try clear hfz18_2
     try clear hfz18_3
     try clear hfz18_4
     try clear hfz20_0
     try clear hfz20_1
     try clear hfz20_2
     try clear hfz20_3
     try clear hfz20_4
     try clear hfz21_0
     try clear hfz21_1
     try clear hfz21_2
     try clear hfz21_3
     try clear hfz21_4
     try clear hfz23_0
     try clear hfz23_1
     try clear hfz23_2
     try clear hfz23_3
     try clear hfz23_4
     try clear hfz24_0
     try clear hfz24_1
     try clear hfz24_2
     try clear hfz24_3
     try clear hfz24_4
     try clear p2
     obtain ⟨x5_2, rfl, HA, HK2, BK534, BK535, HB⟩ := hrel
     cases gk with
     | zero => exact absurd HA.out (by simp [spec_Same.l0])
     | succ k2 =>
      have H := HA.out
      clear HA
      simp only [spec_Same.l0] at H
      by_cases c26 : x5_2 < (l0_3.length : Int)
      ·rw [if_pos c26] at H
       have c26b0 : decide (x5_2 < (l0_3.length : Int)) = true := decide_eq_true c26
       clear c26
       by_cases c27 : 0 ≤ x5_2
       ·rw [if_pos c27] at H
        have c27b0 : decide (0 ≤ x5_2) = true := decide_eq_true c27
        clear c27
        by_cases c28 : x5_2 < (l1_3.length : Int)
        ·rw [if_pos c28] at H
         have c28b0 : decide (x5_2 < (l1_3.length : Int)) = true := decide_eq_true c28
         clear c28
         by_cases c29 : (rdOf ByteArray.empty l0_3 x5_2).toList = (rdOf ByteArray.empty l1_3 x5_2).toList
         ·rw [if_pos c29] at H
          have c29b0 : ((rdOf ByteArray.empty l0_3 x5_2).toList == (rdOf ByteArray.empty l1_3 x5_2).toList) = true := beq_iff_eq.mpr c29
          have c29b1 : ((rdOf ByteArray.empty l0_3 x5_2).toList != (rdOf ByteArray.empty l1_3 x5_2).toList) = false := bne_eq_false_iff_eq.mpr c29
          clear c29
          have H' := aM H
          clear H
          have hnb30 := NB534_535.out
          have hnc30 := NB535_534.out
          have hcz31_0 : wr.cell? ⟨gb534, 0, none⟩ = some (.int .i64 a0_0) := (blk_cell BK534.out 0).trans rfl
          have hcz31_1 : wr.cell? ⟨gb534, 1, none⟩ = some (.int .i64 a0_1) := (blk_cell BK534.out 1).trans rfl
          have hcz31_2 : wr.cell? ⟨gb534, 2, none⟩ = some (.string a0_2) := (blk_cell BK534.out 2).trans rfl
          have hcz31_3 : wr.cell? ⟨gb534, 3, none⟩ = some (.slice A0_3 l0_3.length c0_3) := (blk_cell BK534.out 3).trans rfl
          have hcz31_4 : wr.cell? ⟨gb534, 4, none⟩ = some (.slice A0_4 l0_4.length c0_4) := (blk_cell BK534.out 4).trans rfl
          have hfz31_0 := blk_frozen BK534.out 0
          have hfz31_1 := blk_frozen BK534.out 1
          have hfz31_2 := blk_frozen BK534.out 2
          have hfz31_3 := blk_frozen BK534.out 3
          have hfz31_4 := blk_frozen BK534.out 4
          try go_wp2
          have n0_ := aM (blk_drew BK534.out)
          have n1_ := aM (blk_drew BK535.out)
          have n2_ := aM (below_drew1 HB.out)
          clear BK534 BK535 HB; have BK534 := n0_; have BK535 := n1_; have HB := n2_; clear n0_ n1_ n2_
          have p536 : 0 ≤ (x5_2 : Int) := of_decide_eq_true (by first | (with_reducible assumption) | assumption)
          have q536 : x5_2 < (l0_3.length : Int) := of_decide_eq_true (by first | (with_reducible assumption) | assumption)
          obtain ⟨ad536, e536, hx536_0⟩ := Kd.at_string HR0_3.out x5_2 p536 q536
          have hw536_0 := hx536_0
          cases e536
          replace hx536_0 := (HB.out.cell (World.block_lt_of_cell? w _ hx536_0)).trans hx536_0
          replace p536 := eq_true p536
          replace q536 := eq_true q536
          have p537 : 0 ≤ (x5_2 : Int) := of_decide_eq_true (by first | (with_reducible assumption) | assumption)
          have q537 : x5_2 < (l1_3.length : Int) := of_decide_eq_true (by first | (with_reducible assumption) | assumption)
          obtain ⟨ad537, e537, hx537_0⟩ := Kd.at_string HR1_3.out x5_2 p537 q537
          have hw537_0 := hx537_0
          cases e537
          replace hx537_0 := (HB.out.cell (World.block_lt_of_cell? w _ hx537_0)).trans hx537_0
          replace p537 := eq_true p537
          replace q537 := eq_true q537
          refine start_ (n := 11) (S := fun w' => w'.cell? ⟨gb534, 0, none⟩ = some (.int .i64 a0_0) ∧ w'.cell? ⟨gb534, 1, none⟩ = some (.int .i64 a0_1) ∧ w'.cell? ⟨gb534, 2, none⟩ = some (.string a0_2) ∧ w'.cell? ⟨gb534, 3, none⟩ = some (.slice (some ad536) l0_3.length c0_3) ∧ w'.cell? ⟨gb534, 4, none⟩ = some (.slice A0_4 l0_4.length c0_4) ∧ w'.cell? ⟨gb535, 0, none⟩ = some (.int .i64 a1_0) ∧ w'.cell? ⟨gb535, 1, none⟩ = some (.int .i64 a1_1) ∧ w'.cell? ⟨gb535, 2, none⟩ = some (.string a1_2) ∧ w'.cell? ⟨gb535, 3, none⟩ = some (.slice (some ad537) l1_3.length c1_3) ∧ w'.cell? ⟨gb535, 4, none⟩ = some (.slice A1_4 l1_4.length c1_4) ∧ w'.cell? (ad536.add (x5_2).toNat) = some (.string (rdOf ByteArray.empty l0_3 x5_2)) ∧ w'.cell? (ad537.add (x5_2).toNat) = some (.string (rdOf ByteArray.empty l1_3 x5_2))) (ds := []) #[false, false, false, false, false, false, false, false, false, false, false] (by kernel_rfl) rfl rfl ⟨(blk_cell BK534.out 0).trans rfl, (blk_cell BK534.out 1).trans rfl, (blk_cell BK534.out 2).trans rfl, (blk_cell BK534.out 3).trans rfl, (blk_cell BK534.out 4).trans rfl, (blk_cell BK535.out 0).trans rfl, (blk_cell BK535.out 1).trans rfl, (blk_cell BK535.out 2).trans rfl, (blk_cell BK535.out 3).trans rfl, (blk_cell BK535.out 4).trans rfl, ((HB.out.cell (World.block_lt_of_cell? w _ hw536_0)).trans hw536_0), ((HB.out.cell (World.block_lt_of_cell? w _ hw537_0)).trans hw537_0)⟩ (fun hHeld => ?_); refine with_tabW spec_Same.tab6 spec_Same.bits6 (fun HT_ HW_ => ?_)
          generalize wr.drew = w32 at BK534 BK535 HB hx536_0 hx537_0 hHeld ⊢
          refine pure_ (i := 0) (N := some 51) (v := ?_) (a' := ?_) #[true, false, false, false, false, false, false, false, false, false, false] rfl rfl (any_of HT_.out (by kernel_rfl)) (fun _ _ _ h => h) (Or.inl ⟨by rfl, ?_⟩) ?_ ?_
          rotate_left
          ·intro w'; go_simp; with_reducible rfl
          rotate_left
          ·simp only [Act.put, sA, sB, sC, i64_w, i32_w]; rfl
          refine pure_ (i := 2) (N := some 53) (v := ?_) (a' := ?_) #[true, false, true, false, false, false, false, false, false, false, false] rfl rfl (any_of HT_.out (by kernel_rfl)) (fun _ _ _ h => h) (Or.inl ⟨by rfl, ?_⟩) ?_ ?_
          rotate_left
          ·intro w'; go_simp; with_reducible rfl
          rotate_left
          ·simp only [Act.put, sA, sB, sC, i64_w, i32_w]; rfl
          refine pure_ (i := 5) (N := some 56) (v := ?_) (a' := ?_) #[true, false, true, false, false, true, false, false, false, false, false] rfl rfl (any_of HT_.out (by kernel_rfl)) (fun _ _ _ h => h) (Or.inl ⟨by rfl, ?_⟩) ?_ ?_
          rotate_left
          ·intro w'; go_simp; with_reducible rfl
          rotate_left
          ·simp only [Act.put, sA, sB, sC, i64_w, i32_w]; rfl
          refine pure_ (i := 7) (N := some 58) (v := ?_) (a' := ?_) #[true, false, true, false, false, true, false, true, false, false, false] rfl rfl (any_of HT_.out (by kernel_rfl)) (fun _ _ _ h => h) (Or.inl ⟨by rfl, ?_⟩) ?_ ?_
          rotate_left
          ·intro w'; go_simp; with_reducible rfl
          rotate_left
          ·simp only [Act.put, sA, sB, sC, i64_w, i32_w]; rfl
          refine take_ (i := 1) (N := some 52) (v := ?_) (a' := ?_) #[true, true, true, false, false, true, false, true, false, false, false] rfl rfl (take_ofW HT_.out HW_.out (by kernel_rfl)) (fun _ _ _ h => h) (Or.inl ⟨by rfl, ?_⟩) hHeld ?_ ?_
          rotate_left
          ·rintro w' ⟨s0, s1, s2, s3, s4, s5, s6, s7, s8, s9, s10, s11⟩
           go_simp; with_reducible rfl
          rotate_left
          ·simp only [Act.put, sA, sB, sC, i64_w, i32_w]; rfl
          refine pure_ (i := 3) (N := some 54) (v := ?_) (a' := ?_) #[true, true, true, true, false, true, false, true, false, false, false] rfl rfl (any_of HT_.out (by kernel_rfl)) (fun _ _ _ h => h) (Or.inl ⟨by rfl, ?_⟩) ?_ ?_
          rotate_left
          ·intro w'; go_simp; with_reducible rfl
          rotate_left
          ·simp only [Act.put, sA, sB, sC, i64_w, i32_w]; rfl
          refine take_ (i := 4) (N := some 55) (v := ?_) (a' := ?_) #[true, true, true, true, true, true, false, true, false, false, false] rfl rfl (take_ofW HT_.out HW_.out (by kernel_rfl)) (fun _ _ _ h => h) (Or.inl ⟨by rfl, ?_⟩) hHeld ?_ ?_
          rotate_left
          ·rintro w' ⟨s0, s1, s2, s3, s4, s5, s6, s7, s8, s9, s10, s11⟩
           go_simp; with_reducible rfl
          rotate_left
          ·simp only [Act.put, sA, sB, sC, i64_w, i32_w]; rfl
          refine take_ (i := 6) (N := some 57) (v := ?_) (a' := ?_) #[true, true, true, true, true, true, true, true, false, false, false] rfl rfl (take_ofW HT_.out HW_.out (by kernel_rfl)) (fun _ _ _ h => h) (Or.inl ⟨by rfl, ?_⟩) hHeld ?_ ?_
          rotate_left
          ·rintro w' ⟨s0, s1, s2, s3, s4, s5, s6, s7, s8, s9, s10, s11⟩
           go_simp; with_reducible rfl
          rotate_left
          ·simp only [Act.put, sA, sB, sC, i64_w, i32_w]; rfl
          refine pure_ (i := 8) (N := some 59) (v := ?_) (a' := ?_) #[true, true, true, true, true, true, true, true, true, false, false] rfl rfl (any_of HT_.out (by kernel_rfl)) (fun _ _ _ h => h) (Or.inl ⟨by rfl, ?_⟩) ?_ ?_
          rotate_left
          ·intro w'; go_simp; with_reducible rfl
          rotate_left
          ·simp only [Act.put, sA, sB, sC, i64_w, i32_w]; rfl
          refine take_ (i := 9) (N := some 60) (v := ?_) (a' := ?_) #[true, true, true, true, true, true, true, true, true, true, false] rfl rfl (take_ofW HT_.out HW_.out (by kernel_rfl)) (fun _ _ _ h => h) (Or.inl ⟨by rfl, ?_⟩) hHeld ?_ ?_
          rotate_left
          ·rintro w' ⟨s0, s1, s2, s3, s4, s5, s6, s7, s8, s9, s10, s11⟩
           go_simp; with_reducible rfl
          rotate_left
          ·simp only [Act.put, sA, sB, sC, i64_w, i32_w]; rfl
          refine pure_ (i := 10) (N := some 61) (v := ?_) (a' := ?_) #[true, true, true, true, true, true, true, true, true, true, true] rfl rfl (any_of HT_.out (by kernel_rfl)) (fun _ _ _ h => h) (Or.inl ⟨by rfl, ?_⟩) ?_ ?_
          rotate_left
          ·intro w'; go_simp; with_reducible rfl
          rotate_left
          ·simp only [Act.put, sA, sB, sC, i64_w, i32_w]; rfl
          refine done_ (done_of HT_.out (by kernel_rfl)) ?_
          try go_wp2
          go_roundg k2
          case measure => have := HJ2.out; have := HK2.out; omega
          case rel => exact ⟨(wrap64 (x5_2 + 1)), (by first | rfl | (simp; done) | (simp [*]; done)), H', ⟨by have := HJ2.out; have := HK2.out; omega⟩, ⟨by (with_reducible repeat (first | refine blk_drewN ?_ _ | refine blk_drew ?_ | refine blk_alloc ?_ _)); exact BK534.out⟩, ⟨by (with_reducible repeat (first | refine blk_drewN ?_ _ | refine blk_drew ?_ | refine blk_alloc ?_ _)); exact BK535.out⟩, ⟨by repeat (first | (with_reducible first | exact HB.out | apply below_alloc | apply pw_below_drewN | apply below_drew1 | refine below_set ?_ GE534.out | refine below_set ?_ GE535.out) | exact HB.out)⟩⟩
         ·rw [if_neg c29] at H
          have c29b0 : ((rdOf ByteArray.empty l0_3 x5_2).toList == (rdOf ByteArray.empty l1_3 x5_2).toList) = false := beq_eq_false_iff_ne.mpr c29
          have c29b1 : ((rdOf ByteArray.empty l0_3 x5_2).toList != (rdOf ByteArray.empty l1_3 x5_2).toList) = true := bne_iff_ne.mpr c29
          obtain rfl := Option.some.inj H
          have hnb33 := NB534_535.out
          have hnc33 := NB535_534.out
          have hcz34_0 : wr.cell? ⟨gb534, 0, none⟩ = some (.int .i64 a0_0) := (blk_cell BK534.out 0).trans rfl
          have hcz34_1 : wr.cell? ⟨gb534, 1, none⟩ = some (.int .i64 a0_1) := (blk_cell BK534.out 1).trans rfl
          have hcz34_2 : wr.cell? ⟨gb534, 2, none⟩ = some (.string a0_2) := (blk_cell BK534.out 2).trans rfl
          have hcz34_3 : wr.cell? ⟨gb534, 3, none⟩ = some (.slice A0_3 l0_3.length c0_3) := (blk_cell BK534.out 3).trans rfl
          have hcz34_4 : wr.cell? ⟨gb534, 4, none⟩ = some (.slice A0_4 l0_4.length c0_4) := (blk_cell BK534.out 4).trans rfl
          have hfz34_0 := blk_frozen BK534.out 0
          have hfz34_1 := blk_frozen BK534.out 1
          have hfz34_2 := blk_frozen BK534.out 2
          have hfz34_3 := blk_frozen BK534.out 3
          have hfz34_4 := blk_frozen BK534.out 4
          try go_wp2
          have n0_ := aM (blk_drew BK534.out)
          have n1_ := aM (blk_drew BK535.out)
          have n2_ := aM (below_drew1 HB.out)
          clear BK534 BK535 HB; have BK534 := n0_; have BK535 := n1_; have HB := n2_; clear n0_ n1_ n2_
          have p536 : 0 ≤ (x5_2 : Int) := of_decide_eq_true (by first | (with_reducible assumption) | assumption)
          have q536 : x5_2 < (l0_3.length : Int) := of_decide_eq_true (by first | (with_reducible assumption) | assumption)
          obtain ⟨ad536, e536, hx536_0⟩ := Kd.at_string HR0_3.out x5_2 p536 q536
          have hw536_0 := hx536_0
          cases e536
          replace hx536_0 := (HB.out.cell (World.block_lt_of_cell? w _ hx536_0)).trans hx536_0
          replace p536 := eq_true p536
          replace q536 := eq_true q536
          have p537 : 0 ≤ (x5_2 : Int) := of_decide_eq_true (by first | (with_reducible assumption) | assumption)
          have q537 : x5_2 < (l1_3.length : Int) := of_decide_eq_true (by first | (with_reducible assumption) | assumption)
          obtain ⟨ad537, e537, hx537_0⟩ := Kd.at_string HR1_3.out x5_2 p537 q537
          have hw537_0 := hx537_0
          cases e537
          replace hx537_0 := (HB.out.cell (World.block_lt_of_cell? w _ hx537_0)).trans hx537_0
          replace p537 := eq_true p537
          replace q537 := eq_true q537
          refine start_ (n := 11) (S := fun w' => w'.cell? ⟨gb534, 0, none⟩ = some (.int .i64 a0_0) ∧ w'.cell? ⟨gb534, 1, none⟩ = some (.int .i64 a0_1) ∧ w'.cell? ⟨gb534, 2, none⟩ = some (.string a0_2) ∧ w'.cell? ⟨gb534, 3, none⟩ = some (.slice (some ad536) l0_3.length c0_3) ∧ w'.cell? ⟨gb534, 4, none⟩ = some (.slice A0_4 l0_4.length c0_4) ∧ w'.cell? ⟨gb535, 0, none⟩ = some (.int .i64 a1_0) ∧ w'.cell? ⟨gb535, 1, none⟩ = some (.int .i64 a1_1) ∧ w'.cell? ⟨gb535, 2, none⟩ = some (.string a1_2) ∧ w'.cell? ⟨gb535, 3, none⟩ = some (.slice (some ad537) l1_3.length c1_3) ∧ w'.cell? ⟨gb535, 4, none⟩ = some (.slice A1_4 l1_4.length c1_4) ∧ w'.cell? (ad536.add (x5_2).toNat) = some (.string (rdOf ByteArray.empty l0_3 x5_2)) ∧ w'.cell? (ad537.add (x5_2).toNat) = some (.string (rdOf ByteArray.empty l1_3 x5_2))) (ds := []) #[false, false, false, false, false, false, false, false, false, false, false] (by kernel_rfl) rfl rfl ⟨(blk_cell BK534.out 0).trans rfl, (blk_cell BK534.out 1).trans rfl, (blk_cell BK534.out 2).trans rfl, (blk_cell BK534.out 3).trans rfl, (blk_cell BK534.out 4).trans rfl, (blk_cell BK535.out 0).trans rfl, (blk_cell BK535.out 1).trans rfl, (blk_cell BK535.out 2).trans rfl, (blk_cell BK535.out 3).trans rfl, (blk_cell BK535.out 4).trans rfl, ((HB.out.cell (World.block_lt_of_cell? w _ hw536_0)).trans hw536_0), ((HB.out.cell (World.block_lt_of_cell? w _ hw537_0)).trans hw537_0)⟩ (fun hHeld => ?_); refine with_tabW spec_Same.tab6 spec_Same.bits6 (fun HT_ HW_ => ?_)
          generalize wr.drew = w35 at BK534 BK535 HB hx536_0 hx537_0 hHeld ⊢
          refine pure_ (i := 0) (N := some 51) (v := ?_) (a' := ?_) #[true, false, false, false, false, false, false, false, false, false, false] rfl rfl (any_of HT_.out (by kernel_rfl)) (fun _ _ _ h => h) (Or.inl ⟨by rfl, ?_⟩) ?_ ?_
          rotate_left
          ·intro w'; go_simp; with_reducible rfl
          rotate_left
          ·simp only [Act.put, sA, sB, sC, i64_w, i32_w]; rfl
          refine pure_ (i := 2) (N := some 53) (v := ?_) (a' := ?_) #[true, false, true, false, false, false, false, false, false, false, false] rfl rfl (any_of HT_.out (by kernel_rfl)) (fun _ _ _ h => h) (Or.inl ⟨by rfl, ?_⟩) ?_ ?_
          rotate_left
          ·intro w'; go_simp; with_reducible rfl
          rotate_left
          ·simp only [Act.put, sA, sB, sC, i64_w, i32_w]; rfl
          refine pure_ (i := 5) (N := some 56) (v := ?_) (a' := ?_) #[true, false, true, false, false, true, false, false, false, false, false] rfl rfl (any_of HT_.out (by kernel_rfl)) (fun _ _ _ h => h) (Or.inl ⟨by rfl, ?_⟩) ?_ ?_
          rotate_left
          ·intro w'; go_simp; with_reducible rfl
          rotate_left
          ·simp only [Act.put, sA, sB, sC, i64_w, i32_w]; rfl
          refine pure_ (i := 7) (N := some 58) (v := ?_) (a' := ?_) #[true, false, true, false, false, true, false, true, false, false, false] rfl rfl (any_of HT_.out (by kernel_rfl)) (fun _ _ _ h => h) (Or.inl ⟨by rfl, ?_⟩) ?_ ?_
          rotate_left
          ·intro w'; go_simp; with_reducible rfl
          rotate_left
          ·simp only [Act.put, sA, sB, sC, i64_w, i32_w]; rfl
          refine take_ (i := 1) (N := some 52) (v := ?_) (a' := ?_) #[true, true, true, false, false, true, false, true, false, false, false] rfl rfl (take_ofW HT_.out HW_.out (by kernel_rfl)) (fun _ _ _ h => h) (Or.inl ⟨by rfl, ?_⟩) hHeld ?_ ?_
          rotate_left
          ·rintro w' ⟨s0, s1, s2, s3, s4, s5, s6, s7, s8, s9, s10, s11⟩
           go_simp; with_reducible rfl
          rotate_left
          ·simp only [Act.put, sA, sB, sC, i64_w, i32_w]; rfl
          refine pure_ (i := 3) (N := some 54) (v := ?_) (a' := ?_) #[true, true, true, true, false, true, false, true, false, false, false] rfl rfl (any_of HT_.out (by kernel_rfl)) (fun _ _ _ h => h) (Or.inl ⟨by rfl, ?_⟩) ?_ ?_
          rotate_left
          ·intro w'; go_simp; with_reducible rfl
          rotate_left
          ·simp only [Act.put, sA, sB, sC, i64_w, i32_w]; rfl
          refine take_ (i := 4) (N := some 55) (v := ?_) (a' := ?_) #[true, true, true, true, true, true, false, true, false, false, false] rfl rfl (take_ofW HT_.out HW_.out (by kernel_rfl)) (fun _ _ _ h => h) (Or.inl ⟨by rfl, ?_⟩) hHeld ?_ ?_
          rotate_left
          ·rintro w' ⟨s0, s1, s2, s3, s4, s5, s6, s7, s8, s9, s10, s11⟩
           go_simp; with_reducible rfl
          rotate_left
          ·simp only [Act.put, sA, sB, sC, i64_w, i32_w]; rfl
          refine take_ (i := 6) (N := some 57) (v := ?_) (a' := ?_) #[true, true, true, true, true, true, true, true, false, false, false] rfl rfl (take_ofW HT_.out HW_.out (by kernel_rfl)) (fun _ _ _ h => h) (Or.inl ⟨by rfl, ?_⟩) hHeld ?_ ?_
          rotate_left
          ·rintro w' ⟨s0, s1, s2, s3, s4, s5, s6, s7, s8, s9, s10, s11⟩
           go_simp; with_reducible rfl
          rotate_left
          ·simp only [Act.put, sA, sB, sC, i64_w, i32_w]; rfl
          refine pure_ (i := 8) (N := some 59) (v := ?_) (a' := ?_) #[true, true, true, true, true, true, true, true, true, false, false] rfl rfl (any_of HT_.out (by kernel_rfl)) (fun _ _ _ h => h) (Or.inl ⟨by rfl, ?_⟩) ?_ ?_
          rotate_left
          ·intro w'; go_simp; with_reducible rfl
          rotate_left
          ·simp only [Act.put, sA, sB, sC, i64_w, i32_w]; rfl
          refine take_ (i := 9) (N := some 60) (v := ?_) (a' := ?_) #[true, true, true, true, true, true, true, true, true, true, false] rfl rfl (take_ofW HT_.out HW_.out (by kernel_rfl)) (fun _ _ _ h => h) (Or.inl ⟨by rfl, ?_⟩) hHeld ?_ ?_
          rotate_left
          ·rintro w' ⟨s0, s1, s2, s3, s4, s5, s6, s7, s8, s9, s10, s11⟩
           go_simp; with_reducible rfl
          rotate_left
          ·simp only [Act.put, sA, sB, sC, i64_w, i32_w]; rfl
          refine pure_ (i := 10) (N := some 61) (v := ?_) (a' := ?_) #[true, true, true, true, true, true, true, true, true, true, true] rfl rfl (any_of HT_.out (by kernel_rfl)) (fun _ _ _ h => h) (Or.inl ⟨by rfl, ?_⟩) ?_ ?_
          rotate_left
          ·intro w'; go_simp; with_reducible rfl
          rotate_left
          ·simp only [Act.put, sA, sB, sC, i64_w, i32_w]; rfl
          refine done_ (done_of HT_.out (by kernel_rfl)) ?_
          try go_wp2
          go_ret
          exact ⟨by first | rfl | (simp [errW_none, errW_some] <;> rfl) | (simp [*, errW_none, errW_some] <;> rfl), by repeat (first | (with_reducible first | exact HB.out | apply below_alloc | apply pw_below_drewN | apply below_drew1 | refine below_set ?_ GE534.out | refine below_set ?_ GE535.out) | exact HB.out)⟩
        ·rw [if_neg c28] at H
         exact absurd H (by simp)
       ·rw [if_neg c27] at H
        exact absurd H (by simp)
      ·rw [if_neg c26] at H
       have c26b0 : decide (x5_2 < (l0_3.length : Int)) = false := decide_eq_false c26
       clear c26
       have H' := aM H
       clear H
       have hnb36 := NB534_535.out
       have hnc36 := NB535_534.out
       have hcz37_0 : wr.cell? ⟨gb534, 0, none⟩ = some (.int .i64 a0_0) := (blk_cell BK534.out 0).trans rfl
       have hcz37_1 : wr.cell? ⟨gb534, 1, none⟩ = some (.int .i64 a0_1) := (blk_cell BK534.out 1).trans rfl
       have hcz37_2 : wr.cell? ⟨gb534, 2, none⟩ = some (.string a0_2) := (blk_cell BK534.out 2).trans rfl
       have hcz37_3 : wr.cell? ⟨gb534, 3, none⟩ = some (.slice A0_3 l0_3.length c0_3) := (blk_cell BK534.out 3).trans rfl
       have hcz37_4 : wr.cell? ⟨gb534, 4, none⟩ = some (.slice A0_4 l0_4.length c0_4) := (blk_cell BK534.out 4).trans rfl
       have hfz37_0 := blk_frozen BK534.out 0
       have hfz37_1 := blk_frozen BK534.out 1
       have hfz37_2 := blk_frozen BK534.out 2
       have hfz37_3 := blk_frozen BK534.out 3
       have hfz37_4 := blk_frozen BK534.out 4
       go_wp2
       go_loopg [6] k2 (fun kq v6 w' => ∃ (x6_3 : Int), v6 = .int .i64 x6_3 ∧ Aside0 (spec_Same.l1 kq x6_3 a0_0 a0_1 a0_2 l0_3 l0_4 a1_0 a1_1 a1_2 l1_3 l1_4 = some r) ∧ Aside0 (kq ≤ k2) ∧ Aside0 (w'.heap[gb534]? = some (.cells #[.int .i64 a0_0, .int .i64 a0_1, .string a0_2, (.slice A0_3 l0_3.length c0_3), (.slice A0_4 l0_4.length c0_4)] 25 (0, 0))) ∧ Aside0 (w'.heap[gb535]? = some (.cells #[.int .i64 a1_0, .int .i64 a1_1, .string a1_2, (.slice A1_3 l1_3.length c1_3), (.slice A1_4 l1_4.length c1_4)] 25 (0, 0))) ∧ Aside0 (Below w.heap.size w w'))
       case atStart => exact ⟨(0), (by first | rfl | (simp; done) | (simp [*]; done)), H', ⟨Nat.le_refl _⟩, ⟨by (with_reducible repeat (first | refine blk_drewN ?_ _ | refine blk_drew ?_ | refine blk_alloc ?_ _)); exact BK534.out⟩, ⟨by (with_reducible repeat (first | refine blk_drewN ?_ _ | refine blk_drew ?_ | refine blk_alloc ?_ _)); exact BK535.out⟩, ⟨by repeat (first | (with_reducible first | exact HB.out | apply below_alloc | apply pw_below_drewN | apply below_drew1 | refine below_set ?_ GE534.out | refine below_set ?_ GE535.out) | exact HB.out)⟩⟩
       case round =>
        clear H'
        try clear c1
        try clear c2
        try clear p2
        try clear c3
        try clear p5
        try clear q5
        try clear hx5
        try clear c6
        try clear c6b0
        try clear c6b1
        try clear p6
        try clear c7
        try clear c7b0
        try clear c7b1
        try clear c8
        try clear c8b0
        try clear c8b1
        try clear c9
        try clear c9b0
        try clear c9b1
        try clear c9b2
        try clear c10
        try clear c13
        try clear c16
        try clear c19
        try clear c22
        try clear c25
        try clear c26
        try clear c26b0
        try clear c27
        try clear c27b0
        try clear c28
        try clear c28b0
        try clear c29
        try clear c29b0
        try clear c29b1
        try clear c30
        try clear c33
        try clear c36
        try clear hcz11_0
        try clear hcz11_1
        try clear hcz11_2
        try clear hcz11_3
        try clear hcz11_4
        try clear hcz12_0
        try clear hcz12_1
        try clear hcz12_2
        try clear hcz12_3
        try clear hcz12_4
        try clear hcz14_0
        try clear hcz14_1
        try clear hcz14_2
        try clear hcz14_3
        try clear hcz14_4
        try clear hcz15_0
        try clear hcz15_1
        try clear hcz15_2
        try clear hcz15_3
        try clear hcz15_4
        try clear hcz17_0
        try clear hcz17_1
        try clear hcz17_2
        try clear hcz17_3
        try clear hcz17_4
        try clear hcz18_0
        try clear hcz18_1
        try clear hcz18_2
        try clear hcz18_3
        try clear hcz18_4
        try clear hcz20_0
        try clear hcz20_1
        try clear hcz20_2
        try clear hcz20_3
        try clear hcz20_4
        try clear hcz21_0
        try clear hcz21_1
        try clear hcz21_2
        try clear hcz21_3
        try clear hcz21_4
        try clear hcz23_0
        try clear hcz23_1
        try clear hcz23_2
        try clear hcz23_3
        try clear hcz23_4
        try clear hcz24_0
        try clear hcz24_1
        try clear hcz24_2
        try clear hcz24_3
        try clear hcz24_4
        try clear hcz31_0
        try clear hcz31_1
        try clear hcz31_2
        try clear hcz31_3
        try clear hcz31_4
        try clear hcz34_0
        try clear hcz34_1
        try clear hcz34_2
        try clear hcz34_3
        try clear hcz34_4
        try clear hcz37_0
        try clear hcz37_1
        try clear hcz37_2
        try clear hcz37_3
        try clear hcz37_4
        try clear hfz11_0
        try clear hfz11_1
        try clear hfz11_2
        try clear hfz11_3
        try clear hfz11_4
        try clear hfz12_0
        try clear hfz12_1
        try clear hfz12_2
        try clear hfz12_3
        try clear hfz12_4
        try clear hfz14_0
        try clear hfz14_1
        try clear hfz14_2
        try clear hfz14_3
        try clear hfz14_4
        try clear hfz15_0
        try clear hfz15_1
        try clear hfz15_2
        try clear hfz15_3
        try clear hfz15_4
        try clear hfz17_0
        try clear hfz17_1
        try clear hfz17_2
        try clear hfz17_3
        try clear hfz17_4
        try clear hfz18_0
        try clear hfz18_1
        try clear hfz18_2
        try clear hfz18_3
        try clear hfz18_4
        try clear hfz20_0
        try clear hfz20_1
        try clear hfz20_2
        try clear hfz20_3
        try clear hfz20_4
        try clear hfz21_0
        try clear hfz21_1
        try clear hfz21_2
        try clear hfz21_3
        try clear hfz21_4
        try clear hfz23_0
        try clear hfz23_1
        try clear hfz23_2
        try clear hfz23_3
        try clear hfz23_4
        try clear hfz24_0
        try clear hfz24_1
        try clear hfz24_2
        try clear hfz24_3
        try clear hfz24_4
        try clear hfz31_0
        try clear hfz31_1
        try clear hfz31_2
        try clear hfz31_3
        try clear hfz31_4
        try clear hfz34_0
        try clear hfz34_1
        try clear hfz34_2
        try clear hfz34_3
        try clear hfz34_4
        try clear hfz37_0
        try clear hfz37_1
        try clear hfz37_2
        try clear hfz37_3
        try clear hfz37_4
        try clear hx536_0
        try clear hx537_0
        try clear p2
        try clear p536
        try clear p537
        try clear q536
        try clear q537
        obtain ⟨x6_3, rfl, HA, HK3, BK534, BK535, HB⟩ := hrel
        cases gk with
        | zero => exact absurd HA.out (by simp [spec_Same.l1])
        | succ k3 =>
         have H := HA.out
         clear HA
         simp only [spec_Same.l1] at H
         by_cases c38 : x6_3 < (l0_4.length : Int)
         ·rw [if_pos c38] at H
          have c38b0 : decide (x6_3 < (l0_4.length : Int)) = true := decide_eq_true c38
          clear c38
          by_cases c39 : 0 ≤ x6_3
          ·rw [if_pos c39] at H
           have c39b0 : decide (0 ≤ x6_3) = true := decide_eq_true c39
           clear c39
           by_cases c40 : x6_3 < (l1_4.length : Int)
           ·rw [if_pos c40] at H
            have c40b0 : decide (x6_3 < (l1_4.length : Int)) = true := decide_eq_true c40
            clear c40
            replace H := Option.bind_eq_some_iff.mp H
            obtain ⟨t540, A410, H⟩ := H
            replace H : (if t540 = true then (spec_Same.l1 k3 (wrap64 (x6_3 + 1)) a0_0 a0_1 a0_2 l0_3 l0_4 a1_0 a1_1 a1_2 l1_3 l1_4) else (some false)) = some r := H
            have A41 := aM A410
            clear A410
            by_cases c42 : t540 = true
            ·subst c42
             have H1 : (spec_Same.l1 k3 (wrap64 (x6_3 + 1)) a0_0 a0_1 a0_2 l0_3 l0_4 a1_0 a1_1 a1_2 l1_3 l1_4) = some r := by rw [if_pos rfl] at H; exact H
             clear H
             have H := H1
             clear H1
             have H' := aM H
             clear H
             have hnb43 := NB534_535.out
             have hnc43 := NB535_534.out
             have hcz44_0 : wr.cell? ⟨gb534, 0, none⟩ = some (.int .i64 a0_0) := (blk_cell BK534.out 0).trans rfl
             have hcz44_1 : wr.cell? ⟨gb534, 1, none⟩ = some (.int .i64 a0_1) := (blk_cell BK534.out 1).trans rfl
             have hcz44_2 : wr.cell? ⟨gb534, 2, none⟩ = some (.string a0_2) := (blk_cell BK534.out 2).trans rfl
             have hcz44_3 : wr.cell? ⟨gb534, 3, none⟩ = some (.slice A0_3 l0_3.length c0_3) := (blk_cell BK534.out 3).trans rfl
             have hcz44_4 : wr.cell? ⟨gb534, 4, none⟩ = some (.slice A0_4 l0_4.length c0_4) := (blk_cell BK534.out 4).trans rfl
             have hfz44_0 := blk_frozen BK534.out 0
             have hfz44_1 := blk_frozen BK534.out 1
             have hfz44_2 := blk_frozen BK534.out 2
             have hfz44_3 := blk_frozen BK534.out 3
             have hfz44_4 := blk_frozen BK534.out 4
             try go_wp2
             have n0_ := aM (blk_drew BK534.out)
             have n1_ := aM (blk_drew BK535.out)
             have n2_ := aM (below_drew1 HB.out)
             clear BK534 BK535 HB; have BK534 := n0_; have BK535 := n1_; have HB := n2_; clear n0_ n1_ n2_
             have p538 : 0 ≤ (x6_3 : Int) := of_decide_eq_true (by first | (with_reducible assumption) | assumption)
             have q538 : x6_3 < (l0_4.length : Int) := of_decide_eq_true (by first | (with_reducible assumption) | assumption)
             obtain ⟨ad538, A538_3, c538_3, A538_4, c538_4, e538, hx538_0, hx538_1, hx538_2, hx538_3, hx538_4, hl538_3, hi538_3, hl538_4, hi538_4⟩ := at_T25 HR0_4.out x6_3 p538 q538
             have hw538_4 := hx538_4
             have hw538_3 := hx538_3
             have hw538_2 := hx538_2
             have hw538_1 := hx538_1
             have hw538_0 := hx538_0
             cases e538
             replace hx538_0 := (HB.out.cell (World.block_lt_of_cell? w _ hx538_0)).trans hx538_0
             replace hx538_1 := (HB.out.cell (World.block_lt_of_cell? w _ hx538_1)).trans hx538_1
             replace hx538_2 := (HB.out.cell (World.block_lt_of_cell? w _ hx538_2)).trans hx538_2
             replace hx538_3 := (HB.out.cell (World.block_lt_of_cell? w _ hx538_3)).trans hx538_3
             replace hx538_4 := (HB.out.cell (World.block_lt_of_cell? w _ hx538_4)).trans hx538_4
             have HR538_3 := aM hi538_3
             have HC538_3 := aM hl538_3
             clear hi538_3 hl538_3
             have HR538_4 := aM hi538_4
             have HC538_4 := aM hl538_4
             clear hi538_4 hl538_4
             replace p538 := eq_true p538
             replace q538 := eq_true q538
             have p539 : 0 ≤ (x6_3 : Int) := of_decide_eq_true (by first | (with_reducible assumption) | assumption)
             have q539 : x6_3 < (l1_4.length : Int) := of_decide_eq_true (by first | (with_reducible assumption) | assumption)
             obtain ⟨ad539, A539_3, c539_3, A539_4, c539_4, e539, hx539_0, hx539_1, hx539_2, hx539_3, hx539_4, hl539_3, hi539_3, hl539_4, hi539_4⟩ := at_T25 HR1_4.out x6_3 p539 q539
             have hw539_4 := hx539_4
             have hw539_3 := hx539_3
             have hw539_2 := hx539_2
             have hw539_1 := hx539_1
             have hw539_0 := hx539_0
             cases e539
             replace hx539_0 := (HB.out.cell (World.block_lt_of_cell? w _ hx539_0)).trans hx539_0
             replace hx539_1 := (HB.out.cell (World.block_lt_of_cell? w _ hx539_1)).trans hx539_1
             replace hx539_2 := (HB.out.cell (World.block_lt_of_cell? w _ hx539_2)).trans hx539_2
             replace hx539_3 := (HB.out.cell (World.block_lt_of_cell? w _ hx539_3)).trans hx539_3
             replace hx539_4 := (HB.out.cell (World.block_lt_of_cell? w _ hx539_4)).trans hx539_4
             have HR539_3 := aM hi539_3
             have HC539_3 := aM hl539_3
             clear hi539_3 hl539_3
             have HR539_4 := aM hi539_4
             have HC539_4 := aM hl539_4
             clear hi539_4 hl539_4
             replace p539 := eq_true p539
             replace q539 := eq_true q539
             refine start_ (n := 12) (S := fun w' => w'.cell? ⟨gb534, 0, none⟩ = some (.int .i64 a0_0) ∧ w'.cell? ⟨gb534, 1, none⟩ = some (.int .i64 a0_1) ∧ w'.cell? ⟨gb534, 2, none⟩ = some (.string a0_2) ∧ w'.cell? ⟨gb534, 3, none⟩ = some (.slice A0_3 l0_3.length c0_3) ∧ w'.cell? ⟨gb534, 4, none⟩ = some (.slice (some ad538) l0_4.length c0_4) ∧ w'.cell? ⟨gb535, 0, none⟩ = some (.int .i64 a1_0) ∧ w'.cell? ⟨gb535, 1, none⟩ = some (.int .i64 a1_1) ∧ w'.cell? ⟨gb535, 2, none⟩ = some (.string a1_2) ∧ w'.cell? ⟨gb535, 3, none⟩ = some (.slice A1_3 l1_3.length c1_3) ∧ w'.cell? ⟨gb535, 4, none⟩ = some (.slice (some ad539) l1_4.length c1_4) ∧ w'.cell? (ad538.add ((x6_3).toNat * 5)) = some (.int .i64 ((rd_T25 l0_4 x6_3).f0)) ∧ w'.cell? ⟨(ad538.add ((x6_3).toNat * 5)).block, (ad538.add ((x6_3).toNat * 5)).off + 1, none⟩ = some (.int .i64 ((rd_T25 l0_4 x6_3).f1)) ∧ w'.cell? ⟨(ad538.add ((x6_3).toNat * 5)).block, (ad538.add ((x6_3).toNat * 5)).off + 2, none⟩ = some (.string ((rd_T25 l0_4 x6_3).f2)) ∧ w'.cell? ⟨(ad538.add ((x6_3).toNat * 5)).block, (ad538.add ((x6_3).toNat * 5)).off + 3, none⟩ = some (.slice A538_3 ((rd_T25 l0_4 x6_3).f3).length c538_3) ∧ w'.cell? ⟨(ad538.add ((x6_3).toNat * 5)).block, (ad538.add ((x6_3).toNat * 5)).off + 4, none⟩ = some (.slice A538_4 ((rd_T25 l0_4 x6_3).f4).length c538_4) ∧ w'.cell? (ad539.add ((x6_3).toNat * 5)) = some (.int .i64 ((rd_T25 l1_4 x6_3).f0)) ∧ w'.cell? ⟨(ad539.add ((x6_3).toNat * 5)).block, (ad539.add ((x6_3).toNat * 5)).off + 1, none⟩ = some (.int .i64 ((rd_T25 l1_4 x6_3).f1)) ∧ w'.cell? ⟨(ad539.add ((x6_3).toNat * 5)).block, (ad539.add ((x6_3).toNat * 5)).off + 2, none⟩ = some (.string ((rd_T25 l1_4 x6_3).f2)) ∧ w'.cell? ⟨(ad539.add ((x6_3).toNat * 5)).block, (ad539.add ((x6_3).toNat * 5)).off + 3, none⟩ = some (.slice A539_3 ((rd_T25 l1_4 x6_3).f3).length c539_3) ∧ w'.cell? ⟨(ad539.add ((x6_3).toNat * 5)).block, (ad539.add ((x6_3).toNat * 5)).off + 4, none⟩ = some (.slice A539_4 ((rd_T25 l1_4 x6_3).f4).length c539_4)) (ds := []) #[false, false, false, false, false, false, false, false, false, false, false, false] (by kernel_rfl) rfl rfl ⟨(blk_cell BK534.out 0).trans rfl, (blk_cell BK534.out 1).trans rfl, (blk_cell BK534.out 2).trans rfl, (blk_cell BK534.out 3).trans rfl, (blk_cell BK534.out 4).trans rfl, (blk_cell BK535.out 0).trans rfl, (blk_cell BK535.out 1).trans rfl, (blk_cell BK535.out 2).trans rfl, (blk_cell BK535.out 3).trans rfl, (blk_cell BK535.out 4).trans rfl, ((HB.out.cell (World.block_lt_of_cell? w _ hw538_0)).trans hw538_0), ((HB.out.cell (World.block_lt_of_cell? w _ hw538_1)).trans hw538_1), ((HB.out.cell (World.block_lt_of_cell? w _ hw538_2)).trans hw538_2), ((HB.out.cell (World.block_lt_of_cell? w _ hw538_3)).trans hw538_3), ((HB.out.cell (World.block_lt_of_cell? w _ hw538_4)).trans hw538_4), ((HB.out.cell (World.block_lt_of_cell? w _ hw539_0)).trans hw539_0), ((HB.out.cell (World.block_lt_of_cell? w _ hw539_1)).trans hw539_1), ((HB.out.cell (World.block_lt_of_cell? w _ hw539_2)).trans hw539_2), ((HB.out.cell (World.block_lt_of_cell? w _ hw539_3)).trans hw539_3), ((HB.out.cell (World.block_lt_of_cell? w _ hw539_4)).trans hw539_4)⟩ (fun hHeld => ?_); refine with_tabW spec_Same.tab11 spec_Same.bits11 (fun HT_ HW_ => ?_)
             generalize wr.drew = w45 at BK534 BK535 HB HR538_3 HR538_4 HR539_3 HR539_4 hx538_0 hx538_1 hx538_2 hx538_3 hx538_4 hx539_0 hx539_1 hx539_2 hx539_3 hx539_4 hHeld ⊢
             refine pure_ (i := 0) (N := some 69) (v := ?_) (a' := ?_) #[true, false, false, false, false, false, false, false, false, false, false, false] rfl rfl (any_of HT_.out (by kernel_rfl)) (fun _ _ _ h => h) (Or.inl ⟨by rfl, ?_⟩) ?_ ?_
             rotate_left
             ·intro w'; go_simp; with_reducible rfl
             rotate_left
             ·simp only [Act.put, sA, sB, sC, i64_w, i32_w]; rfl
             refine pure_ (i := 2) (N := some 71) (v := ?_) (a' := ?_) #[true, false, true, false, false, false, false, false, false, false, false, false] rfl rfl (any_of HT_.out (by kernel_rfl)) (fun _ _ _ h => h) (Or.inl ⟨by rfl, ?_⟩) ?_ ?_
             rotate_left
             ·intro w'; go_simp; with_reducible rfl
             rotate_left
             ·simp only [Act.put, sA, sB, sC, i64_w, i32_w]; rfl
             refine pure_ (i := 5) (N := some 74) (v := ?_) (a' := ?_) #[true, false, true, false, false, true, false, false, false, false, false, false] rfl rfl (any_of HT_.out (by kernel_rfl)) (fun _ _ _ h => h) (Or.inl ⟨by rfl, ?_⟩) ?_ ?_
             rotate_left
             ·intro w'; go_simp; with_reducible rfl
             rotate_left
             ·simp only [Act.put, sA, sB, sC, i64_w, i32_w]; rfl
             refine pure_ (i := 7) (N := some 76) (v := ?_) (a' := ?_) #[true, false, true, false, false, true, false, true, false, false, false, false] rfl rfl (any_of HT_.out (by kernel_rfl)) (fun _ _ _ h => h) (Or.inl ⟨by rfl, ?_⟩) ?_ ?_
             rotate_left
             ·intro w'; go_simp; with_reducible rfl
             rotate_left
             ·simp only [Act.put, sA, sB, sC, i64_w, i32_w]; rfl
             refine take_ (i := 1) (N := some 70) (v := ?_) (a' := ?_) #[true, true, true, false, false, true, false, true, false, false, false, false] rfl rfl (take_ofW HT_.out HW_.out (by kernel_rfl)) (fun _ _ _ h => h) (Or.inl ⟨by rfl, ?_⟩) hHeld ?_ ?_
             rotate_left
             ·rintro w' ⟨s0, s1, s2, s3, s4, s5, s6, s7, s8, s9, s10, s11, s12, s13, s14, s15, s16, s17, s18, s19⟩
              go_simp; with_reducible rfl
             rotate_left
             ·simp only [Act.put, sA, sB, sC, i64_w, i32_w]; rfl
             refine pure_ (i := 3) (N := some 72) (v := ?_) (a' := ?_) #[true, true, true, true, false, true, false, true, false, false, false, false] rfl rfl (any_of HT_.out (by kernel_rfl)) (fun _ _ _ h => h) (Or.inl ⟨by rfl, ?_⟩) ?_ ?_
             rotate_left
             ·intro w'; go_simp; with_reducible rfl
             rotate_left
             ·simp only [Act.put, sA, sB, sC, i64_w, i32_w]; rfl
             refine take_ (i := 4) (N := some 73) (v := ?_) (a' := ?_) #[true, true, true, true, true, true, false, true, false, false, false, false] rfl rfl (take_ofW HT_.out HW_.out (by kernel_rfl)) (fun _ _ _ h => h) (Or.inl ⟨by rfl, ?_⟩) hHeld ?_ ?_
             rotate_left
             ·rintro w' ⟨s0, s1, s2, s3, s4, s5, s6, s7, s8, s9, s10, s11, s12, s13, s14, s15, s16, s17, s18, s19⟩
              go_simp; with_reducible rfl
             rotate_left
             ·simp only [Act.put, sA, sB, sC, i64_w, i32_w]; rfl
             refine take_ (i := 6) (N := some 75) (v := ?_) (a' := ?_) #[true, true, true, true, true, true, true, true, false, false, false, false] rfl rfl (take_ofW HT_.out HW_.out (by kernel_rfl)) (fun _ _ _ h => h) (Or.inl ⟨by rfl, ?_⟩) hHeld ?_ ?_
             rotate_left
             ·rintro w' ⟨s0, s1, s2, s3, s4, s5, s6, s7, s8, s9, s10, s11, s12, s13, s14, s15, s16, s17, s18, s19⟩
              go_simp; with_reducible rfl
             rotate_left
             ·simp only [Act.put, sA, sB, sC, i64_w, i32_w]; rfl
             refine pure_ (i := 8) (N := some 77) (v := ?_) (a' := ?_) #[true, true, true, true, true, true, true, true, true, false, false, false] rfl rfl (any_of HT_.out (by kernel_rfl)) (fun _ _ _ h => h) (Or.inl ⟨by rfl, ?_⟩) ?_ ?_
             rotate_left
             ·intro w'; go_simp; with_reducible rfl
             rotate_left
             ·simp only [Act.put, sA, sB, sC, i64_w, i32_w]; rfl
             refine take_ (i := 9) (N := some 78) (v := ?_) (a' := ?_) #[true, true, true, true, true, true, true, true, true, true, false, false] rfl rfl (take_ofW HT_.out HW_.out (by kernel_rfl)) (fun _ _ _ h => h) (Or.inl ⟨by rfl, ?_⟩) hHeld ?_ ?_
             rotate_left
             ·rintro w' ⟨s0, s1, s2, s3, s4, s5, s6, s7, s8, s9, s10, s11, s12, s13, s14, s15, s16, s17, s18, s19⟩
              go_simp; with_reducible rfl
             rotate_left
             ·simp only [Act.put, sA, sB, sC, i64_w, i32_w]; rfl
             refine one_ (i := 10) (N := some 79) #[true, true, true, true, true, true, true, true, true, true, true, false] rfl rfl (one_of HT_.out (by kernel_rfl)) (by decide) (fun K hK => ?_)
             refine goes_ Tryz.func22 (by kernel_rfl) rfl #[.agg #[.int .i64 ((rd_T25 l0_4 x6_3).f0), .int .i64 ((rd_T25 l0_4 x6_3).f1), .string ((rd_T25 l0_4 x6_3).f2), .slice A538_3 ((rd_T25 l0_4 x6_3).f3).length c538_3, .slice A538_4 ((rd_T25 l0_4 x6_3).f4).length c538_4], .agg #[.int .i64 ((rd_T25 l1_4 x6_3).f0), .int .i64 ((rd_T25 l1_4 x6_3).f1), .string ((rd_T25 l1_4 x6_3).f2), .slice A539_3 ((rd_T25 l1_4 x6_3).f3).length c539_3, .slice A539_4 ((rd_T25 l1_4 x6_3).f4).length c539_4]] (by rfl) rfl rfl (by (try simp only [List.map_toArray, List.map_cons, List.map_nil]); first | done | rfl | (simp only [List.length_drop, List.length_take]; rfl)) ?_
             with_reducible refine (ih k3 (by have := HJ2.out; have := HK2.out; have := HK3.out; omega) ((rd_T25 l0_4 x6_3).f0) ((rd_T25 l0_4 x6_3).f1) ((rd_T25 l0_4 x6_3).f2) _ _ ((rd_T25 l0_4 x6_3).f3) _ _ ((rd_T25 l0_4 x6_3).f4) ((rd_T25 l1_4 x6_3).f0) ((rd_T25 l1_4 x6_3).f1) ((rd_T25 l1_4 x6_3).f2) _ _ ((rd_T25 l1_4 x6_3).f3) _ _ ((rd_T25 l1_4 x6_3).f4) true _ ?side1 ?side2 ?side3 ?side4 ?side5 ?side6 ?side7 ?side8 A41.out).mono ?_
             (case side1 => repeat (first | exact (Kd.C_below HR538_3.out HB.out) | (with_reducible refine Kd.C_alloc ?_ _) | (with_reducible refine Kd.C_drewN ?_ _) | (with_reducible refine Kd.C_drew ?_)))
             (case side2 => exact HC538_3.out)
             (case side3 => repeat (first | exact (Kd.C_below HR538_4.out HB.out) | (with_reducible refine Kd.C_alloc ?_ _) | (with_reducible refine Kd.C_drewN ?_ _) | (with_reducible refine Kd.C_drew ?_)))
             (case side4 => exact HC538_4.out)
             (case side5 => repeat (first | exact (Kd.C_below HR539_3.out HB.out) | (with_reducible refine Kd.C_alloc ?_ _) | (with_reducible refine Kd.C_drewN ?_ _) | (with_reducible refine Kd.C_drew ?_)))
             (case side6 => exact HC539_3.out)
             (case side7 => repeat (first | exact (Kd.C_below HR539_4.out HB.out) | (with_reducible refine Kd.C_alloc ?_ _) | (with_reducible refine Kd.C_drewN ?_ _) | (with_reducible refine Kd.C_drew ?_)))
             (case side8 => exact HC539_4.out)
             rintro e w46 ⟨rfl, hb⟩
             refine ⟨_, rfl, ?_⟩
             have n0_ := aM (blk_below (g := gb534) (o := .cells #[.int .i64 a0_0, .int .i64 a0_1, .string a0_2, .slice A0_3 l0_3.length c0_3, .slice (some ad538) l0_4.length c0_4] 25 (0, 0)) (by (with_reducible repeat (first | refine blk_drewN ?_ _ | refine blk_drew ?_ | refine blk_alloc ?_ _)); exact BK534.out) hb)
             have n1_ := aM (blk_below (g := gb535) (o := .cells #[.int .i64 a1_0, .int .i64 a1_1, .string a1_2, .slice A1_3 l1_3.length c1_3, .slice (some ad539) l1_4.length c1_4] 25 (0, 0)) (by (with_reducible repeat (first | refine blk_drewN ?_ _ | refine blk_drew ?_ | refine blk_alloc ?_ _)); exact BK535.out) hb)
             have n2_ := aM (below_step (by repeat (first | (with_reducible first | exact HB.out | apply below_alloc | apply pw_below_drewN | apply below_drew1 | refine below_set ?_ GE534.out | refine below_set ?_ GE535.out) | exact HB.out)) hb)
             clear BK534 BK535 HB; have BK534 := n0_; have BK535 := n1_; have HB := n2_; clear n0_ n1_ n2_
             (try clear hb)
             (try clear hb2)
             (try clear hk)
             (try clear hi)
             refine hK.out _ _ ⟨(blk_cell BK534.out 0).trans rfl, (blk_cell BK534.out 1).trans rfl, (blk_cell BK534.out 2).trans rfl, (blk_cell BK534.out 3).trans rfl, (blk_cell BK534.out 4).trans rfl, (blk_cell BK535.out 0).trans rfl, (blk_cell BK535.out 1).trans rfl, (blk_cell BK535.out 2).trans rfl, (blk_cell BK535.out 3).trans rfl, (blk_cell BK535.out 4).trans rfl, ((HB.out.cell (World.block_lt_of_cell? w _ hw538_0)).trans hw538_0), ((HB.out.cell (World.block_lt_of_cell? w _ hw538_1)).trans hw538_1), ((HB.out.cell (World.block_lt_of_cell? w _ hw538_2)).trans hw538_2), ((HB.out.cell (World.block_lt_of_cell? w _ hw538_3)).trans hw538_3), ((HB.out.cell (World.block_lt_of_cell? w _ hw538_4)).trans hw538_4), ((HB.out.cell (World.block_lt_of_cell? w _ hw539_0)).trans hw539_0), ((HB.out.cell (World.block_lt_of_cell? w _ hw539_1)).trans hw539_1), ((HB.out.cell (World.block_lt_of_cell? w _ hw539_2)).trans hw539_2), ((HB.out.cell (World.block_lt_of_cell? w _ hw539_3)).trans hw539_3), ((HB.out.cell (World.block_lt_of_cell? w _ hw539_4)).trans hw539_4)⟩ (fun hHeld => ?_)
             clear hK K
             refine norm_ (a' := ?_) ?_ ?_
             rotate_left
             ·show Act.put _ (some 79) _ = _
              simp only [Act.put, sA, sB, sC, i64_w, i32_w]; rfl
             refine pure_ (i := 11) (N := some 80) (v := ?_) (a' := ?_) #[true, true, true, true, true, true, true, true, true, true, true, true] rfl rfl (any_of HT_.out (by kernel_rfl)) (fun _ _ _ h => h) (Or.inl ⟨by rfl, ?_⟩) ?_ ?_
             rotate_left
             ·intro w'; go_simp; with_reducible rfl
             rotate_left
             ·simp only [Act.put, sA, sB, sC, i64_w, i32_w]; rfl
             refine done_ (done_of HT_.out (by kernel_rfl)) ?_
             try go_wp2
             go_roundg k3
             case measure => have := HJ2.out; have := HK2.out; have := HK3.out; omega
             case rel => exact ⟨(wrap64 (x6_3 + 1)), (by first | rfl | (simp; done) | (simp [*]; done)), H', ⟨by have := HJ2.out; have := HK2.out; have := HK3.out; omega⟩, ⟨by (with_reducible repeat (first | refine blk_drewN ?_ _ | refine blk_drew ?_ | refine blk_alloc ?_ _)); exact BK534.out⟩, ⟨by (with_reducible repeat (first | refine blk_drewN ?_ _ | refine blk_drew ?_ | refine blk_alloc ?_ _)); exact BK535.out⟩, ⟨by repeat (first | (with_reducible first | exact HB.out | apply below_alloc | apply pw_below_drewN | apply below_drew1 | refine below_set ?_ GE534.out | refine below_set ?_ GE535.out) | exact HB.out)⟩⟩
            ·replace c42 := Bool.eq_false_iff.mpr c42
             subst c42
             have H1 : (some false) = some r := by rw [if_neg (show ¬ (false = true) by decide)] at H; exact H
             clear H
             have H := H1
             clear H1
             obtain rfl := Option.some.inj H
             have hnb47 := NB534_535.out
             have hnc47 := NB535_534.out
             have hcz48_0 : wr.cell? ⟨gb534, 0, none⟩ = some (.int .i64 a0_0) := (blk_cell BK534.out 0).trans rfl
             have hcz48_1 : wr.cell? ⟨gb534, 1, none⟩ = some (.int .i64 a0_1) := (blk_cell BK534.out 1).trans rfl
             have hcz48_2 : wr.cell? ⟨gb534, 2, none⟩ = some (.string a0_2) := (blk_cell BK534.out 2).trans rfl
             have hcz48_3 : wr.cell? ⟨gb534, 3, none⟩ = some (.slice A0_3 l0_3.length c0_3) := (blk_cell BK534.out 3).trans rfl
             have hcz48_4 : wr.cell? ⟨gb534, 4, none⟩ = some (.slice A0_4 l0_4.length c0_4) := (blk_cell BK534.out 4).trans rfl
             have hfz48_0 := blk_frozen BK534.out 0
             have hfz48_1 := blk_frozen BK534.out 1
             have hfz48_2 := blk_frozen BK534.out 2
             have hfz48_3 := blk_frozen BK534.out 3
             have hfz48_4 := blk_frozen BK534.out 4
             try go_wp2
             have n0_ := aM (blk_drew BK534.out)
             have n1_ := aM (blk_drew BK535.out)
             have n2_ := aM (below_drew1 HB.out)
             clear BK534 BK535 HB; have BK534 := n0_; have BK535 := n1_; have HB := n2_; clear n0_ n1_ n2_
             have p538 : 0 ≤ (x6_3 : Int) := of_decide_eq_true (by first | (with_reducible assumption) | assumption)
             have q538 : x6_3 < (l0_4.length : Int) := of_decide_eq_true (by first | (with_reducible assumption) | assumption)
             obtain ⟨ad538, A538_3, c538_3, A538_4, c538_4, e538, hx538_0, hx538_1, hx538_2, hx538_3, hx538_4, hl538_3, hi538_3, hl538_4, hi538_4⟩ := at_T25 HR0_4.out x6_3 p538 q538
             have hw538_4 := hx538_4
             have hw538_3 := hx538_3
             have hw538_2 := hx538_2
             have hw538_1 := hx538_1
             have hw538_0 := hx538_0
             cases e538
             replace hx538_0 := (HB.out.cell (World.block_lt_of_cell? w _ hx538_0)).trans hx538_0
             replace hx538_1 := (HB.out.cell (World.block_lt_of_cell? w _ hx538_1)).trans hx538_1
             replace hx538_2 := (HB.out.cell (World.block_lt_of_cell? w _ hx538_2)).trans hx538_2
             replace hx538_3 := (HB.out.cell (World.block_lt_of_cell? w _ hx538_3)).trans hx538_3
             replace hx538_4 := (HB.out.cell (World.block_lt_of_cell? w _ hx538_4)).trans hx538_4
             have HR538_3 := aM hi538_3
             have HC538_3 := aM hl538_3
             clear hi538_3 hl538_3
             have HR538_4 := aM hi538_4
             have HC538_4 := aM hl538_4
             clear hi538_4 hl538_4
             replace p538 := eq_true p538
             replace q538 := eq_true q538
             have p539 : 0 ≤ (x6_3 : Int) := of_decide_eq_true (by first | (with_reducible assumption) | assumption)
             have q539 : x6_3 < (l1_4.length : Int) := of_decide_eq_true (by first | (with_reducible assumption) | assumption)
             obtain ⟨ad539, A539_3, c539_3, A539_4, c539_4, e539, hx539_0, hx539_1, hx539_2, hx539_3, hx539_4, hl539_3, hi539_3, hl539_4, hi539_4⟩ := at_T25 HR1_4.out x6_3 p539 q539
             have hw539_4 := hx539_4
             have hw539_3 := hx539_3
             have hw539_2 := hx539_2
             have hw539_1 := hx539_1
             have hw539_0 := hx539_0
             cases e539
             replace hx539_0 := (HB.out.cell (World.block_lt_of_cell? w _ hx539_0)).trans hx539_0
             replace hx539_1 := (HB.out.cell (World.block_lt_of_cell? w _ hx539_1)).trans hx539_1
             replace hx539_2 := (HB.out.cell (World.block_lt_of_cell? w _ hx539_2)).trans hx539_2
             replace hx539_3 := (HB.out.cell (World.block_lt_of_cell? w _ hx539_3)).trans hx539_3
             replace hx539_4 := (HB.out.cell (World.block_lt_of_cell? w _ hx539_4)).trans hx539_4
             have HR539_3 := aM hi539_3
             have HC539_3 := aM hl539_3
             clear hi539_3 hl539_3
             have HR539_4 := aM hi539_4
             have HC539_4 := aM hl539_4
             clear hi539_4 hl539_4
             replace p539 := eq_true p539
             replace q539 := eq_true q539
             refine start_ (n := 12) (S := fun w' => w'.cell? ⟨gb534, 0, none⟩ = some (.int .i64 a0_0) ∧ w'.cell? ⟨gb534, 1, none⟩ = some (.int .i64 a0_1) ∧ w'.cell? ⟨gb534, 2, none⟩ = some (.string a0_2) ∧ w'.cell? ⟨gb534, 3, none⟩ = some (.slice A0_3 l0_3.length c0_3) ∧ w'.cell? ⟨gb534, 4, none⟩ = some (.slice (some ad538) l0_4.length c0_4) ∧ w'.cell? ⟨gb535, 0, none⟩ = some (.int .i64 a1_0) ∧ w'.cell? ⟨gb535, 1, none⟩ = some (.int .i64 a1_1) ∧ w'.cell? ⟨gb535, 2, none⟩ = some (.string a1_2) ∧ w'.cell? ⟨gb535, 3, none⟩ = some (.slice A1_3 l1_3.length c1_3) ∧ w'.cell? ⟨gb535, 4, none⟩ = some (.slice (some ad539) l1_4.length c1_4) ∧ w'.cell? (ad538.add ((x6_3).toNat * 5)) = some (.int .i64 ((rd_T25 l0_4 x6_3).f0)) ∧ w'.cell? ⟨(ad538.add ((x6_3).toNat * 5)).block, (ad538.add ((x6_3).toNat * 5)).off + 1, none⟩ = some (.int .i64 ((rd_T25 l0_4 x6_3).f1)) ∧ w'.cell? ⟨(ad538.add ((x6_3).toNat * 5)).block, (ad538.add ((x6_3).toNat * 5)).off + 2, none⟩ = some (.string ((rd_T25 l0_4 x6_3).f2)) ∧ w'.cell? ⟨(ad538.add ((x6_3).toNat * 5)).block, (ad538.add ((x6_3).toNat * 5)).off + 3, none⟩ = some (.slice A538_3 ((rd_T25 l0_4 x6_3).f3).length c538_3) ∧ w'.cell? ⟨(ad538.add ((x6_3).toNat * 5)).block, (ad538.add ((x6_3).toNat * 5)).off + 4, none⟩ = some (.slice A538_4 ((rd_T25 l0_4 x6_3).f4).length c538_4) ∧ w'.cell? (ad539.add ((x6_3).toNat * 5)) = some (.int .i64 ((rd_T25 l1_4 x6_3).f0)) ∧ w'.cell? ⟨(ad539.add ((x6_3).toNat * 5)).block, (ad539.add ((x6_3).toNat * 5)).off + 1, none⟩ = some (.int .i64 ((rd_T25 l1_4 x6_3).f1)) ∧ w'.cell? ⟨(ad539.add ((x6_3).toNat * 5)).block, (ad539.add ((x6_3).toNat * 5)).off + 2, none⟩ = some (.string ((rd_T25 l1_4 x6_3).f2)) ∧ w'.cell? ⟨(ad539.add ((x6_3).toNat * 5)).block, (ad539.add ((x6_3).toNat * 5)).off + 3, none⟩ = some (.slice A539_3 ((rd_T25 l1_4 x6_3).f3).length c539_3) ∧ w'.cell? ⟨(ad539.add ((x6_3).toNat * 5)).block, (ad539.add ((x6_3).toNat * 5)).off + 4, none⟩ = some (.slice A539_4 ((rd_T25 l1_4 x6_3).f4).length c539_4)) (ds := []) #[false, false, false, false, false, false, false, false, false, false, false, false] (by kernel_rfl) rfl rfl ⟨(blk_cell BK534.out 0).trans rfl, (blk_cell BK534.out 1).trans rfl, (blk_cell BK534.out 2).trans rfl, (blk_cell BK534.out 3).trans rfl, (blk_cell BK534.out 4).trans rfl, (blk_cell BK535.out 0).trans rfl, (blk_cell BK535.out 1).trans rfl, (blk_cell BK535.out 2).trans rfl, (blk_cell BK535.out 3).trans rfl, (blk_cell BK535.out 4).trans rfl, ((HB.out.cell (World.block_lt_of_cell? w _ hw538_0)).trans hw538_0), ((HB.out.cell (World.block_lt_of_cell? w _ hw538_1)).trans hw538_1), ((HB.out.cell (World.block_lt_of_cell? w _ hw538_2)).trans hw538_2), ((HB.out.cell (World.block_lt_of_cell? w _ hw538_3)).trans hw538_3), ((HB.out.cell (World.block_lt_of_cell? w _ hw538_4)).trans hw538_4), ((HB.out.cell (World.block_lt_of_cell? w _ hw539_0)).trans hw539_0), ((HB.out.cell (World.block_lt_of_cell? w _ hw539_1)).trans hw539_1), ((HB.out.cell (World.block_lt_of_cell? w _ hw539_2)).trans hw539_2), ((HB.out.cell (World.block_lt_of_cell? w _ hw539_3)).trans hw539_3), ((HB.out.cell (World.block_lt_of_cell? w _ hw539_4)).trans hw539_4)⟩ (fun hHeld => ?_); refine with_tabW spec_Same.tab11 spec_Same.bits11 (fun HT_ HW_ => ?_)
             generalize wr.drew = w49 at BK534 BK535 HB HR538_3 HR538_4 HR539_3 HR539_4 hx538_0 hx538_1 hx538_2 hx538_3 hx538_4 hx539_0 hx539_1 hx539_2 hx539_3 hx539_4 hHeld ⊢
             refine pure_ (i := 0) (N := some 69) (v := ?_) (a' := ?_) #[true, false, false, false, false, false, false, false, false, false, false, false] rfl rfl (any_of HT_.out (by kernel_rfl)) (fun _ _ _ h => h) (Or.inl ⟨by rfl, ?_⟩) ?_ ?_
             rotate_left
             ·intro w'; go_simp; with_reducible rfl
             rotate_left
             ·simp only [Act.put, sA, sB, sC, i64_w, i32_w]; rfl
             refine pure_ (i := 2) (N := some 71) (v := ?_) (a' := ?_) #[true, false, true, false, false, false, false, false, false, false, false, false] rfl rfl (any_of HT_.out (by kernel_rfl)) (fun _ _ _ h => h) (Or.inl ⟨by rfl, ?_⟩) ?_ ?_
             rotate_left
             ·intro w'; go_simp; with_reducible rfl
             rotate_left
             ·simp only [Act.put, sA, sB, sC, i64_w, i32_w]; rfl
             refine pure_ (i := 5) (N := some 74) (v := ?_) (a' := ?_) #[true, false, true, false, false, true, false, false, false, false, false, false] rfl rfl (any_of HT_.out (by kernel_rfl)) (fun _ _ _ h => h) (Or.inl ⟨by rfl, ?_⟩) ?_ ?_
             rotate_left
             ·intro w'; go_simp; with_reducible rfl
             rotate_left
             ·simp only [Act.put, sA, sB, sC, i64_w, i32_w]; rfl
             refine pure_ (i := 7) (N := some 76) (v := ?_) (a' := ?_) #[true, false, true, false, false, true, false, true, false, false, false, false] rfl rfl (any_of HT_.out (by kernel_rfl)) (fun _ _ _ h => h) (Or.inl ⟨by rfl, ?_⟩) ?_ ?_
             rotate_left
             ·intro w'; go_simp; with_reducible rfl
             rotate_left
             ·simp only [Act.put, sA, sB, sC, i64_w, i32_w]; rfl
             refine take_ (i := 1) (N := some 70) (v := ?_) (a' := ?_) #[true, true, true, false, false, true, false, true, false, false, false, false] rfl rfl (take_ofW HT_.out HW_.out (by kernel_rfl)) (fun _ _ _ h => h) (Or.inl ⟨by rfl, ?_⟩) hHeld ?_ ?_
             rotate_left
             ·rintro w' ⟨s0, s1, s2, s3, s4, s5, s6, s7, s8, s9, s10, s11, s12, s13, s14, s15, s16, s17, s18, s19⟩
              go_simp; with_reducible rfl
             rotate_left
             ·simp only [Act.put, sA, sB, sC, i64_w, i32_w]; rfl
             refine pure_ (i := 3) (N := some 72) (v := ?_) (a' := ?_) #[true, true, true, true, false, true, false, true, false, false, false, false] rfl rfl (any_of HT_.out (by kernel_rfl)) (fun _ _ _ h => h) (Or.inl ⟨by rfl, ?_⟩) ?_ ?_
             rotate_left
             ·intro w'; go_simp; with_reducible rfl
             rotate_left
             ·simp only [Act.put, sA, sB, sC, i64_w, i32_w]; rfl
             refine take_ (i := 4) (N := some 73) (v := ?_) (a' := ?_) #[true, true, true, true, true, true, false, true, false, false, false, false] rfl rfl (take_ofW HT_.out HW_.out (by kernel_rfl)) (fun _ _ _ h => h) (Or.inl ⟨by rfl, ?_⟩) hHeld ?_ ?_
             rotate_left
             ·rintro w' ⟨s0, s1, s2, s3, s4, s5, s6, s7, s8, s9, s10, s11, s12, s13, s14, s15, s16, s17, s18, s19⟩
              go_simp; with_reducible rfl
             rotate_left
             ·simp only [Act.put, sA, sB, sC, i64_w, i32_w]; rfl
             refine take_ (i := 6) (N := some 75) (v := ?_) (a' := ?_) #[true, true, true, true, true, true, true, true, false, false, false, false] rfl rfl (take_ofW HT_.out HW_.out (by kernel_rfl)) (fun _ _ _ h => h) (Or.inl ⟨by rfl, ?_⟩) hHeld ?_ ?_
             rotate_left
             ·rintro w' ⟨s0, s1, s2, s3, s4, s5, s6, s7, s8, s9, s10, s11, s12, s13, s14, s15, s16, s17, s18, s19⟩
              go_simp; with_reducible rfl
             rotate_left
             ·simp only [Act.put, sA, sB, sC, i64_w, i32_w]; rfl
             refine pure_ (i := 8) (N := some 77) (v := ?_) (a' := ?_) #[true, true, true, true, true, true, true, true, true, false, false, false] rfl rfl (any_of HT_.out (by kernel_rfl)) (fun _ _ _ h => h) (Or.inl ⟨by rfl, ?_⟩) ?_ ?_
             rotate_left
             ·intro w'; go_simp; with_reducible rfl
             rotate_left
             ·simp only [Act.put, sA, sB, sC, i64_w, i32_w]; rfl
             refine take_ (i := 9) (N := some 78) (v := ?_) (a' := ?_) #[true, true, true, true, true, true, true, true, true, true, false, false] rfl rfl (take_ofW HT_.out HW_.out (by kernel_rfl)) (fun _ _ _ h => h) (Or.inl ⟨by rfl, ?_⟩) hHeld ?_ ?_
             rotate_left
             ·rintro w' ⟨s0, s1, s2, s3, s4, s5, s6, s7, s8, s9, s10, s11, s12, s13, s14, s15, s16, s17, s18, s19⟩
              go_simp; with_reducible rfl
             rotate_left
             ·simp only [Act.put, sA, sB, sC, i64_w, i32_w]; rfl
             refine one_ (i := 10) (N := some 79) #[true, true, true, true, true, true, true, true, true, true, true, false] rfl rfl (one_of HT_.out (by kernel_rfl)) (by decide) (fun K hK => ?_)
             refine goes_ Tryz.func22 (by kernel_rfl) rfl #[.agg #[.int .i64 ((rd_T25 l0_4 x6_3).f0), .int .i64 ((rd_T25 l0_4 x6_3).f1), .string ((rd_T25 l0_4 x6_3).f2), .slice A538_3 ((rd_T25 l0_4 x6_3).f3).length c538_3, .slice A538_4 ((rd_T25 l0_4 x6_3).f4).length c538_4], .agg #[.int .i64 ((rd_T25 l1_4 x6_3).f0), .int .i64 ((rd_T25 l1_4 x6_3).f1), .string ((rd_T25 l1_4 x6_3).f2), .slice A539_3 ((rd_T25 l1_4 x6_3).f3).length c539_3, .slice A539_4 ((rd_T25 l1_4 x6_3).f4).length c539_4]] (by rfl) rfl rfl (by (try simp only [List.map_toArray, List.map_cons, List.map_nil]); first | done | rfl | (simp only [List.length_drop, List.length_take]; rfl)) ?_
             with_reducible refine (ih k3 (by have := HJ2.out; have := HK2.out; have := HK3.out; omega) ((rd_T25 l0_4 x6_3).f0) ((rd_T25 l0_4 x6_3).f1) ((rd_T25 l0_4 x6_3).f2) _ _ ((rd_T25 l0_4 x6_3).f3) _ _ ((rd_T25 l0_4 x6_3).f4) ((rd_T25 l1_4 x6_3).f0) ((rd_T25 l1_4 x6_3).f1) ((rd_T25 l1_4 x6_3).f2) _ _ ((rd_T25 l1_4 x6_3).f3) _ _ ((rd_T25 l1_4 x6_3).f4) false _ ?side1 ?side2 ?side3 ?side4 ?side5 ?side6 ?side7 ?side8 A41.out).mono ?_
             (case side1 => repeat (first | exact (Kd.C_below HR538_3.out HB.out) | (with_reducible refine Kd.C_alloc ?_ _) | (with_reducible refine Kd.C_drewN ?_ _) | (with_reducible refine Kd.C_drew ?_)))
             (case side2 => exact HC538_3.out)
             (case side3 => repeat (first | exact (Kd.C_below HR538_4.out HB.out) | (with_reducible refine Kd.C_alloc ?_ _) | (with_reducible refine Kd.C_drewN ?_ _) | (with_reducible refine Kd.C_drew ?_)))
             (case side4 => exact HC538_4.out)
             (case side5 => repeat (first | exact (Kd.C_below HR539_3.out HB.out) | (with_reducible refine Kd.C_alloc ?_ _) | (with_reducible refine Kd.C_drewN ?_ _) | (with_reducible refine Kd.C_drew ?_)))
             (case side6 => exact HC539_3.out)
             (case side7 => repeat (first | exact (Kd.C_below HR539_4.out HB.out) | (with_reducible refine Kd.C_alloc ?_ _) | (with_reducible refine Kd.C_drewN ?_ _) | (with_reducible refine Kd.C_drew ?_)))
             (case side8 => exact HC539_4.out)
             rintro e w50 ⟨rfl, hb⟩
             refine ⟨_, rfl, ?_⟩
             have n0_ := aM (blk_below (g := gb534) (o := .cells #[.int .i64 a0_0, .int .i64 a0_1, .string a0_2, .slice A0_3 l0_3.length c0_3, .slice (some ad538) l0_4.length c0_4] 25 (0, 0)) (by (with_reducible repeat (first | refine blk_drewN ?_ _ | refine blk_drew ?_ | refine blk_alloc ?_ _)); exact BK534.out) hb)
             have n1_ := aM (blk_below (g := gb535) (o := .cells #[.int .i64 a1_0, .int .i64 a1_1, .string a1_2, .slice A1_3 l1_3.length c1_3, .slice (some ad539) l1_4.length c1_4] 25 (0, 0)) (by (with_reducible repeat (first | refine blk_drewN ?_ _ | refine blk_drew ?_ | refine blk_alloc ?_ _)); exact BK535.out) hb)
             have n2_ := aM (below_step (by repeat (first | (with_reducible first | exact HB.out | apply below_alloc | apply pw_below_drewN | apply below_drew1 | refine below_set ?_ GE534.out | refine below_set ?_ GE535.out) | exact HB.out)) hb)
             clear BK534 BK535 HB; have BK534 := n0_; have BK535 := n1_; have HB := n2_; clear n0_ n1_ n2_
             (try clear hb)
             (try clear hb2)
             (try clear hk)
             (try clear hi)
             refine hK.out _ _ ⟨(blk_cell BK534.out 0).trans rfl, (blk_cell BK534.out 1).trans rfl, (blk_cell BK534.out 2).trans rfl, (blk_cell BK534.out 3).trans rfl, (blk_cell BK534.out 4).trans rfl, (blk_cell BK535.out 0).trans rfl, (blk_cell BK535.out 1).trans rfl, (blk_cell BK535.out 2).trans rfl, (blk_cell BK535.out 3).trans rfl, (blk_cell BK535.out 4).trans rfl, ((HB.out.cell (World.block_lt_of_cell? w _ hw538_0)).trans hw538_0), ((HB.out.cell (World.block_lt_of_cell? w _ hw538_1)).trans hw538_1), ((HB.out.cell (World.block_lt_of_cell? w _ hw538_2)).trans hw538_2), ((HB.out.cell (World.block_lt_of_cell? w _ hw538_3)).trans hw538_3), ((HB.out.cell (World.block_lt_of_cell? w _ hw538_4)).trans hw538_4), ((HB.out.cell (World.block_lt_of_cell? w _ hw539_0)).trans hw539_0), ((HB.out.cell (World.block_lt_of_cell? w _ hw539_1)).trans hw539_1), ((HB.out.cell (World.block_lt_of_cell? w _ hw539_2)).trans hw539_2), ((HB.out.cell (World.block_lt_of_cell? w _ hw539_3)).trans hw539_3), ((HB.out.cell (World.block_lt_of_cell? w _ hw539_4)).trans hw539_4)⟩ (fun hHeld => ?_)
             clear hK K
             refine norm_ (a' := ?_) ?_ ?_
             rotate_left
             ·show Act.put _ (some 79) _ = _
              simp only [Act.put, sA, sB, sC, i64_w, i32_w]; rfl
             refine pure_ (i := 11) (N := some 80) (v := ?_) (a' := ?_) #[true, true, true, true, true, true, true, true, true, true, true, true] rfl rfl (any_of HT_.out (by kernel_rfl)) (fun _ _ _ h => h) (Or.inl ⟨by rfl, ?_⟩) ?_ ?_
             rotate_left
             ·intro w'; go_simp; with_reducible rfl
             rotate_left
             ·simp only [Act.put, sA, sB, sC, i64_w, i32_w]; rfl
             refine done_ (done_of HT_.out (by kernel_rfl)) ?_
             try go_wp2
             go_ret
             exact ⟨by first | rfl | (simp [errW_none, errW_some] <;> rfl) | (simp [*, errW_none, errW_some] <;> rfl), by repeat (first | (with_reducible first | exact HB.out | apply below_alloc | apply pw_below_drewN | apply below_drew1 | refine below_set ?_ GE534.out | refine below_set ?_ GE535.out) | exact HB.out)⟩
           ·rw [if_neg c40] at H
            exact absurd H (by simp)
          ·rw [if_neg c39] at H
           exact absurd H (by simp)
         ·rw [if_neg c38] at H
          have c38b0 : decide (x6_3 < (l0_4.length : Int)) = false := decide_eq_false c38
          clear c38
          obtain rfl := Option.some.inj H
          have hnb51 := NB534_535.out
          have hnc51 := NB535_534.out
          have hcz52_0 : wr.cell? ⟨gb534, 0, none⟩ = some (.int .i64 a0_0) := (blk_cell BK534.out 0).trans rfl
          have hcz52_1 : wr.cell? ⟨gb534, 1, none⟩ = some (.int .i64 a0_1) := (blk_cell BK534.out 1).trans rfl
          have hcz52_2 : wr.cell? ⟨gb534, 2, none⟩ = some (.string a0_2) := (blk_cell BK534.out 2).trans rfl
          have hcz52_3 : wr.cell? ⟨gb534, 3, none⟩ = some (.slice A0_3 l0_3.length c0_3) := (blk_cell BK534.out 3).trans rfl
          have hcz52_4 : wr.cell? ⟨gb534, 4, none⟩ = some (.slice A0_4 l0_4.length c0_4) := (blk_cell BK534.out 4).trans rfl
          have hfz52_0 := blk_frozen BK534.out 0
          have hfz52_1 := blk_frozen BK534.out 1
          have hfz52_2 := blk_frozen BK534.out 2
          have hfz52_3 := blk_frozen BK534.out 3
          have hfz52_4 := blk_frozen BK534.out 4
          go_wp2
          go_ret
          exact ⟨by first | rfl | (simp [errW_none, errW_some] <;> rfl) | (simp [*, errW_none, errW_some] <;> rfl), by repeat (first | (with_reducible first | exact HB.out | apply below_alloc | apply pw_below_drewN | apply below_drew1 | refine below_set ?_ GE534.out | refine below_set ?_ GE535.out) | exact HB.out)⟩
end Go.Proofs.YtaembebbaejfiaaGreatDoor.PS
namespace Go.Proofs.YtaembebbaejfiaaGreatDoor.Tr
open Go.RowKit Go.Proofs.YtaembebbaejfiaaGreatDoorW.PrintWords Go.Proofs.YtaembebbaejfiaaGreatDoorW.PrintLast Go.Proofs.YtaembebbaejfiaaGreatDoor.Str Go.Proofs.YtaembebbaejfiaaGreatDoor.Kit Go.Proofs.YtaembebbaejfiaaGreatDoor.MapV Go.Proofs.YtaembebbaejfiaaGreatDoor.Frame Go.Proofs.YtaembebbaejfiaaGreatDoor.PS
set_option linter.unusedVariables false
set_option linter.unusedSimpArgs false
inductive Short : VS → Prop
 | mk (x : VS) (hk : x.f3.length ≤ 8796093022000) (hl : x.f4.length ≤ 1759218604400) (hv : ∀ v, v ∈ x.f4 → Short v) : Short x
theorem rdS' {xs : List VS} {i : Nat} (h : i < xs.length) : rd_T25 xs (i : Int) = xs[i] := by
 unfold rd_T25
 simp [List.getD_eq_getElem?_getD, h]
theorem wrapQ (i : Nat) (h : i < 4611686018427387904) : wrap64 ((i : Int) + 1) = ((i + 1 : Nat) : Int) := by unfold wrap64; omega
def SameEv (x : VS) : Prop := Ev (fun k => spec_Same.f k x.f0 x.f1 x.f2 x.f3 x.f4 x.f0 x.f1 x.f2 x.f3 x.f4) true
theorem ev_same_l1 (a b : Int) (c : BA) (ks : List BA) (vs : List VS) (hl : vs.length ≤ 1759218604400) (hch : ∀ v, v ∈ vs → SameEv v) : ∀ (d i : Nat), i + d = vs.length → Ev (fun k => spec_Same.l1 k (i : Int) a b c ks vs a b c ks vs) true := by
 intro d
 induction d with
 | zero =>
  intro i hi
  refine Ev.step (fun k => ?_) (Ev.now _)
  simp only [spec_Same.l1]
  rw [if_neg (by omega)]
 | succ d ih =>
  intro i hi
  have hlt : i < vs.length := by omega
  refine Ev.step (f := fun k => (spec_Same.f k vs[i].f0 vs[i].f1 vs[i].f2 vs[i].f3 vs[i].f4 vs[i].f0 vs[i].f1 vs[i].f2 vs[i].f3 vs[i].f4).bind fun t => if t = true then spec_Same.l1 k ((i + 1 : Nat) : Int) a b c ks vs a b c ks vs else some false) (fun k => ?_) ?_
  ·simp only [spec_Same.l1]
   rw [if_pos (by omega), if_pos (by omega), if_pos (by omega), rdS' hlt, wrapQ i (by omega)]
  ·refine Ev.bind (hch vs[i] (List.getElem_mem hlt)) ?_
   simp only [if_true]
   exact ih (i + 1) (by omega)
theorem ev_same_l0 (a b : Int) (c : BA) (ks : List BA) (vs : List VS) (hk : ks.length ≤ 8796093022000) (hl : vs.length ≤ 1759218604400) (hch : ∀ v, v ∈ vs → SameEv v) : ∀ (d i : Nat), i + d = ks.length → Ev (fun k => spec_Same.l0 k (i : Int) a b c ks vs a b c ks vs) true := by
 intro d
 induction d with
 | zero =>
  intro i hi
  refine Ev.step (f := fun k => spec_Same.l1 k ((0 : Nat) : Int) a b c ks vs a b c ks vs) (fun k => ?_) (ev_same_l1 a b c ks vs hl hch vs.length 0 (by omega))
  simp only [spec_Same.l0]
  rw [if_neg (by omega)]
  rfl
 | succ d ih =>
  intro i hi
  refine Ev.step (f := fun k => spec_Same.l0 k ((i + 1 : Nat) : Int) a b c ks vs a b c ks vs) (fun k => ?_) (ih (i + 1) (by omega))
  simp only [spec_Same.l0]
  rw [if_pos (by omega), if_pos (by omega), if_pos (by omega), if_pos trivial, wrapQ i (by omega)]
theorem ev_same : ∀ x : VS, Short x → SameEv x := by
 intro x hx
 induction hx with
 | mk x hk hl hv ih =>
  obtain ⟨k, n, t, ks, vs⟩ := x
  have h := ev_same_l0 k n t ks vs hk hl ih ks.length 0 (by omega)
  unfold SameEv
  refine Ev.step (f := fun j => spec_Same.j0 j false k n t ks vs k n t ks vs) (fun j => ?_) (Ev.step (f := fun j => spec_Same.l0 j ((0 : Nat) : Int) k n t ks vs k n t ks vs) (fun j => ?_) h)
  ·simp only [spec_Same.f, if_true, bne_self_eq_false]
  ·simp only [spec_Same.j0, if_false, Bool.false_eq_true]
   rfl
end Go.Proofs.YtaembebbaejfiaaGreatDoor.Tr
namespace Go.Proofs.YtaembebbaejfiaaGreatDoor.Tr
open Go.RowKit Go.Proofs.YtaembebbaejfiaaGreatDoorW.PrintWords Go.Proofs.YtaembebbaejfiaaGreatDoorW.PrintLast Go.Proofs.YtaembebbaejfiaaGreatDoor.Str Go.Proofs.YtaembebbaejfiaaGreatDoor.Kit Go.Proofs.YtaembebbaejfiaaGreatDoor.MapV Go.Proofs.YtaembebbaejfiaaGreatDoor.Frame Go.Proofs.YtaembebbaejfiaaGreatDoor.PS
set_option linter.unusedVariables false
set_option linter.unusedSimpArgs false
abbrev kFix (w : World) : Kd VS := held 5 (fun x cs => kS.K w x cs) (fun hp => kS.K_len hp) (fun hp => kS.K_one hp)
structure Reads (w : World) (x : VS) (A3 : Option Addr) (c3 : Nat) (A4 : Option Addr) (c4 : Nat) : Prop where
 l3 : x.f3.length ≤ c3
 hk : Kd.string.C w A3 x.f3.length x.f3
 l4 : x.f4.length ≤ c4
 hv : kS.C w A4 x.f4.length x.f4
theorem Reads.below {w w1 : World} {x : VS} {A3 A4 : Option Addr} {c3 c4 : Nat} (h : Reads w x A3 c3 A4 c4) (hb : Below w.heap.size w w1) : Reads w1 x A3 c3 A4 c4 := ⟨h.l3, Kd.C_below h.hk hb, h.l4, Kd.C_below h.hv hb⟩
def Gives (x : VS) (w : World) (e : Ending) (w' : World) : Prop := ∃ A3 c3 A4 c4, e = .returned (.agg #[.int .i64 x.f0, .int .i64 x.f1, .string x.f2, .slice A3 x.f3.length c3, .slice A4 x.f4.length c4]) ∧ Reads w' x A3 c3 A4 c4 ∧ Below w.heap.size w w'
def mapsOf (ks : List BA) (vs : List VS) : VS := ⟨5, 0, ⟨#[]⟩, (fitW ks vs [] []).1, (fitW ks vs [] []).2⟩
def GivesR (W : World) (x : VS) (w : World) (e : Ending) (w' : World) : Prop := ∃ v3 v4, e = .returned (.agg #[.int .i64 x.f0, .int .i64 x.f1, .string x.f2, v3, v4]) ∧ Kd.string.R 9 w' w.heap.size (fun k => w.heap.size ≤ k) v3 x.f3 ∧ (kFix W).R 25 w' w.heap.size (fun k => w.heap.size ≤ k) v4 x.f4 ∧ Below w.heap.size w w'
theorem fix_reads {W w : World} {x : VS} {v3 v4 : Value} {b3 b4 : Nat} {ok3 ok4 : Nat → Prop} (hb : Below W.heap.size W w) (h3 : Kd.string.R 9 w b3 ok3 v3 x.f3) (h4 : (kFix W).R 25 w b4 ok4 v4 x.f4) : ∃ A3 c3 A4 c4, v3 = .slice A3 x.f3.length c3 ∧ v4 = .slice A4 x.f4.length c4 ∧ Reads w x A3 c3 A4 c4 := by
 obtain ⟨B3, d3, rfl, m3, g3⟩ := Kd.R_reads h3
 obtain ⟨B4, d4, rfl, m4, g4⟩ := Kd.R_reads h4
 exact ⟨B3, d3, B4, d4, rfl, rfl, m3, g3, m4, ReadsRow.imp_ g4 (Below.refl _ _) (fun _ _ hp => kS.K_below hb hp)⟩
abbrev zC : Array Value := #[.int .i64 0, .int .i64 0, .string ⟨#[]⟩, .slice none 0 0, .slice none 0 0]
theorem empty_gives (w : World) : Calls Tryz.prog 17 #[] w fun e w' => e = .returned (.agg #[.int .i64 5, .int .i64 0, .string ⟨#[]⟩, .slice none 0 0, .slice none 0 0]) ∧ Below w.heap.size w w' := by
 have h0 := cb_new w (.cells #[.int .i64 0, .int .i64 0, .string ⟨#[]⟩, .slice none 0 0, .slice none 0 0] 25)
 have HB := aM ((Below.refl _ w).alloc (Nat.le_refl _) (.cells #[.int .i64 0, .int .i64 0, .string ⟨#[]⟩, .slice none 0 0, .slice none 0 0] 25))
 go_enter Tryz.func17, Tryz.ntmps17
 go_wp2_with (refine store_val (.tmp 0) (.tmp 1) rfl rfl rfl rfl h0 ?_)
 exact bodyPost_ret (v := .agg #[.int .i64 5, .int .i64 0, .string ⟨#[]⟩, .slice none 0 0, .slice none 0 0]) (val_result rfl rfl (setRow_heap _ _ _ _ _ _ h0)) rfl ⟨rfl, pw_below_grown HB.out (some w.heap.size) HB.out.size (grown_setRow _ w.heap.size _) (fun k hk => by injection hk with hk; have h2 : w.heap.size = k := hk; omega)⟩
theorem SmallS.short {x : VS} (h : SmallS x) : Short x := by
 induction h with
 | mk x ht hk hkl hvl hv ih => exact .mk x hkl hvl ih
theorem SmallS.at {x v : VS} (h : SmallS x) (hv : v ∈ x.f4) : SmallS v := by
 cases h with
 | mk _ _ _ _ _ h => exact h v hv
theorem Canon.at {x v : VS} (h : Canon x) (hv : v ∈ x.f4) : Canon v := by
 cases h with
 | list l h => exact h v hv
 | map ks vs hr hl h => exact h v hv
 | _ => cases hv
end Go.Proofs.YtaembebbaejfiaaGreatDoor.Tr
namespace Go.Proofs.YtaembebbaejfiaaGreatDoor.Tr
open Go.RowKit Go.Proofs.YtaembebbaejfiaaGreatDoorW.PrintWords Go.Proofs.YtaembebbaejfiaaGreatDoorW.PrintLast Go.Proofs.YtaembebbaejfiaaGreatDoor.Str Go.Proofs.YtaembebbaejfiaaGreatDoor.Kit Go.Proofs.YtaembebbaejfiaaGreatDoor.MapV Go.Proofs.YtaembebbaejfiaaGreatDoor.Frame Go.Proofs.YtaembebbaejfiaaGreatDoor.PS
set_option linter.unusedVariables false
set_option linter.unusedSimpArgs false
theorem need_str (v : Value) (w : World) : (Instr.typeAssert (.iface 9 v) 20 9 false).run Tryz.prog w = .ok v w := by kernel_rfl
theorem need_val (v : Value) (w : World) : (Instr.typeAssert (.iface 25 v) 20 25 false).run Tryz.prog w = .ok v w := by kernel_rfl
def Turnwise (w : World) (b : Nat) (ps : List (BA × VS)) : Prop := b < w.heap.size ∧ ∀ (j : Nat) (hj : j < ps.length), ∃ A5 c5 A6 c6, w.cell? ⟨b, 2 * j, none⟩ = some (.iface 9 (.string ps[j].1)) ∧ w.cell? ⟨b, 2 * j + 1, none⟩ = some (.iface 25 (.agg #[.int .i64 ps[j].2.f0, .int .i64 ps[j].2.f1, .string ps[j].2.f2, .slice A5 ps[j].2.f3.length c5, .slice A6 ps[j].2.f4.length c6]))
 ∧ kS.K w ps[j].2 [.int .i64 ps[j].2.f0, .int .i64 ps[j].2.f1, .string ps[j].2.f2, .slice A5 ps[j].2.f3.length c5, .slice A6 ps[j].2.f4.length c6]
theorem Turnwise.below {w w1 : World} {b : Nat} {ps : List (BA × VS)} (h : Turnwise w b ps) (hb : Below w.heap.size w w1) : Turnwise w1 b ps :=
 ⟨Nat.lt_of_lt_of_le h.1 hb.size, fun j hj => by
  obtain ⟨A5, c5, A6, c6, h1, h2, h3⟩ := h.2 j hj
  exact ⟨A5, c5, A6, c6, pw_cell_below hb h1, pw_cell_below hb h2, kS.K_below hb h3⟩⟩
set_option maxHeartbeats 6400000 in
set_option maxRecDepth 100000 in
theorem specM (ps : List (BA × VS)) (hps : ps.length ≤ 1000000) (b n c : Nat) (hn : n = 2 * ps.length) (w : World) (h : Turnwise w b ps) :
  Calls Tryz.prog 13 #[.slice (some ⟨b, 0, none⟩) n c] w (GivesR w (mapsOf (ps.map (·.1)) (ps.map (·.2))) w) := by
 obtain ⟨KF, VF, hF⟩ : ∃ KF VF, fitW (ps.map (·.1)) (ps.map (·.2)) [] [] = (KF, VF) := ⟨_, _, rfl⟩
 have hgoal : mapsOf (ps.map (·.1)) (ps.map (·.2)) = ⟨5, 0, ⟨#[]⟩, KF, VF⟩ := by unfold mapsOf; rw [hF]
 rw [hgoal]
 have HB := aM (below_alloc (Below.refl w.heap.size w) (.cells zC 25))
 have hrb := cb_new w (.cells zC 25)
 have HR0 := aM hrb
 have HT := aM h
 have HF := aM hF
 have HN := aM hn
 have HPS := aM hps
 have hbw := h.1
 clear h hgoal hrb hF hn hps
 have CE := aM (empty_gives (w.alloc (.cells zC 25)))
 go_enter Tryz.func13, Tryz.ntmps13
 go_wp2_with fail
 refine CE.out.mono ?_
 rintro e w1 ⟨rfl, hb⟩
 have hbn := below_alloc (Below.refl w1.heap.size w1) (.cells #[.int .i64 5, .int .i64 0, .string ⟨#[]⟩, .slice none 0 0, .slice none 0 0] 25)
 have hsz1 := hb.size
 rw [World.size_alloc] at hsz1
 have HB2 := aM (hb_then (hb_then HB.out hb) hbn)
 have HR2 := aM (blk_alloc ((hb.block _ (cb_lt HR0.out)).trans HR0.out) (.cells #[.int .i64 5, .int .i64 0, .string ⟨#[]⟩, .slice none 0 0, .slice none 0 0] 25))
 have HG2 := aM (cb_new w1 (.cells #[.int .i64 5, .int .i64 0, .string ⟨#[]⟩, .slice none 0 0, .slice none 0 0] 25))
 clear hb hbn CE HB HR0
 go_wp2
 generalize hW2 : w1.alloc _ = W2 at HB2 HR2 HG2 ⊢
 generalize hb3 : w1.heap.size = b3 at HG2 hsz1 ⊢
 clear hW2 hb3
 go_loopw [4] (fun v wr => ∃ (i m : Nat) (Ks : List BA) (Vs : List VS) (A7 A8 : Option Addr) (c7 c8 : Nat), v = .int .i64 m ∧ Aside0 (m = 2 * i) ∧ Aside0 (i ≤ ps.length) ∧ Aside0 (Ks.length = Vs.length) ∧ Aside0 (Vs.length ≤ i) ∧ Aside0 (fitW ((ps.map (·.1)).drop i) ((ps.map (·.2)).drop i) Ks Vs = (KF, VF))
  ∧ Aside0 (wr.heap[b3]? = some (.cells #[.int .i64 5, .int .i64 0, .string ⟨#[]⟩, .slice A7 Ks.length c7, .slice A8 Vs.length c8] 25 (0, 0)))
  ∧ Aside0 (wr.heap[w.heap.size]? = some (.cells zC 25 (0, 0))) ∧ Aside0 (Below w.heap.size w wr)
  ∧ Aside0 (Kd.string.R 9 wr b3 (fun k => b3 < k) (.slice A7 Ks.length c7) Ks)
  ∧ Aside0 ((kFix w).R 25 wr b3 (fun k => b3 < k) (.slice A8 Vs.length c8) Vs)) (fun v _ => n - (intOf v).toNat)
 case atStart => exact ⟨0, 0, [], [], none, none, 0, 0, rfl, ⟨rfl⟩, ⟨Nat.zero_le _⟩, ⟨rfl⟩, ⟨Nat.le_refl _⟩, HF, HG2, HR2, HB2, ⟨Kd.R_nil _ _ _ _ _⟩, ⟨Kd.R_nil _ _ _ _ _⟩⟩
 case round =>
  clear HG2 HR2 HB2
  obtain ⟨i, m, Ks, Vs, A7, A8, c7, c8, rfl, HM, HI, HKV, HVI, HFI, HG, HR, HB, HK, HV⟩ := hrel
  have q0 : (0 : Int) ≤ (m : Int) := by omega
  by_cases hlv : i < ps.length
  ·obtain ⟨A5, c5, A6, c6, h1, h2, h3⟩ := HT.out.2 i hlv
   have m0 := pw_cell_below HB.out h1
   have m1 := pw_cell_below HB.out h2
   rw [← HM.out] at m0 m1
   obtain ⟨key, hkey⟩ : ∃ key, ps[i].1 = key := ⟨_, rfl⟩
   obtain ⟨u, hu⟩ : ∃ u, ps[i].2 = u := ⟨_, rfl⟩
   rw [hkey] at m0
   rw [hu] at m1 h3
   have HU := aM (show ∃ h : i < ps.length, ps[i].1 = key ∧ ps[i].2 = u from ⟨hlv, hkey, hu⟩)
   obtain ⟨u0, u1, u2, u3, u4⟩ := u
   have HKE := aM h3
   have HLV := aM hlv
   have q1 : (m : Int) + 1 < (n : Int) := by have := HM.out; have := HN.out; omega
   have q3 : (m : Int) < (n : Int) := by omega
   have q4 : (0 : Int) ≤ (m : Int) + 1 := by omega
   have q6 : ((m : Int) + 1).toNat = m + 1 := by omega
   have hd1 : decide ((m : Int) + 1 < (n : Int)) = true := decide_eq_true q1
   have e0 : wr.cell? ⟨b3, 0, none⟩ = some (.int .i64 5) := cb_cell (i := 0) HG.out rfl
   have e1 : wr.cell? ⟨b3, 1, none⟩ = some (.int .i64 0) := cb_cell (i := 1) HG.out rfl
   have e2 : wr.cell? ⟨b3, 2, none⟩ = some (.string ⟨#[]⟩) := cb_cell (i := 2) HG.out rfl
   have e3 : wr.cell? ⟨b3, 3, none⟩ = some (.slice A7 Ks.length c7) := cb_cell (i := 3) HG.out rfl
   have e4 : wr.cell? ⟨b3, 4, none⟩ = some (.slice A8 Vs.length c8) := cb_cell (i := 4) HG.out rfl
   have hvn : Vs.length ≤ 1759218604400 := by have := HVI.out; have := HI.out; have := HPS.out; omega
   obtain ⟨_, l7, r7⟩ := Kd.R_reads' HK.out
   obtain ⟨_, l8, r8⟩ := Kd.R_reads' HV.out
   obtain ⟨K2, hK2⟩ : ∃ K2, withK Ks key = K2 := ⟨_, rfl⟩
   obtain ⟨V2, hV2⟩ : ∃ V2, withV Ks Vs key (⟨u0, u1, u2, u3, u4⟩ : VS) = V2 := ⟨_, rfl⟩
   have hl1 := withV_length (key := key) (x := (⟨u0, u1, u2, u3, u4⟩ : VS)) HKV.out
   have hl2 := withK_length (ks := Ks) (key := key)
   rw [hK2] at hl1 hl2
   rw [hV2] at hl1
   have HL1 := aM hl1.symm
   have HL2 := aM (show V2.length ≤ i + 1 by have := HVI.out; have := HKV.out; omega)
   have HNX := aM (show fitW ((ps.map (·.1)).drop (i + 1)) ((ps.map (·.2)).drop (i + 1)) K2 V2 = (KF, VF) by
    have := HFI.out
    rw [List.drop_eq_getElem_cons (show i < (ps.map (·.1)).length by rw [List.length_map]; exact hlv), List.drop_eq_getElem_cons (show i < (ps.map (·.2)).length by rw [List.length_map]; exact hlv), List.getElem_map, List.getElem_map, hkey, hu, fitW, hK2, hV2] at this
    exact this)
   have CW := aM (WithP (fun x cs => kS.K w x cs) (fun hp => kS.K_len hp) (fun hp => kS.K_one hp) (A3 := A7) (A4 := A8) (c3 := c7) (c4 := c8) (A5 := A5) (A6 := A6) (c5 := c5) (c6 := c6) 5 0 ⟨#[]⟩ Ks Vs key (⟨u0, u1, u2, u3, u4⟩ : VS) wr.drew (Kd.C_below r7 (below_drew (Below.refl _ _))) (ReadsRow.imp_ r8 (below_drew (Below.refl _ _)) (fun _ _ hp => hp)) HKE.out HKV.out hvn K2 V2 hK2 hV2)
   have HLT := aM (cb_lt HG.out)
   have q5 : wrap64 ((m : Int) + 1) = (m : Int) + 1 := by have := HPS.out; have := HN.out; unfold wrap64; omega
   have ns := need_str
   have nv := need_val
   clear h1 h2 h3 hkey hu hl1 hl2 hK2 hV2 l7 r7 l8 r8 hlv hvn
   go_wp2_with fail
   refine start_ (n := 14) (S := fun w' => w'.cell? ⟨b3, 0, none⟩ = some (.int .i64 5) ∧ w'.cell? ⟨b3, 1, none⟩ = some (.int .i64 0) ∧ w'.cell? ⟨b3, 2, none⟩ = some (.string ⟨#[]⟩) ∧ w'.cell? ⟨b3, 3, none⟩ = some (.slice A7 Ks.length c7) ∧ w'.cell? ⟨b3, 4, none⟩ = some (.slice A8 Vs.length c8) ∧ w'.cell? ⟨b, m, none⟩ = some (.iface 9 (.string key)) ∧ w'.cell? ⟨b, m + 1, none⟩ = some (.iface 25 (.agg #[.int .i64 u0, .int .i64 u1, .string u2, .slice A5 u3.length c5, .slice A6 u4.length c6]))) (ds := [12, 13]) #[false, false, false, false, false, false, false, false, false, false, false, false, false, false] (by kernel_rfl) rfl rfl ⟨e0, e1, e2, e3, e4, m0, m1⟩ (fun hHeld => ?_)
   refine pure_ (i := 1) (N := some 14) (v := ?_) (a' := ?_) #[false, true, false, false, false, false, false, false, false, false, false, false, false, false] rfl rfl (by kernel_rfl) (fun _ _ _ h => h) (Or.inl ⟨by rfl, ?_⟩) ?_ ?_
   rotate_left
   ·intro w'; go_simp; with_reducible rfl
   rotate_left
   ·simp only [Act.put, sA, sB, sC, i64_w, i32_w]; rfl
   refine pure_ (i := 2) (N := some 15) (v := ?_) (a' := ?_) #[false, true, true, false, false, false, false, false, false, false, false, false, false, false] rfl rfl (by kernel_rfl) (fun _ _ _ h => h) (Or.inl ⟨by rfl, ?_⟩) ?_ ?_
   rotate_left
   ·intro w'; go_simp; with_reducible rfl
   rotate_left
   ·simp only [Act.put, sA, sB, sC, i64_w, i32_w]; rfl
   refine pure_ (i := 3) (N := some 16) (v := ?_) (a' := ?_) #[false, true, true, true, false, false, false, false, false, false, false, false, false, false] rfl rfl (by kernel_rfl) (fun _ _ _ h => h) (Or.inl ⟨by rfl, ?_⟩) ?_ ?_
   rotate_left
   ·intro w'; go_simp; with_reducible rfl
   rotate_left
   ·simp only [Act.put, sA, sB, sC, i64_w, i32_w]; rfl
   refine pure_ (i := 6) (N := some 19) (v := ?_) (a' := ?_) #[false, true, true, true, false, false, true, false, false, false, false, false, false, false] rfl rfl (by kernel_rfl) (fun _ _ _ h => h) (Or.inl ⟨by rfl, ?_⟩) ?_ ?_
   rotate_left
   ·intro w'; go_simp; with_reducible rfl
   rotate_left
   ·simp only [Act.put, sA, sB, sC, i64_w, i32_w]; rfl
   refine pure_ (i := 7) (N := some 20) (v := ?_) (a' := ?_) #[false, true, true, true, false, false, true, true, false, false, false, false, false, false] rfl rfl (by kernel_rfl) (fun _ _ _ h => h) (Or.inl ⟨by rfl, ?_⟩) ?_ ?_
   rotate_left
   ·intro w'; go_simp; with_reducible rfl
   rotate_left
   ·simp only [Act.put, sA, sB, sC, i64_w, i32_w]; rfl
   refine pure_ (i := 8) (N := some 21) (v := ?_) (a' := ?_) #[false, true, true, true, false, false, true, true, true, false, false, false, false, false] rfl rfl (by kernel_rfl) (fun _ _ _ h => h) (Or.inl ⟨by rfl, ?_⟩) ?_ ?_
   rotate_left
   ·intro w'; go_simp; with_reducible rfl
   rotate_left
   ·simp only [Act.put, sA, sB, sC, i64_w, i32_w]; rfl
   refine pure_ (i := 9) (N := some 22) (v := ?_) (a' := ?_) #[false, true, true, true, false, false, true, true, true, true, false, false, false, false] rfl rfl (by kernel_rfl) (fun _ _ _ h => h) (Or.inl ⟨by rfl, ?_⟩) ?_ ?_
   rotate_left
   ·intro w'; go_simp; with_reducible rfl
   rotate_left
   ·simp only [Act.put, sA, sB, sC, i64_w, i32_w]; rfl
   refine take_ (i := 0) (N := some 13) (v := ?_) (a' := ?_) #[true, true, true, true, false, false, true, true, true, true, false, false, false, false] rfl rfl (by kernel_rfl) (fun _ _ _ h => h) (Or.inl ⟨by rfl, ?_⟩) hHeld ?_ ?_
   rotate_left
   ·rintro w' ⟨s0, s1, s2, s3, s4, s5, s6⟩
    go_simp; with_reducible rfl
   rotate_left
   ·simp only [Act.put, sA, sB, sC, i64_w, i32_w]; rfl
   refine take_ (i := 4) (N := some 17) (v := ?_) (a' := ?_) #[true, true, true, true, true, false, true, true, true, true, false, false, false, false] rfl rfl (by kernel_rfl) (fun _ _ _ h => h) (Or.inl ⟨by rfl, ?_⟩) hHeld ?_ ?_
   rotate_left
   ·rintro w' ⟨s0, s1, s2, s3, s4, s5, s6⟩
    go_simp; with_reducible rfl
   rotate_left
   ·simp only [Act.put, sA, sB, sC, i64_w, i32_w]; rfl
   refine pure_ (i := 5) (N := some 18) (v := ?_) (a' := ?_) #[true, true, true, true, true, true, true, true, true, true, false, false, false, false] rfl rfl (by kernel_rfl) (fun _ _ _ h => h) (Or.inl ⟨by rfl, ?_⟩) ?_ ?_
   rotate_left
   ·intro w'; go_simp; with_reducible rfl
   rotate_left
   ·simp only [Act.put, sA, sB, sC, i64_w, i32_w]; rfl
   refine take_ (i := 10) (N := some 23) (v := ?_) (a' := ?_) #[true, true, true, true, true, true, true, true, true, true, true, false, false, false] rfl rfl (by kernel_rfl) (fun _ _ _ h => h) (Or.inl ⟨by rfl, ?_⟩) hHeld ?_ ?_
   rotate_left
   ·rintro w' ⟨s0, s1, s2, s3, s4, s5, s6⟩
    go_simp; with_reducible rfl
   rotate_left
   ·simp only [Act.put, sA, sB, sC, i64_w, i32_w]; rfl
   refine pure_ (i := 11) (N := some 24) (v := ?_) (a' := ?_) #[true, true, true, true, true, true, true, true, true, true, true, true, false, false] rfl rfl (by kernel_rfl) (fun _ _ _ h => h) (Or.inl ⟨by rfl, ?_⟩) ?_ ?_
   rotate_left
   ·intro w'; go_simp; with_reducible rfl
   rotate_left
   ·simp only [Act.put, sA, sB, sC, i64_w, i32_w]; rfl
   refine last_ (i := 12) (N := some 25) #[true, true, true, true, true, true, true, true, true, true, true, true, true, false] rfl rfl (by kernel_rfl) (by decide) (fun K hK => ?_)
   refine goes_ Tryz.func18 (by kernel_rfl) rfl #[.agg #[.int .i64 5, .int .i64 0, .string ⟨#[]⟩, .slice A7 Ks.length c7, .slice A8 Vs.length c8], .string key, .agg #[.int .i64 u0, .int .i64 u1, .string u2, .slice A5 u3.length c5, .slice A6 u4.length c6]] (by rfl) rfl rfl (by simp only [List.map_toArray, List.map_cons, List.map_nil]; rfl) ?_
   with_reducible refine (CW.out).mono ?_
   rintro e w4 ⟨B7, d7, B8, d8, rfl, k1, k2, hb⟩
   refine ⟨_, rfl, ?_⟩
   refine hK.out _ _ ?_
   clear hK K
   refine norm_ (a' := ?_) ?_ ?_
   rotate_left
   ·show Act.put _ (some 25) _ = _
    simp only [Act.put, sA, sB, sC, i64_w, i32_w]; rfl
   refine last_ (i := 13) (N := none) #[true, true, true, true, true, true, true, true, true, true, true, true, true, true] rfl rfl (by kernel_rfl) (by decide) (fun K hK => ?_)
   have HB4 := aM (hb_then (below_drew HB.out) hb)
   have HG4 := aM ((hb.block _ (cb_lt (show wr.drew.heap[b3]? = _ from HG.out))).trans HG.out)
   have HR4 := aM ((hb.block _ (cb_lt (show wr.drew.heap[w.heap.size]? = _ from HR.out))).trans HR.out)
   refine store_row_step (w := w4) rfl rfl 25 (.tmp 3) (.tmp 25) rfl b3 #[.int .i64 5, .int .i64 0, .string ⟨#[]⟩, .slice B7 K2.length d7, .slice B8 V2.length d8] rfl rfl 25 _ HG4.out val_size rfl (val_one _ _ _ _ _ _ _ _ _) ?_
   refine hK.out _ _ ?_
   clear hK K
   refine done_ (by kernel_rfl) ?_
   have hlw : b3 < wr.drew.heap.size := HLT.out
   have hg := grown_setRow w4 b3 #[.int .i64 5, .int .i64 0, .string ⟨#[]⟩, .slice B7 K2.length d7, .slice B8 V2.length d8]
   have HG5 := aM (setRow_heap w4 b3 _ #[.int .i64 5, .int .i64 0, .string ⟨#[]⟩, .slice B7 K2.length d7, .slice B8 V2.length d8] _ _ HG4.out)
   have HR5 := aM ((setRow_other w4 b3 w.heap.size #[.int .i64 5, .int .i64 0, .string ⟨#[]⟩, .slice B7 K2.length d7, .slice B8 V2.length d8] (by omega)).trans HR4.out)
   have HB5 := aM (pw_below_grown HB4.out (some b3) HB4.out.size hg (fun k hk => by injection hk with hk; omega))
   have HK5 := aM (Kd.R_grown (Kd.R_lower (Kd.R_mono (Kd.R_bound k1) (ok' := fun k => b3 < k) (fun k h => Nat.lt_of_lt_of_le hlw h.2.1)) (Nat.le_of_lt hlw)) hg (fun k hk e => by injection e with e; omega))
   have HV5 := aM (Kd.R_grown (Kd.R_lower (Kd.R_mono (Kd.R_bound k2) (ok' := fun k => b3 < k) (fun k h => Nat.lt_of_lt_of_le hlw h.2.1)) (Nat.le_of_lt hlw)) hg (fun k hk e => by injection e with e; omega))
   clear hg k1 k2 HG4 HR4 HB4 hHeld hb hlw e0 e1 e2 e3 e4 m0 m1 q5
   have q7 : wrap64 ((m : Int) + 2) = ((m + 2 : Nat) : Int) := by have := HM.out; have := HLV.out; have := HPS.out; unfold wrap64; omega
   generalize w4.setRow b3 #[.int .i64 5, .int .i64 0, .string ⟨#[]⟩, .slice B7 K2.length d7, .slice B8 V2.length d8] = w5 at HG5 HR5 HB5 HK5 HV5 ⊢
   go_wp2
   go_roundw
   case rel => exact ⟨i + 1, m + 2, K2, V2, B7, B8, d7, d8, congrArg (Value.int .i64) q7, ⟨by have := HM.out; clear q7; omega⟩, ⟨HLV.out⟩, HL1, HL2, HNX, HG5, HR5, HB5, HK5, HV5⟩
   case measure =>
    rw [q7]
    clear q7
    have h1 := HM.out
    have h2 := HN.out
    have h3 := HLV.out
    simp [intOf]
    omega
  ·have hil : i = ps.length := by have := HI.out; omega
   have q1 : ¬ (m : Int) + 1 < (n : Int) := by have := HM.out; have := HN.out; omega
   have q5 : wrap64 ((m : Int) + 1) = (m : Int) + 1 := by have h1 := HM.out; have h2 := HI.out; have h3 := HPS.out; unfold wrap64; omega
   have hd1 : decide ((m : Int) + 1 < (n : Int)) = false := decide_eq_false q1
   have hF1 : (Ks, Vs) = (KF, VF) := by
    have := HFI.out
    rw [List.drop_eq_nil_of_le (show (ps.map (·.1)).length ≤ i by rw [List.length_map]; omega), List.drop_eq_nil_of_le (show (ps.map (·.2)).length ≤ i by rw [List.length_map]; omega)] at this
    exact this
   obtain ⟨rfl, rfl⟩ := Prod.mk.inj hF1
   clear hF1 hil q1
   go_wp2_with (first | refine load_val (.tmp 3) rfl rfl rfl HG.out ?_ | refine store_val (.tmp 2) (.tmp 26) rfl rfl rfl rfl HR.out ?_)
   clear q5
   have hg := grown_setRow wr w.heap.size #[.int .i64 5, .int .i64 0, .string ⟨#[]⟩, .slice A7 Ks.length c7, .slice A8 Vs.length c8]
   have h5 := setRow_heap wr w.heap.size _ #[.int .i64 5, .int .i64 0, .string ⟨#[]⟩, .slice A7 Ks.length c7, .slice A8 Vs.length c8] _ _ HR.out
   have hB := pw_below_grown HB.out (some w.heap.size) HB.out.size hg (fun k hk => by injection hk with hk; have h2 : w.heap.size = k := hk; omega)
   have hK := Kd.R_grown HK.out hg (fun k hk e => by injection e with e; omega)
   have hV := Kd.R_grown HV.out hg (fun k hk e => by injection e with e; omega)
   exact bodyPost_ret (v := .agg #[.int .i64 5, .int .i64 0, .string ⟨#[]⟩, .slice A7 Ks.length c7, .slice A8 Vs.length c8]) (val_result rfl rfl h5) rfl ⟨_, _, rfl, Kd.R_lower (Kd.R_mono hK (fun k hk => by omega)) (by omega), Kd.R_lower (Kd.R_mono hV (fun k hk => by omega)) (by omega), hB⟩
end Go.Proofs.YtaembebbaejfiaaGreatDoor.Tr
namespace Go.Proofs.YtaembebbaejfiaaGreatDoor.PS
open Go.RowKit Go.Proofs.YtaembebbaejfiaaGreatDoorW.PrintWords Go.Proofs.YtaembebbaejfiaaGreatDoorW.PrintLast Go.Proofs.YtaembebbaejfiaaGreatDoorW.PrintMore
attribute [local go_sem] max2_int min2_int max_two min_two max_three min_three max_four min_four 
set_option linter.unusedVariables false
set_option linter.unusedSimpArgs false
end Go.Proofs.YtaembebbaejfiaaGreatDoor.PS
namespace Go.Proofs.YtaembebbaejfiaaGreatDoor.PS
open Go.RowKit Go.Proofs.YtaembebbaejfiaaGreatDoorW.PrintWords Go.Proofs.YtaembebbaejfiaaGreatDoorW.PrintLast Go.Proofs.YtaembebbaejfiaaGreatDoorW.PrintMore
attribute [local go_sem] max2_int min2_int max_two min_two max_three min_three max_four min_four 
set_option linter.unusedVariables false
set_option linter.unusedSimpArgs false
end Go.Proofs.YtaembebbaejfiaaGreatDoor.PS
namespace Go.Proofs.YtaembebbaejfiaaGreatDoor.PS
open Go.RowKit Go.Proofs.YtaembebbaejfiaaGreatDoorW.PrintWords Go.Proofs.YtaembebbaejfiaaGreatDoorW.PrintLast Go.Proofs.YtaembebbaejfiaaGreatDoorW.PrintMore
attribute [local go_sem] max2_int min2_int max_two min_two max_three min_three max_four min_four 
set_option linter.unusedVariables false
set_option linter.unusedSimpArgs false
end Go.Proofs.YtaembebbaejfiaaGreatDoor.PS
namespace Go.Proofs.YtaembebbaejfiaaGreatDoor.PS
open Go.RowKit Go.Proofs.YtaembebbaejfiaaGreatDoorW.PrintWords Go.Proofs.YtaembebbaejfiaaGreatDoorW.PrintLast Go.Proofs.YtaembebbaejfiaaGreatDoorW.PrintMore
attribute [local go_sem] max2_int min2_int max_two min_two max_three min_three max_four min_four 
set_option linter.unusedVariables false
set_option linter.unusedSimpArgs false
end Go.Proofs.YtaembebbaejfiaaGreatDoor.PS
