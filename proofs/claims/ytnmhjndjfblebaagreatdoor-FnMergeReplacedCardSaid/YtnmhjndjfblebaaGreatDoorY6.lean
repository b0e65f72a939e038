/- Parts of the proof, laid vq: QSpecFit. -/
import Derived.Test.YtnmhjndjfblebaaGreatDoorY3
import Derived.Test.YtnmhjndjfblebaaGreatDoorY5
set_option linter.unusedVariables false
set_option linter.unusedSimpArgs false
namespace Go.Proofs.YtnmhjndjfblebaaGreatDoor.PS
open Go.RowKit Go.Proofs.YtnmhjndjfblebaaGreatDoorW.PrintWords Go.Proofs.YtnmhjndjfblebaaGreatDoorW.PrintLast Go.Proofs.YtnmhjndjfblebaaGreatDoorW.PrintMore
attribute [local go_sem] xl xj xv xu xe xd xk xi 
mutual
def spec_Fit.l0 : Nat → Int → Int → Int → ByteArray → List ByteArray → List (S25) → Int → Int → ByteArray → List (S25) → Option (Int × Int × ByteArray × List ByteArray × (List (S25)))
 | 0, _, _, _, _, _, _, _, _, _, _ => none
 | k + 1,x4,x137000,x137001,x137002,x137003,x137004,x166000,x166001,x166002,x166004 => if x4 < (x137004.length : Int) then (if 0 ≤ x4 then ((spec_Fit.f k ((rd_T25 x137004 x4).f0) ((rd_T25 x137004 x4).f1) ((rd_T25 x137004 x4).f2) ((rd_T25 x137004 x4).f3) ((rd_T25 x137004 x4).f4)).bind fun bt167 => (if x166004.length < 1759218604441 then (spec_Fit.l0 k (wrap64 (x4 + 1)) x137000 x137001 x137002 x137003 x137004 x166000 x166001 x166002 (x166004 ++ [(⟨bt167.1,bt167.2.1,bt167.2.2.1,bt167.2.2.2.1,bt167.2.2.2.2⟩ : S25)])) else (none))) else (none)) else (some (x166000,x166001,x166002,([] : List ByteArray),x166004))
def spec_Fit.l1 : Nat → Int → Int → Int → ByteArray → List ByteArray → List (S25) → Int → Int → ByteArray → List ByteArray → List (S25) → Option (Int × Int × ByteArray × List ByteArray × (List (S25)))
 | 0, _, _, _, _, _, _, _, _, _, _, _ => none
 | k + 1,x6,x137000,x137001,x137002,x137003,x137004,x189000,x189001,x189002,x189003,x189004 => if x6 < (x137003.length : Int) then (spec_Fit.j2 k x6 (decide (x6 < (x137004.length : Int))) x137000 x137001 x137002 x137003 x137004 x189000 x189001 x189002 x189003 x189004) else (spec_Fit.j2 k x6 false x137000 x137001 x137002 x137003 x137004 x189000 x189001 x189002 x189003 x189004)
def spec_Fit.j2 : Nat → Int → Bool → Int → Int → ByteArray → List ByteArray → List (S25) → Int → Int → ByteArray → List ByteArray → List (S25) → Option (Int × Int × ByteArray × List ByteArray × (List (S25)))
 | 0, _, _, _, _, _, _, _, _, _, _, _, _ => none
 | k + 1,x6,x61,x137000,x137001,x137002,x137003,x137004,x189000,x189001,x189002,x189003,x189004 => if x61 = true then (if 0 ≤ x6 then (if x6 < (x137003.length : Int) then (if x6 < (x137004.length : Int) then ((spec_Fit.f k ((rd_T25 x137004 x6).f0) ((rd_T25 x137004 x6).f1) ((rd_T25 x137004 x6).f2) ((rd_T25 x137004 x6).f3) ((rd_T25 x137004 x6).f4)).bind fun bt191 => ((spec_With.f k x189000 x189001 x189002 x189003 x189004 (rdOf ByteArray.empty x137003 x6) bt191.1 bt191.2.1 bt191.2.2.1 bt191.2.2.2.1 bt191.2.2.2.2).bind fun bt200 => (spec_Fit.l1 k (wrap64 (x6 + 1)) x137000 x137001 x137002 x137003 x137004 bt200.1 bt200.2.1 bt200.2.2.1 bt200.2.2.2.1 bt200.2.2.2.2))) else (none)) else (none)) else (none)) else (some (x189000,x189001,x189002,x189003,x189004))
def spec_Fit.f : Nat → Int → Int → ByteArray → List ByteArray → List (S25) → Option (Int × Int × ByteArray × List ByteArray × (List (S25)))
 | 0, _, _, _, _, _ => none
 | k + 1,a0_0,a0_1,a0_2,l0_3,l0_4 => if a0_0 = 1 then ((spec_B.f (a0_1 != 0)).bind fun bt138 => (some (bt138.1,bt138.2.1,bt138.2.2.1,bt138.2.2.2.1,bt138.2.2.2.2))) else (if a0_0 = 2 then ((spec_N.f a0_1).bind fun bt147 => (some (bt147.1,bt147.2.1,bt147.2.2.1,bt147.2.2.2.1,bt147.2.2.2.2))) else (if a0_0 = 3 then ((spec_T.f a0_2).bind fun bt156 => (some (bt156.1,bt156.2.1,bt156.2.2.1,bt156.2.2.2.1,bt156.2.2.2.2))) else (if a0_0 = 4 then (spec_Fit.l0 k 0 a0_0 a0_1 a0_2 l0_3 l0_4 4 0 (⟨#[]⟩ : ByteArray) ([] : List (S25))) else (if a0_0 = 5 then ((spec_Empty.f).bind fun bt179 => (spec_Fit.l1 k 0 a0_0 a0_1 a0_2 l0_3 l0_4 bt179.1 bt179.2.1 bt179.2.2.1 bt179.2.2.2.1 bt179.2.2.2.2)) else (some (0,0,(⟨#[]⟩ : ByteArray),([] : List ByteArray),([] : List (S25))))))))
end
def spec_Fit.T13 : Bool × List (List Nat × List Nat) := (true, [([], []),([0], [0]),([], []),([2], [2]),([], []),([3,4], [3,4]),([5], [5]),([6], [6]),([7], [7]),([1,8,7], [1,8]),([0,1,2,3,4,5,6,7,8,9], []),([10,9,9,0,1,2,3,4,5,6,7,8,9], [9,10])])
def spec_Fit.B13 : List Nat := [0,1,0,4,0,28,60,124,252,511,1023,2047]
theorem spec_Fit.tab13 : rtab .any (opsOf Tryz.f5 13) = spec_Fit.T13 := by kernel_rfl
theorem spec_Fit.bits13 : waitsOk spec_Fit.T13.2 spec_Fit.B13 = true := by kernel_rfl
def spec_Fit.T20 : Bool × List (List Nat × List Nat) := (true, [([], []),([], []),([1], [1]),([], []),([2,3], [2,3]),([4], [4]),([], []),([6], [6]),([], []),([7,8], [7,8]),([9], [9]),([10], [10]),([0,5,11,11], [0,5,11]),([12,12,0,1,2,3,4,5,6,7,8,9,10,11,12], [12])])
def spec_Fit.B20 : List Nat := [0,0,2,0,14,30,0,64,0,448,960,1984,4095,8191]
theorem spec_Fit.tab20 : rtab .any (opsOf Tryz.f5 20) = spec_Fit.T20 := by kernel_rfl
theorem spec_Fit.bits20 : waitsOk spec_Fit.T20.2 spec_Fit.B20 = true := by kernel_rfl
set_option maxHeartbeats 8000000 in
set_option maxRecDepth 100000 in
theorem spec_Fit.calls (k : Nat) : ∀ (a0_0 : Int) (a0_1 : Int) (a0_2 : ByteArray) (A0_3 : Option Addr) (c0_3 : Nat) (l0_3 : List ByteArray) (A0_4 : Option Addr) (c0_4 : Nat) (l0_4 : List (S25)) (r1 : Int) (r2 : Int) (r3 : ByteArray) (r4 : List ByteArray) (r5 : List (S25)) (w : World) (hr0_3 : Kd.C Kd.string w A0_3 l0_3.length l0_3) (hc0_3 : l0_3.length ≤ c0_3) (hr0_4 : Kd.C k25 w A0_4 l0_4.length l0_4) (hc0_4 : l0_4.length ≤ c0_4) (h : spec_Fit.f k a0_0 a0_1 a0_2 l0_3 l0_4 = some (r1,r2,r3,r4,r5)),
  Calls Tryz.prog 5 #[.agg #[.int .i64 a0_0, .int .i64 a0_1, .string a0_2, .slice A0_3 l0_3.length c0_3, .slice A0_4 l0_4.length c0_4]] w fun e w' => ∃ v3_ v4_ : Value,e = .returned (.agg #[.int .i64 r1, .int .i64 r2, .string r3,v3_,v4_]) ∧ Kd.R Kd.string 9 w' w.heap.size (fun k_ => (w.heap.size ≤ k_)) v3_ r4 ∧ Kd.N k25 25 w' w.heap.size (fun k_ => (w.heap.size ≤ k_) ∧ some k_ ≠ (v3_ : Value).ownBlock) v4_ r5 ∧ Below w.heap.size w w' := by
 induction k using Nat.strongRecOn with
 | _ k ih =>
 intro a0_0 a0_1 a0_2 A0_3 c0_3 l0_3 A0_4 c0_4 l0_4 r1 r2 r3 r4 r5 w hr0_3 hc0_3 hr0_4 hc0_4 h
 cases k with
 | zero => exact absurd h (by simp [spec_Fit.f])
 | succ k =>
 simp only [spec_Fit.f] at h; have hu25 := Tryz.underlying25; have HR0_3 := aM hr0_3; have HC0_3 := aM hc0_3; clear hr0_3 hc0_3; have HR0_4 := aM hr0_4; have HC0_4 := aM hc0_4; clear hr0_4 hc0_4; have HB := aM (Below.refl w.heap.size w); have H : (if a0_0 = 1 then ((spec_B.f (a0_1 != 0)).bind fun bt138 => (some (bt138.1,bt138.2.1,bt138.2.2.1,bt138.2.2.2.1,bt138.2.2.2.2))) else (if a0_0 = 2 then ((spec_N.f a0_1).bind fun bt147 => (some (bt147.1,bt147.2.1,bt147.2.2.1,bt147.2.2.2.1,bt147.2.2.2.2))) else (if a0_0 = 3 then ((spec_T.f a0_2).bind fun bt156 => (some (bt156.1,bt156.2.1,bt156.2.2.1,bt156.2.2.2.1,bt156.2.2.2.2))) else (if a0_0 = 4 then (spec_Fit.l0 k 0 a0_0 a0_1 a0_2 l0_3 l0_4 4 0 (⟨#[]⟩ : ByteArray) ([] : List (S25))) else (if a0_0 = 5 then ((spec_Empty.f).bind fun bt179 => (spec_Fit.l1 k 0 a0_0 a0_1 a0_2 l0_3 l0_4 bt179.1 bt179.2.1 bt179.2.2.1 bt179.2.2.2.1 bt179.2.2.2.2)) else (some (0,0,(⟨#[]⟩ : ByteArray),([] : List ByteArray),([] : List (S25))))))))) = some (r1,r2,r3,r4,r5) := h; clear h
 by_cases c2 : a0_0 = 1
 ·rw [if_pos c2] at H; have c2b0 : (a0_0 == 1) = true := beq_iff_eq.mpr c2; have c2b1 : (a0_0 != 1) = false := bne_eq_false_iff_eq.mpr c2; clear c2; replace H := Option.bind_eq_some_iff.mp H; obtain ⟨⟨t138,t139,t140,t141,t144⟩,A30,H⟩ := H; replace H : (some (t138,t139,t140,t141,t144)) = some (r1,r2,r3,r4,r5) := H; have A3 := aM A30; clear A30; simp only [Option.some.injEq,Prod.mk.injEq] at H; obtain ⟨rfl,rfl,rfl,rfl,rfl⟩ := H
  go_enter Tryz.func5,Tryz.ntmps5
  go_wp2_with (first | ((with_reducible refine yq (N := 1) rfl ?_); (try (refine yz (by rfl) ?_; dsimp only)); refine yp ?hg (N := 1) ?hd (cs := #[.int .i64 a0_0, .int .i64 a0_1, .string a0_2, .slice A0_3 l0_3.length c0_3, .slice A0_4 l0_4.length c0_4]) (t := 25) ?hr ?_; (case hd => rfl); (case hg => rfl); (case hr => first | (go_simp; done) | (go_simp; rfl)); intro gb136 hg w4 hbox hb; have n0_ := aM (zv (by repeat (first | (with_reducible first | exact HB.out | apply zb | apply zc | apply zl) | exact HB.out)) hb); have n1_ := aM (hbox); have n2_ := aM ((by rw [hg]; exact (zo (by repeat (first | (with_reducible first | exact HB.out | apply zb | apply zc | apply zl) | exact HB.out))) : w.heap.size ≤ gb136)); have n3_ := aM ((by rw [hg]; exact (zo (by repeat (first | (with_reducible first | exact HB.out | apply zb | apply zc | apply zl) | exact HB.out))) : w.heap.size ≤ gb136)); clear HB; have HB := n0_; have BK136 := n1_; have GW136 := n2_; have GE136 := n3_; clear n0_ n1_ n2_ n3_; clear hb hbox hg) | ((with_reducible refine yq (N := 2) rfl ?_); (try (refine yz (by rfl) ?_; dsimp only)); refine yp ?hg (N := 2) ?hd (cs := #[.int .i64 0, .int .i64 0, .string (⟨#[]⟩ : ByteArray), .slice none 0 0, .slice none 0 0]) (t := 25) ?hr ?_; (case hd => rfl); (case hg => rfl); (case hr => first | (go_simp; done) | (go_simp; rfl)); intro gb137 hg w5 hbox hb; have n0_ := aM (ya (g := gb136) (o := .cells #[.int .i64 a0_0, .int .i64 a0_1, .string a0_2, .slice A0_3 l0_3.length c0_3, .slice A0_4 l0_4.length c0_4] 25 (0,0)) (by (with_reducible repeat (first | refine zg ?_ _ | refine zk ?_ | refine ze ?_ _)); exact BK136.out) hb); have n1_ := aM (zv (by repeat (first | (with_reducible first | exact HB.out | apply zb | apply zc | apply zl | refine zj ?_ GE136.out) | exact HB.out)) hb); have n2_ := aM (hbox); have n3_ := aM ((by rw [hg]; exact (zo (by repeat (first | (with_reducible first | exact HB.out | apply zb | apply zc | apply zl | refine zj ?_ GE136.out) | exact HB.out))) : w.heap.size ≤ gb137)); have n4_ := aM ((by rw [hg]; exact (zo (by repeat (first | (with_reducible first | exact HB.out | apply zb | apply zc | apply zl | refine zj ?_ GE136.out) | exact HB.out))) : w.heap.size ≤ gb137)); have n5_ := aM ((by rw [hg]; exact Nat.ne_of_lt (yt (g := gb136) (o := .cells #[.int .i64 a0_0, .int .i64 a0_1, .string a0_2, .slice A0_3 l0_3.length c0_3, .slice A0_4 l0_4.length c0_4] 25 (0,0)) (by (with_reducible repeat (first | refine zg ?_ _ | refine zk ?_ | refine ze ?_ _)); exact BK136.out)) : gb136 ≠ gb137)); have n6_ := aM ((by rw [hg]; exact Nat.ne_of_gt (yt (g := gb136) (o := .cells #[.int .i64 a0_0, .int .i64 a0_1, .string a0_2, .slice A0_3 l0_3.length c0_3, .slice A0_4 l0_4.length c0_4] 25 (0,0)) (by (with_reducible repeat (first | refine zg ?_ _ | refine zk ?_ | refine ze ?_ _)); exact BK136.out)) : gb137 ≠ gb136)); clear BK136; clear HB; have BK136 := n0_; have HB := n1_; have BK137 := n2_; have GW137 := n3_; have GE137 := n4_; have NB136_137 := n5_; have NB137_136 := n6_; clear n0_ n1_ n2_ n3_ n4_ n5_ n6_; clear hb hbox hg; have hnb6 := NB136_137.out; have hnc6 := NB137_136.out; have hcz7_0 : w5.cell? ⟨gb136,0,none⟩ = some (.int .i64 a0_0) := (za BK136.out 0).trans rfl; have hcz7_1 : w5.cell? ⟨gb136,1,none⟩ = some (.int .i64 a0_1) := (za BK136.out 1).trans rfl; have hcz7_2 : w5.cell? ⟨gb136,2,none⟩ = some (.string a0_2) := (za BK136.out 2).trans rfl; have hcz7_3 : w5.cell? ⟨gb136,3,none⟩ = some (.slice A0_3 l0_3.length c0_3) := (za BK136.out 3).trans rfl; have hcz7_4 : w5.cell? ⟨gb136,4,none⟩ = some (.slice A0_4 l0_4.length c0_4) := (za BK136.out 4).trans rfl; have hfz7_0 := zh BK136.out 0; have hfz7_1 := zh BK136.out 1; have hfz7_2 := zh BK136.out 2; have hfz7_3 := zh BK136.out 3; have hfz7_4 := zh BK136.out 4) | ((with_reducible refine xx (f := 13) rfl ?_); refine goesL_ (some 14) rfl rfl Tryz.func13 (by kernel_rfl) rfl #[.bool (a0_1 != 0)] rfl (by (try simp only [List.map_toArray,List.map_cons,List.map_nil]); first | done | rfl | (simp only [List.length_drop,List.length_take]; rfl)) ?_; (with_reducible refine (spec_B.calls (a0_1 != 0) t138 t139 t140 t141 t144 _ A3.out).mono ?_); rintro e w8 ⟨v142,v145,rfl,ho0,ho1,hb⟩; refine ⟨_,rfl, ?_⟩; have n0_ := aM (Kd.R_lower (Kd.R_newM (M := fun k_ => (w.heap.size ≤ k_)) ho0 (zo (by repeat (first | (with_reducible first | exact HB.out | apply zb | apply zc | apply zl | refine zj ?_ GE136.out | refine zj ?_ GE137.out) | exact HB.out))) (fun k_ h_ => h_)) (zo (by repeat (first | (with_reducible first | exact HB.out | apply zb | apply zc | apply zl | refine zj ?_ GE136.out | refine zj ?_ GE137.out) | exact HB.out)))); have n1_ := aM (Kd.N_lower (Kd.N_mono (ok' := fun k_ => (w.heap.size ≤ k_) ∧ some k_ ≠ (v142 : Value).ownBlock ∧ k_ ≠ gb136 ∧ k_ ≠ gb137) (Kd.R_N (Kd.R_bound ho1)) (fun k_ hk_ => ⟨(Nat.le_trans (zo (by repeat (first | (with_reducible first | exact HB.out | apply zb | apply zc | apply zl | refine zj ?_ GE136.out | refine zj ?_ GE137.out) | exact HB.out))) hk_.2.1),hk_.1,(Kd.freshB (g := gb136) (o := .cells #[.int .i64 a0_0, .int .i64 a0_1, .string a0_2, .slice A0_3 l0_3.length c0_3, .slice A0_4 l0_4.length c0_4] 25 (0,0)) (by (with_reducible repeat (first | refine zg ?_ _ | refine zk ?_ | refine ze ?_ _)); exact BK136.out) k_ hk_.2.1),(Kd.freshB (g := gb137) (o := .cells #[.int .i64 0, .int .i64 0, .string (⟨#[]⟩ : ByteArray), .slice none 0 0, .slice none 0 0] 25 (0,0)) (by (with_reducible repeat (first | refine zg ?_ _ | refine zk ?_ | refine ze ?_ _)); exact BK137.out) k_ hk_.2.1)⟩)) (zo (by repeat (first | (with_reducible first | exact HB.out | apply zb | apply zc | apply zl | refine zj ?_ GE136.out | refine zj ?_ GE137.out) | exact HB.out)))); have n2_ := aM (ya (g := gb136) (o := .cells #[.int .i64 a0_0, .int .i64 a0_1, .string a0_2, .slice A0_3 l0_3.length c0_3, .slice A0_4 l0_4.length c0_4] 25 (0,0)) (by (with_reducible repeat (first | refine zg ?_ _ | refine zk ?_ | refine ze ?_ _)); exact BK136.out) hb); have n3_ := aM (ya (g := gb137) (o := .cells #[.int .i64 0, .int .i64 0, .string (⟨#[]⟩ : ByteArray), .slice none 0 0, .slice none 0 0] 25 (0,0)) (by (with_reducible repeat (first | refine zg ?_ _ | refine zk ?_ | refine ze ?_ _)); exact BK137.out) hb); have n4_ := aM (zv (by repeat (first | (with_reducible first | exact HB.out | apply zb | apply zc | apply zl | refine zj ?_ GE136.out | refine zj ?_ GE137.out) | exact HB.out)) hb); clear BK136; clear BK137; clear HB; have HO143 := n0_; have HO146 := n1_; have BK136 := n2_; have BK137 := n3_; have HB := n4_; clear n0_ n1_ n2_ n3_ n4_; (try clear hb); (try clear hb2); (try clear hk); (try clear hi); (try clear ho0); (try clear ho1); have hcz9_0 : w8.cell? ⟨gb137,0,none⟩ = some (.int .i64 0) := (za BK137.out 0).trans rfl; have hcz9_1 : w8.cell? ⟨gb137,1,none⟩ = some (.int .i64 0) := (za BK137.out 1).trans rfl; have hcz9_2 : w8.cell? ⟨gb137,2,none⟩ = some (.string (⟨#[]⟩ : ByteArray)) := (za BK137.out 2).trans rfl; have hcz9_3 : w8.cell? ⟨gb137,3,none⟩ = some (.slice none 0 0) := (za BK137.out 3).trans rfl; have hcz9_4 : w8.cell? ⟨gb137,4,none⟩ = some (.slice none 0 0) := (za BK137.out 4).trans rfl; have hfz9_0 := zh BK137.out 0; have hfz9_1 := zh BK137.out 1; have hfz9_2 := zh BK137.out 2; have hfz9_3 := zh BK137.out 3; have hfz9_4 := zh BK137.out 4; obtain ⟨Ao10,co10,eo10⟩ := Kd.R_slice HO143.out; subst eo10; obtain ⟨Ao11,co11,eo11⟩ := Kd.N_slice HO146.out; subst eo11))
  refine bodyPost_ret (results_cell_row rfl _ _ gb137 25 #[.int .i64 t138, .int .i64 t139, .string t140, .slice Ao10 t141.length co10, .slice Ao11 t144.length co11] (0,0) _ rfl (by (with_reducible repeat (first | refine zg ?_ _ | refine zk ?_ | refine ze ?_ _)); refine yb (cs := #[.int .i64 t138, .int .i64 t139, .string t140, .slice Ao10 t141.length co10, .slice none 0 0]) ?_ 4 _ rfl; (with_reducible repeat (first | refine zg ?_ _ | refine zk ?_ | refine ze ?_ _)); refine yb (cs := #[.int .i64 t138, .int .i64 t139, .string t140, .slice none 0 0, .slice none 0 0]) ?_ 3 _ rfl; (with_reducible repeat (first | refine zg ?_ _ | refine zk ?_ | refine ze ?_ _)); refine yb (cs := #[.int .i64 t138, .int .i64 t139, .string (⟨#[]⟩ : ByteArray), .slice none 0 0, .slice none 0 0]) ?_ 2 _ rfl; (with_reducible repeat (first | refine zg ?_ _ | refine zk ?_ | refine ze ?_ _)); refine yb (cs := #[.int .i64 t138, .int .i64 0, .string (⟨#[]⟩ : ByteArray), .slice none 0 0, .slice none 0 0]) ?_ 1 _ rfl; (with_reducible repeat (first | refine zg ?_ _ | refine zk ?_ | refine ze ?_ _)); refine yb (cs := #[.int .i64 0, .int .i64 0, .string (⟨#[]⟩ : ByteArray), .slice none 0 0, .slice none 0 0]) ?_ 0 _ rfl; (with_reducible repeat (first | refine zg ?_ _ | refine zk ?_ | refine ze ?_ _)); exact BK137.out) Tryz.underlying25 rfl (by kernel_rfl)) rfl ?_; exact ⟨_, _,by first | rfl | (simp [zz,zw] <;> rfl) | (simp [*, zz,zw] <;> rfl),by (with_reducible repeat (first | apply Kd.R_alloc | apply Kd.R_drewN | apply Kd.R_drew)); exact Kd.R_mono (Kd.R_far (p := ⟨gb137,4,none⟩) (Kd.R_far (p := ⟨gb137,3,none⟩) (Kd.R_far (p := ⟨gb137,2,none⟩) (Kd.R_far (p := ⟨gb137,1,none⟩) (Kd.R_far (p := ⟨gb137,0,none⟩) (Kd.R_types HO143.out BK137.out (by decide)) (fun _ hk => hk.2) (.int .i64 t138)) (fun _ hk => hk.2) (.int .i64 t139)) (fun _ hk => hk.2) (.string t140)) (fun _ hk => hk.2) (.slice Ao10 t141.length co10)) (fun _ hk => hk.2) (.slice Ao11 t144.length co11)) (fun _ hk => hk.1.1),by (with_reducible repeat (first | apply Kd.N_alloc | apply Kd.N_drewN | apply Kd.N_drew)); exact Kd.N_mono (Kd.N_far (p := ⟨gb137,4,none⟩) (Kd.N_far (p := ⟨gb137,3,none⟩) (Kd.N_far (p := ⟨gb137,2,none⟩) (Kd.N_far (p := ⟨gb137,1,none⟩) (Kd.N_far (p := ⟨gb137,0,none⟩) (Kd.N_mono HO146.out (fun k_ hk => (⟨hk,hk.2.2.2⟩ : _ ∧ k_ ≠ gb137))) (fun _ hk => hk.2) (.int .i64 t138)) (fun _ hk => hk.2) (.int .i64 t139)) (fun _ hk => hk.2) (.string t140)) (fun _ hk => hk.2) (.slice Ao10 t141.length co10)) (fun _ hk => hk.2) (.slice Ao11 t144.length co11)) (fun _ hk => ⟨hk.1.1,hk.1.2.1⟩),by repeat (first | (with_reducible first | exact HB.out | apply zb | apply zc | apply zl | refine zj ?_ GE136.out | refine zj ?_ GE137.out) | exact HB.out)⟩
 ·rw [if_neg c2] at H; have c2b0 : (a0_0 == 1) = false := beq_eq_false_iff_ne.mpr c2; have c2b1 : (a0_0 != 1) = true := bne_iff_ne.mpr c2
  by_cases c12 : a0_0 = 2
  ·rw [if_pos c12] at H; have c12b0 : (a0_0 == 2) = true := beq_iff_eq.mpr c12; have c12b1 : (a0_0 != 2) = false := bne_eq_false_iff_eq.mpr c12; clear c12; replace H := Option.bind_eq_some_iff.mp H; obtain ⟨⟨t147,t148,t149,t150,t153⟩,A130,H⟩ := H; replace H : (some (t147,t148,t149,t150,t153)) = some (r1,r2,r3,r4,r5) := H; have A13 := aM A130; clear A130; simp only [Option.some.injEq,Prod.mk.injEq] at H; obtain ⟨rfl,rfl,rfl,rfl,rfl⟩ := H
   go_enter Tryz.func5,Tryz.ntmps5
   go_wp2_with (first | ((with_reducible refine yq (N := 1) rfl ?_); (try (refine yz (by rfl) ?_; dsimp only)); refine yp ?hg (N := 1) ?hd (cs := #[.int .i64 a0_0, .int .i64 a0_1, .string a0_2, .slice A0_3 l0_3.length c0_3, .slice A0_4 l0_4.length c0_4]) (t := 25) ?hr ?_; (case hd => rfl); (case hg => rfl); (case hr => first | (go_simp; done) | (go_simp; rfl)); intro gb136 hg w14 hbox hb; have n0_ := aM (zv (by repeat (first | (with_reducible first | exact HB.out | apply zb | apply zc | apply zl) | exact HB.out)) hb); have n1_ := aM (hbox); have n2_ := aM ((by rw [hg]; exact (zo (by repeat (first | (with_reducible first | exact HB.out | apply zb | apply zc | apply zl) | exact HB.out))) : w.heap.size ≤ gb136)); have n3_ := aM ((by rw [hg]; exact (zo (by repeat (first | (with_reducible first | exact HB.out | apply zb | apply zc | apply zl) | exact HB.out))) : w.heap.size ≤ gb136)); clear HB; have HB := n0_; have BK136 := n1_; have GW136 := n2_; have GE136 := n3_; clear n0_ n1_ n2_ n3_; clear hb hbox hg) | ((with_reducible refine yq (N := 2) rfl ?_); (try (refine yz (by rfl) ?_; dsimp only)); refine yp ?hg (N := 2) ?hd (cs := #[.int .i64 0, .int .i64 0, .string (⟨#[]⟩ : ByteArray), .slice none 0 0, .slice none 0 0]) (t := 25) ?hr ?_; (case hd => rfl); (case hg => rfl); (case hr => first | (go_simp; done) | (go_simp; rfl)); intro gb137 hg w15 hbox hb; have n0_ := aM (ya (g := gb136) (o := .cells #[.int .i64 a0_0, .int .i64 a0_1, .string a0_2, .slice A0_3 l0_3.length c0_3, .slice A0_4 l0_4.length c0_4] 25 (0,0)) (by (with_reducible repeat (first | refine zg ?_ _ | refine zk ?_ | refine ze ?_ _)); exact BK136.out) hb); have n1_ := aM (zv (by repeat (first | (with_reducible first | exact HB.out | apply zb | apply zc | apply zl | refine zj ?_ GE136.out) | exact HB.out)) hb); have n2_ := aM (hbox); have n3_ := aM ((by rw [hg]; exact (zo (by repeat (first | (with_reducible first | exact HB.out | apply zb | apply zc | apply zl | refine zj ?_ GE136.out) | exact HB.out))) : w.heap.size ≤ gb137)); have n4_ := aM ((by rw [hg]; exact (zo (by repeat (first | (with_reducible first | exact HB.out | apply zb | apply zc | apply zl | refine zj ?_ GE136.out) | exact HB.out))) : w.heap.size ≤ gb137)); have n5_ := aM ((by rw [hg]; exact Nat.ne_of_lt (yt (g := gb136) (o := .cells #[.int .i64 a0_0, .int .i64 a0_1, .string a0_2, .slice A0_3 l0_3.length c0_3, .slice A0_4 l0_4.length c0_4] 25 (0,0)) (by (with_reducible repeat (first | refine zg ?_ _ | refine zk ?_ | refine ze ?_ _)); exact BK136.out)) : gb136 ≠ gb137)); have n6_ := aM ((by rw [hg]; exact Nat.ne_of_gt (yt (g := gb136) (o := .cells #[.int .i64 a0_0, .int .i64 a0_1, .string a0_2, .slice A0_3 l0_3.length c0_3, .slice A0_4 l0_4.length c0_4] 25 (0,0)) (by (with_reducible repeat (first | refine zg ?_ _ | refine zk ?_ | refine ze ?_ _)); exact BK136.out)) : gb137 ≠ gb136)); clear BK136; clear HB; have BK136 := n0_; have HB := n1_; have BK137 := n2_; have GW137 := n3_; have GE137 := n4_; have NB136_137 := n5_; have NB137_136 := n6_; clear n0_ n1_ n2_ n3_ n4_ n5_ n6_; clear hb hbox hg; have hnb16 := NB136_137.out; have hnc16 := NB137_136.out; have hcz17_0 : w15.cell? ⟨gb136,0,none⟩ = some (.int .i64 a0_0) := (za BK136.out 0).trans rfl; have hcz17_1 : w15.cell? ⟨gb136,1,none⟩ = some (.int .i64 a0_1) := (za BK136.out 1).trans rfl; have hcz17_2 : w15.cell? ⟨gb136,2,none⟩ = some (.string a0_2) := (za BK136.out 2).trans rfl; have hcz17_3 : w15.cell? ⟨gb136,3,none⟩ = some (.slice A0_3 l0_3.length c0_3) := (za BK136.out 3).trans rfl; have hcz17_4 : w15.cell? ⟨gb136,4,none⟩ = some (.slice A0_4 l0_4.length c0_4) := (za BK136.out 4).trans rfl; have hfz17_0 := zh BK136.out 0; have hfz17_1 := zh BK136.out 1; have hfz17_2 := zh BK136.out 2; have hfz17_3 := zh BK136.out 3; have hfz17_4 := zh BK136.out 4) | ((with_reducible refine xx (f := 14) rfl ?_); refine goesL_ (some 19) rfl rfl Tryz.func14 (by kernel_rfl) rfl #[.int .i64 a0_1] rfl (by (try simp only [List.map_toArray,List.map_cons,List.map_nil]); first | done | rfl | (simp only [List.length_drop,List.length_take]; rfl)) ?_; (with_reducible refine (spec_N.calls a0_1 t147 t148 t149 t150 t153 _ A13.out).mono ?_); rintro e w18 ⟨v151,v154,rfl,ho0,ho1,hb⟩; refine ⟨_,rfl, ?_⟩; have n0_ := aM (Kd.R_lower (Kd.R_newM (M := fun k_ => (w.heap.size ≤ k_)) ho0 (zo (by repeat (first | (with_reducible first | exact HB.out | apply zb | apply zc | apply zl | refine zj ?_ GE136.out | refine zj ?_ GE137.out) | exact HB.out))) (fun k_ h_ => h_)) (zo (by repeat (first | (with_reducible first | exact HB.out | apply zb | apply zc | apply zl | refine zj ?_ GE136.out | refine zj ?_ GE137.out) | exact HB.out)))); have n1_ := aM (Kd.N_lower (Kd.N_mono (ok' := fun k_ => (w.heap.size ≤ k_) ∧ some k_ ≠ (v151 : Value).ownBlock ∧ k_ ≠ gb136 ∧ k_ ≠ gb137) (Kd.R_N (Kd.R_bound ho1)) (fun k_ hk_ => ⟨(Nat.le_trans (zo (by repeat (first | (with_reducible first | exact HB.out | apply zb | apply zc | apply zl | refine zj ?_ GE136.out | refine zj ?_ GE137.out) | exact HB.out))) hk_.2.1),hk_.1,(Kd.freshB (g := gb136) (o := .cells #[.int .i64 a0_0, .int .i64 a0_1, .string a0_2, .slice A0_3 l0_3.length c0_3, .slice A0_4 l0_4.length c0_4] 25 (0,0)) (by (with_reducible repeat (first | refine zg ?_ _ | refine zk ?_ | refine ze ?_ _)); exact BK136.out) k_ hk_.2.1),(Kd.freshB (g := gb137) (o := .cells #[.int .i64 0, .int .i64 0, .string (⟨#[]⟩ : ByteArray), .slice none 0 0, .slice none 0 0] 25 (0,0)) (by (with_reducible repeat (first | refine zg ?_ _ | refine zk ?_ | refine ze ?_ _)); exact BK137.out) k_ hk_.2.1)⟩)) (zo (by repeat (first | (with_reducible first | exact HB.out | apply zb | apply zc | apply zl | refine zj ?_ GE136.out | refine zj ?_ GE137.out) | exact HB.out)))); have n2_ := aM (ya (g := gb136) (o := .cells #[.int .i64 a0_0, .int .i64 a0_1, .string a0_2, .slice A0_3 l0_3.length c0_3, .slice A0_4 l0_4.length c0_4] 25 (0,0)) (by (with_reducible repeat (first | refine zg ?_ _ | refine zk ?_ | refine ze ?_ _)); exact BK136.out) hb); have n3_ := aM (ya (g := gb137) (o := .cells #[.int .i64 0, .int .i64 0, .string (⟨#[]⟩ : ByteArray), .slice none 0 0, .slice none 0 0] 25 (0,0)) (by (with_reducible repeat (first | refine zg ?_ _ | refine zk ?_ | refine ze ?_ _)); exact BK137.out) hb); have n4_ := aM (zv (by repeat (first | (with_reducible first | exact HB.out | apply zb | apply zc | apply zl | refine zj ?_ GE136.out | refine zj ?_ GE137.out) | exact HB.out)) hb); clear BK136; clear BK137; clear HB; have HO152 := n0_; have HO155 := n1_; have BK136 := n2_; have BK137 := n3_; have HB := n4_; clear n0_ n1_ n2_ n3_ n4_; (try clear hb); (try clear hb2); (try clear hk); (try clear hi); (try clear ho0); (try clear ho1); have hcz19_0 : w18.cell? ⟨gb137,0,none⟩ = some (.int .i64 0) := (za BK137.out 0).trans rfl; have hcz19_1 : w18.cell? ⟨gb137,1,none⟩ = some (.int .i64 0) := (za BK137.out 1).trans rfl; have hcz19_2 : w18.cell? ⟨gb137,2,none⟩ = some (.string (⟨#[]⟩ : ByteArray)) := (za BK137.out 2).trans rfl; have hcz19_3 : w18.cell? ⟨gb137,3,none⟩ = some (.slice none 0 0) := (za BK137.out 3).trans rfl; have hcz19_4 : w18.cell? ⟨gb137,4,none⟩ = some (.slice none 0 0) := (za BK137.out 4).trans rfl; have hfz19_0 := zh BK137.out 0; have hfz19_1 := zh BK137.out 1; have hfz19_2 := zh BK137.out 2; have hfz19_3 := zh BK137.out 3; have hfz19_4 := zh BK137.out 4; obtain ⟨Ao20,co20,eo20⟩ := Kd.R_slice HO152.out; subst eo20; obtain ⟨Ao21,co21,eo21⟩ := Kd.N_slice HO155.out; subst eo21))
   refine bodyPost_ret (results_cell_row rfl _ _ gb137 25 #[.int .i64 t147, .int .i64 t148, .string t149, .slice Ao20 t150.length co20, .slice Ao21 t153.length co21] (0,0) _ rfl (by (with_reducible repeat (first | refine zg ?_ _ | refine zk ?_ | refine ze ?_ _)); refine yb (cs := #[.int .i64 t147, .int .i64 t148, .string t149, .slice Ao20 t150.length co20, .slice none 0 0]) ?_ 4 _ rfl; (with_reducible repeat (first | refine zg ?_ _ | refine zk ?_ | refine ze ?_ _)); refine yb (cs := #[.int .i64 t147, .int .i64 t148, .string t149, .slice none 0 0, .slice none 0 0]) ?_ 3 _ rfl; (with_reducible repeat (first | refine zg ?_ _ | refine zk ?_ | refine ze ?_ _)); refine yb (cs := #[.int .i64 t147, .int .i64 t148, .string (⟨#[]⟩ : ByteArray), .slice none 0 0, .slice none 0 0]) ?_ 2 _ rfl; (with_reducible repeat (first | refine zg ?_ _ | refine zk ?_ | refine ze ?_ _)); refine yb (cs := #[.int .i64 t147, .int .i64 0, .string (⟨#[]⟩ : ByteArray), .slice none 0 0, .slice none 0 0]) ?_ 1 _ rfl; (with_reducible repeat (first | refine zg ?_ _ | refine zk ?_ | refine ze ?_ _)); refine yb (cs := #[.int .i64 0, .int .i64 0, .string (⟨#[]⟩ : ByteArray), .slice none 0 0, .slice none 0 0]) ?_ 0 _ rfl; (with_reducible repeat (first | refine zg ?_ _ | refine zk ?_ | refine ze ?_ _)); exact BK137.out) Tryz.underlying25 rfl (by kernel_rfl)) rfl ?_; exact ⟨_, _,by first | rfl | (simp [zz,zw] <;> rfl) | (simp [*, zz,zw] <;> rfl),by (with_reducible repeat (first | apply Kd.R_alloc | apply Kd.R_drewN | apply Kd.R_drew)); exact Kd.R_mono (Kd.R_far (p := ⟨gb137,4,none⟩) (Kd.R_far (p := ⟨gb137,3,none⟩) (Kd.R_far (p := ⟨gb137,2,none⟩) (Kd.R_far (p := ⟨gb137,1,none⟩) (Kd.R_far (p := ⟨gb137,0,none⟩) (Kd.R_types HO152.out BK137.out (by decide)) (fun _ hk => hk.2) (.int .i64 t147)) (fun _ hk => hk.2) (.int .i64 t148)) (fun _ hk => hk.2) (.string t149)) (fun _ hk => hk.2) (.slice Ao20 t150.length co20)) (fun _ hk => hk.2) (.slice Ao21 t153.length co21)) (fun _ hk => hk.1.1),by (with_reducible repeat (first | apply Kd.N_alloc | apply Kd.N_drewN | apply Kd.N_drew)); exact Kd.N_mono (Kd.N_far (p := ⟨gb137,4,none⟩) (Kd.N_far (p := ⟨gb137,3,none⟩) (Kd.N_far (p := ⟨gb137,2,none⟩) (Kd.N_far (p := ⟨gb137,1,none⟩) (Kd.N_far (p := ⟨gb137,0,none⟩) (Kd.N_mono HO155.out (fun k_ hk => (⟨hk,hk.2.2.2⟩ : _ ∧ k_ ≠ gb137))) (fun _ hk => hk.2) (.int .i64 t147)) (fun _ hk => hk.2) (.int .i64 t148)) (fun _ hk => hk.2) (.string t149)) (fun _ hk => hk.2) (.slice Ao20 t150.length co20)) (fun _ hk => hk.2) (.slice Ao21 t153.length co21)) (fun _ hk => ⟨hk.1.1,hk.1.2.1⟩),by repeat (first | (with_reducible first | exact HB.out | apply zb | apply zc | apply zl | refine zj ?_ GE136.out | refine zj ?_ GE137.out) | exact HB.out)⟩
  ·rw [if_neg c12] at H; have c12b0 : (a0_0 == 2) = false := beq_eq_false_iff_ne.mpr c12; have c12b1 : (a0_0 != 2) = true := bne_iff_ne.mpr c12
   by_cases c22 : a0_0 = 3
   ·rw [if_pos c22] at H; have c22b0 : (a0_0 == 3) = true := beq_iff_eq.mpr c22; have c22b1 : (a0_0 != 3) = false := bne_eq_false_iff_eq.mpr c22; clear c22; replace H := Option.bind_eq_some_iff.mp H; obtain ⟨⟨t156,t157,t158,t159,t162⟩,A230,H⟩ := H; replace H : (some (t156,t157,t158,t159,t162)) = some (r1,r2,r3,r4,r5) := H; have A23 := aM A230; clear A230; simp only [Option.some.injEq,Prod.mk.injEq] at H; obtain ⟨rfl,rfl,rfl,rfl,rfl⟩ := H
    go_enter Tryz.func5,Tryz.ntmps5
    go_wp2_with (first | ((with_reducible refine yq (N := 1) rfl ?_); (try (refine yz (by rfl) ?_; dsimp only)); refine yp ?hg (N := 1) ?hd (cs := #[.int .i64 a0_0, .int .i64 a0_1, .string a0_2, .slice A0_3 l0_3.length c0_3, .slice A0_4 l0_4.length c0_4]) (t := 25) ?hr ?_; (case hd => rfl); (case hg => rfl); (case hr => first | (go_simp; done) | (go_simp; rfl)); intro gb136 hg w24 hbox hb; have n0_ := aM (zv (by repeat (first | (with_reducible first | exact HB.out | apply zb | apply zc | apply zl) | exact HB.out)) hb); have n1_ := aM (hbox); have n2_ := aM ((by rw [hg]; exact (zo (by repeat (first | (with_reducible first | exact HB.out | apply zb | apply zc | apply zl) | exact HB.out))) : w.heap.size ≤ gb136)); have n3_ := aM ((by rw [hg]; exact (zo (by repeat (first | (with_reducible first | exact HB.out | apply zb | apply zc | apply zl) | exact HB.out))) : w.heap.size ≤ gb136)); clear HB; have HB := n0_; have BK136 := n1_; have GW136 := n2_; have GE136 := n3_; clear n0_ n1_ n2_ n3_; clear hb hbox hg) | ((with_reducible refine yq (N := 2) rfl ?_); (try (refine yz (by rfl) ?_; dsimp only)); refine yp ?hg (N := 2) ?hd (cs := #[.int .i64 0, .int .i64 0, .string (⟨#[]⟩ : ByteArray), .slice none 0 0, .slice none 0 0]) (t := 25) ?hr ?_; (case hd => rfl); (case hg => rfl); (case hr => first | (go_simp; done) | (go_simp; rfl)); intro gb137 hg w25 hbox hb; have n0_ := aM (ya (g := gb136) (o := .cells #[.int .i64 a0_0, .int .i64 a0_1, .string a0_2, .slice A0_3 l0_3.length c0_3, .slice A0_4 l0_4.length c0_4] 25 (0,0)) (by (with_reducible repeat (first | refine zg ?_ _ | refine zk ?_ | refine ze ?_ _)); exact BK136.out) hb); have n1_ := aM (zv (by repeat (first | (with_reducible first | exact HB.out | apply zb | apply zc | apply zl | refine zj ?_ GE136.out) | exact HB.out)) hb); have n2_ := aM (hbox); have n3_ := aM ((by rw [hg]; exact (zo (by repeat (first | (with_reducible first | exact HB.out | apply zb | apply zc | apply zl | refine zj ?_ GE136.out) | exact HB.out))) : w.heap.size ≤ gb137)); have n4_ := aM ((by rw [hg]; exact (zo (by repeat (first | (with_reducible first | exact HB.out | apply zb | apply zc | apply zl | refine zj ?_ GE136.out) | exact HB.out))) : w.heap.size ≤ gb137)); have n5_ := aM ((by rw [hg]; exact Nat.ne_of_lt (yt (g := gb136) (o := .cells #[.int .i64 a0_0, .int .i64 a0_1, .string a0_2, .slice A0_3 l0_3.length c0_3, .slice A0_4 l0_4.length c0_4] 25 (0,0)) (by (with_reducible repeat (first | refine zg ?_ _ | refine zk ?_ | refine ze ?_ _)); exact BK136.out)) : gb136 ≠ gb137)); have n6_ := aM ((by rw [hg]; exact Nat.ne_of_gt (yt (g := gb136) (o := .cells #[.int .i64 a0_0, .int .i64 a0_1, .string a0_2, .slice A0_3 l0_3.length c0_3, .slice A0_4 l0_4.length c0_4] 25 (0,0)) (by (with_reducible repeat (first | refine zg ?_ _ | refine zk ?_ | refine ze ?_ _)); exact BK136.out)) : gb137 ≠ gb136)); clear BK136; clear HB; have BK136 := n0_; have HB := n1_; have BK137 := n2_; have GW137 := n3_; have GE137 := n4_; have NB136_137 := n5_; have NB137_136 := n6_; clear n0_ n1_ n2_ n3_ n4_ n5_ n6_; clear hb hbox hg; have hnb26 := NB136_137.out; have hnc26 := NB137_136.out; have hcz27_0 : w25.cell? ⟨gb136,0,none⟩ = some (.int .i64 a0_0) := (za BK136.out 0).trans rfl; have hcz27_1 : w25.cell? ⟨gb136,1,none⟩ = some (.int .i64 a0_1) := (za BK136.out 1).trans rfl; have hcz27_2 : w25.cell? ⟨gb136,2,none⟩ = some (.string a0_2) := (za BK136.out 2).trans rfl; have hcz27_3 : w25.cell? ⟨gb136,3,none⟩ = some (.slice A0_3 l0_3.length c0_3) := (za BK136.out 3).trans rfl; have hcz27_4 : w25.cell? ⟨gb136,4,none⟩ = some (.slice A0_4 l0_4.length c0_4) := (za BK136.out 4).trans rfl; have hfz27_0 := zh BK136.out 0; have hfz27_1 := zh BK136.out 1; have hfz27_2 := zh BK136.out 2; have hfz27_3 := zh BK136.out 3; have hfz27_4 := zh BK136.out 4) | ((with_reducible refine xx (f := 15) rfl ?_); refine goesL_ (some 24) rfl rfl Tryz.func15 (by kernel_rfl) rfl #[.string a0_2] rfl (by (try simp only [List.map_toArray,List.map_cons,List.map_nil]); first | done | rfl | (simp only [List.length_drop,List.length_take]; rfl)) ?_; (with_reducible refine (spec_T.calls a0_2 t156 t157 t158 t159 t162 _ A23.out).mono ?_); rintro e w28 ⟨v160,v163,rfl,ho0,ho1,hb⟩; refine ⟨_,rfl, ?_⟩; have n0_ := aM (Kd.R_lower (Kd.R_newM (M := fun k_ => (w.heap.size ≤ k_)) ho0 (zo (by repeat (first | (with_reducible first | exact HB.out | apply zb | apply zc | apply zl | refine zj ?_ GE136.out | refine zj ?_ GE137.out) | exact HB.out))) (fun k_ h_ => h_)) (zo (by repeat (first | (with_reducible first | exact HB.out | apply zb | apply zc | apply zl | refine zj ?_ GE136.out | refine zj ?_ GE137.out) | exact HB.out)))); have n1_ := aM (Kd.N_lower (Kd.N_mono (ok' := fun k_ => (w.heap.size ≤ k_) ∧ some k_ ≠ (v160 : Value).ownBlock ∧ k_ ≠ gb136 ∧ k_ ≠ gb137) (Kd.R_N (Kd.R_bound ho1)) (fun k_ hk_ => ⟨(Nat.le_trans (zo (by repeat (first | (with_reducible first | exact HB.out | apply zb | apply zc | apply zl | refine zj ?_ GE136.out | refine zj ?_ GE137.out) | exact HB.out))) hk_.2.1),hk_.1,(Kd.freshB (g := gb136) (o := .cells #[.int .i64 a0_0, .int .i64 a0_1, .string a0_2, .slice A0_3 l0_3.length c0_3, .slice A0_4 l0_4.length c0_4] 25 (0,0)) (by (with_reducible repeat (first | refine zg ?_ _ | refine zk ?_ | refine ze ?_ _)); exact BK136.out) k_ hk_.2.1),(Kd.freshB (g := gb137) (o := .cells #[.int .i64 0, .int .i64 0, .string (⟨#[]⟩ : ByteArray), .slice none 0 0, .slice none 0 0] 25 (0,0)) (by (with_reducible repeat (first | refine zg ?_ _ | refine zk ?_ | refine ze ?_ _)); exact BK137.out) k_ hk_.2.1)⟩)) (zo (by repeat (first | (with_reducible first | exact HB.out | apply zb | apply zc | apply zl | refine zj ?_ GE136.out | refine zj ?_ GE137.out) | exact HB.out)))); have n2_ := aM (ya (g := gb136) (o := .cells #[.int .i64 a0_0, .int .i64 a0_1, .string a0_2, .slice A0_3 l0_3.length c0_3, .slice A0_4 l0_4.length c0_4] 25 (0,0)) (by (with_reducible repeat (first | refine zg ?_ _ | refine zk ?_ | refine ze ?_ _)); exact BK136.out) hb); have n3_ := aM (ya (g := gb137) (o := .cells #[.int .i64 0, .int .i64 0, .string (⟨#[]⟩ : ByteArray), .slice none 0 0, .slice none 0 0] 25 (0,0)) (by (with_reducible repeat (first | refine zg ?_ _ | refine zk ?_ | refine ze ?_ _)); exact BK137.out) hb); have n4_ := aM (zv (by repeat (first | (with_reducible first | exact HB.out | apply zb | apply zc | apply zl | refine zj ?_ GE136.out | refine zj ?_ GE137.out) | exact HB.out)) hb); clear BK136; clear BK137; clear HB; have HO161 := n0_; have HO164 := n1_; have BK136 := n2_; have BK137 := n3_; have HB := n4_; clear n0_ n1_ n2_ n3_ n4_; (try clear hb); (try clear hb2); (try clear hk); (try clear hi); (try clear ho0); (try clear ho1); have hcz29_0 : w28.cell? ⟨gb137,0,none⟩ = some (.int .i64 0) := (za BK137.out 0).trans rfl; have hcz29_1 : w28.cell? ⟨gb137,1,none⟩ = some (.int .i64 0) := (za BK137.out 1).trans rfl; have hcz29_2 : w28.cell? ⟨gb137,2,none⟩ = some (.string (⟨#[]⟩ : ByteArray)) := (za BK137.out 2).trans rfl; have hcz29_3 : w28.cell? ⟨gb137,3,none⟩ = some (.slice none 0 0) := (za BK137.out 3).trans rfl; have hcz29_4 : w28.cell? ⟨gb137,4,none⟩ = some (.slice none 0 0) := (za BK137.out 4).trans rfl; have hfz29_0 := zh BK137.out 0; have hfz29_1 := zh BK137.out 1; have hfz29_2 := zh BK137.out 2; have hfz29_3 := zh BK137.out 3; have hfz29_4 := zh BK137.out 4; obtain ⟨Ao30,co30,eo30⟩ := Kd.R_slice HO161.out; subst eo30; obtain ⟨Ao31,co31,eo31⟩ := Kd.N_slice HO164.out; subst eo31))
    refine bodyPost_ret (results_cell_row rfl _ _ gb137 25 #[.int .i64 t156, .int .i64 t157, .string t158, .slice Ao30 t159.length co30, .slice Ao31 t162.length co31] (0,0) _ rfl (by (with_reducible repeat (first | refine zg ?_ _ | refine zk ?_ | refine ze ?_ _)); refine yb (cs := #[.int .i64 t156, .int .i64 t157, .string t158, .slice Ao30 t159.length co30, .slice none 0 0]) ?_ 4 _ rfl; (with_reducible repeat (first | refine zg ?_ _ | refine zk ?_ | refine ze ?_ _)); refine yb (cs := #[.int .i64 t156, .int .i64 t157, .string t158, .slice none 0 0, .slice none 0 0]) ?_ 3 _ rfl; (with_reducible repeat (first | refine zg ?_ _ | refine zk ?_ | refine ze ?_ _)); refine yb (cs := #[.int .i64 t156, .int .i64 t157, .string (⟨#[]⟩ : ByteArray), .slice none 0 0, .slice none 0 0]) ?_ 2 _ rfl; (with_reducible repeat (first | refine zg ?_ _ | refine zk ?_ | refine ze ?_ _)); refine yb (cs := #[.int .i64 t156, .int .i64 0, .string (⟨#[]⟩ : ByteArray), .slice none 0 0, .slice none 0 0]) ?_ 1 _ rfl; (with_reducible repeat (first | refine zg ?_ _ | refine zk ?_ | refine ze ?_ _)); refine yb (cs := #[.int .i64 0, .int .i64 0, .string (⟨#[]⟩ : ByteArray), .slice none 0 0, .slice none 0 0]) ?_ 0 _ rfl; (with_reducible repeat (first | refine zg ?_ _ | refine zk ?_ | refine ze ?_ _)); exact BK137.out) Tryz.underlying25 rfl (by kernel_rfl)) rfl ?_; exact ⟨_, _,by first | rfl | (simp [zz,zw] <;> rfl) | (simp [*, zz,zw] <;> rfl),by (with_reducible repeat (first | apply Kd.R_alloc | apply Kd.R_drewN | apply Kd.R_drew)); exact Kd.R_mono (Kd.R_far (p := ⟨gb137,4,none⟩) (Kd.R_far (p := ⟨gb137,3,none⟩) (Kd.R_far (p := ⟨gb137,2,none⟩) (Kd.R_far (p := ⟨gb137,1,none⟩) (Kd.R_far (p := ⟨gb137,0,none⟩) (Kd.R_types HO161.out BK137.out (by decide)) (fun _ hk => hk.2) (.int .i64 t156)) (fun _ hk => hk.2) (.int .i64 t157)) (fun _ hk => hk.2) (.string t158)) (fun _ hk => hk.2) (.slice Ao30 t159.length co30)) (fun _ hk => hk.2) (.slice Ao31 t162.length co31)) (fun _ hk => hk.1.1),by (with_reducible repeat (first | apply Kd.N_alloc | apply Kd.N_drewN | apply Kd.N_drew)); exact Kd.N_mono (Kd.N_far (p := ⟨gb137,4,none⟩) (Kd.N_far (p := ⟨gb137,3,none⟩) (Kd.N_far (p := ⟨gb137,2,none⟩) (Kd.N_far (p := ⟨gb137,1,none⟩) (Kd.N_far (p := ⟨gb137,0,none⟩) (Kd.N_mono HO164.out (fun k_ hk => (⟨hk,hk.2.2.2⟩ : _ ∧ k_ ≠ gb137))) (fun _ hk => hk.2) (.int .i64 t156)) (fun _ hk => hk.2) (.int .i64 t157)) (fun _ hk => hk.2) (.string t158)) (fun _ hk => hk.2) (.slice Ao30 t159.length co30)) (fun _ hk => hk.2) (.slice Ao31 t162.length co31)) (fun _ hk => ⟨hk.1.1,hk.1.2.1⟩),by repeat (first | (with_reducible first | exact HB.out | apply zb | apply zc | apply zl | refine zj ?_ GE136.out | refine zj ?_ GE137.out) | exact HB.out)⟩
   ·rw [if_neg c22] at H; have c22b0 : (a0_0 == 3) = false := beq_eq_false_iff_ne.mpr c22; have c22b1 : (a0_0 != 3) = true := bne_iff_ne.mpr c22
    by_cases c32 : a0_0 = 4
    ·rw [if_pos c32] at H; have c32b0 : (a0_0 == 4) = true := beq_iff_eq.mpr c32; have c32b1 : (a0_0 != 4) = false := bne_eq_false_iff_eq.mpr c32; clear c32; have H' := aM H; clear H
     go_enter Tryz.func5,Tryz.ntmps5
     go_wp2_with (first | ((with_reducible refine yq (N := 1) rfl ?_); (try (refine yz (by rfl) ?_; dsimp only)); refine yp ?hg (N := 1) ?hd (cs := #[.int .i64 a0_0, .int .i64 a0_1, .string a0_2, .slice A0_3 l0_3.length c0_3, .slice A0_4 l0_4.length c0_4]) (t := 25) ?hr ?_; (case hd => rfl); (case hg => rfl); (case hr => first | (go_simp; done) | (go_simp; rfl)); intro gb136 hg w33 hbox hb; have n0_ := aM (zv (by repeat (first | (with_reducible first | exact HB.out | apply zb | apply zc | apply zl) | exact HB.out)) hb); have n1_ := aM (hbox); have n2_ := aM ((by rw [hg]; exact (zo (by repeat (first | (with_reducible first | exact HB.out | apply zb | apply zc | apply zl) | exact HB.out))) : w.heap.size ≤ gb136)); have n3_ := aM ((by rw [hg]; exact (zo (by repeat (first | (with_reducible first | exact HB.out | apply zb | apply zc | apply zl) | exact HB.out))) : w.heap.size ≤ gb136)); clear HB; have HB := n0_; have BK136 := n1_; have GW136 := n2_; have GE136 := n3_; clear n0_ n1_ n2_ n3_; clear hb hbox hg) | ((with_reducible refine yq (N := 2) rfl ?_); (try (refine yz (by rfl) ?_; dsimp only)); refine yp ?hg (N := 2) ?hd (cs := #[.int .i64 0, .int .i64 0, .string (⟨#[]⟩ : ByteArray), .slice none 0 0, .slice none 0 0]) (t := 25) ?hr ?_; (case hd => rfl); (case hg => rfl); (case hr => first | (go_simp; done) | (go_simp; rfl)); intro gb137 hg w34 hbox hb; have n0_ := aM (ya (g := gb136) (o := .cells #[.int .i64 a0_0, .int .i64 a0_1, .string a0_2, .slice A0_3 l0_3.length c0_3, .slice A0_4 l0_4.length c0_4] 25 (0,0)) (by (with_reducible repeat (first | refine zg ?_ _ | refine zk ?_ | refine ze ?_ _)); exact BK136.out) hb); have n1_ := aM (zv (by repeat (first | (with_reducible first | exact HB.out | apply zb | apply zc | apply zl | refine zj ?_ GE136.out) | exact HB.out)) hb); have n2_ := aM (hbox); have n3_ := aM ((by rw [hg]; exact (zo (by repeat (first | (with_reducible first | exact HB.out | apply zb | apply zc | apply zl | refine zj ?_ GE136.out) | exact HB.out))) : w.heap.size ≤ gb137)); have n4_ := aM ((by rw [hg]; exact (zo (by repeat (first | (with_reducible first | exact HB.out | apply zb | apply zc | apply zl | refine zj ?_ GE136.out) | exact HB.out))) : w.heap.size ≤ gb137)); have n5_ := aM ((by rw [hg]; exact Nat.ne_of_lt (yt (g := gb136) (o := .cells #[.int .i64 a0_0, .int .i64 a0_1, .string a0_2, .slice A0_3 l0_3.length c0_3, .slice A0_4 l0_4.length c0_4] 25 (0,0)) (by (with_reducible repeat (first | refine zg ?_ _ | refine zk ?_ | refine ze ?_ _)); exact BK136.out)) : gb136 ≠ gb137)); have n6_ := aM ((by rw [hg]; exact Nat.ne_of_gt (yt (g := gb136) (o := .cells #[.int .i64 a0_0, .int .i64 a0_1, .string a0_2, .slice A0_3 l0_3.length c0_3, .slice A0_4 l0_4.length c0_4] 25 (0,0)) (by (with_reducible repeat (first | refine zg ?_ _ | refine zk ?_ | refine ze ?_ _)); exact BK136.out)) : gb137 ≠ gb136)); clear BK136; clear HB; have BK136 := n0_; have HB := n1_; have BK137 := n2_; have GW137 := n3_; have GE137 := n4_; have NB136_137 := n5_; have NB137_136 := n6_; clear n0_ n1_ n2_ n3_ n4_ n5_ n6_; clear hb hbox hg; have hnb35 := NB136_137.out; have hnc35 := NB137_136.out; have hcz36_0 : w34.cell? ⟨gb136,0,none⟩ = some (.int .i64 a0_0) := (za BK136.out 0).trans rfl; have hcz36_1 : w34.cell? ⟨gb136,1,none⟩ = some (.int .i64 a0_1) := (za BK136.out 1).trans rfl; have hcz36_2 : w34.cell? ⟨gb136,2,none⟩ = some (.string a0_2) := (za BK136.out 2).trans rfl; have hcz36_3 : w34.cell? ⟨gb136,3,none⟩ = some (.slice A0_3 l0_3.length c0_3) := (za BK136.out 3).trans rfl; have hcz36_4 : w34.cell? ⟨gb136,4,none⟩ = some (.slice A0_4 l0_4.length c0_4) := (za BK136.out 4).trans rfl; have hfz36_0 := zh BK136.out 0; have hfz36_1 := zh BK136.out 1; have hfz36_2 := zh BK136.out 2; have hfz36_3 := zh BK136.out 3; have hfz36_4 := zh BK136.out 4) | ((with_reducible refine yq (N := 3) rfl ?_); (try (refine yz (by rfl) ?_; dsimp only)); refine yp ?hg (N := 3) ?hd (cs := #[.int .i64 0, .int .i64 0, .string (⟨#[]⟩ : ByteArray), .slice none 0 0, .slice none 0 0]) (t := 25) ?hr ?_; (case hd => rfl); (case hg => rfl); (case hr => first | (go_simp; done) | (go_simp; rfl)); intro gb165 hg w37 hbox hb; have n0_ := aM (ya (g := gb136) (o := .cells #[.int .i64 a0_0, .int .i64 a0_1, .string a0_2, .slice A0_3 l0_3.length c0_3, .slice A0_4 l0_4.length c0_4] 25 (0,0)) (by (with_reducible repeat (first | refine zg ?_ _ | refine zk ?_ | refine ze ?_ _)); exact BK136.out) hb); have n1_ := aM (ya (g := gb137) (o := .cells #[.int .i64 0, .int .i64 0, .string (⟨#[]⟩ : ByteArray), .slice none 0 0, .slice none 0 0] 25 (0,0)) (by (with_reducible repeat (first | refine zg ?_ _ | refine zk ?_ | refine ze ?_ _)); exact BK137.out) hb); have n2_ := aM (zv (by repeat (first | (with_reducible first | exact HB.out | apply zb | apply zc | apply zl | refine zj ?_ GE136.out | refine zj ?_ GE137.out) | exact HB.out)) hb); have n3_ := aM (hbox); have n4_ := aM ((by rw [hg]; exact (zo (by repeat (first | (with_reducible first | exact HB.out | apply zb | apply zc | apply zl | refine zj ?_ GE136.out | refine zj ?_ GE137.out) | exact HB.out))) : w.heap.size ≤ gb165)); have n5_ := aM ((by rw [hg]; exact (zo (by repeat (first | (with_reducible first | exact HB.out | apply zb | apply zc | apply zl | refine zj ?_ GE136.out | refine zj ?_ GE137.out) | exact HB.out))) : w.heap.size ≤ gb165)); have n6_ := aM ((by rw [hg]; exact Nat.ne_of_lt (yt (g := gb136) (o := .cells #[.int .i64 a0_0, .int .i64 a0_1, .string a0_2, .slice A0_3 l0_3.length c0_3, .slice A0_4 l0_4.length c0_4] 25 (0,0)) (by (with_reducible repeat (first | refine zg ?_ _ | refine zk ?_ | refine ze ?_ _)); exact BK136.out)) : gb136 ≠ gb165)); have n7_ := aM ((by rw [hg]; exact Nat.ne_of_gt (yt (g := gb136) (o := .cells #[.int .i64 a0_0, .int .i64 a0_1, .string a0_2, .slice A0_3 l0_3.length c0_3, .slice A0_4 l0_4.length c0_4] 25 (0,0)) (by (with_reducible repeat (first | refine zg ?_ _ | refine zk ?_ | refine ze ?_ _)); exact BK136.out)) : gb165 ≠ gb136)); have n8_ := aM ((by rw [hg]; exact Nat.ne_of_lt (yt (g := gb137) (o := .cells #[.int .i64 0, .int .i64 0, .string (⟨#[]⟩ : ByteArray), .slice none 0 0, .slice none 0 0] 25 (0,0)) (by (with_reducible repeat (first | refine zg ?_ _ | refine zk ?_ | refine ze ?_ _)); exact BK137.out)) : gb137 ≠ gb165)); have n9_ := aM ((by rw [hg]; exact Nat.ne_of_gt (yt (g := gb137) (o := .cells #[.int .i64 0, .int .i64 0, .string (⟨#[]⟩ : ByteArray), .slice none 0 0, .slice none 0 0] 25 (0,0)) (by (with_reducible repeat (first | refine zg ?_ _ | refine zk ?_ | refine ze ?_ _)); exact BK137.out)) : gb165 ≠ gb137)); clear BK136; clear BK137; clear HB; have BK136 := n0_; have BK137 := n1_; have HB := n2_; have BK165 := n3_; have GW165 := n4_; have GE165 := n5_; have NB136_165 := n6_; have NB165_136 := n7_; have NB137_165 := n8_; have NB165_137 := n9_; clear n0_ n1_ n2_ n3_ n4_ n5_ n6_ n7_ n8_ n9_; clear hb hbox hg; have hnb38 := NB165_136.out; have hnc38 := NB136_165.out; have hnb39 := NB165_137.out; have hnc39 := NB137_165.out; have hcz40_0 : w37.cell? ⟨gb165,0,none⟩ = some (.int .i64 0) := (za BK165.out 0).trans rfl; have hcz40_1 : w37.cell? ⟨gb165,1,none⟩ = some (.int .i64 0) := (za BK165.out 1).trans rfl; have hcz40_2 : w37.cell? ⟨gb165,2,none⟩ = some (.string (⟨#[]⟩ : ByteArray)) := (za BK165.out 2).trans rfl; have hcz40_3 : w37.cell? ⟨gb165,3,none⟩ = some (.slice none 0 0) := (za BK165.out 3).trans rfl; have hcz40_4 : w37.cell? ⟨gb165,4,none⟩ = some (.slice none 0 0) := (za BK165.out 4).trans rfl; have hfz40_0 := zh BK165.out 0; have hfz40_1 := zh BK165.out 1; have hfz40_2 := zh BK165.out 2; have hfz40_3 := zh BK165.out 3; have hfz40_4 := zh BK165.out 4))
     go_loopg [4] k (fun kq v4 w' => ∃ (x4_1 : Int) (x166004_1 : List (S25)) (u166004 : Value),v4 = .int .i64 x4_1 ∧ Aside0 (spec_Fit.l0 kq x4_1 a0_0 a0_1 a0_2 l0_3 l0_4 4 0 (⟨#[]⟩ : ByteArray) x166004_1 = some (r1,r2,r3,r4,r5)) ∧ Aside0 (kq ≤ k) ∧ Aside0 (Kd.N k25 25 w' w.heap.size (fun k_ => (w.heap.size ≤ k_) ∧ k_ ≠ gb136 ∧ k_ ≠ gb137 ∧ k_ ≠ gb165) u166004 x166004_1) ∧ Aside0 (w'.heap[gb136]? = some (.cells #[.int .i64 a0_0, .int .i64 a0_1, .string a0_2,(.slice A0_3 l0_3.length c0_3),(.slice A0_4 l0_4.length c0_4)] 25 (0,0))) ∧ Aside0 (w'.heap[gb137]? = some (.cells #[.int .i64 0, .int .i64 0, .string (⟨#[]⟩ : ByteArray),(.slice none 0 0),(.slice none 0 0)] 25 (0,0))) ∧ Aside0 (w'.heap[gb165]? = some (.cells #[.int .i64 4, .int .i64 0, .string (⟨#[]⟩ : ByteArray),(.slice none 0 0),u166004] 25 (0,0))) ∧ Aside0 (Below w.heap.size w w'))
     case atStart => exact ⟨(0),(([] : List (S25))),(.slice none 0 0),(by first | rfl | (simp; done) | (simp [*]; done)),H', ⟨Nat.le_refl _⟩,⟨by first | exact Kd.R_nil _ _ _ _ _ | exact Kd.N_nil _ _ _ _ _ | exact Kd.V_nil _ _ _ _ _ | exact Kd.Q_nil _ _ _ _ _ | exact Kd.S_nil _ _ _ _ _⟩,⟨by (with_reducible repeat (first | refine zg ?_ _ | refine zk ?_ | refine ze ?_ _)); refine yl ?_ NB136_165.out _; (with_reducible repeat (first | refine zg ?_ _ | refine zk ?_ | refine ze ?_ _)); refine yl ?_ NB136_165.out _; (with_reducible repeat (first | refine zg ?_ _ | refine zk ?_ | refine ze ?_ _)); refine yl ?_ NB136_165.out _; (with_reducible repeat (first | refine zg ?_ _ | refine zk ?_ | refine ze ?_ _)); refine yl ?_ NB136_165.out _; (with_reducible repeat (first | refine zg ?_ _ | refine zk ?_ | refine ze ?_ _)); refine yl ?_ NB136_165.out _; (with_reducible repeat (first | refine zg ?_ _ | refine zk ?_ | refine ze ?_ _)); exact BK136.out⟩,⟨by (with_reducible repeat (first | refine zg ?_ _ | refine zk ?_ | refine ze ?_ _)); refine yl ?_ NB137_165.out _; (with_reducible repeat (first | refine zg ?_ _ | refine zk ?_ | refine ze ?_ _)); refine yl ?_ NB137_165.out _; (with_reducible repeat (first | refine zg ?_ _ | refine zk ?_ | refine ze ?_ _)); refine yl ?_ NB137_165.out _; (with_reducible repeat (first | refine zg ?_ _ | refine zk ?_ | refine ze ?_ _)); refine yl ?_ NB137_165.out _; (with_reducible repeat (first | refine zg ?_ _ | refine zk ?_ | refine ze ?_ _)); refine yl ?_ NB137_165.out _; (with_reducible repeat (first | refine zg ?_ _ | refine zk ?_ | refine ze ?_ _)); exact BK137.out⟩,⟨by (with_reducible repeat (first | refine zg ?_ _ | refine zk ?_ | refine ze ?_ _)); refine yb (cs := #[.int .i64 4, .int .i64 0, .string (⟨#[]⟩ : ByteArray), .slice none 0 0, .slice none 0 0]) ?_ 4 _ rfl; (with_reducible repeat (first | refine zg ?_ _ | refine zk ?_ | refine ze ?_ _)); refine yb (cs := #[.int .i64 4, .int .i64 0, .string (⟨#[]⟩ : ByteArray), .slice none 0 0, .slice none 0 0]) ?_ 3 _ rfl; (with_reducible repeat (first | refine zg ?_ _ | refine zk ?_ | refine ze ?_ _)); refine yb (cs := #[.int .i64 4, .int .i64 0, .string (⟨#[]⟩ : ByteArray), .slice none 0 0, .slice none 0 0]) ?_ 2 _ rfl; (with_reducible repeat (first | refine zg ?_ _ | refine zk ?_ | refine ze ?_ _)); refine yb (cs := #[.int .i64 4, .int .i64 0, .string (⟨#[]⟩ : ByteArray), .slice none 0 0, .slice none 0 0]) ?_ 1 _ rfl; (with_reducible repeat (first | refine zg ?_ _ | refine zk ?_ | refine ze ?_ _)); refine yb (cs := #[.int .i64 0, .int .i64 0, .string (⟨#[]⟩ : ByteArray), .slice none 0 0, .slice none 0 0]) ?_ 0 _ rfl; (with_reducible repeat (first | refine zg ?_ _ | refine zk ?_ | refine ze ?_ _)); exact BK165.out⟩,⟨by repeat (first | (with_reducible first | exact HB.out | apply zb | apply zc | apply zl | refine zj ?_ GE136.out | refine zj ?_ GE137.out | refine zj ?_ GE165.out) | exact HB.out)⟩⟩
     case round =>
      clear H'
      try clear c1
      try clear c2
      try clear c2b0
      try clear c2b1
      try clear p2
      try clear c3
      try clear c5
      try clear c6
      try clear c12
      try clear c12b0
      try clear c12b1
      try clear c13
      try clear c14
      try clear c15
      try clear c16
      try clear c22
      try clear c22b0
      try clear c22b1
      try clear c26
      try clear c32
      try clear c32b0
      try clear c32b1
      try clear c35
      try clear c38
      try clear c39
      try clear hcz17_0
      try clear hcz17_1
      try clear hcz17_2
      try clear hcz17_3
      try clear hcz17_4
      try clear hcz19_0
      try clear hcz19_1
      try clear hcz19_2
      try clear hcz19_3
      try clear hcz19_4
      try clear hcz27_0
      try clear hcz27_1
      try clear hcz27_2
      try clear hcz27_3
      try clear hcz27_4
      try clear hcz29_0
      try clear hcz29_1
      try clear hcz29_2
      try clear hcz29_3
      try clear hcz29_4
      try clear hcz36_0
      try clear hcz36_1
      try clear hcz36_2
      try clear hcz36_3
      try clear hcz36_4
      try clear hcz40_0
      try clear hcz40_1
      try clear hcz40_2
      try clear hcz40_3
      try clear hcz40_4
      try clear hcz7_0
      try clear hcz7_1
      try clear hcz7_2
      try clear hcz7_3
      try clear hcz7_4
      try clear hcz9_0
      try clear hcz9_1
      try clear hcz9_2
      try clear hcz9_3
      try clear hcz9_4
      try clear hfz17_0
      try clear hfz17_1
      try clear hfz17_2
      try clear hfz17_3
      try clear hfz17_4
      try clear hfz19_0
      try clear hfz19_1
      try clear hfz19_2
      try clear hfz19_3
      try clear hfz19_4
      try clear hfz27_0
      try clear hfz27_1
      try clear hfz27_2
      try clear hfz27_3
      try clear hfz27_4
      try clear hfz29_0
      try clear hfz29_1
      try clear hfz29_2
      try clear hfz29_3
      try clear hfz29_4
      try clear hfz36_0
      try clear hfz36_1
      try clear hfz36_2
      try clear hfz36_3
      try clear hfz36_4
      try clear hfz40_0
      try clear hfz40_1
      try clear hfz40_2
      try clear hfz40_3
      try clear hfz40_4
      try clear hfz7_0
      try clear hfz7_1
      try clear hfz7_2
      try clear hfz7_3
      try clear hfz7_4
      try clear hfz9_0
      try clear hfz9_1
      try clear hfz9_2
      try clear hfz9_3
      try clear hfz9_4
      obtain ⟨x4_1,x166004_1,u166004,rfl,HA,HK1,HO_166004,BK136,BK137,BK165,HB⟩ := hrel
      cases gk with
      | zero => exact absurd HA.out (by simp [spec_Fit.l0])
      | succ k1 =>
       have H := HA.out; clear HA; simp only [spec_Fit.l0] at H
       by_cases c41 : x4_1 < (l0_4.length : Int)
       ·rw [if_pos c41] at H; have c41b0 : decide (x4_1 < (l0_4.length : Int)) = true := decide_eq_true c41; clear c41
        by_cases c42 : 0 ≤ x4_1
        ·rw [if_pos c42] at H; have c42b0 : decide (0 ≤ x4_1) = true := decide_eq_true c42; clear c42; replace H := Option.bind_eq_some_iff.mp H; obtain ⟨⟨t167,t168,t169,t170,t173⟩,A430,H⟩ := H; replace H : (if x166004_1.length < 1759218604441 then (spec_Fit.l0 k1 (wrap64 (x4_1 + 1)) a0_0 a0_1 a0_2 l0_3 l0_4 4 0 (⟨#[]⟩ : ByteArray) (x166004_1 ++ [(⟨t167,t168,t169,t170,t173⟩ : S25)])) else (none)) = some (r1,r2,r3,r4,r5) := H; have A43 := aM A430; clear A430
         by_cases c44 : x166004_1.length < 1759218604441
         ·rw [if_pos c44] at H; have LMc44 := aM c44; clear c44
          obtain ⟨y176,hy176⟩ : ∃ y_ : List (S25),y_ = (x166004_1 ++ [(⟨t167,t168,t169,t170,t173⟩ : S25)]) := ⟨_,rfl⟩
          replace H : (spec_Fit.l0 k1 (wrap64 (x4_1 + 1)) a0_0 a0_1 a0_2 l0_3 l0_4 4 0 (⟨#[]⟩ : ByteArray) y176) = some (r1,r2,r3,r4,r5) := by first | (rw [hy176]; with_reducible exact H) | (have H2_ := (Option.bind_some _ _).symm.trans H; rw [hy176]; with_reducible exact H2_) | (have H2_ := (Option.bind_some _ _).symm.trans H; with_reducible exact H2_) | with_reducible exact H | (rw [hy176]; exact H) | exact H
          have Ny176 := aM hy176; clear hy176; have H' := aM H; clear H; have hnb45 := NB136_137.out; have hnc45 := NB137_136.out; have hnb46 := NB136_165.out; have hnc46 := NB165_136.out; have hcz47_0 : wr.cell? ⟨gb136,0,none⟩ = some (.int .i64 a0_0) := (za BK136.out 0).trans rfl; have hcz47_1 : wr.cell? ⟨gb136,1,none⟩ = some (.int .i64 a0_1) := (za BK136.out 1).trans rfl; have hcz47_2 : wr.cell? ⟨gb136,2,none⟩ = some (.string a0_2) := (za BK136.out 2).trans rfl; have hcz47_3 : wr.cell? ⟨gb136,3,none⟩ = some (.slice A0_3 l0_3.length c0_3) := (za BK136.out 3).trans rfl; have hcz47_4 : wr.cell? ⟨gb136,4,none⟩ = some (.slice A0_4 l0_4.length c0_4) := (za BK136.out 4).trans rfl; have hfz47_0 := zh BK136.out 0; have hfz47_1 := zh BK136.out 1; have hfz47_2 := zh BK136.out 2; have hfz47_3 := zh BK136.out 3; have hfz47_4 := zh BK136.out 4
          try go_wp2
          have n0_ := aM (Kd.N_drew HO_166004.out); have n1_ := aM (zk BK136.out); have n2_ := aM (zk BK137.out); have n3_ := aM (zk BK165.out); have n4_ := aM (zl HB.out); clear HO_166004 BK136 BK137 BK165 HB; have HO_166004 := n0_; have BK136 := n1_; have BK137 := n2_; have BK165 := n3_; have HB := n4_; clear n0_ n1_ n2_ n3_ n4_; have p166 : 0 ≤ (x4_1 : Int) := of_decide_eq_true (by first | (with_reducible assumption) | assumption); have q166 : x4_1 < (l0_4.length : Int) := of_decide_eq_true (by first | (with_reducible assumption) | assumption); obtain ⟨ad166,A166_3,c166_3,A166_4,c166_4,e166,hx166_0,hx166_1,hx166_2,hx166_3,hx166_4,hl166_3,hi166_3,hl166_4,hi166_4⟩ := at_T25 HR0_4.out x4_1 p166 q166; have hw166_4 := hx166_4; have hw166_3 := hx166_3; have hw166_2 := hx166_2; have hw166_1 := hx166_1; have hw166_0 := hx166_0
          cases e166
          replace hx166_0 := (HB.out.cell (World.block_lt_of_cell? w _ hx166_0)).trans hx166_0; replace hx166_1 := (HB.out.cell (World.block_lt_of_cell? w _ hx166_1)).trans hx166_1; replace hx166_2 := (HB.out.cell (World.block_lt_of_cell? w _ hx166_2)).trans hx166_2; replace hx166_3 := (HB.out.cell (World.block_lt_of_cell? w _ hx166_3)).trans hx166_3; replace hx166_4 := (HB.out.cell (World.block_lt_of_cell? w _ hx166_4)).trans hx166_4; have HR166_3 := aM hi166_3; have HC166_3 := aM hl166_3; clear hi166_3 hl166_3; have HR166_4 := aM hi166_4; have HC166_4 := aM hl166_4; clear hi166_4 hl166_4; replace p166 := eq_true p166; replace q166 := eq_true q166; refine xm (n := 12) (S := fun w' => w'.cell? ⟨gb165,0,none⟩ = some (.int .i64 4) ∧ w'.cell? ⟨gb165,1,none⟩ = some (.int .i64 0) ∧ w'.cell? ⟨gb165,2,none⟩ = some (.string (⟨#[]⟩ : ByteArray)) ∧ w'.cell? ⟨gb165,3,none⟩ = some (.slice none 0 0) ∧ w'.cell? ⟨gb165,4,none⟩ = some (u166004) ∧ w'.cell? ⟨gb136,0,none⟩ = some (.int .i64 a0_0) ∧ w'.cell? ⟨gb136,1,none⟩ = some (.int .i64 a0_1) ∧ w'.cell? ⟨gb136,2,none⟩ = some (.string a0_2) ∧ w'.cell? ⟨gb136,3,none⟩ = some (.slice A0_3 l0_3.length c0_3) ∧ w'.cell? ⟨gb136,4,none⟩ = some (.slice (some ad166) l0_4.length c0_4) ∧ w'.cell? (ad166.add ((x4_1).toNat * 5)) = some (.int .i64 ((rd_T25 l0_4 x4_1).f0)) ∧ w'.cell? ⟨(ad166.add ((x4_1).toNat * 5)).block,(ad166.add ((x4_1).toNat * 5)).off + 1,none⟩ = some (.int .i64 ((rd_T25 l0_4 x4_1).f1)) ∧ w'.cell? ⟨(ad166.add ((x4_1).toNat * 5)).block,(ad166.add ((x4_1).toNat * 5)).off + 2,none⟩ = some (.string ((rd_T25 l0_4 x4_1).f2)) ∧ w'.cell? ⟨(ad166.add ((x4_1).toNat * 5)).block,(ad166.add ((x4_1).toNat * 5)).off + 3,none⟩ = some (.slice A166_3 ((rd_T25 l0_4 x4_1).f3).length c166_3) ∧ w'.cell? ⟨(ad166.add ((x4_1).toNat * 5)).block,(ad166.add ((x4_1).toNat * 5)).off + 4,none⟩ = some (.slice A166_4 ((rd_T25 l0_4 x4_1).f4).length c166_4)) (ds := [11]) (bZ 12 0) (by kernel_rfl) rfl rfl ⟨(za BK165.out 0).trans rfl,(za BK165.out 1).trans rfl,(za BK165.out 2).trans rfl,(za BK165.out 3).trans rfl,(za BK165.out 4).trans rfl,(za BK136.out 0).trans rfl,(za BK136.out 1).trans rfl,(za BK136.out 2).trans rfl,(za BK136.out 3).trans rfl,(za BK136.out 4).trans rfl,((HB.out.cell (World.block_lt_of_cell? w _ hw166_0)).trans hw166_0),((HB.out.cell (World.block_lt_of_cell? w _ hw166_1)).trans hw166_1),((HB.out.cell (World.block_lt_of_cell? w _ hw166_2)).trans hw166_2),((HB.out.cell (World.block_lt_of_cell? w _ hw166_3)).trans hw166_3),((HB.out.cell (World.block_lt_of_cell? w _ hw166_4)).trans hw166_4)⟩ (fun hHeld => ?_); refine vn spec_Fit.tab13 spec_Fit.bits13 (fun HT_ HW_ => ?_); generalize wr.drew = w48 at HO_166004 BK136 BK137 BK165 HB HR166_3 HR166_4 hx166_0 hx166_1 hx166_2 hx166_3 hx166_4 hHeld ⊢; refine pU 0 (some 35) (bZ 12 1) rfl (yn HT_.out (by kernel_rfl)) ?_; refine pU 2 (some 37) (bZ 12 5) rfl (yn HT_.out (by kernel_rfl)) ?_; refine pU 4 (some 39) (bZ 12 21) rfl (yn HT_.out (by kernel_rfl)) ?_; refine tU 1 (some 36) (bZ 12 23) rfl (yr HT_.out HW_.out (by kernel_rfl)) (Or.inl ⟨by rfl,by rintro w' ⟨s0,s1,s2,s3,s4,s5,s6,s7,s8,s9,s10,s11,s12,s13,s14⟩; go_simp; with_reducible rfl⟩) hHeld ?_; refine tU 3 (some 38) (bZ 12 31) rfl (yr HT_.out HW_.out (by kernel_rfl)) (Or.inl ⟨by rfl,by rintro w' ⟨s0,s1,s2,s3,s4,s5,s6,s7,s8,s9,s10,s11,s12,s13,s14⟩; go_simp; with_reducible rfl⟩) hHeld ?_; refine pU 5 (some 40) (bZ 12 63) rfl (yn HT_.out (by kernel_rfl)) ?_; refine tU 6 (some 41) (bZ 12 127) rfl (yr HT_.out HW_.out (by kernel_rfl)) (Or.inl ⟨by rfl,by rintro w' ⟨s0,s1,s2,s3,s4,s5,s6,s7,s8,s9,s10,s11,s12,s13,s14⟩; go_simp; with_reducible rfl⟩) hHeld ?_; refine one_ (i := 7) (N := some 42) (bZ 12 255) rfl rfl (xp HT_.out (by kernel_rfl)) (by decide) (fun K hK => ?_); refine xc Tryz.func5 (by kernel_rfl) rfl #[.agg #[.int .i64 ((rd_T25 l0_4 x4_1).f0), .int .i64 ((rd_T25 l0_4 x4_1).f1), .string ((rd_T25 l0_4 x4_1).f2), .slice A166_3 ((rd_T25 l0_4 x4_1).f3).length c166_3, .slice A166_4 ((rd_T25 l0_4 x4_1).f4).length c166_4]] (by rfl) rfl rfl (by (try simp only [List.map_toArray,List.map_cons,List.map_nil]); first | done | rfl | (simp only [List.length_drop,List.length_take]; rfl)) ?_
          with_reducible refine (ih k1 (by have := HK1.out; omega) ((rd_T25 l0_4 x4_1).f0) ((rd_T25 l0_4 x4_1).f1) ((rd_T25 l0_4 x4_1).f2) _ _ ((rd_T25 l0_4 x4_1).f3) _ _ ((rd_T25 l0_4 x4_1).f4) t167 t168 t169 t170 t173 _ ?side1 ?side2 ?side3 ?side4 A43.out).mono ?_
          (case side1 => repeat (first | exact (Kd.C_below HR166_3.out HB.out) | (with_reducible refine Kd.C_alloc ?_ _) | (with_reducible refine Kd.C_drewN ?_ _) | (with_reducible refine Kd.C_drew ?_)))
          (case side2 => exact HC166_3.out)
          (case side3 => repeat (first | exact (Kd.C_below HR166_4.out HB.out) | (with_reducible refine Kd.C_alloc ?_ _) | (with_reducible refine Kd.C_drewN ?_ _) | (with_reducible refine Kd.C_drew ?_)))
          (case side4 => exact HC166_4.out)
          rintro e w49 ⟨v171,v174,rfl,ho0,ho1,hb⟩; refine ⟨_,rfl, ?_⟩; have n0_ := aM (Kd.N_mono (Kd.N_told (Kd.N_told (Kd.N_old (by (with_reducible repeat (first | apply Kd.N_alloc | apply Kd.N_drewN | apply Kd.N_drew)); exact HO_166004.out) hb) (Kd.R_base ho0)) (Kd.N_base ho1)) (fun _ h_ => h_.1)); have n1_ := aM (Kd.R_lower (Kd.R_newM (M := fun k_ => (w.heap.size ≤ k_)) (Kd.R_mono (ok' := fun k_ => True) ho0 (fun _ hk_ => trivial)) (zo (by repeat (first | (with_reducible first | exact HB.out | apply zb | apply zc | apply zl | refine zj ?_ GE136.out | refine zj ?_ GE137.out | refine zj ?_ GE165.out) | exact HB.out))) (fun k_ h_ => h_)) (zo (by repeat (first | (with_reducible first | exact HB.out | apply zb | apply zc | apply zl | refine zj ?_ GE136.out | refine zj ?_ GE137.out | refine zj ?_ GE165.out) | exact HB.out)))); have n2_ := aM (Kd.N_lower (Kd.N_mono (ok' := fun k_ => (w.heap.size ≤ k_) ∧ some k_ ≠ (v171 : Value).ownBlock ∧ some k_ ≠ (u166004 : Value).ownBlock ∧ k_ ≠ gb136 ∧ k_ ≠ gb137 ∧ k_ ≠ gb165) ho1 (fun k_ hk_ => ⟨(Nat.le_trans (zo (by repeat (first | (with_reducible first | exact HB.out | apply zb | apply zc | apply zl | refine zj ?_ GE136.out | refine zj ?_ GE137.out | refine zj ?_ GE165.out) | exact HB.out))) hk_.1),hk_.2,(Kd.fresh' (Kd.N_lt (by (with_reducible repeat (first | apply Kd.N_alloc | apply Kd.N_drewN | apply Kd.N_drew)); exact HO_166004.out)) k_ hk_.1),(Kd.freshB (g := gb136) (o := .cells #[.int .i64 a0_0, .int .i64 a0_1, .string a0_2, .slice A0_3 l0_3.length c0_3, .slice (some ad166) l0_4.length c0_4] 25 (0,0)) (by (with_reducible repeat (first | refine zg ?_ _ | refine zk ?_ | refine ze ?_ _)); exact BK136.out) k_ hk_.1),(Kd.freshB (g := gb137) (o := .cells #[.int .i64 0, .int .i64 0, .string (⟨#[]⟩ : ByteArray), .slice none 0 0, .slice none 0 0] 25 (0,0)) (by (with_reducible repeat (first | refine zg ?_ _ | refine zk ?_ | refine ze ?_ _)); exact BK137.out) k_ hk_.1),(Kd.freshB (g := gb165) (o := .cells #[.int .i64 4, .int .i64 0, .string (⟨#[]⟩ : ByteArray), .slice none 0 0,u166004] 25 (0,0)) (by (with_reducible repeat (first | refine zg ?_ _ | refine zk ?_ | refine ze ?_ _)); exact BK165.out) k_ hk_.1)⟩)) (zo (by repeat (first | (with_reducible first | exact HB.out | apply zb | apply zc | apply zl | refine zj ?_ GE136.out | refine zj ?_ GE137.out | refine zj ?_ GE165.out) | exact HB.out)))); have n3_ := aM (ya (g := gb136) (o := .cells #[.int .i64 a0_0, .int .i64 a0_1, .string a0_2, .slice A0_3 l0_3.length c0_3, .slice (some ad166) l0_4.length c0_4] 25 (0,0)) (by (with_reducible repeat (first | refine zg ?_ _ | refine zk ?_ | refine ze ?_ _)); exact BK136.out) hb); have n4_ := aM (ya (g := gb137) (o := .cells #[.int .i64 0, .int .i64 0, .string (⟨#[]⟩ : ByteArray), .slice none 0 0, .slice none 0 0] 25 (0,0)) (by (with_reducible repeat (first | refine zg ?_ _ | refine zk ?_ | refine ze ?_ _)); exact BK137.out) hb); have n5_ := aM (ya (g := gb165) (o := .cells #[.int .i64 4, .int .i64 0, .string (⟨#[]⟩ : ByteArray), .slice none 0 0,u166004] 25 (0,0)) (by (with_reducible repeat (first | refine zg ?_ _ | refine zk ?_ | refine ze ?_ _)); exact BK165.out) hb); have n6_ := aM (zv (by repeat (first | (with_reducible first | exact HB.out | apply zb | apply zc | apply zl | refine zj ?_ GE136.out | refine zj ?_ GE137.out | refine zj ?_ GE165.out) | exact HB.out)) hb); clear HO_166004 BK136 BK137 BK165 HB; have HO_166004 := n0_; have HO172 := n1_; have HO175 := n2_; have BK136 := n3_; have BK137 := n4_; have BK165 := n5_; have HB := n6_; clear n0_ n1_ n2_ n3_ n4_ n5_ n6_
          (try clear hb)
          (try clear hb2)
          (try clear hk)
          (try clear hi)
          (try clear ho0)
          (try clear ho1)
          obtain ⟨Ao51,co51,eo51⟩ := Kd.R_slice HO172.out
          (first | subst eo51 | (injection eo51 with f1_ f2_ f3_; have f4_ := f1_.symm; have f5_ := f3_.symm; clear f1_ f2_ f3_; subst f4_; subst f5_))
          obtain ⟨Ao52,co52,eo52⟩ := Kd.N_slice HO175.out
          (first | subst eo52 | (injection eo52 with f1_ f2_ f3_; have f4_ := f1_.symm; have f5_ := f3_.symm; clear f1_ f2_ f3_; subst f4_; subst f5_))
          refine hK.out _ _ ⟨(za BK165.out 0).trans rfl,(za BK165.out 1).trans rfl,(za BK165.out 2).trans rfl,(za BK165.out 3).trans rfl,(za BK165.out 4).trans rfl,(za BK136.out 0).trans rfl,(za BK136.out 1).trans rfl,(za BK136.out 2).trans rfl,(za BK136.out 3).trans rfl,(za BK136.out 4).trans rfl,((HB.out.cell (World.block_lt_of_cell? w _ hw166_0)).trans hw166_0),((HB.out.cell (World.block_lt_of_cell? w _ hw166_1)).trans hw166_1),((HB.out.cell (World.block_lt_of_cell? w _ hw166_2)).trans hw166_2),((HB.out.cell (World.block_lt_of_cell? w _ hw166_3)).trans hw166_3),((HB.out.cell (World.block_lt_of_cell? w _ hw166_4)).trans hw166_4)⟩ (fun hHeld => ?_); clear hK K; refine zr (a' := ?_) ?_ ?_; rotate_left
          ·show Act.put _ (some 42) _ = _
           simp only [Act.put,sA,sB,sC,yf,yg]; rfl
          refine one_ (i := 8) (N := some 43) (bZ 12 511) rfl rfl (xp HT_.out (by kernel_rfl)) (by decide) (fun K hK => ?_); refine yc (w1 := ?_) (v := ?_) (by rfl) rfl ?_ ?_; rotate_left 2
          ·go_simp; constructor
           ·rfl
           ·rfl
          refine hK.out _ _ ⟨(za (ze BK165.out _) 0).trans rfl,(za (ze BK165.out _) 1).trans rfl,(za (ze BK165.out _) 2).trans rfl,(za (ze BK165.out _) 3).trans rfl,(za (ze BK165.out _) 4).trans rfl,(za (ze BK136.out _) 0).trans rfl,(za (ze BK136.out _) 1).trans rfl,(za (ze BK136.out _) 2).trans rfl,(za (ze BK136.out _) 3).trans rfl,(za (ze BK136.out _) 4).trans rfl,(World.cell?_alloc_lt _ _ _ (World.block_lt_of_cell? _ _ (((HB.out.cell (World.block_lt_of_cell? w _ hw166_0)).trans hw166_0)))).trans (((HB.out.cell (World.block_lt_of_cell? w _ hw166_0)).trans hw166_0)),(World.cell?_alloc_lt _ _ _ (World.block_lt_of_cell? _ _ (((HB.out.cell (World.block_lt_of_cell? w _ hw166_1)).trans hw166_1)))).trans (((HB.out.cell (World.block_lt_of_cell? w _ hw166_1)).trans hw166_1)),(World.cell?_alloc_lt _ _ _ (World.block_lt_of_cell? _ _ (((HB.out.cell (World.block_lt_of_cell? w _ hw166_2)).trans hw166_2)))).trans (((HB.out.cell (World.block_lt_of_cell? w _ hw166_2)).trans hw166_2)),(World.cell?_alloc_lt _ _ _ (World.block_lt_of_cell? _ _ (((HB.out.cell (World.block_lt_of_cell? w _ hw166_3)).trans hw166_3)))).trans (((HB.out.cell (World.block_lt_of_cell? w _ hw166_3)).trans hw166_3)),(World.cell?_alloc_lt _ _ _ (World.block_lt_of_cell? _ _ (((HB.out.cell (World.block_lt_of_cell? w _ hw166_4)).trans hw166_4)))).trans (((HB.out.cell (World.block_lt_of_cell? w _ hw166_4)).trans hw166_4))⟩ (fun hHeld => ?_); clear hK K; refine zr (a' := ?_) ?_ ?_; rotate_left
          ·show Act.put _ (some 43) _ = _
           simp only [Act.put,sA,sB,sC,yf,yg]; rfl
          refine one_ (i := 9) (N := some 44) (bZ 12 1023) rfl rfl (xp HT_.out (by kernel_rfl)) (by decide) (fun K hK => ?_); refine Kd.N_append_step k25 (w0 := w) w.heap.size (by rfl) (.tmp 36) (.tmp 43) 23 25 (.agg #[(.int .i64 0),(.int .i64 0),(.string ⟨#[]⟩),(.slice none 0 0),(.slice none 0 0)]) 80 rfl Tryz.underlying23 xq rfl (by decide) (by omega) u166004 x166004_1 (⟨t167,t168,t169,t170,t173⟩ : S25) [.int .i64 t167, .int .i64 t168, .string t169, .slice Ao51 t170.length co51, .slice Ao52 t173.length co52] (fun k_ => (w.heap.size ≤ k_) ∧ k_ ≠ gb136 ∧ k_ ≠ gb137 ∧ k_ ≠ gb165) (fun k_ => ((fun k_ => (w.heap.size ≤ k_) ∧ k_ ≠ gb136 ∧ k_ ≠ gb137 ∧ k_ ≠ gb165)) k_ ∧ some k_ ≠ (u166004 : Value).ownBlock) rfl rfl ?aP (fun _ hk => hk) ?aF ?aO ?aB ?aS ?aL ?_
          (case aP => exact (k25_mkF _ _ (⟨t167,t168,t169,t170,t173⟩ : S25) (Kd.R_reads' (Kd.R_mono (ok' := (fun k_ => ((fun k_ => (w.heap.size ≤ k_) ∧ k_ ≠ gb136 ∧ k_ ≠ gb137 ∧ k_ ≠ gb165)) k_ ∧ some k_ ≠ (u166004 : Value).ownBlock)) (Kd.R_types (Kd.R_types (Kd.R_types (Kd.R_apart' (HO172.out) (Kd.N_typed HO_166004.out) (by decide)) BK136.out (by decide)) BK137.out (by decide)) BK165.out (by decide)) (fun k_ hk => ⟨⟨hk.1.1.1.1.1,⟨hk.1.1.2,⟨hk.1.2,hk.2⟩⟩⟩,hk.1.1.1.2⟩))).2.1 (Kd.R_F (Kd.R_mono (ok' := (fun k_ => ((fun k_ => (w.heap.size ≤ k_) ∧ k_ ≠ gb136 ∧ k_ ≠ gb137 ∧ k_ ≠ gb165)) k_ ∧ some k_ ≠ (u166004 : Value).ownBlock)) (Kd.R_types (Kd.R_types (Kd.R_types (Kd.R_apart' (HO172.out) (Kd.N_typed HO_166004.out) (by decide)) BK136.out (by decide)) BK137.out (by decide)) BK165.out (by decide)) (fun k_ hk => ⟨⟨hk.1.1.1.1.1,⟨hk.1.1.2,⟨hk.1.2,hk.2⟩⟩⟩,hk.1.1.1.2⟩))) (Kd.N_reads' (Kd.N_mono (ok' := (fun k_ => ((fun k_ => (w.heap.size ≤ k_) ∧ k_ ≠ gb136 ∧ k_ ≠ gb137 ∧ k_ ≠ gb165)) k_ ∧ some k_ ≠ (u166004 : Value).ownBlock)) (HO175.out) (fun k_ hk => ⟨⟨hk.1,⟨hk.2.2.2.1,⟨hk.2.2.2.2.1,hk.2.2.2.2.2⟩⟩⟩,hk.2.2.1⟩))).2.1 (Kd.N_F (Kd.N_mono (ok' := (fun k_ => ((fun k_ => (w.heap.size ≤ k_) ∧ k_ ≠ gb136 ∧ k_ ≠ gb137 ∧ k_ ≠ gb165)) k_ ∧ some k_ ≠ (u166004 : Value).ownBlock)) (HO175.out) (fun k_ hk => ⟨⟨hk.1,⟨hk.2.2.2.1,⟨hk.2.2.2.2.1,hk.2.2.2.2.2⟩⟩⟩,hk.2.2.1⟩)))))
          (case aB => exact (by repeat (first | (with_reducible first | exact HB.out | apply zb | apply zc | apply zl | refine zj ?_ GE136.out | refine zj ?_ GE137.out | refine zj ?_ GE165.out) | exact HB.out)))
          (case aF => exact (fun k_ hk => ⟨(Nat.le_trans (zo (by repeat (first | (with_reducible first | exact HB.out | apply zb | apply zc | apply zl | refine zj ?_ GE136.out | refine zj ?_ GE137.out | refine zj ?_ GE165.out) | exact HB.out))) hk),Kd.freshB (g := gb136) (o := .cells #[.int .i64 a0_0, .int .i64 a0_1, .string a0_2, .slice A0_3 l0_3.length c0_3, .slice (some ad166) l0_4.length c0_4] 25 (0,0)) (by (with_reducible repeat (first | refine zg ?_ _ | refine zk ?_ | refine ze ?_ _)); exact BK136.out) k_ hk,Kd.freshB (g := gb137) (o := .cells #[.int .i64 0, .int .i64 0, .string (⟨#[]⟩ : ByteArray), .slice none 0 0, .slice none 0 0] 25 (0,0)) (by (with_reducible repeat (first | refine zg ?_ _ | refine zk ?_ | refine ze ?_ _)); exact BK137.out) k_ hk,Kd.freshB (g := gb165) (o := .cells #[.int .i64 4, .int .i64 0, .string (⟨#[]⟩ : ByteArray), .slice none 0 0,u166004] 25 (0,0)) (by (with_reducible repeat (first | refine zg ?_ _ | refine zk ?_ | refine ze ?_ _)); exact BK165.out) k_ hk⟩))
          (case aO => exact (by (with_reducible repeat (first | apply Kd.N_alloc | apply Kd.N_drewN | apply Kd.N_drew)); exact Kd.N_mono HO_166004.out (fun _ hk => ⟨hk.1.1.1,⟨hk.1.1.2.1,⟨hk.1.1.2.2.1,hk.1.1.2.2.2⟩⟩⟩)))
          (case aS => exact (zo (by repeat (first | (with_reducible first | exact HB.out | apply zb | apply zc | apply zl | refine zj ?_ GE136.out | refine zj ?_ GE137.out | refine zj ?_ GE165.out) | exact HB.out))))
          (case aL => have := LMc44.out; omega)
          intro v177 w50 ho hb hg hat; rw [← Ny176.out] at ho; have n0_ := aM (yx (g := gb136) (o := .cells #[.int .i64 a0_0, .int .i64 a0_1, .string a0_2, .slice A0_3 l0_3.length c0_3, .slice (some ad166) l0_4.length c0_4] 25 (0,0)) (by (with_reducible repeat (first | refine zg ?_ _ | refine zk ?_ | refine ze ?_ _)); exact BK136.out) hg (Kd.N_away HO_166004.out (fun _ hk => hk.1.1.2.1))); have n1_ := aM (yx (g := gb137) (o := .cells #[.int .i64 0, .int .i64 0, .string (⟨#[]⟩ : ByteArray), .slice none 0 0, .slice none 0 0] 25 (0,0)) (by (with_reducible repeat (first | refine zg ?_ _ | refine zk ?_ | refine ze ?_ _)); exact BK137.out) hg (Kd.N_away HO_166004.out (fun _ hk => hk.1.1.2.2.1))); have n2_ := aM (yx (g := gb165) (o := .cells #[.int .i64 4, .int .i64 0, .string (⟨#[]⟩ : ByteArray), .slice none 0 0,u166004] 25 (0,0)) (by (with_reducible repeat (first | refine zg ?_ _ | refine zk ?_ | refine ze ?_ _)); exact BK165.out) hg (Kd.N_away HO_166004.out (fun _ hk => hk.1.1.2.2.2))); have n3_ := aM (hb); have n4_ := aM (ho); clear BK136 BK137 BK165 HB HO_166004 HO172 HO175; have BK136 := n0_; have BK137 := n1_; have BK165 := n2_; have HB := n3_; have HO178 := n4_; clear n0_ n1_ n2_ n3_ n4_ ho hb hg hat; obtain ⟨Ao53,co53,eo53⟩ := Kd.N_slice HO178.out
          (first | subst eo53 | (injection eo53 with f1_ f2_ f3_; have f4_ := f1_.symm; have f5_ := f3_.symm; clear f1_ f2_ f3_; subst f4_; subst f5_))
          refine hK.out _ _ ⟨(za BK165.out 0).trans rfl,(za BK165.out 1).trans rfl,(za BK165.out 2).trans rfl,(za BK165.out 3).trans rfl,(za BK165.out 4).trans rfl,(za BK136.out 0).trans rfl,(za BK136.out 1).trans rfl,(za BK136.out 2).trans rfl,(za BK136.out 3).trans rfl,(za BK136.out 4).trans rfl,((HB.out.cell (World.block_lt_of_cell? w _ hw166_0)).trans hw166_0),((HB.out.cell (World.block_lt_of_cell? w _ hw166_1)).trans hw166_1),((HB.out.cell (World.block_lt_of_cell? w _ hw166_2)).trans hw166_2),((HB.out.cell (World.block_lt_of_cell? w _ hw166_3)).trans hw166_3),((HB.out.cell (World.block_lt_of_cell? w _ hw166_4)).trans hw166_4)⟩ (fun hHeld => ?_); clear hK K; refine zr (a' := ?_) ?_ ?_; rotate_left
          ·show Act.put _ (some 44) _ = _
           simp only [Act.put,sA,sB,sC,yf,yg]; rfl
          refine pU 10 (some 45) (bZ 12 2047) rfl (yn HT_.out (by kernel_rfl)) ?_; refine xn (i := 11) (N := none) (bZ 12 4095) rfl rfl (xp HT_.out (by kernel_rfl)) (by decide) (fun K hK => ?_); have hs54 : w50.cell? ⟨gb165,4,none⟩ = some (u166004) := (za BK165.out 4).trans rfl; have hfs54 := zh BK165.out 4; have hns54_0 := NB136_165.out; have hns54_1 := NB137_165.out; have hms54_0 := NB165_136.out; have hms54_1 := NB165_137.out; refine skip_ (w1 := ?_) (by rfl) rfl ?_ ?_; rotate_left
          ·go_simp; rfl
          refine hK.out _ _ ?_; clear hK K; refine xy (done_of HT_.out (by kernel_rfl)) ?_
          try go_wp2
          go_roundg k1
          case measure => have := HK1.out; omega
          case rel => exact ⟨(wrap64 (x4_1 + 1)),(y176),(.slice Ao53 y176.length co53),(by first | rfl | (simp; done) | (simp [*]; done)),H', ⟨by have := HK1.out; omega⟩,⟨by (with_reducible repeat (first | apply Kd.N_alloc | apply Kd.N_drewN | apply Kd.N_drew)); exact Kd.N_mono (Kd.N_far (p := ⟨gb165,4,none⟩) (Kd.N_mono HO178.out (fun k_ hk => (⟨hk,hk.2.2.2⟩ : _ ∧ k_ ≠ gb165))) (fun _ hk => hk.2) (.slice Ao53 y176.length co53)) (fun _ hk => ⟨hk.1.1,⟨hk.1.2.1,⟨hk.1.2.2.1,hk.1.2.2.2⟩⟩⟩)⟩,⟨by (with_reducible repeat (first | refine zg ?_ _ | refine zk ?_ | refine ze ?_ _)); refine yl ?_ NB136_165.out _; (with_reducible repeat (first | refine zg ?_ _ | refine zk ?_ | refine ze ?_ _)); exact BK136.out⟩,⟨by (with_reducible repeat (first | refine zg ?_ _ | refine zk ?_ | refine ze ?_ _)); refine yl ?_ NB137_165.out _; (with_reducible repeat (first | refine zg ?_ _ | refine zk ?_ | refine ze ?_ _)); exact BK137.out⟩,⟨by (with_reducible repeat (first | refine zg ?_ _ | refine zk ?_ | refine ze ?_ _)); refine yb (cs := #[.int .i64 4, .int .i64 0, .string (⟨#[]⟩ : ByteArray), .slice none 0 0,u166004]) ?_ 4 _ rfl; (with_reducible repeat (first | refine zg ?_ _ | refine zk ?_ | refine ze ?_ _)); exact BK165.out⟩,⟨by repeat (first | (with_reducible first | exact HB.out | apply zb | apply zc | apply zl | refine zj ?_ GE136.out | refine zj ?_ GE137.out | refine zj ?_ GE165.out) | exact HB.out)⟩⟩
         ·rw [if_neg c44] at H; exact absurd H (by simp)
        ·rw [if_neg c42] at H; exact absurd H (by simp)
       ·rw [if_neg c41] at H; have c41b0 : decide (x4_1 < (l0_4.length : Int)) = false := decide_eq_false c41; clear c41; simp only [Option.some.injEq,Prod.mk.injEq] at H; obtain ⟨rfl,rfl,rfl,rfl,rfl⟩ := H; have hnb55 := NB136_137.out; have hnc55 := NB137_136.out; have hnb56 := NB136_165.out; have hnc56 := NB165_136.out; have hcz57_0 : wr.cell? ⟨gb136,0,none⟩ = some (.int .i64 a0_0) := (za BK136.out 0).trans rfl; have hcz57_1 : wr.cell? ⟨gb136,1,none⟩ = some (.int .i64 a0_1) := (za BK136.out 1).trans rfl; have hcz57_2 : wr.cell? ⟨gb136,2,none⟩ = some (.string a0_2) := (za BK136.out 2).trans rfl; have hcz57_3 : wr.cell? ⟨gb136,3,none⟩ = some (.slice A0_3 l0_3.length c0_3) := (za BK136.out 3).trans rfl; have hcz57_4 : wr.cell? ⟨gb136,4,none⟩ = some (.slice A0_4 l0_4.length c0_4) := (za BK136.out 4).trans rfl; have hfz57_0 := zh BK136.out 0; have hfz57_1 := zh BK136.out 1; have hfz57_2 := zh BK136.out 2; have hfz57_3 := zh BK136.out 3; have hfz57_4 := zh BK136.out 4; have hnb58 := NB165_137.out; have hnc58 := NB137_165.out; have hcz59_0 : wr.cell? ⟨gb165,0,none⟩ = some (.int .i64 4) := (za BK165.out 0).trans rfl; have hcz59_1 : wr.cell? ⟨gb165,1,none⟩ = some (.int .i64 0) := (za BK165.out 1).trans rfl; have hcz59_2 : wr.cell? ⟨gb165,2,none⟩ = some (.string (⟨#[]⟩ : ByteArray)) := (za BK165.out 2).trans rfl; have hcz59_3 : wr.cell? ⟨gb165,3,none⟩ = some (.slice none 0 0) := (za BK165.out 3).trans rfl; have hcz59_4 : wr.cell? ⟨gb165,4,none⟩ = some (u166004) := (za BK165.out 4).trans rfl; have hfz59_0 := zh BK165.out 0; have hfz59_1 := zh BK165.out 1; have hfz59_2 := zh BK165.out 2; have hfz59_3 := zh BK165.out 3; have hfz59_4 := zh BK165.out 4; have hcz60_0 : wr.cell? ⟨gb137,0,none⟩ = some (.int .i64 0) := (za BK137.out 0).trans rfl; have hcz60_1 : wr.cell? ⟨gb137,1,none⟩ = some (.int .i64 0) := (za BK137.out 1).trans rfl; have hcz60_2 : wr.cell? ⟨gb137,2,none⟩ = some (.string (⟨#[]⟩ : ByteArray)) := (za BK137.out 2).trans rfl; have hcz60_3 : wr.cell? ⟨gb137,3,none⟩ = some (.slice none 0 0) := (za BK137.out 3).trans rfl; have hcz60_4 : wr.cell? ⟨gb137,4,none⟩ = some (.slice none 0 0) := (za BK137.out 4).trans rfl; have hfz60_0 := zh BK137.out 0; have hfz60_1 := zh BK137.out 1; have hfz60_2 := zh BK137.out 2; have hfz60_3 := zh BK137.out 3; have hfz60_4 := zh BK137.out 4; obtain ⟨Ao61,co61,eo61⟩ := Kd.N_slice HO_166004.out; subst eo61
        go_wp2
        refine bodyPost_ret (results_cell_row rfl _ _ gb137 25 #[.int .i64 4, .int .i64 0, .string (⟨#[]⟩ : ByteArray), .slice none 0 0, .slice Ao61 x166004_1.length co61] (0,0) _ rfl (by (with_reducible repeat (first | refine zg ?_ _ | refine zk ?_ | refine ze ?_ _)); refine yb (cs := #[.int .i64 4, .int .i64 0, .string (⟨#[]⟩ : ByteArray), .slice none 0 0, .slice none 0 0]) ?_ 4 _ rfl; (with_reducible repeat (first | refine zg ?_ _ | refine zk ?_ | refine ze ?_ _)); refine yb (cs := #[.int .i64 4, .int .i64 0, .string (⟨#[]⟩ : ByteArray), .slice none 0 0, .slice none 0 0]) ?_ 3 _ rfl; (with_reducible repeat (first | refine zg ?_ _ | refine zk ?_ | refine ze ?_ _)); refine yb (cs := #[.int .i64 4, .int .i64 0, .string (⟨#[]⟩ : ByteArray), .slice none 0 0, .slice none 0 0]) ?_ 2 _ rfl; (with_reducible repeat (first | refine zg ?_ _ | refine zk ?_ | refine ze ?_ _)); refine yb (cs := #[.int .i64 4, .int .i64 0, .string (⟨#[]⟩ : ByteArray), .slice none 0 0, .slice none 0 0]) ?_ 1 _ rfl; (with_reducible repeat (first | refine zg ?_ _ | refine zk ?_ | refine ze ?_ _)); refine yb (cs := #[.int .i64 0, .int .i64 0, .string (⟨#[]⟩ : ByteArray), .slice none 0 0, .slice none 0 0]) ?_ 0 _ rfl; (with_reducible repeat (first | refine zg ?_ _ | refine zk ?_ | refine ze ?_ _)); exact BK137.out) Tryz.underlying25 rfl (by kernel_rfl)) rfl ?_; exact ⟨_, _,by first | rfl | (simp [zz,zw] <;> rfl) | (simp [*, zz,zw] <;> rfl),by first | exact Kd.R_nil _ _ _ _ _ | exact Kd.N_nil _ _ _ _ _ | exact Kd.V_nil _ _ _ _ _ | exact Kd.Q_nil _ _ _ _ _ | exact Kd.S_nil _ _ _ _ _,by (with_reducible repeat (first | apply Kd.N_alloc | apply Kd.N_drewN | apply Kd.N_drew)); exact Kd.N_mono (Kd.N_far (p := ⟨gb137,4,none⟩) (Kd.N_far (p := ⟨gb137,3,none⟩) (Kd.N_far (p := ⟨gb137,2,none⟩) (Kd.N_far (p := ⟨gb137,1,none⟩) (Kd.N_far (p := ⟨gb137,0,none⟩) (Kd.N_mono HO_166004.out (fun k_ hk => (⟨hk,hk.2.2.1⟩ : _ ∧ k_ ≠ gb137))) (fun _ hk => hk.2) (.int .i64 4)) (fun _ hk => hk.2) (.int .i64 0)) (fun _ hk => hk.2) (.string (⟨#[]⟩ : ByteArray))) (fun _ hk => hk.2) (.slice none 0 0)) (fun _ hk => hk.2) (.slice Ao61 x166004_1.length co61)) (fun _ hk => ⟨hk.1.1,(by simp [Value.ownBlock])⟩),by repeat (first | (with_reducible first | exact HB.out | apply zb | apply zc | apply zl | refine zj ?_ GE136.out | refine zj ?_ GE137.out | refine zj ?_ GE165.out) | exact HB.out)⟩
    ·rw [if_neg c32] at H; have c32b0 : (a0_0 == 4) = false := beq_eq_false_iff_ne.mpr c32; have c32b1 : (a0_0 != 4) = true := bne_iff_ne.mpr c32
     by_cases c62 : a0_0 = 5
     ·rw [if_pos c62] at H; have c62b0 : (a0_0 == 5) = true := beq_iff_eq.mpr c62; have c62b1 : (a0_0 != 5) = false := bne_eq_false_iff_eq.mpr c62; clear c62; replace H := Option.bind_eq_some_iff.mp H; obtain ⟨⟨t179,t180,t181,t182,t185⟩,A630,H⟩ := H; replace H : (spec_Fit.l1 k 0 a0_0 a0_1 a0_2 l0_3 l0_4 t179 t180 t181 t182 t185) = some (r1,r2,r3,r4,r5) := H; have A63 := aM A630; clear A630; have H' := aM H; clear H
      go_enter Tryz.func5,Tryz.ntmps5
      go_wp2_with (first | ((with_reducible refine yq (N := 1) rfl ?_); (try (refine yz (by rfl) ?_; dsimp only)); refine yp ?hg (N := 1) ?hd (cs := #[.int .i64 a0_0, .int .i64 a0_1, .string a0_2, .slice A0_3 l0_3.length c0_3, .slice A0_4 l0_4.length c0_4]) (t := 25) ?hr ?_; (case hd => rfl); (case hg => rfl); (case hr => first | (go_simp; done) | (go_simp; rfl)); intro gb136 hg w64 hbox hb; have n0_ := aM (zv (by repeat (first | (with_reducible first | exact HB.out | apply zb | apply zc | apply zl) | exact HB.out)) hb); have n1_ := aM (hbox); have n2_ := aM ((by rw [hg]; exact (zo (by repeat (first | (with_reducible first | exact HB.out | apply zb | apply zc | apply zl) | exact HB.out))) : w.heap.size ≤ gb136)); have n3_ := aM ((by rw [hg]; exact (zo (by repeat (first | (with_reducible first | exact HB.out | apply zb | apply zc | apply zl) | exact HB.out))) : w.heap.size ≤ gb136)); clear HB; have HB := n0_; have BK136 := n1_; have GW136 := n2_; have GE136 := n3_; clear n0_ n1_ n2_ n3_; clear hb hbox hg) | ((with_reducible refine yq (N := 2) rfl ?_); (try (refine yz (by rfl) ?_; dsimp only)); refine yp ?hg (N := 2) ?hd (cs := #[.int .i64 0, .int .i64 0, .string (⟨#[]⟩ : ByteArray), .slice none 0 0, .slice none 0 0]) (t := 25) ?hr ?_; (case hd => rfl); (case hg => rfl); (case hr => first | (go_simp; done) | (go_simp; rfl)); intro gb137 hg w65 hbox hb; have n0_ := aM (ya (g := gb136) (o := .cells #[.int .i64 a0_0, .int .i64 a0_1, .string a0_2, .slice A0_3 l0_3.length c0_3, .slice A0_4 l0_4.length c0_4] 25 (0,0)) (by (with_reducible repeat (first | refine zg ?_ _ | refine zk ?_ | refine ze ?_ _)); exact BK136.out) hb); have n1_ := aM (zv (by repeat (first | (with_reducible first | exact HB.out | apply zb | apply zc | apply zl | refine zj ?_ GE136.out) | exact HB.out)) hb); have n2_ := aM (hbox); have n3_ := aM ((by rw [hg]; exact (zo (by repeat (first | (with_reducible first | exact HB.out | apply zb | apply zc | apply zl | refine zj ?_ GE136.out) | exact HB.out))) : w.heap.size ≤ gb137)); have n4_ := aM ((by rw [hg]; exact (zo (by repeat (first | (with_reducible first | exact HB.out | apply zb | apply zc | apply zl | refine zj ?_ GE136.out) | exact HB.out))) : w.heap.size ≤ gb137)); have n5_ := aM ((by rw [hg]; exact Nat.ne_of_lt (yt (g := gb136) (o := .cells #[.int .i64 a0_0, .int .i64 a0_1, .string a0_2, .slice A0_3 l0_3.length c0_3, .slice A0_4 l0_4.length c0_4] 25 (0,0)) (by (with_reducible repeat (first | refine zg ?_ _ | refine zk ?_ | refine ze ?_ _)); exact BK136.out)) : gb136 ≠ gb137)); have n6_ := aM ((by rw [hg]; exact Nat.ne_of_gt (yt (g := gb136) (o := .cells #[.int .i64 a0_0, .int .i64 a0_1, .string a0_2, .slice A0_3 l0_3.length c0_3, .slice A0_4 l0_4.length c0_4] 25 (0,0)) (by (with_reducible repeat (first | refine zg ?_ _ | refine zk ?_ | refine ze ?_ _)); exact BK136.out)) : gb137 ≠ gb136)); clear BK136; clear HB; have BK136 := n0_; have HB := n1_; have BK137 := n2_; have GW137 := n3_; have GE137 := n4_; have NB136_137 := n5_; have NB137_136 := n6_; clear n0_ n1_ n2_ n3_ n4_ n5_ n6_; clear hb hbox hg; have hnb66 := NB136_137.out; have hnc66 := NB137_136.out; have hcz67_0 : w65.cell? ⟨gb136,0,none⟩ = some (.int .i64 a0_0) := (za BK136.out 0).trans rfl; have hcz67_1 : w65.cell? ⟨gb136,1,none⟩ = some (.int .i64 a0_1) := (za BK136.out 1).trans rfl; have hcz67_2 : w65.cell? ⟨gb136,2,none⟩ = some (.string a0_2) := (za BK136.out 2).trans rfl; have hcz67_3 : w65.cell? ⟨gb136,3,none⟩ = some (.slice A0_3 l0_3.length c0_3) := (za BK136.out 3).trans rfl; have hcz67_4 : w65.cell? ⟨gb136,4,none⟩ = some (.slice A0_4 l0_4.length c0_4) := (za BK136.out 4).trans rfl; have hfz67_0 := zh BK136.out 0; have hfz67_1 := zh BK136.out 1; have hfz67_2 := zh BK136.out 2; have hfz67_3 := zh BK136.out 3; have hfz67_4 := zh BK136.out 4) | ((with_reducible refine xx (f := 16) rfl ?_); refine goesL_ (some 49) rfl rfl Tryz.func16 (by kernel_rfl) rfl #[] rfl (by (try simp only [List.map_toArray,List.map_cons,List.map_nil]); first | done | rfl | (simp only [List.length_drop,List.length_take]; rfl)) ?_; (with_reducible refine (spec_Empty.calls  t179 t180 t181 t182 t185 _ A63.out).mono ?_); rintro e w68 ⟨v183,v186,rfl,ho0,ho1,hb⟩; refine ⟨_,rfl, ?_⟩; have n0_ := aM (Kd.R_lower (Kd.R_newM (M := fun k_ => (w.heap.size ≤ k_)) ho0 (zo (by repeat (first | (with_reducible first | exact HB.out | apply zb | apply zc | apply zl | refine zj ?_ GE136.out | refine zj ?_ GE137.out) | exact HB.out))) (fun k_ h_ => h_)) (zo (by repeat (first | (with_reducible first | exact HB.out | apply zb | apply zc | apply zl | refine zj ?_ GE136.out | refine zj ?_ GE137.out) | exact HB.out)))); have n1_ := aM (Kd.N_lower (Kd.N_mono (ok' := fun k_ => (w.heap.size ≤ k_) ∧ some k_ ≠ (v183 : Value).ownBlock ∧ k_ ≠ gb136 ∧ k_ ≠ gb137) (Kd.R_N (Kd.R_bound ho1)) (fun k_ hk_ => ⟨(Nat.le_trans (zo (by repeat (first | (with_reducible first | exact HB.out | apply zb | apply zc | apply zl | refine zj ?_ GE136.out | refine zj ?_ GE137.out) | exact HB.out))) hk_.2.1),hk_.1,(Kd.freshB (g := gb136) (o := .cells #[.int .i64 a0_0, .int .i64 a0_1, .string a0_2, .slice A0_3 l0_3.length c0_3, .slice A0_4 l0_4.length c0_4] 25 (0,0)) (by (with_reducible repeat (first | refine zg ?_ _ | refine zk ?_ | refine ze ?_ _)); exact BK136.out) k_ hk_.2.1),(Kd.freshB (g := gb137) (o := .cells #[.int .i64 0, .int .i64 0, .string (⟨#[]⟩ : ByteArray), .slice none 0 0, .slice none 0 0] 25 (0,0)) (by (with_reducible repeat (first | refine zg ?_ _ | refine zk ?_ | refine ze ?_ _)); exact BK137.out) k_ hk_.2.1)⟩)) (zo (by repeat (first | (with_reducible first | exact HB.out | apply zb | apply zc | apply zl | refine zj ?_ GE136.out | refine zj ?_ GE137.out) | exact HB.out)))); have n2_ := aM (ya (g := gb136) (o := .cells #[.int .i64 a0_0, .int .i64 a0_1, .string a0_2, .slice A0_3 l0_3.length c0_3, .slice A0_4 l0_4.length c0_4] 25 (0,0)) (by (with_reducible repeat (first | refine zg ?_ _ | refine zk ?_ | refine ze ?_ _)); exact BK136.out) hb); have n3_ := aM (ya (g := gb137) (o := .cells #[.int .i64 0, .int .i64 0, .string (⟨#[]⟩ : ByteArray), .slice none 0 0, .slice none 0 0] 25 (0,0)) (by (with_reducible repeat (first | refine zg ?_ _ | refine zk ?_ | refine ze ?_ _)); exact BK137.out) hb); have n4_ := aM (zv (by repeat (first | (with_reducible first | exact HB.out | apply zb | apply zc | apply zl | refine zj ?_ GE136.out | refine zj ?_ GE137.out) | exact HB.out)) hb); clear BK136; clear BK137; clear HB; have HO184 := n0_; have HO187 := n1_; have BK136 := n2_; have BK137 := n3_; have HB := n4_; clear n0_ n1_ n2_ n3_ n4_; (try clear hb); (try clear hb2); (try clear hk); (try clear hi); (try clear ho0); (try clear ho1)) | ((with_reducible refine yq (N := 5) rfl ?_); (try (refine yz (by rfl) ?_; dsimp only)); refine yp ?hg (N := 5) ?hd (cs := #[.int .i64 0, .int .i64 0, .string (⟨#[]⟩ : ByteArray), .slice none 0 0, .slice none 0 0]) (t := 25) ?hr ?_; (case hd => rfl); (case hg => rfl); (case hr => first | (go_simp; done) | (go_simp; rfl)); intro gb188 hg w69 hbox hb; have n0_ := aM (Kd.R_below (by (with_reducible repeat (first | apply Kd.R_alloc | apply Kd.R_drewN | apply Kd.R_drew)); exact HO184.out) hb); have n1_ := aM (Kd.N_below (Kd.N_elderB (by (with_reducible repeat (first | apply Kd.N_alloc | apply Kd.N_drewN | apply Kd.N_drew)); exact HO187.out) gb188 (Nat.le_of_eq hg.symm)) hb); have n2_ := aM (ya (g := gb136) (o := .cells #[.int .i64 a0_0, .int .i64 a0_1, .string a0_2, .slice A0_3 l0_3.length c0_3, .slice A0_4 l0_4.length c0_4] 25 (0,0)) (by (with_reducible repeat (first | refine zg ?_ _ | refine zk ?_ | refine ze ?_ _)); exact BK136.out) hb); have n3_ := aM (ya (g := gb137) (o := .cells #[.int .i64 0, .int .i64 0, .string (⟨#[]⟩ : ByteArray), .slice none 0 0, .slice none 0 0] 25 (0,0)) (by (with_reducible repeat (first | refine zg ?_ _ | refine zk ?_ | refine ze ?_ _)); exact BK137.out) hb); have n4_ := aM (zv (by repeat (first | (with_reducible first | exact HB.out | apply zb | apply zc | apply zl | refine zj ?_ GE136.out | refine zj ?_ GE137.out) | exact HB.out)) hb); have n5_ := aM (hbox); have n6_ := aM ((by rw [hg]; exact (zo (by repeat (first | (with_reducible first | exact HB.out | apply zb | apply zc | apply zl | refine zj ?_ GE136.out | refine zj ?_ GE137.out) | exact HB.out))) : w.heap.size ≤ gb188)); have n7_ := aM ((by rw [hg]; exact (zo (by repeat (first | (with_reducible first | exact HB.out | apply zb | apply zc | apply zl | refine zj ?_ GE136.out | refine zj ?_ GE137.out) | exact HB.out))) : w.heap.size ≤ gb188)); have n8_ := aM ((by rw [hg]; exact Nat.ne_of_lt (yt (g := gb136) (o := .cells #[.int .i64 a0_0, .int .i64 a0_1, .string a0_2, .slice A0_3 l0_3.length c0_3, .slice A0_4 l0_4.length c0_4] 25 (0,0)) (by (with_reducible repeat (first | refine zg ?_ _ | refine zk ?_ | refine ze ?_ _)); exact BK136.out)) : gb136 ≠ gb188)); have n9_ := aM ((by rw [hg]; exact Nat.ne_of_gt (yt (g := gb136) (o := .cells #[.int .i64 a0_0, .int .i64 a0_1, .string a0_2, .slice A0_3 l0_3.length c0_3, .slice A0_4 l0_4.length c0_4] 25 (0,0)) (by (with_reducible repeat (first | refine zg ?_ _ | refine zk ?_ | refine ze ?_ _)); exact BK136.out)) : gb188 ≠ gb136)); have n10_ := aM ((by rw [hg]; exact Nat.ne_of_lt (yt (g := gb137) (o := .cells #[.int .i64 0, .int .i64 0, .string (⟨#[]⟩ : ByteArray), .slice none 0 0, .slice none 0 0] 25 (0,0)) (by (with_reducible repeat (first | refine zg ?_ _ | refine zk ?_ | refine ze ?_ _)); exact BK137.out)) : gb137 ≠ gb188)); have n11_ := aM ((by rw [hg]; exact Nat.ne_of_gt (yt (g := gb137) (o := .cells #[.int .i64 0, .int .i64 0, .string (⟨#[]⟩ : ByteArray), .slice none 0 0, .slice none 0 0] 25 (0,0)) (by (with_reducible repeat (first | refine zg ?_ _ | refine zk ?_ | refine ze ?_ _)); exact BK137.out)) : gb188 ≠ gb137)); clear HO184; clear HO187; clear BK136; clear BK137; clear HB; have HO184 := n0_; have HO187 := n1_; have BK136 := n2_; have BK137 := n3_; have HB := n4_; have BK188 := n5_; have GW188 := n6_; have GE188 := n7_; have NB136_188 := n8_; have NB188_136 := n9_; have NB137_188 := n10_; have NB188_137 := n11_; clear n0_ n1_ n2_ n3_ n4_ n5_ n6_ n7_ n8_ n9_ n10_ n11_; clear hb hbox hg; have hnb70 := NB188_136.out; have hnc70 := NB136_188.out; have hnb71 := NB188_137.out; have hnc71 := NB137_188.out; have hcz72_0 : w69.cell? ⟨gb188,0,none⟩ = some (.int .i64 0) := (za BK188.out 0).trans rfl; have hcz72_1 : w69.cell? ⟨gb188,1,none⟩ = some (.int .i64 0) := (za BK188.out 1).trans rfl; have hcz72_2 : w69.cell? ⟨gb188,2,none⟩ = some (.string (⟨#[]⟩ : ByteArray)) := (za BK188.out 2).trans rfl; have hcz72_3 : w69.cell? ⟨gb188,3,none⟩ = some (.slice none 0 0) := (za BK188.out 3).trans rfl; have hcz72_4 : w69.cell? ⟨gb188,4,none⟩ = some (.slice none 0 0) := (za BK188.out 4).trans rfl; have hfz72_0 := zh BK188.out 0; have hfz72_1 := zh BK188.out 1; have hfz72_2 := zh BK188.out 2; have hfz72_3 := zh BK188.out 3; have hfz72_4 := zh BK188.out 4; obtain ⟨Ao73,co73,eo73⟩ := Kd.R_slice HO184.out; subst eo73; obtain ⟨Ao74,co74,eo74⟩ := Kd.N_slice HO187.out; subst eo74))
      go_loopg [6] k (fun kq v6 w' => ∃ (x6_1 : Int) (x189000_1 : Int) (x189001_1 : Int) (x189002_1 : ByteArray) (x189003_1 : List ByteArray) (x189004_1 : List (S25)) (u189003 : Value) (u189004 : Value),v6 = .int .i64 x6_1 ∧ Aside0 (spec_Fit.l1 kq x6_1 a0_0 a0_1 a0_2 l0_3 l0_4 x189000_1 x189001_1 x189002_1 x189003_1 x189004_1 = some (r1,r2,r3,r4,r5)) ∧ Aside0 (kq ≤ k) ∧ Aside0 (Kd.R Kd.string 9 w' w.heap.size (fun k_ => (w.heap.size ≤ k_)) u189003 x189003_1) ∧ Aside0 (Kd.N k25 25 w' w.heap.size (fun k_ => (w.heap.size ≤ k_) ∧ some k_ ≠ (u189003 : Value).ownBlock ∧ k_ ≠ gb136 ∧ k_ ≠ gb137 ∧ k_ ≠ gb188) u189004 x189004_1) ∧ Aside0 (w'.heap[gb136]? = some (.cells #[.int .i64 a0_0, .int .i64 a0_1, .string a0_2,(.slice A0_3 l0_3.length c0_3),(.slice A0_4 l0_4.length c0_4)] 25 (0,0))) ∧ Aside0 (w'.heap[gb137]? = some (.cells #[.int .i64 0, .int .i64 0, .string (⟨#[]⟩ : ByteArray),(.slice none 0 0),(.slice none 0 0)] 25 (0,0))) ∧ Aside0 (w'.heap[gb188]? = some (.cells #[.int .i64 x189000_1, .int .i64 x189001_1, .string x189002_1,u189003,u189004] 25 (0,0))) ∧ Aside0 (Below w.heap.size w w'))
      case atStart => exact ⟨(0),(t179),(t180),(t181),(t182),(t185),(.slice Ao73 t182.length co73),(.slice Ao74 t185.length co74),(by first | rfl | (simp; done) | (simp [*]; done)),H', ⟨Nat.le_refl _⟩,⟨by (with_reducible repeat (first | apply Kd.R_alloc | apply Kd.R_drewN | apply Kd.R_drew)); exact Kd.R_mono (Kd.R_far (p := ⟨gb188,4,none⟩) (Kd.R_far (p := ⟨gb188,3,none⟩) (Kd.R_far (p := ⟨gb188,2,none⟩) (Kd.R_far (p := ⟨gb188,1,none⟩) (Kd.R_far (p := ⟨gb188,0,none⟩) (Kd.R_types HO184.out BK188.out (by decide)) (fun _ hk => hk.2) (.int .i64 t179)) (fun _ hk => hk.2) (.int .i64 t180)) (fun _ hk => hk.2) (.string t181)) (fun _ hk => hk.2) (.slice Ao73 t182.length co73)) (fun _ hk => hk.2) (.slice Ao74 t185.length co74)) (fun _ hk => hk.1.1)⟩,⟨by (with_reducible repeat (first | apply Kd.N_alloc | apply Kd.N_drewN | apply Kd.N_drew)); exact Kd.N_mono (Kd.N_far (p := ⟨gb188,4,none⟩) (Kd.N_far (p := ⟨gb188,3,none⟩) (Kd.N_far (p := ⟨gb188,2,none⟩) (Kd.N_far (p := ⟨gb188,1,none⟩) (Kd.N_far (p := ⟨gb188,0,none⟩) (Kd.N_mono HO187.out (fun k_ hk => (⟨hk,hk.2⟩ : _ ∧ k_ ≠ gb188))) (fun _ hk => hk.2) (.int .i64 t179)) (fun _ hk => hk.2) (.int .i64 t180)) (fun _ hk => hk.2) (.string t181)) (fun _ hk => hk.2) (.slice Ao73 t182.length co73)) (fun _ hk => hk.2) (.slice Ao74 t185.length co74)) (fun _ hk => ⟨hk.1.1.1,⟨hk.1.1.2.1,⟨hk.1.1.2.2.1,⟨hk.1.1.2.2.2,hk.1.2⟩⟩⟩⟩)⟩,⟨by (with_reducible repeat (first | refine zg ?_ _ | refine zk ?_ | refine ze ?_ _)); refine yl ?_ NB136_188.out _; (with_reducible repeat (first | refine zg ?_ _ | refine zk ?_ | refine ze ?_ _)); refine yl ?_ NB136_188.out _; (with_reducible repeat (first | refine zg ?_ _ | refine zk ?_ | refine ze ?_ _)); refine yl ?_ NB136_188.out _; (with_reducible repeat (first | refine zg ?_ _ | refine zk ?_ | refine ze ?_ _)); refine yl ?_ NB136_188.out _; (with_reducible repeat (first | refine zg ?_ _ | refine zk ?_ | refine ze ?_ _)); refine yl ?_ NB136_188.out _; (with_reducible repeat (first | refine zg ?_ _ | refine zk ?_ | refine ze ?_ _)); exact BK136.out⟩,⟨by (with_reducible repeat (first | refine zg ?_ _ | refine zk ?_ | refine ze ?_ _)); refine yl ?_ NB137_188.out _; (with_reducible repeat (first | refine zg ?_ _ | refine zk ?_ | refine ze ?_ _)); refine yl ?_ NB137_188.out _; (with_reducible repeat (first | refine zg ?_ _ | refine zk ?_ | refine ze ?_ _)); refine yl ?_ NB137_188.out _; (with_reducible repeat (first | refine zg ?_ _ | refine zk ?_ | refine ze ?_ _)); refine yl ?_ NB137_188.out _; (with_reducible repeat (first | refine zg ?_ _ | refine zk ?_ | refine ze ?_ _)); refine yl ?_ NB137_188.out _; (with_reducible repeat (first | refine zg ?_ _ | refine zk ?_ | refine ze ?_ _)); exact BK137.out⟩,⟨by (with_reducible repeat (first | refine zg ?_ _ | refine zk ?_ | refine ze ?_ _)); refine yb (cs := #[.int .i64 t179, .int .i64 t180, .string t181, .slice Ao73 t182.length co73, .slice none 0 0]) ?_ 4 _ rfl; (with_reducible repeat (first | refine zg ?_ _ | refine zk ?_ | refine ze ?_ _)); refine yb (cs := #[.int .i64 t179, .int .i64 t180, .string t181, .slice none 0 0, .slice none 0 0]) ?_ 3 _ rfl; (with_reducible repeat (first | refine zg ?_ _ | refine zk ?_ | refine ze ?_ _)); refine yb (cs := #[.int .i64 t179, .int .i64 t180, .string (⟨#[]⟩ : ByteArray), .slice none 0 0, .slice none 0 0]) ?_ 2 _ rfl; (with_reducible repeat (first | refine zg ?_ _ | refine zk ?_ | refine ze ?_ _)); refine yb (cs := #[.int .i64 t179, .int .i64 0, .string (⟨#[]⟩ : ByteArray), .slice none 0 0, .slice none 0 0]) ?_ 1 _ rfl; (with_reducible repeat (first | refine zg ?_ _ | refine zk ?_ | refine ze ?_ _)); refine yb (cs := #[.int .i64 0, .int .i64 0, .string (⟨#[]⟩ : ByteArray), .slice none 0 0, .slice none 0 0]) ?_ 0 _ rfl; (with_reducible repeat (first | refine zg ?_ _ | refine zk ?_ | refine ze ?_ _)); exact BK188.out⟩,⟨by repeat (first | (with_reducible first | exact HB.out | apply zb | apply zc | apply zl | refine zj ?_ GE136.out | refine zj ?_ GE137.out | refine zj ?_ GE188.out) | exact HB.out)⟩⟩
      case round =>
       clear H'
       try clear c1
       try clear p1
       try clear q1
       try clear hx1
       try clear c2
       try clear c2b0
       try clear c2b1
       try clear p2
       try clear c3
       try clear c4
       try clear c5
       try clear c6
       try clear p6
       try clear c7
       try clear c12
       try clear c12b0
       try clear c12b1
       try clear c13
       try clear c14
       try clear c15
       try clear c16
       try clear p16
       try clear q16
       try clear hx16
       try clear c22
       try clear c22b0
       try clear c22b1
       try clear c26
       try clear c32
       try clear c32b0
       try clear c32b1
       try clear c35
       try clear c38
       try clear c39
       try clear c41
       try clear c41b0
       try clear c42
       try clear c42b0
       try clear c44
       try clear c45
       try clear c46
       try clear c55
       try clear c56
       try clear c58
       try clear c62
       try clear c62b0
       try clear c62b1
       try clear p64
       try clear c66
       try clear c70
       try clear c71
       try clear hcz17_0
       try clear hcz17_1
       try clear hcz17_2
       try clear hcz17_3
       try clear hcz17_4
       try clear hcz19_0
       try clear hcz19_1
       try clear hcz19_2
       try clear hcz19_3
       try clear hcz19_4
       try clear hcz27_0
       try clear hcz27_1
       try clear hcz27_2
       try clear hcz27_3
       try clear hcz27_4
       try clear hcz29_0
       try clear hcz29_1
       try clear hcz29_2
       try clear hcz29_3
       try clear hcz29_4
       try clear hcz36_0
       try clear hcz36_1
       try clear hcz36_2
       try clear hcz36_3
       try clear hcz36_4
       try clear hcz40_0
       try clear hcz40_1
       try clear hcz40_2
       try clear hcz40_3
       try clear hcz40_4
       try clear hcz47_0
       try clear hcz47_1
       try clear hcz47_2
       try clear hcz47_3
       try clear hcz47_4
       try clear hcz57_0
       try clear hcz57_1
       try clear hcz57_2
       try clear hcz57_3
       try clear hcz57_4
       try clear hcz59_0
       try clear hcz59_1
       try clear hcz59_2
       try clear hcz59_3
       try clear hcz59_4
       try clear hcz60_0
       try clear hcz60_1
       try clear hcz60_2
       try clear hcz60_3
       try clear hcz60_4
       try clear hcz67_0
       try clear hcz67_1
       try clear hcz67_2
       try clear hcz67_3
       try clear hcz67_4
       try clear hcz72_0
       try clear hcz72_1
       try clear hcz72_2
       try clear hcz72_3
       try clear hcz72_4
       try clear hcz7_0
       try clear hcz7_1
       try clear hcz7_2
       try clear hcz7_3
       try clear hcz7_4
       try clear hcz9_0
       try clear hcz9_1
       try clear hcz9_2
       try clear hcz9_3
       try clear hcz9_4
       try clear hfz17_0
       try clear hfz17_1
       try clear hfz17_2
       try clear hfz17_3
       try clear hfz17_4
       try clear hfz19_0
       try clear hfz19_1
       try clear hfz19_2
       try clear hfz19_3
       try clear hfz19_4
       try clear hfz27_0
       try clear hfz27_1
       try clear hfz27_2
       try clear hfz27_3
       try clear hfz27_4
       try clear hfz29_0
       try clear hfz29_1
       try clear hfz29_2
       try clear hfz29_3
       try clear hfz29_4
       try clear hfz36_0
       try clear hfz36_1
       try clear hfz36_2
       try clear hfz36_3
       try clear hfz36_4
       try clear hfz40_0
       try clear hfz40_1
       try clear hfz40_2
       try clear hfz40_3
       try clear hfz40_4
       try clear hfz47_0
       try clear hfz47_1
       try clear hfz47_2
       try clear hfz47_3
       try clear hfz47_4
       try clear hfz57_0
       try clear hfz57_1
       try clear hfz57_2
       try clear hfz57_3
       try clear hfz57_4
       try clear hfz59_0
       try clear hfz59_1
       try clear hfz59_2
       try clear hfz59_3
       try clear hfz59_4
       try clear hfz60_0
       try clear hfz60_1
       try clear hfz60_2
       try clear hfz60_3
       try clear hfz60_4
       try clear hfz67_0
       try clear hfz67_1
       try clear hfz67_2
       try clear hfz67_3
       try clear hfz67_4
       try clear hfz72_0
       try clear hfz72_1
       try clear hfz72_2
       try clear hfz72_3
       try clear hfz72_4
       try clear hfz7_0
       try clear hfz7_1
       try clear hfz7_2
       try clear hfz7_3
       try clear hfz7_4
       try clear hfz9_0
       try clear hfz9_1
       try clear hfz9_2
       try clear hfz9_3
       try clear hfz9_4
       try clear hx166_0
       try clear hx166_1
       try clear hx166_2
       try clear hx166_3
       try clear hx166_4
       try clear p166
       try clear p2
       try clear q166
       obtain ⟨x6_1,x189000_1,x189001_1,x189002_1,x189003_1,x189004_1,u189003,u189004,rfl,HA,HK1,HO_189003,HO_189004,BK136,BK137,BK188,HB⟩ := hrel
       cases gk with
       | zero => exact absurd HA.out (by simp [spec_Fit.l1])
       | succ k1 =>
        have H := HA.out; clear HA; simp only [spec_Fit.l1] at H; have HC75 := aM H; clear H
        go_upto_region 18 with (fail)
        go_cut [61] (fun v61 wc => ∃ (kq : Nat) (x61_74 : Bool),v61 = .bool x61_74 ∧ Aside0 (spec_Fit.j2 kq x6_1 x61_74 a0_0 a0_1 a0_2 l0_3 l0_4 x189000_1 x189001_1 x189002_1 x189003_1 x189004_1 = some (r1,r2,r3,r4,r5)) ∧ Aside0 (kq ≤ k1) ∧ Aside0 (Kd.R Kd.string 9 wc w.heap.size (fun k_ => (w.heap.size ≤ k_)) u189003 x189003_1) ∧ Aside0 (Kd.N k25 25 wc w.heap.size (fun k_ => (w.heap.size ≤ k_) ∧ some k_ ≠ (u189003 : Value).ownBlock ∧ k_ ≠ gb136 ∧ k_ ≠ gb137 ∧ k_ ≠ gb188) u189004 x189004_1) ∧ Aside0 (wc.heap[gb136]? = some (.cells #[.int .i64 a0_0, .int .i64 a0_1, .string a0_2,(.slice A0_3 l0_3.length c0_3),(.slice A0_4 l0_4.length c0_4)] 25 (0,0))) ∧ Aside0 (wc.heap[gb137]? = some (.cells #[.int .i64 0, .int .i64 0, .string (⟨#[]⟩ : ByteArray),(.slice none 0 0),(.slice none 0 0)] 25 (0,0))) ∧ Aside0 (wc.heap[gb188]? = some (.cells #[.int .i64 x189000_1, .int .i64 x189001_1, .string x189002_1,u189003,u189004] 25 (0,0))) ∧ Aside0 (Below w.heap.size w wc))
        case first =>
         have H := HC75.out; clear HC75
         by_cases c76 : x6_1 < (l0_3.length : Int)
         ·rw [if_pos c76] at H; have c76b0 : decide (x6_1 < (l0_3.length : Int)) = true := decide_eq_true c76; clear c76
          (first | rw [c76b0] | (simp only [yf,yg]; rw [c76b0]) | skip)
          have H' := aM H; clear H; have hnb77 := NB136_137.out; have hnc77 := NB137_136.out; have hnb78 := NB136_188.out; have hnc78 := NB188_136.out; have hcz79_0 : wr.cell? ⟨gb136,0,none⟩ = some (.int .i64 a0_0) := (za BK136.out 0).trans rfl; have hcz79_1 : wr.cell? ⟨gb136,1,none⟩ = some (.int .i64 a0_1) := (za BK136.out 1).trans rfl; have hcz79_2 : wr.cell? ⟨gb136,2,none⟩ = some (.string a0_2) := (za BK136.out 2).trans rfl; have hcz79_3 : wr.cell? ⟨gb136,3,none⟩ = some (.slice A0_3 l0_3.length c0_3) := (za BK136.out 3).trans rfl; have hcz79_4 : wr.cell? ⟨gb136,4,none⟩ = some (.slice A0_4 l0_4.length c0_4) := (za BK136.out 4).trans rfl; have hfz79_0 := zh BK136.out 0; have hfz79_1 := zh BK136.out 1; have hfz79_2 := zh BK136.out 2; have hfz79_3 := zh BK136.out 3; have hfz79_4 := zh BK136.out 4
          go_wp2
          go_meet
          case rel => exact ⟨_,(decide (x6_1 < (l0_4.length : Int))),(by first | rfl | (simp; done) | (simp [*]; done)),H', ⟨by have := HK1.out; first | omega | exact Nat.le_refl _⟩,⟨by (with_reducible repeat (first | apply Kd.R_alloc | apply Kd.R_drewN | apply Kd.R_drew)); exact HO_189003.out⟩,⟨by (with_reducible repeat (first | apply Kd.N_alloc | apply Kd.N_drewN | apply Kd.N_drew)); exact HO_189004.out⟩,⟨by (with_reducible repeat (first | refine zg ?_ _ | refine zk ?_ | refine ze ?_ _)); exact BK136.out⟩,⟨by (with_reducible repeat (first | refine zg ?_ _ | refine zk ?_ | refine ze ?_ _)); exact BK137.out⟩,⟨by (with_reducible repeat (first | refine zg ?_ _ | refine zk ?_ | refine ze ?_ _)); exact BK188.out⟩,⟨by repeat (first | (with_reducible first | exact HB.out | apply zb | apply zc | apply zl | refine zj ?_ GE136.out | refine zj ?_ GE137.out | refine zj ?_ GE188.out) | exact HB.out)⟩⟩
         ·rw [if_neg c76] at H; have c76b0 : decide (x6_1 < (l0_3.length : Int)) = false := decide_eq_false c76; clear c76
          (first | rw [c76b0] | (simp only [yf,yg]; rw [c76b0]) | skip)
          have H' := aM H; clear H; have hnb80 := NB136_137.out; have hnc80 := NB137_136.out; have hnb81 := NB136_188.out; have hnc81 := NB188_136.out; have hcz82_0 : wr.cell? ⟨gb136,0,none⟩ = some (.int .i64 a0_0) := (za BK136.out 0).trans rfl; have hcz82_1 : wr.cell? ⟨gb136,1,none⟩ = some (.int .i64 a0_1) := (za BK136.out 1).trans rfl; have hcz82_2 : wr.cell? ⟨gb136,2,none⟩ = some (.string a0_2) := (za BK136.out 2).trans rfl; have hcz82_3 : wr.cell? ⟨gb136,3,none⟩ = some (.slice A0_3 l0_3.length c0_3) := (za BK136.out 3).trans rfl; have hcz82_4 : wr.cell? ⟨gb136,4,none⟩ = some (.slice A0_4 l0_4.length c0_4) := (za BK136.out 4).trans rfl; have hfz82_0 := zh BK136.out 0; have hfz82_1 := zh BK136.out 1; have hfz82_2 := zh BK136.out 2; have hfz82_3 := zh BK136.out 3; have hfz82_4 := zh BK136.out 4
          go_wp2
          go_meet
          case rel => exact ⟨_,(false),(by first | rfl | (simp; done) | (simp [*]; done)),H', ⟨by have := HK1.out; first | omega | exact Nat.le_refl _⟩,⟨by (with_reducible repeat (first | apply Kd.R_alloc | apply Kd.R_drewN | apply Kd.R_drew)); exact HO_189003.out⟩,⟨by (with_reducible repeat (first | apply Kd.N_alloc | apply Kd.N_drewN | apply Kd.N_drew)); exact HO_189004.out⟩,⟨by (with_reducible repeat (first | refine zg ?_ _ | refine zk ?_ | refine ze ?_ _)); exact BK136.out⟩,⟨by (with_reducible repeat (first | refine zg ?_ _ | refine zk ?_ | refine ze ?_ _)); exact BK137.out⟩,⟨by (with_reducible repeat (first | refine zg ?_ _ | refine zk ?_ | refine ze ?_ _)); exact BK188.out⟩,⟨by repeat (first | (with_reducible first | exact HB.out | apply zb | apply zc | apply zl | refine zj ?_ GE136.out | refine zj ?_ GE137.out | refine zj ?_ GE188.out) | exact HB.out)⟩⟩
        case rest =>
         clear HC75
         try clear c1
         try clear p1
         try clear q1
         try clear hx1
         try clear c2
         try clear c2b0
         try clear c2b1
         try clear p2
         try clear c3
         try clear c4
         try clear c5
         try clear c6
         try clear p6
         try clear c7
         try clear c8
         try clear c12
         try clear c12b0
         try clear c12b1
         try clear c13
         try clear c14
         try clear c15
         try clear c16
         try clear p16
         try clear q16
         try clear hx16
         try clear c22
         try clear c22b0
         try clear c22b1
         try clear c26
         try clear c32
         try clear c32b0
         try clear c32b1
         try clear c35
         try clear c38
         try clear c39
         try clear c41
         try clear c41b0
         try clear c42
         try clear c42b0
         try clear c44
         try clear c45
         try clear c46
         try clear c55
         try clear c56
         try clear c58
         try clear c62
         try clear c62b0
         try clear c62b1
         try clear p64
         try clear c66
         try clear c70
         try clear c71
         try clear c76
         try clear c76b0
         try clear c77
         try clear c78
         try clear c80
         try clear c81
         try clear hcz17_0
         try clear hcz17_1
         try clear hcz17_2
         try clear hcz17_3
         try clear hcz17_4
         try clear hcz19_0
         try clear hcz19_1
         try clear hcz19_2
         try clear hcz19_3
         try clear hcz19_4
         try clear hcz27_0
         try clear hcz27_1
         try clear hcz27_2
         try clear hcz27_3
         try clear hcz27_4
         try clear hcz29_0
         try clear hcz29_1
         try clear hcz29_2
         try clear hcz29_3
         try clear hcz29_4
         try clear hcz36_0
         try clear hcz36_1
         try clear hcz36_2
         try clear hcz36_3
         try clear hcz36_4
         try clear hcz40_0
         try clear hcz40_1
         try clear hcz40_2
         try clear hcz40_3
         try clear hcz40_4
         try clear hcz47_0
         try clear hcz47_1
         try clear hcz47_2
         try clear hcz47_3
         try clear hcz47_4
         try clear hcz57_0
         try clear hcz57_1
         try clear hcz57_2
         try clear hcz57_3
         try clear hcz57_4
         try clear hcz59_0
         try clear hcz59_1
         try clear hcz59_2
         try clear hcz59_3
         try clear hcz59_4
         try clear hcz60_0
         try clear hcz60_1
         try clear hcz60_2
         try clear hcz60_3
         try clear hcz60_4
         try clear hcz67_0
         try clear hcz67_1
         try clear hcz67_2
         try clear hcz67_3
         try clear hcz67_4
         try clear hcz72_0
         try clear hcz72_1
         try clear hcz72_2
         try clear hcz72_3
         try clear hcz72_4
         try clear hcz79_0
         try clear hcz79_1
         try clear hcz79_2
         try clear hcz79_3
         try clear hcz79_4
         try clear hcz7_0
         try clear hcz7_1
         try clear hcz7_2
         try clear hcz7_3
         try clear hcz7_4
         try clear hcz82_0
         try clear hcz82_1
         try clear hcz82_2
         try clear hcz82_3
         try clear hcz82_4
         try clear hcz9_0
         try clear hcz9_1
         try clear hcz9_2
         try clear hcz9_3
         try clear hcz9_4
         try clear hfz17_0
         try clear hfz17_1
         try clear hfz17_2
         try clear hfz17_3
         try clear hfz17_4
         try clear hfz19_0
         try clear hfz19_1
         try clear hfz19_2
         try clear hfz19_3
         try clear hfz19_4
         try clear hfz27_0
         try clear hfz27_1
         try clear hfz27_2
         try clear hfz27_3
         try clear hfz27_4
         try clear hfz29_0
         try clear hfz29_1
         try clear hfz29_2
         try clear hfz29_3
         try clear hfz29_4
         try clear hfz36_0
         try clear hfz36_1
         try clear hfz36_2
         try clear hfz36_3
         try clear hfz36_4
         try clear hfz40_0
         try clear hfz40_1
         try clear hfz40_2
         try clear hfz40_3
         try clear hfz40_4
         try clear hfz47_0
         try clear hfz47_1
         try clear hfz47_2
         try clear hfz47_3
         try clear hfz47_4
         try clear hfz57_0
         try clear hfz57_1
         try clear hfz57_2
         try clear hfz57_3
         try clear hfz57_4
         try clear hfz59_0
         try clear hfz59_1
         try clear hfz59_2
         try clear hfz59_3
         try clear hfz59_4
         try clear hfz60_0
         try clear hfz60_1
         try clear hfz60_2
         try clear hfz60_3
         try clear hfz60_4
         try clear hfz67_0
         try clear hfz67_1
         try clear hfz67_2
         try clear hfz67_3
         try clear hfz67_4
         try clear hfz72_0
         try clear hfz72_1
         try clear hfz72_2
         try clear hfz72_3
         try clear hfz72_4
         try clear hfz79_0
         try clear hfz79_1
         try clear hfz79_2
         try clear hfz79_3
         try clear hfz79_4
         try clear hfz7_0
         try clear hfz7_1
         try clear hfz7_2
         try clear hfz7_3
         try clear hfz7_4
         try clear hfz82_0
         try clear hfz82_1
         try clear hfz82_2
         try clear hfz82_3
         try clear hfz82_4
         try clear hfz9_0
         try clear hfz9_1
         try clear hfz9_2
         try clear hfz9_3
         try clear hfz9_4
         try clear hx166_0
         try clear hx166_1
         try clear hx166_2
         try clear hx166_3
         try clear hx166_4
         try clear p1
         try clear p16
         try clear p166
         try clear p2
         try clear p6
         try clear p64
         try clear q1
         try clear q16
         try clear q166
         obtain ⟨kq,x61_74,rfl,HA,HJ74,HO_189003,HO_189004,BK136,BK137,BK188,HB⟩ := hcut
         cases kq with
         | zero => exact absurd HA.out (by simp [spec_Fit.j2])
         | succ kj74 =>
          have H := HA.out; clear HA; simp only [spec_Fit.j2] at H
          by_cases c83 : x61_74 = true
          ·subst c83
           have H1 : (if 0 ≤ x6_1 then (if x6_1 < (l0_3.length : Int) then (if x6_1 < (l0_4.length : Int) then ((spec_Fit.f kj74 ((rd_T25 l0_4 x6_1).f0) ((rd_T25 l0_4 x6_1).f1) ((rd_T25 l0_4 x6_1).f2) ((rd_T25 l0_4 x6_1).f3) ((rd_T25 l0_4 x6_1).f4)).bind fun bt191 => ((spec_With.f kj74 x189000_1 x189001_1 x189002_1 x189003_1 x189004_1 (rdOf ByteArray.empty l0_3 x6_1) bt191.1 bt191.2.1 bt191.2.2.1 bt191.2.2.2.1 bt191.2.2.2.2).bind fun bt200 => (spec_Fit.l1 kj74 (wrap64 (x6_1 + 1)) a0_0 a0_1 a0_2 l0_3 l0_4 bt200.1 bt200.2.1 bt200.2.2.1 bt200.2.2.2.1 bt200.2.2.2.2))) else (none)) else (none)) else (none)) = some (r1,r2,r3,r4,r5) := by rw [if_pos rfl] at H; exact H
           clear H; have H := H1; clear H1
           by_cases c84 : 0 ≤ x6_1
           ·rw [if_pos c84] at H; have c84b0 : decide (0 ≤ x6_1) = true := decide_eq_true c84; clear c84
            by_cases c85 : x6_1 < (l0_3.length : Int)
            ·rw [if_pos c85] at H; have c85b0 : decide (x6_1 < (l0_3.length : Int)) = true := decide_eq_true c85; clear c85
             by_cases c86 : x6_1 < (l0_4.length : Int)
             ·rw [if_pos c86] at H; have c86b0 : decide (x6_1 < (l0_4.length : Int)) = true := decide_eq_true c86; clear c86; replace H := Option.bind_eq_some_iff.mp H; obtain ⟨⟨t191,t192,t193,t194,t197⟩,A870,H⟩ := H; replace H : ((spec_With.f kj74 x189000_1 x189001_1 x189002_1 x189003_1 x189004_1 (rdOf ByteArray.empty l0_3 x6_1) t191 t192 t193 t194 t197).bind fun bt200 => (spec_Fit.l1 kj74 (wrap64 (x6_1 + 1)) a0_0 a0_1 a0_2 l0_3 l0_4 bt200.1 bt200.2.1 bt200.2.2.1 bt200.2.2.2.1 bt200.2.2.2.2)) = some (r1,r2,r3,r4,r5) := H; have A87 := aM A870; clear A870; replace H := Option.bind_eq_some_iff.mp H; obtain ⟨⟨t200,t201,t202,t203,t206⟩,A880,H⟩ := H; replace H : (spec_Fit.l1 kj74 (wrap64 (x6_1 + 1)) a0_0 a0_1 a0_2 l0_3 l0_4 t200 t201 t202 t203 t206) = some (r1,r2,r3,r4,r5) := H; have A88 := aM A880; clear A880; have H' := aM H; clear H
              try go_wp2
              have n0_ := aM (Kd.R_drew HO_189003.out); have n1_ := aM (Kd.N_drew HO_189004.out); have n2_ := aM (zk BK136.out); have n3_ := aM (zk BK137.out); have n4_ := aM (zk BK188.out); have n5_ := aM (zl HB.out); clear HO_189003 HO_189004 BK136 BK137 BK188 HB; have HO_189003 := n0_; have HO_189004 := n1_; have BK136 := n2_; have BK137 := n3_; have BK188 := n4_; have HB := n5_; clear n0_ n1_ n2_ n3_ n4_ n5_; have p189 : 0 ≤ (x6_1 : Int) := of_decide_eq_true (by first | (with_reducible assumption) | assumption); have q189 : x6_1 < (l0_3.length : Int) := of_decide_eq_true (by first | (with_reducible assumption) | assumption); obtain ⟨ad189,e189,hx189_0⟩ := Kd.at_string HR0_3.out x6_1 p189 q189; have hw189_0 := hx189_0
              cases e189
              replace hx189_0 := (HB.out.cell (World.block_lt_of_cell? w _ hx189_0)).trans hx189_0; replace p189 := eq_true p189; replace q189 := eq_true q189; have p190 : 0 ≤ (x6_1 : Int) := of_decide_eq_true (by first | (with_reducible assumption) | assumption); have q190 : x6_1 < (l0_4.length : Int) := of_decide_eq_true (by first | (with_reducible assumption) | assumption); obtain ⟨ad190,A190_3,c190_3,A190_4,c190_4,e190,hx190_0,hx190_1,hx190_2,hx190_3,hx190_4,hl190_3,hi190_3,hl190_4,hi190_4⟩ := at_T25 HR0_4.out x6_1 p190 q190; have hw190_4 := hx190_4; have hw190_3 := hx190_3; have hw190_2 := hx190_2; have hw190_1 := hx190_1; have hw190_0 := hx190_0
              cases e190
              replace hx190_0 := (HB.out.cell (World.block_lt_of_cell? w _ hx190_0)).trans hx190_0; replace hx190_1 := (HB.out.cell (World.block_lt_of_cell? w _ hx190_1)).trans hx190_1; replace hx190_2 := (HB.out.cell (World.block_lt_of_cell? w _ hx190_2)).trans hx190_2; replace hx190_3 := (HB.out.cell (World.block_lt_of_cell? w _ hx190_3)).trans hx190_3; replace hx190_4 := (HB.out.cell (World.block_lt_of_cell? w _ hx190_4)).trans hx190_4; have HR190_3 := aM hi190_3; have HC190_3 := aM hl190_3; clear hi190_3 hl190_3; have HR190_4 := aM hi190_4; have HC190_4 := aM hl190_4; clear hi190_4 hl190_4; replace p190 := eq_true p190; replace q190 := eq_true q190; refine xm (n := 14) (S := fun w' => w'.cell? ⟨gb188,0,none⟩ = some (.int .i64 x189000_1) ∧ w'.cell? ⟨gb188,1,none⟩ = some (.int .i64 x189001_1) ∧ w'.cell? ⟨gb188,2,none⟩ = some (.string x189002_1) ∧ w'.cell? ⟨gb188,3,none⟩ = some (u189003) ∧ w'.cell? ⟨gb188,4,none⟩ = some (u189004) ∧ w'.cell? ⟨gb136,0,none⟩ = some (.int .i64 a0_0) ∧ w'.cell? ⟨gb136,1,none⟩ = some (.int .i64 a0_1) ∧ w'.cell? ⟨gb136,2,none⟩ = some (.string a0_2) ∧ w'.cell? ⟨gb136,3,none⟩ = some (.slice (some ad189) l0_3.length c0_3) ∧ w'.cell? ⟨gb136,4,none⟩ = some (.slice (some ad190) l0_4.length c0_4) ∧ w'.cell? (ad189.add (x6_1).toNat) = some (.string (rdOf ByteArray.empty l0_3 x6_1)) ∧ w'.cell? (ad190.add ((x6_1).toNat * 5)) = some (.int .i64 ((rd_T25 l0_4 x6_1).f0)) ∧ w'.cell? ⟨(ad190.add ((x6_1).toNat * 5)).block,(ad190.add ((x6_1).toNat * 5)).off + 1,none⟩ = some (.int .i64 ((rd_T25 l0_4 x6_1).f1)) ∧ w'.cell? ⟨(ad190.add ((x6_1).toNat * 5)).block,(ad190.add ((x6_1).toNat * 5)).off + 2,none⟩ = some (.string ((rd_T25 l0_4 x6_1).f2)) ∧ w'.cell? ⟨(ad190.add ((x6_1).toNat * 5)).block,(ad190.add ((x6_1).toNat * 5)).off + 3,none⟩ = some (.slice A190_3 ((rd_T25 l0_4 x6_1).f3).length c190_3) ∧ w'.cell? ⟨(ad190.add ((x6_1).toNat * 5)).block,(ad190.add ((x6_1).toNat * 5)).off + 4,none⟩ = some (.slice A190_4 ((rd_T25 l0_4 x6_1).f4).length c190_4)) (ds := [13]) (bZ 14 0) (by kernel_rfl) rfl rfl ⟨(za BK188.out 0).trans rfl,(za BK188.out 1).trans rfl,(za BK188.out 2).trans rfl,(za BK188.out 3).trans rfl,(za BK188.out 4).trans rfl,(za BK136.out 0).trans rfl,(za BK136.out 1).trans rfl,(za BK136.out 2).trans rfl,(za BK136.out 3).trans rfl,(za BK136.out 4).trans rfl,((HB.out.cell (World.block_lt_of_cell? w _ hw189_0)).trans hw189_0),((HB.out.cell (World.block_lt_of_cell? w _ hw190_0)).trans hw190_0),((HB.out.cell (World.block_lt_of_cell? w _ hw190_1)).trans hw190_1),((HB.out.cell (World.block_lt_of_cell? w _ hw190_2)).trans hw190_2),((HB.out.cell (World.block_lt_of_cell? w _ hw190_3)).trans hw190_3),((HB.out.cell (World.block_lt_of_cell? w _ hw190_4)).trans hw190_4)⟩ (fun hHeld => ?_); refine vn spec_Fit.tab20 spec_Fit.bits20 (fun HT_ HW_ => ?_); generalize wc.drew = w89 at HO_189003 HO_189004 BK136 BK137 BK188 HB HR190_3 HR190_4 hx189_0 hx190_0 hx190_1 hx190_2 hx190_3 hx190_4 hHeld ⊢; refine pU 1 (some 65) (bZ 14 2) rfl (yn HT_.out (by kernel_rfl)) ?_; refine pU 3 (some 67) (bZ 14 10) rfl (yn HT_.out (by kernel_rfl)) ?_; refine pU 6 (some 70) (bZ 14 74) rfl (yn HT_.out (by kernel_rfl)) ?_; refine pU 8 (some 72) (bZ 14 330) rfl (yn HT_.out (by kernel_rfl)) ?_; refine tU 0 (some 64) (bZ 14 331) rfl (yr HT_.out HW_.out (by kernel_rfl)) (Or.inl ⟨by rfl,by rintro w' ⟨s0,s1,s2,s3,s4,s5,s6,s7,s8,s9,s10,s11,s12,s13,s14,s15⟩; go_simp; with_reducible rfl⟩) hHeld ?_; refine tU 2 (some 66) (bZ 14 335) rfl (yr HT_.out HW_.out (by kernel_rfl)) (Or.inl ⟨by rfl,by rintro w' ⟨s0,s1,s2,s3,s4,s5,s6,s7,s8,s9,s10,s11,s12,s13,s14,s15⟩; go_simp; with_reducible rfl⟩) hHeld ?_; refine pU 4 (some 68) (bZ 14 351) rfl (yn HT_.out (by kernel_rfl)) ?_; refine tU 5 (some 69) (bZ 14 383) rfl (yr HT_.out HW_.out (by kernel_rfl)) (Or.inl ⟨by rfl,by rintro w' ⟨s0,s1,s2,s3,s4,s5,s6,s7,s8,s9,s10,s11,s12,s13,s14,s15⟩; go_simp; with_reducible rfl⟩) hHeld ?_; refine tU 7 (some 71) (bZ 14 511) rfl (yr HT_.out HW_.out (by kernel_rfl)) (Or.inl ⟨by rfl,by rintro w' ⟨s0,s1,s2,s3,s4,s5,s6,s7,s8,s9,s10,s11,s12,s13,s14,s15⟩; go_simp; with_reducible rfl⟩) hHeld ?_; refine pU 9 (some 73) (bZ 14 1023) rfl (yn HT_.out (by kernel_rfl)) ?_; refine tU 10 (some 74) (bZ 14 2047) rfl (yr HT_.out HW_.out (by kernel_rfl)) (Or.inl ⟨by rfl,by rintro w' ⟨s0,s1,s2,s3,s4,s5,s6,s7,s8,s9,s10,s11,s12,s13,s14,s15⟩; go_simp; with_reducible rfl⟩) hHeld ?_; refine one_ (i := 11) (N := some 75) (bZ 14 4095) rfl rfl (xp HT_.out (by kernel_rfl)) (by decide) (fun K hK => ?_); refine xc Tryz.func5 (by kernel_rfl) rfl #[.agg #[.int .i64 ((rd_T25 l0_4 x6_1).f0), .int .i64 ((rd_T25 l0_4 x6_1).f1), .string ((rd_T25 l0_4 x6_1).f2), .slice A190_3 ((rd_T25 l0_4 x6_1).f3).length c190_3, .slice A190_4 ((rd_T25 l0_4 x6_1).f4).length c190_4]] (by rfl) rfl rfl (by (try simp only [List.map_toArray,List.map_cons,List.map_nil]); first | done | rfl | (simp only [List.length_drop,List.length_take]; rfl)) ?_
              with_reducible refine (ih kj74 (by have := HK1.out; have := HJ74.out; omega) ((rd_T25 l0_4 x6_1).f0) ((rd_T25 l0_4 x6_1).f1) ((rd_T25 l0_4 x6_1).f2) _ _ ((rd_T25 l0_4 x6_1).f3) _ _ ((rd_T25 l0_4 x6_1).f4) t191 t192 t193 t194 t197 _ ?side1 ?side2 ?side3 ?side4 A87.out).mono ?_
              (case side1 => repeat (first | exact (Kd.C_below HR190_3.out HB.out) | (with_reducible refine Kd.C_alloc ?_ _) | (with_reducible refine Kd.C_drewN ?_ _) | (with_reducible refine Kd.C_drew ?_)))
              (case side2 => exact HC190_3.out)
              (case side3 => repeat (first | exact (Kd.C_below HR190_4.out HB.out) | (with_reducible refine Kd.C_alloc ?_ _) | (with_reducible refine Kd.C_drewN ?_ _) | (with_reducible refine Kd.C_drew ?_)))
              (case side4 => exact HC190_4.out)
              rintro e w90 ⟨v195,v198,rfl,ho0,ho1,hb⟩; refine ⟨_,rfl, ?_⟩; have n0_ := aM (Kd.R_elder' (by (with_reducible repeat (first | apply Kd.R_alloc | apply Kd.R_drewN | apply Kd.R_drew)); exact HO_189003.out) (Kd.R_base ho0) hb); have n1_ := aM (Kd.N_mono (Kd.N_told (Kd.N_told (Kd.N_old (by (with_reducible repeat (first | apply Kd.N_alloc | apply Kd.N_drewN | apply Kd.N_drew)); exact HO_189004.out) hb) (Kd.R_base ho0)) (Kd.N_base ho1)) (fun _ h_ => h_.1)); have n2_ := aM (Kd.R_lower (Kd.R_new' (Kd.R_newM (M := fun k_ => (w.heap.size ≤ k_)) (Kd.R_mono (ok' := fun k_ => True) ho0 (fun _ hk_ => trivial)) (zo (by repeat (first | (with_reducible first | exact HB.out | apply zb | apply zc | apply zl | refine zj ?_ GE136.out | refine zj ?_ GE137.out | refine zj ?_ GE188.out) | exact HB.out))) (fun k_ h_ => h_)) (Kd.R_lt (by (with_reducible repeat (first | apply Kd.R_alloc | apply Kd.R_drewN | apply Kd.R_drew)); exact HO_189003.out))) (zo (by repeat (first | (with_reducible first | exact HB.out | apply zb | apply zc | apply zl | refine zj ?_ GE136.out | refine zj ?_ GE137.out | refine zj ?_ GE188.out) | exact HB.out)))); have n3_ := aM (Kd.N_lower (Kd.N_mono (ok' := fun k_ => (w.heap.size ≤ k_) ∧ some k_ ≠ (v195 : Value).ownBlock ∧ some k_ ≠ (u189003 : Value).ownBlock ∧ some k_ ≠ (u189004 : Value).ownBlock ∧ k_ ≠ gb136 ∧ k_ ≠ gb137 ∧ k_ ≠ gb188) ho1 (fun k_ hk_ => ⟨(Nat.le_trans (zo (by repeat (first | (with_reducible first | exact HB.out | apply zb | apply zc | apply zl | refine zj ?_ GE136.out | refine zj ?_ GE137.out | refine zj ?_ GE188.out) | exact HB.out))) hk_.1),hk_.2,(Kd.fresh' (Kd.R_lt (by (with_reducible repeat (first | apply Kd.R_alloc | apply Kd.R_drewN | apply Kd.R_drew)); exact HO_189003.out)) k_ hk_.1),(Kd.fresh' (Kd.N_lt (by (with_reducible repeat (first | apply Kd.N_alloc | apply Kd.N_drewN | apply Kd.N_drew)); exact HO_189004.out)) k_ hk_.1),(Kd.freshB (g := gb136) (o := .cells #[.int .i64 a0_0, .int .i64 a0_1, .string a0_2, .slice (some ad189) l0_3.length c0_3, .slice (some ad190) l0_4.length c0_4] 25 (0,0)) (by (with_reducible repeat (first | refine zg ?_ _ | refine zk ?_ | refine ze ?_ _)); exact BK136.out) k_ hk_.1),(Kd.freshB (g := gb137) (o := .cells #[.int .i64 0, .int .i64 0, .string (⟨#[]⟩ : ByteArray), .slice none 0 0, .slice none 0 0] 25 (0,0)) (by (with_reducible repeat (first | refine zg ?_ _ | refine zk ?_ | refine ze ?_ _)); exact BK137.out) k_ hk_.1),(Kd.freshB (g := gb188) (o := .cells #[.int .i64 x189000_1, .int .i64 x189001_1, .string x189002_1,u189003,u189004] 25 (0,0)) (by (with_reducible repeat (first | refine zg ?_ _ | refine zk ?_ | refine ze ?_ _)); exact BK188.out) k_ hk_.1)⟩)) (zo (by repeat (first | (with_reducible first | exact HB.out | apply zb | apply zc | apply zl | refine zj ?_ GE136.out | refine zj ?_ GE137.out | refine zj ?_ GE188.out) | exact HB.out)))); have n4_ := aM (ya (g := gb136) (o := .cells #[.int .i64 a0_0, .int .i64 a0_1, .string a0_2, .slice (some ad189) l0_3.length c0_3, .slice (some ad190) l0_4.length c0_4] 25 (0,0)) (by (with_reducible repeat (first | refine zg ?_ _ | refine zk ?_ | refine ze ?_ _)); exact BK136.out) hb); have n5_ := aM (ya (g := gb137) (o := .cells #[.int .i64 0, .int .i64 0, .string (⟨#[]⟩ : ByteArray), .slice none 0 0, .slice none 0 0] 25 (0,0)) (by (with_reducible repeat (first | refine zg ?_ _ | refine zk ?_ | refine ze ?_ _)); exact BK137.out) hb); have n6_ := aM (ya (g := gb188) (o := .cells #[.int .i64 x189000_1, .int .i64 x189001_1, .string x189002_1,u189003,u189004] 25 (0,0)) (by (with_reducible repeat (first | refine zg ?_ _ | refine zk ?_ | refine ze ?_ _)); exact BK188.out) hb); have n7_ := aM (zv (by repeat (first | (with_reducible first | exact HB.out | apply zb | apply zc | apply zl | refine zj ?_ GE136.out | refine zj ?_ GE137.out | refine zj ?_ GE188.out) | exact HB.out)) hb); clear HO_189003 HO_189004 BK136 BK137 BK188 HB; have HO_189003 := n0_; have HO_189004 := n1_; have HO196 := n2_; have HO199 := n3_; have BK136 := n4_; have BK137 := n5_; have BK188 := n6_; have HB := n7_; clear n0_ n1_ n2_ n3_ n4_ n5_ n6_ n7_
              (try clear hb)
              (try clear hb2)
              (try clear hk)
              (try clear hi)
              (try clear ho0)
              (try clear ho1)
              obtain ⟨Ao91,co91,eo91⟩ := Kd.R_slice HO_189003.out
              (first | subst eo91 | (injection eo91 with f1_ f2_ f3_; have f4_ := f1_.symm; have f5_ := f3_.symm; clear f1_ f2_ f3_; subst f4_; subst f5_))
              obtain ⟨Ao92,co92,eo92⟩ := Kd.N_slice HO_189004.out
              (first | subst eo92 | (injection eo92 with f1_ f2_ f3_; have f4_ := f1_.symm; have f5_ := f3_.symm; clear f1_ f2_ f3_; subst f4_; subst f5_))
              obtain ⟨Ao93,co93,eo93⟩ := Kd.R_slice HO196.out
              (first | subst eo93 | (injection eo93 with f1_ f2_ f3_; have f4_ := f1_.symm; have f5_ := f3_.symm; clear f1_ f2_ f3_; subst f4_; subst f5_))
              obtain ⟨Ao94,co94,eo94⟩ := Kd.N_slice HO199.out
              (first | subst eo94 | (injection eo94 with f1_ f2_ f3_; have f4_ := f1_.symm; have f5_ := f3_.symm; clear f1_ f2_ f3_; subst f4_; subst f5_))
              refine hK.out _ _ ⟨(za BK188.out 0).trans rfl,(za BK188.out 1).trans rfl,(za BK188.out 2).trans rfl,(za BK188.out 3).trans rfl,(za BK188.out 4).trans rfl,(za BK136.out 0).trans rfl,(za BK136.out 1).trans rfl,(za BK136.out 2).trans rfl,(za BK136.out 3).trans rfl,(za BK136.out 4).trans rfl,((HB.out.cell (World.block_lt_of_cell? w _ hw189_0)).trans hw189_0),((HB.out.cell (World.block_lt_of_cell? w _ hw190_0)).trans hw190_0),((HB.out.cell (World.block_lt_of_cell? w _ hw190_1)).trans hw190_1),((HB.out.cell (World.block_lt_of_cell? w _ hw190_2)).trans hw190_2),((HB.out.cell (World.block_lt_of_cell? w _ hw190_3)).trans hw190_3),((HB.out.cell (World.block_lt_of_cell? w _ hw190_4)).trans hw190_4)⟩ (fun hHeld => ?_); clear hK K; refine zr (a' := ?_) ?_ ?_; rotate_left
              ·show Act.put _ (some 75) _ = _
               simp only [Act.put,sA,sB,sC,yf,yg]; rfl
              refine one_ (i := 12) (N := some 76) (bZ 14 8191) rfl rfl (xp HT_.out (by kernel_rfl)) (by decide) (fun K hK => ?_); refine xc Tryz.func17 (by kernel_rfl) rfl #[.agg #[.int .i64 x189000_1, .int .i64 x189001_1, .string x189002_1, .slice Ao91 x189003_1.length co91, .slice Ao92 x189004_1.length co92], .string (rdOf ByteArray.empty l0_3 x6_1), .agg #[.int .i64 t191, .int .i64 t192, .string t193, .slice Ao93 t194.length co93, .slice Ao94 t197.length co94]] (by rfl) rfl rfl (by (try simp only [List.map_toArray,List.map_cons,List.map_nil]); first | done | rfl | (simp only [List.length_drop,List.length_take]; rfl)) ?_
              with_reducible refine (spec_With.calls kj74 x189000_1 x189001_1 x189002_1 _ _ x189003_1 (fun k_ => ((((w.heap.size ≤ k_) ∧ (some k_ ≠ (.slice Ao91 x189003_1.length co91 : Value).ownBlock ∧ (k_ ≠ gb136 ∧ (k_ ≠ gb137 ∧ k_ ≠ gb188)))) ∧ some k_ ≠ (.slice Ao93 t194.length co93 : Value).ownBlock) ∧ some k_ ≠ (.slice Ao94 t197.length co94 : Value).ownBlock)) _ _ x189004_1 (rdOf ByteArray.empty l0_3 x6_1) t191 t192 t193 (fun k_ => some k_ = (.slice Ao93 t194.length co93 : Value).ownBlock) _ _ t194 (fun k_ => ((w.heap.size ≤ k_) ∧ (some k_ ≠ (.slice Ao93 t194.length co93 : Value).ownBlock ∧ (some k_ ≠ (.slice Ao91 x189003_1.length co91 : Value).ownBlock ∧ (some k_ ≠ (.slice Ao92 x189004_1.length co92 : Value).ownBlock ∧ (k_ ≠ gb136 ∧ (k_ ≠ gb137 ∧ k_ ≠ gb188))))))) _ _ t197 t200 t201 t202 t203 t206 _ ?side1 ?side2 ?side3 ?side4 ?side5 A88.out).mono ?_
              (case side1 => repeat (first | exact (Kd.R_reads' HO_189003.out).2.2 | (with_reducible refine Kd.C_alloc ?_ _) | (with_reducible refine Kd.C_drewN ?_ _) | (with_reducible refine Kd.C_drew ?_)))
              (case side2 => exact (Kd.R_reads' HO_189003.out).2.1)
              (case side3 => exact Kd.N_V (HO_189004.out))
              (case side4 => exact Kd.R_V (Kd.R_tight rfl (Kd.R_types (Kd.R_types (Kd.R_types (Kd.R_apart' (Kd.R_apart' (HO196.out) (Kd.N_typed HO_189004.out) (by decide)) (Kd.N_typed HO199.out) (by decide)) BK136.out (by decide)) BK137.out (by decide)) BK188.out (by decide))))
              (case side5 => exact Kd.N_V (HO199.out))
              rintro e w95 ⟨v204,v207,rfl,ho0,ho1,hb⟩; refine ⟨_,rfl, ?_⟩; have n0_ := aM (Kd.R_elder' (by (with_reducible repeat (first | apply Kd.R_alloc | apply Kd.R_drewN | apply Kd.R_drew)); exact HO_189003.out) (Kd.R_base ho0) hb); have n1_ := aM (Kd.N_mono (Kd.N_told (Kd.N_told (Kd.N_old (by (with_reducible repeat (first | apply Kd.N_alloc | apply Kd.N_drewN | apply Kd.N_drew)); exact HO_189004.out) hb) (Kd.R_base ho0)) (Kd.N_base ho1)) (fun _ h_ => h_.1)); have n2_ := aM (Kd.R_elder' (by (with_reducible repeat (first | apply Kd.R_alloc | apply Kd.R_drewN | apply Kd.R_drew)); exact HO196.out) (Kd.R_base ho0) hb); have n3_ := aM (Kd.N_mono (Kd.N_told (Kd.N_told (Kd.N_old (by (with_reducible repeat (first | apply Kd.N_alloc | apply Kd.N_drewN | apply Kd.N_drew)); exact HO199.out) hb) (Kd.R_base ho0)) (Kd.N_base ho1)) (fun _ h_ => h_.1)); have n4_ := aM (Kd.R_lower (Kd.R_new' (Kd.R_new' (Kd.R_newM (M := fun k_ => (w.heap.size ≤ k_)) (Kd.R_mono (ok' := fun k_ => True) ho0 (fun _ hk_ => trivial)) (zo (by repeat (first | (with_reducible first | exact HB.out | apply zb | apply zc | apply zl | refine zj ?_ GE136.out | refine zj ?_ GE137.out | refine zj ?_ GE188.out) | exact HB.out))) (fun k_ h_ => h_)) (Kd.R_lt (by (with_reducible repeat (first | apply Kd.R_alloc | apply Kd.R_drewN | apply Kd.R_drew)); exact HO_189003.out))) (Kd.R_lt (by (with_reducible repeat (first | apply Kd.R_alloc | apply Kd.R_drewN | apply Kd.R_drew)); exact HO196.out))) (zo (by repeat (first | (with_reducible first | exact HB.out | apply zb | apply zc | apply zl | refine zj ?_ GE136.out | refine zj ?_ GE137.out | refine zj ?_ GE188.out) | exact HB.out)))); have n5_ := aM (Kd.N_lower (Kd.N_mono (ok' := fun k_ => (w.heap.size ≤ k_) ∧ some k_ ≠ (v204 : Value).ownBlock ∧ some k_ ≠ (.slice Ao91 x189003_1.length co91 : Value).ownBlock ∧ k_ ≠ gb136 ∧ k_ ≠ gb137 ∧ k_ ≠ gb188) ho1 (fun k_ hk_ => ⟨Or.elim hk_.1 (fun hs_ => Or.elim hs_ (fun hs_ => hs_.1.1.1) (fun hs_ => Or.elim hs_ (fun hs_ => ((Kd.R_types (Kd.R_types (Kd.R_types (Kd.R_apart' (Kd.R_apart' (HO196.out) (Kd.N_typed HO_189004.out) (by decide)) (Kd.N_typed HO199.out) (by decide)) BK136.out (by decide)) BK137.out (by decide)) BK188.out (by decide)).1 k_ hs_.symm).1.1.1.1.1.1.1) (fun hs_ => hs_.1))) (fun hn_ => (Nat.le_trans (zo (by repeat (first | (with_reducible first | exact HB.out | apply zb | apply zc | apply zl | refine zj ?_ GE136.out | refine zj ?_ GE137.out | refine zj ?_ GE188.out) | exact HB.out))) hn_)),hk_.2,Or.elim hk_.1 (fun hs_ => Or.elim hs_ (fun hs_ => hs_.1.1.2.1) (fun hs_ => Or.elim hs_ (fun hs_ => ((Kd.R_types (Kd.R_types (Kd.R_types (Kd.R_apart' (Kd.R_apart' (HO196.out) (Kd.N_typed HO_189004.out) (by decide)) (Kd.N_typed HO199.out) (by decide)) BK136.out (by decide)) BK137.out (by decide)) BK188.out (by decide)).1 k_ hs_.symm).1.1.1.1.1.2) (fun hs_ => hs_.2.2.1))) (fun hn_ => (Kd.fresh' (Kd.R_lt (by (with_reducible repeat (first | apply Kd.R_alloc | apply Kd.R_drewN | apply Kd.R_drew)); exact HO_189003.out)) k_ hn_)),Or.elim hk_.1 (fun hs_ => Or.elim hs_ (fun hs_ => hs_.1.1.2.2.1) (fun hs_ => Or.elim hs_ (fun hs_ => ((Kd.R_types (Kd.R_types (Kd.R_types (Kd.R_apart' (Kd.R_apart' (HO196.out) (Kd.N_typed HO_189004.out) (by decide)) (Kd.N_typed HO199.out) (by decide)) BK136.out (by decide)) BK137.out (by decide)) BK188.out (by decide)).1 k_ hs_.symm).1.1.2) (fun hs_ => hs_.2.2.2.2.1))) (fun hn_ => (Kd.freshB (g := gb136) (o := .cells #[.int .i64 a0_0, .int .i64 a0_1, .string a0_2, .slice (some ad189) l0_3.length c0_3, .slice (some ad190) l0_4.length c0_4] 25 (0,0)) (by (with_reducible repeat (first | refine zg ?_ _ | refine zk ?_ | refine ze ?_ _)); exact BK136.out) k_ hn_)),Or.elim hk_.1 (fun hs_ => Or.elim hs_ (fun hs_ => hs_.1.1.2.2.2.1) (fun hs_ => Or.elim hs_ (fun hs_ => ((Kd.R_types (Kd.R_types (Kd.R_types (Kd.R_apart' (Kd.R_apart' (HO196.out) (Kd.N_typed HO_189004.out) (by decide)) (Kd.N_typed HO199.out) (by decide)) BK136.out (by decide)) BK137.out (by decide)) BK188.out (by decide)).1 k_ hs_.symm).1.2) (fun hs_ => hs_.2.2.2.2.2.1))) (fun hn_ => (Kd.freshB (g := gb137) (o := .cells #[.int .i64 0, .int .i64 0, .string (⟨#[]⟩ : ByteArray), .slice none 0 0, .slice none 0 0] 25 (0,0)) (by (with_reducible repeat (first | refine zg ?_ _ | refine zk ?_ | refine ze ?_ _)); exact BK137.out) k_ hn_)),Or.elim hk_.1 (fun hs_ => Or.elim hs_ (fun hs_ => hs_.1.1.2.2.2.2) (fun hs_ => Or.elim hs_ (fun hs_ => ((Kd.R_types (Kd.R_types (Kd.R_types (Kd.R_apart' (Kd.R_apart' (HO196.out) (Kd.N_typed HO_189004.out) (by decide)) (Kd.N_typed HO199.out) (by decide)) BK136.out (by decide)) BK137.out (by decide)) BK188.out (by decide)).1 k_ hs_.symm).2) (fun hs_ => hs_.2.2.2.2.2.2))) (fun hn_ => (Kd.freshB (g := gb188) (o := .cells #[.int .i64 x189000_1, .int .i64 x189001_1, .string x189002_1, .slice Ao91 x189003_1.length co91, .slice Ao92 x189004_1.length co92] 25 (0,0)) (by (with_reducible repeat (first | refine zg ?_ _ | refine zk ?_ | refine ze ?_ _)); exact BK188.out) k_ hn_))⟩)) (zo (by repeat (first | (with_reducible first | exact HB.out | apply zb | apply zc | apply zl | refine zj ?_ GE136.out | refine zj ?_ GE137.out | refine zj ?_ GE188.out) | exact HB.out)))); have n6_ := aM (ya (g := gb136) (o := .cells #[.int .i64 a0_0, .int .i64 a0_1, .string a0_2, .slice (some ad189) l0_3.length c0_3, .slice (some ad190) l0_4.length c0_4] 25 (0,0)) (by (with_reducible repeat (first | refine zg ?_ _ | refine zk ?_ | refine ze ?_ _)); exact BK136.out) hb); have n7_ := aM (ya (g := gb137) (o := .cells #[.int .i64 0, .int .i64 0, .string (⟨#[]⟩ : ByteArray), .slice none 0 0, .slice none 0 0] 25 (0,0)) (by (with_reducible repeat (first | refine zg ?_ _ | refine zk ?_ | refine ze ?_ _)); exact BK137.out) hb); have n8_ := aM (ya (g := gb188) (o := .cells #[.int .i64 x189000_1, .int .i64 x189001_1, .string x189002_1, .slice Ao91 x189003_1.length co91, .slice Ao92 x189004_1.length co92] 25 (0,0)) (by (with_reducible repeat (first | refine zg ?_ _ | refine zk ?_ | refine ze ?_ _)); exact BK188.out) hb); have n9_ := aM (zv (by repeat (first | (with_reducible first | exact HB.out | apply zb | apply zc | apply zl | refine zj ?_ GE136.out | refine zj ?_ GE137.out | refine zj ?_ GE188.out) | exact HB.out)) hb); clear HO_189003 HO_189004 HO196 HO199 BK136 BK137 BK188 HB; have HO_189003 := n0_; have HO_189004 := n1_; have HO196 := n2_; have HO199 := n3_; have HO205 := n4_; have HO208 := n5_; have BK136 := n6_; have BK137 := n7_; have BK188 := n8_; have HB := n9_; clear n0_ n1_ n2_ n3_ n4_ n5_ n6_ n7_ n8_ n9_
              (try clear hb)
              (try clear hb2)
              (try clear hk)
              (try clear hi)
              (try clear ho0)
              (try clear ho1)
              obtain ⟨Ao99,co99,eo99⟩ := Kd.R_slice HO205.out
              (first | subst eo99 | (injection eo99 with f1_ f2_ f3_; have f4_ := f1_.symm; have f5_ := f3_.symm; clear f1_ f2_ f3_; subst f4_; subst f5_))
              obtain ⟨Ao101,co101,eo101⟩ := Kd.N_slice HO208.out
              (first | subst eo101 | (injection eo101 with f1_ f2_ f3_; have f4_ := f1_.symm; have f5_ := f3_.symm; clear f1_ f2_ f3_; subst f4_; subst f5_))
              refine hK.out _ _ ⟨(za BK188.out 0).trans rfl,(za BK188.out 1).trans rfl,(za BK188.out 2).trans rfl,(za BK188.out 3).trans rfl,(za BK188.out 4).trans rfl,(za BK136.out 0).trans rfl,(za BK136.out 1).trans rfl,(za BK136.out 2).trans rfl,(za BK136.out 3).trans rfl,(za BK136.out 4).trans rfl,((HB.out.cell (World.block_lt_of_cell? w _ hw189_0)).trans hw189_0),((HB.out.cell (World.block_lt_of_cell? w _ hw190_0)).trans hw190_0),((HB.out.cell (World.block_lt_of_cell? w _ hw190_1)).trans hw190_1),((HB.out.cell (World.block_lt_of_cell? w _ hw190_2)).trans hw190_2),((HB.out.cell (World.block_lt_of_cell? w _ hw190_3)).trans hw190_3),((HB.out.cell (World.block_lt_of_cell? w _ hw190_4)).trans hw190_4)⟩ (fun hHeld => ?_); clear hK K; refine zr (a' := ?_) ?_ ?_; rotate_left
              ·show Act.put _ (some 76) _ = _
               simp only [Act.put,sA,sB,sC,yf,yg]; rfl
              refine xn (i := 13) (N := none) (bZ 14 16383) rfl rfl (xp HT_.out (by kernel_rfl)) (by decide) (fun K hK => ?_); have hs96 : w95.cell? ⟨gb188,0,none⟩ = some (.int .i64 x189000_1) := (za BK188.out 0).trans rfl; have hfs96 := zh BK188.out 0; have hns96_0 := NB136_188.out; have hns96_1 := NB137_188.out; have hms96_0 := NB188_136.out; have hms96_1 := NB188_137.out; have hs97 : w95.cell? ⟨gb188,1,none⟩ = some (.int .i64 x189001_1) := (za BK188.out 1).trans rfl; have hfs97 := zh BK188.out 1; have hns97_0 := NB136_188.out; have hns97_1 := NB137_188.out; have hms97_0 := NB188_136.out; have hms97_1 := NB188_137.out; have hs98 : w95.cell? ⟨gb188,2,none⟩ = some (.string x189002_1) := (za BK188.out 2).trans rfl; have hfs98 := zh BK188.out 2; have hns98_0 := NB136_188.out; have hns98_1 := NB137_188.out; have hms98_0 := NB188_136.out; have hms98_1 := NB188_137.out; have hs100 : w95.cell? ⟨gb188,3,none⟩ = some (.slice Ao91 x189003_1.length co91) := (za BK188.out 3).trans rfl; have hfs100 := zh BK188.out 3; have hns100_0 := NB136_188.out; have hns100_1 := NB137_188.out; have hms100_0 := NB188_136.out; have hms100_1 := NB188_137.out; have hs102 : w95.cell? ⟨gb188,4,none⟩ = some (.slice Ao92 x189004_1.length co92) := (za BK188.out 4).trans rfl; have hfs102 := zh BK188.out 4; have hns102_0 := NB136_188.out; have hns102_1 := NB137_188.out; have hms102_0 := NB188_136.out; have hms102_1 := NB188_137.out; refine skip_ (w1 := ?_) (by rfl) rfl ?_ ?_; rotate_left
              ·go_simp; rfl
              refine hK.out _ _ ?_; clear hK K; refine xy (done_of HT_.out (by kernel_rfl)) ?_
              try go_wp2
              go_roundg kj74
              case measure => have := HK1.out; have := HJ74.out; omega
              case rel => exact ⟨(wrap64 (x6_1 + 1)),(t200),(t201),(t202),(t203),(t206),(.slice Ao99 t203.length co99),(.slice Ao101 t206.length co101),(by first | rfl | (simp; done) | (simp [*]; done)),H', ⟨by have := HK1.out; have := HJ74.out; omega⟩,⟨by (with_reducible repeat (first | apply Kd.R_alloc | apply Kd.R_drewN | apply Kd.R_drew)); exact Kd.R_mono (Kd.R_far (p := ⟨gb188,4,none⟩) (Kd.R_far (p := ⟨gb188,3,none⟩) (Kd.R_far (p := ⟨gb188,2,none⟩) (Kd.R_far (p := ⟨gb188,1,none⟩) (Kd.R_far (p := ⟨gb188,0,none⟩) (Kd.R_types HO205.out BK188.out (by decide)) (fun _ hk => hk.2) (.int .i64 t200)) (fun _ hk => hk.2) (.int .i64 t201)) (fun _ hk => hk.2) (.string t202)) (fun _ hk => hk.2) (.slice Ao99 t203.length co99)) (fun _ hk => hk.2) (.slice Ao101 t206.length co101)) (fun _ hk => hk.1.1.1.1)⟩,⟨by (with_reducible repeat (first | apply Kd.N_alloc | apply Kd.N_drewN | apply Kd.N_drew)); exact Kd.N_mono (Kd.N_far (p := ⟨gb188,4,none⟩) (Kd.N_far (p := ⟨gb188,3,none⟩) (Kd.N_far (p := ⟨gb188,2,none⟩) (Kd.N_far (p := ⟨gb188,1,none⟩) (Kd.N_far (p := ⟨gb188,0,none⟩) (Kd.N_mono HO208.out (fun k_ hk => (⟨hk,hk.2.2.2.2.2⟩ : _ ∧ k_ ≠ gb188))) (fun _ hk => hk.2) (.int .i64 t200)) (fun _ hk => hk.2) (.int .i64 t201)) (fun _ hk => hk.2) (.string t202)) (fun _ hk => hk.2) (.slice Ao99 t203.length co99)) (fun _ hk => hk.2) (.slice Ao101 t206.length co101)) (fun _ hk => ⟨hk.1.1,⟨hk.1.2.1,⟨hk.1.2.2.2.1,⟨hk.1.2.2.2.2.1,hk.1.2.2.2.2.2⟩⟩⟩⟩)⟩,⟨by (with_reducible repeat (first | refine zg ?_ _ | refine zk ?_ | refine ze ?_ _)); refine yl ?_ NB136_188.out _; (with_reducible repeat (first | refine zg ?_ _ | refine zk ?_ | refine ze ?_ _)); refine yl ?_ NB136_188.out _; (with_reducible repeat (first | refine zg ?_ _ | refine zk ?_ | refine ze ?_ _)); refine yl ?_ NB136_188.out _; (with_reducible repeat (first | refine zg ?_ _ | refine zk ?_ | refine ze ?_ _)); refine yl ?_ NB136_188.out _; (with_reducible repeat (first | refine zg ?_ _ | refine zk ?_ | refine ze ?_ _)); refine yl ?_ NB136_188.out _; (with_reducible repeat (first | refine zg ?_ _ | refine zk ?_ | refine ze ?_ _)); exact BK136.out⟩,⟨by (with_reducible repeat (first | refine zg ?_ _ | refine zk ?_ | refine ze ?_ _)); refine yl ?_ NB137_188.out _; (with_reducible repeat (first | refine zg ?_ _ | refine zk ?_ | refine ze ?_ _)); refine yl ?_ NB137_188.out _; (with_reducible repeat (first | refine zg ?_ _ | refine zk ?_ | refine ze ?_ _)); refine yl ?_ NB137_188.out _; (with_reducible repeat (first | refine zg ?_ _ | refine zk ?_ | refine ze ?_ _)); refine yl ?_ NB137_188.out _; (with_reducible repeat (first | refine zg ?_ _ | refine zk ?_ | refine ze ?_ _)); refine yl ?_ NB137_188.out _; (with_reducible repeat (first | refine zg ?_ _ | refine zk ?_ | refine ze ?_ _)); exact BK137.out⟩,⟨by (with_reducible repeat (first | refine zg ?_ _ | refine zk ?_ | refine ze ?_ _)); refine yb (cs := #[.int .i64 t200, .int .i64 t201, .string t202, .slice Ao99 t203.length co99, .slice Ao92 x189004_1.length co92]) ?_ 4 _ rfl; (with_reducible repeat (first | refine zg ?_ _ | refine zk ?_ | refine ze ?_ _)); refine yb (cs := #[.int .i64 t200, .int .i64 t201, .string t202, .slice Ao91 x189003_1.length co91, .slice Ao92 x189004_1.length co92]) ?_ 3 _ rfl; (with_reducible repeat (first | refine zg ?_ _ | refine zk ?_ | refine ze ?_ _)); refine yb (cs := #[.int .i64 t200, .int .i64 t201, .string x189002_1, .slice Ao91 x189003_1.length co91, .slice Ao92 x189004_1.length co92]) ?_ 2 _ rfl; (with_reducible repeat (first | refine zg ?_ _ | refine zk ?_ | refine ze ?_ _)); refine yb (cs := #[.int .i64 t200, .int .i64 x189001_1, .string x189002_1, .slice Ao91 x189003_1.length co91, .slice Ao92 x189004_1.length co92]) ?_ 1 _ rfl; (with_reducible repeat (first | refine zg ?_ _ | refine zk ?_ | refine ze ?_ _)); refine yb (cs := #[.int .i64 x189000_1, .int .i64 x189001_1, .string x189002_1, .slice Ao91 x189003_1.length co91, .slice Ao92 x189004_1.length co92]) ?_ 0 _ rfl; (with_reducible repeat (first | refine zg ?_ _ | refine zk ?_ | refine ze ?_ _)); exact BK188.out⟩,⟨by repeat (first | (with_reducible first | exact HB.out | apply zb | apply zc | apply zl | refine zj ?_ GE136.out | refine zj ?_ GE137.out | refine zj ?_ GE188.out) | exact HB.out)⟩⟩
             ·rw [if_neg c86] at H; exact absurd H (by simp)
            ·rw [if_neg c85] at H; exact absurd H (by simp)
           ·rw [if_neg c84] at H; exact absurd H (by simp)
          ·replace c83 := Bool.eq_false_iff.mpr c83; subst c83
           have H1 : (some (x189000_1,x189001_1,x189002_1,x189003_1,x189004_1)) = some (r1,r2,r3,r4,r5) := by rw [if_neg (show ¬ (false = true) by decide)] at H; exact H
           clear H; have H := H1; clear H1; simp only [Option.some.injEq,Prod.mk.injEq] at H; obtain ⟨rfl,rfl,rfl,rfl,rfl⟩ := H; have hnb103 := NB188_136.out; have hnc103 := NB136_188.out; have hnb104 := NB188_137.out; have hnc104 := NB137_188.out; have hcz105_0 : wc.cell? ⟨gb188,0,none⟩ = some (.int .i64 x189000_1) := (za BK188.out 0).trans rfl; have hcz105_1 : wc.cell? ⟨gb188,1,none⟩ = some (.int .i64 x189001_1) := (za BK188.out 1).trans rfl; have hcz105_2 : wc.cell? ⟨gb188,2,none⟩ = some (.string x189002_1) := (za BK188.out 2).trans rfl; have hcz105_3 : wc.cell? ⟨gb188,3,none⟩ = some (u189003) := (za BK188.out 3).trans rfl; have hcz105_4 : wc.cell? ⟨gb188,4,none⟩ = some (u189004) := (za BK188.out 4).trans rfl; have hfz105_0 := zh BK188.out 0; have hfz105_1 := zh BK188.out 1; have hfz105_2 := zh BK188.out 2; have hfz105_3 := zh BK188.out 3; have hfz105_4 := zh BK188.out 4; have hnb106 := NB137_136.out; have hnc106 := NB136_137.out; have hcz107_0 : wc.cell? ⟨gb137,0,none⟩ = some (.int .i64 0) := (za BK137.out 0).trans rfl; have hcz107_1 : wc.cell? ⟨gb137,1,none⟩ = some (.int .i64 0) := (za BK137.out 1).trans rfl; have hcz107_2 : wc.cell? ⟨gb137,2,none⟩ = some (.string (⟨#[]⟩ : ByteArray)) := (za BK137.out 2).trans rfl; have hcz107_3 : wc.cell? ⟨gb137,3,none⟩ = some (.slice none 0 0) := (za BK137.out 3).trans rfl; have hcz107_4 : wc.cell? ⟨gb137,4,none⟩ = some (.slice none 0 0) := (za BK137.out 4).trans rfl; have hfz107_0 := zh BK137.out 0; have hfz107_1 := zh BK137.out 1; have hfz107_2 := zh BK137.out 2; have hfz107_3 := zh BK137.out 3; have hfz107_4 := zh BK137.out 4; obtain ⟨Ao108,co108,eo108⟩ := Kd.R_slice HO_189003.out; subst eo108; obtain ⟨Ao109,co109,eo109⟩ := Kd.N_slice HO_189004.out; subst eo109
           go_wp2
           refine bodyPost_ret (results_cell_row rfl _ _ gb137 25 #[.int .i64 x189000_1, .int .i64 x189001_1, .string x189002_1, .slice Ao108 x189003_1.length co108, .slice Ao109 x189004_1.length co109] (0,0) _ rfl (by (with_reducible repeat (first | refine zg ?_ _ | refine zk ?_ | refine ze ?_ _)); refine yb (cs := #[.int .i64 x189000_1, .int .i64 x189001_1, .string x189002_1, .slice Ao108 x189003_1.length co108, .slice none 0 0]) ?_ 4 _ rfl; (with_reducible repeat (first | refine zg ?_ _ | refine zk ?_ | refine ze ?_ _)); refine yb (cs := #[.int .i64 x189000_1, .int .i64 x189001_1, .string x189002_1, .slice none 0 0, .slice none 0 0]) ?_ 3 _ rfl; (with_reducible repeat (first | refine zg ?_ _ | refine zk ?_ | refine ze ?_ _)); refine yb (cs := #[.int .i64 x189000_1, .int .i64 x189001_1, .string (⟨#[]⟩ : ByteArray), .slice none 0 0, .slice none 0 0]) ?_ 2 _ rfl; (with_reducible repeat (first | refine zg ?_ _ | refine zk ?_ | refine ze ?_ _)); refine yb (cs := #[.int .i64 x189000_1, .int .i64 0, .string (⟨#[]⟩ : ByteArray), .slice none 0 0, .slice none 0 0]) ?_ 1 _ rfl; (with_reducible repeat (first | refine zg ?_ _ | refine zk ?_ | refine ze ?_ _)); refine yb (cs := #[.int .i64 0, .int .i64 0, .string (⟨#[]⟩ : ByteArray), .slice none 0 0, .slice none 0 0]) ?_ 0 _ rfl; (with_reducible repeat (first | refine zg ?_ _ | refine zk ?_ | refine ze ?_ _)); exact BK137.out) Tryz.underlying25 rfl (by kernel_rfl)) rfl ?_; exact ⟨_, _,by first | rfl | (simp [zz,zw] <;> rfl) | (simp [*, zz,zw] <;> rfl),by (with_reducible repeat (first | apply Kd.R_alloc | apply Kd.R_drewN | apply Kd.R_drew)); exact Kd.R_mono (Kd.R_far (p := ⟨gb137,4,none⟩) (Kd.R_far (p := ⟨gb137,3,none⟩) (Kd.R_far (p := ⟨gb137,2,none⟩) (Kd.R_far (p := ⟨gb137,1,none⟩) (Kd.R_far (p := ⟨gb137,0,none⟩) (Kd.R_types HO_189003.out BK137.out (by decide)) (fun _ hk => hk.2) (.int .i64 x189000_1)) (fun _ hk => hk.2) (.int .i64 x189001_1)) (fun _ hk => hk.2) (.string x189002_1)) (fun _ hk => hk.2) (.slice Ao108 x189003_1.length co108)) (fun _ hk => hk.2) (.slice Ao109 x189004_1.length co109)) (fun _ hk => hk.1),by (with_reducible repeat (first | apply Kd.N_alloc | apply Kd.N_drewN | apply Kd.N_drew)); exact Kd.N_mono (Kd.N_far (p := ⟨gb137,4,none⟩) (Kd.N_far (p := ⟨gb137,3,none⟩) (Kd.N_far (p := ⟨gb137,2,none⟩) (Kd.N_far (p := ⟨gb137,1,none⟩) (Kd.N_far (p := ⟨gb137,0,none⟩) (Kd.N_mono HO_189004.out (fun k_ hk => (⟨hk,hk.2.2.2.1⟩ : _ ∧ k_ ≠ gb137))) (fun _ hk => hk.2) (.int .i64 x189000_1)) (fun _ hk => hk.2) (.int .i64 x189001_1)) (fun _ hk => hk.2) (.string x189002_1)) (fun _ hk => hk.2) (.slice Ao108 x189003_1.length co108)) (fun _ hk => hk.2) (.slice Ao109 x189004_1.length co109)) (fun _ hk => ⟨hk.1.1,hk.1.2.1⟩),by repeat (first | (with_reducible first | exact HB.out | apply zb | apply zc | apply zl | refine zj ?_ GE136.out | refine zj ?_ GE137.out | refine zj ?_ GE188.out) | exact HB.out)⟩
     ·rw [if_neg c62] at H; have c62b0 : (a0_0 == 5) = false := beq_eq_false_iff_ne.mpr c62; have c62b1 : (a0_0 != 5) = true := bne_iff_ne.mpr c62; simp only [Option.some.injEq,Prod.mk.injEq] at H; obtain ⟨rfl,rfl,rfl,rfl,rfl⟩ := H
      go_enter Tryz.func5,Tryz.ntmps5
      go_wp2_with (first | ((with_reducible refine yq (N := 1) rfl ?_); (try (refine yz (by rfl) ?_; dsimp only)); refine yp ?hg (N := 1) ?hd (cs := #[.int .i64 a0_0, .int .i64 a0_1, .string a0_2, .slice A0_3 l0_3.length c0_3, .slice A0_4 l0_4.length c0_4]) (t := 25) ?hr ?_; (case hd => rfl); (case hg => rfl); (case hr => first | (go_simp; done) | (go_simp; rfl)); intro gb136 hg w110 hbox hb; have n0_ := aM (zv (by repeat (first | (with_reducible first | exact HB.out | apply zb | apply zc | apply zl) | exact HB.out)) hb); have n1_ := aM (hbox); have n2_ := aM ((by rw [hg]; exact (zo (by repeat (first | (with_reducible first | exact HB.out | apply zb | apply zc | apply zl) | exact HB.out))) : w.heap.size ≤ gb136)); have n3_ := aM ((by rw [hg]; exact (zo (by repeat (first | (with_reducible first | exact HB.out | apply zb | apply zc | apply zl) | exact HB.out))) : w.heap.size ≤ gb136)); clear HB; have HB := n0_; have BK136 := n1_; have GW136 := n2_; have GE136 := n3_; clear n0_ n1_ n2_ n3_; clear hb hbox hg) | ((with_reducible refine yq (N := 2) rfl ?_); (try (refine yz (by rfl) ?_; dsimp only)); refine yp ?hg (N := 2) ?hd (cs := #[.int .i64 0, .int .i64 0, .string (⟨#[]⟩ : ByteArray), .slice none 0 0, .slice none 0 0]) (t := 25) ?hr ?_; (case hd => rfl); (case hg => rfl); (case hr => first | (go_simp; done) | (go_simp; rfl)); intro gb137 hg w111 hbox hb; have n0_ := aM (ya (g := gb136) (o := .cells #[.int .i64 a0_0, .int .i64 a0_1, .string a0_2, .slice A0_3 l0_3.length c0_3, .slice A0_4 l0_4.length c0_4] 25 (0,0)) (by (with_reducible repeat (first | refine zg ?_ _ | refine zk ?_ | refine ze ?_ _)); exact BK136.out) hb); have n1_ := aM (zv (by repeat (first | (with_reducible first | exact HB.out | apply zb | apply zc | apply zl | refine zj ?_ GE136.out) | exact HB.out)) hb); have n2_ := aM (hbox); have n3_ := aM ((by rw [hg]; exact (zo (by repeat (first | (with_reducible first | exact HB.out | apply zb | apply zc | apply zl | refine zj ?_ GE136.out) | exact HB.out))) : w.heap.size ≤ gb137)); have n4_ := aM ((by rw [hg]; exact (zo (by repeat (first | (with_reducible first | exact HB.out | apply zb | apply zc | apply zl | refine zj ?_ GE136.out) | exact HB.out))) : w.heap.size ≤ gb137)); have n5_ := aM ((by rw [hg]; exact Nat.ne_of_lt (yt (g := gb136) (o := .cells #[.int .i64 a0_0, .int .i64 a0_1, .string a0_2, .slice A0_3 l0_3.length c0_3, .slice A0_4 l0_4.length c0_4] 25 (0,0)) (by (with_reducible repeat (first | refine zg ?_ _ | refine zk ?_ | refine ze ?_ _)); exact BK136.out)) : gb136 ≠ gb137)); have n6_ := aM ((by rw [hg]; exact Nat.ne_of_gt (yt (g := gb136) (o := .cells #[.int .i64 a0_0, .int .i64 a0_1, .string a0_2, .slice A0_3 l0_3.length c0_3, .slice A0_4 l0_4.length c0_4] 25 (0,0)) (by (with_reducible repeat (first | refine zg ?_ _ | refine zk ?_ | refine ze ?_ _)); exact BK136.out)) : gb137 ≠ gb136)); clear BK136; clear HB; have BK136 := n0_; have HB := n1_; have BK137 := n2_; have GW137 := n3_; have GE137 := n4_; have NB136_137 := n5_; have NB137_136 := n6_; clear n0_ n1_ n2_ n3_ n4_ n5_ n6_; clear hb hbox hg; have hnb112 := NB136_137.out; have hnc112 := NB137_136.out; have hcz113_0 : w111.cell? ⟨gb136,0,none⟩ = some (.int .i64 a0_0) := (za BK136.out 0).trans rfl; have hcz113_1 : w111.cell? ⟨gb136,1,none⟩ = some (.int .i64 a0_1) := (za BK136.out 1).trans rfl; have hcz113_2 : w111.cell? ⟨gb136,2,none⟩ = some (.string a0_2) := (za BK136.out 2).trans rfl; have hcz113_3 : w111.cell? ⟨gb136,3,none⟩ = some (.slice A0_3 l0_3.length c0_3) := (za BK136.out 3).trans rfl; have hcz113_4 : w111.cell? ⟨gb136,4,none⟩ = some (.slice A0_4 l0_4.length c0_4) := (za BK136.out 4).trans rfl; have hfz113_0 := zh BK136.out 0; have hfz113_1 := zh BK136.out 1; have hfz113_2 := zh BK136.out 2; have hfz113_3 := zh BK136.out 3; have hfz113_4 := zh BK136.out 4; have hcz114_0 : w111.cell? ⟨gb137,0,none⟩ = some (.int .i64 0) := (za BK137.out 0).trans rfl; have hcz114_1 : w111.cell? ⟨gb137,1,none⟩ = some (.int .i64 0) := (za BK137.out 1).trans rfl; have hcz114_2 : w111.cell? ⟨gb137,2,none⟩ = some (.string (⟨#[]⟩ : ByteArray)) := (za BK137.out 2).trans rfl; have hcz114_3 : w111.cell? ⟨gb137,3,none⟩ = some (.slice none 0 0) := (za BK137.out 3).trans rfl; have hcz114_4 : w111.cell? ⟨gb137,4,none⟩ = some (.slice none 0 0) := (za BK137.out 4).trans rfl; have hfz114_0 := zh BK137.out 0; have hfz114_1 := zh BK137.out 1; have hfz114_2 := zh BK137.out 2; have hfz114_3 := zh BK137.out 3; have hfz114_4 := zh BK137.out 4))
      refine bodyPost_ret (results_cell_row rfl _ _ gb137 25 #[.int .i64 0, .int .i64 0, .string (⟨#[]⟩ : ByteArray), .slice none 0 0, .slice none 0 0] (0,0) _ rfl (by (with_reducible repeat (first | refine zg ?_ _ | refine zk ?_ | refine ze ?_ _)); refine yb (cs := #[.int .i64 0, .int .i64 0, .string (⟨#[]⟩ : ByteArray), .slice none 0 0, .slice none 0 0]) ?_ 4 _ rfl; (with_reducible repeat (first | refine zg ?_ _ | refine zk ?_ | refine ze ?_ _)); refine yb (cs := #[.int .i64 0, .int .i64 0, .string (⟨#[]⟩ : ByteArray), .slice none 0 0, .slice none 0 0]) ?_ 3 _ rfl; (with_reducible repeat (first | refine zg ?_ _ | refine zk ?_ | refine ze ?_ _)); refine yb (cs := #[.int .i64 0, .int .i64 0, .string (⟨#[]⟩ : ByteArray), .slice none 0 0, .slice none 0 0]) ?_ 2 _ rfl; (with_reducible repeat (first | refine zg ?_ _ | refine zk ?_ | refine ze ?_ _)); refine yb (cs := #[.int .i64 0, .int .i64 0, .string (⟨#[]⟩ : ByteArray), .slice none 0 0, .slice none 0 0]) ?_ 1 _ rfl; (with_reducible repeat (first | refine zg ?_ _ | refine zk ?_ | refine ze ?_ _)); refine yb (cs := #[.int .i64 0, .int .i64 0, .string (⟨#[]⟩ : ByteArray), .slice none 0 0, .slice none 0 0]) ?_ 0 _ rfl; (with_reducible repeat (first | refine zg ?_ _ | refine zk ?_ | refine ze ?_ _)); exact BK137.out) Tryz.underlying25 rfl (by kernel_rfl)) rfl ?_; exact ⟨_, _,by first | rfl | (simp [zz,zw] <;> rfl) | (simp [*, zz,zw] <;> rfl),by first | exact Kd.R_nil _ _ _ _ _ | exact Kd.N_nil _ _ _ _ _ | exact Kd.V_nil _ _ _ _ _ | exact Kd.Q_nil _ _ _ _ _ | exact Kd.S_nil _ _ _ _ _,by first | exact Kd.R_nil _ _ _ _ _ | exact Kd.N_nil _ _ _ _ _ | exact Kd.V_nil _ _ _ _ _ | exact Kd.Q_nil _ _ _ _ _ | exact Kd.S_nil _ _ _ _ _,by repeat (first | (with_reducible first | exact HB.out | apply zb | apply zc | apply zl | refine zj ?_ GE136.out | refine zj ?_ GE137.out) | exact HB.out)⟩
end Go.Proofs.YtnmhjndjfblebaaGreatDoor.PS
