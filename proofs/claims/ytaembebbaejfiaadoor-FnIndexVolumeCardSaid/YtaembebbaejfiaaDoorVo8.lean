/- Parts of the proof, laid together: QSpecPartMount, PureMount, Shelf, At, QImplIndexVolume, QLawsPartIndex, QLawsFnIndexVolume, LawVolume, RowKit, DTabsV, ValArg. -/
import Derived.Test.YtaembebbaejfiaaDoorVo3
import Derived.Test.YtaembebbaejfiaaDoorVo6
import Derived.Test.YtaembebbaejfiaaDoorVo7
import Derived.Shelf.Strings.Builder1
import Derived.Shelf.Strings.Builder2
import Derived.Shelf.Strings.OnBuilder
import Derived.Shelf.Small.Bits
import Derived.Shelf.Small.Wraps
import Derived.Shelf.Strconv.Itoa0
import Derived.Shelf.Strconv.Itoa1
import Derived.Shelf.LaysM
import Derived.Shelf.Strconv.Itoa2
import Derived.Shelf.Strconv.Itoa3
import Derived.Shelf.Strings.Prefix
import Derived.Shelf.Unicode.Props
import Derived.Shelf.Unicode.DecodeSlow
import Derived.Shelf.Unicode.Is16White
import Derived.Shelf.Unicode.IsSpaceAny
import Derived.Shelf.Unicode.Is16Any
import Derived.Shelf.Unicode.Is32Any
import Derived.Shelf.Unicode.ExclAny
import Derived.Shelf.Unicode.PredsAny
import Derived.Test.YtaembebbaejfiaaDoorProg
import Derived.Test.YtaembebbaejfiaaDoorVo2
import Derived.Test.YtaembebbaejfiaaDoorVo5
import Derived.Test.YtaembebbaejfiaaDoorRows
import Derived.ProofKit
import Derived.OpenShut
import Derived.ShutString
import Derived.ChangeOld
import Derived.Below
import Derived.SizedLaws
import Derived.SliceStrings
import Derived.Test.YtaembebbaejfiaaDoorCards
import Derived.PinnedBridge
namespace Go.Proofs.YtaembebbaejfiaaDoor.PS
open Go.RowKit Go.Proofs.YtaembebbaejfiaaDoorW.PrintWords Go.Proofs.YtaembebbaejfiaaDoorW.PrintLast Go.Proofs.YtaembebbaejfiaaDoorW.PrintMore
attribute [local go_sem] max2_int min2_int max_two min_two max_three min_three max_four min_four 
set_option linter.unusedVariables false
set_option linter.unusedSimpArgs false
def spec_PartMount.f (k : Nat) (a0_0 : Int) (a0_1 : Int) (a0_2 : ByteArray) (l0_3 : List ByteArray) (l0_4 : List (S32)) : Option (Bool) := (spec_L.f (([(⟨a0_0, a0_1, a0_2, l0_3, l0_4⟩ : S32)] : List (S32)))).bind fun bt333 => ((spec_sayMounts.f k bt333.1 bt333.2.1 bt333.2.2.1 bt333.2.2.2.1 bt333.2.2.2.2).bind fun t342 => (some t342))
set_option maxHeartbeats 8000000 in
set_option maxRecDepth 100000 in
theorem spec_PartMount.calls (k : Nat) (a0_0 : Int) (a0_1 : Int) (a0_2 : ByteArray) (P0_3_ : Nat → Prop) (A0_3 : Option Addr) (c0_3 : Nat) (l0_3 : List ByteArray) (P0_4_ : Nat → Prop) (A0_4 : Option Addr) (c0_4 : Nat) (l0_4 : List (S32)) (r : Bool) (w : World) (hs0_3 : Kd.V Kd.string 9 w w.heap.size (fun k_ => P0_3_ k_) (.slice A0_3 l0_3.length c0_3) l0_3) (hs0_4 : Kd.V k32 32 w w.heap.size (fun k_ => P0_4_ k_) (.slice A0_4 l0_4.length c0_4) l0_4) (h : spec_PartMount.f k a0_0 a0_1 a0_2 l0_3 l0_4 = some r) :
  Calls Tryd.prog 18 #[.agg #[.int .i64 a0_0, .int .i64 a0_1, .string a0_2, .slice A0_3 l0_3.length c0_3, .slice A0_4 l0_4.length c0_4]] w fun e w' => e = .returned (.bool r) ∧ Below w.heap.size w w' := by
 have hu32 := Tryd.underlying32
 have HO0_3 := Aside0.mk (show Kd.V Kd.string 9 w w.heap.size (fun k_ => ((P0_3_ k_ ∨ P0_4_ k_) ∨ w.heap.size ≤ k_)) (.slice A0_3 l0_3.length c0_3) l0_3 from Kd.V_mono hs0_3 (fun k_ hk => .inl (.inl hk)))
 have HO0_4 := Aside0.mk (show Kd.V k32 32 w w.heap.size (fun k_ => ((P0_3_ k_ ∨ P0_4_ k_) ∨ w.heap.size ≤ k_)) (.slice A0_4 l0_4.length c0_4) l0_4 from Kd.V_mono hs0_4 (fun k_ hk => .inl (.inr hk)))
 have HB := Aside0.mk (Below.refl w.heap.size w)
 have H : ((spec_L.f (([(⟨a0_0, a0_1, a0_2, l0_3, l0_4⟩ : S32)] : List (S32)))).bind fun bt333 => ((spec_sayMounts.f k bt333.1 bt333.2.1 bt333.2.2.1 bt333.2.2.2.1 bt333.2.2.2.2).bind fun t342 => (some t342))) = some r := h
 clear h
 obtain ⟨y330, hy330⟩ : ∃ y_ : List (S32), y_ = (([(⟨a0_0, a0_1, a0_2, l0_3, l0_4⟩ : S32)] : List (S32))) := ⟨_, rfl⟩
 replace H : ((spec_L.f y330).bind fun bt333 => ((spec_sayMounts.f k bt333.1 bt333.2.1 bt333.2.2.1 bt333.2.2.2.1 bt333.2.2.2.2).bind fun t342 => (some t342))) = some r := by first | (rw [hy330]; with_reducible exact H) | (have H2_ := (Option.bind_some _ _).symm.trans H; rw [hy330]; with_reducible exact H2_) | (have H2_ := (Option.bind_some _ _).symm.trans H; with_reducible exact H2_) | with_reducible exact H | (rw [hy330]; exact H) | exact H
 have Ny330 := Aside0.mk hy330
 clear hy330
 replace H := Option.bind_eq_some_iff.mp H
 obtain ⟨⟨t333, t334, t335, t336, t339⟩, A20, H⟩ := H
 replace H : ((spec_sayMounts.f k t333 t334 t335 t336 t339).bind fun t342 => (some t342)) = some r := H
 have A2 := Aside0.mk A20
 clear A20
 replace H := Option.bind_eq_some_iff.mp H
 obtain ⟨t342, A30, H⟩ := H
 replace H : (some t342) = some r := H
 have A3 := Aside0.mk A30
 clear A30
 obtain rfl := Option.some.inj H
 go_enter Tryd.func18, Tryd.ntmps18
 go_wp2_with (first | ((with_reducible refine gate_dst (N := 1) rfl ?_); refine box_event ?hg (N := 1) ?hd (cs := #[.int .i64 a0_0, .int .i64 a0_1, .string a0_2, .slice A0_3 l0_3.length c0_3, .slice A0_4 l0_4.length c0_4]) (t := 32) ?hr ?_; (case hd => rfl); (case hg => rfl); (case hr => first | (go_simp; done) | (go_simp; rfl)); intro gb329 hg w4 hbox hb; have n0_ := Aside0.mk (Kd.V_below (Kd.V_elderB (by (with_reducible repeat (first | apply Kd.V_alloc | apply Kd.V_drewN | apply Kd.V_drew)); exact HO0_3.out) gb329 (Nat.le_of_eq hg.symm)) hb); have n1_ := Aside0.mk (Kd.V_below (Kd.V_elderB (by (with_reducible repeat (first | apply Kd.V_alloc | apply Kd.V_drewN | apply Kd.V_drew)); exact HO0_4.out) gb329 (Nat.le_of_eq hg.symm)) hb); have n2_ := Aside0.mk (below_step (by repeat (first | (with_reducible first | exact HB.out | apply below_alloc | apply pw_below_drewN | apply below_drew1) | exact HB.out)) hb); have n3_ := Aside0.mk (hbox); have n4_ := Aside0.mk ((by rw [hg]; exact (below_size (by repeat (first | (with_reducible first | exact HB.out | apply below_alloc | apply pw_below_drewN | apply below_drew1) | exact HB.out))) : w.heap.size ≤ gb329)); have n5_ := Aside0.mk ((by rw [hg]; exact (below_size (by repeat (first | (with_reducible first | exact HB.out | apply below_alloc | apply pw_below_drewN | apply below_drew1) | exact HB.out))) : w.heap.size ≤ gb329)); clear HO0_3; clear HO0_4; clear HB; have HO0_3 := n0_; have HO0_4 := n1_; have HB := n2_; have BK329 := n3_; have GW329 := n4_; have GE329 := n5_; clear n0_ n1_ n2_ n3_ n4_ n5_; clear hb hbox hg; have hcz5_0 : w4.cell? ⟨gb329, 0, none⟩ = some (.int .i64 a0_0) := (blk_cell BK329.out 0).trans rfl; have hcz5_1 : w4.cell? ⟨gb329, 1, none⟩ = some (.int .i64 a0_1) := (blk_cell BK329.out 1).trans rfl; have hcz5_2 : w4.cell? ⟨gb329, 2, none⟩ = some (.string a0_2) := (blk_cell BK329.out 2).trans rfl; have hcz5_3 : w4.cell? ⟨gb329, 3, none⟩ = some (.slice A0_3 l0_3.length c0_3) := (blk_cell BK329.out 3).trans rfl; have hcz5_4 : w4.cell? ⟨gb329, 4, none⟩ = some (.slice A0_4 l0_4.length c0_4) := (blk_cell BK329.out 4).trans rfl; have hfz5_0 := blk_frozen BK329.out 0; have hfz5_1 := blk_frozen BK329.out 1; have hfz5_2 := blk_frozen BK329.out 2; have hfz5_3 := blk_frozen BK329.out 3; have hfz5_4 := blk_frozen BK329.out 4) | ((with_reducible refine gate_dst (N := 4) rfl ?_); refine Kd.N_lit k32 _ 32 ?hg (N' := 4) ?hd (xs := ([(⟨a0_0, a0_1, a0_2, l0_3, l0_4⟩ : S32)] : List (S32))) (inner := [.int .i64 a0_0, .int .i64 a0_1, .string a0_2, .slice A0_3 l0_3.length c0_3, .slice A0_4 l0_4.length c0_4]) (ok := (fun k_ => ((P0_3_ k_ ∨ P0_4_ k_) ∨ w.heap.size ≤ k_) ∧ k_ ≠ gb329)) (okp := (fun k_ => ((P0_3_ k_ ∨ P0_4_ k_) ∨ w.heap.size ≤ k_) ∧ k_ ≠ gb329)) ?hr ?hp (fun _ hk => hk) ((show ∀ k_, w4.heap.size ≤ k_ → (fun k_ => ((P0_3_ k_ ∨ P0_4_ k_) ∨ w.heap.size ≤ k_) ∧ k_ ≠ gb329) k_ from fun k_ hk => ⟨(.inr (Nat.le_trans (below_size (by repeat (first | (with_reducible first | exact HB.out | apply below_alloc | apply pw_below_drewN | apply below_drew1 | refine below_set ?_ GE329.out) | exact HB.out))) hk)), Kd.freshB (g := gb329) (o := .cells #[.int .i64 a0_0, .int .i64 a0_1, .string a0_2, .slice A0_3 l0_3.length c0_3, .slice A0_4 l0_4.length c0_4] 32 (0, 0)) (by (with_reducible repeat (first | refine blk_drewN ?_ _ | refine blk_drew ?_ | refine blk_alloc ?_ _)); exact BK329.out) k_ hk⟩) _ (Nat.le_refl _)) (Below.refl _ _) (Nat.le_refl _) (by simp) ?_; (case hd => rfl); (case hg => rfl); (case hr => first | (go_simp; done) | (go_simp; rfl)); (case hp => exact (Reps.c5 (show Kd.FK k32 _ _ (⟨a0_0, a0_1, a0_2, l0_3, l0_4⟩ : S32) [.int .i64 a0_0, .int .i64 a0_1, .string a0_2, .slice A0_3 l0_3.length c0_3, .slice A0_4 l0_4.length c0_4] from (k32_mkF _ _ (⟨a0_0, a0_1, a0_2, l0_3, l0_4⟩ : S32) (Kd.V_reads' (Kd.V_mono (ok' := (fun k_ => ((P0_3_ k_ ∨ P0_4_ k_) ∨ w.heap.size ≤ k_) ∧ k_ ≠ gb329)) (HO0_3.out) (fun k_ hk => ⟨hk.1, hk.2⟩))).2.1 (Kd.V_F (Kd.V_mono (ok' := (fun k_ => ((P0_3_ k_ ∨ P0_4_ k_) ∨ w.heap.size ≤ k_) ∧ k_ ≠ gb329)) (HO0_3.out) (fun k_ hk => ⟨hk.1, hk.2⟩))) (Kd.V_reads' (Kd.V_mono (ok' := (fun k_ => ((P0_3_ k_ ∨ P0_4_ k_) ∨ w.heap.size ≤ k_) ∧ k_ ≠ gb329)) (HO0_4.out) (fun k_ hk => ⟨hk.1, hk.2⟩))).2.1 (Kd.V_F (Kd.V_mono (ok' := (fun k_ => ((P0_3_ k_ ∨ P0_4_ k_) ∨ w.heap.size ≤ k_) ∧ k_ ≠ gb329)) (HO0_4.out) (fun k_ hk => ⟨hk.1, hk.2⟩))))) (Reps.none _ _))); intro v331 w6 ho7 hb hg_ hnew_; clear hg_ hnew_; (first | rw [← Ny330.out] at ho7 | (simp only [Int.reduceToNat] at ho7; rw [← Ny330.out] at ho7)); have n0_ := Aside0.mk (Kd.V_elder' (by (with_reducible repeat (first | apply Kd.V_alloc | apply Kd.V_drewN | apply Kd.V_drew)); exact HO0_3.out) (Kd.N_base ho7) hb); have n1_ := Aside0.mk (Kd.V_elder' (by (with_reducible repeat (first | apply Kd.V_alloc | apply Kd.V_drewN | apply Kd.V_drew)); exact HO0_4.out) (Kd.N_base ho7) hb); have n2_ := Aside0.mk (Kd.N_lower ho7 (below_size (by repeat (first | (with_reducible first | exact HB.out | apply below_alloc | apply pw_below_drewN | apply below_drew1 | refine below_set ?_ GE329.out) | exact HB.out)))); have n3_ := Aside0.mk (blk_below (g := gb329) (o := .cells #[.int .i64 a0_0, .int .i64 a0_1, .string a0_2, .slice A0_3 l0_3.length c0_3, .slice A0_4 l0_4.length c0_4] 32 (0, 0)) (by (with_reducible repeat (first | refine blk_drewN ?_ _ | refine blk_drew ?_ | refine blk_alloc ?_ _)); exact BK329.out) hb); have n4_ := Aside0.mk (below_step (by repeat (first | (with_reducible first | exact HB.out | apply below_alloc | apply pw_below_drewN | apply below_drew1 | refine below_set ?_ GE329.out) | exact HB.out)) hb); clear HO0_3; clear HO0_4; clear BK329; clear HB; have HO0_3 := n0_; have HO0_4 := n1_; have HO332 := n2_; have BK329 := n3_; have HB := n4_; clear n0_ n1_ n2_ n3_ n4_; clear hb ho7; obtain ⟨Ao8, co8, eo8⟩ := Kd.N_slice HO332.out; subst eo8) | ((with_reducible refine gate_callee (f := 37) rfl ?_); refine goesL_ (some 5) rfl rfl Tryd.func37 (by kernel_rfl) rfl #[.slice Ao8 y330.length co8] rfl (by (try simp only [List.map_toArray, List.map_cons, List.map_nil]); first | done | rfl | (simp only [List.length_drop, List.length_take]; rfl)) ?_; (with_reducible refine (spec_L.calls (fun k_ => (((P0_3_ k_ ∨ P0_4_ k_) ∨ w.heap.size ≤ k_) ∧ k_ ≠ gb329)) _ _ y330 t333 t334 t335 t336 t339 _ ?side1 A2.out).mono ?_); (case side1 => exact Kd.N_V (HO332.out)); rintro e w9 ⟨v337, v340, rfl, ho0, ho1, hb⟩; refine ⟨_, rfl, ?_⟩; have n0_ := Aside0.mk (Kd.V_mono (Kd.V_told (Kd.V_told (Kd.V_old (by (with_reducible repeat (first | apply Kd.V_alloc | apply Kd.V_drewN | apply Kd.V_drew)); exact HO0_3.out) hb) (Kd.R_base ho0)) (Kd.N_base ho1)) (fun _ h_ => h_.1)); have n1_ := Aside0.mk (Kd.V_mono (Kd.V_told (Kd.V_told (Kd.V_old (by (with_reducible repeat (first | apply Kd.V_alloc | apply Kd.V_drewN | apply Kd.V_drew)); exact HO0_4.out) hb) (Kd.R_base ho0)) (Kd.N_base ho1)) (fun _ h_ => h_.1)); have n2_ := Aside0.mk (Kd.N_mono (Kd.N_told (Kd.N_told (Kd.N_old (by (with_reducible repeat (first | apply Kd.N_alloc | apply Kd.N_drewN | apply Kd.N_drew)); exact HO332.out) hb) (Kd.R_base ho0)) (Kd.N_base ho1)) (fun _ h_ => h_.1)); have n3_ := Aside0.mk (Kd.R_lower (Kd.R_newM (M := fun k_ => (w.heap.size ≤ k_)) (Kd.R_mono (ok' := fun k_ => True) ho0 (fun _ hk_ => trivial)) (below_size (by repeat (first | (with_reducible first | exact HB.out | apply below_alloc | apply pw_below_drewN | apply below_drew1 | refine below_set ?_ GE329.out) | exact HB.out))) (fun k_ h_ => h_)) (below_size (by repeat (first | (with_reducible first | exact HB.out | apply below_alloc | apply pw_below_drewN | apply below_drew1 | refine below_set ?_ GE329.out) | exact HB.out)))); have n4_ := Aside0.mk (Kd.N_lower (Kd.N_mono (ok' := fun k_ => ((P0_3_ k_ ∨ P0_4_ k_) ∨ w.heap.size ≤ k_) ∧ some k_ ≠ (v337 : Value).ownBlock ∧ k_ ≠ gb329) ho1 (fun k_ hk_ => ⟨Or.elim hk_.1 (fun hs_ => hs_.1) (fun hn_ => (.inr (Nat.le_trans (below_size (by repeat (first | (with_reducible first | exact HB.out | apply below_alloc | apply pw_below_drewN | apply below_drew1 | refine below_set ?_ GE329.out) | exact HB.out))) hn_))), hk_.2, Or.elim hk_.1 (fun hs_ => hs_.2) (fun hn_ => (Kd.freshB (g := gb329) (o := .cells #[.int .i64 a0_0, .int .i64 a0_1, .string a0_2, .slice A0_3 l0_3.length c0_3, .slice A0_4 l0_4.length c0_4] 32 (0, 0)) (by (with_reducible repeat (first | refine blk_drewN ?_ _ | refine blk_drew ?_ | refine blk_alloc ?_ _)); exact BK329.out) k_ hn_))⟩)) (below_size (by repeat (first | (with_reducible first | exact HB.out | apply below_alloc | apply pw_below_drewN | apply below_drew1 | refine below_set ?_ GE329.out) | exact HB.out)))); have n5_ := Aside0.mk (blk_below (g := gb329) (o := .cells #[.int .i64 a0_0, .int .i64 a0_1, .string a0_2, .slice A0_3 l0_3.length c0_3, .slice A0_4 l0_4.length c0_4] 32 (0, 0)) (by (with_reducible repeat (first | refine blk_drewN ?_ _ | refine blk_drew ?_ | refine blk_alloc ?_ _)); exact BK329.out) hb); have n6_ := Aside0.mk (below_step (by repeat (first | (with_reducible first | exact HB.out | apply below_alloc | apply pw_below_drewN | apply below_drew1 | refine below_set ?_ GE329.out) | exact HB.out)) hb); clear HO0_3; clear HO0_4; clear HO332; clear BK329; clear HB; have HO0_3 := n0_; have HO0_4 := n1_; have HO332 := n2_; have HO338 := n3_; have HO341 := n4_; have BK329 := n5_; have HB := n6_; clear n0_ n1_ n2_ n3_ n4_ n5_ n6_; (try clear hb); (try clear hb2); (try clear hk); (try clear hi); (try clear ho0); (try clear ho1); obtain ⟨Ao10, co10, eo10⟩ := Kd.R_slice HO338.out; subst eo10; obtain ⟨Ao11, co11, eo11⟩ := Kd.N_slice HO341.out; subst eo11) | ((with_reducible refine gate_callee (f := 43) rfl ?_); refine goesL_ (some 6) rfl rfl Tryd.func43 (by kernel_rfl) rfl #[.agg #[.int .i64 t333, .int .i64 t334, .string t335, .slice Ao10 t336.length co10, .slice Ao11 t339.length co11]] rfl (by (try simp only [List.map_toArray, List.map_cons, List.map_nil]); first | done | rfl | (simp only [List.length_drop, List.length_take]; rfl)) ?_; (with_reducible refine (spec_sayMounts.calls k t333 t334 t335 _ _ t336 _ _ t339 t342 _ ?side1 ?side2 ?side3 ?side4 A3.out).mono ?_); (case side1 => repeat (first | exact (Kd.R_reads' HO338.out).2.2 | (with_reducible refine Kd.C_alloc ?_ _) | (with_reducible refine Kd.C_drewN ?_ _) | (with_reducible refine Kd.C_drew ?_))); (case side2 => exact (Kd.R_reads' HO338.out).2.1); (case side3 => repeat (first | exact (Kd.N_reads' HO341.out).2.2 | (with_reducible refine Kd.C_alloc ?_ _) | (with_reducible refine Kd.C_drewN ?_ _) | (with_reducible refine Kd.C_drew ?_))); (case side4 => exact (Kd.N_reads' HO341.out).2.1); rintro e w12 ⟨rfl, hb⟩; refine ⟨_, rfl, ?_⟩; have n0_ := Aside0.mk (Kd.V_below (by (with_reducible repeat (first | apply Kd.V_alloc | apply Kd.V_drewN | apply Kd.V_drew)); exact HO0_3.out) hb); have n1_ := Aside0.mk (Kd.V_below (by (with_reducible repeat (first | apply Kd.V_alloc | apply Kd.V_drewN | apply Kd.V_drew)); exact HO0_4.out) hb); have n2_ := Aside0.mk (Kd.N_below (by (with_reducible repeat (first | apply Kd.N_alloc | apply Kd.N_drewN | apply Kd.N_drew)); exact HO332.out) hb); have n3_ := Aside0.mk (Kd.R_below (by (with_reducible repeat (first | apply Kd.R_alloc | apply Kd.R_drewN | apply Kd.R_drew)); exact HO338.out) hb); have n4_ := Aside0.mk (Kd.N_below (by (with_reducible repeat (first | apply Kd.N_alloc | apply Kd.N_drewN | apply Kd.N_drew)); exact HO341.out) hb); have n5_ := Aside0.mk (blk_below (g := gb329) (o := .cells #[.int .i64 a0_0, .int .i64 a0_1, .string a0_2, .slice A0_3 l0_3.length c0_3, .slice A0_4 l0_4.length c0_4] 32 (0, 0)) (by (with_reducible repeat (first | refine blk_drewN ?_ _ | refine blk_drew ?_ | refine blk_alloc ?_ _)); exact BK329.out) hb); have n6_ := Aside0.mk (below_step (by repeat (first | (with_reducible first | exact HB.out | apply below_alloc | apply pw_below_drewN | apply below_drew1 | refine below_set ?_ GE329.out) | exact HB.out)) hb); clear HO0_3; clear HO0_4; clear HO332; clear HO338; clear HO341; clear BK329; clear HB; have HO0_3 := n0_; have HO0_4 := n1_; have HO332 := n2_; have HO338 := n3_; have HO341 := n4_; have BK329 := n5_; have HB := n6_; clear n0_ n1_ n2_ n3_ n4_ n5_ n6_; (try clear hb); (try clear hb2); (try clear hk); (try clear hi)))
 go_ret
 exact ⟨by first | rfl | (simp [errW_none, errW_some] <;> rfl) | (simp [*, errW_none, errW_some] <;> rfl), by repeat (first | (with_reducible first | exact HB.out | apply below_alloc | apply pw_below_drewN | apply below_drew1 | refine below_set ?_ GE329.out) | exact HB.out)⟩
end Go.Proofs.YtaembebbaejfiaaDoor.PS
namespace Go.Proofs.YtaembebbaejfiaaDoor.Tr
open Go.RowKit Go.Proofs.YtaembebbaejfiaaDoorW.PrintWords Go.Proofs.YtaembebbaejfiaaDoorW.PrintLast Go.Proofs.YtaembebbaejfiaaDoor.Str Go.Proofs.YtaembebbaejfiaaDoor.Kit Go.Proofs.YtaembebbaejfiaaDoor.MapV Go.Proofs.YtaembebbaejfiaaDoor.Frame Go.Proofs.YtaembebbaejfiaaDoor.PS
open Go.Proofs.YtaembebbaejfiaaDoor.Val (place placeI placeB placeI_hit placeI_end)
set_option linter.unusedVariables false
set_option linter.unusedSimpArgs false
theorem ev_sayWord_l (s : BA) (hs : s.size < 4611686018427387904) : ∀ (d i : Nat), i + d = s.size → ∃ b, Ev (fun k => spec_sayWord.l0 k s (i : Int)) b := by
 intro d
 induction d with
 | zero =>
  intro i hi
  refine ⟨_, ev_step (fun k => ?_) (Ev.now (s.toList != ([] : List UInt8)))⟩
  simp only [spec_sayWord.l0]
  rw [if_neg (by omega)]
 | succ d ih =>
  intro i hi
  by_cases h1 : bt s (i : Int) < 33
  ·refine ⟨false, ev_step (fun k => ?_) (Ev.now _)⟩
   simp only [spec_sayWord.l0]
   rw [if_pos (by omega), if_pos (by omega), if_pos h1]
  by_cases h2 : bt s (i : Int) > 126
  ·refine ⟨false, ev_step (fun k => ?_) (Ev.now _)⟩
   simp only [spec_sayWord.l0]
   rw [if_pos (by omega), if_pos (by omega), if_neg h1, if_pos h2]
  obtain ⟨b, hb⟩ := ih (i + 1) (by omega)
  have hin := ev_sayIn (strOfNums ([bt s (i : Int)] : List Int)) ([(⟨#[61]⟩ : ByteArray), (⟨#[36]⟩ : ByteArray), (⟨#[58]⟩ : ByteArray), (⟨#[34]⟩ : ByteArray), (⟨#[39]⟩ : ByteArray), (⟨#[92]⟩ : ByteArray), (⟨#[126]⟩ : ByteArray)] : List ByteArray) (by simp)
  cases hc : inB (strOfNums ([bt s (i : Int)] : List Int)) ([(⟨#[61]⟩ : ByteArray), (⟨#[36]⟩ : ByteArray), (⟨#[58]⟩ : ByteArray), (⟨#[34]⟩ : ByteArray), (⟨#[39]⟩ : ByteArray), (⟨#[92]⟩ : ByteArray), (⟨#[126]⟩ : ByteArray)] : List ByteArray)
  all_goals rw [hc] at hin
  ·refine ⟨b, ev_step (fun k => ?_) (ev_bind (f := fun k t => if t = true then some false else spec_sayWord.l0 k s ((i + 1 : Nat) : Int)) hin hb)⟩
   simp only [spec_sayWord.l0]
   rw [if_pos (by omega), if_pos (by omega), if_neg h1, if_neg h2, wrapS i (by omega)]
  ·refine ⟨false, ev_step (fun k => ?_) (ev_bind (f := fun k t => if t = true then some false else spec_sayWord.l0 k s ((i + 1 : Nat) : Int)) hin (Ev.now _))⟩
   simp only [spec_sayWord.l0]
   rw [if_pos (by omega), if_pos (by omega), if_neg h1, if_neg h2, wrapS i (by omega)]
theorem ev_sayWord (s : BA) (hs : s.size < 4611686018427387904) : ∃ b, Ev (fun k => spec_sayWord.f k s) b := ev_sayWord_l s hs s.size 0 (by omega)
def TextOk (x : VS) : Prop := x.f2.size < 4611686018427387904
theorem ev_sayText (x : VS) (hx : TextOk x) : ∃ b, Ev (fun k => spec_sayText.f k x.f0 x.f1 x.f2 x.f3 x.f4) b ∧ (b = true → x.f0 = 3) := by
 unfold spec_sayText.f
 by_cases h : x.f0 = 3
 ·obtain ⟨b, hb⟩ := ev_sayWord x.f2 hx
  exact ⟨b, Ev.congr (fun k => by rw [if_pos h]) (ev_bind (f := fun _ t => some t) hb (Ev.now _)), fun _ => h⟩
 ·exact ⟨false, ev_now (fun k => by rw [if_neg h]), fun h => by cases h⟩
theorem ev_sayKnown_l (w1 w2 : List BA) (h1 : w1.length < 4611686018427387904) (h2 : w2.length < 4611686018427387904) (x : VS) (hx : InStep x) (ht : ∀ v, v ∈ x.f4 → TextOk v) : ∀ (d i : Nat), i + d = x.f3.length →
  ∃ b, Ev (fun k => spec_sayKnown.l0 k w1 w2 (i : Int) x.f0 x.f1 x.f2 x.f3 x.f4) b ∧ (b = true → x.f0 = 5 ∧ ∀ (j : Nat) (hj : j < x.f3.length) (hv : j < x.f4.length), i ≤ j → inB x.f3[j] w2 = false → x.f4[j].f0 = 3) := by
 intro d
 induction d with
 | zero =>
  intro i hi
  by_cases h5 : x.f0 = 5
  ·refine ⟨decide ((x.f3.length : Int) > 0), ev_step (fun k => ?_) (Ev.now _), fun _ => ⟨h5, fun j hj _ hij => absurd hj (by omega)⟩⟩
   simp only [spec_sayKnown.l0]
   rw [if_neg (by omega), if_pos h5]
  ·refine ⟨false, ev_step (fun k => ?_) (Ev.now _), fun h => by cases h⟩
   simp only [spec_sayKnown.l0]
   rw [if_neg (by omega), if_neg h5]
 | succ d ih =>
  intro i hi
  have hlt : i < x.f3.length := by omega
  have hv : i < x.f4.length := Nat.lt_of_lt_of_le hlt hx.1
  obtain ⟨b, hb, hfact⟩ := ih (i + 1) (by omega)
  obtain ⟨bt, hbt, hbt3⟩ := ev_sayText x.f4[i] (ht _ (List.getElem_mem hv))
  have hin1 := ev_sayIn x.f3[i] w1 h1
  have hin2 := ev_sayIn x.f3[i] w2 h2
  let G2 : Nat → Option Bool := fun k => (spec_sayIn.f k x.f3[i] w2).bind fun t => if t = true then (if x.f4[i].f0 = 1 then spec_sayKnown.l0 k w1 w2 ((i + 1 : Nat) : Int) x.f0 x.f1 x.f2 x.f3 x.f4 else some false) else some false
  have hstep : ∀ k, spec_sayKnown.l0 (k + 1) w1 w2 (i : Int) x.f0 x.f1 x.f2 x.f3 x.f4 = (spec_sayIn.f k x.f3[i] w1).bind fun t => if t = true then ((spec_sayText.f k x.f4[i].f0 x.f4[i].f1 x.f4[i].f2 x.f4[i].f3 x.f4[i].f4).bind fun u => if u = true then spec_sayKnown.l0 k w1 w2 ((i + 1 : Nat) : Int) x.f0 x.f1 x.f2 x.f3 x.f4 else G2 k) else G2 k := by
   intro k
   simp only [spec_sayKnown.l0, G2]
   rw [if_pos (by omega), if_pos (by omega), rdB hlt, wrapS i (by have := hx.2; omega), rdS hv]
   simp only [if_pos (show (i : Int) < (x.f4.length : Int) by omega)]
  have hG2 : ∃ b2, Ev G2 b2 ∧ (b2 = true → b = true ∧ inB x.f3[i] w2 = true) := by
   cases hc : inB x.f3[i] w2
   all_goals rw [hc] at hin2
   ·exact ⟨false, ev_bind hin2 (Ev.now _), fun h => by cases h⟩
   ·by_cases hk : x.f4[i].f0 = 1
    ·exact ⟨b, ev_bind hin2 (Ev.congr (fun k => by rw [if_pos rfl, if_pos hk]) hb), fun h => ⟨h, rfl⟩⟩
    ·exact ⟨false, ev_bind hin2 (ev_now (fun k => by rw [if_pos rfl, if_neg hk])), fun h => by cases h⟩
  obtain ⟨b2, hb2, hb2f⟩ := hG2
  have close2 : b2 = true → x.f0 = 5 ∧ ∀ (j : Nat) (hj : j < x.f3.length) (hv : j < x.f4.length), i ≤ j → inB x.f3[j] w2 = false → x.f4[j].f0 = 3 := by
   intro h
   obtain ⟨hbt, hw⟩ := hb2f h
   obtain ⟨h5, hf⟩ := hfact hbt
   refine ⟨h5, fun j hj hvj hij hno => ?_⟩
   by_cases hji : j = i
   ·subst hji
    rw [hw] at hno
    cases hno
   ·exact hf j hj hvj (by omega) hno
  cases hc1 : inB x.f3[i] w1
  all_goals rw [hc1] at hin1
  ·refine ⟨b2, ev_step hstep (ev_bind hin1 (Ev.congr (fun k => by rw [if_neg (by decide)]) hb2)), close2⟩
  ·cases bt with
   | true =>
    refine ⟨b, ev_step hstep (ev_bind hin1 (Ev.congr (f := fun k => (spec_sayText.f k x.f4[i].f0 x.f4[i].f1 x.f4[i].f2 x.f4[i].f3 x.f4[i].f4).bind fun u => if u = true then spec_sayKnown.l0 k w1 w2 ((i + 1 : Nat) : Int) x.f0 x.f1 x.f2 x.f3 x.f4 else G2 k) (fun k => by rw [if_pos rfl]) (ev_bind hbt (Ev.congr (fun k => by rw [if_pos rfl]) hb)))), fun h => ?_⟩
    obtain ⟨h5, hf⟩ := hfact h
    refine ⟨h5, fun j hj hvj hij hno => ?_⟩
    by_cases hji : j = i
    ·subst hji
     exact hbt3 rfl
    ·exact hf j hj hvj (by omega) hno
   | false =>
    exact ⟨b2, ev_step hstep (ev_bind hin1 (Ev.congr (f := fun k => (spec_sayText.f k x.f4[i].f0 x.f4[i].f1 x.f4[i].f2 x.f4[i].f3 x.f4[i].f4).bind fun u => if u = true then spec_sayKnown.l0 k w1 w2 ((i + 1 : Nat) : Int) x.f0 x.f1 x.f2 x.f3 x.f4 else G2 k) (fun k => by rw [if_pos rfl]) (ev_bind hbt (Ev.congr (fun k => by rw [if_neg (by decide)]) hb2)))), close2⟩
theorem ev_sayKnown (w1 w2 : List BA) (h1 : w1.length < 4611686018427387904) (h2 : w2.length < 4611686018427387904) (x : VS) (hx : InStep x) (ht : ∀ v, v ∈ x.f4 → TextOk v) :
  ∃ b, Ev (fun k => spec_sayKnown.f k x.f0 x.f1 x.f2 x.f3 x.f4 w1 w2) b ∧ (b = true → x.f0 = 5 ∧ ∀ (j : Nat) (hj : j < x.f3.length) (hv : j < x.f4.length), inB x.f3[j] w2 = false → x.f4[j].f0 = 3) := by
 obtain ⟨b, hb, hf⟩ := ev_sayKnown_l w1 w2 h1 h2 x hx ht x.f3.length 0 (by omega)
 exact ⟨b, hb, fun h => ⟨(hf h).1, fun j hj hv => (hf h).2 j hj hv (Nat.zero_le _)⟩⟩
def tgtB : BA := ⟨#[116, 97, 114, 103, 101, 116]⟩
theorem ev_PartMount (x : VS) (hx : InStep x) (ht : ∀ v, v ∈ x.f4 → TextOk v) :
  ∃ b, Ev (fun k => spec_PartMount.f k x.f0 x.f1 x.f2 x.f3 x.f4) b ∧ (b = true → x.f0 = 5 ∧ ∃ v, getV x tgtB = some v ∧ v.f0 = 3) := by
 have hL : ∀ k : Nat, spec_L.f ([x] : List VS) = some (4, 0, (⟨#[]⟩ : ByteArray), ([] : List ByteArray), [x]) := fun _ => by
  unfold spec_L.f
  simp
 have hG := ev_Get x (⟨#[116, 121, 112, 101]⟩ : BA) hx
 obtain ⟨bk, hK, hKf⟩ := ev_sayKnown ([(⟨#[116, 121, 112, 101]⟩ : ByteArray), (⟨#[115, 111, 117, 114, 99, 101]⟩ : ByteArray), (⟨#[116, 97, 114, 103, 101, 116]⟩ : ByteArray)] : List ByteArray) ([(⟨#[114, 101, 97, 100, 95, 111, 110, 108, 121]⟩ : ByteArray)] : List ByteArray) (by simp) (by simp) x hx ht
 have hIn := fun s : BA => ev_sayIn s ([(⟨#[118, 111, 108, 117, 109, 101]⟩ : ByteArray), (⟨#[98, 105, 110, 100]⟩ : ByteArray)] : List ByteArray) (by simp)
 have hT := ev_Has x (⟨#[116, 97, 114, 103, 101, 116]⟩ : BA) hx
 have hS := ev_Has x (⟨#[115, 111, 117, 114, 99, 101]⟩ : BA) hx
 have hend : Ev (fun k => spec_sayMounts.l0 k ((1 : Nat) : Int) 4 0 ⟨#[]⟩ [] [x]) true := by
  refine ev_step (fun k => ?_) (Ev.now _)
  simp only [spec_sayMounts.l0]
  rw [if_neg (by simp), if_pos trivial]
  simp
 let N := spec_sayMounts.l0
 have hst : ∀ k, spec_sayMounts.l0 (k + 1) 0 4 0 ⟨#[]⟩ [] [x] = (spec_Get.f k x.f0 x.f1 x.f2 x.f3 x.f4 (⟨#[116, 121, 112, 101]⟩ : ByteArray)).bind fun bt305 => ((spec_sayKnown.f k x.f0 x.f1 x.f2 x.f3 x.f4 (([(⟨#[116, 121, 112, 101]⟩ : ByteArray), (⟨#[115, 111, 117, 114, 99, 101]⟩ : ByteArray), (⟨#[116, 97, 114, 103, 101, 116]⟩ : ByteArray)] : List ByteArray)) (([(⟨#[114, 101, 97, 100, 95, 111, 110, 108, 121]⟩ : ByteArray)] : List ByteArray))).bind fun t322 => (if t322 = true then (if bt305.2.2.2.2.2 = true then ((spec_sayIn.f k bt305.2.2.1 (([(⟨#[118, 111, 108, 117, 109, 101]⟩ : ByteArray), (⟨#[98, 105, 110, 100]⟩ : ByteArray)] : List ByteArray))).bind fun t326 => (if t326 = true then ((spec_Has.f k x.f0 x.f1 x.f2 x.f3 x.f4 (⟨#[116, 97, 114, 103, 101, 116]⟩ : ByteArray)).bind fun t327 => (if t327 = true then ((spec_Has.f k x.f0 x.f1 x.f2 x.f3 x.f4 (⟨#[115, 111, 117, 114, 99, 101]⟩ : ByteArray)).bind fun t328 => (if t328 = true then (spec_sayMounts.l0 k ((1 : Nat) : Int) 4 0 ⟨#[]⟩ [] [x]) else (some false))) else (some false))) else (some false))) else (some false)) else (some false))) := by
  intro k
  simp only [spec_sayMounts.l0]
  rw [if_pos (by simp), if_pos (by omega)]
  have e : rd_T32 [x] 0 = x := rfl
  have e1 : wrap64 (0 + 1) = ((1 : Nat) : Int) := wrapS 0 (by omega)
  rw [e, e1]
 have hM : ∃ b, Ev (fun k => spec_sayMounts.l0 k 0 4 0 ⟨#[]⟩ [] [x]) b ∧ (b = true → x.f0 = 5 ∧ ∃ v, getV x tgtB = some v ∧ v.f0 = 3) := by
  cases hbk : bk
  ·rw [hbk] at hK
   exact ⟨false, ev_step hst (ev_bind hG (ev_bind hK (ev_now (fun k => by rw [if_neg (by decide)])))), fun h => by cases h⟩
  ·rw [hbk] at hK
   cases hg : (getV x (⟨#[116, 121, 112, 101]⟩ : BA)).isSome
   ·rw [hg] at hG
    exact ⟨false, ev_step hst (ev_bind hG (ev_bind hK (ev_now (fun k => by rw [if_pos rfl, if_neg (show ¬ (false = true) by decide)])))), fun h => by cases h⟩
   ·rw [hg] at hG
    have hI := hIn ((getV x (⟨#[116, 121, 112, 101]⟩ : BA)).getD zV).f2
    cases hi : inB ((getV x (⟨#[116, 121, 112, 101]⟩ : BA)).getD zV).f2 ([(⟨#[118, 111, 108, 117, 109, 101]⟩ : ByteArray), (⟨#[98, 105, 110, 100]⟩ : ByteArray)] : List ByteArray)
    ·rw [hi] at hI
     exact ⟨false, ev_step hst (ev_bind hG (ev_bind hK (Ev.congr (fun k => by rw [if_pos rfl, if_pos rfl]) (ev_bind hI (ev_now (fun k => by rw [if_neg (by decide)])))))), fun h => by cases h⟩
    ·rw [hi] at hI
     cases htt : (getV x (⟨#[116, 97, 114, 103, 101, 116]⟩ : BA)).isSome
     ·rw [htt] at hT
      exact ⟨false, ev_step hst (ev_bind hG (ev_bind hK (Ev.congr (fun k => by rw [if_pos rfl, if_pos rfl]) (ev_bind hI (Ev.congr (fun k => by rw [if_pos rfl]) (ev_bind hT (ev_now (fun k => by rw [if_neg (by decide)])))))))), fun h => by cases h⟩
     ·rw [htt] at hT
      cases hss : (getV x (⟨#[115, 111, 117, 114, 99, 101]⟩ : BA)).isSome
      ·rw [hss] at hS
       exact ⟨false, ev_step hst (ev_bind hG (ev_bind hK (Ev.congr (fun k => by rw [if_pos rfl, if_pos rfl]) (ev_bind hI (Ev.congr (fun k => by rw [if_pos rfl]) (ev_bind hT (Ev.congr (fun k => by rw [if_pos rfl]) (ev_bind hS (ev_now (fun k => by rw [if_neg (by decide)])))))))))), fun h => by cases h⟩
      ·rw [hss] at hS
       refine ⟨true, ev_step hst (ev_bind hG (ev_bind hK (Ev.congr (fun k => by rw [if_pos rfl, if_pos rfl]) (ev_bind hI (Ev.congr (fun k => by rw [if_pos rfl]) (ev_bind hT (Ev.congr (fun k => by rw [if_pos rfl]) (ev_bind hS (Ev.congr (fun k => by rw [if_pos rfl]) hend))))))))), fun _ => ?_⟩
       obtain ⟨h5, hf⟩ := hKf hbk
       obtain ⟨v, hv⟩ := Option.isSome_iff_exists.1 htt
       obtain ⟨_, hpb, hl, rfl⟩ := getV_some hv
       refine ⟨h5, _, hv, hf _ (placeB_lt hpb) hl ?_⟩
       have hkey : (x.f3[placeI x.f3 (⟨#[116, 97, 114, 103, 101, 116]⟩ : BA)]'(placeB_lt hpb)).toList = (⟨#[116, 97, 114, 103, 101, 116]⟩ : BA).toList := by
        have := hpb
        unfold placeB at this
        rw [List.getElem?_eq_getElem (placeB_lt hpb)] at this
        simpa using this
       unfold inB
       rw [List.any_cons, List.any_nil, Bool.or_false, hkey]
       refine decide_eq_false ?_
       rw [toList_lb, toList_lb]
       decide
 obtain ⟨b, hb, hbf⟩ := hM
 refine ⟨b, ?_, hbf⟩
 unfold spec_PartMount.f spec_sayMounts.f
 have e : ((⟨x.f0, x.f1, x.f2, x.f3, x.f4⟩ : VS)) = x := etaS x
 rw [e]
 exact Ev.congr (f := fun k => (spec_sayMounts.l0 k 0 4 0 ⟨#[]⟩ [] [x]).bind fun t => some t) (fun k => by rw [hL k]; rfl) (ev_bind (f := fun _ t => some t) hb (Ev.now _))
end Go.Proofs.YtaembebbaejfiaaDoor.Tr
namespace Go.Proofs
open Go.Shelf
def Tryd.lays156_ren : Go.Shelf.Ren := ⟨fun | 156 => 64 | 165 => 76 | 166 => 77 | 169 => 78 | 240 => 87 | 241 => 88 | 276 => 105 | 277 => 106 | n => n, fun | 31 => 25 | 9 => 9 | 3 => 3 | 4 => 4 | 0 => 0 | 20 => 20 | 72 => 103 | 76 => 105 | 70 => 101 | 37 => 71 | 75 => 50 | 127 => 116 | 164 => 139 | 5 => 5 | 80 => 107 | n => n, fun | n => n⟩
theorem Tryd.lays156 : Go.Proofs.Lays.n156 Tryd.prog Tryd.lays156_ren := {
 mixed := by kernel_rfl
 f156 := Tryd.func64.trans (congrArg some (by kernel_rfl))
 f165 := Tryd.func76.trans (congrArg some (by kernel_rfl))
 f166 := Tryd.func77.trans (congrArg some (by kernel_rfl))
 f169 := Tryd.func78.trans (congrArg some (by kernel_rfl))
 f240 := Tryd.func87.trans (congrArg some (by kernel_rfl))
 f241 := Tryd.func88.trans (congrArg some (by kernel_rfl))
 f276 := Tryd.func105.trans (congrArg some (by kernel_rfl))
 f277 := Tryd.func106.trans (congrArg some (by kernel_rfl))
 t0 := Tryd.underlying0
 a0 := Tryd.isAgg0
 z0 := Tryd.sizeOf0
 v0 := Tryd.zeroValue0
 t3 := Tryd.underlying3
 a3 := Tryd.isAgg3
 z3 := Tryd.sizeOf3
 v3 := Tryd.zeroValue3
 t4 := Tryd.underlying4
 a4 := Tryd.isAgg4
 z4 := Tryd.sizeOf4
 v4 := Tryd.zeroValue4
 t9 := Tryd.underlying9
 a9 := Tryd.isAgg9
 z9 := Tryd.sizeOf9
 v9 := Tryd.zeroValue9
 t20 := Tryd.underlying20
 a20 := Tryd.isAgg20
 z20 := Tryd.sizeOf20
 v20 := Tryd.zeroValue20
 t31 := Tryd.underlying25
 a31 := Tryd.isAgg25
 z31 := Tryd.sizeOf25
 v31 := Tryd.zeroValue25
 t37 := Tryd.underlying71
 a37 := Tryd.isAgg71
 z37 := Tryd.sizeOf71
 v37 := Tryd.zeroValue71
 t70 := Tryd.underlying101
 a70 := Tryd.isAgg101
 z70 := Tryd.sizeOf101
 v70 := Tryd.zeroValue101
 t72 := Tryd.underlying103
 a72 := Tryd.isAgg103
 z72 := Tryd.sizeOf103
 v72 := Tryd.zeroValue103
 t75 := Tryd.underlying50
 a75 := Tryd.isAgg50
 z75 := Tryd.sizeOf50
 v75 := Tryd.zeroValue50
 t76 := Tryd.underlying105
 a76 := Tryd.isAgg105
 z76 := Tryd.sizeOf105
 v76 := Tryd.zeroValue105
 t127 := Tryd.underlying116
 a127 := Tryd.isAgg116
 z127 := Tryd.sizeOf116
 v127 := Tryd.zeroValue116
 t164 := Tryd.underlying139
 a164 := Tryd.isAgg139
 z164 := Tryd.sizeOf139
 v164 := Tryd.zeroValue139 }
theorem Tryd.Builder_Extra_156 : Builder.Extra Tryd.prog Tryd.lays156_ren := {
 sizeBuilder := by kernel_rfl
 liesBuilder := by kernel_rfl
 t5 := Tryd.underlying5
 a5 := Tryd.isAgg5
 z5 := Tryd.sizeOf5
 v5 := Tryd.zeroValue5
 infoByte := by kernel_rfl
 cellsByte := by kernel_rfl
 sizeByte := by kernel_rfl
 neB5 := by decide }
open Go.RowKit in
theorem Tryd.strings_Join_none (a : Option Addr) (c : Nat) (sep : ByteArray) (w : World) :
  Calls Tryd.prog 64 #[.slice a 0 c, .string sep] w fun e w' => e = .returned (.string ⟨#[]⟩) ∧ w' = w := Any.strings_Join_none Tryd.lays156 Tryd.Builder_Extra_156 a c sep w
open Go.RowKit in
theorem Tryd.strings_Join (bk o c : Nat) (xs : List ByteArray) (sep : ByteArray) (w : World) (hcells : ∀ (j : Nat) x, xs[j]? = some x → w.cell? ⟨bk, o + j, none⟩ = some (.string x)) (hbk : bk < w.heap.size) (hN : xs.length ≤ 140737488355328) (hcap : xs.length ≤ c) (hlen : (Lib.join (xs.map (·.data.toList)) sep.data.toList).length ≤ 140737488355328) :
  Calls Tryd.prog 64 #[.slice (some ⟨bk, o, none⟩) xs.length c, .string sep] w fun e w' => e = .returned (.string ⟨(Lib.join (xs.map (·.data.toList)) sep.data.toList).toArray⟩) ∧ Below w.heap.size w w' := Any.strings_Join Tryd.lays156 Tryd.Builder_Extra_156 bk o c xs sep w hcells hbk hN hcap hlen
def Tryd.lays200_ren : Go.Shelf.Ren := ⟨fun | 200 => 90 | 261 => 111 | 311 => 126 | 312 => 127 | n => n, fun | 21 => 21 | 4 => 4 | 51 => 136 | 5 => 5 | 119 => 146 | 0 => 0 | 141 => 148 | 196 => 166 | 193 => 163 | 3 => 3 | 198 => 169 | 49 => 167 | 194 => 164 | 201 => 172 | 226 => 177 | 46 => 115 | 227 => 178 | n => n, fun | 7 => 0 | 8 => 1 | n => n⟩
theorem Tryd.lays200 : Go.Proofs.Lays.n200 Tryd.prog Tryd.lays200_ren := {
 mixed := by kernel_rfl
 f200 := Tryd.func90.trans (congrArg some (by kernel_rfl))
 f261 := Tryd.func111.trans (congrArg some (by kernel_rfl))
 f311 := Tryd.func126.trans (congrArg some (by kernel_rfl))
 f312 := Tryd.func127.trans (congrArg some (by kernel_rfl))
 t0 := Tryd.underlying0
 a0 := Tryd.isAgg0
 z0 := Tryd.sizeOf0
 v0 := Tryd.zeroValue0
 t3 := Tryd.underlying3
 a3 := Tryd.isAgg3
 z3 := Tryd.sizeOf3
 v3 := Tryd.zeroValue3
 t4 := Tryd.underlying4
 a4 := Tryd.isAgg4
 z4 := Tryd.sizeOf4
 v4 := Tryd.zeroValue4
 t5 := Tryd.underlying5
 a5 := Tryd.isAgg5
 z5 := Tryd.sizeOf5
 v5 := Tryd.zeroValue5
 t21 := Tryd.underlying21
 a21 := Tryd.isAgg21
 z21 := Tryd.sizeOf21
 v21 := Tryd.zeroValue21
 t46 := Tryd.underlying115
 a46 := Tryd.isAgg115
 z46 := Tryd.sizeOf115
 v46 := Tryd.zeroValue115
 t49 := Tryd.underlying167
 a49 := Tryd.isAgg167
 z49 := Tryd.sizeOf167
 v49 := Tryd.zeroValue167
 t51 := Tryd.underlying136
 a51 := Tryd.isAgg136
 z51 := Tryd.sizeOf136
 v51 := Tryd.zeroValue136
 t119 := Tryd.underlying146
 a119 := Tryd.isAgg146
 z119 := Tryd.sizeOf146
 t141 := Tryd.underlying148
 a141 := Tryd.isAgg148
 z141 := Tryd.sizeOf148
 v141 := Tryd.zeroValue148
 t193 := Tryd.underlying163
 a193 := Tryd.isAgg163
 z193 := Tryd.sizeOf163
 v193 := Tryd.zeroValue163
 t194 := Tryd.underlying164
 a194 := Tryd.isAgg164
 z194 := Tryd.sizeOf164
 v194 := Tryd.zeroValue164
 t196 := Tryd.underlying166
 a196 := Tryd.isAgg166
 z196 := Tryd.sizeOf166
 v196 := Tryd.zeroValue166
 t198 := Tryd.underlying169
 a198 := Tryd.isAgg169
 z198 := Tryd.sizeOf169
 v198 := Tryd.zeroValue169
 t201 := Tryd.underlying172
 a201 := Tryd.isAgg172
 z201 := Tryd.sizeOf172
 v201 := Tryd.zeroValue172
 t226 := Tryd.underlying177
 a226 := Tryd.isAgg177
 z226 := Tryd.sizeOf177
 v226 := Tryd.zeroValue177
 t227 := Tryd.underlying178
 a227 := Tryd.isAgg178
 z227 := Tryd.sizeOf178
 v227 := Tryd.zeroValue178
 g7 := by kernel_rfl
 g8 := by kernel_rfl }
open Go.RowKit Go.Lib in
theorem Tryd.unicode_IsLetter (c : Nat) (w : World) (hc : c < 256) (htab : Lib.TabIs Tryd.prog w "unicode.properties" .u8 Lib.propertiesTab) :
  Calls Tryd.prog 90 #[.int .i32 c] w fun e w' => e = .returned (.bool (Lib.isLetterL c)) ∧ w' = w := Any.unicode_IsLetter Tryd.lays200 (by kernel_rfl) c w hc htab
end Go.Proofs
namespace Go.Proofs.YtaembebbaejfiaaDoor.Mount
open Go.RowKit Go.Proofs.YtaembebbaejfiaaDoorW.PrintWords Go.Proofs.YtaembebbaejfiaaDoor.Str Go.Proofs.YtaembebbaejfiaaDoor.Kit Go.Proofs.YtaembebbaejfiaaDoor.Frame
set_option linter.unusedVariables false
set_option linter.unusedSimpArgs false
theorem join_C {A : Option Addr} {c : Nat} {xs : List ByteArray} (sep : ByteArray) (w : World) (h : Kd.string.C w A xs.length xs) (hc : xs.length ≤ c)
  (hN : xs.length ≤ 140737488355328) (hlen : (Lib.join (xs.map lb) (lb sep)).length ≤ 140737488355328) :
  Calls Tryd.prog 64 #[.slice A xs.length c, .string sep] w fun e w' => e = .returned (.string ⟨(Lib.join (xs.map lb) (lb sep)).toArray⟩) ∧ Below w.heap.size w w' := by
 rcases Nat.eq_zero_or_pos xs.length with h0 | h0
 ·obtain rfl := List.eq_nil_of_length_eq_zero h0
  exact (Tryd.strings_Join_none A c sep w).mono fun e w' ⟨he, hw⟩ => ⟨he, hw ▸ Below.refl _ _⟩
 ·obtain ⟨bk, off, rfl, hbk, hcell⟩ := strs_open h h0
  exact Tryd.strings_Join bk off c xs sep w (fun j x hx => by
   obtain ⟨hj, rfl⟩ := List.getElem?_eq_some_iff.1 hx
   exact hcell j hj) hbk hN hc hlen
def newPath (xs : List ByteArray) : ByteArray := ⟨(Lib.join (xs.map lb) [46]).toArray⟩
set_option maxHeartbeats 400000 in
theorem tree_NewPath {A : Option Addr} {c : Nat} {xs : List ByteArray} (w : World) (h : Kd.string.C w A xs.length xs) (hc : xs.length ≤ c)
  (hN : xs.length ≤ 140737488355328) (hlen : (newPath xs).size ≤ 140737488355328) :
  Calls Tryd.prog 51 #[.slice A xs.length c] w fun e w' => e = .returned (.string (newPath xs)) ∧ Below w.heap.size w w' := by
 have H := Aside0.mk h
 have HC := Aside0.mk hc
 have HN := Aside0.mk hN
 have HL := Aside0.mk hlen
 clear h hc hN hlen
 go_enter Tryd.func51, Tryd.ntmps51
 go_wp2_with fail
 refine (join_C ⟨#[46]⟩ w H.out HC.out HN.out (by have := HL.out; rw [← lb_length, newPath, lb_mk] at this; exact this)).mono ?_
 rintro e w1 ⟨rfl, hb⟩
 have HB := Aside0.mk hb
 clear hb
 go_wp2
 go_ret
 exact ⟨rfl, HB.out⟩
set_option maxHeartbeats 400000 in
theorem implAt (w : World) : Calls Tryd.prog 30 #[] w fun e w' => ∃ p, e = .returned (.string p) ∧ Below w.heap.size w w' := by
 have HC := Aside0.mk (show Kd.string.C (w.alloc (.cells #[.string ⟨#[97, 116]⟩] 9)) (some ⟨w.heap.size, 0, none⟩) [(⟨#[97, 116]⟩ : ByteArray)].length [⟨#[97, 116]⟩] from strs_lit w 9 [(⟨#[97, 116]⟩ : ByteArray)] (by decide))
 go_enter Tryd.func30, Tryd.ntmps30
 go_wp2_with fail
 refine (tree_NewPath (c := 1) (xs := [(⟨#[97, 116]⟩ : ByteArray)]) _ HC.out (Nat.le_refl _) (by simp) (by decide)).mono ?_
 rintro e w1 ⟨rfl, hb⟩
 have HB := Aside0.mk (hb_then ((Below.refl _ w).alloc (Nat.le_refl _) _) hb)
 clear hb
 go_wp2
 go_ret
 exact ⟨_, rfl, HB.out⟩
set_option maxHeartbeats 400000 in
theorem implIndex (s : ByteArray) (w : World) : Calls Tryd.prog 27 #[.string s, .nilIface] w fun e w' => e = .returned (.tuple #[.string s, .bool true]) ∧ w' = w := by
 go_enter Tryd.func27, Tryd.ntmps27
 go_wp2
 go_ret2
 exact ⟨rfl, rfl⟩
end Go.Proofs.YtaembebbaejfiaaDoor.Mount
namespace Go.Proofs.YtaembebbaejfiaaDoor.Tr
open Go.RowKit Go.Proofs.YtaembebbaejfiaaDoorW.PrintWords Go.Proofs.YtaembebbaejfiaaDoorW.PrintLast Go.Proofs.YtaembebbaejfiaaDoor.Str Go.Proofs.YtaembebbaejfiaaDoor.Kit Go.Proofs.YtaembebbaejfiaaDoor.MapV Go.Proofs.YtaembebbaejfiaaDoor.Frame Go.Proofs.YtaembebbaejfiaaDoor.PS
set_option linter.unusedVariables false
set_option linter.unusedSimpArgs false
theorem AR.look {w : World} {b : Nat} {m : List (Bs × Y)} {F : Nat → Prop} (h : AR w (.iface 74 (.map (some b))) (.map m) F) : ∃ f, MapA w b f ∧ ∀ k y, mget m k = some y → ∃ v G, mget f k = some v ∧ AR w v y G := by
 cases h with
 | map b zs ys _ hy hm hz hd hb hF =>
  refine ⟨_, hm, fun k y hg => ?_⟩
  subst hy
  unfold mget at hg ⊢
  rw [List.find?_map] at hg ⊢
  have e1 : ((fun p : Bs × Y => p.1 == k) ∘ fun z : Bs × En => (z.1, z.2.2.1)) = fun z : Bs × En => z.1 == k := rfl
  have e2 : ((fun p : Bs × Value => p.1 == k) ∘ fun z : Bs × En => (z.1, z.2.1)) = fun z : Bs × En => z.1 == k := rfl
  rw [e1] at hg
  rw [e2]
  cases hf : zs.find? (fun z => z.1 == k) with
  | none => rw [hf] at hg; cases hg
  | some z =>
   rw [hf] at hg
   have hzm := List.mem_of_find?_eq_some hf
   have hyy : z.2.2.1 = y := by simpa using hg
   exact ⟨z.2.1, z.2.2.2, rfl, hyy ▸ hz z hzm⟩
theorem AR.text_inv {w : World} {v : Value} {s : BA} {F : Nat → Prop} (h : AR w v (.text s) F) : v = .iface 9 (.string s) := by cases h; rfl
theorem tas_map (v : Value) (w : World) : (Instr.typeAssert (.iface 74 v) 20 74 true).run Tryd.prog w = .ok (.tuple #[v, .bool true]) w := by kernel_rfl
theorem tas_str (v : Value) (w : World) : (Instr.typeAssert (.iface 9 v) 20 9 true).run Tryd.prog w = .ok (.tuple #[v, .bool true]) w := by kernel_rfl
def tgtL : BA := ⟨#[116, 97, 114, 103, 101, 116]⟩
set_option maxHeartbeats 1600000 in
theorem volumeIndexer_map (b : Nat) (p s : BA) (f : List (Bs × Value)) (w : World) (hm : MapA w b f) (hg : mget f (lb tgtL) = some (.iface 9 (.string s))) :
  Calls Tryd.prog 56 #[.iface 74 (.map (some b)), .string p] w fun e w' => e = .returned (.tuple #[.string s, .nilIface]) ∧ w = w' := by
 have h2 := tas_map
 have h3 := tas_str
 have hlk := run_look_mapE (s := tgtL) akey_u amap_u (Tryd.zeroValue20 w) hm (by decide)
 rw [hg] at hlk
 simp only [Option.map_some, Option.getD_some, id] at hlk
 unfold tgtL at hlk
 clear hm hg
 go_enter Tryd.func56, Tryd.ntmps56
 go_wp2
 go_ret2
 exact ⟨rfl, rfl⟩
set_option maxHeartbeats 800000 in
theorem overrideVolume_map (b : Nat) (p s : BA) (f : List (Bs × Value)) (w : World) (hm : MapA w b f) (hg : mget f (lb tgtL) = some (.iface 9 (.string s))) :
  Calls Tryd.prog 44 #[.iface 74 (.map (some b)), .string p] w fun e w' => e = .returned (.tuple #[.string s, .nilIface]) ∧ w = w' := by
 have CV := Aside0.mk (volumeIndexer_map b p s f w hm hg)
 clear hm hg
 go_enter Tryd.func44, Tryd.ntmps44
 go_wp2_with fail
 refine CV.out.mono ?_
 rintro e w2 ⟨rfl, rfl⟩
 go_wp2
 go_ret2
 exact ⟨rfl, rfl⟩
set_option maxHeartbeats 1600000 in
theorem implVolume (x : VI) (hx : Small x) (h5 : x.f0 = 5) (s : BA) (hs : mget (mapOf x) (lb tgtL) = some (.text s)) (A3 A4 : Option Addr) (c3 c4 : Nat) (w : World) (h3 : x.f3.length ≤ c3) (hk : Kd.string.C w A3 x.f3.length x.f3) (h4 : x.f4.length ≤ c4) (hv : kI.C w A4 x.f4.length x.f4) :
  Calls Tryd.prog 19 #[.agg #[.int .i64 x.f0, .int .i64 x.f1, .string x.f2, .slice A3 x.f3.length c3, .slice A4 x.f4.length c4]] w fun e w' => e = .returned (.tuple #[.string s, .bool true]) ∧ Below w.heap.size w w' := by
 have hb := below_alloc (Below.refl w.heap.size w) (.cells #[.int .i64 x.f0, .int .i64 x.f1, .string x.f2, .slice A3 x.f3.length c3, .slice A4 x.f4.length c4] 28)
 have HB := Aside0.mk hb
 have CA := Aside0.mk (toAny x hx A3 A4 c3 c4 (w.alloc (.cells #[.int .i64 x.f0, .int .i64 x.f1, .string x.f2, .slice A3 x.f3.length c3, .slice A4 x.f4.length c4] 28)) h3 (Kd.C_below hk hb) h4 (Kd.C_below hv hb))
 have HS := Aside0.mk hs
 have HY := Aside0.mk (show anyOf x = .map (mapOf x) by
  obtain ⟨k, n, t, ks, vs⟩ := x
  have h5' : k = 5 := h5
  subst h5'
  exact anyOf_map n t ks vs)
 clear hb hk hv hs h3 h4 h5
 obtain ⟨x0, x1, x2, x3, x4⟩ := x
 go_enter Tryd.func19, Tryd.ntmps19
 go_wp2_with fail
 refine CA.out.mono ?_
 rintro e w1 ⟨v, rfl, ha, hb⟩
 rw [HY.out] at ha
 have hv' : ∃ b, v = .iface 74 (.map (some b)) := by
  generalize hq : Y.map _ = q at ha
  cases ha <;> first | exact ⟨_, rfl⟩ | cases hq
 obtain ⟨b, rfl⟩ := hv'
 obtain ⟨f, hf, hlook⟩ := AR.look ha
 obtain ⟨v2, G, hg, ha2⟩ := hlook _ _ HS.out
 rw [AR.text_inv ha2] at hg
 have HM := Aside0.mk hf
 have HG := Aside0.mk hg
 have HB1 := Aside0.mk (hb_then HB.out hb)
 clear ha hb CA hlook hg ha2 hf
 go_wp2_with fail
 refine (Mount.implAt w1).mono ?_
 rintro e w2 ⟨p, rfl, hb⟩
 have HB2 := Aside0.mk (hb_then HB1.out hb)
 have HM2 := Aside0.mk (HM.out.below hb)
 clear hb
 go_wp2_with fail
 refine (overrideVolume_map b p s f w2 HM2.out HG.out).mono ?_
 rintro e w3 ⟨rfl, rfl⟩
 go_wp2_with fail
 refine (Mount.implIndex _ w2).mono ?_
 rintro e w4 ⟨rfl, rfl⟩
 go_wp2
 go_ret2
 exact ⟨rfl, HB2.out⟩
end Go.Proofs.YtaembebbaejfiaaDoor.Tr
namespace Go.Proofs.YtaembebbaejfiaaDoor.PS
open Go.RowKit Go.Proofs.YtaembebbaejfiaaDoorW.PrintWords Go.Proofs.YtaembebbaejfiaaDoorW.PrintLast Go.Proofs.YtaembebbaejfiaaDoorW.PrintMore Go.Proofs.YtaembebbaejfiaaDoor.Str Go.Proofs.YtaembebbaejfiaaDoor.MapV
open Go.Proofs.YtaembebbaejfiaaDoor.Tr (Small mapOf tgtL implVolume)
open Classical in
noncomputable def impl_IndexVolume.f (a0_0 : Int) (a0_1 : Int) (a0_2 : ByteArray) (l0_3 : List ByteArray) (l0_4 : List (S28)) : Option (ByteArray × Bool) :=
 if Small ⟨a0_0, a0_1, a0_2, l0_3, l0_4⟩ ∧ a0_0 = 5 then
  match mget (mapOf ⟨a0_0, a0_1, a0_2, l0_3, l0_4⟩) (lb tgtL) with
  | some (.text s) => some (s, true)
  | _ => none
 else none
theorem impl_IndexVolume.calls (a0_0 : Int) (a0_1 : Int) (a0_2 : ByteArray) (A0_3 : Option Addr) (c0_3 : Nat) (l0_3 : List ByteArray) (A0_4 : Option Addr) (c0_4 : Nat) (l0_4 : List (S28)) (r1 : ByteArray) (r2 : Bool) (w : World) (hr0_3 : Kd.C Kd.string w A0_3 l0_3.length l0_3) (hc0_3 : l0_3.length ≤ c0_3) (hr0_4 : Kd.C k28 w A0_4 l0_4.length l0_4) (hc0_4 : l0_4.length ≤ c0_4) (h : impl_IndexVolume.f a0_0 a0_1 a0_2 l0_3 l0_4 = some (r1, r2)) :
  Calls Tryd.prog 19 #[.agg #[.int .i64 a0_0, .int .i64 a0_1, .string a0_2, .slice A0_3 l0_3.length c0_3, .slice A0_4 l0_4.length c0_4]] w fun e w' => e = .returned (.tuple #[.string r1, .bool r2]) ∧ Below w.heap.size w w' := by
 unfold impl_IndexVolume.f at h
 split at h
 ·rename_i hc
  split at h
  ·rename_i s hs
   simp only [Option.some.injEq, Prod.mk.injEq] at h
   obtain ⟨rfl, rfl⟩ := h
   exact implVolume ⟨a0_0, a0_1, a0_2, l0_3, l0_4⟩ hc.1 hc.2 _ hs A0_3 A0_4 c0_3 c0_4 w hc0_3 hr0_3 hc0_4 hr0_4
  ·cases h
 ·cases h
end Go.Proofs.YtaembebbaejfiaaDoor.PS
namespace Go.Proofs.YtaembebbaejfiaaDoor.PS
open Go.RowKit Go.Proofs.YtaembebbaejfiaaDoorW.PrintWords Go.Proofs.YtaembebbaejfiaaDoorW.PrintLast Go.Proofs.YtaembebbaejfiaaDoorW.PrintMore
attribute [local go_sem] max2_int min2_int max_two min_two max_three min_three max_four min_four 
set_option linter.unusedVariables false
set_option linter.unusedSimpArgs false
def laws_partIndex.f (a0 : ByteArray) (a1 : Bool) (a2 : ByteArray) : Option (Bool) := if a1 = true then (some (a0.toList == a2.toList)) else (some false)
set_option maxHeartbeats 8000000 in
set_option maxRecDepth 100000 in
theorem laws_partIndex.calls (a0 : ByteArray) (a1 : Bool) (a2 : ByteArray) (r : Bool) (w : World) (h : laws_partIndex.f a0 a1 a2 = some r) :
  Calls Tryd.prog 20 #[.string a0, .bool a1, .string a2] w fun e w' => e = .returned (.bool r) ∧ Drawn0 w w' := by
 have H : (if a1 = true then (some (a0.toList == a2.toList)) else (some false)) = some r := h
 clear h
 by_cases c4 : a1 = true
 ·subst c4
  have H1 : (some (a0.toList == a2.toList)) = some r := by rw [if_pos rfl] at H; exact H
  clear H
  have H := H1
  clear H1
  obtain rfl := Option.some.inj H
  go_enter Tryd.func20, Tryd.ntmps20
  go_wp2
  go_ret
  exact ⟨by first | rfl | (simp; done) | (simp [*]; done), by repeat (first | exact Drawn0.refl _ | apply Drawn0.step)⟩
 ·replace c4 := Bool.eq_false_iff.mpr c4
  subst c4
  have H1 : (some false) = some r := by rw [if_neg (show ¬ (false = true) by decide)] at H; exact H
  clear H
  have H := H1
  clear H1
  obtain rfl := Option.some.inj H
  go_enter Tryd.func20, Tryd.ntmps20
  go_wp2
  go_ret
  exact ⟨by first | rfl | (simp; done) | (simp [*]; done), by repeat (first | exact Drawn0.refl _ | apply Drawn0.step)⟩
end Go.Proofs.YtaembebbaejfiaaDoor.PS
namespace Go.Proofs.YtaembebbaejfiaaDoor.PS
open Go.RowKit Go.Proofs.YtaembebbaejfiaaDoorW.PrintWords Go.Proofs.YtaembebbaejfiaaDoorW.PrintLast Go.Proofs.YtaembebbaejfiaaDoorW.PrintMore
attribute [local go_sem] max2_int min2_int max_two min_two max_three min_three max_four min_four 
set_option linter.unusedVariables false
set_option linter.unusedSimpArgs false
noncomputable def laws_FnIndexVolume.f (k : Nat) (a0_0 : Int) (a0_1 : Int) (a0_2 : ByteArray) (l0_3 : List ByteArray) (l0_4 : List (S32)) : Option (Bool) := (laws_zzFits1.f k a0_0 a0_1 a0_2 l0_3 l0_4).bind fun t352 => (if t352 = true then ((spec_Fit.f k a0_0 a0_1 a0_2 l0_3 l0_4).bind fun bt353 => ((spec_Get.f k bt353.1 bt353.2.1 bt353.2.2.1 bt353.2.2.2.1 bt353.2.2.2.2 (⟨#[116, 97, 114, 103, 101, 116]⟩ : ByteArray)).bind fun bt362 => ((spec_PartMount.f k bt353.1 bt353.2.1 bt353.2.2.1 bt353.2.2.2.1 bt353.2.2.2.2).bind fun t373 => (if t373 = true then ((laws_to.f k bt353.1 bt353.2.1 bt353.2.2.1 bt353.2.2.2.1 bt353.2.2.2.2).bind fun bt374 => ((impl_IndexVolume.f bt374.1 bt374.2.1 bt374.2.2.1 bt374.2.2.2.1 bt374.2.2.2.2).bind fun bt383 => ((laws_partIndex.f bt383.1 bt383.2 bt362.2.2.1).bind fun t385 => (some t385)))) else (some true))))) else (some true))
set_option maxHeartbeats 8000000 in
set_option maxRecDepth 100000 in
theorem laws_FnIndexVolume.calls (k : Nat) (a0_0 : Int) (a0_1 : Int) (a0_2 : ByteArray) (A0_3 : Option Addr) (c0_3 : Nat) (l0_3 : List ByteArray) (A0_4 : Option Addr) (c0_4 : Nat) (l0_4 : List (S32)) (r : Bool) (w : World) (hr0_3 : Kd.C Kd.string w A0_3 l0_3.length l0_3) (hc0_3 : l0_3.length ≤ c0_3) (hr0_4 : Kd.C k32 w A0_4 l0_4.length l0_4) (hc0_4 : l0_4.length ≤ c0_4) (h : laws_FnIndexVolume.f k a0_0 a0_1 a0_2 l0_3 l0_4 = some r) :
  Calls Tryd.prog 5 #[.agg #[.int .i64 a0_0, .int .i64 a0_1, .string a0_2, .slice A0_3 l0_3.length c0_3, .slice A0_4 l0_4.length c0_4]] w fun e w' => e = .returned (.bool r) ∧ Below w.heap.size w w' := by
 have hu32 := Tryd.underlying32
 have HR0_3 := Aside0.mk hr0_3
 have HC0_3 := Aside0.mk hc0_3
 clear hr0_3 hc0_3
 have HR0_4 := Aside0.mk hr0_4
 have HC0_4 := Aside0.mk hc0_4
 clear hr0_4 hc0_4
 have HB := Aside0.mk (Below.refl w.heap.size w)
 have H : ((laws_zzFits1.f k a0_0 a0_1 a0_2 l0_3 l0_4).bind fun t352 => (if t352 = true then ((spec_Fit.f k a0_0 a0_1 a0_2 l0_3 l0_4).bind fun bt353 => ((spec_Get.f k bt353.1 bt353.2.1 bt353.2.2.1 bt353.2.2.2.1 bt353.2.2.2.2 (⟨#[116, 97, 114, 103, 101, 116]⟩ : ByteArray)).bind fun bt362 => ((spec_PartMount.f k bt353.1 bt353.2.1 bt353.2.2.1 bt353.2.2.2.1 bt353.2.2.2.2).bind fun t373 => (if t373 = true then ((laws_to.f k bt353.1 bt353.2.1 bt353.2.2.1 bt353.2.2.2.1 bt353.2.2.2.2).bind fun bt374 => ((impl_IndexVolume.f bt374.1 bt374.2.1 bt374.2.2.1 bt374.2.2.2.1 bt374.2.2.2.2).bind fun bt383 => ((laws_partIndex.f bt383.1 bt383.2 bt362.2.2.1).bind fun t385 => (some t385)))) else (some true))))) else (some true))) = some r := h
 clear h
 replace H := Option.bind_eq_some_iff.mp H
 obtain ⟨t352, A20, H⟩ := H
 replace H : (if t352 = true then ((spec_Fit.f k a0_0 a0_1 a0_2 l0_3 l0_4).bind fun bt353 => ((spec_Get.f k bt353.1 bt353.2.1 bt353.2.2.1 bt353.2.2.2.1 bt353.2.2.2.2 (⟨#[116, 97, 114, 103, 101, 116]⟩ : ByteArray)).bind fun bt362 => ((spec_PartMount.f k bt353.1 bt353.2.1 bt353.2.2.1 bt353.2.2.2.1 bt353.2.2.2.2).bind fun t373 => (if t373 = true then ((laws_to.f k bt353.1 bt353.2.1 bt353.2.2.1 bt353.2.2.2.1 bt353.2.2.2.2).bind fun bt374 => ((impl_IndexVolume.f bt374.1 bt374.2.1 bt374.2.2.1 bt374.2.2.2.1 bt374.2.2.2.2).bind fun bt383 => ((laws_partIndex.f bt383.1 bt383.2 bt362.2.2.1).bind fun t385 => (some t385)))) else (some true))))) else (some true)) = some r := H
 have A2 := Aside0.mk A20
 clear A20
 by_cases c3 : t352 = true
 ·subst c3
  have H1 : ((spec_Fit.f k a0_0 a0_1 a0_2 l0_3 l0_4).bind fun bt353 => ((spec_Get.f k bt353.1 bt353.2.1 bt353.2.2.1 bt353.2.2.2.1 bt353.2.2.2.2 (⟨#[116, 97, 114, 103, 101, 116]⟩ : ByteArray)).bind fun bt362 => ((spec_PartMount.f k bt353.1 bt353.2.1 bt353.2.2.1 bt353.2.2.2.1 bt353.2.2.2.2).bind fun t373 => (if t373 = true then ((laws_to.f k bt353.1 bt353.2.1 bt353.2.2.1 bt353.2.2.2.1 bt353.2.2.2.2).bind fun bt374 => ((impl_IndexVolume.f bt374.1 bt374.2.1 bt374.2.2.1 bt374.2.2.2.1 bt374.2.2.2.2).bind fun bt383 => ((laws_partIndex.f bt383.1 bt383.2 bt362.2.2.1).bind fun t385 => (some t385)))) else (some true))))) = some r := by rw [if_pos rfl] at H; exact H
  clear H
  have H := H1
  clear H1
  replace H := Option.bind_eq_some_iff.mp H
  obtain ⟨⟨t353, t354, t355, t356, t359⟩, A40, H⟩ := H
  replace H : ((spec_Get.f k t353 t354 t355 t356 t359 (⟨#[116, 97, 114, 103, 101, 116]⟩ : ByteArray)).bind fun bt362 => ((spec_PartMount.f k t353 t354 t355 t356 t359).bind fun t373 => (if t373 = true then ((laws_to.f k t353 t354 t355 t356 t359).bind fun bt374 => ((impl_IndexVolume.f bt374.1 bt374.2.1 bt374.2.2.1 bt374.2.2.2.1 bt374.2.2.2.2).bind fun bt383 => ((laws_partIndex.f bt383.1 bt383.2 bt362.2.2.1).bind fun t385 => (some t385)))) else (some true)))) = some r := H
  have A4 := Aside0.mk A40
  clear A40
  replace H := Option.bind_eq_some_iff.mp H
  obtain ⟨⟨t362, t363, t364, t365, t368, t371⟩, A50, H⟩ := H
  replace H : ((spec_PartMount.f k t353 t354 t355 t356 t359).bind fun t373 => (if t373 = true then ((laws_to.f k t353 t354 t355 t356 t359).bind fun bt374 => ((impl_IndexVolume.f bt374.1 bt374.2.1 bt374.2.2.1 bt374.2.2.2.1 bt374.2.2.2.2).bind fun bt383 => ((laws_partIndex.f bt383.1 bt383.2 t364).bind fun t385 => (some t385)))) else (some true))) = some r := H
  have A5 := Aside0.mk A50
  clear A50
  replace H := Option.bind_eq_some_iff.mp H
  obtain ⟨t373, A60, H⟩ := H
  replace H : (if t373 = true then ((laws_to.f k t353 t354 t355 t356 t359).bind fun bt374 => ((impl_IndexVolume.f bt374.1 bt374.2.1 bt374.2.2.1 bt374.2.2.2.1 bt374.2.2.2.2).bind fun bt383 => ((laws_partIndex.f bt383.1 bt383.2 t364).bind fun t385 => (some t385)))) else (some true)) = some r := H
  have A6 := Aside0.mk A60
  clear A60
  by_cases c7 : t373 = true
  ·subst c7
   have H1 : ((laws_to.f k t353 t354 t355 t356 t359).bind fun bt374 => ((impl_IndexVolume.f bt374.1 bt374.2.1 bt374.2.2.1 bt374.2.2.2.1 bt374.2.2.2.2).bind fun bt383 => ((laws_partIndex.f bt383.1 bt383.2 t364).bind fun t385 => (some t385)))) = some r := by rw [if_pos rfl] at H; exact H
   clear H
   have H := H1
   clear H1
   replace H := Option.bind_eq_some_iff.mp H
   obtain ⟨⟨t374, t375, t376, t377, t380⟩, A80, H⟩ := H
   replace H : ((impl_IndexVolume.f t374 t375 t376 t377 t380).bind fun bt383 => ((laws_partIndex.f bt383.1 bt383.2 t364).bind fun t385 => (some t385))) = some r := H
   have A8 := Aside0.mk A80
   clear A80
   replace H := Option.bind_eq_some_iff.mp H
   obtain ⟨⟨t383, t384⟩, A90, H⟩ := H
   replace H : ((laws_partIndex.f t383 t384 t364).bind fun t385 => (some t385)) = some r := H
   have A9 := Aside0.mk A90
   clear A90
   replace H := Option.bind_eq_some_iff.mp H
   obtain ⟨t385, A100, H⟩ := H
   replace H : (some t385) = some r := H
   have A10 := Aside0.mk A100
   clear A100
   obtain rfl := Option.some.inj H
   go_enter Tryd.func5, Tryd.ntmps5
   go_wp2_with (first | ((with_reducible refine gate_dst (N := 1) rfl ?_); refine box_event ?hg (N := 1) ?hd (cs := #[.int .i64 a0_0, .int .i64 a0_1, .string a0_2, .slice A0_3 l0_3.length c0_3, .slice A0_4 l0_4.length c0_4]) (t := 32) ?hr ?_; (case hd => rfl); (case hg => rfl); (case hr => first | (go_simp; done) | (go_simp; rfl)); intro gb351 hg w11 hbox hb; have n0_ := Aside0.mk (below_step (by repeat (first | (with_reducible first | exact HB.out | apply below_alloc | apply pw_below_drewN | apply below_drew1) | exact HB.out)) hb); have n1_ := Aside0.mk (hbox); have n2_ := Aside0.mk ((by rw [hg]; exact (below_size (by repeat (first | (with_reducible first | exact HB.out | apply below_alloc | apply pw_below_drewN | apply below_drew1) | exact HB.out))) : w.heap.size ≤ gb351)); have n3_ := Aside0.mk ((by rw [hg]; exact (below_size (by repeat (first | (with_reducible first | exact HB.out | apply below_alloc | apply pw_below_drewN | apply below_drew1) | exact HB.out))) : w.heap.size ≤ gb351)); clear HB; have HB := n0_; have BK351 := n1_; have GW351 := n2_; have GE351 := n3_; clear n0_ n1_ n2_ n3_; clear hb hbox hg; have hcz12_0 : w11.cell? ⟨gb351, 0, none⟩ = some (.int .i64 a0_0) := (blk_cell BK351.out 0).trans rfl; have hcz12_1 : w11.cell? ⟨gb351, 1, none⟩ = some (.int .i64 a0_1) := (blk_cell BK351.out 1).trans rfl; have hcz12_2 : w11.cell? ⟨gb351, 2, none⟩ = some (.string a0_2) := (blk_cell BK351.out 2).trans rfl; have hcz12_3 : w11.cell? ⟨gb351, 3, none⟩ = some (.slice A0_3 l0_3.length c0_3) := (blk_cell BK351.out 3).trans rfl; have hcz12_4 : w11.cell? ⟨gb351, 4, none⟩ = some (.slice A0_4 l0_4.length c0_4) := (blk_cell BK351.out 4).trans rfl; have hfz12_0 := blk_frozen BK351.out 0; have hfz12_1 := blk_frozen BK351.out 1; have hfz12_2 := blk_frozen BK351.out 2; have hfz12_3 := blk_frozen BK351.out 3; have hfz12_4 := blk_frozen BK351.out 4) | ((with_reducible refine gate_callee (f := 12) rfl ?_); refine goesL_ (some 8) rfl rfl Tryd.func12 (by kernel_rfl) rfl #[.agg #[.int .i64 a0_0, .int .i64 a0_1, .string a0_2, .slice A0_3 l0_3.length c0_3, .slice A0_4 l0_4.length c0_4]] rfl (by (try simp only [List.map_toArray, List.map_cons, List.map_nil]); first | done | rfl | (simp only [List.length_drop, List.length_take]; rfl)) ?_; (with_reducible refine (laws_zzFits1.calls k a0_0 a0_1 a0_2 _ _ l0_3 _ _ l0_4 true _ ?side1 ?side2 ?side3 ?side4 A2.out).mono ?_); (case side1 => repeat (first | exact (Kd.C_below HR0_3.out HB.out) | (with_reducible refine Kd.C_alloc ?_ _) | (with_reducible refine Kd.C_drewN ?_ _) | (with_reducible refine Kd.C_drew ?_))); (case side2 => exact HC0_3.out); (case side3 => repeat (first | exact (Kd.C_below HR0_4.out HB.out) | (with_reducible refine Kd.C_alloc ?_ _) | (with_reducible refine Kd.C_drewN ?_ _) | (with_reducible refine Kd.C_drew ?_))); (case side4 => exact HC0_4.out); rintro e w13 ⟨rfl, hb⟩; refine ⟨_, rfl, ?_⟩; have n0_ := Aside0.mk (blk_below (g := gb351) (o := .cells #[.int .i64 a0_0, .int .i64 a0_1, .string a0_2, .slice A0_3 l0_3.length c0_3, .slice A0_4 l0_4.length c0_4] 32 (0, 0)) (by (with_reducible repeat (first | refine blk_drewN ?_ _ | refine blk_drew ?_ | refine blk_alloc ?_ _)); exact BK351.out) hb); have n1_ := Aside0.mk (below_step (by repeat (first | (with_reducible first | exact HB.out | apply below_alloc | apply pw_below_drewN | apply below_drew1 | refine below_set ?_ GE351.out) | exact HB.out)) hb); clear BK351; clear HB; have BK351 := n0_; have HB := n1_; clear n0_ n1_; (try clear hb); (try clear hb2); (try clear hk); (try clear hi); have hcz14_0 : w13.cell? ⟨gb351, 0, none⟩ = some (.int .i64 a0_0) := (blk_cell BK351.out 0).trans rfl; have hcz14_1 : w13.cell? ⟨gb351, 1, none⟩ = some (.int .i64 a0_1) := (blk_cell BK351.out 1).trans rfl; have hcz14_2 : w13.cell? ⟨gb351, 2, none⟩ = some (.string a0_2) := (blk_cell BK351.out 2).trans rfl; have hcz14_3 : w13.cell? ⟨gb351, 3, none⟩ = some (.slice A0_3 l0_3.length c0_3) := (blk_cell BK351.out 3).trans rfl; have hcz14_4 : w13.cell? ⟨gb351, 4, none⟩ = some (.slice A0_4 l0_4.length c0_4) := (blk_cell BK351.out 4).trans rfl; have hfz14_0 := blk_frozen BK351.out 0; have hfz14_1 := blk_frozen BK351.out 1; have hfz14_2 := blk_frozen BK351.out 2; have hfz14_3 := blk_frozen BK351.out 3; have hfz14_4 := blk_frozen BK351.out 4) | ((with_reducible refine gate_callee (f := 13) rfl ?_); refine goesL_ (some 11) rfl rfl Tryd.func13 (by kernel_rfl) rfl #[.agg #[.int .i64 a0_0, .int .i64 a0_1, .string a0_2, .slice A0_3 l0_3.length c0_3, .slice A0_4 l0_4.length c0_4]] rfl (by (try simp only [List.map_toArray, List.map_cons, List.map_nil]); first | done | rfl | (simp only [List.length_drop, List.length_take]; rfl)) ?_; (with_reducible refine (spec_Fit.calls k a0_0 a0_1 a0_2 _ _ l0_3 _ _ l0_4 t353 t354 t355 t356 t359 _ ?side1 ?side2 ?side3 ?side4 A4.out).mono ?_); (case side1 => repeat (first | exact (Kd.C_below HR0_3.out HB.out) | (with_reducible refine Kd.C_alloc ?_ _) | (with_reducible refine Kd.C_drewN ?_ _) | (with_reducible refine Kd.C_drew ?_))); (case side2 => exact HC0_3.out); (case side3 => repeat (first | exact (Kd.C_below HR0_4.out HB.out) | (with_reducible refine Kd.C_alloc ?_ _) | (with_reducible refine Kd.C_drewN ?_ _) | (with_reducible refine Kd.C_drew ?_))); (case side4 => exact HC0_4.out); rintro e w15 ⟨v357, v360, rfl, ho0, ho1, hb⟩; refine ⟨_, rfl, ?_⟩; have n0_ := Aside0.mk (Kd.R_lower (Kd.R_mono (ok' := fun k_ => True) ho0 (fun _ hk_ => trivial)) (below_size (by repeat (first | (with_reducible first | exact HB.out | apply below_alloc | apply pw_below_drewN | apply below_drew1 | refine below_set ?_ GE351.out) | exact HB.out)))); have n1_ := Aside0.mk (Kd.N_lower (Kd.N_mono (ok' := fun k_ => some k_ ≠ (v357 : Value).ownBlock ∧ k_ ≠ gb351) ho1 (fun k_ hk_ => ⟨hk_.2, (Kd.freshB (g := gb351) (o := .cells #[.int .i64 a0_0, .int .i64 a0_1, .string a0_2, .slice A0_3 l0_3.length c0_3, .slice A0_4 l0_4.length c0_4] 32 (0, 0)) (by (with_reducible repeat (first | refine blk_drewN ?_ _ | refine blk_drew ?_ | refine blk_alloc ?_ _)); exact BK351.out) k_ hk_.1)⟩)) (below_size (by repeat (first | (with_reducible first | exact HB.out | apply below_alloc | apply pw_below_drewN | apply below_drew1 | refine below_set ?_ GE351.out) | exact HB.out)))); have n2_ := Aside0.mk (blk_below (g := gb351) (o := .cells #[.int .i64 a0_0, .int .i64 a0_1, .string a0_2, .slice A0_3 l0_3.length c0_3, .slice A0_4 l0_4.length c0_4] 32 (0, 0)) (by (with_reducible repeat (first | refine blk_drewN ?_ _ | refine blk_drew ?_ | refine blk_alloc ?_ _)); exact BK351.out) hb); have n3_ := Aside0.mk (below_step (by repeat (first | (with_reducible first | exact HB.out | apply below_alloc | apply pw_below_drewN | apply below_drew1 | refine below_set ?_ GE351.out) | exact HB.out)) hb); clear BK351; clear HB; have HO358 := n0_; have HO361 := n1_; have BK351 := n2_; have HB := n3_; clear n0_ n1_ n2_ n3_; (try clear hb); (try clear hb2); (try clear hk); (try clear hi); (try clear ho0); (try clear ho1); have hcz16_0 : w15.cell? ⟨gb351, 0, none⟩ = some (.int .i64 a0_0) := (blk_cell BK351.out 0).trans rfl; have hcz16_1 : w15.cell? ⟨gb351, 1, none⟩ = some (.int .i64 a0_1) := (blk_cell BK351.out 1).trans rfl; have hcz16_2 : w15.cell? ⟨gb351, 2, none⟩ = some (.string a0_2) := (blk_cell BK351.out 2).trans rfl; have hcz16_3 : w15.cell? ⟨gb351, 3, none⟩ = some (.slice A0_3 l0_3.length c0_3) := (blk_cell BK351.out 3).trans rfl; have hcz16_4 : w15.cell? ⟨gb351, 4, none⟩ = some (.slice A0_4 l0_4.length c0_4) := (blk_cell BK351.out 4).trans rfl; have hfz16_0 := blk_frozen BK351.out 0; have hfz16_1 := blk_frozen BK351.out 1; have hfz16_2 := blk_frozen BK351.out 2; have hfz16_3 := blk_frozen BK351.out 3; have hfz16_4 := blk_frozen BK351.out 4; obtain ⟨Ao17, co17, eo17⟩ := Kd.R_slice HO358.out; subst eo17; obtain ⟨Ao18, co18, eo18⟩ := Kd.N_slice HO361.out; subst eo18) | ((with_reducible refine gate_store (t := 32) (p := 1) rfl ?_); refine store_event (t := 32) (p := 1) (v := ?vo_w19) (w1 := (((((w15.setCell ⟨gb351, 0, none⟩ (.int .i64 t353)).setCell ⟨gb351, 1, none⟩ (.int .i64 t354)).setCell ⟨gb351, 2, none⟩ (.string t355)).setCell ⟨gb351, 3, none⟩ (.slice Ao17 t356.length co17)).setCell ⟨gb351, 4, none⟩ (.slice Ao18 t359.length co18))) ?hg ?ho ?hn ?hr ?_; (case ho => rfl); (case hg => rfl); (case hn => rfl); (case hr => first | (go_simp; done) | (go_simp; rfl)); intro w19 hw; have n0_ : Aside0 (Kd.R Kd.string 9 w19 w.heap.size (fun _ => True) (.slice Ao17 t356.length co17) t356) := ⟨(by rw [hw]; exact (by (with_reducible repeat (first | apply Kd.R_alloc | apply Kd.R_drewN | apply Kd.R_drew)); exact Kd.R_mono (Kd.R_far (p := ⟨gb351, 4, none⟩) (Kd.R_far (p := ⟨gb351, 3, none⟩) (Kd.R_far (p := ⟨gb351, 2, none⟩) (Kd.R_far (p := ⟨gb351, 1, none⟩) (Kd.R_far (p := ⟨gb351, 0, none⟩) (Kd.R_types HO358.out BK351.out (by decide)) (fun _ hk => hk.2) (.int .i64 t353)) (fun _ hk => hk.2) (.int .i64 t354)) (fun _ hk => hk.2) (.string t355)) (fun _ hk => hk.2) (.slice Ao17 t356.length co17)) (fun _ hk => hk.2) (.slice Ao18 t359.length co18)) (fun _ hk => trivial)))⟩; have n1_ : Aside0 (Kd.N k32 32 w19 w.heap.size (fun k_ => some k_ ≠ (.slice Ao17 t356.length co17 : Value).ownBlock ∧ k_ ≠ gb351) (.slice Ao18 t359.length co18) t359) := ⟨(by rw [hw]; exact (by (with_reducible repeat (first | apply Kd.N_alloc | apply Kd.N_drewN | apply Kd.N_drew)); exact Kd.N_mono (Kd.N_far (p := ⟨gb351, 4, none⟩) (Kd.N_far (p := ⟨gb351, 3, none⟩) (Kd.N_far (p := ⟨gb351, 2, none⟩) (Kd.N_far (p := ⟨gb351, 1, none⟩) (Kd.N_far (p := ⟨gb351, 0, none⟩) (Kd.N_mono HO361.out (fun k_ hk => (⟨hk, hk.2⟩ : _ ∧ k_ ≠ gb351))) (fun _ hk => hk.2) (.int .i64 t353)) (fun _ hk => hk.2) (.int .i64 t354)) (fun _ hk => hk.2) (.string t355)) (fun _ hk => hk.2) (.slice Ao17 t356.length co17)) (fun _ hk => hk.2) (.slice Ao18 t359.length co18)) (fun _ hk => ⟨hk.1.1, hk.1.2⟩)))⟩; have n2_ : Aside0 (w19.heap[gb351]? = some (.cells #[.int .i64 t353, .int .i64 t354, .string t355, .slice Ao17 t356.length co17, .slice Ao18 t359.length co18] 32 (0, 0))) := ⟨(by rw [hw]; exact (by (with_reducible repeat (first | refine blk_drewN ?_ _ | refine blk_drew ?_ | refine blk_alloc ?_ _)); refine blk_put (cs := #[.int .i64 t353, .int .i64 t354, .string t355, .slice Ao17 t356.length co17, .slice A0_4 l0_4.length c0_4]) ?_ 4 _ rfl; (with_reducible repeat (first | refine blk_drewN ?_ _ | refine blk_drew ?_ | refine blk_alloc ?_ _)); refine blk_put (cs := #[.int .i64 t353, .int .i64 t354, .string t355, .slice A0_3 l0_3.length c0_3, .slice A0_4 l0_4.length c0_4]) ?_ 3 _ rfl; (with_reducible repeat (first | refine blk_drewN ?_ _ | refine blk_drew ?_ | refine blk_alloc ?_ _)); refine blk_put (cs := #[.int .i64 t353, .int .i64 t354, .string a0_2, .slice A0_3 l0_3.length c0_3, .slice A0_4 l0_4.length c0_4]) ?_ 2 _ rfl; (with_reducible repeat (first | refine blk_drewN ?_ _ | refine blk_drew ?_ | refine blk_alloc ?_ _)); refine blk_put (cs := #[.int .i64 t353, .int .i64 a0_1, .string a0_2, .slice A0_3 l0_3.length c0_3, .slice A0_4 l0_4.length c0_4]) ?_ 1 _ rfl; (with_reducible repeat (first | refine blk_drewN ?_ _ | refine blk_drew ?_ | refine blk_alloc ?_ _)); refine blk_put (cs := #[.int .i64 a0_0, .int .i64 a0_1, .string a0_2, .slice A0_3 l0_3.length c0_3, .slice A0_4 l0_4.length c0_4]) ?_ 0 _ rfl; (with_reducible repeat (first | refine blk_drewN ?_ _ | refine blk_drew ?_ | refine blk_alloc ?_ _)); exact BK351.out))⟩; have n3_ : Aside0 (Below w.heap.size w w19) := ⟨(by rw [hw]; exact (by repeat (first | (with_reducible first | exact HB.out | apply below_alloc | apply pw_below_drewN | apply below_drew1 | refine below_set ?_ GE351.out) | exact HB.out)))⟩; clear hw; clear HO358; clear HO361; clear BK351; clear HB; have HO358 := n0_; have HO361 := n1_; have BK351 := n2_; have HB := n3_; clear n0_ n1_ n2_ n3_; have hcz20_0 : w19.cell? ⟨gb351, 0, none⟩ = some (.int .i64 t353) := (blk_cell BK351.out 0).trans rfl; have hcz20_1 : w19.cell? ⟨gb351, 1, none⟩ = some (.int .i64 t354) := (blk_cell BK351.out 1).trans rfl; have hcz20_2 : w19.cell? ⟨gb351, 2, none⟩ = some (.string t355) := (blk_cell BK351.out 2).trans rfl; have hcz20_3 : w19.cell? ⟨gb351, 3, none⟩ = some (.slice Ao17 t356.length co17) := (blk_cell BK351.out 3).trans rfl; have hcz20_4 : w19.cell? ⟨gb351, 4, none⟩ = some (.slice Ao18 t359.length co18) := (blk_cell BK351.out 4).trans rfl; have hfz20_0 := blk_frozen BK351.out 0; have hfz20_1 := blk_frozen BK351.out 1; have hfz20_2 := blk_frozen BK351.out 2; have hfz20_3 := blk_frozen BK351.out 3; have hfz20_4 := blk_frozen BK351.out 4) | ((with_reducible refine gate_callee (f := 17) rfl ?_); refine goesL_ (some 14) rfl rfl Tryd.func17 (by kernel_rfl) rfl #[.agg #[.int .i64 t353, .int .i64 t354, .string t355, .slice Ao17 t356.length co17, .slice Ao18 t359.length co18], .string (⟨#[116, 97, 114, 103, 101, 116]⟩ : ByteArray)] rfl (by (try simp only [List.map_toArray, List.map_cons, List.map_nil]); first | done | rfl | (simp only [List.length_drop, List.length_take]; rfl)) ?_; (with_reducible refine (spec_Get.calls k t353 t354 t355 _ _ t356 (fun k_ => (some k_ ≠ (.slice Ao17 t356.length co17 : Value).ownBlock ∧ k_ ≠ gb351)) _ _ t359 (⟨#[116, 97, 114, 103, 101, 116]⟩ : ByteArray) t362 t363 t364 t365 t368 t371 _ ?side1 ?side2 ?side3 A5.out).mono ?_); (case side1 => repeat (first | exact (Kd.R_reads' HO358.out).2.2 | (with_reducible refine Kd.C_alloc ?_ _) | (with_reducible refine Kd.C_drewN ?_ _) | (with_reducible refine Kd.C_drew ?_))); (case side2 => exact (Kd.R_reads' HO358.out).2.1); (case side3 => exact Kd.N_V (HO361.out)); rintro e w21 ⟨v366, v369, rfl, ho0, ho1, hb⟩; refine ⟨_, rfl, ?_⟩; have n0_ := Aside0.mk (Kd.R_below (by (with_reducible repeat (first | apply Kd.R_alloc | apply Kd.R_drewN | apply Kd.R_drew)); exact HO358.out) hb); have n1_ := Aside0.mk (Kd.N_below (by (with_reducible repeat (first | apply Kd.N_alloc | apply Kd.N_drewN | apply Kd.N_drew)); exact HO361.out) hb); have n2_ := Aside0.mk (Kd.V_lower (Kd.V_mono (ok' := fun k_ => some k_ ≠ (.slice Ao17 t356.length co17 : Value).ownBlock ∧ k_ ≠ gb351) ho0 (fun k_ hk_ => ⟨Or.elim hk_ (fun hs_ => hs_.1) (fun hn_ => (Kd.fresh' (Kd.R_lt (by (with_reducible repeat (first | apply Kd.R_alloc | apply Kd.R_drewN | apply Kd.R_drew)); exact HO358.out)) k_ hn_)), Or.elim hk_ (fun hs_ => hs_.2) (fun hn_ => (Kd.freshB (g := gb351) (o := .cells #[.int .i64 t353, .int .i64 t354, .string t355, .slice Ao17 t356.length co17, .slice Ao18 t359.length co18] 32 (0, 0)) (by (with_reducible repeat (first | refine blk_drewN ?_ _ | refine blk_drew ?_ | refine blk_alloc ?_ _)); exact BK351.out) k_ hn_))⟩)) (below_size (by repeat (first | (with_reducible first | exact HB.out | apply below_alloc | apply pw_below_drewN | apply below_drew1 | refine below_set ?_ GE351.out) | exact HB.out)))); have n3_ := Aside0.mk (Kd.V_lower (Kd.V_mono (ok' := fun k_ => some k_ ≠ (.slice Ao17 t356.length co17 : Value).ownBlock ∧ k_ ≠ gb351) ho1 (fun k_ hk_ => ⟨Or.elim hk_ (fun hs_ => hs_.1) (fun hn_ => (Kd.fresh' (Kd.R_lt (by (with_reducible repeat (first | apply Kd.R_alloc | apply Kd.R_drewN | apply Kd.R_drew)); exact HO358.out)) k_ hn_)), Or.elim hk_ (fun hs_ => hs_.2) (fun hn_ => (Kd.freshB (g := gb351) (o := .cells #[.int .i64 t353, .int .i64 t354, .string t355, .slice Ao17 t356.length co17, .slice Ao18 t359.length co18] 32 (0, 0)) (by (with_reducible repeat (first | refine blk_drewN ?_ _ | refine blk_drew ?_ | refine blk_alloc ?_ _)); exact BK351.out) k_ hn_))⟩)) (below_size (by repeat (first | (with_reducible first | exact HB.out | apply below_alloc | apply pw_below_drewN | apply below_drew1 | refine below_set ?_ GE351.out) | exact HB.out)))); have n4_ := Aside0.mk (blk_below (g := gb351) (o := .cells #[.int .i64 t353, .int .i64 t354, .string t355, .slice Ao17 t356.length co17, .slice Ao18 t359.length co18] 32 (0, 0)) (by (with_reducible repeat (first | refine blk_drewN ?_ _ | refine blk_drew ?_ | refine blk_alloc ?_ _)); exact BK351.out) hb); have n5_ := Aside0.mk (below_step (by repeat (first | (with_reducible first | exact HB.out | apply below_alloc | apply pw_below_drewN | apply below_drew1 | refine below_set ?_ GE351.out) | exact HB.out)) hb); clear HO358; clear HO361; clear BK351; clear HB; have HO358 := n0_; have HO361 := n1_; have HO367 := n2_; have HO370 := n3_; have BK351 := n4_; have HB := n5_; clear n0_ n1_ n2_ n3_ n4_ n5_; (try clear hb); (try clear hb2); (try clear hk); (try clear hi); (try clear ho0); (try clear ho1)) | ((with_reducible refine gate_dst (N := 3) rfl ?_); refine box_event ?hg (N := 3) ?hd (cs := #[.int .i64 0, .int .i64 0, .string (⟨#[]⟩ : ByteArray), .slice none 0 0, .slice none 0 0]) (t := 32) ?hr ?_; (case hd => rfl); (case hg => rfl); (case hr => first | (go_simp; done) | (go_simp; rfl)); intro gb372 hg w22 hbox hb; have n0_ := Aside0.mk (Kd.R_below (by (with_reducible repeat (first | apply Kd.R_alloc | apply Kd.R_drewN | apply Kd.R_drew)); exact HO358.out) hb); have n1_ := Aside0.mk (Kd.N_below (Kd.N_elderB (by (with_reducible repeat (first | apply Kd.N_alloc | apply Kd.N_drewN | apply Kd.N_drew)); exact HO361.out) gb372 (Nat.le_of_eq hg.symm)) hb); have n2_ := Aside0.mk (Kd.V_below (Kd.V_elderB (by (with_reducible repeat (first | apply Kd.V_alloc | apply Kd.V_drewN | apply Kd.V_drew)); exact HO367.out) gb372 (Nat.le_of_eq hg.symm)) hb); have n3_ := Aside0.mk (Kd.V_below (Kd.V_elderB (by (with_reducible repeat (first | apply Kd.V_alloc | apply Kd.V_drewN | apply Kd.V_drew)); exact HO370.out) gb372 (Nat.le_of_eq hg.symm)) hb); have n4_ := Aside0.mk (blk_below (g := gb351) (o := .cells #[.int .i64 t353, .int .i64 t354, .string t355, .slice Ao17 t356.length co17, .slice Ao18 t359.length co18] 32 (0, 0)) (by (with_reducible repeat (first | refine blk_drewN ?_ _ | refine blk_drew ?_ | refine blk_alloc ?_ _)); exact BK351.out) hb); have n5_ := Aside0.mk (below_step (by repeat (first | (with_reducible first | exact HB.out | apply below_alloc | apply pw_below_drewN | apply below_drew1 | refine below_set ?_ GE351.out) | exact HB.out)) hb); have n6_ := Aside0.mk (hbox); have n7_ := Aside0.mk ((by rw [hg]; exact (below_size (by repeat (first | (with_reducible first | exact HB.out | apply below_alloc | apply pw_below_drewN | apply below_drew1 | refine below_set ?_ GE351.out) | exact HB.out))) : w.heap.size ≤ gb372)); have n8_ := Aside0.mk ((by rw [hg]; exact (below_size (by repeat (first | (with_reducible first | exact HB.out | apply below_alloc | apply pw_below_drewN | apply below_drew1 | refine below_set ?_ GE351.out) | exact HB.out))) : w.heap.size ≤ gb372)); have n9_ := Aside0.mk ((by rw [hg]; exact Nat.ne_of_lt (blk_lt (g := gb351) (o := .cells #[.int .i64 t353, .int .i64 t354, .string t355, .slice Ao17 t356.length co17, .slice Ao18 t359.length co18] 32 (0, 0)) (by (with_reducible repeat (first | refine blk_drewN ?_ _ | refine blk_drew ?_ | refine blk_alloc ?_ _)); exact BK351.out)) : gb351 ≠ gb372)); have n10_ := Aside0.mk ((by rw [hg]; exact Nat.ne_of_gt (blk_lt (g := gb351) (o := .cells #[.int .i64 t353, .int .i64 t354, .string t355, .slice Ao17 t356.length co17, .slice Ao18 t359.length co18] 32 (0, 0)) (by (with_reducible repeat (first | refine blk_drewN ?_ _ | refine blk_drew ?_ | refine blk_alloc ?_ _)); exact BK351.out)) : gb372 ≠ gb351)); clear HO358; clear HO361; clear HO367; clear HO370; clear BK351; clear HB; have HO358 := n0_; have HO361 := n1_; have HO367 := n2_; have HO370 := n3_; have BK351 := n4_; have HB := n5_; have BK372 := n6_; have GW372 := n7_; have GE372 := n8_; have NB351_372 := n9_; have NB372_351 := n10_; clear n0_ n1_ n2_ n3_ n4_ n5_ n6_ n7_ n8_ n9_ n10_; clear hb hbox hg; have hnb23 := NB372_351.out; have hnc23 := NB351_372.out; have hcz24_0 : w22.cell? ⟨gb372, 0, none⟩ = some (.int .i64 0) := (blk_cell BK372.out 0).trans rfl; have hcz24_1 : w22.cell? ⟨gb372, 1, none⟩ = some (.int .i64 0) := (blk_cell BK372.out 1).trans rfl; have hcz24_2 : w22.cell? ⟨gb372, 2, none⟩ = some (.string (⟨#[]⟩ : ByteArray)) := (blk_cell BK372.out 2).trans rfl; have hcz24_3 : w22.cell? ⟨gb372, 3, none⟩ = some (.slice none 0 0) := (blk_cell BK372.out 3).trans rfl; have hcz24_4 : w22.cell? ⟨gb372, 4, none⟩ = some (.slice none 0 0) := (blk_cell BK372.out 4).trans rfl; have hfz24_0 := blk_frozen BK372.out 0; have hfz24_1 := blk_frozen BK372.out 1; have hfz24_2 := blk_frozen BK372.out 2; have hfz24_3 := blk_frozen BK372.out 3; have hfz24_4 := blk_frozen BK372.out 4; obtain ⟨Ao25, co25, eo25⟩ := Kd.V_slice HO367.out; subst eo25; obtain ⟨Ao26, co26, eo26⟩ := Kd.V_slice HO370.out; subst eo26) | ((with_reducible refine gate_store (t := 32) (p := 3) rfl ?_); refine store_event (t := 32) (p := 3) (v := ?vo_w27) (w1 := (((((w22.setCell ⟨gb372, 0, none⟩ (.int .i64 t362)).setCell ⟨gb372, 1, none⟩ (.int .i64 t363)).setCell ⟨gb372, 2, none⟩ (.string t364)).setCell ⟨gb372, 3, none⟩ (.slice Ao25 t365.length co25)).setCell ⟨gb372, 4, none⟩ (.slice Ao26 t368.length co26))) ?hg ?ho ?hn ?hr ?_; (case ho => rfl); (case hg => rfl); (case hn => rfl); (case hr => first | (go_simp; done) | (go_simp; rfl)); intro w27 hw; have n0_ : Aside0 (Kd.R Kd.string 9 w27 w.heap.size (fun _ => True) (.slice Ao17 t356.length co17) t356) := ⟨(by rw [hw]; exact (by (with_reducible repeat (first | apply Kd.R_alloc | apply Kd.R_drewN | apply Kd.R_drew)); exact Kd.R_mono (Kd.R_far (p := ⟨gb372, 4, none⟩) (Kd.R_far (p := ⟨gb372, 3, none⟩) (Kd.R_far (p := ⟨gb372, 2, none⟩) (Kd.R_far (p := ⟨gb372, 1, none⟩) (Kd.R_far (p := ⟨gb372, 0, none⟩) (Kd.R_types HO358.out BK372.out (by decide)) (fun _ hk => hk.2) (.int .i64 t362)) (fun _ hk => hk.2) (.int .i64 t363)) (fun _ hk => hk.2) (.string t364)) (fun _ hk => hk.2) (.slice Ao25 t365.length co25)) (fun _ hk => hk.2) (.slice Ao26 t368.length co26)) (fun _ hk => trivial)))⟩; have n1_ : Aside0 (Kd.N k32 32 w27 w.heap.size (fun k_ => some k_ ≠ (.slice Ao17 t356.length co17 : Value).ownBlock ∧ k_ ≠ gb351 ∧ k_ ≠ gb372) (.slice Ao18 t359.length co18) t359) := ⟨(by rw [hw]; exact (by (with_reducible repeat (first | apply Kd.N_alloc | apply Kd.N_drewN | apply Kd.N_drew)); exact Kd.N_mono (Kd.N_far (p := ⟨gb372, 4, none⟩) (Kd.N_far (p := ⟨gb372, 3, none⟩) (Kd.N_far (p := ⟨gb372, 2, none⟩) (Kd.N_far (p := ⟨gb372, 1, none⟩) (Kd.N_far (p := ⟨gb372, 0, none⟩) (Kd.N_mono HO361.out (fun k_ hk => (⟨hk, hk.2⟩ : _ ∧ k_ ≠ gb372))) (fun _ hk => hk.2) (.int .i64 t362)) (fun _ hk => hk.2) (.int .i64 t363)) (fun _ hk => hk.2) (.string t364)) (fun _ hk => hk.2) (.slice Ao25 t365.length co25)) (fun _ hk => hk.2) (.slice Ao26 t368.length co26)) (fun _ hk => ⟨hk.1.1.1, ⟨hk.1.1.2, hk.1.2⟩⟩)))⟩; have n2_ : Aside0 (Kd.V Kd.string 9 w27 w.heap.size (fun k_ => some k_ ≠ (.slice Ao17 t356.length co17 : Value).ownBlock ∧ k_ ≠ gb351 ∧ k_ ≠ gb372) (.slice Ao25 t365.length co25) t365) := ⟨(by rw [hw]; exact (by (with_reducible repeat (first | apply Kd.V_alloc | apply Kd.V_drewN | apply Kd.V_drew)); exact Kd.V_mono (Kd.V_far (p := ⟨gb372, 4, none⟩) (Kd.V_far (p := ⟨gb372, 3, none⟩) (Kd.V_far (p := ⟨gb372, 2, none⟩) (Kd.V_far (p := ⟨gb372, 1, none⟩) (Kd.V_far (p := ⟨gb372, 0, none⟩) (Kd.V_mono HO367.out (fun k_ hk => (⟨hk, hk.2⟩ : _ ∧ k_ ≠ gb372))) (fun _ hk => hk.2) (.int .i64 t362)) (fun _ hk => hk.2) (.int .i64 t363)) (fun _ hk => hk.2) (.string t364)) (fun _ hk => hk.2) (.slice Ao25 t365.length co25)) (fun _ hk => hk.2) (.slice Ao26 t368.length co26)) (fun _ hk => ⟨hk.1.1.1, ⟨hk.1.1.2, hk.1.2⟩⟩)))⟩; have n3_ : Aside0 (Kd.V k32 32 w27 w.heap.size (fun k_ => some k_ ≠ (.slice Ao17 t356.length co17 : Value).ownBlock ∧ k_ ≠ gb351 ∧ k_ ≠ gb372) (.slice Ao26 t368.length co26) t368) := ⟨(by rw [hw]; exact (by (with_reducible repeat (first | apply Kd.V_alloc | apply Kd.V_drewN | apply Kd.V_drew)); exact Kd.V_mono (Kd.V_far (p := ⟨gb372, 4, none⟩) (Kd.V_far (p := ⟨gb372, 3, none⟩) (Kd.V_far (p := ⟨gb372, 2, none⟩) (Kd.V_far (p := ⟨gb372, 1, none⟩) (Kd.V_far (p := ⟨gb372, 0, none⟩) (Kd.V_mono HO370.out (fun k_ hk => (⟨hk, hk.2⟩ : _ ∧ k_ ≠ gb372))) (fun _ hk => hk.2) (.int .i64 t362)) (fun _ hk => hk.2) (.int .i64 t363)) (fun _ hk => hk.2) (.string t364)) (fun _ hk => hk.2) (.slice Ao25 t365.length co25)) (fun _ hk => hk.2) (.slice Ao26 t368.length co26)) (fun _ hk => ⟨hk.1.1.1, ⟨hk.1.1.2, hk.1.2⟩⟩)))⟩; have n4_ : Aside0 (w27.heap[gb351]? = some (.cells #[.int .i64 t353, .int .i64 t354, .string t355, .slice Ao17 t356.length co17, .slice Ao18 t359.length co18] 32 (0, 0))) := ⟨(by rw [hw]; exact (by (with_reducible repeat (first | refine blk_drewN ?_ _ | refine blk_drew ?_ | refine blk_alloc ?_ _)); refine blk_far ?_ NB351_372.out _; (with_reducible repeat (first | refine blk_drewN ?_ _ | refine blk_drew ?_ | refine blk_alloc ?_ _)); refine blk_far ?_ NB351_372.out _; (with_reducible repeat (first | refine blk_drewN ?_ _ | refine blk_drew ?_ | refine blk_alloc ?_ _)); refine blk_far ?_ NB351_372.out _; (with_reducible repeat (first | refine blk_drewN ?_ _ | refine blk_drew ?_ | refine blk_alloc ?_ _)); refine blk_far ?_ NB351_372.out _; (with_reducible repeat (first | refine blk_drewN ?_ _ | refine blk_drew ?_ | refine blk_alloc ?_ _)); refine blk_far ?_ NB351_372.out _; (with_reducible repeat (first | refine blk_drewN ?_ _ | refine blk_drew ?_ | refine blk_alloc ?_ _)); exact BK351.out))⟩; have n5_ : Aside0 (w27.heap[gb372]? = some (.cells #[.int .i64 t362, .int .i64 t363, .string t364, .slice Ao25 t365.length co25, .slice Ao26 t368.length co26] 32 (0, 0))) := ⟨(by rw [hw]; exact (by (with_reducible repeat (first | refine blk_drewN ?_ _ | refine blk_drew ?_ | refine blk_alloc ?_ _)); refine blk_put (cs := #[.int .i64 t362, .int .i64 t363, .string t364, .slice Ao25 t365.length co25, .slice none 0 0]) ?_ 4 _ rfl; (with_reducible repeat (first | refine blk_drewN ?_ _ | refine blk_drew ?_ | refine blk_alloc ?_ _)); refine blk_put (cs := #[.int .i64 t362, .int .i64 t363, .string t364, .slice none 0 0, .slice none 0 0]) ?_ 3 _ rfl; (with_reducible repeat (first | refine blk_drewN ?_ _ | refine blk_drew ?_ | refine blk_alloc ?_ _)); refine blk_put (cs := #[.int .i64 t362, .int .i64 t363, .string (⟨#[]⟩ : ByteArray), .slice none 0 0, .slice none 0 0]) ?_ 2 _ rfl; (with_reducible repeat (first | refine blk_drewN ?_ _ | refine blk_drew ?_ | refine blk_alloc ?_ _)); refine blk_put (cs := #[.int .i64 t362, .int .i64 0, .string (⟨#[]⟩ : ByteArray), .slice none 0 0, .slice none 0 0]) ?_ 1 _ rfl; (with_reducible repeat (first | refine blk_drewN ?_ _ | refine blk_drew ?_ | refine blk_alloc ?_ _)); refine blk_put (cs := #[.int .i64 0, .int .i64 0, .string (⟨#[]⟩ : ByteArray), .slice none 0 0, .slice none 0 0]) ?_ 0 _ rfl; (with_reducible repeat (first | refine blk_drewN ?_ _ | refine blk_drew ?_ | refine blk_alloc ?_ _)); exact BK372.out))⟩; have n6_ : Aside0 (Below w.heap.size w w27) := ⟨(by rw [hw]; exact (by repeat (first | (with_reducible first | exact HB.out | apply below_alloc | apply pw_below_drewN | apply below_drew1 | refine below_set ?_ GE351.out | refine below_set ?_ GE372.out) | exact HB.out)))⟩; clear hw; clear HO358; clear HO361; clear HO367; clear HO370; clear BK351; clear BK372; clear HB; have HO358 := n0_; have HO361 := n1_; have HO367 := n2_; have HO370 := n3_; have BK351 := n4_; have BK372 := n5_; have HB := n6_; clear n0_ n1_ n2_ n3_ n4_ n5_ n6_; have hcz28_0 : w27.cell? ⟨gb351, 0, none⟩ = some (.int .i64 t353) := (blk_cell BK351.out 0).trans rfl; have hcz28_1 : w27.cell? ⟨gb351, 1, none⟩ = some (.int .i64 t354) := (blk_cell BK351.out 1).trans rfl; have hcz28_2 : w27.cell? ⟨gb351, 2, none⟩ = some (.string t355) := (blk_cell BK351.out 2).trans rfl; have hcz28_3 : w27.cell? ⟨gb351, 3, none⟩ = some (.slice Ao17 t356.length co17) := (blk_cell BK351.out 3).trans rfl; have hcz28_4 : w27.cell? ⟨gb351, 4, none⟩ = some (.slice Ao18 t359.length co18) := (blk_cell BK351.out 4).trans rfl; have hfz28_0 := blk_frozen BK351.out 0; have hfz28_1 := blk_frozen BK351.out 1; have hfz28_2 := blk_frozen BK351.out 2; have hfz28_3 := blk_frozen BK351.out 3; have hfz28_4 := blk_frozen BK351.out 4) | ((with_reducible refine gate_callee (f := 18) rfl ?_); refine goesL_ (some 18) rfl rfl Tryd.func18 (by kernel_rfl) rfl #[.agg #[.int .i64 t353, .int .i64 t354, .string t355, .slice Ao17 t356.length co17, .slice Ao18 t359.length co18]] rfl (by (try simp only [List.map_toArray, List.map_cons, List.map_nil]); first | done | rfl | (simp only [List.length_drop, List.length_take]; rfl)) ?_; (with_reducible refine (spec_PartMount.calls k t353 t354 t355 (fun k_ => some k_ = (.slice Ao17 t356.length co17 : Value).ownBlock) _ _ t356 (fun k_ => (some k_ ≠ (.slice Ao17 t356.length co17 : Value).ownBlock ∧ (k_ ≠ gb351 ∧ k_ ≠ gb372))) _ _ t359 true _ ?side1 ?side2 A6.out).mono ?_); (case side1 => exact Kd.R_V (Kd.R_tight rfl (Kd.R_types (Kd.R_types (Kd.R_apart' (HO358.out) (Kd.N_typed HO361.out) (by decide)) BK351.out (by decide)) BK372.out (by decide)))); (case side2 => exact Kd.N_V (HO361.out)); rintro e w29 ⟨rfl, hb⟩; refine ⟨_, rfl, ?_⟩; have n0_ := Aside0.mk (Kd.R_below (by (with_reducible repeat (first | apply Kd.R_alloc | apply Kd.R_drewN | apply Kd.R_drew)); exact HO358.out) hb); have n1_ := Aside0.mk (Kd.N_below (by (with_reducible repeat (first | apply Kd.N_alloc | apply Kd.N_drewN | apply Kd.N_drew)); exact HO361.out) hb); have n2_ := Aside0.mk (Kd.V_below (by (with_reducible repeat (first | apply Kd.V_alloc | apply Kd.V_drewN | apply Kd.V_drew)); exact HO367.out) hb); have n3_ := Aside0.mk (Kd.V_below (by (with_reducible repeat (first | apply Kd.V_alloc | apply Kd.V_drewN | apply Kd.V_drew)); exact HO370.out) hb); have n4_ := Aside0.mk (blk_below (g := gb351) (o := .cells #[.int .i64 t353, .int .i64 t354, .string t355, .slice Ao17 t356.length co17, .slice Ao18 t359.length co18] 32 (0, 0)) (by (with_reducible repeat (first | refine blk_drewN ?_ _ | refine blk_drew ?_ | refine blk_alloc ?_ _)); exact BK351.out) hb); have n5_ := Aside0.mk (blk_below (g := gb372) (o := .cells #[.int .i64 t362, .int .i64 t363, .string t364, .slice Ao25 t365.length co25, .slice Ao26 t368.length co26] 32 (0, 0)) (by (with_reducible repeat (first | refine blk_drewN ?_ _ | refine blk_drew ?_ | refine blk_alloc ?_ _)); exact BK372.out) hb); have n6_ := Aside0.mk (below_step (by repeat (first | (with_reducible first | exact HB.out | apply below_alloc | apply pw_below_drewN | apply below_drew1 | refine below_set ?_ GE351.out | refine below_set ?_ GE372.out) | exact HB.out)) hb); clear HO358; clear HO361; clear HO367; clear HO370; clear BK351; clear BK372; clear HB; have HO358 := n0_; have HO361 := n1_; have HO367 := n2_; have HO370 := n3_; have BK351 := n4_; have BK372 := n5_; have HB := n6_; clear n0_ n1_ n2_ n3_ n4_ n5_ n6_; (try clear hb); (try clear hb2); (try clear hk); (try clear hi); have hcz30_0 : w29.cell? ⟨gb351, 0, none⟩ = some (.int .i64 t353) := (blk_cell BK351.out 0).trans rfl; have hcz30_1 : w29.cell? ⟨gb351, 1, none⟩ = some (.int .i64 t354) := (blk_cell BK351.out 1).trans rfl; have hcz30_2 : w29.cell? ⟨gb351, 2, none⟩ = some (.string t355) := (blk_cell BK351.out 2).trans rfl; have hcz30_3 : w29.cell? ⟨gb351, 3, none⟩ = some (.slice Ao17 t356.length co17) := (blk_cell BK351.out 3).trans rfl; have hcz30_4 : w29.cell? ⟨gb351, 4, none⟩ = some (.slice Ao18 t359.length co18) := (blk_cell BK351.out 4).trans rfl; have hfz30_0 := blk_frozen BK351.out 0; have hfz30_1 := blk_frozen BK351.out 1; have hfz30_2 := blk_frozen BK351.out 2; have hfz30_3 := blk_frozen BK351.out 3; have hfz30_4 := blk_frozen BK351.out 4) | ((with_reducible refine gate_callee (f := 9) rfl ?_); refine goesL_ (some 22) rfl rfl Tryd.func9 (by kernel_rfl) rfl #[.agg #[.int .i64 t353, .int .i64 t354, .string t355, .slice Ao17 t356.length co17, .slice Ao18 t359.length co18]] rfl (by (try simp only [List.map_toArray, List.map_cons, List.map_nil]); first | done | rfl | (simp only [List.length_drop, List.length_take]; rfl)) ?_; (with_reducible refine (laws_to.calls k t353 t354 t355 _ _ t356 _ _ t359 t374 t375 t376 t377 t380 _ ?side1 ?side2 ?side3 ?side4 A8.out).mono ?_); (case side1 => repeat (first | exact (Kd.R_reads' HO358.out).2.2 | (with_reducible refine Kd.C_alloc ?_ _) | (with_reducible refine Kd.C_drewN ?_ _) | (with_reducible refine Kd.C_drew ?_))); (case side2 => exact (Kd.R_reads' HO358.out).2.1); (case side3 => repeat (first | exact (Kd.N_reads' HO361.out).2.2 | (with_reducible refine Kd.C_alloc ?_ _) | (with_reducible refine Kd.C_drewN ?_ _) | (with_reducible refine Kd.C_drew ?_))); (case side4 => exact (Kd.N_reads' HO361.out).2.1); rintro e w31 ⟨v378, v381, rfl, ho0, ho1, hb⟩; refine ⟨_, rfl, ?_⟩; have n0_ := Aside0.mk (Kd.R_elder' (by (with_reducible repeat (first | apply Kd.R_alloc | apply Kd.R_drewN | apply Kd.R_drew)); exact HO358.out) (Kd.R_base ho0) hb); have n1_ := Aside0.mk (Kd.N_mono (Kd.N_told (Kd.N_told (Kd.N_old (by (with_reducible repeat (first | apply Kd.N_alloc | apply Kd.N_drewN | apply Kd.N_drew)); exact HO361.out) hb) (Kd.R_base ho0)) (by first | exact Kd.N_base ho1 | exact Kd.R_base ho1)) (fun _ h_ => h_.1)); have n2_ := Aside0.mk (Kd.V_mono (Kd.V_told (Kd.V_told (Kd.V_old (by (with_reducible repeat (first | apply Kd.V_alloc | apply Kd.V_drewN | apply Kd.V_drew)); exact HO367.out) hb) (Kd.R_base ho0)) (by first | exact Kd.N_base ho1 | exact Kd.R_base ho1)) (fun _ h_ => h_.1)); have n3_ := Aside0.mk (Kd.V_mono (Kd.V_told (Kd.V_told (Kd.V_old (by (with_reducible repeat (first | apply Kd.V_alloc | apply Kd.V_drewN | apply Kd.V_drew)); exact HO370.out) hb) (Kd.R_base ho0)) (by first | exact Kd.N_base ho1 | exact Kd.R_base ho1)) (fun _ h_ => h_.1)); have n4_ := Aside0.mk (Kd.R_lower (Kd.R_new' ho0 (Kd.R_lt (by (with_reducible repeat (first | apply Kd.R_alloc | apply Kd.R_drewN | apply Kd.R_drew)); exact HO358.out))) (below_size (by repeat (first | (with_reducible first | exact HB.out | apply below_alloc | apply pw_below_drewN | apply below_drew1 | refine below_set ?_ GE351.out | refine below_set ?_ GE372.out) | exact HB.out)))); have n5_ := Aside0.mk (Kd.N_lower (Kd.N_mono (ok' := fun k_ => some k_ ≠ (v378 : Value).ownBlock ∧ some k_ ≠ (.slice Ao17 t356.length co17 : Value).ownBlock ∧ some k_ ≠ (.slice Ao18 t359.length co18 : Value).ownBlock ∧ k_ ≠ gb351 ∧ k_ ≠ gb372) (Kd.R_N (Kd.R_bound ho1)) (fun k_ hk_ => ⟨hk_.1, (Kd.fresh' (Kd.R_lt (by (with_reducible repeat (first | apply Kd.R_alloc | apply Kd.R_drewN | apply Kd.R_drew)); exact HO358.out)) k_ hk_.2.1), (Kd.fresh' (Kd.N_lt (by (with_reducible repeat (first | apply Kd.N_alloc | apply Kd.N_drewN | apply Kd.N_drew)); exact HO361.out)) k_ hk_.2.1), (Kd.freshB (g := gb351) (o := .cells #[.int .i64 t353, .int .i64 t354, .string t355, .slice Ao17 t356.length co17, .slice Ao18 t359.length co18] 32 (0, 0)) (by (with_reducible repeat (first | refine blk_drewN ?_ _ | refine blk_drew ?_ | refine blk_alloc ?_ _)); exact BK351.out) k_ hk_.2.1), (Kd.freshB (g := gb372) (o := .cells #[.int .i64 t362, .int .i64 t363, .string t364, .slice Ao25 t365.length co25, .slice Ao26 t368.length co26] 32 (0, 0)) (by (with_reducible repeat (first | refine blk_drewN ?_ _ | refine blk_drew ?_ | refine blk_alloc ?_ _)); exact BK372.out) k_ hk_.2.1)⟩)) (below_size (by repeat (first | (with_reducible first | exact HB.out | apply below_alloc | apply pw_below_drewN | apply below_drew1 | refine below_set ?_ GE351.out | refine below_set ?_ GE372.out) | exact HB.out)))); have n6_ := Aside0.mk (blk_below (g := gb351) (o := .cells #[.int .i64 t353, .int .i64 t354, .string t355, .slice Ao17 t356.length co17, .slice Ao18 t359.length co18] 32 (0, 0)) (by (with_reducible repeat (first | refine blk_drewN ?_ _ | refine blk_drew ?_ | refine blk_alloc ?_ _)); exact BK351.out) hb); have n7_ := Aside0.mk (blk_below (g := gb372) (o := .cells #[.int .i64 t362, .int .i64 t363, .string t364, .slice Ao25 t365.length co25, .slice Ao26 t368.length co26] 32 (0, 0)) (by (with_reducible repeat (first | refine blk_drewN ?_ _ | refine blk_drew ?_ | refine blk_alloc ?_ _)); exact BK372.out) hb); have n8_ := Aside0.mk (below_step (by repeat (first | (with_reducible first | exact HB.out | apply below_alloc | apply pw_below_drewN | apply below_drew1 | refine below_set ?_ GE351.out | refine below_set ?_ GE372.out) | exact HB.out)) hb); clear HO358; clear HO361; clear HO367; clear HO370; clear BK351; clear BK372; clear HB; have HO358 := n0_; have HO361 := n1_; have HO367 := n2_; have HO370 := n3_; have HO379 := n4_; have HO382 := n5_; have BK351 := n6_; have BK372 := n7_; have HB := n8_; clear n0_ n1_ n2_ n3_ n4_ n5_ n6_ n7_ n8_; (try clear hb); (try clear hb2); (try clear hk); (try clear hi); (try clear ho0); (try clear ho1); obtain ⟨Ao32, co32, eo32⟩ := Kd.R_slice HO379.out; subst eo32; obtain ⟨Ao33, co33, eo33⟩ := Kd.N_slice HO382.out; subst eo33) | ((with_reducible refine gate_callee (f := 19) rfl ?_); refine goesL_ (some 23) rfl rfl Tryd.func19 (by kernel_rfl) rfl #[.agg #[.int .i64 t374, .int .i64 t375, .string t376, .slice Ao32 t377.length co32, .slice Ao33 t380.length co33]] rfl (by (try simp only [List.map_toArray, List.map_cons, List.map_nil]); first | done | rfl | (simp only [List.length_drop, List.length_take]; rfl)) ?_; (with_reducible refine (impl_IndexVolume.calls t374 t375 t376 _ _ t377 _ _ t380 t383 t384 _ ?side1 ?side2 ?side3 ?side4 A9.out).mono ?_); (case side1 => repeat (first | exact (Kd.R_reads' HO379.out).2.2 | (with_reducible refine Kd.C_alloc ?_ _) | (with_reducible refine Kd.C_drewN ?_ _) | (with_reducible refine Kd.C_drew ?_))); (case side2 => exact (Kd.R_reads' HO379.out).2.1); (case side3 => repeat (first | exact (Kd.N_reads' HO382.out).2.2 | (with_reducible refine Kd.C_alloc ?_ _) | (with_reducible refine Kd.C_drewN ?_ _) | (with_reducible refine Kd.C_drew ?_))); (case side4 => exact (Kd.N_reads' HO382.out).2.1); rintro e w34 ⟨rfl, hb⟩; refine ⟨_, rfl, ?_⟩; have n0_ := Aside0.mk (Kd.R_below (by (with_reducible repeat (first | apply Kd.R_alloc | apply Kd.R_drewN | apply Kd.R_drew)); exact HO358.out) hb); have n1_ := Aside0.mk (Kd.N_below (by (with_reducible repeat (first | apply Kd.N_alloc | apply Kd.N_drewN | apply Kd.N_drew)); exact HO361.out) hb); have n2_ := Aside0.mk (Kd.V_below (by (with_reducible repeat (first | apply Kd.V_alloc | apply Kd.V_drewN | apply Kd.V_drew)); exact HO367.out) hb); have n3_ := Aside0.mk (Kd.V_below (by (with_reducible repeat (first | apply Kd.V_alloc | apply Kd.V_drewN | apply Kd.V_drew)); exact HO370.out) hb); have n4_ := Aside0.mk (Kd.R_below (by (with_reducible repeat (first | apply Kd.R_alloc | apply Kd.R_drewN | apply Kd.R_drew)); exact HO379.out) hb); have n5_ := Aside0.mk (Kd.N_below (by (with_reducible repeat (first | apply Kd.N_alloc | apply Kd.N_drewN | apply Kd.N_drew)); exact HO382.out) hb); have n6_ := Aside0.mk (blk_below (g := gb351) (o := .cells #[.int .i64 t353, .int .i64 t354, .string t355, .slice Ao17 t356.length co17, .slice Ao18 t359.length co18] 32 (0, 0)) (by (with_reducible repeat (first | refine blk_drewN ?_ _ | refine blk_drew ?_ | refine blk_alloc ?_ _)); exact BK351.out) hb); have n7_ := Aside0.mk (blk_below (g := gb372) (o := .cells #[.int .i64 t362, .int .i64 t363, .string t364, .slice Ao25 t365.length co25, .slice Ao26 t368.length co26] 32 (0, 0)) (by (with_reducible repeat (first | refine blk_drewN ?_ _ | refine blk_drew ?_ | refine blk_alloc ?_ _)); exact BK372.out) hb); have n8_ := Aside0.mk (below_step (by repeat (first | (with_reducible first | exact HB.out | apply below_alloc | apply pw_below_drewN | apply below_drew1 | refine below_set ?_ GE351.out | refine below_set ?_ GE372.out) | exact HB.out)) hb); clear HO358; clear HO361; clear HO367; clear HO370; clear HO379; clear HO382; clear BK351; clear BK372; clear HB; have HO358 := n0_; have HO361 := n1_; have HO367 := n2_; have HO370 := n3_; have HO379 := n4_; have HO382 := n5_; have BK351 := n6_; have BK372 := n7_; have HB := n8_; clear n0_ n1_ n2_ n3_ n4_ n5_ n6_ n7_ n8_; (try clear hb); (try clear hb2); (try clear hk); (try clear hi); have hcz35_0 : w34.cell? ⟨gb372, 0, none⟩ = some (.int .i64 t362) := (blk_cell BK372.out 0).trans rfl; have hcz35_1 : w34.cell? ⟨gb372, 1, none⟩ = some (.int .i64 t363) := (blk_cell BK372.out 1).trans rfl; have hcz35_2 : w34.cell? ⟨gb372, 2, none⟩ = some (.string t364) := (blk_cell BK372.out 2).trans rfl; have hcz35_3 : w34.cell? ⟨gb372, 3, none⟩ = some (.slice Ao25 t365.length co25) := (blk_cell BK372.out 3).trans rfl; have hcz35_4 : w34.cell? ⟨gb372, 4, none⟩ = some (.slice Ao26 t368.length co26) := (blk_cell BK372.out 4).trans rfl; have hfz35_0 := blk_frozen BK372.out 0; have hfz35_1 := blk_frozen BK372.out 1; have hfz35_2 := blk_frozen BK372.out 2; have hfz35_3 := blk_frozen BK372.out 3; have hfz35_4 := blk_frozen BK372.out 4) | ((with_reducible refine gate_callee (f := 20) rfl ?_); refine goesL_ (some 30) rfl rfl Tryd.func20 (by kernel_rfl) rfl #[.string t383, .bool t384, .string t364] rfl (by (try simp only [List.map_toArray, List.map_cons, List.map_nil]); first | done | rfl | (simp only [List.length_drop, List.length_take]; rfl)) ?_; (with_reducible refine (laws_partIndex.calls t383 t384 t364 t385 _ A10.out).mono ?_); rintro e w' ⟨rfl, ⟨nd, rfl⟩⟩; refine ⟨_, rfl, ?_⟩))
   go_ret
   exact ⟨by first | rfl | (simp [errW_none, errW_some] <;> rfl) | (simp [*, errW_none, errW_some] <;> rfl), by repeat (first | (with_reducible first | exact HB.out | apply below_alloc | apply pw_below_drewN | apply below_drew1 | refine below_set ?_ GE351.out | refine below_set ?_ GE372.out) | exact HB.out)⟩
  ·replace c7 := Bool.eq_false_iff.mpr c7
   subst c7
   have H1 : (some true) = some r := by rw [if_neg (show ¬ (false = true) by decide)] at H; exact H
   clear H
   have H := H1
   clear H1
   obtain rfl := Option.some.inj H
   go_enter Tryd.func5, Tryd.ntmps5
   go_wp2_with (first | ((with_reducible refine gate_dst (N := 1) rfl ?_); refine box_event ?hg (N := 1) ?hd (cs := #[.int .i64 a0_0, .int .i64 a0_1, .string a0_2, .slice A0_3 l0_3.length c0_3, .slice A0_4 l0_4.length c0_4]) (t := 32) ?hr ?_; (case hd => rfl); (case hg => rfl); (case hr => first | (go_simp; done) | (go_simp; rfl)); intro gb351 hg w36 hbox hb; have n0_ := Aside0.mk (below_step (by repeat (first | (with_reducible first | exact HB.out | apply below_alloc | apply pw_below_drewN | apply below_drew1) | exact HB.out)) hb); have n1_ := Aside0.mk (hbox); have n2_ := Aside0.mk ((by rw [hg]; exact (below_size (by repeat (first | (with_reducible first | exact HB.out | apply below_alloc | apply pw_below_drewN | apply below_drew1) | exact HB.out))) : w.heap.size ≤ gb351)); have n3_ := Aside0.mk ((by rw [hg]; exact (below_size (by repeat (first | (with_reducible first | exact HB.out | apply below_alloc | apply pw_below_drewN | apply below_drew1) | exact HB.out))) : w.heap.size ≤ gb351)); clear HB; have HB := n0_; have BK351 := n1_; have GW351 := n2_; have GE351 := n3_; clear n0_ n1_ n2_ n3_; clear hb hbox hg; have hcz37_0 : w36.cell? ⟨gb351, 0, none⟩ = some (.int .i64 a0_0) := (blk_cell BK351.out 0).trans rfl; have hcz37_1 : w36.cell? ⟨gb351, 1, none⟩ = some (.int .i64 a0_1) := (blk_cell BK351.out 1).trans rfl; have hcz37_2 : w36.cell? ⟨gb351, 2, none⟩ = some (.string a0_2) := (blk_cell BK351.out 2).trans rfl; have hcz37_3 : w36.cell? ⟨gb351, 3, none⟩ = some (.slice A0_3 l0_3.length c0_3) := (blk_cell BK351.out 3).trans rfl; have hcz37_4 : w36.cell? ⟨gb351, 4, none⟩ = some (.slice A0_4 l0_4.length c0_4) := (blk_cell BK351.out 4).trans rfl; have hfz37_0 := blk_frozen BK351.out 0; have hfz37_1 := blk_frozen BK351.out 1; have hfz37_2 := blk_frozen BK351.out 2; have hfz37_3 := blk_frozen BK351.out 3; have hfz37_4 := blk_frozen BK351.out 4) | ((with_reducible refine gate_callee (f := 12) rfl ?_); refine goesL_ (some 8) rfl rfl Tryd.func12 (by kernel_rfl) rfl #[.agg #[.int .i64 a0_0, .int .i64 a0_1, .string a0_2, .slice A0_3 l0_3.length c0_3, .slice A0_4 l0_4.length c0_4]] rfl (by (try simp only [List.map_toArray, List.map_cons, List.map_nil]); first | done | rfl | (simp only [List.length_drop, List.length_take]; rfl)) ?_; (with_reducible refine (laws_zzFits1.calls k a0_0 a0_1 a0_2 _ _ l0_3 _ _ l0_4 true _ ?side1 ?side2 ?side3 ?side4 A2.out).mono ?_); (case side1 => repeat (first | exact (Kd.C_below HR0_3.out HB.out) | (with_reducible refine Kd.C_alloc ?_ _) | (with_reducible refine Kd.C_drewN ?_ _) | (with_reducible refine Kd.C_drew ?_))); (case side2 => exact HC0_3.out); (case side3 => repeat (first | exact (Kd.C_below HR0_4.out HB.out) | (with_reducible refine Kd.C_alloc ?_ _) | (with_reducible refine Kd.C_drewN ?_ _) | (with_reducible refine Kd.C_drew ?_))); (case side4 => exact HC0_4.out); rintro e w38 ⟨rfl, hb⟩; refine ⟨_, rfl, ?_⟩; have n0_ := Aside0.mk (blk_below (g := gb351) (o := .cells #[.int .i64 a0_0, .int .i64 a0_1, .string a0_2, .slice A0_3 l0_3.length c0_3, .slice A0_4 l0_4.length c0_4] 32 (0, 0)) (by (with_reducible repeat (first | refine blk_drewN ?_ _ | refine blk_drew ?_ | refine blk_alloc ?_ _)); exact BK351.out) hb); have n1_ := Aside0.mk (below_step (by repeat (first | (with_reducible first | exact HB.out | apply below_alloc | apply pw_below_drewN | apply below_drew1 | refine below_set ?_ GE351.out) | exact HB.out)) hb); clear BK351; clear HB; have BK351 := n0_; have HB := n1_; clear n0_ n1_; (try clear hb); (try clear hb2); (try clear hk); (try clear hi); have hcz39_0 : w38.cell? ⟨gb351, 0, none⟩ = some (.int .i64 a0_0) := (blk_cell BK351.out 0).trans rfl; have hcz39_1 : w38.cell? ⟨gb351, 1, none⟩ = some (.int .i64 a0_1) := (blk_cell BK351.out 1).trans rfl; have hcz39_2 : w38.cell? ⟨gb351, 2, none⟩ = some (.string a0_2) := (blk_cell BK351.out 2).trans rfl; have hcz39_3 : w38.cell? ⟨gb351, 3, none⟩ = some (.slice A0_3 l0_3.length c0_3) := (blk_cell BK351.out 3).trans rfl; have hcz39_4 : w38.cell? ⟨gb351, 4, none⟩ = some (.slice A0_4 l0_4.length c0_4) := (blk_cell BK351.out 4).trans rfl; have hfz39_0 := blk_frozen BK351.out 0; have hfz39_1 := blk_frozen BK351.out 1; have hfz39_2 := blk_frozen BK351.out 2; have hfz39_3 := blk_frozen BK351.out 3; have hfz39_4 := blk_frozen BK351.out 4) | ((with_reducible refine gate_callee (f := 13) rfl ?_); refine goesL_ (some 11) rfl rfl Tryd.func13 (by kernel_rfl) rfl #[.agg #[.int .i64 a0_0, .int .i64 a0_1, .string a0_2, .slice A0_3 l0_3.length c0_3, .slice A0_4 l0_4.length c0_4]] rfl (by (try simp only [List.map_toArray, List.map_cons, List.map_nil]); first | done | rfl | (simp only [List.length_drop, List.length_take]; rfl)) ?_; (with_reducible refine (spec_Fit.calls k a0_0 a0_1 a0_2 _ _ l0_3 _ _ l0_4 t353 t354 t355 t356 t359 _ ?side1 ?side2 ?side3 ?side4 A4.out).mono ?_); (case side1 => repeat (first | exact (Kd.C_below HR0_3.out HB.out) | (with_reducible refine Kd.C_alloc ?_ _) | (with_reducible refine Kd.C_drewN ?_ _) | (with_reducible refine Kd.C_drew ?_))); (case side2 => exact HC0_3.out); (case side3 => repeat (first | exact (Kd.C_below HR0_4.out HB.out) | (with_reducible refine Kd.C_alloc ?_ _) | (with_reducible refine Kd.C_drewN ?_ _) | (with_reducible refine Kd.C_drew ?_))); (case side4 => exact HC0_4.out); rintro e w40 ⟨v357, v360, rfl, ho0, ho1, hb⟩; refine ⟨_, rfl, ?_⟩; have n0_ := Aside0.mk (Kd.R_lower (Kd.R_mono (ok' := fun k_ => True) ho0 (fun _ hk_ => trivial)) (below_size (by repeat (first | (with_reducible first | exact HB.out | apply below_alloc | apply pw_below_drewN | apply below_drew1 | refine below_set ?_ GE351.out) | exact HB.out)))); have n1_ := Aside0.mk (Kd.N_lower (Kd.N_mono (ok' := fun k_ => some k_ ≠ (v357 : Value).ownBlock ∧ k_ ≠ gb351) ho1 (fun k_ hk_ => ⟨hk_.2, (Kd.freshB (g := gb351) (o := .cells #[.int .i64 a0_0, .int .i64 a0_1, .string a0_2, .slice A0_3 l0_3.length c0_3, .slice A0_4 l0_4.length c0_4] 32 (0, 0)) (by (with_reducible repeat (first | refine blk_drewN ?_ _ | refine blk_drew ?_ | refine blk_alloc ?_ _)); exact BK351.out) k_ hk_.1)⟩)) (below_size (by repeat (first | (with_reducible first | exact HB.out | apply below_alloc | apply pw_below_drewN | apply below_drew1 | refine below_set ?_ GE351.out) | exact HB.out)))); have n2_ := Aside0.mk (blk_below (g := gb351) (o := .cells #[.int .i64 a0_0, .int .i64 a0_1, .string a0_2, .slice A0_3 l0_3.length c0_3, .slice A0_4 l0_4.length c0_4] 32 (0, 0)) (by (with_reducible repeat (first | refine blk_drewN ?_ _ | refine blk_drew ?_ | refine blk_alloc ?_ _)); exact BK351.out) hb); have n3_ := Aside0.mk (below_step (by repeat (first | (with_reducible first | exact HB.out | apply below_alloc | apply pw_below_drewN | apply below_drew1 | refine below_set ?_ GE351.out) | exact HB.out)) hb); clear BK351; clear HB; have HO358 := n0_; have HO361 := n1_; have BK351 := n2_; have HB := n3_; clear n0_ n1_ n2_ n3_; (try clear hb); (try clear hb2); (try clear hk); (try clear hi); (try clear ho0); (try clear ho1); have hcz41_0 : w40.cell? ⟨gb351, 0, none⟩ = some (.int .i64 a0_0) := (blk_cell BK351.out 0).trans rfl; have hcz41_1 : w40.cell? ⟨gb351, 1, none⟩ = some (.int .i64 a0_1) := (blk_cell BK351.out 1).trans rfl; have hcz41_2 : w40.cell? ⟨gb351, 2, none⟩ = some (.string a0_2) := (blk_cell BK351.out 2).trans rfl; have hcz41_3 : w40.cell? ⟨gb351, 3, none⟩ = some (.slice A0_3 l0_3.length c0_3) := (blk_cell BK351.out 3).trans rfl; have hcz41_4 : w40.cell? ⟨gb351, 4, none⟩ = some (.slice A0_4 l0_4.length c0_4) := (blk_cell BK351.out 4).trans rfl; have hfz41_0 := blk_frozen BK351.out 0; have hfz41_1 := blk_frozen BK351.out 1; have hfz41_2 := blk_frozen BK351.out 2; have hfz41_3 := blk_frozen BK351.out 3; have hfz41_4 := blk_frozen BK351.out 4; obtain ⟨Ao42, co42, eo42⟩ := Kd.R_slice HO358.out; subst eo42; obtain ⟨Ao43, co43, eo43⟩ := Kd.N_slice HO361.out; subst eo43) | ((with_reducible refine gate_store (t := 32) (p := 1) rfl ?_); refine store_event (t := 32) (p := 1) (v := ?vo_w44) (w1 := (((((w40.setCell ⟨gb351, 0, none⟩ (.int .i64 t353)).setCell ⟨gb351, 1, none⟩ (.int .i64 t354)).setCell ⟨gb351, 2, none⟩ (.string t355)).setCell ⟨gb351, 3, none⟩ (.slice Ao42 t356.length co42)).setCell ⟨gb351, 4, none⟩ (.slice Ao43 t359.length co43))) ?hg ?ho ?hn ?hr ?_; (case ho => rfl); (case hg => rfl); (case hn => rfl); (case hr => first | (go_simp; done) | (go_simp; rfl)); intro w44 hw; have n0_ : Aside0 (Kd.R Kd.string 9 w44 w.heap.size (fun _ => True) (.slice Ao42 t356.length co42) t356) := ⟨(by rw [hw]; exact (by (with_reducible repeat (first | apply Kd.R_alloc | apply Kd.R_drewN | apply Kd.R_drew)); exact Kd.R_mono (Kd.R_far (p := ⟨gb351, 4, none⟩) (Kd.R_far (p := ⟨gb351, 3, none⟩) (Kd.R_far (p := ⟨gb351, 2, none⟩) (Kd.R_far (p := ⟨gb351, 1, none⟩) (Kd.R_far (p := ⟨gb351, 0, none⟩) (Kd.R_types HO358.out BK351.out (by decide)) (fun _ hk => hk.2) (.int .i64 t353)) (fun _ hk => hk.2) (.int .i64 t354)) (fun _ hk => hk.2) (.string t355)) (fun _ hk => hk.2) (.slice Ao42 t356.length co42)) (fun _ hk => hk.2) (.slice Ao43 t359.length co43)) (fun _ hk => trivial)))⟩; have n1_ : Aside0 (Kd.N k32 32 w44 w.heap.size (fun k_ => some k_ ≠ (.slice Ao42 t356.length co42 : Value).ownBlock ∧ k_ ≠ gb351) (.slice Ao43 t359.length co43) t359) := ⟨(by rw [hw]; exact (by (with_reducible repeat (first | apply Kd.N_alloc | apply Kd.N_drewN | apply Kd.N_drew)); exact Kd.N_mono (Kd.N_far (p := ⟨gb351, 4, none⟩) (Kd.N_far (p := ⟨gb351, 3, none⟩) (Kd.N_far (p := ⟨gb351, 2, none⟩) (Kd.N_far (p := ⟨gb351, 1, none⟩) (Kd.N_far (p := ⟨gb351, 0, none⟩) (Kd.N_mono HO361.out (fun k_ hk => (⟨hk, hk.2⟩ : _ ∧ k_ ≠ gb351))) (fun _ hk => hk.2) (.int .i64 t353)) (fun _ hk => hk.2) (.int .i64 t354)) (fun _ hk => hk.2) (.string t355)) (fun _ hk => hk.2) (.slice Ao42 t356.length co42)) (fun _ hk => hk.2) (.slice Ao43 t359.length co43)) (fun _ hk => ⟨hk.1.1, hk.1.2⟩)))⟩; have n2_ : Aside0 (w44.heap[gb351]? = some (.cells #[.int .i64 t353, .int .i64 t354, .string t355, .slice Ao42 t356.length co42, .slice Ao43 t359.length co43] 32 (0, 0))) := ⟨(by rw [hw]; exact (by (with_reducible repeat (first | refine blk_drewN ?_ _ | refine blk_drew ?_ | refine blk_alloc ?_ _)); refine blk_put (cs := #[.int .i64 t353, .int .i64 t354, .string t355, .slice Ao42 t356.length co42, .slice A0_4 l0_4.length c0_4]) ?_ 4 _ rfl; (with_reducible repeat (first | refine blk_drewN ?_ _ | refine blk_drew ?_ | refine blk_alloc ?_ _)); refine blk_put (cs := #[.int .i64 t353, .int .i64 t354, .string t355, .slice A0_3 l0_3.length c0_3, .slice A0_4 l0_4.length c0_4]) ?_ 3 _ rfl; (with_reducible repeat (first | refine blk_drewN ?_ _ | refine blk_drew ?_ | refine blk_alloc ?_ _)); refine blk_put (cs := #[.int .i64 t353, .int .i64 t354, .string a0_2, .slice A0_3 l0_3.length c0_3, .slice A0_4 l0_4.length c0_4]) ?_ 2 _ rfl; (with_reducible repeat (first | refine blk_drewN ?_ _ | refine blk_drew ?_ | refine blk_alloc ?_ _)); refine blk_put (cs := #[.int .i64 t353, .int .i64 a0_1, .string a0_2, .slice A0_3 l0_3.length c0_3, .slice A0_4 l0_4.length c0_4]) ?_ 1 _ rfl; (with_reducible repeat (first | refine blk_drewN ?_ _ | refine blk_drew ?_ | refine blk_alloc ?_ _)); refine blk_put (cs := #[.int .i64 a0_0, .int .i64 a0_1, .string a0_2, .slice A0_3 l0_3.length c0_3, .slice A0_4 l0_4.length c0_4]) ?_ 0 _ rfl; (with_reducible repeat (first | refine blk_drewN ?_ _ | refine blk_drew ?_ | refine blk_alloc ?_ _)); exact BK351.out))⟩; have n3_ : Aside0 (Below w.heap.size w w44) := ⟨(by rw [hw]; exact (by repeat (first | (with_reducible first | exact HB.out | apply below_alloc | apply pw_below_drewN | apply below_drew1 | refine below_set ?_ GE351.out) | exact HB.out)))⟩; clear hw; clear HO358; clear HO361; clear BK351; clear HB; have HO358 := n0_; have HO361 := n1_; have BK351 := n2_; have HB := n3_; clear n0_ n1_ n2_ n3_; have hcz45_0 : w44.cell? ⟨gb351, 0, none⟩ = some (.int .i64 t353) := (blk_cell BK351.out 0).trans rfl; have hcz45_1 : w44.cell? ⟨gb351, 1, none⟩ = some (.int .i64 t354) := (blk_cell BK351.out 1).trans rfl; have hcz45_2 : w44.cell? ⟨gb351, 2, none⟩ = some (.string t355) := (blk_cell BK351.out 2).trans rfl; have hcz45_3 : w44.cell? ⟨gb351, 3, none⟩ = some (.slice Ao42 t356.length co42) := (blk_cell BK351.out 3).trans rfl; have hcz45_4 : w44.cell? ⟨gb351, 4, none⟩ = some (.slice Ao43 t359.length co43) := (blk_cell BK351.out 4).trans rfl; have hfz45_0 := blk_frozen BK351.out 0; have hfz45_1 := blk_frozen BK351.out 1; have hfz45_2 := blk_frozen BK351.out 2; have hfz45_3 := blk_frozen BK351.out 3; have hfz45_4 := blk_frozen BK351.out 4) | ((with_reducible refine gate_callee (f := 17) rfl ?_); refine goesL_ (some 14) rfl rfl Tryd.func17 (by kernel_rfl) rfl #[.agg #[.int .i64 t353, .int .i64 t354, .string t355, .slice Ao42 t356.length co42, .slice Ao43 t359.length co43], .string (⟨#[116, 97, 114, 103, 101, 116]⟩ : ByteArray)] rfl (by (try simp only [List.map_toArray, List.map_cons, List.map_nil]); first | done | rfl | (simp only [List.length_drop, List.length_take]; rfl)) ?_; (with_reducible refine (spec_Get.calls k t353 t354 t355 _ _ t356 (fun k_ => (some k_ ≠ (.slice Ao42 t356.length co42 : Value).ownBlock ∧ k_ ≠ gb351)) _ _ t359 (⟨#[116, 97, 114, 103, 101, 116]⟩ : ByteArray) t362 t363 t364 t365 t368 t371 _ ?side1 ?side2 ?side3 A5.out).mono ?_); (case side1 => repeat (first | exact (Kd.R_reads' HO358.out).2.2 | (with_reducible refine Kd.C_alloc ?_ _) | (with_reducible refine Kd.C_drewN ?_ _) | (with_reducible refine Kd.C_drew ?_))); (case side2 => exact (Kd.R_reads' HO358.out).2.1); (case side3 => exact Kd.N_V (HO361.out)); rintro e w46 ⟨v366, v369, rfl, ho0, ho1, hb⟩; refine ⟨_, rfl, ?_⟩; have n0_ := Aside0.mk (Kd.R_below (by (with_reducible repeat (first | apply Kd.R_alloc | apply Kd.R_drewN | apply Kd.R_drew)); exact HO358.out) hb); have n1_ := Aside0.mk (Kd.N_below (by (with_reducible repeat (first | apply Kd.N_alloc | apply Kd.N_drewN | apply Kd.N_drew)); exact HO361.out) hb); have n2_ := Aside0.mk (Kd.V_lower (Kd.V_mono (ok' := fun k_ => some k_ ≠ (.slice Ao42 t356.length co42 : Value).ownBlock ∧ k_ ≠ gb351) ho0 (fun k_ hk_ => ⟨Or.elim hk_ (fun hs_ => hs_.1) (fun hn_ => (Kd.fresh' (Kd.R_lt (by (with_reducible repeat (first | apply Kd.R_alloc | apply Kd.R_drewN | apply Kd.R_drew)); exact HO358.out)) k_ hn_)), Or.elim hk_ (fun hs_ => hs_.2) (fun hn_ => (Kd.freshB (g := gb351) (o := .cells #[.int .i64 t353, .int .i64 t354, .string t355, .slice Ao42 t356.length co42, .slice Ao43 t359.length co43] 32 (0, 0)) (by (with_reducible repeat (first | refine blk_drewN ?_ _ | refine blk_drew ?_ | refine blk_alloc ?_ _)); exact BK351.out) k_ hn_))⟩)) (below_size (by repeat (first | (with_reducible first | exact HB.out | apply below_alloc | apply pw_below_drewN | apply below_drew1 | refine below_set ?_ GE351.out) | exact HB.out)))); have n3_ := Aside0.mk (Kd.V_lower (Kd.V_mono (ok' := fun k_ => some k_ ≠ (.slice Ao42 t356.length co42 : Value).ownBlock ∧ k_ ≠ gb351) ho1 (fun k_ hk_ => ⟨Or.elim hk_ (fun hs_ => hs_.1) (fun hn_ => (Kd.fresh' (Kd.R_lt (by (with_reducible repeat (first | apply Kd.R_alloc | apply Kd.R_drewN | apply Kd.R_drew)); exact HO358.out)) k_ hn_)), Or.elim hk_ (fun hs_ => hs_.2) (fun hn_ => (Kd.freshB (g := gb351) (o := .cells #[.int .i64 t353, .int .i64 t354, .string t355, .slice Ao42 t356.length co42, .slice Ao43 t359.length co43] 32 (0, 0)) (by (with_reducible repeat (first | refine blk_drewN ?_ _ | refine blk_drew ?_ | refine blk_alloc ?_ _)); exact BK351.out) k_ hn_))⟩)) (below_size (by repeat (first | (with_reducible first | exact HB.out | apply below_alloc | apply pw_below_drewN | apply below_drew1 | refine below_set ?_ GE351.out) | exact HB.out)))); have n4_ := Aside0.mk (blk_below (g := gb351) (o := .cells #[.int .i64 t353, .int .i64 t354, .string t355, .slice Ao42 t356.length co42, .slice Ao43 t359.length co43] 32 (0, 0)) (by (with_reducible repeat (first | refine blk_drewN ?_ _ | refine blk_drew ?_ | refine blk_alloc ?_ _)); exact BK351.out) hb); have n5_ := Aside0.mk (below_step (by repeat (first | (with_reducible first | exact HB.out | apply below_alloc | apply pw_below_drewN | apply below_drew1 | refine below_set ?_ GE351.out) | exact HB.out)) hb); clear HO358; clear HO361; clear BK351; clear HB; have HO358 := n0_; have HO361 := n1_; have HO367 := n2_; have HO370 := n3_; have BK351 := n4_; have HB := n5_; clear n0_ n1_ n2_ n3_ n4_ n5_; (try clear hb); (try clear hb2); (try clear hk); (try clear hi); (try clear ho0); (try clear ho1)) | ((with_reducible refine gate_dst (N := 3) rfl ?_); refine box_event ?hg (N := 3) ?hd (cs := #[.int .i64 0, .int .i64 0, .string (⟨#[]⟩ : ByteArray), .slice none 0 0, .slice none 0 0]) (t := 32) ?hr ?_; (case hd => rfl); (case hg => rfl); (case hr => first | (go_simp; done) | (go_simp; rfl)); intro gb372 hg w47 hbox hb; have n0_ := Aside0.mk (Kd.R_below (by (with_reducible repeat (first | apply Kd.R_alloc | apply Kd.R_drewN | apply Kd.R_drew)); exact HO358.out) hb); have n1_ := Aside0.mk (Kd.N_below (Kd.N_elderB (by (with_reducible repeat (first | apply Kd.N_alloc | apply Kd.N_drewN | apply Kd.N_drew)); exact HO361.out) gb372 (Nat.le_of_eq hg.symm)) hb); have n2_ := Aside0.mk (Kd.V_below (Kd.V_elderB (by (with_reducible repeat (first | apply Kd.V_alloc | apply Kd.V_drewN | apply Kd.V_drew)); exact HO367.out) gb372 (Nat.le_of_eq hg.symm)) hb); have n3_ := Aside0.mk (Kd.V_below (Kd.V_elderB (by (with_reducible repeat (first | apply Kd.V_alloc | apply Kd.V_drewN | apply Kd.V_drew)); exact HO370.out) gb372 (Nat.le_of_eq hg.symm)) hb); have n4_ := Aside0.mk (blk_below (g := gb351) (o := .cells #[.int .i64 t353, .int .i64 t354, .string t355, .slice Ao42 t356.length co42, .slice Ao43 t359.length co43] 32 (0, 0)) (by (with_reducible repeat (first | refine blk_drewN ?_ _ | refine blk_drew ?_ | refine blk_alloc ?_ _)); exact BK351.out) hb); have n5_ := Aside0.mk (below_step (by repeat (first | (with_reducible first | exact HB.out | apply below_alloc | apply pw_below_drewN | apply below_drew1 | refine below_set ?_ GE351.out) | exact HB.out)) hb); have n6_ := Aside0.mk (hbox); have n7_ := Aside0.mk ((by rw [hg]; exact (below_size (by repeat (first | (with_reducible first | exact HB.out | apply below_alloc | apply pw_below_drewN | apply below_drew1 | refine below_set ?_ GE351.out) | exact HB.out))) : w.heap.size ≤ gb372)); have n8_ := Aside0.mk ((by rw [hg]; exact (below_size (by repeat (first | (with_reducible first | exact HB.out | apply below_alloc | apply pw_below_drewN | apply below_drew1 | refine below_set ?_ GE351.out) | exact HB.out))) : w.heap.size ≤ gb372)); have n9_ := Aside0.mk ((by rw [hg]; exact Nat.ne_of_lt (blk_lt (g := gb351) (o := .cells #[.int .i64 t353, .int .i64 t354, .string t355, .slice Ao42 t356.length co42, .slice Ao43 t359.length co43] 32 (0, 0)) (by (with_reducible repeat (first | refine blk_drewN ?_ _ | refine blk_drew ?_ | refine blk_alloc ?_ _)); exact BK351.out)) : gb351 ≠ gb372)); have n10_ := Aside0.mk ((by rw [hg]; exact Nat.ne_of_gt (blk_lt (g := gb351) (o := .cells #[.int .i64 t353, .int .i64 t354, .string t355, .slice Ao42 t356.length co42, .slice Ao43 t359.length co43] 32 (0, 0)) (by (with_reducible repeat (first | refine blk_drewN ?_ _ | refine blk_drew ?_ | refine blk_alloc ?_ _)); exact BK351.out)) : gb372 ≠ gb351)); clear HO358; clear HO361; clear HO367; clear HO370; clear BK351; clear HB; have HO358 := n0_; have HO361 := n1_; have HO367 := n2_; have HO370 := n3_; have BK351 := n4_; have HB := n5_; have BK372 := n6_; have GW372 := n7_; have GE372 := n8_; have NB351_372 := n9_; have NB372_351 := n10_; clear n0_ n1_ n2_ n3_ n4_ n5_ n6_ n7_ n8_ n9_ n10_; clear hb hbox hg; have hnb48 := NB372_351.out; have hnc48 := NB351_372.out; have hcz49_0 : w47.cell? ⟨gb372, 0, none⟩ = some (.int .i64 0) := (blk_cell BK372.out 0).trans rfl; have hcz49_1 : w47.cell? ⟨gb372, 1, none⟩ = some (.int .i64 0) := (blk_cell BK372.out 1).trans rfl; have hcz49_2 : w47.cell? ⟨gb372, 2, none⟩ = some (.string (⟨#[]⟩ : ByteArray)) := (blk_cell BK372.out 2).trans rfl; have hcz49_3 : w47.cell? ⟨gb372, 3, none⟩ = some (.slice none 0 0) := (blk_cell BK372.out 3).trans rfl; have hcz49_4 : w47.cell? ⟨gb372, 4, none⟩ = some (.slice none 0 0) := (blk_cell BK372.out 4).trans rfl; have hfz49_0 := blk_frozen BK372.out 0; have hfz49_1 := blk_frozen BK372.out 1; have hfz49_2 := blk_frozen BK372.out 2; have hfz49_3 := blk_frozen BK372.out 3; have hfz49_4 := blk_frozen BK372.out 4; obtain ⟨Ao50, co50, eo50⟩ := Kd.V_slice HO367.out; subst eo50; obtain ⟨Ao51, co51, eo51⟩ := Kd.V_slice HO370.out; subst eo51) | ((with_reducible refine gate_store (t := 32) (p := 3) rfl ?_); refine store_event (t := 32) (p := 3) (v := ?vo_w52) (w1 := (((((w47.setCell ⟨gb372, 0, none⟩ (.int .i64 t362)).setCell ⟨gb372, 1, none⟩ (.int .i64 t363)).setCell ⟨gb372, 2, none⟩ (.string t364)).setCell ⟨gb372, 3, none⟩ (.slice Ao50 t365.length co50)).setCell ⟨gb372, 4, none⟩ (.slice Ao51 t368.length co51))) ?hg ?ho ?hn ?hr ?_; (case ho => rfl); (case hg => rfl); (case hn => rfl); (case hr => first | (go_simp; done) | (go_simp; rfl)); intro w52 hw; have n0_ : Aside0 (Kd.R Kd.string 9 w52 w.heap.size (fun _ => True) (.slice Ao42 t356.length co42) t356) := ⟨(by rw [hw]; exact (by (with_reducible repeat (first | apply Kd.R_alloc | apply Kd.R_drewN | apply Kd.R_drew)); exact Kd.R_mono (Kd.R_far (p := ⟨gb372, 4, none⟩) (Kd.R_far (p := ⟨gb372, 3, none⟩) (Kd.R_far (p := ⟨gb372, 2, none⟩) (Kd.R_far (p := ⟨gb372, 1, none⟩) (Kd.R_far (p := ⟨gb372, 0, none⟩) (Kd.R_types HO358.out BK372.out (by decide)) (fun _ hk => hk.2) (.int .i64 t362)) (fun _ hk => hk.2) (.int .i64 t363)) (fun _ hk => hk.2) (.string t364)) (fun _ hk => hk.2) (.slice Ao50 t365.length co50)) (fun _ hk => hk.2) (.slice Ao51 t368.length co51)) (fun _ hk => trivial)))⟩; have n1_ : Aside0 (Kd.N k32 32 w52 w.heap.size (fun k_ => some k_ ≠ (.slice Ao42 t356.length co42 : Value).ownBlock ∧ k_ ≠ gb351 ∧ k_ ≠ gb372) (.slice Ao43 t359.length co43) t359) := ⟨(by rw [hw]; exact (by (with_reducible repeat (first | apply Kd.N_alloc | apply Kd.N_drewN | apply Kd.N_drew)); exact Kd.N_mono (Kd.N_far (p := ⟨gb372, 4, none⟩) (Kd.N_far (p := ⟨gb372, 3, none⟩) (Kd.N_far (p := ⟨gb372, 2, none⟩) (Kd.N_far (p := ⟨gb372, 1, none⟩) (Kd.N_far (p := ⟨gb372, 0, none⟩) (Kd.N_mono HO361.out (fun k_ hk => (⟨hk, hk.2⟩ : _ ∧ k_ ≠ gb372))) (fun _ hk => hk.2) (.int .i64 t362)) (fun _ hk => hk.2) (.int .i64 t363)) (fun _ hk => hk.2) (.string t364)) (fun _ hk => hk.2) (.slice Ao50 t365.length co50)) (fun _ hk => hk.2) (.slice Ao51 t368.length co51)) (fun _ hk => ⟨hk.1.1.1, ⟨hk.1.1.2, hk.1.2⟩⟩)))⟩; have n2_ : Aside0 (Kd.V Kd.string 9 w52 w.heap.size (fun k_ => some k_ ≠ (.slice Ao42 t356.length co42 : Value).ownBlock ∧ k_ ≠ gb351 ∧ k_ ≠ gb372) (.slice Ao50 t365.length co50) t365) := ⟨(by rw [hw]; exact (by (with_reducible repeat (first | apply Kd.V_alloc | apply Kd.V_drewN | apply Kd.V_drew)); exact Kd.V_mono (Kd.V_far (p := ⟨gb372, 4, none⟩) (Kd.V_far (p := ⟨gb372, 3, none⟩) (Kd.V_far (p := ⟨gb372, 2, none⟩) (Kd.V_far (p := ⟨gb372, 1, none⟩) (Kd.V_far (p := ⟨gb372, 0, none⟩) (Kd.V_mono HO367.out (fun k_ hk => (⟨hk, hk.2⟩ : _ ∧ k_ ≠ gb372))) (fun _ hk => hk.2) (.int .i64 t362)) (fun _ hk => hk.2) (.int .i64 t363)) (fun _ hk => hk.2) (.string t364)) (fun _ hk => hk.2) (.slice Ao50 t365.length co50)) (fun _ hk => hk.2) (.slice Ao51 t368.length co51)) (fun _ hk => ⟨hk.1.1.1, ⟨hk.1.1.2, hk.1.2⟩⟩)))⟩; have n3_ : Aside0 (Kd.V k32 32 w52 w.heap.size (fun k_ => some k_ ≠ (.slice Ao42 t356.length co42 : Value).ownBlock ∧ k_ ≠ gb351 ∧ k_ ≠ gb372) (.slice Ao51 t368.length co51) t368) := ⟨(by rw [hw]; exact (by (with_reducible repeat (first | apply Kd.V_alloc | apply Kd.V_drewN | apply Kd.V_drew)); exact Kd.V_mono (Kd.V_far (p := ⟨gb372, 4, none⟩) (Kd.V_far (p := ⟨gb372, 3, none⟩) (Kd.V_far (p := ⟨gb372, 2, none⟩) (Kd.V_far (p := ⟨gb372, 1, none⟩) (Kd.V_far (p := ⟨gb372, 0, none⟩) (Kd.V_mono HO370.out (fun k_ hk => (⟨hk, hk.2⟩ : _ ∧ k_ ≠ gb372))) (fun _ hk => hk.2) (.int .i64 t362)) (fun _ hk => hk.2) (.int .i64 t363)) (fun _ hk => hk.2) (.string t364)) (fun _ hk => hk.2) (.slice Ao50 t365.length co50)) (fun _ hk => hk.2) (.slice Ao51 t368.length co51)) (fun _ hk => ⟨hk.1.1.1, ⟨hk.1.1.2, hk.1.2⟩⟩)))⟩; have n4_ : Aside0 (w52.heap[gb351]? = some (.cells #[.int .i64 t353, .int .i64 t354, .string t355, .slice Ao42 t356.length co42, .slice Ao43 t359.length co43] 32 (0, 0))) := ⟨(by rw [hw]; exact (by (with_reducible repeat (first | refine blk_drewN ?_ _ | refine blk_drew ?_ | refine blk_alloc ?_ _)); refine blk_far ?_ NB351_372.out _; (with_reducible repeat (first | refine blk_drewN ?_ _ | refine blk_drew ?_ | refine blk_alloc ?_ _)); refine blk_far ?_ NB351_372.out _; (with_reducible repeat (first | refine blk_drewN ?_ _ | refine blk_drew ?_ | refine blk_alloc ?_ _)); refine blk_far ?_ NB351_372.out _; (with_reducible repeat (first | refine blk_drewN ?_ _ | refine blk_drew ?_ | refine blk_alloc ?_ _)); refine blk_far ?_ NB351_372.out _; (with_reducible repeat (first | refine blk_drewN ?_ _ | refine blk_drew ?_ | refine blk_alloc ?_ _)); refine blk_far ?_ NB351_372.out _; (with_reducible repeat (first | refine blk_drewN ?_ _ | refine blk_drew ?_ | refine blk_alloc ?_ _)); exact BK351.out))⟩; have n5_ : Aside0 (w52.heap[gb372]? = some (.cells #[.int .i64 t362, .int .i64 t363, .string t364, .slice Ao50 t365.length co50, .slice Ao51 t368.length co51] 32 (0, 0))) := ⟨(by rw [hw]; exact (by (with_reducible repeat (first | refine blk_drewN ?_ _ | refine blk_drew ?_ | refine blk_alloc ?_ _)); refine blk_put (cs := #[.int .i64 t362, .int .i64 t363, .string t364, .slice Ao50 t365.length co50, .slice none 0 0]) ?_ 4 _ rfl; (with_reducible repeat (first | refine blk_drewN ?_ _ | refine blk_drew ?_ | refine blk_alloc ?_ _)); refine blk_put (cs := #[.int .i64 t362, .int .i64 t363, .string t364, .slice none 0 0, .slice none 0 0]) ?_ 3 _ rfl; (with_reducible repeat (first | refine blk_drewN ?_ _ | refine blk_drew ?_ | refine blk_alloc ?_ _)); refine blk_put (cs := #[.int .i64 t362, .int .i64 t363, .string (⟨#[]⟩ : ByteArray), .slice none 0 0, .slice none 0 0]) ?_ 2 _ rfl; (with_reducible repeat (first | refine blk_drewN ?_ _ | refine blk_drew ?_ | refine blk_alloc ?_ _)); refine blk_put (cs := #[.int .i64 t362, .int .i64 0, .string (⟨#[]⟩ : ByteArray), .slice none 0 0, .slice none 0 0]) ?_ 1 _ rfl; (with_reducible repeat (first | refine blk_drewN ?_ _ | refine blk_drew ?_ | refine blk_alloc ?_ _)); refine blk_put (cs := #[.int .i64 0, .int .i64 0, .string (⟨#[]⟩ : ByteArray), .slice none 0 0, .slice none 0 0]) ?_ 0 _ rfl; (with_reducible repeat (first | refine blk_drewN ?_ _ | refine blk_drew ?_ | refine blk_alloc ?_ _)); exact BK372.out))⟩; have n6_ : Aside0 (Below w.heap.size w w52) := ⟨(by rw [hw]; exact (by repeat (first | (with_reducible first | exact HB.out | apply below_alloc | apply pw_below_drewN | apply below_drew1 | refine below_set ?_ GE351.out | refine below_set ?_ GE372.out) | exact HB.out)))⟩; clear hw; clear HO358; clear HO361; clear HO367; clear HO370; clear BK351; clear BK372; clear HB; have HO358 := n0_; have HO361 := n1_; have HO367 := n2_; have HO370 := n3_; have BK351 := n4_; have BK372 := n5_; have HB := n6_; clear n0_ n1_ n2_ n3_ n4_ n5_ n6_; have hcz53_0 : w52.cell? ⟨gb351, 0, none⟩ = some (.int .i64 t353) := (blk_cell BK351.out 0).trans rfl; have hcz53_1 : w52.cell? ⟨gb351, 1, none⟩ = some (.int .i64 t354) := (blk_cell BK351.out 1).trans rfl; have hcz53_2 : w52.cell? ⟨gb351, 2, none⟩ = some (.string t355) := (blk_cell BK351.out 2).trans rfl; have hcz53_3 : w52.cell? ⟨gb351, 3, none⟩ = some (.slice Ao42 t356.length co42) := (blk_cell BK351.out 3).trans rfl; have hcz53_4 : w52.cell? ⟨gb351, 4, none⟩ = some (.slice Ao43 t359.length co43) := (blk_cell BK351.out 4).trans rfl; have hfz53_0 := blk_frozen BK351.out 0; have hfz53_1 := blk_frozen BK351.out 1; have hfz53_2 := blk_frozen BK351.out 2; have hfz53_3 := blk_frozen BK351.out 3; have hfz53_4 := blk_frozen BK351.out 4) | ((with_reducible refine gate_callee (f := 18) rfl ?_); refine goesL_ (some 18) rfl rfl Tryd.func18 (by kernel_rfl) rfl #[.agg #[.int .i64 t353, .int .i64 t354, .string t355, .slice Ao42 t356.length co42, .slice Ao43 t359.length co43]] rfl (by (try simp only [List.map_toArray, List.map_cons, List.map_nil]); first | done | rfl | (simp only [List.length_drop, List.length_take]; rfl)) ?_; (with_reducible refine (spec_PartMount.calls k t353 t354 t355 (fun k_ => some k_ = (.slice Ao42 t356.length co42 : Value).ownBlock) _ _ t356 (fun k_ => (some k_ ≠ (.slice Ao42 t356.length co42 : Value).ownBlock ∧ (k_ ≠ gb351 ∧ k_ ≠ gb372))) _ _ t359 false _ ?side1 ?side2 A6.out).mono ?_); (case side1 => exact Kd.R_V (Kd.R_tight rfl (Kd.R_types (Kd.R_types (Kd.R_apart' (HO358.out) (Kd.N_typed HO361.out) (by decide)) BK351.out (by decide)) BK372.out (by decide)))); (case side2 => exact Kd.N_V (HO361.out)); rintro e w54 ⟨rfl, hb⟩; refine ⟨_, rfl, ?_⟩; have n0_ := Aside0.mk (Kd.R_below (by (with_reducible repeat (first | apply Kd.R_alloc | apply Kd.R_drewN | apply Kd.R_drew)); exact HO358.out) hb); have n1_ := Aside0.mk (Kd.N_below (by (with_reducible repeat (first | apply Kd.N_alloc | apply Kd.N_drewN | apply Kd.N_drew)); exact HO361.out) hb); have n2_ := Aside0.mk (Kd.V_below (by (with_reducible repeat (first | apply Kd.V_alloc | apply Kd.V_drewN | apply Kd.V_drew)); exact HO367.out) hb); have n3_ := Aside0.mk (Kd.V_below (by (with_reducible repeat (first | apply Kd.V_alloc | apply Kd.V_drewN | apply Kd.V_drew)); exact HO370.out) hb); have n4_ := Aside0.mk (blk_below (g := gb351) (o := .cells #[.int .i64 t353, .int .i64 t354, .string t355, .slice Ao42 t356.length co42, .slice Ao43 t359.length co43] 32 (0, 0)) (by (with_reducible repeat (first | refine blk_drewN ?_ _ | refine blk_drew ?_ | refine blk_alloc ?_ _)); exact BK351.out) hb); have n5_ := Aside0.mk (blk_below (g := gb372) (o := .cells #[.int .i64 t362, .int .i64 t363, .string t364, .slice Ao50 t365.length co50, .slice Ao51 t368.length co51] 32 (0, 0)) (by (with_reducible repeat (first | refine blk_drewN ?_ _ | refine blk_drew ?_ | refine blk_alloc ?_ _)); exact BK372.out) hb); have n6_ := Aside0.mk (below_step (by repeat (first | (with_reducible first | exact HB.out | apply below_alloc | apply pw_below_drewN | apply below_drew1 | refine below_set ?_ GE351.out | refine below_set ?_ GE372.out) | exact HB.out)) hb); clear HO358; clear HO361; clear HO367; clear HO370; clear BK351; clear BK372; clear HB; have HO358 := n0_; have HO361 := n1_; have HO367 := n2_; have HO370 := n3_; have BK351 := n4_; have BK372 := n5_; have HB := n6_; clear n0_ n1_ n2_ n3_ n4_ n5_ n6_; (try clear hb); (try clear hb2); (try clear hk); (try clear hi)))
   go_ret
   exact ⟨by first | rfl | (simp [errW_none, errW_some] <;> rfl) | (simp [*, errW_none, errW_some] <;> rfl), by repeat (first | (with_reducible first | exact HB.out | apply below_alloc | apply pw_below_drewN | apply below_drew1 | refine below_set ?_ GE351.out | refine below_set ?_ GE372.out) | exact HB.out)⟩
 ·replace c3 := Bool.eq_false_iff.mpr c3
  subst c3
  have H1 : (some true) = some r := by rw [if_neg (show ¬ (false = true) by decide)] at H; exact H
  clear H
  have H := H1
  clear H1
  obtain rfl := Option.some.inj H
  go_enter Tryd.func5, Tryd.ntmps5
  go_wp2_with (first | ((with_reducible refine gate_dst (N := 1) rfl ?_); refine box_event ?hg (N := 1) ?hd (cs := #[.int .i64 a0_0, .int .i64 a0_1, .string a0_2, .slice A0_3 l0_3.length c0_3, .slice A0_4 l0_4.length c0_4]) (t := 32) ?hr ?_; (case hd => rfl); (case hg => rfl); (case hr => first | (go_simp; done) | (go_simp; rfl)); intro gb351 hg w55 hbox hb; have n0_ := Aside0.mk (below_step (by repeat (first | (with_reducible first | exact HB.out | apply below_alloc | apply pw_below_drewN | apply below_drew1) | exact HB.out)) hb); have n1_ := Aside0.mk (hbox); have n2_ := Aside0.mk ((by rw [hg]; exact (below_size (by repeat (first | (with_reducible first | exact HB.out | apply below_alloc | apply pw_below_drewN | apply below_drew1) | exact HB.out))) : w.heap.size ≤ gb351)); have n3_ := Aside0.mk ((by rw [hg]; exact (below_size (by repeat (first | (with_reducible first | exact HB.out | apply below_alloc | apply pw_below_drewN | apply below_drew1) | exact HB.out))) : w.heap.size ≤ gb351)); clear HB; have HB := n0_; have BK351 := n1_; have GW351 := n2_; have GE351 := n3_; clear n0_ n1_ n2_ n3_; clear hb hbox hg; have hcz56_0 : w55.cell? ⟨gb351, 0, none⟩ = some (.int .i64 a0_0) := (blk_cell BK351.out 0).trans rfl; have hcz56_1 : w55.cell? ⟨gb351, 1, none⟩ = some (.int .i64 a0_1) := (blk_cell BK351.out 1).trans rfl; have hcz56_2 : w55.cell? ⟨gb351, 2, none⟩ = some (.string a0_2) := (blk_cell BK351.out 2).trans rfl; have hcz56_3 : w55.cell? ⟨gb351, 3, none⟩ = some (.slice A0_3 l0_3.length c0_3) := (blk_cell BK351.out 3).trans rfl; have hcz56_4 : w55.cell? ⟨gb351, 4, none⟩ = some (.slice A0_4 l0_4.length c0_4) := (blk_cell BK351.out 4).trans rfl; have hfz56_0 := blk_frozen BK351.out 0; have hfz56_1 := blk_frozen BK351.out 1; have hfz56_2 := blk_frozen BK351.out 2; have hfz56_3 := blk_frozen BK351.out 3; have hfz56_4 := blk_frozen BK351.out 4) | ((with_reducible refine gate_callee (f := 12) rfl ?_); refine goesL_ (some 8) rfl rfl Tryd.func12 (by kernel_rfl) rfl #[.agg #[.int .i64 a0_0, .int .i64 a0_1, .string a0_2, .slice A0_3 l0_3.length c0_3, .slice A0_4 l0_4.length c0_4]] rfl (by (try simp only [List.map_toArray, List.map_cons, List.map_nil]); first | done | rfl | (simp only [List.length_drop, List.length_take]; rfl)) ?_; (with_reducible refine (laws_zzFits1.calls k a0_0 a0_1 a0_2 _ _ l0_3 _ _ l0_4 false _ ?side1 ?side2 ?side3 ?side4 A2.out).mono ?_); (case side1 => repeat (first | exact (Kd.C_below HR0_3.out HB.out) | (with_reducible refine Kd.C_alloc ?_ _) | (with_reducible refine Kd.C_drewN ?_ _) | (with_reducible refine Kd.C_drew ?_))); (case side2 => exact HC0_3.out); (case side3 => repeat (first | exact (Kd.C_below HR0_4.out HB.out) | (with_reducible refine Kd.C_alloc ?_ _) | (with_reducible refine Kd.C_drewN ?_ _) | (with_reducible refine Kd.C_drew ?_))); (case side4 => exact HC0_4.out); rintro e w57 ⟨rfl, hb⟩; refine ⟨_, rfl, ?_⟩; have n0_ := Aside0.mk (blk_below (g := gb351) (o := .cells #[.int .i64 a0_0, .int .i64 a0_1, .string a0_2, .slice A0_3 l0_3.length c0_3, .slice A0_4 l0_4.length c0_4] 32 (0, 0)) (by (with_reducible repeat (first | refine blk_drewN ?_ _ | refine blk_drew ?_ | refine blk_alloc ?_ _)); exact BK351.out) hb); have n1_ := Aside0.mk (below_step (by repeat (first | (with_reducible first | exact HB.out | apply below_alloc | apply pw_below_drewN | apply below_drew1 | refine below_set ?_ GE351.out) | exact HB.out)) hb); clear BK351; clear HB; have BK351 := n0_; have HB := n1_; clear n0_ n1_; (try clear hb); (try clear hb2); (try clear hk); (try clear hi)))
  go_ret
  exact ⟨by first | rfl | (simp [errW_none, errW_some] <;> rfl) | (simp [*, errW_none, errW_some] <;> rfl), by repeat (first | (with_reducible first | exact HB.out | apply below_alloc | apply pw_below_drewN | apply below_drew1 | refine below_set ?_ GE351.out) | exact HB.out)⟩
end Go.Proofs.YtaembebbaejfiaaDoor.PS
namespace Go.Proofs.YtaembebbaejfiaaDoor.Tr
open Go.RowKit Go.Proofs.YtaembebbaejfiaaDoorW.PrintWords Go.Proofs.YtaembebbaejfiaaDoorW.PrintLast Go.Proofs.YtaembebbaejfiaaDoor.Str Go.Proofs.YtaembebbaejfiaaDoor.Kit Go.Proofs.YtaembebbaejfiaaDoor.MapV Go.Proofs.YtaembebbaejfiaaDoor.Frame Go.Proofs.YtaembebbaejfiaaDoor.PS
set_option linter.unusedVariables false
set_option linter.unusedSimpArgs false
theorem SmallS.val {x v : VS} (h : SmallS x) (hv : v ∈ x.f4) : SmallS v := by
 cases h with
 | mk _ _ _ _ _ h => exact h v hv
theorem SmallS.text {x : VS} (h : SmallS x) : TextOk x := by
 cases h with
 | mk _ ht _ _ _ _ => unfold TextOk; omega
theorem ev_then {α : Type} {g e : Nat → Option α} {r : α} (h : Ev g r) : Ev (fun k => if true = true then g k else e k) r := Ev.congr (fun k => by rw [if_pos rfl]) h
theorem ev_else {α : Type} {g e : Nat → Option α} {r : α} (h : Ev e r) : Ev (fun k => if false = true then g k else e k) r := Ev.congr (fun k => by rw [if_neg (by decide)]) h
theorem ev_law (x : VS) (hx : SmallS x) : Ev (fun k => laws_FnIndexVolume.f k x.f0 x.f1 x.f2 x.f3 x.f4) true := by
 obtain ⟨hs, hf⟩ := fit_facts x hx
 obtain ⟨b1, hb1⟩ := ev_zzFits1 x
 have hF := ev_Fit x hx
 have hin := hf.inStep hs
 have hG := ev_Get (fitV x) tgtB hin
 obtain ⟨b2, hM, hMf⟩ := ev_PartMount (fitV x) hin (fun v hv => (hs.val hv).text)
 have hT := ev_to (fitV x) hs
 unfold FitEv at hF
 unfold ToEv at hT
 generalize fitV x = y at *
 unfold laws_FnIndexVolume.f
 refine ev_bind hb1 ?_
 cases b1
 ·exact ev_else (Ev.now _)
 refine ev_then (ev_bind hF (ev_bind hG (ev_bind hM ?_)))
 cases b2
 ·exact ev_else (Ev.now _)
 obtain ⟨h5, v, hv, hv3⟩ := hMf rfl
 refine ev_then (ev_bind hT (ev_bind (a := (v.f2, true)) (ev_now (fun k => ?_)) (ev_bind (a := true) (ev_now (fun k => ?_)) (Ev.now _))))
 ·show impl_IndexVolume.f (toI y).f0 (toI y).f1 (toI y).f2 (toI y).f3 (toI y).f4 = _
  have h5' : (toI y).f0 = 5 := by rw [toI_eq]; exact h5
  have hg := mapOf_get hf h5 tgtB
  rw [hv, Option.map_some] at hg
  have hvt : anyOf (toI v) = .text v.f2 := by
   rw [toI_eq, hv3]
   simp [anyOf]
  rw [hvt] at hg
  unfold impl_IndexVolume.f
  rw [etaI, if_pos ⟨small_to y hs, h5'⟩]
  have e : lb tgtL = lb tgtB := rfl
  rw [e, hg]
 ·rw [hv]
  simp [laws_partIndex.f]
theorem lawVolume (x : VS) (hx : SmallS x) (A3 A4 : Option Addr) (c3 c4 : Nat) (w : World) (h3 : x.f3.length ≤ c3) (hk : Kd.string.C w A3 x.f3.length x.f3) (h4 : x.f4.length ≤ c4) (hv : kS.C w A4 x.f4.length x.f4) :
  Calls Tryd.prog 5 #[.agg #[.int .i64 x.f0, .int .i64 x.f1, .string x.f2, .slice A3 x.f3.length c3, .slice A4 x.f4.length c4]] w fun e w' => e = .returned (.bool true) ∧ Below w.heap.size w w' := by
 obtain ⟨k, hk'⟩ := (ev_law x hx).rounds
 exact laws_FnIndexVolume.calls k x.f0 x.f1 x.f2 A3 c3 x.f3 A4 c4 x.f4 true w hk h3 hv h4 hk'
theorem lawVolumeRow (x : VS) (A3 A4 : Option Addr) (c3 c4 : Nat) (w : World) (h3 : x.f3.length ≤ c3) (hk : Kd.string.C w A3 x.f3.length x.f3) (h4 : x.f4.length ≤ c4) (hv : kS.C w A4 x.f4.length x.f4) (hx : SmallS x) (hT : True) :
  Calls Tryd.prog 5 #[.agg #[.int .i64 x.f0, .int .i64 x.f1, .string x.f2, .slice A3 x.f3.length c3, .slice A4 x.f4.length c4]] w fun e w' => e = .returned (.bool true) ∧ Below w.heap.size w w' := lawVolume x hx A3 A4 c3 c4 w h3 hk h4 hv
end Go.Proofs.YtaembebbaejfiaaDoor.Tr
namespace Go.Proofs.YtaembebbaejfiaaDoor.RowKit
open Go.RowKit Go.ChangeShapes Go.WideShapes Go.ChangeAt Go.Proofs.YtaembebbaejfiaaDoorW.PrintWords Go.Proofs.YtaembebbaejfiaaDoor.Str Go.Proofs.YtaembebbaejfiaaDoor.Kit
set_option linter.unusedVariables false
set_option linter.unusedSimpArgs false
theorem strs_arg {H : Type} {enc : TypeId × Value → H} {P : Program} {W : World} {base : Nat} {spare : Nat → Bool} {held : Bool} {t e : TypeId} {a : Option Addr} {len cap : Nat} {d : DataW H} {ps : List MemPlace}
  (ht : P.underlying t = some (.slice e)) (he : P.underlying e = some .string) (hc : P.cellsOf e = 1) (h : DataW.Trod enc P W base spare held t (.slice a len cap) d ps) :
  ∃ xs : List ByteArray, xs.length = len ∧ len ≤ cap ∧ Kd.string.C W a xs.length xs ∧ ((d = .nil ∧ xs = []) ∨ ∃ rest, d = .slice (strs xs) rest) := by
 obtain ⟨fuel, hf⟩ := h
 rcases open_strings ht he hc hf with ⟨hcs, hx⟩ | ⟨ad, l, c, ss, hcs, _, hl, hm, hss, hx, hcell, hws⟩
 ·simp [Value.cells] at hcs
  obtain ⟨rfl, rfl, rfl⟩ := hcs
  simp only [Prod.mk.injEq] at hx
  exact ⟨[], rfl, by omega, ⟨rfl, by simp, fun h => absurd h (by simp)⟩, .inl ⟨hx.1, rfl⟩⟩
 ·simp [Value.cells] at hcs
  obtain ⟨rfl, rfl, rfl⟩ := hcs
  simp only [Prod.mk.injEq] at hx
  have hlen : len ≤ ss.length := by rw [hss]; split <;> omega
  have hl2 : (ss.take len).length = len := by rw [List.length_take]; omega
  refine ⟨ss.take len, hl2, hl, ⟨rfl, by unfold maxLen at hm; omega, fun _ => ⟨ad, rfl, fun j p hp => ?_⟩⟩, .inr ⟨_, hx.1⟩⟩
  obtain ⟨hj, rfl⟩ := List.getElem?_eq_some_iff.1 hp
  refine ⟨[.string (ss.take len)[j]], rfl, rfl, fun i u hu => ?_⟩
  have hi : i < 1 := (List.getElem?_eq_some_iff.1 hu).1
  obtain rfl : i = 0 := by omega
  have hu' : Value.string (ss.take len)[j] = u := by simpa using hu
  subst hu'
  have : j * Kd.string.sz + 0 = j := by simp [Kd.string, Kd.scalar]
  rw [this, hcell j (by rw [hl2] at hj; omega)]
  rw [hl2] at hj
  simp [List.getD_eq_getElem?_getD, List.getElem?_eq_getElem (show j < ss.length by omega)]
end Go.Proofs.YtaembebbaejfiaaDoor.RowKit
namespace Go.Proofs.YtaembebbaejfiaaDoor.DTabsV
set_option linter.unusedVariables false
open Go.RowKit Go.Lib
theorem any {W : World} (hL : laidMet Tryd.prog Rows.fnIndexVolumeRow.laid W) : True := trivial
end Go.Proofs.YtaembebbaejfiaaDoor.DTabsV
namespace Go.Proofs.YtaembebbaejfiaaDoor.RowKit
open Go.RowKit Go.ChangeShapes Go.WideShapes Go.ChangeAt Go.Proofs.YtaembebbaejfiaaDoorW.PrintWords Go.Proofs.YtaembebbaejfiaaDoorW.PrintLast Go.Proofs.YtaembebbaejfiaaDoor.Str Go.Proofs.YtaembebbaejfiaaDoor.Kit Go.Proofs.YtaembebbaejfiaaDoor.PS Go.Proofs.YtaembebbaejfiaaDoor.Tr
set_option linter.unusedVariables false
set_option linter.unusedSimpArgs false
theorem addr_add (a : Addr) (i j : Nat) : (a.add i).add j = a.add (i + j) := by
 unfold Addr.add
 by_cases h : i = 0
 ·subst h; simp
 ·by_cases k : j = 0
  ·subst k; simp
  ·simp [h, k, Nat.add_assoc]
theorem agg_of {v : Value} {l : List Value} (h : v.cells.toList = l) (hl : 2 ≤ l.length) : v = .agg l.toArray := by
 cases v with
 | agg cs =>
  have : cs.toList = l := by simpa [Value.cells] using h
  rw [← this]
 | _ =>
  exfalso
  have := congrArg List.length h
  simp [Value.cells] at this
  omega
theorem weightsAll_in {H : Type} {P : Program} {e : TypeId} : ∀ {l : List (DataW H)} {d : DataW H}, d ∈ l → ∀ n ∈ d.weights P e, n ∈ DataW.weightsAll P e l
 | [], _, h, _, _ => by cases h
 | x :: r, d, h, n, hn => by
  simp only [DataW.weightsAll, List.mem_append]
  rcases List.mem_cons.1 h with rfl | h
  ·exact .inl hn
  ·exact .inr (weightsAll_in h n hn)
theorem row_of {α : Type} {R : Nat → α → Prop} : ∀ (len : Nat), (∀ i, i < len → ∃ p, R i p) → ∃ xs : List α, xs.length = len ∧ ∀ (i : Nat) (hi : i < xs.length), R i xs[i]
 | 0, _ => ⟨[], rfl, fun i hi => absurd hi (by simp)⟩
 | m + 1, each => by
  obtain ⟨xs, hx, hg⟩ := row_of m (fun i hi => each i (by omega))
  obtain ⟨p, hp⟩ := each m (by omega)
  refine ⟨xs ++ [p], by simp [hx], fun i hi => ?_⟩
  by_cases h : i < xs.length
  ·rw [List.getElem_append_left h]; exact hg i h
  ·have : i = m := by simp at hi; omega
   subst this
   subst hx
   simpa using hp
theorem list5 {α : Type} {cs : List α} (h : cs.length = 5) : ∃ a b c d e, cs = [a, b, c, d, e] := by
 match cs, h with
 | [a, b, c, d, e], _ => exact ⟨a, b, c, d, e, rfl⟩
section
variable {H : Type} {enc : TypeId × Value → H} {W : World} {base : Nat} {spare : Nat → Bool} {held : Bool}
theorem strs_small {d : DataW H} {ps : List MemPlace} {fuel : Nat} {v : Value} (hf : DataW.trod enc Tryd.prog W base spare held fuel 25 [v] = some (d, ps)) (hw : ∀ n ∈ d.weights Tryd.prog 25, n ≤ reachBytes) :
  ∃ A c xs, v = .slice A xs.length c ∧ xs.length ≤ c ∧ Kd.string.C W A xs.length xs ∧ (∀ s, s ∈ xs → s.size ≤ maxLen) ∧ xs.length ≤ 8796093022000 := by
 rcases DataW.trod_slice Tryd.underlying25 hf with ⟨hcs, hx⟩ | ⟨ad, l, c, elems, rest, n, _, hcs, hx, _, hl, hm, hlen, _, _, _⟩
 ·have hv : v = .slice none 0 0 := by simpa using hcs
  subst hv
  exact ⟨none, 0, [], rfl, Nat.le_refl _, ⟨rfl, by simp, fun h => absurd h (by simp)⟩, (fun s h => absurd h (by simp)), by simp⟩
 ·have hv : v = .slice (some ad) l c := by simpa using hcs
  subst hv
  have hT : DataW.Trod enc Tryd.prog W base spare held 25 (.slice (some ad) l c) d ps := ⟨fuel, by simpa [Value.cells] using hf⟩
  obtain ⟨xs, hxl, hle, hC, hd⟩ := strs_arg Tryd.underlying25 Tryd.underlying9 (by kernel_rfl) hT
  subst hxl
  refine ⟨some ad, c, xs, rfl, hle, hC, fun s hs => ?_, ?_⟩
  ·rcases hd with ⟨_, rfl⟩ | ⟨rest, rfl⟩
   ·cases hs
   ·have h1 := hw s.data.toList.length (by
     simp only [DataW.weights, Tryd.underlying25, List.mem_cons, List.mem_append]
     refine .inr (.inl (weightsAll_in (d := .lit (.string s.data.toList)) ?_ _ (by simp only [DataW.weights, List.mem_singleton])))
     unfold strs
     exact List.mem_map.2 ⟨s, hs, rfl⟩)
    have h2 : s.data.toList.length = s.size := by rw [Array.length_toList]; rfl
    unfold reachBytes at h1
    unfold maxLen
    omega
  ·rcases hd with ⟨_, rfl⟩ | ⟨rest, rfl⟩
   ·simp
   ·have h1 := hw _ (by
     simp only [DataW.weights, Tryd.underlying25, List.mem_cons]
     exact .inl rfl)
    have hb : Tryd.prog.bytesOf 9 = 16 := by kernel_rfl
    have h3 : (strs xs : List (DataW H)).length = xs.length := by simp [strs]
    rw [hb, h3] at h1
    unfold reachBytes at h1
    omega
theorem val_trod : ∀ (fuel : Nat) (cs : List Value) (d : DataW H) (ps : List MemPlace), DataW.trod enc Tryd.prog W base spare held fuel 32 cs = some (d, ps) → (∀ n ∈ d.weights Tryd.prog 32, n ≤ reachBytes) →
  ∃ x : VS, kS.K W x cs ∧ SmallS x := by
 intro fuel
 induction fuel using Nat.strongRecOn with
 | _ fuel ih =>
  intro cs d ps h hw
  obtain ⟨xs, n, hfu, hx, hl, hxl, hf⟩ := DataW.trod_struct Tryd.underlying32 h
  have hc5 : Tryd.prog.cellsOf 32 = 5 := by kernel_rfl
  rw [hc5] at hl
  obtain ⟨v0, v1, v2, v3, v4, rfl⟩ := list5 hl
  simp only [Prod.mk.injEq] at hx
  obtain ⟨rfl, _⟩ := hx
  have hxl5 : xs.length = 5 := hxl
  obtain ⟨y0, y1, y2, y3, y4, rfl⟩ := list5 hxl5
  have c1 : Tryd.prog.cellsOf 3 = 1 := by kernel_rfl
  have c2 : Tryd.prog.cellsOf 9 = 1 := by kernel_rfl
  have c3 : Tryd.prog.cellsOf 25 = 1 := by kernel_rfl
  have c4 : Tryd.prog.cellsOf 30 = 1 := by kernel_rfl
  have f0 : DataW.trod enc Tryd.prog W base spare held n 3 [v0] = some y0 := by
   have h_ : DataW.trod enc Tryd.prog W base spare held n 3 (([v0, v1, v2, v3, v4].drop 0).take (Tryd.prog.cellsOf 3)) = some y0 := hf 0 _ rfl
   rw [c1] at h_
   exact h_
  have f1 : DataW.trod enc Tryd.prog W base spare held n 3 [v1] = some y1 := by
   have h_ : DataW.trod enc Tryd.prog W base spare held n 3 (([v0, v1, v2, v3, v4].drop 1).take (Tryd.prog.cellsOf 3)) = some y1 := hf 1 _ rfl
   rw [c1] at h_
   exact h_
  have f2 : DataW.trod enc Tryd.prog W base spare held n 9 [v2] = some y2 := by
   have h_ : DataW.trod enc Tryd.prog W base spare held n 9 (([v0, v1, v2, v3, v4].drop 2).take (Tryd.prog.cellsOf 9)) = some y2 := hf 2 _ rfl
   rw [c2] at h_
   exact h_
  have f3 : DataW.trod enc Tryd.prog W base spare held n 25 [v3] = some y3 := by
   have h_ : DataW.trod enc Tryd.prog W base spare held n 25 (([v0, v1, v2, v3, v4].drop 3).take (Tryd.prog.cellsOf 25)) = some y3 := hf 3 _ rfl
   rw [c3] at h_
   exact h_
  have f4 : DataW.trod enc Tryd.prog W base spare held n 30 [v4] = some y4 := by
   have h_ : DataW.trod enc Tryd.prog W base spare held n 30 (([v0, v1, v2, v3, v4].drop 4).take (Tryd.prog.cellsOf 30)) = some y4 := hf 4 _ rfl
   rw [c4] at h_
   exact h_
  have hwE : ∀ (j : Nat) (t : TypeId) (e : DataW H), [3, 3, 9, 25, 30][j]? = some t → [y0.1, y1.1, y2.1, y3.1, y4.1][j]? = some e → ∀ m ∈ e.weights Tryd.prog t, m ≤ reachBytes := by
   intro j t e ht he m hm
   refine hw m ?_
   simp only [DataW.weights, Tryd.underlying32]
   exact DataW.weights_mem_each (ts := [3, 3, 9, 25, 30]) ht he m hm
  obtain ⟨i0, e0, _, _⟩ := DataW.trod_int Tryd.underlying3 f0
  obtain ⟨i1, e1, _, _⟩ := DataW.trod_int Tryd.underlying3 f1
  obtain ⟨s2, e2, hx2, hs2⟩ := DataW.trod_string Tryd.underlying9 f2
  have e0' : v0 = .int .i64 i0 := by simpa using e0
  have e1' : v1 = .int .i64 i1 := by simpa using e1
  have e2' : v2 = .string s2 := by simpa using e2
  subst e0' e1' e2'
  have hsz2 : s2.size ≤ 140737488355328 := by
   have h1 := hwE 2 _ _ rfl rfl s2.data.toList.length (by
    rw [hx2]
    simp only [DataW.weights, List.mem_singleton])
   have h2 : s2.data.toList.length = s2.size := by rw [Array.length_toList]; rfl
   unfold reachBytes at h1
   omega
  obtain ⟨A3, cc3, ks, rfl, hk3, hC3, hks, hkl⟩ := strs_small (d := y3.1) (ps := y3.2) f3 (hwE 3 _ _ rfl rfl)
  have h4 : ∃ A4 cc4, ∃ vs : List VS, v4 = .slice A4 vs.length cc4 ∧ vs.length ≤ cc4 ∧ kS.C W A4 vs.length vs ∧ vs.length ≤ 1759218604400 ∧ ∀ v, v ∈ vs → SmallS v := by
   rcases DataW.trod_slice Tryd.underlying30 f4 with ⟨hcs, hx⟩ | ⟨ad, l, c, elems, rest, m, hfm, hcs, hx, _, hl4, hm4, hlen, hel, _, _⟩
   ·have hv : v4 = .slice none 0 0 := by simpa using hcs
    subst hv
    exact ⟨none, 0, [], rfl, Nat.le_refl _, ⟨rfl, by simp, fun h => absurd h (by simp)⟩, by simp, (fun v h => absurd h (by simp))⟩
   ·have hv : v4 = .slice (some ad) l c := by simpa using hcs
    subst hv
    have hw4 := hwE 4 _ _ rfl rfl
    rw [hx] at hw4
    simp only [DataW.weights, Tryd.underlying30, List.mem_cons, List.mem_append] at hw4
    have hb : Tryd.prog.bytesOf 32 = 80 := by kernel_rfl
    have hlb := hw4 _ (.inl rfl)
    rw [hb, List.length_map, List.length_map, hlen] at hlb
    have hlb2 : l ≤ 1759218604400 := by unfold reachBytes at hlb; omega
    have each : ∀ i, i < l → ∃ p : VS, (∃ c, c.length = 5 ∧ kS.K W p c ∧ ∀ j u, c[j]? = some u → W.cell? (ad.add (i * 5 + j)) = some u) ∧ SmallS p := by
     intro i hi
     have h2 := hel i hi
     rw [List.getElem?_eq_getElem (by omega), hc5, Option.bind_eq_some_iff] at h2
     obtain ⟨cs, h3, h4⟩ := h2
     obtain ⟨_, hcl, hcell⟩ := World.cells?_some h3
     obtain ⟨p, hp, hps⟩ := ih m (by omega) cs (elems[i]'(by omega)).1 (elems[i]'(by omega)).2 h4 (fun q hq => hw4 q (.inr (.inl (weightsAll_in (List.mem_map.2 ⟨_, List.getElem_mem (by omega), rfl⟩) q hq))))
     refine ⟨p, ⟨cs, hcl, hp, fun j u hu => ?_⟩, hps⟩
     have hj : j < 5 := by rw [← hcl]; exact (List.getElem?_eq_some_iff.1 hu).1
     rw [← addr_add, hcell j hj]
     exact hu
    obtain ⟨vs, hvl, hvs⟩ := row_of l each
    subst hvl
    refine ⟨some ad, c, vs, rfl, hl4, ⟨rfl, by unfold maxLen at hm4; omega, fun _ => ⟨ad, rfl, fun j p hp => ?_⟩⟩, hlb2, fun v hv => ?_⟩
    ·obtain ⟨hj, rfl⟩ := List.getElem?_eq_some_iff.1 hp
     exact (hvs j hj).1
    ·obtain ⟨i, hi, rfl⟩ := List.getElem_of_mem hv
     exact (hvs i hi).2
  obtain ⟨A4, cc4, vs, rfl, hv4, hC4, hvl, hvs⟩ := h4
  exact ⟨⟨i0, i1, s2, ks, vs⟩, k32_mk W ⟨i0, i1, s2, ks, vs⟩ hk3 hC3 hv4 hC4, .mk _ hsz2 hks hkl hvl hvs⟩
theorem val_arg {v : Value} {d : DataW H} {ps : List MemPlace} (h : DataW.Trod enc Tryd.prog W base spare held 32 v d ps) (hw : ∀ n ∈ d.weights Tryd.prog 32, n ≤ reachBytes) :
  ∃ (x : VS) (A3 A4 : Option Addr) (c3 c4 : Nat), v.cells.toList = [.int .i64 x.f0, .int .i64 x.f1, .string x.f2, .slice A3 x.f3.length c3, .slice A4 x.f4.length c4] ∧ x.f3.length ≤ c3 ∧ Kd.string.C W A3 x.f3.length x.f3 ∧ x.f4.length ≤ c4 ∧ kS.C W A4 x.f4.length x.f4 ∧ SmallS x := by
 obtain ⟨fuel, hf⟩ := h
 obtain ⟨x, hx, hs⟩ := val_trod fuel _ d ps hf hw
 obtain ⟨A3, c3, A4, c4, e, l3, g3, l4, g4⟩ := k32_open hx
 exact ⟨x, A3, A4, c3, c4, e, l3, g3, l4, g4, hs⟩
end
end Go.Proofs.YtaembebbaejfiaaDoor.RowKit
