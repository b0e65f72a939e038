/- Parts of the proof, laid together: VolFit, LawOmit, TabsName. -/
import Derived.Test.YtmpmekliaicecaaDoorO6
import Derived.Test.YtmpmekliaicecaaDoorO7
import Derived.Test.YtmpmekliaicecaaDoorCards
import Derived.PinnedBridge
import Derived.Lib.LaidU8
import Derived.Stop.LaidErr
set_option linter.unusedVariables false
set_option linter.unusedSimpArgs false
namespace Go.Proofs.YtmpmekliaicecaaDoor.Tr
open Go.RowKit Go.Proofs.YtmpmekliaicecaaDoorW.PrintWords Go.Proofs.YtmpmekliaicecaaDoorW.PrintLast Go.Proofs.YtmpmekliaicecaaDoor.Str Go.Proofs.YtmpmekliaicecaaDoor.Kit Go.Proofs.YtmpmekliaicecaaDoor.MapV Go.Proofs.YtmpmekliaicecaaDoor.Frame Go.Proofs.YtmpmekliaicecaaDoor.PS
open Go.Proofs.YtmpmekliaicecaaDoor.RowKit (vol volL)
def anyV (v : VS) : Y := anyOf (toI v)
theorem volW_fit : ∀ (ks : List BA) (vs : List VS) (K : List BA) (V : List VS), RiseK K → K.length = V.length →
  volYm (((fitW ks vs K V).1.map lb).zip ((fitW ks vs K V).2.map anyV)) ≤ volYm ((K.map lb).zip (V.map anyV)) + bulk ks + volYl (vs.map anyV)
 | [], vs, K, V, _, _ => by simp only [fitW]; omega
 | k :: ks, [], K, V, _, _ => by simp only [fitW]; omega
 | k :: ks, v :: vs, K, V, hr, hl => by
  have ih := volW_fit ks vs (withK K k) (withV K V k v) (withK_rises hr) (withV_length (x := v) hl).symm; rw [with_mput anyV K V k v hr hl] at ih; have h1 := volYm_ins (lb k, anyV v) (mdel ((K.map lb).zip (V.map anyV)) (lb k)); have h2 := volYm_del (lb k) ((K.map lb).zip (V.map anyV)); have h3 : volYm (mput ((K.map lb).zip (V.map anyV)) (lb k) (anyV v)) = volYp (lb k, anyV v) + volYm (mdel ((K.map lb).zip (V.map anyV)) (lb k)) := h1
  have h4 : volYp (lb k, anyV v) = k.size + volY (anyV v) := by simp [volYp, yk]
  have e : bulk (k :: ks) = k.size + 1 + bulk ks := by simp [bulk]
  rw [fitW, e, List.map_cons]; simp only [volYl]
  omega
mutual
theorem vol_fit : ∀ x : VS, volY (anyV (fitV x)) ≤ vol x
 | ⟨k, n, t, ks, vs⟩ => by
  have hL := vol_fitL vs
  by_cases h1 : k = 1
  ·subst h1
   by_cases hn : n = 0
   ·have e : anyV (fitV ⟨1, n, t, ks, vs⟩) = .bool false := by simp [anyV, fitV, hn, leaf, toI, toL, anyOf]
    rw [e]; simp only [volY, vol]; omega
   ·have e : anyV (fitV ⟨1, n, t, ks, vs⟩) = .bool true := by simp [anyV, fitV, hn, leaf, toI, toL, anyOf]
    rw [e]; simp only [volY, vol]; omega
  by_cases h2 : k = 2
  ·subst h2
   have e : anyV (fitV ⟨2, n, t, ks, vs⟩) = .int n := by simp [anyV, fitV, leaf, toI, toL, anyOf]
   rw [e]; simp only [volY, vol]; omega
  by_cases h3 : k = 3
  ·subst h3
   have e : anyV (fitV ⟨3, n, t, ks, vs⟩) = .text t := by simp [anyV, fitV, leaf, toI, toL, anyOf]
   rw [e]; simp only [volY, vol]; omega
  by_cases h4 : k = 4
  ·subst h4
   have e : anyV (fitV ⟨4, n, t, ks, vs⟩) = .list ((fitL vs).map anyV) := by
    have e2 : fitV ⟨4, n, t, ks, vs⟩ = ⟨4, 0, ⟨#[]⟩, [], fitL vs⟩ := by simp [fitV]
    rw [e2]; exact any_list 0 _ [] _
   rw [e]; simp only [volY, vol]
   omega
  by_cases h5 : k = 5
  ·subst h5
   have e2 : fitV ⟨5, n, t, ks, vs⟩ = ⟨5, 0, ⟨#[]⟩, (fitW ks (fitL vs) [] []).1, (fitW ks (fitL vs) [] []).2⟩ := by simp [fitV]
   obtain ⟨a, b, _⟩ := fitW_facts ks (fitL vs) [] [] rfl List.Pairwise.nil
   have e : anyV (fitV ⟨5, n, t, ks, vs⟩) = .map (((fitW ks (fitL vs) [] []).1.map lb).zip ((fitW ks (fitL vs) [] []).2.map anyV)) := by
    rw [e2]; exact any_map b 0 _
   have h := volW_fit ks (fitL vs) [] [] List.Pairwise.nil rfl; rw [e]; simp only [volY, vol]; simp only [List.map_nil, List.zip_nil_left, volYm] at h
   omega
  ·have e : anyV (fitV ⟨k, n, t, ks, vs⟩) = .null := by simp [anyV, fitV, h1, h2, h3, h4, h5, leaf, toI, toL, anyOf]
   rw [e]; simp only [volY, vol]; omega
theorem vol_fitL : ∀ l : List VS, volYl ((fitL l).map anyV) ≤ volL l
 | [] => by simp [fitL, volYl]
 | v :: r => by
  have h1 := vol_fit v; have h2 := vol_fitL r; simp only [fitL, List.map_cons, volYl, volL]
  omega
end
end Go.Proofs.YtmpmekliaicecaaDoor.Tr
namespace Go.Proofs.YtmpmekliaicecaaDoor.Tr
open Go.RowKit Go.Proofs.YtmpmekliaicecaaDoorW.PrintWords Go.Proofs.YtmpmekliaicecaaDoorW.PrintLast Go.Proofs.YtmpmekliaicecaaDoor.Str Go.Proofs.YtmpmekliaicecaaDoor.Kit Go.Proofs.YtmpmekliaicecaaDoor.MapV Go.Proofs.YtmpmekliaicecaaDoor.Frame Go.Proofs.YtmpmekliaicecaaDoor.PS
open Go.Proofs.YtmpmekliaicecaaDoor.RowKit (vol small_vol)
open Go.Proofs.YtmpmekliaicecaaDoor.LawName (NTabs normAwake)
theorem any_map5 {z : VS} (h5 : z.f0 = 5) : anyOf (toI z) = .map (mapOf (toI z)) := by
 rw [toI_eq, h5]; simp only [anyOf]; rw [if_neg (by decide), if_neg (by decide), if_neg (by decide), if_neg (by decide), if_pos trivial]; rfl
theorem toV_reads (y : VS) (hy : SmallS y) {u0 u1 : Int} {u2 : BA} {u3 : List BA} {u4 : List VI} (hu : toI y = ⟨u0, u1, u2, u3, u4⟩) (A3 A4 : Option Addr) (c3 c4 : Nat) (w : World) (h : Reads w y A3 c3 A4 c4) : Calls Tryd.prog 11 #[.agg #[.int .i64 y.f0, .int .i64 y.f1, .string y.f2, .slice A3 y.f3.length c3, .slice A4 y.f4.length c4]] w fun e w' => ∃ B3 d3 B4 d4, e = .returned (.agg #[.int .i64 u0, .int .i64 u1, .string u2, .slice B3 u3.length d3, .slice B4 u4.length d4]) ∧ ReadsI w' ⟨u0, u1, u2, u3, u4⟩ B3 d3 B4 d4 ∧ Below w.heap.size w w' := by
 refine (to_calls y hy A3 A4 c3 c4 w h.l3 h.hk h.l4 h.hv).mono ?_; rw [hu]; rintro e w1 ⟨B3, d3, B4, d4, rfl, h3, k3, h4, k4, hb⟩; exact ⟨B3, d3, B4, d4, rfl, ⟨h3, k3, h4, k4⟩, hb⟩
theorem omit_back (y : VS) (hyc : Canon y) (hys : SmallS y) (h5 : y.f0 = 5) (hv : volY (anyOf (toI y)) ≤ 1048576) (hf : fullV y = true) {u0 u1 : Int} {u2 : BA} {u3 : List BA} {u4 : List VI} (hu : toI y = ⟨u0, u1, u2, u3, u4⟩) (A3 A4 : Option Addr) (c3 c4 : Nat) (w : World) (h1 : ReadsI w ⟨u0, u1, u2, u3, u4⟩ A3 c3 A4 c4) :
  Calls Tryd.prog 10 #[.agg #[.int .i64 u0, .int .i64 u1, .string u2, .slice A3 u3.length c3, .slice A4 u4.length c4]] w (GivesI w ⟨u0, u1, u2, u3, u4⟩) := by
 have e1 := any_map5 h5; have hfl := full_of hyc hf; have hfit := (small_fits (small_to y hys)).1; have hbk := canon_back hyc; have hsm := small_to y hys; rw [e1] at hfl hfit hbk hv; rw [hu] at hfl hfit hbk hv hsm; exact omit_impl ⟨u0, u1, u2, u3, u4⟩ hsm hfl (by omega) hfit hbk A3 A4 c3 c4 w h1
set_option maxHeartbeats 6400000 in
set_option maxRecDepth 100000 in
theorem lawOmit (x : VS) (hx : vol x ≤ 1048576) (A3 A4 : Option Addr) (c3 c4 : Nat) (w : World) (h : Reads w x A3 c3 A4 c4) (hT : NTabs w) :
  Calls Tryd.prog 3 #[.agg #[.int .i64 x.f0, .int .i64 x.f1, .string x.f2, .slice A3 x.f3.length c3, .slice A4 x.f4.length c4]] w fun e w' => e = .returned (.bool true) ∧ Below w.heap.size w w' := by
 have hxs := small_vol x hx; have hb1 := zb (Below.refl w.heap.size w) (.cells #[.int .i64 x.f0, .int .i64 x.f1, .string x.f2, .slice A3 x.f3.length c3, .slice A4 x.f4.length c4] 25); have hxb := yx w (.cells #[.int .i64 x.f0, .int .i64 x.f1, .string x.f2, .slice A3 x.f3.length c3, .slice A4 x.f4.length c4] 25); have HTT := aM hT; have HB := aM hb1; have HX := aM hxb; have HRD := aM (h.below hb1); have CZ := aM (fits_reads x A3 A4 c3 c4 _ HRD.out); clear hb1 h hT
 go_enter Tryd.func3, Tryd.ntmps3
 go_wp2_with (refine load_val (.tmp 1) rfl rfl rfl hxb ?_)
 refine CZ.out.mono ?_; rintro e w1 ⟨b, rfl, hb⟩; have HB1 := aM (yq HB.out hb); have hx1 := (hb.block _ (yb HX.out)).trans HX.out; have HRD1 := aM (HRD.out.below hb); clear hb HB HX HRD CZ hxb
 cases b
 ·go_wp2
  go_ret
  exact ⟨rfl, HB1.out⟩
 have CF := aM (fit_gives x hxs A3 A4 c3 c4 w1 HRD1.out); have hyv : volY (anyOf (toI (fitV x))) ≤ 1048576 := Nat.le_trans (vol_fit x) hx; have hys : SmallS (fitV x) := (fit_facts x hxs).1; have hyc : Canon (fitV x) := canon_fit x hxs; generalize fitV x = y at CF hyv hys hyc; have HYV := aM hyv; have HYS := aM hys; have HYC := aM hyc; clear hyv hys hyc hxs hx
 go_wp2_with (refine load_val (.tmp 1) rfl rfl rfl hx1 ?_)
 refine CF.out.mono ?_; rintro e w3 ⟨E3, f3, E4, f4, rfl, hrd, hb⟩; have HB3' := aM (yq HB1.out hb); have hx3 := (hb.block _ (yb hx1)).trans hx1; have hlt2 := yb hx1; have hg := yj w3 w.heap.size #[.int .i64 y.f0, .int .i64 y.f1, .string y.f2, .slice E3 y.f3.length f3, .slice E4 y.f4.length f4]; have HB4 := aM (zm HB3'.out (some w.heap.size) HB3'.out.size hg (fun k hk => by injection hk with hk; omega)); have HRD4 := aM (hrd (w3.setRow w.heap.size #[.int .i64 y.f0, .int .i64 y.f1, .string y.f2, .slice E3 y.f3.length f3, .slice E4 y.f4.length f4]) (fun k hk _ => setRow_other w3 w.heap.size k _ (by omega))); have hx4 := setRow_heap w3 w.heap.size _ #[.int .i64 y.f0, .int .i64 y.f1, .string y.f2, .slice E3 y.f3.length f3, .slice E4 y.f4.length f4] _ _ hx3; clear hb CF hrd HRD1 hlt2 HB1 hg HB3'
 obtain ⟨w4, hw4⟩ : ∃ w4, w3.setRow w.heap.size #[.int .i64 y.f0, .int .i64 y.f1, .string y.f2, .slice E3 y.f3.length f3, .slice E4 y.f4.length f4] = w4 := ⟨_, rfl⟩
 rw [hw4] at HRD4 HB4 hx4; have HW4 := aM hw4; clear hw4; obtain ⟨y0', y1', y2', y3', y4'⟩ := cell_row5 hx4
 by_cases h5 : y.f0 = 5
 rotate_left
 ·have b5 : ((y.f0 : Int) != 5) = true := by simpa using h5
  have b6 : ((y.f0 : Int) == 5) = false := by simpa using h5
  have CL := aM (normAwake w4 (HTT.out.below HB4.out)); clear h5
  go_wp2_with (refine xr (.tmp 1) (.tmp 7) rfl rfl rfl rfl hx3 ?_; rw [HW4.out]; clear hx3)
  refine CL.out.mono ?_; rintro e w5 ⟨rfl, hb⟩; have HB5 := aM (yq HB4.out hb); clear hb CL
  go_wp2
  go_ret
  exact ⟨rfl, HB5.out⟩
 have b5 : ((y.f0 : Int) != 5) = false := by simpa using h5
 have CN := aM (full_reads y HYS.out E3 E4 f3 f4 w4 HRD4.out); have COF := aM (fun (hf : fullV y = true) {u0 u1 : Int} {u2 : BA} {u3 : List BA} {u4 : List VI} (hu : toI y = ⟨u0, u1, u2, u3, u4⟩) => omit_back y HYC.out HYS.out h5 HYV.out hf hu)
 obtain ⟨v, hv⟩ : ∃ v, toI y = v := ⟨_, rfl⟩
 have HUS := aM (show Small v by rw [← hv]; exact small_to y HYS.out); have HFR := aM (show fromI v = y by rw [← hv]; exact from_to y); obtain ⟨v0, v1, v2, v3, v4⟩ := v; have HV := aM hv; clear hv h5 HYC
 go_wp2_with (refine xr (.tmp 1) (.tmp 7) rfl rfl rfl rfl hx3 ?_; rw [HW4.out]; clear hx3)
 refine CN.out.mono ?_; rintro e w5 ⟨rfl, hb⟩; have HB5 := aM (yq HB4.out hb); have hx5 := (hb.block _ (yb hx4)).trans hx4; have HRD5 := aM (HRD4.out.below hb); clear hb CN hx4 HRD4 HB4 y0' y1' y2' y3' y4' b5
 by_cases hful : fullV y = true
 rotate_left
 ·have hff : fullV y = false := by simpa using hful
  have CL := aM (normAwake w5 (HTT.out.below HB5.out)); rw [hff]; clear hful hff
  go_wp2_with fail
  refine CL.out.mono ?_; rintro e w6 ⟨rfl, hb⟩; have HB6 := aM (yq HB5.out hb); clear hb CL
  go_wp2
  go_ret
  exact ⟨rfl, HB6.out⟩
 have COM := aM (COF.out hful HV.out); rw [hful]; clear hful COF; obtain ⟨x0, x1, x2, x3, x4⟩ := cell_row5 hx5; have HX5 := aM hx5; have HB0 := aM (yf (Below.refl w5.heap.size w5)); have HTW := aM (HTT.out.below HB5.out); clear hx5
 go_wp2
 refine xc (n := 10) (S := fun w' => w'.cell? ⟨w.heap.size, 0, none⟩ = some (.int .i64 y.f0) ∧ w'.cell? ⟨w.heap.size, 1, none⟩ = some (.int .i64 y.f1) ∧ w'.cell? ⟨w.heap.size, 2, none⟩ = some (.string y.f2) ∧ w'.cell? ⟨w.heap.size, 3, none⟩ = some (.slice E3 y.f3.length f3) ∧ w'.cell? ⟨w.heap.size, 4, none⟩ = some (.slice E4 y.f4.length f4)) (ds := [5, 7]) (bZ 10 0) (by kernel_rfl) rfl rfl ⟨x0, x1, x2, x3, x4⟩ (fun hHeld => ?_); refine tU 0 (some 17) (bZ 10 1) rfl (by kernel_rfl) (Or.inl ⟨by rfl, by rintro w' ⟨s0, s1, s2, s3, s4⟩; go_simp; with_reducible rfl⟩) hHeld ?_; refine tU 4 (some 21) (bZ 10 17) rfl (by kernel_rfl) (Or.inl ⟨by rfl, by rintro w' ⟨s0, s1, s2, s3, s4⟩; go_simp; with_reducible rfl⟩) hHeld ?_; refine one_ (i := 1) (N := some 18) (bZ 10 19) rfl rfl (by kernel_rfl) (by decide) (fun K hK => ?_); refine goes_ Tryd.func11 (by kernel_rfl) rfl #[.agg #[.int .i64 y.f0, .int .i64 y.f1, .string y.f2, .slice E3 y.f3.length f3, .slice E4 y.f4.length f4]] (by rfl) rfl rfl (by simp only [List.map_toArray, List.map_cons, List.map_nil]; rfl) ?_
 with_reducible refine (toV_reads y HYS.out HV.out E3 E4 f3 f4 w5.drew (HRD5.out.below HB0.out)).mono ?_
 rintro e t1 ⟨L3, l3, L4, l4, rfl, hl, hb1⟩; refine ⟨_, rfl, ?_⟩; have HL1 := aM hl; have HC1 := aM (yq HB0.out hb1); clear hl; refine hK.out _ _ ⟨zk hb1 hHeld.1, zk hb1 hHeld.2.1, zk hb1 hHeld.2.2.1, zk hb1 hHeld.2.2.2.1, zk hb1 hHeld.2.2.2.2⟩ (fun hHeld => ?_); clear hK K; refine zt (a' := ?_) ?_ ?_; rotate_left
 ·show Act.put _ (some 18) _ = _
  simp only [Act.put, sA, sB, sC, zw, zx]; rfl
 refine one_ (i := 2) (N := some 19) (bZ 10 23) rfl rfl (by kernel_rfl) (by decide) (fun K hK => ?_); refine goes_ Tryd.func10 (by kernel_rfl) rfl #[.agg #[.int .i64 v0, .int .i64 v1, .string v2, .slice L3 v3.length l3, .slice L4 v4.length l4]] (by rfl) rfl rfl (by simp only [List.map_toArray, List.map_cons, List.map_nil]; rfl) ?_
 with_reducible refine (COM.out L3 L4 l3 l4 t1 HL1.out).mono ?_
 rintro e t2 ⟨P3, p3, P4, p4, rfl, hp, hb2⟩; refine ⟨_, rfl, ?_⟩; have HP2 := aM hp; have HC2 := aM (yq HC1.out hb2); clear hp; refine hK.out _ _ ⟨zk hb2 hHeld.1, zk hb2 hHeld.2.1, zk hb2 hHeld.2.2.1, zk hb2 hHeld.2.2.2.1, zk hb2 hHeld.2.2.2.2⟩ (fun hHeld => ?_); clear hK K; refine zt (a' := ?_) ?_ ?_; rotate_left
 ·show Act.put _ (some 19) _ = _
  simp only [Act.put, sA, sB, sC, zw, zx]; rfl
 refine one_ (i := 3) (N := some 20) (bZ 10 31) rfl rfl (by kernel_rfl) (by decide) (fun K hK => ?_); refine goes_ Tryd.func9 (by kernel_rfl) rfl #[.agg #[.int .i64 v0, .int .i64 v1, .string v2, .slice P3 v3.length p3, .slice P4 v4.length p4]] (by rfl) rfl rfl (by simp only [List.map_toArray, List.map_cons, List.map_nil]; rfl) ?_
 with_reducible refine (from_calls ⟨v0, v1, v2, v3, v4⟩ y HFR.out HUS.out P3 P4 p3 p4 t2 HP2.out.l3 HP2.out.hk HP2.out.l4 HP2.out.hv).mono ?_
 rintro e t3 ⟨F3, F5, F4, F6, rfl, f3_, g3_, f4_, g4_, hb3⟩; refine ⟨_, rfl, ?_⟩; have F_ := aM (And.intro f3_ (And.intro g3_ (And.intro f4_ g4_))); have HC3 := aM (yq HC2.out hb3); clear f3_ g3_ f4_ g4_; refine hK.out _ _ ⟨zk hb3 hHeld.1, zk hb3 hHeld.2.1, zk hb3 hHeld.2.2.1, zk hb3 hHeld.2.2.2.1, zk hb3 hHeld.2.2.2.2⟩ (fun hHeld => ?_); clear hK K; refine zt (a' := ?_) ?_ ?_; rotate_left
 ·show Act.put _ (some 20) _ = _
  simp only [Act.put, sA, sB, sC, zw, zx]; rfl
 refine xl (i := 5) (N := some 22) (bZ 10 63) rfl rfl (by kernel_rfl) (by decide) (fun K hK => ?_); refine goes_ Tryd.func8 (by kernel_rfl) rfl #[.agg #[.int .i64 y.f0, .int .i64 y.f1, .string y.f2, .slice F3 y.f3.length F5, .slice F4 y.f4.length F6], .agg #[.int .i64 y.f0, .int .i64 y.f1, .string y.f2, .slice E3 y.f3.length f3, .slice E4 y.f4.length f4]] (by rfl) rfl rfl (by simp only [List.map_toArray, List.map_cons, List.map_nil]; rfl) ?_
 with_reducible refine (same_calls y HYS.out.short F3 F4 F5 F6 E3 E4 f3 f4 t3 F_.out.1 F_.out.2.1 F_.out.2.2.1 F_.out.2.2.2 (HRD5.out.below HC3.out).l3 (HRD5.out.below HC3.out).hk (HRD5.out.below HC3.out).l4 (HRD5.out.below HC3.out).hv).mono ?_
 rintro e t4 ⟨rfl, hb4⟩; refine ⟨_, rfl, ?_⟩; have HC4 := aM (yq HC3.out hb4); refine hK.out _ _ ?_; clear hK K; refine zt (a' := ?_) ?_ ?_; rotate_left
 ·show Act.put _ (some 22) _ = _
  simp only [Act.put, sA, sB, sC, zw, zx]; rfl
 refine pU 6 (some 23) (bZ 10 127) rfl (by kernel_rfl) ?_; refine xl (i := 7) (N := some 24) (bZ 10 255) rfl rfl (by kernel_rfl) (by decide) (fun K hK => ?_); refine goes_ Tryd.func7 (by kernel_rfl) rfl #[] (by rfl) rfl rfl (by simp only [List.map_toArray, List.map_cons, List.map_nil]) ?_
 with_reducible refine (normAwake t4 (HTW.out.below HC4.out)).mono ?_
 rintro e t5 ⟨rfl, hb5⟩; refine ⟨_, rfl, ?_⟩; have HC5 := aM (yq HC4.out hb5); refine hK.out _ _ ?_; clear hK K; refine zt (a' := ?_) ?_ ?_; rotate_left
 ·show Act.put _ (some 24) _ = _
  simp only [Act.put, sA, sB, sC, zw, zx]; rfl
 refine pU 8 (some 25) (bZ 10 511) rfl (by kernel_rfl) ?_; refine pU 9 (some 2) (bZ 10 1023) rfl (by kernel_rfl) ?_; refine xp (by kernel_rfl) ?_
 go_wp2
 go_ret
 exact ⟨rfl, yq HB5.out HC5.out⟩
theorem lawOmitRow (x : VS) (A3 A4 : Option Addr) (c3 c4 : Nat) (w : World) (h3 : x.f3.length ≤ c3) (hk : Kd.string.C w A3 x.f3.length x.f3) (h4 : x.f4.length ≤ c4) (hv : kS.C w A4 x.f4.length x.f4) (hx : vol x ≤ 1048576) (hT : NTabs w) :
  Calls Tryd.prog 3 #[.agg #[.int .i64 x.f0, .int .i64 x.f1, .string x.f2, .slice A3 x.f3.length c3, .slice A4 x.f4.length c4]] w fun e w' => e = .returned (.bool true) ∧ Below w.heap.size w w' := lawOmit x hx A3 A4 c3 c4 w ⟨h3, hk, h4, hv⟩ hT
end Go.Proofs.YtmpmekliaicecaaDoor.Tr
namespace Go.Proofs.YtmpmekliaicecaaDoor.Tabs
open Go.RowKit Go.Lib Go.Shelf
set_option maxRecDepth 100000
theorem accept_eq : (Rows.laid_unicode_utf8_acceptRanges : DataW Unit) = acceptData := by kernel_rfl
theorem x204 : CaseExtra Tryd.prog Tryd.lays204_ren := ⟨by kernel_rfl, by kernel_rfl, by kernel_rfl, by kernel_rfl, by kernel_rfl, by kernel_rfl⟩
theorem x260 : U8Extra Tryd.prog Tryd.lays260_ren := ⟨by kernel_rfl, by kernel_rfl, by kernel_rfl, by kernel_rfl, by kernel_rfl, by kernel_rfl, by kernel_rfl⟩
theorem case_of {W : World} (h : VarReads Tryd.prog W "unicode.CaseRanges" Rows.laid_unicode_CaseRanges) : CaseVar 0 caseA W := by
 have e : Rows.laid_unicode_CaseRanges = caseData := Pinned.caseRanges_eq; rw [e] at h; exact caseVar_of_reads (ρ := Tryd.lays204_ren) { Tryd.lays204 with } (by kernel_rfl) x204 h
theorem utf8_of {W : World} (h3 : VarReads Tryd.prog W "unicode/utf8.first" Rows.laid_unicode_utf8_first) (h4 : VarReads Tryd.prog W "unicode/utf8.acceptRanges" Rows.laid_unicode_utf8_acceptRanges) : Lib.Utf8Tabs 2 3 W := by
 have e : Rows.laid_unicode_utf8_first = firstData := Pinned.utf8First_eq; rw [e] at h3; rw [accept_eq] at h4; exact utf8Tabs_of_reads Tryd.lays260 x260 h3 h4
theorem names {W : World} (hL : laidMet Tryd.prog Rows.fnOmitFullUptoRow.laid W) : LawName.NTabs W :=
 ⟨case_of (Lib.laidMet.reads hL (.tail _ (.head _))), utf8_of (Lib.laidMet.reads hL (.tail _ (.tail _ (.head _)))) (Lib.laidMet.reads hL (.head _))⟩
end Go.Proofs.YtmpmekliaicecaaDoor.Tabs
