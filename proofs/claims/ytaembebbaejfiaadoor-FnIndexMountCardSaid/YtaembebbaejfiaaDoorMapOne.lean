/- impl.toMap, impl.toAny of a mapping with one text; impl.IndexMount of both. -/
import Derived.Test.YtaembebbaejfiaaDoorMount
import Derived.Test.YtaembebbaejfiaaDoorAt
import Derived.Test.YtaembebbaejfiaaDoorMapStep
import Derived.Test.YtaembebbaejfiaaDoorPFnIndexMountx2
namespace Go.Proofs.YtaembebbaejfiaaDoor.Mount
open Go.RowKit Go.Proofs.YtaembebbaejfiaaDoorW.PrintWords Go.Proofs.YtaembebbaejfiaaDoorW.PrintLast Go.Proofs.YtaembebbaejfiaaDoor.Str Go.Proofs.YtaembebbaejfiaaDoor.Kit Go.Proofs.YtaembebbaejfiaaDoor.MapV Go.Proofs.YtaembebbaejfiaaDoor.Frame Go.Proofs.YtaembebbaejfiaaDoor.PFnIndexMount
set_option linter.unusedVariables false
set_option linter.unusedSimpArgs false
abbrev VI := S28
abbrev VS := S32
abbrev kI : Kd VI := k28
abbrev kS : Kd VS := k32
/-- an element of a row of values -/
theorem kI_at {w : World} {A : Option Addr} {xs : List VI} (h : kI.C w A xs.length xs) (h0 : 0 < xs.length) :
    ∃ bk off, A = some ⟨bk, off, none⟩ ∧ bk < w.heap.size ∧ ∀ (j : Nat) (hj : j < xs.length), ∃ A3 c3 A4 c4, w.cell? ⟨bk, off + j * 5, none⟩ = some (.int .i64 xs[j].f0) ∧ w.cell? ⟨bk, off + j * 5 + 1, none⟩ = some (.int .i64 xs[j].f1) ∧ w.cell? ⟨bk, off + j * 5 + 2, none⟩ = some (.string xs[j].f2) ∧ w.cell? ⟨bk, off + j * 5 + 3, none⟩ = some (.slice A3 xs[j].f3.length c3) ∧ w.cell? ⟨bk, off + j * 5 + 4, none⟩ = some (.slice A4 xs[j].f4.length c4) ∧ xs[j].f3.length ≤ c3 ∧ Kd.string.C w A3 xs[j].f3.length xs[j].f3 ∧ xs[j].f4.length ≤ c4 ∧ kI.C w A4 xs[j].f4.length xs[j].f4 := by
  obtain ⟨hl, hm, hc⟩ := h
  obtain ⟨ad, rfl, hcc⟩ := hc h0
  have cell : ∀ (j : Nat) (hj : j < xs.length), ∃ A3 c3 A4 c4, (∀ i u, ([.int .i64 xs[j].f0, .int .i64 xs[j].f1, .string xs[j].f2, .slice A3 xs[j].f3.length c3, .slice A4 xs[j].f4.length c4] : List Value)[i]? = some u → w.cell? (ad.add (j * 5 + i)) = some u) ∧ xs[j].f3.length ≤ c3 ∧ Kd.string.C w A3 xs[j].f3.length xs[j].f3 ∧ xs[j].f4.length ≤ c4 ∧ kI.C w A4 xs[j].f4.length xs[j].f4 := by
    intro j hj
    obtain ⟨c, hcl, hr, hcell⟩ := hcc j xs[j] (List.getElem?_eq_getElem hj)
    obtain ⟨A3, c3, A4, c4, rfl, l3, g3, l4, g4⟩ := k28_open hr
    exact ⟨A3, c3, A4, c4, hcell, l3, g3, l4, g4⟩
  obtain ⟨_, _, _, _, hx, _⟩ := cell 0 h0
  have c0 := hx 0 _ rfl
  rw [Nat.zero_mul, Nat.zero_add] at c0
  obtain ⟨bk, off, spot⟩ := ad
  have hspot : spot = none := by
    cases hs : spot with
    | none => rfl
    | some sp =>
      exfalso
      subst hs
      simp [World.cell?, Addr.add] at c0
      split at c0 <;> simp at c0
  subst hspot
  have add : ∀ j : Nat, (⟨bk, off, none⟩ : Addr).add j = ⟨bk, off + j, none⟩ := by intro j; unfold Addr.add; split <;> simp_all
  refine ⟨bk, off, rfl, ?_, fun j hj => ?_⟩
  · rw [add] at c0
    exact World.block_lt_of_cell? w _ c0
  · obtain ⟨A3, c3, A4, c4, hcell, l3, g3, l4, g4⟩ := cell j hj
    have e : ∀ i u, ([.int .i64 xs[j].f0, .int .i64 xs[j].f1, .string xs[j].f2, .slice A3 xs[j].f3.length c3, .slice A4 xs[j].f4.length c4] : List Value)[i]? = some u → w.cell? ⟨bk, off + j * 5 + i, none⟩ = some u := fun i u hu => by
      have := hcell i u hu
      rw [add, ← Nat.add_assoc] at this
      exact this
    exact ⟨A3, c3, A4, c4, e 0 _ rfl, e 1 _ rfl, e 2 _ rfl, e 3 _ rfl, e 4 _ rfl, l3, g3, l4, g4⟩
set_option maxHeartbeats 3200000 in
set_option maxRecDepth 100000 in
theorem toMapOne (s : BA) (A3 A4 : Option Addr) (c3 c4 : Nat) (w : World) (hk : Kd.string.C w A3 [srcK].length [srcK]) (hv : kI.C w A4 [(⟨3, 0, s, [], []⟩ : VI)].length [⟨3, 0, s, [], []⟩]) :
    Calls Tryd.prog 50 #[.agg #[.int .i64 5, .int .i64 0, .string ⟨#[]⟩, .slice A3 1 c3, .slice A4 1 c4]] w fun e w' => ∃ b, e = .returned (.map (some b)) ∧ MapI w' b [(lb srcK, anyS s)] ∧ Below w.heap.size w w' := by
  obtain ⟨kb, ko, rfl, hkb, hkc⟩ := strs_open hk (by simp)
  obtain ⟨vb, vo, rfl, hvb, hvc⟩ := kI_at hv (by simp)
  have k0 := hkc 0 (by simp)
  obtain ⟨B3, d3, B4, d4, e0, e1, e2, e3, e4, _, _, _, _⟩ := hvc 0 (by simp)
  have hmm := fun (n : Int) (w : World) => run_makeHint (P := Tryd.prog) map_u .i64 n w
  clear hk hv hkc hvc
  have hbx := (Below.refl _ w).alloc (Nat.le_refl _) (.cells #[.int .i64 5, .int .i64 0, .string ⟨#[]⟩, .slice (some ⟨kb, ko, none⟩) 1 c3, .slice (some ⟨vb, vo, none⟩) 1 c4] 28)
  have E0 : w.cell? ⟨vb, vo, none⟩ = some (.int .i64 3) := e0
  have E1 : w.cell? ⟨vb, vo + 1, none⟩ = some (.int .i64 0) := e1
  have E2 : w.cell? ⟨vb, vo + 2, none⟩ = some (.string s) := e2
  have E3 : w.cell? ⟨vb, vo + 3, none⟩ = some (.slice B3 0 d3) := e3
  have E4 : w.cell? ⟨vb, vo + 4, none⟩ = some (.slice B4 0 d4) := e4
  have K0 : w.cell? ⟨kb, ko, none⟩ = some (.string srcK) := k0
  have HE := Aside0.mk (And.intro K0 (And.intro E0 (And.intro E1 (And.intro E2 (And.intro E3 E4)))))
  clear e0 e1 e2 e3 e4 k0 K0 E0 E1 E2 E3 E4
  have HBX := Aside0.mk (show (w.alloc (.cells #[.int .i64 5, .int .i64 0, .string ⟨#[]⟩, .slice (some ⟨kb, ko, none⟩) 1 c3, .slice (some ⟨vb, vo, none⟩) 1 c4] 28)).heap[w.heap.size]? = some (.cells #[.int .i64 5, .int .i64 0, .string ⟨#[]⟩, .slice (some ⟨kb, ko, none⟩) 1 c3, .slice (some ⟨vb, vo, none⟩) 1 c4] 28 (0, 0)) from cb_new _ _)
  have HB0 := Aside0.mk (hb_then hbx ((Below.refl _ _).alloc (Nat.le_refl _) (.map #[] 0)))
  have HBY := Aside0.mk (show ((w.alloc (.cells #[.int .i64 5, .int .i64 0, .string ⟨#[]⟩, .slice (some ⟨kb, ko, none⟩) 1 c3, .slice (some ⟨vb, vo, none⟩) 1 c4] 28)).alloc (.map #[] 0)).heap[w.heap.size]? = some (.cells #[.int .i64 5, .int .i64 0, .string ⟨#[]⟩, .slice (some ⟨kb, ko, none⟩) 1 c3, .slice (some ⟨vb, vo, none⟩) 1 c4] 28 (0, 0)) from (((Below.refl _ (w.alloc (.cells #[.int .i64 5, .int .i64 0, .string ⟨#[]⟩, .slice (some ⟨kb, ko, none⟩) 1 c3, .slice (some ⟨vb, vo, none⟩) 1 c4] 28))).alloc (Nat.le_refl _) (.map #[] 0)).block _ (cb_lt HBX.out)).trans HBX.out)
  have hm0 := MapE.made Tryd.prog 9 (id : Value → Value) (w.alloc (.cells #[.int .i64 5, .int .i64 0, .string ⟨#[]⟩, .slice (some ⟨kb, ko, none⟩) 1 c3, .slice (some ⟨vb, vo, none⟩) 1 c4] 28))
  rw [World.size_alloc] at hm0
  have HM0 := Aside0.mk hm0
  clear hbx hm0 HBX
  go_enter Tryd.func50, Tryd.ntmps50
  go_wp2
  go_loopw [4] (fun v4 wr => (v4 = .int .i64 0 ∧ Aside0 (MapI wr (w.heap.size + 1) []) ∧ Aside0 (Below w.heap.size w wr) ∧ Aside0 (wr.heap[w.heap.size]? = some (.cells #[.int .i64 5, .int .i64 0, .string ⟨#[]⟩, .slice (some ⟨kb, ko, none⟩) 1 c3, .slice (some ⟨vb, vo, none⟩) 1 c4] 28 (0, 0)))) ∨ (v4 = .int .i64 1 ∧ Aside0 (MapI wr (w.heap.size + 1) [(lb srcK, anyS s)]) ∧ Aside0 (Below w.heap.size w wr) ∧ Aside0 (wr.heap[w.heap.size]? = some (.cells #[.int .i64 5, .int .i64 0, .string ⟨#[]⟩, .slice (some ⟨kb, ko, none⟩) 1 c3, .slice (some ⟨vb, vo, none⟩) 1 c4] 28 (0, 0))))) (fun v4 _ => (1 - intOf v4).toNat)
  case atStart => exact .inl ⟨rfl, HM0, HB0, HBY⟩
  case round =>
    clear HM0 HB0 HBY
    rcases hrel with ⟨rfl, HM, HB, HX⟩ | ⟨rfl, HM, HB, HX⟩
    · have x3 := cb_cell (i := 3) HX.out rfl
      have x4 := cb_cell (i := 4) HX.out rfl
      go_wp2_with fail
      have y3 : wr.drew.cell? ⟨w.heap.size, 3, none⟩ = some (.slice (some ⟨kb, ko, none⟩) 1 c3) := x3
      have y4 : wr.drew.cell? ⟨w.heap.size, 4, none⟩ = some (.slice (some ⟨vb, vo, none⟩) 1 c4) := x4
      have n0 : wr.drew.cell? ⟨kb, ko, none⟩ = some (.string srcK) := pw_cell_below HB.out HE.out.1
      have e0 : wr.drew.cell? ⟨vb, vo, none⟩ = some (.int .i64 3) := pw_cell_below HB.out HE.out.2.1
      have e1 : wr.drew.cell? ⟨vb, vo + 1, none⟩ = some (.int .i64 0) := pw_cell_below HB.out HE.out.2.2.1
      have e2 : wr.drew.cell? ⟨vb, vo + 2, none⟩ = some (.string s) := pw_cell_below HB.out HE.out.2.2.2.1
      have e3 : wr.drew.cell? ⟨vb, vo + 3, none⟩ = some (.slice B3 0 d3) := pw_cell_below HB.out HE.out.2.2.2.2.1
      have e4 : wr.drew.cell? ⟨vb, vo + 4, none⟩ = some (.slice B4 0 d4) := pw_cell_below HB.out HE.out.2.2.2.2.2
      refine start_ (n := 13) (S := fun w' => w'.cell? ⟨w.heap.size, 3, none⟩ = some (.slice (some ⟨kb, ko, none⟩) 1 c3) ∧ w'.cell? ⟨w.heap.size, 4, none⟩ = some (.slice (some ⟨vb, vo, none⟩) 1 c4) ∧ w'.cell? ⟨kb, ko, none⟩ = some (.string srcK) ∧ w'.cell? ⟨vb, vo, none⟩ = some (.int .i64 3) ∧ w'.cell? ⟨vb, vo + 1, none⟩ = some (.int .i64 0) ∧ w'.cell? ⟨vb, vo + 2, none⟩ = some (.string s) ∧ w'.cell? ⟨vb, vo + 3, none⟩ = some (.slice B3 0 d3) ∧ w'.cell? ⟨vb, vo + 4, none⟩ = some (.slice B4 0 d4)) (ds := [12]) #[false, false, false, false, false, false, false, false, false, false, false, false, false] (by kernel_rfl) rfl rfl ⟨y3, y4, n0, e0, e1, e2, e3, e4⟩ (fun hHeld => ?_)
      refine pure_ (i := 0) (N := some 23) (v := ?_) (a' := ?_) #[true, false, false, false, false, false, false, false, false, false, false, false, false] rfl rfl (by kernel_rfl) (fun _ _ _ h => h) (Or.inl ⟨by rfl, ?_⟩) ?_ ?_
      rotate_left
      · intro w'
        go_simp
        with_reducible rfl
      rotate_left
      · simp only [Act.put, List.setIfInBounds_toArray, List.set_cons_zero, List.set_cons_succ, i64_w, i32_w]
        rfl
      refine pure_ (i := 1) (N := some 24) (v := ?_) (a' := ?_) #[true, true, false, false, false, false, false, false, false, false, false, false, false] rfl rfl (by kernel_rfl) (fun _ _ _ h => h) (Or.inl ⟨by rfl, ?_⟩) ?_ ?_
      rotate_left
      · intro w'
        go_simp
        with_reducible rfl
      rotate_left
      · simp only [Act.put, List.setIfInBounds_toArray, List.set_cons_zero, List.set_cons_succ, i64_w, i32_w]
        rfl
      refine pure_ (i := 3) (N := some 26) (v := ?_) (a' := ?_) #[true, true, false, true, false, false, false, false, false, false, false, false, false] rfl rfl (by kernel_rfl) (fun _ _ _ h => h) (Or.inl ⟨by rfl, ?_⟩) ?_ ?_
      rotate_left
      · intro w'
        go_simp
        with_reducible rfl
      rotate_left
      · simp only [Act.put, List.setIfInBounds_toArray, List.set_cons_zero, List.set_cons_succ, i64_w, i32_w]
        rfl
      refine pure_ (i := 6) (N := some 29) (v := ?_) (a' := ?_) #[true, true, false, true, false, false, true, false, false, false, false, false, false] rfl rfl (by kernel_rfl) (fun _ _ _ h => h) (Or.inl ⟨by rfl, ?_⟩) ?_ ?_
      rotate_left
      · intro w'
        go_simp
        with_reducible rfl
      rotate_left
      · simp only [Act.put, List.setIfInBounds_toArray, List.set_cons_zero, List.set_cons_succ, i64_w, i32_w]
        rfl
      refine pure_ (i := 8) (N := some 31) (v := ?_) (a' := ?_) #[true, true, false, true, false, false, true, false, true, false, false, false, false] rfl rfl (by kernel_rfl) (fun _ _ _ h => h) (Or.inl ⟨by rfl, ?_⟩) ?_ ?_
      rotate_left
      · intro w'
        go_simp
        with_reducible rfl
      rotate_left
      · simp only [Act.put, List.setIfInBounds_toArray, List.set_cons_zero, List.set_cons_succ, i64_w, i32_w]
        rfl
      refine take_ (i := 2) (N := some 25) (v := ?_) (a' := ?_) #[true, true, true, true, false, false, true, false, true, false, false, false, false] rfl rfl (by kernel_rfl) (fun _ _ _ h => h) (Or.inl ⟨by rfl, ?_⟩) hHeld ?_ ?_
      rotate_left
      · rintro w' ⟨s0, s1, s2, s3, s4, s5, s6, s7⟩
        go_simp
        with_reducible rfl
      rotate_left
      · simp only [Act.put, List.setIfInBounds_toArray, List.set_cons_zero, List.set_cons_succ, i64_w, i32_w]
        rfl
      refine pure_ (i := 4) (N := some 27) (v := ?_) (a' := ?_) #[true, true, true, true, true, false, true, false, true, false, false, false, false] rfl rfl (by kernel_rfl) (fun _ _ _ h => h) (Or.inl ⟨by rfl, ?_⟩) ?_ ?_
      rotate_left
      · intro w'
        go_simp
        with_reducible rfl
      rotate_left
      · simp only [Act.put, List.setIfInBounds_toArray, List.set_cons_zero, List.set_cons_succ, i64_w, i32_w]
        rfl
      refine take_ (i := 5) (N := some 28) (v := ?_) (a' := ?_) #[true, true, true, true, true, true, true, false, true, false, false, false, false] rfl rfl (by kernel_rfl) (fun _ _ _ h => h) (Or.inl ⟨by rfl, ?_⟩) hHeld ?_ ?_
      rotate_left
      · rintro w' ⟨s0, s1, s2, s3, s4, s5, s6, s7⟩
        go_simp
        with_reducible rfl
      rotate_left
      · simp only [Act.put, List.setIfInBounds_toArray, List.set_cons_zero, List.set_cons_succ, i64_w, i32_w]
        rfl
      refine take_ (i := 7) (N := some 30) (v := ?_) (a' := ?_) #[true, true, true, true, true, true, true, true, true, false, false, false, false] rfl rfl (by kernel_rfl) (fun _ _ _ h => h) (Or.inl ⟨by rfl, ?_⟩) hHeld ?_ ?_
      rotate_left
      · rintro w' ⟨s0, s1, s2, s3, s4, s5, s6, s7⟩
        go_simp
        with_reducible rfl
      rotate_left
      · simp only [Act.put, List.setIfInBounds_toArray, List.set_cons_zero, List.set_cons_succ, i64_w, i32_w]
        rfl
      refine pure_ (i := 9) (N := some 32) (v := ?_) (a' := ?_) #[true, true, true, true, true, true, true, true, true, true, false, false, false] rfl rfl (by kernel_rfl) (fun _ _ _ h => h) (Or.inl ⟨by rfl, ?_⟩) ?_ ?_
      rotate_left
      · intro w'
        go_simp
        with_reducible rfl
      rotate_left
      · simp only [Act.put, List.setIfInBounds_toArray, List.set_cons_zero, List.set_cons_succ, i64_w, i32_w]
        rfl
      refine take_ (i := 10) (N := some 33) (v := ?_) (a' := ?_) #[true, true, true, true, true, true, true, true, true, true, true, false, false] rfl rfl (by kernel_rfl) (fun _ _ _ h => h) (Or.inl ⟨by rfl, ?_⟩) hHeld ?_ ?_
      rotate_left
      · rintro w' ⟨s0, s1, s2, s3, s4, s5, s6, s7⟩
        go_simp
        with_reducible rfl
      rotate_left
      · simp only [Act.put, List.setIfInBounds_toArray, List.set_cons_zero, List.set_cons_succ, i64_w, i32_w]
        rfl
      refine one_ (i := 11) (N := some 34) #[true, true, true, true, true, true, true, true, true, true, true, true, false] rfl rfl (by kernel_rfl) (by decide) (fun K hK => ?_)
      refine goes_ Tryd.func29 (by kernel_rfl) rfl #[.agg #[.int .i64 3, .int .i64 0, .string s, .slice B3 0 d3, .slice B4 0 d4]] (by rfl) rfl rfl (by simp only [List.map_toArray, List.map_cons, List.map_nil]; rfl) ?_
      with_reducible refine (toAnyText s B3 B4 0 d3 0 d4 _).mono ?_
      rintro e w3 ⟨rfl, hb3⟩
      refine ⟨_, rfl, ?_⟩
      have HB3 := Aside0.mk hb3
      have HX3 := Aside0.mk (show w3.heap[w.heap.size]? = some (.cells #[.int .i64 5, .int .i64 0, .string ⟨#[]⟩, .slice (some ⟨kb, ko, none⟩) 1 c3, .slice (some ⟨vb, vo, none⟩) 1 c4] 28 (0, 0)) from (hb3.block _ (cb_lt (show wr.drew.heap[w.heap.size]? = _ from HX.out))).trans (show wr.drew.heap[w.heap.size]? = _ from HX.out))
      have HM3 := Aside0.mk ((HM.out.below (below_drew (Below.refl _ _))).below hb3)
      refine hK.out _ _ ⟨pw_cell_below hb3 hHeld.1, pw_cell_below hb3 hHeld.2.1, pw_cell_below hb3 hHeld.2.2.1, pw_cell_below hb3 hHeld.2.2.2.1, pw_cell_below hb3 hHeld.2.2.2.2.1, pw_cell_below hb3 hHeld.2.2.2.2.2.1, pw_cell_below hb3 hHeld.2.2.2.2.2.2.1, pw_cell_below hb3 hHeld.2.2.2.2.2.2.2⟩ (fun hHeld => ?_)
      clear hK K
      refine norm_ (a' := ?_) ?_ ?_
      rotate_left
      · show Act.put _ (some 34) _ = _
        simp only [Act.put, List.setIfInBounds_toArray, List.set_cons_zero, List.set_cons_succ, i64_w, i32_w]
        rfl
      refine last_ (i := 12) (N := none) #[true, true, true, true, true, true, true, true, true, true, true, true, true] rfl rfl (by kernel_rfl) (by decide) (fun K hK => ?_)
      refine store_mapE_step (enc := (id : Value → Value)) (y := anyS s) key_u map_u rfl rfl _ _ _ rfl rfl HM3.out (by decide) rfl (by decide) rfl ?_
      intro w4 hm4 hg4
      have HM4 := Aside0.mk hm4
      have HG4 := Aside0.mk hg4
      clear hm4 hg4
      refine hK.out _ _ ?_
      clear hK K
      refine done_ (by kernel_rfl) ?_
      go_wp2
      go_roundw
      case rel =>
        refine .inr ⟨by go_num, HM4, ⟨?_⟩, ⟨?_⟩⟩
        · exact pw_below_grown (hb_then (below_drew HB.out) HB3.out) _ (hb_then (below_drew HB.out) HB3.out).size HG4.out (fun k hk => by injection hk with hk; omega)
        · exact (HG4.out.block _ (cb_lt HX3.out) (fun e => by injection e with e; omega)).trans HX3.out
      case measure => simp [intOf]
    · have x3 := cb_cell (i := 3) HX.out rfl
      have x4 := cb_cell (i := 4) HX.out rfl
      go_wp2
      go_ret
      exact ⟨_, rfl, HM.out, HB.out⟩
end Go.Proofs.YtaembebbaejfiaaDoor.Mount
