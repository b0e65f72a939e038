/- ParseVolume returns the documented volume: the walk of the law. -/
import Derived.Test.YtpkfdifoaijpnaaDoorShortSpec
namespace Go.Proofs.YtpkfdifoaijpnaaDoor.Vol
open Go.RowKit Go.Proofs.YtpkfdifoaijpnaaDoorW.PrintWords Go.Proofs.YtpkfdifoaijpnaaDoorW.PrintLast Go.Proofs.YtpkfdifoaijpnaaDoor.Str Go.Proofs.YtpkfdifoaijpnaaDoor.Kit Go.Proofs.YtpkfdifoaijpnaaDoor.Frame Go.Proofs.YtpkfdifoaijpnaaDoor.Index
set_option linter.unusedVariables false
set_option linter.unusedSimpArgs false

/-- the thin package's mount beside the reference's -/
def besC (v : SpecV) (i1 i2 : Bool) : Array Value := #[.string v.typ, .string v.src, .string v.tgt, .string ⟨#[]⟩, .string v.pr, .string v.se, .bool v.ro, .bool v.ch, .bool v.nc, .bool i1, .bool i2, .bool false]
theorem implC_bes (u : VolV) : implC u = besC (asSpec u) u.bind.isSome u.own.isSome := rfl
theorem lawShortVolume' (v : SpecV) (i1 i2 : Bool) (u : VolV) (hu : asSpec u = v) (h1 : u.bind.isSome = i1) (h2 : u.own.isSome = i2) (w : World) :
    Calls Tryd.prog 14 #[.agg #[.string v.typ, .string v.src, .string v.tgt, .string ⟨#[]⟩, .string v.pr, .string v.se, .bool v.ro, .bool v.ch, .bool v.nc, .bool i1, .bool i2, .bool false]] w fun e w' => e = .returned (.agg #[.string v.typ, .string v.src, .string v.tgt, .string v.pr, .string v.se, .bool v.ro, .bool v.ch, .bool v.nc]) ∧ Below w.heap.size w w' := by
  subst hu h1 h2
  exact lawShortVolume u w
set_option maxHeartbeats 6400000 in
set_option maxRecDepth 1000000 in
theorem lawShort (s : ByteArray) (w : World) (_ : s.size ≤ 140737488351232) (hT : VTabs w) :
    Calls Tryd.prog 5 #[.string s] w fun e w' => e = .returned (.bool true) ∧ Below w.heap.size w w' := by
  have HT := Aside0.mk hT
  have HB0 := Aside0.mk (Below.refl w.heap.size w)
  clear hT
  by_cases hs : 2147483647 < s.size
  · have hs' : (2147483647 : Int) < (s.size : Int) := by omega
    clear hs
    go_enter Tryd.func5, Tryd.ntmps5
    go_wp2
    go_ret
    exact ⟨rfl, HB0.out⟩
  · have hs' : ¬ (2147483647 : Int) < (s.size : Int) := by omega
    have CI := Aside0.mk (fun (v : SpecV) (hn : ShortP s v) (w1 : World) (h1 : VTabs w1) => show ∃ i1 i2 u, asSpec u = v ∧ u.bind.isSome = i1 ∧ u.own.isSome = i2 ∧ Calls Tryd.prog 12 #[.string s] w1 (fun e w' => e = .returned (.tuple #[.agg #[.string v.typ, .string v.src, .string v.tgt, .string ⟨#[]⟩, .string v.pr, .string v.se, .bool v.ro, .bool v.ch, .bool v.nc, .bool i1, .bool i2, .bool false], .bool true]) ∧ Below w1.heap.size w1 w') from by
      obtain ⟨h3, hc, u, hm, hu⟩ := shortP_mount hn
      refine ⟨_, _, u, hu, rfl, rfl, ?_⟩
      have := implMount s w1 hc h3 (by omega) h1
      rw [hm] at this
      subst hu
      exact this)
    have CS := Aside0.mk (ShortVolume s w (by omega))
    clear hs
    go_enter Tryd.func5, Tryd.ntmps5
    go_wp2_with fail
    refine CS.out.mono ?_
    rintro e w1 ⟨hb, v, b, rfl, hn⟩
    have HB1 := Aside0.mk hb
    have HT1 := Aside0.mk (HT.out.below hb)
    have HN := Aside0.mk hn
    clear hb hn
    cases b
    · have HB2 := Aside0.mk (hb_then HB1.out (alloc_below w1 (.cells (specC v) 30)))
      have HT2 := Aside0.mk (HT1.out.below (alloc_below w1 (.cells (specC v) 30)))
      rw [spec_arr] at HB2 HT2 ⊢
      go_wp2_with fail
      refine (shortAwake _ HT2.out).mono ?_
      rintro e w2 ⟨rfl, hb⟩
      have HB3 := Aside0.mk (hb_then HB2.out hb)
      clear hb
      go_wp2
      go_ret
      exact ⟨rfl, HB3.out⟩
    · have HB2 := Aside0.mk (hb_then HB1.out (alloc_below w1 (.cells (specC v) 30)))
      have HT2 := Aside0.mk (HT1.out.below (alloc_below w1 (.cells (specC v) 30)))
      have HK2 := Aside0.mk (cb_new w1 (.cells (specC v) 30))
      obtain ⟨i1, i2, u, hu, h1, h2, hci⟩ := CI.out v (HN.out rfl) _ HT2.out
      have CP := Aside0.mk hci
      have CV := fun w' => Aside0.mk (lawShortVolume' v i1 i2 u hu h1 h2 w')
      clear hci hu h1 h2
      rw [spec_arr] at HB2 HT2 HK2 CP ⊢
      go_wp2_with fail
      refine CP.out.mono ?_
      rintro e w3 ⟨rfl, hb⟩
      have HB3 := Aside0.mk (hb_then HB2.out (hb_then hb (alloc_below w3 (.cells (besC v i1 i2) 26))))
      have HT3 := Aside0.mk ((HT2.out.below hb).below (alloc_below w3 (.cells (besC v i1 i2) 26)))
      have HK3 := Aside0.mk (cb_alloc ((hb.block _ (by rw [World.size_alloc]; omega)).trans HK2.out) (.cells (besC v i1 i2) 26))
      have HN3 := Aside0.mk (cb_new w3 (.cells (besC v i1 i2) 26))
      have hz3 : w1.heap.size < w3.heap.size := by have := hb.size; rw [World.size_alloc] at this; omega
      clear hb
      unfold besC at HB3 HT3 HK3 HN3
      go_wp2_with fail
      generalize w3.alloc (.cells #[.string v.typ, .string v.src, .string v.tgt, .string ⟨#[]⟩, .string v.pr, .string v.se, .bool v.ro, .bool v.ch, .bool v.nc, .bool i1, .bool i2, .bool false] 26) = W at HB3 HT3 HK3 HN3 ⊢
      obtain ⟨bs, hbs⟩ : ∃ bs, w1.heap.size = bs := ⟨_, rfl⟩
      obtain ⟨bi, hbi⟩ : ∃ bi, w3.heap.size = bi := ⟨_, rfl⟩
      rw [hbs] at HK3 ⊢
      rw [hbi] at HN3 ⊢
      have ci0 : W.cell? ⟨bi, 0, none⟩ = some (.string v.typ) := cb_cell (i := 0) HN3.out rfl
      have ci1 : W.cell? ⟨bi, 1, none⟩ = some (.string v.src) := cb_cell (i := 1) HN3.out rfl
      have ci2 : W.cell? ⟨bi, 2, none⟩ = some (.string v.tgt) := cb_cell (i := 2) HN3.out rfl
      have ci3 : W.cell? ⟨bi, 3, none⟩ = some (.string ⟨#[]⟩) := cb_cell (i := 3) HN3.out rfl
      have ci4 : W.cell? ⟨bi, 4, none⟩ = some (.string v.pr) := cb_cell (i := 4) HN3.out rfl
      have ci5 : W.cell? ⟨bi, 5, none⟩ = some (.string v.se) := cb_cell (i := 5) HN3.out rfl
      have ci6 : W.cell? ⟨bi, 6, none⟩ = some (.bool v.ro) := cb_cell (i := 6) HN3.out rfl
      have ci7 : W.cell? ⟨bi, 7, none⟩ = some (.bool v.ch) := cb_cell (i := 7) HN3.out rfl
      have ci8 : W.cell? ⟨bi, 8, none⟩ = some (.bool v.nc) := cb_cell (i := 8) HN3.out rfl
      have ci9 : W.cell? ⟨bi, 9, none⟩ = some (.bool i1) := cb_cell (i := 9) HN3.out rfl
      have ci10 : W.cell? ⟨bi, 10, none⟩ = some (.bool i2) := cb_cell (i := 10) HN3.out rfl
      have ci11 : W.cell? ⟨bi, 11, none⟩ = some (.bool false) := cb_cell (i := 11) HN3.out rfl
      have cs0 : W.cell? ⟨bs, 0, none⟩ = some (.string v.typ) := cb_cell (i := 0) HK3.out rfl
      have cs1 : W.cell? ⟨bs, 1, none⟩ = some (.string v.src) := cb_cell (i := 1) HK3.out rfl
      have cs2 : W.cell? ⟨bs, 2, none⟩ = some (.string v.tgt) := cb_cell (i := 2) HK3.out rfl
      have cs3 : W.cell? ⟨bs, 3, none⟩ = some (.string v.pr) := cb_cell (i := 3) HK3.out rfl
      have cs4 : W.cell? ⟨bs, 4, none⟩ = some (.string v.se) := cb_cell (i := 4) HK3.out rfl
      have cs5 : W.cell? ⟨bs, 5, none⟩ = some (.bool v.ro) := cb_cell (i := 5) HK3.out rfl
      have cs6 : W.cell? ⟨bs, 6, none⟩ = some (.bool v.ch) := cb_cell (i := 6) HK3.out rfl
      have cs7 : W.cell? ⟨bs, 7, none⟩ = some (.bool v.nc) := cb_cell (i := 7) HK3.out rfl
      have HT4 := HT3
      clear hbs hbi hz3 HK2 HB2 HT2 CP HN CS CI
      refine start_ (n := 21) (S := fun w' => w'.cell? ⟨bi, 0, none⟩ = some (.string v.typ) ∧ w'.cell? ⟨bi, 1, none⟩ = some (.string v.src) ∧ w'.cell? ⟨bi, 2, none⟩ = some (.string v.tgt) ∧ w'.cell? ⟨bi, 3, none⟩ = some (.string ⟨#[]⟩) ∧ w'.cell? ⟨bi, 4, none⟩ = some (.string v.pr) ∧ w'.cell? ⟨bi, 5, none⟩ = some (.string v.se) ∧ w'.cell? ⟨bi, 6, none⟩ = some (.bool v.ro) ∧ w'.cell? ⟨bi, 7, none⟩ = some (.bool v.ch) ∧ w'.cell? ⟨bi, 8, none⟩ = some (.bool v.nc) ∧ w'.cell? ⟨bi, 9, none⟩ = some (.bool i1) ∧ w'.cell? ⟨bi, 10, none⟩ = some (.bool i2) ∧ w'.cell? ⟨bi, 11, none⟩ = some (.bool false) ∧ w'.cell? ⟨bs, 0, none⟩ = some (.string v.typ) ∧ w'.cell? ⟨bs, 1, none⟩ = some (.string v.src) ∧ w'.cell? ⟨bs, 2, none⟩ = some (.string v.tgt) ∧ w'.cell? ⟨bs, 3, none⟩ = some (.string v.pr) ∧ w'.cell? ⟨bs, 4, none⟩ = some (.string v.se) ∧ w'.cell? ⟨bs, 5, none⟩ = some (.bool v.ro) ∧ w'.cell? ⟨bs, 6, none⟩ = some (.bool v.ch) ∧ w'.cell? ⟨bs, 7, none⟩ = some (.bool v.nc)) (ds := []) #[false, false, false, false, false, false, false, false, false, false, false, false, false, false, false, false, false, false, false, false, false] (by kernel_rfl) rfl rfl ⟨ci0, ci1, ci2, ci3, ci4, ci5, ci6, ci7, ci8, ci9, ci10, ci11, cs0, cs1, cs2, cs3, cs4, cs5, cs6, cs7⟩ (fun hHeld => ?_)
      refine pure_ (i := 0) (N := some 23) (v := ?_) (a' := ?_) #[true, false, false, false, false, false, false, false, false, false, false, false, false, false, false, false, false, false, false, false, false] rfl rfl (by kernel_rfl) (fun _ _ _ h => h) (Or.inl ⟨by rfl, ?_⟩) ?_ ?_
      rotate_left
      · intro w'
        go_simp
        with_reducible rfl
      rotate_left
      · simp only [Act.put, List.setIfInBounds_toArray, List.set_cons_zero, List.set_cons_succ, i64_w, i32_w]
        rfl
      refine pure_ (i := 1) (N := some 24) (v := ?_) (a' := ?_) #[true, true, false, false, false, false, false, false, false, false, false, false, false, false, false, false, false, false, false, false, false] rfl rfl (by kernel_rfl) (fun _ _ _ h => h) (Or.inl ⟨by rfl, ?_⟩) ?_ ?_
      rotate_left
      · intro w'
        go_simp
        with_reducible rfl
      rotate_left
      · simp only [Act.put, List.setIfInBounds_toArray, List.set_cons_zero, List.set_cons_succ, i64_w, i32_w]
        rfl
      refine take_ (i := 2) (N := some 25) (v := ?_) (a' := ?_) #[true, true, true, false, false, false, false, false, false, false, false, false, false, false, false, false, false, false, false, false, false] rfl rfl (by kernel_rfl) (fun _ _ _ h => h) (Or.inl ⟨by rfl, ?_⟩) hHeld ?_ ?_
      rotate_left
      · rintro w' ⟨s0, s1, s2, s3, s4, s5, s6, s7, s8, s9, s10, s11, s12, s13, s14, s15, s16, s17, s18, s19⟩
        go_simp
        with_reducible rfl
      rotate_left
      · simp only [Act.put, List.setIfInBounds_toArray, List.set_cons_zero, List.set_cons_succ, i64_w, i32_w]
        rfl
      refine take_ (i := 4) (N := some 27) (v := ?_) (a' := ?_) #[true, true, true, false, true, false, false, false, false, false, false, false, false, false, false, false, false, false, false, false, false] rfl rfl (by kernel_rfl) (fun _ _ _ h => h) (Or.inl ⟨by rfl, ?_⟩) hHeld ?_ ?_
      rotate_left
      · rintro w' ⟨s0, s1, s2, s3, s4, s5, s6, s7, s8, s9, s10, s11, s12, s13, s14, s15, s16, s17, s18, s19⟩
        go_simp
        with_reducible rfl
      rotate_left
      · simp only [Act.put, List.setIfInBounds_toArray, List.set_cons_zero, List.set_cons_succ, i64_w, i32_w]
        rfl
      refine one_ (i := 3) (N := some 26) #[true, true, true, true, true, false, false, false, false, false, false, false, false, false, false, false, false, false, false, false, false] rfl rfl (by kernel_rfl) (by decide) (fun K hK => ?_)
      refine goes_ Tryd.func14 (by kernel_rfl) rfl #[.agg #[.string v.typ, .string v.src, .string v.tgt, .string ⟨#[]⟩, .string v.pr, .string v.se, .bool v.ro, .bool v.ch, .bool v.nc, .bool i1, .bool i2, .bool false]] (by rfl) rfl rfl (by simp only [List.map_toArray, List.map_cons, List.map_nil]; rfl) ?_
      with_reducible refine ((CV _).out).mono ?_
      rintro e w5 ⟨rfl, hb5⟩
      refine ⟨_, rfl, ?_⟩
      have HB5 := Aside0.mk hb5
      have HT5 := Aside0.mk (HT4.out.below (hb_then (below_drew (Below.refl _ _)) hb5))
      refine hK.out _ _ ⟨pw_cell_below hb5 hHeld.1, pw_cell_below hb5 hHeld.2.1, pw_cell_below hb5 hHeld.2.2.1, pw_cell_below hb5 hHeld.2.2.2.1, pw_cell_below hb5 hHeld.2.2.2.2.1, pw_cell_below hb5 hHeld.2.2.2.2.2.1, pw_cell_below hb5 hHeld.2.2.2.2.2.2.1, pw_cell_below hb5 hHeld.2.2.2.2.2.2.2.1, pw_cell_below hb5 hHeld.2.2.2.2.2.2.2.2.1, pw_cell_below hb5 hHeld.2.2.2.2.2.2.2.2.2.1, pw_cell_below hb5 hHeld.2.2.2.2.2.2.2.2.2.2.1, pw_cell_below hb5 hHeld.2.2.2.2.2.2.2.2.2.2.2.1, pw_cell_below hb5 hHeld.2.2.2.2.2.2.2.2.2.2.2.2.1, pw_cell_below hb5 hHeld.2.2.2.2.2.2.2.2.2.2.2.2.2.1, pw_cell_below hb5 hHeld.2.2.2.2.2.2.2.2.2.2.2.2.2.2.1, pw_cell_below hb5 hHeld.2.2.2.2.2.2.2.2.2.2.2.2.2.2.2.1, pw_cell_below hb5 hHeld.2.2.2.2.2.2.2.2.2.2.2.2.2.2.2.2.1, pw_cell_below hb5 hHeld.2.2.2.2.2.2.2.2.2.2.2.2.2.2.2.2.2.1, pw_cell_below hb5 hHeld.2.2.2.2.2.2.2.2.2.2.2.2.2.2.2.2.2.2.1, pw_cell_below hb5 hHeld.2.2.2.2.2.2.2.2.2.2.2.2.2.2.2.2.2.2.2⟩ (fun hHeld => ?_)
      clear hK K
      refine norm_ (a' := ?_) ?_ ?_
      rotate_left
      · show Act.put _ (some 26) _ = _
        simp only [Act.put, List.setIfInBounds_toArray, List.set_cons_zero, List.set_cons_succ, i64_w, i32_w]
        rfl
      refine pure_ (i := 5) (N := some 28) (v := ?_) (a' := ?_) #[true, true, true, true, true, true, false, false, false, false, false, false, false, false, false, false, false, false, false, false, false] rfl rfl (by kernel_rfl) (fun _ _ _ h => h) (Or.inl ⟨by rfl, ?_⟩) ?_ ?_
      rotate_left
      · intro w'
        go_simp
        with_reducible rfl
      rotate_left
      · simp only [Act.put, List.setIfInBounds_toArray, List.set_cons_zero, List.set_cons_succ, i64_w, i32_w]
        rfl
      refine pure_ (i := 6) (N := some 29) (v := ?_) (a' := ?_) #[true, true, true, true, true, true, true, false, false, false, false, false, false, false, false, false, false, false, false, false, false] rfl rfl (by kernel_rfl) (fun _ _ _ h => h) (Or.inl ⟨by rfl, ?_⟩) ?_ ?_
      rotate_left
      · intro w'
        go_simp
        with_reducible rfl
      rotate_left
      · simp only [Act.put, List.setIfInBounds_toArray, List.set_cons_zero, List.set_cons_succ, i64_w, i32_w]
        rfl
      refine pure_ (i := 7) (N := some 30) (v := ?_) (a' := ?_) #[true, true, true, true, true, true, true, true, false, false, false, false, false, false, false, false, false, false, false, false, false] rfl rfl (by kernel_rfl) (fun _ _ _ h => h) (Or.inl ⟨by rfl, ?_⟩) ?_ ?_
      rotate_left
      · intro w'
        go_simp
        with_reducible rfl
      rotate_left
      · simp only [Act.put, List.setIfInBounds_toArray, List.set_cons_zero, List.set_cons_succ, i64_w, i32_w]
        rfl
      refine pure_ (i := 8) (N := some 31) (v := ?_) (a' := ?_) #[true, true, true, true, true, true, true, true, true, false, false, false, false, false, false, false, false, false, false, false, false] rfl rfl (by kernel_rfl) (fun _ _ _ h => h) (Or.inl ⟨by rfl, ?_⟩) ?_ ?_
      rotate_left
      · intro w'
        go_simp
        with_reducible rfl
      rotate_left
      · simp only [Act.put, List.setIfInBounds_toArray, List.set_cons_zero, List.set_cons_succ, i64_w, i32_w]
        rfl
      refine take_ (i := 9) (N := some 32) (v := ?_) (a' := ?_) #[true, true, true, true, true, true, true, true, true, true, false, false, false, false, false, false, false, false, false, false, false] rfl rfl (by kernel_rfl) (fun _ _ _ h => h) (Or.inl ⟨by rfl, ?_⟩) hHeld ?_ ?_
      rotate_left
      · rintro w' ⟨s0, s1, s2, s3, s4, s5, s6, s7, s8, s9, s10, s11, s12, s13, s14, s15, s16, s17, s18, s19⟩
        go_simp
        with_reducible rfl
      rotate_left
      · simp only [Act.put, List.setIfInBounds_toArray, List.set_cons_zero, List.set_cons_succ, i64_w, i32_w]
        rfl
      refine pure_ (i := 10) (N := some 33) (v := ?_) (a' := ?_) #[true, true, true, true, true, true, true, true, true, true, true, false, false, false, false, false, false, false, false, false, false] rfl rfl (by kernel_rfl) (fun _ _ _ h => h) (Or.inl ⟨by rfl, ?_⟩) ?_ ?_
      rotate_left
      · intro w'
        go_simp
        with_reducible rfl
      rotate_left
      · simp only [Act.put, List.setIfInBounds_toArray, List.set_cons_zero, List.set_cons_succ, i64_w, i32_w]
        rfl
      refine pure_ (i := 11) (N := some 34) (v := ?_) (a' := ?_) #[true, true, true, true, true, true, true, true, true, true, true, true, false, false, false, false, false, false, false, false, false] rfl rfl (by kernel_rfl) (fun _ _ _ h => h) (Or.inl ⟨by rfl, ?_⟩) ?_ ?_
      rotate_left
      · intro w'
        go_simp
        with_reducible rfl
      rotate_left
      · simp only [Act.put, List.setIfInBounds_toArray, List.set_cons_zero, List.set_cons_succ, i64_w, i32_w]
        rfl
      refine pure_ (i := 12) (N := some 35) (v := ?_) (a' := ?_) #[true, true, true, true, true, true, true, true, true, true, true, true, true, false, false, false, false, false, false, false, false] rfl rfl (by kernel_rfl) (fun _ _ _ h => h) (Or.inl ⟨by rfl, ?_⟩) ?_ ?_
      rotate_left
      · intro w'
        go_simp
        with_reducible rfl
      rotate_left
      · simp only [Act.put, List.setIfInBounds_toArray, List.set_cons_zero, List.set_cons_succ, i64_w, i32_w]
        rfl
      refine pure_ (i := 13) (N := some 36) (v := ?_) (a' := ?_) #[true, true, true, true, true, true, true, true, true, true, true, true, true, true, false, false, false, false, false, false, false] rfl rfl (by kernel_rfl) (fun _ _ _ h => h) (Or.inl ⟨by rfl, ?_⟩) ?_ ?_
      rotate_left
      · intro w'
        go_simp
        with_reducible rfl
      rotate_left
      · simp only [Act.put, List.setIfInBounds_toArray, List.set_cons_zero, List.set_cons_succ, i64_w, i32_w]
        rfl
      refine take_ (i := 14) (N := some 37) (v := ?_) (a' := ?_) #[true, true, true, true, true, true, true, true, true, true, true, true, true, true, true, false, false, false, false, false, false] rfl rfl (by kernel_rfl) (fun _ _ _ h => h) (Or.inl ⟨by rfl, ?_⟩) hHeld ?_ ?_
      rotate_left
      · rintro w' ⟨s0, s1, s2, s3, s4, s5, s6, s7, s8, s9, s10, s11, s12, s13, s14, s15, s16, s17, s18, s19⟩
        go_simp
        with_reducible rfl
      rotate_left
      · simp only [Act.put, List.setIfInBounds_toArray, List.set_cons_zero, List.set_cons_succ, i64_w, i32_w]
        rfl
      refine pure_ (i := 15) (N := some 38) (v := ?_) (a' := ?_) #[true, true, true, true, true, true, true, true, true, true, true, true, true, true, true, true, false, false, false, false, false] rfl rfl (by kernel_rfl) (fun _ _ _ h => h) (Or.inl ⟨by rfl, ?_⟩) ?_ ?_
      rotate_left
      · intro w'
        go_simp
        with_reducible rfl
      rotate_left
      · simp only [Act.put, List.setIfInBounds_toArray, List.set_cons_zero, List.set_cons_succ, i64_w, i32_w]
        rfl
      refine pure_ (i := 16) (N := some 39) (v := ?_) (a' := ?_) #[true, true, true, true, true, true, true, true, true, true, true, true, true, true, true, true, true, false, false, false, false] rfl rfl (by kernel_rfl) (fun _ _ _ h => h) (Or.inl ⟨by rfl, ?_⟩) ?_ ?_
      rotate_left
      · intro w'
        go_simp
        with_reducible rfl
      rotate_left
      · simp only [Act.put, List.setIfInBounds_toArray, List.set_cons_zero, List.set_cons_succ, i64_w, i32_w]
        rfl
      refine pure_ (i := 17) (N := some 40) (v := ?_) (a' := ?_) #[true, true, true, true, true, true, true, true, true, true, true, true, true, true, true, true, true, true, false, false, false] rfl rfl (by kernel_rfl) (fun _ _ _ h => h) (Or.inl ⟨by rfl, ?_⟩) ?_ ?_
      rotate_left
      · intro w'
        go_simp
        with_reducible rfl
      rotate_left
      · simp only [Act.put, List.setIfInBounds_toArray, List.set_cons_zero, List.set_cons_succ, i64_w, i32_w]
        rfl
      refine one_ (i := 18) (N := some 41) #[true, true, true, true, true, true, true, true, true, true, true, true, true, true, true, true, true, true, true, false, false] rfl rfl (by kernel_rfl) (by decide) (fun K hK => ?_)
      refine goes_ Tryd.func11 (by kernel_rfl) rfl #[] (by rfl) rfl rfl (by simp only [List.map_toArray, List.map_cons, List.map_nil]) ?_
      with_reducible refine ((shortAwake w5 HT5.out)).mono ?_
      rintro e w6 ⟨rfl, hb6⟩
      refine ⟨_, rfl, ?_⟩
      have HB6 := Aside0.mk hb6
      refine hK.out _ _ ⟨pw_cell_below hb6 hHeld.1, pw_cell_below hb6 hHeld.2.1, pw_cell_below hb6 hHeld.2.2.1, pw_cell_below hb6 hHeld.2.2.2.1, pw_cell_below hb6 hHeld.2.2.2.2.1, pw_cell_below hb6 hHeld.2.2.2.2.2.1, pw_cell_below hb6 hHeld.2.2.2.2.2.2.1, pw_cell_below hb6 hHeld.2.2.2.2.2.2.2.1, pw_cell_below hb6 hHeld.2.2.2.2.2.2.2.2.1, pw_cell_below hb6 hHeld.2.2.2.2.2.2.2.2.2.1, pw_cell_below hb6 hHeld.2.2.2.2.2.2.2.2.2.2.1, pw_cell_below hb6 hHeld.2.2.2.2.2.2.2.2.2.2.2.1, pw_cell_below hb6 hHeld.2.2.2.2.2.2.2.2.2.2.2.2.1, pw_cell_below hb6 hHeld.2.2.2.2.2.2.2.2.2.2.2.2.2.1, pw_cell_below hb6 hHeld.2.2.2.2.2.2.2.2.2.2.2.2.2.2.1, pw_cell_below hb6 hHeld.2.2.2.2.2.2.2.2.2.2.2.2.2.2.2.1, pw_cell_below hb6 hHeld.2.2.2.2.2.2.2.2.2.2.2.2.2.2.2.2.1, pw_cell_below hb6 hHeld.2.2.2.2.2.2.2.2.2.2.2.2.2.2.2.2.2.1, pw_cell_below hb6 hHeld.2.2.2.2.2.2.2.2.2.2.2.2.2.2.2.2.2.2.1, pw_cell_below hb6 hHeld.2.2.2.2.2.2.2.2.2.2.2.2.2.2.2.2.2.2.2⟩ (fun hHeld => ?_)
      clear hK K
      refine norm_ (a' := ?_) ?_ ?_
      rotate_left
      · show Act.put _ (some 41) _ = _
        simp only [Act.put, List.setIfInBounds_toArray, List.set_cons_zero, List.set_cons_succ, i64_w, i32_w]
        rfl
      refine pure_ (i := 19) (N := some 42) (v := ?_) (a' := ?_) #[true, true, true, true, true, true, true, true, true, true, true, true, true, true, true, true, true, true, true, true, false] rfl rfl (by kernel_rfl) (fun _ _ _ h => h) (Or.inl ⟨by rfl, ?_⟩) ?_ ?_
      rotate_left
      · intro w'
        go_simp
        with_reducible rfl
      rotate_left
      · simp only [Act.put, List.setIfInBounds_toArray, List.set_cons_zero, List.set_cons_succ, i64_w, i32_w]
        rfl
      refine pure_ (i := 20) (N := some 2) (v := ?_) (a' := ?_) #[true, true, true, true, true, true, true, true, true, true, true, true, true, true, true, true, true, true, true, true, true] rfl rfl (by kernel_rfl) (fun _ _ _ h => h) (Or.inl ⟨by rfl, ?_⟩) ?_ ?_
      rotate_left
      · intro w'
        go_simp
        with_reducible rfl
      rotate_left
      · simp only [Act.put, List.setIfInBounds_toArray, List.set_cons_zero, List.set_cons_succ, i64_w, i32_w]
        rfl
      refine done_ (by kernel_rfl) ?_
      go_wp2
      go_ret
      exact ⟨rfl, hb_then HB3.out (hb_then (below_drew (Below.refl _ W)) (hb_then HB5.out HB6.out))⟩
end Go.Proofs.YtpkfdifoaijpnaaDoor.Vol
