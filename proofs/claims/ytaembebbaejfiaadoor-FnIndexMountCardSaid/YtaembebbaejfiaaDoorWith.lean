/- spec.With. -/
import Derived.Test.YtaembebbaejfiaaDoorWithKit
namespace Go.Proofs.YtaembebbaejfiaaDoor.Val
open Go.RowKit Go.Proofs.YtaembebbaejfiaaDoorW.PrintWords Go.Proofs.YtaembebbaejfiaaDoorW.PrintLast Go.Proofs.YtaembebbaejfiaaDoor.Str Go.Proofs.YtaembebbaejfiaaDoor.Kit Go.Proofs.YtaembebbaejfiaaDoor.MapV Go.Proofs.YtaembebbaejfiaaDoor.Frame Go.Proofs.YtaembebbaejfiaaDoor.PFnIndexMount Go.Proofs.YtaembebbaejfiaaDoor.Mount
set_option linter.unusedVariables false
set_option linter.unusedSimpArgs false
set_option maxHeartbeats 12800000 in
set_option maxRecDepth 100000 in
theorem WithFirst (Wf : World) (kd nm : Int) (t : ByteArray) {A3 A4 : Option Addr} {c3 c4 : Nat} (ks : List ByteArray) (vs : List VS) (key : ByteArray) (x : VS) {A5 A6 : Option Addr} {c5 c6 : Nat} (w : World) (hk : Kd.string.C w A3 ks.length ks) (hv : ReadsRow (kS.K Wf) 5 w A4 vs.length vs) (hx5 : x.f3.length ≤ c5) (hx3 : Kd.string.C Wf A5 x.f3.length x.f3) (hx6 : x.f4.length ≤ c6) (hx4 : kS.C Wf A6 x.f4.length x.f4)
    (hkn : ks.length ≤ 4398046511104) (hvn : vs.length ≤ 879609302220) (hk0 : ks = []) (hv0 : vs = []) :
    Calls Tryd.prog 32 #[.agg #[.int .i64 kd, .int .i64 nm, .string t, .slice A3 ks.length c3, .slice A4 vs.length c4], .string key, .agg #[.int .i64 x.f0, .int .i64 x.f1, .string x.f2, .slice A5 x.f3.length c5, .slice A6 x.f4.length c6]] w fun e w' => ∃ A7 c7 A8 c8, e = .returned (.agg #[.int .i64 5, .int .i64 0, .string ⟨#[]⟩, .slice A7 1 c7, .slice A8 1 c8]) ∧ Kd.string.R 9 w' w.heap.size (fun _ => True) (.slice A7 1 c7) [key] ∧ (Kd.fixed kS Wf).R 32 w' w.heap.size (fun _ => True) (.slice A8 1 c8) [x] ∧ Below w.heap.size w w' := by
  have HK00 := Aside0.mk hk0
  have HV00 := Aside0.mk hv0
  clear hk0 hv0
  have HKW := Aside0.mk hk
  have HVW := Aside0.mk hv
  go_enter Tryd.func32, Tryd.ntmps32
  go_wp2_with fail
  obtain ⟨W0, hW0⟩ : ∃ W0, ((w.alloc (.cells #[.int .i64 kd, .int .i64 nm, .string t, .slice A3 ks.length c3, .slice A4 vs.length c4] 32)).alloc (.cells #[.int .i64 x.f0, .int .i64 x.f1, .string x.f2, .slice A5 x.f3.length c5, .slice A6 x.f4.length c6] 32)).alloc (.cells #[.int .i64 0, .int .i64 0, .string ⟨#[]⟩, .slice none 0 0, .slice none 0 0] 32) = W0 := ⟨_, rfl⟩
  rw [hW0]
  have hBW : Below w.heap.size w W0 := by
    rw [← hW0]
    exact ((((Below.refl _ w).alloc (Nat.le_refl _) _).alloc (by rw [World.size_alloc]; omega) _)).alloc (by rw [World.size_alloc, World.size_alloc]; omega) _
  have hb0 : W0.heap[w.heap.size]? = some (.cells #[.int .i64 kd, .int .i64 nm, .string t, .slice A3 ks.length c3, .slice A4 vs.length c4] 32 (0, 0)) := by
    rw [← hW0]
    exact blk_alloc (blk_alloc (cb_new _ _) _) _
  have hb1 : W0.heap[w.heap.size + 1]? = some (.cells #[.int .i64 x.f0, .int .i64 x.f1, .string x.f2, .slice A5 x.f3.length c5, .slice A6 x.f4.length c6] 32 (0, 0)) := by
    rw [← hW0]
    have h1 := cb_new (w.alloc (.cells #[.int .i64 kd, .int .i64 nm, .string t, .slice A3 ks.length c3, .slice A4 vs.length c4] 32)) (.cells #[.int .i64 x.f0, .int .i64 x.f1, .string x.f2, .slice A5 x.f3.length c5, .slice A6 x.f4.length c6] 32)
    rw [World.size_alloc] at h1
    exact blk_alloc h1 _
  have hsz : W0.heap.size = w.heap.size + 3 := by rw [← hW0, World.size_alloc, World.size_alloc, World.size_alloc]
  have hb2 : W0.heap[w.heap.size + 2]? = some (.cells #[.int .i64 0, .int .i64 0, .string ⟨#[]⟩, .slice none 0 0, .slice none 0 0] 32 (0, 0)) := by
    rw [← hW0]
    have h1 := cb_new ((w.alloc (.cells #[.int .i64 kd, .int .i64 nm, .string t, .slice A3 ks.length c3, .slice A4 vs.length c4] 32)).alloc (.cells #[.int .i64 x.f0, .int .i64 x.f1, .string x.f2, .slice A5 x.f3.length c5, .slice A6 x.f4.length c6] 32)) (.cells #[.int .i64 0, .int .i64 0, .string ⟨#[]⟩, .slice none 0 0, .slice none 0 0] 32)
    rw [World.size_alloc, World.size_alloc] at h1
    exact h1
  have HBW := Aside0.mk hBW
  have HX0 := Aside0.mk hb0
  have HX1 := Aside0.mk hb1
  have HX2 := Aside0.mk hb2
  have HX3 := Aside0.mk (show W0.cell? ⟨w.heap.size, 3, none⟩ = some (.slice A3 ks.length c3) from cb_cell (i := 3) hb0 rfl)
  have HX4 := Aside0.mk (show W0.cell? ⟨w.heap.size, 4, none⟩ = some (.slice A4 vs.length c4) from cb_cell (i := 4) hb0 rfl)
  have HKS := Aside0.mk (Kd.C_below HKW.out hBW)
  have HVS := Aside0.mk (ReadsRow.imp_ HVW.out hBW (fun _ _ hp => hp))
  have HSZ := Aside0.mk hsz
  have HXX := Aside0.mk (And.intro hx5 (And.intro hx3 (And.intro hx6 hx4)))
  have HB0 := Aside0.mk (below_drew (Below.refl W0.heap.size W0))
  have y3 : W0.drew.cell? ⟨w.heap.size, 3, none⟩ = some (.slice A3 ks.length c3) := HX3.out
  have y4 : W0.drew.cell? ⟨w.heap.size, 4, none⟩ = some (.slice A4 vs.length c4) := HX4.out
  clear hW0 hBW hb0 hb1 hb2 hsz HKW HVW hk hv hx5 hx3 hx6 hx4
  refine start_ (n := 11) (S := fun w' => w'.cell? ⟨w.heap.size, 3, none⟩ = some (.slice A3 ks.length c3) ∧ w'.cell? ⟨w.heap.size, 4, none⟩ = some (.slice A4 vs.length c4)) (ds := [10]) #[false, false, false, false, false, false, false, false, false, false, false] (by kernel_rfl) rfl rfl ⟨y3, y4⟩ (fun hHeld => ?_)
  refine pure_ (i := 1) (N := some 11) (v := ?_) (a' := ?_) #[false, true, false, false, false, false, false, false, false, false, false] rfl rfl (by kernel_rfl) (fun _ _ _ h => h) (Or.inl ⟨by rfl, ?_⟩) ?_ ?_
  rotate_left
  · intro w'
    go_simp
    with_reducible rfl
  rotate_left
  · simp only [Act.put, List.setIfInBounds_toArray, List.set_cons_zero, List.set_cons_succ, i64_w, i32_w]
    rfl
  refine pure_ (i := 5) (N := some 15) (v := ?_) (a' := ?_) #[false, true, false, false, false, true, false, false, false, false, false] rfl rfl (by kernel_rfl) (fun _ _ _ h => h) (Or.inl ⟨by rfl, ?_⟩) ?_ ?_
  rotate_left
  · intro w'
    go_simp
    with_reducible rfl
  rotate_left
  · simp only [Act.put, List.setIfInBounds_toArray, List.set_cons_zero, List.set_cons_succ, i64_w, i32_w]
    rfl
  refine take_ (i := 2) (N := some 12) (v := ?_) (a' := ?_) #[false, true, true, false, false, true, false, false, false, false, false] rfl rfl (by kernel_rfl) (fun _ _ _ h => h) (Or.inl ⟨by rfl, ?_⟩) hHeld ?_ ?_
  rotate_left
  · rintro w' ⟨s0, s1⟩
    go_simp
    with_reducible rfl
  rotate_left
  · simp only [Act.put, List.setIfInBounds_toArray, List.set_cons_zero, List.set_cons_succ, i64_w, i32_w]
    rfl
  refine take_ (i := 6) (N := some 16) (v := ?_) (a' := ?_) #[false, true, true, false, false, true, true, false, false, false, false] rfl rfl (by kernel_rfl) (fun _ _ _ h => h) (Or.inl ⟨by rfl, ?_⟩) hHeld ?_ ?_
  rotate_left
  · rintro w' ⟨s0, s1⟩
    go_simp
    with_reducible rfl
  rotate_left
  · simp only [Act.put, List.setIfInBounds_toArray, List.set_cons_zero, List.set_cons_succ, i64_w, i32_w]
    rfl
  refine join_ (σ := Value × Value × Value × Value × Nat) 1 #[true, true, true, true, true, true, true, true, true, true, false] (fun s_ => [(10, s_.1), (13, s_.2.1), (14, s_.2.2.1), (17, s_.2.2.2.1), (7, .pointer (some ⟨s_.2.2.2.2, 0, none⟩)), (18, .agg #[.int .i64 5, .int .i64 0, .string ⟨#[]⟩, s_.2.1, s_.2.2.2.1])]) (fun s_ w' => (w'.cell? ⟨w.heap.size, 3, none⟩ = some (.slice A3 ks.length c3) ∧ w'.cell? ⟨w.heap.size, 4, none⟩ = some (.slice A4 vs.length c4)) ∧ Below W0.heap.size W0 w' ∧ HasZ W0 w' s_.2.2.2.2 ∧ ∃ bK bV, Has Kd.string 9 W0 w' s_.2.1 ks bK ∧ Has (Kd.fixed kS Wf) 32 W0 w' s_.2.2.2.1 vs bV ∧ bK ≠ s_.2.2.2.2 ∧ bV ≠ s_.2.2.2.2 ∧ bK ≠ bV) ?_ ?_
  rotate_left
  · intro hCont
    refine three_ (i := 0) (j := 4) (k := 9) (Ni := some 10) (Nj := some 14) (Nk := some 7) #[true, true, true, false, false, true, true, false, false, false, false] #[false, true, true, false, true, true, true, false, false, false, false] #[false, true, true, false, false, true, true, false, false, true, false] rfl rfl rfl rfl rfl rfl (by kernel_rfl) (by decide) (by decide) (by decide) (fun K hK => ?_) (fun K hK => ?_) (fun K hK => ?_)
    · skip
      generalize W0.drew = q0 at HB0 hHeld ⊢
      refine value_ (w1 := ?_) (v := ?_) (by rfl) rfl ?_ ?_
      rotate_left 2
      · go_simp
        constructor
        · rfl
        · rfl
      have HB1 := Aside0.mk (below_alloc HB0.out (.cells #[] 9))
      have HK1 := Aside0.mk (Has.new (d := Kd.string) (e := 9) HB0.out)
      generalize q0.alloc (.cells #[] 9) = q1 at HB1 HK1 ⊢
      refine hK.out _ _ ⟨pw_cell_below HB1.out HX3.out, pw_cell_below HB1.out HX4.out⟩ (fun hHeld => ?_)
      clear hK K
      refine norm_ (a' := ?_) ?_ ?_
      rotate_left
      · show Act.put _ (some 10) _ = _
        simp only [Act.put, List.setIfInBounds_toArray, List.set_cons_zero, List.set_cons_succ, i64_w, i32_w]
        rfl
      refine three_ (i := 3) (j := 4) (k := 9) (Ni := some 13) (Nj := some 14) (Nk := some 7) #[true, true, true, true, false, true, true, false, false, false, false] #[true, true, true, false, true, true, true, false, false, false, false] #[true, true, true, false, false, true, true, false, false, true, false] rfl rfl rfl rfl rfl rfl (by kernel_rfl) (by decide) (by decide) (by decide) (fun K hK => ?_) (fun K hK => ?_) (fun K hK => ?_)
      · skip
        refine Kd.R_append_rows_step Kd.string (w0 := W0) W0.heap.size rfl (.tmp 10) (.tmp 12) 25 9 (.string ⟨#[]⟩) 16 rfl Tryd.underlying25 info_string rfl (show 0 < 1 by decide) (by decide) _ [] ks _ ks.length _ (fun _ => True) (fun _ => False) rfl rfl HK1.out.1 (show ReadsRow (fun (x : ByteArray) cs => cs = [Value.string x]) 1 _ _ _ _ from Kd.C_below HKS.out HB1.out) (fun _ _ h => h) (fun _ h => h.elim) (fun _ _ => trivial) HB1.out HB1.out.size (by simp only [List.length_nil]; omega) ?_
        intro vK q2 ho hb hg hat
        rw [List.nil_append] at ho
        obtain ⟨AK, cK, rfl⟩ := Kd.R_slice ho
        obtain ⟨bK, hk, hor⟩ := HK1.out.grew ho hg hat
        have HK2 := Aside0.mk hk
        have HB2 := Aside0.mk hb
        clear ho hb hg hat hk hor
        refine hK.out _ _ ⟨pw_cell_below HB2.out HX3.out, pw_cell_below HB2.out HX4.out⟩ (fun hHeld => ?_)
        clear hK K
        refine norm_ (a' := ?_) ?_ ?_
        rotate_left
        · show Act.put _ (some 13) _ = _
          simp only [Act.put, List.setIfInBounds_toArray, List.set_cons_zero, List.set_cons_succ, i64_w, i32_w]
          rfl
        refine two_ (i := 4) (j := 9) (Ni := some 14) (Nj := some 7) #[true, true, true, true, true, true, true, false, false, false, false] #[true, true, true, true, false, true, true, false, false, true, false] rfl rfl rfl rfl (by kernel_rfl) (by decide) (by decide) (fun K hK => ?_) (fun K hK => ?_)
        · skip
          refine value_ (w1 := ?_) (v := ?_) (by rfl) rfl ?_ ?_
          rotate_left 2
          · go_simp
            constructor
            · rfl
            · rfl
          have HB3 := Aside0.mk (below_alloc HB2.out (.cells #[] 32))
          have HK3 := Aside0.mk (HK2.out.alloc (.cells #[] 32))
          have HV3 := Aside0.mk (Has.new (d := Kd.fixed kS Wf) (e := 32) HB2.out)
          have nKV_3 := HK2.out.ne_new
          generalize q2.alloc (.cells #[] 32) = q3 at HB3 HK3 HV3 ⊢
          refine hK.out _ _ ⟨pw_cell_below HB3.out HX3.out, pw_cell_below HB3.out HX4.out⟩ (fun hHeld => ?_)
          clear hK K
          refine norm_ (a' := ?_) ?_ ?_
          rotate_left
          · show Act.put _ (some 14) _ = _
            simp only [Act.put, List.setIfInBounds_toArray, List.set_cons_zero, List.set_cons_succ, i64_w, i32_w]
            rfl
          refine two_ (i := 7) (j := 9) (Ni := some 17) (Nj := some 7) #[true, true, true, true, true, true, true, true, false, false, false] #[true, true, true, true, true, true, true, false, false, true, false] rfl rfl rfl rfl (by kernel_rfl) (by decide) (by decide) (fun K hK => ?_) (fun K hK => ?_)
          · skip
            refine Kd.R_append_rows_step (Kd.fixed kS Wf) (w0 := W0) W0.heap.size rfl (.tmp 14) (.tmp 16) 30 32 (.agg #[.int .i64 0, .int .i64 0, .string ⟨#[]⟩, .slice none 0 0, .slice none 0 0]) 80 rfl Tryd.underlying30 info32 rfl (show 0 < 5 by decide) (by decide) _ [] vs _ vs.length _ (fun _ => True) (fun _ => False) rfl rfl HV3.out.1 (ReadsRow.imp_ HVS.out HB3.out (fun _ _ hp => hp)) (fun _ _ h => h) (fun _ h => h.elim) (fun _ _ => trivial) HB3.out HB3.out.size (by simp only [List.length_nil]; omega) ?_
            intro vV q4 ho hb hg hat
            rw [List.nil_append] at ho
            obtain ⟨AV, cV, rfl⟩ := Kd.R_slice ho
            obtain ⟨bV, hk, hor⟩ := HV3.out.grew ho hg hat
            have HV4 := Aside0.mk hk
            have HB4 := Aside0.mk hb
            have HK4 := Aside0.mk (HK3.out.grown (fun _ _ _ _ _ _ h => h) hg (nKV_3))
            have nKV_4 := (ne_grew (nKV_3) (HK3.out.2.2.1) hor)
            clear ho hb hg hat hk hor
            refine hK.out _ _ ⟨pw_cell_below HB4.out HX3.out, pw_cell_below HB4.out HX4.out⟩ (fun hHeld => ?_)
            clear hK K
            refine norm_ (a' := ?_) ?_ ?_
            rotate_left
            · show Act.put _ (some 17) _ = _
              simp only [Act.put, List.setIfInBounds_toArray, List.set_cons_zero, List.set_cons_succ, i64_w, i32_w]
              rfl
            refine pure_ (i := 8) (N := some 18) (v := ?_) (a' := ?_) #[true, true, true, true, true, true, true, true, true, false, false] rfl rfl (by kernel_rfl) (fun _ _ _ h => h) (Or.inl ⟨by rfl, ?_⟩) ?_ ?_
            rotate_left
            · intro w'
              go_simp
              with_reducible rfl
            rotate_left
            · simp only [Act.put, List.setIfInBounds_toArray, List.set_cons_zero, List.set_cons_succ, i64_w, i32_w]
              rfl
            refine one_ (i := 9) (N := some 7) #[true, true, true, true, true, true, true, true, true, true, false] rfl rfl (by kernel_rfl) (by decide) (fun K hK => ?_)
            refine value_ (w1 := ?_) (v := ?_) (by rfl) rfl ?_ ?_
            rotate_left 2
            · go_simp
              constructor
              · rfl
              · rfl
            have HB5 := Aside0.mk (below_alloc HB4.out (.cells #[.int .i64 0, .int .i64 0, .string ⟨#[]⟩, .slice none 0 0, .slice none 0 0] 32))
            have HK5 := Aside0.mk (HK4.out.alloc (.cells #[.int .i64 0, .int .i64 0, .string ⟨#[]⟩, .slice none 0 0, .slice none 0 0] 32))
            have HV5 := Aside0.mk (HV4.out.alloc (.cells #[.int .i64 0, .int .i64 0, .string ⟨#[]⟩, .slice none 0 0, .slice none 0 0] 32))
            have HZ5 := Aside0.mk (show HasZ W0 (q4.alloc (.cells #[.int .i64 0, .int .i64 0, .string ⟨#[]⟩, .slice none 0 0, .slice none 0 0] 32)) q4.heap.size from HasZ.new HB4.out)
            have nKZ_5 := HK4.out.ne_new
            have nVZ_5 := HV4.out.ne_new
            have nKV_5 := nKV_4
            generalize q4.alloc (.cells #[.int .i64 0, .int .i64 0, .string ⟨#[]⟩, .slice none 0 0, .slice none 0 0] 32) = q5 at HB5 HK5 HV5 HZ5 ⊢
            refine hK.out _ _ ⟨pw_cell_below HB5.out HX3.out, pw_cell_below HB5.out HX4.out⟩ (fun hHeld => ?_)
            clear hK K
            refine norm_ (a' := ?_) ?_ ?_
            rotate_left
            · show Act.put _ (some 7) _ = _
              simp only [Act.put, List.setIfInBounds_toArray, List.set_cons_zero, List.set_cons_succ, i64_w, i32_w]
              rfl
            exact norm_ (by simp only [putAll, Act.put, List.setIfInBounds_toArray, List.set_cons_zero, List.set_cons_succ]) (hCont ⟨.slice (some ⟨q0.heap.size, 0, none⟩) 0 0, .slice AK ks.length cK, .slice (some ⟨q2.heap.size, 0, none⟩) 0 0, .slice AV vs.length cV, q4.heap.size⟩ _ ⟨⟨pw_cell_below HB5.out HX3.out, pw_cell_below HB5.out HX4.out⟩, HB5.out, HZ5.out, _, _, HK5.out, HV5.out, nKZ_5, nVZ_5, nKV_5⟩)
          · skip
            refine value_ (w1 := ?_) (v := ?_) (by rfl) rfl ?_ ?_
            rotate_left 2
            · go_simp
              constructor
              · rfl
              · rfl
            have HB4 := Aside0.mk (below_alloc HB3.out (.cells #[.int .i64 0, .int .i64 0, .string ⟨#[]⟩, .slice none 0 0, .slice none 0 0] 32))
            have HK4 := Aside0.mk (HK3.out.alloc (.cells #[.int .i64 0, .int .i64 0, .string ⟨#[]⟩, .slice none 0 0, .slice none 0 0] 32))
            have HV4 := Aside0.mk (HV3.out.alloc (.cells #[.int .i64 0, .int .i64 0, .string ⟨#[]⟩, .slice none 0 0, .slice none 0 0] 32))
            have HZ4 := Aside0.mk (show HasZ W0 (q3.alloc (.cells #[.int .i64 0, .int .i64 0, .string ⟨#[]⟩, .slice none 0 0, .slice none 0 0] 32)) q3.heap.size from HasZ.new HB3.out)
            have nKZ_4 := HK3.out.ne_new
            have nVZ_4 := HV3.out.ne_new
            have nKV_4 := nKV_3
            generalize q3.alloc (.cells #[.int .i64 0, .int .i64 0, .string ⟨#[]⟩, .slice none 0 0, .slice none 0 0] 32) = q4 at HB4 HK4 HV4 HZ4 ⊢
            refine hK.out _ _ ⟨pw_cell_below HB4.out HX3.out, pw_cell_below HB4.out HX4.out⟩ (fun hHeld => ?_)
            clear hK K
            refine norm_ (a' := ?_) ?_ ?_
            rotate_left
            · show Act.put _ (some 7) _ = _
              simp only [Act.put, List.setIfInBounds_toArray, List.set_cons_zero, List.set_cons_succ, i64_w, i32_w]
              rfl
            refine one_ (i := 7) (N := some 17) #[true, true, true, true, true, true, true, true, false, true, false] rfl rfl (by kernel_rfl) (by decide) (fun K hK => ?_)
            refine Kd.R_append_rows_step (Kd.fixed kS Wf) (w0 := W0) W0.heap.size rfl (.tmp 14) (.tmp 16) 30 32 (.agg #[.int .i64 0, .int .i64 0, .string ⟨#[]⟩, .slice none 0 0, .slice none 0 0]) 80 rfl Tryd.underlying30 info32 rfl (show 0 < 5 by decide) (by decide) _ [] vs _ vs.length _ (fun _ => True) (fun _ => False) rfl rfl HV4.out.1 (ReadsRow.imp_ HVS.out HB4.out (fun _ _ hp => hp)) (fun _ _ h => h) (fun _ h => h.elim) (fun _ _ => trivial) HB4.out HB4.out.size (by simp only [List.length_nil]; omega) ?_
            intro vV q5 ho hb hg hat
            rw [List.nil_append] at ho
            obtain ⟨AV, cV, rfl⟩ := Kd.R_slice ho
            obtain ⟨bV, hk, hor⟩ := HV4.out.grew ho hg hat
            have HV5 := Aside0.mk hk
            have HB5 := Aside0.mk hb
            have HK5 := Aside0.mk (HK4.out.grown (fun _ _ _ _ _ _ h => h) hg (nKV_4))
            have nKV_5 := (ne_grew (nKV_4) (HK4.out.2.2.1) hor)
            have HZ5 := Aside0.mk (HZ4.out.grown hg (nVZ_4.symm))
            have nVZ_5 := (ne_grew (nVZ_4.symm) (cb_lt HZ4.out.1) hor).symm
            have nKZ_5 := nKZ_4
            clear ho hb hg hat hk hor
            refine hK.out _ _ ⟨pw_cell_below HB5.out HX3.out, pw_cell_below HB5.out HX4.out⟩ (fun hHeld => ?_)
            clear hK K
            refine norm_ (a' := ?_) ?_ ?_
            rotate_left
            · show Act.put _ (some 17) _ = _
              simp only [Act.put, List.setIfInBounds_toArray, List.set_cons_zero, List.set_cons_succ, i64_w, i32_w]
              rfl
            refine pure_ (i := 8) (N := some 18) (v := ?_) (a' := ?_) #[true, true, true, true, true, true, true, true, true, true, false] rfl rfl (by kernel_rfl) (fun _ _ _ h => h) (Or.inl ⟨by rfl, ?_⟩) ?_ ?_
            rotate_left
            · intro w'
              go_simp
              with_reducible rfl
            rotate_left
            · simp only [Act.put, List.setIfInBounds_toArray, List.set_cons_zero, List.set_cons_succ, i64_w, i32_w]
              rfl
            exact norm_ (by simp only [putAll, Act.put, List.setIfInBounds_toArray, List.set_cons_zero, List.set_cons_succ]) (hCont ⟨.slice (some ⟨q0.heap.size, 0, none⟩) 0 0, .slice AK ks.length cK, .slice (some ⟨q2.heap.size, 0, none⟩) 0 0, .slice AV vs.length cV, q3.heap.size⟩ _ ⟨⟨pw_cell_below HB5.out HX3.out, pw_cell_below HB5.out HX4.out⟩, HB5.out, HZ5.out, _, _, HK5.out, HV5.out, nKZ_5, nVZ_5, nKV_5⟩)
        · skip
          refine value_ (w1 := ?_) (v := ?_) (by rfl) rfl ?_ ?_
          rotate_left 2
          · go_simp
            constructor
            · rfl
            · rfl
          have HB3 := Aside0.mk (below_alloc HB2.out (.cells #[.int .i64 0, .int .i64 0, .string ⟨#[]⟩, .slice none 0 0, .slice none 0 0] 32))
          have HK3 := Aside0.mk (HK2.out.alloc (.cells #[.int .i64 0, .int .i64 0, .string ⟨#[]⟩, .slice none 0 0, .slice none 0 0] 32))
          have HZ3 := Aside0.mk (show HasZ W0 (q2.alloc (.cells #[.int .i64 0, .int .i64 0, .string ⟨#[]⟩, .slice none 0 0, .slice none 0 0] 32)) q2.heap.size from HasZ.new HB2.out)
          have nKZ_3 := HK2.out.ne_new
          generalize q2.alloc (.cells #[.int .i64 0, .int .i64 0, .string ⟨#[]⟩, .slice none 0 0, .slice none 0 0] 32) = q3 at HB3 HK3 HZ3 ⊢
          refine hK.out _ _ ⟨pw_cell_below HB3.out HX3.out, pw_cell_below HB3.out HX4.out⟩ (fun hHeld => ?_)
          clear hK K
          refine norm_ (a' := ?_) ?_ ?_
          rotate_left
          · show Act.put _ (some 7) _ = _
            simp only [Act.put, List.setIfInBounds_toArray, List.set_cons_zero, List.set_cons_succ, i64_w, i32_w]
            rfl
          refine one_ (i := 4) (N := some 14) #[true, true, true, true, true, true, true, false, false, true, false] rfl rfl (by kernel_rfl) (by decide) (fun K hK => ?_)
          refine value_ (w1 := ?_) (v := ?_) (by rfl) rfl ?_ ?_
          rotate_left 2
          · go_simp
            constructor
            · rfl
            · rfl
          have HB4 := Aside0.mk (below_alloc HB3.out (.cells #[] 32))
          have HK4 := Aside0.mk (HK3.out.alloc (.cells #[] 32))
          have HZ4 := Aside0.mk (HZ3.out.alloc (.cells #[] 32))
          have HV4 := Aside0.mk (Has.new (d := Kd.fixed kS Wf) (e := 32) HB3.out)
          have nKV_4 := HK3.out.ne_new
          have nVZ_4 := HZ3.out.ne_new.symm
          have nKZ_4 := nKZ_3
          generalize q3.alloc (.cells #[] 32) = q4 at HB4 HK4 HZ4 HV4 ⊢
          refine hK.out _ _ ⟨pw_cell_below HB4.out HX3.out, pw_cell_below HB4.out HX4.out⟩ (fun hHeld => ?_)
          clear hK K
          refine norm_ (a' := ?_) ?_ ?_
          rotate_left
          · show Act.put _ (some 14) _ = _
            simp only [Act.put, List.setIfInBounds_toArray, List.set_cons_zero, List.set_cons_succ, i64_w, i32_w]
            rfl
          refine one_ (i := 7) (N := some 17) #[true, true, true, true, true, true, true, true, false, true, false] rfl rfl (by kernel_rfl) (by decide) (fun K hK => ?_)
          refine Kd.R_append_rows_step (Kd.fixed kS Wf) (w0 := W0) W0.heap.size rfl (.tmp 14) (.tmp 16) 30 32 (.agg #[.int .i64 0, .int .i64 0, .string ⟨#[]⟩, .slice none 0 0, .slice none 0 0]) 80 rfl Tryd.underlying30 info32 rfl (show 0 < 5 by decide) (by decide) _ [] vs _ vs.length _ (fun _ => True) (fun _ => False) rfl rfl HV4.out.1 (ReadsRow.imp_ HVS.out HB4.out (fun _ _ hp => hp)) (fun _ _ h => h) (fun _ h => h.elim) (fun _ _ => trivial) HB4.out HB4.out.size (by simp only [List.length_nil]; omega) ?_
          intro vV q5 ho hb hg hat
          rw [List.nil_append] at ho
          obtain ⟨AV, cV, rfl⟩ := Kd.R_slice ho
          obtain ⟨bV, hk, hor⟩ := HV4.out.grew ho hg hat
          have HV5 := Aside0.mk hk
          have HB5 := Aside0.mk hb
          have HK5 := Aside0.mk (HK4.out.grown (fun _ _ _ _ _ _ h => h) hg (nKV_4))
          have nKV_5 := (ne_grew (nKV_4) (HK4.out.2.2.1) hor)
          have HZ5 := Aside0.mk (HZ4.out.grown hg (nVZ_4.symm))
          have nVZ_5 := (ne_grew (nVZ_4.symm) (cb_lt HZ4.out.1) hor).symm
          have nKZ_5 := nKZ_4
          clear ho hb hg hat hk hor
          refine hK.out _ _ ⟨pw_cell_below HB5.out HX3.out, pw_cell_below HB5.out HX4.out⟩ (fun hHeld => ?_)
          clear hK K
          refine norm_ (a' := ?_) ?_ ?_
          rotate_left
          · show Act.put _ (some 17) _ = _
            simp only [Act.put, List.setIfInBounds_toArray, List.set_cons_zero, List.set_cons_succ, i64_w, i32_w]
            rfl
          refine pure_ (i := 8) (N := some 18) (v := ?_) (a' := ?_) #[true, true, true, true, true, true, true, true, true, true, false] rfl rfl (by kernel_rfl) (fun _ _ _ h => h) (Or.inl ⟨by rfl, ?_⟩) ?_ ?_
          rotate_left
          · intro w'
            go_simp
            with_reducible rfl
          rotate_left
          · simp only [Act.put, List.setIfInBounds_toArray, List.set_cons_zero, List.set_cons_succ, i64_w, i32_w]
            rfl
          exact norm_ (by simp only [putAll, Act.put, List.setIfInBounds_toArray, List.set_cons_zero, List.set_cons_succ]) (hCont ⟨.slice (some ⟨q0.heap.size, 0, none⟩) 0 0, .slice AK ks.length cK, .slice (some ⟨q3.heap.size, 0, none⟩) 0 0, .slice AV vs.length cV, q2.heap.size⟩ _ ⟨⟨pw_cell_below HB5.out HX3.out, pw_cell_below HB5.out HX4.out⟩, HB5.out, HZ5.out, _, _, HK5.out, HV5.out, nKZ_5, nVZ_5, nKV_5⟩)
      · skip
        refine value_ (w1 := ?_) (v := ?_) (by rfl) rfl ?_ ?_
        rotate_left 2
        · go_simp
          constructor
          · rfl
          · rfl
        have HB2 := Aside0.mk (below_alloc HB1.out (.cells #[] 32))
        have HK2 := Aside0.mk (HK1.out.alloc (.cells #[] 32))
        have HV2 := Aside0.mk (Has.new (d := Kd.fixed kS Wf) (e := 32) HB1.out)
        have nKV_2 := HK1.out.ne_new
        generalize q1.alloc (.cells #[] 32) = q2 at HB2 HK2 HV2 ⊢
        refine hK.out _ _ ⟨pw_cell_below HB2.out HX3.out, pw_cell_below HB2.out HX4.out⟩ (fun hHeld => ?_)
        clear hK K
        refine norm_ (a' := ?_) ?_ ?_
        rotate_left
        · show Act.put _ (some 14) _ = _
          simp only [Act.put, List.setIfInBounds_toArray, List.set_cons_zero, List.set_cons_succ, i64_w, i32_w]
          rfl
        refine two_ (i := 3) (j := 9) (Ni := some 13) (Nj := some 7) #[true, true, true, true, true, true, true, false, false, false, false] #[true, true, true, false, true, true, true, false, false, true, false] rfl rfl rfl rfl (by kernel_rfl) (by decide) (by decide) (fun K hK => ?_) (fun K hK => ?_)
        · skip
          refine Kd.R_append_rows_step Kd.string (w0 := W0) W0.heap.size rfl (.tmp 10) (.tmp 12) 25 9 (.string ⟨#[]⟩) 16 rfl Tryd.underlying25 info_string rfl (show 0 < 1 by decide) (by decide) _ [] ks _ ks.length _ (fun _ => True) (fun _ => False) rfl rfl HK2.out.1 (show ReadsRow (fun (x : ByteArray) cs => cs = [Value.string x]) 1 _ _ _ _ from Kd.C_below HKS.out HB2.out) (fun _ _ h => h) (fun _ h => h.elim) (fun _ _ => trivial) HB2.out HB2.out.size (by simp only [List.length_nil]; omega) ?_
          intro vK q3 ho hb hg hat
          rw [List.nil_append] at ho
          obtain ⟨AK, cK, rfl⟩ := Kd.R_slice ho
          obtain ⟨bK, hk, hor⟩ := HK2.out.grew ho hg hat
          have HK3 := Aside0.mk hk
          have HB3 := Aside0.mk hb
          have HV3 := Aside0.mk (HV2.out.grown (fun _ _ _ _ _ _ h => h) hg (nKV_2.symm))
          have nKV_3 := (ne_grew (nKV_2.symm) (HV2.out.2.2.1) hor).symm
          clear ho hb hg hat hk hor
          refine hK.out _ _ ⟨pw_cell_below HB3.out HX3.out, pw_cell_below HB3.out HX4.out⟩ (fun hHeld => ?_)
          clear hK K
          refine norm_ (a' := ?_) ?_ ?_
          rotate_left
          · show Act.put _ (some 13) _ = _
            simp only [Act.put, List.setIfInBounds_toArray, List.set_cons_zero, List.set_cons_succ, i64_w, i32_w]
            rfl
          refine two_ (i := 7) (j := 9) (Ni := some 17) (Nj := some 7) #[true, true, true, true, true, true, true, true, false, false, false] #[true, true, true, true, true, true, true, false, false, true, false] rfl rfl rfl rfl (by kernel_rfl) (by decide) (by decide) (fun K hK => ?_) (fun K hK => ?_)
          · skip
            refine Kd.R_append_rows_step (Kd.fixed kS Wf) (w0 := W0) W0.heap.size rfl (.tmp 14) (.tmp 16) 30 32 (.agg #[.int .i64 0, .int .i64 0, .string ⟨#[]⟩, .slice none 0 0, .slice none 0 0]) 80 rfl Tryd.underlying30 info32 rfl (show 0 < 5 by decide) (by decide) _ [] vs _ vs.length _ (fun _ => True) (fun _ => False) rfl rfl HV3.out.1 (ReadsRow.imp_ HVS.out HB3.out (fun _ _ hp => hp)) (fun _ _ h => h) (fun _ h => h.elim) (fun _ _ => trivial) HB3.out HB3.out.size (by simp only [List.length_nil]; omega) ?_
            intro vV q4 ho hb hg hat
            rw [List.nil_append] at ho
            obtain ⟨AV, cV, rfl⟩ := Kd.R_slice ho
            obtain ⟨bV, hk, hor⟩ := HV3.out.grew ho hg hat
            have HV4 := Aside0.mk hk
            have HB4 := Aside0.mk hb
            have HK4 := Aside0.mk (HK3.out.grown (fun _ _ _ _ _ _ h => h) hg (nKV_3))
            have nKV_4 := (ne_grew (nKV_3) (HK3.out.2.2.1) hor)
            clear ho hb hg hat hk hor
            refine hK.out _ _ ⟨pw_cell_below HB4.out HX3.out, pw_cell_below HB4.out HX4.out⟩ (fun hHeld => ?_)
            clear hK K
            refine norm_ (a' := ?_) ?_ ?_
            rotate_left
            · show Act.put _ (some 17) _ = _
              simp only [Act.put, List.setIfInBounds_toArray, List.set_cons_zero, List.set_cons_succ, i64_w, i32_w]
              rfl
            refine pure_ (i := 8) (N := some 18) (v := ?_) (a' := ?_) #[true, true, true, true, true, true, true, true, true, false, false] rfl rfl (by kernel_rfl) (fun _ _ _ h => h) (Or.inl ⟨by rfl, ?_⟩) ?_ ?_
            rotate_left
            · intro w'
              go_simp
              with_reducible rfl
            rotate_left
            · simp only [Act.put, List.setIfInBounds_toArray, List.set_cons_zero, List.set_cons_succ, i64_w, i32_w]
              rfl
            refine one_ (i := 9) (N := some 7) #[true, true, true, true, true, true, true, true, true, true, false] rfl rfl (by kernel_rfl) (by decide) (fun K hK => ?_)
            refine value_ (w1 := ?_) (v := ?_) (by rfl) rfl ?_ ?_
            rotate_left 2
            · go_simp
              constructor
              · rfl
              · rfl
            have HB5 := Aside0.mk (below_alloc HB4.out (.cells #[.int .i64 0, .int .i64 0, .string ⟨#[]⟩, .slice none 0 0, .slice none 0 0] 32))
            have HK5 := Aside0.mk (HK4.out.alloc (.cells #[.int .i64 0, .int .i64 0, .string ⟨#[]⟩, .slice none 0 0, .slice none 0 0] 32))
            have HV5 := Aside0.mk (HV4.out.alloc (.cells #[.int .i64 0, .int .i64 0, .string ⟨#[]⟩, .slice none 0 0, .slice none 0 0] 32))
            have HZ5 := Aside0.mk (show HasZ W0 (q4.alloc (.cells #[.int .i64 0, .int .i64 0, .string ⟨#[]⟩, .slice none 0 0, .slice none 0 0] 32)) q4.heap.size from HasZ.new HB4.out)
            have nKZ_5 := HK4.out.ne_new
            have nVZ_5 := HV4.out.ne_new
            have nKV_5 := nKV_4
            generalize q4.alloc (.cells #[.int .i64 0, .int .i64 0, .string ⟨#[]⟩, .slice none 0 0, .slice none 0 0] 32) = q5 at HB5 HK5 HV5 HZ5 ⊢
            refine hK.out _ _ ⟨pw_cell_below HB5.out HX3.out, pw_cell_below HB5.out HX4.out⟩ (fun hHeld => ?_)
            clear hK K
            refine norm_ (a' := ?_) ?_ ?_
            rotate_left
            · show Act.put _ (some 7) _ = _
              simp only [Act.put, List.setIfInBounds_toArray, List.set_cons_zero, List.set_cons_succ, i64_w, i32_w]
              rfl
            exact norm_ (by simp only [putAll, Act.put, List.setIfInBounds_toArray, List.set_cons_zero, List.set_cons_succ]) (hCont ⟨.slice (some ⟨q0.heap.size, 0, none⟩) 0 0, .slice AK ks.length cK, .slice (some ⟨q1.heap.size, 0, none⟩) 0 0, .slice AV vs.length cV, q4.heap.size⟩ _ ⟨⟨pw_cell_below HB5.out HX3.out, pw_cell_below HB5.out HX4.out⟩, HB5.out, HZ5.out, _, _, HK5.out, HV5.out, nKZ_5, nVZ_5, nKV_5⟩)
          · skip
            refine value_ (w1 := ?_) (v := ?_) (by rfl) rfl ?_ ?_
            rotate_left 2
            · go_simp
              constructor
              · rfl
              · rfl
            have HB4 := Aside0.mk (below_alloc HB3.out (.cells #[.int .i64 0, .int .i64 0, .string ⟨#[]⟩, .slice none 0 0, .slice none 0 0] 32))
            have HK4 := Aside0.mk (HK3.out.alloc (.cells #[.int .i64 0, .int .i64 0, .string ⟨#[]⟩, .slice none 0 0, .slice none 0 0] 32))
            have HV4 := Aside0.mk (HV3.out.alloc (.cells #[.int .i64 0, .int .i64 0, .string ⟨#[]⟩, .slice none 0 0, .slice none 0 0] 32))
            have HZ4 := Aside0.mk (show HasZ W0 (q3.alloc (.cells #[.int .i64 0, .int .i64 0, .string ⟨#[]⟩, .slice none 0 0, .slice none 0 0] 32)) q3.heap.size from HasZ.new HB3.out)
            have nKZ_4 := HK3.out.ne_new
            have nVZ_4 := HV3.out.ne_new
            have nKV_4 := nKV_3
            generalize q3.alloc (.cells #[.int .i64 0, .int .i64 0, .string ⟨#[]⟩, .slice none 0 0, .slice none 0 0] 32) = q4 at HB4 HK4 HV4 HZ4 ⊢
            refine hK.out _ _ ⟨pw_cell_below HB4.out HX3.out, pw_cell_below HB4.out HX4.out⟩ (fun hHeld => ?_)
            clear hK K
            refine norm_ (a' := ?_) ?_ ?_
            rotate_left
            · show Act.put _ (some 7) _ = _
              simp only [Act.put, List.setIfInBounds_toArray, List.set_cons_zero, List.set_cons_succ, i64_w, i32_w]
              rfl
            refine one_ (i := 7) (N := some 17) #[true, true, true, true, true, true, true, true, false, true, false] rfl rfl (by kernel_rfl) (by decide) (fun K hK => ?_)
            refine Kd.R_append_rows_step (Kd.fixed kS Wf) (w0 := W0) W0.heap.size rfl (.tmp 14) (.tmp 16) 30 32 (.agg #[.int .i64 0, .int .i64 0, .string ⟨#[]⟩, .slice none 0 0, .slice none 0 0]) 80 rfl Tryd.underlying30 info32 rfl (show 0 < 5 by decide) (by decide) _ [] vs _ vs.length _ (fun _ => True) (fun _ => False) rfl rfl HV4.out.1 (ReadsRow.imp_ HVS.out HB4.out (fun _ _ hp => hp)) (fun _ _ h => h) (fun _ h => h.elim) (fun _ _ => trivial) HB4.out HB4.out.size (by simp only [List.length_nil]; omega) ?_
            intro vV q5 ho hb hg hat
            rw [List.nil_append] at ho
            obtain ⟨AV, cV, rfl⟩ := Kd.R_slice ho
            obtain ⟨bV, hk, hor⟩ := HV4.out.grew ho hg hat
            have HV5 := Aside0.mk hk
            have HB5 := Aside0.mk hb
            have HK5 := Aside0.mk (HK4.out.grown (fun _ _ _ _ _ _ h => h) hg (nKV_4))
            have nKV_5 := (ne_grew (nKV_4) (HK4.out.2.2.1) hor)
            have HZ5 := Aside0.mk (HZ4.out.grown hg (nVZ_4.symm))
            have nVZ_5 := (ne_grew (nVZ_4.symm) (cb_lt HZ4.out.1) hor).symm
            have nKZ_5 := nKZ_4
            clear ho hb hg hat hk hor
            refine hK.out _ _ ⟨pw_cell_below HB5.out HX3.out, pw_cell_below HB5.out HX4.out⟩ (fun hHeld => ?_)
            clear hK K
            refine norm_ (a' := ?_) ?_ ?_
            rotate_left
            · show Act.put _ (some 17) _ = _
              simp only [Act.put, List.setIfInBounds_toArray, List.set_cons_zero, List.set_cons_succ, i64_w, i32_w]
              rfl
            refine pure_ (i := 8) (N := some 18) (v := ?_) (a' := ?_) #[true, true, true, true, true, true, true, true, true, true, false] rfl rfl (by kernel_rfl) (fun _ _ _ h => h) (Or.inl ⟨by rfl, ?_⟩) ?_ ?_
            rotate_left
            · intro w'
              go_simp
              with_reducible rfl
            rotate_left
            · simp only [Act.put, List.setIfInBounds_toArray, List.set_cons_zero, List.set_cons_succ, i64_w, i32_w]
              rfl
            exact norm_ (by simp only [putAll, Act.put, List.setIfInBounds_toArray, List.set_cons_zero, List.set_cons_succ]) (hCont ⟨.slice (some ⟨q0.heap.size, 0, none⟩) 0 0, .slice AK ks.length cK, .slice (some ⟨q1.heap.size, 0, none⟩) 0 0, .slice AV vs.length cV, q3.heap.size⟩ _ ⟨⟨pw_cell_below HB5.out HX3.out, pw_cell_below HB5.out HX4.out⟩, HB5.out, HZ5.out, _, _, HK5.out, HV5.out, nKZ_5, nVZ_5, nKV_5⟩)
        · skip
          refine value_ (w1 := ?_) (v := ?_) (by rfl) rfl ?_ ?_
          rotate_left 2
          · go_simp
            constructor
            · rfl
            · rfl
          have HB3 := Aside0.mk (below_alloc HB2.out (.cells #[.int .i64 0, .int .i64 0, .string ⟨#[]⟩, .slice none 0 0, .slice none 0 0] 32))
          have HK3 := Aside0.mk (HK2.out.alloc (.cells #[.int .i64 0, .int .i64 0, .string ⟨#[]⟩, .slice none 0 0, .slice none 0 0] 32))
          have HV3 := Aside0.mk (HV2.out.alloc (.cells #[.int .i64 0, .int .i64 0, .string ⟨#[]⟩, .slice none 0 0, .slice none 0 0] 32))
          have HZ3 := Aside0.mk (show HasZ W0 (q2.alloc (.cells #[.int .i64 0, .int .i64 0, .string ⟨#[]⟩, .slice none 0 0, .slice none 0 0] 32)) q2.heap.size from HasZ.new HB2.out)
          have nKZ_3 := HK2.out.ne_new
          have nVZ_3 := HV2.out.ne_new
          have nKV_3 := nKV_2
          generalize q2.alloc (.cells #[.int .i64 0, .int .i64 0, .string ⟨#[]⟩, .slice none 0 0, .slice none 0 0] 32) = q3 at HB3 HK3 HV3 HZ3 ⊢
          refine hK.out _ _ ⟨pw_cell_below HB3.out HX3.out, pw_cell_below HB3.out HX4.out⟩ (fun hHeld => ?_)
          clear hK K
          refine norm_ (a' := ?_) ?_ ?_
          rotate_left
          · show Act.put _ (some 7) _ = _
            simp only [Act.put, List.setIfInBounds_toArray, List.set_cons_zero, List.set_cons_succ, i64_w, i32_w]
            rfl
          refine one_ (i := 3) (N := some 13) #[true, true, true, true, true, true, true, false, false, true, false] rfl rfl (by kernel_rfl) (by decide) (fun K hK => ?_)
          refine Kd.R_append_rows_step Kd.string (w0 := W0) W0.heap.size rfl (.tmp 10) (.tmp 12) 25 9 (.string ⟨#[]⟩) 16 rfl Tryd.underlying25 info_string rfl (show 0 < 1 by decide) (by decide) _ [] ks _ ks.length _ (fun _ => True) (fun _ => False) rfl rfl HK3.out.1 (show ReadsRow (fun (x : ByteArray) cs => cs = [Value.string x]) 1 _ _ _ _ from Kd.C_below HKS.out HB3.out) (fun _ _ h => h) (fun _ h => h.elim) (fun _ _ => trivial) HB3.out HB3.out.size (by simp only [List.length_nil]; omega) ?_
          intro vK q4 ho hb hg hat
          rw [List.nil_append] at ho
          obtain ⟨AK, cK, rfl⟩ := Kd.R_slice ho
          obtain ⟨bK, hk, hor⟩ := HK3.out.grew ho hg hat
          have HK4 := Aside0.mk hk
          have HB4 := Aside0.mk hb
          have HV4 := Aside0.mk (HV3.out.grown (fun _ _ _ _ _ _ h => h) hg (nKV_3.symm))
          have nKV_4 := (ne_grew (nKV_3.symm) (HV3.out.2.2.1) hor).symm
          have HZ4 := Aside0.mk (HZ3.out.grown hg (nKZ_3.symm))
          have nKZ_4 := (ne_grew (nKZ_3.symm) (cb_lt HZ3.out.1) hor).symm
          have nVZ_4 := nVZ_3
          clear ho hb hg hat hk hor
          refine hK.out _ _ ⟨pw_cell_below HB4.out HX3.out, pw_cell_below HB4.out HX4.out⟩ (fun hHeld => ?_)
          clear hK K
          refine norm_ (a' := ?_) ?_ ?_
          rotate_left
          · show Act.put _ (some 13) _ = _
            simp only [Act.put, List.setIfInBounds_toArray, List.set_cons_zero, List.set_cons_succ, i64_w, i32_w]
            rfl
          refine one_ (i := 7) (N := some 17) #[true, true, true, true, true, true, true, true, false, true, false] rfl rfl (by kernel_rfl) (by decide) (fun K hK => ?_)
          refine Kd.R_append_rows_step (Kd.fixed kS Wf) (w0 := W0) W0.heap.size rfl (.tmp 14) (.tmp 16) 30 32 (.agg #[.int .i64 0, .int .i64 0, .string ⟨#[]⟩, .slice none 0 0, .slice none 0 0]) 80 rfl Tryd.underlying30 info32 rfl (show 0 < 5 by decide) (by decide) _ [] vs _ vs.length _ (fun _ => True) (fun _ => False) rfl rfl HV4.out.1 (ReadsRow.imp_ HVS.out HB4.out (fun _ _ hp => hp)) (fun _ _ h => h) (fun _ h => h.elim) (fun _ _ => trivial) HB4.out HB4.out.size (by simp only [List.length_nil]; omega) ?_
          intro vV q5 ho hb hg hat
          rw [List.nil_append] at ho
          obtain ⟨AV, cV, rfl⟩ := Kd.R_slice ho
          obtain ⟨bV, hk, hor⟩ := HV4.out.grew ho hg hat
          have HV5 := Aside0.mk hk
          have HB5 := Aside0.mk hb
          have HK5 := Aside0.mk (HK4.out.grown (fun _ _ _ _ _ _ h => h) hg (nKV_4))
          have nKV_5 := (ne_grew (nKV_4) (HK4.out.2.2.1) hor)
          have HZ5 := Aside0.mk (HZ4.out.grown hg (nVZ_4.symm))
          have nVZ_5 := (ne_grew (nVZ_4.symm) (cb_lt HZ4.out.1) hor).symm
          have nKZ_5 := nKZ_4
          clear ho hb hg hat hk hor
          refine hK.out _ _ ⟨pw_cell_below HB5.out HX3.out, pw_cell_below HB5.out HX4.out⟩ (fun hHeld => ?_)
          clear hK K
          refine norm_ (a' := ?_) ?_ ?_
          rotate_left
          · show Act.put _ (some 17) _ = _
            simp only [Act.put, List.setIfInBounds_toArray, List.set_cons_zero, List.set_cons_succ, i64_w, i32_w]
            rfl
          refine pure_ (i := 8) (N := some 18) (v := ?_) (a' := ?_) #[true, true, true, true, true, true, true, true, true, true, false] rfl rfl (by kernel_rfl) (fun _ _ _ h => h) (Or.inl ⟨by rfl, ?_⟩) ?_ ?_
          rotate_left
          · intro w'
            go_simp
            with_reducible rfl
          rotate_left
          · simp only [Act.put, List.setIfInBounds_toArray, List.set_cons_zero, List.set_cons_succ, i64_w, i32_w]
            rfl
          exact norm_ (by simp only [putAll, Act.put, List.setIfInBounds_toArray, List.set_cons_zero, List.set_cons_succ]) (hCont ⟨.slice (some ⟨q0.heap.size, 0, none⟩) 0 0, .slice AK ks.length cK, .slice (some ⟨q1.heap.size, 0, none⟩) 0 0, .slice AV vs.length cV, q2.heap.size⟩ _ ⟨⟨pw_cell_below HB5.out HX3.out, pw_cell_below HB5.out HX4.out⟩, HB5.out, HZ5.out, _, _, HK5.out, HV5.out, nKZ_5, nVZ_5, nKV_5⟩)
      · skip
        refine value_ (w1 := ?_) (v := ?_) (by rfl) rfl ?_ ?_
        rotate_left 2
        · go_simp
          constructor
          · rfl
          · rfl
        have HB2 := Aside0.mk (below_alloc HB1.out (.cells #[.int .i64 0, .int .i64 0, .string ⟨#[]⟩, .slice none 0 0, .slice none 0 0] 32))
        have HK2 := Aside0.mk (HK1.out.alloc (.cells #[.int .i64 0, .int .i64 0, .string ⟨#[]⟩, .slice none 0 0, .slice none 0 0] 32))
        have HZ2 := Aside0.mk (show HasZ W0 (q1.alloc (.cells #[.int .i64 0, .int .i64 0, .string ⟨#[]⟩, .slice none 0 0, .slice none 0 0] 32)) q1.heap.size from HasZ.new HB1.out)
        have nKZ_2 := HK1.out.ne_new
        generalize q1.alloc (.cells #[.int .i64 0, .int .i64 0, .string ⟨#[]⟩, .slice none 0 0, .slice none 0 0] 32) = q2 at HB2 HK2 HZ2 ⊢
        refine hK.out _ _ ⟨pw_cell_below HB2.out HX3.out, pw_cell_below HB2.out HX4.out⟩ (fun hHeld => ?_)
        clear hK K
        refine norm_ (a' := ?_) ?_ ?_
        rotate_left
        · show Act.put _ (some 7) _ = _
          simp only [Act.put, List.setIfInBounds_toArray, List.set_cons_zero, List.set_cons_succ, i64_w, i32_w]
          rfl
        refine two_ (i := 3) (j := 4) (Ni := some 13) (Nj := some 14) #[true, true, true, true, false, true, true, false, false, true, false] #[true, true, true, false, true, true, true, false, false, true, false] rfl rfl rfl rfl (by kernel_rfl) (by decide) (by decide) (fun K hK => ?_) (fun K hK => ?_)
        · skip
          refine Kd.R_append_rows_step Kd.string (w0 := W0) W0.heap.size rfl (.tmp 10) (.tmp 12) 25 9 (.string ⟨#[]⟩) 16 rfl Tryd.underlying25 info_string rfl (show 0 < 1 by decide) (by decide) _ [] ks _ ks.length _ (fun _ => True) (fun _ => False) rfl rfl HK2.out.1 (show ReadsRow (fun (x : ByteArray) cs => cs = [Value.string x]) 1 _ _ _ _ from Kd.C_below HKS.out HB2.out) (fun _ _ h => h) (fun _ h => h.elim) (fun _ _ => trivial) HB2.out HB2.out.size (by simp only [List.length_nil]; omega) ?_
          intro vK q3 ho hb hg hat
          rw [List.nil_append] at ho
          obtain ⟨AK, cK, rfl⟩ := Kd.R_slice ho
          obtain ⟨bK, hk, hor⟩ := HK2.out.grew ho hg hat
          have HK3 := Aside0.mk hk
          have HB3 := Aside0.mk hb
          have HZ3 := Aside0.mk (HZ2.out.grown hg (nKZ_2.symm))
          have nKZ_3 := (ne_grew (nKZ_2.symm) (cb_lt HZ2.out.1) hor).symm
          clear ho hb hg hat hk hor
          refine hK.out _ _ ⟨pw_cell_below HB3.out HX3.out, pw_cell_below HB3.out HX4.out⟩ (fun hHeld => ?_)
          clear hK K
          refine norm_ (a' := ?_) ?_ ?_
          rotate_left
          · show Act.put _ (some 13) _ = _
            simp only [Act.put, List.setIfInBounds_toArray, List.set_cons_zero, List.set_cons_succ, i64_w, i32_w]
            rfl
          refine one_ (i := 4) (N := some 14) #[true, true, true, true, true, true, true, false, false, true, false] rfl rfl (by kernel_rfl) (by decide) (fun K hK => ?_)
          refine value_ (w1 := ?_) (v := ?_) (by rfl) rfl ?_ ?_
          rotate_left 2
          · go_simp
            constructor
            · rfl
            · rfl
          have HB4 := Aside0.mk (below_alloc HB3.out (.cells #[] 32))
          have HK4 := Aside0.mk (HK3.out.alloc (.cells #[] 32))
          have HZ4 := Aside0.mk (HZ3.out.alloc (.cells #[] 32))
          have HV4 := Aside0.mk (Has.new (d := Kd.fixed kS Wf) (e := 32) HB3.out)
          have nKV_4 := HK3.out.ne_new
          have nVZ_4 := HZ3.out.ne_new.symm
          have nKZ_4 := nKZ_3
          generalize q3.alloc (.cells #[] 32) = q4 at HB4 HK4 HZ4 HV4 ⊢
          refine hK.out _ _ ⟨pw_cell_below HB4.out HX3.out, pw_cell_below HB4.out HX4.out⟩ (fun hHeld => ?_)
          clear hK K
          refine norm_ (a' := ?_) ?_ ?_
          rotate_left
          · show Act.put _ (some 14) _ = _
            simp only [Act.put, List.setIfInBounds_toArray, List.set_cons_zero, List.set_cons_succ, i64_w, i32_w]
            rfl
          refine one_ (i := 7) (N := some 17) #[true, true, true, true, true, true, true, true, false, true, false] rfl rfl (by kernel_rfl) (by decide) (fun K hK => ?_)
          refine Kd.R_append_rows_step (Kd.fixed kS Wf) (w0 := W0) W0.heap.size rfl (.tmp 14) (.tmp 16) 30 32 (.agg #[.int .i64 0, .int .i64 0, .string ⟨#[]⟩, .slice none 0 0, .slice none 0 0]) 80 rfl Tryd.underlying30 info32 rfl (show 0 < 5 by decide) (by decide) _ [] vs _ vs.length _ (fun _ => True) (fun _ => False) rfl rfl HV4.out.1 (ReadsRow.imp_ HVS.out HB4.out (fun _ _ hp => hp)) (fun _ _ h => h) (fun _ h => h.elim) (fun _ _ => trivial) HB4.out HB4.out.size (by simp only [List.length_nil]; omega) ?_
          intro vV q5 ho hb hg hat
          rw [List.nil_append] at ho
          obtain ⟨AV, cV, rfl⟩ := Kd.R_slice ho
          obtain ⟨bV, hk, hor⟩ := HV4.out.grew ho hg hat
          have HV5 := Aside0.mk hk
          have HB5 := Aside0.mk hb
          have HK5 := Aside0.mk (HK4.out.grown (fun _ _ _ _ _ _ h => h) hg (nKV_4))
          have nKV_5 := (ne_grew (nKV_4) (HK4.out.2.2.1) hor)
          have HZ5 := Aside0.mk (HZ4.out.grown hg (nVZ_4.symm))
          have nVZ_5 := (ne_grew (nVZ_4.symm) (cb_lt HZ4.out.1) hor).symm
          have nKZ_5 := nKZ_4
          clear ho hb hg hat hk hor
          refine hK.out _ _ ⟨pw_cell_below HB5.out HX3.out, pw_cell_below HB5.out HX4.out⟩ (fun hHeld => ?_)
          clear hK K
          refine norm_ (a' := ?_) ?_ ?_
          rotate_left
          · show Act.put _ (some 17) _ = _
            simp only [Act.put, List.setIfInBounds_toArray, List.set_cons_zero, List.set_cons_succ, i64_w, i32_w]
            rfl
          refine pure_ (i := 8) (N := some 18) (v := ?_) (a' := ?_) #[true, true, true, true, true, true, true, true, true, true, false] rfl rfl (by kernel_rfl) (fun _ _ _ h => h) (Or.inl ⟨by rfl, ?_⟩) ?_ ?_
          rotate_left
          · intro w'
            go_simp
            with_reducible rfl
          rotate_left
          · simp only [Act.put, List.setIfInBounds_toArray, List.set_cons_zero, List.set_cons_succ, i64_w, i32_w]
            rfl
          exact norm_ (by simp only [putAll, Act.put, List.setIfInBounds_toArray, List.set_cons_zero, List.set_cons_succ]) (hCont ⟨.slice (some ⟨q0.heap.size, 0, none⟩) 0 0, .slice AK ks.length cK, .slice (some ⟨q3.heap.size, 0, none⟩) 0 0, .slice AV vs.length cV, q1.heap.size⟩ _ ⟨⟨pw_cell_below HB5.out HX3.out, pw_cell_below HB5.out HX4.out⟩, HB5.out, HZ5.out, _, _, HK5.out, HV5.out, nKZ_5, nVZ_5, nKV_5⟩)
        · skip
          refine value_ (w1 := ?_) (v := ?_) (by rfl) rfl ?_ ?_
          rotate_left 2
          · go_simp
            constructor
            · rfl
            · rfl
          have HB3 := Aside0.mk (below_alloc HB2.out (.cells #[] 32))
          have HK3 := Aside0.mk (HK2.out.alloc (.cells #[] 32))
          have HZ3 := Aside0.mk (HZ2.out.alloc (.cells #[] 32))
          have HV3 := Aside0.mk (Has.new (d := Kd.fixed kS Wf) (e := 32) HB2.out)
          have nKV_3 := HK2.out.ne_new
          have nVZ_3 := HZ2.out.ne_new.symm
          have nKZ_3 := nKZ_2
          generalize q2.alloc (.cells #[] 32) = q3 at HB3 HK3 HZ3 HV3 ⊢
          refine hK.out _ _ ⟨pw_cell_below HB3.out HX3.out, pw_cell_below HB3.out HX4.out⟩ (fun hHeld => ?_)
          clear hK K
          refine norm_ (a' := ?_) ?_ ?_
          rotate_left
          · show Act.put _ (some 14) _ = _
            simp only [Act.put, List.setIfInBounds_toArray, List.set_cons_zero, List.set_cons_succ, i64_w, i32_w]
            rfl
          refine one_ (i := 3) (N := some 13) #[true, true, true, true, true, true, true, false, false, true, false] rfl rfl (by kernel_rfl) (by decide) (fun K hK => ?_)
          refine Kd.R_append_rows_step Kd.string (w0 := W0) W0.heap.size rfl (.tmp 10) (.tmp 12) 25 9 (.string ⟨#[]⟩) 16 rfl Tryd.underlying25 info_string rfl (show 0 < 1 by decide) (by decide) _ [] ks _ ks.length _ (fun _ => True) (fun _ => False) rfl rfl HK3.out.1 (show ReadsRow (fun (x : ByteArray) cs => cs = [Value.string x]) 1 _ _ _ _ from Kd.C_below HKS.out HB3.out) (fun _ _ h => h) (fun _ h => h.elim) (fun _ _ => trivial) HB3.out HB3.out.size (by simp only [List.length_nil]; omega) ?_
          intro vK q4 ho hb hg hat
          rw [List.nil_append] at ho
          obtain ⟨AK, cK, rfl⟩ := Kd.R_slice ho
          obtain ⟨bK, hk, hor⟩ := HK3.out.grew ho hg hat
          have HK4 := Aside0.mk hk
          have HB4 := Aside0.mk hb
          have HV4 := Aside0.mk (HV3.out.grown (fun _ _ _ _ _ _ h => h) hg (nKV_3.symm))
          have nKV_4 := (ne_grew (nKV_3.symm) (HV3.out.2.2.1) hor).symm
          have HZ4 := Aside0.mk (HZ3.out.grown hg (nKZ_3.symm))
          have nKZ_4 := (ne_grew (nKZ_3.symm) (cb_lt HZ3.out.1) hor).symm
          have nVZ_4 := nVZ_3
          clear ho hb hg hat hk hor
          refine hK.out _ _ ⟨pw_cell_below HB4.out HX3.out, pw_cell_below HB4.out HX4.out⟩ (fun hHeld => ?_)
          clear hK K
          refine norm_ (a' := ?_) ?_ ?_
          rotate_left
          · show Act.put _ (some 13) _ = _
            simp only [Act.put, List.setIfInBounds_toArray, List.set_cons_zero, List.set_cons_succ, i64_w, i32_w]
            rfl
          refine one_ (i := 7) (N := some 17) #[true, true, true, true, true, true, true, true, false, true, false] rfl rfl (by kernel_rfl) (by decide) (fun K hK => ?_)
          refine Kd.R_append_rows_step (Kd.fixed kS Wf) (w0 := W0) W0.heap.size rfl (.tmp 14) (.tmp 16) 30 32 (.agg #[.int .i64 0, .int .i64 0, .string ⟨#[]⟩, .slice none 0 0, .slice none 0 0]) 80 rfl Tryd.underlying30 info32 rfl (show 0 < 5 by decide) (by decide) _ [] vs _ vs.length _ (fun _ => True) (fun _ => False) rfl rfl HV4.out.1 (ReadsRow.imp_ HVS.out HB4.out (fun _ _ hp => hp)) (fun _ _ h => h) (fun _ h => h.elim) (fun _ _ => trivial) HB4.out HB4.out.size (by simp only [List.length_nil]; omega) ?_
          intro vV q5 ho hb hg hat
          rw [List.nil_append] at ho
          obtain ⟨AV, cV, rfl⟩ := Kd.R_slice ho
          obtain ⟨bV, hk, hor⟩ := HV4.out.grew ho hg hat
          have HV5 := Aside0.mk hk
          have HB5 := Aside0.mk hb
          have HK5 := Aside0.mk (HK4.out.grown (fun _ _ _ _ _ _ h => h) hg (nKV_4))
          have nKV_5 := (ne_grew (nKV_4) (HK4.out.2.2.1) hor)
          have HZ5 := Aside0.mk (HZ4.out.grown hg (nVZ_4.symm))
          have nVZ_5 := (ne_grew (nVZ_4.symm) (cb_lt HZ4.out.1) hor).symm
          have nKZ_5 := nKZ_4
          clear ho hb hg hat hk hor
          refine hK.out _ _ ⟨pw_cell_below HB5.out HX3.out, pw_cell_below HB5.out HX4.out⟩ (fun hHeld => ?_)
          clear hK K
          refine norm_ (a' := ?_) ?_ ?_
          rotate_left
          · show Act.put _ (some 17) _ = _
            simp only [Act.put, List.setIfInBounds_toArray, List.set_cons_zero, List.set_cons_succ, i64_w, i32_w]
            rfl
          refine pure_ (i := 8) (N := some 18) (v := ?_) (a' := ?_) #[true, true, true, true, true, true, true, true, true, true, false] rfl rfl (by kernel_rfl) (fun _ _ _ h => h) (Or.inl ⟨by rfl, ?_⟩) ?_ ?_
          rotate_left
          · intro w'
            go_simp
            with_reducible rfl
          rotate_left
          · simp only [Act.put, List.setIfInBounds_toArray, List.set_cons_zero, List.set_cons_succ, i64_w, i32_w]
            rfl
          exact norm_ (by simp only [putAll, Act.put, List.setIfInBounds_toArray, List.set_cons_zero, List.set_cons_succ]) (hCont ⟨.slice (some ⟨q0.heap.size, 0, none⟩) 0 0, .slice AK ks.length cK, .slice (some ⟨q2.heap.size, 0, none⟩) 0 0, .slice AV vs.length cV, q1.heap.size⟩ _ ⟨⟨pw_cell_below HB5.out HX3.out, pw_cell_below HB5.out HX4.out⟩, HB5.out, HZ5.out, _, _, HK5.out, HV5.out, nKZ_5, nVZ_5, nKV_5⟩)
    · skip
      generalize W0.drew = q0 at HB0 hHeld ⊢
      refine value_ (w1 := ?_) (v := ?_) (by rfl) rfl ?_ ?_
      rotate_left 2
      · go_simp
        constructor
        · rfl
        · rfl
      have HB1 := Aside0.mk (below_alloc HB0.out (.cells #[] 32))
      have HV1 := Aside0.mk (Has.new (d := Kd.fixed kS Wf) (e := 32) HB0.out)
      generalize q0.alloc (.cells #[] 32) = q1 at HB1 HV1 ⊢
      refine hK.out _ _ ⟨pw_cell_below HB1.out HX3.out, pw_cell_below HB1.out HX4.out⟩ (fun hHeld => ?_)
      clear hK K
      refine norm_ (a' := ?_) ?_ ?_
      rotate_left
      · show Act.put _ (some 14) _ = _
        simp only [Act.put, List.setIfInBounds_toArray, List.set_cons_zero, List.set_cons_succ, i64_w, i32_w]
        rfl
      refine two_ (i := 0) (j := 9) (Ni := some 10) (Nj := some 7) #[true, true, true, false, true, true, true, false, false, false, false] #[false, true, true, false, true, true, true, false, false, true, false] rfl rfl rfl rfl (by kernel_rfl) (by decide) (by decide) (fun K hK => ?_) (fun K hK => ?_)
      · skip
        refine value_ (w1 := ?_) (v := ?_) (by rfl) rfl ?_ ?_
        rotate_left 2
        · go_simp
          constructor
          · rfl
          · rfl
        have HB2 := Aside0.mk (below_alloc HB1.out (.cells #[] 9))
        have HV2 := Aside0.mk (HV1.out.alloc (.cells #[] 9))
        have HK2 := Aside0.mk (Has.new (d := Kd.string) (e := 9) HB1.out)
        have nKV_2 := HV1.out.ne_new.symm
        generalize q1.alloc (.cells #[] 9) = q2 at HB2 HV2 HK2 ⊢
        refine hK.out _ _ ⟨pw_cell_below HB2.out HX3.out, pw_cell_below HB2.out HX4.out⟩ (fun hHeld => ?_)
        clear hK K
        refine norm_ (a' := ?_) ?_ ?_
        rotate_left
        · show Act.put _ (some 10) _ = _
          simp only [Act.put, List.setIfInBounds_toArray, List.set_cons_zero, List.set_cons_succ, i64_w, i32_w]
          rfl
        refine two_ (i := 3) (j := 9) (Ni := some 13) (Nj := some 7) #[true, true, true, true, true, true, true, false, false, false, false] #[true, true, true, false, true, true, true, false, false, true, false] rfl rfl rfl rfl (by kernel_rfl) (by decide) (by decide) (fun K hK => ?_) (fun K hK => ?_)
        · skip
          refine Kd.R_append_rows_step Kd.string (w0 := W0) W0.heap.size rfl (.tmp 10) (.tmp 12) 25 9 (.string ⟨#[]⟩) 16 rfl Tryd.underlying25 info_string rfl (show 0 < 1 by decide) (by decide) _ [] ks _ ks.length _ (fun _ => True) (fun _ => False) rfl rfl HK2.out.1 (show ReadsRow (fun (x : ByteArray) cs => cs = [Value.string x]) 1 _ _ _ _ from Kd.C_below HKS.out HB2.out) (fun _ _ h => h) (fun _ h => h.elim) (fun _ _ => trivial) HB2.out HB2.out.size (by simp only [List.length_nil]; omega) ?_
          intro vK q3 ho hb hg hat
          rw [List.nil_append] at ho
          obtain ⟨AK, cK, rfl⟩ := Kd.R_slice ho
          obtain ⟨bK, hk, hor⟩ := HK2.out.grew ho hg hat
          have HK3 := Aside0.mk hk
          have HB3 := Aside0.mk hb
          have HV3 := Aside0.mk (HV2.out.grown (fun _ _ _ _ _ _ h => h) hg (nKV_2.symm))
          have nKV_3 := (ne_grew (nKV_2.symm) (HV2.out.2.2.1) hor).symm
          clear ho hb hg hat hk hor
          refine hK.out _ _ ⟨pw_cell_below HB3.out HX3.out, pw_cell_below HB3.out HX4.out⟩ (fun hHeld => ?_)
          clear hK K
          refine norm_ (a' := ?_) ?_ ?_
          rotate_left
          · show Act.put _ (some 13) _ = _
            simp only [Act.put, List.setIfInBounds_toArray, List.set_cons_zero, List.set_cons_succ, i64_w, i32_w]
            rfl
          refine two_ (i := 7) (j := 9) (Ni := some 17) (Nj := some 7) #[true, true, true, true, true, true, true, true, false, false, false] #[true, true, true, true, true, true, true, false, false, true, false] rfl rfl rfl rfl (by kernel_rfl) (by decide) (by decide) (fun K hK => ?_) (fun K hK => ?_)
          · skip
            refine Kd.R_append_rows_step (Kd.fixed kS Wf) (w0 := W0) W0.heap.size rfl (.tmp 14) (.tmp 16) 30 32 (.agg #[.int .i64 0, .int .i64 0, .string ⟨#[]⟩, .slice none 0 0, .slice none 0 0]) 80 rfl Tryd.underlying30 info32 rfl (show 0 < 5 by decide) (by decide) _ [] vs _ vs.length _ (fun _ => True) (fun _ => False) rfl rfl HV3.out.1 (ReadsRow.imp_ HVS.out HB3.out (fun _ _ hp => hp)) (fun _ _ h => h) (fun _ h => h.elim) (fun _ _ => trivial) HB3.out HB3.out.size (by simp only [List.length_nil]; omega) ?_
            intro vV q4 ho hb hg hat
            rw [List.nil_append] at ho
            obtain ⟨AV, cV, rfl⟩ := Kd.R_slice ho
            obtain ⟨bV, hk, hor⟩ := HV3.out.grew ho hg hat
            have HV4 := Aside0.mk hk
            have HB4 := Aside0.mk hb
            have HK4 := Aside0.mk (HK3.out.grown (fun _ _ _ _ _ _ h => h) hg (nKV_3))
            have nKV_4 := (ne_grew (nKV_3) (HK3.out.2.2.1) hor)
            clear ho hb hg hat hk hor
            refine hK.out _ _ ⟨pw_cell_below HB4.out HX3.out, pw_cell_below HB4.out HX4.out⟩ (fun hHeld => ?_)
            clear hK K
            refine norm_ (a' := ?_) ?_ ?_
            rotate_left
            · show Act.put _ (some 17) _ = _
              simp only [Act.put, List.setIfInBounds_toArray, List.set_cons_zero, List.set_cons_succ, i64_w, i32_w]
              rfl
            refine pure_ (i := 8) (N := some 18) (v := ?_) (a' := ?_) #[true, true, true, true, true, true, true, true, true, false, false] rfl rfl (by kernel_rfl) (fun _ _ _ h => h) (Or.inl ⟨by rfl, ?_⟩) ?_ ?_
            rotate_left
            · intro w'
              go_simp
              with_reducible rfl
            rotate_left
            · simp only [Act.put, List.setIfInBounds_toArray, List.set_cons_zero, List.set_cons_succ, i64_w, i32_w]
              rfl
            refine one_ (i := 9) (N := some 7) #[true, true, true, true, true, true, true, true, true, true, false] rfl rfl (by kernel_rfl) (by decide) (fun K hK => ?_)
            refine value_ (w1 := ?_) (v := ?_) (by rfl) rfl ?_ ?_
            rotate_left 2
            · go_simp
              constructor
              · rfl
              · rfl
            have HB5 := Aside0.mk (below_alloc HB4.out (.cells #[.int .i64 0, .int .i64 0, .string ⟨#[]⟩, .slice none 0 0, .slice none 0 0] 32))
            have HK5 := Aside0.mk (HK4.out.alloc (.cells #[.int .i64 0, .int .i64 0, .string ⟨#[]⟩, .slice none 0 0, .slice none 0 0] 32))
            have HV5 := Aside0.mk (HV4.out.alloc (.cells #[.int .i64 0, .int .i64 0, .string ⟨#[]⟩, .slice none 0 0, .slice none 0 0] 32))
            have HZ5 := Aside0.mk (show HasZ W0 (q4.alloc (.cells #[.int .i64 0, .int .i64 0, .string ⟨#[]⟩, .slice none 0 0, .slice none 0 0] 32)) q4.heap.size from HasZ.new HB4.out)
            have nKZ_5 := HK4.out.ne_new
            have nVZ_5 := HV4.out.ne_new
            have nKV_5 := nKV_4
            generalize q4.alloc (.cells #[.int .i64 0, .int .i64 0, .string ⟨#[]⟩, .slice none 0 0, .slice none 0 0] 32) = q5 at HB5 HK5 HV5 HZ5 ⊢
            refine hK.out _ _ ⟨pw_cell_below HB5.out HX3.out, pw_cell_below HB5.out HX4.out⟩ (fun hHeld => ?_)
            clear hK K
            refine norm_ (a' := ?_) ?_ ?_
            rotate_left
            · show Act.put _ (some 7) _ = _
              simp only [Act.put, List.setIfInBounds_toArray, List.set_cons_zero, List.set_cons_succ, i64_w, i32_w]
              rfl
            exact norm_ (by simp only [putAll, Act.put, List.setIfInBounds_toArray, List.set_cons_zero, List.set_cons_succ]) (hCont ⟨.slice (some ⟨q1.heap.size, 0, none⟩) 0 0, .slice AK ks.length cK, .slice (some ⟨q0.heap.size, 0, none⟩) 0 0, .slice AV vs.length cV, q4.heap.size⟩ _ ⟨⟨pw_cell_below HB5.out HX3.out, pw_cell_below HB5.out HX4.out⟩, HB5.out, HZ5.out, _, _, HK5.out, HV5.out, nKZ_5, nVZ_5, nKV_5⟩)
          · skip
            refine value_ (w1 := ?_) (v := ?_) (by rfl) rfl ?_ ?_
            rotate_left 2
            · go_simp
              constructor
              · rfl
              · rfl
            have HB4 := Aside0.mk (below_alloc HB3.out (.cells #[.int .i64 0, .int .i64 0, .string ⟨#[]⟩, .slice none 0 0, .slice none 0 0] 32))
            have HK4 := Aside0.mk (HK3.out.alloc (.cells #[.int .i64 0, .int .i64 0, .string ⟨#[]⟩, .slice none 0 0, .slice none 0 0] 32))
            have HV4 := Aside0.mk (HV3.out.alloc (.cells #[.int .i64 0, .int .i64 0, .string ⟨#[]⟩, .slice none 0 0, .slice none 0 0] 32))
            have HZ4 := Aside0.mk (show HasZ W0 (q3.alloc (.cells #[.int .i64 0, .int .i64 0, .string ⟨#[]⟩, .slice none 0 0, .slice none 0 0] 32)) q3.heap.size from HasZ.new HB3.out)
            have nKZ_4 := HK3.out.ne_new
            have nVZ_4 := HV3.out.ne_new
            have nKV_4 := nKV_3
            generalize q3.alloc (.cells #[.int .i64 0, .int .i64 0, .string ⟨#[]⟩, .slice none 0 0, .slice none 0 0] 32) = q4 at HB4 HK4 HV4 HZ4 ⊢
            refine hK.out _ _ ⟨pw_cell_below HB4.out HX3.out, pw_cell_below HB4.out HX4.out⟩ (fun hHeld => ?_)
            clear hK K
            refine norm_ (a' := ?_) ?_ ?_
            rotate_left
            · show Act.put _ (some 7) _ = _
              simp only [Act.put, List.setIfInBounds_toArray, List.set_cons_zero, List.set_cons_succ, i64_w, i32_w]
              rfl
            refine one_ (i := 7) (N := some 17) #[true, true, true, true, true, true, true, true, false, true, false] rfl rfl (by kernel_rfl) (by decide) (fun K hK => ?_)
            refine Kd.R_append_rows_step (Kd.fixed kS Wf) (w0 := W0) W0.heap.size rfl (.tmp 14) (.tmp 16) 30 32 (.agg #[.int .i64 0, .int .i64 0, .string ⟨#[]⟩, .slice none 0 0, .slice none 0 0]) 80 rfl Tryd.underlying30 info32 rfl (show 0 < 5 by decide) (by decide) _ [] vs _ vs.length _ (fun _ => True) (fun _ => False) rfl rfl HV4.out.1 (ReadsRow.imp_ HVS.out HB4.out (fun _ _ hp => hp)) (fun _ _ h => h) (fun _ h => h.elim) (fun _ _ => trivial) HB4.out HB4.out.size (by simp only [List.length_nil]; omega) ?_
            intro vV q5 ho hb hg hat
            rw [List.nil_append] at ho
            obtain ⟨AV, cV, rfl⟩ := Kd.R_slice ho
            obtain ⟨bV, hk, hor⟩ := HV4.out.grew ho hg hat
            have HV5 := Aside0.mk hk
            have HB5 := Aside0.mk hb
            have HK5 := Aside0.mk (HK4.out.grown (fun _ _ _ _ _ _ h => h) hg (nKV_4))
            have nKV_5 := (ne_grew (nKV_4) (HK4.out.2.2.1) hor)
            have HZ5 := Aside0.mk (HZ4.out.grown hg (nVZ_4.symm))
            have nVZ_5 := (ne_grew (nVZ_4.symm) (cb_lt HZ4.out.1) hor).symm
            have nKZ_5 := nKZ_4
            clear ho hb hg hat hk hor
            refine hK.out _ _ ⟨pw_cell_below HB5.out HX3.out, pw_cell_below HB5.out HX4.out⟩ (fun hHeld => ?_)
            clear hK K
            refine norm_ (a' := ?_) ?_ ?_
            rotate_left
            · show Act.put _ (some 17) _ = _
              simp only [Act.put, List.setIfInBounds_toArray, List.set_cons_zero, List.set_cons_succ, i64_w, i32_w]
              rfl
            refine pure_ (i := 8) (N := some 18) (v := ?_) (a' := ?_) #[true, true, true, true, true, true, true, true, true, true, false] rfl rfl (by kernel_rfl) (fun _ _ _ h => h) (Or.inl ⟨by rfl, ?_⟩) ?_ ?_
            rotate_left
            · intro w'
              go_simp
              with_reducible rfl
            rotate_left
            · simp only [Act.put, List.setIfInBounds_toArray, List.set_cons_zero, List.set_cons_succ, i64_w, i32_w]
              rfl
            exact norm_ (by simp only [putAll, Act.put, List.setIfInBounds_toArray, List.set_cons_zero, List.set_cons_succ]) (hCont ⟨.slice (some ⟨q1.heap.size, 0, none⟩) 0 0, .slice AK ks.length cK, .slice (some ⟨q0.heap.size, 0, none⟩) 0 0, .slice AV vs.length cV, q3.heap.size⟩ _ ⟨⟨pw_cell_below HB5.out HX3.out, pw_cell_below HB5.out HX4.out⟩, HB5.out, HZ5.out, _, _, HK5.out, HV5.out, nKZ_5, nVZ_5, nKV_5⟩)
        · skip
          refine value_ (w1 := ?_) (v := ?_) (by rfl) rfl ?_ ?_
          rotate_left 2
          · go_simp
            constructor
            · rfl
            · rfl
          have HB3 := Aside0.mk (below_alloc HB2.out (.cells #[.int .i64 0, .int .i64 0, .string ⟨#[]⟩, .slice none 0 0, .slice none 0 0] 32))
          have HK3 := Aside0.mk (HK2.out.alloc (.cells #[.int .i64 0, .int .i64 0, .string ⟨#[]⟩, .slice none 0 0, .slice none 0 0] 32))
          have HV3 := Aside0.mk (HV2.out.alloc (.cells #[.int .i64 0, .int .i64 0, .string ⟨#[]⟩, .slice none 0 0, .slice none 0 0] 32))
          have HZ3 := Aside0.mk (show HasZ W0 (q2.alloc (.cells #[.int .i64 0, .int .i64 0, .string ⟨#[]⟩, .slice none 0 0, .slice none 0 0] 32)) q2.heap.size from HasZ.new HB2.out)
          have nKZ_3 := HK2.out.ne_new
          have nVZ_3 := HV2.out.ne_new
          have nKV_3 := nKV_2
          generalize q2.alloc (.cells #[.int .i64 0, .int .i64 0, .string ⟨#[]⟩, .slice none 0 0, .slice none 0 0] 32) = q3 at HB3 HK3 HV3 HZ3 ⊢
          refine hK.out _ _ ⟨pw_cell_below HB3.out HX3.out, pw_cell_below HB3.out HX4.out⟩ (fun hHeld => ?_)
          clear hK K
          refine norm_ (a' := ?_) ?_ ?_
          rotate_left
          · show Act.put _ (some 7) _ = _
            simp only [Act.put, List.setIfInBounds_toArray, List.set_cons_zero, List.set_cons_succ, i64_w, i32_w]
            rfl
          refine one_ (i := 3) (N := some 13) #[true, true, true, true, true, true, true, false, false, true, false] rfl rfl (by kernel_rfl) (by decide) (fun K hK => ?_)
          refine Kd.R_append_rows_step Kd.string (w0 := W0) W0.heap.size rfl (.tmp 10) (.tmp 12) 25 9 (.string ⟨#[]⟩) 16 rfl Tryd.underlying25 info_string rfl (show 0 < 1 by decide) (by decide) _ [] ks _ ks.length _ (fun _ => True) (fun _ => False) rfl rfl HK3.out.1 (show ReadsRow (fun (x : ByteArray) cs => cs = [Value.string x]) 1 _ _ _ _ from Kd.C_below HKS.out HB3.out) (fun _ _ h => h) (fun _ h => h.elim) (fun _ _ => trivial) HB3.out HB3.out.size (by simp only [List.length_nil]; omega) ?_
          intro vK q4 ho hb hg hat
          rw [List.nil_append] at ho
          obtain ⟨AK, cK, rfl⟩ := Kd.R_slice ho
          obtain ⟨bK, hk, hor⟩ := HK3.out.grew ho hg hat
          have HK4 := Aside0.mk hk
          have HB4 := Aside0.mk hb
          have HV4 := Aside0.mk (HV3.out.grown (fun _ _ _ _ _ _ h => h) hg (nKV_3.symm))
          have nKV_4 := (ne_grew (nKV_3.symm) (HV3.out.2.2.1) hor).symm
          have HZ4 := Aside0.mk (HZ3.out.grown hg (nKZ_3.symm))
          have nKZ_4 := (ne_grew (nKZ_3.symm) (cb_lt HZ3.out.1) hor).symm
          have nVZ_4 := nVZ_3
          clear ho hb hg hat hk hor
          refine hK.out _ _ ⟨pw_cell_below HB4.out HX3.out, pw_cell_below HB4.out HX4.out⟩ (fun hHeld => ?_)
          clear hK K
          refine norm_ (a' := ?_) ?_ ?_
          rotate_left
          · show Act.put _ (some 13) _ = _
            simp only [Act.put, List.setIfInBounds_toArray, List.set_cons_zero, List.set_cons_succ, i64_w, i32_w]
            rfl
          refine one_ (i := 7) (N := some 17) #[true, true, true, true, true, true, true, true, false, true, false] rfl rfl (by kernel_rfl) (by decide) (fun K hK => ?_)
          refine Kd.R_append_rows_step (Kd.fixed kS Wf) (w0 := W0) W0.heap.size rfl (.tmp 14) (.tmp 16) 30 32 (.agg #[.int .i64 0, .int .i64 0, .string ⟨#[]⟩, .slice none 0 0, .slice none 0 0]) 80 rfl Tryd.underlying30 info32 rfl (show 0 < 5 by decide) (by decide) _ [] vs _ vs.length _ (fun _ => True) (fun _ => False) rfl rfl HV4.out.1 (ReadsRow.imp_ HVS.out HB4.out (fun _ _ hp => hp)) (fun _ _ h => h) (fun _ h => h.elim) (fun _ _ => trivial) HB4.out HB4.out.size (by simp only [List.length_nil]; omega) ?_
          intro vV q5 ho hb hg hat
          rw [List.nil_append] at ho
          obtain ⟨AV, cV, rfl⟩ := Kd.R_slice ho
          obtain ⟨bV, hk, hor⟩ := HV4.out.grew ho hg hat
          have HV5 := Aside0.mk hk
          have HB5 := Aside0.mk hb
          have HK5 := Aside0.mk (HK4.out.grown (fun _ _ _ _ _ _ h => h) hg (nKV_4))
          have nKV_5 := (ne_grew (nKV_4) (HK4.out.2.2.1) hor)
          have HZ5 := Aside0.mk (HZ4.out.grown hg (nVZ_4.symm))
          have nVZ_5 := (ne_grew (nVZ_4.symm) (cb_lt HZ4.out.1) hor).symm
          have nKZ_5 := nKZ_4
          clear ho hb hg hat hk hor
          refine hK.out _ _ ⟨pw_cell_below HB5.out HX3.out, pw_cell_below HB5.out HX4.out⟩ (fun hHeld => ?_)
          clear hK K
          refine norm_ (a' := ?_) ?_ ?_
          rotate_left
          · show Act.put _ (some 17) _ = _
            simp only [Act.put, List.setIfInBounds_toArray, List.set_cons_zero, List.set_cons_succ, i64_w, i32_w]
            rfl
          refine pure_ (i := 8) (N := some 18) (v := ?_) (a' := ?_) #[true, true, true, true, true, true, true, true, true, true, false] rfl rfl (by kernel_rfl) (fun _ _ _ h => h) (Or.inl ⟨by rfl, ?_⟩) ?_ ?_
          rotate_left
          · intro w'
            go_simp
            with_reducible rfl
          rotate_left
          · simp only [Act.put, List.setIfInBounds_toArray, List.set_cons_zero, List.set_cons_succ, i64_w, i32_w]
            rfl
          exact norm_ (by simp only [putAll, Act.put, List.setIfInBounds_toArray, List.set_cons_zero, List.set_cons_succ]) (hCont ⟨.slice (some ⟨q1.heap.size, 0, none⟩) 0 0, .slice AK ks.length cK, .slice (some ⟨q0.heap.size, 0, none⟩) 0 0, .slice AV vs.length cV, q2.heap.size⟩ _ ⟨⟨pw_cell_below HB5.out HX3.out, pw_cell_below HB5.out HX4.out⟩, HB5.out, HZ5.out, _, _, HK5.out, HV5.out, nKZ_5, nVZ_5, nKV_5⟩)
      · skip
        refine value_ (w1 := ?_) (v := ?_) (by rfl) rfl ?_ ?_
        rotate_left 2
        · go_simp
          constructor
          · rfl
          · rfl
        have HB2 := Aside0.mk (below_alloc HB1.out (.cells #[.int .i64 0, .int .i64 0, .string ⟨#[]⟩, .slice none 0 0, .slice none 0 0] 32))
        have HV2 := Aside0.mk (HV1.out.alloc (.cells #[.int .i64 0, .int .i64 0, .string ⟨#[]⟩, .slice none 0 0, .slice none 0 0] 32))
        have HZ2 := Aside0.mk (show HasZ W0 (q1.alloc (.cells #[.int .i64 0, .int .i64 0, .string ⟨#[]⟩, .slice none 0 0, .slice none 0 0] 32)) q1.heap.size from HasZ.new HB1.out)
        have nVZ_2 := HV1.out.ne_new
        generalize q1.alloc (.cells #[.int .i64 0, .int .i64 0, .string ⟨#[]⟩, .slice none 0 0, .slice none 0 0] 32) = q2 at HB2 HV2 HZ2 ⊢
        refine hK.out _ _ ⟨pw_cell_below HB2.out HX3.out, pw_cell_below HB2.out HX4.out⟩ (fun hHeld => ?_)
        clear hK K
        refine norm_ (a' := ?_) ?_ ?_
        rotate_left
        · show Act.put _ (some 7) _ = _
          simp only [Act.put, List.setIfInBounds_toArray, List.set_cons_zero, List.set_cons_succ, i64_w, i32_w]
          rfl
        refine one_ (i := 0) (N := some 10) #[true, true, true, false, true, true, true, false, false, true, false] rfl rfl (by kernel_rfl) (by decide) (fun K hK => ?_)
        refine value_ (w1 := ?_) (v := ?_) (by rfl) rfl ?_ ?_
        rotate_left 2
        · go_simp
          constructor
          · rfl
          · rfl
        have HB3 := Aside0.mk (below_alloc HB2.out (.cells #[] 9))
        have HV3 := Aside0.mk (HV2.out.alloc (.cells #[] 9))
        have HZ3 := Aside0.mk (HZ2.out.alloc (.cells #[] 9))
        have HK3 := Aside0.mk (Has.new (d := Kd.string) (e := 9) HB2.out)
        have nKV_3 := HV2.out.ne_new.symm
        have nKZ_3 := HZ2.out.ne_new.symm
        have nVZ_3 := nVZ_2
        generalize q2.alloc (.cells #[] 9) = q3 at HB3 HV3 HZ3 HK3 ⊢
        refine hK.out _ _ ⟨pw_cell_below HB3.out HX3.out, pw_cell_below HB3.out HX4.out⟩ (fun hHeld => ?_)
        clear hK K
        refine norm_ (a' := ?_) ?_ ?_
        rotate_left
        · show Act.put _ (some 10) _ = _
          simp only [Act.put, List.setIfInBounds_toArray, List.set_cons_zero, List.set_cons_succ, i64_w, i32_w]
          rfl
        refine one_ (i := 3) (N := some 13) #[true, true, true, true, true, true, true, false, false, true, false] rfl rfl (by kernel_rfl) (by decide) (fun K hK => ?_)
        refine Kd.R_append_rows_step Kd.string (w0 := W0) W0.heap.size rfl (.tmp 10) (.tmp 12) 25 9 (.string ⟨#[]⟩) 16 rfl Tryd.underlying25 info_string rfl (show 0 < 1 by decide) (by decide) _ [] ks _ ks.length _ (fun _ => True) (fun _ => False) rfl rfl HK3.out.1 (show ReadsRow (fun (x : ByteArray) cs => cs = [Value.string x]) 1 _ _ _ _ from Kd.C_below HKS.out HB3.out) (fun _ _ h => h) (fun _ h => h.elim) (fun _ _ => trivial) HB3.out HB3.out.size (by simp only [List.length_nil]; omega) ?_
        intro vK q4 ho hb hg hat
        rw [List.nil_append] at ho
        obtain ⟨AK, cK, rfl⟩ := Kd.R_slice ho
        obtain ⟨bK, hk, hor⟩ := HK3.out.grew ho hg hat
        have HK4 := Aside0.mk hk
        have HB4 := Aside0.mk hb
        have HV4 := Aside0.mk (HV3.out.grown (fun _ _ _ _ _ _ h => h) hg (nKV_3.symm))
        have nKV_4 := (ne_grew (nKV_3.symm) (HV3.out.2.2.1) hor).symm
        have HZ4 := Aside0.mk (HZ3.out.grown hg (nKZ_3.symm))
        have nKZ_4 := (ne_grew (nKZ_3.symm) (cb_lt HZ3.out.1) hor).symm
        have nVZ_4 := nVZ_3
        clear ho hb hg hat hk hor
        refine hK.out _ _ ⟨pw_cell_below HB4.out HX3.out, pw_cell_below HB4.out HX4.out⟩ (fun hHeld => ?_)
        clear hK K
        refine norm_ (a' := ?_) ?_ ?_
        rotate_left
        · show Act.put _ (some 13) _ = _
          simp only [Act.put, List.setIfInBounds_toArray, List.set_cons_zero, List.set_cons_succ, i64_w, i32_w]
          rfl
        refine one_ (i := 7) (N := some 17) #[true, true, true, true, true, true, true, true, false, true, false] rfl rfl (by kernel_rfl) (by decide) (fun K hK => ?_)
        refine Kd.R_append_rows_step (Kd.fixed kS Wf) (w0 := W0) W0.heap.size rfl (.tmp 14) (.tmp 16) 30 32 (.agg #[.int .i64 0, .int .i64 0, .string ⟨#[]⟩, .slice none 0 0, .slice none 0 0]) 80 rfl Tryd.underlying30 info32 rfl (show 0 < 5 by decide) (by decide) _ [] vs _ vs.length _ (fun _ => True) (fun _ => False) rfl rfl HV4.out.1 (ReadsRow.imp_ HVS.out HB4.out (fun _ _ hp => hp)) (fun _ _ h => h) (fun _ h => h.elim) (fun _ _ => trivial) HB4.out HB4.out.size (by simp only [List.length_nil]; omega) ?_
        intro vV q5 ho hb hg hat
        rw [List.nil_append] at ho
        obtain ⟨AV, cV, rfl⟩ := Kd.R_slice ho
        obtain ⟨bV, hk, hor⟩ := HV4.out.grew ho hg hat
        have HV5 := Aside0.mk hk
        have HB5 := Aside0.mk hb
        have HK5 := Aside0.mk (HK4.out.grown (fun _ _ _ _ _ _ h => h) hg (nKV_4))
        have nKV_5 := (ne_grew (nKV_4) (HK4.out.2.2.1) hor)
        have HZ5 := Aside0.mk (HZ4.out.grown hg (nVZ_4.symm))
        have nVZ_5 := (ne_grew (nVZ_4.symm) (cb_lt HZ4.out.1) hor).symm
        have nKZ_5 := nKZ_4
        clear ho hb hg hat hk hor
        refine hK.out _ _ ⟨pw_cell_below HB5.out HX3.out, pw_cell_below HB5.out HX4.out⟩ (fun hHeld => ?_)
        clear hK K
        refine norm_ (a' := ?_) ?_ ?_
        rotate_left
        · show Act.put _ (some 17) _ = _
          simp only [Act.put, List.setIfInBounds_toArray, List.set_cons_zero, List.set_cons_succ, i64_w, i32_w]
          rfl
        refine pure_ (i := 8) (N := some 18) (v := ?_) (a' := ?_) #[true, true, true, true, true, true, true, true, true, true, false] rfl rfl (by kernel_rfl) (fun _ _ _ h => h) (Or.inl ⟨by rfl, ?_⟩) ?_ ?_
        rotate_left
        · intro w'
          go_simp
          with_reducible rfl
        rotate_left
        · simp only [Act.put, List.setIfInBounds_toArray, List.set_cons_zero, List.set_cons_succ, i64_w, i32_w]
          rfl
        exact norm_ (by simp only [putAll, Act.put, List.setIfInBounds_toArray, List.set_cons_zero, List.set_cons_succ]) (hCont ⟨.slice (some ⟨q2.heap.size, 0, none⟩) 0 0, .slice AK ks.length cK, .slice (some ⟨q0.heap.size, 0, none⟩) 0 0, .slice AV vs.length cV, q1.heap.size⟩ _ ⟨⟨pw_cell_below HB5.out HX3.out, pw_cell_below HB5.out HX4.out⟩, HB5.out, HZ5.out, _, _, HK5.out, HV5.out, nKZ_5, nVZ_5, nKV_5⟩)
    · skip
      generalize W0.drew = q0 at HB0 hHeld ⊢
      refine value_ (w1 := ?_) (v := ?_) (by rfl) rfl ?_ ?_
      rotate_left 2
      · go_simp
        constructor
        · rfl
        · rfl
      have HB1 := Aside0.mk (below_alloc HB0.out (.cells #[.int .i64 0, .int .i64 0, .string ⟨#[]⟩, .slice none 0 0, .slice none 0 0] 32))
      have HZ1 := Aside0.mk (show HasZ W0 (q0.alloc (.cells #[.int .i64 0, .int .i64 0, .string ⟨#[]⟩, .slice none 0 0, .slice none 0 0] 32)) q0.heap.size from HasZ.new HB0.out)
      generalize q0.alloc (.cells #[.int .i64 0, .int .i64 0, .string ⟨#[]⟩, .slice none 0 0, .slice none 0 0] 32) = q1 at HB1 HZ1 ⊢
      refine hK.out _ _ ⟨pw_cell_below HB1.out HX3.out, pw_cell_below HB1.out HX4.out⟩ (fun hHeld => ?_)
      clear hK K
      refine norm_ (a' := ?_) ?_ ?_
      rotate_left
      · show Act.put _ (some 7) _ = _
        simp only [Act.put, List.setIfInBounds_toArray, List.set_cons_zero, List.set_cons_succ, i64_w, i32_w]
        rfl
      refine two_ (i := 0) (j := 4) (Ni := some 10) (Nj := some 14) #[true, true, true, false, false, true, true, false, false, true, false] #[false, true, true, false, true, true, true, false, false, true, false] rfl rfl rfl rfl (by kernel_rfl) (by decide) (by decide) (fun K hK => ?_) (fun K hK => ?_)
      · skip
        refine value_ (w1 := ?_) (v := ?_) (by rfl) rfl ?_ ?_
        rotate_left 2
        · go_simp
          constructor
          · rfl
          · rfl
        have HB2 := Aside0.mk (below_alloc HB1.out (.cells #[] 9))
        have HZ2 := Aside0.mk (HZ1.out.alloc (.cells #[] 9))
        have HK2 := Aside0.mk (Has.new (d := Kd.string) (e := 9) HB1.out)
        have nKZ_2 := HZ1.out.ne_new.symm
        generalize q1.alloc (.cells #[] 9) = q2 at HB2 HZ2 HK2 ⊢
        refine hK.out _ _ ⟨pw_cell_below HB2.out HX3.out, pw_cell_below HB2.out HX4.out⟩ (fun hHeld => ?_)
        clear hK K
        refine norm_ (a' := ?_) ?_ ?_
        rotate_left
        · show Act.put _ (some 10) _ = _
          simp only [Act.put, List.setIfInBounds_toArray, List.set_cons_zero, List.set_cons_succ, i64_w, i32_w]
          rfl
        refine two_ (i := 3) (j := 4) (Ni := some 13) (Nj := some 14) #[true, true, true, true, false, true, true, false, false, true, false] #[true, true, true, false, true, true, true, false, false, true, false] rfl rfl rfl rfl (by kernel_rfl) (by decide) (by decide) (fun K hK => ?_) (fun K hK => ?_)
        · skip
          refine Kd.R_append_rows_step Kd.string (w0 := W0) W0.heap.size rfl (.tmp 10) (.tmp 12) 25 9 (.string ⟨#[]⟩) 16 rfl Tryd.underlying25 info_string rfl (show 0 < 1 by decide) (by decide) _ [] ks _ ks.length _ (fun _ => True) (fun _ => False) rfl rfl HK2.out.1 (show ReadsRow (fun (x : ByteArray) cs => cs = [Value.string x]) 1 _ _ _ _ from Kd.C_below HKS.out HB2.out) (fun _ _ h => h) (fun _ h => h.elim) (fun _ _ => trivial) HB2.out HB2.out.size (by simp only [List.length_nil]; omega) ?_
          intro vK q3 ho hb hg hat
          rw [List.nil_append] at ho
          obtain ⟨AK, cK, rfl⟩ := Kd.R_slice ho
          obtain ⟨bK, hk, hor⟩ := HK2.out.grew ho hg hat
          have HK3 := Aside0.mk hk
          have HB3 := Aside0.mk hb
          have HZ3 := Aside0.mk (HZ2.out.grown hg (nKZ_2.symm))
          have nKZ_3 := (ne_grew (nKZ_2.symm) (cb_lt HZ2.out.1) hor).symm
          clear ho hb hg hat hk hor
          refine hK.out _ _ ⟨pw_cell_below HB3.out HX3.out, pw_cell_below HB3.out HX4.out⟩ (fun hHeld => ?_)
          clear hK K
          refine norm_ (a' := ?_) ?_ ?_
          rotate_left
          · show Act.put _ (some 13) _ = _
            simp only [Act.put, List.setIfInBounds_toArray, List.set_cons_zero, List.set_cons_succ, i64_w, i32_w]
            rfl
          refine one_ (i := 4) (N := some 14) #[true, true, true, true, true, true, true, false, false, true, false] rfl rfl (by kernel_rfl) (by decide) (fun K hK => ?_)
          refine value_ (w1 := ?_) (v := ?_) (by rfl) rfl ?_ ?_
          rotate_left 2
          · go_simp
            constructor
            · rfl
            · rfl
          have HB4 := Aside0.mk (below_alloc HB3.out (.cells #[] 32))
          have HK4 := Aside0.mk (HK3.out.alloc (.cells #[] 32))
          have HZ4 := Aside0.mk (HZ3.out.alloc (.cells #[] 32))
          have HV4 := Aside0.mk (Has.new (d := Kd.fixed kS Wf) (e := 32) HB3.out)
          have nKV_4 := HK3.out.ne_new
          have nVZ_4 := HZ3.out.ne_new.symm
          have nKZ_4 := nKZ_3
          generalize q3.alloc (.cells #[] 32) = q4 at HB4 HK4 HZ4 HV4 ⊢
          refine hK.out _ _ ⟨pw_cell_below HB4.out HX3.out, pw_cell_below HB4.out HX4.out⟩ (fun hHeld => ?_)
          clear hK K
          refine norm_ (a' := ?_) ?_ ?_
          rotate_left
          · show Act.put _ (some 14) _ = _
            simp only [Act.put, List.setIfInBounds_toArray, List.set_cons_zero, List.set_cons_succ, i64_w, i32_w]
            rfl
          refine one_ (i := 7) (N := some 17) #[true, true, true, true, true, true, true, true, false, true, false] rfl rfl (by kernel_rfl) (by decide) (fun K hK => ?_)
          refine Kd.R_append_rows_step (Kd.fixed kS Wf) (w0 := W0) W0.heap.size rfl (.tmp 14) (.tmp 16) 30 32 (.agg #[.int .i64 0, .int .i64 0, .string ⟨#[]⟩, .slice none 0 0, .slice none 0 0]) 80 rfl Tryd.underlying30 info32 rfl (show 0 < 5 by decide) (by decide) _ [] vs _ vs.length _ (fun _ => True) (fun _ => False) rfl rfl HV4.out.1 (ReadsRow.imp_ HVS.out HB4.out (fun _ _ hp => hp)) (fun _ _ h => h) (fun _ h => h.elim) (fun _ _ => trivial) HB4.out HB4.out.size (by simp only [List.length_nil]; omega) ?_
          intro vV q5 ho hb hg hat
          rw [List.nil_append] at ho
          obtain ⟨AV, cV, rfl⟩ := Kd.R_slice ho
          obtain ⟨bV, hk, hor⟩ := HV4.out.grew ho hg hat
          have HV5 := Aside0.mk hk
          have HB5 := Aside0.mk hb
          have HK5 := Aside0.mk (HK4.out.grown (fun _ _ _ _ _ _ h => h) hg (nKV_4))
          have nKV_5 := (ne_grew (nKV_4) (HK4.out.2.2.1) hor)
          have HZ5 := Aside0.mk (HZ4.out.grown hg (nVZ_4.symm))
          have nVZ_5 := (ne_grew (nVZ_4.symm) (cb_lt HZ4.out.1) hor).symm
          have nKZ_5 := nKZ_4
          clear ho hb hg hat hk hor
          refine hK.out _ _ ⟨pw_cell_below HB5.out HX3.out, pw_cell_below HB5.out HX4.out⟩ (fun hHeld => ?_)
          clear hK K
          refine norm_ (a' := ?_) ?_ ?_
          rotate_left
          · show Act.put _ (some 17) _ = _
            simp only [Act.put, List.setIfInBounds_toArray, List.set_cons_zero, List.set_cons_succ, i64_w, i32_w]
            rfl
          refine pure_ (i := 8) (N := some 18) (v := ?_) (a' := ?_) #[true, true, true, true, true, true, true, true, true, true, false] rfl rfl (by kernel_rfl) (fun _ _ _ h => h) (Or.inl ⟨by rfl, ?_⟩) ?_ ?_
          rotate_left
          · intro w'
            go_simp
            with_reducible rfl
          rotate_left
          · simp only [Act.put, List.setIfInBounds_toArray, List.set_cons_zero, List.set_cons_succ, i64_w, i32_w]
            rfl
          exact norm_ (by simp only [putAll, Act.put, List.setIfInBounds_toArray, List.set_cons_zero, List.set_cons_succ]) (hCont ⟨.slice (some ⟨q1.heap.size, 0, none⟩) 0 0, .slice AK ks.length cK, .slice (some ⟨q3.heap.size, 0, none⟩) 0 0, .slice AV vs.length cV, q0.heap.size⟩ _ ⟨⟨pw_cell_below HB5.out HX3.out, pw_cell_below HB5.out HX4.out⟩, HB5.out, HZ5.out, _, _, HK5.out, HV5.out, nKZ_5, nVZ_5, nKV_5⟩)
        · skip
          refine value_ (w1 := ?_) (v := ?_) (by rfl) rfl ?_ ?_
          rotate_left 2
          · go_simp
            constructor
            · rfl
            · rfl
          have HB3 := Aside0.mk (below_alloc HB2.out (.cells #[] 32))
          have HK3 := Aside0.mk (HK2.out.alloc (.cells #[] 32))
          have HZ3 := Aside0.mk (HZ2.out.alloc (.cells #[] 32))
          have HV3 := Aside0.mk (Has.new (d := Kd.fixed kS Wf) (e := 32) HB2.out)
          have nKV_3 := HK2.out.ne_new
          have nVZ_3 := HZ2.out.ne_new.symm
          have nKZ_3 := nKZ_2
          generalize q2.alloc (.cells #[] 32) = q3 at HB3 HK3 HZ3 HV3 ⊢
          refine hK.out _ _ ⟨pw_cell_below HB3.out HX3.out, pw_cell_below HB3.out HX4.out⟩ (fun hHeld => ?_)
          clear hK K
          refine norm_ (a' := ?_) ?_ ?_
          rotate_left
          · show Act.put _ (some 14) _ = _
            simp only [Act.put, List.setIfInBounds_toArray, List.set_cons_zero, List.set_cons_succ, i64_w, i32_w]
            rfl
          refine one_ (i := 3) (N := some 13) #[true, true, true, true, true, true, true, false, false, true, false] rfl rfl (by kernel_rfl) (by decide) (fun K hK => ?_)
          refine Kd.R_append_rows_step Kd.string (w0 := W0) W0.heap.size rfl (.tmp 10) (.tmp 12) 25 9 (.string ⟨#[]⟩) 16 rfl Tryd.underlying25 info_string rfl (show 0 < 1 by decide) (by decide) _ [] ks _ ks.length _ (fun _ => True) (fun _ => False) rfl rfl HK3.out.1 (show ReadsRow (fun (x : ByteArray) cs => cs = [Value.string x]) 1 _ _ _ _ from Kd.C_below HKS.out HB3.out) (fun _ _ h => h) (fun _ h => h.elim) (fun _ _ => trivial) HB3.out HB3.out.size (by simp only [List.length_nil]; omega) ?_
          intro vK q4 ho hb hg hat
          rw [List.nil_append] at ho
          obtain ⟨AK, cK, rfl⟩ := Kd.R_slice ho
          obtain ⟨bK, hk, hor⟩ := HK3.out.grew ho hg hat
          have HK4 := Aside0.mk hk
          have HB4 := Aside0.mk hb
          have HV4 := Aside0.mk (HV3.out.grown (fun _ _ _ _ _ _ h => h) hg (nKV_3.symm))
          have nKV_4 := (ne_grew (nKV_3.symm) (HV3.out.2.2.1) hor).symm
          have HZ4 := Aside0.mk (HZ3.out.grown hg (nKZ_3.symm))
          have nKZ_4 := (ne_grew (nKZ_3.symm) (cb_lt HZ3.out.1) hor).symm
          have nVZ_4 := nVZ_3
          clear ho hb hg hat hk hor
          refine hK.out _ _ ⟨pw_cell_below HB4.out HX3.out, pw_cell_below HB4.out HX4.out⟩ (fun hHeld => ?_)
          clear hK K
          refine norm_ (a' := ?_) ?_ ?_
          rotate_left
          · show Act.put _ (some 13) _ = _
            simp only [Act.put, List.setIfInBounds_toArray, List.set_cons_zero, List.set_cons_succ, i64_w, i32_w]
            rfl
          refine one_ (i := 7) (N := some 17) #[true, true, true, true, true, true, true, true, false, true, false] rfl rfl (by kernel_rfl) (by decide) (fun K hK => ?_)
          refine Kd.R_append_rows_step (Kd.fixed kS Wf) (w0 := W0) W0.heap.size rfl (.tmp 14) (.tmp 16) 30 32 (.agg #[.int .i64 0, .int .i64 0, .string ⟨#[]⟩, .slice none 0 0, .slice none 0 0]) 80 rfl Tryd.underlying30 info32 rfl (show 0 < 5 by decide) (by decide) _ [] vs _ vs.length _ (fun _ => True) (fun _ => False) rfl rfl HV4.out.1 (ReadsRow.imp_ HVS.out HB4.out (fun _ _ hp => hp)) (fun _ _ h => h) (fun _ h => h.elim) (fun _ _ => trivial) HB4.out HB4.out.size (by simp only [List.length_nil]; omega) ?_
          intro vV q5 ho hb hg hat
          rw [List.nil_append] at ho
          obtain ⟨AV, cV, rfl⟩ := Kd.R_slice ho
          obtain ⟨bV, hk, hor⟩ := HV4.out.grew ho hg hat
          have HV5 := Aside0.mk hk
          have HB5 := Aside0.mk hb
          have HK5 := Aside0.mk (HK4.out.grown (fun _ _ _ _ _ _ h => h) hg (nKV_4))
          have nKV_5 := (ne_grew (nKV_4) (HK4.out.2.2.1) hor)
          have HZ5 := Aside0.mk (HZ4.out.grown hg (nVZ_4.symm))
          have nVZ_5 := (ne_grew (nVZ_4.symm) (cb_lt HZ4.out.1) hor).symm
          have nKZ_5 := nKZ_4
          clear ho hb hg hat hk hor
          refine hK.out _ _ ⟨pw_cell_below HB5.out HX3.out, pw_cell_below HB5.out HX4.out⟩ (fun hHeld => ?_)
          clear hK K
          refine norm_ (a' := ?_) ?_ ?_
          rotate_left
          · show Act.put _ (some 17) _ = _
            simp only [Act.put, List.setIfInBounds_toArray, List.set_cons_zero, List.set_cons_succ, i64_w, i32_w]
            rfl
          refine pure_ (i := 8) (N := some 18) (v := ?_) (a' := ?_) #[true, true, true, true, true, true, true, true, true, true, false] rfl rfl (by kernel_rfl) (fun _ _ _ h => h) (Or.inl ⟨by rfl, ?_⟩) ?_ ?_
          rotate_left
          · intro w'
            go_simp
            with_reducible rfl
          rotate_left
          · simp only [Act.put, List.setIfInBounds_toArray, List.set_cons_zero, List.set_cons_succ, i64_w, i32_w]
            rfl
          exact norm_ (by simp only [putAll, Act.put, List.setIfInBounds_toArray, List.set_cons_zero, List.set_cons_succ]) (hCont ⟨.slice (some ⟨q1.heap.size, 0, none⟩) 0 0, .slice AK ks.length cK, .slice (some ⟨q2.heap.size, 0, none⟩) 0 0, .slice AV vs.length cV, q0.heap.size⟩ _ ⟨⟨pw_cell_below HB5.out HX3.out, pw_cell_below HB5.out HX4.out⟩, HB5.out, HZ5.out, _, _, HK5.out, HV5.out, nKZ_5, nVZ_5, nKV_5⟩)
      · skip
        refine value_ (w1 := ?_) (v := ?_) (by rfl) rfl ?_ ?_
        rotate_left 2
        · go_simp
          constructor
          · rfl
          · rfl
        have HB2 := Aside0.mk (below_alloc HB1.out (.cells #[] 32))
        have HZ2 := Aside0.mk (HZ1.out.alloc (.cells #[] 32))
        have HV2 := Aside0.mk (Has.new (d := Kd.fixed kS Wf) (e := 32) HB1.out)
        have nVZ_2 := HZ1.out.ne_new.symm
        generalize q1.alloc (.cells #[] 32) = q2 at HB2 HZ2 HV2 ⊢
        refine hK.out _ _ ⟨pw_cell_below HB2.out HX3.out, pw_cell_below HB2.out HX4.out⟩ (fun hHeld => ?_)
        clear hK K
        refine norm_ (a' := ?_) ?_ ?_
        rotate_left
        · show Act.put _ (some 14) _ = _
          simp only [Act.put, List.setIfInBounds_toArray, List.set_cons_zero, List.set_cons_succ, i64_w, i32_w]
          rfl
        refine one_ (i := 0) (N := some 10) #[true, true, true, false, true, true, true, false, false, true, false] rfl rfl (by kernel_rfl) (by decide) (fun K hK => ?_)
        refine value_ (w1 := ?_) (v := ?_) (by rfl) rfl ?_ ?_
        rotate_left 2
        · go_simp
          constructor
          · rfl
          · rfl
        have HB3 := Aside0.mk (below_alloc HB2.out (.cells #[] 9))
        have HV3 := Aside0.mk (HV2.out.alloc (.cells #[] 9))
        have HZ3 := Aside0.mk (HZ2.out.alloc (.cells #[] 9))
        have HK3 := Aside0.mk (Has.new (d := Kd.string) (e := 9) HB2.out)
        have nKV_3 := HV2.out.ne_new.symm
        have nKZ_3 := HZ2.out.ne_new.symm
        have nVZ_3 := nVZ_2
        generalize q2.alloc (.cells #[] 9) = q3 at HB3 HV3 HZ3 HK3 ⊢
        refine hK.out _ _ ⟨pw_cell_below HB3.out HX3.out, pw_cell_below HB3.out HX4.out⟩ (fun hHeld => ?_)
        clear hK K
        refine norm_ (a' := ?_) ?_ ?_
        rotate_left
        · show Act.put _ (some 10) _ = _
          simp only [Act.put, List.setIfInBounds_toArray, List.set_cons_zero, List.set_cons_succ, i64_w, i32_w]
          rfl
        refine one_ (i := 3) (N := some 13) #[true, true, true, true, true, true, true, false, false, true, false] rfl rfl (by kernel_rfl) (by decide) (fun K hK => ?_)
        refine Kd.R_append_rows_step Kd.string (w0 := W0) W0.heap.size rfl (.tmp 10) (.tmp 12) 25 9 (.string ⟨#[]⟩) 16 rfl Tryd.underlying25 info_string rfl (show 0 < 1 by decide) (by decide) _ [] ks _ ks.length _ (fun _ => True) (fun _ => False) rfl rfl HK3.out.1 (show ReadsRow (fun (x : ByteArray) cs => cs = [Value.string x]) 1 _ _ _ _ from Kd.C_below HKS.out HB3.out) (fun _ _ h => h) (fun _ h => h.elim) (fun _ _ => trivial) HB3.out HB3.out.size (by simp only [List.length_nil]; omega) ?_
        intro vK q4 ho hb hg hat
        rw [List.nil_append] at ho
        obtain ⟨AK, cK, rfl⟩ := Kd.R_slice ho
        obtain ⟨bK, hk, hor⟩ := HK3.out.grew ho hg hat
        have HK4 := Aside0.mk hk
        have HB4 := Aside0.mk hb
        have HV4 := Aside0.mk (HV3.out.grown (fun _ _ _ _ _ _ h => h) hg (nKV_3.symm))
        have nKV_4 := (ne_grew (nKV_3.symm) (HV3.out.2.2.1) hor).symm
        have HZ4 := Aside0.mk (HZ3.out.grown hg (nKZ_3.symm))
        have nKZ_4 := (ne_grew (nKZ_3.symm) (cb_lt HZ3.out.1) hor).symm
        have nVZ_4 := nVZ_3
        clear ho hb hg hat hk hor
        refine hK.out _ _ ⟨pw_cell_below HB4.out HX3.out, pw_cell_below HB4.out HX4.out⟩ (fun hHeld => ?_)
        clear hK K
        refine norm_ (a' := ?_) ?_ ?_
        rotate_left
        · show Act.put _ (some 13) _ = _
          simp only [Act.put, List.setIfInBounds_toArray, List.set_cons_zero, List.set_cons_succ, i64_w, i32_w]
          rfl
        refine one_ (i := 7) (N := some 17) #[true, true, true, true, true, true, true, true, false, true, false] rfl rfl (by kernel_rfl) (by decide) (fun K hK => ?_)
        refine Kd.R_append_rows_step (Kd.fixed kS Wf) (w0 := W0) W0.heap.size rfl (.tmp 14) (.tmp 16) 30 32 (.agg #[.int .i64 0, .int .i64 0, .string ⟨#[]⟩, .slice none 0 0, .slice none 0 0]) 80 rfl Tryd.underlying30 info32 rfl (show 0 < 5 by decide) (by decide) _ [] vs _ vs.length _ (fun _ => True) (fun _ => False) rfl rfl HV4.out.1 (ReadsRow.imp_ HVS.out HB4.out (fun _ _ hp => hp)) (fun _ _ h => h) (fun _ h => h.elim) (fun _ _ => trivial) HB4.out HB4.out.size (by simp only [List.length_nil]; omega) ?_
        intro vV q5 ho hb hg hat
        rw [List.nil_append] at ho
        obtain ⟨AV, cV, rfl⟩ := Kd.R_slice ho
        obtain ⟨bV, hk, hor⟩ := HV4.out.grew ho hg hat
        have HV5 := Aside0.mk hk
        have HB5 := Aside0.mk hb
        have HK5 := Aside0.mk (HK4.out.grown (fun _ _ _ _ _ _ h => h) hg (nKV_4))
        have nKV_5 := (ne_grew (nKV_4) (HK4.out.2.2.1) hor)
        have HZ5 := Aside0.mk (HZ4.out.grown hg (nVZ_4.symm))
        have nVZ_5 := (ne_grew (nVZ_4.symm) (cb_lt HZ4.out.1) hor).symm
        have nKZ_5 := nKZ_4
        clear ho hb hg hat hk hor
        refine hK.out _ _ ⟨pw_cell_below HB5.out HX3.out, pw_cell_below HB5.out HX4.out⟩ (fun hHeld => ?_)
        clear hK K
        refine norm_ (a' := ?_) ?_ ?_
        rotate_left
        · show Act.put _ (some 17) _ = _
          simp only [Act.put, List.setIfInBounds_toArray, List.set_cons_zero, List.set_cons_succ, i64_w, i32_w]
          rfl
        refine pure_ (i := 8) (N := some 18) (v := ?_) (a' := ?_) #[true, true, true, true, true, true, true, true, true, true, false] rfl rfl (by kernel_rfl) (fun _ _ _ h => h) (Or.inl ⟨by rfl, ?_⟩) ?_ ?_
        rotate_left
        · intro w'
          go_simp
          with_reducible rfl
        rotate_left
        · simp only [Act.put, List.setIfInBounds_toArray, List.set_cons_zero, List.set_cons_succ, i64_w, i32_w]
          rfl
        exact norm_ (by simp only [putAll, Act.put, List.setIfInBounds_toArray, List.set_cons_zero, List.set_cons_succ]) (hCont ⟨.slice (some ⟨q2.heap.size, 0, none⟩) 0 0, .slice AK ks.length cK, .slice (some ⟨q1.heap.size, 0, none⟩) 0 0, .slice AV vs.length cV, q0.heap.size⟩ _ ⟨⟨pw_cell_below HB5.out HX3.out, pw_cell_below HB5.out HX4.out⟩, HB5.out, HZ5.out, _, _, HK5.out, HV5.out, nKZ_5, nVZ_5, nKV_5⟩)
  rintro ⟨v10, vK, v14, vV, g⟩ w1 ⟨hS, hB, hZ, bK, bV, hK, hV, n1, n2, n3⟩
  have hHeld := hS
  obtain ⟨AK, cK, rfl⟩ := Kd.R_slice hK.1
  obtain ⟨AV, cV, rfl⟩ := Kd.R_slice hV.1
  have HB1 := Aside0.mk hB
  have HZ1 := Aside0.mk (show HasZ W0 w1 g from hZ)
  have HK1 := Aside0.mk (show Has Kd.string 9 W0 w1 (.slice AK ks.length cK) ks bK from hK)
  have HV1 := Aside0.mk (show Has (Kd.fixed kS Wf) 32 W0 w1 (.slice AV vs.length cV) vs bV from hV)
  replace n1 : bK ≠ g := n1
  replace n2 : bV ≠ g := n2
  clear hS hB hZ hK hV
  refine norm_ (a' := ?_) ?_ ?_
  rotate_left
  · simp only [putAll, Act.put, List.setIfInBounds_toArray, List.set_cons_zero, List.set_cons_succ]
    rfl
  refine last_ (i := 10) (N := none) #[true, true, true, true, true, true, true, true, true, true, true] rfl rfl (by kernel_rfl) (by decide) (fun K hK => ?_)
  refine store_row_step (w := w1) rfl rfl 32 (.tmp 7) (.tmp 18) rfl g #[.int .i64 5, .int .i64 0, .string ⟨#[]⟩, .slice AK ks.length cK, .slice AV vs.length cV] rfl rfl 32 _ HZ1.out.1 val_size rfl (val_one _ _ _ _ _ _ _ _ _) ?_
  have HG2 := Aside0.mk (grown_setRow w1 g #[.int .i64 5, .int .i64 0, .string ⟨#[]⟩, .slice AK ks.length cK, .slice AV vs.length cV])
  have HZ2 := Aside0.mk (setRow_heap w1 g _ #[.int .i64 5, .int .i64 0, .string ⟨#[]⟩, .slice AK ks.length cK, .slice AV vs.length cV] _ _ HZ1.out.1)
  have HK2 := Aside0.mk (HK1.out.grown (fun _ _ _ _ _ _ h => h) HG2.out n1)
  have HV2 := Aside0.mk (HV1.out.grown (fun _ _ _ _ _ _ h => h) HG2.out n2)
  have HB2 := Aside0.mk (pw_below_grown HB1.out (some g) HB1.out.size HG2.out (fun k hk => by injection hk with hk; have := HZ1.out.2; have h2 : g = k := hk; omega))
  generalize w1.setRow g #[.int .i64 5, .int .i64 0, .string ⟨#[]⟩, .slice AK ks.length cK, .slice AV vs.length cV] = w2 at HG2 HZ2 HK2 HV2 HB2 ⊢
  refine hK.out _ _ ?_
  clear hK K
  refine done_ (by kernel_rfl) ?_
  have HX02 := Aside0.mk ((HB2.out.block _ (cb_lt HX0.out)).trans HX0.out)
  have CP := Aside0.mk (place kd nm t (c3 := c3) (A4 := A4) (n4 := vs.length) (c4 := c4) ks key w2 (Kd.C_below HKS.out HB2.out) (by omega))
  have hl0 := cb_cell (i := 0) HX02.out rfl
  have hl1 := cb_cell (i := 1) HX02.out rfl
  have hl2 := cb_cell (i := 2) HX02.out rfl
  have hl3 := cb_cell (i := 3) HX02.out rfl
  have hl4 := cb_cell (i := 4) HX02.out rfl
  go_wp2_with fail
  refine CP.out.mono ?_
  rintro e w3 ⟨rfl, hb⟩
  have HB3 := Aside0.mk (below_then HB2.out HB2.out.size hb)
  have hz3 := (hb.block _ (cb_lt HZ2.out)).trans HZ2.out
  have HK3 := HK2.out.below hb
  have HV3 := HV2.out.below hb
  have HGB := Aside0.mk HZ1.out.2
  clear hb CP HZ1 HZ2 HK1 HK2 HV1 HV2 HB1 HB2 HG2 HX02 hl0 hl1 hl2 hl3 hl4 HKS HVS HX3 HX4 y3 y4
  obtain rfl := HK00.out
  obtain rfl := HV00.out
  obtain ⟨cK', eK⟩ := HK3.slice
  obtain ⟨cV', eV⟩ := HV3.slice
  injection eK with e1 _ e3
  injection eV with e4 _ e6
  subst e1 e3 e4 e6
  have hp1 : placeI ([] : List ByteArray) key = 0 := rfl
  have hp2 : placeB ([] : List ByteArray) key = false := rfl
  rw [hp1, hp2]
  have HZ3 := Aside0.mk (show w3.heap[g]? = some (.cells #[.int .i64 5, .int .i64 0, .string ⟨#[]⟩, .slice (some ⟨bK, 0, none⟩) 0 cK, .slice (some ⟨bV, 0, none⟩) 0 cV] 32 (0, 0)) from hz3)
  have HK3 := Aside0.mk HK3
  have HV3 := Aside0.mk HV3
  have hnKg := n1
  have hnVg := n2
  have hnKV := n3
  clear hz3 hp1 hp2
  have z3 : w3.cell? ⟨g, 3, none⟩ = some (.slice (some ⟨bK, 0, none⟩) 0 cK) := cb_cell (i := 3) HZ3.out rfl
  go_wp2_with fail
  have hb3sz := HB3.out.size
  refine start_ (n := 14) (S := fun w' => w'.cell? ⟨g, 3, none⟩ = some (.slice (some ⟨bK, 0, none⟩) 0 cK)) (ds := [11, 13]) #[false, false, false, false, false, false, false, false, false, false, false, false, false, false] (by kernel_rfl) rfl rfl (z3) (fun hHeld => ?_)
  refine pure_ (i := 0) (N := some 32) (v := ?_) (a' := ?_) #[true, false, false, false, false, false, false, false, false, false, false, false, false, false] rfl rfl (by kernel_rfl) (fun _ _ _ h => h) (Or.inl ⟨by rfl, ?_⟩) ?_ ?_
  rotate_left
  · intro w'
    go_simp
    with_reducible rfl
  rotate_left
  · simp only [Act.put, List.setIfInBounds_toArray, List.set_cons_zero, List.set_cons_succ, i64_w, i32_w]
    rfl
  refine pure_ (i := 2) (N := some 34) (v := ?_) (a' := ?_) #[true, false, true, false, false, false, false, false, false, false, false, false, false, false] rfl rfl (by kernel_rfl) (fun _ _ _ h => h) (Or.inl ⟨by rfl, ?_⟩) ?_ ?_
  rotate_left
  · intro w'
    go_simp
    with_reducible rfl
  rotate_left
  · simp only [Act.put, List.setIfInBounds_toArray, List.set_cons_zero, List.set_cons_succ, i64_w, i32_w]
    rfl
  refine pure_ (i := 4) (N := some 36) (v := ?_) (a' := ?_) #[true, false, true, false, true, false, false, false, false, false, false, false, false, false] rfl rfl (by kernel_rfl) (fun _ _ _ h => h) (Or.inl ⟨by rfl, ?_⟩) ?_ ?_
  rotate_left
  · intro w'
    go_simp
    with_reducible rfl
  rotate_left
  · simp only [Act.put, List.setIfInBounds_toArray, List.set_cons_zero, List.set_cons_succ, i64_w, i32_w]
    rfl
  refine pure_ (i := 6) (N := some 38) (v := ?_) (a' := ?_) #[true, false, true, false, true, false, true, false, false, false, false, false, false, false] rfl rfl (by kernel_rfl) (fun _ _ _ h => h) (Or.inl ⟨by rfl, ?_⟩) ?_ ?_
  rotate_left
  · intro w'
    go_simp
    with_reducible rfl
  rotate_left
  · simp only [Act.put, List.setIfInBounds_toArray, List.set_cons_zero, List.set_cons_succ, i64_w, i32_w]
    rfl
  refine pure_ (i := 8) (N := some 40) (v := ?_) (a' := ?_) #[true, false, true, false, true, false, true, false, true, false, false, false, false, false] rfl rfl (by kernel_rfl) (fun _ _ _ h => h) (Or.inl ⟨by rfl, ?_⟩) ?_ ?_
  rotate_left
  · intro w'
    go_simp
    with_reducible rfl
  rotate_left
  · simp only [Act.put, List.setIfInBounds_toArray, List.set_cons_zero, List.set_cons_succ, i64_w, i32_w]
    rfl
  refine take_ (i := 1) (N := some 33) (v := ?_) (a' := ?_) #[true, true, true, false, true, false, true, false, true, false, false, false, false, false] rfl rfl (by kernel_rfl) (fun _ _ _ h => h) (Or.inl ⟨by rfl, ?_⟩) hHeld ?_ ?_
  rotate_left
  · intro w' s0
    go_simp
    with_reducible rfl
  rotate_left
  · simp only [Act.put, List.setIfInBounds_toArray, List.set_cons_zero, List.set_cons_succ, i64_w, i32_w]
    rfl
  refine pure_ (i := 3) (N := some 35) (v := ?_) (a' := ?_) #[true, true, true, true, true, false, true, false, true, false, false, false, false, false] rfl rfl (by kernel_rfl) (fun _ _ _ h => h) (Or.inl ⟨by rfl, ?_⟩) ?_ ?_
  rotate_left
  · intro w'
    go_simp
    with_reducible rfl
  rotate_left
  · simp only [Act.put, List.setIfInBounds_toArray, List.set_cons_zero, List.set_cons_succ, i64_w, i32_w]
    rfl
  refine take_ (i := 7) (N := some 39) (v := ?_) (a' := ?_) #[true, true, true, true, true, false, true, true, true, false, false, false, false, false] rfl rfl (by kernel_rfl) (fun _ _ _ h => h) (Or.inl ⟨by rfl, ?_⟩) hHeld ?_ ?_
  rotate_left
  · intro w' s0
    go_simp
    with_reducible rfl
  rotate_left
  · simp only [Act.put, List.setIfInBounds_toArray, List.set_cons_zero, List.set_cons_succ, i64_w, i32_w]
    rfl
  refine pure_ (i := 9) (N := some 41) (v := ?_) (a' := ?_) #[true, true, true, true, true, false, true, true, true, true, false, false, false, false] rfl rfl (by kernel_rfl) (fun _ _ _ h => h) (Or.inl ⟨by rfl, ?_⟩) ?_ ?_
  rotate_left
  · intro w'
    go_simp
    with_reducible rfl
  rotate_left
  · simp only [Act.put, List.setIfInBounds_toArray, List.set_cons_zero, List.set_cons_succ, i64_w, i32_w]
    rfl
  refine one_ (i := 5) (N := some 37) #[true, true, true, true, true, true, true, true, true, true, false, false, false, false] rfl rfl (by kernel_rfl) (by decide) (fun K hK => ?_)
  refine value_ (w1 := ?_) (v := ?_) (by rfl) rfl ?_ ?_
  rotate_left 2
  · go_simp
    constructor
    · rfl
    · rfl
  refine hK.out _ _ (pw_cell_below (below_alloc (Below.refl _ _) _) hHeld) (fun hHeld => ?_)
  clear hK K
  refine norm_ (a' := ?_) ?_ ?_
  rotate_left
  · show Act.put _ (some 37) _ = _
    simp only [Act.put, List.setIfInBounds_toArray, List.set_cons_zero, List.set_cons_succ, i64_w, i32_w]
    rfl
  refine one_ (i := 10) (N := some 42) #[true, true, true, true, true, true, true, true, true, true, true, false, false, false] rfl rfl (by kernel_rfl) (by decide) (fun K hK => ?_)
  refine Kd.R_append_rows_step Kd.string (w0 := W0) W0.heap.size rfl (.tmp 37) (.tmp 41) 25 9 (.string ⟨#[]⟩) 16 rfl Tryd.underlying25 info_string rfl (show 0 < 1 by decide) (by decide) (.slice (some ⟨w3.heap.size, 0, none⟩) 1 1) [key] [] _ 0 _ (fun _ => True) (fun _ => False) rfl rfl (Kd.R_drew (one_str w3 W0.heap.size _ hb3sz key)) (show ReadsRow (fun (x : ByteArray) cs => cs = [Value.string x]) 1 _ _ _ [] from ⟨rfl, by omega, fun h => absurd h (Nat.lt_irrefl 0)⟩) (fun _ _ h => h) (fun _ h => h.elim) (fun _ _ => trivial) (below_drew (below_alloc HB3.out _)) (below_drew (below_alloc HB3.out _)).size (by simp only [List.length_singleton]; omega) ?_
  intro v1 w5 ho hb hg hat
  obtain ⟨A1, c1, rfl, hle1, hC1⟩ := Kd.R_reads ho
  have HC1 := Aside0.mk hC1
  have HB5 := Aside0.mk hb
  have hg5 : (w3.alloc (.cells #[.string key] 9)).grownBy w5 (some w3.heap.size) := ⟨hg.os, hg.tape, hg.output, hg.size, hg.block⟩
  have HK5 := Aside0.mk ((HK3.out.alloc (.cells #[.string key] 9)).grown (fun _ _ _ _ _ _ h => h) hg5 HK3.out.ne_new)
  have HV5 := Aside0.mk ((HV3.out.alloc (.cells #[.string key] 9)).grown (fun _ _ _ _ _ _ h => h) hg5 HV3.out.ne_new)
  have HZ5 := Aside0.mk ((hg5.block _ (cb_lt (blk_alloc HZ3.out _)) (fun e => by have h1 := cb_lt HZ3.out; have h2 := Option.some.inj e; omega)).trans (blk_alloc HZ3.out _))
  clear ho hb hg hat hle1 hC1 hg5
  refine hK.out _ _ (cb_cell (i := 3) HZ5.out rfl) (fun hHeld => ?_)
  clear hK K
  refine norm_ (a' := ?_) ?_ ?_
  rotate_left
  · show Act.put _ (some 42) _ = _
    simp only [Act.put, List.setIfInBounds_toArray, List.set_cons_zero, List.set_cons_succ, i64_w, i32_w]
    rfl
  refine last_ (i := 11) (N := some 43) #[true, true, true, true, true, true, true, true, true, true, true, true, false, false] rfl rfl (by kernel_rfl) (by decide) (fun K hK => ?_)
  refine Kd.R_append_rows_step Kd.string (w0 := W0) W0.heap.size rfl (.tmp 35) (.tmp 42) 25 9 (.string ⟨#[]⟩) 16 rfl Tryd.underlying25 info_string rfl (show 0 < 1 by decide) (by decide) (.slice (some ⟨bK, 0, none⟩) 0 cK) [] _ _ _ _ (fun _ => True) (fun _ => False) rfl rfl HK5.out.1 (show ReadsRow (fun (x : ByteArray) cs => cs = [Value.string x]) 1 _ _ _ _ from HC1.out) (fun _ _ h => h) (fun _ h => h.elim) (fun _ _ => trivial) HB5.out HB5.out.size (by simp only [List.length_nil, List.length_append, List.length_singleton]; omega) ?_
  intro v2 w6 ho hb hg hat
  obtain ⟨A2K, c2K, rfl⟩ := Kd.R_slice ho
  obtain ⟨bLK, hk, hor⟩ := HK5.out.grew ho hg hat
  have HK6 := Aside0.mk hk
  have HB6 := Aside0.mk hb
  have hg6 : w5.grownBy w6 (some bK) := hg
  have HV6 := Aside0.mk (HV5.out.grown (fun _ _ _ _ _ _ h => h) hg6 (hnKV.symm))
  have HZ6 := Aside0.mk ((hg6.block _ (cb_lt HZ5.out) (fun e => hnKg (Option.some.inj e).symm)).trans HZ5.out)
  have mKg := ne_grew (hnKg.symm) (cb_lt HZ5.out) hor
  have mKo := ne_grew (hnKV.symm) (HV5.out.2.2.1) hor
  clear ho hb hg hat hk hor hg6
  refine hK.out _ _ ?_
  clear hK K
  refine norm_ (a' := ?_) ?_ ?_
  rotate_left
  · show Act.put _ (some 43) _ = _
    simp only [Act.put, List.setIfInBounds_toArray, List.set_cons_zero, List.set_cons_succ, i64_w, i32_w]
    rfl
  refine pure_ (i := 12) (N := some 44) (v := ?_) (a' := ?_) #[true, true, true, true, true, true, true, true, true, true, true, true, true, false] rfl rfl (by kernel_rfl) (fun _ _ _ h => h) (Or.inl ⟨by rfl, ?_⟩) ?_ ?_
  rotate_left
  · intro w'
    go_simp
    with_reducible rfl
  rotate_left
  · simp only [Act.put, List.setIfInBounds_toArray, List.set_cons_zero, List.set_cons_succ, i64_w, i32_w]
    rfl
  refine last_ (i := 13) (N := none) #[true, true, true, true, true, true, true, true, true, true, true, true, true, true] rfl rfl (by kernel_rfl) (by decide) (fun K hK => ?_)
  have hc6 := cb_cell (i := 3) HZ6.out rfl
  have hfz := cb_frozen (i := 3) HZ6.out
  refine skip_ (w1 := ?_) (by rfl) rfl ?_ ?_
  rotate_left
  · go_simp
    rfl
  refine hK.out _ _ ?_
  clear hK K
  refine done_ (by kernel_rfl) ?_
  have HZ7 := Aside0.mk (show (w6.setCell ⟨g, 3, none⟩ (.slice A2K 1 c2K)).heap[g]? = some (.cells #[.int .i64 5, .int .i64 0, .string ⟨#[]⟩, .slice A2K 1 c2K, .slice (some ⟨bV, 0, none⟩) 0 cV] 32 (0, 0)) from cb_set HZ6.out _)
  have HK7 := Aside0.mk (show Has Kd.string 9 W0 (w6.setCell ⟨g, 3, none⟩ (.slice A2K 1 c2K)) (.slice A2K 1 c2K) [key] bLK from HK6.out.grown (fun _ _ _ _ _ _ h => h) (grown_setCell w6 g 3 (.slice A2K 1 c2K)) mKg.symm)
  have HV7 := Aside0.mk (show Has (Kd.fixed kS Wf) 32 W0 (w6.setCell ⟨g, 3, none⟩ (.slice A2K 1 c2K)) (.slice (some ⟨bV, 0, none⟩) 0 cV) [] bV from HV6.out.grown (fun _ _ _ _ _ _ h => h) (grown_setCell w6 g 3 (.slice A2K 1 c2K)) hnVg)
  have HB7 := Aside0.mk (pw_below_grown HB6.out (some g) HB6.out.size (grown_setCell w6 g 3 (.slice A2K 1 c2K)) (fun k hk => by injection hk with hk; have := HGB.out; have h2 : g = k := hk; omega))
  clear hHeld hc6 hfz
  generalize w6.setCell ⟨g, 3, none⟩ (.slice A2K 1 c2K) = w7 at HZ7 HK7 HV7 HB7 ⊢
  have hb7sz := HB7.out.size
  have HX7 := Aside0.mk ((HB7.out.block _ (cb_lt HX1.out)).trans HX1.out)
  have z4 : w7.cell? ⟨g, 4, none⟩ = some (.slice (some ⟨bV, 0, none⟩) 0 cV) := cb_cell (i := 4) HZ7.out rfl
  have e0 : w7.cell? ⟨w.heap.size + 1, 0, none⟩ = some (.int .i64 x.f0) := cb_cell (i := 0) HX7.out rfl
  have e1 : w7.cell? ⟨w.heap.size + 1, 1, none⟩ = some (.int .i64 x.f1) := cb_cell (i := 1) HX7.out rfl
  have e2 : w7.cell? ⟨w.heap.size + 1, 2, none⟩ = some (.string x.f2) := cb_cell (i := 2) HX7.out rfl
  have e3 : w7.cell? ⟨w.heap.size + 1, 3, none⟩ = some (.slice A5 x.f3.length c5) := cb_cell (i := 3) HX7.out rfl
  have e4 : w7.cell? ⟨w.heap.size + 1, 4, none⟩ = some (.slice A6 x.f4.length c6) := cb_cell (i := 4) HX7.out rfl
  have hKx := k32_mk Wf x HXX.out.1 HXX.out.2.1 HXX.out.2.2.1 HXX.out.2.2.2
  go_wp2_with fail
  refine start_ (n := 14) (S := fun w' => w'.cell? ⟨g, 4, none⟩ = some (.slice (some ⟨bV, 0, none⟩) 0 cV) ∧ w'.cell? ⟨w.heap.size + 1, 0, none⟩ = some (.int .i64 x.f0) ∧ w'.cell? ⟨w.heap.size + 1, 1, none⟩ = some (.int .i64 x.f1) ∧ w'.cell? ⟨w.heap.size + 1, 2, none⟩ = some (.string x.f2) ∧ w'.cell? ⟨w.heap.size + 1, 3, none⟩ = some (.slice A5 x.f3.length c5) ∧ w'.cell? ⟨w.heap.size + 1, 4, none⟩ = some (.slice A6 x.f4.length c6)) (ds := [11, 13]) #[false, false, false, false, false, false, false, false, false, false, false, false, false, false] (by kernel_rfl) rfl rfl ⟨z4, e0, e1, e2, e3, e4⟩ (fun hHeld => ?_)
  refine pure_ (i := 0) (N := some 45) (v := ?_) (a' := ?_) #[true, false, false, false, false, false, false, false, false, false, false, false, false, false] rfl rfl (by kernel_rfl) (fun _ _ _ h => h) (Or.inl ⟨by rfl, ?_⟩) ?_ ?_
  rotate_left
  · intro w'
    go_simp
    with_reducible rfl
  rotate_left
  · simp only [Act.put, List.setIfInBounds_toArray, List.set_cons_zero, List.set_cons_succ, i64_w, i32_w]
    rfl
  refine pure_ (i := 2) (N := some 47) (v := ?_) (a' := ?_) #[true, false, true, false, false, false, false, false, false, false, false, false, false, false] rfl rfl (by kernel_rfl) (fun _ _ _ h => h) (Or.inl ⟨by rfl, ?_⟩) ?_ ?_
  rotate_left
  · intro w'
    go_simp
    with_reducible rfl
  rotate_left
  · simp only [Act.put, List.setIfInBounds_toArray, List.set_cons_zero, List.set_cons_succ, i64_w, i32_w]
    rfl
  refine pure_ (i := 6) (N := some 51) (v := ?_) (a' := ?_) #[true, false, true, false, false, false, true, false, false, false, false, false, false, false] rfl rfl (by kernel_rfl) (fun _ _ _ h => h) (Or.inl ⟨by rfl, ?_⟩) ?_ ?_
  rotate_left
  · intro w'
    go_simp
    with_reducible rfl
  rotate_left
  · simp only [Act.put, List.setIfInBounds_toArray, List.set_cons_zero, List.set_cons_succ, i64_w, i32_w]
    rfl
  refine pure_ (i := 8) (N := some 53) (v := ?_) (a' := ?_) #[true, false, true, false, false, false, true, false, true, false, false, false, false, false] rfl rfl (by kernel_rfl) (fun _ _ _ h => h) (Or.inl ⟨by rfl, ?_⟩) ?_ ?_
  rotate_left
  · intro w'
    go_simp
    with_reducible rfl
  rotate_left
  · simp only [Act.put, List.setIfInBounds_toArray, List.set_cons_zero, List.set_cons_succ, i64_w, i32_w]
    rfl
  refine take_ (i := 1) (N := some 46) (v := ?_) (a' := ?_) #[true, true, true, false, false, false, true, false, true, false, false, false, false, false] rfl rfl (by kernel_rfl) (fun _ _ _ h => h) (Or.inl ⟨by rfl, ?_⟩) hHeld ?_ ?_
  rotate_left
  · rintro w' ⟨s0, s1, s2, s3, s4, s5⟩
    go_simp
    with_reducible rfl
  rotate_left
  · simp only [Act.put, List.setIfInBounds_toArray, List.set_cons_zero, List.set_cons_succ, i64_w, i32_w]
    rfl
  refine pure_ (i := 3) (N := some 48) (v := ?_) (a' := ?_) #[true, true, true, true, false, false, true, false, true, false, false, false, false, false] rfl rfl (by kernel_rfl) (fun _ _ _ h => h) (Or.inl ⟨by rfl, ?_⟩) ?_ ?_
  rotate_left
  · intro w'
    go_simp
    with_reducible rfl
  rotate_left
  · simp only [Act.put, List.setIfInBounds_toArray, List.set_cons_zero, List.set_cons_succ, i64_w, i32_w]
    rfl
  refine take_ (i := 4) (N := some 49) (v := ?_) (a' := ?_) #[true, true, true, true, true, false, true, false, true, false, false, false, false, false] rfl rfl (by kernel_rfl) (fun _ _ _ h => h) (Or.inl ⟨by rfl, ?_⟩) hHeld ?_ ?_
  rotate_left
  · rintro w' ⟨s0, s1, s2, s3, s4, s5⟩
    go_simp
    with_reducible rfl
  rotate_left
  · simp only [Act.put, List.setIfInBounds_toArray, List.set_cons_zero, List.set_cons_succ, i64_w, i32_w]
    rfl
  refine take_ (i := 7) (N := some 52) (v := ?_) (a' := ?_) #[true, true, true, true, true, false, true, true, true, false, false, false, false, false] rfl rfl (by kernel_rfl) (fun _ _ _ h => h) (Or.inl ⟨by rfl, ?_⟩) hHeld ?_ ?_
  rotate_left
  · rintro w' ⟨s0, s1, s2, s3, s4, s5⟩
    go_simp
    with_reducible rfl
  rotate_left
  · simp only [Act.put, List.setIfInBounds_toArray, List.set_cons_zero, List.set_cons_succ, i64_w, i32_w]
    rfl
  refine pure_ (i := 9) (N := some 54) (v := ?_) (a' := ?_) #[true, true, true, true, true, false, true, true, true, true, false, false, false, false] rfl rfl (by kernel_rfl) (fun _ _ _ h => h) (Or.inl ⟨by rfl, ?_⟩) ?_ ?_
  rotate_left
  · intro w'
    go_simp
    with_reducible rfl
  rotate_left
  · simp only [Act.put, List.setIfInBounds_toArray, List.set_cons_zero, List.set_cons_succ, i64_w, i32_w]
    rfl
  refine one_ (i := 5) (N := some 50) #[true, true, true, true, true, true, true, true, true, true, false, false, false, false] rfl rfl (by kernel_rfl) (by decide) (fun K hK => ?_)
  refine value_ (w1 := ?_) (v := ?_) (by rfl) rfl ?_ ?_
  rotate_left 2
  · go_simp
    constructor
    · rfl
    · rfl
  refine hK.out _ _ ⟨pw_cell_below (below_alloc (Below.refl _ _) _) hHeld.1, pw_cell_below (below_alloc (Below.refl _ _) _) hHeld.2.1, pw_cell_below (below_alloc (Below.refl _ _) _) hHeld.2.2.1, pw_cell_below (below_alloc (Below.refl _ _) _) hHeld.2.2.2.1, pw_cell_below (below_alloc (Below.refl _ _) _) hHeld.2.2.2.2.1, pw_cell_below (below_alloc (Below.refl _ _) _) hHeld.2.2.2.2.2⟩ (fun hHeld => ?_)
  clear hK K
  refine norm_ (a' := ?_) ?_ ?_
  rotate_left
  · show Act.put _ (some 50) _ = _
    simp only [Act.put, List.setIfInBounds_toArray, List.set_cons_zero, List.set_cons_succ, i64_w, i32_w]
    rfl
  refine one_ (i := 10) (N := some 55) #[true, true, true, true, true, true, true, true, true, true, true, false, false, false] rfl rfl (by kernel_rfl) (by decide) (fun K hK => ?_)
  refine Kd.R_append_rows_step (Kd.fixed kS Wf) (w0 := W0) W0.heap.size rfl (.tmp 50) (.tmp 54) 30 32 (.agg #[.int .i64 0, .int .i64 0, .string ⟨#[]⟩, .slice none 0 0, .slice none 0 0]) 80 rfl Tryd.underlying30 info32 rfl (show 0 < 5 by decide) (by decide) (.slice (some ⟨w7.heap.size, 0, none⟩) 1 1) [x] [] _ 0 _ (fun _ => True) (fun _ => False) rfl rfl (Kd.R_drew (one_val Wf w7 W0.heap.size _ hb7sz x hKx)) (show ReadsRow (kS.K Wf) 5 _ _ _ [] from ⟨rfl, by omega, fun h => absurd h (Nat.lt_irrefl 0)⟩) (fun _ _ h => h) (fun _ h => h.elim) (fun _ _ => trivial) (below_drew (below_alloc HB7.out _)) (below_drew (below_alloc HB7.out _)).size (by simp only [List.length_singleton]; omega) ?_
  intro v3 w8 ho hb hg hat
  obtain ⟨A1v, c1v, rfl, hle1, hC1⟩ := Kd.R_reads ho
  have HC8 := Aside0.mk hC1
  have HB8 := Aside0.mk hb
  have hg8 : (w7.alloc (.cells #[.int .i64 x.f0, .int .i64 x.f1, .string x.f2, .slice A5 x.f3.length c5, .slice A6 x.f4.length c6] 32)).grownBy w8 (some w7.heap.size) := ⟨hg.os, hg.tape, hg.output, hg.size, hg.block⟩
  have HK8 := Aside0.mk ((HK7.out.alloc (.cells #[.int .i64 x.f0, .int .i64 x.f1, .string x.f2, .slice A5 x.f3.length c5, .slice A6 x.f4.length c6] 32)).grown (fun _ _ _ _ _ _ h => h) hg8 HK7.out.ne_new)
  have HV8 := Aside0.mk ((HV7.out.alloc (.cells #[.int .i64 x.f0, .int .i64 x.f1, .string x.f2, .slice A5 x.f3.length c5, .slice A6 x.f4.length c6] 32)).grown (fun _ _ _ _ _ _ h => h) hg8 HV7.out.ne_new)
  have HZ8 := Aside0.mk ((hg8.block _ (cb_lt (blk_alloc HZ7.out _)) (fun e => by have h1 := cb_lt HZ7.out; have h2 := Option.some.inj e; omega)).trans (blk_alloc HZ7.out _))
  have HX8 := Aside0.mk ((HB8.out.block _ (cb_lt HX1.out)).trans HX1.out)
  clear ho hb hg hat hle1 hC1 hg8
  refine hK.out _ _ ⟨cb_cell (i := 4) HZ8.out rfl, cb_cell (i := 0) HX8.out rfl, cb_cell (i := 1) HX8.out rfl, cb_cell (i := 2) HX8.out rfl, cb_cell (i := 3) HX8.out rfl, cb_cell (i := 4) HX8.out rfl⟩ (fun hHeld => ?_)
  clear hK K
  refine norm_ (a' := ?_) ?_ ?_
  rotate_left
  · show Act.put _ (some 55) _ = _
    simp only [Act.put, List.setIfInBounds_toArray, List.set_cons_zero, List.set_cons_succ, i64_w, i32_w]
    rfl
  refine last_ (i := 11) (N := some 56) #[true, true, true, true, true, true, true, true, true, true, true, true, false, false] rfl rfl (by kernel_rfl) (by decide) (fun K hK => ?_)
  refine Kd.R_append_rows_step (Kd.fixed kS Wf) (w0 := W0) W0.heap.size rfl (.tmp 48) (.tmp 55) 30 32 (.agg #[.int .i64 0, .int .i64 0, .string ⟨#[]⟩, .slice none 0 0, .slice none 0 0]) 80 rfl Tryd.underlying30 info32 rfl (show 0 < 5 by decide) (by decide) (.slice (some ⟨bV, 0, none⟩) 0 cV) [] _ _ _ _ (fun _ => True) (fun _ => False) rfl rfl HV8.out.1 (show ReadsRow (kS.K Wf) 5 _ _ _ _ from HC8.out) (fun _ _ h => h) (fun _ h => h.elim) (fun _ _ => trivial) HB8.out HB8.out.size (by simp only [List.length_nil, List.length_append, List.length_singleton]; omega) ?_
  intro v4 w9 ho hb hg hat
  obtain ⟨A2V, c2V, rfl⟩ := Kd.R_slice ho
  obtain ⟨bLV, hk, hor⟩ := HV8.out.grew ho hg hat
  have HV9 := Aside0.mk hk
  have HB9 := Aside0.mk hb
  have hg9 : w8.grownBy w9 (some bV) := hg
  have HK9 := Aside0.mk (HK8.out.grown (fun _ _ _ _ _ _ h => h) hg9 mKo.symm)
  have HZ9 := Aside0.mk ((hg9.block _ (cb_lt HZ8.out) (fun e => hnVg (Option.some.inj e).symm)).trans HZ8.out)
  have mVg := ne_grew (hnVg.symm) (cb_lt HZ8.out) hor
  clear ho hb hg hat hk hor hg9
  refine hK.out _ _ ?_
  clear hK K
  refine norm_ (a' := ?_) ?_ ?_
  rotate_left
  · show Act.put _ (some 56) _ = _
    simp only [Act.put, List.setIfInBounds_toArray, List.set_cons_zero, List.set_cons_succ, i64_w, i32_w]
    rfl
  refine pure_ (i := 12) (N := some 57) (v := ?_) (a' := ?_) #[true, true, true, true, true, true, true, true, true, true, true, true, true, false] rfl rfl (by kernel_rfl) (fun _ _ _ h => h) (Or.inl ⟨by rfl, ?_⟩) ?_ ?_
  rotate_left
  · intro w'
    go_simp
    with_reducible rfl
  rotate_left
  · simp only [Act.put, List.setIfInBounds_toArray, List.set_cons_zero, List.set_cons_succ, i64_w, i32_w]
    rfl
  refine last_ (i := 13) (N := none) #[true, true, true, true, true, true, true, true, true, true, true, true, true, true] rfl rfl (by kernel_rfl) (by decide) (fun K hK => ?_)
  have hc9 := cb_cell (i := 4) HZ9.out rfl
  have hfz9 := cb_frozen (i := 4) HZ9.out
  refine skip_ (w1 := ?_) (by rfl) rfl ?_ ?_
  rotate_left
  · go_simp
    rfl
  refine hK.out _ _ ?_
  clear hK K
  refine done_ (by kernel_rfl) ?_
  have HZ10 := Aside0.mk (show (w9.setCell ⟨g, 4, none⟩ (.slice A2V 1 c2V)).heap[g]? = some (.cells #[.int .i64 5, .int .i64 0, .string ⟨#[]⟩, .slice A2K 1 c2K, .slice A2V 1 c2V] 32 (0, 0)) from cb_set HZ9.out _)
  have HK10 := Aside0.mk (HK9.out.grown (fun _ _ _ _ _ _ h => h) (grown_setCell w9 g 4 (.slice A2V 1 c2V)) mKg.symm)
  have HV10 := Aside0.mk (show Has (Kd.fixed kS Wf) 32 W0 (w9.setCell ⟨g, 4, none⟩ (.slice A2V 1 c2V)) (.slice A2V 1 c2V) [x] bLV from HV9.out.grown (fun _ _ _ _ _ _ h => h) (grown_setCell w9 g 4 (.slice A2V 1 c2V)) mVg.symm)
  have HB10 := Aside0.mk (pw_below_grown HB9.out (some g) HB9.out.size (grown_setCell w9 g 4 (.slice A2V 1 c2V)) (fun k hk => by injection hk with hk; have := HGB.out; have h2 : g = k := hk; omega))
  clear hHeld hc9 hfz9
  generalize w9.setCell ⟨g, 4, none⟩ (.slice A2V 1 c2V) = w10 at HZ10 HK10 HV10 HB10 ⊢
  have hx2 := (HB10.out.block _ (cb_lt HX2.out)).trans HX2.out
  go_wp2_with (first | refine load_val (.tmp 7) rfl rfl rfl HZ10.out ?_ | refine store_val (.tmp 6) (.tmp 58) rfl rfl rfl rfl hx2 ?_)
  have hg := grown_setRow w10 (w.heap.size + 2) #[.int .i64 5, .int .i64 0, .string ⟨#[]⟩, .slice A2K 1 c2K, .slice A2V 1 c2V]
  have h1 := HK10.out.grown (fun _ _ _ _ _ _ h => h) hg (by have := HK10.out.2.2.2; have := HSZ.out; omega)
  have h2 := HV10.out.grown (fun _ _ _ _ _ _ h => h) hg (by have := HV10.out.2.2.2; have := HSZ.out; omega)
  have h3 : Below w.heap.size w w10 := below_then HBW.out HBW.out.size HB10.out
  have h4 := pw_below_grown h3 (some (w.heap.size + 2)) h3.size hg (fun k hk => by injection hk with hk; have h2 : w.heap.size + 2 = k := hk; omega)
  have h5 := setRow_heap w10 (w.heap.size + 2) _ #[.int .i64 5, .int .i64 0, .string ⟨#[]⟩, .slice A2K 1 c2K, .slice A2V 1 c2V] _ _ hx2
  have hle : w.heap.size ≤ W0.heap.size := by have := HSZ.out; omega
  exact bodyPost_ret (v := .agg #[.int .i64 5, .int .i64 0, .string ⟨#[]⟩, .slice A2K 1 c2K, .slice A2V 1 c2V]) (val_result rfl rfl h5) rfl ⟨A2K, c2K, A2V, c2V, rfl, Kd.R_lower h1.1 hle, Kd.R_lower h2.1 hle, h4⟩
end Go.Proofs.YtaembebbaejfiaaDoor.Val
