/- Parts of the proof, laid together: WithG, Pure, QSpecSayDigits, QSpecSayAddress. -/
import Derived.Test.YtceojjlpeacfgaaDoorP3
set_option linter.unusedVariables false
set_option linter.unusedSimpArgs false
namespace Go.Proofs.YtceojjlpeacfgaaDoor.Tr
open Go.RowKit Go.Proofs.YtceojjlpeacfgaaDoorW.PrintWords Go.Proofs.YtceojjlpeacfgaaDoorW.PrintLast Go.Proofs.YtceojjlpeacfgaaDoor.Str Go.Proofs.YtceojjlpeacfgaaDoor.Kit Go.Proofs.YtceojjlpeacfgaaDoor.MapV Go.Proofs.YtceojjlpeacfgaaDoor.Frame Go.Proofs.YtceojjlpeacfgaaDoor.PS
open Go.Proofs.YtceojjlpeacfgaaDoor.Val (place placeI placeB)
def withK (ks : List BA) (key : BA) : List BA := if placeB ks key then ks else ks.take (placeI ks key) ++ ([key] ++ ks.drop (placeI ks key))
def withV {α : Type} (ks : List BA) (vs : List α) (key : BA) (x : α) : List α := if placeB ks key then vs.set (placeI ks key) x else vs.take (placeI ks key) ++ ([x] ++ vs.drop (placeI ks key))
theorem placeI_le (ks : List BA) (key : BA) : placeI ks key ≤ ks.length := by
 unfold placeI
 exact (List.takeWhile_sublist _).length_le
theorem placeB_lt {ks : List BA} {key : BA} (h : placeB ks key = true) : placeI ks key < ks.length := by
 unfold placeB at h
 rcases Nat.lt_or_ge (placeI ks key) ks.length with hl | hl
 ·exact hl
 ·rw [List.getElem?_eq_none hl] at h
  cases h
theorem withK_length {ks : List BA} {key : BA} : (withK ks key).length ≤ ks.length + 1 := by
 have h := placeI_le ks key
 unfold withK
 split
 ·omega
 ·simp only [List.length_append, List.length_take, List.length_drop, List.length_singleton]
  omega
theorem withV_length {α : Type} {ks : List BA} {vs : List α} {key : BA} {x : α} (hl : ks.length = vs.length) : (withV ks vs key x).length = (withK ks key).length := by
 have h := placeI_le ks key
 unfold withK withV
 split
 ·rw [List.length_set]; exact hl.symm
 ·simp only [List.length_append, List.length_take, List.length_drop, List.length_singleton]
  omega
theorem x_one (x : VS) (A5 A6 : Option Addr) (c5 c6 : Nat) : ∀ q ∈ ([.int .i64 x.f0, .int .i64 x.f1, .string x.f2, .slice A5 x.f3.length c5, .slice A6 x.f4.length c6] : List Value), q.oneCell' = true := fun v hv => by simp at hv; rcases hv with rfl | rfl | rfl | rfl | rfl <;> rfl
set_option maxHeartbeats 25600000 in
set_option maxRecDepth 100000 in
theorem WithP (Pf : VS → List Value → Prop) (h5 : ∀ {x cs}, Pf x cs → cs.length = 5) (h1 : ∀ {x cs}, Pf x cs → ∀ u ∈ cs, u.oneCell' = true) (kd nm : Int) (t : ByteArray) {A3 A4 : Option Addr} {c3 c4 : Nat} (ks : List ByteArray) (vs : List VS) (key : ByteArray) (x : VS) {A5 A6 : Option Addr} {c5 c6 : Nat} (w : World) (hk : Kd.string.C w A3 ks.length ks) (hv : ReadsRow Pf 5 w A4 vs.length vs) (hx : Pf x [.int .i64 x.f0, .int .i64 x.f1, .string x.f2, .slice A5 x.f3.length c5, .slice A6 x.f4.length c6])
  (hlen : ks.length = vs.length) (hvn : vs.length ≤ 1759218604400) (K2 : List BA) (V2 : List VS) (hK2 : withK ks key = K2) (hV2 : withV ks vs key x = V2) :
  Calls Tryd.prog 15 #[.agg #[.int .i64 kd, .int .i64 nm, .string t, .slice A3 ks.length c3, .slice A4 vs.length c4], .string key, .agg #[.int .i64 x.f0, .int .i64 x.f1, .string x.f2, .slice A5 x.f3.length c5, .slice A6 x.f4.length c6]] w fun e w' => ∃ A7 c7 A8 c8, e = .returned (.agg #[.int .i64 5, .int .i64 0, .string ⟨#[]⟩, .slice A7 K2.length c7, .slice A8 V2.length c8]) ∧ Kd.string.R 9 w' w.heap.size (fun _ => True) (.slice A7 K2.length c7) K2 ∧ (held 5 Pf h5 h1).R 25 w' w.heap.size (fun _ => True) (.slice A8 V2.length c8) V2 ∧ Below w.heap.size w w' := by
 have HKK := aM hK2; have HVV := aM hV2; have HLEN := aM hlen
 have hkn : ks.length ≤ 1759218604400 := by omega
 clear hK2 hV2 hlen; have HKW := aM hk; have HVW := aM hv
 go_enter Tryd.func15, Tryd.ntmps15
 go_wp2_with fail
 obtain ⟨W0, hW0⟩ : ∃ W0, ((w.alloc (.cells #[.int .i64 kd, .int .i64 nm, .string t, .slice A3 ks.length c3, .slice A4 vs.length c4] 25)).alloc (.cells #[.int .i64 x.f0, .int .i64 x.f1, .string x.f2, .slice A5 x.f3.length c5, .slice A6 x.f4.length c6] 25)).alloc (.cells #[.int .i64 0, .int .i64 0, .string ⟨#[]⟩, .slice none 0 0, .slice none 0 0] 25) = W0 := ⟨_, rfl⟩
 rw [hW0]
 have hBW : Below w.heap.size w W0 := by
  rw [← hW0]; exact ((((Below.refl _ w).alloc (Nat.le_refl _) _).alloc (by rw [World.size_alloc]; omega) _)).alloc (by rw [World.size_alloc, World.size_alloc]; omega) _
 have hb0 : W0.heap[w.heap.size]? = some (.cells #[.int .i64 kd, .int .i64 nm, .string t, .slice A3 ks.length c3, .slice A4 vs.length c4] 25 (0, 0)) := by
  rw [← hW0]; exact ze (ze (xb _ _) _) _
 have hb1 : W0.heap[w.heap.size + 1]? = some (.cells #[.int .i64 x.f0, .int .i64 x.f1, .string x.f2, .slice A5 x.f3.length c5, .slice A6 x.f4.length c6] 25 (0, 0)) := by
  rw [← hW0]; have h1 := xb (w.alloc (.cells #[.int .i64 kd, .int .i64 nm, .string t, .slice A3 ks.length c3, .slice A4 vs.length c4] 25)) (.cells #[.int .i64 x.f0, .int .i64 x.f1, .string x.f2, .slice A5 x.f3.length c5, .slice A6 x.f4.length c6] 25); rw [World.size_alloc] at h1; exact ze h1 _
 have hsz : W0.heap.size = w.heap.size + 3 := by rw [← hW0, World.size_alloc, World.size_alloc, World.size_alloc]
 have hb2 : W0.heap[w.heap.size + 2]? = some (.cells #[.int .i64 0, .int .i64 0, .string ⟨#[]⟩, .slice none 0 0, .slice none 0 0] 25 (0, 0)) := by
  rw [← hW0]; have h1 := xb ((w.alloc (.cells #[.int .i64 kd, .int .i64 nm, .string t, .slice A3 ks.length c3, .slice A4 vs.length c4] 25)).alloc (.cells #[.int .i64 x.f0, .int .i64 x.f1, .string x.f2, .slice A5 x.f3.length c5, .slice A6 x.f4.length c6] 25)) (.cells #[.int .i64 0, .int .i64 0, .string ⟨#[]⟩, .slice none 0 0, .slice none 0 0] 25); rw [World.size_alloc, World.size_alloc] at h1; exact h1
 have HBW := aM hBW; have HX0 := aM hb0; have HX1 := aM hb1; have HX2 := aM hb2; have HX3 := aM (show W0.cell? ⟨w.heap.size, 3, none⟩ = some (.slice A3 ks.length c3) from zz (i := 3) hb0 rfl); have HX4 := aM (show W0.cell? ⟨w.heap.size, 4, none⟩ = some (.slice A4 vs.length c4) from zz (i := 4) hb0 rfl); have HKS := aM (Kd.C_below HKW.out hBW); have HVS := aM (ReadsRow.imp_ HVW.out hBW (fun _ _ hp => hp)); have HSZ := aM hsz; have HXX := aM hx; have HB0 := aM (yi (Below.refl W0.heap.size W0)); have y3 : W0.drew.cell? ⟨w.heap.size, 3, none⟩ = some (.slice A3 ks.length c3) := HX3.out; have y4 : W0.drew.cell? ⟨w.heap.size, 4, none⟩ = some (.slice A4 vs.length c4) := HX4.out; clear hW0 hBW hb0 hb1 hb2 hsz HKW HVW hk hv hx; refine xl (n := 11) (S := fun w' => w'.cell? ⟨w.heap.size, 3, none⟩ = some (.slice A3 ks.length c3) ∧ w'.cell? ⟨w.heap.size, 4, none⟩ = some (.slice A4 vs.length c4)) (ds := [10]) (bZ 11 0) (by kernel_rfl) rfl rfl ⟨y3, y4⟩ (fun hHeld => ?_); refine pU 1 (some 11) (bZ 11 2) rfl (by kernel_rfl) ?_; refine pU 5 (some 15) (bZ 11 34) rfl (by kernel_rfl) ?_; refine tU 2 (some 12) (bZ 11 38) rfl (by kernel_rfl) (Or.inl ⟨by rfl, by rintro w' ⟨s0, s1⟩; go_simp; with_reducible rfl⟩) hHeld ?_; refine tU 6 (some 16) (bZ 11 102) rfl (by kernel_rfl) (Or.inl ⟨by rfl, by rintro w' ⟨s0, s1⟩; go_simp; with_reducible rfl⟩) hHeld ?_; refine join_ (σ := Value × Value × Value × Value × Nat) 1 (bZ 11 1023) (fun s_ => [(10, s_.1), (13, s_.2.1), (14, s_.2.2.1), (17, s_.2.2.2.1), (7, .pointer (some ⟨s_.2.2.2.2, 0, none⟩)), (18, .agg #[.int .i64 5, .int .i64 0, .string ⟨#[]⟩, s_.2.1, s_.2.2.2.1])]) (fun s_ w' => (w'.cell? ⟨w.heap.size, 3, none⟩ = some (.slice A3 ks.length c3) ∧ w'.cell? ⟨w.heap.size, 4, none⟩ = some (.slice A4 vs.length c4)) ∧ Below W0.heap.size W0 w' ∧ HasZ W0 w' s_.2.2.2.2 ∧ ∃ bK bV, Has Kd.string 9 W0 w' s_.2.1 ks bK ∧ Has (held 5 Pf h5 h1) 25 W0 w' s_.2.2.2.1 vs bV ∧ bK ≠ s_.2.2.2.2 ∧ bV ≠ s_.2.2.2.2 ∧ bK ≠ bV) ?_ ?_; rotate_left
 ·intro hCont; refine three_ (i := 0) (j := 4) (k := 9) (Ni := some 10) (Nj := some 14) (Nk := some 7) (bZ 11 103) (bZ 11 118) (bZ 11 614) rfl rfl rfl rfl rfl rfl (by kernel_rfl) (by decide) (by decide) (by decide) (fun K hK => ?_) (fun K hK => ?_) (fun K hK => ?_)
  ·skip
   generalize W0.drew = q0 at HB0 hHeld ⊢; refine yr (w1 := ?_) (v := ?_) (by rfl) rfl ?_ ?_; rotate_left 2
   ·go_simp; constructor
    ·rfl
    ·rfl
   have HB1 := aM (zf HB0.out (.cells #[] 9)); have HK1 := aM (Has.new (d := Kd.string) (e := 9) HB0.out); generalize q0.alloc (.cells #[] 9) = q1 at HB1 HK1 ⊢; refine hK.out _ _ ⟨zk HB1.out HX3.out, zk HB1.out HX4.out⟩ (fun hHeld => ?_); clear hK K; refine zx (a' := ?_) ?_ ?_; rotate_left
   ·show Act.put _ (some 10) _ = _
    simp only [Act.put, sA, sB, sC, yb, yc]; rfl
   refine three_ (i := 3) (j := 4) (k := 9) (Ni := some 13) (Nj := some 14) (Nk := some 7) (bZ 11 111) (bZ 11 119) (bZ 11 615) rfl rfl rfl rfl rfl rfl (by kernel_rfl) (by decide) (by decide) (by decide) (fun K hK => ?_) (fun K hK => ?_) (fun K hK => ?_)
   ·skip
    refine Kd.R_append_rows_step Kd.string (w0 := W0) W0.heap.size rfl (.tmp 10) (.tmp 12) 22 9 (.string ⟨#[]⟩) 16 rfl Tryd.underlying22 yq rfl (show 0 < 1 by decide) (by decide) _ [] ks _ ks.length _ (fun _ => True) (fun _ => False) rfl rfl HK1.out.1 (show ReadsRow (fun (x : ByteArray) cs => cs = [Value.string x]) 1 _ _ _ _ from Kd.C_below HKS.out HB1.out) (fun _ _ h => h) (fun _ h => h.elim) (fun _ _ => trivial) HB1.out HB1.out.size (by simp only [List.length_nil]; omega) ?_; intro vK q2 ho hb hg hat; rw [List.nil_append] at ho; obtain ⟨AK, cK, rfl⟩ := Kd.R_slice ho; obtain ⟨bK, hk, hor⟩ := HK1.out.grew ho hg hat; have HK2 := aM hk; have HB2 := aM hb; clear ho hb hg hat hk hor; refine hK.out _ _ ⟨zk HB2.out HX3.out, zk HB2.out HX4.out⟩ (fun hHeld => ?_); clear hK K; refine zx (a' := ?_) ?_ ?_; rotate_left
    ·show Act.put _ (some 13) _ = _
     simp only [Act.put, sA, sB, sC, yb, yc]; rfl
    refine two_ (i := 4) (j := 9) (Ni := some 14) (Nj := some 7) (bZ 11 127) (bZ 11 623) rfl rfl rfl rfl (by kernel_rfl) (by decide) (by decide) (fun K hK => ?_) (fun K hK => ?_)
    ·skip
     refine yr (w1 := ?_) (v := ?_) (by rfl) rfl ?_ ?_; rotate_left 2
     ·go_simp; constructor
      ·rfl
      ·rfl
     have HB3 := aM (zf HB2.out (.cells #[] 25)); have HK3 := aM (HK2.out.alloc (.cells #[] 25)); have HV3 := aM (Has.new (d := held 5 Pf h5 h1) (e := 25) HB2.out); have nKV_3 := HK2.out.ne_new; generalize q2.alloc (.cells #[] 25) = q3 at HB3 HK3 HV3 ⊢; refine hK.out _ _ ⟨zk HB3.out HX3.out, zk HB3.out HX4.out⟩ (fun hHeld => ?_); clear hK K; refine zx (a' := ?_) ?_ ?_; rotate_left
     ·show Act.put _ (some 14) _ = _
      simp only [Act.put, sA, sB, sC, yb, yc]; rfl
     refine two_ (i := 7) (j := 9) (Ni := some 17) (Nj := some 7) (bZ 11 255) (bZ 11 639) rfl rfl rfl rfl (by kernel_rfl) (by decide) (by decide) (fun K hK => ?_) (fun K hK => ?_)
     ·skip
      refine Kd.R_append_rows_step (held 5 Pf h5 h1) (w0 := W0) W0.heap.size rfl (.tmp 14) (.tmp 16) 23 25 (.agg #[.int .i64 0, .int .i64 0, .string ⟨#[]⟩, .slice none 0 0, .slice none 0 0]) 80 rfl Tryd.underlying23 yz rfl (show 0 < 5 by decide) (by decide) _ [] vs _ vs.length _ (fun _ => True) (fun _ => False) rfl rfl HV3.out.1 (ReadsRow.imp_ HVS.out HB3.out (fun _ _ hp => hp)) (fun _ _ h => h) (fun _ h => h.elim) (fun _ _ => trivial) HB3.out HB3.out.size (by simp only [List.length_nil]; omega) ?_; intro vV q4 ho hb hg hat; rw [List.nil_append] at ho; obtain ⟨AV, cV, rfl⟩ := Kd.R_slice ho; obtain ⟨bV, hk, hor⟩ := HV3.out.grew ho hg hat; have HV4 := aM hk; have HB4 := aM hb; have HK4 := aM (HK3.out.grown (fun _ _ _ _ _ _ h => h) hg (nKV_3))
      have nKV_4 := (yh (nKV_3) (HK3.out.2.2.1) hor)
      clear ho hb hg hat hk hor; refine hK.out _ _ ⟨zk HB4.out HX3.out, zk HB4.out HX4.out⟩ (fun hHeld => ?_); clear hK K; refine zx (a' := ?_) ?_ ?_; rotate_left
      ·show Act.put _ (some 17) _ = _
       simp only [Act.put, sA, sB, sC, yb, yc]; rfl
      refine pU 8 (some 18) (bZ 11 511) rfl (by kernel_rfl) ?_; refine one_ (i := 9) (N := some 7) (bZ 11 1023) rfl rfl (by kernel_rfl) (by decide) (fun K hK => ?_); refine yr (w1 := ?_) (v := ?_) (by rfl) rfl ?_ ?_; rotate_left 2
      ·go_simp; constructor
       ·rfl
       ·rfl
      have HB5 := aM (zf HB4.out (.cells #[.int .i64 0, .int .i64 0, .string ⟨#[]⟩, .slice none 0 0, .slice none 0 0] 25)); have HK5 := aM (HK4.out.alloc (.cells #[.int .i64 0, .int .i64 0, .string ⟨#[]⟩, .slice none 0 0, .slice none 0 0] 25)); have HV5 := aM (HV4.out.alloc (.cells #[.int .i64 0, .int .i64 0, .string ⟨#[]⟩, .slice none 0 0, .slice none 0 0] 25)); have HZ5 := aM (show HasZ W0 (q4.alloc (.cells #[.int .i64 0, .int .i64 0, .string ⟨#[]⟩, .slice none 0 0, .slice none 0 0] 25)) q4.heap.size from HasZ.new HB4.out); have nKZ_5 := HK4.out.ne_new; have nVZ_5 := HV4.out.ne_new; have nKV_5 := nKV_4; generalize q4.alloc (.cells #[.int .i64 0, .int .i64 0, .string ⟨#[]⟩, .slice none 0 0, .slice none 0 0] 25) = q5 at HB5 HK5 HV5 HZ5 ⊢; refine hK.out _ _ ⟨zk HB5.out HX3.out, zk HB5.out HX4.out⟩ (fun hHeld => ?_); clear hK K; refine zx (a' := ?_) ?_ ?_; rotate_left
      ·show Act.put _ (some 7) _ = _
       simp only [Act.put, sA, sB, sC, yb, yc]; rfl
      exact zx (by first | (simp only [putAll, Act.put, sA, sB, sC]; done) | (simp only [putAll, Act.put, sA, sB, sC]; rfl)) (hCont ⟨.slice (some ⟨q0.heap.size, 0, none⟩) 0 0, .slice AK ks.length cK, .slice (some ⟨q2.heap.size, 0, none⟩) 0 0, .slice AV vs.length cV, q4.heap.size⟩ _ ⟨⟨zk HB5.out HX3.out, zk HB5.out HX4.out⟩, HB5.out, HZ5.out, _, _, HK5.out, HV5.out, nKZ_5, nVZ_5, nKV_5⟩)
     ·skip
      refine yr (w1 := ?_) (v := ?_) (by rfl) rfl ?_ ?_; rotate_left 2
      ·go_simp; constructor
       ·rfl
       ·rfl
      have HB4 := aM (zf HB3.out (.cells #[.int .i64 0, .int .i64 0, .string ⟨#[]⟩, .slice none 0 0, .slice none 0 0] 25)); have HK4 := aM (HK3.out.alloc (.cells #[.int .i64 0, .int .i64 0, .string ⟨#[]⟩, .slice none 0 0, .slice none 0 0] 25)); have HV4 := aM (HV3.out.alloc (.cells #[.int .i64 0, .int .i64 0, .string ⟨#[]⟩, .slice none 0 0, .slice none 0 0] 25)); have HZ4 := aM (show HasZ W0 (q3.alloc (.cells #[.int .i64 0, .int .i64 0, .string ⟨#[]⟩, .slice none 0 0, .slice none 0 0] 25)) q3.heap.size from HasZ.new HB3.out); have nKZ_4 := HK3.out.ne_new; have nVZ_4 := HV3.out.ne_new; have nKV_4 := nKV_3; generalize q3.alloc (.cells #[.int .i64 0, .int .i64 0, .string ⟨#[]⟩, .slice none 0 0, .slice none 0 0] 25) = q4 at HB4 HK4 HV4 HZ4 ⊢; refine hK.out _ _ ⟨zk HB4.out HX3.out, zk HB4.out HX4.out⟩ (fun hHeld => ?_); clear hK K; refine zx (a' := ?_) ?_ ?_; rotate_left
      ·show Act.put _ (some 7) _ = _
       simp only [Act.put, sA, sB, sC, yb, yc]; rfl
      refine one_ (i := 7) (N := some 17) (bZ 11 767) rfl rfl (by kernel_rfl) (by decide) (fun K hK => ?_); refine Kd.R_append_rows_step (held 5 Pf h5 h1) (w0 := W0) W0.heap.size rfl (.tmp 14) (.tmp 16) 23 25 (.agg #[.int .i64 0, .int .i64 0, .string ⟨#[]⟩, .slice none 0 0, .slice none 0 0]) 80 rfl Tryd.underlying23 yz rfl (show 0 < 5 by decide) (by decide) _ [] vs _ vs.length _ (fun _ => True) (fun _ => False) rfl rfl HV4.out.1 (ReadsRow.imp_ HVS.out HB4.out (fun _ _ hp => hp)) (fun _ _ h => h) (fun _ h => h.elim) (fun _ _ => trivial) HB4.out HB4.out.size (by simp only [List.length_nil]; omega) ?_; intro vV q5 ho hb hg hat; rw [List.nil_append] at ho; obtain ⟨AV, cV, rfl⟩ := Kd.R_slice ho; obtain ⟨bV, hk, hor⟩ := HV4.out.grew ho hg hat; have HV5 := aM hk; have HB5 := aM hb; have HK5 := aM (HK4.out.grown (fun _ _ _ _ _ _ h => h) hg (nKV_4))
      have nKV_5 := (yh (nKV_4) (HK4.out.2.2.1) hor)
      have HZ5 := aM (HZ4.out.grown hg (nVZ_4.symm)); have nVZ_5 := (yh (nVZ_4.symm) (yd HZ4.out.1) hor).symm; have nKZ_5 := nKZ_4; clear ho hb hg hat hk hor; refine hK.out _ _ ⟨zk HB5.out HX3.out, zk HB5.out HX4.out⟩ (fun hHeld => ?_); clear hK K; refine zx (a' := ?_) ?_ ?_; rotate_left
      ·show Act.put _ (some 17) _ = _
       simp only [Act.put, sA, sB, sC, yb, yc]; rfl
      refine pU 8 (some 18) (bZ 11 1023) rfl (by kernel_rfl) ?_; exact zx (by first | (simp only [putAll, Act.put, sA, sB, sC]; done) | (simp only [putAll, Act.put, sA, sB, sC]; rfl)) (hCont ⟨.slice (some ⟨q0.heap.size, 0, none⟩) 0 0, .slice AK ks.length cK, .slice (some ⟨q2.heap.size, 0, none⟩) 0 0, .slice AV vs.length cV, q3.heap.size⟩ _ ⟨⟨zk HB5.out HX3.out, zk HB5.out HX4.out⟩, HB5.out, HZ5.out, _, _, HK5.out, HV5.out, nKZ_5, nVZ_5, nKV_5⟩)
    ·skip
     refine yr (w1 := ?_) (v := ?_) (by rfl) rfl ?_ ?_; rotate_left 2
     ·go_simp; constructor
      ·rfl
      ·rfl
     have HB3 := aM (zf HB2.out (.cells #[.int .i64 0, .int .i64 0, .string ⟨#[]⟩, .slice none 0 0, .slice none 0 0] 25)); have HK3 := aM (HK2.out.alloc (.cells #[.int .i64 0, .int .i64 0, .string ⟨#[]⟩, .slice none 0 0, .slice none 0 0] 25)); have HZ3 := aM (show HasZ W0 (q2.alloc (.cells #[.int .i64 0, .int .i64 0, .string ⟨#[]⟩, .slice none 0 0, .slice none 0 0] 25)) q2.heap.size from HasZ.new HB2.out); have nKZ_3 := HK2.out.ne_new; generalize q2.alloc (.cells #[.int .i64 0, .int .i64 0, .string ⟨#[]⟩, .slice none 0 0, .slice none 0 0] 25) = q3 at HB3 HK3 HZ3 ⊢; refine hK.out _ _ ⟨zk HB3.out HX3.out, zk HB3.out HX4.out⟩ (fun hHeld => ?_); clear hK K; refine zx (a' := ?_) ?_ ?_; rotate_left
     ·show Act.put _ (some 7) _ = _
      simp only [Act.put, sA, sB, sC, yb, yc]; rfl
     refine one_ (i := 4) (N := some 14) (bZ 11 639) rfl rfl (by kernel_rfl) (by decide) (fun K hK => ?_); refine yr (w1 := ?_) (v := ?_) (by rfl) rfl ?_ ?_; rotate_left 2
     ·go_simp; constructor
      ·rfl
      ·rfl
     have HB4 := aM (zf HB3.out (.cells #[] 25)); have HK4 := aM (HK3.out.alloc (.cells #[] 25)); have HZ4 := aM (HZ3.out.alloc (.cells #[] 25)); have HV4 := aM (Has.new (d := held 5 Pf h5 h1) (e := 25) HB3.out); have nKV_4 := HK3.out.ne_new; have nVZ_4 := HZ3.out.ne_new.symm; have nKZ_4 := nKZ_3; generalize q3.alloc (.cells #[] 25) = q4 at HB4 HK4 HZ4 HV4 ⊢; refine hK.out _ _ ⟨zk HB4.out HX3.out, zk HB4.out HX4.out⟩ (fun hHeld => ?_); clear hK K; refine zx (a' := ?_) ?_ ?_; rotate_left
     ·show Act.put _ (some 14) _ = _
      simp only [Act.put, sA, sB, sC, yb, yc]; rfl
     refine one_ (i := 7) (N := some 17) (bZ 11 767) rfl rfl (by kernel_rfl) (by decide) (fun K hK => ?_); refine Kd.R_append_rows_step (held 5 Pf h5 h1) (w0 := W0) W0.heap.size rfl (.tmp 14) (.tmp 16) 23 25 (.agg #[.int .i64 0, .int .i64 0, .string ⟨#[]⟩, .slice none 0 0, .slice none 0 0]) 80 rfl Tryd.underlying23 yz rfl (show 0 < 5 by decide) (by decide) _ [] vs _ vs.length _ (fun _ => True) (fun _ => False) rfl rfl HV4.out.1 (ReadsRow.imp_ HVS.out HB4.out (fun _ _ hp => hp)) (fun _ _ h => h) (fun _ h => h.elim) (fun _ _ => trivial) HB4.out HB4.out.size (by simp only [List.length_nil]; omega) ?_; intro vV q5 ho hb hg hat; rw [List.nil_append] at ho; obtain ⟨AV, cV, rfl⟩ := Kd.R_slice ho; obtain ⟨bV, hk, hor⟩ := HV4.out.grew ho hg hat; have HV5 := aM hk; have HB5 := aM hb; have HK5 := aM (HK4.out.grown (fun _ _ _ _ _ _ h => h) hg (nKV_4))
     have nKV_5 := (yh (nKV_4) (HK4.out.2.2.1) hor)
     have HZ5 := aM (HZ4.out.grown hg (nVZ_4.symm)); have nVZ_5 := (yh (nVZ_4.symm) (yd HZ4.out.1) hor).symm; have nKZ_5 := nKZ_4; clear ho hb hg hat hk hor; refine hK.out _ _ ⟨zk HB5.out HX3.out, zk HB5.out HX4.out⟩ (fun hHeld => ?_); clear hK K; refine zx (a' := ?_) ?_ ?_; rotate_left
     ·show Act.put _ (some 17) _ = _
      simp only [Act.put, sA, sB, sC, yb, yc]; rfl
     refine pU 8 (some 18) (bZ 11 1023) rfl (by kernel_rfl) ?_; exact zx (by first | (simp only [putAll, Act.put, sA, sB, sC]; done) | (simp only [putAll, Act.put, sA, sB, sC]; rfl)) (hCont ⟨.slice (some ⟨q0.heap.size, 0, none⟩) 0 0, .slice AK ks.length cK, .slice (some ⟨q3.heap.size, 0, none⟩) 0 0, .slice AV vs.length cV, q2.heap.size⟩ _ ⟨⟨zk HB5.out HX3.out, zk HB5.out HX4.out⟩, HB5.out, HZ5.out, _, _, HK5.out, HV5.out, nKZ_5, nVZ_5, nKV_5⟩)
   ·skip
    refine yr (w1 := ?_) (v := ?_) (by rfl) rfl ?_ ?_; rotate_left 2
    ·go_simp; constructor
     ·rfl
     ·rfl
    have HB2 := aM (zf HB1.out (.cells #[] 25)); have HK2 := aM (HK1.out.alloc (.cells #[] 25)); have HV2 := aM (Has.new (d := held 5 Pf h5 h1) (e := 25) HB1.out); have nKV_2 := HK1.out.ne_new; generalize q1.alloc (.cells #[] 25) = q2 at HB2 HK2 HV2 ⊢; refine hK.out _ _ ⟨zk HB2.out HX3.out, zk HB2.out HX4.out⟩ (fun hHeld => ?_); clear hK K; refine zx (a' := ?_) ?_ ?_; rotate_left
    ·show Act.put _ (some 14) _ = _
     simp only [Act.put, sA, sB, sC, yb, yc]; rfl
    refine two_ (i := 3) (j := 9) (Ni := some 13) (Nj := some 7) (bZ 11 127) (bZ 11 631) rfl rfl rfl rfl (by kernel_rfl) (by decide) (by decide) (fun K hK => ?_) (fun K hK => ?_)
    ·skip
     refine Kd.R_append_rows_step Kd.string (w0 := W0) W0.heap.size rfl (.tmp 10) (.tmp 12) 22 9 (.string ⟨#[]⟩) 16 rfl Tryd.underlying22 yq rfl (show 0 < 1 by decide) (by decide) _ [] ks _ ks.length _ (fun _ => True) (fun _ => False) rfl rfl HK2.out.1 (show ReadsRow (fun (x : ByteArray) cs => cs = [Value.string x]) 1 _ _ _ _ from Kd.C_below HKS.out HB2.out) (fun _ _ h => h) (fun _ h => h.elim) (fun _ _ => trivial) HB2.out HB2.out.size (by simp only [List.length_nil]; omega) ?_; intro vK q3 ho hb hg hat; rw [List.nil_append] at ho; obtain ⟨AK, cK, rfl⟩ := Kd.R_slice ho; obtain ⟨bK, hk, hor⟩ := HK2.out.grew ho hg hat; have HK3 := aM hk; have HB3 := aM hb; have HV3 := aM (HV2.out.grown (fun _ _ _ _ _ _ h => h) hg (nKV_2.symm)); have nKV_3 := (yh (nKV_2.symm) (HV2.out.2.2.1) hor).symm; clear ho hb hg hat hk hor; refine hK.out _ _ ⟨zk HB3.out HX3.out, zk HB3.out HX4.out⟩ (fun hHeld => ?_); clear hK K; refine zx (a' := ?_) ?_ ?_; rotate_left
     ·show Act.put _ (some 13) _ = _
      simp only [Act.put, sA, sB, sC, yb, yc]; rfl
     refine two_ (i := 7) (j := 9) (Ni := some 17) (Nj := some 7) (bZ 11 255) (bZ 11 639) rfl rfl rfl rfl (by kernel_rfl) (by decide) (by decide) (fun K hK => ?_) (fun K hK => ?_)
     ·skip
      refine Kd.R_append_rows_step (held 5 Pf h5 h1) (w0 := W0) W0.heap.size rfl (.tmp 14) (.tmp 16) 23 25 (.agg #[.int .i64 0, .int .i64 0, .string ⟨#[]⟩, .slice none 0 0, .slice none 0 0]) 80 rfl Tryd.underlying23 yz rfl (show 0 < 5 by decide) (by decide) _ [] vs _ vs.length _ (fun _ => True) (fun _ => False) rfl rfl HV3.out.1 (ReadsRow.imp_ HVS.out HB3.out (fun _ _ hp => hp)) (fun _ _ h => h) (fun _ h => h.elim) (fun _ _ => trivial) HB3.out HB3.out.size (by simp only [List.length_nil]; omega) ?_; intro vV q4 ho hb hg hat; rw [List.nil_append] at ho; obtain ⟨AV, cV, rfl⟩ := Kd.R_slice ho; obtain ⟨bV, hk, hor⟩ := HV3.out.grew ho hg hat; have HV4 := aM hk; have HB4 := aM hb; have HK4 := aM (HK3.out.grown (fun _ _ _ _ _ _ h => h) hg (nKV_3))
      have nKV_4 := (yh (nKV_3) (HK3.out.2.2.1) hor)
      clear ho hb hg hat hk hor; refine hK.out _ _ ⟨zk HB4.out HX3.out, zk HB4.out HX4.out⟩ (fun hHeld => ?_); clear hK K; refine zx (a' := ?_) ?_ ?_; rotate_left
      ·show Act.put _ (some 17) _ = _
       simp only [Act.put, sA, sB, sC, yb, yc]; rfl
      refine pU 8 (some 18) (bZ 11 511) rfl (by kernel_rfl) ?_; refine one_ (i := 9) (N := some 7) (bZ 11 1023) rfl rfl (by kernel_rfl) (by decide) (fun K hK => ?_); refine yr (w1 := ?_) (v := ?_) (by rfl) rfl ?_ ?_; rotate_left 2
      ·go_simp; constructor
       ·rfl
       ·rfl
      have HB5 := aM (zf HB4.out (.cells #[.int .i64 0, .int .i64 0, .string ⟨#[]⟩, .slice none 0 0, .slice none 0 0] 25)); have HK5 := aM (HK4.out.alloc (.cells #[.int .i64 0, .int .i64 0, .string ⟨#[]⟩, .slice none 0 0, .slice none 0 0] 25)); have HV5 := aM (HV4.out.alloc (.cells #[.int .i64 0, .int .i64 0, .string ⟨#[]⟩, .slice none 0 0, .slice none 0 0] 25)); have HZ5 := aM (show HasZ W0 (q4.alloc (.cells #[.int .i64 0, .int .i64 0, .string ⟨#[]⟩, .slice none 0 0, .slice none 0 0] 25)) q4.heap.size from HasZ.new HB4.out); have nKZ_5 := HK4.out.ne_new; have nVZ_5 := HV4.out.ne_new; have nKV_5 := nKV_4; generalize q4.alloc (.cells #[.int .i64 0, .int .i64 0, .string ⟨#[]⟩, .slice none 0 0, .slice none 0 0] 25) = q5 at HB5 HK5 HV5 HZ5 ⊢; refine hK.out _ _ ⟨zk HB5.out HX3.out, zk HB5.out HX4.out⟩ (fun hHeld => ?_); clear hK K; refine zx (a' := ?_) ?_ ?_; rotate_left
      ·show Act.put _ (some 7) _ = _
       simp only [Act.put, sA, sB, sC, yb, yc]; rfl
      exact zx (by first | (simp only [putAll, Act.put, sA, sB, sC]; done) | (simp only [putAll, Act.put, sA, sB, sC]; rfl)) (hCont ⟨.slice (some ⟨q0.heap.size, 0, none⟩) 0 0, .slice AK ks.length cK, .slice (some ⟨q1.heap.size, 0, none⟩) 0 0, .slice AV vs.length cV, q4.heap.size⟩ _ ⟨⟨zk HB5.out HX3.out, zk HB5.out HX4.out⟩, HB5.out, HZ5.out, _, _, HK5.out, HV5.out, nKZ_5, nVZ_5, nKV_5⟩)
     ·skip
      refine yr (w1 := ?_) (v := ?_) (by rfl) rfl ?_ ?_; rotate_left 2
      ·go_simp; constructor
       ·rfl
       ·rfl
      have HB4 := aM (zf HB3.out (.cells #[.int .i64 0, .int .i64 0, .string ⟨#[]⟩, .slice none 0 0, .slice none 0 0] 25)); have HK4 := aM (HK3.out.alloc (.cells #[.int .i64 0, .int .i64 0, .string ⟨#[]⟩, .slice none 0 0, .slice none 0 0] 25)); have HV4 := aM (HV3.out.alloc (.cells #[.int .i64 0, .int .i64 0, .string ⟨#[]⟩, .slice none 0 0, .slice none 0 0] 25)); have HZ4 := aM (show HasZ W0 (q3.alloc (.cells #[.int .i64 0, .int .i64 0, .string ⟨#[]⟩, .slice none 0 0, .slice none 0 0] 25)) q3.heap.size from HasZ.new HB3.out); have nKZ_4 := HK3.out.ne_new; have nVZ_4 := HV3.out.ne_new; have nKV_4 := nKV_3; generalize q3.alloc (.cells #[.int .i64 0, .int .i64 0, .string ⟨#[]⟩, .slice none 0 0, .slice none 0 0] 25) = q4 at HB4 HK4 HV4 HZ4 ⊢; refine hK.out _ _ ⟨zk HB4.out HX3.out, zk HB4.out HX4.out⟩ (fun hHeld => ?_); clear hK K; refine zx (a' := ?_) ?_ ?_; rotate_left
      ·show Act.put _ (some 7) _ = _
       simp only [Act.put, sA, sB, sC, yb, yc]; rfl
      refine one_ (i := 7) (N := some 17) (bZ 11 767) rfl rfl (by kernel_rfl) (by decide) (fun K hK => ?_); refine Kd.R_append_rows_step (held 5 Pf h5 h1) (w0 := W0) W0.heap.size rfl (.tmp 14) (.tmp 16) 23 25 (.agg #[.int .i64 0, .int .i64 0, .string ⟨#[]⟩, .slice none 0 0, .slice none 0 0]) 80 rfl Tryd.underlying23 yz rfl (show 0 < 5 by decide) (by decide) _ [] vs _ vs.length _ (fun _ => True) (fun _ => False) rfl rfl HV4.out.1 (ReadsRow.imp_ HVS.out HB4.out (fun _ _ hp => hp)) (fun _ _ h => h) (fun _ h => h.elim) (fun _ _ => trivial) HB4.out HB4.out.size (by simp only [List.length_nil]; omega) ?_; intro vV q5 ho hb hg hat; rw [List.nil_append] at ho; obtain ⟨AV, cV, rfl⟩ := Kd.R_slice ho; obtain ⟨bV, hk, hor⟩ := HV4.out.grew ho hg hat; have HV5 := aM hk; have HB5 := aM hb; have HK5 := aM (HK4.out.grown (fun _ _ _ _ _ _ h => h) hg (nKV_4))
      have nKV_5 := (yh (nKV_4) (HK4.out.2.2.1) hor)
      have HZ5 := aM (HZ4.out.grown hg (nVZ_4.symm)); have nVZ_5 := (yh (nVZ_4.symm) (yd HZ4.out.1) hor).symm; have nKZ_5 := nKZ_4; clear ho hb hg hat hk hor; refine hK.out _ _ ⟨zk HB5.out HX3.out, zk HB5.out HX4.out⟩ (fun hHeld => ?_); clear hK K; refine zx (a' := ?_) ?_ ?_; rotate_left
      ·show Act.put _ (some 17) _ = _
       simp only [Act.put, sA, sB, sC, yb, yc]; rfl
      refine pU 8 (some 18) (bZ 11 1023) rfl (by kernel_rfl) ?_; exact zx (by first | (simp only [putAll, Act.put, sA, sB, sC]; done) | (simp only [putAll, Act.put, sA, sB, sC]; rfl)) (hCont ⟨.slice (some ⟨q0.heap.size, 0, none⟩) 0 0, .slice AK ks.length cK, .slice (some ⟨q1.heap.size, 0, none⟩) 0 0, .slice AV vs.length cV, q3.heap.size⟩ _ ⟨⟨zk HB5.out HX3.out, zk HB5.out HX4.out⟩, HB5.out, HZ5.out, _, _, HK5.out, HV5.out, nKZ_5, nVZ_5, nKV_5⟩)
    ·skip
     refine yr (w1 := ?_) (v := ?_) (by rfl) rfl ?_ ?_; rotate_left 2
     ·go_simp; constructor
      ·rfl
      ·rfl
     have HB3 := aM (zf HB2.out (.cells #[.int .i64 0, .int .i64 0, .string ⟨#[]⟩, .slice none 0 0, .slice none 0 0] 25)); have HK3 := aM (HK2.out.alloc (.cells #[.int .i64 0, .int .i64 0, .string ⟨#[]⟩, .slice none 0 0, .slice none 0 0] 25)); have HV3 := aM (HV2.out.alloc (.cells #[.int .i64 0, .int .i64 0, .string ⟨#[]⟩, .slice none 0 0, .slice none 0 0] 25)); have HZ3 := aM (show HasZ W0 (q2.alloc (.cells #[.int .i64 0, .int .i64 0, .string ⟨#[]⟩, .slice none 0 0, .slice none 0 0] 25)) q2.heap.size from HasZ.new HB2.out); have nKZ_3 := HK2.out.ne_new; have nVZ_3 := HV2.out.ne_new; have nKV_3 := nKV_2; generalize q2.alloc (.cells #[.int .i64 0, .int .i64 0, .string ⟨#[]⟩, .slice none 0 0, .slice none 0 0] 25) = q3 at HB3 HK3 HV3 HZ3 ⊢; refine hK.out _ _ ⟨zk HB3.out HX3.out, zk HB3.out HX4.out⟩ (fun hHeld => ?_); clear hK K; refine zx (a' := ?_) ?_ ?_; rotate_left
     ·show Act.put _ (some 7) _ = _
      simp only [Act.put, sA, sB, sC, yb, yc]; rfl
     refine one_ (i := 3) (N := some 13) (bZ 11 639) rfl rfl (by kernel_rfl) (by decide) (fun K hK => ?_); refine Kd.R_append_rows_step Kd.string (w0 := W0) W0.heap.size rfl (.tmp 10) (.tmp 12) 22 9 (.string ⟨#[]⟩) 16 rfl Tryd.underlying22 yq rfl (show 0 < 1 by decide) (by decide) _ [] ks _ ks.length _ (fun _ => True) (fun _ => False) rfl rfl HK3.out.1 (show ReadsRow (fun (x : ByteArray) cs => cs = [Value.string x]) 1 _ _ _ _ from Kd.C_below HKS.out HB3.out) (fun _ _ h => h) (fun _ h => h.elim) (fun _ _ => trivial) HB3.out HB3.out.size (by simp only [List.length_nil]; omega) ?_; intro vK q4 ho hb hg hat; rw [List.nil_append] at ho; obtain ⟨AK, cK, rfl⟩ := Kd.R_slice ho; obtain ⟨bK, hk, hor⟩ := HK3.out.grew ho hg hat; have HK4 := aM hk; have HB4 := aM hb; have HV4 := aM (HV3.out.grown (fun _ _ _ _ _ _ h => h) hg (nKV_3.symm)); have nKV_4 := (yh (nKV_3.symm) (HV3.out.2.2.1) hor).symm; have HZ4 := aM (HZ3.out.grown hg (nKZ_3.symm)); have nKZ_4 := (yh (nKZ_3.symm) (yd HZ3.out.1) hor).symm; have nVZ_4 := nVZ_3; clear ho hb hg hat hk hor; refine hK.out _ _ ⟨zk HB4.out HX3.out, zk HB4.out HX4.out⟩ (fun hHeld => ?_); clear hK K; refine zx (a' := ?_) ?_ ?_; rotate_left
     ·show Act.put _ (some 13) _ = _
      simp only [Act.put, sA, sB, sC, yb, yc]; rfl
     refine one_ (i := 7) (N := some 17) (bZ 11 767) rfl rfl (by kernel_rfl) (by decide) (fun K hK => ?_); refine Kd.R_append_rows_step (held 5 Pf h5 h1) (w0 := W0) W0.heap.size rfl (.tmp 14) (.tmp 16) 23 25 (.agg #[.int .i64 0, .int .i64 0, .string ⟨#[]⟩, .slice none 0 0, .slice none 0 0]) 80 rfl Tryd.underlying23 yz rfl (show 0 < 5 by decide) (by decide) _ [] vs _ vs.length _ (fun _ => True) (fun _ => False) rfl rfl HV4.out.1 (ReadsRow.imp_ HVS.out HB4.out (fun _ _ hp => hp)) (fun _ _ h => h) (fun _ h => h.elim) (fun _ _ => trivial) HB4.out HB4.out.size (by simp only [List.length_nil]; omega) ?_; intro vV q5 ho hb hg hat; rw [List.nil_append] at ho; obtain ⟨AV, cV, rfl⟩ := Kd.R_slice ho; obtain ⟨bV, hk, hor⟩ := HV4.out.grew ho hg hat; have HV5 := aM hk; have HB5 := aM hb; have HK5 := aM (HK4.out.grown (fun _ _ _ _ _ _ h => h) hg (nKV_4))
     have nKV_5 := (yh (nKV_4) (HK4.out.2.2.1) hor)
     have HZ5 := aM (HZ4.out.grown hg (nVZ_4.symm)); have nVZ_5 := (yh (nVZ_4.symm) (yd HZ4.out.1) hor).symm; have nKZ_5 := nKZ_4; clear ho hb hg hat hk hor; refine hK.out _ _ ⟨zk HB5.out HX3.out, zk HB5.out HX4.out⟩ (fun hHeld => ?_); clear hK K; refine zx (a' := ?_) ?_ ?_; rotate_left
     ·show Act.put _ (some 17) _ = _
      simp only [Act.put, sA, sB, sC, yb, yc]; rfl
     refine pU 8 (some 18) (bZ 11 1023) rfl (by kernel_rfl) ?_; exact zx (by first | (simp only [putAll, Act.put, sA, sB, sC]; done) | (simp only [putAll, Act.put, sA, sB, sC]; rfl)) (hCont ⟨.slice (some ⟨q0.heap.size, 0, none⟩) 0 0, .slice AK ks.length cK, .slice (some ⟨q1.heap.size, 0, none⟩) 0 0, .slice AV vs.length cV, q2.heap.size⟩ _ ⟨⟨zk HB5.out HX3.out, zk HB5.out HX4.out⟩, HB5.out, HZ5.out, _, _, HK5.out, HV5.out, nKZ_5, nVZ_5, nKV_5⟩)
   ·skip
    refine yr (w1 := ?_) (v := ?_) (by rfl) rfl ?_ ?_; rotate_left 2
    ·go_simp; constructor
     ·rfl
     ·rfl
    have HB2 := aM (zf HB1.out (.cells #[.int .i64 0, .int .i64 0, .string ⟨#[]⟩, .slice none 0 0, .slice none 0 0] 25)); have HK2 := aM (HK1.out.alloc (.cells #[.int .i64 0, .int .i64 0, .string ⟨#[]⟩, .slice none 0 0, .slice none 0 0] 25)); have HZ2 := aM (show HasZ W0 (q1.alloc (.cells #[.int .i64 0, .int .i64 0, .string ⟨#[]⟩, .slice none 0 0, .slice none 0 0] 25)) q1.heap.size from HasZ.new HB1.out); have nKZ_2 := HK1.out.ne_new; generalize q1.alloc (.cells #[.int .i64 0, .int .i64 0, .string ⟨#[]⟩, .slice none 0 0, .slice none 0 0] 25) = q2 at HB2 HK2 HZ2 ⊢; refine hK.out _ _ ⟨zk HB2.out HX3.out, zk HB2.out HX4.out⟩ (fun hHeld => ?_); clear hK K; refine zx (a' := ?_) ?_ ?_; rotate_left
    ·show Act.put _ (some 7) _ = _
     simp only [Act.put, sA, sB, sC, yb, yc]; rfl
    refine two_ (i := 3) (j := 4) (Ni := some 13) (Nj := some 14) (bZ 11 623) (bZ 11 631) rfl rfl rfl rfl (by kernel_rfl) (by decide) (by decide) (fun K hK => ?_) (fun K hK => ?_)
    ·skip
     refine Kd.R_append_rows_step Kd.string (w0 := W0) W0.heap.size rfl (.tmp 10) (.tmp 12) 22 9 (.string ⟨#[]⟩) 16 rfl Tryd.underlying22 yq rfl (show 0 < 1 by decide) (by decide) _ [] ks _ ks.length _ (fun _ => True) (fun _ => False) rfl rfl HK2.out.1 (show ReadsRow (fun (x : ByteArray) cs => cs = [Value.string x]) 1 _ _ _ _ from Kd.C_below HKS.out HB2.out) (fun _ _ h => h) (fun _ h => h.elim) (fun _ _ => trivial) HB2.out HB2.out.size (by simp only [List.length_nil]; omega) ?_; intro vK q3 ho hb hg hat; rw [List.nil_append] at ho; obtain ⟨AK, cK, rfl⟩ := Kd.R_slice ho; obtain ⟨bK, hk, hor⟩ := HK2.out.grew ho hg hat; have HK3 := aM hk; have HB3 := aM hb; have HZ3 := aM (HZ2.out.grown hg (nKZ_2.symm)); have nKZ_3 := (yh (nKZ_2.symm) (yd HZ2.out.1) hor).symm; clear ho hb hg hat hk hor; refine hK.out _ _ ⟨zk HB3.out HX3.out, zk HB3.out HX4.out⟩ (fun hHeld => ?_); clear hK K; refine zx (a' := ?_) ?_ ?_; rotate_left
     ·show Act.put _ (some 13) _ = _
      simp only [Act.put, sA, sB, sC, yb, yc]; rfl
     refine one_ (i := 4) (N := some 14) (bZ 11 639) rfl rfl (by kernel_rfl) (by decide) (fun K hK => ?_); refine yr (w1 := ?_) (v := ?_) (by rfl) rfl ?_ ?_; rotate_left 2
     ·go_simp; constructor
      ·rfl
      ·rfl
     have HB4 := aM (zf HB3.out (.cells #[] 25)); have HK4 := aM (HK3.out.alloc (.cells #[] 25)); have HZ4 := aM (HZ3.out.alloc (.cells #[] 25)); have HV4 := aM (Has.new (d := held 5 Pf h5 h1) (e := 25) HB3.out); have nKV_4 := HK3.out.ne_new; have nVZ_4 := HZ3.out.ne_new.symm; have nKZ_4 := nKZ_3; generalize q3.alloc (.cells #[] 25) = q4 at HB4 HK4 HZ4 HV4 ⊢; refine hK.out _ _ ⟨zk HB4.out HX3.out, zk HB4.out HX4.out⟩ (fun hHeld => ?_); clear hK K; refine zx (a' := ?_) ?_ ?_; rotate_left
     ·show Act.put _ (some 14) _ = _
      simp only [Act.put, sA, sB, sC, yb, yc]; rfl
     refine one_ (i := 7) (N := some 17) (bZ 11 767) rfl rfl (by kernel_rfl) (by decide) (fun K hK => ?_); refine Kd.R_append_rows_step (held 5 Pf h5 h1) (w0 := W0) W0.heap.size rfl (.tmp 14) (.tmp 16) 23 25 (.agg #[.int .i64 0, .int .i64 0, .string ⟨#[]⟩, .slice none 0 0, .slice none 0 0]) 80 rfl Tryd.underlying23 yz rfl (show 0 < 5 by decide) (by decide) _ [] vs _ vs.length _ (fun _ => True) (fun _ => False) rfl rfl HV4.out.1 (ReadsRow.imp_ HVS.out HB4.out (fun _ _ hp => hp)) (fun _ _ h => h) (fun _ h => h.elim) (fun _ _ => trivial) HB4.out HB4.out.size (by simp only [List.length_nil]; omega) ?_; intro vV q5 ho hb hg hat; rw [List.nil_append] at ho; obtain ⟨AV, cV, rfl⟩ := Kd.R_slice ho; obtain ⟨bV, hk, hor⟩ := HV4.out.grew ho hg hat; have HV5 := aM hk; have HB5 := aM hb; have HK5 := aM (HK4.out.grown (fun _ _ _ _ _ _ h => h) hg (nKV_4))
     have nKV_5 := (yh (nKV_4) (HK4.out.2.2.1) hor)
     have HZ5 := aM (HZ4.out.grown hg (nVZ_4.symm)); have nVZ_5 := (yh (nVZ_4.symm) (yd HZ4.out.1) hor).symm; have nKZ_5 := nKZ_4; clear ho hb hg hat hk hor; refine hK.out _ _ ⟨zk HB5.out HX3.out, zk HB5.out HX4.out⟩ (fun hHeld => ?_); clear hK K; refine zx (a' := ?_) ?_ ?_; rotate_left
     ·show Act.put _ (some 17) _ = _
      simp only [Act.put, sA, sB, sC, yb, yc]; rfl
     refine pU 8 (some 18) (bZ 11 1023) rfl (by kernel_rfl) ?_; exact zx (by first | (simp only [putAll, Act.put, sA, sB, sC]; done) | (simp only [putAll, Act.put, sA, sB, sC]; rfl)) (hCont ⟨.slice (some ⟨q0.heap.size, 0, none⟩) 0 0, .slice AK ks.length cK, .slice (some ⟨q3.heap.size, 0, none⟩) 0 0, .slice AV vs.length cV, q1.heap.size⟩ _ ⟨⟨zk HB5.out HX3.out, zk HB5.out HX4.out⟩, HB5.out, HZ5.out, _, _, HK5.out, HV5.out, nKZ_5, nVZ_5, nKV_5⟩)
    ·skip
     refine yr (w1 := ?_) (v := ?_) (by rfl) rfl ?_ ?_; rotate_left 2
     ·go_simp; constructor
      ·rfl
      ·rfl
     have HB3 := aM (zf HB2.out (.cells #[] 25)); have HK3 := aM (HK2.out.alloc (.cells #[] 25)); have HZ3 := aM (HZ2.out.alloc (.cells #[] 25)); have HV3 := aM (Has.new (d := held 5 Pf h5 h1) (e := 25) HB2.out); have nKV_3 := HK2.out.ne_new; have nVZ_3 := HZ2.out.ne_new.symm; have nKZ_3 := nKZ_2; generalize q2.alloc (.cells #[] 25) = q3 at HB3 HK3 HZ3 HV3 ⊢; refine hK.out _ _ ⟨zk HB3.out HX3.out, zk HB3.out HX4.out⟩ (fun hHeld => ?_); clear hK K; refine zx (a' := ?_) ?_ ?_; rotate_left
     ·show Act.put _ (some 14) _ = _
      simp only [Act.put, sA, sB, sC, yb, yc]; rfl
     refine one_ (i := 3) (N := some 13) (bZ 11 639) rfl rfl (by kernel_rfl) (by decide) (fun K hK => ?_); refine Kd.R_append_rows_step Kd.string (w0 := W0) W0.heap.size rfl (.tmp 10) (.tmp 12) 22 9 (.string ⟨#[]⟩) 16 rfl Tryd.underlying22 yq rfl (show 0 < 1 by decide) (by decide) _ [] ks _ ks.length _ (fun _ => True) (fun _ => False) rfl rfl HK3.out.1 (show ReadsRow (fun (x : ByteArray) cs => cs = [Value.string x]) 1 _ _ _ _ from Kd.C_below HKS.out HB3.out) (fun _ _ h => h) (fun _ h => h.elim) (fun _ _ => trivial) HB3.out HB3.out.size (by simp only [List.length_nil]; omega) ?_; intro vK q4 ho hb hg hat; rw [List.nil_append] at ho; obtain ⟨AK, cK, rfl⟩ := Kd.R_slice ho; obtain ⟨bK, hk, hor⟩ := HK3.out.grew ho hg hat; have HK4 := aM hk; have HB4 := aM hb; have HV4 := aM (HV3.out.grown (fun _ _ _ _ _ _ h => h) hg (nKV_3.symm)); have nKV_4 := (yh (nKV_3.symm) (HV3.out.2.2.1) hor).symm; have HZ4 := aM (HZ3.out.grown hg (nKZ_3.symm)); have nKZ_4 := (yh (nKZ_3.symm) (yd HZ3.out.1) hor).symm; have nVZ_4 := nVZ_3; clear ho hb hg hat hk hor; refine hK.out _ _ ⟨zk HB4.out HX3.out, zk HB4.out HX4.out⟩ (fun hHeld => ?_); clear hK K; refine zx (a' := ?_) ?_ ?_; rotate_left
     ·show Act.put _ (some 13) _ = _
      simp only [Act.put, sA, sB, sC, yb, yc]; rfl
     refine one_ (i := 7) (N := some 17) (bZ 11 767) rfl rfl (by kernel_rfl) (by decide) (fun K hK => ?_); refine Kd.R_append_rows_step (held 5 Pf h5 h1) (w0 := W0) W0.heap.size rfl (.tmp 14) (.tmp 16) 23 25 (.agg #[.int .i64 0, .int .i64 0, .string ⟨#[]⟩, .slice none 0 0, .slice none 0 0]) 80 rfl Tryd.underlying23 yz rfl (show 0 < 5 by decide) (by decide) _ [] vs _ vs.length _ (fun _ => True) (fun _ => False) rfl rfl HV4.out.1 (ReadsRow.imp_ HVS.out HB4.out (fun _ _ hp => hp)) (fun _ _ h => h) (fun _ h => h.elim) (fun _ _ => trivial) HB4.out HB4.out.size (by simp only [List.length_nil]; omega) ?_; intro vV q5 ho hb hg hat; rw [List.nil_append] at ho; obtain ⟨AV, cV, rfl⟩ := Kd.R_slice ho; obtain ⟨bV, hk, hor⟩ := HV4.out.grew ho hg hat; have HV5 := aM hk; have HB5 := aM hb; have HK5 := aM (HK4.out.grown (fun _ _ _ _ _ _ h => h) hg (nKV_4))
     have nKV_5 := (yh (nKV_4) (HK4.out.2.2.1) hor)
     have HZ5 := aM (HZ4.out.grown hg (nVZ_4.symm)); have nVZ_5 := (yh (nVZ_4.symm) (yd HZ4.out.1) hor).symm; have nKZ_5 := nKZ_4; clear ho hb hg hat hk hor; refine hK.out _ _ ⟨zk HB5.out HX3.out, zk HB5.out HX4.out⟩ (fun hHeld => ?_); clear hK K; refine zx (a' := ?_) ?_ ?_; rotate_left
     ·show Act.put _ (some 17) _ = _
      simp only [Act.put, sA, sB, sC, yb, yc]; rfl
     refine pU 8 (some 18) (bZ 11 1023) rfl (by kernel_rfl) ?_; exact zx (by first | (simp only [putAll, Act.put, sA, sB, sC]; done) | (simp only [putAll, Act.put, sA, sB, sC]; rfl)) (hCont ⟨.slice (some ⟨q0.heap.size, 0, none⟩) 0 0, .slice AK ks.length cK, .slice (some ⟨q2.heap.size, 0, none⟩) 0 0, .slice AV vs.length cV, q1.heap.size⟩ _ ⟨⟨zk HB5.out HX3.out, zk HB5.out HX4.out⟩, HB5.out, HZ5.out, _, _, HK5.out, HV5.out, nKZ_5, nVZ_5, nKV_5⟩)
  ·skip
   generalize W0.drew = q0 at HB0 hHeld ⊢; refine yr (w1 := ?_) (v := ?_) (by rfl) rfl ?_ ?_; rotate_left 2
   ·go_simp; constructor
    ·rfl
    ·rfl
   have HB1 := aM (zf HB0.out (.cells #[] 25)); have HV1 := aM (Has.new (d := held 5 Pf h5 h1) (e := 25) HB0.out); generalize q0.alloc (.cells #[] 25) = q1 at HB1 HV1 ⊢; refine hK.out _ _ ⟨zk HB1.out HX3.out, zk HB1.out HX4.out⟩ (fun hHeld => ?_); clear hK K; refine zx (a' := ?_) ?_ ?_; rotate_left
   ·show Act.put _ (some 14) _ = _
    simp only [Act.put, sA, sB, sC, yb, yc]; rfl
   refine two_ (i := 0) (j := 9) (Ni := some 10) (Nj := some 7) (bZ 11 119) (bZ 11 630) rfl rfl rfl rfl (by kernel_rfl) (by decide) (by decide) (fun K hK => ?_) (fun K hK => ?_)
   ·skip
    refine yr (w1 := ?_) (v := ?_) (by rfl) rfl ?_ ?_; rotate_left 2
    ·go_simp; constructor
     ·rfl
     ·rfl
    have HB2 := aM (zf HB1.out (.cells #[] 9)); have HV2 := aM (HV1.out.alloc (.cells #[] 9)); have HK2 := aM (Has.new (d := Kd.string) (e := 9) HB1.out); have nKV_2 := HV1.out.ne_new.symm; generalize q1.alloc (.cells #[] 9) = q2 at HB2 HV2 HK2 ⊢; refine hK.out _ _ ⟨zk HB2.out HX3.out, zk HB2.out HX4.out⟩ (fun hHeld => ?_); clear hK K; refine zx (a' := ?_) ?_ ?_; rotate_left
    ·show Act.put _ (some 10) _ = _
     simp only [Act.put, sA, sB, sC, yb, yc]; rfl
    refine two_ (i := 3) (j := 9) (Ni := some 13) (Nj := some 7) (bZ 11 127) (bZ 11 631) rfl rfl rfl rfl (by kernel_rfl) (by decide) (by decide) (fun K hK => ?_) (fun K hK => ?_)
    ·skip
     refine Kd.R_append_rows_step Kd.string (w0 := W0) W0.heap.size rfl (.tmp 10) (.tmp 12) 22 9 (.string ⟨#[]⟩) 16 rfl Tryd.underlying22 yq rfl (show 0 < 1 by decide) (by decide) _ [] ks _ ks.length _ (fun _ => True) (fun _ => False) rfl rfl HK2.out.1 (show ReadsRow (fun (x : ByteArray) cs => cs = [Value.string x]) 1 _ _ _ _ from Kd.C_below HKS.out HB2.out) (fun _ _ h => h) (fun _ h => h.elim) (fun _ _ => trivial) HB2.out HB2.out.size (by simp only [List.length_nil]; omega) ?_; intro vK q3 ho hb hg hat; rw [List.nil_append] at ho; obtain ⟨AK, cK, rfl⟩ := Kd.R_slice ho; obtain ⟨bK, hk, hor⟩ := HK2.out.grew ho hg hat; have HK3 := aM hk; have HB3 := aM hb; have HV3 := aM (HV2.out.grown (fun _ _ _ _ _ _ h => h) hg (nKV_2.symm)); have nKV_3 := (yh (nKV_2.symm) (HV2.out.2.2.1) hor).symm; clear ho hb hg hat hk hor; refine hK.out _ _ ⟨zk HB3.out HX3.out, zk HB3.out HX4.out⟩ (fun hHeld => ?_); clear hK K; refine zx (a' := ?_) ?_ ?_; rotate_left
     ·show Act.put _ (some 13) _ = _
      simp only [Act.put, sA, sB, sC, yb, yc]; rfl
     refine two_ (i := 7) (j := 9) (Ni := some 17) (Nj := some 7) (bZ 11 255) (bZ 11 639) rfl rfl rfl rfl (by kernel_rfl) (by decide) (by decide) (fun K hK => ?_) (fun K hK => ?_)
     ·skip
      refine Kd.R_append_rows_step (held 5 Pf h5 h1) (w0 := W0) W0.heap.size rfl (.tmp 14) (.tmp 16) 23 25 (.agg #[.int .i64 0, .int .i64 0, .string ⟨#[]⟩, .slice none 0 0, .slice none 0 0]) 80 rfl Tryd.underlying23 yz rfl (show 0 < 5 by decide) (by decide) _ [] vs _ vs.length _ (fun _ => True) (fun _ => False) rfl rfl HV3.out.1 (ReadsRow.imp_ HVS.out HB3.out (fun _ _ hp => hp)) (fun _ _ h => h) (fun _ h => h.elim) (fun _ _ => trivial) HB3.out HB3.out.size (by simp only [List.length_nil]; omega) ?_; intro vV q4 ho hb hg hat; rw [List.nil_append] at ho; obtain ⟨AV, cV, rfl⟩ := Kd.R_slice ho; obtain ⟨bV, hk, hor⟩ := HV3.out.grew ho hg hat; have HV4 := aM hk; have HB4 := aM hb; have HK4 := aM (HK3.out.grown (fun _ _ _ _ _ _ h => h) hg (nKV_3))
      have nKV_4 := (yh (nKV_3) (HK3.out.2.2.1) hor)
      clear ho hb hg hat hk hor; refine hK.out _ _ ⟨zk HB4.out HX3.out, zk HB4.out HX4.out⟩ (fun hHeld => ?_); clear hK K; refine zx (a' := ?_) ?_ ?_; rotate_left
      ·show Act.put _ (some 17) _ = _
       simp only [Act.put, sA, sB, sC, yb, yc]; rfl
      refine pU 8 (some 18) (bZ 11 511) rfl (by kernel_rfl) ?_; refine one_ (i := 9) (N := some 7) (bZ 11 1023) rfl rfl (by kernel_rfl) (by decide) (fun K hK => ?_); refine yr (w1 := ?_) (v := ?_) (by rfl) rfl ?_ ?_; rotate_left 2
      ·go_simp; constructor
       ·rfl
       ·rfl
      have HB5 := aM (zf HB4.out (.cells #[.int .i64 0, .int .i64 0, .string ⟨#[]⟩, .slice none 0 0, .slice none 0 0] 25)); have HK5 := aM (HK4.out.alloc (.cells #[.int .i64 0, .int .i64 0, .string ⟨#[]⟩, .slice none 0 0, .slice none 0 0] 25)); have HV5 := aM (HV4.out.alloc (.cells #[.int .i64 0, .int .i64 0, .string ⟨#[]⟩, .slice none 0 0, .slice none 0 0] 25)); have HZ5 := aM (show HasZ W0 (q4.alloc (.cells #[.int .i64 0, .int .i64 0, .string ⟨#[]⟩, .slice none 0 0, .slice none 0 0] 25)) q4.heap.size from HasZ.new HB4.out); have nKZ_5 := HK4.out.ne_new; have nVZ_5 := HV4.out.ne_new; have nKV_5 := nKV_4; generalize q4.alloc (.cells #[.int .i64 0, .int .i64 0, .string ⟨#[]⟩, .slice none 0 0, .slice none 0 0] 25) = q5 at HB5 HK5 HV5 HZ5 ⊢; refine hK.out _ _ ⟨zk HB5.out HX3.out, zk HB5.out HX4.out⟩ (fun hHeld => ?_); clear hK K; refine zx (a' := ?_) ?_ ?_; rotate_left
      ·show Act.put _ (some 7) _ = _
       simp only [Act.put, sA, sB, sC, yb, yc]; rfl
      exact zx (by first | (simp only [putAll, Act.put, sA, sB, sC]; done) | (simp only [putAll, Act.put, sA, sB, sC]; rfl)) (hCont ⟨.slice (some ⟨q1.heap.size, 0, none⟩) 0 0, .slice AK ks.length cK, .slice (some ⟨q0.heap.size, 0, none⟩) 0 0, .slice AV vs.length cV, q4.heap.size⟩ _ ⟨⟨zk HB5.out HX3.out, zk HB5.out HX4.out⟩, HB5.out, HZ5.out, _, _, HK5.out, HV5.out, nKZ_5, nVZ_5, nKV_5⟩)
     ·skip
      refine yr (w1 := ?_) (v := ?_) (by rfl) rfl ?_ ?_; rotate_left 2
      ·go_simp; constructor
       ·rfl
       ·rfl
      have HB4 := aM (zf HB3.out (.cells #[.int .i64 0, .int .i64 0, .string ⟨#[]⟩, .slice none 0 0, .slice none 0 0] 25)); have HK4 := aM (HK3.out.alloc (.cells #[.int .i64 0, .int .i64 0, .string ⟨#[]⟩, .slice none 0 0, .slice none 0 0] 25)); have HV4 := aM (HV3.out.alloc (.cells #[.int .i64 0, .int .i64 0, .string ⟨#[]⟩, .slice none 0 0, .slice none 0 0] 25)); have HZ4 := aM (show HasZ W0 (q3.alloc (.cells #[.int .i64 0, .int .i64 0, .string ⟨#[]⟩, .slice none 0 0, .slice none 0 0] 25)) q3.heap.size from HasZ.new HB3.out); have nKZ_4 := HK3.out.ne_new; have nVZ_4 := HV3.out.ne_new; have nKV_4 := nKV_3; generalize q3.alloc (.cells #[.int .i64 0, .int .i64 0, .string ⟨#[]⟩, .slice none 0 0, .slice none 0 0] 25) = q4 at HB4 HK4 HV4 HZ4 ⊢; refine hK.out _ _ ⟨zk HB4.out HX3.out, zk HB4.out HX4.out⟩ (fun hHeld => ?_); clear hK K; refine zx (a' := ?_) ?_ ?_; rotate_left
      ·show Act.put _ (some 7) _ = _
       simp only [Act.put, sA, sB, sC, yb, yc]; rfl
      refine one_ (i := 7) (N := some 17) (bZ 11 767) rfl rfl (by kernel_rfl) (by decide) (fun K hK => ?_); refine Kd.R_append_rows_step (held 5 Pf h5 h1) (w0 := W0) W0.heap.size rfl (.tmp 14) (.tmp 16) 23 25 (.agg #[.int .i64 0, .int .i64 0, .string ⟨#[]⟩, .slice none 0 0, .slice none 0 0]) 80 rfl Tryd.underlying23 yz rfl (show 0 < 5 by decide) (by decide) _ [] vs _ vs.length _ (fun _ => True) (fun _ => False) rfl rfl HV4.out.1 (ReadsRow.imp_ HVS.out HB4.out (fun _ _ hp => hp)) (fun _ _ h => h) (fun _ h => h.elim) (fun _ _ => trivial) HB4.out HB4.out.size (by simp only [List.length_nil]; omega) ?_; intro vV q5 ho hb hg hat; rw [List.nil_append] at ho; obtain ⟨AV, cV, rfl⟩ := Kd.R_slice ho; obtain ⟨bV, hk, hor⟩ := HV4.out.grew ho hg hat; have HV5 := aM hk; have HB5 := aM hb; have HK5 := aM (HK4.out.grown (fun _ _ _ _ _ _ h => h) hg (nKV_4))
      have nKV_5 := (yh (nKV_4) (HK4.out.2.2.1) hor)
      have HZ5 := aM (HZ4.out.grown hg (nVZ_4.symm)); have nVZ_5 := (yh (nVZ_4.symm) (yd HZ4.out.1) hor).symm; have nKZ_5 := nKZ_4; clear ho hb hg hat hk hor; refine hK.out _ _ ⟨zk HB5.out HX3.out, zk HB5.out HX4.out⟩ (fun hHeld => ?_); clear hK K; refine zx (a' := ?_) ?_ ?_; rotate_left
      ·show Act.put _ (some 17) _ = _
       simp only [Act.put, sA, sB, sC, yb, yc]; rfl
      refine pU 8 (some 18) (bZ 11 1023) rfl (by kernel_rfl) ?_; exact zx (by first | (simp only [putAll, Act.put, sA, sB, sC]; done) | (simp only [putAll, Act.put, sA, sB, sC]; rfl)) (hCont ⟨.slice (some ⟨q1.heap.size, 0, none⟩) 0 0, .slice AK ks.length cK, .slice (some ⟨q0.heap.size, 0, none⟩) 0 0, .slice AV vs.length cV, q3.heap.size⟩ _ ⟨⟨zk HB5.out HX3.out, zk HB5.out HX4.out⟩, HB5.out, HZ5.out, _, _, HK5.out, HV5.out, nKZ_5, nVZ_5, nKV_5⟩)
    ·skip
     refine yr (w1 := ?_) (v := ?_) (by rfl) rfl ?_ ?_; rotate_left 2
     ·go_simp; constructor
      ·rfl
      ·rfl
     have HB3 := aM (zf HB2.out (.cells #[.int .i64 0, .int .i64 0, .string ⟨#[]⟩, .slice none 0 0, .slice none 0 0] 25)); have HK3 := aM (HK2.out.alloc (.cells #[.int .i64 0, .int .i64 0, .string ⟨#[]⟩, .slice none 0 0, .slice none 0 0] 25)); have HV3 := aM (HV2.out.alloc (.cells #[.int .i64 0, .int .i64 0, .string ⟨#[]⟩, .slice none 0 0, .slice none 0 0] 25)); have HZ3 := aM (show HasZ W0 (q2.alloc (.cells #[.int .i64 0, .int .i64 0, .string ⟨#[]⟩, .slice none 0 0, .slice none 0 0] 25)) q2.heap.size from HasZ.new HB2.out); have nKZ_3 := HK2.out.ne_new; have nVZ_3 := HV2.out.ne_new; have nKV_3 := nKV_2; generalize q2.alloc (.cells #[.int .i64 0, .int .i64 0, .string ⟨#[]⟩, .slice none 0 0, .slice none 0 0] 25) = q3 at HB3 HK3 HV3 HZ3 ⊢; refine hK.out _ _ ⟨zk HB3.out HX3.out, zk HB3.out HX4.out⟩ (fun hHeld => ?_); clear hK K; refine zx (a' := ?_) ?_ ?_; rotate_left
     ·show Act.put _ (some 7) _ = _
      simp only [Act.put, sA, sB, sC, yb, yc]; rfl
     refine one_ (i := 3) (N := some 13) (bZ 11 639) rfl rfl (by kernel_rfl) (by decide) (fun K hK => ?_); refine Kd.R_append_rows_step Kd.string (w0 := W0) W0.heap.size rfl (.tmp 10) (.tmp 12) 22 9 (.string ⟨#[]⟩) 16 rfl Tryd.underlying22 yq rfl (show 0 < 1 by decide) (by decide) _ [] ks _ ks.length _ (fun _ => True) (fun _ => False) rfl rfl HK3.out.1 (show ReadsRow (fun (x : ByteArray) cs => cs = [Value.string x]) 1 _ _ _ _ from Kd.C_below HKS.out HB3.out) (fun _ _ h => h) (fun _ h => h.elim) (fun _ _ => trivial) HB3.out HB3.out.size (by simp only [List.length_nil]; omega) ?_; intro vK q4 ho hb hg hat; rw [List.nil_append] at ho; obtain ⟨AK, cK, rfl⟩ := Kd.R_slice ho; obtain ⟨bK, hk, hor⟩ := HK3.out.grew ho hg hat; have HK4 := aM hk; have HB4 := aM hb; have HV4 := aM (HV3.out.grown (fun _ _ _ _ _ _ h => h) hg (nKV_3.symm)); have nKV_4 := (yh (nKV_3.symm) (HV3.out.2.2.1) hor).symm; have HZ4 := aM (HZ3.out.grown hg (nKZ_3.symm)); have nKZ_4 := (yh (nKZ_3.symm) (yd HZ3.out.1) hor).symm; have nVZ_4 := nVZ_3; clear ho hb hg hat hk hor; refine hK.out _ _ ⟨zk HB4.out HX3.out, zk HB4.out HX4.out⟩ (fun hHeld => ?_); clear hK K; refine zx (a' := ?_) ?_ ?_; rotate_left
     ·show Act.put _ (some 13) _ = _
      simp only [Act.put, sA, sB, sC, yb, yc]; rfl
     refine one_ (i := 7) (N := some 17) (bZ 11 767) rfl rfl (by kernel_rfl) (by decide) (fun K hK => ?_); refine Kd.R_append_rows_step (held 5 Pf h5 h1) (w0 := W0) W0.heap.size rfl (.tmp 14) (.tmp 16) 23 25 (.agg #[.int .i64 0, .int .i64 0, .string ⟨#[]⟩, .slice none 0 0, .slice none 0 0]) 80 rfl Tryd.underlying23 yz rfl (show 0 < 5 by decide) (by decide) _ [] vs _ vs.length _ (fun _ => True) (fun _ => False) rfl rfl HV4.out.1 (ReadsRow.imp_ HVS.out HB4.out (fun _ _ hp => hp)) (fun _ _ h => h) (fun _ h => h.elim) (fun _ _ => trivial) HB4.out HB4.out.size (by simp only [List.length_nil]; omega) ?_; intro vV q5 ho hb hg hat; rw [List.nil_append] at ho; obtain ⟨AV, cV, rfl⟩ := Kd.R_slice ho; obtain ⟨bV, hk, hor⟩ := HV4.out.grew ho hg hat; have HV5 := aM hk; have HB5 := aM hb; have HK5 := aM (HK4.out.grown (fun _ _ _ _ _ _ h => h) hg (nKV_4))
     have nKV_5 := (yh (nKV_4) (HK4.out.2.2.1) hor)
     have HZ5 := aM (HZ4.out.grown hg (nVZ_4.symm)); have nVZ_5 := (yh (nVZ_4.symm) (yd HZ4.out.1) hor).symm; have nKZ_5 := nKZ_4; clear ho hb hg hat hk hor; refine hK.out _ _ ⟨zk HB5.out HX3.out, zk HB5.out HX4.out⟩ (fun hHeld => ?_); clear hK K; refine zx (a' := ?_) ?_ ?_; rotate_left
     ·show Act.put _ (some 17) _ = _
      simp only [Act.put, sA, sB, sC, yb, yc]; rfl
     refine pU 8 (some 18) (bZ 11 1023) rfl (by kernel_rfl) ?_; exact zx (by first | (simp only [putAll, Act.put, sA, sB, sC]; done) | (simp only [putAll, Act.put, sA, sB, sC]; rfl)) (hCont ⟨.slice (some ⟨q1.heap.size, 0, none⟩) 0 0, .slice AK ks.length cK, .slice (some ⟨q0.heap.size, 0, none⟩) 0 0, .slice AV vs.length cV, q2.heap.size⟩ _ ⟨⟨zk HB5.out HX3.out, zk HB5.out HX4.out⟩, HB5.out, HZ5.out, _, _, HK5.out, HV5.out, nKZ_5, nVZ_5, nKV_5⟩)
   ·skip
    refine yr (w1 := ?_) (v := ?_) (by rfl) rfl ?_ ?_; rotate_left 2
    ·go_simp; constructor
     ·rfl
     ·rfl
    have HB2 := aM (zf HB1.out (.cells #[.int .i64 0, .int .i64 0, .string ⟨#[]⟩, .slice none 0 0, .slice none 0 0] 25)); have HV2 := aM (HV1.out.alloc (.cells #[.int .i64 0, .int .i64 0, .string ⟨#[]⟩, .slice none 0 0, .slice none 0 0] 25)); have HZ2 := aM (show HasZ W0 (q1.alloc (.cells #[.int .i64 0, .int .i64 0, .string ⟨#[]⟩, .slice none 0 0, .slice none 0 0] 25)) q1.heap.size from HasZ.new HB1.out); have nVZ_2 := HV1.out.ne_new; generalize q1.alloc (.cells #[.int .i64 0, .int .i64 0, .string ⟨#[]⟩, .slice none 0 0, .slice none 0 0] 25) = q2 at HB2 HV2 HZ2 ⊢; refine hK.out _ _ ⟨zk HB2.out HX3.out, zk HB2.out HX4.out⟩ (fun hHeld => ?_); clear hK K; refine zx (a' := ?_) ?_ ?_; rotate_left
    ·show Act.put _ (some 7) _ = _
     simp only [Act.put, sA, sB, sC, yb, yc]; rfl
    refine one_ (i := 0) (N := some 10) (bZ 11 631) rfl rfl (by kernel_rfl) (by decide) (fun K hK => ?_); refine yr (w1 := ?_) (v := ?_) (by rfl) rfl ?_ ?_; rotate_left 2
    ·go_simp; constructor
     ·rfl
     ·rfl
    have HB3 := aM (zf HB2.out (.cells #[] 9)); have HV3 := aM (HV2.out.alloc (.cells #[] 9)); have HZ3 := aM (HZ2.out.alloc (.cells #[] 9)); have HK3 := aM (Has.new (d := Kd.string) (e := 9) HB2.out); have nKV_3 := HV2.out.ne_new.symm; have nKZ_3 := HZ2.out.ne_new.symm; have nVZ_3 := nVZ_2; generalize q2.alloc (.cells #[] 9) = q3 at HB3 HV3 HZ3 HK3 ⊢; refine hK.out _ _ ⟨zk HB3.out HX3.out, zk HB3.out HX4.out⟩ (fun hHeld => ?_); clear hK K; refine zx (a' := ?_) ?_ ?_; rotate_left
    ·show Act.put _ (some 10) _ = _
     simp only [Act.put, sA, sB, sC, yb, yc]; rfl
    refine one_ (i := 3) (N := some 13) (bZ 11 639) rfl rfl (by kernel_rfl) (by decide) (fun K hK => ?_); refine Kd.R_append_rows_step Kd.string (w0 := W0) W0.heap.size rfl (.tmp 10) (.tmp 12) 22 9 (.string ⟨#[]⟩) 16 rfl Tryd.underlying22 yq rfl (show 0 < 1 by decide) (by decide) _ [] ks _ ks.length _ (fun _ => True) (fun _ => False) rfl rfl HK3.out.1 (show ReadsRow (fun (x : ByteArray) cs => cs = [Value.string x]) 1 _ _ _ _ from Kd.C_below HKS.out HB3.out) (fun _ _ h => h) (fun _ h => h.elim) (fun _ _ => trivial) HB3.out HB3.out.size (by simp only [List.length_nil]; omega) ?_; intro vK q4 ho hb hg hat; rw [List.nil_append] at ho; obtain ⟨AK, cK, rfl⟩ := Kd.R_slice ho; obtain ⟨bK, hk, hor⟩ := HK3.out.grew ho hg hat; have HK4 := aM hk; have HB4 := aM hb; have HV4 := aM (HV3.out.grown (fun _ _ _ _ _ _ h => h) hg (nKV_3.symm)); have nKV_4 := (yh (nKV_3.symm) (HV3.out.2.2.1) hor).symm; have HZ4 := aM (HZ3.out.grown hg (nKZ_3.symm)); have nKZ_4 := (yh (nKZ_3.symm) (yd HZ3.out.1) hor).symm; have nVZ_4 := nVZ_3; clear ho hb hg hat hk hor; refine hK.out _ _ ⟨zk HB4.out HX3.out, zk HB4.out HX4.out⟩ (fun hHeld => ?_); clear hK K; refine zx (a' := ?_) ?_ ?_; rotate_left
    ·show Act.put _ (some 13) _ = _
     simp only [Act.put, sA, sB, sC, yb, yc]; rfl
    refine one_ (i := 7) (N := some 17) (bZ 11 767) rfl rfl (by kernel_rfl) (by decide) (fun K hK => ?_); refine Kd.R_append_rows_step (held 5 Pf h5 h1) (w0 := W0) W0.heap.size rfl (.tmp 14) (.tmp 16) 23 25 (.agg #[.int .i64 0, .int .i64 0, .string ⟨#[]⟩, .slice none 0 0, .slice none 0 0]) 80 rfl Tryd.underlying23 yz rfl (show 0 < 5 by decide) (by decide) _ [] vs _ vs.length _ (fun _ => True) (fun _ => False) rfl rfl HV4.out.1 (ReadsRow.imp_ HVS.out HB4.out (fun _ _ hp => hp)) (fun _ _ h => h) (fun _ h => h.elim) (fun _ _ => trivial) HB4.out HB4.out.size (by simp only [List.length_nil]; omega) ?_; intro vV q5 ho hb hg hat; rw [List.nil_append] at ho; obtain ⟨AV, cV, rfl⟩ := Kd.R_slice ho; obtain ⟨bV, hk, hor⟩ := HV4.out.grew ho hg hat; have HV5 := aM hk; have HB5 := aM hb; have HK5 := aM (HK4.out.grown (fun _ _ _ _ _ _ h => h) hg (nKV_4))
    have nKV_5 := (yh (nKV_4) (HK4.out.2.2.1) hor)
    have HZ5 := aM (HZ4.out.grown hg (nVZ_4.symm)); have nVZ_5 := (yh (nVZ_4.symm) (yd HZ4.out.1) hor).symm; have nKZ_5 := nKZ_4; clear ho hb hg hat hk hor; refine hK.out _ _ ⟨zk HB5.out HX3.out, zk HB5.out HX4.out⟩ (fun hHeld => ?_); clear hK K; refine zx (a' := ?_) ?_ ?_; rotate_left
    ·show Act.put _ (some 17) _ = _
     simp only [Act.put, sA, sB, sC, yb, yc]; rfl
    refine pU 8 (some 18) (bZ 11 1023) rfl (by kernel_rfl) ?_; exact zx (by first | (simp only [putAll, Act.put, sA, sB, sC]; done) | (simp only [putAll, Act.put, sA, sB, sC]; rfl)) (hCont ⟨.slice (some ⟨q2.heap.size, 0, none⟩) 0 0, .slice AK ks.length cK, .slice (some ⟨q0.heap.size, 0, none⟩) 0 0, .slice AV vs.length cV, q1.heap.size⟩ _ ⟨⟨zk HB5.out HX3.out, zk HB5.out HX4.out⟩, HB5.out, HZ5.out, _, _, HK5.out, HV5.out, nKZ_5, nVZ_5, nKV_5⟩)
  ·skip
   generalize W0.drew = q0 at HB0 hHeld ⊢; refine yr (w1 := ?_) (v := ?_) (by rfl) rfl ?_ ?_; rotate_left 2
   ·go_simp; constructor
    ·rfl
    ·rfl
   have HB1 := aM (zf HB0.out (.cells #[.int .i64 0, .int .i64 0, .string ⟨#[]⟩, .slice none 0 0, .slice none 0 0] 25)); have HZ1 := aM (show HasZ W0 (q0.alloc (.cells #[.int .i64 0, .int .i64 0, .string ⟨#[]⟩, .slice none 0 0, .slice none 0 0] 25)) q0.heap.size from HasZ.new HB0.out); generalize q0.alloc (.cells #[.int .i64 0, .int .i64 0, .string ⟨#[]⟩, .slice none 0 0, .slice none 0 0] 25) = q1 at HB1 HZ1 ⊢; refine hK.out _ _ ⟨zk HB1.out HX3.out, zk HB1.out HX4.out⟩ (fun hHeld => ?_); clear hK K; refine zx (a' := ?_) ?_ ?_; rotate_left
   ·show Act.put _ (some 7) _ = _
    simp only [Act.put, sA, sB, sC, yb, yc]; rfl
   refine two_ (i := 0) (j := 4) (Ni := some 10) (Nj := some 14) (bZ 11 615) (bZ 11 630) rfl rfl rfl rfl (by kernel_rfl) (by decide) (by decide) (fun K hK => ?_) (fun K hK => ?_)
   ·skip
    refine yr (w1 := ?_) (v := ?_) (by rfl) rfl ?_ ?_; rotate_left 2
    ·go_simp; constructor
     ·rfl
     ·rfl
    have HB2 := aM (zf HB1.out (.cells #[] 9)); have HZ2 := aM (HZ1.out.alloc (.cells #[] 9)); have HK2 := aM (Has.new (d := Kd.string) (e := 9) HB1.out); have nKZ_2 := HZ1.out.ne_new.symm; generalize q1.alloc (.cells #[] 9) = q2 at HB2 HZ2 HK2 ⊢; refine hK.out _ _ ⟨zk HB2.out HX3.out, zk HB2.out HX4.out⟩ (fun hHeld => ?_); clear hK K; refine zx (a' := ?_) ?_ ?_; rotate_left
    ·show Act.put _ (some 10) _ = _
     simp only [Act.put, sA, sB, sC, yb, yc]; rfl
    refine two_ (i := 3) (j := 4) (Ni := some 13) (Nj := some 14) (bZ 11 623) (bZ 11 631) rfl rfl rfl rfl (by kernel_rfl) (by decide) (by decide) (fun K hK => ?_) (fun K hK => ?_)
    ·skip
     refine Kd.R_append_rows_step Kd.string (w0 := W0) W0.heap.size rfl (.tmp 10) (.tmp 12) 22 9 (.string ⟨#[]⟩) 16 rfl Tryd.underlying22 yq rfl (show 0 < 1 by decide) (by decide) _ [] ks _ ks.length _ (fun _ => True) (fun _ => False) rfl rfl HK2.out.1 (show ReadsRow (fun (x : ByteArray) cs => cs = [Value.string x]) 1 _ _ _ _ from Kd.C_below HKS.out HB2.out) (fun _ _ h => h) (fun _ h => h.elim) (fun _ _ => trivial) HB2.out HB2.out.size (by simp only [List.length_nil]; omega) ?_; intro vK q3 ho hb hg hat; rw [List.nil_append] at ho; obtain ⟨AK, cK, rfl⟩ := Kd.R_slice ho; obtain ⟨bK, hk, hor⟩ := HK2.out.grew ho hg hat; have HK3 := aM hk; have HB3 := aM hb; have HZ3 := aM (HZ2.out.grown hg (nKZ_2.symm)); have nKZ_3 := (yh (nKZ_2.symm) (yd HZ2.out.1) hor).symm; clear ho hb hg hat hk hor; refine hK.out _ _ ⟨zk HB3.out HX3.out, zk HB3.out HX4.out⟩ (fun hHeld => ?_); clear hK K; refine zx (a' := ?_) ?_ ?_; rotate_left
     ·show Act.put _ (some 13) _ = _
      simp only [Act.put, sA, sB, sC, yb, yc]; rfl
     refine one_ (i := 4) (N := some 14) (bZ 11 639) rfl rfl (by kernel_rfl) (by decide) (fun K hK => ?_); refine yr (w1 := ?_) (v := ?_) (by rfl) rfl ?_ ?_; rotate_left 2
     ·go_simp; constructor
      ·rfl
      ·rfl
     have HB4 := aM (zf HB3.out (.cells #[] 25)); have HK4 := aM (HK3.out.alloc (.cells #[] 25)); have HZ4 := aM (HZ3.out.alloc (.cells #[] 25)); have HV4 := aM (Has.new (d := held 5 Pf h5 h1) (e := 25) HB3.out); have nKV_4 := HK3.out.ne_new; have nVZ_4 := HZ3.out.ne_new.symm; have nKZ_4 := nKZ_3; generalize q3.alloc (.cells #[] 25) = q4 at HB4 HK4 HZ4 HV4 ⊢; refine hK.out _ _ ⟨zk HB4.out HX3.out, zk HB4.out HX4.out⟩ (fun hHeld => ?_); clear hK K; refine zx (a' := ?_) ?_ ?_; rotate_left
     ·show Act.put _ (some 14) _ = _
      simp only [Act.put, sA, sB, sC, yb, yc]; rfl
     refine one_ (i := 7) (N := some 17) (bZ 11 767) rfl rfl (by kernel_rfl) (by decide) (fun K hK => ?_); refine Kd.R_append_rows_step (held 5 Pf h5 h1) (w0 := W0) W0.heap.size rfl (.tmp 14) (.tmp 16) 23 25 (.agg #[.int .i64 0, .int .i64 0, .string ⟨#[]⟩, .slice none 0 0, .slice none 0 0]) 80 rfl Tryd.underlying23 yz rfl (show 0 < 5 by decide) (by decide) _ [] vs _ vs.length _ (fun _ => True) (fun _ => False) rfl rfl HV4.out.1 (ReadsRow.imp_ HVS.out HB4.out (fun _ _ hp => hp)) (fun _ _ h => h) (fun _ h => h.elim) (fun _ _ => trivial) HB4.out HB4.out.size (by simp only [List.length_nil]; omega) ?_; intro vV q5 ho hb hg hat; rw [List.nil_append] at ho; obtain ⟨AV, cV, rfl⟩ := Kd.R_slice ho; obtain ⟨bV, hk, hor⟩ := HV4.out.grew ho hg hat; have HV5 := aM hk; have HB5 := aM hb; have HK5 := aM (HK4.out.grown (fun _ _ _ _ _ _ h => h) hg (nKV_4))
     have nKV_5 := (yh (nKV_4) (HK4.out.2.2.1) hor)
     have HZ5 := aM (HZ4.out.grown hg (nVZ_4.symm)); have nVZ_5 := (yh (nVZ_4.symm) (yd HZ4.out.1) hor).symm; have nKZ_5 := nKZ_4; clear ho hb hg hat hk hor; refine hK.out _ _ ⟨zk HB5.out HX3.out, zk HB5.out HX4.out⟩ (fun hHeld => ?_); clear hK K; refine zx (a' := ?_) ?_ ?_; rotate_left
     ·show Act.put _ (some 17) _ = _
      simp only [Act.put, sA, sB, sC, yb, yc]; rfl
     refine pU 8 (some 18) (bZ 11 1023) rfl (by kernel_rfl) ?_; exact zx (by first | (simp only [putAll, Act.put, sA, sB, sC]; done) | (simp only [putAll, Act.put, sA, sB, sC]; rfl)) (hCont ⟨.slice (some ⟨q1.heap.size, 0, none⟩) 0 0, .slice AK ks.length cK, .slice (some ⟨q3.heap.size, 0, none⟩) 0 0, .slice AV vs.length cV, q0.heap.size⟩ _ ⟨⟨zk HB5.out HX3.out, zk HB5.out HX4.out⟩, HB5.out, HZ5.out, _, _, HK5.out, HV5.out, nKZ_5, nVZ_5, nKV_5⟩)
    ·skip
     refine yr (w1 := ?_) (v := ?_) (by rfl) rfl ?_ ?_; rotate_left 2
     ·go_simp; constructor
      ·rfl
      ·rfl
     have HB3 := aM (zf HB2.out (.cells #[] 25)); have HK3 := aM (HK2.out.alloc (.cells #[] 25)); have HZ3 := aM (HZ2.out.alloc (.cells #[] 25)); have HV3 := aM (Has.new (d := held 5 Pf h5 h1) (e := 25) HB2.out); have nKV_3 := HK2.out.ne_new; have nVZ_3 := HZ2.out.ne_new.symm; have nKZ_3 := nKZ_2; generalize q2.alloc (.cells #[] 25) = q3 at HB3 HK3 HZ3 HV3 ⊢; refine hK.out _ _ ⟨zk HB3.out HX3.out, zk HB3.out HX4.out⟩ (fun hHeld => ?_); clear hK K; refine zx (a' := ?_) ?_ ?_; rotate_left
     ·show Act.put _ (some 14) _ = _
      simp only [Act.put, sA, sB, sC, yb, yc]; rfl
     refine one_ (i := 3) (N := some 13) (bZ 11 639) rfl rfl (by kernel_rfl) (by decide) (fun K hK => ?_); refine Kd.R_append_rows_step Kd.string (w0 := W0) W0.heap.size rfl (.tmp 10) (.tmp 12) 22 9 (.string ⟨#[]⟩) 16 rfl Tryd.underlying22 yq rfl (show 0 < 1 by decide) (by decide) _ [] ks _ ks.length _ (fun _ => True) (fun _ => False) rfl rfl HK3.out.1 (show ReadsRow (fun (x : ByteArray) cs => cs = [Value.string x]) 1 _ _ _ _ from Kd.C_below HKS.out HB3.out) (fun _ _ h => h) (fun _ h => h.elim) (fun _ _ => trivial) HB3.out HB3.out.size (by simp only [List.length_nil]; omega) ?_; intro vK q4 ho hb hg hat; rw [List.nil_append] at ho; obtain ⟨AK, cK, rfl⟩ := Kd.R_slice ho; obtain ⟨bK, hk, hor⟩ := HK3.out.grew ho hg hat; have HK4 := aM hk; have HB4 := aM hb; have HV4 := aM (HV3.out.grown (fun _ _ _ _ _ _ h => h) hg (nKV_3.symm)); have nKV_4 := (yh (nKV_3.symm) (HV3.out.2.2.1) hor).symm; have HZ4 := aM (HZ3.out.grown hg (nKZ_3.symm)); have nKZ_4 := (yh (nKZ_3.symm) (yd HZ3.out.1) hor).symm; have nVZ_4 := nVZ_3; clear ho hb hg hat hk hor; refine hK.out _ _ ⟨zk HB4.out HX3.out, zk HB4.out HX4.out⟩ (fun hHeld => ?_); clear hK K; refine zx (a' := ?_) ?_ ?_; rotate_left
     ·show Act.put _ (some 13) _ = _
      simp only [Act.put, sA, sB, sC, yb, yc]; rfl
     refine one_ (i := 7) (N := some 17) (bZ 11 767) rfl rfl (by kernel_rfl) (by decide) (fun K hK => ?_); refine Kd.R_append_rows_step (held 5 Pf h5 h1) (w0 := W0) W0.heap.size rfl (.tmp 14) (.tmp 16) 23 25 (.agg #[.int .i64 0, .int .i64 0, .string ⟨#[]⟩, .slice none 0 0, .slice none 0 0]) 80 rfl Tryd.underlying23 yz rfl (show 0 < 5 by decide) (by decide) _ [] vs _ vs.length _ (fun _ => True) (fun _ => False) rfl rfl HV4.out.1 (ReadsRow.imp_ HVS.out HB4.out (fun _ _ hp => hp)) (fun _ _ h => h) (fun _ h => h.elim) (fun _ _ => trivial) HB4.out HB4.out.size (by simp only [List.length_nil]; omega) ?_; intro vV q5 ho hb hg hat; rw [List.nil_append] at ho; obtain ⟨AV, cV, rfl⟩ := Kd.R_slice ho; obtain ⟨bV, hk, hor⟩ := HV4.out.grew ho hg hat; have HV5 := aM hk; have HB5 := aM hb; have HK5 := aM (HK4.out.grown (fun _ _ _ _ _ _ h => h) hg (nKV_4))
     have nKV_5 := (yh (nKV_4) (HK4.out.2.2.1) hor)
     have HZ5 := aM (HZ4.out.grown hg (nVZ_4.symm)); have nVZ_5 := (yh (nVZ_4.symm) (yd HZ4.out.1) hor).symm; have nKZ_5 := nKZ_4; clear ho hb hg hat hk hor; refine hK.out _ _ ⟨zk HB5.out HX3.out, zk HB5.out HX4.out⟩ (fun hHeld => ?_); clear hK K; refine zx (a' := ?_) ?_ ?_; rotate_left
     ·show Act.put _ (some 17) _ = _
      simp only [Act.put, sA, sB, sC, yb, yc]; rfl
     refine pU 8 (some 18) (bZ 11 1023) rfl (by kernel_rfl) ?_; exact zx (by first | (simp only [putAll, Act.put, sA, sB, sC]; done) | (simp only [putAll, Act.put, sA, sB, sC]; rfl)) (hCont ⟨.slice (some ⟨q1.heap.size, 0, none⟩) 0 0, .slice AK ks.length cK, .slice (some ⟨q2.heap.size, 0, none⟩) 0 0, .slice AV vs.length cV, q0.heap.size⟩ _ ⟨⟨zk HB5.out HX3.out, zk HB5.out HX4.out⟩, HB5.out, HZ5.out, _, _, HK5.out, HV5.out, nKZ_5, nVZ_5, nKV_5⟩)
   ·skip
    refine yr (w1 := ?_) (v := ?_) (by rfl) rfl ?_ ?_; rotate_left 2
    ·go_simp; constructor
     ·rfl
     ·rfl
    have HB2 := aM (zf HB1.out (.cells #[] 25)); have HZ2 := aM (HZ1.out.alloc (.cells #[] 25)); have HV2 := aM (Has.new (d := held 5 Pf h5 h1) (e := 25) HB1.out); have nVZ_2 := HZ1.out.ne_new.symm; generalize q1.alloc (.cells #[] 25) = q2 at HB2 HZ2 HV2 ⊢; refine hK.out _ _ ⟨zk HB2.out HX3.out, zk HB2.out HX4.out⟩ (fun hHeld => ?_); clear hK K; refine zx (a' := ?_) ?_ ?_; rotate_left
    ·show Act.put _ (some 14) _ = _
     simp only [Act.put, sA, sB, sC, yb, yc]; rfl
    refine one_ (i := 0) (N := some 10) (bZ 11 631) rfl rfl (by kernel_rfl) (by decide) (fun K hK => ?_); refine yr (w1 := ?_) (v := ?_) (by rfl) rfl ?_ ?_; rotate_left 2
    ·go_simp; constructor
     ·rfl
     ·rfl
    have HB3 := aM (zf HB2.out (.cells #[] 9)); have HV3 := aM (HV2.out.alloc (.cells #[] 9)); have HZ3 := aM (HZ2.out.alloc (.cells #[] 9)); have HK3 := aM (Has.new (d := Kd.string) (e := 9) HB2.out); have nKV_3 := HV2.out.ne_new.symm; have nKZ_3 := HZ2.out.ne_new.symm; have nVZ_3 := nVZ_2; generalize q2.alloc (.cells #[] 9) = q3 at HB3 HV3 HZ3 HK3 ⊢; refine hK.out _ _ ⟨zk HB3.out HX3.out, zk HB3.out HX4.out⟩ (fun hHeld => ?_); clear hK K; refine zx (a' := ?_) ?_ ?_; rotate_left
    ·show Act.put _ (some 10) _ = _
     simp only [Act.put, sA, sB, sC, yb, yc]; rfl
    refine one_ (i := 3) (N := some 13) (bZ 11 639) rfl rfl (by kernel_rfl) (by decide) (fun K hK => ?_); refine Kd.R_append_rows_step Kd.string (w0 := W0) W0.heap.size rfl (.tmp 10) (.tmp 12) 22 9 (.string ⟨#[]⟩) 16 rfl Tryd.underlying22 yq rfl (show 0 < 1 by decide) (by decide) _ [] ks _ ks.length _ (fun _ => True) (fun _ => False) rfl rfl HK3.out.1 (show ReadsRow (fun (x : ByteArray) cs => cs = [Value.string x]) 1 _ _ _ _ from Kd.C_below HKS.out HB3.out) (fun _ _ h => h) (fun _ h => h.elim) (fun _ _ => trivial) HB3.out HB3.out.size (by simp only [List.length_nil]; omega) ?_; intro vK q4 ho hb hg hat; rw [List.nil_append] at ho; obtain ⟨AK, cK, rfl⟩ := Kd.R_slice ho; obtain ⟨bK, hk, hor⟩ := HK3.out.grew ho hg hat; have HK4 := aM hk; have HB4 := aM hb; have HV4 := aM (HV3.out.grown (fun _ _ _ _ _ _ h => h) hg (nKV_3.symm)); have nKV_4 := (yh (nKV_3.symm) (HV3.out.2.2.1) hor).symm; have HZ4 := aM (HZ3.out.grown hg (nKZ_3.symm)); have nKZ_4 := (yh (nKZ_3.symm) (yd HZ3.out.1) hor).symm; have nVZ_4 := nVZ_3; clear ho hb hg hat hk hor; refine hK.out _ _ ⟨zk HB4.out HX3.out, zk HB4.out HX4.out⟩ (fun hHeld => ?_); clear hK K; refine zx (a' := ?_) ?_ ?_; rotate_left
    ·show Act.put _ (some 13) _ = _
     simp only [Act.put, sA, sB, sC, yb, yc]; rfl
    refine one_ (i := 7) (N := some 17) (bZ 11 767) rfl rfl (by kernel_rfl) (by decide) (fun K hK => ?_); refine Kd.R_append_rows_step (held 5 Pf h5 h1) (w0 := W0) W0.heap.size rfl (.tmp 14) (.tmp 16) 23 25 (.agg #[.int .i64 0, .int .i64 0, .string ⟨#[]⟩, .slice none 0 0, .slice none 0 0]) 80 rfl Tryd.underlying23 yz rfl (show 0 < 5 by decide) (by decide) _ [] vs _ vs.length _ (fun _ => True) (fun _ => False) rfl rfl HV4.out.1 (ReadsRow.imp_ HVS.out HB4.out (fun _ _ hp => hp)) (fun _ _ h => h) (fun _ h => h.elim) (fun _ _ => trivial) HB4.out HB4.out.size (by simp only [List.length_nil]; omega) ?_; intro vV q5 ho hb hg hat; rw [List.nil_append] at ho; obtain ⟨AV, cV, rfl⟩ := Kd.R_slice ho; obtain ⟨bV, hk, hor⟩ := HV4.out.grew ho hg hat; have HV5 := aM hk; have HB5 := aM hb; have HK5 := aM (HK4.out.grown (fun _ _ _ _ _ _ h => h) hg (nKV_4))
    have nKV_5 := (yh (nKV_4) (HK4.out.2.2.1) hor)
    have HZ5 := aM (HZ4.out.grown hg (nVZ_4.symm)); have nVZ_5 := (yh (nVZ_4.symm) (yd HZ4.out.1) hor).symm; have nKZ_5 := nKZ_4; clear ho hb hg hat hk hor; refine hK.out _ _ ⟨zk HB5.out HX3.out, zk HB5.out HX4.out⟩ (fun hHeld => ?_); clear hK K; refine zx (a' := ?_) ?_ ?_; rotate_left
    ·show Act.put _ (some 17) _ = _
     simp only [Act.put, sA, sB, sC, yb, yc]; rfl
    refine pU 8 (some 18) (bZ 11 1023) rfl (by kernel_rfl) ?_; exact zx (by first | (simp only [putAll, Act.put, sA, sB, sC]; done) | (simp only [putAll, Act.put, sA, sB, sC]; rfl)) (hCont ⟨.slice (some ⟨q2.heap.size, 0, none⟩) 0 0, .slice AK ks.length cK, .slice (some ⟨q1.heap.size, 0, none⟩) 0 0, .slice AV vs.length cV, q0.heap.size⟩ _ ⟨⟨zk HB5.out HX3.out, zk HB5.out HX4.out⟩, HB5.out, HZ5.out, _, _, HK5.out, HV5.out, nKZ_5, nVZ_5, nKV_5⟩)
 rintro ⟨v10, vK, v14, vV, g⟩ w1 ⟨hS, hB, hZ, bK, bV, hK, hV, n1, n2, n3⟩; have hHeld := hS; obtain ⟨AK, cK, rfl⟩ := Kd.R_slice hK.1; obtain ⟨AV, cV, rfl⟩ := Kd.R_slice hV.1; have HB1 := aM hB; have HZ1 := aM (show HasZ W0 w1 g from hZ); have HK1 := aM (show Has Kd.string 9 W0 w1 (.slice AK ks.length cK) ks bK from hK); have HV1 := aM (show Has (held 5 Pf h5 h1) 25 W0 w1 (.slice AV vs.length cV) vs bV from hV); replace n1 : bK ≠ g := n1; replace n2 : bV ≠ g := n2; clear hS hB hZ hK hV; refine zx (a' := ?_) ?_ ?_; rotate_left
 ·simp only [putAll, Act.put, sA, sB, sC]; rfl
 refine xo (i := 10) (N := none) (bZ 11 2047) rfl rfl (by kernel_rfl) (by decide) (fun K hK => ?_); refine store_row_step (w := w1) rfl rfl 25 (.tmp 7) (.tmp 18) rfl g #[.int .i64 5, .int .i64 0, .string ⟨#[]⟩, .slice AK ks.length cK, .slice AV vs.length cV] rfl rfl 25 _ HZ1.out.1 val_size rfl (val_one _ _ _ _ _ _ _ _ _) ?_; have HG2 := aM (yy w1 g #[.int .i64 5, .int .i64 0, .string ⟨#[]⟩, .slice AK ks.length cK, .slice AV vs.length cV]); have HZ2 := aM (setRow_heap w1 g _ #[.int .i64 5, .int .i64 0, .string ⟨#[]⟩, .slice AK ks.length cK, .slice AV vs.length cV] _ _ HZ1.out.1); have HK2 := aM (HK1.out.grown (fun _ _ _ _ _ _ h => h) HG2.out n1); have HV2 := aM (HV1.out.grown (fun _ _ _ _ _ _ h => h) HG2.out n2); have HB2 := aM (yk HB1.out (some g) HB1.out.size HG2.out (fun k hk => by injection hk with hk; have := HZ1.out.2; have h2 : g = k := hk; omega)); generalize w1.setRow g #[.int .i64 5, .int .i64 0, .string ⟨#[]⟩, .slice AK ks.length cK, .slice AV vs.length cV] = w2 at HG2 HZ2 HK2 HV2 HB2 ⊢; refine hK.out _ _ ?_; clear hK K; refine xt (by kernel_rfl) ?_; have HX02 := aM ((HB2.out.block _ (yd HX0.out)).trans HX0.out); have CP := aM (place kd nm t (c3 := c3) (A4 := A4) (n4 := vs.length) (c4 := c4) ks key w2 (Kd.C_below HKS.out HB2.out) (by omega)); have hl0 := zz (i := 0) HX02.out rfl; have hl1 := zz (i := 1) HX02.out rfl; have hl2 := zz (i := 2) HX02.out rfl; have hl3 := zz (i := 3) HX02.out rfl; have hl4 := zz (i := 4) HX02.out rfl
 go_wp2_with fail
 refine CP.out.mono ?_; rintro e w3 ⟨rfl, hb⟩; have HB3 := aM (xn HB2.out HB2.out.size hb); have hz3 := (hb.block _ (yd HZ2.out)).trans HZ2.out; have HK3 := HK2.out.below hb; have HV3 := HV2.out.below hb; have HGB := aM HZ1.out.2; clear hb CP HZ1 HZ2 HK1 HK2 HV1 HV2 HB1 HB2 HG2 HX02 hl0 hl1 hl2 hl3 hl4 HKS HVS HX3 HX4 y3 y4; obtain ⟨cK', eK⟩ := HK3.slice; obtain ⟨cV', eV⟩ := HV3.slice
 injection eK with e1 _ e3
 injection eV with e4 _ e6
 subst e1 e3 e4 e6; have hKc : ks.length ≤ cK := (Kd.R_reads' HK3.1).2.1; have hVc : vs.length ≤ cV := (Kd.R_reads' HV3.1).2.1; have HKC := aM (Kd.R_reads' HK3.1).2.2; have HVC := aM (Kd.R_reads' HV3.1).2.2; have HZ3 := aM (show w3.heap[g]? = some (.cells #[.int .i64 5, .int .i64 0, .string ⟨#[]⟩, .slice (some ⟨bK, 0, none⟩) ks.length cK, .slice (some ⟨bV, 0, none⟩) vs.length cV] 25 (0, 0)) from hz3); have HK3 := aM HK3; have HV3 := aM HV3; have hnKg := n1; have hnVg := n2; have hnKV := n3; clear hz3; have hb3sz := HB3.out.size; have HPL := aM (placeI_le ks key); have HPT := aM (fun h => placeB_lt (ks := ks) (key := key) h)
 unfold withK at HKK
 unfold withV at HVV
 obtain ⟨i, hpi⟩ : ∃ i, placeI ks key = i := ⟨_, rfl⟩
 rw [hpi] at HPL HPT HKK HVV ⊢; clear hpi
 obtain ⟨b, hpb⟩ : ∃ b, placeB ks key = b := ⟨_, rfl⟩
 rw [hpb] at HPT HKK HVV ⊢; clear hpb; have hiK : i ≤ ks.length := HPL.out
 have hiV : i ≤ vs.length := by have := HLEN.out; omega
 have q0 : (0 : Int) ≤ (i : Int) := by omega
 have HX3 := aM ((HB3.out.block _ (yd HX1.out)).trans HX1.out)
 cases b
 ·-- a new key
  have HE1 := aM (show ks.take i ++ ([key] ++ ks.drop i) = K2 from HKK.out); have HE2 := aM (show vs.take i ++ ([x] ++ vs.drop i) = V2 from HVV.out)
  obtain ⟨K1, hK1⟩ : ∃ K1, [key] ++ ks.drop i = K1 := ⟨_, rfl⟩
  obtain ⟨V1, hV1⟩ : ∃ V1, [x] ++ vs.drop i = V1 := ⟨_, rfl⟩
  rw [hK1] at HE1; rw [hV1] at HE2; have HL1 := aM (show K1.length = 1 + (ks.length - i) by rw [← hK1]; simp only [List.length_append, List.length_drop, List.length_singleton]); have HL2 := aM (show V1.length = 1 + (vs.length - i) by rw [← hV1]; simp only [List.length_append, List.length_drop, List.length_singleton]); have HD1 := aM hK1; have HD2 := aM hV1; clear hK1 hV1 HKK HVV HPT
  by_cases hlt : i < ks.length
  ·-- in the midst
   have hltV : i < vs.length := by have := HLEN.out; omega
   have q1 : (i : Int) < (ks.length : Int) := by omega
   have q2 : (i : Int) < (vs.length : Int) := by omega
   have hck : ¬ cK = i := by omega
   have hcv : ¬ cV = i := by omega
   have HDK := aM (fun (W' : World) (hb : Below w3.heap.size w3 W') => (show ReadsRow (fun (x : ByteArray) cs => cs = [Value.string x]) 1 W' (some ⟨bK, i, none⟩) (ks.length - i) (ks.drop i) from by
    have h := Kd.C_below (Kd.C_drop HKC.out hiK hKc) hb; rw [if_neg hck, List.length_drop] at h
    have ha : (Option.map (fun (a : Addr) => a.add (i * Kd.string.sz)) (some ⟨bK, 0, none⟩)) = some ⟨bK, i, none⟩ := by
     show some (Addr.add ⟨bK, 0, none⟩ (i * 1)) = _
     rw [Addr.add_mid, Nat.mul_one, Nat.zero_add]
    rw [ha] at h
    exact h))
   have hxK : i ≤ cK := by omega
   have hxV : i ≤ cV := by omega
   have z3 : w3.cell? ⟨g, 3, none⟩ = some (.slice (some ⟨bK, 0, none⟩) ks.length cK) := zz (i := 3) HZ3.out rfl
   go_wp2_with fail
   refine xl (n := 14) (S := fun w' => w'.cell? ⟨g, 3, none⟩ = some (.slice (some ⟨bK, 0, none⟩) ks.length cK)) (ds := [11, 13]) (bZ 14 0) (by kernel_rfl) rfl rfl (z3) (fun hHeld => ?_); refine pU 0 (some 32) (bZ 14 1) rfl (by kernel_rfl) ?_; refine pU 2 (some 34) (bZ 14 5) rfl (by kernel_rfl) ?_; refine pU 4 (some 36) (bZ 14 21) rfl (by kernel_rfl) ?_; refine pU 6 (some 38) (bZ 14 85) rfl (by kernel_rfl) ?_; refine pU 8 (some 40) (bZ 14 341) rfl (by kernel_rfl) ?_; refine tU 1 (some 33) (bZ 14 343) rfl (by kernel_rfl) (Or.inl ⟨by rfl, by intro w' s0; go_simp; with_reducible rfl⟩) hHeld ?_; refine pU 3 (some 35) (bZ 14 351) rfl (by kernel_rfl) ?_; refine tU 7 (some 39) (bZ 14 479) rfl (by kernel_rfl) (Or.inl ⟨by rfl, by intro w' s0; go_simp; with_reducible rfl⟩) hHeld ?_; refine pU 9 (some 41) (bZ 14 991) rfl (by kernel_rfl) ?_; refine one_ (i := 5) (N := some 37) (bZ 14 1023) rfl rfl (by kernel_rfl) (by decide) (fun K hK => ?_); refine yr (w1 := ?_) (v := ?_) (by rfl) rfl ?_ ?_; rotate_left 2
   ·go_simp; constructor
    ·rfl
    ·rfl
   refine hK.out _ _ (zk (zf (Below.refl _ _) _) hHeld) (fun hHeld => ?_); clear hK K; refine zx (a' := ?_) ?_ ?_; rotate_left
   ·show Act.put _ (some 37) _ = _
    simp only [Act.put, sA, sB, sC, yb, yc]; rfl
   refine one_ (i := 10) (N := some 42) (bZ 14 2047) rfl rfl (by kernel_rfl) (by decide) (fun K hK => ?_); refine Kd.R_append_rows_step Kd.string (w0 := W0) W0.heap.size rfl (.tmp 37) (.tmp 41) 22 9 (.string ⟨#[]⟩) 16 rfl Tryd.underlying22 yq rfl (show 0 < 1 by decide) (by decide) (.slice (some ⟨w3.heap.size, 0, none⟩) 1 1) [key] (ks.drop i) _ (ks.length - i) _ (fun _ => True) (fun _ => False) rfl rfl (Kd.R_drew (one_str w3 W0.heap.size _ hb3sz key)) (HDK.out _ (yi (zf (Below.refl _ w3) _))) (fun _ _ h => h) (fun _ h => h.elim) (fun _ _ => trivial) (yi (zf HB3.out _)) (yi (zf HB3.out _)).size (by simp only [List.length_singleton]; omega) ?_; intro v1 w5 ho hb hg hat; rw [HD1.out] at ho; obtain ⟨A1, c1, rfl, hle1, hC1⟩ := Kd.R_reads ho; have HC1 := aM hC1; have HB5 := aM hb
   have hg5 : (w3.alloc (.cells #[.string key] 9)).grownBy w5 (some w3.heap.size) := ⟨hg.os, hg.tape, hg.output, hg.size, hg.block⟩
   have HK5 := aM ((HK3.out.alloc (.cells #[.string key] 9)).grown (fun _ _ _ _ _ _ h => h) hg5 HK3.out.ne_new); have HV5 := aM ((HV3.out.alloc (.cells #[.string key] 9)).grown (fun _ _ _ _ _ _ h => h) hg5 HV3.out.ne_new); have HZ5 := aM ((hg5.block _ (yd (ze HZ3.out _)) (fun e => by have h1 := yd HZ3.out; have h2 := Option.some.inj e; omega)).trans (ze HZ3.out _)); have HT5 := aM (show Has Kd.string 9 W0 w5 (.slice (some ⟨bK, 0, none⟩) i cK) (ks.take i) bK from ⟨Kd.R_take HK5.out.1 hiK, rfl, HK5.out.2.2⟩); clear ho hb hg hat hle1 hC1 hg5; refine hK.out _ _ (zz (i := 3) HZ5.out rfl) (fun hHeld => ?_); clear hK K; refine zx (a' := ?_) ?_ ?_; rotate_left
   ·show Act.put _ (some 42) _ = _
    simp only [Act.put, sA, sB, sC, yb, yc]; rfl
   refine xo (i := 11) (N := some 43) (bZ 14 4095) rfl rfl (by kernel_rfl) (by decide) (fun K hK => ?_); refine Kd.R_append_rows_step Kd.string (w0 := W0) W0.heap.size rfl (.tmp 35) (.tmp 42) 22 9 (.string ⟨#[]⟩) 16 rfl Tryd.underlying22 yq rfl (show 0 < 1 by decide) (by decide) (.slice (some ⟨bK, 0, none⟩) i cK) (ks.take i) K1 _ _ _ (fun _ => True) (fun _ => False) rfl rfl HT5.out.1 (show ReadsRow (fun (x : ByteArray) cs => cs = [Value.string x]) 1 _ _ _ _ from HC1.out) (fun _ _ h => h) (fun _ h => h.elim) (fun _ _ => trivial) HB5.out HB5.out.size (by have := HL1.out; simp only [List.length_take]; omega) ?_; intro v2 w6 ho hb hg hat; rw [HE1.out] at ho; obtain ⟨A2K, c2K, rfl⟩ := Kd.R_slice ho; obtain ⟨bLK, hk, hor⟩ := HT5.out.grew ho hg hat; have HK6 := aM hk; have HB6 := aM hb; have hg6 : w5.grownBy w6 (some bK) := hg; have HV6 := aM (HV5.out.grown (fun _ _ _ _ _ _ h => h) hg6 (hnKV.symm)); have HZ6 := aM ((hg6.block _ (yd HZ5.out) (fun e => hnKg (Option.some.inj e).symm)).trans HZ5.out); have mKg := yh (hnKg.symm) (yd HZ5.out) hor; have mKo := yh (hnKV.symm) (HV5.out.2.2.1) hor; clear ho hb hg hat hk hor hg6; refine hK.out _ _ ?_; clear hK K; refine zx (a' := ?_) ?_ ?_; rotate_left
   ·show Act.put _ (some 43) _ = _
    simp only [Act.put, sA, sB, sC, yb, yc]; rfl
   refine pU 12 (some 44) (bZ 14 8191) rfl (by kernel_rfl) ?_; refine xo (i := 13) (N := none) (bZ 14 16383) rfl rfl (by kernel_rfl) (by decide) (fun K hK => ?_); have hc6 := zz (i := 3) HZ6.out rfl; have hfz := xy (i := 3) HZ6.out; refine skip_ (w1 := ?_) (by rfl) rfl ?_ ?_; rotate_left
   ·go_simp; rfl
   refine hK.out _ _ ?_; clear hK K; refine xt (by kernel_rfl) ?_; have HZ7 := aM (show (w6.setCell ⟨g, 3, none⟩ (.slice A2K K2.length c2K)).heap[g]? = some (.cells #[.int .i64 5, .int .i64 0, .string ⟨#[]⟩, .slice A2K K2.length c2K, .slice (some ⟨bV, 0, none⟩) vs.length cV] 25 (0, 0)) from cb_set HZ6.out _); have HK7 := aM (show Has Kd.string 9 W0 (w6.setCell ⟨g, 3, none⟩ (.slice A2K K2.length c2K)) (.slice A2K K2.length c2K) K2 bLK from HK6.out.grown (fun _ _ _ _ _ _ h => h) (yg w6 g 3 (.slice A2K K2.length c2K)) mKg.symm); have HV7 := aM (show Has (held 5 Pf h5 h1) 25 W0 (w6.setCell ⟨g, 3, none⟩ (.slice A2K K2.length c2K)) (.slice (some ⟨bV, 0, none⟩) vs.length cV) vs bV from HV6.out.grown (fun _ _ _ _ _ _ h => h) (yg w6 g 3 (.slice A2K K2.length c2K)) hnVg); have HB7 := aM (yk HB6.out (some g) HB6.out.size (yg w6 g 3 (.slice A2K K2.length c2K)) (fun k hk => by injection hk with hk; have := HGB.out; have h2 : g = k := hk; omega)); clear hHeld hc6 hfz z3; generalize w6.setCell ⟨g, 3, none⟩ (.slice A2K K2.length c2K) = w7 at HZ7 HK7 HV7 HB7 ⊢; have hb7sz := HB7.out.size; have HX7 := aM ((HB7.out.block _ (yd HX1.out)).trans HX1.out); have HVC7 := aM (Kd.R_reads' HV7.out.1).2.2; have z4 : w7.cell? ⟨g, 4, none⟩ = some (.slice (some ⟨bV, 0, none⟩) vs.length cV) := zz (i := 4) HZ7.out rfl; have e0 : w7.cell? ⟨w.heap.size + 1, 0, none⟩ = some (.int .i64 x.f0) := zz (i := 0) HX7.out rfl; have e1 : w7.cell? ⟨w.heap.size + 1, 1, none⟩ = some (.int .i64 x.f1) := zz (i := 1) HX7.out rfl; have e2 : w7.cell? ⟨w.heap.size + 1, 2, none⟩ = some (.string x.f2) := zz (i := 2) HX7.out rfl; have e3 : w7.cell? ⟨w.heap.size + 1, 3, none⟩ = some (.slice A5 x.f3.length c5) := zz (i := 3) HX7.out rfl; have e4 : w7.cell? ⟨w.heap.size + 1, 4, none⟩ = some (.slice A6 x.f4.length c6) := zz (i := 4) HX7.out rfl
   have HDV := aM (fun (W' : World) (hb : Below w7.heap.size w7 W') => (show ReadsRow Pf 5 W' (some ⟨bV, i * 5, none⟩) (vs.length - i) (vs.drop i) from by
    have h := Kd.C_below (Kd.C_drop HVC7.out hiV hVc) hb; rw [if_neg hcv, List.length_drop] at h
    have ha : (Option.map (fun (a : Addr) => a.add (i * (held 5 Pf h5 h1).sz)) (some ⟨bV, 0, none⟩)) = some ⟨bV, i * 5, none⟩ := by
     show some (Addr.add ⟨bV, 0, none⟩ (i * 5)) = _
     rw [Addr.add_mid, Nat.zero_add]
    rw [ha] at h
    exact h))
   go_wp2_with fail
   refine xl (n := 14) (S := fun w' => w'.cell? ⟨g, 4, none⟩ = some (.slice (some ⟨bV, 0, none⟩) vs.length cV) ∧ w'.cell? ⟨w.heap.size + 1, 0, none⟩ = some (.int .i64 x.f0) ∧ w'.cell? ⟨w.heap.size + 1, 1, none⟩ = some (.int .i64 x.f1) ∧ w'.cell? ⟨w.heap.size + 1, 2, none⟩ = some (.string x.f2) ∧ w'.cell? ⟨w.heap.size + 1, 3, none⟩ = some (.slice A5 x.f3.length c5) ∧ w'.cell? ⟨w.heap.size + 1, 4, none⟩ = some (.slice A6 x.f4.length c6)) (ds := [11, 13]) (bZ 14 0) (by kernel_rfl) rfl rfl ⟨z4, e0, e1, e2, e3, e4⟩ (fun hHeld => ?_); refine pU 0 (some 45) (bZ 14 1) rfl (by kernel_rfl) ?_; refine pU 2 (some 47) (bZ 14 5) rfl (by kernel_rfl) ?_; refine pU 6 (some 51) (bZ 14 69) rfl (by kernel_rfl) ?_; refine pU 8 (some 53) (bZ 14 325) rfl (by kernel_rfl) ?_; refine tU 1 (some 46) (bZ 14 327) rfl (by kernel_rfl) (Or.inl ⟨by rfl, by rintro w' ⟨s0, s1, s2, s3, s4, s5⟩; go_simp; with_reducible rfl⟩) hHeld ?_; refine pU 3 (some 48) (bZ 14 335) rfl (by kernel_rfl) ?_; refine tU 4 (some 49) (bZ 14 351) rfl (by kernel_rfl) (Or.inl ⟨by rfl, by rintro w' ⟨s0, s1, s2, s3, s4, s5⟩; go_simp; with_reducible rfl⟩) hHeld ?_; refine tU 7 (some 52) (bZ 14 479) rfl (by kernel_rfl) (Or.inl ⟨by rfl, by rintro w' ⟨s0, s1, s2, s3, s4, s5⟩; go_simp; with_reducible rfl⟩) hHeld ?_; refine pU 9 (some 54) (bZ 14 991) rfl (by kernel_rfl) ?_; refine one_ (i := 5) (N := some 50) (bZ 14 1023) rfl rfl (by kernel_rfl) (by decide) (fun K hK => ?_); refine yr (w1 := ?_) (v := ?_) (by rfl) rfl ?_ ?_; rotate_left 2
   ·go_simp; constructor
    ·rfl
    ·rfl
   refine hK.out _ _ ⟨zk (zf (Below.refl _ _) _) hHeld.1, zk (zf (Below.refl _ _) _) hHeld.2.1, zk (zf (Below.refl _ _) _) hHeld.2.2.1, zk (zf (Below.refl _ _) _) hHeld.2.2.2.1, zk (zf (Below.refl _ _) _) hHeld.2.2.2.2.1, zk (zf (Below.refl _ _) _) hHeld.2.2.2.2.2⟩ (fun hHeld => ?_); clear hK K; refine zx (a' := ?_) ?_ ?_; rotate_left
   ·show Act.put _ (some 50) _ = _
    simp only [Act.put, sA, sB, sC, yb, yc]; rfl
   refine one_ (i := 10) (N := some 55) (bZ 14 2047) rfl rfl (by kernel_rfl) (by decide) (fun K hK => ?_); refine Kd.R_append_rows_step (held 5 Pf h5 h1) (w0 := W0) W0.heap.size rfl (.tmp 50) (.tmp 54) 23 25 (.agg #[.int .i64 0, .int .i64 0, .string ⟨#[]⟩, .slice none 0 0, .slice none 0 0]) 80 rfl Tryd.underlying23 yz rfl (show 0 < 5 by decide) (by decide) (.slice (some ⟨w7.heap.size, 0, none⟩) 1 1) [x] (vs.drop i) _ (vs.length - i) _ (fun _ => True) (fun _ => False) rfl rfl (Kd.R_drew (one_held w7 W0.heap.size _ hb7sz x HXX.out)) (HDV.out _ (yi (zf (Below.refl _ w7) _))) (fun _ _ h => h) (fun _ h => h.elim) (fun _ _ => trivial) (yi (zf HB7.out _)) (yi (zf HB7.out _)).size (by simp only [List.length_singleton]; omega) ?_; intro v3 w8 ho hb hg hat; rw [HD2.out] at ho; obtain ⟨A1v, c1v, rfl, hle1, hC1⟩ := Kd.R_reads ho; have HC8 := aM hC1; have HB8 := aM hb
   have hg8 : (w7.alloc (.cells #[.int .i64 x.f0, .int .i64 x.f1, .string x.f2, .slice A5 x.f3.length c5, .slice A6 x.f4.length c6] 25)).grownBy w8 (some w7.heap.size) := ⟨hg.os, hg.tape, hg.output, hg.size, hg.block⟩
   have HK8 := aM ((HK7.out.alloc (.cells #[.int .i64 x.f0, .int .i64 x.f1, .string x.f2, .slice A5 x.f3.length c5, .slice A6 x.f4.length c6] 25)).grown (fun _ _ _ _ _ _ h => h) hg8 HK7.out.ne_new); have HV8 := aM ((HV7.out.alloc (.cells #[.int .i64 x.f0, .int .i64 x.f1, .string x.f2, .slice A5 x.f3.length c5, .slice A6 x.f4.length c6] 25)).grown (fun _ _ _ _ _ _ h => h) hg8 HV7.out.ne_new); have HZ8 := aM ((hg8.block _ (yd (ze HZ7.out _)) (fun e => by have h1 := yd HZ7.out; have h2 := Option.some.inj e; omega)).trans (ze HZ7.out _)); have HX8 := aM ((HB8.out.block _ (yd HX1.out)).trans HX1.out); have HT8 := aM (show Has (held 5 Pf h5 h1) 25 W0 w8 (.slice (some ⟨bV, 0, none⟩) i cV) (vs.take i) bV from ⟨Kd.R_take HV8.out.1 hiV, rfl, HV8.out.2.2⟩); clear ho hb hg hat hle1 hC1 hg8; refine hK.out _ _ ⟨zz (i := 4) HZ8.out rfl, zz (i := 0) HX8.out rfl, zz (i := 1) HX8.out rfl, zz (i := 2) HX8.out rfl, zz (i := 3) HX8.out rfl, zz (i := 4) HX8.out rfl⟩ (fun hHeld => ?_); clear hK K; refine zx (a' := ?_) ?_ ?_; rotate_left
   ·show Act.put _ (some 55) _ = _
    simp only [Act.put, sA, sB, sC, yb, yc]; rfl
   refine xo (i := 11) (N := some 56) (bZ 14 4095) rfl rfl (by kernel_rfl) (by decide) (fun K hK => ?_); refine Kd.R_append_rows_step (held 5 Pf h5 h1) (w0 := W0) W0.heap.size rfl (.tmp 48) (.tmp 55) 23 25 (.agg #[.int .i64 0, .int .i64 0, .string ⟨#[]⟩, .slice none 0 0, .slice none 0 0]) 80 rfl Tryd.underlying23 yz rfl (show 0 < 5 by decide) (by decide) (.slice (some ⟨bV, 0, none⟩) i cV) (vs.take i) V1 _ _ _ (fun _ => True) (fun _ => False) rfl rfl HT8.out.1 (show ReadsRow Pf 5 _ _ _ _ from HC8.out) (fun _ _ h => h) (fun _ h => h.elim) (fun _ _ => trivial) HB8.out HB8.out.size (by have := HL2.out; simp only [List.length_take]; omega) ?_; intro v4 w9 ho hb hg hat; rw [HE2.out] at ho; obtain ⟨A2V, c2V, rfl⟩ := Kd.R_slice ho; obtain ⟨bLV, hk, hor⟩ := HT8.out.grew ho hg hat; have HV9 := aM hk; have HB9 := aM hb; have hg9 : w8.grownBy w9 (some bV) := hg; have HK9 := aM (HK8.out.grown (fun _ _ _ _ _ _ h => h) hg9 mKo.symm); have HZ9 := aM ((hg9.block _ (yd HZ8.out) (fun e => hnVg (Option.some.inj e).symm)).trans HZ8.out); have mVg := yh (hnVg.symm) (yd HZ8.out) hor; clear ho hb hg hat hk hor hg9; refine hK.out _ _ ?_; clear hK K; refine zx (a' := ?_) ?_ ?_; rotate_left
   ·show Act.put _ (some 56) _ = _
    simp only [Act.put, sA, sB, sC, yb, yc]; rfl
   refine pU 12 (some 57) (bZ 14 8191) rfl (by kernel_rfl) ?_; refine xo (i := 13) (N := none) (bZ 14 16383) rfl rfl (by kernel_rfl) (by decide) (fun K hK => ?_); have hc9 := zz (i := 4) HZ9.out rfl; have hfz9 := xy (i := 4) HZ9.out; refine skip_ (w1 := ?_) (by rfl) rfl ?_ ?_; rotate_left
   ·go_simp; rfl
   refine hK.out _ _ ?_; clear hK K; refine xt (by kernel_rfl) ?_; have HZ10 := aM (show (w9.setCell ⟨g, 4, none⟩ (.slice A2V V2.length c2V)).heap[g]? = some (.cells #[.int .i64 5, .int .i64 0, .string ⟨#[]⟩, .slice A2K K2.length c2K, .slice A2V V2.length c2V] 25 (0, 0)) from cb_set HZ9.out _); have HK10 := aM (HK9.out.grown (fun _ _ _ _ _ _ h => h) (yg w9 g 4 (.slice A2V V2.length c2V)) mKg.symm); have HV10 := aM (show Has (held 5 Pf h5 h1) 25 W0 (w9.setCell ⟨g, 4, none⟩ (.slice A2V V2.length c2V)) (.slice A2V V2.length c2V) V2 bLV from HV9.out.grown (fun _ _ _ _ _ _ h => h) (yg w9 g 4 (.slice A2V V2.length c2V)) mVg.symm); have HB10 := aM (yk HB9.out (some g) HB9.out.size (yg w9 g 4 (.slice A2V V2.length c2V)) (fun k hk => by injection hk with hk; have := HGB.out; have h2 : g = k := hk; omega)); clear hHeld hc9 hfz9; generalize w9.setCell ⟨g, 4, none⟩ (.slice A2V V2.length c2V) = w10 at HZ10 HK10 HV10 HB10 ⊢; have hx2 := (HB10.out.block _ (yd HX2.out)).trans HX2.out
   go_wp2_with (first | refine yx (.tmp 7) rfl rfl rfl HZ10.out ?_ | refine xw (.tmp 6) (.tmp 58) rfl rfl rfl rfl hx2 ?_)
   have hg := yy w10 (w.heap.size + 2) #[.int .i64 5, .int .i64 0, .string ⟨#[]⟩, .slice A2K K2.length c2K, .slice A2V V2.length c2V]; have h1_ := HK10.out.grown (fun _ _ _ _ _ _ h => h) hg (by have := HK10.out.2.2.2; have := HSZ.out; omega); have h2_ := HV10.out.grown (fun _ _ _ _ _ _ h => h) hg (by have := HV10.out.2.2.2; have := HSZ.out; omega); have h3_ : Below w.heap.size w w10 := xn HBW.out HBW.out.size HB10.out; have h4_ := yk h3_ (some (w.heap.size + 2)) h3_.size hg (fun k hk => by injection hk with hk; have h2 : w.heap.size + 2 = k := hk; omega); have h5_ := setRow_heap w10 (w.heap.size + 2) _ #[.int .i64 5, .int .i64 0, .string ⟨#[]⟩, .slice A2K K2.length c2K, .slice A2V V2.length c2V] _ _ hx2
   have hle : w.heap.size ≤ W0.heap.size := by have := HSZ.out; omega
   exact bodyPost_ret (v := .agg #[.int .i64 5, .int .i64 0, .string ⟨#[]⟩, .slice A2K K2.length c2K, .slice A2V V2.length c2V]) (xp rfl rfl h5_) rfl ⟨A2K, c2K, A2V, c2V, rfl, Kd.R_lower h1_.1 hle, Kd.R_lower h2_.1 hle, h4_⟩
  ·-- at the end
   have hgeK : ks.length - i = 0 := by omega
   have hgeV : vs.length - i = 0 := by have := HLEN.out; omega
   have HGK := aM hgeK; have HGV := aM hgeV; clear hgeK hgeV
   have q1 : (i : Int) ≤ (ks.length : Int) := by omega
   have q2 : (i : Int) ≤ (vs.length : Int) := by omega
   have q3 : ¬ (i : Int) < (ks.length : Int) := by omega
   have HDK := aM (fun (W' : World) (hb : Below w3.heap.size w3 W') (A : Option Addr) => (show ReadsRow (fun (x : ByteArray) cs => cs = [Value.string x]) 1 W' A (ks.length - i) (ks.drop i) from
    ⟨List.length_drop, by omega, fun h => absurd h (by have := HGK.out; omega)⟩))
   have HDV := aM (fun (W' : World) (A : Option Addr) => (show ReadsRow Pf 5 W' A (vs.length - i) (vs.drop i) from
    ⟨List.length_drop, by omega, fun h => absurd h (by have := HGV.out; omega)⟩))
   by_cases hck : cK = i
   ·subst hck
    have hxK : cK ≤ cK := by omega
    have hxV : cK ≤ cV := by omega
    have z3 : w3.cell? ⟨g, 3, none⟩ = some (.slice (some ⟨bK, 0, none⟩) ks.length cK) := zz (i := 3) HZ3.out rfl
    go_wp2_with fail
    refine xl (n := 14) (S := fun w' => w'.cell? ⟨g, 3, none⟩ = some (.slice (some ⟨bK, 0, none⟩) ks.length cK)) (ds := [11, 13]) (bZ 14 0) (by kernel_rfl) rfl rfl (z3) (fun hHeld => ?_); refine pU 0 (some 32) (bZ 14 1) rfl (by kernel_rfl) ?_; refine pU 2 (some 34) (bZ 14 5) rfl (by kernel_rfl) ?_; refine pU 4 (some 36) (bZ 14 21) rfl (by kernel_rfl) ?_; refine pU 6 (some 38) (bZ 14 85) rfl (by kernel_rfl) ?_; refine pU 8 (some 40) (bZ 14 341) rfl (by kernel_rfl) ?_; refine tU 1 (some 33) (bZ 14 343) rfl (by kernel_rfl) (Or.inl ⟨by rfl, by intro w' s0; go_simp; with_reducible rfl⟩) hHeld ?_; refine pU 3 (some 35) (bZ 14 351) rfl (by kernel_rfl) ?_; refine tU 7 (some 39) (bZ 14 479) rfl (by kernel_rfl) (Or.inl ⟨by rfl, by intro w' s0; go_simp; with_reducible rfl⟩) hHeld ?_; refine pU 9 (some 41) (bZ 14 991) rfl (by kernel_rfl) ?_; refine one_ (i := 5) (N := some 37) (bZ 14 1023) rfl rfl (by kernel_rfl) (by decide) (fun K hK => ?_); refine yr (w1 := ?_) (v := ?_) (by rfl) rfl ?_ ?_; rotate_left 2
    ·go_simp; constructor
     ·rfl
     ·rfl
    refine hK.out _ _ (zk (zf (Below.refl _ _) _) hHeld) (fun hHeld => ?_); clear hK K; refine zx (a' := ?_) ?_ ?_; rotate_left
    ·show Act.put _ (some 37) _ = _
     simp only [Act.put, sA, sB, sC, yb, yc]; rfl
    refine one_ (i := 10) (N := some 42) (bZ 14 2047) rfl rfl (by kernel_rfl) (by decide) (fun K hK => ?_); refine Kd.R_append_rows_step Kd.string (w0 := W0) W0.heap.size rfl (.tmp 37) (.tmp 41) 22 9 (.string ⟨#[]⟩) 16 rfl Tryd.underlying22 yq rfl (show 0 < 1 by decide) (by decide) (.slice (some ⟨w3.heap.size, 0, none⟩) 1 1) [key] (ks.drop cK) (some ⟨bK, 0, none⟩) 0 _ (fun _ => True) (fun _ => False) rfl rfl (Kd.R_drew (one_str w3 W0.heap.size _ hb3sz key)) (by have h := HDK.out _ (yi (zf (Below.refl _ w3) (.cells #[.string key] 9))) (some ⟨bK, 0, none⟩); rw [HGK.out] at h; exact h) (fun _ _ h => h) (fun _ h => h.elim) (fun _ _ => trivial) (yi (zf HB3.out _)) (yi (zf HB3.out _)).size (by simp only [List.length_singleton]; omega) ?_; intro v1 w5 ho hb hg hat; rw [HD1.out] at ho; obtain ⟨A1, c1, rfl, hle1, hC1⟩ := Kd.R_reads ho; have HC1 := aM hC1; have HB5 := aM hb
    have hg5 : (w3.alloc (.cells #[.string key] 9)).grownBy w5 (some w3.heap.size) := ⟨hg.os, hg.tape, hg.output, hg.size, hg.block⟩
    have HK5 := aM ((HK3.out.alloc (.cells #[.string key] 9)).grown (fun _ _ _ _ _ _ h => h) hg5 HK3.out.ne_new); have HV5 := aM ((HV3.out.alloc (.cells #[.string key] 9)).grown (fun _ _ _ _ _ _ h => h) hg5 HV3.out.ne_new); have HZ5 := aM ((hg5.block _ (yd (ze HZ3.out _)) (fun e => by have h1 := yd HZ3.out; have h2 := Option.some.inj e; omega)).trans (ze HZ3.out _)); have HT5 := aM (show Has Kd.string 9 W0 w5 (.slice (some ⟨bK, 0, none⟩) cK cK) (ks.take cK) bK from ⟨Kd.R_take HK5.out.1 hiK, rfl, HK5.out.2.2⟩); clear ho hb hg hat hle1 hC1 hg5; refine hK.out _ _ (zz (i := 3) HZ5.out rfl) (fun hHeld => ?_); clear hK K; refine zx (a' := ?_) ?_ ?_; rotate_left
    ·show Act.put _ (some 42) _ = _
     simp only [Act.put, sA, sB, sC, yb, yc]; rfl
    refine xo (i := 11) (N := some 43) (bZ 14 4095) rfl rfl (by kernel_rfl) (by decide) (fun K hK => ?_); refine Kd.R_append_rows_step Kd.string (w0 := W0) W0.heap.size rfl (.tmp 35) (.tmp 42) 22 9 (.string ⟨#[]⟩) 16 rfl Tryd.underlying22 yq rfl (show 0 < 1 by decide) (by decide) (.slice (some ⟨bK, 0, none⟩) cK cK) (ks.take cK) K1 _ _ _ (fun _ => True) (fun _ => False) rfl rfl HT5.out.1 (show ReadsRow (fun (x : ByteArray) cs => cs = [Value.string x]) 1 _ _ _ _ from HC1.out) (fun _ _ h => h) (fun _ h => h.elim) (fun _ _ => trivial) HB5.out HB5.out.size (by have := HL1.out; simp only [List.length_take]; omega) ?_; intro v2 w6 ho hb hg hat; rw [HE1.out] at ho; obtain ⟨A2K, c2K, rfl⟩ := Kd.R_slice ho; obtain ⟨bLK, hk, hor⟩ := HT5.out.grew ho hg hat; have HK6 := aM hk; have HB6 := aM hb; have hg6 : w5.grownBy w6 (some bK) := hg; have HV6 := aM (HV5.out.grown (fun _ _ _ _ _ _ h => h) hg6 (hnKV.symm)); have HZ6 := aM ((hg6.block _ (yd HZ5.out) (fun e => hnKg (Option.some.inj e).symm)).trans HZ5.out); have mKg := yh (hnKg.symm) (yd HZ5.out) hor; have mKo := yh (hnKV.symm) (HV5.out.2.2.1) hor; clear ho hb hg hat hk hor hg6; refine hK.out _ _ ?_; clear hK K; refine zx (a' := ?_) ?_ ?_; rotate_left
    ·show Act.put _ (some 43) _ = _
     simp only [Act.put, sA, sB, sC, yb, yc]; rfl
    refine pU 12 (some 44) (bZ 14 8191) rfl (by kernel_rfl) ?_; refine xo (i := 13) (N := none) (bZ 14 16383) rfl rfl (by kernel_rfl) (by decide) (fun K hK => ?_); have hc6 := zz (i := 3) HZ6.out rfl; have hfz := xy (i := 3) HZ6.out; refine skip_ (w1 := ?_) (by rfl) rfl ?_ ?_; rotate_left
    ·go_simp; rfl
    refine hK.out _ _ ?_; clear hK K; refine xt (by kernel_rfl) ?_; have HZ7 := aM (show (w6.setCell ⟨g, 3, none⟩ (.slice A2K K2.length c2K)).heap[g]? = some (.cells #[.int .i64 5, .int .i64 0, .string ⟨#[]⟩, .slice A2K K2.length c2K, .slice (some ⟨bV, 0, none⟩) vs.length cV] 25 (0, 0)) from cb_set HZ6.out _); have HK7 := aM (show Has Kd.string 9 W0 (w6.setCell ⟨g, 3, none⟩ (.slice A2K K2.length c2K)) (.slice A2K K2.length c2K) K2 bLK from HK6.out.grown (fun _ _ _ _ _ _ h => h) (yg w6 g 3 (.slice A2K K2.length c2K)) mKg.symm); have HV7 := aM (show Has (held 5 Pf h5 h1) 25 W0 (w6.setCell ⟨g, 3, none⟩ (.slice A2K K2.length c2K)) (.slice (some ⟨bV, 0, none⟩) vs.length cV) vs bV from HV6.out.grown (fun _ _ _ _ _ _ h => h) (yg w6 g 3 (.slice A2K K2.length c2K)) hnVg); have HB7 := aM (yk HB6.out (some g) HB6.out.size (yg w6 g 3 (.slice A2K K2.length c2K)) (fun k hk => by injection hk with hk; have := HGB.out; have h2 : g = k := hk; omega)); clear hHeld hc6 hfz z3; generalize w6.setCell ⟨g, 3, none⟩ (.slice A2K K2.length c2K) = w7 at HZ7 HK7 HV7 HB7 ⊢; have hb7sz := HB7.out.size; have HX7 := aM ((HB7.out.block _ (yd HX1.out)).trans HX1.out); have HVC7 := aM (Kd.R_reads' HV7.out.1).2.2; have z4 : w7.cell? ⟨g, 4, none⟩ = some (.slice (some ⟨bV, 0, none⟩) vs.length cV) := zz (i := 4) HZ7.out rfl; have e0 : w7.cell? ⟨w.heap.size + 1, 0, none⟩ = some (.int .i64 x.f0) := zz (i := 0) HX7.out rfl; have e1 : w7.cell? ⟨w.heap.size + 1, 1, none⟩ = some (.int .i64 x.f1) := zz (i := 1) HX7.out rfl; have e2 : w7.cell? ⟨w.heap.size + 1, 2, none⟩ = some (.string x.f2) := zz (i := 2) HX7.out rfl; have e3 : w7.cell? ⟨w.heap.size + 1, 3, none⟩ = some (.slice A5 x.f3.length c5) := zz (i := 3) HX7.out rfl; have e4 : w7.cell? ⟨w.heap.size + 1, 4, none⟩ = some (.slice A6 x.f4.length c6) := zz (i := 4) HX7.out rfl
    by_cases hcv : cV = cK
    ·subst hcv
     go_wp2_with fail
     refine xl (n := 14) (S := fun w' => w'.cell? ⟨g, 4, none⟩ = some (.slice (some ⟨bV, 0, none⟩) vs.length cV) ∧ w'.cell? ⟨w.heap.size + 1, 0, none⟩ = some (.int .i64 x.f0) ∧ w'.cell? ⟨w.heap.size + 1, 1, none⟩ = some (.int .i64 x.f1) ∧ w'.cell? ⟨w.heap.size + 1, 2, none⟩ = some (.string x.f2) ∧ w'.cell? ⟨w.heap.size + 1, 3, none⟩ = some (.slice A5 x.f3.length c5) ∧ w'.cell? ⟨w.heap.size + 1, 4, none⟩ = some (.slice A6 x.f4.length c6)) (ds := [11, 13]) (bZ 14 0) (by kernel_rfl) rfl rfl ⟨z4, e0, e1, e2, e3, e4⟩ (fun hHeld => ?_); refine pU 0 (some 45) (bZ 14 1) rfl (by kernel_rfl) ?_; refine pU 2 (some 47) (bZ 14 5) rfl (by kernel_rfl) ?_; refine pU 6 (some 51) (bZ 14 69) rfl (by kernel_rfl) ?_; refine pU 8 (some 53) (bZ 14 325) rfl (by kernel_rfl) ?_; refine tU 1 (some 46) (bZ 14 327) rfl (by kernel_rfl) (Or.inl ⟨by rfl, by rintro w' ⟨s0, s1, s2, s3, s4, s5⟩; go_simp; with_reducible rfl⟩) hHeld ?_; refine pU 3 (some 48) (bZ 14 335) rfl (by kernel_rfl) ?_; refine tU 4 (some 49) (bZ 14 351) rfl (by kernel_rfl) (Or.inl ⟨by rfl, by rintro w' ⟨s0, s1, s2, s3, s4, s5⟩; go_simp; with_reducible rfl⟩) hHeld ?_; refine tU 7 (some 52) (bZ 14 479) rfl (by kernel_rfl) (Or.inl ⟨by rfl, by rintro w' ⟨s0, s1, s2, s3, s4, s5⟩; go_simp; with_reducible rfl⟩) hHeld ?_; refine pU 9 (some 54) (bZ 14 991) rfl (by kernel_rfl) ?_; refine one_ (i := 5) (N := some 50) (bZ 14 1023) rfl rfl (by kernel_rfl) (by decide) (fun K hK => ?_); refine yr (w1 := ?_) (v := ?_) (by rfl) rfl ?_ ?_; rotate_left 2
     ·go_simp; constructor
      ·rfl
      ·rfl
     refine hK.out _ _ ⟨zk (zf (Below.refl _ _) _) hHeld.1, zk (zf (Below.refl _ _) _) hHeld.2.1, zk (zf (Below.refl _ _) _) hHeld.2.2.1, zk (zf (Below.refl _ _) _) hHeld.2.2.2.1, zk (zf (Below.refl _ _) _) hHeld.2.2.2.2.1, zk (zf (Below.refl _ _) _) hHeld.2.2.2.2.2⟩ (fun hHeld => ?_); clear hK K; refine zx (a' := ?_) ?_ ?_; rotate_left
     ·show Act.put _ (some 50) _ = _
      simp only [Act.put, sA, sB, sC, yb, yc]; rfl
     refine one_ (i := 10) (N := some 55) (bZ 14 2047) rfl rfl (by kernel_rfl) (by decide) (fun K hK => ?_); refine Kd.R_append_rows_step (held 5 Pf h5 h1) (w0 := W0) W0.heap.size rfl (.tmp 50) (.tmp 54) 23 25 (.agg #[.int .i64 0, .int .i64 0, .string ⟨#[]⟩, .slice none 0 0, .slice none 0 0]) 80 rfl Tryd.underlying23 yz rfl (show 0 < 5 by decide) (by decide) (.slice (some ⟨w7.heap.size, 0, none⟩) 1 1) [x] (vs.drop cV) (some ⟨bV, 0, none⟩) 0 _ (fun _ => True) (fun _ => False) rfl rfl (Kd.R_drew (one_held w7 W0.heap.size _ hb7sz x HXX.out)) (by have h := HDV.out ((w7.alloc (.cells #[.int .i64 x.f0, .int .i64 x.f1, .string x.f2, .slice A5 x.f3.length c5, .slice A6 x.f4.length c6] 25)).drew) (some ⟨bV, 0, none⟩); rw [HGV.out] at h; exact h) (fun _ _ h => h) (fun _ h => h.elim) (fun _ _ => trivial) (yi (zf HB7.out _)) (yi (zf HB7.out _)).size (by simp only [List.length_singleton]; omega) ?_; intro v3 w8 ho hb hg hat; rw [HD2.out] at ho; obtain ⟨A1v, c1v, rfl, hle1, hC1⟩ := Kd.R_reads ho; have HC8 := aM hC1; have HB8 := aM hb
     have hg8 : (w7.alloc (.cells #[.int .i64 x.f0, .int .i64 x.f1, .string x.f2, .slice A5 x.f3.length c5, .slice A6 x.f4.length c6] 25)).grownBy w8 (some w7.heap.size) := ⟨hg.os, hg.tape, hg.output, hg.size, hg.block⟩
     have HK8 := aM ((HK7.out.alloc (.cells #[.int .i64 x.f0, .int .i64 x.f1, .string x.f2, .slice A5 x.f3.length c5, .slice A6 x.f4.length c6] 25)).grown (fun _ _ _ _ _ _ h => h) hg8 HK7.out.ne_new); have HV8 := aM ((HV7.out.alloc (.cells #[.int .i64 x.f0, .int .i64 x.f1, .string x.f2, .slice A5 x.f3.length c5, .slice A6 x.f4.length c6] 25)).grown (fun _ _ _ _ _ _ h => h) hg8 HV7.out.ne_new); have HZ8 := aM ((hg8.block _ (yd (ze HZ7.out _)) (fun e => by have h1 := yd HZ7.out; have h2 := Option.some.inj e; omega)).trans (ze HZ7.out _)); have HX8 := aM ((HB8.out.block _ (yd HX1.out)).trans HX1.out); have HT8 := aM (show Has (held 5 Pf h5 h1) 25 W0 w8 (.slice (some ⟨bV, 0, none⟩) cV cV) (vs.take cV) bV from ⟨Kd.R_take HV8.out.1 hiV, rfl, HV8.out.2.2⟩); clear ho hb hg hat hle1 hC1 hg8; refine hK.out _ _ ⟨zz (i := 4) HZ8.out rfl, zz (i := 0) HX8.out rfl, zz (i := 1) HX8.out rfl, zz (i := 2) HX8.out rfl, zz (i := 3) HX8.out rfl, zz (i := 4) HX8.out rfl⟩ (fun hHeld => ?_); clear hK K; refine zx (a' := ?_) ?_ ?_; rotate_left
     ·show Act.put _ (some 55) _ = _
      simp only [Act.put, sA, sB, sC, yb, yc]; rfl
     refine xo (i := 11) (N := some 56) (bZ 14 4095) rfl rfl (by kernel_rfl) (by decide) (fun K hK => ?_); refine Kd.R_append_rows_step (held 5 Pf h5 h1) (w0 := W0) W0.heap.size rfl (.tmp 48) (.tmp 55) 23 25 (.agg #[.int .i64 0, .int .i64 0, .string ⟨#[]⟩, .slice none 0 0, .slice none 0 0]) 80 rfl Tryd.underlying23 yz rfl (show 0 < 5 by decide) (by decide) (.slice (some ⟨bV, 0, none⟩) cV cV) (vs.take cV) V1 _ _ _ (fun _ => True) (fun _ => False) rfl rfl HT8.out.1 (show ReadsRow Pf 5 _ _ _ _ from HC8.out) (fun _ _ h => h) (fun _ h => h.elim) (fun _ _ => trivial) HB8.out HB8.out.size (by have := HL2.out; simp only [List.length_take]; omega) ?_; intro v4 w9 ho hb hg hat; rw [HE2.out] at ho; obtain ⟨A2V, c2V, rfl⟩ := Kd.R_slice ho; obtain ⟨bLV, hk, hor⟩ := HT8.out.grew ho hg hat; have HV9 := aM hk; have HB9 := aM hb; have hg9 : w8.grownBy w9 (some bV) := hg; have HK9 := aM (HK8.out.grown (fun _ _ _ _ _ _ h => h) hg9 mKo.symm); have HZ9 := aM ((hg9.block _ (yd HZ8.out) (fun e => hnVg (Option.some.inj e).symm)).trans HZ8.out); have mVg := yh (hnVg.symm) (yd HZ8.out) hor; clear ho hb hg hat hk hor hg9; refine hK.out _ _ ?_; clear hK K; refine zx (a' := ?_) ?_ ?_; rotate_left
     ·show Act.put _ (some 56) _ = _
      simp only [Act.put, sA, sB, sC, yb, yc]; rfl
     refine pU 12 (some 57) (bZ 14 8191) rfl (by kernel_rfl) ?_; refine xo (i := 13) (N := none) (bZ 14 16383) rfl rfl (by kernel_rfl) (by decide) (fun K hK => ?_); have hc9 := zz (i := 4) HZ9.out rfl; have hfz9 := xy (i := 4) HZ9.out; refine skip_ (w1 := ?_) (by rfl) rfl ?_ ?_; rotate_left
     ·go_simp; rfl
     refine hK.out _ _ ?_; clear hK K; refine xt (by kernel_rfl) ?_; have HZ10 := aM (show (w9.setCell ⟨g, 4, none⟩ (.slice A2V V2.length c2V)).heap[g]? = some (.cells #[.int .i64 5, .int .i64 0, .string ⟨#[]⟩, .slice A2K K2.length c2K, .slice A2V V2.length c2V] 25 (0, 0)) from cb_set HZ9.out _); have HK10 := aM (HK9.out.grown (fun _ _ _ _ _ _ h => h) (yg w9 g 4 (.slice A2V V2.length c2V)) mKg.symm); have HV10 := aM (show Has (held 5 Pf h5 h1) 25 W0 (w9.setCell ⟨g, 4, none⟩ (.slice A2V V2.length c2V)) (.slice A2V V2.length c2V) V2 bLV from HV9.out.grown (fun _ _ _ _ _ _ h => h) (yg w9 g 4 (.slice A2V V2.length c2V)) mVg.symm); have HB10 := aM (yk HB9.out (some g) HB9.out.size (yg w9 g 4 (.slice A2V V2.length c2V)) (fun k hk => by injection hk with hk; have := HGB.out; have h2 : g = k := hk; omega)); clear hHeld hc9 hfz9; generalize w9.setCell ⟨g, 4, none⟩ (.slice A2V V2.length c2V) = w10 at HZ10 HK10 HV10 HB10 ⊢; have hx2 := (HB10.out.block _ (yd HX2.out)).trans HX2.out
     go_wp2_with (first | refine yx (.tmp 7) rfl rfl rfl HZ10.out ?_ | refine xw (.tmp 6) (.tmp 58) rfl rfl rfl rfl hx2 ?_)
     have hg := yy w10 (w.heap.size + 2) #[.int .i64 5, .int .i64 0, .string ⟨#[]⟩, .slice A2K K2.length c2K, .slice A2V V2.length c2V]; have h1_ := HK10.out.grown (fun _ _ _ _ _ _ h => h) hg (by have := HK10.out.2.2.2; have := HSZ.out; omega); have h2_ := HV10.out.grown (fun _ _ _ _ _ _ h => h) hg (by have := HV10.out.2.2.2; have := HSZ.out; omega); have h3_ : Below w.heap.size w w10 := xn HBW.out HBW.out.size HB10.out; have h4_ := yk h3_ (some (w.heap.size + 2)) h3_.size hg (fun k hk => by injection hk with hk; have h2 : w.heap.size + 2 = k := hk; omega); have h5_ := setRow_heap w10 (w.heap.size + 2) _ #[.int .i64 5, .int .i64 0, .string ⟨#[]⟩, .slice A2K K2.length c2K, .slice A2V V2.length c2V] _ _ hx2
     have hle : w.heap.size ≤ W0.heap.size := by have := HSZ.out; omega
     exact bodyPost_ret (v := .agg #[.int .i64 5, .int .i64 0, .string ⟨#[]⟩, .slice A2K K2.length c2K, .slice A2V V2.length c2V]) (xp rfl rfl h5_) rfl ⟨A2K, c2K, A2V, c2V, rfl, Kd.R_lower h1_.1 hle, Kd.R_lower h2_.1 hle, h4_⟩
    ·skip
     go_wp2_with fail
     refine xl (n := 14) (S := fun w' => w'.cell? ⟨g, 4, none⟩ = some (.slice (some ⟨bV, 0, none⟩) vs.length cV) ∧ w'.cell? ⟨w.heap.size + 1, 0, none⟩ = some (.int .i64 x.f0) ∧ w'.cell? ⟨w.heap.size + 1, 1, none⟩ = some (.int .i64 x.f1) ∧ w'.cell? ⟨w.heap.size + 1, 2, none⟩ = some (.string x.f2) ∧ w'.cell? ⟨w.heap.size + 1, 3, none⟩ = some (.slice A5 x.f3.length c5) ∧ w'.cell? ⟨w.heap.size + 1, 4, none⟩ = some (.slice A6 x.f4.length c6)) (ds := [11, 13]) (bZ 14 0) (by kernel_rfl) rfl rfl ⟨z4, e0, e1, e2, e3, e4⟩ (fun hHeld => ?_); refine pU 0 (some 45) (bZ 14 1) rfl (by kernel_rfl) ?_; refine pU 2 (some 47) (bZ 14 5) rfl (by kernel_rfl) ?_; refine pU 6 (some 51) (bZ 14 69) rfl (by kernel_rfl) ?_; refine pU 8 (some 53) (bZ 14 325) rfl (by kernel_rfl) ?_; refine tU 1 (some 46) (bZ 14 327) rfl (by kernel_rfl) (Or.inl ⟨by rfl, by rintro w' ⟨s0, s1, s2, s3, s4, s5⟩; go_simp; with_reducible rfl⟩) hHeld ?_; refine pU 3 (some 48) (bZ 14 335) rfl (by kernel_rfl) ?_; refine tU 4 (some 49) (bZ 14 351) rfl (by kernel_rfl) (Or.inl ⟨by rfl, by rintro w' ⟨s0, s1, s2, s3, s4, s5⟩; go_simp; with_reducible rfl⟩) hHeld ?_; refine tU 7 (some 52) (bZ 14 479) rfl (by kernel_rfl) (Or.inl ⟨by rfl, by rintro w' ⟨s0, s1, s2, s3, s4, s5⟩; go_simp; with_reducible rfl⟩) hHeld ?_; refine pU 9 (some 54) (bZ 14 991) rfl (by kernel_rfl) ?_; refine one_ (i := 5) (N := some 50) (bZ 14 1023) rfl rfl (by kernel_rfl) (by decide) (fun K hK => ?_); refine yr (w1 := ?_) (v := ?_) (by rfl) rfl ?_ ?_; rotate_left 2
     ·go_simp; constructor
      ·rfl
      ·rfl
     refine hK.out _ _ ⟨zk (zf (Below.refl _ _) _) hHeld.1, zk (zf (Below.refl _ _) _) hHeld.2.1, zk (zf (Below.refl _ _) _) hHeld.2.2.1, zk (zf (Below.refl _ _) _) hHeld.2.2.2.1, zk (zf (Below.refl _ _) _) hHeld.2.2.2.2.1, zk (zf (Below.refl _ _) _) hHeld.2.2.2.2.2⟩ (fun hHeld => ?_); clear hK K; refine zx (a' := ?_) ?_ ?_; rotate_left
     ·show Act.put _ (some 50) _ = _
      simp only [Act.put, sA, sB, sC, yb, yc]; rfl
     refine one_ (i := 10) (N := some 55) (bZ 14 2047) rfl rfl (by kernel_rfl) (by decide) (fun K hK => ?_); refine Kd.R_append_rows_step (held 5 Pf h5 h1) (w0 := W0) W0.heap.size rfl (.tmp 50) (.tmp 54) 23 25 (.agg #[.int .i64 0, .int .i64 0, .string ⟨#[]⟩, .slice none 0 0, .slice none 0 0]) 80 rfl Tryd.underlying23 yz rfl (show 0 < 5 by decide) (by decide) (.slice (some ⟨w7.heap.size, 0, none⟩) 1 1) [x] (vs.drop cK) _ (vs.length - cK) _ (fun _ => True) (fun _ => False) rfl rfl (Kd.R_drew (one_held w7 W0.heap.size _ hb7sz x HXX.out)) (HDV.out _ _) (fun _ _ h => h) (fun _ h => h.elim) (fun _ _ => trivial) (yi (zf HB7.out _)) (yi (zf HB7.out _)).size (by simp only [List.length_singleton]; omega) ?_; intro v3 w8 ho hb hg hat; rw [HD2.out] at ho; obtain ⟨A1v, c1v, rfl, hle1, hC1⟩ := Kd.R_reads ho; have HC8 := aM hC1; have HB8 := aM hb
     have hg8 : (w7.alloc (.cells #[.int .i64 x.f0, .int .i64 x.f1, .string x.f2, .slice A5 x.f3.length c5, .slice A6 x.f4.length c6] 25)).grownBy w8 (some w7.heap.size) := ⟨hg.os, hg.tape, hg.output, hg.size, hg.block⟩
     have HK8 := aM ((HK7.out.alloc (.cells #[.int .i64 x.f0, .int .i64 x.f1, .string x.f2, .slice A5 x.f3.length c5, .slice A6 x.f4.length c6] 25)).grown (fun _ _ _ _ _ _ h => h) hg8 HK7.out.ne_new); have HV8 := aM ((HV7.out.alloc (.cells #[.int .i64 x.f0, .int .i64 x.f1, .string x.f2, .slice A5 x.f3.length c5, .slice A6 x.f4.length c6] 25)).grown (fun _ _ _ _ _ _ h => h) hg8 HV7.out.ne_new); have HZ8 := aM ((hg8.block _ (yd (ze HZ7.out _)) (fun e => by have h1 := yd HZ7.out; have h2 := Option.some.inj e; omega)).trans (ze HZ7.out _)); have HX8 := aM ((HB8.out.block _ (yd HX1.out)).trans HX1.out); have HT8 := aM (show Has (held 5 Pf h5 h1) 25 W0 w8 (.slice (some ⟨bV, 0, none⟩) cK cV) (vs.take cK) bV from ⟨Kd.R_take HV8.out.1 hiV, rfl, HV8.out.2.2⟩); clear ho hb hg hat hle1 hC1 hg8; refine hK.out _ _ ⟨zz (i := 4) HZ8.out rfl, zz (i := 0) HX8.out rfl, zz (i := 1) HX8.out rfl, zz (i := 2) HX8.out rfl, zz (i := 3) HX8.out rfl, zz (i := 4) HX8.out rfl⟩ (fun hHeld => ?_); clear hK K; refine zx (a' := ?_) ?_ ?_; rotate_left
     ·show Act.put _ (some 55) _ = _
      simp only [Act.put, sA, sB, sC, yb, yc]; rfl
     refine xo (i := 11) (N := some 56) (bZ 14 4095) rfl rfl (by kernel_rfl) (by decide) (fun K hK => ?_); refine Kd.R_append_rows_step (held 5 Pf h5 h1) (w0 := W0) W0.heap.size rfl (.tmp 48) (.tmp 55) 23 25 (.agg #[.int .i64 0, .int .i64 0, .string ⟨#[]⟩, .slice none 0 0, .slice none 0 0]) 80 rfl Tryd.underlying23 yz rfl (show 0 < 5 by decide) (by decide) (.slice (some ⟨bV, 0, none⟩) cK cV) (vs.take cK) V1 _ _ _ (fun _ => True) (fun _ => False) rfl rfl HT8.out.1 (show ReadsRow Pf 5 _ _ _ _ from HC8.out) (fun _ _ h => h) (fun _ h => h.elim) (fun _ _ => trivial) HB8.out HB8.out.size (by have := HL2.out; simp only [List.length_take]; omega) ?_; intro v4 w9 ho hb hg hat; rw [HE2.out] at ho; obtain ⟨A2V, c2V, rfl⟩ := Kd.R_slice ho; obtain ⟨bLV, hk, hor⟩ := HT8.out.grew ho hg hat; have HV9 := aM hk; have HB9 := aM hb; have hg9 : w8.grownBy w9 (some bV) := hg; have HK9 := aM (HK8.out.grown (fun _ _ _ _ _ _ h => h) hg9 mKo.symm); have HZ9 := aM ((hg9.block _ (yd HZ8.out) (fun e => hnVg (Option.some.inj e).symm)).trans HZ8.out); have mVg := yh (hnVg.symm) (yd HZ8.out) hor; clear ho hb hg hat hk hor hg9; refine hK.out _ _ ?_; clear hK K; refine zx (a' := ?_) ?_ ?_; rotate_left
     ·show Act.put _ (some 56) _ = _
      simp only [Act.put, sA, sB, sC, yb, yc]; rfl
     refine pU 12 (some 57) (bZ 14 8191) rfl (by kernel_rfl) ?_; refine xo (i := 13) (N := none) (bZ 14 16383) rfl rfl (by kernel_rfl) (by decide) (fun K hK => ?_); have hc9 := zz (i := 4) HZ9.out rfl; have hfz9 := xy (i := 4) HZ9.out; refine skip_ (w1 := ?_) (by rfl) rfl ?_ ?_; rotate_left
     ·go_simp; rfl
     refine hK.out _ _ ?_; clear hK K; refine xt (by kernel_rfl) ?_; have HZ10 := aM (show (w9.setCell ⟨g, 4, none⟩ (.slice A2V V2.length c2V)).heap[g]? = some (.cells #[.int .i64 5, .int .i64 0, .string ⟨#[]⟩, .slice A2K K2.length c2K, .slice A2V V2.length c2V] 25 (0, 0)) from cb_set HZ9.out _); have HK10 := aM (HK9.out.grown (fun _ _ _ _ _ _ h => h) (yg w9 g 4 (.slice A2V V2.length c2V)) mKg.symm); have HV10 := aM (show Has (held 5 Pf h5 h1) 25 W0 (w9.setCell ⟨g, 4, none⟩ (.slice A2V V2.length c2V)) (.slice A2V V2.length c2V) V2 bLV from HV9.out.grown (fun _ _ _ _ _ _ h => h) (yg w9 g 4 (.slice A2V V2.length c2V)) mVg.symm); have HB10 := aM (yk HB9.out (some g) HB9.out.size (yg w9 g 4 (.slice A2V V2.length c2V)) (fun k hk => by injection hk with hk; have := HGB.out; have h2 : g = k := hk; omega)); clear hHeld hc9 hfz9; generalize w9.setCell ⟨g, 4, none⟩ (.slice A2V V2.length c2V) = w10 at HZ10 HK10 HV10 HB10 ⊢; have hx2 := (HB10.out.block _ (yd HX2.out)).trans HX2.out
     go_wp2_with (first | refine yx (.tmp 7) rfl rfl rfl HZ10.out ?_ | refine xw (.tmp 6) (.tmp 58) rfl rfl rfl rfl hx2 ?_)
     have hg := yy w10 (w.heap.size + 2) #[.int .i64 5, .int .i64 0, .string ⟨#[]⟩, .slice A2K K2.length c2K, .slice A2V V2.length c2V]; have h1_ := HK10.out.grown (fun _ _ _ _ _ _ h => h) hg (by have := HK10.out.2.2.2; have := HSZ.out; omega); have h2_ := HV10.out.grown (fun _ _ _ _ _ _ h => h) hg (by have := HV10.out.2.2.2; have := HSZ.out; omega); have h3_ : Below w.heap.size w w10 := xn HBW.out HBW.out.size HB10.out; have h4_ := yk h3_ (some (w.heap.size + 2)) h3_.size hg (fun k hk => by injection hk with hk; have h2 : w.heap.size + 2 = k := hk; omega); have h5_ := setRow_heap w10 (w.heap.size + 2) _ #[.int .i64 5, .int .i64 0, .string ⟨#[]⟩, .slice A2K K2.length c2K, .slice A2V V2.length c2V] _ _ hx2
     have hle : w.heap.size ≤ W0.heap.size := by have := HSZ.out; omega
     exact bodyPost_ret (v := .agg #[.int .i64 5, .int .i64 0, .string ⟨#[]⟩, .slice A2K K2.length c2K, .slice A2V V2.length c2V]) (xp rfl rfl h5_) rfl ⟨A2K, c2K, A2V, c2V, rfl, Kd.R_lower h1_.1 hle, Kd.R_lower h2_.1 hle, h4_⟩
   ·skip
    have hxK : i ≤ cK := by omega
    have hxV : i ≤ cV := by omega
    have z3 : w3.cell? ⟨g, 3, none⟩ = some (.slice (some ⟨bK, 0, none⟩) ks.length cK) := zz (i := 3) HZ3.out rfl
    go_wp2_with fail
    refine xl (n := 14) (S := fun w' => w'.cell? ⟨g, 3, none⟩ = some (.slice (some ⟨bK, 0, none⟩) ks.length cK)) (ds := [11, 13]) (bZ 14 0) (by kernel_rfl) rfl rfl (z3) (fun hHeld => ?_); refine pU 0 (some 32) (bZ 14 1) rfl (by kernel_rfl) ?_; refine pU 2 (some 34) (bZ 14 5) rfl (by kernel_rfl) ?_; refine pU 4 (some 36) (bZ 14 21) rfl (by kernel_rfl) ?_; refine pU 6 (some 38) (bZ 14 85) rfl (by kernel_rfl) ?_; refine pU 8 (some 40) (bZ 14 341) rfl (by kernel_rfl) ?_; refine tU 1 (some 33) (bZ 14 343) rfl (by kernel_rfl) (Or.inl ⟨by rfl, by intro w' s0; go_simp; with_reducible rfl⟩) hHeld ?_; refine pU 3 (some 35) (bZ 14 351) rfl (by kernel_rfl) ?_; refine tU 7 (some 39) (bZ 14 479) rfl (by kernel_rfl) (Or.inl ⟨by rfl, by intro w' s0; go_simp; with_reducible rfl⟩) hHeld ?_; refine pU 9 (some 41) (bZ 14 991) rfl (by kernel_rfl) ?_; refine one_ (i := 5) (N := some 37) (bZ 14 1023) rfl rfl (by kernel_rfl) (by decide) (fun K hK => ?_); refine yr (w1 := ?_) (v := ?_) (by rfl) rfl ?_ ?_; rotate_left 2
    ·go_simp; constructor
     ·rfl
     ·rfl
    refine hK.out _ _ (zk (zf (Below.refl _ _) _) hHeld) (fun hHeld => ?_); clear hK K; refine zx (a' := ?_) ?_ ?_; rotate_left
    ·show Act.put _ (some 37) _ = _
     simp only [Act.put, sA, sB, sC, yb, yc]; rfl
    refine one_ (i := 10) (N := some 42) (bZ 14 2047) rfl rfl (by kernel_rfl) (by decide) (fun K hK => ?_); refine Kd.R_append_rows_step Kd.string (w0 := W0) W0.heap.size rfl (.tmp 37) (.tmp 41) 22 9 (.string ⟨#[]⟩) 16 rfl Tryd.underlying22 yq rfl (show 0 < 1 by decide) (by decide) (.slice (some ⟨w3.heap.size, 0, none⟩) 1 1) [key] (ks.drop i) _ (ks.length - i) _ (fun _ => True) (fun _ => False) rfl rfl (Kd.R_drew (one_str w3 W0.heap.size _ hb3sz key)) (HDK.out _ (yi (zf (Below.refl _ w3) _)) _) (fun _ _ h => h) (fun _ h => h.elim) (fun _ _ => trivial) (yi (zf HB3.out _)) (yi (zf HB3.out _)).size (by simp only [List.length_singleton]; omega) ?_; intro v1 w5 ho hb hg hat; rw [HD1.out] at ho; obtain ⟨A1, c1, rfl, hle1, hC1⟩ := Kd.R_reads ho; have HC1 := aM hC1; have HB5 := aM hb
    have hg5 : (w3.alloc (.cells #[.string key] 9)).grownBy w5 (some w3.heap.size) := ⟨hg.os, hg.tape, hg.output, hg.size, hg.block⟩
    have HK5 := aM ((HK3.out.alloc (.cells #[.string key] 9)).grown (fun _ _ _ _ _ _ h => h) hg5 HK3.out.ne_new); have HV5 := aM ((HV3.out.alloc (.cells #[.string key] 9)).grown (fun _ _ _ _ _ _ h => h) hg5 HV3.out.ne_new); have HZ5 := aM ((hg5.block _ (yd (ze HZ3.out _)) (fun e => by have h1 := yd HZ3.out; have h2 := Option.some.inj e; omega)).trans (ze HZ3.out _)); have HT5 := aM (show Has Kd.string 9 W0 w5 (.slice (some ⟨bK, 0, none⟩) i cK) (ks.take i) bK from ⟨Kd.R_take HK5.out.1 hiK, rfl, HK5.out.2.2⟩); clear ho hb hg hat hle1 hC1 hg5; refine hK.out _ _ (zz (i := 3) HZ5.out rfl) (fun hHeld => ?_); clear hK K; refine zx (a' := ?_) ?_ ?_; rotate_left
    ·show Act.put _ (some 42) _ = _
     simp only [Act.put, sA, sB, sC, yb, yc]; rfl
    refine xo (i := 11) (N := some 43) (bZ 14 4095) rfl rfl (by kernel_rfl) (by decide) (fun K hK => ?_); refine Kd.R_append_rows_step Kd.string (w0 := W0) W0.heap.size rfl (.tmp 35) (.tmp 42) 22 9 (.string ⟨#[]⟩) 16 rfl Tryd.underlying22 yq rfl (show 0 < 1 by decide) (by decide) (.slice (some ⟨bK, 0, none⟩) i cK) (ks.take i) K1 _ _ _ (fun _ => True) (fun _ => False) rfl rfl HT5.out.1 (show ReadsRow (fun (x : ByteArray) cs => cs = [Value.string x]) 1 _ _ _ _ from HC1.out) (fun _ _ h => h) (fun _ h => h.elim) (fun _ _ => trivial) HB5.out HB5.out.size (by have := HL1.out; simp only [List.length_take]; omega) ?_; intro v2 w6 ho hb hg hat; rw [HE1.out] at ho; obtain ⟨A2K, c2K, rfl⟩ := Kd.R_slice ho; obtain ⟨bLK, hk, hor⟩ := HT5.out.grew ho hg hat; have HK6 := aM hk; have HB6 := aM hb; have hg6 : w5.grownBy w6 (some bK) := hg; have HV6 := aM (HV5.out.grown (fun _ _ _ _ _ _ h => h) hg6 (hnKV.symm)); have HZ6 := aM ((hg6.block _ (yd HZ5.out) (fun e => hnKg (Option.some.inj e).symm)).trans HZ5.out); have mKg := yh (hnKg.symm) (yd HZ5.out) hor; have mKo := yh (hnKV.symm) (HV5.out.2.2.1) hor; clear ho hb hg hat hk hor hg6; refine hK.out _ _ ?_; clear hK K; refine zx (a' := ?_) ?_ ?_; rotate_left
    ·show Act.put _ (some 43) _ = _
     simp only [Act.put, sA, sB, sC, yb, yc]; rfl
    refine pU 12 (some 44) (bZ 14 8191) rfl (by kernel_rfl) ?_; refine xo (i := 13) (N := none) (bZ 14 16383) rfl rfl (by kernel_rfl) (by decide) (fun K hK => ?_); have hc6 := zz (i := 3) HZ6.out rfl; have hfz := xy (i := 3) HZ6.out; refine skip_ (w1 := ?_) (by rfl) rfl ?_ ?_; rotate_left
    ·go_simp; rfl
    refine hK.out _ _ ?_; clear hK K; refine xt (by kernel_rfl) ?_; have HZ7 := aM (show (w6.setCell ⟨g, 3, none⟩ (.slice A2K K2.length c2K)).heap[g]? = some (.cells #[.int .i64 5, .int .i64 0, .string ⟨#[]⟩, .slice A2K K2.length c2K, .slice (some ⟨bV, 0, none⟩) vs.length cV] 25 (0, 0)) from cb_set HZ6.out _); have HK7 := aM (show Has Kd.string 9 W0 (w6.setCell ⟨g, 3, none⟩ (.slice A2K K2.length c2K)) (.slice A2K K2.length c2K) K2 bLK from HK6.out.grown (fun _ _ _ _ _ _ h => h) (yg w6 g 3 (.slice A2K K2.length c2K)) mKg.symm); have HV7 := aM (show Has (held 5 Pf h5 h1) 25 W0 (w6.setCell ⟨g, 3, none⟩ (.slice A2K K2.length c2K)) (.slice (some ⟨bV, 0, none⟩) vs.length cV) vs bV from HV6.out.grown (fun _ _ _ _ _ _ h => h) (yg w6 g 3 (.slice A2K K2.length c2K)) hnVg); have HB7 := aM (yk HB6.out (some g) HB6.out.size (yg w6 g 3 (.slice A2K K2.length c2K)) (fun k hk => by injection hk with hk; have := HGB.out; have h2 : g = k := hk; omega)); clear hHeld hc6 hfz z3; generalize w6.setCell ⟨g, 3, none⟩ (.slice A2K K2.length c2K) = w7 at HZ7 HK7 HV7 HB7 ⊢; have hb7sz := HB7.out.size; have HX7 := aM ((HB7.out.block _ (yd HX1.out)).trans HX1.out); have HVC7 := aM (Kd.R_reads' HV7.out.1).2.2; have z4 : w7.cell? ⟨g, 4, none⟩ = some (.slice (some ⟨bV, 0, none⟩) vs.length cV) := zz (i := 4) HZ7.out rfl; have e0 : w7.cell? ⟨w.heap.size + 1, 0, none⟩ = some (.int .i64 x.f0) := zz (i := 0) HX7.out rfl; have e1 : w7.cell? ⟨w.heap.size + 1, 1, none⟩ = some (.int .i64 x.f1) := zz (i := 1) HX7.out rfl; have e2 : w7.cell? ⟨w.heap.size + 1, 2, none⟩ = some (.string x.f2) := zz (i := 2) HX7.out rfl; have e3 : w7.cell? ⟨w.heap.size + 1, 3, none⟩ = some (.slice A5 x.f3.length c5) := zz (i := 3) HX7.out rfl; have e4 : w7.cell? ⟨w.heap.size + 1, 4, none⟩ = some (.slice A6 x.f4.length c6) := zz (i := 4) HX7.out rfl
    by_cases hcv : cV = i
    ·subst hcv
     go_wp2_with fail
     refine xl (n := 14) (S := fun w' => w'.cell? ⟨g, 4, none⟩ = some (.slice (some ⟨bV, 0, none⟩) vs.length cV) ∧ w'.cell? ⟨w.heap.size + 1, 0, none⟩ = some (.int .i64 x.f0) ∧ w'.cell? ⟨w.heap.size + 1, 1, none⟩ = some (.int .i64 x.f1) ∧ w'.cell? ⟨w.heap.size + 1, 2, none⟩ = some (.string x.f2) ∧ w'.cell? ⟨w.heap.size + 1, 3, none⟩ = some (.slice A5 x.f3.length c5) ∧ w'.cell? ⟨w.heap.size + 1, 4, none⟩ = some (.slice A6 x.f4.length c6)) (ds := [11, 13]) (bZ 14 0) (by kernel_rfl) rfl rfl ⟨z4, e0, e1, e2, e3, e4⟩ (fun hHeld => ?_); refine pU 0 (some 45) (bZ 14 1) rfl (by kernel_rfl) ?_; refine pU 2 (some 47) (bZ 14 5) rfl (by kernel_rfl) ?_; refine pU 6 (some 51) (bZ 14 69) rfl (by kernel_rfl) ?_; refine pU 8 (some 53) (bZ 14 325) rfl (by kernel_rfl) ?_; refine tU 1 (some 46) (bZ 14 327) rfl (by kernel_rfl) (Or.inl ⟨by rfl, by rintro w' ⟨s0, s1, s2, s3, s4, s5⟩; go_simp; with_reducible rfl⟩) hHeld ?_; refine pU 3 (some 48) (bZ 14 335) rfl (by kernel_rfl) ?_; refine tU 4 (some 49) (bZ 14 351) rfl (by kernel_rfl) (Or.inl ⟨by rfl, by rintro w' ⟨s0, s1, s2, s3, s4, s5⟩; go_simp; with_reducible rfl⟩) hHeld ?_; refine tU 7 (some 52) (bZ 14 479) rfl (by kernel_rfl) (Or.inl ⟨by rfl, by rintro w' ⟨s0, s1, s2, s3, s4, s5⟩; go_simp; with_reducible rfl⟩) hHeld ?_; refine pU 9 (some 54) (bZ 14 991) rfl (by kernel_rfl) ?_; refine one_ (i := 5) (N := some 50) (bZ 14 1023) rfl rfl (by kernel_rfl) (by decide) (fun K hK => ?_); refine yr (w1 := ?_) (v := ?_) (by rfl) rfl ?_ ?_; rotate_left 2
     ·go_simp; constructor
      ·rfl
      ·rfl
     refine hK.out _ _ ⟨zk (zf (Below.refl _ _) _) hHeld.1, zk (zf (Below.refl _ _) _) hHeld.2.1, zk (zf (Below.refl _ _) _) hHeld.2.2.1, zk (zf (Below.refl _ _) _) hHeld.2.2.2.1, zk (zf (Below.refl _ _) _) hHeld.2.2.2.2.1, zk (zf (Below.refl _ _) _) hHeld.2.2.2.2.2⟩ (fun hHeld => ?_); clear hK K; refine zx (a' := ?_) ?_ ?_; rotate_left
     ·show Act.put _ (some 50) _ = _
      simp only [Act.put, sA, sB, sC, yb, yc]; rfl
     refine one_ (i := 10) (N := some 55) (bZ 14 2047) rfl rfl (by kernel_rfl) (by decide) (fun K hK => ?_); refine Kd.R_append_rows_step (held 5 Pf h5 h1) (w0 := W0) W0.heap.size rfl (.tmp 50) (.tmp 54) 23 25 (.agg #[.int .i64 0, .int .i64 0, .string ⟨#[]⟩, .slice none 0 0, .slice none 0 0]) 80 rfl Tryd.underlying23 yz rfl (show 0 < 5 by decide) (by decide) (.slice (some ⟨w7.heap.size, 0, none⟩) 1 1) [x] (vs.drop cV) (some ⟨bV, 0, none⟩) 0 _ (fun _ => True) (fun _ => False) rfl rfl (Kd.R_drew (one_held w7 W0.heap.size _ hb7sz x HXX.out)) (by have h := HDV.out ((w7.alloc (.cells #[.int .i64 x.f0, .int .i64 x.f1, .string x.f2, .slice A5 x.f3.length c5, .slice A6 x.f4.length c6] 25)).drew) (some ⟨bV, 0, none⟩); rw [HGV.out] at h; exact h) (fun _ _ h => h) (fun _ h => h.elim) (fun _ _ => trivial) (yi (zf HB7.out _)) (yi (zf HB7.out _)).size (by simp only [List.length_singleton]; omega) ?_; intro v3 w8 ho hb hg hat; rw [HD2.out] at ho; obtain ⟨A1v, c1v, rfl, hle1, hC1⟩ := Kd.R_reads ho; have HC8 := aM hC1; have HB8 := aM hb
     have hg8 : (w7.alloc (.cells #[.int .i64 x.f0, .int .i64 x.f1, .string x.f2, .slice A5 x.f3.length c5, .slice A6 x.f4.length c6] 25)).grownBy w8 (some w7.heap.size) := ⟨hg.os, hg.tape, hg.output, hg.size, hg.block⟩
     have HK8 := aM ((HK7.out.alloc (.cells #[.int .i64 x.f0, .int .i64 x.f1, .string x.f2, .slice A5 x.f3.length c5, .slice A6 x.f4.length c6] 25)).grown (fun _ _ _ _ _ _ h => h) hg8 HK7.out.ne_new); have HV8 := aM ((HV7.out.alloc (.cells #[.int .i64 x.f0, .int .i64 x.f1, .string x.f2, .slice A5 x.f3.length c5, .slice A6 x.f4.length c6] 25)).grown (fun _ _ _ _ _ _ h => h) hg8 HV7.out.ne_new); have HZ8 := aM ((hg8.block _ (yd (ze HZ7.out _)) (fun e => by have h1 := yd HZ7.out; have h2 := Option.some.inj e; omega)).trans (ze HZ7.out _)); have HX8 := aM ((HB8.out.block _ (yd HX1.out)).trans HX1.out); have HT8 := aM (show Has (held 5 Pf h5 h1) 25 W0 w8 (.slice (some ⟨bV, 0, none⟩) cV cV) (vs.take cV) bV from ⟨Kd.R_take HV8.out.1 hiV, rfl, HV8.out.2.2⟩); clear ho hb hg hat hle1 hC1 hg8; refine hK.out _ _ ⟨zz (i := 4) HZ8.out rfl, zz (i := 0) HX8.out rfl, zz (i := 1) HX8.out rfl, zz (i := 2) HX8.out rfl, zz (i := 3) HX8.out rfl, zz (i := 4) HX8.out rfl⟩ (fun hHeld => ?_); clear hK K; refine zx (a' := ?_) ?_ ?_; rotate_left
     ·show Act.put _ (some 55) _ = _
      simp only [Act.put, sA, sB, sC, yb, yc]; rfl
     refine xo (i := 11) (N := some 56) (bZ 14 4095) rfl rfl (by kernel_rfl) (by decide) (fun K hK => ?_); refine Kd.R_append_rows_step (held 5 Pf h5 h1) (w0 := W0) W0.heap.size rfl (.tmp 48) (.tmp 55) 23 25 (.agg #[.int .i64 0, .int .i64 0, .string ⟨#[]⟩, .slice none 0 0, .slice none 0 0]) 80 rfl Tryd.underlying23 yz rfl (show 0 < 5 by decide) (by decide) (.slice (some ⟨bV, 0, none⟩) cV cV) (vs.take cV) V1 _ _ _ (fun _ => True) (fun _ => False) rfl rfl HT8.out.1 (show ReadsRow Pf 5 _ _ _ _ from HC8.out) (fun _ _ h => h) (fun _ h => h.elim) (fun _ _ => trivial) HB8.out HB8.out.size (by have := HL2.out; simp only [List.length_take]; omega) ?_; intro v4 w9 ho hb hg hat; rw [HE2.out] at ho; obtain ⟨A2V, c2V, rfl⟩ := Kd.R_slice ho; obtain ⟨bLV, hk, hor⟩ := HT8.out.grew ho hg hat; have HV9 := aM hk; have HB9 := aM hb; have hg9 : w8.grownBy w9 (some bV) := hg; have HK9 := aM (HK8.out.grown (fun _ _ _ _ _ _ h => h) hg9 mKo.symm); have HZ9 := aM ((hg9.block _ (yd HZ8.out) (fun e => hnVg (Option.some.inj e).symm)).trans HZ8.out); have mVg := yh (hnVg.symm) (yd HZ8.out) hor; clear ho hb hg hat hk hor hg9; refine hK.out _ _ ?_; clear hK K; refine zx (a' := ?_) ?_ ?_; rotate_left
     ·show Act.put _ (some 56) _ = _
      simp only [Act.put, sA, sB, sC, yb, yc]; rfl
     refine pU 12 (some 57) (bZ 14 8191) rfl (by kernel_rfl) ?_; refine xo (i := 13) (N := none) (bZ 14 16383) rfl rfl (by kernel_rfl) (by decide) (fun K hK => ?_); have hc9 := zz (i := 4) HZ9.out rfl; have hfz9 := xy (i := 4) HZ9.out; refine skip_ (w1 := ?_) (by rfl) rfl ?_ ?_; rotate_left
     ·go_simp; rfl
     refine hK.out _ _ ?_; clear hK K; refine xt (by kernel_rfl) ?_; have HZ10 := aM (show (w9.setCell ⟨g, 4, none⟩ (.slice A2V V2.length c2V)).heap[g]? = some (.cells #[.int .i64 5, .int .i64 0, .string ⟨#[]⟩, .slice A2K K2.length c2K, .slice A2V V2.length c2V] 25 (0, 0)) from cb_set HZ9.out _); have HK10 := aM (HK9.out.grown (fun _ _ _ _ _ _ h => h) (yg w9 g 4 (.slice A2V V2.length c2V)) mKg.symm); have HV10 := aM (show Has (held 5 Pf h5 h1) 25 W0 (w9.setCell ⟨g, 4, none⟩ (.slice A2V V2.length c2V)) (.slice A2V V2.length c2V) V2 bLV from HV9.out.grown (fun _ _ _ _ _ _ h => h) (yg w9 g 4 (.slice A2V V2.length c2V)) mVg.symm); have HB10 := aM (yk HB9.out (some g) HB9.out.size (yg w9 g 4 (.slice A2V V2.length c2V)) (fun k hk => by injection hk with hk; have := HGB.out; have h2 : g = k := hk; omega)); clear hHeld hc9 hfz9; generalize w9.setCell ⟨g, 4, none⟩ (.slice A2V V2.length c2V) = w10 at HZ10 HK10 HV10 HB10 ⊢; have hx2 := (HB10.out.block _ (yd HX2.out)).trans HX2.out
     go_wp2_with (first | refine yx (.tmp 7) rfl rfl rfl HZ10.out ?_ | refine xw (.tmp 6) (.tmp 58) rfl rfl rfl rfl hx2 ?_)
     have hg := yy w10 (w.heap.size + 2) #[.int .i64 5, .int .i64 0, .string ⟨#[]⟩, .slice A2K K2.length c2K, .slice A2V V2.length c2V]; have h1_ := HK10.out.grown (fun _ _ _ _ _ _ h => h) hg (by have := HK10.out.2.2.2; have := HSZ.out; omega); have h2_ := HV10.out.grown (fun _ _ _ _ _ _ h => h) hg (by have := HV10.out.2.2.2; have := HSZ.out; omega); have h3_ : Below w.heap.size w w10 := xn HBW.out HBW.out.size HB10.out; have h4_ := yk h3_ (some (w.heap.size + 2)) h3_.size hg (fun k hk => by injection hk with hk; have h2 : w.heap.size + 2 = k := hk; omega); have h5_ := setRow_heap w10 (w.heap.size + 2) _ #[.int .i64 5, .int .i64 0, .string ⟨#[]⟩, .slice A2K K2.length c2K, .slice A2V V2.length c2V] _ _ hx2
     have hle : w.heap.size ≤ W0.heap.size := by have := HSZ.out; omega
     exact bodyPost_ret (v := .agg #[.int .i64 5, .int .i64 0, .string ⟨#[]⟩, .slice A2K K2.length c2K, .slice A2V V2.length c2V]) (xp rfl rfl h5_) rfl ⟨A2K, c2K, A2V, c2V, rfl, Kd.R_lower h1_.1 hle, Kd.R_lower h2_.1 hle, h4_⟩
    ·skip
     go_wp2_with fail
     refine xl (n := 14) (S := fun w' => w'.cell? ⟨g, 4, none⟩ = some (.slice (some ⟨bV, 0, none⟩) vs.length cV) ∧ w'.cell? ⟨w.heap.size + 1, 0, none⟩ = some (.int .i64 x.f0) ∧ w'.cell? ⟨w.heap.size + 1, 1, none⟩ = some (.int .i64 x.f1) ∧ w'.cell? ⟨w.heap.size + 1, 2, none⟩ = some (.string x.f2) ∧ w'.cell? ⟨w.heap.size + 1, 3, none⟩ = some (.slice A5 x.f3.length c5) ∧ w'.cell? ⟨w.heap.size + 1, 4, none⟩ = some (.slice A6 x.f4.length c6)) (ds := [11, 13]) (bZ 14 0) (by kernel_rfl) rfl rfl ⟨z4, e0, e1, e2, e3, e4⟩ (fun hHeld => ?_); refine pU 0 (some 45) (bZ 14 1) rfl (by kernel_rfl) ?_; refine pU 2 (some 47) (bZ 14 5) rfl (by kernel_rfl) ?_; refine pU 6 (some 51) (bZ 14 69) rfl (by kernel_rfl) ?_; refine pU 8 (some 53) (bZ 14 325) rfl (by kernel_rfl) ?_; refine tU 1 (some 46) (bZ 14 327) rfl (by kernel_rfl) (Or.inl ⟨by rfl, by rintro w' ⟨s0, s1, s2, s3, s4, s5⟩; go_simp; with_reducible rfl⟩) hHeld ?_; refine pU 3 (some 48) (bZ 14 335) rfl (by kernel_rfl) ?_; refine tU 4 (some 49) (bZ 14 351) rfl (by kernel_rfl) (Or.inl ⟨by rfl, by rintro w' ⟨s0, s1, s2, s3, s4, s5⟩; go_simp; with_reducible rfl⟩) hHeld ?_; refine tU 7 (some 52) (bZ 14 479) rfl (by kernel_rfl) (Or.inl ⟨by rfl, by rintro w' ⟨s0, s1, s2, s3, s4, s5⟩; go_simp; with_reducible rfl⟩) hHeld ?_; refine pU 9 (some 54) (bZ 14 991) rfl (by kernel_rfl) ?_; refine one_ (i := 5) (N := some 50) (bZ 14 1023) rfl rfl (by kernel_rfl) (by decide) (fun K hK => ?_); refine yr (w1 := ?_) (v := ?_) (by rfl) rfl ?_ ?_; rotate_left 2
     ·go_simp; constructor
      ·rfl
      ·rfl
     refine hK.out _ _ ⟨zk (zf (Below.refl _ _) _) hHeld.1, zk (zf (Below.refl _ _) _) hHeld.2.1, zk (zf (Below.refl _ _) _) hHeld.2.2.1, zk (zf (Below.refl _ _) _) hHeld.2.2.2.1, zk (zf (Below.refl _ _) _) hHeld.2.2.2.2.1, zk (zf (Below.refl _ _) _) hHeld.2.2.2.2.2⟩ (fun hHeld => ?_); clear hK K; refine zx (a' := ?_) ?_ ?_; rotate_left
     ·show Act.put _ (some 50) _ = _
      simp only [Act.put, sA, sB, sC, yb, yc]; rfl
     refine one_ (i := 10) (N := some 55) (bZ 14 2047) rfl rfl (by kernel_rfl) (by decide) (fun K hK => ?_); refine Kd.R_append_rows_step (held 5 Pf h5 h1) (w0 := W0) W0.heap.size rfl (.tmp 50) (.tmp 54) 23 25 (.agg #[.int .i64 0, .int .i64 0, .string ⟨#[]⟩, .slice none 0 0, .slice none 0 0]) 80 rfl Tryd.underlying23 yz rfl (show 0 < 5 by decide) (by decide) (.slice (some ⟨w7.heap.size, 0, none⟩) 1 1) [x] (vs.drop i) _ (vs.length - i) _ (fun _ => True) (fun _ => False) rfl rfl (Kd.R_drew (one_held w7 W0.heap.size _ hb7sz x HXX.out)) (HDV.out _ _) (fun _ _ h => h) (fun _ h => h.elim) (fun _ _ => trivial) (yi (zf HB7.out _)) (yi (zf HB7.out _)).size (by simp only [List.length_singleton]; omega) ?_; intro v3 w8 ho hb hg hat; rw [HD2.out] at ho; obtain ⟨A1v, c1v, rfl, hle1, hC1⟩ := Kd.R_reads ho; have HC8 := aM hC1; have HB8 := aM hb
     have hg8 : (w7.alloc (.cells #[.int .i64 x.f0, .int .i64 x.f1, .string x.f2, .slice A5 x.f3.length c5, .slice A6 x.f4.length c6] 25)).grownBy w8 (some w7.heap.size) := ⟨hg.os, hg.tape, hg.output, hg.size, hg.block⟩
     have HK8 := aM ((HK7.out.alloc (.cells #[.int .i64 x.f0, .int .i64 x.f1, .string x.f2, .slice A5 x.f3.length c5, .slice A6 x.f4.length c6] 25)).grown (fun _ _ _ _ _ _ h => h) hg8 HK7.out.ne_new); have HV8 := aM ((HV7.out.alloc (.cells #[.int .i64 x.f0, .int .i64 x.f1, .string x.f2, .slice A5 x.f3.length c5, .slice A6 x.f4.length c6] 25)).grown (fun _ _ _ _ _ _ h => h) hg8 HV7.out.ne_new); have HZ8 := aM ((hg8.block _ (yd (ze HZ7.out _)) (fun e => by have h1 := yd HZ7.out; have h2 := Option.some.inj e; omega)).trans (ze HZ7.out _)); have HX8 := aM ((HB8.out.block _ (yd HX1.out)).trans HX1.out); have HT8 := aM (show Has (held 5 Pf h5 h1) 25 W0 w8 (.slice (some ⟨bV, 0, none⟩) i cV) (vs.take i) bV from ⟨Kd.R_take HV8.out.1 hiV, rfl, HV8.out.2.2⟩); clear ho hb hg hat hle1 hC1 hg8; refine hK.out _ _ ⟨zz (i := 4) HZ8.out rfl, zz (i := 0) HX8.out rfl, zz (i := 1) HX8.out rfl, zz (i := 2) HX8.out rfl, zz (i := 3) HX8.out rfl, zz (i := 4) HX8.out rfl⟩ (fun hHeld => ?_); clear hK K; refine zx (a' := ?_) ?_ ?_; rotate_left
     ·show Act.put _ (some 55) _ = _
      simp only [Act.put, sA, sB, sC, yb, yc]; rfl
     refine xo (i := 11) (N := some 56) (bZ 14 4095) rfl rfl (by kernel_rfl) (by decide) (fun K hK => ?_); refine Kd.R_append_rows_step (held 5 Pf h5 h1) (w0 := W0) W0.heap.size rfl (.tmp 48) (.tmp 55) 23 25 (.agg #[.int .i64 0, .int .i64 0, .string ⟨#[]⟩, .slice none 0 0, .slice none 0 0]) 80 rfl Tryd.underlying23 yz rfl (show 0 < 5 by decide) (by decide) (.slice (some ⟨bV, 0, none⟩) i cV) (vs.take i) V1 _ _ _ (fun _ => True) (fun _ => False) rfl rfl HT8.out.1 (show ReadsRow Pf 5 _ _ _ _ from HC8.out) (fun _ _ h => h) (fun _ h => h.elim) (fun _ _ => trivial) HB8.out HB8.out.size (by have := HL2.out; simp only [List.length_take]; omega) ?_; intro v4 w9 ho hb hg hat; rw [HE2.out] at ho; obtain ⟨A2V, c2V, rfl⟩ := Kd.R_slice ho; obtain ⟨bLV, hk, hor⟩ := HT8.out.grew ho hg hat; have HV9 := aM hk; have HB9 := aM hb; have hg9 : w8.grownBy w9 (some bV) := hg; have HK9 := aM (HK8.out.grown (fun _ _ _ _ _ _ h => h) hg9 mKo.symm); have HZ9 := aM ((hg9.block _ (yd HZ8.out) (fun e => hnVg (Option.some.inj e).symm)).trans HZ8.out); have mVg := yh (hnVg.symm) (yd HZ8.out) hor; clear ho hb hg hat hk hor hg9; refine hK.out _ _ ?_; clear hK K; refine zx (a' := ?_) ?_ ?_; rotate_left
     ·show Act.put _ (some 56) _ = _
      simp only [Act.put, sA, sB, sC, yb, yc]; rfl
     refine pU 12 (some 57) (bZ 14 8191) rfl (by kernel_rfl) ?_; refine xo (i := 13) (N := none) (bZ 14 16383) rfl rfl (by kernel_rfl) (by decide) (fun K hK => ?_); have hc9 := zz (i := 4) HZ9.out rfl; have hfz9 := xy (i := 4) HZ9.out; refine skip_ (w1 := ?_) (by rfl) rfl ?_ ?_; rotate_left
     ·go_simp; rfl
     refine hK.out _ _ ?_; clear hK K; refine xt (by kernel_rfl) ?_; have HZ10 := aM (show (w9.setCell ⟨g, 4, none⟩ (.slice A2V V2.length c2V)).heap[g]? = some (.cells #[.int .i64 5, .int .i64 0, .string ⟨#[]⟩, .slice A2K K2.length c2K, .slice A2V V2.length c2V] 25 (0, 0)) from cb_set HZ9.out _); have HK10 := aM (HK9.out.grown (fun _ _ _ _ _ _ h => h) (yg w9 g 4 (.slice A2V V2.length c2V)) mKg.symm); have HV10 := aM (show Has (held 5 Pf h5 h1) 25 W0 (w9.setCell ⟨g, 4, none⟩ (.slice A2V V2.length c2V)) (.slice A2V V2.length c2V) V2 bLV from HV9.out.grown (fun _ _ _ _ _ _ h => h) (yg w9 g 4 (.slice A2V V2.length c2V)) mVg.symm); have HB10 := aM (yk HB9.out (some g) HB9.out.size (yg w9 g 4 (.slice A2V V2.length c2V)) (fun k hk => by injection hk with hk; have := HGB.out; have h2 : g = k := hk; omega)); clear hHeld hc9 hfz9; generalize w9.setCell ⟨g, 4, none⟩ (.slice A2V V2.length c2V) = w10 at HZ10 HK10 HV10 HB10 ⊢; have hx2 := (HB10.out.block _ (yd HX2.out)).trans HX2.out
     go_wp2_with (first | refine yx (.tmp 7) rfl rfl rfl HZ10.out ?_ | refine xw (.tmp 6) (.tmp 58) rfl rfl rfl rfl hx2 ?_)
     have hg := yy w10 (w.heap.size + 2) #[.int .i64 5, .int .i64 0, .string ⟨#[]⟩, .slice A2K K2.length c2K, .slice A2V V2.length c2V]; have h1_ := HK10.out.grown (fun _ _ _ _ _ _ h => h) hg (by have := HK10.out.2.2.2; have := HSZ.out; omega); have h2_ := HV10.out.grown (fun _ _ _ _ _ _ h => h) hg (by have := HV10.out.2.2.2; have := HSZ.out; omega); have h3_ : Below w.heap.size w w10 := xn HBW.out HBW.out.size HB10.out; have h4_ := yk h3_ (some (w.heap.size + 2)) h3_.size hg (fun k hk => by injection hk with hk; have h2 : w.heap.size + 2 = k := hk; omega); have h5_ := setRow_heap w10 (w.heap.size + 2) _ #[.int .i64 5, .int .i64 0, .string ⟨#[]⟩, .slice A2K K2.length c2K, .slice A2V V2.length c2V] _ _ hx2
     have hle : w.heap.size ≤ W0.heap.size := by have := HSZ.out; omega
     exact bodyPost_ret (v := .agg #[.int .i64 5, .int .i64 0, .string ⟨#[]⟩, .slice A2K K2.length c2K, .slice A2V V2.length c2V]) (xp rfl rfl h5_) rfl ⟨A2K, c2K, A2V, c2V, rfl, Kd.R_lower h1_.1 hle, Kd.R_lower h2_.1 hle, h4_⟩
 ·-- a key that is there
  have hlt : i < ks.length := HPT.out rfl
  have hltV : i < vs.length := by have := HLEN.out; omega
  obtain rfl : ks = K2 := HKK.out; have HE2 := aM (show vs.set i x = V2 from HVV.out); clear HKK HVV HPT
  have q1 : (i : Int) < (vs.length : Int) := by omega
  have z4 : w3.cell? ⟨g, 4, none⟩ = some (.slice (some ⟨bV, 0, none⟩) vs.length cV) := zz (i := 4) HZ3.out rfl; obtain ⟨hth, hR, hG⟩ := held_put HV3.out.1 i hltV x (cs := (#[.int .i64 x.f0, .int .i64 x.f1, .string x.f2, .slice A5 x.f3.length c5, .slice A6 x.f4.length c6] : Array Value).toList) HXX.out; have HTH := aM hth; have HRR := aM hR; have HGG := aM hG; have H1C := aM (all_oneCell_toArray (cs := [.int .i64 x.f0, .int .i64 x.f1, .string x.f2, .slice A5 x.f3.length c5, .slice A6 x.f4.length c6]) (x_one x A5 A6 c5 c6)); clear hth hR hG; have HLV := aM (show vs.length = V2.length by rw [← HE2.out, List.length_set])
  go_wp2_with (first | refine yx (.tmp 5) rfl rfl rfl HX3.out ?_ | (refine wpList_store_mid rfl 25 (.tmp 30) (.tmp 29) rfl bV (i * 5) #[.int .i64 x.f0, .int .i64 x.f1, .string x.f2, .slice A5 x.f3.length c5, .slice A6 x.f4.length c6] rfl rfl HTH.out val_size H1C.out ?_; generalize w3.setCells bV (i * 5) (#[.int .i64 x.f0, .int .i64 x.f1, .string x.f2, .slice A5 x.f3.length c5, .slice A6 x.f4.length c6] : Array Value).toList = w4 at HRR HGG ⊢; have HB4 := aM (yk HB3.out (some bV) HB3.out.size HGG.out (fun k hk => by injection hk with hk; have h2 : bV = k := hk; have := HV3.out.2.2.2; omega)); have HV4 := aM (show Has (held 5 Pf h5 h1) 25 W0 w4 (.slice (some ⟨bV, 0, none⟩) vs.length cV) V2 bV from ⟨by rw [← HE2.out]; exact HRR.out, rfl, Nat.lt_of_lt_of_le HV3.out.2.2.1 HGG.out.size, HV3.out.2.2.2⟩); have HK4 := aM (HK3.out.grown (fun _ _ _ _ _ _ h => h) HGG.out hnKV); have HZ4 := aM ((HGG.out.block _ (yd HZ3.out) (fun e => hnVg (Option.some.inj e).symm)).trans HZ3.out); have HX4 := aM ((HB4.out.block _ (yd HX2.out)).trans HX2.out)) | refine yx (.tmp 7) rfl rfl rfl HZ4.out ?_ | refine xw (.tmp 6) (.tmp 31) rfl rfl rfl rfl HX4.out ?_)
  have hx2 := HX4.out; have hg := yy w4 (w.heap.size + 2) #[.int .i64 5, .int .i64 0, .string ⟨#[]⟩, .slice (some ⟨bK, 0, none⟩) ks.length cK, .slice (some ⟨bV, 0, none⟩) vs.length cV]; have h1_ := HK4.out.grown (fun _ _ _ _ _ _ h => h) hg (by have := HK4.out.2.2.2; have := HSZ.out; omega); have h2_ := HV4.out.grown (fun _ _ _ _ _ _ h => h) hg (by have := HV4.out.2.2.2; have := HSZ.out; omega); have h3_ : Below w.heap.size w w4 := xn HBW.out HBW.out.size HB4.out; have h4_ := yk h3_ (some (w.heap.size + 2)) h3_.size hg (fun k hk => by injection hk with hk; have h2 : w.heap.size + 2 = k := hk; omega); have h5_ := setRow_heap w4 (w.heap.size + 2) _ #[.int .i64 5, .int .i64 0, .string ⟨#[]⟩, .slice (some ⟨bK, 0, none⟩) ks.length cK, .slice (some ⟨bV, 0, none⟩) vs.length cV] _ _ hx2
  have hle : w.heap.size ≤ W0.heap.size := by have := HSZ.out; omega
  exact bodyPost_ret (v := .agg #[.int .i64 5, .int .i64 0, .string ⟨#[]⟩, .slice (some ⟨bK, 0, none⟩) ks.length cK, .slice (some ⟨bV, 0, none⟩) vs.length cV]) (xp rfl rfl h5_) rfl ⟨some ⟨bK, 0, none⟩, cK, some ⟨bV, 0, none⟩, cV, by rw [HLV.out], Kd.R_lower h1_.1 hle, by rw [← HLV.out]; exact Kd.R_lower h2_.1 hle, h4_⟩
end Go.Proofs.YtceojjlpeacfgaaDoor.Tr
namespace Go.Proofs.YtceojjlpeacfgaaDoor.Tr
open Go.RowKit Go.Proofs.YtceojjlpeacfgaaDoorW.PrintWords Go.Proofs.YtceojjlpeacfgaaDoorW.PrintLast Go.Proofs.YtceojjlpeacfgaaDoor.Str Go.Proofs.YtceojjlpeacfgaaDoor.Kit Go.Proofs.YtceojjlpeacfgaaDoor.MapV Go.Proofs.YtceojjlpeacfgaaDoor.Frame Go.Proofs.YtceojjlpeacfgaaDoor.PS
open Go.Proofs.YtceojjlpeacfgaaDoor.Val (place placeI placeB xv placeI_end)
theorem wrapS (i : Nat) (h : i < 4611686018427387904) : wrap64 ((i : Int) + 1) = ((i + 1 : Nat) : Int) := by unfold wrap64; omega
theorem rdS {xs : List VS} {i : Nat} (h : i < xs.length) : rd_T25 xs (i : Int) = xs[i] := by
 unfold rd_T25
 simp [List.getD_eq_getElem?_getD, h]
theorem rdB {xs : List BA} {i : Nat} (h : i < xs.length) : rdOf ByteArray.empty xs (i : Int) = xs[i] := by
 unfold rdOf
 simp [List.getD_eq_getElem?_getD, h]
theorem ev_now {α : Type} {g : Nat → Option α} {r : α} (h : ∀ k, g k = some r) : Ev g r := ⟨0, fun k _ => h k⟩
theorem yf {α : Type} {g f : Nat → Option α} {r : α} (h : ∀ k, g (k + 1) = f k) (k : Ev f r) : Ev g r := Ev.step h k
theorem xm {α β : Type} {g : Nat → Option α} {f : Nat → α → Option β} {a : α} {r : β} (h : Ev g a) (k : Ev (fun n => f n a) r) : Ev (fun n => (g n).bind (f n)) r := Ev.bind h k
theorem ev_place_l (key : BA) (a b : Int) (c : BA) (ks : List BA) (vs : List VS) (hl : ks.length < 4611686018427387904) : ∀ (d i : Nat), i + d = ks.length → (∀ (j : Nat) (hj : j < ks.length), j < i → lb ks[j] < lb key) →
  Ev (fun k => spec_place.l0 k key (i : Int) a b c ks vs) ((placeI ks key : Int), placeB ks key) := by
 intro d
 induction d with
 | zero =>
  intro i hi ha; have h0 : placeI ks key = ks.length := placeI_end (fun j hj => ha j hj (by omega))
  have h1 : placeB ks key = false := by
   unfold placeB
   rw [h0, List.getElem?_eq_none (Nat.le_refl _)]
  refine yf (fun k => ?_) (Ev.now _); simp only [spec_place.l0]; rw [if_neg (by omega), h0, h1]
 | succ d ih =>
  intro i hi ha
  have hlt : i < ks.length := by omega
  by_cases hs : lb ks[i] < lb key
  ·refine yf (f := fun k => spec_place.l0 k key ((i + 1 : Nat) : Int) a b c ks vs) (fun k => ?_) (ih (i + 1) (by omega) (fun j hj hji => by
    by_cases hj' : j < i
    ·exact ha j hj hj'
    ·have : j = i := by omega
     subst this; exact hs))
   simp only [spec_place.l0]; rw [if_pos (by omega), if_pos (by omega), rdB hlt, bytesLess_eq, yo, yo, if_pos (by simpa using hs), wrapS i (by omega)]
  ·have h0 : placeI ks key = i := xv ha hlt hs
   have h1 : placeB ks key = (ks[i].toList == key.toList) := by
    unfold placeB
    rw [h0, List.getElem?_eq_getElem hlt]
   refine yf (fun k => ?_) (Ev.now _); simp only [spec_place.l0]; rw [if_pos (by omega), if_pos (by omega), rdB hlt, bytesLess_eq, yo, yo, if_neg (by simpa using hs), h0, h1, yo, yo]
theorem ev_place (key : BA) (a b : Int) (c : BA) (ks : List BA) (vs : List VS) (hl : ks.length < 4611686018427387904) : Ev (fun k => spec_place.f k a b c ks vs key) ((placeI ks key : Int), placeB ks key) :=
 ev_place_l key a b c ks vs hl ks.length 0 (by omega) (fun j _ h => absurd h (Nat.not_lt_zero _))
def getV (x : VS) (key : BA) : Option VS := if x.f0 = 5 ∧ placeB x.f3 key = true then x.f4[placeI x.f3 key]? else none
def zV : VS := ⟨0, 0, ⟨#[]⟩, [], []⟩
def InStep (x : VS) : Prop := x.f3.length ≤ x.f4.length ∧ x.f3.length < 4611686018427387904
theorem getV_some {x : VS} {key : BA} {v : VS} (h : getV x key = some v) : x.f0 = 5 ∧ placeB x.f3 key = true ∧ ∃ h : placeI x.f3 key < x.f4.length, v = x.f4[placeI x.f3 key] := by
 unfold getV at h
 split at h
 ·rename_i hc
  obtain ⟨hl, he⟩ := List.getElem?_eq_some_iff.1 h; exact ⟨hc.1, hc.2, hl, he.symm⟩
 ·cases h
theorem ev_Get (x : VS) (key : BA) (hx : InStep x) : Ev (fun k => spec_Get.f k x.f0 x.f1 x.f2 x.f3 x.f4 key) (((getV x key).getD zV).f0, ((getV x key).getD zV).f1, ((getV x key).getD zV).f2, ((getV x key).getD zV).f3, ((getV x key).getD zV).f4, (getV x key).isSome) := by
 unfold spec_Get.f
 by_cases h5 : x.f0 = 5
 ·refine Ev.congr (f := fun k => _) (fun k => by rw [if_pos h5]) ?_; refine xm (ev_place key x.f0 x.f1 x.f2 x.f3 x.f4 hx.2) (ev_now (fun k => ?_))
  dsimp only
  by_cases hb : placeB x.f3 key = true
  ·have hl : placeI x.f3 key < x.f4.length := Nat.lt_of_lt_of_le (placeB_lt hb) hx.1
   have hg : getV x key = some x.f4[placeI x.f3 key] := by
    unfold getV
    rw [if_pos ⟨h5, hb⟩, List.getElem?_eq_getElem hl]
   rw [if_pos hb, if_pos (by omega), if_pos (by omega), rdS hl, hg]; rfl
  ·have hg : getV x key = none := by
    unfold getV
    rw [if_neg (fun h => hb h.2)]
   rw [if_neg hb, hg]; rfl
 ·have hg : getV x key = none := by
   unfold getV
   rw [if_neg (fun h => h5 h.1)]
  refine ev_now (fun k => ?_); rw [if_neg h5, hg]; rfl
theorem ev_Has (x : VS) (key : BA) (hx : InStep x) : Ev (fun k => spec_Has.f k x.f0 x.f1 x.f2 x.f3 x.f4 key) (getV x key).isSome := by
 unfold spec_Has.f
 exact xm (ev_Get x key hx) (Ev.now _)
def inB (s : BA) (l : List BA) : Bool := l.any (fun x => decide (x.toList = s.toList))
theorem inB_cons (s x : BA) (r : List BA) : inB s (x :: r) = (decide (x.toList = s.toList) || inB s r) := rfl
theorem ev_sayIn_l (s : BA) (l : List BA) (hl : l.length < 4611686018427387904) : ∀ (d i : Nat), i + d = l.length → Ev (fun k => spec_sayIn.l0 k s l (i : Int)) (inB s (l.drop i)) := by
 intro d
 induction d with
 | zero =>
  intro i hi; refine yf (fun k => ?_) (Ev.now _); simp only [spec_sayIn.l0]; rw [if_neg (by omega), List.drop_eq_nil_of_le (by omega)]; rfl
 | succ d ih =>
  intro i hi
  have hlt : i < l.length := by omega
  have hd : l.drop i = l[i] :: l.drop (i + 1) := List.drop_eq_getElem_cons hlt
  by_cases hs : l[i].toList = s.toList
  ·refine yf (fun k => ?_) (Ev.now _); simp only [spec_sayIn.l0]; rw [if_pos (by omega), if_pos (by omega), rdB hlt, if_pos hs, hd, inB_cons, decide_eq_true hs, Bool.true_or]
  ·refine yf (f := fun k => spec_sayIn.l0 k s l ((i + 1 : Nat) : Int)) (fun k => ?_) ?_
   ·simp only [spec_sayIn.l0]; rw [if_pos (by omega), if_pos (by omega), rdB hlt, if_neg hs, wrapS i (by omega)]
   ·rw [hd, inB_cons, decide_eq_false hs, Bool.false_or]; exact ih (i + 1) (by omega)
theorem ev_sayIn (s : BA) (l : List BA) (hl : l.length < 4611686018427387904) : Ev (fun k => spec_sayIn.f k s l) (inB s l) := ev_sayIn_l s l hl l.length 0 (by omega)
theorem ev_zzFits2_l (l : List BA) (hl : l.length ≤ 2147483647) : ∀ (d i : Nat), i + d = l.length → ∃ b, Ev (fun k => laws_zzFits2.l0 k l (l.length : Int) (i : Int)) b := by
 intro d
 induction d with
 | zero =>
  intro i hi; refine ⟨true, yf (fun k => ?_) (Ev.now _)⟩; simp only [laws_zzFits2.l0]; rw [if_neg (by omega)]
 | succ d ih =>
  intro i hi
  have hlt : i < l.length := by omega
  by_cases hs : (l[i].size : Int) > 2147483647
  ·refine ⟨false, yf (fun k => ?_) (Ev.now _)⟩; simp only [laws_zzFits2.l0]; rw [if_pos (by omega), if_pos (by omega), if_pos (by omega), rdB hlt, if_pos hs]
  ·obtain ⟨b, hb⟩ := ih (i + 1) (by omega); refine ⟨b, yf (f := fun k => laws_zzFits2.l0 k l (l.length : Int) ((i + 1 : Nat) : Int)) (fun k => ?_) hb⟩; simp only [laws_zzFits2.l0]; rw [if_pos (by omega), if_pos (by omega), if_pos (by omega), rdB hlt, if_neg hs, wrapS i (by omega)]
theorem ev_zzFits2 (l : List BA) : ∃ b, Ev (fun k => laws_zzFits2.f k l) b := by
 unfold laws_zzFits2.f
 by_cases h : (l.length : Int) > 2147483647
 ·exact ⟨false, ev_now (fun k => by rw [if_pos h])⟩
 ·obtain ⟨b, hb⟩ := ev_zzFits2_l l (by omega) l.length 0 (by omega); exact ⟨b, Ev.congr (fun k => by rw [if_neg h]; rfl) hb⟩
theorem ev_zzFits1 (x : VS) : ∃ b, Ev (fun k => laws_zzFits1.f k x.f0 x.f1 x.f2 x.f3 x.f4) b := by
 unfold laws_zzFits1.f
 by_cases h : (x.f2.size : Int) > 2147483647
 ·exact ⟨false, ev_now (fun k => by rw [if_pos h])⟩
 ·obtain ⟨b, hb⟩ := ev_zzFits2 x.f3
  by_cases hbt : b = true
  ·by_cases hv : (x.f4.length : Int) > 2147483647
   ·refine ⟨false, Ev.congr (f := fun k => (laws_zzFits2.f k x.f3).bind fun t => _) (fun k => by rw [if_neg h]) (xm hb (ev_now (fun k => by rw [if_pos hbt, if_pos hv])))⟩
   ·refine ⟨true, Ev.congr (f := fun k => (laws_zzFits2.f k x.f3).bind fun t => _) (fun k => by rw [if_neg h]) (xm hb (ev_now (fun k => by rw [if_pos hbt, if_neg hv])))⟩
  ·exact ⟨false, Ev.congr (f := fun k => (laws_zzFits2.f k x.f3).bind fun t => _) (fun k => by rw [if_neg h]) (xm hb (ev_now (fun k => by rw [if_neg hbt])))⟩
end Go.Proofs.YtceojjlpeacfgaaDoor.Tr
namespace Go.Proofs.YtceojjlpeacfgaaDoor.PS
open Go.RowKit Go.Proofs.YtceojjlpeacfgaaDoorW.PrintWords Go.Proofs.YtceojjlpeacfgaaDoorW.PrintLast Go.Proofs.YtceojjlpeacfgaaDoorW.PrintMore
attribute [local go_sem] xf xd xj xi yw yu xe xc 
def spec_sayDigits.l0 : Nat → ByteArray → Int → Int → Int → Int → Option (Bool)
 | 0, _, _, _, _, _ => none
 | k + 1, x0, x1, x2, x7, x8 => if x8 < (x0.size : Int) then (if 0 ≤ x8 then (if (bt x0 x8) < 48 then (some false) else (if (bt x0 x8) > 57 then (some false) else (if x8 > 0 then (if 0 < (x0.size : Int) then (if (bt x0 0) = 48 then (some false) else (if x8 > 5 then (some false) else (spec_sayDigits.l0 k x0 x1 x2 (wrap64 ((wrap64 (10 * x7)) + (((bt x0 x8) - 48) % 256))) (wrap64 (x8 + 1))))) else (none)) else (if x8 > 5 then (some false) else (spec_sayDigits.l0 k x0 x1 x2 (wrap64 ((wrap64 (10 * x7)) + (((bt x0 x8) - 48) % 256))) (wrap64 (x8 + 1))))))) else (none)) else (if x0.toList = ([] : List UInt8) then (some false) else (if x7 ≥ x1 then (some (decide (x7 ≤ x2))) else (some false)))
def spec_sayDigits.f (k : Nat) (a0 : ByteArray) (a1 : Int) (a2 : Int) : Option (Bool) := spec_sayDigits.l0 k a0 a1 a2 0 0
set_option maxHeartbeats 8000000 in
set_option maxRecDepth 100000 in
theorem spec_sayDigits.calls (k : Nat) (a0 : ByteArray) (a1 : Int) (a2 : Int) (r : Bool) (w : World) (h : spec_sayDigits.f k a0 a1 a2 = some r) :
  Calls Tryd.prog 32 #[.string a0, .int .i64 a1, .int .i64 a2] w fun e w' => e = .returned (.bool r) ∧ Drawn0 w w' := by
 have H : (spec_sayDigits.l0 k a0 a1 a2 0 0) = some r := h; clear h; have H' := aM H; clear H
 go_enter Tryd.func32, Tryd.ntmps32
 go_wp2
 go_loopg [7, 8] k (fun kq v7 v8 w' => ∃ (x7_1 : Int) (x8_1 : Int), v7 = .int .i64 x7_1 ∧ v8 = .int .i64 x8_1 ∧ Aside0 (spec_sayDigits.l0 kq a0 a1 a2 x7_1 x8_1 = some r) ∧ Aside0 (kq ≤ k) ∧ Drawn0 w w')
 case atStart => exact ⟨(0), (0), (by first | rfl | (simp; done) | (simp [*]; done)), (by first | rfl | (simp; done) | (simp [*]; done)), H', ⟨Nat.le_refl _⟩, by repeat (first | exact Drawn0.refl _ | apply Drawn0.step)⟩
 case round =>
  clear H'
  try clear p2
  try clear c3
  obtain ⟨x7_1, x8_1, rfl, rfl, HA, HK1, ⟨m1, rfl⟩⟩ := hrel
  cases gk with
  | zero => exact absurd HA.out (by simp [spec_sayDigits.l0])
  | succ k1 =>
   have H := HA.out; clear HA; simp only [spec_sayDigits.l0] at H
   by_cases c4 : x8_1 < (a0.size : Int)
   ·rw [if_pos c4] at H; have c4b0 : decide (x8_1 < (a0.size : Int)) = true := decide_eq_true c4; clear c4
    by_cases c5 : 0 ≤ x8_1
    ·rw [if_pos c5] at H; have c5b0 : decide (0 ≤ x8_1) = true := decide_eq_true c5; clear c5
     by_cases c7 : (bt a0 x8_1) < 48
     ·rw [if_pos c7] at H; have c7b0 : decide ((bt a0 x8_1) < 48) = true := decide_eq_true c7; clear c7; obtain rfl := Option.some.inj H; have p6 : 0 ≤ (x8_1 : Int) := of_decide_eq_true (by first | (with_reducible assumption) | assumption); have q6 : x8_1 < (a0.size : Int) := of_decide_eq_true (by first | (with_reducible assumption) | assumption); have hx6 := bt_at a0 x8_1; replace p6 := eq_true p6; replace q6 := eq_true q6
      go_wp2
      go_ret
      exact ⟨by first | rfl | (simp; done) | (simp [*]; done), by repeat (first | exact Drawn0.refl _ | apply Drawn0.step)⟩
     ·rw [if_neg c7] at H; have c7b0 : decide ((bt a0 x8_1) < 48) = false := decide_eq_false c7; clear c7
      by_cases c9 : (bt a0 x8_1) > 57
      ·rw [if_pos c9] at H; have c9b0 : decide (57 < (bt a0 x8_1)) = true := decide_eq_true c9; clear c9; obtain rfl := Option.some.inj H; have p6 : 0 ≤ (x8_1 : Int) := of_decide_eq_true (by first | (with_reducible assumption) | assumption); have q6 : x8_1 < (a0.size : Int) := of_decide_eq_true (by first | (with_reducible assumption) | assumption); have hx6 := bt_at a0 x8_1; replace p6 := eq_true p6; replace q6 := eq_true q6; have p8 : 0 ≤ (x8_1 : Int) := of_decide_eq_true (by first | (with_reducible assumption) | assumption); have q8 : x8_1 < (a0.size : Int) := of_decide_eq_true (by first | (with_reducible assumption) | assumption); have hx8 := bt_at a0 x8_1; replace p8 := eq_true p8; replace q8 := eq_true q8
       go_wp2
       go_ret
       exact ⟨by first | rfl | (simp; done) | (simp [*]; done), by repeat (first | exact Drawn0.refl _ | apply Drawn0.step)⟩
      ·rw [if_neg c9] at H; have c9b0 : decide (57 < (bt a0 x8_1)) = false := decide_eq_false c9; clear c9
       by_cases c10 : x8_1 > 0
       ·rw [if_pos c10] at H; have c10b0 : decide (0 < x8_1) = true := decide_eq_true c10; clear c10
        by_cases c11 : 0 < (a0.size : Int)
        ·rw [if_pos c11] at H; have c11b0 : decide (0 < (a0.size : Int)) = true := decide_eq_true c11; have c11b1 : decide (0 < a0.size) = true := decide_eq_true (by omega); clear c11
         by_cases c13 : (bt a0 0) = 48
         ·rw [if_pos c13] at H; have c13b0 : ((bt a0 0) == 48) = true := beq_iff_eq.mpr c13; have c13b1 : ((bt a0 0) != 48) = false := bne_eq_false_iff_eq.mpr c13; clear c13; obtain rfl := Option.some.inj H; have p6 : 0 ≤ (x8_1 : Int) := of_decide_eq_true (by first | (with_reducible assumption) | assumption); have q6 : x8_1 < (a0.size : Int) := of_decide_eq_true (by first | (with_reducible assumption) | assumption); have hx6 := bt_at a0 x8_1; replace p6 := eq_true p6; replace q6 := eq_true q6; have p8 : 0 ≤ (x8_1 : Int) := of_decide_eq_true (by first | (with_reducible assumption) | assumption); have q8 : x8_1 < (a0.size : Int) := of_decide_eq_true (by first | (with_reducible assumption) | assumption); have hx8 := bt_at a0 x8_1; replace p8 := eq_true p8; replace q8 := eq_true q8
          have p12 : 0 ≤ (0 : Int) := (by omega)
          have q12 : 0 < a0.size := (by have : (0 : Int) < (a0.size : Int) := of_decide_eq_true (by first | (with_reducible assumption) | assumption); omega)
          have hx12 : ∀ h : 0 < a0.size, ((a0[0]'h).toNat : Int) = bt a0 0 := bt_at a0 0; clear p12; have qi12 : (0 < (a0.size : Int)) = True := eq_true (of_decide_eq_true (by first | (with_reducible assumption) | assumption)); replace q12 := eq_true q12
          go_wp2
          go_ret
          exact ⟨by first | rfl | (simp; done) | (simp [*]; done), by repeat (first | exact Drawn0.refl _ | apply Drawn0.step)⟩
         ·rw [if_neg c13] at H; have c13b0 : ((bt a0 0) == 48) = false := beq_eq_false_iff_ne.mpr c13; have c13b1 : ((bt a0 0) != 48) = true := bne_iff_ne.mpr c13
          by_cases c14 : x8_1 > 5
          ·rw [if_pos c14] at H; have c14b0 : decide (5 < x8_1) = true := decide_eq_true c14; clear c14; obtain rfl := Option.some.inj H; have p6 : 0 ≤ (x8_1 : Int) := of_decide_eq_true (by first | (with_reducible assumption) | assumption); have q6 : x8_1 < (a0.size : Int) := of_decide_eq_true (by first | (with_reducible assumption) | assumption); have hx6 := bt_at a0 x8_1; replace p6 := eq_true p6; replace q6 := eq_true q6; have p8 : 0 ≤ (x8_1 : Int) := of_decide_eq_true (by first | (with_reducible assumption) | assumption); have q8 : x8_1 < (a0.size : Int) := of_decide_eq_true (by first | (with_reducible assumption) | assumption); have hx8 := bt_at a0 x8_1; replace p8 := eq_true p8; replace q8 := eq_true q8
           have p12 : 0 ≤ (0 : Int) := (by omega)
           have q12 : 0 < a0.size := (by have : (0 : Int) < (a0.size : Int) := of_decide_eq_true (by first | (with_reducible assumption) | assumption); omega)
           have hx12 : ∀ h : 0 < a0.size, ((a0[0]'h).toNat : Int) = bt a0 0 := bt_at a0 0; clear p12; have qi12 : (0 < (a0.size : Int)) = True := eq_true (of_decide_eq_true (by first | (with_reducible assumption) | assumption)); replace q12 := eq_true q12
           go_wp2
           go_ret
           exact ⟨by first | rfl | (simp; done) | (simp [*]; done), by repeat (first | exact Drawn0.refl _ | apply Drawn0.step)⟩
          ·rw [if_neg c14] at H; have c14b0 : decide (5 < x8_1) = false := decide_eq_false c14; clear c14; have H' := aM H; clear H; have p6 : 0 ≤ (x8_1 : Int) := of_decide_eq_true (by first | (with_reducible assumption) | assumption); have q6 : x8_1 < (a0.size : Int) := of_decide_eq_true (by first | (with_reducible assumption) | assumption); have hx6 := bt_at a0 x8_1; replace p6 := eq_true p6; replace q6 := eq_true q6; have p8 : 0 ≤ (x8_1 : Int) := of_decide_eq_true (by first | (with_reducible assumption) | assumption); have q8 : x8_1 < (a0.size : Int) := of_decide_eq_true (by first | (with_reducible assumption) | assumption); have hx8 := bt_at a0 x8_1; replace p8 := eq_true p8; replace q8 := eq_true q8
           have p12 : 0 ≤ (0 : Int) := (by omega)
           have q12 : 0 < a0.size := (by have : (0 : Int) < (a0.size : Int) := of_decide_eq_true (by first | (with_reducible assumption) | assumption); omega)
           have hx12 : ∀ h : 0 < a0.size, ((a0[0]'h).toNat : Int) = bt a0 0 := bt_at a0 0; clear p12; have qi12 : (0 < (a0.size : Int)) = True := eq_true (of_decide_eq_true (by first | (with_reducible assumption) | assumption)); replace q12 := eq_true q12; have p15 : 0 ≤ (x8_1 : Int) := of_decide_eq_true (by first | (with_reducible assumption) | assumption); have q15 : x8_1 < (a0.size : Int) := of_decide_eq_true (by first | (with_reducible assumption) | assumption); have hx15 := bt_at a0 x8_1; replace p15 := eq_true p15; replace q15 := eq_true q15
           go_wp2
           go_roundg k1
           case measure => have := HK1.out; omega
           case rel => exact ⟨(wrap64 ((wrap64 (10 * x7_1)) + (((bt a0 x8_1) - 48) % 256))), (wrap64 (x8_1 + 1)), (by first | rfl | (simp; done) | (simp [*]; done)), (by first | rfl | (simp; done) | (simp [*]; done)), H', ⟨by have := HK1.out; omega⟩, by repeat (first | exact Drawn0.refl _ | apply Drawn0.step)⟩
        ·rw [if_neg c11] at H; exact absurd H (by simp)
       ·rw [if_neg c10] at H; have c10b0 : decide (0 < x8_1) = false := decide_eq_false c10; clear c10
        by_cases c16 : x8_1 > 5
        ·rw [if_pos c16] at H; have c16b0 : decide (5 < x8_1) = true := decide_eq_true c16; clear c16; obtain rfl := Option.some.inj H; have p6 : 0 ≤ (x8_1 : Int) := of_decide_eq_true (by first | (with_reducible assumption) | assumption); have q6 : x8_1 < (a0.size : Int) := of_decide_eq_true (by first | (with_reducible assumption) | assumption); have hx6 := bt_at a0 x8_1; replace p6 := eq_true p6; replace q6 := eq_true q6; have p8 : 0 ≤ (x8_1 : Int) := of_decide_eq_true (by first | (with_reducible assumption) | assumption); have q8 : x8_1 < (a0.size : Int) := of_decide_eq_true (by first | (with_reducible assumption) | assumption); have hx8 := bt_at a0 x8_1; replace p8 := eq_true p8; replace q8 := eq_true q8
         go_wp2
         go_ret
         exact ⟨by first | rfl | (simp; done) | (simp [*]; done), by repeat (first | exact Drawn0.refl _ | apply Drawn0.step)⟩
        ·rw [if_neg c16] at H; have c16b0 : decide (5 < x8_1) = false := decide_eq_false c16; clear c16; have H' := aM H; clear H; have p6 : 0 ≤ (x8_1 : Int) := of_decide_eq_true (by first | (with_reducible assumption) | assumption); have q6 : x8_1 < (a0.size : Int) := of_decide_eq_true (by first | (with_reducible assumption) | assumption); have hx6 := bt_at a0 x8_1; replace p6 := eq_true p6; replace q6 := eq_true q6; have p8 : 0 ≤ (x8_1 : Int) := of_decide_eq_true (by first | (with_reducible assumption) | assumption); have q8 : x8_1 < (a0.size : Int) := of_decide_eq_true (by first | (with_reducible assumption) | assumption); have hx8 := bt_at a0 x8_1; replace p8 := eq_true p8; replace q8 := eq_true q8; have p17 : 0 ≤ (x8_1 : Int) := of_decide_eq_true (by first | (with_reducible assumption) | assumption); have q17 : x8_1 < (a0.size : Int) := of_decide_eq_true (by first | (with_reducible assumption) | assumption); have hx17 := bt_at a0 x8_1; replace p17 := eq_true p17; replace q17 := eq_true q17
         go_wp2
         go_roundg k1
         case measure => have := HK1.out; omega
         case rel => exact ⟨(wrap64 ((wrap64 (10 * x7_1)) + (((bt a0 x8_1) - 48) % 256))), (wrap64 (x8_1 + 1)), (by first | rfl | (simp; done) | (simp [*]; done)), (by first | rfl | (simp; done) | (simp [*]; done)), H', ⟨by have := HK1.out; omega⟩, by repeat (first | exact Drawn0.refl _ | apply Drawn0.step)⟩
    ·rw [if_neg c5] at H; exact absurd H (by simp)
   ·rw [if_neg c4] at H; have c4b0 : decide (x8_1 < (a0.size : Int)) = false := decide_eq_false c4; clear c4
    by_cases c18 : a0.toList = ([] : List UInt8)
    ·rw [if_pos c18] at H; have c18b0 : (a0.toList == ([] : List UInt8)) = true := beq_iff_eq.mpr c18; have c18b1 : (a0.toList != ([] : List UInt8)) = false := bne_eq_false_iff_eq.mpr c18; clear c18; obtain rfl := Option.some.inj H
     go_wp2
     go_ret
     exact ⟨by first | rfl | (simp; done) | (simp [*]; done), by repeat (first | exact Drawn0.refl _ | apply Drawn0.step)⟩
    ·rw [if_neg c18] at H; have c18b0 : (a0.toList == ([] : List UInt8)) = false := beq_eq_false_iff_ne.mpr c18; have c18b1 : (a0.toList != ([] : List UInt8)) = true := bne_iff_ne.mpr c18
     by_cases c19 : x7_1 ≥ a1
     ·rw [if_pos c19] at H; have c19b0 : decide (a1 ≤ x7_1) = true := decide_eq_true c19; clear c19; obtain rfl := Option.some.inj H
      go_wp2
      go_ret
      exact ⟨by first | rfl | (simp; done) | (simp [*]; done), by repeat (first | exact Drawn0.refl _ | apply Drawn0.step)⟩
     ·rw [if_neg c19] at H; have c19b0 : decide (a1 ≤ x7_1) = false := decide_eq_false c19; clear c19; obtain rfl := Option.some.inj H
      go_wp2
      go_ret
      exact ⟨by first | rfl | (simp; done) | (simp [*]; done), by repeat (first | exact Drawn0.refl _ | apply Drawn0.step)⟩
attribute [local go_sem] xf xd xj xi yw yu xe xc 
mutual
def spec_sayAddress.l0 : Nat → Int → Int → Int → Int → Int → ByteArray → List ByteArray → List (S25) → Option (Bool)
 | 0, _, _, _, _, _, _, _, _ => none
 | k + 1, x3, x4, x5, x216000, x216001, x216002, x216003, x216004 => if x5 ≤ (x216002.size : Int) then (if x5 < (x216002.size : Int) then (if 0 ≤ x5 then (spec_sayAddress.j1 k x3 x4 x5 ((bt x216002 x5) != 46) x216000 x216001 x216002 x216003 x216004) else (none)) else (spec_sayAddress.j1 k x3 x4 x5 false x216000 x216001 x216002 x216003 x216004)) else (if x216000 = 3 then (some (x3 == 4)) else (some false))
def spec_sayAddress.j1 : Nat → Int → Int → Int → Bool → Int → Int → ByteArray → List ByteArray → List (S25) → Option (Bool)
 | 0, _, _, _, _, _, _, _, _, _ => none
 | k + 1, x3, x4, x5, x24, x216000, x216001, x216002, x216003, x216004 => if x24 = true then (spec_sayAddress.l0 k x3 x4 (wrap64 (x5 + 1)) x216000 x216001 x216002 x216003 x216004) else (if 0 ≤ x4 then (if x4 ≤ x5 then (if x5 ≤ (x216002.size : Int) then ((spec_sayDigits.f k (x216002.extract (x4 : Int).toNat (x5 : Int).toNat) 0 255).bind fun t216 => (if t216 = true then (spec_sayAddress.l0 k (wrap64 (x3 + 1)) (wrap64 (x5 + 1)) (wrap64 (x5 + 1)) x216000 x216001 x216002 x216003 x216004) else (some false))) else (none)) else (none)) else (none))
end
def spec_sayAddress.f (k : Nat) (a0_0 : Int) (a0_1 : Int) (a0_2 : ByteArray) (l0_3 : List ByteArray) (l0_4 : List (S25)) : Option (Bool) := spec_sayAddress.l0 k 0 0 0 a0_0 a0_1 a0_2 l0_3 l0_4
set_option maxHeartbeats 8000000 in
set_option maxRecDepth 100000 in
theorem spec_sayAddress.calls (k : Nat) (a0_0 : Int) (a0_1 : Int) (a0_2 : ByteArray) (A0_3 : Option Addr) (c0_3 : Nat) (l0_3 : List ByteArray) (A0_4 : Option Addr) (c0_4 : Nat) (l0_4 : List (S25)) (r : Bool) (w : World) (hr0_3 : Kd.C Kd.string w A0_3 l0_3.length l0_3) (hc0_3 : l0_3.length ≤ c0_3) (hr0_4 : Kd.C k25 w A0_4 l0_4.length l0_4) (hc0_4 : l0_4.length ≤ c0_4) (h : spec_sayAddress.f k a0_0 a0_1 a0_2 l0_3 l0_4 = some r) :
  Calls Tryd.prog 34 #[.agg #[.int .i64 a0_0, .int .i64 a0_1, .string a0_2, .slice A0_3 l0_3.length c0_3, .slice A0_4 l0_4.length c0_4]] w fun e w' => e = .returned (.bool r) ∧ Below w.heap.size w w' := by
 have hu25 := Tryd.underlying25; have HR0_3 := aM hr0_3; have HC0_3 := aM hc0_3; clear hr0_3 hc0_3; have HR0_4 := aM hr0_4; have HC0_4 := aM hc0_4; clear hr0_4 hc0_4; have HB := aM (Below.refl w.heap.size w); have H : (spec_sayAddress.l0 k 0 0 0 a0_0 a0_1 a0_2 l0_3 l0_4) = some r := h; clear h; have H' := aM H; clear H
 go_enter Tryd.func34, Tryd.ntmps34
 go_wp2_with (first | ((with_reducible refine ya (N := 1) rfl ?_); refine zw ?hg (N := 1) ?hd (cs := #[.int .i64 a0_0, .int .i64 a0_1, .string a0_2, .slice A0_3 l0_3.length c0_3, .slice A0_4 l0_4.length c0_4]) (t := 25) ?hr ?_; (case hd => rfl); (case hg => rfl); (case hr => first | (go_simp; done) | (go_simp; rfl)); intro gb215 hg w2 hbox hb; have n0_ := aM (zo (by repeat (first | (with_reducible first | exact HB.out | apply zf | apply zc | apply zj) | exact HB.out)) hb); have n1_ := aM (hbox); have n2_ := aM ((by rw [hg]; exact (zm (by repeat (first | (with_reducible first | exact HB.out | apply zf | apply zc | apply zj) | exact HB.out))) : w.heap.size ≤ gb215)); have n3_ := aM ((by rw [hg]; exact (zm (by repeat (first | (with_reducible first | exact HB.out | apply zf | apply zc | apply zj) | exact HB.out))) : w.heap.size ≤ gb215)); clear HB; have HB := n0_; have BK215 := n1_; have GW215 := n2_; have GE215 := n3_; clear n0_ n1_ n2_ n3_; clear hb hbox hg))
 go_loopg [3, 4, 5] k (fun kq v3 v4 v5 w' => ∃ (x3_1 : Int) (x4_1 : Int) (x5_1 : Int), v3 = .int .i64 x3_1 ∧ v4 = .int .i64 x4_1 ∧ v5 = .int .i64 x5_1 ∧ Aside0 (spec_sayAddress.l0 kq x3_1 x4_1 x5_1 a0_0 a0_1 a0_2 l0_3 l0_4 = some r) ∧ Aside0 (kq ≤ k) ∧ Aside0 (w'.heap[gb215]? = some (.cells #[.int .i64 a0_0, .int .i64 a0_1, .string a0_2, (.slice A0_3 l0_3.length c0_3), (.slice A0_4 l0_4.length c0_4)] 25 (0, 0))) ∧ Aside0 (Below w.heap.size w w'))
 case atStart => exact ⟨(0), (0), (0), (by first | rfl | (simp; done) | (simp [*]; done)), (by first | rfl | (simp; done) | (simp [*]; done)), (by first | rfl | (simp; done) | (simp [*]; done)), H', ⟨Nat.le_refl _⟩, ⟨by (with_reducible repeat (first | refine zg ?_ _ | refine zh ?_ | refine ze ?_ _)); exact BK215.out⟩, ⟨by repeat (first | (with_reducible first | exact HB.out | apply zf | apply zc | apply zj | refine zi ?_ GE215.out) | exact HB.out)⟩⟩
 case round =>
  clear H'
  try clear p2
  obtain ⟨x3_1, x4_1, x5_1, rfl, rfl, rfl, HA, HK1, BK215, HB⟩ := hrel
  cases gk with
  | zero => exact absurd HA.out (by simp [spec_sayAddress.l0])
  | succ k1 =>
   have H := HA.out; clear HA; simp only [spec_sayAddress.l0] at H
   by_cases c3 : x5_1 ≤ (a0_2.size : Int)
   ·rw [if_pos c3] at H; have c3b0 : decide (x5_1 ≤ (a0_2.size : Int)) = true := decide_eq_true c3; clear c3; have HC4 := aM H; clear H; have hcz5_0 : wr.cell? ⟨gb215, 0, none⟩ = some (.int .i64 a0_0) := (za BK215.out 0).trans rfl; have hcz5_1 : wr.cell? ⟨gb215, 1, none⟩ = some (.int .i64 a0_1) := (za BK215.out 1).trans rfl; have hcz5_2 : wr.cell? ⟨gb215, 2, none⟩ = some (.string a0_2) := (za BK215.out 2).trans rfl; have hcz5_3 : wr.cell? ⟨gb215, 3, none⟩ = some (.slice A0_3 l0_3.length c0_3) := (za BK215.out 3).trans rfl; have hcz5_4 : wr.cell? ⟨gb215, 4, none⟩ = some (.slice A0_4 l0_4.length c0_4) := (za BK215.out 4).trans rfl; have hfz5_0 := zb BK215.out 0; have hfz5_1 := zb BK215.out 1; have hfz5_2 := zb BK215.out 2; have hfz5_3 := zb BK215.out 3; have hfz5_4 := zb BK215.out 4
    go_upto_region 5 with (fail)
    go_cut [24] (fun v24 wc => ∃ (kq : Nat) (x24_3 : Bool), v24 = .bool x24_3 ∧ Aside0 (spec_sayAddress.j1 kq x3_1 x4_1 x5_1 x24_3 a0_0 a0_1 a0_2 l0_3 l0_4 = some r) ∧ Aside0 (kq ≤ k1) ∧ Aside0 (wc.heap[gb215]? = some (.cells #[.int .i64 a0_0, .int .i64 a0_1, .string a0_2, (.slice A0_3 l0_3.length c0_3), (.slice A0_4 l0_4.length c0_4)] 25 (0, 0))) ∧ Aside0 (Below w.heap.size w wc))
    case first =>
     have H := HC4.out; clear HC4
     by_cases c6 : x5_1 < (a0_2.size : Int)
     ·rw [if_pos c6] at H; have c6b0 : decide (x5_1 < (a0_2.size : Int)) = true := decide_eq_true c6; clear c6
      (first | rw [c6b0] | (simp only [yb, yc]; rw [c6b0]) | skip)
      by_cases c7 : 0 ≤ x5_1
      ·rw [if_pos c7] at H; have c7b0 : decide (0 ≤ x5_1) = true := decide_eq_true c7; clear c7; have H' := aM H; clear H; have hcz9_0 : wr.cell? ⟨gb215, 0, none⟩ = some (.int .i64 a0_0) := (za BK215.out 0).trans rfl; have hcz9_1 : wr.cell? ⟨gb215, 1, none⟩ = some (.int .i64 a0_1) := (za BK215.out 1).trans rfl; have hcz9_2 : wr.cell? ⟨gb215, 2, none⟩ = some (.string a0_2) := (za BK215.out 2).trans rfl; have hcz9_3 : wr.cell? ⟨gb215, 3, none⟩ = some (.slice A0_3 l0_3.length c0_3) := (za BK215.out 3).trans rfl; have hcz9_4 : wr.cell? ⟨gb215, 4, none⟩ = some (.slice A0_4 l0_4.length c0_4) := (za BK215.out 4).trans rfl; have hfz9_0 := zb BK215.out 0; have hfz9_1 := zb BK215.out 1; have hfz9_2 := zb BK215.out 2; have hfz9_3 := zb BK215.out 3; have hfz9_4 := zb BK215.out 4; have p8 : 0 ≤ (x5_1 : Int) := of_decide_eq_true (by first | (with_reducible assumption) | assumption); have q8 : x5_1 < (a0_2.size : Int) := of_decide_eq_true (by first | (with_reducible assumption) | assumption); have hx8 := bt_at a0_2 x5_1; replace p8 := eq_true p8; replace q8 := eq_true q8
       go_wp2
       go_meet
       case rel => exact ⟨_, (((bt a0_2 x5_1) != 46)), (by first | rfl | (simp; done) | (simp [*]; done)), H', ⟨by have := HK1.out; first | omega | exact Nat.le_refl _⟩, ⟨by (with_reducible repeat (first | refine zg ?_ _ | refine zh ?_ | refine ze ?_ _)); exact BK215.out⟩, ⟨by repeat (first | (with_reducible first | exact HB.out | apply zf | apply zc | apply zj | refine zi ?_ GE215.out) | exact HB.out)⟩⟩
      ·rw [if_neg c7] at H; exact absurd H (by simp)
     ·rw [if_neg c6] at H; have c6b0 : decide (x5_1 < (a0_2.size : Int)) = false := decide_eq_false c6; clear c6
      (first | rw [c6b0] | (simp only [yb, yc]; rw [c6b0]) | skip)
      have H' := aM H; clear H; have hcz10_0 : wr.cell? ⟨gb215, 0, none⟩ = some (.int .i64 a0_0) := (za BK215.out 0).trans rfl; have hcz10_1 : wr.cell? ⟨gb215, 1, none⟩ = some (.int .i64 a0_1) := (za BK215.out 1).trans rfl; have hcz10_2 : wr.cell? ⟨gb215, 2, none⟩ = some (.string a0_2) := (za BK215.out 2).trans rfl; have hcz10_3 : wr.cell? ⟨gb215, 3, none⟩ = some (.slice A0_3 l0_3.length c0_3) := (za BK215.out 3).trans rfl; have hcz10_4 : wr.cell? ⟨gb215, 4, none⟩ = some (.slice A0_4 l0_4.length c0_4) := (za BK215.out 4).trans rfl; have hfz10_0 := zb BK215.out 0; have hfz10_1 := zb BK215.out 1; have hfz10_2 := zb BK215.out 2; have hfz10_3 := zb BK215.out 3; have hfz10_4 := zb BK215.out 4
      go_wp2
      go_meet
      case rel => exact ⟨_, (false), (by first | rfl | (simp; done) | (simp [*]; done)), H', ⟨by have := HK1.out; first | omega | exact Nat.le_refl _⟩, ⟨by (with_reducible repeat (first | refine zg ?_ _ | refine zh ?_ | refine ze ?_ _)); exact BK215.out⟩, ⟨by repeat (first | (with_reducible first | exact HB.out | apply zf | apply zc | apply zj | refine zi ?_ GE215.out) | exact HB.out)⟩⟩
    case rest =>
     clear HC4
     try clear p2
     try clear c3
     try clear c3b0
     try clear c6
     try clear c6b0
     try clear c7
     try clear c7b0
     try clear p8
     try clear q8
     try clear hx8
     try clear hcz10_0
     try clear hcz10_1
     try clear hcz10_2
     try clear hcz10_3
     try clear hcz10_4
     try clear hcz5_0
     try clear hcz5_1
     try clear hcz5_2
     try clear hcz5_3
     try clear hcz5_4
     try clear hcz9_0
     try clear hcz9_1
     try clear hcz9_2
     try clear hcz9_3
     try clear hcz9_4
     try clear hfz10_0
     try clear hfz10_1
     try clear hfz10_2
     try clear hfz10_3
     try clear hfz10_4
     try clear hfz5_0
     try clear hfz5_1
     try clear hfz5_2
     try clear hfz5_3
     try clear hfz5_4
     try clear hfz9_0
     try clear hfz9_1
     try clear hfz9_2
     try clear hfz9_3
     try clear hfz9_4
     try clear p2
     try clear p8
     try clear q8
     obtain ⟨kq, x24_3, rfl, HA, HJ3, BK215, HB⟩ := hcut
     cases kq with
     | zero => exact absurd HA.out (by simp [spec_sayAddress.j1])
     | succ kj3 =>
      have H := HA.out; clear HA; simp only [spec_sayAddress.j1] at H
      by_cases c11 : x24_3 = true
      ·subst c11
       have H1 : (spec_sayAddress.l0 kj3 x3_1 x4_1 (wrap64 (x5_1 + 1)) a0_0 a0_1 a0_2 l0_3 l0_4) = some r := by rw [if_pos rfl] at H; exact H
       clear H; have H := H1; clear H1; have H' := aM H; clear H
       go_wp2
       go_roundg kj3
       case measure => have := HK1.out; have := HJ3.out; omega
       case rel => exact ⟨(x3_1), (x4_1), (wrap64 (x5_1 + 1)), (by first | rfl | (simp; done) | (simp [*]; done)), (by first | rfl | (simp; done) | (simp [*]; done)), (by first | rfl | (simp; done) | (simp [*]; done)), H', ⟨by have := HK1.out; have := HJ3.out; omega⟩, ⟨by (with_reducible repeat (first | refine zg ?_ _ | refine zh ?_ | refine ze ?_ _)); exact BK215.out⟩, ⟨by repeat (first | (with_reducible first | exact HB.out | apply zf | apply zc | apply zj | refine zi ?_ GE215.out) | exact HB.out)⟩⟩
      ·replace c11 := Bool.eq_false_iff.mpr c11; subst c11
       have H1 : (if 0 ≤ x4_1 then (if x4_1 ≤ x5_1 then (if x5_1 ≤ (a0_2.size : Int) then ((spec_sayDigits.f kj3 (a0_2.extract (x4_1 : Int).toNat (x5_1 : Int).toNat) 0 255).bind fun t216 => (if t216 = true then (spec_sayAddress.l0 kj3 (wrap64 (x3_1 + 1)) (wrap64 (x5_1 + 1)) (wrap64 (x5_1 + 1)) a0_0 a0_1 a0_2 l0_3 l0_4) else (some false))) else (none)) else (none)) else (none)) = some r := by rw [if_neg (show ¬ (false = true) by decide)] at H; exact H
       clear H; have H := H1; clear H1
       by_cases c12 : 0 ≤ x4_1
       ·rw [if_pos c12] at H; have c12b0 := eq_true c12; have c12b1 : decide (0 ≤ x4_1) = true := decide_eq_true c12; clear c12
        by_cases c13 : x4_1 ≤ x5_1
        ·rw [if_pos c13] at H; have c13b0 := eq_true c13; have c13b1 : decide (x4_1 ≤ x5_1) = true := decide_eq_true c13; clear c13
         by_cases c14 : x5_1 ≤ (a0_2.size : Int)
         ·rw [if_pos c14] at H; have c14b0 := eq_true c14; have c14b1 : decide (x5_1 ≤ (a0_2.size : Int)) = true := decide_eq_true c14; clear c14; replace H := Option.bind_eq_some_iff.mp H; obtain ⟨t216, A150, H⟩ := H; replace H : (if t216 = true then (spec_sayAddress.l0 kj3 (wrap64 (x3_1 + 1)) (wrap64 (x5_1 + 1)) (wrap64 (x5_1 + 1)) a0_0 a0_1 a0_2 l0_3 l0_4) else (some false)) = some r := H; have A15 := aM A150; clear A150
          by_cases c16 : t216 = true
          ·subst c16
           have H1 : (spec_sayAddress.l0 kj3 (wrap64 (x3_1 + 1)) (wrap64 (x5_1 + 1)) (wrap64 (x5_1 + 1)) a0_0 a0_1 a0_2 l0_3 l0_4) = some r := by rw [if_pos rfl] at H; exact H
           clear H; have H := H1; clear H1; have H' := aM H; clear H; have hcz17_0 : wc.cell? ⟨gb215, 0, none⟩ = some (.int .i64 a0_0) := (za BK215.out 0).trans rfl; have hcz17_1 : wc.cell? ⟨gb215, 1, none⟩ = some (.int .i64 a0_1) := (za BK215.out 1).trans rfl; have hcz17_2 : wc.cell? ⟨gb215, 2, none⟩ = some (.string a0_2) := (za BK215.out 2).trans rfl; have hcz17_3 : wc.cell? ⟨gb215, 3, none⟩ = some (.slice A0_3 l0_3.length c0_3) := (za BK215.out 3).trans rfl; have hcz17_4 : wc.cell? ⟨gb215, 4, none⟩ = some (.slice A0_4 l0_4.length c0_4) := (za BK215.out 4).trans rfl; have hfz17_0 := zb BK215.out 0; have hfz17_1 := zb BK215.out 1; have hfz17_2 := zb BK215.out 2; have hfz17_3 := zb BK215.out 3; have hfz17_4 := zb BK215.out 4
           go_wp2_with (first | ((with_reducible refine yl (f := 32) rfl ?_); refine xg (some 30) rfl rfl Tryd.func32 (by kernel_rfl) rfl #[.string (a0_2.extract (x4_1 : Int).toNat (x5_1 : Int).toNat), .int .i64 0, .int .i64 255] rfl (by (try simp only [List.map_toArray, List.map_cons, List.map_nil]); first | done | rfl | (simp only [List.length_drop, List.length_take]; rfl)) ?_; (with_reducible refine (spec_sayDigits.calls kj3 (a0_2.extract (x4_1 : Int).toNat (x5_1 : Int).toNat) 0 255 true _ A15.out).mono ?_); rintro e w' ⟨rfl, ⟨nd, rfl⟩⟩; refine ⟨_, rfl, ?_⟩))
           go_roundg kj3
           case measure => have := HK1.out; have := HJ3.out; omega
           case rel => exact ⟨(wrap64 (x3_1 + 1)), (wrap64 (x5_1 + 1)), (wrap64 (x5_1 + 1)), (by first | rfl | (simp; done) | (simp [*]; done)), (by first | rfl | (simp; done) | (simp [*]; done)), (by first | rfl | (simp; done) | (simp [*]; done)), H', ⟨by have := HK1.out; have := HJ3.out; omega⟩, ⟨by (with_reducible repeat (first | refine zg ?_ _ | refine zh ?_ | refine ze ?_ _)); exact BK215.out⟩, ⟨by repeat (first | (with_reducible first | exact HB.out | apply zf | apply zc | apply zj | refine zi ?_ GE215.out) | exact HB.out)⟩⟩
          ·replace c16 := Bool.eq_false_iff.mpr c16; subst c16
           have H1 : (some false) = some r := by rw [if_neg (show ¬ (false = true) by decide)] at H; exact H
           clear H; have H := H1; clear H1; obtain rfl := Option.some.inj H; have hcz18_0 : wc.cell? ⟨gb215, 0, none⟩ = some (.int .i64 a0_0) := (za BK215.out 0).trans rfl; have hcz18_1 : wc.cell? ⟨gb215, 1, none⟩ = some (.int .i64 a0_1) := (za BK215.out 1).trans rfl; have hcz18_2 : wc.cell? ⟨gb215, 2, none⟩ = some (.string a0_2) := (za BK215.out 2).trans rfl; have hcz18_3 : wc.cell? ⟨gb215, 3, none⟩ = some (.slice A0_3 l0_3.length c0_3) := (za BK215.out 3).trans rfl; have hcz18_4 : wc.cell? ⟨gb215, 4, none⟩ = some (.slice A0_4 l0_4.length c0_4) := (za BK215.out 4).trans rfl; have hfz18_0 := zb BK215.out 0; have hfz18_1 := zb BK215.out 1; have hfz18_2 := zb BK215.out 2; have hfz18_3 := zb BK215.out 3; have hfz18_4 := zb BK215.out 4
           go_wp2_with (first | ((with_reducible refine yl (f := 32) rfl ?_); refine xg (some 30) rfl rfl Tryd.func32 (by kernel_rfl) rfl #[.string (a0_2.extract (x4_1 : Int).toNat (x5_1 : Int).toNat), .int .i64 0, .int .i64 255] rfl (by (try simp only [List.map_toArray, List.map_cons, List.map_nil]); first | done | rfl | (simp only [List.length_drop, List.length_take]; rfl)) ?_; (with_reducible refine (spec_sayDigits.calls kj3 (a0_2.extract (x4_1 : Int).toNat (x5_1 : Int).toNat) 0 255 false _ A15.out).mono ?_); rintro e w' ⟨rfl, ⟨nd, rfl⟩⟩; refine ⟨_, rfl, ?_⟩))
           go_ret
           exact ⟨by first | rfl | (simp [zu, zt] <;> rfl) | (simp [*, zu, zt] <;> rfl), by repeat (first | (with_reducible first | exact HB.out | apply zf | apply zc | apply zj | refine zi ?_ GE215.out) | exact HB.out)⟩
         ·rw [if_neg c14] at H; exact absurd H (by simp)
        ·rw [if_neg c13] at H; exact absurd H (by simp)
       ·rw [if_neg c12] at H; exact absurd H (by simp)
   ·rw [if_neg c3] at H; have c3b0 : decide (x5_1 ≤ (a0_2.size : Int)) = false := decide_eq_false c3; clear c3
    by_cases c19 : a0_0 = 3
    ·rw [if_pos c19] at H; have c19b0 : (a0_0 == 3) = true := beq_iff_eq.mpr c19; have c19b1 : (a0_0 != 3) = false := bne_eq_false_iff_eq.mpr c19; clear c19; obtain rfl := Option.some.inj H; have hcz20_0 : wr.cell? ⟨gb215, 0, none⟩ = some (.int .i64 a0_0) := (za BK215.out 0).trans rfl; have hcz20_1 : wr.cell? ⟨gb215, 1, none⟩ = some (.int .i64 a0_1) := (za BK215.out 1).trans rfl; have hcz20_2 : wr.cell? ⟨gb215, 2, none⟩ = some (.string a0_2) := (za BK215.out 2).trans rfl; have hcz20_3 : wr.cell? ⟨gb215, 3, none⟩ = some (.slice A0_3 l0_3.length c0_3) := (za BK215.out 3).trans rfl; have hcz20_4 : wr.cell? ⟨gb215, 4, none⟩ = some (.slice A0_4 l0_4.length c0_4) := (za BK215.out 4).trans rfl; have hfz20_0 := zb BK215.out 0; have hfz20_1 := zb BK215.out 1; have hfz20_2 := zb BK215.out 2; have hfz20_3 := zb BK215.out 3; have hfz20_4 := zb BK215.out 4
     go_wp2
     go_ret
     exact ⟨by first | rfl | (simp [zu, zt] <;> rfl) | (simp [*, zu, zt] <;> rfl), by repeat (first | (with_reducible first | exact HB.out | apply zf | apply zc | apply zj | refine zi ?_ GE215.out) | exact HB.out)⟩
    ·rw [if_neg c19] at H; have c19b0 : (a0_0 == 3) = false := beq_eq_false_iff_ne.mpr c19; have c19b1 : (a0_0 != 3) = true := bne_iff_ne.mpr c19; obtain rfl := Option.some.inj H; have hcz21_0 : wr.cell? ⟨gb215, 0, none⟩ = some (.int .i64 a0_0) := (za BK215.out 0).trans rfl; have hcz21_1 : wr.cell? ⟨gb215, 1, none⟩ = some (.int .i64 a0_1) := (za BK215.out 1).trans rfl; have hcz21_2 : wr.cell? ⟨gb215, 2, none⟩ = some (.string a0_2) := (za BK215.out 2).trans rfl; have hcz21_3 : wr.cell? ⟨gb215, 3, none⟩ = some (.slice A0_3 l0_3.length c0_3) := (za BK215.out 3).trans rfl; have hcz21_4 : wr.cell? ⟨gb215, 4, none⟩ = some (.slice A0_4 l0_4.length c0_4) := (za BK215.out 4).trans rfl; have hfz21_0 := zb BK215.out 0; have hfz21_1 := zb BK215.out 1; have hfz21_2 := zb BK215.out 2; have hfz21_3 := zb BK215.out 3; have hfz21_4 := zb BK215.out 4
     go_wp2
     go_ret
     exact ⟨by first | rfl | (simp [zu, zt] <;> rfl) | (simp [*, zu, zt] <;> rfl), by repeat (first | (with_reducible first | exact HB.out | apply zf | apply zc | apply zj | refine zi ?_ GE215.out) | exact HB.out)⟩
end Go.Proofs.YtceojjlpeacfgaaDoor.PS
