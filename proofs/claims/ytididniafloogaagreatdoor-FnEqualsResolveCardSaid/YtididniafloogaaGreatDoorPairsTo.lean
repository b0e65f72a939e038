/- pairs given to the thin package. -/
import Derived.Test.YtididniafloogaaGreatDoorPairsFn
namespace Go.Proofs.YtididniafloogaaGreatDoor.Maps
open Go.RowKit Go.Proofs.YtididniafloogaaGreatDoorW.PrintWords Go.Proofs.YtididniafloogaaGreatDoorW.PrintLast Go.Proofs.YtididniafloogaaGreatDoor.Str Go.Proofs.YtididniafloogaaGreatDoor.Kit Go.Proofs.YtididniafloogaaGreatDoor.Flat Go.Proofs.YtididniafloogaaGreatDoor.MapV Go.Proofs.YtididniafloogaaGreatDoor.Frame
set_option linter.unusedVariables false
set_option linter.unusedSimpArgs false
set_option maxHeartbeats 1600000 in
set_option maxRecDepth 100000 in
theorem pairsTo {A : Option Addr} {c : Nat} (l : List (BA × BA)) (w : World) (h : kp.C w A l.length l) (hn : l.length ≤ 17179869184) :
    Calls Tryz.prog 22 #[.slice A l.length c] w fun e w' => ∃ v, e = .returned v ∧ kp.R 74 w' w.heap.size (fun _ => True) v l ∧ Below w.heap.size w w' := by
  have H := Aside0.mk h
  have HB0 := Aside0.mk (Below.refl w.heap.size w)
  clear h
  go_enter Tryz.func22, Tryz.ntmps22
  go_wp2
  go_loopw [3, 4] (fun v3 v4 wr => ∃ i : Nat, v4 = .int .i64 i ∧ i ≤ l.length ∧ Aside0 (kp.R 74 wr w.heap.size (fun _ => True) v3 (l.take i)) ∧ Aside0 (Below w.heap.size w wr)) (fun _ v4 _ => l.length - (intOf v4).toNat)
  case atStart => exact ⟨0, rfl, by omega, ⟨Kd.R_nil _ _ _ _ _⟩, HB0⟩
  case round =>
    clear HB0
    obtain ⟨i, rfl, hi, HO, HB⟩ := hrel
    by_cases hlt : i < l.length
    · obtain ⟨b0, o0, rfl, hb0, hc0⟩ := kp_open H.out (by omega)
      obtain ⟨g0, g1⟩ := hc0 i hlt
      replace g0 := pw_cell_below HB.out g0
      replace g1 := pw_cell_below HB.out g1
      have q0 : (0 : Int) ≤ (i : Int) := by omega
      have q1 : (i : Int) < (l.length : Int) := by omega
      have HT := Aside0.mk (show l.take (i + 1) = l.take i ++ [(l[i].1, l[i].2)] by rw [List.take_succ_eq_append_getElem hlt])
      have hln : (l.take i).length < 4398046511103 := by rw [List.length_take]; omega
      generalize l[i].1 = p at g0 HT
      generalize l[i].2 = q at g1 HT
      obtain ⟨A3, c3, rfl⟩ := Kd.R_slice HO.out
      have hmin : (l.take i).length = i := by rw [List.length_take]; omega
      rw [hmin] at HO ⊢
      clear hmin
      have hne : some b0 ≠ (Value.slice A3 i c3).ownBlock := fun e => by have := Kd.R_base HO.out b0 e.symm; omega
      clear hc0
      go_wp2_with fail
      refine start_ (n := 15) (S := fun w' => w'.cell? ⟨b0, o0 + i * 2, none⟩ = some (.string p) ∧ w'.cell? ⟨b0, o0 + i * 2 + 1, none⟩ = some (.string q)) (ds := []) #[false, false, false, false, false, false, false, false, false, false, false, false, false, false, false] (by kernel_rfl) rfl rfl ⟨g0, g1⟩ (fun hHeld => ?_)
      refine pure_ (i := 0) (N := some 11) (v := ?_) (a' := ?_) #[true, false, false, false, false, false, false, false, false, false, false, false, false, false, false] rfl rfl (by kernel_rfl) (fun _ _ _ h => h) (Or.inl ⟨by rfl, ?_⟩) ?_ ?_
      rotate_left
      · intro w'
        go_simp
        with_reducible rfl
      rotate_left
      · simp only [Act.put, List.setIfInBounds_toArray, List.set_cons_zero, List.set_cons_succ, i64_w, i32_w]
        rfl
      refine pure_ (i := 1) (N := some 12) (v := ?_) (a' := ?_) #[true, true, false, false, false, false, false, false, false, false, false, false, false, false, false] rfl rfl (by kernel_rfl) (fun _ _ _ h => h) (Or.inl ⟨by rfl, ?_⟩) ?_ ?_
      rotate_left
      · intro w'
        go_simp
        with_reducible rfl
      rotate_left
      · simp only [Act.put, List.setIfInBounds_toArray, List.set_cons_zero, List.set_cons_succ, i64_w, i32_w]
        rfl
      refine pure_ (i := 2) (N := some 13) (v := ?_) (a' := ?_) #[true, true, true, false, false, false, false, false, false, false, false, false, false, false, false] rfl rfl (by kernel_rfl) (fun _ _ _ h => h) (Or.inl ⟨by rfl, ?_⟩) ?_ ?_
      rotate_left
      · intro w'
        go_simp
        with_reducible rfl
      rotate_left
      · simp only [Act.put, List.setIfInBounds_toArray, List.set_cons_zero, List.set_cons_succ, i64_w, i32_w]
        rfl
      refine pure_ (i := 3) (N := some 14) (v := ?_) (a' := ?_) #[true, true, true, true, false, false, false, false, false, false, false, false, false, false, false] rfl rfl (by kernel_rfl) (fun _ _ _ h => h) (Or.inl ⟨by rfl, ?_⟩) ?_ ?_
      rotate_left
      · intro w'
        go_simp
        with_reducible rfl
      rotate_left
      · simp only [Act.put, List.setIfInBounds_toArray, List.set_cons_zero, List.set_cons_succ, i64_w, i32_w]
        rfl
      refine pure_ (i := 4) (N := some 15) (v := ?_) (a' := ?_) #[true, true, true, true, true, false, false, false, false, false, false, false, false, false, false] rfl rfl (by kernel_rfl) (fun _ _ _ h => h) (Or.inl ⟨by rfl, ?_⟩) ?_ ?_
      rotate_left
      · intro w'
        go_simp
        with_reducible rfl
      rotate_left
      · simp only [Act.put, List.setIfInBounds_toArray, List.set_cons_zero, List.set_cons_succ, i64_w, i32_w]
        rfl
      refine pure_ (i := 6) (N := some 17) (v := ?_) (a' := ?_) #[true, true, true, true, true, false, true, false, false, false, false, false, false, false, false] rfl rfl (by kernel_rfl) (fun _ _ _ h => h) (Or.inl ⟨by rfl, ?_⟩) ?_ ?_
      rotate_left
      · intro w'
        go_simp
        with_reducible rfl
      rotate_left
      · simp only [Act.put, List.setIfInBounds_toArray, List.set_cons_zero, List.set_cons_succ, i64_w, i32_w]
        rfl
      refine pure_ (i := 7) (N := some 18) (v := ?_) (a' := ?_) #[true, true, true, true, true, false, true, true, false, false, false, false, false, false, false] rfl rfl (by kernel_rfl) (fun _ _ _ h => h) (Or.inl ⟨by rfl, ?_⟩) ?_ ?_
      rotate_left
      · intro w'
        go_simp
        with_reducible rfl
      rotate_left
      · simp only [Act.put, List.setIfInBounds_toArray, List.set_cons_zero, List.set_cons_succ, i64_w, i32_w]
        rfl
      refine pure_ (i := 8) (N := some 19) (v := ?_) (a' := ?_) #[true, true, true, true, true, false, true, true, true, false, false, false, false, false, false] rfl rfl (by kernel_rfl) (fun _ _ _ h => h) (Or.inl ⟨by rfl, ?_⟩) ?_ ?_
      rotate_left
      · intro w'
        go_simp
        with_reducible rfl
      rotate_left
      · simp only [Act.put, List.setIfInBounds_toArray, List.set_cons_zero, List.set_cons_succ, i64_w, i32_w]
        rfl
      refine pure_ (i := 9) (N := some 20) (v := ?_) (a' := ?_) #[true, true, true, true, true, false, true, true, true, true, false, false, false, false, false] rfl rfl (by kernel_rfl) (fun _ _ _ h => h) (Or.inl ⟨by rfl, ?_⟩) ?_ ?_
      rotate_left
      · intro w'
        go_simp
        with_reducible rfl
      rotate_left
      · simp only [Act.put, List.setIfInBounds_toArray, List.set_cons_zero, List.set_cons_succ, i64_w, i32_w]
        rfl
      refine take_ (i := 5) (N := some 16) (v := ?_) (a' := ?_) #[true, true, true, true, true, true, true, true, true, true, false, false, false, false, false] rfl rfl (by kernel_rfl) (fun _ _ _ h => h) (Or.inl ⟨by rfl, ?_⟩) hHeld ?_ ?_
      rotate_left
      · rintro w' ⟨s0, s1⟩
        go_simp
        with_reducible rfl
      rotate_left
      · simp only [Act.put, List.setIfInBounds_toArray, List.set_cons_zero, List.set_cons_succ, i64_w, i32_w]
        rfl
      refine take_ (i := 10) (N := some 21) (v := ?_) (a' := ?_) #[true, true, true, true, true, true, true, true, true, true, true, false, false, false, false] rfl rfl (by kernel_rfl) (fun _ _ _ h => h) (Or.inl ⟨by rfl, ?_⟩) hHeld ?_ ?_
      rotate_left
      · rintro w' ⟨s0, s1⟩
        go_simp
        with_reducible rfl
      rotate_left
      · simp only [Act.put, List.setIfInBounds_toArray, List.set_cons_zero, List.set_cons_succ, i64_w, i32_w]
        rfl
      refine pure_ (i := 11) (N := some 22) (v := ?_) (a' := ?_) #[true, true, true, true, true, true, true, true, true, true, true, true, false, false, false] rfl rfl (by kernel_rfl) (fun _ _ _ h => h) (Or.inl ⟨by rfl, ?_⟩) ?_ ?_
      rotate_left
      · intro w'
        go_simp
        with_reducible rfl
      rotate_left
      · simp only [Act.put, List.setIfInBounds_toArray, List.set_cons_zero, List.set_cons_succ, i64_w, i32_w]
        rfl
      refine one_ (i := 12) (N := some 23) #[true, true, true, true, true, true, true, true, true, true, true, true, true, false, false] rfl rfl (by kernel_rfl) (by decide) (fun K hK => ?_)
      refine value_ (w1 := ?_) (v := ?_) (by rfl) rfl ?_ ?_
      rotate_left 2
      · go_simp
        constructor
        · rfl
        · rfl
      refine hK.out _ _ ⟨pw_cell_below (below_alloc (Below.refl _ _) _) hHeld.1, pw_cell_below (below_alloc (Below.refl _ _) _) hHeld.2⟩ (fun hHeld => ?_)
      clear hK K
      refine norm_ (a' := ?_) ?_ ?_
      rotate_left
      · show Act.put _ (some 23) _ = _
        simp only [Act.put, List.setIfInBounds_toArray, List.set_cons_zero, List.set_cons_succ, i64_w, i32_w]
        rfl
      refine one_ (i := 13) (N := some 24) #[true, true, true, true, true, true, true, true, true, true, true, true, true, true, false] rfl rfl (by kernel_rfl) (by decide) (fun K hK => ?_)
      have hh0 := hHeld.1
      have hh1 := hHeld.2
      refine append_pair_step (w0 := w) (ok := fun _ => True) rfl (fun _ _ => trivial) 27 74 Tryz.underlying27 info_pair (.tmp 11) (.tmp 23) rfl rfl rfl (Kd.R_drew HO.out) (below_drew HB.out) hln ?_
      intro v1 w5 ho hb hg
      have HO5 := Aside0.mk ho
      have HB5 := Aside0.mk hb
      have k0 := cell_grown hg (show wr.drew.cell? _ = _ from g0) hne
      have k1 := cell_grown hg (show wr.drew.cell? _ = _ from g1) hne
      clear ho hb hg
      refine hK.out _ _ ⟨k0, k1⟩ (fun hHeld => ?_)
      clear hK K
      refine norm_ (a' := ?_) ?_ ?_
      rotate_left
      · show Act.put _ (some 24) _ = _
        simp only [Act.put, List.setIfInBounds_toArray, List.set_cons_zero, List.set_cons_succ, i64_w, i32_w]
        rfl
      refine pure_ (i := 14) (N := some 3) (v := ?_) (a' := ?_) #[true, true, true, true, true, true, true, true, true, true, true, true, true, true, true] rfl rfl (by kernel_rfl) (fun _ _ _ h => h) (Or.inl ⟨by rfl, ?_⟩) ?_ ?_
      rotate_left
      · intro w'
        go_simp
        with_reducible rfl
      rotate_left
      · simp only [Act.put, List.setIfInBounds_toArray, List.set_cons_zero, List.set_cons_succ, i64_w, i32_w]
        rfl
      refine done_ (by kernel_rfl) ?_
      go_wp2
      go_roundw
      case rel => exact ⟨i + 1, by go_num, by omega, ⟨by rw [HT.out]; exact HO5.out⟩, HB5⟩
      case measure => simp [intOf]; omega
    · have hall := HO.out
      rw [List.take_of_length_le (by omega)] at hall
      have HALL := Aside0.mk hall
      clear hall HO
      go_wp2
      go_ret
      exact ⟨_, rfl, HALL.out, HB.out⟩
end Go.Proofs.YtididniafloogaaGreatDoor.Maps
