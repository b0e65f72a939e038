/- ParseVolume of the empty text. -/
import Derived.Test.YtpkfdifoaijpnaaDoorVolImpl
namespace Go.Proofs.YtpkfdifoaijpnaaDoor.Vol
open Go.RowKit Go.Proofs.YtpkfdifoaijpnaaDoorW.PrintWords Go.Proofs.YtpkfdifoaijpnaaDoorW.PrintLast Go.Proofs.YtpkfdifoaijpnaaDoor.Str Go.Proofs.YtpkfdifoaijpnaaDoor.Kit Go.Proofs.YtpkfdifoaijpnaaDoor.Frame Go.Proofs.YtpkfdifoaijpnaaDoor.Index
set_option linter.unusedVariables false
set_option linter.unusedSimpArgs false

theorem errorsNewX (s : ByteArray) (w : World) :
    Calls Tryd.prog 29 #[.string s] w fun e w' => e = .returned (.iface 82 (.pointer (some ⟨w.heap.size, 0, none⟩))) ∧ w' = w.alloc (.cells #[.string s] 84) := by
  go_enter Tryd.func29, Tryd.ntmps29
  go_wp2
  go_ret
  exact ⟨rfl, rfl⟩

set_option maxHeartbeats 1600000 in
set_option maxRecDepth 1000000 in
theorem ParseEmpty (w : World) :
    Calls Tryd.prog 21 #[.string ⟨#[]⟩] w (PvPost none w) := by
  have HB := Aside0.mk (Below.refl w.heap.size w)
  go_enter Tryd.func21, Tryd.ntmps21
  go_wp2_with fail
  change Code.wp _ _ _ _ ((w.alloc (.cells (volC V0 none none) 46)).alloc (.cells (volC V0 none none) 46))
  have h1 := cb_new (w.alloc (.cells (volC V0 none none) 46)) (.cells (volC V0 none none) 46)
  rw [World.size_alloc] at h1
  have h0 := cb_alloc (cb_new w (.cells (volC V0 none none) 46)) (.cells (volC V0 none none) 46)
  have hb := hb_then (alloc_below w (.cells (volC V0 none none) 46)) (alloc_below _ (.cells (volC V0 none none) 46))
  have hsz : w.heap.size < ((w.alloc (.cells (volC V0 none none) 46)).alloc (.cells (volC V0 none none) 46)).heap.size := cb_lt h0
  generalize (w.alloc (.cells (volC V0 none none) 46)).alloc (.cells (volC V0 none none) 46) = W at *
  have HB1 := Aside0.mk hb
  have HR := Aside0.mk h0
  have c0 : W.cell? ⟨w.heap.size + 1, 0, none⟩ = some (.string ⟨#[]⟩) := cb_cell (i := 0) h1 rfl
  have r0 : W.cell? ⟨w.heap.size, 0, none⟩ = some (.string ⟨#[]⟩) := cb_cell (i := 0) h0 rfl
  have f0 := cb_frozen (i := 0) h0
  have c1 : W.cell? ⟨w.heap.size + 1, 1, none⟩ = some (.string ⟨#[]⟩) := cb_cell (i := 1) h1 rfl
  have r1 : W.cell? ⟨w.heap.size, 1, none⟩ = some (.string ⟨#[]⟩) := cb_cell (i := 1) h0 rfl
  have f1 := cb_frozen (i := 1) h0
  have c2 : W.cell? ⟨w.heap.size + 1, 2, none⟩ = some (.string ⟨#[]⟩) := cb_cell (i := 2) h1 rfl
  have r2 : W.cell? ⟨w.heap.size, 2, none⟩ = some (.string ⟨#[]⟩) := cb_cell (i := 2) h0 rfl
  have f2 := cb_frozen (i := 2) h0
  have c3 : W.cell? ⟨w.heap.size + 1, 3, none⟩ = some (.bool false) := cb_cell (i := 3) h1 rfl
  have r3 : W.cell? ⟨w.heap.size, 3, none⟩ = some (.bool false) := cb_cell (i := 3) h0 rfl
  have f3 := cb_frozen (i := 3) h0
  have c4 : W.cell? ⟨w.heap.size + 1, 4, none⟩ = some (.string ⟨#[]⟩) := cb_cell (i := 4) h1 rfl
  have r4 : W.cell? ⟨w.heap.size, 4, none⟩ = some (.string ⟨#[]⟩) := cb_cell (i := 4) h0 rfl
  have f4 := cb_frozen (i := 4) h0
  have c5 : W.cell? ⟨w.heap.size + 1, 5, none⟩ = some (.pointer none) := cb_cell (i := 5) h1 rfl
  have r5 : W.cell? ⟨w.heap.size, 5, none⟩ = some (.pointer none) := cb_cell (i := 5) h0 rfl
  have f5 := cb_frozen (i := 5) h0
  have c6 : W.cell? ⟨w.heap.size + 1, 6, none⟩ = some (.pointer none) := cb_cell (i := 6) h1 rfl
  have r6 : W.cell? ⟨w.heap.size, 6, none⟩ = some (.pointer none) := cb_cell (i := 6) h0 rfl
  have f6 := cb_frozen (i := 6) h0
  have c7 : W.cell? ⟨w.heap.size + 1, 7, none⟩ = some (.pointer none) := cb_cell (i := 7) h1 rfl
  have r7 : W.cell? ⟨w.heap.size, 7, none⟩ = some (.pointer none) := cb_cell (i := 7) h0 rfl
  have f7 := cb_frozen (i := 7) h0
  have hsz1 : w.heap.size + 1 < W.heap.size := cb_lt h1
  clear h1 h0 hb
  refine start_ (n := 4) (S := fun w' => w'.cell? ⟨w.heap.size + 1, 0, none⟩ = some (.string ⟨#[]⟩) ∧ w'.cell? ⟨w.heap.size + 1, 1, none⟩ = some (.string ⟨#[]⟩) ∧ w'.cell? ⟨w.heap.size + 1, 2, none⟩ = some (.string ⟨#[]⟩) ∧ w'.cell? ⟨w.heap.size + 1, 3, none⟩ = some (.bool false) ∧ w'.cell? ⟨w.heap.size + 1, 4, none⟩ = some (.string ⟨#[]⟩) ∧ w'.cell? ⟨w.heap.size + 1, 5, none⟩ = some (.pointer none) ∧ w'.cell? ⟨w.heap.size + 1, 6, none⟩ = some (.pointer none) ∧ w'.cell? ⟨w.heap.size + 1, 7, none⟩ = some (.pointer none)) (ds := [2]) #[false, false, false, false] (by kernel_rfl) rfl rfl ⟨c0, c1, c2, c3, c4, c5, c6, c7⟩ (fun hHeld => ?_)
  refine take_ (i := 0) (N := some 15) (v := ?_) (a' := ?_) #[true, false, false, false] rfl rfl (by kernel_rfl) (fun _ _ _ h => h) (Or.inl ⟨by rfl, ?_⟩) hHeld ?_ ?_
  rotate_left
  · rintro w' ⟨s0, s1, s2, s3, s4, s5, s6, s7⟩
    go_simp
    with_reducible rfl
  rotate_left
  · simp only [Act.put, List.setIfInBounds_toArray, List.set_cons_zero, List.set_cons_succ, i64_w, i32_w]
    rfl
  refine one_ (i := 1) (N := some 16) #[true, true, false, false] rfl rfl (by kernel_rfl) (by decide) (fun K hK => ?_)
  refine goes_ Tryd.func29 (by kernel_rfl) rfl #[.string ⟨#[105, 110, 118, 97, 108, 105, 100, 32, 101, 109, 112, 116, 121, 32, 118, 111, 108, 117, 109, 101, 32, 115, 112, 101, 99]⟩] (by rfl) rfl rfl (by simp only [List.map_toArray, List.map_cons, List.map_nil]; rfl) ?_
  with_reducible refine (errorsNewX _ _).mono ?_
  rintro e w3 ⟨rfl, rfl⟩
  refine ⟨_, rfl, ?_⟩
  refine hK.out _ _ ⟨(pw_cell_below (alloc_below _ _) hHeld.1), (pw_cell_below (alloc_below _ _) hHeld.2.1), (pw_cell_below (alloc_below _ _) hHeld.2.2.1), (pw_cell_below (alloc_below _ _) hHeld.2.2.2.1), (pw_cell_below (alloc_below _ _) hHeld.2.2.2.2.1), (pw_cell_below (alloc_below _ _) hHeld.2.2.2.2.2.1), (pw_cell_below (alloc_below _ _) hHeld.2.2.2.2.2.2.1), (pw_cell_below (alloc_below _ _) hHeld.2.2.2.2.2.2.2)⟩ (fun hHeld => ?_)
  clear hK K
  refine norm_ (a' := ?_) ?_ ?_
  rotate_left
  · show Act.put _ (some 16) _ = _
    simp only [Act.put, List.setIfInBounds_toArray, List.set_cons_zero, List.set_cons_succ, i64_w, i32_w]
    rfl
  refine last_ (i := 2) (N := none) #[true, true, true, false] rfl rfl (by kernel_rfl) (by decide) (fun K hK => ?_)
  refine skip_ (w1 := ?_) (by rfl) rfl ?_ ?_
  rotate_left
  · go_simp
    rfl
  refine hK.out _ _ ?_
  clear hK K
  refine pure_ (i := 3) (N := some 3) (v := ?_) (a' := ?_) #[true, true, true, true] rfl rfl (by kernel_rfl) (fun _ _ _ h => h) (Or.inl ⟨by rfl, ?_⟩) ?_ ?_
  rotate_left
  · intro w'
    go_simp
    with_reducible rfl
  rotate_left
  · simp only [Act.put, List.setIfInBounds_toArray, List.set_cons_zero, List.set_cons_succ, i64_w, i32_w]
    rfl
  refine done_ (by kernel_rfl) ?_
  go_wp2
  refine bodyPost_ret (v := .tuple #[.agg (volC V0 none none), .iface 82 (.pointer (some ⟨W.heap.size, 0, none⟩))]) ?_ rfl ?_
  · rw [results_cell_tmp rfl]
    go_simp
    rfl
  · refine PvPost.no rfl ?_
    have t : Turns (fun k => k = w.heap.size) W _ := ((((((((Turns.setCell W w.heap.size 0 (.string ⟨#[]⟩)).trans (Turns.setCell _ w.heap.size 1 (.string ⟨#[]⟩)) (fun _ _ e => e)).trans (Turns.setCell _ w.heap.size 2 (.string ⟨#[]⟩)) (fun _ _ e => e)).trans (Turns.setCell _ w.heap.size 3 (.bool false)) (fun _ _ e => e)).trans (Turns.setCell _ w.heap.size 4 (.string ⟨#[]⟩)) (fun _ _ e => e)).trans (Turns.setCell _ w.heap.size 5 (.pointer none)) (fun _ _ e => e)).trans (Turns.setCell _ w.heap.size 6 (.pointer none)) (fun _ _ e => e)).trans (Turns.setCell _ w.heap.size 7 (.pointer none)) (fun _ _ e => e))
    exact ((t.trans (Turns.alloc _ _ _) (fun _ _ e => e)).below HB1.out (fun k hk e => by omega)).drew
end Go.Proofs.YtpkfdifoaijpnaaDoor.Vol
