/- spec.Empty and spec.M of one pair. -/
import Derived.Test.YtaembebbaejfiaaDoorWith
import Derived.Test.YtaembebbaejfiaaDoorMount
namespace Go.Proofs.YtaembebbaejfiaaDoor.Val
open Go.RowKit Go.Proofs.YtaembebbaejfiaaDoorW.PrintWords Go.Proofs.YtaembebbaejfiaaDoorW.PrintLast Go.Proofs.YtaembebbaejfiaaDoor.Str Go.Proofs.YtaembebbaejfiaaDoor.Kit Go.Proofs.YtaembebbaejfiaaDoor.MapV Go.Proofs.YtaembebbaejfiaaDoor.Frame Go.Proofs.YtaembebbaejfiaaDoor.PFnIndexMount Go.Proofs.YtaembebbaejfiaaDoor.Mount
set_option linter.unusedVariables false
set_option linter.unusedSimpArgs false
theorem need_str (v : Value) (w : World) : (Instr.typeAssert (.iface 9 v) 20 9 false).run Tryd.prog w = .ok v w := by kernel_rfl
theorem need_val (v : Value) (w : World) : (Instr.typeAssert (.iface 32 v) 20 32 false).run Tryd.prog w = .ok v w := by kernel_rfl
theorem specEmpty (w : World) : Calls Tryd.prog 31 #[] w fun e w' => e = .returned (.agg #[.int .i64 5, .int .i64 0, .string ⟨#[]⟩, .slice none 0 0, .slice none 0 0]) ∧ Below w.heap.size w w' := by
  have h0 := cb_new w (.cells #[.int .i64 0, .int .i64 0, .string ⟨#[]⟩, .slice none 0 0, .slice none 0 0] 32)
  have HB := Aside0.mk ((Below.refl _ w).alloc (Nat.le_refl _) (.cells #[.int .i64 0, .int .i64 0, .string ⟨#[]⟩, .slice none 0 0, .slice none 0 0] 32))
  go_enter Tryd.func31, Tryd.ntmps31
  go_wp2_with (refine store_val (.tmp 0) (.tmp 1) rfl rfl rfl rfl h0 ?_)
  exact bodyPost_ret (v := .agg #[.int .i64 5, .int .i64 0, .string ⟨#[]⟩, .slice none 0 0, .slice none 0 0]) (val_result rfl rfl (setRow_heap _ _ _ _ _ _ h0)) rfl ⟨rfl, pw_below_grown HB.out (some w.heap.size) HB.out.size (grown_setRow _ w.heap.size _) (fun k hk => by injection hk with hk; have h2 : w.heap.size = k := hk; omega)⟩
set_option maxHeartbeats 3200000 in
set_option maxRecDepth 100000 in
theorem specM1 (key : ByteArray) (x : VS) {b : Nat} {A5 A6 : Option Addr} {c5 c6 : Nat} (w : World) (h : w.heap[b]? = some (.cells #[.iface 9 (.string key), .iface 32 (.agg #[.int .i64 x.f0, .int .i64 x.f1, .string x.f2, .slice A5 x.f3.length c5, .slice A6 x.f4.length c6])] 20 (0, 0)))
    (hx5 : x.f3.length ≤ c5) (hx3 : Kd.string.C w A5 x.f3.length x.f3) (hx6 : x.f4.length ≤ c6) (hx4 : kS.C w A6 x.f4.length x.f4) :
    Calls Tryd.prog 11 #[.slice (some ⟨b, 0, none⟩) 2 2] w fun e w' => ∃ A7 c7 A8 c8, e = .returned (.agg #[.int .i64 5, .int .i64 0, .string ⟨#[]⟩, .slice A7 1 c7, .slice A8 1 c8]) ∧ Kd.string.C w' A7 1 [key] ∧ 1 ≤ c7 ∧ kS.C w' A8 1 [x] ∧ 1 ≤ c8 ∧ Below w.heap.size w w' := by
  have hblt := cb_lt h
  have H := Aside0.mk h
  have HX := Aside0.mk (And.intro hx5 (And.intro hx3 (And.intro hx6 hx4)))
  have HB0 := Aside0.mk ((Below.refl _ w).alloc (Nat.le_refl _) (.cells #[.int .i64 0, .int .i64 0, .string ⟨#[]⟩, .slice none 0 0, .slice none 0 0] 32))
  have HR0 := Aside0.mk (cb_new w (.cells #[.int .i64 0, .int .i64 0, .string ⟨#[]⟩, .slice none 0 0, .slice none 0 0] 32))
  have CE := Aside0.mk (specEmpty (w.alloc (.cells #[.int .i64 0, .int .i64 0, .string ⟨#[]⟩, .slice none 0 0, .slice none 0 0] 32)))
  clear h hx5 hx3 hx6 hx4
  go_enter Tryd.func11, Tryd.ntmps11
  go_wp2_with fail
  refine CE.out.mono ?_
  rintro e w1 ⟨rfl, hb⟩
  have HB1 := Aside0.mk (below_then HB0.out HB0.out.size hb)
  have HR1 := Aside0.mk ((hb.block _ (cb_lt HR0.out)).trans HR0.out)
  have hlt1 := cb_lt HR1.out
  have h3 := cb_new w1 (.cells #[.int .i64 0, .int .i64 0, .string ⟨#[]⟩, .slice none 0 0, .slice none 0 0] 32)
  clear hb CE HB0 HR0
  go_wp2_with (refine store_val (.tmp 3) (.tmp 5) rfl rfl rfl rfl h3 ?_)
  have HB2 := Aside0.mk (pw_below_grown (below_alloc HB1.out (.cells #[.int .i64 0, .int .i64 0, .string ⟨#[]⟩, .slice none 0 0, .slice none 0 0] 32)) (some w1.heap.size) (below_alloc HB1.out _).size (grown_setRow _ w1.heap.size #[.int .i64 5, .int .i64 0, .string ⟨#[]⟩, .slice none 0 0, .slice none 0 0]) (fun k hk => by injection hk with hk; have h2 : w1.heap.size = k := hk; have := HB1.out.size; omega))
  have HG2 := Aside0.mk (setRow_heap _ w1.heap.size _ #[.int .i64 5, .int .i64 0, .string ⟨#[]⟩, .slice none 0 0, .slice none 0 0] _ _ h3)
  have HR2 := Aside0.mk ((setRow_other (w1.alloc (.cells #[.int .i64 0, .int .i64 0, .string ⟨#[]⟩, .slice none 0 0, .slice none 0 0] 32)) w1.heap.size w.heap.size #[.int .i64 5, .int .i64 0, .string ⟨#[]⟩, .slice none 0 0, .slice none 0 0] (by omega)).trans (blk_alloc HR1.out _))
  clear h3 HR1
  generalize (w1.alloc (.cells #[.int .i64 0, .int .i64 0, .string ⟨#[]⟩, .slice none 0 0, .slice none 0 0] 32)).setRow w1.heap.size #[.int .i64 5, .int .i64 0, .string ⟨#[]⟩, .slice none 0 0, .slice none 0 0] = W2 at HB2 HG2 HR2 ⊢
  go_loopw [4] (fun v wr => (v = .int .i64 0 ∧ Aside0 (wr.heap[w1.heap.size]? = some (.cells #[.int .i64 5, .int .i64 0, .string ⟨#[]⟩, .slice none 0 0, .slice none 0 0] 32 (0, 0))) ∧ Aside0 (wr.heap[w.heap.size]? = some (.cells #[.int .i64 0, .int .i64 0, .string ⟨#[]⟩, .slice none 0 0, .slice none 0 0] 32 (0, 0))) ∧ Aside0 (Below w.heap.size w wr)) ∨ (v = .int .i64 2 ∧ ∃ A7 c7 A8 c8, Aside0 (wr.heap[w1.heap.size]? = some (.cells #[.int .i64 5, .int .i64 0, .string ⟨#[]⟩, .slice A7 1 c7, .slice A8 1 c8] 32 (0, 0))) ∧ Aside0 (wr.heap[w.heap.size]? = some (.cells #[.int .i64 0, .int .i64 0, .string ⟨#[]⟩, .slice none 0 0, .slice none 0 0] 32 (0, 0))) ∧ Aside0 (Below w.heap.size w wr) ∧ Aside0 (Kd.string.R 9 wr w1.heap.size (fun k => w1.heap.size < k) (.slice A7 1 c7) [key]) ∧ Aside0 ((Kd.fixed kS w).R 32 wr w1.heap.size (fun k => w1.heap.size < k) (.slice A8 1 c8) [x]))) (fun v _ => 2 - (intOf v).toNat)
  case atStart => exact .inl ⟨rfl, HG2, HR2, HB2⟩
  case round =>
    clear HG2 HR2 HB2
    rcases hrel with ⟨rfl, HG, HR, HBW⟩ | ⟨rfl, A7, c7, A8, c8, HG, HR, HBW, HC1, HC2⟩
    · have hb := (HBW.out.block b hblt).trans H.out
      have m0 : wr.cell? ⟨b, 0, none⟩ = some (.iface 9 (.string key)) := cb_cell (i := 0) hb rfl
      have m1 : wr.cell? ⟨b, 1, none⟩ = some (.iface 32 (.agg #[.int .i64 x.f0, .int .i64 x.f1, .string x.f2, .slice A5 x.f3.length c5, .slice A6 x.f4.length c6])) := cb_cell (i := 1) hb rfl
      clear hb
      have e0 : wr.cell? ⟨w1.heap.size, 0, none⟩ = some (.int .i64 5) := cb_cell (i := 0) HG.out rfl
      have e1 : wr.cell? ⟨w1.heap.size, 1, none⟩ = some (.int .i64 0) := cb_cell (i := 1) HG.out rfl
      have e2 : wr.cell? ⟨w1.heap.size, 2, none⟩ = some (.string ⟨#[]⟩) := cb_cell (i := 2) HG.out rfl
      have e3 : wr.cell? ⟨w1.heap.size, 3, none⟩ = some (.slice none 0 0) := cb_cell (i := 3) HG.out rfl
      have e4 : wr.cell? ⟨w1.heap.size, 4, none⟩ = some (.slice none 0 0) := cb_cell (i := 4) HG.out rfl
      have hw1 : wrap64 1 = 1 := by kernel_rfl
      have ns := fun v => need_str v
      have nv := fun v => need_val v
      have CW := Aside0.mk (show Calls Tryd.prog 32 #[.agg #[.int .i64 5, .int .i64 0, .string ⟨#[]⟩, .slice none 0 0, .slice none 0 0], .string key, .agg #[.int .i64 x.f0, .int .i64 x.f1, .string x.f2, .slice A5 x.f3.length c5, .slice A6 x.f4.length c6]] wr.drew fun e w' => ∃ A7 c7 A8 c8, e = .returned (.agg #[.int .i64 5, .int .i64 0, .string ⟨#[]⟩, .slice A7 1 c7, .slice A8 1 c8]) ∧ Kd.string.R 9 w' wr.drew.heap.size (fun _ => True) (.slice A7 1 c7) [key] ∧ (Kd.fixed kS w).R 32 w' wr.drew.heap.size (fun _ => True) (.slice A8 1 c8) [x] ∧ Below wr.drew.heap.size wr.drew w' from
        WithFirst w (A3 := none) (A4 := none) (c3 := 0) (c4 := 0) 5 0 ⟨#[]⟩ [] [] key x wr.drew ⟨rfl, Nat.zero_le _, fun h => absurd h (Nat.lt_irrefl 0)⟩ ⟨rfl, Nat.zero_le _, fun h => absurd h (Nat.lt_irrefl 0)⟩ HX.out.1 HX.out.2.1 HX.out.2.2.1 HX.out.2.2.2 (Nat.zero_le _) (Nat.zero_le _) rfl rfl)
      go_wp2_with fail
      refine start_ (n := 14) (S := fun w' => w'.cell? ⟨w1.heap.size, 0, none⟩ = some (.int .i64 5) ∧ w'.cell? ⟨w1.heap.size, 1, none⟩ = some (.int .i64 0) ∧ w'.cell? ⟨w1.heap.size, 2, none⟩ = some (.string ⟨#[]⟩) ∧ w'.cell? ⟨w1.heap.size, 3, none⟩ = some (.slice none 0 0) ∧ w'.cell? ⟨w1.heap.size, 4, none⟩ = some (.slice none 0 0) ∧ w'.cell? ⟨b, 0, none⟩ = some (.iface 9 (.string key)) ∧ w'.cell? ⟨b, 1, none⟩ = some (.iface 32 (.agg #[.int .i64 x.f0, .int .i64 x.f1, .string x.f2, .slice A5 x.f3.length c5, .slice A6 x.f4.length c6]))) (ds := [12, 13]) #[false, false, false, false, false, false, false, false, false, false, false, false, false, false] (by kernel_rfl) rfl rfl ⟨e0, e1, e2, e3, e4, m0, m1⟩ (fun hHeld => ?_)
      refine pure_ (i := 1) (N := some 14) (v := ?_) (a' := ?_) #[false, true, false, false, false, false, false, false, false, false, false, false, false, false] rfl rfl (by kernel_rfl) (fun _ _ _ h => h) (Or.inl ⟨by rfl, ?_⟩) ?_ ?_
      rotate_left
      · intro w'
        go_simp
        with_reducible rfl
      rotate_left
      · simp only [Act.put, List.setIfInBounds_toArray, List.set_cons_zero, List.set_cons_succ, i64_w, i32_w]
        rfl
      refine pure_ (i := 2) (N := some 15) (v := ?_) (a' := ?_) #[false, true, true, false, false, false, false, false, false, false, false, false, false, false] rfl rfl (by kernel_rfl) (fun _ _ _ h => h) (Or.inl ⟨by rfl, ?_⟩) ?_ ?_
      rotate_left
      · intro w'
        go_simp
        with_reducible rfl
      rotate_left
      · simp only [Act.put, List.setIfInBounds_toArray, List.set_cons_zero, List.set_cons_succ, i64_w, i32_w]
        rfl
      refine pure_ (i := 3) (N := some 16) (v := ?_) (a' := ?_) #[false, true, true, true, false, false, false, false, false, false, false, false, false, false] rfl rfl (by kernel_rfl) (fun _ _ _ h => h) (Or.inl ⟨by rfl, ?_⟩) ?_ ?_
      rotate_left
      · intro w'
        go_simp
        with_reducible rfl
      rotate_left
      · simp only [Act.put, List.setIfInBounds_toArray, List.set_cons_zero, List.set_cons_succ, i64_w, i32_w]
        rfl
      refine pure_ (i := 6) (N := some 19) (v := ?_) (a' := ?_) #[false, true, true, true, false, false, true, false, false, false, false, false, false, false] rfl rfl (by kernel_rfl) (fun _ _ _ h => h) (Or.inl ⟨by rfl, ?_⟩) ?_ ?_
      rotate_left
      · intro w'
        go_simp
        with_reducible rfl
      rotate_left
      · simp only [Act.put, List.setIfInBounds_toArray, List.set_cons_zero, List.set_cons_succ, i64_w, i32_w]
        rfl
      refine pure_ (i := 7) (N := some 20) (v := ?_) (a' := ?_) #[false, true, true, true, false, false, true, true, false, false, false, false, false, false] rfl rfl (by kernel_rfl) (fun _ _ _ h => h) (Or.inl ⟨by rfl, ?_⟩) ?_ ?_
      rotate_left
      · intro w'
        go_simp
        with_reducible rfl
      rotate_left
      · simp only [Act.put, List.setIfInBounds_toArray, List.set_cons_zero, List.set_cons_succ, i64_w, i32_w]
        rfl
      refine pure_ (i := 8) (N := some 21) (v := ?_) (a' := ?_) #[false, true, true, true, false, false, true, true, true, false, false, false, false, false] rfl rfl (by kernel_rfl) (fun _ _ _ h => h) (Or.inl ⟨by rfl, ?_⟩) ?_ ?_
      rotate_left
      · intro w'
        go_simp
        with_reducible rfl
      rotate_left
      · simp only [Act.put, List.setIfInBounds_toArray, List.set_cons_zero, List.set_cons_succ, i64_w, i32_w]
        rfl
      refine pure_ (i := 9) (N := some 22) (v := ?_) (a' := ?_) #[false, true, true, true, false, false, true, true, true, true, false, false, false, false] rfl rfl (by kernel_rfl) (fun _ _ _ h => h) (Or.inl ⟨by rfl, ?_⟩) ?_ ?_
      rotate_left
      · intro w'
        go_simp
        with_reducible rfl
      rotate_left
      · simp only [Act.put, List.setIfInBounds_toArray, List.set_cons_zero, List.set_cons_succ, i64_w, i32_w]
        rfl
      refine take_ (i := 0) (N := some 13) (v := ?_) (a' := ?_) #[true, true, true, true, false, false, true, true, true, true, false, false, false, false] rfl rfl (by kernel_rfl) (fun _ _ _ h => h) (Or.inl ⟨by rfl, ?_⟩) hHeld ?_ ?_
      rotate_left
      · rintro w' ⟨s0, s1, s2, s3, s4, s5, s6⟩
        go_simp
        with_reducible rfl
      rotate_left
      · simp only [Act.put, List.setIfInBounds_toArray, List.set_cons_zero, List.set_cons_succ, i64_w, i32_w]
        rfl
      refine take_ (i := 4) (N := some 17) (v := ?_) (a' := ?_) #[true, true, true, true, true, false, true, true, true, true, false, false, false, false] rfl rfl (by kernel_rfl) (fun _ _ _ h => h) (Or.inl ⟨by rfl, ?_⟩) hHeld ?_ ?_
      rotate_left
      · rintro w' ⟨s0, s1, s2, s3, s4, s5, s6⟩
        go_simp
        with_reducible rfl
      rotate_left
      · simp only [Act.put, List.setIfInBounds_toArray, List.set_cons_zero, List.set_cons_succ, i64_w, i32_w]
        rfl
      refine pure_ (i := 5) (N := some 18) (v := ?_) (a' := ?_) #[true, true, true, true, true, true, true, true, true, true, false, false, false, false] rfl rfl (by kernel_rfl) (fun _ _ _ h => h) (Or.inl ⟨by rfl, ?_⟩) ?_ ?_
      rotate_left
      · intro w'
        go_simp
        with_reducible rfl
      rotate_left
      · simp only [Act.put, List.setIfInBounds_toArray, List.set_cons_zero, List.set_cons_succ, i64_w, i32_w]
        rfl
      refine take_ (i := 10) (N := some 23) (v := ?_) (a' := ?_) #[true, true, true, true, true, true, true, true, true, true, true, false, false, false] rfl rfl (by kernel_rfl) (fun _ _ _ h => h) (Or.inl ⟨by rfl, ?_⟩) hHeld ?_ ?_
      rotate_left
      · rintro w' ⟨s0, s1, s2, s3, s4, s5, s6⟩
        go_simp
        with_reducible rfl
      rotate_left
      · simp only [Act.put, List.setIfInBounds_toArray, List.set_cons_zero, List.set_cons_succ, i64_w, i32_w]
        rfl
      refine pure_ (i := 11) (N := some 24) (v := ?_) (a' := ?_) #[true, true, true, true, true, true, true, true, true, true, true, true, false, false] rfl rfl (by kernel_rfl) (fun _ _ _ h => h) (Or.inl ⟨by rfl, ?_⟩) ?_ ?_
      rotate_left
      · intro w'
        go_simp
        with_reducible rfl
      rotate_left
      · simp only [Act.put, List.setIfInBounds_toArray, List.set_cons_zero, List.set_cons_succ, i64_w, i32_w]
        rfl
      refine last_ (i := 12) (N := some 25) #[true, true, true, true, true, true, true, true, true, true, true, true, true, false] rfl rfl (by kernel_rfl) (by decide) (fun K hK => ?_)
      refine goes_ Tryd.func32 (by kernel_rfl) rfl #[.agg #[.int .i64 5, .int .i64 0, .string ⟨#[]⟩, .slice none 0 0, .slice none 0 0], .string key, .agg #[.int .i64 x.f0, .int .i64 x.f1, .string x.f2, .slice A5 x.f3.length c5, .slice A6 x.f4.length c6]] (by rfl) rfl rfl (by simp only [List.map_toArray, List.map_cons, List.map_nil]; rfl) ?_
      with_reducible refine (CW.out).mono ?_
      rintro e w4 ⟨A7, c7, A8, c8, rfl, k1, k2, hb⟩
      refine ⟨_, rfl, ?_⟩
      refine hK.out _ _ ?_
      clear hK K
      refine norm_ (a' := ?_) ?_ ?_
      rotate_left
      · show Act.put _ (some 25) _ = _
        simp only [Act.put, List.setIfInBounds_toArray, List.set_cons_zero, List.set_cons_succ, i64_w, i32_w]
        rfl
      refine last_ (i := 13) (N := none) #[true, true, true, true, true, true, true, true, true, true, true, true, true, true] rfl rfl (by kernel_rfl) (by decide) (fun K hK => ?_)
      have HB4 := Aside0.mk (hb_then (below_drew HBW.out) hb)
      have HG4 := Aside0.mk ((hb.block _ (cb_lt (show wr.drew.heap[w1.heap.size]? = _ from HG.out))).trans HG.out)
      have HR4 := Aside0.mk ((hb.block _ (cb_lt (show wr.drew.heap[w.heap.size]? = _ from HR.out))).trans HR.out)
      refine store_row_step (w := w4) rfl rfl 32 (.tmp 3) (.tmp 25) rfl w1.heap.size #[.int .i64 5, .int .i64 0, .string ⟨#[]⟩, .slice A7 1 c7, .slice A8 1 c8] rfl rfl 32 _ HG4.out val_size rfl (val_one _ _ _ _ _ _ _ _ _) ?_
      refine hK.out _ _ ?_
      clear hK K
      refine done_ (by kernel_rfl) ?_
      have hlw : w1.heap.size < wr.drew.heap.size := cb_lt HG.out
      have hg := grown_setRow w4 w1.heap.size #[.int .i64 5, .int .i64 0, .string ⟨#[]⟩, .slice A7 1 c7, .slice A8 1 c8]
      have HG5 := Aside0.mk (setRow_heap w4 w1.heap.size _ #[.int .i64 5, .int .i64 0, .string ⟨#[]⟩, .slice A7 1 c7, .slice A8 1 c8] _ _ HG4.out)
      have HR5 := Aside0.mk ((setRow_other w4 w1.heap.size w.heap.size #[.int .i64 5, .int .i64 0, .string ⟨#[]⟩, .slice A7 1 c7, .slice A8 1 c8] (by omega)).trans HR4.out)
      have HB5 := Aside0.mk (pw_below_grown HB4.out (some w1.heap.size) HB4.out.size hg (fun k hk => by injection hk with hk; have h2 : w1.heap.size = k := hk; omega))
      have HC15 := Aside0.mk (Kd.R_grown (Kd.R_lower (Kd.R_mono (Kd.R_bound k1) (ok' := fun k => w1.heap.size < k) (fun k h => Nat.lt_of_lt_of_le hlw h.2.1)) (Nat.le_of_lt hlw)) hg (fun k hk e => by injection e with e; omega))
      have HC25 := Aside0.mk (Kd.R_grown (Kd.R_lower (Kd.R_mono (Kd.R_bound k2) (ok' := fun k => w1.heap.size < k) (fun k h => Nat.lt_of_lt_of_le hlw h.2.1)) (Nat.le_of_lt hlw)) hg (fun k hk e => by injection e with e; omega))
      clear hg k1 k2 HG4 HR4 HB4 hHeld
      generalize w4.setRow w1.heap.size #[.int .i64 5, .int .i64 0, .string ⟨#[]⟩, .slice A7 1 c7, .slice A8 1 c8] = w5 at HG5 HR5 HB5 HC15 HC25 ⊢
      go_wp2
      go_roundw
      case rel => exact .inr ⟨rfl, A7, c7, A8, c8, HG5, HR5, HB5, HC15, HC25⟩
      case measure => simp [intOf]
    · go_wp2_with (first | refine load_val (.tmp 3) rfl rfl rfl HG.out ?_ | refine store_val (.tmp 2) (.tmp 26) rfl rfl rfl rfl HR.out ?_)
      have hg := grown_setRow wr w.heap.size #[.int .i64 5, .int .i64 0, .string ⟨#[]⟩, .slice A7 1 c7, .slice A8 1 c8]
      have h5 := setRow_heap wr w.heap.size _ #[.int .i64 5, .int .i64 0, .string ⟨#[]⟩, .slice A7 1 c7, .slice A8 1 c8] _ _ HR.out
      have hB := pw_below_grown HBW.out (some w.heap.size) HBW.out.size hg (fun k hk => by injection hk with hk; have h2 : w.heap.size = k := hk; omega)
      obtain ⟨_, k1, k2⟩ := Kd.R_reads' (Kd.R_grown HC1.out hg (fun k hk e => by injection e with e; omega))
      obtain ⟨_, k3, k4⟩ := Kd.R_reads' (Kd.R_grown HC2.out hg (fun k hk e => by injection e with e; omega))
      exact bodyPost_ret (v := .agg #[.int .i64 5, .int .i64 0, .string ⟨#[]⟩, .slice A7 1 c7, .slice A8 1 c8]) (val_result rfl rfl h5) rfl ⟨A7, c7, A8, c8, rfl, k2, k1, ReadsRow.imp_ k4 (Below.refl _ _) (fun _ _ hp => kS.K_below hB hp), k3, hB⟩
end Go.Proofs.YtaembebbaejfiaaDoor.Val
