/- pairs taken over from the thin package; two rows of pairs compared. -/
import Derived.Test.YtididniafloogaaGreatDoorTold
import Derived.Test.YtididniafloogaaGreatDoorWLast
import Derived.Test.YtididniafloogaaGreatDoorWEqStruct
namespace Go.Proofs.YtididniafloogaaGreatDoor.Maps
open Go.RowKit Go.Proofs.YtididniafloogaaGreatDoorW.PrintWords Go.Proofs.YtididniafloogaaGreatDoorW.PrintLast Go.Proofs.YtididniafloogaaGreatDoor.Str Go.Proofs.YtididniafloogaaGreatDoor.Kit Go.Proofs.YtididniafloogaaGreatDoor.Flat Go.Proofs.YtididniafloogaaGreatDoor.MapV Go.Proofs.YtididniafloogaaGreatDoor.Frame
set_option linter.unusedVariables false
set_option linter.unusedSimpArgs false

theorem info_spair : (Tryz.prog.info? 65).map (fun i => (i.zero, i.size, i.bytes)) = some (some (.agg #[.string ⟨#[]⟩, .string ⟨#[]⟩]), 2, 32) := by kernel_rfl
theorem kp_open {w : World} {A : Option Addr} {xs : List (BA × BA)} (h : kp.C w A xs.length xs) (h0 : 0 < xs.length) :
    ∃ bk off, A = some ⟨bk, off, none⟩ ∧ bk < w.heap.size ∧ ∀ (j : Nat) (hj : j < xs.length), w.cell? ⟨bk, off + j * 2, none⟩ = some (.string xs[j].1) ∧ w.cell? ⟨bk, off + j * 2 + 1, none⟩ = some (.string xs[j].2) := by
  obtain ⟨bk, off, rfl, hb, hc⟩ := flat_open h h0 (by decide)
  refine ⟨bk, off, rfl, hb, fun j hj => ⟨hc j hj 0 _ rfl, ?_⟩⟩
  have := hc j hj 1 _ rfl
  rw [← Nat.add_assoc] at this
  exact this
theorem cell_grown {w w' : World} {row : Option Nat} {p : Addr} {x : Value} (hg : w.grownBy w' row) (hc : w.cell? p = some x) (hn : some p.block ≠ row) : w'.cell? p = some x := by
  have hb := hg.block p.block (World.block_lt_of_cell? w p hc) hn
  unfold World.cell? at hc ⊢
  rw [hb]
  exact hc
section
variable {ops : Array Oper} {o : Oper} {a : Act} {Q : Exit → Act → World → Prop} {Kc : Act → World → Prop}
theorem append_pair_step {w0 W : World} {ok : Nat → Prop} (hw : Region.wanted o (yielded ops a.tmps) = true) (hfresh : ∀ k, W.heap.size ≤ k → ok k) (t e : TypeId) (ht : Tryz.prog.underlying t = some (.slice e)) (hinfo : (Tryz.prog.info? e).map (fun i => (i.zero, i.size, i.bytes)) = some (some (.agg #[.string ⟨#[]⟩, .string ⟨#[]⟩]), 2, 32)) (s x : Operand) (ho : o.op = .call { callee := .builtin .append, args := #[s, x], argTypes := #[t, t] })
    {v : Value} {xs : List (BA × BA)} {p q : BA} (hs : a.eval s = v) (hx : a.eval x = .slice (some ⟨W.heap.size, 0, none⟩) 1 1)
    (HO : kp.R e W w0.heap.size ok v xs) (HB : Below w0.heap.size w0 W) (hl : xs.length < 4398046511103)
    (h : ∀ v1 w1, kp.R e w1 w0.heap.size ok v1 (xs ++ [(p, q)]) → Below w0.heap.size w0 w1 → W.grownBy w1 v.ownBlock → Kc (a.put o.dst v1) w1) :
    if Region.wanted o (yielded ops a.tmps) = true then Oper.wp Tryz.prog o a (W.alloc (.cells #[.string p, .string q] e)) Kc Q else Kc (a.put o.dst undef) (W.alloc (.cells #[.string p, .string q] e)) :=
  Kd.R_append_step kp w0.heap.size hw s x t e (.agg #[.string ⟨#[]⟩, .string ⟨#[]⟩]) 32 ho ht hinfo rfl (show 0 < 2 by decide) (by decide) v xs (p, q) (encP (p, q)) ok (fun _ => False) hs hx rfl (fun _ hk => hk.elim) hfresh HO HB HB.size (by omega)
    (fun v1 w1 h2 h3 h4 _ => h v1 w1 h2 h3 h4)
end
set_option maxHeartbeats 1600000 in
set_option maxRecDepth 100000 in
theorem pairsFrom {A : Option Addr} {c : Nat} (l : List (BA × BA)) (w : World) (h : kp.C w A l.length l) (hn : l.length ≤ 17179869184) :
    Calls Tryz.prog 13 #[.slice A l.length c] w fun e w' => ∃ v, e = .returned v ∧ kp.R 65 w' w.heap.size (fun _ => True) v l ∧ Below w.heap.size w w' := by
  have H := Aside0.mk h
  have HB0 := Aside0.mk (Below.refl w.heap.size w)
  clear h
  go_enter Tryz.func13, Tryz.ntmps13
  go_wp2
  go_loopw [3, 4] (fun v3 v4 wr => ∃ i : Nat, v4 = .int .i64 i ∧ i ≤ l.length ∧ Aside0 (kp.R 65 wr w.heap.size (fun _ => True) v3 (l.take i)) ∧ Aside0 (Below w.heap.size w wr)) (fun _ v4 _ => l.length - (intOf v4).toNat)
  case atStart => exact ⟨0, rfl, by omega, ⟨Kd.R_nil _ _ _ _ _⟩, HB0⟩
  case round =>
    clear HB0
    obtain ⟨i, rfl, hi, HO, HB⟩ := hrel
    by_cases hlt : i < l.length
    · obtain ⟨b0, o0, rfl, hb0, hc0⟩ := kp_open H.out (by omega)
      obtain ⟨g0, g1⟩ := hc0 i hlt
      replace g0 := pw_cell_below HB.out g0
      replace g1 := pw_cell_below HB.out g1
      have q0 : (0 : Int) ≤ (i : Int) := by omega
      have q1 : (i : Int) < (l.length : Int) := by omega
      have HT := Aside0.mk (show l.take (i + 1) = l.take i ++ [(l[i].1, l[i].2)] by rw [List.take_succ_eq_append_getElem hlt])
      have hln : (l.take i).length < 4398046511103 := by rw [List.length_take]; omega
      generalize l[i].1 = p at g0 HT
      generalize l[i].2 = q at g1 HT
      obtain ⟨A3, c3, rfl⟩ := Kd.R_slice HO.out
      have hmin : (l.take i).length = i := by rw [List.length_take]; omega
      rw [hmin] at HO ⊢
      clear hmin
      have hne : some b0 ≠ (Value.slice A3 i c3).ownBlock := fun e => by have := Kd.R_base HO.out b0 e.symm; omega
      clear hc0
      go_wp2_with fail
      refine start_ (n := 15) (S := fun w' => w'.cell? ⟨b0, o0 + i * 2, none⟩ = some (.string p) ∧ w'.cell? ⟨b0, o0 + i * 2 + 1, none⟩ = some (.string q)) (ds := []) #[false, false, false, false, false, false, false, false, false, false, false, false, false, false, false] (by kernel_rfl) rfl rfl ⟨g0, g1⟩ (fun hHeld => ?_)
      refine pure_ (i := 0) (N := some 11) (v := ?_) (a' := ?_) #[true, false, false, false, false, false, false, false, false, false, false, false, false, false, false] rfl rfl (by kernel_rfl) (fun _ _ _ h => h) (Or.inl ⟨by rfl, ?_⟩) ?_ ?_
      rotate_left
      · intro w'
        go_simp
        with_reducible rfl
      rotate_left
      · simp only [Act.put, List.setIfInBounds_toArray, List.set_cons_zero, List.set_cons_succ, i64_w, i32_w]
        rfl
      refine pure_ (i := 1) (N := some 12) (v := ?_) (a' := ?_) #[true, true, false, false, false, false, false, false, false, false, false, false, false, false, false] rfl rfl (by kernel_rfl) (fun _ _ _ h => h) (Or.inl ⟨by rfl, ?_⟩) ?_ ?_
      rotate_left
      · intro w'
        go_simp
        with_reducible rfl
      rotate_left
      · simp only [Act.put, List.setIfInBounds_toArray, List.set_cons_zero, List.set_cons_succ, i64_w, i32_w]
        rfl
      refine pure_ (i := 2) (N := some 13) (v := ?_) (a' := ?_) #[true, true, true, false, false, false, false, false, false, false, false, false, false, false, false] rfl rfl (by kernel_rfl) (fun _ _ _ h => h) (Or.inl ⟨by rfl, ?_⟩) ?_ ?_
      rotate_left
      · intro w'
        go_simp
        with_reducible rfl
      rotate_left
      · simp only [Act.put, List.setIfInBounds_toArray, List.set_cons_zero, List.set_cons_succ, i64_w, i32_w]
        rfl
      refine pure_ (i := 3) (N := some 14) (v := ?_) (a' := ?_) #[true, true, true, true, false, false, false, false, false, false, false, false, false, false, false] rfl rfl (by kernel_rfl) (fun _ _ _ h => h) (Or.inl ⟨by rfl, ?_⟩) ?_ ?_
      rotate_left
      · intro w'
        go_simp
        with_reducible rfl
      rotate_left
      · simp only [Act.put, List.setIfInBounds_toArray, List.set_cons_zero, List.set_cons_succ, i64_w, i32_w]
        rfl
      refine pure_ (i := 4) (N := some 15) (v := ?_) (a' := ?_) #[true, true, true, true, true, false, false, false, false, false, false, false, false, false, false] rfl rfl (by kernel_rfl) (fun _ _ _ h => h) (Or.inl ⟨by rfl, ?_⟩) ?_ ?_
      rotate_left
      · intro w'
        go_simp
        with_reducible rfl
      rotate_left
      · simp only [Act.put, List.setIfInBounds_toArray, List.set_cons_zero, List.set_cons_succ, i64_w, i32_w]
        rfl
      refine pure_ (i := 6) (N := some 17) (v := ?_) (a' := ?_) #[true, true, true, true, true, false, true, false, false, false, false, false, false, false, false] rfl rfl (by kernel_rfl) (fun _ _ _ h => h) (Or.inl ⟨by rfl, ?_⟩) ?_ ?_
      rotate_left
      · intro w'
        go_simp
        with_reducible rfl
      rotate_left
      · simp only [Act.put, List.setIfInBounds_toArray, List.set_cons_zero, List.set_cons_succ, i64_w, i32_w]
        rfl
      refine pure_ (i := 7) (N := some 18) (v := ?_) (a' := ?_) #[true, true, true, true, true, false, true, true, false, false, false, false, false, false, false] rfl rfl (by kernel_rfl) (fun _ _ _ h => h) (Or.inl ⟨by rfl, ?_⟩) ?_ ?_
      rotate_left
      · intro w'
        go_simp
        with_reducible rfl
      rotate_left
      · simp only [Act.put, List.setIfInBounds_toArray, List.set_cons_zero, List.set_cons_succ, i64_w, i32_w]
        rfl
      refine pure_ (i := 8) (N := some 19) (v := ?_) (a' := ?_) #[true, true, true, true, true, false, true, true, true, false, false, false, false, false, false] rfl rfl (by kernel_rfl) (fun _ _ _ h => h) (Or.inl ⟨by rfl, ?_⟩) ?_ ?_
      rotate_left
      · intro w'
        go_simp
        with_reducible rfl
      rotate_left
      · simp only [Act.put, List.setIfInBounds_toArray, List.set_cons_zero, List.set_cons_succ, i64_w, i32_w]
        rfl
      refine pure_ (i := 9) (N := some 20) (v := ?_) (a' := ?_) #[true, true, true, true, true, false, true, true, true, true, false, false, false, false, false] rfl rfl (by kernel_rfl) (fun _ _ _ h => h) (Or.inl ⟨by rfl, ?_⟩) ?_ ?_
      rotate_left
      · intro w'
        go_simp
        with_reducible rfl
      rotate_left
      · simp only [Act.put, List.setIfInBounds_toArray, List.set_cons_zero, List.set_cons_succ, i64_w, i32_w]
        rfl
      refine take_ (i := 5) (N := some 16) (v := ?_) (a' := ?_) #[true, true, true, true, true, true, true, true, true, true, false, false, false, false, false] rfl rfl (by kernel_rfl) (fun _ _ _ h => h) (Or.inl ⟨by rfl, ?_⟩) hHeld ?_ ?_
      rotate_left
      · rintro w' ⟨s0, s1⟩
        go_simp
        with_reducible rfl
      rotate_left
      · simp only [Act.put, List.setIfInBounds_toArray, List.set_cons_zero, List.set_cons_succ, i64_w, i32_w]
        rfl
      refine take_ (i := 10) (N := some 21) (v := ?_) (a' := ?_) #[true, true, true, true, true, true, true, true, true, true, true, false, false, false, false] rfl rfl (by kernel_rfl) (fun _ _ _ h => h) (Or.inl ⟨by rfl, ?_⟩) hHeld ?_ ?_
      rotate_left
      · rintro w' ⟨s0, s1⟩
        go_simp
        with_reducible rfl
      rotate_left
      · simp only [Act.put, List.setIfInBounds_toArray, List.set_cons_zero, List.set_cons_succ, i64_w, i32_w]
        rfl
      refine pure_ (i := 11) (N := some 22) (v := ?_) (a' := ?_) #[true, true, true, true, true, true, true, true, true, true, true, true, false, false, false] rfl rfl (by kernel_rfl) (fun _ _ _ h => h) (Or.inl ⟨by rfl, ?_⟩) ?_ ?_
      rotate_left
      · intro w'
        go_simp
        with_reducible rfl
      rotate_left
      · simp only [Act.put, List.setIfInBounds_toArray, List.set_cons_zero, List.set_cons_succ, i64_w, i32_w]
        rfl
      refine one_ (i := 12) (N := some 23) #[true, true, true, true, true, true, true, true, true, true, true, true, true, false, false] rfl rfl (by kernel_rfl) (by decide) (fun K hK => ?_)
      refine value_ (w1 := ?_) (v := ?_) (by rfl) rfl ?_ ?_
      rotate_left 2
      · go_simp
        constructor
        · rfl
        · rfl
      refine hK.out _ _ ⟨pw_cell_below (below_alloc (Below.refl _ _) _) hHeld.1, pw_cell_below (below_alloc (Below.refl _ _) _) hHeld.2⟩ (fun hHeld => ?_)
      clear hK K
      refine norm_ (a' := ?_) ?_ ?_
      rotate_left
      · show Act.put _ (some 23) _ = _
        simp only [Act.put, List.setIfInBounds_toArray, List.set_cons_zero, List.set_cons_succ, i64_w, i32_w]
        rfl
      refine one_ (i := 13) (N := some 24) #[true, true, true, true, true, true, true, true, true, true, true, true, true, true, false] rfl rfl (by kernel_rfl) (by decide) (fun K hK => ?_)
      have hh0 := hHeld.1
      have hh1 := hHeld.2
      refine append_pair_step (w0 := w) (ok := fun _ => True) rfl (fun _ _ => trivial) 25 65 Tryz.underlying25 info_spair (.tmp 11) (.tmp 23) rfl rfl rfl (Kd.R_drew HO.out) (below_drew HB.out) hln ?_
      intro v1 w5 ho hb hg
      have HO5 := Aside0.mk ho
      have HB5 := Aside0.mk hb
      have k0 := cell_grown hg (show wr.drew.cell? _ = _ from g0) hne
      have k1 := cell_grown hg (show wr.drew.cell? _ = _ from g1) hne
      clear ho hb hg
      refine hK.out _ _ ⟨k0, k1⟩ (fun hHeld => ?_)
      clear hK K
      refine norm_ (a' := ?_) ?_ ?_
      rotate_left
      · show Act.put _ (some 24) _ = _
        simp only [Act.put, List.setIfInBounds_toArray, List.set_cons_zero, List.set_cons_succ, i64_w, i32_w]
        rfl
      refine pure_ (i := 14) (N := some 3) (v := ?_) (a' := ?_) #[true, true, true, true, true, true, true, true, true, true, true, true, true, true, true] rfl rfl (by kernel_rfl) (fun _ _ _ h => h) (Or.inl ⟨by rfl, ?_⟩) ?_ ?_
      rotate_left
      · intro w'
        go_simp
        with_reducible rfl
      rotate_left
      · simp only [Act.put, List.setIfInBounds_toArray, List.set_cons_zero, List.set_cons_succ, i64_w, i32_w]
        rfl
      refine done_ (by kernel_rfl) ?_
      go_wp2
      go_roundw
      case rel => exact ⟨i + 1, by go_num, by omega, ⟨by rw [HT.out]; exact HO5.out⟩, HB5⟩
      case measure => simp [intOf]; omega
    · have hall := HO.out
      rw [List.take_of_length_le (by omega)] at hall
      have HALL := Aside0.mk hall
      clear hall HO
      go_wp2
      go_ret
      exact ⟨_, rfl, HALL.out, HB.out⟩
theorem eq_spair (d : Nat) (x0 x1 y0 y1 : ByteArray) (w : World) :
    (Op.equalIn (d + 2) 65 (.agg #[.string x0, .string x1]) (.agg #[.string y0, .string y1])).run Tryz.prog w = .ok (x0.toList == y0.toList && (x1.toList == y1.toList)) w := by
  refine eqA_of Tryz.underlying65 (by kernel_rfl) ?_
  refine eqf_cons (by rfl) (by go_simp; rfl) (by go_simp; rfl) (by go_simp) ?_
  exact eqf_last (by rfl) (by go_simp; rfl) (by go_simp; rfl) (by go_simp)
attribute [local go_sem high] eq_spair
set_option maxHeartbeats 1600000 in
set_option maxRecDepth 100000 in
theorem samePairs {A B : Option Addr} {c d : Nat} (l m : List (BA × BA)) (w : World) (h : kp.C w A l.length l) (k : kp.C w B m.length m) (hn : l.length ≤ 17179869184) :
    Calls Tryz.prog 12 #[.slice A l.length c, .slice B m.length d] w fun e w' => e = .returned (.bool (decide (l = m))) ∧ Below w.heap.size w w' := by
  have H := Aside0.mk h
  have K := Aside0.mk k
  have HB0 := Aside0.mk (Below.refl w.heap.size w)
  clear h k
  by_cases hlm : l.length = m.length
  · have hne : ((l.length : Int) != (m.length : Int)) = false := by rw [hlm]; simp
    have HLM := Aside0.mk hlm
    clear hlm
    go_enter Tryz.func12, Tryz.ntmps12
    go_wp2
    go_loopw [5] (fun v5 wr => ∃ i : Nat, v5 = .int .i64 i ∧ i ≤ l.length ∧ Aside0 (l.take i = m.take i) ∧ Aside0 (Below w.heap.size w wr)) (fun v5 _ => l.length - (intOf v5).toNat)
    case atStart => exact ⟨0, rfl, by omega, ⟨rfl⟩, HB0⟩
    case round =>
      clear HB0
      obtain ⟨i, rfl, hi, HT, HB⟩ := hrel
      by_cases hlt : i < l.length
      · have hlm' : i < m.length := by have := HLM.out; omega
        obtain ⟨b0, o0, rfl, hb0, hc0⟩ := kp_open H.out (by omega)
        obtain ⟨b1, o1, rfl, hb1, hc1⟩ := kp_open K.out (by omega)
        obtain ⟨g0, g1⟩ := hc0 i hlt
        obtain ⟨k0, k1⟩ := hc1 i hlm'
        replace g0 := pw_cell_below HB.out g0
        replace g1 := pw_cell_below HB.out g1
        replace k0 := pw_cell_below HB.out k0
        replace k1 := pw_cell_below HB.out k1
        have q0 : (0 : Int) ≤ (i : Int) := by omega
        have q1 : (i : Int) < (l.length : Int) := by omega
        have q2 : (i : Int) < (m.length : Int) := by omega
        have HE := Aside0.mk (show l[i] = m[i] → l.take (i + 1) = m.take (i + 1) from fun e => by
          rw [List.take_succ_eq_append_getElem hlt, List.take_succ_eq_append_getElem hlm', HT.out, e])
        have HN := Aside0.mk (show ¬ l[i] = m[i] → decide (l = m) = false from fun e => decide_eq_false (fun h => e (by subst h; rfl)))
        have HX := Aside0.mk (show l[i] = m[i] ↔ (l[i].1 = m[i].1 ∧ l[i].2 = m[i].2) from Prod.ext_iff)
        generalize l[i] = x at g0 g1 HE HN HX
        generalize m[i] = y at k0 k1 HE HN HX
        obtain ⟨x1, x2⟩ := x
        obtain ⟨y1, y2⟩ := y
        clear hc0 hc1
        go_wp2_with fail
        go_quiet (fail)
        have HD := Aside0.mk (pw_below_drewN HB.out nq)
        cases h1 : (x1.toList == y1.toList)
        · have Y := Aside0.mk (HN.out (fun e => by
            have e1 : x1 = y1 := (HX.out.1 e).1
            rw [e1, beq_self_eq_true] at h1
            cases h1))
          clear HX HE HN
          simp only [Bool.not_false, Bool.true_or]
          go_wp2
          go_ret
          exact ⟨by rw [Y.out]; rfl, HD.out⟩
        · cases h2 : (x2.toList == y2.toList)
          · have Y := Aside0.mk (HN.out (fun e => by
              have e1 : x2 = y2 := (HX.out.1 e).2
              rw [e1, beq_self_eq_true] at h2
              cases h2))
            clear HX HE HN
            simp only [Bool.not_false, Bool.not_true, Bool.or_true]
            go_wp2
            go_ret
            exact ⟨by rw [Y.out]; rfl, HD.out⟩
          · have Y := Aside0.mk (HE.out (HX.out.2 ⟨by
              have := beq_iff_eq.1 h1
              rw [toList_lb, toList_lb] at this
              exact lb_inj this, by
              have := beq_iff_eq.1 h2
              rw [toList_lb, toList_lb] at this
              exact lb_inj this⟩))
            clear HX HE HN h1 h2
            simp only [Bool.not_true, Bool.or_self]
            go_wp2
            go_roundw
            case rel => exact ⟨i + 1, by go_num, by omega, Y, HD⟩
            case measure => simp [intOf]; omega
      · have hall := HT.out
        rw [List.take_of_length_le (by omega), List.take_of_length_le (by have := HLM.out; omega)] at hall
        have Y := Aside0.mk (show decide (l = m) = true from decide_eq_true hall)
        clear hall HT
        go_wp2
        go_ret
        exact ⟨by rw [Y.out]; rfl, HB.out⟩
  · have hne : ((l.length : Int) != (m.length : Int)) = true := by simpa using (show ¬ (l.length : Int) = (m.length : Int) by omega)
    have Y := Aside0.mk (show decide (l = m) = false from decide_eq_false (fun e => hlm (by rw [e])))
    clear hlm
    go_enter Tryz.func12, Tryz.ntmps12
    go_wp2
    go_ret
    exact ⟨by rw [Y.out]; rfl, HB0.out⟩
end Go.Proofs.YtididniafloogaaGreatDoor.Maps
