/- spec.FitPairs: pairs by rising names. -/
import Derived.Test.YtididniafloogaaGreatDoorPairsFn
import Derived.Test.YtididniafloogaaGreatDoorFitPlain
namespace Go.Proofs.YtididniafloogaaGreatDoor.Maps
open Go.RowKit Go.Proofs.YtididniafloogaaGreatDoorW.PrintWords Go.Proofs.YtididniafloogaaGreatDoorW.PrintLast Go.Proofs.YtididniafloogaaGreatDoor.Str Go.Proofs.YtididniafloogaaGreatDoor.Kit Go.Proofs.YtididniafloogaaGreatDoor.Flat Go.Proofs.YtididniafloogaaGreatDoor.MapV Go.Proofs.YtididniafloogaaGreatDoor.Frame
set_option linter.unusedVariables false
set_option linter.unusedSimpArgs false

theorem flat_set (xs : List (BA × BA)) (k : Nat) (q : BA) (h : k < xs.length) : (xs.flatMap encP).set (k * 2 + 1) (.string q) = (xs.set k (xs[k].1, q)).flatMap encP := by
  induction xs generalizing k with
  | nil => simp at h
  | cons x r ih =>
    cases k with
    | zero => rfl
    | succ k =>
      have := ih k (by simpa using h)
      rw [List.flatMap_cons, List.set_cons_succ, List.flatMap_cons, List.getElem_cons_succ, ← this]
      have e : (k + 1) * 2 + 1 = (encP x).length + (k * 2 + 1) := by rw [encP_len]; omega
      rw [e, List.set_append_right _ _ (by omega)]
      congr 2
      omega
theorem R_set_pair {e : Nat} {w : World} {base : Nat} {ok : Nat → Prop} {g n c : Nat} {xs : List (BA × BA)} (h : kp.R e w base ok (.slice (some ⟨g, 0, none⟩) n c) xs) (k : Nat) (hk : k < xs.length) (q : BA) :
    kp.R e (w.setCell ⟨g, k * 2 + 1, none⟩ (.string q)) base ok (.slice (some ⟨g, 0, none⟩) n c) (xs.set k (xs[k].1, q)) := by
  obtain ⟨h0, h1⟩ := R_flat.1 h
  refine R_flat.2 ⟨h0, ?_⟩
  rcases h1.2 with ⟨e0, _⟩ | ⟨g', cap, cur, hv, hg, hb, hle, hcap, hsz, htk⟩
  · cases e0
  injection hv with e1 e2 e3
  injection e1 with e1
  injection e1 with e1
  subst e1 e3
  have hl : (xs.set k (xs[k].1, q)).length = xs.length := by simp
  rw [hl]
  refine ⟨by rw [flat_length encP_len, hl], .inr ⟨g, c, _, by rw [e2], hg, cb_set hb _, hle, hcap, by simpa using hsz, ?_⟩⟩
  rw [Array.toList_setIfInBounds, List.take_set, htk, flat_set xs k q hk]
theorem own_one (w : World) (base : Nat) (e : TypeId) (hb : base ≤ w.heap.size) (ok : Nat → Prop) (hok : ok w.heap.size) (p q : BA) : kp.R e (w.alloc (.cells #[.string p, .string q] e)) base ok (.slice (some ⟨w.heap.size, 0, none⟩) 1 1) [(p, q)] := by
  refine R_flat.2 ⟨fun b hbb => ?_, rfl, .inr ⟨w.heap.size, 1, _, rfl, hb, cb_new _ _, Nat.le_refl _, by unfold maxLen; omega, rfl, rfl⟩⟩
  have : w.heap.size = b := by simpa [Value.ownBlock] using hbb
  subst this; exact hok
theorem toP_get (f : List (Bs × BA)) (k : Nat) (h : k < f.length) : (toP f)[k]'(by rw [toP_length]; exact h) = (⟨f[k].1.toArray⟩, f[k].2) := by simp [toP]
theorem toP_set (f : List (Bs × BA)) (k : Nat) (x : Bs × BA) : toP (f.set k x) = (toP f).set k (⟨x.1.toArray⟩, x.2) := by
  unfold toP
  rw [List.map_set]
theorem toP_take (f : List (Bs × BA)) (k : Nat) : toP (f.take k) = (toP f).take k := List.map_take
theorem toP_drop (f : List (Bs × BA)) (k : Nat) : toP (f.drop k) = (toP f).drop k := List.map_drop
theorem kp_drop {w : World} {g n k : Nat} {xs : List (BA × BA)} (h : kp.C w (some ⟨g, 0, none⟩) n xs) (hk : k < n) : kp.C w (some ⟨g, k * 2, none⟩) (n - k) (xs.drop k) := by
  obtain rfl : xs.length = n := h.1
  obtain ⟨bk, off, hA, hb, hc⟩ := flat_open h (by omega) (by decide)
  injection hA with hA
  injection hA with e1 e2
  subst e1 e2
  have hl : (xs.drop k).length = xs.length - k := List.length_drop
  have := flat_mk (hk := encP_len) (h1 := encP_one) (w := w) (b := g) (o := k * 2) (xs := xs.drop k) (by rw [hl]; have := h.2.1; omega) (fun j hj i u hu => by
    rw [List.getElem_drop] at hu
    have := hc (k + j) (by omega) i u hu
    rw [Nat.zero_add, Nat.add_mul, Nat.add_assoc] at this
    exact this)
  rw [hl] at this
  exact this
theorem kp_none (w : World) (A : Option Addr) : kp.C w A 0 [] := ⟨rfl, by omega, fun h => absurd h (Nat.lt_irrefl 0)⟩
theorem kp_rows {w : World} {A : Option Addr} {n : Nat} {xs : List (BA × BA)} (h : kp.C w A n xs) : ReadsRow (fun (x : BA × BA) cs => cs = encP x) 2 w A n xs := h
set_option maxHeartbeats 12800000 in
set_option maxRecDepth 100000 in
theorem FitPairsL {A : Option Addr} {c : Nat} (l : List (BA × BA)) (w : World) (h : kp.C w A l.length l) (hn : l.length ≤ 17179869184) :
    Calls Tryz.prog 20 #[.slice A l.length c] w fun e w' => ∃ v, e = .returned v ∧ kp.R 65 w' w.heap.size (fun _ => True) v (toP (fitM (ofP l))) ∧ Below w.heap.size w w' := by
  have H := Aside0.mk h
  have HB0 := Aside0.mk (Below.refl w.heap.size w)
  clear h
  go_enter Tryz.func20, Tryz.ntmps20
  go_wp2
  go_loopw [3, 4] (fun v3 v4 wr => ∃ i : Nat, v4 = .int .i64 i ∧ i ≤ l.length ∧ Aside0 (kp.R 65 wr w.heap.size (fun _ => True) v3 (toP (fitM (ofP (l.take i))))) ∧ Aside0 (Below w.heap.size w wr)) (fun _ v4 _ => l.length - (intOf v4).toNat)
  case atStart => exact ⟨0, rfl, by omega, ⟨Kd.R_nil _ _ _ _ _⟩, HB0⟩
  case round =>
    clear HB0
    obtain ⟨i, rfl, hi, HO, HB⟩ := hrel
    by_cases hlt : i < l.length
    · obtain ⟨b0, o0, rfl, hb0, hc0⟩ := kp_open H.out (by omega)
      obtain ⟨g0, g1⟩ := hc0 i hlt
      have G0 := Aside0.mk (pw_cell_below HB.out g0)
      have G1 := Aside0.mk (pw_cell_below HB.out g1)
      have q0 : (0 : Int) ≤ (i : Int) := by omega
      have q1 : (i : Int) < (l.length : Int) := by omega
      have HT := Aside0.mk (show fitM (ofP (l.take (i + 1))) = mput (fitM (ofP (l.take i))) (lb l[i].1) l[i].2 by
        rw [List.take_succ_eq_append_getElem hlt]
        unfold ofP
        rw [List.map_append, List.map_cons, List.map_nil, fitM_snoc])
      have hfl : (fitM (ofP (l.take i))).length ≤ i := by
        refine Nat.le_trans (fitM_length _) ?_
        simp only [ofP, List.length_map, List.length_take]
        omega
      have HRS := Aside0.mk (fitM_rises (ofP (l.take i)))
      generalize fitM (ofP (l.take i)) = f at HO HT hfl HRS
      clear g0 g1
      generalize l[i].1 = kx at G0 HT
      generalize l[i].2 = vx at G1 HT
      clear hc0
      have HPK := Aside0.mk (fun (k : Nat) (h1 : ∀ (j : Nat) (hj : j < f.length), j < k → f[j].1 < lb kx) (h2 : k ≤ f.length) (h3 : ∀ h : k < f.length, lb kx < f[k].1) => (show toP (mput f (lb kx) vx) = (toP f).take k ++ ([(kx, vx)] ++ (toP f).drop k) by
        rw [mput_ins k HRS.out h1 h2 h3, toP_append, toP_take]
        have : toP ((lb kx, vx) :: f.drop k) = [(kx, vx)] ++ (toP f).drop k := by
          rw [← toP_drop]
          simp [toP, lb]
        rw [this]))
      obtain ⟨wo, rfl⟩ : ∃ wo, wo = wr := ⟨_, rfl⟩
      rcases (R_flat.1 HO.out).2.2 with ⟨hv, h0⟩ | ⟨g, c3, cur, hv, hgb, hblk, hle, hcap, hcsz, htk⟩
      · -- nothing is there yet
        subst hv
        rw [toP_length] at h0
        obtain rfl := List.eq_nil_of_length_eq_zero h0
        have HPOS := Aside0.mk (HPK.out 0 (fun j hj => by simp at hj) (Nat.zero_le _) (fun h => by simp at h))
        clear HPK h0
        go_wp2
        go_loopw [5] (fun v5 wq => v5 = .int .i64 0 ∧ Drawn0 wo wq) (fun v5 _ => 0)
        case atStart => exact ⟨rfl, Drawn0.refl _⟩
        case round =>
          obtain ⟨rfl, HD⟩ := hrel
          go_wp2_with fail
          go_quiet (fail)
          obtain ⟨w2, hw2⟩ : ∃ w2, wr.drewN nq = w2 := ⟨_, rfl⟩
          rw [hw2]
          have HD2 := HD.step nq
          rw [hw2] at HD2
          clear hw2 HD
          go_wp2_with fail
          go_quiet (fail)
          obtain ⟨w3, hw3⟩ : ∃ w3, w2.drewN nq = w3 := ⟨_, rfl⟩
          rw [hw3]
          have HD3 := HD2.step nq
          rw [hw3] at HD3
          clear hw3 HD2
          obtain ⟨w2, hw2⟩ : ∃ w2, w2 = w3 := ⟨_, rfl⟩
          subst hw2
          have HD2 := Aside0.mk HD3
          clear HD3
          have hb2 := (hb_then HB.out HD2.out.below)
          have HB2 := Aside0.mk hb2
          have g0 := pw_cell_below HD2.out.below G0.out
          have g1 := pw_cell_below HD2.out.below G1.out
          have hsz2 := hb2.size
          clear hb2
          go_wp2_with fail
          refine start_ (n := 14) (S := fun w' => w'.cell? ⟨b0, o0 + i * 2, none⟩ = some (.string kx) ∧ w'.cell? ⟨b0, o0 + i * 2 + 1, none⟩ = some (.string vx)) (ds := [7, 11, 12]) #[false, false, false, false, false, false, false, false, false, false, false, false, false, false] (by kernel_rfl) rfl rfl ⟨g0, g1⟩ (fun hHeld => ?_)
          refine pure_ (i := 0) (N := some 57) (v := ?_) (a' := ?_) #[true, false, false, false, false, false, false, false, false, false, false, false, false, false] rfl rfl (by kernel_rfl) (fun _ _ _ h => h) (Or.inl ⟨by rfl, ?_⟩) ?_ ?_
          rotate_left
          · intro w'
            go_simp
            with_reducible rfl
          rotate_left
          · simp only [Act.put, List.setIfInBounds_toArray, List.set_cons_zero, List.set_cons_succ, i64_w, i32_w]
            rfl
          refine pure_ (i := 1) (N := some 58) (v := ?_) (a' := ?_) #[true, true, false, false, false, false, false, false, false, false, false, false, false, false] rfl rfl (by kernel_rfl) (fun _ _ _ h => h) (Or.inl ⟨by rfl, ?_⟩) ?_ ?_
          rotate_left
          · intro w'
            go_simp
            with_reducible rfl
          rotate_left
          · simp only [Act.put, List.setIfInBounds_toArray, List.set_cons_zero, List.set_cons_succ, i64_w, i32_w]
            rfl
          refine pure_ (i := 2) (N := some 59) (v := ?_) (a' := ?_) #[true, true, true, false, false, false, false, false, false, false, false, false, false, false] rfl rfl (by kernel_rfl) (fun _ _ _ h => h) (Or.inl ⟨by rfl, ?_⟩) ?_ ?_
          rotate_left
          · intro w'
            go_simp
            with_reducible rfl
          rotate_left
          · simp only [Act.put, List.setIfInBounds_toArray, List.set_cons_zero, List.set_cons_succ, i64_w, i32_w]
            rfl
          refine pure_ (i := 3) (N := some 60) (v := ?_) (a' := ?_) #[true, true, true, true, false, false, false, false, false, false, false, false, false, false] rfl rfl (by kernel_rfl) (fun _ _ _ h => h) (Or.inl ⟨by rfl, ?_⟩) ?_ ?_
          rotate_left
          · intro w'
            go_simp
            with_reducible rfl
          rotate_left
          · simp only [Act.put, List.setIfInBounds_toArray, List.set_cons_zero, List.set_cons_succ, i64_w, i32_w]
            rfl
          refine pure_ (i := 4) (N := some 61) (v := ?_) (a' := ?_) #[true, true, true, true, true, false, false, false, false, false, false, false, false, false] rfl rfl (by kernel_rfl) (fun _ _ _ h => h) (Or.inl ⟨by rfl, ?_⟩) ?_ ?_
          rotate_left
          · intro w'
            go_simp
            with_reducible rfl
          rotate_left
          · simp only [Act.put, List.setIfInBounds_toArray, List.set_cons_zero, List.set_cons_succ, i64_w, i32_w]
            rfl
          refine pure_ (i := 5) (N := some 62) (v := ?_) (a' := ?_) #[true, true, true, true, true, true, false, false, false, false, false, false, false, false] rfl rfl (by kernel_rfl) (fun _ _ _ h => h) (Or.inl ⟨by rfl, ?_⟩) ?_ ?_
          rotate_left
          · intro w'
            go_simp
            with_reducible rfl
          rotate_left
          · simp only [Act.put, List.setIfInBounds_toArray, List.set_cons_zero, List.set_cons_succ, i64_w, i32_w]
            rfl
          refine pure_ (i := 8) (N := some 65) (v := ?_) (a' := ?_) #[true, true, true, true, true, true, false, false, true, false, false, false, false, false] rfl rfl (by kernel_rfl) (fun _ _ _ h => h) (Or.inl ⟨by rfl, ?_⟩) ?_ ?_
          rotate_left
          · intro w'
            go_simp
            with_reducible rfl
          rotate_left
          · simp only [Act.put, List.setIfInBounds_toArray, List.set_cons_zero, List.set_cons_succ, i64_w, i32_w]
            rfl
          refine pure_ (i := 9) (N := some 66) (v := ?_) (a' := ?_) #[true, true, true, true, true, true, false, false, true, true, false, false, false, false] rfl rfl (by kernel_rfl) (fun _ _ _ h => h) (Or.inl ⟨by rfl, ?_⟩) ?_ ?_
          rotate_left
          · intro w'
            go_simp
            with_reducible rfl
          rotate_left
          · simp only [Act.put, List.setIfInBounds_toArray, List.set_cons_zero, List.set_cons_succ, i64_w, i32_w]
            rfl
          refine pure_ (i := 10) (N := some 67) (v := ?_) (a' := ?_) #[true, true, true, true, true, true, false, false, true, true, true, false, false, false] rfl rfl (by kernel_rfl) (fun _ _ _ h => h) (Or.inl ⟨by rfl, ?_⟩) ?_ ?_
          rotate_left
          · intro w'
            go_simp
            with_reducible rfl
          rotate_left
          · simp only [Act.put, List.setIfInBounds_toArray, List.set_cons_zero, List.set_cons_succ, i64_w, i32_w]
            rfl
          refine take_ (i := 6) (N := some 63) (v := ?_) (a' := ?_) #[true, true, true, true, true, true, true, false, true, true, true, false, false, false] rfl rfl (by kernel_rfl) (fun _ _ _ h => h) (Or.inl ⟨by rfl, ?_⟩) hHeld ?_ ?_
          rotate_left
          · rintro w' ⟨s0, s1⟩
            go_simp
            with_reducible rfl
          rotate_left
          · simp only [Act.put, List.setIfInBounds_toArray, List.set_cons_zero, List.set_cons_succ, i64_w, i32_w]
            rfl
          refine last_ (i := 7) (N := some 64) #[true, true, true, true, true, true, true, true, true, true, true, false, false, false] rfl rfl (by kernel_rfl) (by decide) (fun K hK => ?_)
          refine value_ (w1 := ?_) (v := ?_) (by rfl) rfl ?_ ?_
          rotate_left 2
          · go_simp
            constructor
            · rfl
            · rfl
          refine hK.out _ _ ?_
          clear hK K
          refine norm_ (a' := ?_) ?_ ?_
          rotate_left
          · show Act.put _ (some 64) _ = _
            simp only [Act.put, List.setIfInBounds_toArray, List.set_cons_zero, List.set_cons_succ, i64_w, i32_w]
            rfl
          refine last_ (i := 11) (N := some 68) #[true, true, true, true, true, true, true, true, true, true, true, true, false, false] rfl rfl (by kernel_rfl) (by decide) (fun K hK => ?_)
          refine Kd.R_append_rows_step kp (w0 := w) w.heap.size rfl (.tmp 64) (.tmp 67) 25 65 (.agg #[.string ⟨#[]⟩, .string ⟨#[]⟩]) 32 rfl Tryz.underlying25 info_spair rfl (show 0 < 2 by decide) (by decide) (.slice (some ⟨w2.heap.size, 0, none⟩) 1 1) [(kx, vx)] ([] : List (BA × BA)) _ 0 _ (fun _ => True) (fun _ => False) rfl rfl (Kd.R_drew (own_one w2 w.heap.size _ hsz2 _ trivial kx vx)) (kp_rows (kp_none _ _)) (fun _ _ h => h) (fun _ h => h.elim) (fun _ _ => trivial) (below_drew (below_alloc HB2.out _)) (below_drew (below_alloc HB2.out _)).size (by simp only [List.length_singleton]; omega) ?_
          intro v1 w5 ho hb hg hat
          obtain ⟨A1, c1, rfl, hle1, hC1⟩ := Kd.R_reads ho
          have HC1 := Aside0.mk hC1
          have HB5 := Aside0.mk hb
          have HV5 := Aside0.mk (show True from trivial)
          have hl1 : ([(kx, vx)] ++ ([] : List (BA × BA))).length = 1 + 0 := rfl
          clear ho hb hg hat hC1 hle1
          refine hK.out _ _ ?_
          clear hK K
          refine norm_ (a' := ?_) ?_ ?_
          rotate_left
          · show Act.put _ (some 68) _ = _
            simp only [Act.put, List.setIfInBounds_toArray, List.set_cons_zero, List.set_cons_succ, i64_w, i32_w]
            rfl
          refine last_ (i := 12) (N := some 69) #[true, true, true, true, true, true, true, true, true, true, true, true, true, false] rfl rfl (by kernel_rfl) (by decide) (fun K hK => ?_)
          refine Kd.R_append_rows_step kp (w0 := w) w.heap.size rfl (.tmp 59) (.tmp 68) 25 65 (.agg #[.string ⟨#[]⟩, .string ⟨#[]⟩]) 32 rfl Tryz.underlying25 info_spair rfl (show 0 < 2 by decide) (by decide) (.slice none 0 0) ([] : List (BA × BA)) _ _ _ _ (fun _ => True) (fun _ => False) rfl rfl (Kd.R_nil _ _ _ _ _) (kp_rows HC1.out) (fun _ _ h => h) (fun _ h => h.elim) (fun _ _ => trivial) HB5.out HB5.out.size (by rw [hl1]; simp only [List.length_take, List.length_nil]; omega) ?_
          intro v2 w6 ho hb hg hat
          have HO6 := Aside0.mk ho
          have HB6 := Aside0.mk hb
          clear ho hb hg hat
          refine hK.out _ _ ?_
          clear hK K
          refine norm_ (a' := ?_) ?_ ?_
          rotate_left
          · show Act.put _ (some 69) _ = _
            simp only [Act.put, List.setIfInBounds_toArray, List.set_cons_zero, List.set_cons_succ, i64_w, i32_w]
            rfl
          refine pure_ (i := 13) (N := some 3) (v := ?_) (a' := ?_) #[true, true, true, true, true, true, true, true, true, true, true, true, true, true] rfl rfl (by kernel_rfl) (fun _ _ _ h => h) (Or.inl ⟨by rfl, ?_⟩) ?_ ?_
          rotate_left
          · intro w'
            go_simp
            with_reducible rfl
          rotate_left
          · simp only [Act.put, List.setIfInBounds_toArray, List.set_cons_zero, List.set_cons_succ, i64_w, i32_w]
            rfl
          refine done_ (by kernel_rfl) ?_
          go_wp2
          go_roundw
          case rel => exact ⟨i + 1, by go_num, by omega, ⟨by rw [HT.out, HPOS.out]; exact HO6.out⟩, HB6⟩
          case measure => simp [intOf]; omega
      · -- a row that is there
        subst hv
        rw [toP_length] at HO hle ⊢
        have HC3 := Aside0.mk (Kd.R_reads' HO.out).2.2
        rw [toP_length] at HC3
        have HBLK := Aside0.mk hblk
        clear hblk hcsz htk hcap
        go_wp2
        go_loopw [5] (fun v5 wq => ∃ k : Nat, v5 = .int .i64 k ∧ k ≤ f.length ∧ Aside0 (∀ (j : Nat) (hj : j < f.length), j < k → f[j].1 < lb kx) ∧ Drawn0 wo wq) (fun v5 _ => f.length - (intOf v5).toNat)
        case atStart => exact ⟨0, rfl, by omega, ⟨fun j _ h => absurd h (Nat.not_lt_zero _)⟩, Drawn0.refl _⟩
        case round =>
          obtain ⟨k, rfl, hk, HK, HD⟩ := hrel
          have g0 := pw_cell_below HD.below G0.out
          have g1 := pw_cell_below HD.below G1.out
          have q2 : (0 : Int) ≤ (k : Int) := by omega
          by_cases hkm : k < f.length
          · have q3 : (k : Int) < (f.length : Int) := by omega
            have hck : ¬ c3 = k := by omega
            obtain ⟨g', o', hA, hgl, hcell⟩ := kp_open (by rw [← toP_length f] at HC3; exact HC3.out) (by rw [toP_length]; omega)
            injection hA with hA
            injection hA with e1 e2
            subst e1 e2
            obtain ⟨k0, k1⟩ := hcell k (by rw [toP_length]; exact hkm)
            rw [toP_get f k hkm] at k0 k1
            rw [Nat.zero_add] at k0 k1
            have K0 := Aside0.mk k0
            have K1 := Aside0.mk k1
            clear k0 k1 hcell
            have k0 := pw_cell_below HD.below K0.out
            have k1 := pw_cell_below HD.below K1.out
            have hless : Op.bytesLess (⟨f[k].1.toArray⟩ : BA).toList kx.toList = decide (f[k].1 < lb kx) := by
              rw [bytesLess_eq, toList_lb, toList_lb, lb_mk]
            have heq : ((⟨f[k].1.toArray⟩ : BA).toList == kx.toList) = (f[k].1 == lb kx) := by rw [toList_lb, toList_lb, lb_mk]
            have HX := Aside0.mk (show f[k].1 < lb kx → ∀ (j : Nat) (hj : j < f.length), j < k + 1 → f[j].1 < lb kx from fun h j hj hjk => by
              by_cases hjk' : j < k
              · exact HK.out j hj hjk'
              · have : j = k := by omega
                subst this; exact h)
            have HST := Aside0.mk (show f[k].1 = lb kx → toP (mput f (lb kx) vx) = (toP f).set k ((toP f)[k]'(by rw [toP_length]; exact hkm)|>.1, vx) from fun h => by
              rw [mput_set k HRS.out HK.out hkm h, toP_set, toP_get f k hkm, h])
            by_cases hlt2 : f[k].1 < lb kx
            · rw [decide_eq_true hlt2] at hless
              have Y := Aside0.mk (HX.out hlt2)
              clear heq HX hlt2 HST HPK
              generalize (⟨f[k].1.toArray⟩ : BA) = x at *
              go_wp2_with fail
              go_quiet (fail)
              go_wp2
              go_roundw
              case rel => exact ⟨k + 1, by go_num, by omega, Y, HD.step nq⟩
              case measure => simp [intOf]; omega
            · rw [decide_eq_false hlt2] at hless
              by_cases he2 : f[k].1 = lb kx
              · have YS := Aside0.mk (HST.out he2)
                have he3 := he2
                clear HX hlt2 he2 HST HPK
                have hxk : (⟨f[k].1.toArray⟩ : BA) = kx := by (rw [he3]; first | done | (cases kx; simp [lb]))
                rw [hxk] at k0 K0 hless heq
                clear hxk he3 heq
                go_wp2_with fail
                go_quiet (fail)
                obtain ⟨w2, hw2⟩ : ∃ w2, wr.drewN nq = w2 := ⟨_, rfl⟩
                rw [hw2]
                have HD2 := Aside0.mk (HD.step nq)
                rw [hw2] at HD2
                clear hw2 HD g0 g1 k0 k1
                have g0 := pw_cell_below HD2.out.below G0.out
                have g1 := pw_cell_below HD2.out.below G1.out
                have k0 := pw_cell_below HD2.out.below K0.out
                have k1 := pw_cell_below HD2.out.below K1.out
                go_wp2_with fail
                go_quiet (fail)
                obtain ⟨w3, hw3⟩ : ∃ w3, w2.drewN nq = w3 := ⟨_, rfl⟩
                rw [hw3]
                have HD3 := Aside0.mk (HD2.out.step nq)
                rw [hw3] at HD3
                clear hw3 HD2 g0 g1 k0 k1
                have g0 := pw_cell_below HD3.out.below G0.out
                have g1 := pw_cell_below HD3.out.below G1.out
                have k1 := pw_cell_below HD3.out.below K1.out
                have hz := cb_frozen (i := k * 2 + 1) ((HD3.out.below.block g (cb_lt HBLK.out)).trans HBLK.out)
                go_wp2
                go_roundw
                case rel =>
                  refine ⟨i + 1, by go_num, by omega, ⟨?_⟩, ⟨(hb_then HB.out HD3.out.below).setCell hgb _⟩⟩
                  rw [HT.out, YS.out]
                  exact R_set_pair (Kd.R_below HO.out HD3.out.below) k (by rw [toP_length]; exact hkm) vx
                case measure => simp [intOf]; omega
              · have hgt : lb kx < f[k].1 := by
                  rcases lt_total f[k].1 (lb kx) with e | e | e
                  · exact absurd e hlt2
                  · exact absurd e he2
                  · exact e
                have HPOS := Aside0.mk (HPK.out k HK.out hk (fun _ => hgt))
                have hne : (f[k].1 == lb kx) = false := by simpa using he2
                rw [hne] at heq
                clear HX hlt2 he2 HST HPK hgt hne
                generalize (⟨f[k].1.toArray⟩ : BA) = x at *
                go_wp2_with fail
                go_quiet (fail)
                obtain ⟨w2, hw2⟩ : ∃ w2, wr.drewN nq = w2 := ⟨_, rfl⟩
                rw [hw2]
                have HD2 := Aside0.mk (HD.step nq)
                rw [hw2] at HD2
                clear hw2 HD g0 g1 k0 k1
                have g0 := pw_cell_below HD2.out.below G0.out
                have k0 := pw_cell_below HD2.out.below K0.out
                go_wp2_with fail
                go_quiet (fail)
                obtain ⟨w3, hw3⟩ : ∃ w3, w2.drewN nq = w3 := ⟨_, rfl⟩
                rw [hw3]
                have HD3 := HD2.out.step nq
                rw [hw3] at HD3
                clear hw3 HD2 g0 k0
                obtain ⟨w2, hw2⟩ : ∃ w2, w2 = w3 := ⟨_, rfl⟩
                subst hw2
                have HD2 := Aside0.mk HD3
                clear HD3
                have hb2 := (hb_then HB.out HD2.out.below)
                have HB2 := Aside0.mk hb2
                have g0 := pw_cell_below HD2.out.below G0.out
                have g1 := pw_cell_below HD2.out.below G1.out
                have hsz2 := hb2.size
                clear HK
                have hkc : k ≤ c3 := Nat.le_trans hk hle
                have HOK := Aside0.mk (Kd.R_mono (ok' := fun j => j ≠ w2.heap.size) (Kd.R_bound (Kd.R_below HO.out HD2.out.below)) (fun j hj => by have := hj.2.2.1; omega))
                have HDR := Aside0.mk (kp_drop (Kd.C_below HC3.out HD2.out.below) hkm)
                clear hb2
                go_wp2_with fail
                refine start_ (n := 14) (S := fun w' => w'.cell? ⟨b0, o0 + i * 2, none⟩ = some (.string kx) ∧ w'.cell? ⟨b0, o0 + i * 2 + 1, none⟩ = some (.string vx)) (ds := [7, 11, 12]) #[false, false, false, false, false, false, false, false, false, false, false, false, false, false] (by kernel_rfl) rfl rfl ⟨g0, g1⟩ (fun hHeld => ?_)
                refine pure_ (i := 0) (N := some 57) (v := ?_) (a' := ?_) #[true, false, false, false, false, false, false, false, false, false, false, false, false, false] rfl rfl (by kernel_rfl) (fun _ _ _ h => h) (Or.inl ⟨by rfl, ?_⟩) ?_ ?_
                rotate_left
                · intro w'
                  go_simp
                  with_reducible rfl
                rotate_left
                · simp only [Act.put, List.setIfInBounds_toArray, List.set_cons_zero, List.set_cons_succ, i64_w, i32_w]
                  rfl
                refine pure_ (i := 1) (N := some 58) (v := ?_) (a' := ?_) #[true, true, false, false, false, false, false, false, false, false, false, false, false, false] rfl rfl (by kernel_rfl) (fun _ _ _ h => h) (Or.inl ⟨by rfl, ?_⟩) ?_ ?_
                rotate_left
                · intro w'
                  go_simp
                  with_reducible rfl
                rotate_left
                · simp only [Act.put, List.setIfInBounds_toArray, List.set_cons_zero, List.set_cons_succ, i64_w, i32_w]
                  rfl
                refine pure_ (i := 2) (N := some 59) (v := ?_) (a' := ?_) #[true, true, true, false, false, false, false, false, false, false, false, false, false, false] rfl rfl (by kernel_rfl) (fun _ _ _ h => h) (Or.inl ⟨by rfl, ?_⟩) ?_ ?_
                rotate_left
                · intro w'
                  go_simp
                  with_reducible rfl
                rotate_left
                · simp only [Act.put, List.setIfInBounds_toArray, List.set_cons_zero, List.set_cons_succ, i64_w, i32_w]
                  rfl
                refine pure_ (i := 3) (N := some 60) (v := ?_) (a' := ?_) #[true, true, true, true, false, false, false, false, false, false, false, false, false, false] rfl rfl (by kernel_rfl) (fun _ _ _ h => h) (Or.inl ⟨by rfl, ?_⟩) ?_ ?_
                rotate_left
                · intro w'
                  go_simp
                  with_reducible rfl
                rotate_left
                · simp only [Act.put, List.setIfInBounds_toArray, List.set_cons_zero, List.set_cons_succ, i64_w, i32_w]
                  rfl
                refine pure_ (i := 4) (N := some 61) (v := ?_) (a' := ?_) #[true, true, true, true, true, false, false, false, false, false, false, false, false, false] rfl rfl (by kernel_rfl) (fun _ _ _ h => h) (Or.inl ⟨by rfl, ?_⟩) ?_ ?_
                rotate_left
                · intro w'
                  go_simp
                  with_reducible rfl
                rotate_left
                · simp only [Act.put, List.setIfInBounds_toArray, List.set_cons_zero, List.set_cons_succ, i64_w, i32_w]
                  rfl
                refine pure_ (i := 5) (N := some 62) (v := ?_) (a' := ?_) #[true, true, true, true, true, true, false, false, false, false, false, false, false, false] rfl rfl (by kernel_rfl) (fun _ _ _ h => h) (Or.inl ⟨by rfl, ?_⟩) ?_ ?_
                rotate_left
                · intro w'
                  go_simp
                  with_reducible rfl
                rotate_left
                · simp only [Act.put, List.setIfInBounds_toArray, List.set_cons_zero, List.set_cons_succ, i64_w, i32_w]
                  rfl
                refine pure_ (i := 8) (N := some 65) (v := ?_) (a' := ?_) #[true, true, true, true, true, true, false, false, true, false, false, false, false, false] rfl rfl (by kernel_rfl) (fun _ _ _ h => h) (Or.inl ⟨by rfl, ?_⟩) ?_ ?_
                rotate_left
                · intro w'
                  go_simp
                  with_reducible rfl
                rotate_left
                · simp only [Act.put, List.setIfInBounds_toArray, List.set_cons_zero, List.set_cons_succ, i64_w, i32_w]
                  rfl
                refine pure_ (i := 9) (N := some 66) (v := ?_) (a' := ?_) #[true, true, true, true, true, true, false, false, true, true, false, false, false, false] rfl rfl (by kernel_rfl) (fun _ _ _ h => h) (Or.inl ⟨by rfl, ?_⟩) ?_ ?_
                rotate_left
                · intro w'
                  go_simp
                  with_reducible rfl
                rotate_left
                · simp only [Act.put, List.setIfInBounds_toArray, List.set_cons_zero, List.set_cons_succ, i64_w, i32_w]
                  rfl
                refine pure_ (i := 10) (N := some 67) (v := ?_) (a' := ?_) #[true, true, true, true, true, true, false, false, true, true, true, false, false, false] rfl rfl (by kernel_rfl) (fun _ _ _ h => h) (Or.inl ⟨by rfl, ?_⟩) ?_ ?_
                rotate_left
                · intro w'
                  go_simp
                  with_reducible rfl
                rotate_left
                · simp only [Act.put, List.setIfInBounds_toArray, List.set_cons_zero, List.set_cons_succ, i64_w, i32_w]
                  rfl
                refine take_ (i := 6) (N := some 63) (v := ?_) (a' := ?_) #[true, true, true, true, true, true, true, false, true, true, true, false, false, false] rfl rfl (by kernel_rfl) (fun _ _ _ h => h) (Or.inl ⟨by rfl, ?_⟩) hHeld ?_ ?_
                rotate_left
                · rintro w' ⟨s0, s1⟩
                  go_simp
                  with_reducible rfl
                rotate_left
                · simp only [Act.put, List.setIfInBounds_toArray, List.set_cons_zero, List.set_cons_succ, i64_w, i32_w]
                  rfl
                refine last_ (i := 7) (N := some 64) #[true, true, true, true, true, true, true, true, true, true, true, false, false, false] rfl rfl (by kernel_rfl) (by decide) (fun K hK => ?_)
                refine value_ (w1 := ?_) (v := ?_) (by rfl) rfl ?_ ?_
                rotate_left 2
                · go_simp
                  constructor
                  · rfl
                  · rfl
                refine hK.out _ _ ?_
                clear hK K
                refine norm_ (a' := ?_) ?_ ?_
                rotate_left
                · show Act.put _ (some 64) _ = _
                  simp only [Act.put, List.setIfInBounds_toArray, List.set_cons_zero, List.set_cons_succ, i64_w, i32_w]
                  rfl
                refine last_ (i := 11) (N := some 68) #[true, true, true, true, true, true, true, true, true, true, true, true, false, false] rfl rfl (by kernel_rfl) (by decide) (fun K hK => ?_)
                refine Kd.R_append_rows_step kp (w0 := w) w.heap.size rfl (.tmp 64) (.tmp 67) 25 65 (.agg #[.string ⟨#[]⟩, .string ⟨#[]⟩]) 32 rfl Tryz.underlying25 info_spair rfl (show 0 < 2 by decide) (by decide) (.slice (some ⟨w2.heap.size, 0, none⟩) 1 1) [(kx, vx)] ((toP f).drop k) _ (f.length - k) _ (fun _ => True) (fun _ => False) rfl rfl (Kd.R_drew (own_one w2 w.heap.size _ hsz2 _ trivial kx vx)) (kp_rows (Kd.C_drew (Kd.C_alloc HDR.out _))) (fun _ _ h => h) (fun _ h => h.elim) (fun _ _ => trivial) (below_drew (below_alloc HB2.out _)) (below_drew (below_alloc HB2.out _)).size (by simp only [List.length_singleton]; omega) ?_
                intro v1 w5 ho hb hg hat
                obtain ⟨A1, c1, rfl, hle1, hC1⟩ := Kd.R_reads ho
                have HC1 := Aside0.mk hC1
                have HB5 := Aside0.mk hb
                have HV5 := Aside0.mk (Kd.R_take (Kd.R_grown (Kd.R_drew (Kd.R_alloc HOK.out _)) hg (fun j hj e => by injection e with e; exact hj e)) (by rw [toP_length]; omega))
                have hl1 : ([(kx, vx)] ++ ((toP f).drop k)).length = 1 + (f.length - k) := by simp [toP_length]; omega
                clear ho hb hg hat hC1 hle1
                refine hK.out _ _ ?_
                clear hK K
                refine norm_ (a' := ?_) ?_ ?_
                rotate_left
                · show Act.put _ (some 68) _ = _
                  simp only [Act.put, List.setIfInBounds_toArray, List.set_cons_zero, List.set_cons_succ, i64_w, i32_w]
                  rfl
                refine last_ (i := 12) (N := some 69) #[true, true, true, true, true, true, true, true, true, true, true, true, true, false] rfl rfl (by kernel_rfl) (by decide) (fun K hK => ?_)
                refine Kd.R_append_rows_step kp (w0 := w) w.heap.size rfl (.tmp 59) (.tmp 68) 25 65 (.agg #[.string ⟨#[]⟩, .string ⟨#[]⟩]) 32 rfl Tryz.underlying25 info_spair rfl (show 0 < 2 by decide) (by decide) (.slice (some ⟨g, 0, none⟩) k c3) ((toP f).take k) _ _ _ _ (fun _ => True) (fun _ => False) rfl rfl (Kd.R_mono HV5.out (fun _ _ => trivial)) (kp_rows HC1.out) (fun _ _ h => h) (fun _ h => h.elim) (fun _ _ => trivial) HB5.out HB5.out.size (by rw [hl1]; simp only [List.length_take, List.length_nil]; omega) ?_
                intro v2 w6 ho hb hg hat
                have HO6 := Aside0.mk ho
                have HB6 := Aside0.mk hb
                clear ho hb hg hat
                refine hK.out _ _ ?_
                clear hK K
                refine norm_ (a' := ?_) ?_ ?_
                rotate_left
                · show Act.put _ (some 69) _ = _
                  simp only [Act.put, List.setIfInBounds_toArray, List.set_cons_zero, List.set_cons_succ, i64_w, i32_w]
                  rfl
                refine pure_ (i := 13) (N := some 3) (v := ?_) (a' := ?_) #[true, true, true, true, true, true, true, true, true, true, true, true, true, true] rfl rfl (by kernel_rfl) (fun _ _ _ h => h) (Or.inl ⟨by rfl, ?_⟩) ?_ ?_
                rotate_left
                · intro w'
                  go_simp
                  with_reducible rfl
                rotate_left
                · simp only [Act.put, List.setIfInBounds_toArray, List.set_cons_zero, List.set_cons_succ, i64_w, i32_w]
                  rfl
                refine done_ (by kernel_rfl) ?_
                go_wp2
                go_roundw
                case rel => exact ⟨i + 1, by go_num, by omega, ⟨by rw [HT.out, HPOS.out]; exact HO6.out⟩, HB6⟩
                case measure => simp [intOf]; omega
          · obtain rfl : k = f.length := by omega
            have HPOS := Aside0.mk (HPK.out f.length HK.out (Nat.le_refl _) (fun h => absurd h (Nat.lt_irrefl _)))
            rw [show (toP f).drop f.length = [] by rw [← toP_length f]; exact List.drop_length] at HPOS
            clear HPK
            go_wp2_with fail
            go_quiet (fail)
            obtain ⟨w2, hw2⟩ : ∃ w2, wr.drewN nq = w2 := ⟨_, rfl⟩
            rw [hw2]
            have HD2 := HD.step nq
            rw [hw2] at HD2
            clear hw2 HD
            go_wp2_with fail
            go_quiet (fail)
            obtain ⟨w3, hw3⟩ : ∃ w3, w2.drewN nq = w3 := ⟨_, rfl⟩
            rw [hw3]
            have HD3 := HD2.step nq
            rw [hw3] at HD3
            clear hw3 HD2
            obtain ⟨w2, hw2⟩ : ∃ w2, w2 = w3 := ⟨_, rfl⟩
            subst hw2
            have HD2 := Aside0.mk HD3
            clear HD3 g0 g1
            obtain ⟨k, hkk⟩ : ∃ k, k = f.length := ⟨_, rfl⟩
            by_cases hck : c3 = f.length
            · subst hck
              have hb2 := (hb_then HB.out HD2.out.below)
              have HB2 := Aside0.mk hb2
              have g0 := pw_cell_below HD2.out.below G0.out
              have g1 := pw_cell_below HD2.out.below G1.out
              have hsz2 := hb2.size
              clear HK
              have HOK := Aside0.mk (Kd.R_mono (ok' := fun j => j ≠ w2.heap.size) (Kd.R_bound (Kd.R_below HO.out HD2.out.below)) (fun j hj => by have := hj.2.2.1; omega))
              clear hb2
              go_wp2_with fail
              refine start_ (n := 14) (S := fun w' => w'.cell? ⟨b0, o0 + i * 2, none⟩ = some (.string kx) ∧ w'.cell? ⟨b0, o0 + i * 2 + 1, none⟩ = some (.string vx)) (ds := [7, 11, 12]) #[false, false, false, false, false, false, false, false, false, false, false, false, false, false] (by kernel_rfl) rfl rfl ⟨g0, g1⟩ (fun hHeld => ?_)
              refine pure_ (i := 0) (N := some 57) (v := ?_) (a' := ?_) #[true, false, false, false, false, false, false, false, false, false, false, false, false, false] rfl rfl (by kernel_rfl) (fun _ _ _ h => h) (Or.inl ⟨by rfl, ?_⟩) ?_ ?_
              rotate_left
              · intro w'
                go_simp
                with_reducible rfl
              rotate_left
              · simp only [Act.put, List.setIfInBounds_toArray, List.set_cons_zero, List.set_cons_succ, i64_w, i32_w]
                rfl
              refine pure_ (i := 1) (N := some 58) (v := ?_) (a' := ?_) #[true, true, false, false, false, false, false, false, false, false, false, false, false, false] rfl rfl (by kernel_rfl) (fun _ _ _ h => h) (Or.inl ⟨by rfl, ?_⟩) ?_ ?_
              rotate_left
              · intro w'
                go_simp
                with_reducible rfl
              rotate_left
              · simp only [Act.put, List.setIfInBounds_toArray, List.set_cons_zero, List.set_cons_succ, i64_w, i32_w]
                rfl
              refine pure_ (i := 2) (N := some 59) (v := ?_) (a' := ?_) #[true, true, true, false, false, false, false, false, false, false, false, false, false, false] rfl rfl (by kernel_rfl) (fun _ _ _ h => h) (Or.inl ⟨by rfl, ?_⟩) ?_ ?_
              rotate_left
              · intro w'
                go_simp
                with_reducible rfl
              rotate_left
              · simp only [Act.put, List.setIfInBounds_toArray, List.set_cons_zero, List.set_cons_succ, i64_w, i32_w]
                rfl
              refine pure_ (i := 3) (N := some 60) (v := ?_) (a' := ?_) #[true, true, true, true, false, false, false, false, false, false, false, false, false, false] rfl rfl (by kernel_rfl) (fun _ _ _ h => h) (Or.inl ⟨by rfl, ?_⟩) ?_ ?_
              rotate_left
              · intro w'
                go_simp
                with_reducible rfl
              rotate_left
              · simp only [Act.put, List.setIfInBounds_toArray, List.set_cons_zero, List.set_cons_succ, i64_w, i32_w]
                rfl
              refine pure_ (i := 4) (N := some 61) (v := ?_) (a' := ?_) #[true, true, true, true, true, false, false, false, false, false, false, false, false, false] rfl rfl (by kernel_rfl) (fun _ _ _ h => h) (Or.inl ⟨by rfl, ?_⟩) ?_ ?_
              rotate_left
              · intro w'
                go_simp
                with_reducible rfl
              rotate_left
              · simp only [Act.put, List.setIfInBounds_toArray, List.set_cons_zero, List.set_cons_succ, i64_w, i32_w]
                rfl
              refine pure_ (i := 5) (N := some 62) (v := ?_) (a' := ?_) #[true, true, true, true, true, true, false, false, false, false, false, false, false, false] rfl rfl (by kernel_rfl) (fun _ _ _ h => h) (Or.inl ⟨by rfl, ?_⟩) ?_ ?_
              rotate_left
              · intro w'
                go_simp
                with_reducible rfl
              rotate_left
              · simp only [Act.put, List.setIfInBounds_toArray, List.set_cons_zero, List.set_cons_succ, i64_w, i32_w]
                rfl
              refine pure_ (i := 8) (N := some 65) (v := ?_) (a' := ?_) #[true, true, true, true, true, true, false, false, true, false, false, false, false, false] rfl rfl (by kernel_rfl) (fun _ _ _ h => h) (Or.inl ⟨by rfl, ?_⟩) ?_ ?_
              rotate_left
              · intro w'
                go_simp
                with_reducible rfl
              rotate_left
              · simp only [Act.put, List.setIfInBounds_toArray, List.set_cons_zero, List.set_cons_succ, i64_w, i32_w]
                rfl
              refine pure_ (i := 9) (N := some 66) (v := ?_) (a' := ?_) #[true, true, true, true, true, true, false, false, true, true, false, false, false, false] rfl rfl (by kernel_rfl) (fun _ _ _ h => h) (Or.inl ⟨by rfl, ?_⟩) ?_ ?_
              rotate_left
              · intro w'
                go_simp
                with_reducible rfl
              rotate_left
              · simp only [Act.put, List.setIfInBounds_toArray, List.set_cons_zero, List.set_cons_succ, i64_w, i32_w]
                rfl
              refine pure_ (i := 10) (N := some 67) (v := ?_) (a' := ?_) #[true, true, true, true, true, true, false, false, true, true, true, false, false, false] rfl rfl (by kernel_rfl) (fun _ _ _ h => h) (Or.inl ⟨by rfl, ?_⟩) ?_ ?_
              rotate_left
              · intro w'
                go_simp
                with_reducible rfl
              rotate_left
              · simp only [Act.put, List.setIfInBounds_toArray, List.set_cons_zero, List.set_cons_succ, i64_w, i32_w]
                rfl
              refine take_ (i := 6) (N := some 63) (v := ?_) (a' := ?_) #[true, true, true, true, true, true, true, false, true, true, true, false, false, false] rfl rfl (by kernel_rfl) (fun _ _ _ h => h) (Or.inl ⟨by rfl, ?_⟩) hHeld ?_ ?_
              rotate_left
              · rintro w' ⟨s0, s1⟩
                go_simp
                with_reducible rfl
              rotate_left
              · simp only [Act.put, List.setIfInBounds_toArray, List.set_cons_zero, List.set_cons_succ, i64_w, i32_w]
                rfl
              refine last_ (i := 7) (N := some 64) #[true, true, true, true, true, true, true, true, true, true, true, false, false, false] rfl rfl (by kernel_rfl) (by decide) (fun K hK => ?_)
              refine value_ (w1 := ?_) (v := ?_) (by rfl) rfl ?_ ?_
              rotate_left 2
              · go_simp
                constructor
                · rfl
                · rfl
              refine hK.out _ _ ?_
              clear hK K
              refine norm_ (a' := ?_) ?_ ?_
              rotate_left
              · show Act.put _ (some 64) _ = _
                simp only [Act.put, List.setIfInBounds_toArray, List.set_cons_zero, List.set_cons_succ, i64_w, i32_w]
                rfl
              refine last_ (i := 11) (N := some 68) #[true, true, true, true, true, true, true, true, true, true, true, true, false, false] rfl rfl (by kernel_rfl) (by decide) (fun K hK => ?_)
              refine Kd.R_append_rows_step kp (w0 := w) w.heap.size rfl (.tmp 64) (.tmp 67) 25 65 (.agg #[.string ⟨#[]⟩, .string ⟨#[]⟩]) 32 rfl Tryz.underlying25 info_spair rfl (show 0 < 2 by decide) (by decide) (.slice (some ⟨w2.heap.size, 0, none⟩) 1 1) [(kx, vx)] ([] : List (BA × BA)) _ 0 _ (fun _ => True) (fun _ => False) rfl rfl (Kd.R_drew (own_one w2 w.heap.size _ hsz2 _ trivial kx vx)) (kp_rows (kp_none _ _)) (fun _ _ h => h) (fun _ h => h.elim) (fun _ _ => trivial) (below_drew (below_alloc HB2.out _)) (below_drew (below_alloc HB2.out _)).size (by simp only [List.length_singleton]; omega) ?_
              intro v1 w5 ho hb hg hat
              obtain ⟨A1, c1, rfl, hle1, hC1⟩ := Kd.R_reads ho
              have HC1 := Aside0.mk hC1
              have HB5 := Aside0.mk hb
              have HV5 := Aside0.mk (Kd.R_take (Kd.R_grown (Kd.R_drew (Kd.R_alloc HOK.out _)) hg (fun j hj e => by injection e with e; exact hj e)) (by rw [toP_length]; omega))
              have hl1 : ([(kx, vx)] ++ ([] : List (BA × BA))).length = 1 + 0 := rfl
              clear ho hb hg hat hC1 hle1
              refine hK.out _ _ ?_
              clear hK K
              refine norm_ (a' := ?_) ?_ ?_
              rotate_left
              · show Act.put _ (some 68) _ = _
                simp only [Act.put, List.setIfInBounds_toArray, List.set_cons_zero, List.set_cons_succ, i64_w, i32_w]
                rfl
              refine last_ (i := 12) (N := some 69) #[true, true, true, true, true, true, true, true, true, true, true, true, true, false] rfl rfl (by kernel_rfl) (by decide) (fun K hK => ?_)
              refine Kd.R_append_rows_step kp (w0 := w) w.heap.size rfl (.tmp 59) (.tmp 68) 25 65 (.agg #[.string ⟨#[]⟩, .string ⟨#[]⟩]) 32 rfl Tryz.underlying25 info_spair rfl (show 0 < 2 by decide) (by decide) (.slice (some ⟨g, 0, none⟩) f.length f.length) ((toP f).take f.length) _ _ _ _ (fun _ => True) (fun _ => False) rfl rfl (Kd.R_mono HV5.out (fun _ _ => trivial)) (kp_rows HC1.out) (fun _ _ h => h) (fun _ h => h.elim) (fun _ _ => trivial) HB5.out HB5.out.size (by rw [hl1]; simp only [List.length_take, List.length_nil]; omega) ?_
              intro v2 w6 ho hb hg hat
              have HO6 := Aside0.mk ho
              have HB6 := Aside0.mk hb
              clear ho hb hg hat
              refine hK.out _ _ ?_
              clear hK K
              refine norm_ (a' := ?_) ?_ ?_
              rotate_left
              · show Act.put _ (some 69) _ = _
                simp only [Act.put, List.setIfInBounds_toArray, List.set_cons_zero, List.set_cons_succ, i64_w, i32_w]
                rfl
              refine pure_ (i := 13) (N := some 3) (v := ?_) (a' := ?_) #[true, true, true, true, true, true, true, true, true, true, true, true, true, true] rfl rfl (by kernel_rfl) (fun _ _ _ h => h) (Or.inl ⟨by rfl, ?_⟩) ?_ ?_
              rotate_left
              · intro w'
                go_simp
                with_reducible rfl
              rotate_left
              · simp only [Act.put, List.setIfInBounds_toArray, List.set_cons_zero, List.set_cons_succ, i64_w, i32_w]
                rfl
              refine done_ (by kernel_rfl) ?_
              go_wp2
              go_roundw
              case rel => exact ⟨i + 1, by go_num, by omega, ⟨by rw [HT.out, HPOS.out]; exact HO6.out⟩, HB6⟩
              case measure => simp [intOf]; omega
            · skip
              have hb2 := (hb_then HB.out HD2.out.below)
              have HB2 := Aside0.mk hb2
              have g0 := pw_cell_below HD2.out.below G0.out
              have g1 := pw_cell_below HD2.out.below G1.out
              have hsz2 := hb2.size
              clear HK
              have HOK := Aside0.mk (Kd.R_mono (ok' := fun j => j ≠ w2.heap.size) (Kd.R_bound (Kd.R_below HO.out HD2.out.below)) (fun j hj => by have := hj.2.2.1; omega))
              clear hb2
              go_wp2_with fail
              refine start_ (n := 14) (S := fun w' => w'.cell? ⟨b0, o0 + i * 2, none⟩ = some (.string kx) ∧ w'.cell? ⟨b0, o0 + i * 2 + 1, none⟩ = some (.string vx)) (ds := [7, 11, 12]) #[false, false, false, false, false, false, false, false, false, false, false, false, false, false] (by kernel_rfl) rfl rfl ⟨g0, g1⟩ (fun hHeld => ?_)
              refine pure_ (i := 0) (N := some 57) (v := ?_) (a' := ?_) #[true, false, false, false, false, false, false, false, false, false, false, false, false, false] rfl rfl (by kernel_rfl) (fun _ _ _ h => h) (Or.inl ⟨by rfl, ?_⟩) ?_ ?_
              rotate_left
              · intro w'
                go_simp
                with_reducible rfl
              rotate_left
              · simp only [Act.put, List.setIfInBounds_toArray, List.set_cons_zero, List.set_cons_succ, i64_w, i32_w]
                rfl
              refine pure_ (i := 1) (N := some 58) (v := ?_) (a' := ?_) #[true, true, false, false, false, false, false, false, false, false, false, false, false, false] rfl rfl (by kernel_rfl) (fun _ _ _ h => h) (Or.inl ⟨by rfl, ?_⟩) ?_ ?_
              rotate_left
              · intro w'
                go_simp
                with_reducible rfl
              rotate_left
              · simp only [Act.put, List.setIfInBounds_toArray, List.set_cons_zero, List.set_cons_succ, i64_w, i32_w]
                rfl
              refine pure_ (i := 2) (N := some 59) (v := ?_) (a' := ?_) #[true, true, true, false, false, false, false, false, false, false, false, false, false, false] rfl rfl (by kernel_rfl) (fun _ _ _ h => h) (Or.inl ⟨by rfl, ?_⟩) ?_ ?_
              rotate_left
              · intro w'
                go_simp
                with_reducible rfl
              rotate_left
              · simp only [Act.put, List.setIfInBounds_toArray, List.set_cons_zero, List.set_cons_succ, i64_w, i32_w]
                rfl
              refine pure_ (i := 3) (N := some 60) (v := ?_) (a' := ?_) #[true, true, true, true, false, false, false, false, false, false, false, false, false, false] rfl rfl (by kernel_rfl) (fun _ _ _ h => h) (Or.inl ⟨by rfl, ?_⟩) ?_ ?_
              rotate_left
              · intro w'
                go_simp
                with_reducible rfl
              rotate_left
              · simp only [Act.put, List.setIfInBounds_toArray, List.set_cons_zero, List.set_cons_succ, i64_w, i32_w]
                rfl
              refine pure_ (i := 4) (N := some 61) (v := ?_) (a' := ?_) #[true, true, true, true, true, false, false, false, false, false, false, false, false, false] rfl rfl (by kernel_rfl) (fun _ _ _ h => h) (Or.inl ⟨by rfl, ?_⟩) ?_ ?_
              rotate_left
              · intro w'
                go_simp
                with_reducible rfl
              rotate_left
              · simp only [Act.put, List.setIfInBounds_toArray, List.set_cons_zero, List.set_cons_succ, i64_w, i32_w]
                rfl
              refine pure_ (i := 5) (N := some 62) (v := ?_) (a' := ?_) #[true, true, true, true, true, true, false, false, false, false, false, false, false, false] rfl rfl (by kernel_rfl) (fun _ _ _ h => h) (Or.inl ⟨by rfl, ?_⟩) ?_ ?_
              rotate_left
              · intro w'
                go_simp
                with_reducible rfl
              rotate_left
              · simp only [Act.put, List.setIfInBounds_toArray, List.set_cons_zero, List.set_cons_succ, i64_w, i32_w]
                rfl
              refine pure_ (i := 8) (N := some 65) (v := ?_) (a' := ?_) #[true, true, true, true, true, true, false, false, true, false, false, false, false, false] rfl rfl (by kernel_rfl) (fun _ _ _ h => h) (Or.inl ⟨by rfl, ?_⟩) ?_ ?_
              rotate_left
              · intro w'
                go_simp
                with_reducible rfl
              rotate_left
              · simp only [Act.put, List.setIfInBounds_toArray, List.set_cons_zero, List.set_cons_succ, i64_w, i32_w]
                rfl
              refine pure_ (i := 9) (N := some 66) (v := ?_) (a' := ?_) #[true, true, true, true, true, true, false, false, true, true, false, false, false, false] rfl rfl (by kernel_rfl) (fun _ _ _ h => h) (Or.inl ⟨by rfl, ?_⟩) ?_ ?_
              rotate_left
              · intro w'
                go_simp
                with_reducible rfl
              rotate_left
              · simp only [Act.put, List.setIfInBounds_toArray, List.set_cons_zero, List.set_cons_succ, i64_w, i32_w]
                rfl
              refine pure_ (i := 10) (N := some 67) (v := ?_) (a' := ?_) #[true, true, true, true, true, true, false, false, true, true, true, false, false, false] rfl rfl (by kernel_rfl) (fun _ _ _ h => h) (Or.inl ⟨by rfl, ?_⟩) ?_ ?_
              rotate_left
              · intro w'
                go_simp
                with_reducible rfl
              rotate_left
              · simp only [Act.put, List.setIfInBounds_toArray, List.set_cons_zero, List.set_cons_succ, i64_w, i32_w]
                rfl
              refine take_ (i := 6) (N := some 63) (v := ?_) (a' := ?_) #[true, true, true, true, true, true, true, false, true, true, true, false, false, false] rfl rfl (by kernel_rfl) (fun _ _ _ h => h) (Or.inl ⟨by rfl, ?_⟩) hHeld ?_ ?_
              rotate_left
              · rintro w' ⟨s0, s1⟩
                go_simp
                with_reducible rfl
              rotate_left
              · simp only [Act.put, List.setIfInBounds_toArray, List.set_cons_zero, List.set_cons_succ, i64_w, i32_w]
                rfl
              refine last_ (i := 7) (N := some 64) #[true, true, true, true, true, true, true, true, true, true, true, false, false, false] rfl rfl (by kernel_rfl) (by decide) (fun K hK => ?_)
              refine value_ (w1 := ?_) (v := ?_) (by rfl) rfl ?_ ?_
              rotate_left 2
              · go_simp
                constructor
                · rfl
                · rfl
              refine hK.out _ _ ?_
              clear hK K
              refine norm_ (a' := ?_) ?_ ?_
              rotate_left
              · show Act.put _ (some 64) _ = _
                simp only [Act.put, List.setIfInBounds_toArray, List.set_cons_zero, List.set_cons_succ, i64_w, i32_w]
                rfl
              refine last_ (i := 11) (N := some 68) #[true, true, true, true, true, true, true, true, true, true, true, true, false, false] rfl rfl (by kernel_rfl) (by decide) (fun K hK => ?_)
              refine Kd.R_append_rows_step kp (w0 := w) w.heap.size rfl (.tmp 64) (.tmp 67) 25 65 (.agg #[.string ⟨#[]⟩, .string ⟨#[]⟩]) 32 rfl Tryz.underlying25 info_spair rfl (show 0 < 2 by decide) (by decide) (.slice (some ⟨w2.heap.size, 0, none⟩) 1 1) [(kx, vx)] ([] : List (BA × BA)) _ 0 _ (fun _ => True) (fun _ => False) rfl rfl (Kd.R_drew (own_one w2 w.heap.size _ hsz2 _ trivial kx vx)) (kp_rows (kp_none _ _)) (fun _ _ h => h) (fun _ h => h.elim) (fun _ _ => trivial) (below_drew (below_alloc HB2.out _)) (below_drew (below_alloc HB2.out _)).size (by simp only [List.length_singleton]; omega) ?_
              intro v1 w5 ho hb hg hat
              obtain ⟨A1, c1, rfl, hle1, hC1⟩ := Kd.R_reads ho
              have HC1 := Aside0.mk hC1
              have HB5 := Aside0.mk hb
              have HV5 := Aside0.mk (Kd.R_take (Kd.R_grown (Kd.R_drew (Kd.R_alloc HOK.out _)) hg (fun j hj e => by injection e with e; exact hj e)) (by rw [toP_length]; omega))
              have hl1 : ([(kx, vx)] ++ ([] : List (BA × BA))).length = 1 + 0 := rfl
              clear ho hb hg hat hC1 hle1
              refine hK.out _ _ ?_
              clear hK K
              refine norm_ (a' := ?_) ?_ ?_
              rotate_left
              · show Act.put _ (some 68) _ = _
                simp only [Act.put, List.setIfInBounds_toArray, List.set_cons_zero, List.set_cons_succ, i64_w, i32_w]
                rfl
              refine last_ (i := 12) (N := some 69) #[true, true, true, true, true, true, true, true, true, true, true, true, true, false] rfl rfl (by kernel_rfl) (by decide) (fun K hK => ?_)
              refine Kd.R_append_rows_step kp (w0 := w) w.heap.size rfl (.tmp 59) (.tmp 68) 25 65 (.agg #[.string ⟨#[]⟩, .string ⟨#[]⟩]) 32 rfl Tryz.underlying25 info_spair rfl (show 0 < 2 by decide) (by decide) (.slice (some ⟨g, 0, none⟩) f.length c3) ((toP f).take f.length) _ _ _ _ (fun _ => True) (fun _ => False) rfl rfl (Kd.R_mono HV5.out (fun _ _ => trivial)) (kp_rows HC1.out) (fun _ _ h => h) (fun _ h => h.elim) (fun _ _ => trivial) HB5.out HB5.out.size (by rw [hl1]; simp only [List.length_take, List.length_nil]; omega) ?_
              intro v2 w6 ho hb hg hat
              have HO6 := Aside0.mk ho
              have HB6 := Aside0.mk hb
              clear ho hb hg hat
              refine hK.out _ _ ?_
              clear hK K
              refine norm_ (a' := ?_) ?_ ?_
              rotate_left
              · show Act.put _ (some 69) _ = _
                simp only [Act.put, List.setIfInBounds_toArray, List.set_cons_zero, List.set_cons_succ, i64_w, i32_w]
                rfl
              refine pure_ (i := 13) (N := some 3) (v := ?_) (a' := ?_) #[true, true, true, true, true, true, true, true, true, true, true, true, true, true] rfl rfl (by kernel_rfl) (fun _ _ _ h => h) (Or.inl ⟨by rfl, ?_⟩) ?_ ?_
              rotate_left
              · intro w'
                go_simp
                with_reducible rfl
              rotate_left
              · simp only [Act.put, List.setIfInBounds_toArray, List.set_cons_zero, List.set_cons_succ, i64_w, i32_w]
                rfl
              refine done_ (by kernel_rfl) ?_
              go_wp2
              go_roundw
              case rel => exact ⟨i + 1, by go_num, by omega, ⟨by rw [HT.out, HPOS.out]; exact HO6.out⟩, HB6⟩
              case measure => simp [intOf]; omega
    · have hall := HO.out
      rw [List.take_of_length_le (by omega)] at hall
      have HALL := Aside0.mk hall
      clear hall HO
      go_wp2
      go_ret
      exact ⟨_, rfl, HALL.out, HB.out⟩
theorem FitPairs {A : Option Addr} {c : Nat} (l : List (BA × BA)) (w : World) (h : kp.C w A l.length l) (hn : l.length ≤ 2147483647) :
    Calls Tryz.prog 20 #[.slice A l.length c] w fun e w' => ∃ v, e = .returned v ∧ kp.R 65 w' w.heap.size (fun _ => True) v (toP (fitM (ofP l))) ∧ Below w.heap.size w w' := FitPairsL l w h (by omega)
end Go.Proofs.YtididniafloogaaGreatDoor.Maps
