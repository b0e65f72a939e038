/- spec.mapsSorted: texts, rising. -/
import Derived.Test.YtididniafloogaaGreatDoorFitPlain
import Derived.IntWalk
import Derived.Laws.Cover1
import Derived.Test.YtididniafloogaaGreatDoorPairsFn
namespace Go.Proofs.YtididniafloogaaGreatDoor.Maps
open Go.RowKit Go.Proofs.YtididniafloogaaGreatDoorW.PrintWords Go.Proofs.YtididniafloogaaGreatDoorW.PrintLast Go.Proofs.YtididniafloogaaGreatDoor.Str Go.Proofs.YtididniafloogaaGreatDoor.Kit Go.Proofs.YtididniafloogaaGreatDoor.Flat Go.Proofs.YtididniafloogaaGreatDoor.MapV Go.Proofs.YtididniafloogaaGreatDoor.Frame
set_option linter.unusedVariables false
set_option linter.unusedSimpArgs false
theorem info_str9 : (Tryz.prog.info? 9).map (fun i => (i.zero, i.size, i.bytes)) = some (some (.string ⟨#[]⟩), 1, 16) := by kernel_rfl
/-- texts that rise -/
def Srt (ys : List BA) : Prop := ys.Pairwise fun x y => ¬ lb y < lb x
theorem srt_ins {ys : List BA} {x : BA} {k : Nat} (hk : k ≤ ys.length) (hs : Srt ys) (h1 : ∀ (j : Nat) (hj : j < ys.length), j < k → ¬ lb x < lb ys[j]) (h2 : ∀ (j : Nat) (hj : j < ys.length), k ≤ j → lb x < lb ys[j]) : Srt (ys.take k ++ ([x] ++ ys.drop k)) := by
  unfold Srt
  rw [List.pairwise_append]
  refine ⟨hs.sublist (List.take_sublist _ _), ?_, ?_⟩
  · rw [List.singleton_append, List.pairwise_cons]
    refine ⟨fun y hy h => ?_, hs.sublist (List.drop_sublist _ _)⟩
    obtain ⟨j, hj, rfl⟩ := List.getElem_of_mem hy
    rw [List.getElem_drop] at h
    exact lt_asymm h (h2 (k + j) (by rw [List.length_drop] at hj; omega) (by omega))
  · intro y hy z hz
    obtain ⟨j, hj, rfl⟩ := List.getElem_of_mem hy
    have hj' : j < k ∧ j < ys.length := by rw [List.length_take] at hj; omega
    rw [List.getElem_take]
    rcases List.mem_append.1 hz with hz | hz
    · rw [List.mem_singleton.1 hz]
      exact h1 j hj'.2 hj'.1
    · obtain ⟨i, hi, rfl⟩ := List.getElem_of_mem hz
      rw [List.getElem_drop]
      exact List.pairwise_iff_getElem.1 hs j (k + i) hj'.2 (by rw [List.length_drop] at hi; omega) (by omega)
theorem srt_low {ys : List BA} {x : BA} {k : Nat} (hs : Srt ys) (hk : k < ys.length) (h : ¬ lb x < lb ys[k]) : ∀ (j : Nat) (hj : j < ys.length), j < k + 1 → ¬ lb x < lb ys[j] := by
  intro j hj hjk hx
  by_cases e : j = k
  · subst e; exact h hx
  · have h3 := List.pairwise_iff_getElem.1 hs j k hj hk (by omega)
    rcases lt_total (lb ys[j]) (lb ys[k]) with e | e | e
    · exact h (lt_trans hx e)
    · rw [e] at hx; exact h hx
    · exact h3 e
theorem perm_ins (ys : List BA) (x : BA) (k : Nat) : (ys.take k ++ ([x] ++ ys.drop k)).Perm (ys ++ [x]) := by
  have h1 : (ys.take k ++ ([x] ++ ys.drop k)).Perm (x :: (ys.take k ++ ys.drop k)) := List.perm_middle
  rw [List.take_append_drop] at h1
  exact h1.trans (List.perm_append_singleton x ys).symm
theorem srt_unique {xs ys : List BA} (hx : Srt xs) (hy : Srt ys) (hp : xs.Perm ys) : xs = ys := by
  refine List.Perm.eq_of_pairwise (le := fun x y => ¬ lb y < lb x) (fun a b _ _ h1 h2 => ?_) hx hy hp
  rcases lt_total (lb a) (lb b) with e | e | e
  · exact absurd e h2
  · exact lb_inj e
  · exact absurd e h1
theorem own_one_s (w : World) (base : Nat) (e : TypeId) (hb : base ≤ w.heap.size) (ok : Nat → Prop) (hok : ok w.heap.size) (p : BA) : Kd.string.R e (w.alloc (.cells #[.string p] e)) base ok (.slice (some ⟨w.heap.size, 0, none⟩) 1 1) [p] := by
  refine (show (flat (fun x : BA => [Value.string x]) 1 (fun _ => rfl) (fun x u hu => by rw [List.mem_singleton.1 hu]; rfl)).R e (w.alloc (.cells #[.string p] e)) base ok (.slice (some ⟨w.heap.size, 0, none⟩) 1 1) [p] from R_flat.2 ⟨fun b hbb => ?_, rfl, .inr ⟨w.heap.size, 1, _, rfl, hb, cb_new _ _, Nat.le_refl _, by unfold maxLen; omega, rfl, rfl⟩⟩)
  have : w.heap.size = b := by simpa [Value.ownBlock] using hbb
  subst this; exact hok
theorem strs_drop {w : World} {g n k : Nat} {xs : List BA} (h : Kd.string.C w (some ⟨g, 0, none⟩) n xs) (hk : k < n) : Kd.string.C w (some ⟨g, k, none⟩) (n - k) (xs.drop k) := by
  obtain rfl : xs.length = n := h.1
  obtain ⟨bk, off, hA, hb, hc⟩ := strs_open h (by omega)
  injection hA with hA
  injection hA with e1 e2
  subst e1 e2
  have hl : (xs.drop k).length = xs.length - k := List.length_drop
  have := strs_mk (w := w) (b := g) (o := k) (xs := xs.drop k) (by rw [hl]; have := h.2.1; omega) (fun j hj => by
    rw [List.getElem_drop]
    have := hc (k + j) (by omega)
    rw [Nat.zero_add] at this
    exact this)
  rw [hl] at this
  exact this
theorem strs_none (w : World) (A : Option Addr) : Kd.string.C w A 0 [] := ⟨rfl, by omega, fun h => absurd h (Nat.lt_irrefl 0)⟩
theorem strs_rows {w : World} {A : Option Addr} {n : Nat} {xs : List BA} (h : Kd.string.C w A n xs) : ReadsRow (fun (x : BA) cs => cs = [Value.string x]) 1 w A n xs := h
theorem strs_block {e : Nat} {w : World} {base : Nat} {ok : Nat → Prop} {v : Value} {xs : List BA} (h : Kd.string.R e w base ok v xs) : (v = .slice none 0 0 ∧ xs = []) ∨ ∃ g c, v = .slice (some ⟨g, 0, none⟩) xs.length c ∧ base ≤ g ∧ xs.length ≤ c := by
  have h' : (flat (fun x : BA => [Value.string x]) 1 (fun _ => rfl) (fun x u hu => by rw [List.mem_singleton.1 hu]; rfl)).R e w base ok v xs := h
  rcases (R_flat.1 h').2.2 with ⟨hv, h0⟩ | ⟨g, c3, cur, hv, hgb, hblk, hle, hcap, hcsz, htk⟩
  · exact .inl ⟨hv, List.eq_nil_of_length_eq_zero h0⟩
  · exact .inr ⟨g, c3, hv, hgb, hle⟩
set_option maxHeartbeats 25600000 in
set_option maxRecDepth 100000 in
theorem mapsSorted {A : Option Addr} {c : Nat} (l : List BA) (w : World) (h : Kd.string.C w A l.length l) (hn : l.length ≤ 17179869184) :
    Calls Tryz.prog 73 #[.slice A l.length c] w fun e w' => ∃ v ys, e = .returned v ∧ Kd.string.R 9 w' w.heap.size (fun _ => True) v ys ∧ ys.Perm l ∧ Srt ys ∧ Below w.heap.size w w' := by
  have H := Aside0.mk h
  have HB0 := Aside0.mk (Below.refl w.heap.size w)
  clear h
  go_enter Tryz.func73, Tryz.ntmps73
  go_wp2
  go_loopw [3, 4] (fun v3 v4 wr => ∃ (i : Nat) (ys : List BA), v4 = .int .i64 i ∧ i ≤ l.length ∧ Aside0 (Kd.string.R 9 wr w.heap.size (fun _ => True) v3 ys) ∧ Aside0 (ys.Perm (l.take i) ∧ Srt ys) ∧ Aside0 (Below w.heap.size w wr)) (fun _ v4 _ => l.length - (intOf v4).toNat)
  case atStart => exact ⟨0, [], rfl, by omega, ⟨Kd.R_nil _ _ _ _ _⟩, ⟨⟨List.Perm.refl _, List.Pairwise.nil⟩⟩, HB0⟩
  case round =>
    clear HB0
    obtain ⟨i, ys, rfl, hi, HO, HP, HB⟩ := hrel
    by_cases hlt : i < l.length
    · obtain ⟨b0, o0, rfl, hb0, hc0⟩ := strs_open H.out (by omega)
      have G0 := Aside0.mk (pw_cell_below HB.out (hc0 i hlt))
      have q0 : (0 : Int) ≤ (i : Int) := by omega
      have q1 : (i : Int) < (l.length : Int) := by omega
      have HT := Aside0.mk (show l.take (i + 1) = l.take i ++ [l[i]] by rw [List.take_succ_eq_append_getElem hlt])
      have hyl : ys.length ≤ i := by have := HP.out.1.length_eq; rw [List.length_take] at this; omega
      have HYL := Aside0.mk (show ys.length ≤ 17179869184 by omega)
      generalize l[i] = x at G0 HT
      clear hc0
      obtain ⟨wo, rfl⟩ : ∃ wo, wo = wr := ⟨_, rfl⟩
      rcases strs_block HO.out with ⟨hv, h0⟩ | ⟨g, c3, hv, hgb, hle⟩
      · -- nothing is there yet
        subst hv
        subst h0
        have HPOS := Aside0.mk (show ([] ++ ([x] ++ []) : List BA).Perm (l.take (i + 1)) ∧ Srt ([] ++ ([x] ++ [])) from ⟨by rw [HT.out]; exact HP.out.1.append_right _, by simp [Srt]⟩)
        clear HP HT
        go_wp2
        go_loopw [5] (fun v5 wq => v5 = .int .i64 0 ∧ Drawn0 wo wq) (fun v5 _ => 0)
        case atStart => exact ⟨rfl, Drawn0.refl _⟩
        case round =>
          obtain ⟨rfl, HD⟩ := hrel
          have d0 : decide ((0 : Int) < 0) = false := rfl
          go_wp2_with fail
          go_quiet (fail)
          obtain ⟨w2, hw2⟩ : ∃ w2, wr.drewN nq = w2 := ⟨_, rfl⟩
          rw [hw2]
          have HD2 := Aside0.mk (HD.step nq)
          rw [hw2] at HD2
          clear hw2 HD
          have hb2 := (hb_then HB.out HD2.out.below)
          have HB2 := Aside0.mk hb2
          have g0 := pw_cell_below HD2.out.below G0.out
          have hsz2 := hb2.size
          clear hb2
          go_wp2_with fail
          refine start_ (n := 14) (S := fun w' => w'.cell? ⟨b0, o0 + i, none⟩ = some (.string x)) (ds := [7, 11, 12]) #[false, false, false, false, false, false, false, false, false, false, false, false, false, false] (by kernel_rfl) rfl rfl (g0) (fun hHeld => ?_)
          refine pure_ (i := 0) (N := some 30) (v := ?_) (a' := ?_) #[true, false, false, false, false, false, false, false, false, false, false, false, false, false] rfl rfl (by kernel_rfl) (fun _ _ _ h => h) (Or.inl ⟨by rfl, ?_⟩) ?_ ?_
          rotate_left
          · intro w'
            go_simp
            with_reducible rfl
          rotate_left
          · simp only [Act.put, List.setIfInBounds_toArray, List.set_cons_zero, List.set_cons_succ, i64_w, i32_w]
            rfl
          refine pure_ (i := 1) (N := some 31) (v := ?_) (a' := ?_) #[true, true, false, false, false, false, false, false, false, false, false, false, false, false] rfl rfl (by kernel_rfl) (fun _ _ _ h => h) (Or.inl ⟨by rfl, ?_⟩) ?_ ?_
          rotate_left
          · intro w'
            go_simp
            with_reducible rfl
          rotate_left
          · simp only [Act.put, List.setIfInBounds_toArray, List.set_cons_zero, List.set_cons_succ, i64_w, i32_w]
            rfl
          refine pure_ (i := 2) (N := some 32) (v := ?_) (a' := ?_) #[true, true, true, false, false, false, false, false, false, false, false, false, false, false] rfl rfl (by kernel_rfl) (fun _ _ _ h => h) (Or.inl ⟨by rfl, ?_⟩) ?_ ?_
          rotate_left
          · intro w'
            go_simp
            with_reducible rfl
          rotate_left
          · simp only [Act.put, List.setIfInBounds_toArray, List.set_cons_zero, List.set_cons_succ, i64_w, i32_w]
            rfl
          refine pure_ (i := 3) (N := some 33) (v := ?_) (a' := ?_) #[true, true, true, true, false, false, false, false, false, false, false, false, false, false] rfl rfl (by kernel_rfl) (fun _ _ _ h => h) (Or.inl ⟨by rfl, ?_⟩) ?_ ?_
          rotate_left
          · intro w'
            go_simp
            with_reducible rfl
          rotate_left
          · simp only [Act.put, List.setIfInBounds_toArray, List.set_cons_zero, List.set_cons_succ, i64_w, i32_w]
            rfl
          refine pure_ (i := 4) (N := some 34) (v := ?_) (a' := ?_) #[true, true, true, true, true, false, false, false, false, false, false, false, false, false] rfl rfl (by kernel_rfl) (fun _ _ _ h => h) (Or.inl ⟨by rfl, ?_⟩) ?_ ?_
          rotate_left
          · intro w'
            go_simp
            with_reducible rfl
          rotate_left
          · simp only [Act.put, List.setIfInBounds_toArray, List.set_cons_zero, List.set_cons_succ, i64_w, i32_w]
            rfl
          refine pure_ (i := 5) (N := some 35) (v := ?_) (a' := ?_) #[true, true, true, true, true, true, false, false, false, false, false, false, false, false] rfl rfl (by kernel_rfl) (fun _ _ _ h => h) (Or.inl ⟨by rfl, ?_⟩) ?_ ?_
          rotate_left
          · intro w'
            go_simp
            with_reducible rfl
          rotate_left
          · simp only [Act.put, List.setIfInBounds_toArray, List.set_cons_zero, List.set_cons_succ, i64_w, i32_w]
            rfl
          refine pure_ (i := 8) (N := some 38) (v := ?_) (a' := ?_) #[true, true, true, true, true, true, false, false, true, false, false, false, false, false] rfl rfl (by kernel_rfl) (fun _ _ _ h => h) (Or.inl ⟨by rfl, ?_⟩) ?_ ?_
          rotate_left
          · intro w'
            go_simp
            with_reducible rfl
          rotate_left
          · simp only [Act.put, List.setIfInBounds_toArray, List.set_cons_zero, List.set_cons_succ, i64_w, i32_w]
            rfl
          refine pure_ (i := 9) (N := some 39) (v := ?_) (a' := ?_) #[true, true, true, true, true, true, false, false, true, true, false, false, false, false] rfl rfl (by kernel_rfl) (fun _ _ _ h => h) (Or.inl ⟨by rfl, ?_⟩) ?_ ?_
          rotate_left
          · intro w'
            go_simp
            with_reducible rfl
          rotate_left
          · simp only [Act.put, List.setIfInBounds_toArray, List.set_cons_zero, List.set_cons_succ, i64_w, i32_w]
            rfl
          refine pure_ (i := 10) (N := some 40) (v := ?_) (a' := ?_) #[true, true, true, true, true, true, false, false, true, true, true, false, false, false] rfl rfl (by kernel_rfl) (fun _ _ _ h => h) (Or.inl ⟨by rfl, ?_⟩) ?_ ?_
          rotate_left
          · intro w'
            go_simp
            with_reducible rfl
          rotate_left
          · simp only [Act.put, List.setIfInBounds_toArray, List.set_cons_zero, List.set_cons_succ, i64_w, i32_w]
            rfl
          refine take_ (i := 6) (N := some 36) (v := ?_) (a' := ?_) #[true, true, true, true, true, true, true, false, true, true, true, false, false, false] rfl rfl (by kernel_rfl) (fun _ _ _ h => h) (Or.inl ⟨by rfl, ?_⟩) hHeld ?_ ?_
          rotate_left
          · intro w' s0
            go_simp
            with_reducible rfl
          rotate_left
          · simp only [Act.put, List.setIfInBounds_toArray, List.set_cons_zero, List.set_cons_succ, i64_w, i32_w]
            rfl
          refine last_ (i := 7) (N := some 37) #[true, true, true, true, true, true, true, true, true, true, true, false, false, false] rfl rfl (by kernel_rfl) (by decide) (fun K hK => ?_)
          refine value_ (w1 := ?_) (v := ?_) (by rfl) rfl ?_ ?_
          rotate_left 2
          · go_simp
            constructor
            · rfl
            · rfl
          refine hK.out _ _ ?_
          clear hK K
          refine norm_ (a' := ?_) ?_ ?_
          rotate_left
          · show Act.put _ (some 37) _ = _
            simp only [Act.put, List.setIfInBounds_toArray, List.set_cons_zero, List.set_cons_succ, i64_w, i32_w]
            rfl
          refine last_ (i := 11) (N := some 41) #[true, true, true, true, true, true, true, true, true, true, true, true, false, false] rfl rfl (by kernel_rfl) (by decide) (fun K hK => ?_)
          refine Kd.R_append_rows_step Kd.string (w0 := w) w.heap.size rfl (.tmp 37) (.tmp 40) 22 9 (.string ⟨#[]⟩) 16 rfl Tryz.underlying22 info_str9 rfl (show 0 < 1 by decide) (by decide) (.slice (some ⟨w2.heap.size, 0, none⟩) 1 1) [x] ([] : List BA) _ 0 _ (fun _ => True) (fun _ => False) rfl rfl (Kd.R_drew (own_one_s w2 w.heap.size _ hsz2 _ trivial x)) (strs_rows (strs_none _ _)) (fun _ _ h => h) (fun _ h => h.elim) (fun _ _ => trivial) (below_drew (below_alloc HB2.out _)) (below_drew (below_alloc HB2.out _)).size (by simp only [List.length_singleton]; omega) ?_
          intro v1 w5 ho hb hg hat
          obtain ⟨A1, c1, rfl, hle1, hC1⟩ := Kd.R_reads ho
          have HC1 := Aside0.mk hC1
          have HB5 := Aside0.mk hb
          have HV5 := Aside0.mk (show True from trivial)
          have hl1 : ([x] ++ ([] : List BA)).length = 1 + 0 := rfl
          clear ho hb hg hat hC1 hle1
          refine hK.out _ _ ?_
          clear hK K
          refine norm_ (a' := ?_) ?_ ?_
          rotate_left
          · show Act.put _ (some 41) _ = _
            simp only [Act.put, List.setIfInBounds_toArray, List.set_cons_zero, List.set_cons_succ, i64_w, i32_w]
            rfl
          refine last_ (i := 12) (N := some 42) #[true, true, true, true, true, true, true, true, true, true, true, true, true, false] rfl rfl (by kernel_rfl) (by decide) (fun K hK => ?_)
          refine Kd.R_append_rows_step Kd.string (w0 := w) w.heap.size rfl (.tmp 32) (.tmp 41) 22 9 (.string ⟨#[]⟩) 16 rfl Tryz.underlying22 info_str9 rfl (show 0 < 1 by decide) (by decide) (.slice none 0 0) ([] : List BA) _ _ _ _ (fun _ => True) (fun _ => False) rfl rfl (Kd.R_nil _ _ _ _ _) (strs_rows HC1.out) (fun _ _ h => h) (fun _ h => h.elim) (fun _ _ => trivial) HB5.out HB5.out.size (by rw [hl1]; simp only [List.length_take, List.length_nil]; omega) ?_
          intro v2 w6 ho hb hg hat
          have HO6 := Aside0.mk ho
          have HB6 := Aside0.mk hb
          clear ho hb hg hat
          refine hK.out _ _ ?_
          clear hK K
          refine norm_ (a' := ?_) ?_ ?_
          rotate_left
          · show Act.put _ (some 42) _ = _
            simp only [Act.put, List.setIfInBounds_toArray, List.set_cons_zero, List.set_cons_succ, i64_w, i32_w]
            rfl
          refine pure_ (i := 13) (N := some 3) (v := ?_) (a' := ?_) #[true, true, true, true, true, true, true, true, true, true, true, true, true, true] rfl rfl (by kernel_rfl) (fun _ _ _ h => h) (Or.inl ⟨by rfl, ?_⟩) ?_ ?_
          rotate_left
          · intro w'
            go_simp
            with_reducible rfl
          rotate_left
          · simp only [Act.put, List.setIfInBounds_toArray, List.set_cons_zero, List.set_cons_succ, i64_w, i32_w]
            rfl
          refine done_ (by kernel_rfl) ?_
          go_wp2
          go_roundw
          case rel => exact ⟨i + 1, _, by go_num, by omega, HO6, HPOS, HB6⟩
          case measure => simp [intOf]; omega
      · subst hv
        have HC3 := Aside0.mk (Kd.R_reads' HO.out).2.2
        go_wp2
        go_loopw [5] (fun v5 wq => ∃ k : Nat, v5 = .int .i64 k ∧ k ≤ ys.length ∧ Aside0 (∀ (j : Nat) (hj : j < ys.length), k ≤ j → lb x < lb ys[j]) ∧ Drawn0 wo wq) (fun v5 _ => (intOf v5).toNat)
        case atStart => exact ⟨ys.length, rfl, Nat.le_refl _, ⟨fun j hj h => absurd hj (by omega)⟩, Drawn0.refl _⟩
        case round =>
          obtain ⟨k, rfl, hk, HK, HD⟩ := hrel
          have q2 : (0 : Int) ≤ (k : Int) := by omega
          by_cases hk0 : k = 0
          · have H1 := Aside0.mk (show ∀ (j : Nat) (hj : j < ys.length), j < k → ¬ lb x < lb ys[j] from fun j hj h => by omega)
            have d0 : decide (0 < k) = false := decide_eq_false (by omega)
            clear hk0
            go_wp2_with fail
            go_quiet (fail)
            obtain ⟨w2, hw2⟩ : ∃ w2, wr.drewN nq = w2 := ⟨_, rfl⟩
            rw [hw2]
            have HD2 := Aside0.mk (HD.step nq)
            rw [hw2] at HD2
            clear hw2 HD
            clear d0
            have HPOS := Aside0.mk (show (ys.take k ++ ([x] ++ ys.drop k)).Perm (l.take (i + 1)) ∧ Srt (ys.take k ++ ([x] ++ ys.drop k)) from ⟨(perm_ins ys x k).trans (by rw [HT.out]; exact (HP.out.1.append_right _)), srt_ins hk HP.out.2 H1.out HK.out⟩)
            clear H1 HK HP HT
            by_cases hkm : k < ys.length
            · have hck : ¬ c3 = k := by omega
              have hb2 := (hb_then HB.out HD2.out.below)
              have HB2 := Aside0.mk hb2
              have g0 := pw_cell_below HD2.out.below G0.out
              have hsz2 := hb2.size
              have hkc : k ≤ c3 := Nat.le_trans hk hle
              have HOK := Aside0.mk (Kd.R_mono (ok' := fun j => j ≠ w2.heap.size) (Kd.R_bound (Kd.R_below HO.out HD2.out.below)) (fun j hj => by have := hj.2.2.1; omega))
              have HDR := Aside0.mk (strs_drop (Kd.C_below HC3.out HD2.out.below) hkm)
              clear hb2
              go_wp2_with fail
              refine start_ (n := 14) (S := fun w' => w'.cell? ⟨b0, o0 + i, none⟩ = some (.string x)) (ds := [7, 11, 12]) #[false, false, false, false, false, false, false, false, false, false, false, false, false, false] (by kernel_rfl) rfl rfl (g0) (fun hHeld => ?_)
              refine pure_ (i := 0) (N := some 30) (v := ?_) (a' := ?_) #[true, false, false, false, false, false, false, false, false, false, false, false, false, false] rfl rfl (by kernel_rfl) (fun _ _ _ h => h) (Or.inl ⟨by rfl, ?_⟩) ?_ ?_
              rotate_left
              · intro w'
                go_simp
                with_reducible rfl
              rotate_left
              · simp only [Act.put, List.setIfInBounds_toArray, List.set_cons_zero, List.set_cons_succ, i64_w, i32_w]
                rfl
              refine pure_ (i := 1) (N := some 31) (v := ?_) (a' := ?_) #[true, true, false, false, false, false, false, false, false, false, false, false, false, false] rfl rfl (by kernel_rfl) (fun _ _ _ h => h) (Or.inl ⟨by rfl, ?_⟩) ?_ ?_
              rotate_left
              · intro w'
                go_simp
                with_reducible rfl
              rotate_left
              · simp only [Act.put, List.setIfInBounds_toArray, List.set_cons_zero, List.set_cons_succ, i64_w, i32_w]
                rfl
              refine pure_ (i := 2) (N := some 32) (v := ?_) (a' := ?_) #[true, true, true, false, false, false, false, false, false, false, false, false, false, false] rfl rfl (by kernel_rfl) (fun _ _ _ h => h) (Or.inl ⟨by rfl, ?_⟩) ?_ ?_
              rotate_left
              · intro w'
                go_simp
                with_reducible rfl
              rotate_left
              · simp only [Act.put, List.setIfInBounds_toArray, List.set_cons_zero, List.set_cons_succ, i64_w, i32_w]
                rfl
              refine pure_ (i := 3) (N := some 33) (v := ?_) (a' := ?_) #[true, true, true, true, false, false, false, false, false, false, false, false, false, false] rfl rfl (by kernel_rfl) (fun _ _ _ h => h) (Or.inl ⟨by rfl, ?_⟩) ?_ ?_
              rotate_left
              · intro w'
                go_simp
                with_reducible rfl
              rotate_left
              · simp only [Act.put, List.setIfInBounds_toArray, List.set_cons_zero, List.set_cons_succ, i64_w, i32_w]
                rfl
              refine pure_ (i := 4) (N := some 34) (v := ?_) (a' := ?_) #[true, true, true, true, true, false, false, false, false, false, false, false, false, false] rfl rfl (by kernel_rfl) (fun _ _ _ h => h) (Or.inl ⟨by rfl, ?_⟩) ?_ ?_
              rotate_left
              · intro w'
                go_simp
                with_reducible rfl
              rotate_left
              · simp only [Act.put, List.setIfInBounds_toArray, List.set_cons_zero, List.set_cons_succ, i64_w, i32_w]
                rfl
              refine pure_ (i := 5) (N := some 35) (v := ?_) (a' := ?_) #[true, true, true, true, true, true, false, false, false, false, false, false, false, false] rfl rfl (by kernel_rfl) (fun _ _ _ h => h) (Or.inl ⟨by rfl, ?_⟩) ?_ ?_
              rotate_left
              · intro w'
                go_simp
                with_reducible rfl
              rotate_left
              · simp only [Act.put, List.setIfInBounds_toArray, List.set_cons_zero, List.set_cons_succ, i64_w, i32_w]
                rfl
              refine pure_ (i := 8) (N := some 38) (v := ?_) (a' := ?_) #[true, true, true, true, true, true, false, false, true, false, false, false, false, false] rfl rfl (by kernel_rfl) (fun _ _ _ h => h) (Or.inl ⟨by rfl, ?_⟩) ?_ ?_
              rotate_left
              · intro w'
                go_simp
                with_reducible rfl
              rotate_left
              · simp only [Act.put, List.setIfInBounds_toArray, List.set_cons_zero, List.set_cons_succ, i64_w, i32_w]
                rfl
              refine pure_ (i := 9) (N := some 39) (v := ?_) (a' := ?_) #[true, true, true, true, true, true, false, false, true, true, false, false, false, false] rfl rfl (by kernel_rfl) (fun _ _ _ h => h) (Or.inl ⟨by rfl, ?_⟩) ?_ ?_
              rotate_left
              · intro w'
                go_simp
                with_reducible rfl
              rotate_left
              · simp only [Act.put, List.setIfInBounds_toArray, List.set_cons_zero, List.set_cons_succ, i64_w, i32_w]
                rfl
              refine pure_ (i := 10) (N := some 40) (v := ?_) (a' := ?_) #[true, true, true, true, true, true, false, false, true, true, true, false, false, false] rfl rfl (by kernel_rfl) (fun _ _ _ h => h) (Or.inl ⟨by rfl, ?_⟩) ?_ ?_
              rotate_left
              · intro w'
                go_simp
                with_reducible rfl
              rotate_left
              · simp only [Act.put, List.setIfInBounds_toArray, List.set_cons_zero, List.set_cons_succ, i64_w, i32_w]
                rfl
              refine take_ (i := 6) (N := some 36) (v := ?_) (a' := ?_) #[true, true, true, true, true, true, true, false, true, true, true, false, false, false] rfl rfl (by kernel_rfl) (fun _ _ _ h => h) (Or.inl ⟨by rfl, ?_⟩) hHeld ?_ ?_
              rotate_left
              · intro w' s0
                go_simp
                with_reducible rfl
              rotate_left
              · simp only [Act.put, List.setIfInBounds_toArray, List.set_cons_zero, List.set_cons_succ, i64_w, i32_w]
                rfl
              refine last_ (i := 7) (N := some 37) #[true, true, true, true, true, true, true, true, true, true, true, false, false, false] rfl rfl (by kernel_rfl) (by decide) (fun K hK => ?_)
              refine value_ (w1 := ?_) (v := ?_) (by rfl) rfl ?_ ?_
              rotate_left 2
              · go_simp
                constructor
                · rfl
                · rfl
              refine hK.out _ _ ?_
              clear hK K
              refine norm_ (a' := ?_) ?_ ?_
              rotate_left
              · show Act.put _ (some 37) _ = _
                simp only [Act.put, List.setIfInBounds_toArray, List.set_cons_zero, List.set_cons_succ, i64_w, i32_w]
                rfl
              refine last_ (i := 11) (N := some 41) #[true, true, true, true, true, true, true, true, true, true, true, true, false, false] rfl rfl (by kernel_rfl) (by decide) (fun K hK => ?_)
              refine Kd.R_append_rows_step Kd.string (w0 := w) w.heap.size rfl (.tmp 37) (.tmp 40) 22 9 (.string ⟨#[]⟩) 16 rfl Tryz.underlying22 info_str9 rfl (show 0 < 1 by decide) (by decide) (.slice (some ⟨w2.heap.size, 0, none⟩) 1 1) [x] (ys.drop k) _ (ys.length - k) _ (fun _ => True) (fun _ => False) rfl rfl (Kd.R_drew (own_one_s w2 w.heap.size _ hsz2 _ trivial x)) (strs_rows (Kd.C_drew (Kd.C_alloc HDR.out _))) (fun _ _ h => h) (fun _ h => h.elim) (fun _ _ => trivial) (below_drew (below_alloc HB2.out _)) (below_drew (below_alloc HB2.out _)).size (by simp only [List.length_singleton]; omega) ?_
              intro v1 w5 ho hb hg hat
              obtain ⟨A1, c1, rfl, hle1, hC1⟩ := Kd.R_reads ho
              have HC1 := Aside0.mk hC1
              have HB5 := Aside0.mk hb
              have HV5 := Aside0.mk (Kd.R_take (Kd.R_grown (Kd.R_drew (Kd.R_alloc HOK.out _)) hg (fun j hj e => by injection e with e; exact hj e)) hk)
              have hl1 : ([x] ++ (ys.drop k)).length = 1 + (ys.length - k) := by simp; omega
              clear ho hb hg hat hC1 hle1
              refine hK.out _ _ ?_
              clear hK K
              refine norm_ (a' := ?_) ?_ ?_
              rotate_left
              · show Act.put _ (some 41) _ = _
                simp only [Act.put, List.setIfInBounds_toArray, List.set_cons_zero, List.set_cons_succ, i64_w, i32_w]
                rfl
              refine last_ (i := 12) (N := some 42) #[true, true, true, true, true, true, true, true, true, true, true, true, true, false] rfl rfl (by kernel_rfl) (by decide) (fun K hK => ?_)
              refine Kd.R_append_rows_step Kd.string (w0 := w) w.heap.size rfl (.tmp 32) (.tmp 41) 22 9 (.string ⟨#[]⟩) 16 rfl Tryz.underlying22 info_str9 rfl (show 0 < 1 by decide) (by decide) (.slice (some ⟨g, 0, none⟩) k c3) (ys.take k) _ _ _ _ (fun _ => True) (fun _ => False) rfl rfl (Kd.R_mono HV5.out (fun _ _ => trivial)) (strs_rows HC1.out) (fun _ _ h => h) (fun _ h => h.elim) (fun _ _ => trivial) HB5.out HB5.out.size (by rw [hl1]; simp only [List.length_take, List.length_nil]; omega) ?_
              intro v2 w6 ho hb hg hat
              have HO6 := Aside0.mk ho
              have HB6 := Aside0.mk hb
              clear ho hb hg hat
              refine hK.out _ _ ?_
              clear hK K
              refine norm_ (a' := ?_) ?_ ?_
              rotate_left
              · show Act.put _ (some 42) _ = _
                simp only [Act.put, List.setIfInBounds_toArray, List.set_cons_zero, List.set_cons_succ, i64_w, i32_w]
                rfl
              refine pure_ (i := 13) (N := some 3) (v := ?_) (a' := ?_) #[true, true, true, true, true, true, true, true, true, true, true, true, true, true] rfl rfl (by kernel_rfl) (fun _ _ _ h => h) (Or.inl ⟨by rfl, ?_⟩) ?_ ?_
              rotate_left
              · intro w'
                go_simp
                with_reducible rfl
              rotate_left
              · simp only [Act.put, List.setIfInBounds_toArray, List.set_cons_zero, List.set_cons_succ, i64_w, i32_w]
                rfl
              refine done_ (by kernel_rfl) ?_
              go_wp2
              go_roundw
              case rel => exact ⟨i + 1, _, by go_num, by omega, HO6, HPOS, HB6⟩
              case measure => simp [intOf]; omega
            · obtain rfl : k = ys.length := by omega
              rw [List.drop_length] at HPOS
              by_cases hck : c3 = ys.length
              · subst hck
                have hb2 := (hb_then HB.out HD2.out.below)
                have HB2 := Aside0.mk hb2
                have g0 := pw_cell_below HD2.out.below G0.out
                have hsz2 := hb2.size
                have hkc := hle
                have HOK := Aside0.mk (Kd.R_mono (ok' := fun j => j ≠ w2.heap.size) (Kd.R_bound (Kd.R_below HO.out HD2.out.below)) (fun j hj => by have := hj.2.2.1; omega))
                clear hb2
                go_wp2_with fail
                refine start_ (n := 14) (S := fun w' => w'.cell? ⟨b0, o0 + i, none⟩ = some (.string x)) (ds := [7, 11, 12]) #[false, false, false, false, false, false, false, false, false, false, false, false, false, false] (by kernel_rfl) rfl rfl (g0) (fun hHeld => ?_)
                refine pure_ (i := 0) (N := some 30) (v := ?_) (a' := ?_) #[true, false, false, false, false, false, false, false, false, false, false, false, false, false] rfl rfl (by kernel_rfl) (fun _ _ _ h => h) (Or.inl ⟨by rfl, ?_⟩) ?_ ?_
                rotate_left
                · intro w'
                  go_simp
                  with_reducible rfl
                rotate_left
                · simp only [Act.put, List.setIfInBounds_toArray, List.set_cons_zero, List.set_cons_succ, i64_w, i32_w]
                  rfl
                refine pure_ (i := 1) (N := some 31) (v := ?_) (a' := ?_) #[true, true, false, false, false, false, false, false, false, false, false, false, false, false] rfl rfl (by kernel_rfl) (fun _ _ _ h => h) (Or.inl ⟨by rfl, ?_⟩) ?_ ?_
                rotate_left
                · intro w'
                  go_simp
                  with_reducible rfl
                rotate_left
                · simp only [Act.put, List.setIfInBounds_toArray, List.set_cons_zero, List.set_cons_succ, i64_w, i32_w]
                  rfl
                refine pure_ (i := 2) (N := some 32) (v := ?_) (a' := ?_) #[true, true, true, false, false, false, false, false, false, false, false, false, false, false] rfl rfl (by kernel_rfl) (fun _ _ _ h => h) (Or.inl ⟨by rfl, ?_⟩) ?_ ?_
                rotate_left
                · intro w'
                  go_simp
                  with_reducible rfl
                rotate_left
                · simp only [Act.put, List.setIfInBounds_toArray, List.set_cons_zero, List.set_cons_succ, i64_w, i32_w]
                  rfl
                refine pure_ (i := 3) (N := some 33) (v := ?_) (a' := ?_) #[true, true, true, true, false, false, false, false, false, false, false, false, false, false] rfl rfl (by kernel_rfl) (fun _ _ _ h => h) (Or.inl ⟨by rfl, ?_⟩) ?_ ?_
                rotate_left
                · intro w'
                  go_simp
                  with_reducible rfl
                rotate_left
                · simp only [Act.put, List.setIfInBounds_toArray, List.set_cons_zero, List.set_cons_succ, i64_w, i32_w]
                  rfl
                refine pure_ (i := 4) (N := some 34) (v := ?_) (a' := ?_) #[true, true, true, true, true, false, false, false, false, false, false, false, false, false] rfl rfl (by kernel_rfl) (fun _ _ _ h => h) (Or.inl ⟨by rfl, ?_⟩) ?_ ?_
                rotate_left
                · intro w'
                  go_simp
                  with_reducible rfl
                rotate_left
                · simp only [Act.put, List.setIfInBounds_toArray, List.set_cons_zero, List.set_cons_succ, i64_w, i32_w]
                  rfl
                refine pure_ (i := 5) (N := some 35) (v := ?_) (a' := ?_) #[true, true, true, true, true, true, false, false, false, false, false, false, false, false] rfl rfl (by kernel_rfl) (fun _ _ _ h => h) (Or.inl ⟨by rfl, ?_⟩) ?_ ?_
                rotate_left
                · intro w'
                  go_simp
                  with_reducible rfl
                rotate_left
                · simp only [Act.put, List.setIfInBounds_toArray, List.set_cons_zero, List.set_cons_succ, i64_w, i32_w]
                  rfl
                refine pure_ (i := 8) (N := some 38) (v := ?_) (a' := ?_) #[true, true, true, true, true, true, false, false, true, false, false, false, false, false] rfl rfl (by kernel_rfl) (fun _ _ _ h => h) (Or.inl ⟨by rfl, ?_⟩) ?_ ?_
                rotate_left
                · intro w'
                  go_simp
                  with_reducible rfl
                rotate_left
                · simp only [Act.put, List.setIfInBounds_toArray, List.set_cons_zero, List.set_cons_succ, i64_w, i32_w]
                  rfl
                refine pure_ (i := 9) (N := some 39) (v := ?_) (a' := ?_) #[true, true, true, true, true, true, false, false, true, true, false, false, false, false] rfl rfl (by kernel_rfl) (fun _ _ _ h => h) (Or.inl ⟨by rfl, ?_⟩) ?_ ?_
                rotate_left
                · intro w'
                  go_simp
                  with_reducible rfl
                rotate_left
                · simp only [Act.put, List.setIfInBounds_toArray, List.set_cons_zero, List.set_cons_succ, i64_w, i32_w]
                  rfl
                refine pure_ (i := 10) (N := some 40) (v := ?_) (a' := ?_) #[true, true, true, true, true, true, false, false, true, true, true, false, false, false] rfl rfl (by kernel_rfl) (fun _ _ _ h => h) (Or.inl ⟨by rfl, ?_⟩) ?_ ?_
                rotate_left
                · intro w'
                  go_simp
                  with_reducible rfl
                rotate_left
                · simp only [Act.put, List.setIfInBounds_toArray, List.set_cons_zero, List.set_cons_succ, i64_w, i32_w]
                  rfl
                refine take_ (i := 6) (N := some 36) (v := ?_) (a' := ?_) #[true, true, true, true, true, true, true, false, true, true, true, false, false, false] rfl rfl (by kernel_rfl) (fun _ _ _ h => h) (Or.inl ⟨by rfl, ?_⟩) hHeld ?_ ?_
                rotate_left
                · intro w' s0
                  go_simp
                  with_reducible rfl
                rotate_left
                · simp only [Act.put, List.setIfInBounds_toArray, List.set_cons_zero, List.set_cons_succ, i64_w, i32_w]
                  rfl
                refine last_ (i := 7) (N := some 37) #[true, true, true, true, true, true, true, true, true, true, true, false, false, false] rfl rfl (by kernel_rfl) (by decide) (fun K hK => ?_)
                refine value_ (w1 := ?_) (v := ?_) (by rfl) rfl ?_ ?_
                rotate_left 2
                · go_simp
                  constructor
                  · rfl
                  · rfl
                refine hK.out _ _ ?_
                clear hK K
                refine norm_ (a' := ?_) ?_ ?_
                rotate_left
                · show Act.put _ (some 37) _ = _
                  simp only [Act.put, List.setIfInBounds_toArray, List.set_cons_zero, List.set_cons_succ, i64_w, i32_w]
                  rfl
                refine last_ (i := 11) (N := some 41) #[true, true, true, true, true, true, true, true, true, true, true, true, false, false] rfl rfl (by kernel_rfl) (by decide) (fun K hK => ?_)
                refine Kd.R_append_rows_step Kd.string (w0 := w) w.heap.size rfl (.tmp 37) (.tmp 40) 22 9 (.string ⟨#[]⟩) 16 rfl Tryz.underlying22 info_str9 rfl (show 0 < 1 by decide) (by decide) (.slice (some ⟨w2.heap.size, 0, none⟩) 1 1) [x] ([] : List BA) _ 0 _ (fun _ => True) (fun _ => False) rfl rfl (Kd.R_drew (own_one_s w2 w.heap.size _ hsz2 _ trivial x)) (strs_rows (strs_none _ _)) (fun _ _ h => h) (fun _ h => h.elim) (fun _ _ => trivial) (below_drew (below_alloc HB2.out _)) (below_drew (below_alloc HB2.out _)).size (by simp only [List.length_singleton]; omega) ?_
                intro v1 w5 ho hb hg hat
                obtain ⟨A1, c1, rfl, hle1, hC1⟩ := Kd.R_reads ho
                have HC1 := Aside0.mk hC1
                have HB5 := Aside0.mk hb
                have HV5 := Aside0.mk (Kd.R_take (Kd.R_grown (Kd.R_drew (Kd.R_alloc HOK.out _)) hg (fun j hj e => by injection e with e; exact hj e)) hk)
                have hl1 : ([x] ++ ([] : List BA)).length = 1 + 0 := rfl
                clear ho hb hg hat hC1 hle1
                refine hK.out _ _ ?_
                clear hK K
                refine norm_ (a' := ?_) ?_ ?_
                rotate_left
                · show Act.put _ (some 41) _ = _
                  simp only [Act.put, List.setIfInBounds_toArray, List.set_cons_zero, List.set_cons_succ, i64_w, i32_w]
                  rfl
                refine last_ (i := 12) (N := some 42) #[true, true, true, true, true, true, true, true, true, true, true, true, true, false] rfl rfl (by kernel_rfl) (by decide) (fun K hK => ?_)
                refine Kd.R_append_rows_step Kd.string (w0 := w) w.heap.size rfl (.tmp 32) (.tmp 41) 22 9 (.string ⟨#[]⟩) 16 rfl Tryz.underlying22 info_str9 rfl (show 0 < 1 by decide) (by decide) (.slice (some ⟨g, 0, none⟩) ys.length ys.length) (ys.take ys.length) _ _ _ _ (fun _ => True) (fun _ => False) rfl rfl (Kd.R_mono HV5.out (fun _ _ => trivial)) (strs_rows HC1.out) (fun _ _ h => h) (fun _ h => h.elim) (fun _ _ => trivial) HB5.out HB5.out.size (by rw [hl1]; simp only [List.length_take, List.length_nil]; omega) ?_
                intro v2 w6 ho hb hg hat
                have HO6 := Aside0.mk ho
                have HB6 := Aside0.mk hb
                clear ho hb hg hat
                refine hK.out _ _ ?_
                clear hK K
                refine norm_ (a' := ?_) ?_ ?_
                rotate_left
                · show Act.put _ (some 42) _ = _
                  simp only [Act.put, List.setIfInBounds_toArray, List.set_cons_zero, List.set_cons_succ, i64_w, i32_w]
                  rfl
                refine pure_ (i := 13) (N := some 3) (v := ?_) (a' := ?_) #[true, true, true, true, true, true, true, true, true, true, true, true, true, true] rfl rfl (by kernel_rfl) (fun _ _ _ h => h) (Or.inl ⟨by rfl, ?_⟩) ?_ ?_
                rotate_left
                · intro w'
                  go_simp
                  with_reducible rfl
                rotate_left
                · simp only [Act.put, List.setIfInBounds_toArray, List.set_cons_zero, List.set_cons_succ, i64_w, i32_w]
                  rfl
                refine done_ (by kernel_rfl) ?_
                go_wp2
                go_roundw
                case rel => exact ⟨i + 1, _, by go_num, by omega, HO6, HPOS, HB6⟩
                case measure => simp [intOf]; omega
              · skip
                have hb2 := (hb_then HB.out HD2.out.below)
                have HB2 := Aside0.mk hb2
                have g0 := pw_cell_below HD2.out.below G0.out
                have hsz2 := hb2.size
                have hkc := hle
                have HOK := Aside0.mk (Kd.R_mono (ok' := fun j => j ≠ w2.heap.size) (Kd.R_bound (Kd.R_below HO.out HD2.out.below)) (fun j hj => by have := hj.2.2.1; omega))
                clear hb2
                go_wp2_with fail
                refine start_ (n := 14) (S := fun w' => w'.cell? ⟨b0, o0 + i, none⟩ = some (.string x)) (ds := [7, 11, 12]) #[false, false, false, false, false, false, false, false, false, false, false, false, false, false] (by kernel_rfl) rfl rfl (g0) (fun hHeld => ?_)
                refine pure_ (i := 0) (N := some 30) (v := ?_) (a' := ?_) #[true, false, false, false, false, false, false, false, false, false, false, false, false, false] rfl rfl (by kernel_rfl) (fun _ _ _ h => h) (Or.inl ⟨by rfl, ?_⟩) ?_ ?_
                rotate_left
                · intro w'
                  go_simp
                  with_reducible rfl
                rotate_left
                · simp only [Act.put, List.setIfInBounds_toArray, List.set_cons_zero, List.set_cons_succ, i64_w, i32_w]
                  rfl
                refine pure_ (i := 1) (N := some 31) (v := ?_) (a' := ?_) #[true, true, false, false, false, false, false, false, false, false, false, false, false, false] rfl rfl (by kernel_rfl) (fun _ _ _ h => h) (Or.inl ⟨by rfl, ?_⟩) ?_ ?_
                rotate_left
                · intro w'
                  go_simp
                  with_reducible rfl
                rotate_left
                · simp only [Act.put, List.setIfInBounds_toArray, List.set_cons_zero, List.set_cons_succ, i64_w, i32_w]
                  rfl
                refine pure_ (i := 2) (N := some 32) (v := ?_) (a' := ?_) #[true, true, true, false, false, false, false, false, false, false, false, false, false, false] rfl rfl (by kernel_rfl) (fun _ _ _ h => h) (Or.inl ⟨by rfl, ?_⟩) ?_ ?_
                rotate_left
                · intro w'
                  go_simp
                  with_reducible rfl
                rotate_left
                · simp only [Act.put, List.setIfInBounds_toArray, List.set_cons_zero, List.set_cons_succ, i64_w, i32_w]
                  rfl
                refine pure_ (i := 3) (N := some 33) (v := ?_) (a' := ?_) #[true, true, true, true, false, false, false, false, false, false, false, false, false, false] rfl rfl (by kernel_rfl) (fun _ _ _ h => h) (Or.inl ⟨by rfl, ?_⟩) ?_ ?_
                rotate_left
                · intro w'
                  go_simp
                  with_reducible rfl
                rotate_left
                · simp only [Act.put, List.setIfInBounds_toArray, List.set_cons_zero, List.set_cons_succ, i64_w, i32_w]
                  rfl
                refine pure_ (i := 4) (N := some 34) (v := ?_) (a' := ?_) #[true, true, true, true, true, false, false, false, false, false, false, false, false, false] rfl rfl (by kernel_rfl) (fun _ _ _ h => h) (Or.inl ⟨by rfl, ?_⟩) ?_ ?_
                rotate_left
                · intro w'
                  go_simp
                  with_reducible rfl
                rotate_left
                · simp only [Act.put, List.setIfInBounds_toArray, List.set_cons_zero, List.set_cons_succ, i64_w, i32_w]
                  rfl
                refine pure_ (i := 5) (N := some 35) (v := ?_) (a' := ?_) #[true, true, true, true, true, true, false, false, false, false, false, false, false, false] rfl rfl (by kernel_rfl) (fun _ _ _ h => h) (Or.inl ⟨by rfl, ?_⟩) ?_ ?_
                rotate_left
                · intro w'
                  go_simp
                  with_reducible rfl
                rotate_left
                · simp only [Act.put, List.setIfInBounds_toArray, List.set_cons_zero, List.set_cons_succ, i64_w, i32_w]
                  rfl
                refine pure_ (i := 8) (N := some 38) (v := ?_) (a' := ?_) #[true, true, true, true, true, true, false, false, true, false, false, false, false, false] rfl rfl (by kernel_rfl) (fun _ _ _ h => h) (Or.inl ⟨by rfl, ?_⟩) ?_ ?_
                rotate_left
                · intro w'
                  go_simp
                  with_reducible rfl
                rotate_left
                · simp only [Act.put, List.setIfInBounds_toArray, List.set_cons_zero, List.set_cons_succ, i64_w, i32_w]
                  rfl
                refine pure_ (i := 9) (N := some 39) (v := ?_) (a' := ?_) #[true, true, true, true, true, true, false, false, true, true, false, false, false, false] rfl rfl (by kernel_rfl) (fun _ _ _ h => h) (Or.inl ⟨by rfl, ?_⟩) ?_ ?_
                rotate_left
                · intro w'
                  go_simp
                  with_reducible rfl
                rotate_left
                · simp only [Act.put, List.setIfInBounds_toArray, List.set_cons_zero, List.set_cons_succ, i64_w, i32_w]
                  rfl
                refine pure_ (i := 10) (N := some 40) (v := ?_) (a' := ?_) #[true, true, true, true, true, true, false, false, true, true, true, false, false, false] rfl rfl (by kernel_rfl) (fun _ _ _ h => h) (Or.inl ⟨by rfl, ?_⟩) ?_ ?_
                rotate_left
                · intro w'
                  go_simp
                  with_reducible rfl
                rotate_left
                · simp only [Act.put, List.setIfInBounds_toArray, List.set_cons_zero, List.set_cons_succ, i64_w, i32_w]
                  rfl
                refine take_ (i := 6) (N := some 36) (v := ?_) (a' := ?_) #[true, true, true, true, true, true, true, false, true, true, true, false, false, false] rfl rfl (by kernel_rfl) (fun _ _ _ h => h) (Or.inl ⟨by rfl, ?_⟩) hHeld ?_ ?_
                rotate_left
                · intro w' s0
                  go_simp
                  with_reducible rfl
                rotate_left
                · simp only [Act.put, List.setIfInBounds_toArray, List.set_cons_zero, List.set_cons_succ, i64_w, i32_w]
                  rfl
                refine last_ (i := 7) (N := some 37) #[true, true, true, true, true, true, true, true, true, true, true, false, false, false] rfl rfl (by kernel_rfl) (by decide) (fun K hK => ?_)
                refine value_ (w1 := ?_) (v := ?_) (by rfl) rfl ?_ ?_
                rotate_left 2
                · go_simp
                  constructor
                  · rfl
                  · rfl
                refine hK.out _ _ ?_
                clear hK K
                refine norm_ (a' := ?_) ?_ ?_
                rotate_left
                · show Act.put _ (some 37) _ = _
                  simp only [Act.put, List.setIfInBounds_toArray, List.set_cons_zero, List.set_cons_succ, i64_w, i32_w]
                  rfl
                refine last_ (i := 11) (N := some 41) #[true, true, true, true, true, true, true, true, true, true, true, true, false, false] rfl rfl (by kernel_rfl) (by decide) (fun K hK => ?_)
                refine Kd.R_append_rows_step Kd.string (w0 := w) w.heap.size rfl (.tmp 37) (.tmp 40) 22 9 (.string ⟨#[]⟩) 16 rfl Tryz.underlying22 info_str9 rfl (show 0 < 1 by decide) (by decide) (.slice (some ⟨w2.heap.size, 0, none⟩) 1 1) [x] ([] : List BA) _ 0 _ (fun _ => True) (fun _ => False) rfl rfl (Kd.R_drew (own_one_s w2 w.heap.size _ hsz2 _ trivial x)) (strs_rows (strs_none _ _)) (fun _ _ h => h) (fun _ h => h.elim) (fun _ _ => trivial) (below_drew (below_alloc HB2.out _)) (below_drew (below_alloc HB2.out _)).size (by simp only [List.length_singleton]; omega) ?_
                intro v1 w5 ho hb hg hat
                obtain ⟨A1, c1, rfl, hle1, hC1⟩ := Kd.R_reads ho
                have HC1 := Aside0.mk hC1
                have HB5 := Aside0.mk hb
                have HV5 := Aside0.mk (Kd.R_take (Kd.R_grown (Kd.R_drew (Kd.R_alloc HOK.out _)) hg (fun j hj e => by injection e with e; exact hj e)) hk)
                have hl1 : ([x] ++ ([] : List BA)).length = 1 + 0 := rfl
                clear ho hb hg hat hC1 hle1
                refine hK.out _ _ ?_
                clear hK K
                refine norm_ (a' := ?_) ?_ ?_
                rotate_left
                · show Act.put _ (some 41) _ = _
                  simp only [Act.put, List.setIfInBounds_toArray, List.set_cons_zero, List.set_cons_succ, i64_w, i32_w]
                  rfl
                refine last_ (i := 12) (N := some 42) #[true, true, true, true, true, true, true, true, true, true, true, true, true, false] rfl rfl (by kernel_rfl) (by decide) (fun K hK => ?_)
                refine Kd.R_append_rows_step Kd.string (w0 := w) w.heap.size rfl (.tmp 32) (.tmp 41) 22 9 (.string ⟨#[]⟩) 16 rfl Tryz.underlying22 info_str9 rfl (show 0 < 1 by decide) (by decide) (.slice (some ⟨g, 0, none⟩) ys.length c3) (ys.take ys.length) _ _ _ _ (fun _ => True) (fun _ => False) rfl rfl (Kd.R_mono HV5.out (fun _ _ => trivial)) (strs_rows HC1.out) (fun _ _ h => h) (fun _ h => h.elim) (fun _ _ => trivial) HB5.out HB5.out.size (by rw [hl1]; simp only [List.length_take, List.length_nil]; omega) ?_
                intro v2 w6 ho hb hg hat
                have HO6 := Aside0.mk ho
                have HB6 := Aside0.mk hb
                clear ho hb hg hat
                refine hK.out _ _ ?_
                clear hK K
                refine norm_ (a' := ?_) ?_ ?_
                rotate_left
                · show Act.put _ (some 42) _ = _
                  simp only [Act.put, List.setIfInBounds_toArray, List.set_cons_zero, List.set_cons_succ, i64_w, i32_w]
                  rfl
                refine pure_ (i := 13) (N := some 3) (v := ?_) (a' := ?_) #[true, true, true, true, true, true, true, true, true, true, true, true, true, true] rfl rfl (by kernel_rfl) (fun _ _ _ h => h) (Or.inl ⟨by rfl, ?_⟩) ?_ ?_
                rotate_left
                · intro w'
                  go_simp
                  with_reducible rfl
                rotate_left
                · simp only [Act.put, List.setIfInBounds_toArray, List.set_cons_zero, List.set_cons_succ, i64_w, i32_w]
                  rfl
                refine done_ (by kernel_rfl) ?_
                go_wp2
                go_roundw
                case rel => exact ⟨i + 1, _, by go_num, by omega, HO6, HPOS, HB6⟩
                case measure => simp [intOf]; omega
          · have d0 : decide (0 < k) = true := decide_eq_true (by omega)
            obtain ⟨kk, hkk⟩ : ∃ kk, k = kk + 1 := ⟨k - 1, by omega⟩
            have q3 : (k : Int) - 1 = (kk : Int) := by omega
            have q4 : (0 : Int) ≤ (kk : Int) := by omega
            have q6 : IntKind.i64.wrap (kk : Int) = (kk : Int) := IntWalk.i64_in _ (by have := HYL.out; omega)
            have q5 : (kk : Int) < (ys.length : Int) := by omega
            have hky : kk < ys.length := by omega
            have g0 := pw_cell_below HD.below G0.out
            obtain ⟨g', o', hA, hgl, hcell⟩ := strs_open HC3.out (by omega)
            injection hA with hA
            injection hA with e1 e2
            subst e1 e2
            have k0 := pw_cell_below HD.below (hcell kk hky)
            rw [Nat.zero_add] at k0
            clear hcell
            have hless : Op.bytesLess ys[kk].toList x.toList = decide (lb ys[kk] < lb x) := by rw [bytesLess_eq, toList_lb, toList_lb]
            by_cases hlt2 : lb x < lb ys[kk]
            · rw [decide_eq_false (lt_asymm hlt2)] at hless
              have heq : (ys[kk].toList == x.toList) = false := by rw [toList_lb, toList_lb]; simpa using (lt_ne hlt2).symm
              have Y := Aside0.mk (show ∀ (j : Nat) (hj : j < ys.length), kk ≤ j → lb x < lb ys[j] from fun j hj h => by
                by_cases e : j = kk
                · subst e; exact hlt2
                · exact HK.out j hj (by omega))
              have hm := Aside0.mk hkk
              clear hlt2 hkk hk0
              generalize ys[kk] = y at *
              go_wp2_with fail
              go_quiet (fail)
              go_wp2
              go_roundw
              case rel => exact ⟨kk, by go_num, by omega, Y, HD.step nq⟩
              case measure => have := hm.out; simp [intOf]; omega
            · have H1 := Aside0.mk (show ∀ (j : Nat) (hj : j < ys.length), j < k → ¬ lb x < lb ys[j] from by rw [hkk]; exact srt_low HP.out.2 hky hlt2)
              rcases lt_total (lb ys[kk]) (lb x) with hc | hc | hc
              · rw [decide_eq_true hc] at hless
                clear hlt2 hkk hk0 hc
                generalize ys[kk] = y at *
                go_wp2_with fail
                go_quiet (fail)
                obtain ⟨w2, hw2⟩ : ∃ w2, wr.drewN nq = w2 := ⟨_, rfl⟩
                rw [hw2]
                have HD2 := Aside0.mk (HD.step nq)
                rw [hw2] at HD2
                clear hw2 HD
                clear g0 k0 hless d0 q3 q4 q5 q6 hky
                have HPOS := Aside0.mk (show (ys.take k ++ ([x] ++ ys.drop k)).Perm (l.take (i + 1)) ∧ Srt (ys.take k ++ ([x] ++ ys.drop k)) from ⟨(perm_ins ys x k).trans (by rw [HT.out]; exact (HP.out.1.append_right _)), srt_ins hk HP.out.2 H1.out HK.out⟩)
                clear H1 HK HP HT
                by_cases hkm : k < ys.length
                · have hck : ¬ c3 = k := by omega
                  have hb2 := (hb_then HB.out HD2.out.below)
                  have HB2 := Aside0.mk hb2
                  have g0 := pw_cell_below HD2.out.below G0.out
                  have hsz2 := hb2.size
                  have hkc : k ≤ c3 := Nat.le_trans hk hle
                  have HOK := Aside0.mk (Kd.R_mono (ok' := fun j => j ≠ w2.heap.size) (Kd.R_bound (Kd.R_below HO.out HD2.out.below)) (fun j hj => by have := hj.2.2.1; omega))
                  have HDR := Aside0.mk (strs_drop (Kd.C_below HC3.out HD2.out.below) hkm)
                  clear hb2
                  go_wp2_with fail
                  refine start_ (n := 14) (S := fun w' => w'.cell? ⟨b0, o0 + i, none⟩ = some (.string x)) (ds := [7, 11, 12]) #[false, false, false, false, false, false, false, false, false, false, false, false, false, false] (by kernel_rfl) rfl rfl (g0) (fun hHeld => ?_)
                  refine pure_ (i := 0) (N := some 30) (v := ?_) (a' := ?_) #[true, false, false, false, false, false, false, false, false, false, false, false, false, false] rfl rfl (by kernel_rfl) (fun _ _ _ h => h) (Or.inl ⟨by rfl, ?_⟩) ?_ ?_
                  rotate_left
                  · intro w'
                    go_simp
                    with_reducible rfl
                  rotate_left
                  · simp only [Act.put, List.setIfInBounds_toArray, List.set_cons_zero, List.set_cons_succ, i64_w, i32_w]
                    rfl
                  refine pure_ (i := 1) (N := some 31) (v := ?_) (a' := ?_) #[true, true, false, false, false, false, false, false, false, false, false, false, false, false] rfl rfl (by kernel_rfl) (fun _ _ _ h => h) (Or.inl ⟨by rfl, ?_⟩) ?_ ?_
                  rotate_left
                  · intro w'
                    go_simp
                    with_reducible rfl
                  rotate_left
                  · simp only [Act.put, List.setIfInBounds_toArray, List.set_cons_zero, List.set_cons_succ, i64_w, i32_w]
                    rfl
                  refine pure_ (i := 2) (N := some 32) (v := ?_) (a' := ?_) #[true, true, true, false, false, false, false, false, false, false, false, false, false, false] rfl rfl (by kernel_rfl) (fun _ _ _ h => h) (Or.inl ⟨by rfl, ?_⟩) ?_ ?_
                  rotate_left
                  · intro w'
                    go_simp
                    with_reducible rfl
                  rotate_left
                  · simp only [Act.put, List.setIfInBounds_toArray, List.set_cons_zero, List.set_cons_succ, i64_w, i32_w]
                    rfl
                  refine pure_ (i := 3) (N := some 33) (v := ?_) (a' := ?_) #[true, true, true, true, false, false, false, false, false, false, false, false, false, false] rfl rfl (by kernel_rfl) (fun _ _ _ h => h) (Or.inl ⟨by rfl, ?_⟩) ?_ ?_
                  rotate_left
                  · intro w'
                    go_simp
                    with_reducible rfl
                  rotate_left
                  · simp only [Act.put, List.setIfInBounds_toArray, List.set_cons_zero, List.set_cons_succ, i64_w, i32_w]
                    rfl
                  refine pure_ (i := 4) (N := some 34) (v := ?_) (a' := ?_) #[true, true, true, true, true, false, false, false, false, false, false, false, false, false] rfl rfl (by kernel_rfl) (fun _ _ _ h => h) (Or.inl ⟨by rfl, ?_⟩) ?_ ?_
                  rotate_left
                  · intro w'
                    go_simp
                    with_reducible rfl
                  rotate_left
                  · simp only [Act.put, List.setIfInBounds_toArray, List.set_cons_zero, List.set_cons_succ, i64_w, i32_w]
                    rfl
                  refine pure_ (i := 5) (N := some 35) (v := ?_) (a' := ?_) #[true, true, true, true, true, true, false, false, false, false, false, false, false, false] rfl rfl (by kernel_rfl) (fun _ _ _ h => h) (Or.inl ⟨by rfl, ?_⟩) ?_ ?_
                  rotate_left
                  · intro w'
                    go_simp
                    with_reducible rfl
                  rotate_left
                  · simp only [Act.put, List.setIfInBounds_toArray, List.set_cons_zero, List.set_cons_succ, i64_w, i32_w]
                    rfl
                  refine pure_ (i := 8) (N := some 38) (v := ?_) (a' := ?_) #[true, true, true, true, true, true, false, false, true, false, false, false, false, false] rfl rfl (by kernel_rfl) (fun _ _ _ h => h) (Or.inl ⟨by rfl, ?_⟩) ?_ ?_
                  rotate_left
                  · intro w'
                    go_simp
                    with_reducible rfl
                  rotate_left
                  · simp only [Act.put, List.setIfInBounds_toArray, List.set_cons_zero, List.set_cons_succ, i64_w, i32_w]
                    rfl
                  refine pure_ (i := 9) (N := some 39) (v := ?_) (a' := ?_) #[true, true, true, true, true, true, false, false, true, true, false, false, false, false] rfl rfl (by kernel_rfl) (fun _ _ _ h => h) (Or.inl ⟨by rfl, ?_⟩) ?_ ?_
                  rotate_left
                  · intro w'
                    go_simp
                    with_reducible rfl
                  rotate_left
                  · simp only [Act.put, List.setIfInBounds_toArray, List.set_cons_zero, List.set_cons_succ, i64_w, i32_w]
                    rfl
                  refine pure_ (i := 10) (N := some 40) (v := ?_) (a' := ?_) #[true, true, true, true, true, true, false, false, true, true, true, false, false, false] rfl rfl (by kernel_rfl) (fun _ _ _ h => h) (Or.inl ⟨by rfl, ?_⟩) ?_ ?_
                  rotate_left
                  · intro w'
                    go_simp
                    with_reducible rfl
                  rotate_left
                  · simp only [Act.put, List.setIfInBounds_toArray, List.set_cons_zero, List.set_cons_succ, i64_w, i32_w]
                    rfl
                  refine take_ (i := 6) (N := some 36) (v := ?_) (a' := ?_) #[true, true, true, true, true, true, true, false, true, true, true, false, false, false] rfl rfl (by kernel_rfl) (fun _ _ _ h => h) (Or.inl ⟨by rfl, ?_⟩) hHeld ?_ ?_
                  rotate_left
                  · intro w' s0
                    go_simp
                    with_reducible rfl
                  rotate_left
                  · simp only [Act.put, List.setIfInBounds_toArray, List.set_cons_zero, List.set_cons_succ, i64_w, i32_w]
                    rfl
                  refine last_ (i := 7) (N := some 37) #[true, true, true, true, true, true, true, true, true, true, true, false, false, false] rfl rfl (by kernel_rfl) (by decide) (fun K hK => ?_)
                  refine value_ (w1 := ?_) (v := ?_) (by rfl) rfl ?_ ?_
                  rotate_left 2
                  · go_simp
                    constructor
                    · rfl
                    · rfl
                  refine hK.out _ _ ?_
                  clear hK K
                  refine norm_ (a' := ?_) ?_ ?_
                  rotate_left
                  · show Act.put _ (some 37) _ = _
                    simp only [Act.put, List.setIfInBounds_toArray, List.set_cons_zero, List.set_cons_succ, i64_w, i32_w]
                    rfl
                  refine last_ (i := 11) (N := some 41) #[true, true, true, true, true, true, true, true, true, true, true, true, false, false] rfl rfl (by kernel_rfl) (by decide) (fun K hK => ?_)
                  refine Kd.R_append_rows_step Kd.string (w0 := w) w.heap.size rfl (.tmp 37) (.tmp 40) 22 9 (.string ⟨#[]⟩) 16 rfl Tryz.underlying22 info_str9 rfl (show 0 < 1 by decide) (by decide) (.slice (some ⟨w2.heap.size, 0, none⟩) 1 1) [x] (ys.drop k) _ (ys.length - k) _ (fun _ => True) (fun _ => False) rfl rfl (Kd.R_drew (own_one_s w2 w.heap.size _ hsz2 _ trivial x)) (strs_rows (Kd.C_drew (Kd.C_alloc HDR.out _))) (fun _ _ h => h) (fun _ h => h.elim) (fun _ _ => trivial) (below_drew (below_alloc HB2.out _)) (below_drew (below_alloc HB2.out _)).size (by simp only [List.length_singleton]; omega) ?_
                  intro v1 w5 ho hb hg hat
                  obtain ⟨A1, c1, rfl, hle1, hC1⟩ := Kd.R_reads ho
                  have HC1 := Aside0.mk hC1
                  have HB5 := Aside0.mk hb
                  have HV5 := Aside0.mk (Kd.R_take (Kd.R_grown (Kd.R_drew (Kd.R_alloc HOK.out _)) hg (fun j hj e => by injection e with e; exact hj e)) hk)
                  have hl1 : ([x] ++ (ys.drop k)).length = 1 + (ys.length - k) := by simp; omega
                  clear ho hb hg hat hC1 hle1
                  refine hK.out _ _ ?_
                  clear hK K
                  refine norm_ (a' := ?_) ?_ ?_
                  rotate_left
                  · show Act.put _ (some 41) _ = _
                    simp only [Act.put, List.setIfInBounds_toArray, List.set_cons_zero, List.set_cons_succ, i64_w, i32_w]
                    rfl
                  refine last_ (i := 12) (N := some 42) #[true, true, true, true, true, true, true, true, true, true, true, true, true, false] rfl rfl (by kernel_rfl) (by decide) (fun K hK => ?_)
                  refine Kd.R_append_rows_step Kd.string (w0 := w) w.heap.size rfl (.tmp 32) (.tmp 41) 22 9 (.string ⟨#[]⟩) 16 rfl Tryz.underlying22 info_str9 rfl (show 0 < 1 by decide) (by decide) (.slice (some ⟨g, 0, none⟩) k c3) (ys.take k) _ _ _ _ (fun _ => True) (fun _ => False) rfl rfl (Kd.R_mono HV5.out (fun _ _ => trivial)) (strs_rows HC1.out) (fun _ _ h => h) (fun _ h => h.elim) (fun _ _ => trivial) HB5.out HB5.out.size (by rw [hl1]; simp only [List.length_take, List.length_nil]; omega) ?_
                  intro v2 w6 ho hb hg hat
                  have HO6 := Aside0.mk ho
                  have HB6 := Aside0.mk hb
                  clear ho hb hg hat
                  refine hK.out _ _ ?_
                  clear hK K
                  refine norm_ (a' := ?_) ?_ ?_
                  rotate_left
                  · show Act.put _ (some 42) _ = _
                    simp only [Act.put, List.setIfInBounds_toArray, List.set_cons_zero, List.set_cons_succ, i64_w, i32_w]
                    rfl
                  refine pure_ (i := 13) (N := some 3) (v := ?_) (a' := ?_) #[true, true, true, true, true, true, true, true, true, true, true, true, true, true] rfl rfl (by kernel_rfl) (fun _ _ _ h => h) (Or.inl ⟨by rfl, ?_⟩) ?_ ?_
                  rotate_left
                  · intro w'
                    go_simp
                    with_reducible rfl
                  rotate_left
                  · simp only [Act.put, List.setIfInBounds_toArray, List.set_cons_zero, List.set_cons_succ, i64_w, i32_w]
                    rfl
                  refine done_ (by kernel_rfl) ?_
                  go_wp2
                  go_roundw
                  case rel => exact ⟨i + 1, _, by go_num, by omega, HO6, HPOS, HB6⟩
                  case measure => simp [intOf]; omega
                · obtain rfl : k = ys.length := by omega
                  rw [List.drop_length] at HPOS
                  by_cases hck : c3 = ys.length
                  · subst hck
                    have hb2 := (hb_then HB.out HD2.out.below)
                    have HB2 := Aside0.mk hb2
                    have g0 := pw_cell_below HD2.out.below G0.out
                    have hsz2 := hb2.size
                    have hkc := hle
                    have HOK := Aside0.mk (Kd.R_mono (ok' := fun j => j ≠ w2.heap.size) (Kd.R_bound (Kd.R_below HO.out HD2.out.below)) (fun j hj => by have := hj.2.2.1; omega))
                    clear hb2
                    go_wp2_with fail
                    refine start_ (n := 14) (S := fun w' => w'.cell? ⟨b0, o0 + i, none⟩ = some (.string x)) (ds := [7, 11, 12]) #[false, false, false, false, false, false, false, false, false, false, false, false, false, false] (by kernel_rfl) rfl rfl (g0) (fun hHeld => ?_)
                    refine pure_ (i := 0) (N := some 30) (v := ?_) (a' := ?_) #[true, false, false, false, false, false, false, false, false, false, false, false, false, false] rfl rfl (by kernel_rfl) (fun _ _ _ h => h) (Or.inl ⟨by rfl, ?_⟩) ?_ ?_
                    rotate_left
                    · intro w'
                      go_simp
                      with_reducible rfl
                    rotate_left
                    · simp only [Act.put, List.setIfInBounds_toArray, List.set_cons_zero, List.set_cons_succ, i64_w, i32_w]
                      rfl
                    refine pure_ (i := 1) (N := some 31) (v := ?_) (a' := ?_) #[true, true, false, false, false, false, false, false, false, false, false, false, false, false] rfl rfl (by kernel_rfl) (fun _ _ _ h => h) (Or.inl ⟨by rfl, ?_⟩) ?_ ?_
                    rotate_left
                    · intro w'
                      go_simp
                      with_reducible rfl
                    rotate_left
                    · simp only [Act.put, List.setIfInBounds_toArray, List.set_cons_zero, List.set_cons_succ, i64_w, i32_w]
                      rfl
                    refine pure_ (i := 2) (N := some 32) (v := ?_) (a' := ?_) #[true, true, true, false, false, false, false, false, false, false, false, false, false, false] rfl rfl (by kernel_rfl) (fun _ _ _ h => h) (Or.inl ⟨by rfl, ?_⟩) ?_ ?_
                    rotate_left
                    · intro w'
                      go_simp
                      with_reducible rfl
                    rotate_left
                    · simp only [Act.put, List.setIfInBounds_toArray, List.set_cons_zero, List.set_cons_succ, i64_w, i32_w]
                      rfl
                    refine pure_ (i := 3) (N := some 33) (v := ?_) (a' := ?_) #[true, true, true, true, false, false, false, false, false, false, false, false, false, false] rfl rfl (by kernel_rfl) (fun _ _ _ h => h) (Or.inl ⟨by rfl, ?_⟩) ?_ ?_
                    rotate_left
                    · intro w'
                      go_simp
                      with_reducible rfl
                    rotate_left
                    · simp only [Act.put, List.setIfInBounds_toArray, List.set_cons_zero, List.set_cons_succ, i64_w, i32_w]
                      rfl
                    refine pure_ (i := 4) (N := some 34) (v := ?_) (a' := ?_) #[true, true, true, true, true, false, false, false, false, false, false, false, false, false] rfl rfl (by kernel_rfl) (fun _ _ _ h => h) (Or.inl ⟨by rfl, ?_⟩) ?_ ?_
                    rotate_left
                    · intro w'
                      go_simp
                      with_reducible rfl
                    rotate_left
                    · simp only [Act.put, List.setIfInBounds_toArray, List.set_cons_zero, List.set_cons_succ, i64_w, i32_w]
                      rfl
                    refine pure_ (i := 5) (N := some 35) (v := ?_) (a' := ?_) #[true, true, true, true, true, true, false, false, false, false, false, false, false, false] rfl rfl (by kernel_rfl) (fun _ _ _ h => h) (Or.inl ⟨by rfl, ?_⟩) ?_ ?_
                    rotate_left
                    · intro w'
                      go_simp
                      with_reducible rfl
                    rotate_left
                    · simp only [Act.put, List.setIfInBounds_toArray, List.set_cons_zero, List.set_cons_succ, i64_w, i32_w]
                      rfl
                    refine pure_ (i := 8) (N := some 38) (v := ?_) (a' := ?_) #[true, true, true, true, true, true, false, false, true, false, false, false, false, false] rfl rfl (by kernel_rfl) (fun _ _ _ h => h) (Or.inl ⟨by rfl, ?_⟩) ?_ ?_
                    rotate_left
                    · intro w'
                      go_simp
                      with_reducible rfl
                    rotate_left
                    · simp only [Act.put, List.setIfInBounds_toArray, List.set_cons_zero, List.set_cons_succ, i64_w, i32_w]
                      rfl
                    refine pure_ (i := 9) (N := some 39) (v := ?_) (a' := ?_) #[true, true, true, true, true, true, false, false, true, true, false, false, false, false] rfl rfl (by kernel_rfl) (fun _ _ _ h => h) (Or.inl ⟨by rfl, ?_⟩) ?_ ?_
                    rotate_left
                    · intro w'
                      go_simp
                      with_reducible rfl
                    rotate_left
                    · simp only [Act.put, List.setIfInBounds_toArray, List.set_cons_zero, List.set_cons_succ, i64_w, i32_w]
                      rfl
                    refine pure_ (i := 10) (N := some 40) (v := ?_) (a' := ?_) #[true, true, true, true, true, true, false, false, true, true, true, false, false, false] rfl rfl (by kernel_rfl) (fun _ _ _ h => h) (Or.inl ⟨by rfl, ?_⟩) ?_ ?_
                    rotate_left
                    · intro w'
                      go_simp
                      with_reducible rfl
                    rotate_left
                    · simp only [Act.put, List.setIfInBounds_toArray, List.set_cons_zero, List.set_cons_succ, i64_w, i32_w]
                      rfl
                    refine take_ (i := 6) (N := some 36) (v := ?_) (a' := ?_) #[true, true, true, true, true, true, true, false, true, true, true, false, false, false] rfl rfl (by kernel_rfl) (fun _ _ _ h => h) (Or.inl ⟨by rfl, ?_⟩) hHeld ?_ ?_
                    rotate_left
                    · intro w' s0
                      go_simp
                      with_reducible rfl
                    rotate_left
                    · simp only [Act.put, List.setIfInBounds_toArray, List.set_cons_zero, List.set_cons_succ, i64_w, i32_w]
                      rfl
                    refine last_ (i := 7) (N := some 37) #[true, true, true, true, true, true, true, true, true, true, true, false, false, false] rfl rfl (by kernel_rfl) (by decide) (fun K hK => ?_)
                    refine value_ (w1 := ?_) (v := ?_) (by rfl) rfl ?_ ?_
                    rotate_left 2
                    · go_simp
                      constructor
                      · rfl
                      · rfl
                    refine hK.out _ _ ?_
                    clear hK K
                    refine norm_ (a' := ?_) ?_ ?_
                    rotate_left
                    · show Act.put _ (some 37) _ = _
                      simp only [Act.put, List.setIfInBounds_toArray, List.set_cons_zero, List.set_cons_succ, i64_w, i32_w]
                      rfl
                    refine last_ (i := 11) (N := some 41) #[true, true, true, true, true, true, true, true, true, true, true, true, false, false] rfl rfl (by kernel_rfl) (by decide) (fun K hK => ?_)
                    refine Kd.R_append_rows_step Kd.string (w0 := w) w.heap.size rfl (.tmp 37) (.tmp 40) 22 9 (.string ⟨#[]⟩) 16 rfl Tryz.underlying22 info_str9 rfl (show 0 < 1 by decide) (by decide) (.slice (some ⟨w2.heap.size, 0, none⟩) 1 1) [x] ([] : List BA) _ 0 _ (fun _ => True) (fun _ => False) rfl rfl (Kd.R_drew (own_one_s w2 w.heap.size _ hsz2 _ trivial x)) (strs_rows (strs_none _ _)) (fun _ _ h => h) (fun _ h => h.elim) (fun _ _ => trivial) (below_drew (below_alloc HB2.out _)) (below_drew (below_alloc HB2.out _)).size (by simp only [List.length_singleton]; omega) ?_
                    intro v1 w5 ho hb hg hat
                    obtain ⟨A1, c1, rfl, hle1, hC1⟩ := Kd.R_reads ho
                    have HC1 := Aside0.mk hC1
                    have HB5 := Aside0.mk hb
                    have HV5 := Aside0.mk (Kd.R_take (Kd.R_grown (Kd.R_drew (Kd.R_alloc HOK.out _)) hg (fun j hj e => by injection e with e; exact hj e)) hk)
                    have hl1 : ([x] ++ ([] : List BA)).length = 1 + 0 := rfl
                    clear ho hb hg hat hC1 hle1
                    refine hK.out _ _ ?_
                    clear hK K
                    refine norm_ (a' := ?_) ?_ ?_
                    rotate_left
                    · show Act.put _ (some 41) _ = _
                      simp only [Act.put, List.setIfInBounds_toArray, List.set_cons_zero, List.set_cons_succ, i64_w, i32_w]
                      rfl
                    refine last_ (i := 12) (N := some 42) #[true, true, true, true, true, true, true, true, true, true, true, true, true, false] rfl rfl (by kernel_rfl) (by decide) (fun K hK => ?_)
                    refine Kd.R_append_rows_step Kd.string (w0 := w) w.heap.size rfl (.tmp 32) (.tmp 41) 22 9 (.string ⟨#[]⟩) 16 rfl Tryz.underlying22 info_str9 rfl (show 0 < 1 by decide) (by decide) (.slice (some ⟨g, 0, none⟩) ys.length ys.length) (ys.take ys.length) _ _ _ _ (fun _ => True) (fun _ => False) rfl rfl (Kd.R_mono HV5.out (fun _ _ => trivial)) (strs_rows HC1.out) (fun _ _ h => h) (fun _ h => h.elim) (fun _ _ => trivial) HB5.out HB5.out.size (by rw [hl1]; simp only [List.length_take, List.length_nil]; omega) ?_
                    intro v2 w6 ho hb hg hat
                    have HO6 := Aside0.mk ho
                    have HB6 := Aside0.mk hb
                    clear ho hb hg hat
                    refine hK.out _ _ ?_
                    clear hK K
                    refine norm_ (a' := ?_) ?_ ?_
                    rotate_left
                    · show Act.put _ (some 42) _ = _
                      simp only [Act.put, List.setIfInBounds_toArray, List.set_cons_zero, List.set_cons_succ, i64_w, i32_w]
                      rfl
                    refine pure_ (i := 13) (N := some 3) (v := ?_) (a' := ?_) #[true, true, true, true, true, true, true, true, true, true, true, true, true, true] rfl rfl (by kernel_rfl) (fun _ _ _ h => h) (Or.inl ⟨by rfl, ?_⟩) ?_ ?_
                    rotate_left
                    · intro w'
                      go_simp
                      with_reducible rfl
                    rotate_left
                    · simp only [Act.put, List.setIfInBounds_toArray, List.set_cons_zero, List.set_cons_succ, i64_w, i32_w]
                      rfl
                    refine done_ (by kernel_rfl) ?_
                    go_wp2
                    go_roundw
                    case rel => exact ⟨i + 1, _, by go_num, by omega, HO6, HPOS, HB6⟩
                    case measure => simp [intOf]; omega
                  · skip
                    have hb2 := (hb_then HB.out HD2.out.below)
                    have HB2 := Aside0.mk hb2
                    have g0 := pw_cell_below HD2.out.below G0.out
                    have hsz2 := hb2.size
                    have hkc := hle
                    have HOK := Aside0.mk (Kd.R_mono (ok' := fun j => j ≠ w2.heap.size) (Kd.R_bound (Kd.R_below HO.out HD2.out.below)) (fun j hj => by have := hj.2.2.1; omega))
                    clear hb2
                    go_wp2_with fail
                    refine start_ (n := 14) (S := fun w' => w'.cell? ⟨b0, o0 + i, none⟩ = some (.string x)) (ds := [7, 11, 12]) #[false, false, false, false, false, false, false, false, false, false, false, false, false, false] (by kernel_rfl) rfl rfl (g0) (fun hHeld => ?_)
                    refine pure_ (i := 0) (N := some 30) (v := ?_) (a' := ?_) #[true, false, false, false, false, false, false, false, false, false, false, false, false, false] rfl rfl (by kernel_rfl) (fun _ _ _ h => h) (Or.inl ⟨by rfl, ?_⟩) ?_ ?_
                    rotate_left
                    · intro w'
                      go_simp
                      with_reducible rfl
                    rotate_left
                    · simp only [Act.put, List.setIfInBounds_toArray, List.set_cons_zero, List.set_cons_succ, i64_w, i32_w]
                      rfl
                    refine pure_ (i := 1) (N := some 31) (v := ?_) (a' := ?_) #[true, true, false, false, false, false, false, false, false, false, false, false, false, false] rfl rfl (by kernel_rfl) (fun _ _ _ h => h) (Or.inl ⟨by rfl, ?_⟩) ?_ ?_
                    rotate_left
                    · intro w'
                      go_simp
                      with_reducible rfl
                    rotate_left
                    · simp only [Act.put, List.setIfInBounds_toArray, List.set_cons_zero, List.set_cons_succ, i64_w, i32_w]
                      rfl
                    refine pure_ (i := 2) (N := some 32) (v := ?_) (a' := ?_) #[true, true, true, false, false, false, false, false, false, false, false, false, false, false] rfl rfl (by kernel_rfl) (fun _ _ _ h => h) (Or.inl ⟨by rfl, ?_⟩) ?_ ?_
                    rotate_left
                    · intro w'
                      go_simp
                      with_reducible rfl
                    rotate_left
                    · simp only [Act.put, List.setIfInBounds_toArray, List.set_cons_zero, List.set_cons_succ, i64_w, i32_w]
                      rfl
                    refine pure_ (i := 3) (N := some 33) (v := ?_) (a' := ?_) #[true, true, true, true, false, false, false, false, false, false, false, false, false, false] rfl rfl (by kernel_rfl) (fun _ _ _ h => h) (Or.inl ⟨by rfl, ?_⟩) ?_ ?_
                    rotate_left
                    · intro w'
                      go_simp
                      with_reducible rfl
                    rotate_left
                    · simp only [Act.put, List.setIfInBounds_toArray, List.set_cons_zero, List.set_cons_succ, i64_w, i32_w]
                      rfl
                    refine pure_ (i := 4) (N := some 34) (v := ?_) (a' := ?_) #[true, true, true, true, true, false, false, false, false, false, false, false, false, false] rfl rfl (by kernel_rfl) (fun _ _ _ h => h) (Or.inl ⟨by rfl, ?_⟩) ?_ ?_
                    rotate_left
                    · intro w'
                      go_simp
                      with_reducible rfl
                    rotate_left
                    · simp only [Act.put, List.setIfInBounds_toArray, List.set_cons_zero, List.set_cons_succ, i64_w, i32_w]
                      rfl
                    refine pure_ (i := 5) (N := some 35) (v := ?_) (a' := ?_) #[true, true, true, true, true, true, false, false, false, false, false, false, false, false] rfl rfl (by kernel_rfl) (fun _ _ _ h => h) (Or.inl ⟨by rfl, ?_⟩) ?_ ?_
                    rotate_left
                    · intro w'
                      go_simp
                      with_reducible rfl
                    rotate_left
                    · simp only [Act.put, List.setIfInBounds_toArray, List.set_cons_zero, List.set_cons_succ, i64_w, i32_w]
                      rfl
                    refine pure_ (i := 8) (N := some 38) (v := ?_) (a' := ?_) #[true, true, true, true, true, true, false, false, true, false, false, false, false, false] rfl rfl (by kernel_rfl) (fun _ _ _ h => h) (Or.inl ⟨by rfl, ?_⟩) ?_ ?_
                    rotate_left
                    · intro w'
                      go_simp
                      with_reducible rfl
                    rotate_left
                    · simp only [Act.put, List.setIfInBounds_toArray, List.set_cons_zero, List.set_cons_succ, i64_w, i32_w]
                      rfl
                    refine pure_ (i := 9) (N := some 39) (v := ?_) (a' := ?_) #[true, true, true, true, true, true, false, false, true, true, false, false, false, false] rfl rfl (by kernel_rfl) (fun _ _ _ h => h) (Or.inl ⟨by rfl, ?_⟩) ?_ ?_
                    rotate_left
                    · intro w'
                      go_simp
                      with_reducible rfl
                    rotate_left
                    · simp only [Act.put, List.setIfInBounds_toArray, List.set_cons_zero, List.set_cons_succ, i64_w, i32_w]
                      rfl
                    refine pure_ (i := 10) (N := some 40) (v := ?_) (a' := ?_) #[true, true, true, true, true, true, false, false, true, true, true, false, false, false] rfl rfl (by kernel_rfl) (fun _ _ _ h => h) (Or.inl ⟨by rfl, ?_⟩) ?_ ?_
                    rotate_left
                    · intro w'
                      go_simp
                      with_reducible rfl
                    rotate_left
                    · simp only [Act.put, List.setIfInBounds_toArray, List.set_cons_zero, List.set_cons_succ, i64_w, i32_w]
                      rfl
                    refine take_ (i := 6) (N := some 36) (v := ?_) (a' := ?_) #[true, true, true, true, true, true, true, false, true, true, true, false, false, false] rfl rfl (by kernel_rfl) (fun _ _ _ h => h) (Or.inl ⟨by rfl, ?_⟩) hHeld ?_ ?_
                    rotate_left
                    · intro w' s0
                      go_simp
                      with_reducible rfl
                    rotate_left
                    · simp only [Act.put, List.setIfInBounds_toArray, List.set_cons_zero, List.set_cons_succ, i64_w, i32_w]
                      rfl
                    refine last_ (i := 7) (N := some 37) #[true, true, true, true, true, true, true, true, true, true, true, false, false, false] rfl rfl (by kernel_rfl) (by decide) (fun K hK => ?_)
                    refine value_ (w1 := ?_) (v := ?_) (by rfl) rfl ?_ ?_
                    rotate_left 2
                    · go_simp
                      constructor
                      · rfl
                      · rfl
                    refine hK.out _ _ ?_
                    clear hK K
                    refine norm_ (a' := ?_) ?_ ?_
                    rotate_left
                    · show Act.put _ (some 37) _ = _
                      simp only [Act.put, List.setIfInBounds_toArray, List.set_cons_zero, List.set_cons_succ, i64_w, i32_w]
                      rfl
                    refine last_ (i := 11) (N := some 41) #[true, true, true, true, true, true, true, true, true, true, true, true, false, false] rfl rfl (by kernel_rfl) (by decide) (fun K hK => ?_)
                    refine Kd.R_append_rows_step Kd.string (w0 := w) w.heap.size rfl (.tmp 37) (.tmp 40) 22 9 (.string ⟨#[]⟩) 16 rfl Tryz.underlying22 info_str9 rfl (show 0 < 1 by decide) (by decide) (.slice (some ⟨w2.heap.size, 0, none⟩) 1 1) [x] ([] : List BA) _ 0 _ (fun _ => True) (fun _ => False) rfl rfl (Kd.R_drew (own_one_s w2 w.heap.size _ hsz2 _ trivial x)) (strs_rows (strs_none _ _)) (fun _ _ h => h) (fun _ h => h.elim) (fun _ _ => trivial) (below_drew (below_alloc HB2.out _)) (below_drew (below_alloc HB2.out _)).size (by simp only [List.length_singleton]; omega) ?_
                    intro v1 w5 ho hb hg hat
                    obtain ⟨A1, c1, rfl, hle1, hC1⟩ := Kd.R_reads ho
                    have HC1 := Aside0.mk hC1
                    have HB5 := Aside0.mk hb
                    have HV5 := Aside0.mk (Kd.R_take (Kd.R_grown (Kd.R_drew (Kd.R_alloc HOK.out _)) hg (fun j hj e => by injection e with e; exact hj e)) hk)
                    have hl1 : ([x] ++ ([] : List BA)).length = 1 + 0 := rfl
                    clear ho hb hg hat hC1 hle1
                    refine hK.out _ _ ?_
                    clear hK K
                    refine norm_ (a' := ?_) ?_ ?_
                    rotate_left
                    · show Act.put _ (some 41) _ = _
                      simp only [Act.put, List.setIfInBounds_toArray, List.set_cons_zero, List.set_cons_succ, i64_w, i32_w]
                      rfl
                    refine last_ (i := 12) (N := some 42) #[true, true, true, true, true, true, true, true, true, true, true, true, true, false] rfl rfl (by kernel_rfl) (by decide) (fun K hK => ?_)
                    refine Kd.R_append_rows_step Kd.string (w0 := w) w.heap.size rfl (.tmp 32) (.tmp 41) 22 9 (.string ⟨#[]⟩) 16 rfl Tryz.underlying22 info_str9 rfl (show 0 < 1 by decide) (by decide) (.slice (some ⟨g, 0, none⟩) ys.length c3) (ys.take ys.length) _ _ _ _ (fun _ => True) (fun _ => False) rfl rfl (Kd.R_mono HV5.out (fun _ _ => trivial)) (strs_rows HC1.out) (fun _ _ h => h) (fun _ h => h.elim) (fun _ _ => trivial) HB5.out HB5.out.size (by rw [hl1]; simp only [List.length_take, List.length_nil]; omega) ?_
                    intro v2 w6 ho hb hg hat
                    have HO6 := Aside0.mk ho
                    have HB6 := Aside0.mk hb
                    clear ho hb hg hat
                    refine hK.out _ _ ?_
                    clear hK K
                    refine norm_ (a' := ?_) ?_ ?_
                    rotate_left
                    · show Act.put _ (some 42) _ = _
                      simp only [Act.put, List.setIfInBounds_toArray, List.set_cons_zero, List.set_cons_succ, i64_w, i32_w]
                      rfl
                    refine pure_ (i := 13) (N := some 3) (v := ?_) (a' := ?_) #[true, true, true, true, true, true, true, true, true, true, true, true, true, true] rfl rfl (by kernel_rfl) (fun _ _ _ h => h) (Or.inl ⟨by rfl, ?_⟩) ?_ ?_
                    rotate_left
                    · intro w'
                      go_simp
                      with_reducible rfl
                    rotate_left
                    · simp only [Act.put, List.setIfInBounds_toArray, List.set_cons_zero, List.set_cons_succ, i64_w, i32_w]
                      rfl
                    refine done_ (by kernel_rfl) ?_
                    go_wp2
                    go_roundw
                    case rel => exact ⟨i + 1, _, by go_num, by omega, HO6, HPOS, HB6⟩
                    case measure => simp [intOf]; omega
              · have hyx := lb_inj hc
                rw [hyx] at k0 hless
                rw [decide_eq_false (lt_irrefl _)] at hless
                clear hlt2 hkk hk0 hc hyx
                go_wp2_with fail
                go_quiet (fail)
                obtain ⟨w2, hw2⟩ : ∃ w2, wr.drewN nq = w2 := ⟨_, rfl⟩
                rw [hw2]
                have HD2 := Aside0.mk (HD.step nq)
                rw [hw2] at HD2
                clear hw2 HD
                clear g0 k0 hless d0 q3 q4 q5 q6 hky
                have HPOS := Aside0.mk (show (ys.take k ++ ([x] ++ ys.drop k)).Perm (l.take (i + 1)) ∧ Srt (ys.take k ++ ([x] ++ ys.drop k)) from ⟨(perm_ins ys x k).trans (by rw [HT.out]; exact (HP.out.1.append_right _)), srt_ins hk HP.out.2 H1.out HK.out⟩)
                clear H1 HK HP HT
                by_cases hkm : k < ys.length
                · have hck : ¬ c3 = k := by omega
                  have hb2 := (hb_then HB.out HD2.out.below)
                  have HB2 := Aside0.mk hb2
                  have g0 := pw_cell_below HD2.out.below G0.out
                  have hsz2 := hb2.size
                  have hkc : k ≤ c3 := Nat.le_trans hk hle
                  have HOK := Aside0.mk (Kd.R_mono (ok' := fun j => j ≠ w2.heap.size) (Kd.R_bound (Kd.R_below HO.out HD2.out.below)) (fun j hj => by have := hj.2.2.1; omega))
                  have HDR := Aside0.mk (strs_drop (Kd.C_below HC3.out HD2.out.below) hkm)
                  clear hb2
                  go_wp2_with fail
                  refine start_ (n := 14) (S := fun w' => w'.cell? ⟨b0, o0 + i, none⟩ = some (.string x)) (ds := [7, 11, 12]) #[false, false, false, false, false, false, false, false, false, false, false, false, false, false] (by kernel_rfl) rfl rfl (g0) (fun hHeld => ?_)
                  refine pure_ (i := 0) (N := some 30) (v := ?_) (a' := ?_) #[true, false, false, false, false, false, false, false, false, false, false, false, false, false] rfl rfl (by kernel_rfl) (fun _ _ _ h => h) (Or.inl ⟨by rfl, ?_⟩) ?_ ?_
                  rotate_left
                  · intro w'
                    go_simp
                    with_reducible rfl
                  rotate_left
                  · simp only [Act.put, List.setIfInBounds_toArray, List.set_cons_zero, List.set_cons_succ, i64_w, i32_w]
                    rfl
                  refine pure_ (i := 1) (N := some 31) (v := ?_) (a' := ?_) #[true, true, false, false, false, false, false, false, false, false, false, false, false, false] rfl rfl (by kernel_rfl) (fun _ _ _ h => h) (Or.inl ⟨by rfl, ?_⟩) ?_ ?_
                  rotate_left
                  · intro w'
                    go_simp
                    with_reducible rfl
                  rotate_left
                  · simp only [Act.put, List.setIfInBounds_toArray, List.set_cons_zero, List.set_cons_succ, i64_w, i32_w]
                    rfl
                  refine pure_ (i := 2) (N := some 32) (v := ?_) (a' := ?_) #[true, true, true, false, false, false, false, false, false, false, false, false, false, false] rfl rfl (by kernel_rfl) (fun _ _ _ h => h) (Or.inl ⟨by rfl, ?_⟩) ?_ ?_
                  rotate_left
                  · intro w'
                    go_simp
                    with_reducible rfl
                  rotate_left
                  · simp only [Act.put, List.setIfInBounds_toArray, List.set_cons_zero, List.set_cons_succ, i64_w, i32_w]
                    rfl
                  refine pure_ (i := 3) (N := some 33) (v := ?_) (a' := ?_) #[true, true, true, true, false, false, false, false, false, false, false, false, false, false] rfl rfl (by kernel_rfl) (fun _ _ _ h => h) (Or.inl ⟨by rfl, ?_⟩) ?_ ?_
                  rotate_left
                  · intro w'
                    go_simp
                    with_reducible rfl
                  rotate_left
                  · simp only [Act.put, List.setIfInBounds_toArray, List.set_cons_zero, List.set_cons_succ, i64_w, i32_w]
                    rfl
                  refine pure_ (i := 4) (N := some 34) (v := ?_) (a' := ?_) #[true, true, true, true, true, false, false, false, false, false, false, false, false, false] rfl rfl (by kernel_rfl) (fun _ _ _ h => h) (Or.inl ⟨by rfl, ?_⟩) ?_ ?_
                  rotate_left
                  · intro w'
                    go_simp
                    with_reducible rfl
                  rotate_left
                  · simp only [Act.put, List.setIfInBounds_toArray, List.set_cons_zero, List.set_cons_succ, i64_w, i32_w]
                    rfl
                  refine pure_ (i := 5) (N := some 35) (v := ?_) (a' := ?_) #[true, true, true, true, true, true, false, false, false, false, false, false, false, false] rfl rfl (by kernel_rfl) (fun _ _ _ h => h) (Or.inl ⟨by rfl, ?_⟩) ?_ ?_
                  rotate_left
                  · intro w'
                    go_simp
                    with_reducible rfl
                  rotate_left
                  · simp only [Act.put, List.setIfInBounds_toArray, List.set_cons_zero, List.set_cons_succ, i64_w, i32_w]
                    rfl
                  refine pure_ (i := 8) (N := some 38) (v := ?_) (a' := ?_) #[true, true, true, true, true, true, false, false, true, false, false, false, false, false] rfl rfl (by kernel_rfl) (fun _ _ _ h => h) (Or.inl ⟨by rfl, ?_⟩) ?_ ?_
                  rotate_left
                  · intro w'
                    go_simp
                    with_reducible rfl
                  rotate_left
                  · simp only [Act.put, List.setIfInBounds_toArray, List.set_cons_zero, List.set_cons_succ, i64_w, i32_w]
                    rfl
                  refine pure_ (i := 9) (N := some 39) (v := ?_) (a' := ?_) #[true, true, true, true, true, true, false, false, true, true, false, false, false, false] rfl rfl (by kernel_rfl) (fun _ _ _ h => h) (Or.inl ⟨by rfl, ?_⟩) ?_ ?_
                  rotate_left
                  · intro w'
                    go_simp
                    with_reducible rfl
                  rotate_left
                  · simp only [Act.put, List.setIfInBounds_toArray, List.set_cons_zero, List.set_cons_succ, i64_w, i32_w]
                    rfl
                  refine pure_ (i := 10) (N := some 40) (v := ?_) (a' := ?_) #[true, true, true, true, true, true, false, false, true, true, true, false, false, false] rfl rfl (by kernel_rfl) (fun _ _ _ h => h) (Or.inl ⟨by rfl, ?_⟩) ?_ ?_
                  rotate_left
                  · intro w'
                    go_simp
                    with_reducible rfl
                  rotate_left
                  · simp only [Act.put, List.setIfInBounds_toArray, List.set_cons_zero, List.set_cons_succ, i64_w, i32_w]
                    rfl
                  refine take_ (i := 6) (N := some 36) (v := ?_) (a' := ?_) #[true, true, true, true, true, true, true, false, true, true, true, false, false, false] rfl rfl (by kernel_rfl) (fun _ _ _ h => h) (Or.inl ⟨by rfl, ?_⟩) hHeld ?_ ?_
                  rotate_left
                  · intro w' s0
                    go_simp
                    with_reducible rfl
                  rotate_left
                  · simp only [Act.put, List.setIfInBounds_toArray, List.set_cons_zero, List.set_cons_succ, i64_w, i32_w]
                    rfl
                  refine last_ (i := 7) (N := some 37) #[true, true, true, true, true, true, true, true, true, true, true, false, false, false] rfl rfl (by kernel_rfl) (by decide) (fun K hK => ?_)
                  refine value_ (w1 := ?_) (v := ?_) (by rfl) rfl ?_ ?_
                  rotate_left 2
                  · go_simp
                    constructor
                    · rfl
                    · rfl
                  refine hK.out _ _ ?_
                  clear hK K
                  refine norm_ (a' := ?_) ?_ ?_
                  rotate_left
                  · show Act.put _ (some 37) _ = _
                    simp only [Act.put, List.setIfInBounds_toArray, List.set_cons_zero, List.set_cons_succ, i64_w, i32_w]
                    rfl
                  refine last_ (i := 11) (N := some 41) #[true, true, true, true, true, true, true, true, true, true, true, true, false, false] rfl rfl (by kernel_rfl) (by decide) (fun K hK => ?_)
                  refine Kd.R_append_rows_step Kd.string (w0 := w) w.heap.size rfl (.tmp 37) (.tmp 40) 22 9 (.string ⟨#[]⟩) 16 rfl Tryz.underlying22 info_str9 rfl (show 0 < 1 by decide) (by decide) (.slice (some ⟨w2.heap.size, 0, none⟩) 1 1) [x] (ys.drop k) _ (ys.length - k) _ (fun _ => True) (fun _ => False) rfl rfl (Kd.R_drew (own_one_s w2 w.heap.size _ hsz2 _ trivial x)) (strs_rows (Kd.C_drew (Kd.C_alloc HDR.out _))) (fun _ _ h => h) (fun _ h => h.elim) (fun _ _ => trivial) (below_drew (below_alloc HB2.out _)) (below_drew (below_alloc HB2.out _)).size (by simp only [List.length_singleton]; omega) ?_
                  intro v1 w5 ho hb hg hat
                  obtain ⟨A1, c1, rfl, hle1, hC1⟩ := Kd.R_reads ho
                  have HC1 := Aside0.mk hC1
                  have HB5 := Aside0.mk hb
                  have HV5 := Aside0.mk (Kd.R_take (Kd.R_grown (Kd.R_drew (Kd.R_alloc HOK.out _)) hg (fun j hj e => by injection e with e; exact hj e)) hk)
                  have hl1 : ([x] ++ (ys.drop k)).length = 1 + (ys.length - k) := by simp; omega
                  clear ho hb hg hat hC1 hle1
                  refine hK.out _ _ ?_
                  clear hK K
                  refine norm_ (a' := ?_) ?_ ?_
                  rotate_left
                  · show Act.put _ (some 41) _ = _
                    simp only [Act.put, List.setIfInBounds_toArray, List.set_cons_zero, List.set_cons_succ, i64_w, i32_w]
                    rfl
                  refine last_ (i := 12) (N := some 42) #[true, true, true, true, true, true, true, true, true, true, true, true, true, false] rfl rfl (by kernel_rfl) (by decide) (fun K hK => ?_)
                  refine Kd.R_append_rows_step Kd.string (w0 := w) w.heap.size rfl (.tmp 32) (.tmp 41) 22 9 (.string ⟨#[]⟩) 16 rfl Tryz.underlying22 info_str9 rfl (show 0 < 1 by decide) (by decide) (.slice (some ⟨g, 0, none⟩) k c3) (ys.take k) _ _ _ _ (fun _ => True) (fun _ => False) rfl rfl (Kd.R_mono HV5.out (fun _ _ => trivial)) (strs_rows HC1.out) (fun _ _ h => h) (fun _ h => h.elim) (fun _ _ => trivial) HB5.out HB5.out.size (by rw [hl1]; simp only [List.length_take, List.length_nil]; omega) ?_
                  intro v2 w6 ho hb hg hat
                  have HO6 := Aside0.mk ho
                  have HB6 := Aside0.mk hb
                  clear ho hb hg hat
                  refine hK.out _ _ ?_
                  clear hK K
                  refine norm_ (a' := ?_) ?_ ?_
                  rotate_left
                  · show Act.put _ (some 42) _ = _
                    simp only [Act.put, List.setIfInBounds_toArray, List.set_cons_zero, List.set_cons_succ, i64_w, i32_w]
                    rfl
                  refine pure_ (i := 13) (N := some 3) (v := ?_) (a' := ?_) #[true, true, true, true, true, true, true, true, true, true, true, true, true, true] rfl rfl (by kernel_rfl) (fun _ _ _ h => h) (Or.inl ⟨by rfl, ?_⟩) ?_ ?_
                  rotate_left
                  · intro w'
                    go_simp
                    with_reducible rfl
                  rotate_left
                  · simp only [Act.put, List.setIfInBounds_toArray, List.set_cons_zero, List.set_cons_succ, i64_w, i32_w]
                    rfl
                  refine done_ (by kernel_rfl) ?_
                  go_wp2
                  go_roundw
                  case rel => exact ⟨i + 1, _, by go_num, by omega, HO6, HPOS, HB6⟩
                  case measure => simp [intOf]; omega
                · obtain rfl : k = ys.length := by omega
                  rw [List.drop_length] at HPOS
                  by_cases hck : c3 = ys.length
                  · subst hck
                    have hb2 := (hb_then HB.out HD2.out.below)
                    have HB2 := Aside0.mk hb2
                    have g0 := pw_cell_below HD2.out.below G0.out
                    have hsz2 := hb2.size
                    have hkc := hle
                    have HOK := Aside0.mk (Kd.R_mono (ok' := fun j => j ≠ w2.heap.size) (Kd.R_bound (Kd.R_below HO.out HD2.out.below)) (fun j hj => by have := hj.2.2.1; omega))
                    clear hb2
                    go_wp2_with fail
                    refine start_ (n := 14) (S := fun w' => w'.cell? ⟨b0, o0 + i, none⟩ = some (.string x)) (ds := [7, 11, 12]) #[false, false, false, false, false, false, false, false, false, false, false, false, false, false] (by kernel_rfl) rfl rfl (g0) (fun hHeld => ?_)
                    refine pure_ (i := 0) (N := some 30) (v := ?_) (a' := ?_) #[true, false, false, false, false, false, false, false, false, false, false, false, false, false] rfl rfl (by kernel_rfl) (fun _ _ _ h => h) (Or.inl ⟨by rfl, ?_⟩) ?_ ?_
                    rotate_left
                    · intro w'
                      go_simp
                      with_reducible rfl
                    rotate_left
                    · simp only [Act.put, List.setIfInBounds_toArray, List.set_cons_zero, List.set_cons_succ, i64_w, i32_w]
                      rfl
                    refine pure_ (i := 1) (N := some 31) (v := ?_) (a' := ?_) #[true, true, false, false, false, false, false, false, false, false, false, false, false, false] rfl rfl (by kernel_rfl) (fun _ _ _ h => h) (Or.inl ⟨by rfl, ?_⟩) ?_ ?_
                    rotate_left
                    · intro w'
                      go_simp
                      with_reducible rfl
                    rotate_left
                    · simp only [Act.put, List.setIfInBounds_toArray, List.set_cons_zero, List.set_cons_succ, i64_w, i32_w]
                      rfl
                    refine pure_ (i := 2) (N := some 32) (v := ?_) (a' := ?_) #[true, true, true, false, false, false, false, false, false, false, false, false, false, false] rfl rfl (by kernel_rfl) (fun _ _ _ h => h) (Or.inl ⟨by rfl, ?_⟩) ?_ ?_
                    rotate_left
                    · intro w'
                      go_simp
                      with_reducible rfl
                    rotate_left
                    · simp only [Act.put, List.setIfInBounds_toArray, List.set_cons_zero, List.set_cons_succ, i64_w, i32_w]
                      rfl
                    refine pure_ (i := 3) (N := some 33) (v := ?_) (a' := ?_) #[true, true, true, true, false, false, false, false, false, false, false, false, false, false] rfl rfl (by kernel_rfl) (fun _ _ _ h => h) (Or.inl ⟨by rfl, ?_⟩) ?_ ?_
                    rotate_left
                    · intro w'
                      go_simp
                      with_reducible rfl
                    rotate_left
                    · simp only [Act.put, List.setIfInBounds_toArray, List.set_cons_zero, List.set_cons_succ, i64_w, i32_w]
                      rfl
                    refine pure_ (i := 4) (N := some 34) (v := ?_) (a' := ?_) #[true, true, true, true, true, false, false, false, false, false, false, false, false, false] rfl rfl (by kernel_rfl) (fun _ _ _ h => h) (Or.inl ⟨by rfl, ?_⟩) ?_ ?_
                    rotate_left
                    · intro w'
                      go_simp
                      with_reducible rfl
                    rotate_left
                    · simp only [Act.put, List.setIfInBounds_toArray, List.set_cons_zero, List.set_cons_succ, i64_w, i32_w]
                      rfl
                    refine pure_ (i := 5) (N := some 35) (v := ?_) (a' := ?_) #[true, true, true, true, true, true, false, false, false, false, false, false, false, false] rfl rfl (by kernel_rfl) (fun _ _ _ h => h) (Or.inl ⟨by rfl, ?_⟩) ?_ ?_
                    rotate_left
                    · intro w'
                      go_simp
                      with_reducible rfl
                    rotate_left
                    · simp only [Act.put, List.setIfInBounds_toArray, List.set_cons_zero, List.set_cons_succ, i64_w, i32_w]
                      rfl
                    refine pure_ (i := 8) (N := some 38) (v := ?_) (a' := ?_) #[true, true, true, true, true, true, false, false, true, false, false, false, false, false] rfl rfl (by kernel_rfl) (fun _ _ _ h => h) (Or.inl ⟨by rfl, ?_⟩) ?_ ?_
                    rotate_left
                    · intro w'
                      go_simp
                      with_reducible rfl
                    rotate_left
                    · simp only [Act.put, List.setIfInBounds_toArray, List.set_cons_zero, List.set_cons_succ, i64_w, i32_w]
                      rfl
                    refine pure_ (i := 9) (N := some 39) (v := ?_) (a' := ?_) #[true, true, true, true, true, true, false, false, true, true, false, false, false, false] rfl rfl (by kernel_rfl) (fun _ _ _ h => h) (Or.inl ⟨by rfl, ?_⟩) ?_ ?_
                    rotate_left
                    · intro w'
                      go_simp
                      with_reducible rfl
                    rotate_left
                    · simp only [Act.put, List.setIfInBounds_toArray, List.set_cons_zero, List.set_cons_succ, i64_w, i32_w]
                      rfl
                    refine pure_ (i := 10) (N := some 40) (v := ?_) (a' := ?_) #[true, true, true, true, true, true, false, false, true, true, true, false, false, false] rfl rfl (by kernel_rfl) (fun _ _ _ h => h) (Or.inl ⟨by rfl, ?_⟩) ?_ ?_
                    rotate_left
                    · intro w'
                      go_simp
                      with_reducible rfl
                    rotate_left
                    · simp only [Act.put, List.setIfInBounds_toArray, List.set_cons_zero, List.set_cons_succ, i64_w, i32_w]
                      rfl
                    refine take_ (i := 6) (N := some 36) (v := ?_) (a' := ?_) #[true, true, true, true, true, true, true, false, true, true, true, false, false, false] rfl rfl (by kernel_rfl) (fun _ _ _ h => h) (Or.inl ⟨by rfl, ?_⟩) hHeld ?_ ?_
                    rotate_left
                    · intro w' s0
                      go_simp
                      with_reducible rfl
                    rotate_left
                    · simp only [Act.put, List.setIfInBounds_toArray, List.set_cons_zero, List.set_cons_succ, i64_w, i32_w]
                      rfl
                    refine last_ (i := 7) (N := some 37) #[true, true, true, true, true, true, true, true, true, true, true, false, false, false] rfl rfl (by kernel_rfl) (by decide) (fun K hK => ?_)
                    refine value_ (w1 := ?_) (v := ?_) (by rfl) rfl ?_ ?_
                    rotate_left 2
                    · go_simp
                      constructor
                      · rfl
                      · rfl
                    refine hK.out _ _ ?_
                    clear hK K
                    refine norm_ (a' := ?_) ?_ ?_
                    rotate_left
                    · show Act.put _ (some 37) _ = _
                      simp only [Act.put, List.setIfInBounds_toArray, List.set_cons_zero, List.set_cons_succ, i64_w, i32_w]
                      rfl
                    refine last_ (i := 11) (N := some 41) #[true, true, true, true, true, true, true, true, true, true, true, true, false, false] rfl rfl (by kernel_rfl) (by decide) (fun K hK => ?_)
                    refine Kd.R_append_rows_step Kd.string (w0 := w) w.heap.size rfl (.tmp 37) (.tmp 40) 22 9 (.string ⟨#[]⟩) 16 rfl Tryz.underlying22 info_str9 rfl (show 0 < 1 by decide) (by decide) (.slice (some ⟨w2.heap.size, 0, none⟩) 1 1) [x] ([] : List BA) _ 0 _ (fun _ => True) (fun _ => False) rfl rfl (Kd.R_drew (own_one_s w2 w.heap.size _ hsz2 _ trivial x)) (strs_rows (strs_none _ _)) (fun _ _ h => h) (fun _ h => h.elim) (fun _ _ => trivial) (below_drew (below_alloc HB2.out _)) (below_drew (below_alloc HB2.out _)).size (by simp only [List.length_singleton]; omega) ?_
                    intro v1 w5 ho hb hg hat
                    obtain ⟨A1, c1, rfl, hle1, hC1⟩ := Kd.R_reads ho
                    have HC1 := Aside0.mk hC1
                    have HB5 := Aside0.mk hb
                    have HV5 := Aside0.mk (Kd.R_take (Kd.R_grown (Kd.R_drew (Kd.R_alloc HOK.out _)) hg (fun j hj e => by injection e with e; exact hj e)) hk)
                    have hl1 : ([x] ++ ([] : List BA)).length = 1 + 0 := rfl
                    clear ho hb hg hat hC1 hle1
                    refine hK.out _ _ ?_
                    clear hK K
                    refine norm_ (a' := ?_) ?_ ?_
                    rotate_left
                    · show Act.put _ (some 41) _ = _
                      simp only [Act.put, List.setIfInBounds_toArray, List.set_cons_zero, List.set_cons_succ, i64_w, i32_w]
                      rfl
                    refine last_ (i := 12) (N := some 42) #[true, true, true, true, true, true, true, true, true, true, true, true, true, false] rfl rfl (by kernel_rfl) (by decide) (fun K hK => ?_)
                    refine Kd.R_append_rows_step Kd.string (w0 := w) w.heap.size rfl (.tmp 32) (.tmp 41) 22 9 (.string ⟨#[]⟩) 16 rfl Tryz.underlying22 info_str9 rfl (show 0 < 1 by decide) (by decide) (.slice (some ⟨g, 0, none⟩) ys.length ys.length) (ys.take ys.length) _ _ _ _ (fun _ => True) (fun _ => False) rfl rfl (Kd.R_mono HV5.out (fun _ _ => trivial)) (strs_rows HC1.out) (fun _ _ h => h) (fun _ h => h.elim) (fun _ _ => trivial) HB5.out HB5.out.size (by rw [hl1]; simp only [List.length_take, List.length_nil]; omega) ?_
                    intro v2 w6 ho hb hg hat
                    have HO6 := Aside0.mk ho
                    have HB6 := Aside0.mk hb
                    clear ho hb hg hat
                    refine hK.out _ _ ?_
                    clear hK K
                    refine norm_ (a' := ?_) ?_ ?_
                    rotate_left
                    · show Act.put _ (some 42) _ = _
                      simp only [Act.put, List.setIfInBounds_toArray, List.set_cons_zero, List.set_cons_succ, i64_w, i32_w]
                      rfl
                    refine pure_ (i := 13) (N := some 3) (v := ?_) (a' := ?_) #[true, true, true, true, true, true, true, true, true, true, true, true, true, true] rfl rfl (by kernel_rfl) (fun _ _ _ h => h) (Or.inl ⟨by rfl, ?_⟩) ?_ ?_
                    rotate_left
                    · intro w'
                      go_simp
                      with_reducible rfl
                    rotate_left
                    · simp only [Act.put, List.setIfInBounds_toArray, List.set_cons_zero, List.set_cons_succ, i64_w, i32_w]
                      rfl
                    refine done_ (by kernel_rfl) ?_
                    go_wp2
                    go_roundw
                    case rel => exact ⟨i + 1, _, by go_num, by omega, HO6, HPOS, HB6⟩
                    case measure => simp [intOf]; omega
                  · skip
                    have hb2 := (hb_then HB.out HD2.out.below)
                    have HB2 := Aside0.mk hb2
                    have g0 := pw_cell_below HD2.out.below G0.out
                    have hsz2 := hb2.size
                    have hkc := hle
                    have HOK := Aside0.mk (Kd.R_mono (ok' := fun j => j ≠ w2.heap.size) (Kd.R_bound (Kd.R_below HO.out HD2.out.below)) (fun j hj => by have := hj.2.2.1; omega))
                    clear hb2
                    go_wp2_with fail
                    refine start_ (n := 14) (S := fun w' => w'.cell? ⟨b0, o0 + i, none⟩ = some (.string x)) (ds := [7, 11, 12]) #[false, false, false, false, false, false, false, false, false, false, false, false, false, false] (by kernel_rfl) rfl rfl (g0) (fun hHeld => ?_)
                    refine pure_ (i := 0) (N := some 30) (v := ?_) (a' := ?_) #[true, false, false, false, false, false, false, false, false, false, false, false, false, false] rfl rfl (by kernel_rfl) (fun _ _ _ h => h) (Or.inl ⟨by rfl, ?_⟩) ?_ ?_
                    rotate_left
                    · intro w'
                      go_simp
                      with_reducible rfl
                    rotate_left
                    · simp only [Act.put, List.setIfInBounds_toArray, List.set_cons_zero, List.set_cons_succ, i64_w, i32_w]
                      rfl
                    refine pure_ (i := 1) (N := some 31) (v := ?_) (a' := ?_) #[true, true, false, false, false, false, false, false, false, false, false, false, false, false] rfl rfl (by kernel_rfl) (fun _ _ _ h => h) (Or.inl ⟨by rfl, ?_⟩) ?_ ?_
                    rotate_left
                    · intro w'
                      go_simp
                      with_reducible rfl
                    rotate_left
                    · simp only [Act.put, List.setIfInBounds_toArray, List.set_cons_zero, List.set_cons_succ, i64_w, i32_w]
                      rfl
                    refine pure_ (i := 2) (N := some 32) (v := ?_) (a' := ?_) #[true, true, true, false, false, false, false, false, false, false, false, false, false, false] rfl rfl (by kernel_rfl) (fun _ _ _ h => h) (Or.inl ⟨by rfl, ?_⟩) ?_ ?_
                    rotate_left
                    · intro w'
                      go_simp
                      with_reducible rfl
                    rotate_left
                    · simp only [Act.put, List.setIfInBounds_toArray, List.set_cons_zero, List.set_cons_succ, i64_w, i32_w]
                      rfl
                    refine pure_ (i := 3) (N := some 33) (v := ?_) (a' := ?_) #[true, true, true, true, false, false, false, false, false, false, false, false, false, false] rfl rfl (by kernel_rfl) (fun _ _ _ h => h) (Or.inl ⟨by rfl, ?_⟩) ?_ ?_
                    rotate_left
                    · intro w'
                      go_simp
                      with_reducible rfl
                    rotate_left
                    · simp only [Act.put, List.setIfInBounds_toArray, List.set_cons_zero, List.set_cons_succ, i64_w, i32_w]
                      rfl
                    refine pure_ (i := 4) (N := some 34) (v := ?_) (a' := ?_) #[true, true, true, true, true, false, false, false, false, false, false, false, false, false] rfl rfl (by kernel_rfl) (fun _ _ _ h => h) (Or.inl ⟨by rfl, ?_⟩) ?_ ?_
                    rotate_left
                    · intro w'
                      go_simp
                      with_reducible rfl
                    rotate_left
                    · simp only [Act.put, List.setIfInBounds_toArray, List.set_cons_zero, List.set_cons_succ, i64_w, i32_w]
                      rfl
                    refine pure_ (i := 5) (N := some 35) (v := ?_) (a' := ?_) #[true, true, true, true, true, true, false, false, false, false, false, false, false, false] rfl rfl (by kernel_rfl) (fun _ _ _ h => h) (Or.inl ⟨by rfl, ?_⟩) ?_ ?_
                    rotate_left
                    · intro w'
                      go_simp
                      with_reducible rfl
                    rotate_left
                    · simp only [Act.put, List.setIfInBounds_toArray, List.set_cons_zero, List.set_cons_succ, i64_w, i32_w]
                      rfl
                    refine pure_ (i := 8) (N := some 38) (v := ?_) (a' := ?_) #[true, true, true, true, true, true, false, false, true, false, false, false, false, false] rfl rfl (by kernel_rfl) (fun _ _ _ h => h) (Or.inl ⟨by rfl, ?_⟩) ?_ ?_
                    rotate_left
                    · intro w'
                      go_simp
                      with_reducible rfl
                    rotate_left
                    · simp only [Act.put, List.setIfInBounds_toArray, List.set_cons_zero, List.set_cons_succ, i64_w, i32_w]
                      rfl
                    refine pure_ (i := 9) (N := some 39) (v := ?_) (a' := ?_) #[true, true, true, true, true, true, false, false, true, true, false, false, false, false] rfl rfl (by kernel_rfl) (fun _ _ _ h => h) (Or.inl ⟨by rfl, ?_⟩) ?_ ?_
                    rotate_left
                    · intro w'
                      go_simp
                      with_reducible rfl
                    rotate_left
                    · simp only [Act.put, List.setIfInBounds_toArray, List.set_cons_zero, List.set_cons_succ, i64_w, i32_w]
                      rfl
                    refine pure_ (i := 10) (N := some 40) (v := ?_) (a' := ?_) #[true, true, true, true, true, true, false, false, true, true, true, false, false, false] rfl rfl (by kernel_rfl) (fun _ _ _ h => h) (Or.inl ⟨by rfl, ?_⟩) ?_ ?_
                    rotate_left
                    · intro w'
                      go_simp
                      with_reducible rfl
                    rotate_left
                    · simp only [Act.put, List.setIfInBounds_toArray, List.set_cons_zero, List.set_cons_succ, i64_w, i32_w]
                      rfl
                    refine take_ (i := 6) (N := some 36) (v := ?_) (a' := ?_) #[true, true, true, true, true, true, true, false, true, true, true, false, false, false] rfl rfl (by kernel_rfl) (fun _ _ _ h => h) (Or.inl ⟨by rfl, ?_⟩) hHeld ?_ ?_
                    rotate_left
                    · intro w' s0
                      go_simp
                      with_reducible rfl
                    rotate_left
                    · simp only [Act.put, List.setIfInBounds_toArray, List.set_cons_zero, List.set_cons_succ, i64_w, i32_w]
                      rfl
                    refine last_ (i := 7) (N := some 37) #[true, true, true, true, true, true, true, true, true, true, true, false, false, false] rfl rfl (by kernel_rfl) (by decide) (fun K hK => ?_)
                    refine value_ (w1 := ?_) (v := ?_) (by rfl) rfl ?_ ?_
                    rotate_left 2
                    · go_simp
                      constructor
                      · rfl
                      · rfl
                    refine hK.out _ _ ?_
                    clear hK K
                    refine norm_ (a' := ?_) ?_ ?_
                    rotate_left
                    · show Act.put _ (some 37) _ = _
                      simp only [Act.put, List.setIfInBounds_toArray, List.set_cons_zero, List.set_cons_succ, i64_w, i32_w]
                      rfl
                    refine last_ (i := 11) (N := some 41) #[true, true, true, true, true, true, true, true, true, true, true, true, false, false] rfl rfl (by kernel_rfl) (by decide) (fun K hK => ?_)
                    refine Kd.R_append_rows_step Kd.string (w0 := w) w.heap.size rfl (.tmp 37) (.tmp 40) 22 9 (.string ⟨#[]⟩) 16 rfl Tryz.underlying22 info_str9 rfl (show 0 < 1 by decide) (by decide) (.slice (some ⟨w2.heap.size, 0, none⟩) 1 1) [x] ([] : List BA) _ 0 _ (fun _ => True) (fun _ => False) rfl rfl (Kd.R_drew (own_one_s w2 w.heap.size _ hsz2 _ trivial x)) (strs_rows (strs_none _ _)) (fun _ _ h => h) (fun _ h => h.elim) (fun _ _ => trivial) (below_drew (below_alloc HB2.out _)) (below_drew (below_alloc HB2.out _)).size (by simp only [List.length_singleton]; omega) ?_
                    intro v1 w5 ho hb hg hat
                    obtain ⟨A1, c1, rfl, hle1, hC1⟩ := Kd.R_reads ho
                    have HC1 := Aside0.mk hC1
                    have HB5 := Aside0.mk hb
                    have HV5 := Aside0.mk (Kd.R_take (Kd.R_grown (Kd.R_drew (Kd.R_alloc HOK.out _)) hg (fun j hj e => by injection e with e; exact hj e)) hk)
                    have hl1 : ([x] ++ ([] : List BA)).length = 1 + 0 := rfl
                    clear ho hb hg hat hC1 hle1
                    refine hK.out _ _ ?_
                    clear hK K
                    refine norm_ (a' := ?_) ?_ ?_
                    rotate_left
                    · show Act.put _ (some 41) _ = _
                      simp only [Act.put, List.setIfInBounds_toArray, List.set_cons_zero, List.set_cons_succ, i64_w, i32_w]
                      rfl
                    refine last_ (i := 12) (N := some 42) #[true, true, true, true, true, true, true, true, true, true, true, true, true, false] rfl rfl (by kernel_rfl) (by decide) (fun K hK => ?_)
                    refine Kd.R_append_rows_step Kd.string (w0 := w) w.heap.size rfl (.tmp 32) (.tmp 41) 22 9 (.string ⟨#[]⟩) 16 rfl Tryz.underlying22 info_str9 rfl (show 0 < 1 by decide) (by decide) (.slice (some ⟨g, 0, none⟩) ys.length c3) (ys.take ys.length) _ _ _ _ (fun _ => True) (fun _ => False) rfl rfl (Kd.R_mono HV5.out (fun _ _ => trivial)) (strs_rows HC1.out) (fun _ _ h => h) (fun _ h => h.elim) (fun _ _ => trivial) HB5.out HB5.out.size (by rw [hl1]; simp only [List.length_take, List.length_nil]; omega) ?_
                    intro v2 w6 ho hb hg hat
                    have HO6 := Aside0.mk ho
                    have HB6 := Aside0.mk hb
                    clear ho hb hg hat
                    refine hK.out _ _ ?_
                    clear hK K
                    refine norm_ (a' := ?_) ?_ ?_
                    rotate_left
                    · show Act.put _ (some 42) _ = _
                      simp only [Act.put, List.setIfInBounds_toArray, List.set_cons_zero, List.set_cons_succ, i64_w, i32_w]
                      rfl
                    refine pure_ (i := 13) (N := some 3) (v := ?_) (a' := ?_) #[true, true, true, true, true, true, true, true, true, true, true, true, true, true] rfl rfl (by kernel_rfl) (fun _ _ _ h => h) (Or.inl ⟨by rfl, ?_⟩) ?_ ?_
                    rotate_left
                    · intro w'
                      go_simp
                      with_reducible rfl
                    rotate_left
                    · simp only [Act.put, List.setIfInBounds_toArray, List.set_cons_zero, List.set_cons_succ, i64_w, i32_w]
                      rfl
                    refine done_ (by kernel_rfl) ?_
                    go_wp2
                    go_roundw
                    case rel => exact ⟨i + 1, _, by go_num, by omega, HO6, HPOS, HB6⟩
                    case measure => simp [intOf]; omega
              · exact absurd hc hlt2
    · have hall := HP.out
      rw [List.take_of_length_le (by omega)] at hall
      have HALL := Aside0.mk hall
      clear hall HP
      go_wp2
      go_ret
      exact ⟨_, _, rfl, HO.out, HALL.out.1, HALL.out.2, HB.out⟩
end Go.Proofs.YtididniafloogaaGreatDoor.Maps
