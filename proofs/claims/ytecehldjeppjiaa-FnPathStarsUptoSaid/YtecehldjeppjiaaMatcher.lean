/- Package tree: the matcher's methods. -/
import Derived.Test.YtecehldjeppjiaaPathMay
namespace Go.Proofs.Ytecehldjeppjiaa.Tree
open Go.RowKit Go.Proofs.YtecehldjeppjiaaW.PrintWords Go.Proofs.YtecehldjeppjiaaW.PrintLast Go.Proofs.Ytecehldjeppjiaa.Str Go.Proofs.Ytecehldjeppjiaa.Kit Go.Proofs.Ytecehldjeppjiaa.Index
set_option linter.unusedVariables false
set_option linter.unusedSimpArgs false
/-- rows of rows of strings -/
def KSS : Kd (List ByteArray) := Kd.slice 9 Kd.string
theorem info_strs : (Try.prog.info? 25).map (fun i => (i.zero, i.size, i.bytes)) = some (some (.slice none 0 0), 1, 24) := by kernel_rfl

theorem info_path : (Try.prog.info? 44).map (fun i => (i.zero, i.size, i.bytes)) = some (some (.string ⟨#[]⟩), 1, 16) := by kernel_rfl
/-- a row of rows that is read: its cells -/
theorem rows_open {w : World} {A : Option Addr} {xss : List (List ByteArray)} (h : KSS.C w A xss.length xss) (h0 : 0 < xss.length) :
    ∃ bk off, A = some ⟨bk, off, none⟩ ∧ bk < w.heap.size ∧ ∀ (j : Nat) (hj : j < xss.length), ∃ Aj cj, w.cell? ⟨bk, off + j, none⟩ = some (.slice Aj xss[j].length cj) ∧ xss[j].length ≤ cj ∧ Kd.string.C w Aj xss[j].length xss[j] := by
  obtain ⟨hl, hm, hc⟩ := h
  obtain ⟨ad, rfl, hcc⟩ := hc h0
  have cell : ∀ (j : Nat) (hj : j < xss.length), ∃ Aj cj, w.cell? (ad.add j) = some (.slice Aj xss[j].length cj) ∧ xss[j].length ≤ cj ∧ Kd.string.C w Aj xss[j].length xss[j] := by
    intro j hj
    obtain ⟨c, hcl, ⟨Aj, cj, hr, hle, hC⟩, hcell⟩ := hcc j xss[j] (List.getElem?_eq_getElem hj)
    subst hr
    have := hcell 0 _ rfl
    refine ⟨Aj, cj, ?_, hle, hC⟩
    simpa [KSS, Kd.slice] using this
  obtain ⟨bk, off, spot⟩ := ad
  have hspot : spot = none := by
    obtain ⟨_, _, h1, _⟩ := cell 0 h0
    cases hs : spot with
    | none => rfl
    | some sp =>
      exfalso
      subst hs
      simp [World.cell?, Addr.add] at h1
      split at h1 <;> simp at h1
  subst hspot
  have add : ∀ j : Nat, (⟨bk, off, none⟩ : Addr).add j = ⟨bk, off + j, none⟩ := by intro j; unfold Addr.add; split <;> simp_all
  refine ⟨bk, off, rfl, ?_, fun j hj => by rw [← add]; exact cell j hj⟩
  obtain ⟨_, _, h1, _⟩ := cell 0 h0
  rw [add] at h1
  exact World.block_lt_of_cell? w _ h1

theorem matchParts' {A0 : Option Addr} {c0 : Nat} {ps : List ByteArray} {A1 : Option Addr} {c1 : Nat} {xs : List ByteArray} {n : Nat} (w : World) (hn : n = ps.length) (h0 : Kd.string.C w A0 ps.length ps) (h1 : Kd.string.C w A1 xs.length xs) (hle : xs.length ≤ ps.length) :
    Calls Try.prog 37 #[.slice A0 n c0, .slice A1 xs.length c1] w fun e w' => e = .returned (.bool (matchB ps xs)) ∧ Drawn0 w w' := by
  subst hn
  exact matchParts w h0 h1 hle

/-- a matcher, by its address: the rows that it holds -/
def MatcherAt (w : World) (b : Nat) (pss : List (List ByteArray)) : Prop := ∃ A c, w.cell? ⟨b, 0, none⟩ = some (.slice A pss.length c) ∧ pss.length ≤ c ∧ KSS.C w A pss.length pss
theorem MatcherAt.below {w w' : World} {b : Nat} {pss : List (List ByteArray)} (h : MatcherAt w b pss) (hb : Below w.heap.size w w') : MatcherAt w' b pss := by
  obtain ⟨A, c, h1, h2, h3⟩ := h
  exact ⟨A, c, pw_cell_below hb h1, h2, Kd.C_below h3 hb⟩

theorem matchB_take (ps xs : List ByteArray) : ∀ n, xs.length ≤ n → matchB (ps.take n) xs = matchB ps xs := by
  induction ps generalizing xs with
  | nil => intro n _; simp
  | cons p ps ih =>
    intro n hn
    cases xs with
    | nil => cases n <;> simp [matchB]
    | cons x xs =>
      cases n with
      | zero => simp at hn
      | succ n =>
        simp only [List.length_cons] at hn
        rw [List.take_succ_cons, matchB, matchB, ih xs n (by omega)]
def longB (pss : List (List ByteArray)) (xs : List ByteArray) : Bool := pss.any fun ps => decide (xs.length < ps.length) && matchB ps xs
def evenB (pss : List (List ByteArray)) (xs : List ByteArray) : Bool := pss.any fun ps => ps.length == xs.length && matchB ps xs
/-- none of the first j -/
def NoneTo (f : List ByteArray → Bool) (pss : List (List ByteArray)) (j : Nat) : Prop := ∀ ps ∈ pss.take j, f ps = false
theorem NoneTo.start (f : List ByteArray → Bool) (pss : List (List ByteArray)) : NoneTo f pss 0 := by intro ps h; simp at h
theorem NoneTo.next {f : List ByteArray → Bool} {pss : List (List ByteArray)} {j : Nat} (h : NoneTo f pss j) (hj : j < pss.length) (hf : f pss[j] = false) : NoneTo f pss (j + 1) := by
  intro ps hm
  rw [List.take_succ_eq_append_getElem hj] at hm
  rcases List.mem_append.1 hm with hm | hm
  · exact h ps hm
  · simp at hm; subst hm; exact hf
theorem NoneTo.done {f : List ByteArray → Bool} {pss : List (List ByteArray)} {j : Nat} (h : NoneTo f pss j) (hj : pss.length ≤ j) : pss.any f = false := by
  unfold NoneTo at h
  rw [List.take_of_length_le hj] at h
  rw [List.any_eq_false]
  intro x hx
  simpa using h x hx
theorem any_at {f : List ByteArray → Bool} {pss : List (List ByteArray)} {j : Nat} (hj : j < pss.length) (hf : f pss[j] = true) : pss.any f = true := by
  rw [List.any_eq_true]
  exact ⟨_, List.getElem_mem hj, hf⟩

set_option maxHeartbeats 1600000 in
theorem MayContain {b : Nat} {pss : List (List ByteArray)} (s : ByteArray) (w : World) (h : MatcherAt w b pss) (hs : s.size ≤ 4398046511104) :
    Calls Try.prog 28 #[.pointer (some ⟨b, 0, none⟩), .string s] w fun e w' => e = .returned (.bool (longB pss (parts 46 s))) ∧ Below w.heap.size w w' := by
  have H := Aside0.mk h
  have hl0 := parts_length 46 s
  clear h
  go_enter Try.func28, Try.ntmps28
  go_wp2_with fail
  refine (Path_Parts s w hs).mono ?_
  rintro e w1 ⟨v1, rfl, hr1, hb1⟩
  obtain ⟨A1, c1, rfl, hc1, hC1⟩ := Kd.R_reads hr1
  obtain ⟨A, c, g, hc, hC⟩ := H.out.below hb1
  have hm := hC.2.1
  have H0 := Aside0.mk hC
  have H1 := Aside0.mk hC1
  have HB1 := Aside0.mk hb1
  clear hr1 hb1 hC hC1
  go_wp2
  go_loopw [15] (fun v wr => ∃ j : Nat, v = .int .i64 j ∧ j ≤ pss.length ∧ Aside0 (NoneTo (fun ps => decide ((parts 46 s).length < ps.length) && matchB ps (parts 46 s)) pss j) ∧ Drawn0 w1 wr) (fun v _ => pss.length - (intOf v).toNat)
  case atStart => exact ⟨0, rfl, by omega, ⟨NoneTo.start _ _⟩, Drawn0.refl _⟩
  case round =>
    obtain ⟨j, rfl, hj, HN, ⟨nd, rfl⟩⟩ := hrel
    by_cases hlt : j < pss.length
    · obtain ⟨b0, o0, rfl, hb0, hc0⟩ := rows_open H0.out (by omega)
      obtain ⟨Aj, cj, g0, hcj, hCj⟩ := hc0 j hlt
      have Hj := Aside0.mk hCj
      have hmj := hCj.2.1
      clear hc0 hCj
      by_cases hlen : (parts 46 s).length < pss[j].length
      · have hln : (pss[j].take (parts 46 s).length).length = (parts 46 s).length := by rw [List.length_take]; omega
        have HLN := Aside0.mk hln
        clear hln
        go_wp2_with fail
        refine (matchParts' (ps := pss[j].take (parts 46 s).length) (xs := parts 46 s) _ HLN.out.symm (Kd.C_below (Kd.C_take Hj.out (by omega)) (Drawn0.below ⟨⟨nd, rfl⟩⟩)) (Kd.C_below H1.out (Drawn0.below ⟨⟨nd, rfl⟩⟩)) (by rw [HLN.out]; exact Nat.le_refl _)).mono ?_
        rintro e w4 ⟨rfl, ⟨nd2, rfl⟩⟩
        rw [matchB_take _ _ _ (Nat.le_refl _)]
        cases hbb : matchB pss[j] (parts 46 s) with
        | true =>
          have yes := Aside0.mk (show longB pss (parts 46 s) = true from any_at hlt (by rw [decide_eq_true hlen, hbb]; rfl))
          clear hbb
          go_wp2
          go_ret
          exact ⟨by rw [yes.out]; rfl, hb_then HB1.out (Drawn0.below ⟨⟨_, rfl⟩⟩)⟩
        | false =>
          have nxt := Aside0.mk (HN.out.next hlt (by rw [hbb, Bool.and_false]))
          clear hbb
          go_wp2
          go_roundw
          case rel => exact ⟨j + 1, by go_num, by omega, nxt, ⟨⟨_, rfl⟩⟩⟩
          case measure => simp [intOf]; omega
      · have nxt := Aside0.mk (HN.out.next hlt (by rw [decide_eq_false hlen, Bool.false_and]))
        go_wp2
        go_roundw
        case rel => exact ⟨j + 1, by go_num, by omega, nxt, ⟨⟨_, rfl⟩⟩⟩
        case measure => simp [intOf]; omega
    · have no := Aside0.mk (show longB pss (parts 46 s) = false from HN.out.done (by omega))
      go_wp2
      go_ret
      exact ⟨by rw [no.out]; rfl, hb_then HB1.out (Drawn0.below ⟨⟨_, rfl⟩⟩)⟩

set_option maxHeartbeats 1600000 in
theorem Matcher_Matches {b : Nat} {pss : List (List ByteArray)} (s : ByteArray) (w : World) (h : MatcherAt w b pss) (hs : s.size ≤ 4398046511104) :
    Calls Try.prog 31 #[.pointer (some ⟨b, 0, none⟩), .string s] w fun e w' => e = .returned (.bool (evenB pss (parts 46 s))) ∧ Below w.heap.size w w' := by
  have H := Aside0.mk h
  have hl0 := parts_length 46 s
  clear h
  go_enter Try.func31, Try.ntmps31
  go_wp2_with fail
  refine (Path_Parts s w hs).mono ?_
  rintro e w1 ⟨v1, rfl, hr1, hb1⟩
  obtain ⟨A1, c1, rfl, hc1, hC1⟩ := Kd.R_reads hr1
  obtain ⟨A, c, g, hc, hC⟩ := H.out.below hb1
  have hm := hC.2.1
  have H0 := Aside0.mk hC
  have H1 := Aside0.mk hC1
  have HB1 := Aside0.mk hb1
  clear hr1 hb1 hC hC1
  go_wp2
  go_loopw [15] (fun v wr => ∃ j : Nat, v = .int .i64 j ∧ j ≤ pss.length ∧ Aside0 (NoneTo (fun ps => ps.length == (parts 46 s).length && matchB ps (parts 46 s)) pss j) ∧ Drawn0 w1 wr) (fun v _ => pss.length - (intOf v).toNat)
  case atStart => exact ⟨0, rfl, by omega, ⟨NoneTo.start _ _⟩, Drawn0.refl _⟩
  case round =>
    obtain ⟨j, rfl, hj, HN, ⟨nd, rfl⟩⟩ := hrel
    by_cases hlt : j < pss.length
    · obtain ⟨b0, o0, rfl, hb0, hc0⟩ := rows_open H0.out (by omega)
      obtain ⟨Aj, cj, g0, hcj, hCj⟩ := hc0 j hlt
      have Hj := Aside0.mk hCj
      have hmj := hCj.2.1
      clear hc0 hCj
      by_cases hlen : pss[j].length = (parts 46 s).length
      · have e1 : ((pss[j].length : Int) == ((parts 46 s).length : Int)) = true := beq_iff_eq.mpr (by omega)
        have HL := Aside0.mk hlen
        have hge : (parts 46 s).length ≤ pss[j].length := by omega
        clear hlen
        go_wp2_with fail
        refine (matchParts (ps := pss[j]) (xs := parts 46 s) _ (Kd.C_below Hj.out (Drawn0.below ⟨⟨nd, rfl⟩⟩)) (Kd.C_below H1.out (Drawn0.below ⟨⟨nd, rfl⟩⟩)) hge).mono ?_
        rintro e w4 ⟨rfl, ⟨nd2, rfl⟩⟩
        cases hbb : matchB pss[j] (parts 46 s) with
        | true =>
          have yes := Aside0.mk (show evenB pss (parts 46 s) = true from any_at hlt (by rw [HL.out, hbb, beq_self_eq_true]; rfl))
          clear hbb
          go_wp2
          go_ret
          exact ⟨by rw [yes.out]; rfl, hb_then HB1.out (Drawn0.below ⟨⟨_, rfl⟩⟩)⟩
        | false =>
          have nxt := Aside0.mk (HN.out.next hlt (by rw [hbb, Bool.and_false]))
          clear hbb
          go_wp2
          go_roundw
          case rel => exact ⟨j + 1, by go_num, by omega, nxt, ⟨⟨_, rfl⟩⟩⟩
          case measure => simp [intOf]; omega
      · have e1 : ((pss[j].length : Int) == ((parts 46 s).length : Int)) = false := beq_eq_false_iff_ne.mpr (by omega)
        have nxt := Aside0.mk (HN.out.next hlt (by rw [beq_eq_false_iff_ne.mpr hlen, Bool.false_and]))
        clear hlen
        go_wp2
        go_roundw
        case rel => exact ⟨j + 1, by go_num, by omega, nxt, ⟨⟨_, rfl⟩⟩⟩
        case measure => simp [intOf]; omega
    · have no := Aside0.mk (show evenB pss (parts 46 s) = false from HN.out.done (by omega))
      go_wp2
      go_ret
      exact ⟨by rw [no.out]; rfl, hb_then HB1.out (Drawn0.below ⟨⟨_, rfl⟩⟩)⟩

theorem new_rows {w3 : World} {e B B' : Nat} {v : Value} {p : List ByteArray} (h : Kd.R Kd.string e w3 B (fun _ => True) v p) (hB : B' ≤ B) : Kd.R Kd.string e w3 B' (fun k => B ≤ k) v p :=
  Kd.R_lower (Kd.R_mono (Kd.R_bound h) (fun k hk => hk.2.1)) hB
theorem heap_at_alloc2 (w : World) (o o' : Obj) : ((w.alloc o).alloc o').heap[w.heap.size + 1]? = some o' := by
  have := heap_alloc_new (w.alloc o) o'
  simpa using this
theorem set_block {w : World} {b t : Nat} {v : Value} (h : w.heap[b]? = some (.cells #[v] t (0, 0))) (x : Value) : (w.setCell ⟨b, 0, none⟩ x).heap[b]? = some (.cells #[x] t (0, 0)) := by
  have hb : b < w.heap.size := (Array.getElem?_eq_some_iff.1 h).1
  simp [World.setCell, Array.getElem?_modify, h]
theorem kss_append {ops : Array Oper} {o : Oper} {a : Act} {Q : Exit → Act → World → Prop} {Kc : Act → World → Prop} {w0 W : World} (hw : Region.wanted o (yielded ops a.tmps) = true) (s x : Operand)
    (ho : o.op = .call { callee := .builtin .append, args := #[s, x], argTypes := #[55, 55] })
    {v u : Value} {xss : List (List ByteArray)} {p : List ByteArray} {ok okp : Nat → Prop} (hs : a.eval s = v) (hx : a.eval x = .slice (some ⟨W.heap.size, 0, none⟩) 1 1)
    (hp : Kd.R Kd.string 9 W w0.heap.size okp u p) (hokp : ∀ k, okp k → ok k ∧ some k ≠ v.ownBlock) (hfresh : ∀ k, W.heap.size ≤ k → ok k)
    (HO : KSS.R 25 W w0.heap.size ok v xss) (HB : Below w0.heap.size w0 W) (hl : xss.length < 5000000000000)
    (h : ∀ v1 w1, KSS.R 25 w1 w0.heap.size ok v1 (xss ++ [p]) → Below w0.heap.size w0 w1 → W.grownBy w1 v.ownBlock → (v1.ownBlock = v.ownBlock ∨ ∃ b, v1.ownBlock = some b ∧ W.heap.size ≤ b) → Kc (a.put o.dst v1) w1) :
    if Region.wanted o (yielded ops a.tmps) = true then Oper.wp Try.prog o a (W.alloc (.cells #[u] 25)) Kc Q else Kc (a.put o.dst undef) (W.alloc (.cells #[u] 25)) :=
  Kd.R_append_step KSS w0.heap.size hw s x 55 25 (.slice none 0 0) 24 ho Try.underlying55 info_strs rfl (show 0 < 1 by decide) (by decide) v xss p [u] ok okp hs hx ⟨u, rfl, hp⟩ hokp hfresh HO HB HB.size (by omega) h

set_option maxHeartbeats 3200000 in
theorem NewMatcher {A : Option Addr} {c : Nat} {qs : List ByteArray} (w : World) (h : Kd.string.C w A qs.length qs) (hn : qs.length ≤ 2147483647) (hq : ∀ q ∈ qs, q.size ≤ 2147483647) :
    Calls Try.prog 36 #[.slice A qs.length c] w fun e w' => e = .returned (.pointer (some ⟨w.heap.size + 1, 0, none⟩)) ∧ MatcherAt w' (w.heap.size + 1) (qs.map (parts 46)) ∧ Below w.heap.size w w' := by
  have H := Aside0.mk h
  have HQ := Aside0.mk hq
  have hmk := run_make_cap (P := Try.prog) 55 25 (.slice none 0 0) 1 24 Try.underlying55 info_strs qs.length (by omega) (by omega)
  have ho0 := own_made_cap KSS w w.heap.size 25 #[.slice none 0 0] qs.length (Nat.le_refl _) (by omega)
  rw [show qs.length * KSS.sz = qs.length from Nat.mul_one _] at ho0
  have HO0 := Aside0.mk (Kd.R_mono (ok' := fun k => k ≠ w.heap.size + 1) (Kd.R_bound ho0) (fun k hk => by have := hk.2.2.1; simp at this; omega))
  clear ho0
  clear h hq
  go_enter Try.func36, Try.ntmps36
  go_wp2
  clear hmk
  go_loopw [13] (fun v13 wr => ∃ (j : Nat) (v : Value), v13 = .int .i64 j ∧ j ≤ qs.length ∧ w.heap.size + 2 ≤ wr.heap.size ∧ wr.heap[w.heap.size + 1]? = some (.cells #[v] 57 (0, 0)) ∧ Aside0 (KSS.R 25 wr w.heap.size (fun k => k ≠ w.heap.size + 1) v ((qs.take j).map (parts 46))) ∧ Aside0 (Below w.heap.size w wr)) (fun v13 _ => qs.length - (intOf v13).toNat)
  case atStart =>
    refine ⟨0, .slice (some ⟨w.heap.size, 0, none⟩) 0 qs.length, rfl, by omega, by simp, ?_, ⟨?_⟩, ⟨((Below.refl _ _).alloc (Nat.le_refl _) _).alloc (by simp) _⟩⟩
    · rw [heap_at_alloc2]
    · exact Kd.R_alloc HO0.out _
  case round =>
    clear HO0
    obtain ⟨j, v, rfl, hj, hsz, hblk, HO, HB⟩ := hrel
    by_cases hlt : j < qs.length
    · obtain ⟨b0, o0, rfl, hb0, hc0⟩ := strs_open (Kd.C_below H.out HB.out) (by omega)
      have g0 := hc0 j hlt
      have hqj := HQ.out qs[j] (List.getElem_mem hlt)
      have hcell : wr.cell? ⟨w.heap.size + 1, 0, none⟩ = some v := by simp [World.cell?, hblk]
      have hlen : ((qs.take j).map (parts 46)).length < 5000000000000 := by rw [List.length_map, List.length_take]; omega
      clear hc0
      go_wp2_with fail
      refine start_ (n := 12) (S := fun w' => w'.cell? ⟨w.heap.size + 1, 0, none⟩ = some v ∧ w'.heap[w.heap.size + 1]? = some (.cells #[v] 57 (0, 0))) (ds := [11]) #[false, false, false, false, false, false, false, false, false, false, false, false] (by kernel_rfl) rfl rfl ⟨hcell, hblk⟩ (fun hHeld => ?_)
      refine pure_ (i := 0) (N := some 17) (v := ?_) (a' := ?_) #[true, false, false, false, false, false, false, false, false, false, false, false] rfl rfl (by kernel_rfl) (fun _ _ _ h => h) (Or.inl ⟨by rfl, ?_⟩) ?_ ?_
      rotate_left
      · intro w'
        go_simp
        with_reducible rfl
      rotate_left
      · simp only [Act.put, List.setIfInBounds_toArray, List.set_cons_zero, List.set_cons_succ, i64_w, i32_w]
        rfl
      refine pure_ (i := 1) (N := some 18) (v := ?_) (a' := ?_) #[true, true, false, false, false, false, false, false, false, false, false, false] rfl rfl (by kernel_rfl) (fun _ _ _ h => h) (Or.inl ⟨by rfl, ?_⟩) ?_ ?_
      rotate_left
      · intro w'
        go_simp
        with_reducible rfl
      rotate_left
      · simp only [Act.put, List.setIfInBounds_toArray, List.set_cons_zero, List.set_cons_succ, i64_w, i32_w]
        rfl
      refine pure_ (i := 2) (N := some 19) (v := ?_) (a' := ?_) #[true, true, true, false, false, false, false, false, false, false, false, false] rfl rfl (by kernel_rfl) (fun _ _ _ h => h) (Or.inl ⟨by rfl, ?_⟩) ?_ ?_
      rotate_left
      · intro w'
        go_simp
        with_reducible rfl
      rotate_left
      · simp only [Act.put, List.setIfInBounds_toArray, List.set_cons_zero, List.set_cons_succ, i64_w, i32_w]
        rfl
      refine pure_ (i := 3) (N := some 20) (v := ?_) (a' := ?_) #[true, true, true, true, false, false, false, false, false, false, false, false] rfl rfl (by kernel_rfl) (fun _ _ _ h => h) (Or.inl ⟨by rfl, ?_⟩) ?_ ?_
      rotate_left
      · intro w'
        go_simp
        with_reducible rfl
      rotate_left
      · simp only [Act.put, List.setIfInBounds_toArray, List.set_cons_zero, List.set_cons_succ, i64_w, i32_w]
        rfl
      refine pure_ (i := 5) (N := some 22) (v := ?_) (a' := ?_) #[true, true, true, true, false, true, false, false, false, false, false, false] rfl rfl (by kernel_rfl) (fun _ _ _ h => h) (Or.inl ⟨by rfl, ?_⟩) ?_ ?_
      rotate_left
      · intro w'
        go_simp
        with_reducible rfl
      rotate_left
      · simp only [Act.put, List.setIfInBounds_toArray, List.set_cons_zero, List.set_cons_succ, i64_w, i32_w]
        rfl
      refine take_ (i := 4) (N := some 21) (v := ?_) (a' := ?_) #[true, true, true, true, true, true, false, false, false, false, false, false] rfl rfl (by kernel_rfl) (fun _ _ _ h => h) (Or.inl ⟨by rfl, ?_⟩) hHeld ?_ ?_
      rotate_left
      · rintro w' ⟨s0, s1⟩
        go_simp
        with_reducible rfl
      rotate_left
      · simp only [Act.put, List.setIfInBounds_toArray, List.set_cons_zero, List.set_cons_succ, i64_w, i32_w]
        rfl
      refine one_ (i := 6) (N := some 23) #[true, true, true, true, true, true, true, false, false, false, false, false] rfl rfl (by kernel_rfl) (by decide) (fun K hK => ?_)
      refine goes_ Try.func23 (by kernel_rfl) rfl #[.string qs[j]] (by rfl) rfl rfl (by simp only [List.map_toArray, List.map_cons, List.map_nil]; rfl) ?_
      with_reducible refine (Path_Parts qs[j] _ (by omega)).mono ?_
      rintro e w3 ⟨v3, rfl, hr3, hb3⟩
      refine ⟨_, rfl, ?_⟩
      obtain ⟨A3, c3, rfl⟩ := Kd.R_slice hr3
      have HB3 := Aside0.mk (hb_then (below_drew HB.out) hb3)
      have HO3 := Aside0.mk (Kd.R_below (Kd.R_drew HO.out) hb3)
      have HR3 := Aside0.mk (new_rows hr3 HB.out.size)
      have HS3 := Aside0.mk (show wr.heap.size ≤ w3.heap.size from hb3.size)
      refine hK.out _ _ ⟨pw_cell_below hb3 hHeld.1, (hb3.block _ (by show w.heap.size + 1 < wr.heap.size; omega)).trans hHeld.2⟩ (fun hHeld => ?_)
      clear hK K
      refine norm_ (a' := ?_) ?_ ?_
      rotate_left
      · show Act.put _ (some 23) _ = _
        simp only [Act.put, List.setIfInBounds_toArray, List.set_cons_zero, List.set_cons_succ, i64_w, i32_w]
        rfl
      refine one_ (i := 7) (N := some 24) #[true, true, true, true, true, true, true, true, false, false, false, false] rfl rfl (by kernel_rfl) (by decide) (fun K hK => ?_)
      have hC3 := Aside0.mk hHeld.1
      have hK3 := Aside0.mk hHeld.2
      refine value_ (w1 := ?_) (v := ?_) (by rfl) rfl ?_ ?_
      rotate_left 2
      · go_simp
        constructor
        · rfl
        · rfl
      refine hK.out _ _ ⟨pw_cell_below (below_alloc (Below.refl _ _) _) hHeld.1, ((below_alloc (Below.refl _ _) _).block _ (by have := HS3.out; omega)).trans hHeld.2⟩ (fun hHeld => ?_)
      clear hK K
      refine norm_ (a' := ?_) ?_ ?_
      rotate_left
      · show Act.put _ (some 24) _ = _
        simp only [Act.put, List.setIfInBounds_toArray, List.set_cons_zero, List.set_cons_succ, i64_w, i32_w]
        rfl
      refine one_ (i := 8) (N := some 25) #[true, true, true, true, true, true, true, true, true, false, false, false] rfl rfl (by kernel_rfl) (by decide) (fun K hK => ?_)
      refine kss_append rfl (.tmp 21) (.tmp 24) rfl (v := v) rfl rfl HR3.out (fun k hk => ⟨(show k ≠ w.heap.size + 1 by have h2 : wr.heap.size ≤ k := hk; omega), fun he => ?_⟩) (fun k hk => (show k ≠ w.heap.size + 1 by have := HS3.out; omega)) HO3.out HB3.out hlen ?_
      · have h1 := (Kd.R_bound HO.out).1 k he.symm; have h2 : wr.heap.size ≤ k := hk; have h3 := h1.2.2.1; omega
      intro v1 w5 ho hb hg hat
      obtain ⟨A5, c5, rfl⟩ := Kd.R_slice ho
      have HO5 := Aside0.mk ho
      have HB5 := Aside0.mk hb
      have HS5 := Aside0.mk (show w3.heap.size ≤ w5.heap.size from hg.size)
      refine hK.out _ _ ⟨cell_grown hg hC3.out (fun h => HO3.out.1 _ h.symm rfl), (hg.block _ (by have := HS3.out; omega) (fun h => HO3.out.1 _ h.symm rfl)).trans hK3.out⟩ (fun hHeld => ?_)
      clear hK K
      refine norm_ (a' := ?_) ?_ ?_
      rotate_left
      · show Act.put _ (some 25) _ = _
        simp only [Act.put, List.setIfInBounds_toArray, List.set_cons_zero, List.set_cons_succ, i64_w, i32_w]
        rfl
      refine pure_ (i := 9) (N := some 26) (v := ?_) (a' := ?_) #[true, true, true, true, true, true, true, true, true, true, false, false] rfl rfl (by kernel_rfl) (fun _ _ _ h => h) (Or.inl ⟨by rfl, ?_⟩) ?_ ?_
      rotate_left
      · intro w'
        go_simp
        with_reducible rfl
      rotate_left
      · simp only [Act.put, List.setIfInBounds_toArray, List.set_cons_zero, List.set_cons_succ, i64_w, i32_w]
        rfl
      refine pure_ (i := 10) (N := some 27) (v := ?_) (a' := ?_) #[true, true, true, true, true, true, true, true, true, true, true, false] rfl rfl (by kernel_rfl) (fun _ _ _ h => h) (Or.inl ⟨by rfl, ?_⟩) ?_ ?_
      rotate_left
      · intro w'
        go_simp
        with_reducible rfl
      rotate_left
      · simp only [Act.put, List.setIfInBounds_toArray, List.set_cons_zero, List.set_cons_succ, i64_w, i32_w]
        rfl
      refine last_ (i := 11) (N := none) #[true, true, true, true, true, true, true, true, true, true, true, true] rfl rfl (by kernel_rfl) (by decide) (fun K hK => ?_)
      have hfz : w5.frozen? ⟨w.heap.size + 1, 0, none⟩ = false := by simp [World.frozen?, hHeld.2]
      have hk5 := Aside0.mk hHeld.2
      refine skip_ (w1 := ?_) (by rfl) rfl ?_ ?_
      rotate_left
      · go_simp
        rfl
      refine hK.out _ _ ?_
      clear hK K
      refine done_ (by kernel_rfl) ?_
      go_wp2
      go_roundw
      case rel =>
        refine ⟨j + 1, _, by go_num, by omega, ?_, set_block hk5.out _, ⟨?_⟩, ⟨?_⟩⟩
        · rw [World.size_setCell]; have := HS3.out; have := HS5.out; omega
        · have h2 := Kd.R_far (p := ⟨w.heap.size + 1, 0, none⟩) HO5.out (fun k hk => hk) (.slice A5 ((List.map (parts 46) (List.take j qs)) ++ [parts 46 qs[j]]).length c5)
          have hln : (List.map (parts 46) (List.take j qs) ++ [parts 46 qs[j]]).length = j + 1 := by simp; omega
          rw [hln] at h2
          rw [List.take_succ_eq_append_getElem hlt, List.map_append, List.map_cons, List.map_nil]
          exact h2
        · exact HB5.out.setCell (by show w.heap.size ≤ w.heap.size + 1; omega) _
      case measure => simp [intOf]; omega
    · have hqq : qs.take j = qs := List.take_of_length_le (by omega)
      have HQQ := Aside0.mk hqq
      have HC := Aside0.mk hblk
      clear hqq hblk
      go_wp2
      go_ret
      refine ⟨rfl, ?_, HB.out⟩
      obtain ⟨A, c', rfl, hle, hC⟩ := Kd.R_reads HO.out
      rw [HQQ.out] at hC hle HC
      exact ⟨A, c', by simp [World.cell?, HC.out], hle, hC⟩

set_option maxHeartbeats 800000 in
theorem impl_matcher {A : Option Addr} {c : Nat} {qs : List ByteArray} (w : World) (h : Kd.string.C w A qs.length qs) (hn : qs.length ≤ 2147483647) (hq : ∀ q ∈ qs, q.size ≤ 2147483647) :
    Calls Try.prog 27 #[.slice A qs.length c] w fun e w' => ∃ b, e = .returned (.pointer (some ⟨b, 0, none⟩)) ∧ MatcherAt w' b (qs.map (parts 46)) ∧ Below w.heap.size w w' := by
  have H := Aside0.mk h
  have HQ := Aside0.mk hq
  have HB := Aside0.mk (Below.refl w.heap.size w)
  clear h hq
  go_enter Try.func27, Try.ntmps27
  go_wp2
  go_loopw [3, 8] (fun v3 v8 wr => ∃ (j : Nat), v8 = .int .i64 j ∧ j ≤ qs.length ∧ Aside0 (Kd.string.R 44 wr w.heap.size (fun _ => True) v3 (qs.take j)) ∧ Aside0 (Below w.heap.size w wr)) (fun _ v8 _ => qs.length - (intOf v8).toNat)
  case atStart => exact ⟨0, rfl, by omega, ⟨Kd.R_nil _ _ _ _ _⟩, HB⟩
  case round =>
    clear HB
    obtain ⟨j, rfl, hj, HO, HB⟩ := hrel
    by_cases hlt : j < qs.length
    · obtain ⟨b0, o0, rfl, hb0, hc0⟩ := strs_open (Kd.C_below H.out HB.out) (by omega)
      have g0 := hc0 j hlt
      have hl : (qs.take j).length < 8796093022207 := by rw [List.length_take]; omega
      clear hc0
      go_wp2_with (at_builtin; refine append_strT 53 44 Try.underlying53 info_path _ _ rfl rfl rfl rfl HO.out HB.out hl ?_; intro v1 w2 ho hb hg; rw [← List.take_succ_eq_append_getElem hlt] at ho; have HO2 := Aside0.mk ho; have HB2 := Aside0.mk hb; clear ho hb hg)
      go_roundw
      case rel => exact ⟨j + 1, by go_num, by omega, HO2, HB2⟩
      case measure => simp [intOf]; omega
    · have hqq : qs.take j = qs := List.take_of_length_le (by omega)
      have ho := HO.out
      rw [hqq] at ho
      obtain ⟨A3, c3, rfl, hc3, hC3⟩ := Kd.R_reads ho
      have HC3 := Aside0.mk hC3
      clear hqq ho hC3
      go_wp2_with fail
      refine (NewMatcher wr HC3.out hn HQ.out).mono ?_
      rintro e w2 ⟨rfl, hm, hb⟩
      have HM := Aside0.mk hm
      have HB2 := Aside0.mk (hb_then HB.out hb)
      clear hm hb
      go_wp2
      go_ret
      exact ⟨_, rfl, HM.out, HB2.out⟩

set_option maxHeartbeats 800000 in
theorem impl_MayContain {A : Option Addr} {c : Nat} {qs : List ByteArray} (p : ByteArray) (w : World) (h : Kd.string.C w A qs.length qs) (hn : qs.length ≤ 2147483647) (hq : ∀ q ∈ qs, q.size ≤ 2147483647) (hp : p.size ≤ 4398046511104) :
    Calls Try.prog 17 #[.slice A qs.length c, .string p] w fun e w' => e = .returned (.bool (longB (qs.map (parts 46)) (parts 46 p))) ∧ Below w.heap.size w w' := by
  have H := Aside0.mk h
  have HQ := Aside0.mk hq
  clear h hq
  go_enter Try.func17, Try.ntmps17
  go_wp2_with fail
  refine (impl_matcher w H.out hn HQ.out).mono ?_
  rintro e w1 ⟨b, rfl, hm, hb⟩
  have HM := Aside0.mk hm
  have HB1 := Aside0.mk hb
  clear hm hb
  go_wp2_with fail
  refine (MayContain p w1 HM.out hp).mono ?_
  rintro e w2 ⟨rfl, hb⟩
  have HB2 := Aside0.mk (hb_then HB1.out hb)
  clear hb
  go_wp2
  go_ret
  exact ⟨rfl, HB2.out⟩

set_option maxHeartbeats 800000 in
theorem impl_MatchesAny {A : Option Addr} {c : Nat} {qs : List ByteArray} (p : ByteArray) (w : World) (h : Kd.string.C w A qs.length qs) (hn : qs.length ≤ 2147483647) (hq : ∀ q ∈ qs, q.size ≤ 2147483647) (hp : p.size ≤ 4398046511104) :
    Calls Try.prog 20 #[.slice A qs.length c, .string p] w fun e w' => e = .returned (.bool (evenB (qs.map (parts 46)) (parts 46 p))) ∧ Below w.heap.size w w' := by
  have H := Aside0.mk h
  have HQ := Aside0.mk hq
  clear h hq
  go_enter Try.func20, Try.ntmps20
  go_wp2_with fail
  refine (impl_matcher w H.out hn HQ.out).mono ?_
  rintro e w1 ⟨b, rfl, hm, hb⟩
  have HM := Aside0.mk hm
  have HB1 := Aside0.mk hb
  clear hm hb
  go_wp2_with fail
  refine (Matcher_Matches p w1 HM.out hp).mono ?_
  rintro e w2 ⟨rfl, hb⟩
  have HB2 := Aside0.mk (hb_then HB1.out hb)
  clear hb
  go_wp2
  go_ret
  exact ⟨rfl, HB2.out⟩
end Go.Proofs.Ytecehldjeppjiaa.Tree
