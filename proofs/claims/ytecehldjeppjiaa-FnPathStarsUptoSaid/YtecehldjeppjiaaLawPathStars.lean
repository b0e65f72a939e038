/- The walk through the law FnPathStars. -/
import Derived.Test.YtecehldjeppjiaaLawPathAbove
namespace Go.Proofs.Ytecehldjeppjiaa.LawPathStars
open Go.RowKit Go.Proofs.YtecehldjeppjiaaW.PrintWords Go.Proofs.Ytecehldjeppjiaa.Str Go.Proofs.Ytecehldjeppjiaa.Kit Go.Proofs.Ytecehldjeppjiaa.Index Go.Proofs.Ytecehldjeppjiaa.Tree Go.Proofs.Ytecehldjeppjiaa.Texts Go.Proofs.Ytecehldjeppjiaa.PathSpec Go.Proofs.Ytecehldjeppjiaa.LawPathAbove
set_option linter.unusedVariables false
set_option linter.unusedSimpArgs false

def star : ByteArray := ⟨#[42]⟩
/-- some items replaced by stars -/
def Star : List ByteArray → List ByteArray → Prop
  | [], [] => True
  | s :: ss, x :: xs => (s = x ∨ s = star) ∧ Star ss xs
  | _, _ => False
theorem Star.snoc : ∀ {ss xs : List ByteArray} {s x : ByteArray}, Star ss xs → (s = x ∨ s = star) → Star (ss ++ [s]) (xs ++ [x])
  | [], [], _, _, _, h => ⟨h, trivial⟩
  | _ :: _, _ :: _, _, _, h, h2 => ⟨h.1, Star.snoc h.2 h2⟩
theorem Star.length : ∀ {ss xs : List ByteArray}, Star ss xs → ss.length = xs.length
  | [], [], _ => rfl
  | _ :: _, _ :: _, h => by simp [Star.length h.2]
theorem Star.matchB : ∀ {ss xs : List ByteArray}, Star ss xs → matchB ss xs = true
  | [], [], _ => rfl
  | s :: ss, x :: xs, h => by
    rw [Tree.matchB, Star.matchB h.2, Bool.and_true]
    rcases h.1 with rfl | rfl
    · simp [takes]
    · rfl
theorem Star.item : ∀ {ss xs : List ByteArray}, Star ss xs → (∀ x ∈ xs, item x) → ∀ s ∈ ss, item s
  | [], [], _, _ => by simp
  | s :: ss, x :: xs, h, hi => by
    intro y hy
    rcases List.mem_cons.1 hy with hy | hy
    · subst hy
      rcases h.1 with rfl | rfl
      · exact hi _ (by simp)
      · exact ⟨by decide, by decide⟩
    · exact Star.item h.2 (fun z hz => hi z (by simp [hz])) y hy
theorem Star.bulk : ∀ {ss xs : List ByteArray}, Star ss xs → (∀ x ∈ xs, PathSpec.item x) → bulk ss ≤ bulk xs
  | [], [], _, _ => by simp
  | s :: ss, x :: xs, h, hi => by
    have h1 := Star.bulk h.2 (fun z hz => hi z (by simp [hz]))
    have h2 : s.size ≤ x.size := by
      rcases h.1 with rfl | rfl
      · omega
      · have h3 := (hi x (by simp)).1
        have : 0 < (lb x).length := List.length_pos_iff.2 h3
        rw [lb_length] at this
        show 1 ≤ x.size
        omega
    simp only [Kit.bulk, List.map_cons, List.sum_cons] at h1 ⊢
    omega
theorem matchB_same : ∀ xs : List ByteArray, matchB xs xs = true
  | [] => rfl
  | x :: xs => by rw [matchB, matchB_same xs]; simp [takes]
/-- one item more by a byte -/
def longer (x : ByteArray) : ByteArray := x ++ ⟨#[120]⟩
theorem longer_item {x : ByteArray} (h : item x) : item (longer x) := by
  unfold item longer
  rw [lb_append]
  refine ⟨by simp, ?_⟩
  intro hm
  rcases List.mem_append.1 hm with hm | hm
  · exact h.2 hm
  · revert hm; decide
theorem matchB_unlike : ∀ (xs : List ByteArray) (k : Nat) (hk : k < xs.length), item xs[k] → matchB (xs.set k (longer xs[k])) xs = false
  | x :: xs, 0, _, hi => by
    simp only [List.set_cons_zero, List.getElem_cons_zero, matchB]
    have h0 : 0 < (lb x).length := List.length_pos_iff.2 hi.1
    have : takes (longer x) x = false := by
      simp only [takes, longer, lb_append, Bool.or_eq_false_iff, beq_eq_false_iff_ne]
      refine ⟨fun h => ?_, fun h => ?_⟩
      · have := congrArg List.length h
        rw [List.length_append, show (lb ⟨#[120]⟩).length = 1 from rfl, show ([42] : Bs).length = 1 from rfl] at this
        omega
      · have := congrArg List.length h
        rw [List.length_append, show (lb ⟨#[120]⟩).length = 1 from rfl] at this
        omega
    rw [this, Bool.false_and]
  | x :: xs, k + 1, hk, hi => by
    simp only [List.set_cons_succ, List.getElem_cons_succ, matchB]
    rw [matchB_unlike xs k (by simpa using hk) (by simpa using hi), Bool.and_false]
theorem bulk_set : ∀ (xs : List ByteArray) (k : Nat) (x : ByteArray), bulk (xs.set k x) ≤ bulk xs + x.size
  | [], _, _ => by simp [bulk]
  | a :: xs, 0, x => by simp only [List.set_cons_zero, bulk, List.map_cons, List.sum_cons]; omega
  | a :: xs, k + 1, x => by have := bulk_set xs k x; simp only [List.set_cons_succ, bulk, List.map_cons, List.sum_cons] at this ⊢; omega

/-- a row of strings of the call's own: a cell read and written -/
theorem str_cell {W : World} {e base g cap n : Nat} {ok : Nat → Prop} {xs : List ByteArray} (h : Kd.string.R e W base ok (.slice (some ⟨g, 0, none⟩) n cap) xs) (j : Nat) (hj : j < xs.length) : W.cell? ⟨g, j, none⟩ = some (.string xs[j]) ∧ W.frozen? ⟨g, j, none⟩ = false := by
  have hn : n = xs.length := by obtain ⟨_, _, he, _⟩ := Kd.R_reads h; injection he
  subst hn
  have h2 := Kd.R_cell (enc := Value.string) (h1 := fun _ => rfl) ByteArray.empty h (j : Int) (by omega) (by omega)
  simp only [Int.toNat_natCast, rdOf, List.getD_eq_getElem?_getD, List.getElem?_eq_getElem hj, Option.getD_some] at h2
  exact h2
theorem str_put {W : World} {e base g cap n : Nat} {ok : Nat → Prop} {xs : List ByteArray} (h : Kd.string.R e W base ok (.slice (some ⟨g, 0, none⟩) n cap) xs) (j : Nat) (x : ByteArray) : Kd.string.R e (W.setCell ⟨g, j, none⟩ (.string x)) base ok (.slice (some ⟨g, 0, none⟩) n cap) (xs.set j x) ∧ W.grownBy (W.setCell ⟨g, j, none⟩ (.string x)) (some g) := by
  have hn : n = xs.length := by obtain ⟨_, _, he, _⟩ := Kd.R_reads h; injection he
  subst hn
  have h2 := Kd.R_put (enc := Value.string) (h1 := fun _ => rfl) h (j : Int) x
  simp only [Int.toNat_natCast] at h2
  exact h2

theorem str_form {W : World} {e base : Nat} {v : Value} {ok : Nat → Prop} {xs : List ByteArray} (h : Kd.string.R e W base ok v xs) (h0 : 0 < xs.length) : ∃ g cap, v = .slice (some ⟨g, 0, none⟩) xs.length cap ∧ ok g ∧ g < W.heap.size := by
  obtain ⟨inner, ho⟩ := Kd.R_own h
  obtain ⟨g, cap, rfl, h1, h2⟩ := ho.form h0
  exact ⟨g, cap, rfl, h.1 g rfl, own_lt ho g rfl⟩

set_option maxHeartbeats 2000000 in
theorem law (A0 : Option Addr) (c0 : Nat) (xs : List ByteArray) (which at' : Int) (w : World) (hC0 : Kd.string.C w A0 xs.length xs) (_ : xs.length ≤ c0) (hb0 : bulk xs ≤ 1048576) (hw1 : (Lit.int .u64 which).wf = true) (hw2 : (Lit.int .i64 at').wf = true) :
    Calls Try.prog 6 #[.slice A0 xs.length c0, .int .u64 which, .int .i64 at'] w fun e w' => e = .returned (.bool true) ∧ Below w.heap.size w w' := by
  have HF := Aside0.mk (fits_of_bulk hb0)
  have H0 := Aside0.mk hC0
  have D0 := Aside0.mk (decide_eq_true HF.out)
  have hsz := newPath_size xs
  have hln := bulk_length xs
  clear hC0
  go_enter Try.func6, Try.ntmps6
  go_wp2_with fail
  refine (zzFits2 w H0.out).mono ?_
  rintro e w1 ⟨rfl, rfl⟩
  rw [D0.out]
  go_wp2_with fail
  refine (PathOf w H0.out (by omega)).mono ?_
  rintro e w1 ⟨hb, ⟨hi, rfl⟩ | ⟨hi, rfl⟩⟩
  · have HB1 := Aside0.mk hb
    have H01 := Aside0.mk (Kd.C_below H0.out hb)
    have HI := Aside0.mk hi
    clear hb hi
    by_cases h0 : xs.length = 0
    · have dz : decide (0 < xs.length) = false := decide_eq_false (by omega)
      rw [dz]
      clear dz
      go_wp2_with fail
      refine (treeLives w1).mono ?_
      rintro e w3 ⟨rfl, hb⟩
      have HB3 := Aside0.mk (hb_then HB1.out hb)
      clear hb
      go_wp2
      go_ret
      exact ⟨rfl, HB3.out⟩
    · have dz : decide (0 < xs.length) = true := decide_eq_true (by omega)
      have hpos : 0 < xs.length := by omega
      rw [dz]
      clear dz h0
      have HE0 := Aside0.mk (own_empty Kd.string (w := w1) (base := w.heap.size) (e := 9) (ok := fun k => k < w1.heap.size + 1) HB1.out.size (by omega))
      have he1 := own_empty Kd.string (w := w1.alloc (.cells #[] 9)) (base := w.heap.size) (e := 9) (ok := fun k => w1.heap.size + 1 ≤ k) (by have := HB1.out.size; simp; omega) (by simp)
      rw [World.size_alloc] at he1
      have HE1 := Aside0.mk he1
      clear he1
      have H02 := Aside0.mk (Kd.C_below H01.out ((Below.refl _ w1).alloc (Nat.le_refl _) (.cells #[] 9)))
      have H03 := Aside0.mk (Kd.C_below H02.out ((Below.refl _ _).alloc (Nat.le_refl _) (.cells #[] 9)))
      have HB2 := Aside0.mk ((HB1.out.alloc HB1.out.size (.cells #[] 9)).alloc (by have := HB1.out.size; simp; omega) (.cells #[] 9))
      go_wp2_with (at_builtin; go_loud (refine append_strs (ok := fun k => w1.heap.size + 1 ≤ k) (fun k hk => by simp at hk; omega) (.tmp 30) (.tmp 31) rfl rfl rfl rfl HE1.out H03.out HB2.out (by simp; omega) ?_); intro v2 w2 ho hb hg hat; have HO := Aside0.mk ho; have HB3 := Aside0.mk hb; have HG := Aside0.mk hg; clear ho hb hg hat)
      rw [List.nil_append] at HO
      obtain ⟨g, cap, rfl, hok, hglt⟩ := str_form HO.out hpos
      have hgb : w.heap.size ≤ g := by have := HB1.out.size; omega
      have HO2 := Aside0.mk (Kd.R_tight rfl HO.out)
      have HS2 := Aside0.mk (Kd.R_mono (ok' := fun k => k ≠ g) (Kd.R_grown (Kd.R_alloc HE0.out _) HG.out (fun k hk => by show some k ≠ some (w1.heap.size + 1); intro he; injection he with he; omega)) (fun k hk => by omega))
      clear HO HE0 HE1 HG H02 H03 hok HB2
      go_loopw [9, 11, 12] (fun v9 v11 v12 wr => ∃ (i : Nat) (ss : List ByteArray), v11 = .int .i64 i ∧ i ≤ xs.length ∧ g < wr.heap.size ∧ Aside0 (Star ss (xs.take i)) ∧ Aside0 (Kd.string.R 9 wr w.heap.size (fun k => k ≠ g) v9 ss) ∧ Aside0 (Kd.string.R 9 wr w.heap.size (fun k => some k = some g) (.slice (some ⟨g, 0, none⟩) xs.length cap) xs) ∧ Aside0 (Below w.heap.size w wr)) (fun _ v11 _ _ => xs.length - (intOf v11).toNat)
      case atStart => exact ⟨0, [], rfl, by omega, hglt, ⟨trivial⟩, HS2, HO2, HB3⟩
      case round =>
        clear HS2 HO2 HB3 hglt
        obtain ⟨i, ss, rfl, hi, hglt, HS, HR, HO, HB⟩ := hrel
        by_cases hlt : i < xs.length
        · obtain ⟨b0, o0, rfl, hb0, hc0⟩ := strs_open (Kd.C_below H0.out HB.out) (by omega)
          have g0 := hc0 i hlt
          have hsl := Star.length HS.out
          rw [List.length_take] at hsl
          have hl : ss.length < 8796093022207 := by omega
          have q0 : (0 : Int) ≤ (i : Int) := by omega
          clear hc0 hsl
          go_wp2_with (at_builtin; refine append_strO (fun k hk => by omega) (.tmp 54) (.tmp 56) rfl rfl rfl rfl HR.out HB.out hl ?_; intro v3 w3 ho hb hg; have HO3 := Aside0.mk (Kd.R_grown HO.out hg (fun k hk he => HR.out.1 k he.symm (by injection hk))); have hsz := hg.size; have HR3 := Aside0.mk ho; have HB3 := Aside0.mk hb; clear ho hb hg)
          all_goals
            go_roundw
            case rel =>
              refine ⟨i + 1, _, by go_num, by omega, by omega, ⟨?_⟩, HR3, HO3, HB3⟩
              rw [List.take_succ_eq_append_getElem hlt]
              first
                | exact Star.snoc HS.out (.inl rfl)
                | exact Star.snoc HS.out (.inr rfl)
            case measure => simp [intOf]; omega
        · have hss : Star ss xs := by
            have := HS.out
            rw [List.take_of_length_le (by omega)] at this
            exact this
          have HSS := Aside0.mk hss
          have hsl := Star.length hss
          have hbs := Star.bulk hss HI.out
          -- the place of the item that differs
          obtain ⟨k, hk, ek⟩ : ∃ k : Nat, k < xs.length ∧ Int.tmod at' (xs.length : Int) % (xs.length : Int) = (k : Int) := by
            have l2 := Int.emod_lt_of_pos (Int.tmod at' (xs.length : Int)) (show (0 : Int) < (xs.length : Int) by omega)
            have l3 := Int.emod_nonneg (Int.tmod at' (xs.length : Int)) (show (xs.length : Int) ≠ 0 by omega)
            exact ⟨(Int.tmod at' (xs.length : Int) % (xs.length : Int)).toNat, by omega, by omega⟩
          have hb1 := Int.lt_tmod_of_pos at' (show (0 : Int) < (xs.length : Int) by omega)
          have hb2 := Int.tmod_lt_of_pos at' (show (0 : Int) < (xs.length : Int) by omega)
          have hne : ((xs.length : Int) == 0) = false := beq_eq_false_iff_ne.mpr (by omega)
          obtain ⟨hc1, hf1⟩ := str_cell HO.out k hk
          have hxk := bulk_at (List.getElem_mem hk)
          have EK := Aside0.mk ek
          clear hss
          have hput := str_put HO.out k (longer xs[k])
          have HO1 := Aside0.mk hput.1
          have HR1 := Aside0.mk (Kd.R_grown HR.out hput.2 (fun k' hk' he => hk' (by injection he)))
          have HB1' := Aside0.mk (HB.out.grown hput.2 HB.out.size (fun k' hk' => by injection hk' with hk'; subst hk'; exact hgb))
          have hmu := Aside0.mk (matchB_unlike xs k hk (HI.out _ (List.getElem_mem hk)))
          have hbl := bulk_set xs k (longer xs[k])
          have hlz : (longer xs[k]).size = xs[k].size + 1 := by rw [longer, ByteArray.size_append]; rfl
          have hil := Aside0.mk (show ∀ x ∈ xs.set k (longer xs[k]), item x from fun x hx => by
            rcases List.mem_or_eq_of_mem_set hx with hx | hx
            · exact HI.out x hx
            · subst hx; exact longer_item (HI.out _ (List.getElem_mem hk)))
          have hll := Aside0.mk (show (xs.set k (longer xs[k])).length = xs.length by rw [List.length_set])
          clear hput
          go_wp2_with fail
          change Calls _ _ _ (wr.setCell ⟨g, k, none⟩ (.string (longer xs[k]))) _
          generalize wr.setCell ⟨g, k, none⟩ (.string (longer xs[k])) = w4 at *
          obtain ⟨A9, c9, rfl, hc9, hC9⟩ := Kd.R_reads HR1.out
          refine (PathOf w4 hC9 (by omega)).mono ?_
          rintro e w5 ⟨hb, ⟨hi, rfl⟩ | ⟨hi, rfl⟩⟩
          · have HB5 := Aside0.mk (hb_then HB1'.out hb)
            have HO5 := Aside0.mk (Kd.R_below HO1.out hb)
            have HIS := Aside0.mk hi
            clear hb hi hC9
            obtain ⟨A10, c10, ew, hc10, hC10⟩ := Kd.R_reads HO5.out
            injection ew with e1 e2 e3
            subst e1 e3
            clear e2
            have hP := PathOf w5 (c := cap) hC10 (by omega)
            rw [hll.out] at hP
            go_wp2_with fail
            refine hP.mono ?_
            rintro e w6 ⟨hb, ⟨hi, rfl⟩ | ⟨hi, rfl⟩⟩
            · have HB6 := Aside0.mk (hb_then HB5.out hb)
              clear hb hi hC10
              go_wp2_with fail
              have hn0 : xs ≠ [] := by rintro rfl; simp at hpos
              have hs0 : ss ≠ [] := by rintro rfl; simp at hsl; omega
              have hy0 : xs.set k (longer xs[k]) ≠ [] := by intro h; have := hll.out; rw [h] at this; simp at this; omega
              have px := Aside0.mk (parts_newPath HI.out hn0)
              have ps := Aside0.mk (parts_newPath HIS.out hs0)
              have py := Aside0.mk (parts_newPath hil.out hy0)
              have hns := newPath_size ss
              have hny := newPath_size (xs.set k (longer xs[k]))
              generalize newPath ss = ns at *
              generalize newPath (xs.set k (longer xs[k])) = ny at *
              generalize newPath xs = nx at *
              clear hn0 hs0 hy0
              have m1 := Aside0.mk (show pathMatches nx nx = true by rw [pathMatches, px.out, matchB_same]; simp)
              have m2 := Aside0.mk (show pathMatches nx ns = true by rw [pathMatches, px.out, ps.out, Star.matchB HSS.out, hsl]; simp)
              have m3 := Aside0.mk (show pathMatches nx ny = false by rw [pathMatches, px.out, py.out, hmu.out]; simp)
              have v2 := Aside0.mk (show evenB ([ns].map (parts 46)) (parts 46 nx) = true by simp only [List.map_cons, List.map_nil, evenB, List.any_cons, List.any_nil]; rw [px.out, ps.out, Star.matchB HSS.out, hsl]; simp)
              have v3 := Aside0.mk (show evenB ([ny].map (parts 46)) (parts 46 nx) = false by simp only [List.map_cons, List.map_nil, evenB, List.any_cons, List.any_nil]; rw [px.out, py.out, hmu.out]; simp)
              refine (impl_Matches nx nx w6 (by omega) (by omega)).mono ?_
              rintro e w7 ⟨rfl, hb⟩
              have HB7 := Aside0.mk (hb_then HB6.out hb)
              rw [m1.out]
              clear hb hP
              go_wp2_with fail
              refine (impl_Matches nx ns w7 (by omega) (by omega)).mono ?_
              rintro e w8 ⟨rfl, hb⟩
              have HB8 := Aside0.mk (hb_then HB7.out hb)
              rw [m2.out]
              clear hb
              go_wp2_with fail
              have hC8 := strs_lit w8 9 [ns] (by simp)
              have HB9 := Aside0.mk (HB8.out.alloc HB8.out.size (.cells #[.string ns] 9))
              go_loud (refine (impl_MatchesAny (qs := [ns]) nx _ hC8 (by simp) (by intro q hq; simp at hq; subst hq; omega) (by omega)).mono ?_)
              rintro e w10 ⟨rfl, hb⟩
              have HB10 := Aside0.mk (hb_then HB9.out hb)
              rw [v2.out]
              clear hb hC8
              go_wp2_with fail
              refine (impl_Matches nx ny w10 (by omega) (by omega)).mono ?_
              rintro e w11 ⟨rfl, hb⟩
              have HB11 := Aside0.mk (hb_then HB10.out hb)
              rw [m3.out]
              clear hb
              go_wp2_with fail
              have hC11 := strs_lit w11 9 [ny] (by simp)
              have HB12 := Aside0.mk (HB11.out.alloc HB11.out.size (.cells #[.string ny] 9))
              go_loud (refine (impl_MatchesAny (qs := [ny]) nx _ hC11 (by simp) (by intro q hq; simp at hq; subst hq; omega) (by omega)).mono ?_)
              rintro e w13 ⟨rfl, hb⟩
              have HB13 := Aside0.mk (hb_then HB12.out hb)
              rw [v3.out]
              clear hb hC11
              go_wp2_with fail
              refine (treeLives w13).mono ?_
              rintro e w14 ⟨rfl, hb⟩
              have HB14 := Aside0.mk (hb_then HB13.out hb)
              clear hb
              go_wp2
              go_ret
              exact ⟨rfl, HB14.out⟩
            · exact absurd hil.out hi
          · exact absurd (Star.item HSS.out HI.out) hi
  · have HB1 := Aside0.mk hb
    clear hb hi
    go_wp2_with fail
    refine (treeLives w1).mono ?_
    rintro e w3 ⟨rfl, hb⟩
    have HB3 := Aside0.mk (hb_then HB1.out hb)
    clear hb
    go_wp2
    go_ret
    exact ⟨rfl, HB3.out⟩
end Go.Proofs.Ytecehldjeppjiaa.LawPathStars
