/- The walk through the law FnPathAbove. -/
import Derived.Test.YtecehldjeppjiaaPathOf
namespace Go.Proofs.Ytecehldjeppjiaa.LawPathAbove
open Go.RowKit Go.Proofs.YtecehldjeppjiaaW.PrintWords Go.Proofs.Ytecehldjeppjiaa.Str Go.Proofs.Ytecehldjeppjiaa.Kit Go.Proofs.Ytecehldjeppjiaa.Index Go.Proofs.Ytecehldjeppjiaa.Tree Go.Proofs.Ytecehldjeppjiaa.Texts Go.Proofs.Ytecehldjeppjiaa.PathSpec
set_option linter.unusedVariables false
set_option linter.unusedSimpArgs false

theorem parts_newPath {xs : List ByteArray} (h : ∀ x ∈ xs, item x) (h0 : xs ≠ []) : parts 46 (newPath xs) = xs := by
  unfold parts newPath
  rw [lb_mk]
  have e : split 46 (Lib.join (xs.map lb) [46]) = xs.map lb := by
    refine split_join (xs.map lb) (by simpa using h0) ?_
    intro p hp
    obtain ⟨x, hx, rfl⟩ := List.mem_map.1 hp
    exact (h x hx).2
  rw [e, List.map_map]
  have : ((fun p : Bs => (⟨p.toArray⟩ : ByteArray)) ∘ lb) = id := by funext x; simp
  rw [this, List.map_id]
theorem newPath_size (xs : List ByteArray) : (newPath xs).size ≤ bulk xs := by
  rw [← lb_length, newPath, lb_mk]
  exact join_le xs
theorem any_even (qs : List ByteArray) (p : ByteArray) : anyB qs p = evenB (qs.map (parts 46)) (parts 46 p) := by
  unfold anyB evenB pathMatches
  rw [List.any_map]
  rfl
theorem matchB_prefix (ps xs : List ByteArray) : ∀ i, matchB ps xs = true → matchB ps (xs.take i) = true := by
  induction ps generalizing xs with
  | nil => intro i h; cases xs with
    | nil => simpa using h
    | cons x xs => simp [matchB] at h
  | cons p ps ih =>
    intro i h
    cases xs with
    | nil => simpa using h
    | cons x xs =>
      cases i with
      | zero => simp [matchB]
      | succ i =>
        simp only [matchB, Bool.and_eq_true] at h
        rw [List.take_succ_cons, matchB, h.1, Bool.true_and]
        exact ih xs i h.2
theorem even_long {pss : List (List ByteArray)} {xs : List ByteArray} {i : Nat} (h : evenB pss xs = true) (hi : i < xs.length) : longB pss (xs.take i) = true := by
  unfold evenB at h
  unfold longB
  rw [List.any_eq_true] at h ⊢
  obtain ⟨ps, hm, h2⟩ := h
  simp only [Bool.and_eq_true, beq_iff_eq] at h2
  refine ⟨ps, hm, ?_⟩
  rw [matchB_prefix ps xs i h2.2, Bool.and_true]
  rw [List.length_take]
  exact decide_eq_true (by omega)
theorem fits_of_bulk {xs : List ByteArray} (h : bulk xs ≤ 1048576) : fits xs := ⟨by have := bulk_length xs; omega, fun x hx => by have := bulk_at hx; omega⟩
theorem PathOf' {A : Option Addr} {c n : Nat} {xs : List ByteArray} (w : World) (hn : n = xs.length) (h : Kd.string.C w A xs.length xs) (hb : bulk xs ≤ 2147483647) :
    Calls Try.prog 18 #[.slice A n c] w (OfPost xs w) := by
  subst hn
  exact PathOf w h hb

set_option maxHeartbeats 2000000 in
theorem law (A0 : Option Addr) (c0 : Nat) (qs : List ByteArray) (A1 : Option Addr) (c1 : Nat) (xs : List ByteArray) (w : World) (hC0 : Kd.string.C w A0 qs.length qs) (_ : qs.length ≤ c0) (hb0 : bulk qs ≤ 1048576) (hC1 : Kd.string.C w A1 xs.length xs) (hlc : xs.length ≤ c1) (hb1 : bulk xs ≤ 1048576) :
    Calls Try.prog 7 #[.slice A0 qs.length c0, .slice A1 xs.length c1] w fun e w' => e = .returned (.bool true) ∧ Below w.heap.size w w' := by
  have HF := Aside0.mk (fits_of_bulk hb0)
  have HFX := Aside0.mk (fits_of_bulk hb1)
  have H0 := Aside0.mk hC0
  have H1 := Aside0.mk hC1
  have D0 := Aside0.mk (decide_eq_true HF.out)
  have D1 := Aside0.mk (decide_eq_true HFX.out)
  have hsz := newPath_size xs
  have hln := bulk_length xs
  clear hC0 hC1
  go_enter Try.func7, Try.ntmps7
  go_wp2_with fail
  refine (zzFits2 w H0.out).mono ?_
  rintro e w1 ⟨rfl, rfl⟩
  rw [D0.out]
  go_wp2_with fail
  refine (zzFits2 w H1.out).mono ?_
  rintro e w1 ⟨rfl, rfl⟩
  rw [D1.out]
  go_wp2_with fail
  refine (PathOf w H1.out (by omega)).mono ?_
  rintro e w1 ⟨hb, ⟨hi, rfl⟩ | ⟨hi, rfl⟩⟩
  · have HB1 := Aside0.mk hb
    have H01 := Aside0.mk (Kd.C_below H0.out hb)
    have HI := Aside0.mk hi
    clear hb hi
    go_wp2_with fail
    refine (PathAny (newPath xs) w1 H01.out HF.out (by omega)).mono ?_
    rintro e w2 ⟨hb, rfl | ⟨b', rfl⟩⟩
    · have HB2 := Aside0.mk (hb_then HB1.out hb)
      have H02 := Aside0.mk (Kd.C_below H01.out hb)
      clear hb HB1 H01
      by_cases h0 : xs.length = 0
      · have dz : decide (0 < xs.length) = false := decide_eq_false (by omega)
        rw [dz]
        clear dz
        go_wp2_with fail
        refine (treeLives w2).mono ?_
        rintro e w3 ⟨rfl, hb⟩
        have HB3 := Aside0.mk (hb_then HB2.out hb)
        clear hb
        go_wp2
        go_ret
        exact ⟨rfl, HB3.out⟩
      · have dz : decide (0 < xs.length) = true := decide_eq_true (by omega)
        rw [dz]
        have hpn := parts_newPath HI.out (by rintro rfl; exact h0 rfl)
        have HPN := Aside0.mk hpn
        have he := any_even qs (newPath xs)
        rw [hpn] at he
        rw [he]
        have HE := Aside0.mk he
        clear dz he hpn
        cases hev : evenB (qs.map (parts 46)) xs with
        | false =>
          clear hev
          go_wp2_with fail
          refine (treeLives w2).mono ?_
          rintro e w3 ⟨rfl, hb⟩
          have HB3 := Aside0.mk (hb_then HB2.out hb)
          clear hb
          go_wp2
          go_ret
          exact ⟨rfl, HB3.out⟩
        | true =>
          have HEV := Aside0.mk hev
          have hpos : 0 < xs.length := by omega
          clear hev h0
          go_wp2
          go_loopw [9] (fun v9 wr => ∃ i : Nat, v9 = .int .i64 i ∧ 1 ≤ i ∧ i ≤ xs.length ∧ Aside0 (Below w.heap.size w wr)) (fun v9 _ => xs.length - (intOf v9).toNat)
          case atStart => exact ⟨1, rfl, by omega, by omega, HB2⟩
          case round =>
            clear HB2 H02
            obtain ⟨i, rfl, hi1, hi2, HB⟩ := hrel
            by_cases hlt : i < xs.length
            · have hlt2 : (xs.take i).length = i := by rw [List.length_take]; omega
              have HLT := Aside0.mk hlt2
              have hbt := bulk_take xs i
              have hsz2 := newPath_size (xs.take i)
              have H1r := Aside0.mk (Kd.C_take (Kd.C_below H1.out HB.out) (show i ≤ xs.length by omega))
              have HI2 := Aside0.mk (show ∀ x ∈ xs.take i, item x from fun x hx => HI.out x (List.mem_of_mem_take hx))
              have q1 : (i : Int) ≤ (xs.length : Int) := by omega
              clear hlt2
              go_wp2_with fail
              refine (PathOf' (xs := xs.take i) wr HLT.out.symm H1r.out (by omega)).mono ?_
              rintro e w3 ⟨hb, ⟨hi, rfl⟩ | ⟨hi, rfl⟩⟩
              · have HB3 := Aside0.mk (hb_then HB.out hb)
                have H03 := Aside0.mk (Kd.C_below H0.out HB3.out)
                have dz : decide (0 < (xs.take i).length) = true := decide_eq_true (by rw [HLT.out]; omega)
                rw [dz]
                have HL := Aside0.mk (show longB (qs.map (parts 46)) (parts 46 (newPath (xs.take i))) = true by
                  rw [parts_newPath hi (by intro h; have := HLT.out; rw [h] at this; simp at this; omega)]
                  exact even_long HEV.out hlt)
                clear hb hi dz
                go_wp2_with fail
                refine (PathMay (newPath (xs.take i)) w3 H03.out HF.out (by omega)).mono ?_
                rintro e w4 ⟨hb, rfl | ⟨b, rfl⟩⟩
                · have HB4 := Aside0.mk (hb_then HB3.out hb)
                  have H04 := Aside0.mk (Kd.C_below H03.out hb)
                  clear hb
                  go_wp2_with fail
                  refine (impl_MayContain (newPath (xs.take i)) w4 H04.out HF.out.1 HF.out.2 (by omega)).mono ?_
                  rintro e w5 ⟨rfl, hb⟩
                  rw [HL.out]
                  have HB5 := Aside0.mk (hb_then HB4.out hb)
                  clear hb
                  go_wp2
                  go_roundw
                  case rel => exact ⟨i + 1, by go_num, by omega, by omega, HB5⟩
                  case measure => simp [intOf]; omega
                · have HB4 := Aside0.mk (hb_then HB3.out hb)
                  clear hb
                  go_wp2_with fail
                  refine (treeLives w4).mono ?_
                  rintro e w5 ⟨rfl, hb⟩
                  have HB5 := Aside0.mk (hb_then HB4.out hb)
                  clear hb
                  go_wp2
                  go_ret
                  exact ⟨rfl, HB5.out⟩
              · exact absurd HI2.out hi
            · have H0r := Aside0.mk (Kd.C_below H0.out HB.out)
              go_wp2_with fail
              refine (impl_MatchesAny (newPath xs) wr H0r.out HF.out.1 HF.out.2 (by omega)).mono ?_
              rintro e w5 ⟨rfl, hb⟩
              rw [HPN.out, HEV.out]
              have HB5 := Aside0.mk (hb_then HB.out hb)
              clear hb
              go_wp2_with fail
              refine (treeLives w5).mono ?_
              rintro e w6 ⟨rfl, hb⟩
              have HB6 := Aside0.mk (hb_then HB5.out hb)
              clear hb
              go_wp2
              go_ret
              exact ⟨rfl, HB6.out⟩
    · have HB2 := Aside0.mk (hb_then HB1.out hb)
      generalize decide (0 < xs.length) = bs
      clear hb
      cases bs with
      | true =>
        go_wp2_with fail
        refine (treeLives w2).mono ?_
        rintro e w3 ⟨rfl, hb⟩
        have HB3 := Aside0.mk (hb_then HB2.out hb)
        clear hb
        go_wp2
        go_ret
        exact ⟨rfl, HB3.out⟩
      | false =>
        go_wp2_with fail
        refine (treeLives w2).mono ?_
        rintro e w3 ⟨rfl, hb⟩
        have HB3 := Aside0.mk (hb_then HB2.out hb)
        clear hb
        go_wp2
        go_ret
        exact ⟨rfl, HB3.out⟩
  · have HB1 := Aside0.mk hb
    have H01 := Aside0.mk (Kd.C_below H0.out hb)
    clear hb hi
    go_wp2_with fail
    refine (PathAny ⟨#[]⟩ w1 H01.out HF.out (by decide)).mono ?_
    rintro e w2 ⟨hb, rfl | ⟨b', rfl⟩⟩
    all_goals
      have HB2 := Aside0.mk (hb_then HB1.out hb)
      clear hb
      go_wp2_with fail
      refine (treeLives w2).mono ?_
      rintro e w3 ⟨rfl, hb⟩
      have HB3 := Aside0.mk (hb_then HB2.out hb)
      clear hb
      go_wp2
      go_ret
      exact ⟨rfl, HB3.out⟩
end Go.Proofs.Ytecehldjeppjiaa.LawPathAbove
