/- Package tree: Matches, matchParts, the matcher; treeLives. -/
import Derived.Test.YtecehldjeppjiaaTree
namespace Go.Proofs.Ytecehldjeppjiaa.Tree
open Go.RowKit Go.Proofs.YtecehldjeppjiaaW.PrintWords Go.Proofs.Ytecehldjeppjiaa.Str Go.Proofs.Ytecehldjeppjiaa.Kit Go.Proofs.Ytecehldjeppjiaa.Index
set_option linter.unusedVariables false
set_option linter.unusedSimpArgs false

/-- an item of a pattern takes an item of a path -/
def takes (p x : ByteArray) : Bool := lb p == [42] || lb p == lb x
/-- a pattern's items take a path's -/
def matchB : List ByteArray → List ByteArray → Bool
  | p :: ps, x :: xs => takes p x && matchB ps xs
  | _, [] => true
  | [], _ :: _ => false
def Matching (ps xs : List ByteArray) (j : Nat) : Prop := matchB ps xs = matchB (ps.drop j) (xs.drop j)
theorem Matching.start (ps xs : List ByteArray) : Matching ps xs 0 := by simp [Matching]
theorem Matching.next {ps xs : List ByteArray} {j : Nat} (h : Matching ps xs j) (hp : j < ps.length) (hx : j < xs.length) (ht : takes ps[j] xs[j] = true) : Matching ps xs (j + 1) := by
  unfold Matching at *
  rw [h, List.drop_eq_getElem_cons hp, List.drop_eq_getElem_cons hx, matchB, ht, Bool.true_and]
theorem Matching.fail {ps xs : List ByteArray} {j : Nat} (h : Matching ps xs j) (hp : j < ps.length) (hx : j < xs.length) (ht : takes ps[j] xs[j] = false) : matchB ps xs = false := by
  unfold Matching at *
  rw [h, List.drop_eq_getElem_cons hp, List.drop_eq_getElem_cons hx, matchB, ht, Bool.false_and]
theorem Matching.done {ps xs : List ByteArray} {j : Nat} (h : Matching ps xs j) (hx : xs.length ≤ j) : matchB ps xs = true := by
  unfold Matching at *
  rw [h, List.drop_of_length_le hx]
  cases ps.drop j <;> rfl

set_option maxHeartbeats 800000 in
theorem matchParts {A0 : Option Addr} {c0 : Nat} {ps : List ByteArray} {A1 : Option Addr} {c1 : Nat} {xs : List ByteArray} (w : World) (h0 : Kd.string.C w A0 ps.length ps) (h1 : Kd.string.C w A1 xs.length xs) (hle : xs.length ≤ ps.length) :
    Calls Try.prog 37 #[.slice A0 ps.length c0, .slice A1 xs.length c1] w fun e w' => e = .returned (.bool (matchB ps xs)) ∧ Drawn0 w w' := by
  have H0 := Aside0.mk h0
  have H1 := Aside0.mk h1
  have hm : xs.length ≤ 9223372036854775807 := h1.2.1
  clear h0 h1
  go_enter Try.func37, Try.ntmps37
  go_wp2
  go_loopw [9] (fun v9 wr => ∃ j : Nat, v9 = .int .i64 j ∧ j ≤ xs.length ∧ Aside0 (Matching ps xs j) ∧ Drawn0 w wr) (fun v9 _ => xs.length - (intOf v9).toNat)
  case atStart => exact ⟨0, rfl, by omega, ⟨Matching.start ps xs⟩, Drawn0.refl _⟩
  case round =>
    obtain ⟨j, rfl, hj, HM, ⟨nd, rfl⟩⟩ := hrel
    by_cases hlt : j < xs.length
    · obtain ⟨b0, o0, rfl, hb0, hc0⟩ := strs_open H0.out (by omega)
      obtain ⟨b1, o1, rfl, hb1, hc1⟩ := strs_open H1.out (by omega)
      have g0 := hc0 j (by omega)
      have g1 := hc1 j hlt
      have hlt2 : j < ps.length := by omega
      clear hc0 hc1
      cases ht : takes ps[j] xs[j] with
      | true =>
        have nxt := Aside0.mk (HM.out.next hlt2 hlt ht)
        by_cases hstar : ps[j].toList = [42]
        · have e1 : (ps[j].toList == [42]) = true := beq_iff_eq.mpr hstar
          clear ht hstar
          go_wp2
          go_roundw
          case rel => exact ⟨j + 1, by go_num, by omega, nxt, by repeat (first | exact Drawn0.refl _ | apply Drawn0.step)⟩
          case measure => simp [intOf]; omega
        · have e1 : (ps[j].toList == [42]) = false := beq_eq_false_iff_ne.mpr hstar
          have e2 : (ps[j].toList == xs[j].toList) = true := by
            simp only [takes, Bool.or_eq_true, beq_iff_eq] at ht
            rw [beq_iff_eq, toList_lb, toList_lb]
            rw [toList_lb] at hstar
            exact ht.resolve_left hstar
          clear ht hstar
          go_wp2
          go_roundw
          case rel => exact ⟨j + 1, by go_num, by omega, nxt, by repeat (first | exact Drawn0.refl _ | apply Drawn0.step)⟩
          case measure => simp [intOf]; omega
      | false =>
        have fl := Aside0.mk (HM.out.fail hlt2 hlt ht)
        simp only [takes, Bool.or_eq_false_iff] at ht
        have e1 : (ps[j].toList == [42]) = false := by rw [toList_lb]; exact ht.1
        have e2 : (ps[j].toList == xs[j].toList) = false := by rw [toList_lb, toList_lb]; exact ht.2
        clear ht
        go_wp2
        go_ret
        exact ⟨by rw [fl.out]; rfl, by repeat (first | exact Drawn0.refl _ | apply Drawn0.step)⟩
    · have dn := Aside0.mk (HM.out.done (by omega))
      go_wp2
      go_ret
      exact ⟨by rw [dn.out]; rfl, by repeat (first | exact Drawn0.refl _ | apply Drawn0.step)⟩

/-- a path matches a pattern -/
def pathMatches (p pattern : ByteArray) : Bool := (parts 46 pattern).length == (parts 46 p).length && matchB (parts 46 pattern) (parts 46 p)

theorem parts_length (c : UInt8) (s : ByteArray) : (parts c s).length ≤ s.size + 1 := by
  rw [parts, List.length_map, ← lb_length]
  exact split_length c (lb s)

set_option maxHeartbeats 800000 in
theorem Path_Matches (p pattern : ByteArray) (w : World) (hp : p.size ≤ 4398046511104) (hq : pattern.size ≤ 4398046511104) :
    Calls Try.prog 30 #[.string p, .string pattern] w fun e w' => e = .returned (.bool (pathMatches p pattern)) ∧ Below w.heap.size w w' := by
  have l1 := parts_length 46 pattern
  have l2 := parts_length 46 p
  unfold pathMatches
  generalize hps : parts 46 pattern = ps at *
  generalize hxs : parts 46 p = xs at *
  have HPS := Aside0.mk hps
  have HXS := Aside0.mk hxs
  clear hps hxs
  go_enter Try.func30, Try.ntmps30
  go_wp2_with fail
  refine (Path_Parts pattern w hq).mono ?_
  rintro e w1 ⟨v1, rfl, hr1, hb1⟩
  rw [HPS.out] at hr1
  have HB1 := Aside0.mk hb1
  have HR1 := Aside0.mk hr1
  clear hr1 hb1
  go_wp2_with fail
  refine (Path_Parts p w1 hp).mono ?_
  rintro e w2 ⟨v2, rfl, hr2, hb2⟩
  rw [HXS.out] at hr2
  obtain ⟨A1, c1, rfl, hc1, hC1⟩ := Kd.R_reads (Kd.R_below HR1.out hb2)
  obtain ⟨A2, c2, rfl, hc2, hC2⟩ := Kd.R_reads hr2
  have HB := Aside0.mk (hb_then HB1.out hb2)
  clear hr2 hb2 HR1 HB1
  by_cases hl : ps.length = xs.length
  · have e1 : ((ps.length : Int) == (xs.length : Int)) = true := beq_iff_eq.mpr (by omega)
    have e2 : ((ps.length : Int) != (xs.length : Int)) = false := bne_eq_false_iff_eq.mpr (by omega)
    have H0 := Aside0.mk hC1
    have H1 := Aside0.mk hC2
    have HL := Aside0.mk hl
    have hle : ps.length ≤ xs.length := by omega
    have hge : xs.length ≤ ps.length := by omega
    clear hl hC1 hC2
    go_wp2
    go_loopw [20] (fun v20 wr => ∃ j : Nat, v20 = .int .i64 j ∧ j ≤ xs.length ∧ Aside0 (Matching ps xs j) ∧ Drawn0 w2 wr) (fun v20 _ => xs.length - (intOf v20).toNat)
    case atStart => exact ⟨0, rfl, by omega, ⟨Matching.start ps xs⟩, Drawn0.refl _⟩
    case round =>
      obtain ⟨j, rfl, hj, HM, ⟨nd, rfl⟩⟩ := hrel
      by_cases hlt : j < xs.length
      · obtain ⟨b0, o0, rfl, hb0, hc0⟩ := strs_open H0.out (by omega)
        obtain ⟨b1, o1, rfl, hb1, hc1⟩ := strs_open H1.out (by omega)
        have g0 := hc0 j (by omega)
        have g1 := hc1 j hlt
        have hlt2 : j < ps.length := by omega
        clear hc0 hc1
        cases ht : takes ps[j] xs[j] with
        | true =>
          have nxt := Aside0.mk (HM.out.next hlt2 hlt ht)
          by_cases hstar : ps[j].toList = [42]
          · have e1 : (ps[j].toList == [42]) = true := beq_iff_eq.mpr hstar
            clear ht hstar
            go_wp2
            go_roundw
            case rel => exact ⟨j + 1, by go_num, by omega, nxt, by repeat (first | exact Drawn0.refl _ | apply Drawn0.step)⟩
            case measure => simp [intOf]; omega
          · have e1 : (ps[j].toList == [42]) = false := beq_eq_false_iff_ne.mpr hstar
            have e2 : (ps[j].toList == xs[j].toList) = true := by
              simp only [takes, Bool.or_eq_true, beq_iff_eq] at ht
              rw [beq_iff_eq, toList_lb, toList_lb]
              rw [toList_lb] at hstar
              exact ht.resolve_left hstar
            clear ht hstar
            go_wp2
            go_roundw
            case rel => exact ⟨j + 1, by go_num, by omega, nxt, by repeat (first | exact Drawn0.refl _ | apply Drawn0.step)⟩
            case measure => simp [intOf]; omega
        | false =>
          have fl := Aside0.mk (HM.out.fail hlt2 hlt ht)
          simp only [takes, Bool.or_eq_false_iff] at ht
          have e1 : (ps[j].toList == [42]) = false := by rw [toList_lb]; exact ht.1
          have e2 : (ps[j].toList == xs[j].toList) = false := by rw [toList_lb, toList_lb]; exact ht.2
          clear ht
          go_wp2
          go_ret
          exact ⟨by rw [fl.out, Bool.and_false]; rfl, hb_then HB.out (Drawn0.below ⟨⟨nd, rfl⟩⟩)⟩
      · have dn := Aside0.mk (HM.out.done (by omega))
        go_wp2
        go_ret
        exact ⟨by rw [dn.out, HL.out, beq_self_eq_true]; rfl, hb_then HB.out (Drawn0.below ⟨⟨nd, rfl⟩⟩)⟩
  · have e1 : ((ps.length : Int) == (xs.length : Int)) = false := beq_eq_false_iff_ne.mpr (by omega)
    have e2 : ((ps.length : Int) != (xs.length : Int)) = true := bne_iff_ne.mpr (by omega)
    have e3 := Aside0.mk (show (ps.length == xs.length) = false from beq_eq_false_iff_ne.mpr hl)
    clear hl
    go_wp2
    go_ret
    exact ⟨by rw [e3.out]; rfl, HB.out⟩

set_option maxHeartbeats 400000 in
theorem impl_Matches (p pattern : ByteArray) (w : World) (hp : p.size ≤ 4398046511104) (hq : pattern.size ≤ 4398046511104) :
    Calls Try.prog 19 #[.string p, .string pattern] w fun e w' => e = .returned (.bool (pathMatches p pattern)) ∧ Below w.heap.size w w' := by
  go_enter Try.func19, Try.ntmps19
  go_wp2_with fail
  refine (Path_Matches p pattern w hp hq).mono ?_
  rintro e w1 ⟨rfl, hb⟩
  have HB := Aside0.mk hb
  clear hb
  go_wp2
  go_ret
  exact ⟨rfl, HB.out⟩

theorem lives_path : newPath [⟨#[97]⟩, ⟨#[98]⟩] = ⟨#[97, 46, 98]⟩ := by decide +kernel
theorem lives_match : pathMatches ⟨#[97, 46, 98]⟩ ⟨#[97, 46, 42]⟩ = true := by decide +kernel

set_option maxHeartbeats 400000 in
theorem treeLives (w : World) : Calls Try.prog 11 #[] w fun e w' => e = .returned (.bool true) ∧ Below w.heap.size w w' := by
  have HC := Aside0.mk (strs_lit w 9 [⟨#[97]⟩, ⟨#[98]⟩] (by simp))
  go_enter Try.func11, Try.ntmps11
  go_wp2_with fail
  refine (impl_NewPath (xs := [⟨#[97]⟩, ⟨#[98]⟩]) _ HC.out (Nat.le_refl _) (by simp) (by rw [lives_path]; decide)).mono ?_
  rintro e w1 ⟨rfl, hb⟩
  rw [lives_path]
  have HB1 := Aside0.mk (hb_then ((Below.refl _ w).alloc (Nat.le_refl _) _) hb)
  clear hb
  go_wp2_with fail
  refine (impl_Matches _ _ _ (by decide) (by decide)).mono ?_
  rintro e w2 ⟨rfl, hb⟩
  rw [lives_match]
  have HB2 := Aside0.mk (hb_then HB1.out hb)
  clear hb
  go_wp2
  go_ret
  exact ⟨rfl, HB2.out⟩
end Go.Proofs.Ytecehldjeppjiaa.Tree
