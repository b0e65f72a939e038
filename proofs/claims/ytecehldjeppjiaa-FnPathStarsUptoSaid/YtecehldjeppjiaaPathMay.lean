/- The reference's functions over paths: treeStar, treeBegins, PathMay. -/
import Derived.Test.YtecehldjeppjiaaPathSpec
namespace Go.Proofs.Ytecehldjeppjiaa.PathSpec
open Go.RowKit Go.Proofs.YtecehldjeppjiaaW.PrintWords Go.Proofs.Ytecehldjeppjiaa.Str Go.Proofs.Ytecehldjeppjiaa.Kit Go.Proofs.Ytecehldjeppjiaa.Index Go.Proofs.Ytecehldjeppjiaa.Tree Go.Proofs.Ytecehldjeppjiaa.Texts
set_option linter.unusedVariables false
set_option linter.unusedSimpArgs false

/-- some truth value -/
def SomeBool (w : World) (e : Ending) (w' : World) : Prop := (∃ b : Bool, e = .returned (.bool b)) ∧ Drawn0 w w'
theorem SomeBool.mk' {w w' : World} (b : Bool) (h : Drawn0 w w') : SomeBool w (.returned (.bool b)) w' := ⟨⟨b, rfl⟩, h⟩

set_option maxHeartbeats 800000 in
theorem treeStar {A0 : Option Addr} {c0 : Nat} {xs : List ByteArray} {A1 : Option Addr} {c1 : Nat} {ys : List ByteArray} (w : World) (h0 : Kd.string.C w A0 xs.length xs) (h1 : Kd.string.C w A1 ys.length ys) :
    Calls Try.prog 25 #[.slice A0 xs.length c0, .slice A1 ys.length c1] w (SomeBool w) := by
  have H0 := Aside0.mk h0
  have H1 := Aside0.mk h1
  have hm := h0.2.1
  have hm1 := h1.2.1
  clear h0 h1
  go_enter Try.func25, Try.ntmps25
  go_wp2
  go_loopw [5] (fun v wr => ∃ j : Nat, v = .int .i64 j ∧ j ≤ xs.length ∧ Drawn0 w wr) (fun v _ => xs.length - (intOf v).toNat)
  case atStart => exact ⟨0, rfl, by omega, Drawn0.refl _⟩
  case round =>
    obtain ⟨j, rfl, hj, ⟨nd, rfl⟩⟩ := hrel
    by_cases hlt : j < xs.length
    · by_cases hlt2 : j < ys.length
      · obtain ⟨b0, o0, rfl, hb0, hc0⟩ := strs_open H0.out (by omega)
        obtain ⟨b1, o1, rfl, hb1, hc1⟩ := strs_open H1.out (by omega)
        have g0 := hc0 j hlt
        have g1 := hc1 j (by omega)
        clear hc0 hc1
        go_wp2
        · go_ret
          exact SomeBool.mk' _ ⟨⟨nd, rfl⟩⟩
        · go_roundw
          case rel => exact ⟨j + 1, by go_num, by omega, ⟨⟨nd, rfl⟩⟩⟩
          case measure => simp [intOf]; omega
        · go_roundw
          case rel => exact ⟨j + 1, by go_num, by omega, ⟨⟨nd, rfl⟩⟩⟩
          case measure => simp [intOf]; omega
      · go_wp2
        go_ret
        exact SomeBool.mk' _ ⟨⟨nd, rfl⟩⟩
    · go_wp2
      go_ret
      exact SomeBool.mk' _ ⟨⟨nd, rfl⟩⟩

set_option maxHeartbeats 800000 in
theorem treeBegins {A0 : Option Addr} {c0 : Nat} {xs : List ByteArray} {A1 : Option Addr} {c1 : Nat} {ps : List ByteArray} (w : World) (h0 : Kd.string.C w A0 xs.length xs) (h1 : Kd.string.C w A1 ps.length ps) :
    Calls Try.prog 26 #[.slice A0 xs.length c0, .slice A1 ps.length c1] w fun e w' => e = .returned (.bool (decide (xs.length ≤ ps.length) && matchB ps xs)) ∧ Drawn0 w w' := by
  have H0 := Aside0.mk h0
  have H1 := Aside0.mk h1
  have hm := h0.2.1
  have hm1 := h1.2.1
  clear h0 h1
  by_cases hle : xs.length ≤ ps.length
  · rw [decide_eq_true hle, Bool.true_and]
    go_enter Try.func26, Try.ntmps26
    go_wp2
    go_loopw [5] (fun v wr => ∃ j : Nat, v = .int .i64 j ∧ j ≤ xs.length ∧ Aside0 (Matching ps xs j) ∧ Drawn0 w wr) (fun v _ => xs.length - (intOf v).toNat)
    case atStart => exact ⟨0, rfl, by omega, ⟨Matching.start ps xs⟩, Drawn0.refl _⟩
    case round =>
      obtain ⟨j, rfl, hj, HM, ⟨nd, rfl⟩⟩ := hrel
      by_cases hlt : j < xs.length
      · obtain ⟨b0, o0, rfl, hb0, hc0⟩ := strs_open H0.out (by omega)
        obtain ⟨b1, o1, rfl, hb1, hc1⟩ := strs_open H1.out (by omega)
        have g0 := hc0 j hlt
        have g1 := hc1 j (by omega)
        have hlt2 : j < ps.length := by omega
        have q0 : (0 : Int) ≤ (j : Int) := by omega
        have q1 : (j : Int) < (xs.length : Int) := by omega
        have q2 : (j : Int) < (ps.length : Int) := by omega
        clear hc0 hc1
        cases ht : takes ps[j] xs[j] with
        | true =>
          have nxt := Aside0.mk (HM.out.next hlt2 hlt ht)
          by_cases hstar : ps[j].toList = [42]
          · have e1 : (ps[j].toList == [42]) = true := beq_iff_eq.mpr hstar
            clear ht hstar
            go_wp2
            go_quiet (fail)
            go_wp2
            go_roundw
            case rel => exact ⟨j + 1, by go_num, by omega, nxt, by repeat (first | exact Drawn0.refl _ | apply Drawn0.step)⟩
            case measure => simp [intOf]; omega
          · have e1 : (ps[j].toList == [42]) = false := beq_eq_false_iff_ne.mpr hstar
            have e2 : ps[j].toList = xs[j].toList := by
              simp only [takes, Bool.or_eq_true, beq_iff_eq] at ht
              rw [toList_lb, toList_lb]
              rw [toList_lb] at hstar
              exact ht.resolve_left hstar
            have e3 : (ps[j].toList == xs[j].toList) = true := beq_iff_eq.mpr e2
            clear ht hstar e2
            go_wp2
            go_quiet (fail)
            go_wp2
            go_roundw
            case rel => exact ⟨j + 1, by go_num, by omega, nxt, by repeat (first | exact Drawn0.refl _ | apply Drawn0.step)⟩
            case measure => simp [intOf]; omega
        | false =>
          have fl := Aside0.mk (HM.out.fail hlt2 hlt ht)
          simp only [takes, Bool.or_eq_false_iff] at ht
          have e1 : (ps[j].toList == [42]) = false := by rw [toList_lb]; exact ht.1
          have e3 : (ps[j].toList == xs[j].toList) = false := by rw [toList_lb, toList_lb]; exact ht.2
          clear ht
          go_wp2
          go_quiet (fail)
          go_wp2
          go_ret
          exact ⟨by rw [fl.out]; rfl, by repeat (first | exact Drawn0.refl _ | apply Drawn0.step)⟩
      · have dn := Aside0.mk (HM.out.done (by omega))
        go_wp2
        go_ret
        exact ⟨by rw [dn.out]; rfl, by repeat (first | exact Drawn0.refl _ | apply Drawn0.step)⟩
  · rw [decide_eq_false hle, Bool.false_and]
    go_enter Try.func26, Try.ntmps26
    go_wp2
    go_ret
    exact ⟨rfl, Drawn0.refl _⟩

/-- the path lies above what the pattern may match -/
def mayOne (q p : ByteArray) : Bool := decide ((parts 46 p).length < (parts 46 q).length) && matchB (parts 46 q) (parts 46 p)
def mayB (qs : List ByteArray) (p : ByteArray) : Bool := qs.any fun q => mayOne q p
theorem mayB_snoc (qs : List ByteArray) (p : ByteArray) {j : Nat} (h : j < qs.length) : mayB (qs.take (j + 1)) p = (mayB (qs.take j) p || mayOne qs[j] p) := by
  unfold mayB
  rw [List.take_succ_eq_append_getElem h, List.any_append]
  simp
/-- what PathMay tells -/
def MayPost (qs : List ByteArray) (p : ByteArray) (w : World) (e : Ending) (w' : World) : Prop :=
  Below w.heap.size w w' ∧ ((e = .returned (.tuple #[.bool (mayB qs p), .bool true])) ∨ (∃ b, e = .returned (.tuple #[.bool b, .bool false])))
theorem MayPost.no {qs : List ByteArray} {p : ByteArray} {w w' : World} (b : Bool) (h : Below w.heap.size w w') : MayPost qs p w (.returned (.tuple #[.bool b, .bool false])) w' := ⟨h, .inr ⟨b, rfl⟩⟩
theorem MayPost.yes {qs : List ByteArray} {p : ByteArray} {w w' : World} {b : Bool} (hb : mayB qs p = b) (h : Below w.heap.size w w') : MayPost qs p w (.returned (.tuple #[.bool b, .bool true])) w' := ⟨h, .inl (by rw [hb])⟩

theorem mayOne_short {q p : ByteArray} (h : ¬ (parts 46 p).length < (parts 46 q).length) : mayOne q p = false := by rw [mayOne, decide_eq_false h, Bool.false_and]
theorem mayOne_long {q p : ByteArray} {b : Bool} (h : (parts 46 p).length < (parts 46 q).length) (hb : (decide ((parts 46 p).length ≤ (parts 46 q).length) && matchB (parts 46 q) (parts 46 p)) = b) : mayOne q p = b := by
  rw [← hb, mayOne, decide_eq_true h, decide_eq_true (by omega)]

set_option maxHeartbeats 1600000 in
theorem PathMay {A : Option Addr} {c : Nat} {qs : List ByteArray} (p : ByteArray) (w : World) (h : Kd.string.C w A qs.length qs) (hf : fits qs) (hp : p.size ≤ 2147483647) :
    Calls Try.prog 16 #[.slice A qs.length c, .string p] w (MayPost qs p w) := by
  have H := Aside0.mk h
  have HF := Aside0.mk hf.2
  have hm := hf.1
  have hl0 := parts_length 46 p
  clear h hf
  go_enter Try.func16, Try.ntmps16
  go_wp2_with fail
  refine (PathParts p w (by omega)).mono ?_
  rintro e w1 ⟨hb, ⟨hpl, v, rfl, hr⟩ | ⟨hpl, v, rfl⟩⟩
  · obtain ⟨A1, c1, rfl, hc1, hC1⟩ := Kd.R_reads hr
    have H1 := Aside0.mk hC1
    have HB1 := Aside0.mk hb
    clear hr hb hpl hC1
    go_wp2
    go_loopw [4, 8] (fun v4 v8 wr => ∃ (b : Bool) (j : Nat), v4 = .bool b ∧ v8 = .int .i64 j ∧ j ≤ qs.length ∧ Aside0 (mayB (qs.take j) p = b) ∧ Aside0 (Kd.string.C wr A1 (parts 46 p).length (parts 46 p)) ∧ Aside0 (Below w.heap.size w wr)) (fun _ v8 _ => qs.length - (intOf v8).toNat)
    case atStart => exact ⟨false, 0, rfl, rfl, by omega, ⟨by simp [mayB]⟩, H1, HB1⟩
    case round =>
      clear H1 HB1
      obtain ⟨b, j, rfl, rfl, hj, HM, H1, HB1⟩ := hrel
      by_cases hlt : j < qs.length
      · obtain ⟨b0, o0, rfl, hb0, hc0⟩ := strs_open (Kd.C_below H.out HB1.out) (by omega)
        have g0 := hc0 j hlt
        have hq := HF.out qs[j] (List.getElem_mem hlt)
        have hl1 := parts_length 46 qs[j]
        have sn := mayB_snoc qs p hlt
        rw [HM.out] at sn
        have SN := Aside0.mk sn
        clear hc0 sn
        go_wp2_with fail
        refine (PathParts qs[j] _ (by omega)).mono ?_
        rintro e w2 ⟨hb, ⟨hpl, v2, rfl, hr⟩ | ⟨hpl, v2, rfl⟩⟩
        · obtain ⟨A2, c2, rfl, hc2, hC2⟩ := Kd.R_reads hr
          have H2 := Aside0.mk hC2
          have HB2 := Aside0.mk (hb_then HB1.out hb)
          have H1 := Aside0.mk (Kd.C_below H1.out hb)
          clear hr hb hpl hC2 HB1
          go_wp2_with fail
          refine (treeStar w2 H1.out H2.out).mono ?_
          rintro e w3 ⟨⟨bs, rfl⟩, hd⟩
          have HB3 := Aside0.mk (hb_then HB2.out hd.below)
          have H1 := Aside0.mk (Kd.C_below H1.out hd.below)
          have H2 := Aside0.mk (Kd.C_below H2.out hd.below)
          clear hd HB2
          cases bs with
          | true =>
            go_wp2
            go_ret2
            exact MayPost.no _ HB3.out
          | false =>
            cases b with
            | true =>
              go_wp2
              go_roundw
              case rel => exact ⟨true, j + 1, rfl, by go_num, by omega, ⟨by rw [SN.out]; rfl⟩, H1, HB3⟩
              case measure => simp [intOf]; omega
            | false =>
              by_cases hlen : (parts 46 p).length < (parts 46 qs[j]).length
              · go_wp2_with fail
                refine (treeBegins w3 H1.out H2.out).mono ?_
                rintro e w4 ⟨rfl, hd⟩
                generalize hbb : (decide ((parts 46 p).length ≤ (parts 46 qs[j]).length) && matchB (parts 46 qs[j]) (parts 46 p)) = bb
                have ML := Aside0.mk (mayOne_long hlen hbb)
                have HB4 := Aside0.mk (hb_then HB3.out hd.below)
                have H1 := Aside0.mk (Kd.C_below H1.out hd.below)
                clear hd HB3 hbb
                go_wp2
                go_roundw
                case rel => exact ⟨bb, j + 1, rfl, by go_num, by omega, ⟨by rw [SN.out, ML.out]; rfl⟩, H1, HB4⟩
                case measure => simp [intOf]; omega
              · have MS := Aside0.mk (mayOne_short hlen)
                go_wp2
                go_roundw
                case rel => exact ⟨false, j + 1, rfl, by go_num, by omega, ⟨by rw [SN.out, MS.out]; rfl⟩, H1, HB3⟩
                case measure => simp [intOf]; omega
        · have HB2 := Aside0.mk (hb_then HB1.out hb)
          clear hb hpl HB1
          go_wp2
          go_ret2
          exact MayPost.no _ HB2.out
      · have hM : mayB qs p = b := by
          have := HM.out
          rw [List.take_of_length_le (by omega)] at this
          exact this
        have HM2 := Aside0.mk hM
        clear hM
        go_wp2
        go_ret2
        exact MayPost.yes HM2.out HB1.out
  · have HB1 := Aside0.mk hb
    clear hb hpl
    go_wp2
    go_ret2
    exact MayPost.no _ HB1.out
end Go.Proofs.Ytecehldjeppjiaa.PathSpec
