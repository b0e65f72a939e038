/- The laws' own helpers over rows of texts: zzFits2, sameTexts. -/
import Derived.Test.YtididniafloogaaGreatDoorRowstr
namespace Go.Proofs.YtididniafloogaaGreatDoor.Texts
open Go.RowKit Go.Proofs.YtididniafloogaaGreatDoorW.PrintWords Go.Proofs.YtididniafloogaaGreatDoor.Str Go.Proofs.YtididniafloogaaGreatDoor.Kit
set_option linter.unusedVariables false
set_option linter.unusedSimpArgs false

/-- a row of texts within the laws' bound -/
def fits (xs : List ByteArray) : Prop := xs.length ≤ 2147483647 ∧ ∀ x ∈ xs, x.size ≤ 2147483647
instance (xs : List ByteArray) : Decidable (fits xs) := by unfold fits; infer_instance
def FitsTo (xs : List ByteArray) (j : Nat) : Prop := ∀ x ∈ xs.take j, x.size ≤ 2147483647
theorem FitsTo.next {xs : List ByteArray} {j : Nat} (h : FitsTo xs j) (hj : j < xs.length) (hx : xs[j].size ≤ 2147483647) : FitsTo xs (j + 1) := by
  intro x hm
  rw [List.take_succ_eq_append_getElem hj] at hm
  rcases List.mem_append.1 hm with hm | hm
  · exact h x hm
  · simp at hm; subst hm; exact hx

set_option maxHeartbeats 400000 in
theorem zzFits2 {A : Option Addr} {c : Nat} {xs : List ByteArray} (w : World) (h : Kd.string.C w A xs.length xs) :
    Calls Tryz.prog 11 #[.slice A xs.length c] w fun e w' => e = .returned (.bool (decide (fits xs))) ∧ w = w' := by
  have H := Aside0.mk h
  have hm := h.2.1
  clear h
  by_cases hlen : xs.length ≤ 2147483647
  · have d0 : decide (2147483647 < (xs.length : Int)) = false := decide_eq_false (by omega)
    go_enter Tryz.func11, Tryz.ntmps11
    go_wp2
    go_loop [10] (fun v => ∃ j : Nat, v = .int .i64 j ∧ j ≤ xs.length ∧ Aside0 (FitsTo xs j)) (fun v => xs.length - (intOf v).toNat)
    case atStart => exact ⟨0, rfl, by omega, ⟨by intro x hx; simp at hx⟩⟩
    case round =>
      obtain ⟨j, rfl, hj, HF⟩ := hrel
      by_cases hlt : j < xs.length
      · obtain ⟨b, o, rfl, hb, hc⟩ := strs_open H.out (by omega)
        have g := hc j hlt
        clear hc
        by_cases hx : xs[j].size ≤ 2147483647
        · have d1 : decide (2147483647 < (xs[j].size : Int)) = false := decide_eq_false (by omega)
          have nxt := Aside0.mk (HF.out.next hlt hx)
          go_wp2
          go_round
          case rel => exact ⟨j + 1, by go_num, by omega, nxt⟩
          case measure => simp [intOf]; omega
        · have d1 : decide (2147483647 < (xs[j].size : Int)) = true := decide_eq_true (by omega)
          have no := Aside0.mk (show ¬ fits xs from fun hf => hx (hf.2 _ (List.getElem_mem hlt)))
          clear hx
          go_wp2
          go_ret
          exact ⟨by rw [decide_eq_false no.out]; rfl, rfl⟩
      · have yes := Aside0.mk (show fits xs from ⟨hlen, by
          have := HF.out
          unfold FitsTo at this
          rw [List.take_of_length_le (by omega)] at this
          exact this⟩)
        go_wp2
        go_ret
        exact ⟨by rw [decide_eq_true yes.out]; rfl, rfl⟩
  · have d0 : decide (2147483647 < (xs.length : Int)) = true := decide_eq_true (by omega)
    have no := Aside0.mk (show ¬ fits xs from fun hf => hlen hf.1)
    clear hlen
    go_enter Tryz.func11, Tryz.ntmps11
    go_wp2
    go_ret
    exact ⟨by rw [decide_eq_false no.out]; rfl, rfl⟩

def SameTo (xs ys : List ByteArray) (j : Nat) : Prop := j ≤ xs.length ∧ xs.take j = ys.take j
theorem SameTo.next {xs ys : List ByteArray} {j : Nat} (h : SameTo xs ys j) (hx : j < xs.length) (hy : j < ys.length) (e : xs[j] = ys[j]) : SameTo xs ys (j + 1) :=
  ⟨hx, by rw [List.take_succ_eq_append_getElem hx, List.take_succ_eq_append_getElem hy, h.2, e]⟩

set_option maxHeartbeats 800000 in
theorem sameTexts {A0 : Option Addr} {c0 : Nat} {xs : List ByteArray} {A1 : Option Addr} {c1 : Nat} {ys : List ByteArray} (w : World) (h0 : Kd.string.C w A0 xs.length xs) (h1 : Kd.string.C w A1 ys.length ys) :
    Calls Tryz.prog 42 #[.slice A0 xs.length c0, .slice A1 ys.length c1] w fun e w' => e = .returned (.bool (decide (xs = ys))) ∧ Drawn0 w w' := by
  have H0 := Aside0.mk h0
  have H1 := Aside0.mk h1
  have hm := h0.2.1
  clear h0 h1
  by_cases hl : xs.length = ys.length
  · have e1 : ((xs.length : Int) == (ys.length : Int)) = true := beq_iff_eq.mpr (by omega)
    have e2 : ((xs.length : Int) != (ys.length : Int)) = false := bne_eq_false_iff_eq.mpr (by omega)
    have HL := Aside0.mk hl
    have hle : xs.length ≤ ys.length := by omega
    have hge : ys.length ≤ xs.length := by omega
    clear hl
    go_enter Tryz.func42, Tryz.ntmps42
    go_wp2
    go_loopw [5] (fun v wr => ∃ j : Nat, v = .int .i64 j ∧ j ≤ xs.length ∧ Aside0 (SameTo xs ys j) ∧ Drawn0 w wr) (fun v _ => xs.length - (intOf v).toNat)
    case atStart => exact ⟨0, rfl, by omega, ⟨by omega, by simp⟩, Drawn0.refl _⟩
    case round =>
      obtain ⟨j, rfl, hj, HS, ⟨nd, rfl⟩⟩ := hrel
      by_cases hlt : j < xs.length
      · obtain ⟨b0, o0, rfl, hb0, hc0⟩ := strs_open H0.out (by omega)
        obtain ⟨b1, o1, rfl, hb1, hc1⟩ := strs_open H1.out (by omega)
        have g0 := hc0 j hlt
        have g1 := hc1 j (by omega)
        have hlt2 : j < ys.length := by omega
        have q0 : (0 : Int) ≤ (j : Int) := by omega
        have q1 : (j : Int) < (xs.length : Int) := by omega
        have q2 : (j : Int) < (ys.length : Int) := by omega
        clear hc0 hc1
        by_cases e : xs[j] = ys[j]
        · have e3 : (xs[j].toList != ys[j].toList) = false := by rw [e]; simp
          have e4 : (xs[j].toList == ys[j].toList) = true := by rw [e]; simp
          have nxt := Aside0.mk (HS.out.next hlt hlt2 e)
          clear e
          go_wp2
          go_quiet (fail)
          go_wp2
          go_roundw
          case rel => exact ⟨j + 1, by go_num, by omega, nxt, by repeat (first | exact Drawn0.refl _ | apply Drawn0.step)⟩
          case measure => simp [intOf]; omega
        · have e5 : xs[j].toList ≠ ys[j].toList := fun h => e (by rw [toList_lb, toList_lb] at h; exact lb_inj h)
          have e3 : (xs[j].toList != ys[j].toList) = true := bne_iff_ne.mpr e5
          have e4 : (xs[j].toList == ys[j].toList) = false := beq_eq_false_iff_ne.mpr e5
          have no := Aside0.mk (show ¬ xs = ys from fun h => e (by subst h; rfl))
          clear e e5
          go_wp2
          go_quiet (fail)
          go_wp2
          go_ret
          exact ⟨by rw [decide_eq_false no.out]; rfl, by repeat (first | exact Drawn0.refl _ | apply Drawn0.step)⟩
      · have yes := Aside0.mk (show xs = ys from by
          have := HS.out.2
          rw [List.take_of_length_le (by omega), List.take_of_length_le (by omega)] at this
          exact this)
        go_wp2
        go_ret
        exact ⟨by rw [decide_eq_true yes.out]; rfl, by repeat (first | exact Drawn0.refl _ | apply Drawn0.step)⟩
  · have e1 : ((xs.length : Int) == (ys.length : Int)) = false := beq_eq_false_iff_ne.mpr (by omega)
    have e2 : ((xs.length : Int) != (ys.length : Int)) = true := bne_iff_ne.mpr (by omega)
    have no := Aside0.mk (show ¬ xs = ys from fun h => hl (by rw [h]))
    clear hl
    go_enter Tryz.func42, Tryz.ntmps42
    go_wp2
    go_ret
    exact ⟨by rw [decide_eq_false no.out]; rfl, Drawn0.refl _⟩
end Go.Proofs.YtididniafloogaaGreatDoor.Texts
