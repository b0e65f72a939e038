/- zzFits3: pairs within the laws' bound. -/
import Derived.Test.YtididniafloogaaGreatDoorPairsFn
namespace Go.Proofs.YtididniafloogaaGreatDoor.Maps
open Go.RowKit Go.Proofs.YtididniafloogaaGreatDoorW.PrintWords Go.Proofs.YtididniafloogaaGreatDoorW.PrintLast Go.Proofs.YtididniafloogaaGreatDoor.Str Go.Proofs.YtididniafloogaaGreatDoor.Kit Go.Proofs.YtididniafloogaaGreatDoor.Flat Go.Proofs.YtididniafloogaaGreatDoor.MapV Go.Proofs.YtididniafloogaaGreatDoor.Frame
set_option linter.unusedVariables false
set_option linter.unusedSimpArgs false
def fits1 (p : ByteArray × ByteArray) : Prop := p.1.size ≤ 2147483647 ∧ p.2.size ≤ 2147483647
instance (p : ByteArray × ByteArray) : Decidable (fits1 p) := by unfold fits1; infer_instance
def fitsP (l : List (ByteArray × ByteArray)) : Prop := l.length ≤ 2147483647 ∧ ∀ p ∈ l, fits1 p
instance (l : List (ByteArray × ByteArray)) : Decidable (fitsP l) := by unfold fitsP; infer_instance
set_option maxHeartbeats 800000 in
theorem zzFits4 (p q : ByteArray) (w : World) :
    Calls Tryz.prog 54 #[.agg #[.string p, .string q]] w fun e w' => e = .returned (.bool (decide (fits1 (p, q)))) ∧ w' = w.alloc (.cells #[.string p, .string q] 65) := by
  have k0 : (w.alloc (.cells #[.string p, .string q] 65)).cell? ⟨w.heap.size, 0, none⟩ = some (.string p) := cb_cell (i := 0) (cb_new _ _) rfl
  have k1 : (w.alloc (.cells #[.string p, .string q] 65)).cell? ⟨w.heap.size, 1, none⟩ = some (.string q) := cb_cell (i := 1) (cb_new _ _) rfl
  by_cases h1 : p.size ≤ 2147483647
  · have d1 : decide (2147483647 < (p.size : Int)) = false := decide_eq_false (by omega)
    by_cases h2 : q.size ≤ 2147483647
    · have d2 : decide (2147483647 < (q.size : Int)) = false := decide_eq_false (by omega)
      have Y := Aside0.mk (show decide (fits1 (p, q)) = true from decide_eq_true ⟨h1, h2⟩)
      clear h1 h2
      go_enter Tryz.func54, Tryz.ntmps54
      go_wp2
      go_ret
      exact ⟨by rw [Y.out]; rfl, rfl⟩
    · have d2 : decide (2147483647 < (q.size : Int)) = true := decide_eq_true (by omega)
      have Y := Aside0.mk (show decide (fits1 (p, q)) = false from decide_eq_false (fun h => h2 h.2))
      clear h1 h2
      go_enter Tryz.func54, Tryz.ntmps54
      go_wp2
      go_ret
      exact ⟨by rw [Y.out]; rfl, rfl⟩
  · have d1 : decide (2147483647 < (p.size : Int)) = true := decide_eq_true (by omega)
    have Y := Aside0.mk (show decide (fits1 (p, q)) = false from decide_eq_false (fun h => h1 h.1))
    clear h1
    go_enter Tryz.func54, Tryz.ntmps54
    go_wp2
    go_ret
    exact ⟨by rw [Y.out]; rfl, rfl⟩
def FitsToP (xs : List (ByteArray × ByteArray)) (j : Nat) : Prop := ∀ x ∈ xs.take j, fits1 x
theorem FitsToP.next {xs : List (ByteArray × ByteArray)} {j : Nat} (h : FitsToP xs j) (hj : j < xs.length) (hx : fits1 xs[j]) : FitsToP xs (j + 1) := by
  intro x hm
  rw [List.take_succ_eq_append_getElem hj] at hm
  rcases List.mem_append.1 hm with hm | hm
  · exact h x hm
  · simp at hm; subst hm; exact hx
set_option maxHeartbeats 1600000 in
theorem zzFits3 {A : Option Addr} {c : Nat} {xs : List (ByteArray × ByteArray)} (w : World) (h : kp.C w A xs.length xs) :
    Calls Tryz.prog 19 #[.slice A xs.length c] w fun e w' => e = .returned (.bool (decide (fitsP xs))) ∧ Below w.heap.size w w' := by
  have H := Aside0.mk h
  have hm := h.2.1
  have HB0 := Aside0.mk (Below.refl w.heap.size w)
  clear h
  by_cases hlen : xs.length ≤ 2147483647
  · have d0 : decide (2147483647 < (xs.length : Int)) = false := decide_eq_false (by omega)
    go_enter Tryz.func19, Tryz.ntmps19
    go_wp2
    go_loopw [10] (fun v wr => ∃ j : Nat, v = .int .i64 j ∧ j ≤ xs.length ∧ Aside0 (FitsToP xs j) ∧ Aside0 (Below w.heap.size w wr)) (fun v _ => xs.length - (intOf v).toNat)
    case atStart => exact ⟨0, rfl, by omega, ⟨by intro x hx; simp at hx⟩, HB0⟩
    case round =>
      clear HB0
      obtain ⟨j, rfl, hj, HF, HB⟩ := hrel
      by_cases hlt : j < xs.length
      · obtain ⟨b, o, rfl, hb, hc⟩ := kp_open H.out (by omega)
        obtain ⟨g0, g1⟩ := hc j hlt
        replace g0 := pw_cell_below HB.out g0
        replace g1 := pw_cell_below HB.out g1
        have q0 : (0 : Int) ≤ (j : Int) := by omega
        have q1 : (j : Int) < (xs.length : Int) := by omega
        have NX := Aside0.mk (fun hx : fits1 xs[j] => HF.out.next hlt hx)
        have NO := Aside0.mk (show ¬ fits1 xs[j] → decide (fitsP xs) = false from fun hx => decide_eq_false (fun hf => hx (hf.2 _ (List.getElem_mem hlt))))
        clear hc
        generalize xs[j] = x at g0 g1 NX NO
        obtain ⟨p, q⟩ := x
        have HB2 := Aside0.mk (below_alloc HB.out (.cells #[.string p, .string q] 65))
        have k0 : (wr.alloc (.cells #[.string p, .string q] 65)).cell? ⟨wr.heap.size, 0, none⟩ = some (.string p) := cb_cell (i := 0) (cb_new _ _) rfl
        have k1 : (wr.alloc (.cells #[.string p, .string q] 65)).cell? ⟨wr.heap.size, 1, none⟩ = some (.string q) := cb_cell (i := 1) (cb_new _ _) rfl
        have CZ := Aside0.mk (zzFits4 p q (wr.alloc (.cells #[.string p, .string q] 65)))
        have HB3 := Aside0.mk (below_alloc HB2.out (.cells #[.string p, .string q] 65))
        by_cases hx : fits1 (p, q)
        · rw [decide_eq_true hx] at CZ
          have nxt := Aside0.mk (NX.out hx)
          clear hx NX NO
          go_wp2_with (refine CZ.out.mono ?_; rintro e w1 ⟨rfl, rfl⟩)
          go_roundw
          case rel => exact ⟨j + 1, by go_num, by omega, nxt, HB3⟩
          case measure => simp [intOf]; omega
        · rw [decide_eq_false hx] at CZ
          have no := Aside0.mk (NO.out hx)
          clear hx NX NO
          go_wp2_with (refine CZ.out.mono ?_; rintro e w1 ⟨rfl, rfl⟩)
          go_ret
          exact ⟨by rw [no.out]; rfl, HB3.out⟩
      · have yes := Aside0.mk (show fitsP xs from ⟨hlen, by
          have := HF.out
          unfold FitsToP at this
          rw [List.take_of_length_le (by omega)] at this
          exact this⟩)
        go_wp2
        go_ret
        exact ⟨by rw [decide_eq_true yes.out]; rfl, HB.out⟩
  · have d0 : decide (2147483647 < (xs.length : Int)) = true := decide_eq_true (by omega)
    have no := Aside0.mk (show ¬ fitsP xs from fun hf => hlen hf.1)
    clear hlen
    go_enter Tryz.func19, Tryz.ntmps19
    go_wp2
    go_ret
    exact ⟨by rw [decide_eq_false no.out]; rfl, HB0.out⟩
end Go.Proofs.YtididniafloogaaGreatDoor.Maps
