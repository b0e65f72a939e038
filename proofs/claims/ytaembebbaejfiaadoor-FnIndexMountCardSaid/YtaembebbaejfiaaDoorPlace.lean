/- spec.place: where a key stands in a mapping, or would stand. -/
import Derived.Test.YtaembebbaejfiaaDoorMapV
import Derived.Test.YtaembebbaejfiaaDoorFrame
import Derived.Test.YtaembebbaejfiaaDoorWLast
import Derived.Laws.Cover1
namespace Go.Proofs.YtaembebbaejfiaaDoor.Val
open Go.RowKit Go.Proofs.YtaembebbaejfiaaDoorW.PrintWords Go.Proofs.YtaembebbaejfiaaDoorW.PrintLast Go.Proofs.YtaembebbaejfiaaDoor.Str Go.Proofs.YtaembebbaejfiaaDoor.Kit Go.Proofs.YtaembebbaejfiaaDoor.Frame Go.Proofs.YtaembebbaejfiaaDoor.MapV
set_option linter.unusedVariables false
set_option linter.unusedSimpArgs false
/-- how many keys stand ahead -/
def placeI (ks : List ByteArray) (k : ByteArray) : Nat := (ks.takeWhile fun x => decide (lb x < lb k)).length
/-- is the key there? -/
def placeB (ks : List ByteArray) (k : ByteArray) : Bool := match ks[placeI ks k]? with | some x => x.toList == k.toList | none => false
theorem placeI_hit {k : ByteArray} : ∀ {ks : List ByteArray} {i : Nat}, (∀ (j : Nat) (hj : j < ks.length), j < i → lb ks[j] < lb k) → ∀ hi : i < ks.length, ¬ lb ks[i] < lb k → placeI ks k = i
  | [], _, _, hi, _ => by simp at hi
  | x :: r, 0, _, _, hn => by
    have : ¬ lb x < lb k := hn
    unfold placeI
    rw [List.takeWhile_cons_of_neg (by simpa using this)]
    rfl
  | x :: r, i + 1, ha, hi, hn => by
    have h0 : lb x < lb k := ha 0 (by simp) (by omega)
    have ih := placeI_hit (k := k) (ks := r) (i := i) (fun j hj hji => by have := ha (j + 1) (by simpa using hj) (by omega); simpa using this) (by simpa using hi) (by simpa using hn)
    unfold placeI at ih ⊢
    rw [List.takeWhile_cons_of_pos (by simpa using h0), List.length_cons, ih]
theorem placeI_end {k : ByteArray} {ks : List ByteArray} (ha : ∀ (j : Nat) (hj : j < ks.length), lb ks[j] < lb k) : placeI ks k = ks.length := by
  unfold placeI
  induction ks with
  | nil => rfl
  | cons x r ih =>
    have h0 : lb x < lb k := ha 0 (by simp)
    rw [List.takeWhile_cons_of_pos (by simpa using h0), List.length_cons, ih (fun j hj => by have := ha (j + 1) (by simpa using hj); simpa using this), List.length_cons]
set_option maxHeartbeats 1600000 in
set_option maxRecDepth 100000 in
theorem place (kd nm : Int) (t : ByteArray) {A3 A4 : Option Addr} {c3 n4 c4 : Nat} (ks : List ByteArray) (k : ByteArray) (w : World) (h : Kd.string.C w A3 ks.length ks) (hn : ks.length ≤ 17592186044416) :
    Calls Tryd.prog 42 #[.agg #[.int .i64 kd, .int .i64 nm, .string t, .slice A3 ks.length c3, .slice A4 n4 c4], .string k] w fun e w' => e = .returned (.tuple #[.int .i64 (placeI ks k), .bool (placeB ks k)]) ∧ Below w.heap.size w w' := by
  have H := Aside0.mk h
  have HX := Aside0.mk (cb_new w (.cells #[.int .i64 kd, .int .i64 nm, .string t, .slice A3 ks.length c3, .slice A4 n4 c4] 32))
  have HB := Aside0.mk ((Below.refl _ w).alloc (Nat.le_refl _) (.cells #[.int .i64 kd, .int .i64 nm, .string t, .slice A3 ks.length c3, .slice A4 n4 c4] 32))
  clear h
  go_enter Tryd.func42, Tryd.ntmps42
  go_wp2
  go_loopw [6] (fun v wr => ∃ i : Nat, v = .int .i64 i ∧ i ≤ ks.length ∧ Aside0 (∀ (j : Nat) (hj : j < ks.length), j < i → lb ks[j] < lb k) ∧ Aside0 (wr.heap[w.heap.size]? = some (.cells #[.int .i64 kd, .int .i64 nm, .string t, .slice A3 ks.length c3, .slice A4 n4 c4] 32 (0, 0))) ∧ Aside0 (Below w.heap.size w wr)) (fun v _ => ks.length - (intOf v).toNat)
  case atStart => exact ⟨0, rfl, by omega, ⟨fun j _ h => absurd h (Nat.not_lt_zero _)⟩, HX, HB⟩
  case round =>
    clear HX HB
    obtain ⟨i, rfl, hi, HN, HX, HB⟩ := hrel
    have x3 : wr.cell? ⟨w.heap.size, 3, none⟩ = some (.slice A3 ks.length c3) := cb_cell (i := 3) HX.out rfl
    by_cases hlt : i < ks.length
    · obtain ⟨b0, o0, rfl, hb0, hc0⟩ := strs_open (Kd.C_below H.out HB.out) (by omega)
      have g0 := hc0 i hlt
      have q0 : (0 : Int) ≤ (i : Int) := by omega
      have q1 : (i : Int) < (ks.length : Int) := by omega
      have HA := Aside0.mk (show lb ks[i] < lb k → ∀ (j : Nat) (hj : j < ks.length), j < i + 1 → lb ks[j] < lb k from fun h j hj hji => by
        by_cases hj' : j < i
        · exact HN.out j hj hj'
        · have : j = i := by omega
          subst this; exact h)
      have HP := Aside0.mk (show ¬ lb ks[i] < lb k → placeI ks k = i ∧ placeB ks k = (ks[i].toList == k.toList) from fun h => by
        have h1 := placeI_hit HN.out hlt h
        refine ⟨h1, ?_⟩
        unfold placeB
        rw [h1, List.getElem?_eq_getElem hlt])
      have hless : Op.bytesLess ks[i].toList k.toList = decide (lb ks[i] < lb k) := by rw [bytesLess_eq, toList_lb, toList_lb]
      clear hc0
      by_cases hl : lb ks[i] < lb k
      · rw [decide_eq_true hl] at hless
        have Y := Aside0.mk (HA.out hl)
        clear HA HP hl
        generalize ks[i] = x at g0 hless
        go_wp2
        go_roundw
        case rel => exact ⟨i + 1, by go_num, by omega, Y, HX, HB⟩
        case measure => simp [intOf]; omega
      · rw [decide_eq_false hl] at hless
        have Y := Aside0.mk (HP.out hl)
        clear HA HP hl
        generalize ks[i] = x at g0 hless Y
        go_wp2_with fail
        go_quiet (fail)
        go_wp2
        go_ret2
        exact ⟨by rw [Y.out.1, Y.out.2]; rfl, pw_below_drewN HB.out nq⟩
    · have Y := Aside0.mk (placeI_end (k := k) (ks := ks) (fun j hj => HN.out j hj (by omega)))
      have Z := Aside0.mk (show placeB ks k = false by
        unfold placeB
        rw [Y.out, List.getElem?_eq_none (Nat.le_refl _)])
      go_wp2
      go_ret2
      exact ⟨by rw [Y.out, Z.out]; rfl, HB.out⟩
end Go.Proofs.YtaembebbaejfiaaDoor.Val
