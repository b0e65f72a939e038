/- spec.mapsCut, spec.Mapping. -/
import Derived.Test.YtididniafloogaaGreatDoorPairsFn
import Derived.Test.YtididniafloogaaGreatDoorFitPairs
import Derived.Test.YtididniafloogaaGreatDoorNewMap
namespace Go.Proofs.YtididniafloogaaGreatDoor.Maps
open Go.RowKit Go.Proofs.YtididniafloogaaGreatDoorW.PrintWords Go.Proofs.YtididniafloogaaGreatDoorW.PrintLast Go.Proofs.YtididniafloogaaGreatDoor.Str Go.Proofs.YtididniafloogaaGreatDoor.Kit Go.Proofs.YtididniafloogaaGreatDoor.Index Go.Proofs.YtididniafloogaaGreatDoor.Flat Go.Proofs.YtididniafloogaaGreatDoor.MapV Go.Proofs.YtididniafloogaaGreatDoor.Frame
set_option linter.unusedVariables false
set_option linter.unusedSimpArgs false

theorem cut_hit {c : UInt8} {s : ByteArray} {i : Nat} (hi : i < (lb s).length) (h : ∀ (j : Nat) (hj : j < (lb s).length), j < i → (lb s)[j] ≠ c) (he : (lb s)[i] = c) : cutB c s = (s.extract 0 i, s.extract (i + 1) s.size, true) := by
  have hf : find [c] (lb s) = some i := by
    rw [find_one, List.findIdx?_eq_some_iff_getElem]
    exact ⟨hi, by simpa using he, fun j hj hh => h j (by omega) hj (beq_iff_eq.1 hh)⟩
  unfold cutB
  rw [hf]
theorem cut_miss {c : UInt8} {s : ByteArray} (h : ∀ (j : Nat) (hj : j < (lb s).length), j < s.size → (lb s)[j] ≠ c) : cutB c s = (s, ⟨#[]⟩, false) := by
  have hf : find [c] (lb s) = none := by
    rw [find_one, List.findIdx?_eq_none_iff]
    intro x hx
    obtain ⟨j, hj, rfl⟩ := List.getElem_of_mem hx
    simpa using h j hj (by rw [← lb_length]; exact hj)
  unfold cutB
  rw [hf]
set_option maxHeartbeats 800000 in
theorem mapsCut (s : ByteArray) (w : World) (hs : s.size ≤ 2147483647) :
    Calls Tryz.prog 52 #[.string s] w fun e w' => e = .returned (.tuple #[.string (cutB 61 s).1, .string (cutB 61 s).2.1, .bool (cutB 61 s).2.2]) ∧ Drawn0 w w' := by
  go_enter Tryz.func52, Tryz.ntmps52
  go_wp2
  go_loopw [5] (fun v wr => ∃ i : Nat, v = .int .i64 i ∧ i ≤ s.size ∧ Aside0 (∀ (j : Nat) (hj : j < (lb s).length), j < i → (lb s)[j] ≠ 61) ∧ Drawn0 w wr) (fun v _ => s.size - (intOf v).toNat)
  case atStart => exact ⟨0, rfl, by omega, ⟨fun j _ h => absurd h (Nat.not_lt_zero _)⟩, Drawn0.refl _⟩
  case round =>
    obtain ⟨i, rfl, hi, HA, HD⟩ := hrel
    by_cases hlt : i < s.size
    · have hlt' : i < (lb s).length := by rw [lb_length]; exact hlt
      have q0 : (0 : Int) ≤ (i : Int) := by omega
      have q1 : (i : Int) < (s.size : Int) := by omega
      have q2 : (i : Int) ≤ (s.size : Int) := by omega
      have q3 : (i : Int) + 1 ≤ (s.size : Int) := by omega
      by_cases hc : (lb s)[i] = 61
      · have hcv : s[i] = 61 := hc
        have Y := Aside0.mk (cut_hit hlt' HA.out hc)
        have e0 : (s[i].toNat : Int) = 61 := by rw [hcv]; rfl
        clear hc hcv
        go_wp2_with fail
        go_quiet (fail)
        go_wp2
        go_ret3
        exact ⟨by rw [Y.out]; rfl, HD.step nq⟩
      · have hcv : s[i] ≠ 61 := hc
        have nxt := Aside0.mk (show ∀ (j : Nat) (hj : j < (lb s).length), j < i + 1 → (lb s)[j] ≠ 61 from fun j hj hji => by
          by_cases h : j < i
          · exact HA.out j hj h
          · have : j = i := by omega
            subst this; exact hc)
        have e0 : ((s[i].toNat : Int) == 61) = false := by
          rw [beq_eq_false_iff_ne]
          intro h
          apply hcv
          apply UInt8.toNat_inj.1
          have : s[i].toNat = 61 := by omega
          rw [this]; rfl
        clear hc hcv
        go_wp2
        go_roundw
        case rel => exact ⟨i + 1, by go_num, by omega, nxt, HD⟩
        case measure => simp [intOf]; omega
    · obtain rfl : i = s.size := by omega
      have Y := Aside0.mk (cut_miss HA.out)
      go_wp2
      go_ret3
      exact ⟨by rw [Y.out]; rfl, HD⟩
/-- the names and values as they stand -/
def pairsOf (l : List ByteArray) : List (ByteArray × ByteArray) := l.map fun s => ((cutB 61 s).1, (cutB 61 s).2.1)
theorem newM_is (l : List ByteArray) : newM l = fitM (ofP (pairsOf l)) := by
  have : ∀ (f : List (Bs × ByteArray)), l.foldl (fun f s => mput f (nameV s).1 (nameV s).2) f = (ofP (pairsOf l)).foldl (fun f p => mput f p.1 p.2) f := by
    induction l with
    | nil => intro f; rfl
    | cons s r ih => intro f; exact ih _
  exact this []
theorem pairsOf_length (l : List ByteArray) : (pairsOf l).length = l.length := by simp [pairsOf]
set_option maxHeartbeats 1600000 in
theorem specMapping {A : Option Addr} {c : Nat} (l : List ByteArray) (w : World) (h : Kd.string.C w A l.length l) (hn : l.length ≤ 2147483647) (hl : ∀ s ∈ l, s.size ≤ 2147483647) :
    Calls Tryz.prog 15 #[.slice A l.length c] w fun e w' => ∃ v, e = .returned v ∧ kp.R 65 w' w.heap.size (fun _ => True) v (toP (newM l)) ∧ Below w.heap.size w w' := by
  have H := Aside0.mk h
  have HL := Aside0.mk hl
  have HB0 := Aside0.mk (Below.refl w.heap.size w)
  clear h hl
  go_enter Tryz.func15, Tryz.ntmps15
  go_wp2
  go_loopw [3, 4] (fun v3 v4 wr => ∃ i : Nat, v4 = .int .i64 i ∧ i ≤ l.length ∧ Aside0 (kp.R 65 wr w.heap.size (fun _ => True) v3 (pairsOf (l.take i))) ∧ Aside0 (Below w.heap.size w wr)) (fun _ v4 _ => l.length - (intOf v4).toNat)
  case atStart => exact ⟨0, rfl, by omega, ⟨Kd.R_nil _ _ _ _ _⟩, HB0⟩
  case round =>
    clear HB0
    obtain ⟨i, rfl, hi, HO, HB⟩ := hrel
    by_cases hlt : i < l.length
    · obtain ⟨b0, o0, rfl, hb0, hc0⟩ := strs_open (Kd.C_below H.out HB.out) (by omega)
      have g0 := hc0 i hlt
      have q0 : (0 : Int) ≤ (i : Int) := by omega
      have q1 : (i : Int) < (l.length : Int) := by omega
      have hsz := HL.out l[i] (List.getElem_mem hlt)
      have HT := Aside0.mk (show pairsOf (l.take (i + 1)) = pairsOf (l.take i) ++ [((cutB 61 l[i]).1, (cutB 61 l[i]).2.1)] by
        rw [List.take_succ_eq_append_getElem hlt]
        unfold pairsOf
        rw [List.map_append, List.map_cons, List.map_nil])
      have hln : (pairsOf (l.take i)).length < 4398046511103 := by rw [pairsOf_length, List.length_take]; omega
      generalize l[i] = s at g0 hsz HT
      have CC := Aside0.mk (mapsCut s wr hsz)
      generalize cutB 61 s = cut at CC HT
      obtain ⟨p, q, f⟩ := cut
      clear hc0 hsz
      go_wp2_with (first | (refine CC.out.mono ?_; rintro e w1 ⟨rfl, hd⟩; have HD := Aside0.mk hd; clear hd; have HO1 := Aside0.mk (Kd.R_below HO.out HD.out.below); have HB1 := Aside0.mk (hb_then HB.out HD.out.below)) | (at_builtin; refine append_pair (w0 := w) (ok := fun _ => True) (fun _ _ => trivial) 25 65 Tryz.underlying25 info_spair (.tmp 23) (.tmp 27) rfl rfl rfl rfl HO1.out HB1.out hln ?_; intro v1 w5 ho hb hg; have HO5 := Aside0.mk ho; have HB5 := Aside0.mk hb; clear ho hb hg))
      go_roundw
      case rel => exact ⟨i + 1, by go_num, by omega, ⟨by rw [HT.out]; exact HO5.out⟩, HB5⟩
      case measure => simp [intOf]; omega
    · have hall := HO.out
      rw [List.take_of_length_le (by omega)] at hall
      obtain ⟨A3, c3, rfl, hle, hC⟩ := Kd.R_reads hall
      have CF := Aside0.mk (FitPairs (c := c3) (pairsOf l) wr hC (by rw [pairsOf_length]; exact hn))
      rw [← newM_is] at CF
      clear hall HO hle hC
      go_wp2_with (refine CF.out.mono ?_; rintro e w1 ⟨v, rfl, hr, hb⟩; have HR := Aside0.mk (Kd.R_lower hr HB.out.size); have HB1 := Aside0.mk (hb_then HB.out hb); clear hr hb)
      go_ret
      exact ⟨_, rfl, HR.out, HB1.out⟩
end Go.Proofs.YtididniafloogaaGreatDoor.Maps
