/- FnWindowsDrive: the walk. -/
import Derived.Test.YtpkfdifoaijpnaaDoorVolSpec
namespace Go.Proofs.YtpkfdifoaijpnaaDoor.LawDrive
open Go.RowKit Go.Proofs.YtpkfdifoaijpnaaDoorW.PrintWords Go.Proofs.YtpkfdifoaijpnaaDoor.Str Go.Proofs.YtpkfdifoaijpnaaDoor.Kit Go.Proofs.YtpkfdifoaijpnaaDoor.Frame Go.Proofs.YtpkfdifoaijpnaaDoor.Vol
set_option linter.unusedVariables false
set_option linter.unusedSimpArgs false

theorem runesFrom_ascii (s : ByteArray) (ha : allAscii (lb s)) : ∀ (bound i : Nat) (acc : Array Value), i + bound = s.size → Conv.runesFrom s bound i acc = acc ++ ((runes ((lb s).drop i)).map (Value.int .i32)).toArray
  | 0, i, acc, h => by
    rw [List.drop_of_length_le (by rw [lb_length]; omega)]
    simp [Conv.runesFrom, runes]
  | bound + 1, i, acc, h => by
    have hi : i < s.size := by omega
    have hi' : i < (lb s).length := by rw [lb_length]; exact hi
    have h128 : (s[i]'hi).toNat < 128 := ha _ (List.getElem_mem hi')
    unfold Conv.runesFrom
    rw [if_pos hi, decode_ascii s i hi h128]
    dsimp only
    rw [runesFrom_ascii s ha bound (i + 1) _ (by omega), List.drop_eq_getElem_cons hi']
    have e : (lb s)[i] = s[i]'hi := rfl
    rw [e]
    simp [runes]
theorem runes_conv (s : ByteArray) (ha : allAscii (lb s)) (hs : s.size ≤ 2147483647) (w : World) :
    ∃ cap w1, (convert 9 63 (.string s)).run Tryd.prog w = .ok (.slice (some ⟨w.heap.size, 0, none⟩) (runes (lb s)).length cap) w1 ∧ (Kd.int .i32).C w1 (some ⟨w.heap.size, 0, none⟩) (runes (lb s)).length (runes (lb s)) ∧ Below w.heap.size w w1 := by
  have hr := runesFrom_ascii s ha s.size 0 #[] (by omega)
  rw [List.drop_zero] at hr
  simp only [List.append_toArray, List.nil_append] at hr
  have hsz : (Conv.runesFrom s s.size 0 #[]).size = (runes (lb s)).length := by rw [hr]; simp
  have h := run_runes_of_string (P := Tryd.prog) w 9 63 21 s Tryd.underlying9 Tryd.underlying63 Tryd.underlying21 (by rw [hsz, runes_length, lb_length]; omega)
  rw [hsz] at h
  refine ⟨_, _, h, ?_, ?_⟩
  · refine Kd.C_of_reads (enc := Value.int .i32) (d := (0 : Int)) ⟨rfl, by rw [runes_length, lb_length]; omega, fun _ => ⟨_, rfl, fun j hj => ?_⟩⟩
    have := World.cell?_alloc_new w.drew (Conv.runesFrom s s.size 0 #[] ++ Array.replicate (grownCap w (runes (lb s)).length 0 21 - (runes (lb s)).length) (.int .i32 0)) 21 j
    have ea : (⟨w.heap.size, 0, none⟩ : Addr).add j = ⟨w.heap.size, j, none⟩ := by unfold Addr.add; simp; exact fun h => h.symm
    rw [ea]
    refine this.trans ?_
    rw [Array.getElem?_append_left (by rw [hsz]; exact hj), hr]
    simp [List.getD_eq_getElem?_getD, List.getElem?_eq_getElem hj]
  · exact (Below.refl _ w).drew.alloc (Nat.le_refl _) _

theorem IsDrive {A : Option Addr} {n cap : Nat} {c : Int} {r : Bool} (w : World) (h : Calls Tryd.prog 30 #[.slice A n cap, .int .i32 c] w fun e w' => e = .returned (.bool r) ∧ Below w.heap.size w w') :
    Calls Tryd.prog 25 #[.slice A n cap, .int .i32 c] w fun e w' => e = .returned (.bool r) ∧ Below w.heap.size w w' := by
  have C := Aside0.mk h
  clear h
  go_enter Tryd.func25, Tryd.ntmps25
  go_wp2_with fail
  refine C.out.mono ?_
  rintro e w1 ⟨rfl, hb⟩
  have HB := Aside0.mk hb
  clear hb
  go_wp2
  go_ret
  exact ⟨rfl, HB.out⟩
set_option maxRecDepth 1000000 in
theorem implDrive (s : ByteArray) (c : Int) (w : World) (ha : allAscii (lb s)) (hs : s.size ≤ 2147483647) (hT : VTabs w) :
    Calls Tryd.prog 16 #[.string s, .int .i32 c] w fun e w' => e = .returned (.bool (driveS (lb s) c)) ∧ Below w.heap.size w w' := by
  obtain ⟨cap, w1, hcv, hC, hb⟩ := runes_conv s ha hs w
  have HB := Aside0.mk hb
  have CW := Aside0.mk (isWindowsDrive (cap := cap) (runes (lb s)) c w1 hC (fun _ => by
    cases hl : lb s with
    | nil => simp [runes]
    | cons x r =>
      have := ha x (by rw [hl]; simp)
      simp [runes]
      omega) (hT.below hb))
  rw [drive_eq _ _ ha] at CW
  have CX := Aside0.mk (IsDrive w1 CW.out)
  clear hC hb ha hT CW
  generalize (runes (lb s)).length = n at hcv CX
  generalize driveS (lb s) c = r at CX ⊢
  go_enter Tryd.func16, Tryd.ntmps16
  go_wp2_with (first | (refine CX.out.mono ?_; rintro e w2 ⟨rfl, hb⟩; have HB2 := Aside0.mk (hb_then HB.out hb); clear hb))
  go_wp2
  go_ret
  exact ⟨rfl, HB2.out⟩

set_option maxHeartbeats 1600000 in
theorem law (s : ByteArray) (c : Int) (w : World) (_ : s.size ≤ 140737488351232) (_ : (Lit.int .i32 c).wf = true) (hT : VTabs w) :
    Calls Tryd.prog 6 #[.string s, .int .i32 c] w fun e w' => e = .returned (.bool true) ∧ Below w.heap.size w w' := by
  have HT := Aside0.mk hT
  have HB0 := Aside0.mk (Below.refl w.heap.size w)
  clear hT
  by_cases hs : 2147483647 < s.size
  · have hs' : (2147483647 : Int) < (s.size : Int) := by omega
    clear hs
    go_enter Tryd.func6, Tryd.ntmps6
    go_wp2
    go_ret
    exact ⟨rfl, HB0.out⟩
  · have hs' : ¬ (2147483647 : Int) < (s.size : Int) := by omega
    have CA := Aside0.mk (fun w1 (h1 : VTabs w1) => implDrive ⟨#[99]⟩ 58 w1 (by decide) (by decide) h1)
    rw [show driveS (lb ⟨#[99]⟩) 58 = true from by decide] at CA
    by_cases ha : allAscii (lb s)
    · have CS := Aside0.mk (specDrive s c w (by omega))
      rw [saidDrive, if_pos ha] at CS
      have CI := Aside0.mk (fun w1 (h1 : VTabs w1) => implDrive s c w1 ha (by omega) h1)
      clear ha hs
      generalize driveS (lb s) c = r at CS CI
      have hrr : (r == r) = true := beq_self_eq_true r
      go_enter Tryd.func6, Tryd.ntmps6
      go_wp2_with fail
      refine CS.out.mono ?_
      rintro e w1 ⟨rfl, rfl⟩
      go_wp2_with fail
      refine (CI.out w1 HT.out).mono ?_
      rintro e w2 ⟨rfl, hb⟩
      have HB2 := Aside0.mk hb
      have HT2 := Aside0.mk (HT.out.below hb)
      clear hb
      go_wp2_with fail
      refine (CA.out w2 HT2.out).mono ?_
      rintro e w3 ⟨rfl, hb⟩
      have HB3 := Aside0.mk (hb_then HB2.out hb)
      have HT3 := Aside0.mk (HT2.out.below hb)
      clear hb
      go_wp2_with fail
      refine (shortAwake w3 HT3.out).mono ?_
      rintro e w4 ⟨rfl, hb⟩
      have HB4 := Aside0.mk (hb_then HB3.out hb)
      clear hb
      go_wp2
      go_ret
      exact ⟨rfl, HB4.out⟩
    · have CS := Aside0.mk (specDrive s c w (by omega))
      rw [saidDrive, if_neg ha] at CS
      clear ha hs
      go_enter Tryd.func6, Tryd.ntmps6
      go_wp2_with fail
      refine CS.out.mono ?_
      rintro e w1 ⟨rfl, rfl⟩
      go_wp2_with fail
      refine (CA.out w1 HT.out).mono ?_
      rintro e w3 ⟨rfl, hb⟩
      have HB3 := Aside0.mk hb
      have HT3 := Aside0.mk (HT.out.below hb)
      clear hb
      go_wp2_with fail
      refine (shortAwake w3 HT3.out).mono ?_
      rintro e w4 ⟨rfl, hb⟩
      have HB4 := Aside0.mk (hb_then HB3.out hb)
      clear hb
      go_wp2
      go_ret
      exact ⟨rfl, HB4.out⟩
end Go.Proofs.YtpkfdifoaijpnaaDoor.LawDrive
