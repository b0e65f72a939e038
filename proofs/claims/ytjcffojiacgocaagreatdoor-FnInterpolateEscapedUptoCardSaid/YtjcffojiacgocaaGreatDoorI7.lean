/- Parts of the proof, laid vq: QTemplateZzLetter, QTemplateZzName, QTemplateZzOperator, QTemplateZzLast, QTemplateZzAt, QTemplateGetFirstBraceClosingIndex, SubPure, PairKit, SubTo, MergePlain. -/
import Derived.Test.YtjcffojiacgocaaGreatDoorI3
import Derived.Test.YtjcffojiacgocaaGreatDoorI6
import Derived.Test.YtjcffojiacgocaaGreatDoorI1
import Derived.Test.YtjcffojiacgocaaGreatDoorI2
set_option linter.unusedVariables false
set_option linter.unusedSimpArgs false
namespace Go.Proofs.YtjcffojiacgocaaGreatDoor.PS
open Go.RowKit Go.Proofs.YtjcffojiacgocaaGreatDoorW.PrintWords Go.Proofs.YtjcffojiacgocaaGreatDoorW.PrintLast Go.Proofs.YtjcffojiacgocaaGreatDoorW.PrintMore
attribute [local go_sem] xf xd xk xj yt yr xe xc 
mutual
def template_zzLetter.j0 : Nat → ByteArray → Int → Int → Bool → Option (Int)
 | 0, _, _, _, _ => none
 | k + 1, x0, x1, x5, x30 => if x30 = true then (some 1) else (if (wrap64 (x1 + 1)) < (x0.size : Int) then (if x5 = 197 then (if 0 ≤ (wrap64 (x1 + 1)) then (template_zzLetter.j1 k x0 x1 x5 ((bt x0 (wrap64 (x1 + 1))) == 191)) else (none)) else (template_zzLetter.j1 k x0 x1 x5 false)) else (template_zzLetter.j1 k x0 x1 x5 false))
def template_zzLetter.j1 : Nat → ByteArray → Int → Int → Bool → Option (Int)
 | 0, _, _, _, _ => none
 | k + 1, x0, x1, x5, x46 => if x46 = true then (some 2) else (if (wrap64 (x1 + 2)) < (x0.size : Int) then (if x5 = 226 then (if 0 ≤ (wrap64 (x1 + 1)) then (if (wrap64 (x1 + 1)) < (x0.size : Int) then (if (bt x0 (wrap64 (x1 + 1))) = 132 then (if 0 ≤ (wrap64 (x1 + 2)) then (if (bt x0 (wrap64 (x1 + 2))) = 170 then (some 3) else (some 0)) else (none)) else (some 0)) else (none)) else (none)) else (some 0)) else (some 0))
end
def template_zzLetter.f (k : Nat) (a0 : ByteArray) (a1 : Int) : Option (Int) := if a1 ≥ (a0.size : Int) then (some 0) else (if 0 ≤ a1 then (if a1 < (a0.size : Int) then (if (bt a0 a1) = 95 then (template_zzLetter.j0 k a0 a1 (bt a0 a1) true) else (if (bt a0 a1) ≥ 97 then (if (bt a0 a1) ≤ 122 then (template_zzLetter.j0 k a0 a1 (bt a0 a1) true) else (if (bt a0 a1) ≥ 65 then (template_zzLetter.j0 k a0 a1 (bt a0 a1) (decide ((bt a0 a1) ≤ 90))) else (template_zzLetter.j0 k a0 a1 (bt a0 a1) false))) else (if (bt a0 a1) ≥ 65 then (template_zzLetter.j0 k a0 a1 (bt a0 a1) (decide ((bt a0 a1) ≤ 90))) else (template_zzLetter.j0 k a0 a1 (bt a0 a1) false)))) else (none)) else (none))
set_option maxHeartbeats 8000000 in
set_option maxRecDepth 100000 in
theorem template_zzLetter.calls (k : Nat) (a0 : ByteArray) (a1 : Int) (r : Int) (w : World) (h : template_zzLetter.f k a0 a1 = some r) :
  Calls Tryz.prog 185 #[.string a0, .int .i64 a1] w fun e w' => e = .returned (.int .i64 r) ∧ Drawn0 w w' := by
 have H : (if a1 ≥ (a0.size : Int) then (some 0) else (if 0 ≤ a1 then (if a1 < (a0.size : Int) then (if (bt a0 a1) = 95 then (template_zzLetter.j0 k a0 a1 (bt a0 a1) true) else (if (bt a0 a1) ≥ 97 then (if (bt a0 a1) ≤ 122 then (template_zzLetter.j0 k a0 a1 (bt a0 a1) true) else (if (bt a0 a1) ≥ 65 then (template_zzLetter.j0 k a0 a1 (bt a0 a1) (decide ((bt a0 a1) ≤ 90))) else (template_zzLetter.j0 k a0 a1 (bt a0 a1) false))) else (if (bt a0 a1) ≥ 65 then (template_zzLetter.j0 k a0 a1 (bt a0 a1) (decide ((bt a0 a1) ≤ 90))) else (template_zzLetter.j0 k a0 a1 (bt a0 a1) false)))) else (none)) else (none))) = some r := h; clear h
 by_cases c3 : a1 ≥ (a0.size : Int)
 ·rw [if_pos c3] at H; have c3b0 : decide ((a0.size : Int) ≤ a1) = true := decide_eq_true c3; clear c3; obtain rfl := Option.some.inj H
  go_enter Tryz.func185, Tryz.ntmps185
  go_wp2
  go_ret
  exact ⟨by first | rfl | (simp; done) | (simp [*]; done), by repeat (first | exact Drawn0.refl _ | apply Drawn0.step)⟩
 ·rw [if_neg c3] at H; have c3b0 : decide ((a0.size : Int) ≤ a1) = false := decide_eq_false c3; clear c3
  by_cases c4 : 0 ≤ a1
  ·rw [if_pos c4] at H; have c4b0 : decide (0 ≤ a1) = true := decide_eq_true c4; clear c4
   by_cases c5 : a1 < (a0.size : Int)
   ·rw [if_pos c5] at H; have c5b0 : decide (a1 < (a0.size : Int)) = true := decide_eq_true c5; clear c5; have HC7 := aM H; clear H; have p6 : 0 ≤ (a1 : Int) := of_decide_eq_true (by first | (with_reducible assumption) | assumption); have q6 : a1 < (a0.size : Int) := of_decide_eq_true (by first | (with_reducible assumption) | assumption); have hx6 := yw a0 a1; replace p6 := eq_true p6; replace q6 := eq_true q6
    go_enter Tryz.func185, Tryz.ntmps185
    go_upto_region 4 with (fail)
    go_cut [30] (fun v30 wc => ∃ (kq : Nat) (x30_6 : Bool), v30 = .bool x30_6 ∧ Aside0 (template_zzLetter.j0 kq a0 a1 (bt a0 a1) x30_6 = some r) ∧ Aside0 (kq ≤ k) ∧ Drawn0 w wc)
    case first =>
     have H := HC7.out; clear HC7
     by_cases c8 : (bt a0 a1) = 95
     ·rw [if_pos c8] at H; have c8b0 : ((bt a0 a1) == 95) = true := beq_iff_eq.mpr c8; have c8b1 : ((bt a0 a1) != 95) = false := bne_eq_false_iff_eq.mpr c8; clear c8
      (first | rw [c8b0] | (simp only [zo, zt]; rw [c8b0]) | skip)
      have H' := aM H; clear H
      go_wp2
      go_meet
      case rel => exact ⟨_, (true), (by first | rfl | (simp; done) | (simp [*]; done)), H', ⟨by first | omega | exact Nat.le_refl _⟩, by repeat (first | exact Drawn0.refl _ | apply Drawn0.step)⟩
     ·rw [if_neg c8] at H; have c8b0 : ((bt a0 a1) == 95) = false := beq_eq_false_iff_ne.mpr c8; have c8b1 : ((bt a0 a1) != 95) = true := bne_iff_ne.mpr c8
      (first | rw [c8b0] | (simp only [zo, zt]; rw [c8b0]) | skip)
      by_cases c9 : (bt a0 a1) ≥ 97
      ·rw [if_pos c9] at H; have c9b0 : decide (97 ≤ (bt a0 a1)) = true := decide_eq_true c9; clear c9
       by_cases c10 : (bt a0 a1) ≤ 122
       ·rw [if_pos c10] at H; have c10b0 : decide ((bt a0 a1) ≤ 122) = true := decide_eq_true c10; clear c10; have H' := aM H; clear H
        go_wp2
        go_meet
        case rel => exact ⟨_, (true), (by first | rfl | (simp; done) | (simp [*]; done)), H', ⟨by first | omega | exact Nat.le_refl _⟩, by repeat (first | exact Drawn0.refl _ | apply Drawn0.step)⟩
       ·rw [if_neg c10] at H; have c10b0 : decide ((bt a0 a1) ≤ 122) = false := decide_eq_false c10; clear c10
        by_cases c11 : (bt a0 a1) ≥ 65
        ·rw [if_pos c11] at H; have c11b0 : decide (65 ≤ (bt a0 a1)) = true := decide_eq_true c11; clear c11; have H' := aM H; clear H
         go_wp2
         go_meet
         case rel => exact ⟨_, (decide ((bt a0 a1) ≤ 90)), (by first | rfl | (simp; done) | (simp [*]; done)), H', ⟨by first | omega | exact Nat.le_refl _⟩, by repeat (first | exact Drawn0.refl _ | apply Drawn0.step)⟩
        ·rw [if_neg c11] at H; have c11b0 : decide (65 ≤ (bt a0 a1)) = false := decide_eq_false c11; clear c11; have H' := aM H; clear H
         go_wp2
         go_meet
         case rel => exact ⟨_, (false), (by first | rfl | (simp; done) | (simp [*]; done)), H', ⟨by first | omega | exact Nat.le_refl _⟩, by repeat (first | exact Drawn0.refl _ | apply Drawn0.step)⟩
      ·rw [if_neg c9] at H; have c9b0 : decide (97 ≤ (bt a0 a1)) = false := decide_eq_false c9; clear c9
       by_cases c12 : (bt a0 a1) ≥ 65
       ·rw [if_pos c12] at H; have c12b0 : decide (65 ≤ (bt a0 a1)) = true := decide_eq_true c12; clear c12; have H' := aM H; clear H
        go_wp2
        go_meet
        case rel => exact ⟨_, (decide ((bt a0 a1) ≤ 90)), (by first | rfl | (simp; done) | (simp [*]; done)), H', ⟨by first | omega | exact Nat.le_refl _⟩, by repeat (first | exact Drawn0.refl _ | apply Drawn0.step)⟩
       ·rw [if_neg c12] at H; have c12b0 : decide (65 ≤ (bt a0 a1)) = false := decide_eq_false c12; clear c12; have H' := aM H; clear H
        go_wp2
        go_meet
        case rel => exact ⟨_, (false), (by first | rfl | (simp; done) | (simp [*]; done)), H', ⟨by first | omega | exact Nat.le_refl _⟩, by repeat (first | exact Drawn0.refl _ | apply Drawn0.step)⟩
    case rest =>
     clear HC7
     try clear c1
     try clear p2
     try clear c3
     try clear c3b0
     try clear c4
     try clear c4b0
     try clear c5
     try clear c5b0
     try clear p6
     try clear q6
     try clear hx6
     try clear c8
     try clear c8b0
     try clear c8b1
     try clear c9
     try clear c9b0
     try clear c10
     try clear c10b0
     try clear c11
     try clear c11b0
     try clear c12
     try clear c12b0
     try clear p6
     try clear q6
     obtain ⟨kq, x30_6, rfl, HA, HJ6, ⟨mc6, rfl⟩⟩ := hcut
     cases kq with
     | zero => exact absurd HA.out (by simp [template_zzLetter.j0])
     | succ kj6 =>
      have H := HA.out; clear HA; simp only [template_zzLetter.j0] at H
      by_cases c13 : x30_6 = true
      ·subst c13
       have H1 : (some 1) = some r := by rw [if_pos rfl] at H; exact H
       clear H; have H := H1; clear H1; obtain rfl := Option.some.inj H
       go_wp2
       go_ret
       exact ⟨by first | rfl | (simp; done) | (simp [*]; done), by repeat (first | exact Drawn0.refl _ | apply Drawn0.step)⟩
      ·replace c13 := Bool.eq_false_iff.mpr c13; subst c13
       have H1 : (if (wrap64 (a1 + 1)) < (a0.size : Int) then (if (bt a0 a1) = 197 then (if 0 ≤ (wrap64 (a1 + 1)) then (template_zzLetter.j1 kj6 a0 a1 (bt a0 a1) ((bt a0 (wrap64 (a1 + 1))) == 191)) else (none)) else (template_zzLetter.j1 kj6 a0 a1 (bt a0 a1) false)) else (template_zzLetter.j1 kj6 a0 a1 (bt a0 a1) false)) = some r := by rw [if_neg (show ¬ (false = true) by decide)] at H; exact H
       clear H; have H := H1; clear H1; have HC14 := aM H; clear H
       go_upto_region 6 with (fail)
       go_cut [46] (fun v46 wc => ∃ (kq : Nat) (x46_13 : Bool), v46 = .bool x46_13 ∧ Aside0 (template_zzLetter.j1 kq a0 a1 (bt a0 a1) x46_13 = some r) ∧ Aside0 (kq ≤ kj6) ∧ Drawn0 w wc)
       case first =>
        have H := HC14.out; clear HC14
        by_cases c15 : (wrap64 (a1 + 1)) < (a0.size : Int)
        ·rw [if_pos c15] at H; have c15b0 : decide ((wrap64 (a1 + 1)) < (a0.size : Int)) = true := decide_eq_true c15; clear c15
         (first | rw [c15b0] | (simp only [zo, zt]; rw [c15b0]) | skip)
         by_cases c16 : (bt a0 a1) = 197
         ·rw [if_pos c16] at H; have c16b0 : ((bt a0 a1) == 197) = true := beq_iff_eq.mpr c16; have c16b1 : ((bt a0 a1) != 197) = false := bne_eq_false_iff_eq.mpr c16; clear c16
          obtain ⟨ji17, hji17⟩ : ∃ j_ : Int, (wrap64 (a1 + 1)) = j_ := ⟨_, rfl⟩
          replace H : (if 0 ≤ (ji17) then (template_zzLetter.j1 kj6 a0 a1 (bt a0 a1) ((bt a0 (ji17)) == 191)) else (none)) = some r := by first | (rw [hji17] at H; exact H) | (simp only [hji17] at H ⊢; exact H)
          (try rw [hji17] at c15b0)
          have hji17w : (IntKind.i64.wrap (a1 + 1)) = ji17 := (zo _).trans hji17
          by_cases c18 : 0 ≤ (ji17)
          ·rw [if_pos c18] at H; have c18b0 : decide (0 ≤ (ji17)) = true := decide_eq_true c18; clear c18; have H' := aM H; clear H; have p19 : 0 ≤ ((ji17) : Int) := of_decide_eq_true (by first | (with_reducible assumption) | assumption); have q19 : (ji17) < (a0.size : Int) := of_decide_eq_true (by first | (with_reducible assumption) | assumption); have hx19 := yw a0 (ji17); replace p19 := eq_true p19; replace q19 := eq_true q19
           go_wp2
           go_meet
           case rel => exact ⟨_, (((bt a0 (ji17)) == 191)), (by first | rfl | (simp; done) | (simp only [← hji17] <;> (first | rfl | simp)) | (simp [*]; done)), H', ⟨by have := HJ6.out; first | omega | exact Nat.le_refl _⟩, by repeat (first | exact Drawn0.refl _ | apply Drawn0.step)⟩
          ·rw [if_neg c18] at H; exact absurd H (by simp)
         ·rw [if_neg c16] at H; have c16b0 : ((bt a0 a1) == 197) = false := beq_eq_false_iff_ne.mpr c16; have c16b1 : ((bt a0 a1) != 197) = true := bne_iff_ne.mpr c16; have H' := aM H; clear H
          go_wp2
          go_meet
          case rel => exact ⟨_, (false), (by first | rfl | (simp; done) | (simp [*]; done)), H', ⟨by have := HJ6.out; first | omega | exact Nat.le_refl _⟩, by repeat (first | exact Drawn0.refl _ | apply Drawn0.step)⟩
        ·rw [if_neg c15] at H; have c15b0 : decide ((wrap64 (a1 + 1)) < (a0.size : Int)) = false := decide_eq_false c15; clear c15
         (first | rw [c15b0] | (simp only [zo, zt]; rw [c15b0]) | skip)
         have H' := aM H; clear H
         go_wp2
         go_meet
         case rel => exact ⟨_, (false), (by first | rfl | (simp; done) | (simp [*]; done)), H', ⟨by have := HJ6.out; first | omega | exact Nat.le_refl _⟩, by repeat (first | exact Drawn0.refl _ | apply Drawn0.step)⟩
       case rest =>
        clear HC14
        try clear c1
        try clear p1
        try clear q1
        try clear hx1
        try clear p2
        try clear c3
        try clear c3b0
        try clear c4
        try clear c4b0
        try clear c5
        try clear c5b0
        try clear c6
        try clear p6
        try clear q6
        try clear hx6
        try clear c8
        try clear c8b0
        try clear c8b1
        try clear c9
        try clear c9b0
        try clear c10
        try clear c10b0
        try clear c11
        try clear c11b0
        try clear c12
        try clear c12b0
        try clear c13
        try clear c15
        try clear c15b0
        try clear c16
        try clear c16b0
        try clear c16b1
        try clear c18
        try clear c18b0
        try clear p19
        try clear q19
        try clear hx19
        try clear p19
        try clear p2
        try clear p6
        try clear q19
        try clear q6
        obtain ⟨kq, x46_13, rfl, HA, HJ13, ⟨mc13, rfl⟩⟩ := hcut
        cases kq with
        | zero => exact absurd HA.out (by simp [template_zzLetter.j1])
        | succ kj13 =>
         have H := HA.out; clear HA; simp only [template_zzLetter.j1] at H
         by_cases c20 : x46_13 = true
         ·subst c20
          have H1 : (some 2) = some r := by rw [if_pos rfl] at H; exact H
          clear H; have H := H1; clear H1; obtain rfl := Option.some.inj H
          go_wp2
          go_ret
          exact ⟨by first | rfl | (simp; done) | (simp [*]; done), by repeat (first | exact Drawn0.refl _ | apply Drawn0.step)⟩
         ·replace c20 := Bool.eq_false_iff.mpr c20; subst c20
          have H1 : (if (wrap64 (a1 + 2)) < (a0.size : Int) then (if (bt a0 a1) = 226 then (if 0 ≤ (wrap64 (a1 + 1)) then (if (wrap64 (a1 + 1)) < (a0.size : Int) then (if (bt a0 (wrap64 (a1 + 1))) = 132 then (if 0 ≤ (wrap64 (a1 + 2)) then (if (bt a0 (wrap64 (a1 + 2))) = 170 then (some 3) else (some 0)) else (none)) else (some 0)) else (none)) else (none)) else (some 0)) else (some 0)) = some r := by rw [if_neg (show ¬ (false = true) by decide)] at H; exact H
          clear H; have H := H1; clear H1
          by_cases c21 : (wrap64 (a1 + 2)) < (a0.size : Int)
          ·rw [if_pos c21] at H; have c21b0 : decide ((wrap64 (a1 + 2)) < (a0.size : Int)) = true := decide_eq_true c21; clear c21
           by_cases c22 : (bt a0 a1) = 226
           ·rw [if_pos c22] at H; have c22b0 : ((bt a0 a1) == 226) = true := beq_iff_eq.mpr c22; have c22b1 : ((bt a0 a1) != 226) = false := bne_eq_false_iff_eq.mpr c22; clear c22
            obtain ⟨ji23, hji23⟩ : ∃ j_ : Int, (wrap64 (a1 + 1)) = j_ := ⟨_, rfl⟩
            replace H : (if 0 ≤ (ji23) then (if (ji23) < (a0.size : Int) then (if (bt a0 (ji23)) = 132 then (if 0 ≤ (wrap64 (a1 + 2)) then (if (bt a0 (wrap64 (a1 + 2))) = 170 then (some 3) else (some 0)) else (none)) else (some 0)) else (none)) else (none)) = some r := by first | (rw [hji23] at H; exact H) | (simp only [hji23] at H ⊢; exact H)
            have hji23w : (IntKind.i64.wrap (a1 + 1)) = ji23 := (zo _).trans hji23
            by_cases c24 : 0 ≤ (ji23)
            ·rw [if_pos c24] at H; have c24b0 : decide (0 ≤ (ji23)) = true := decide_eq_true c24; clear c24
             by_cases c25 : (ji23) < (a0.size : Int)
             ·rw [if_pos c25] at H; have c25b0 : decide ((ji23) < (a0.size : Int)) = true := decide_eq_true c25; clear c25
              by_cases c27 : (bt a0 (ji23)) = 132
              ·rw [if_pos c27] at H; have c27b0 : ((bt a0 (ji23)) == 132) = true := beq_iff_eq.mpr c27; have c27b1 : ((bt a0 (ji23)) != 132) = false := bne_eq_false_iff_eq.mpr c27; clear c27
               obtain ⟨ji28, hji28⟩ : ∃ j_ : Int, (wrap64 (a1 + 2)) = j_ := ⟨_, rfl⟩
               replace H : (if 0 ≤ (ji28) then (if (bt a0 (ji28)) = 170 then (some 3) else (some 0)) else (none)) = some r := by first | (rw [hji28] at H; exact H) | (simp only [hji28] at H ⊢; exact H)
               (try rw [hji28] at c21b0)
               have hji28w : (IntKind.i64.wrap (a1 + 2)) = ji28 := (zo _).trans hji28
               by_cases c29 : 0 ≤ (ji28)
               ·rw [if_pos c29] at H; have c29b0 : decide (0 ≤ (ji28)) = true := decide_eq_true c29; clear c29
                by_cases c31 : (bt a0 (ji28)) = 170
                ·rw [if_pos c31] at H; have c31b0 : ((bt a0 (ji28)) == 170) = true := beq_iff_eq.mpr c31; have c31b1 : ((bt a0 (ji28)) != 170) = false := bne_eq_false_iff_eq.mpr c31; clear c31; obtain rfl := Option.some.inj H; have p26 : 0 ≤ ((ji23) : Int) := of_decide_eq_true (by first | (with_reducible assumption) | assumption); have q26 : (ji23) < (a0.size : Int) := of_decide_eq_true (by first | (with_reducible assumption) | assumption); have hx26 := yw a0 (ji23); replace p26 := eq_true p26; replace q26 := eq_true q26; have p30 : 0 ≤ ((ji28) : Int) := of_decide_eq_true (by first | (with_reducible assumption) | assumption); have q30 : (ji28) < (a0.size : Int) := of_decide_eq_true (by first | (with_reducible assumption) | assumption); have hx30 := yw a0 (ji28); replace p30 := eq_true p30; replace q30 := eq_true q30
                 go_wp2
                 go_ret
                 exact ⟨by first | rfl | (simp; done) | (simp only [← hji23, ← hji28] <;> (first | rfl | simp)) | (simp [*]; done), by repeat (first | exact Drawn0.refl _ | apply Drawn0.step)⟩
                ·rw [if_neg c31] at H; have c31b0 : ((bt a0 (ji28)) == 170) = false := beq_eq_false_iff_ne.mpr c31; have c31b1 : ((bt a0 (ji28)) != 170) = true := bne_iff_ne.mpr c31; obtain rfl := Option.some.inj H; have p26 : 0 ≤ ((ji23) : Int) := of_decide_eq_true (by first | (with_reducible assumption) | assumption); have q26 : (ji23) < (a0.size : Int) := of_decide_eq_true (by first | (with_reducible assumption) | assumption); have hx26 := yw a0 (ji23); replace p26 := eq_true p26; replace q26 := eq_true q26; have p30 : 0 ≤ ((ji28) : Int) := of_decide_eq_true (by first | (with_reducible assumption) | assumption); have q30 : (ji28) < (a0.size : Int) := of_decide_eq_true (by first | (with_reducible assumption) | assumption); have hx30 := yw a0 (ji28); replace p30 := eq_true p30; replace q30 := eq_true q30
                 go_wp2
                 go_ret
                 exact ⟨by first | rfl | (simp; done) | (simp only [← hji23, ← hji28] <;> (first | rfl | simp)) | (simp [*]; done), by repeat (first | exact Drawn0.refl _ | apply Drawn0.step)⟩
               ·rw [if_neg c29] at H; exact absurd H (by simp)
              ·rw [if_neg c27] at H; have c27b0 : ((bt a0 (ji23)) == 132) = false := beq_eq_false_iff_ne.mpr c27; have c27b1 : ((bt a0 (ji23)) != 132) = true := bne_iff_ne.mpr c27; obtain rfl := Option.some.inj H; have p26 : 0 ≤ ((ji23) : Int) := of_decide_eq_true (by first | (with_reducible assumption) | assumption); have q26 : (ji23) < (a0.size : Int) := of_decide_eq_true (by first | (with_reducible assumption) | assumption); have hx26 := yw a0 (ji23); replace p26 := eq_true p26; replace q26 := eq_true q26
               go_wp2
               go_ret
               exact ⟨by first | rfl | (simp; done) | (simp only [← hji23] <;> (first | rfl | simp)) | (simp [*]; done), by repeat (first | exact Drawn0.refl _ | apply Drawn0.step)⟩
             ·rw [if_neg c25] at H; exact absurd H (by simp)
            ·rw [if_neg c24] at H; exact absurd H (by simp)
           ·rw [if_neg c22] at H; have c22b0 : ((bt a0 a1) == 226) = false := beq_eq_false_iff_ne.mpr c22; have c22b1 : ((bt a0 a1) != 226) = true := bne_iff_ne.mpr c22; obtain rfl := Option.some.inj H
            go_wp2
            go_ret
            exact ⟨by first | rfl | (simp; done) | (simp [*]; done), by repeat (first | exact Drawn0.refl _ | apply Drawn0.step)⟩
          ·rw [if_neg c21] at H; have c21b0 : decide ((wrap64 (a1 + 2)) < (a0.size : Int)) = false := decide_eq_false c21; clear c21; obtain rfl := Option.some.inj H
           go_wp2
           go_ret
           exact ⟨by first | rfl | (simp; done) | (simp [*]; done), by repeat (first | exact Drawn0.refl _ | apply Drawn0.step)⟩
   ·rw [if_neg c5] at H; exact absurd H (by simp)
  ·rw [if_neg c4] at H; exact absurd H (by simp)
attribute [local go_sem] xf xd xk xj yt yr xe xc 
mutual
def template_zzName.l0 : Nat → ByteArray → Int → Option (Int)
 | 0, _, _ => none
 | k + 1, x0, x1 => if x1 < (x0.size : Int) then ((template_zzLetter.f k x0 x1).bind fun t261 => (if t261 = 0 then (if 0 ≤ x1 then (if (bt x0 x1) ≥ 48 then (template_zzName.j1 k x0 x1 t261 (decide ((bt x0 x1) ≤ 57))) else (template_zzName.j1 k x0 x1 t261 false)) else (none)) else (template_zzName.j1 k x0 x1 t261 false))) else (some x1)
def template_zzName.j1 : Nat → ByteArray → Int → Int → Bool → Option (Int)
 | 0, _, _, _, _ => none
 | k + 1, x0, x1, x5, x38 => if x38 = true then (if 1 = 0 then (some x1) else (template_zzName.l0 k x0 (wrap64 (x1 + 1)))) else (if x5 = 0 then (some x1) else (template_zzName.l0 k x0 (wrap64 (x1 + x5))))
end
def template_zzName.f (k : Nat) (a0 : ByteArray) (a1 : Int) : Option (Int) := (template_zzLetter.f k a0 a1).bind fun t260 => (if t260 = 0 then (some a1) else (template_zzName.l0 k a0 (wrap64 (a1 + t260))))
set_option maxHeartbeats 8000000 in
set_option maxRecDepth 100000 in
theorem template_zzName.calls (k : Nat) (a0 : ByteArray) (a1 : Int) (r : Int) (w : World) (h : template_zzName.f k a0 a1 = some r) :
  Calls Tryz.prog 177 #[.string a0, .int .i64 a1] w fun e w' => e = .returned (.int .i64 r) ∧ Drawn0 w w' := by
 have H : ((template_zzLetter.f k a0 a1).bind fun t260 => (if t260 = 0 then (some a1) else (template_zzName.l0 k a0 (wrap64 (a1 + t260))))) = some r := h; clear h; replace H := Option.bind_eq_some_iff.mp H; obtain ⟨t260, A30, H⟩ := H; replace H : (if t260 = 0 then (some a1) else (template_zzName.l0 k a0 (wrap64 (a1 + t260)))) = some r := H; have A3 := aM A30; clear A30
 by_cases c4 : t260 = 0
 ·rw [if_pos c4] at H; have c4b0 : (t260 == 0) = true := beq_iff_eq.mpr c4; have c4b1 : (t260 != 0) = false := bne_eq_false_iff_eq.mpr c4; clear c4; obtain rfl := Option.some.inj H
  go_enter Tryz.func177, Tryz.ntmps177
  go_wp2_with (first | ((with_reducible refine yu (f := 185) rfl ?_); refine vl (some 8) rfl rfl Tryz.func185 (by kernel_rfl) rfl #[.string a0, .int .i64 a1] rfl (by (try simp only [List.map_toArray, List.map_cons, List.map_nil]); first | done | rfl | (simp only [List.length_drop, List.length_take]; rfl)) ?_; (with_reducible refine (template_zzLetter.calls k a0 a1 t260 _ A3.out).mono ?_); rintro e w' ⟨rfl, ⟨nd, rfl⟩⟩; refine ⟨_, rfl, ?_⟩))
  go_ret
  exact ⟨by first | rfl | (simp; done) | (simp [*]; done), by repeat (first | exact Drawn0.refl _ | apply Drawn0.step)⟩
 ·rw [if_neg c4] at H; have c4b0 : (t260 == 0) = false := beq_eq_false_iff_ne.mpr c4; have c4b1 : (t260 != 0) = true := bne_iff_ne.mpr c4; have H' := aM H; clear H
  go_enter Tryz.func177, Tryz.ntmps177
  go_wp2_with (first | ((with_reducible refine yu (f := 185) rfl ?_); refine vl (some 8) rfl rfl Tryz.func185 (by kernel_rfl) rfl #[.string a0, .int .i64 a1] rfl (by (try simp only [List.map_toArray, List.map_cons, List.map_nil]); first | done | rfl | (simp only [List.length_drop, List.length_take]; rfl)) ?_; (with_reducible refine (template_zzLetter.calls k a0 a1 t260 _ A3.out).mono ?_); rintro e w' ⟨rfl, ⟨nd, rfl⟩⟩; refine ⟨_, rfl, ?_⟩))
  go_loopg [1] k (fun kq v1 w' => ∃ (x1_1 : Int), v1 = .int .i64 x1_1 ∧ Aside0 (template_zzName.l0 kq a0 x1_1 = some r) ∧ Aside0 (kq ≤ k) ∧ Drawn0 w w')
  case atStart => exact ⟨(wrap64 (a1 + t260)), (by first | rfl | (simp; done) | (simp [*]; done)), H', ⟨Nat.le_refl _⟩, by repeat (first | exact Drawn0.refl _ | apply Drawn0.step)⟩
  case round =>
   clear H'
   try clear c1
   try clear p2
   try clear c4
   try clear c4b0
   try clear c4b1
   obtain ⟨x1_1, rfl, HA, HK1, ⟨m1, rfl⟩⟩ := hrel
   cases gk with
   | zero => exact absurd HA.out (by simp [template_zzName.l0])
   | succ k1 =>
    have H := HA.out; clear HA; simp only [template_zzName.l0] at H
    by_cases c5 : x1_1 < (a0.size : Int)
    ·rw [if_pos c5] at H; have c5b0 : decide (x1_1 < (a0.size : Int)) = true := decide_eq_true c5; clear c5; replace H := Option.bind_eq_some_iff.mp H; obtain ⟨t261, A60, H⟩ := H; replace H : (if t261 = 0 then (if 0 ≤ x1_1 then (if (bt a0 x1_1) ≥ 48 then (template_zzName.j1 k1 a0 x1_1 t261 (decide ((bt a0 x1_1) ≤ 57))) else (template_zzName.j1 k1 a0 x1_1 t261 false)) else (none)) else (template_zzName.j1 k1 a0 x1_1 t261 false)) = some r := H; have A6 := aM A60; clear A60; have HC7 := aM H; clear H
     go_upto_region 8 with (first | ((with_reducible refine yu (f := 185) rfl ?_); refine vl (some 24) rfl rfl Tryz.func185 (by kernel_rfl) rfl #[.string a0, .int .i64 x1_1] rfl (by (try simp only [List.map_toArray, List.map_cons, List.map_nil]); first | done | rfl | (simp only [List.length_drop, List.length_take]; rfl)) ?_; (with_reducible refine (template_zzLetter.calls k1 a0 x1_1 t261 _ A6.out).mono ?_); rintro e w' ⟨rfl, ⟨nd, rfl⟩⟩; refine ⟨_, rfl, ?_⟩))
     (try simp only [Act.put, List.setIfInBounds_toArray, List.set_cons_zero, List.set_cons_succ])
     go_cut [38] (fun v38 wc => ∃ (kq : Nat) (x38_6 : Bool), v38 = .bool x38_6 ∧ Aside0 (template_zzName.j1 kq a0 x1_1 t261 x38_6 = some r) ∧ Aside0 (kq ≤ k1) ∧ Drawn0 w wc)
     case first =>
      have H := HC7.out; clear HC7
      by_cases c8 : t261 = 0
      ·rw [if_pos c8] at H; have c8b0 : (t261 == 0) = true := beq_iff_eq.mpr c8; have c8b1 : (t261 != 0) = false := bne_eq_false_iff_eq.mpr c8; clear c8
       (first | rw [c8b0] | (simp only [zo, zt]; rw [c8b0]) | skip)
       by_cases c9 : 0 ≤ x1_1
       ·rw [if_pos c9] at H; have c9b0 : decide (0 ≤ x1_1) = true := decide_eq_true c9; clear c9
        by_cases c11 : (bt a0 x1_1) ≥ 48
        ·rw [if_pos c11] at H; have c11b0 : decide (48 ≤ (bt a0 x1_1)) = true := decide_eq_true c11; clear c11; have H' := aM H; clear H; have p10 : 0 ≤ (x1_1 : Int) := of_decide_eq_true (by first | (with_reducible assumption) | assumption); have q10 : x1_1 < (a0.size : Int) := of_decide_eq_true (by first | (with_reducible assumption) | assumption); have hx10 := yw a0 x1_1; replace p10 := eq_true p10; replace q10 := eq_true q10; have p12 : 0 ≤ (x1_1 : Int) := of_decide_eq_true (by first | (with_reducible assumption) | assumption); have q12 : x1_1 < (a0.size : Int) := of_decide_eq_true (by first | (with_reducible assumption) | assumption); have hx12 := yw a0 x1_1; replace p12 := eq_true p12; replace q12 := eq_true q12
         go_wp2
         go_meet
         case rel => exact ⟨_, (decide ((bt a0 x1_1) ≤ 57)), (by first | rfl | (simp; done) | (simp [*]; done)), H', ⟨by have := HK1.out; first | omega | exact Nat.le_refl _⟩, by repeat (first | exact Drawn0.refl _ | apply Drawn0.step)⟩
        ·rw [if_neg c11] at H; have c11b0 : decide (48 ≤ (bt a0 x1_1)) = false := decide_eq_false c11; clear c11; have H' := aM H; clear H; have p10 : 0 ≤ (x1_1 : Int) := of_decide_eq_true (by first | (with_reducible assumption) | assumption); have q10 : x1_1 < (a0.size : Int) := of_decide_eq_true (by first | (with_reducible assumption) | assumption); have hx10 := yw a0 x1_1; replace p10 := eq_true p10; replace q10 := eq_true q10
         go_wp2
         go_meet
         case rel => exact ⟨_, (false), (by first | rfl | (simp; done) | (simp [*]; done)), H', ⟨by have := HK1.out; first | omega | exact Nat.le_refl _⟩, by repeat (first | exact Drawn0.refl _ | apply Drawn0.step)⟩
       ·rw [if_neg c9] at H; exact absurd H (by simp)
      ·rw [if_neg c8] at H; have c8b0 : (t261 == 0) = false := beq_eq_false_iff_ne.mpr c8; have c8b1 : (t261 != 0) = true := bne_iff_ne.mpr c8
       (first | rw [c8b0] | (simp only [zo, zt]; rw [c8b0]) | skip)
       have H' := aM H; clear H
       go_wp2
       go_meet
       case rel => exact ⟨_, (false), (by first | rfl | (simp; done) | (simp [*]; done)), H', ⟨by have := HK1.out; first | omega | exact Nat.le_refl _⟩, by repeat (first | exact Drawn0.refl _ | apply Drawn0.step)⟩
     case rest =>
      clear HC7
      try clear c1
      try clear p1
      try clear q1
      try clear hx1
      try clear p2
      try clear c4
      try clear c4b0
      try clear c4b1
      try clear c5
      try clear c5b0
      try clear p6
      try clear c8
      try clear c8b0
      try clear c8b1
      try clear c9
      try clear c9b0
      try clear p10
      try clear q10
      try clear hx10
      try clear c11
      try clear c11b0
      try clear p12
      try clear q12
      try clear hx12
      try clear p10
      try clear p12
      try clear p2
      try clear q10
      try clear q12
      obtain ⟨kq, x38_6, rfl, HA, HJ6, ⟨mc6, rfl⟩⟩ := hcut
      cases kq with
      | zero => exact absurd HA.out (by simp [template_zzName.j1])
      | succ kj6 =>
       have H := HA.out; clear HA; simp only [template_zzName.j1] at H
       by_cases c13 : x38_6 = true
       ·subst c13
        have H1 : (if 1 = 0 then (some x1_1) else (template_zzName.l0 kj6 a0 (wrap64 (x1_1 + 1)))) = some r := by rw [if_pos rfl] at H; exact H
        clear H; have H := H1; clear H1
        by_cases c14 : 1 = 0
        ·exact absurd c14 (by decide)
        ·rw [if_neg c14] at H; have c14b0 : (1 == 0) = false := beq_eq_false_iff_ne.mpr c14; have c14b1 : (1 != 0) = true := bne_iff_ne.mpr c14; have H' := aM H; clear H
         go_wp2
         go_roundg kj6
         case measure => have := HK1.out; have := HJ6.out; omega
         case rel => exact ⟨(wrap64 (x1_1 + 1)), (by first | rfl | (simp; done) | (simp [*]; done)), H', ⟨by have := HK1.out; have := HJ6.out; omega⟩, by repeat (first | exact Drawn0.refl _ | apply Drawn0.step)⟩
       ·replace c13 := Bool.eq_false_iff.mpr c13; subst c13
        have H1 : (if t261 = 0 then (some x1_1) else (template_zzName.l0 kj6 a0 (wrap64 (x1_1 + t261)))) = some r := by rw [if_neg (show ¬ (false = true) by decide)] at H; exact H
        clear H; have H := H1; clear H1
        by_cases c15 : t261 = 0
        ·rw [if_pos c15] at H; have c15b0 : (t261 == 0) = true := beq_iff_eq.mpr c15; have c15b1 : (t261 != 0) = false := bne_eq_false_iff_eq.mpr c15; clear c15; obtain rfl := Option.some.inj H
         go_wp2
         go_ret
         exact ⟨by first | rfl | (simp; done) | (simp [*]; done), by repeat (first | exact Drawn0.refl _ | apply Drawn0.step)⟩
        ·rw [if_neg c15] at H; have c15b0 : (t261 == 0) = false := beq_eq_false_iff_ne.mpr c15; have c15b1 : (t261 != 0) = true := bne_iff_ne.mpr c15; have H' := aM H; clear H
         go_wp2
         go_roundg kj6
         case measure => have := HK1.out; have := HJ6.out; omega
         case rel => exact ⟨(wrap64 (x1_1 + t261)), (by first | rfl | (simp; done) | (simp [*]; done)), H', ⟨by have := HK1.out; have := HJ6.out; omega⟩, by repeat (first | exact Drawn0.refl _ | apply Drawn0.step)⟩
    ·rw [if_neg c5] at H; have c5b0 : decide (x1_1 < (a0.size : Int)) = false := decide_eq_false c5; clear c5; obtain rfl := Option.some.inj H
     go_wp2
     go_ret
     exact ⟨by first | rfl | (simp; done) | (simp [*]; done), by repeat (first | exact Drawn0.refl _ | apply Drawn0.step)⟩
attribute [local go_sem] xf xd xk xj yt yr xe xc 
def template_zzOperator.j0 : Nat → ByteArray → Int → Bool → Option (Int)
 | 0, _, _, _ => none
 | k + 1, x0, x1, x14 => if x14 = true then (if (wrap64 (x1 + 1)) < (x0.size : Int) then (if 0 ≤ (wrap64 (x1 + 1)) then (if (bt x0 (wrap64 (x1 + 1))) = 45 then (some (wrap64 ((wrap64 (x1 + 1)) + 1))) else (if (bt x0 (wrap64 (x1 + 1))) = 43 then (some (wrap64 ((wrap64 (x1 + 1)) + 1))) else (if (bt x0 (wrap64 (x1 + 1))) = 63 then (some (wrap64 ((wrap64 (x1 + 1)) + 1))) else (some 0)))) else (none)) else (some 0)) else (if x1 < (x0.size : Int) then (if 0 ≤ x1 then (if (bt x0 x1) = 45 then (some (wrap64 (x1 + 1))) else (if (bt x0 x1) = 43 then (some (wrap64 (x1 + 1))) else (if (bt x0 x1) = 63 then (some (wrap64 (x1 + 1))) else (some 0)))) else (none)) else (some 0))
def template_zzOperator.f (k : Nat) (a0 : ByteArray) (a1 : Int) : Option (Int) := if a1 < (a0.size : Int) then (if 0 ≤ a1 then (template_zzOperator.j0 k a0 a1 ((bt a0 a1) == 58)) else (none)) else (template_zzOperator.j0 k a0 a1 false)
set_option maxHeartbeats 8000000 in
set_option maxRecDepth 100000 in
theorem template_zzOperator.calls (k : Nat) (a0 : ByteArray) (a1 : Int) (r : Int) (w : World) (h : template_zzOperator.f k a0 a1 = some r) :
  Calls Tryz.prog 178 #[.string a0, .int .i64 a1] w fun e w' => e = .returned (.int .i64 r) ∧ Drawn0 w w' := by
 have H : (if a1 < (a0.size : Int) then (if 0 ≤ a1 then (template_zzOperator.j0 k a0 a1 ((bt a0 a1) == 58)) else (none)) else (template_zzOperator.j0 k a0 a1 false)) = some r := h; clear h; have HC3 := aM H; clear H
 go_enter Tryz.func178, Tryz.ntmps178
 go_upto_region 1 with (fail)
 go_cut [14] (fun v14 wc => ∃ (kq : Nat) (x14_2 : Bool), v14 = .bool x14_2 ∧ Aside0 (template_zzOperator.j0 kq a0 a1 x14_2 = some r) ∧ Aside0 (kq ≤ k) ∧ Drawn0 w wc)
 case first =>
  have H := HC3.out; clear HC3
  by_cases c4 : a1 < (a0.size : Int)
  ·rw [if_pos c4] at H; have c4b0 : decide (a1 < (a0.size : Int)) = true := decide_eq_true c4; clear c4
   (first | rw [c4b0] | (simp only [zo, zt]; rw [c4b0]) | skip)
   by_cases c5 : 0 ≤ a1
   ·rw [if_pos c5] at H; have c5b0 : decide (0 ≤ a1) = true := decide_eq_true c5; clear c5; have H' := aM H; clear H; have p6 : 0 ≤ (a1 : Int) := of_decide_eq_true (by first | (with_reducible assumption) | assumption); have q6 : a1 < (a0.size : Int) := of_decide_eq_true (by first | (with_reducible assumption) | assumption); have hx6 := yw a0 a1; replace p6 := eq_true p6; replace q6 := eq_true q6
    go_wp2
    go_meet
    case rel => exact ⟨_, (((bt a0 a1) == 58)), (by first | rfl | (simp; done) | (simp [*]; done)), H', ⟨by first | omega | exact Nat.le_refl _⟩, by repeat (first | exact Drawn0.refl _ | apply Drawn0.step)⟩
   ·rw [if_neg c5] at H; exact absurd H (by simp)
  ·rw [if_neg c4] at H; have c4b0 : decide (a1 < (a0.size : Int)) = false := decide_eq_false c4; clear c4
   (first | rw [c4b0] | (simp only [zo, zt]; rw [c4b0]) | skip)
   have H' := aM H; clear H
   go_wp2
   go_meet
   case rel => exact ⟨_, (false), (by first | rfl | (simp; done) | (simp [*]; done)), H', ⟨by first | omega | exact Nat.le_refl _⟩, by repeat (first | exact Drawn0.refl _ | apply Drawn0.step)⟩
 case rest =>
  clear HC3
  try clear c1
  try clear p2
  try clear c4
  try clear c4b0
  try clear c5
  try clear c5b0
  try clear p6
  try clear q6
  try clear hx6
  try clear p6
  try clear q6
  obtain ⟨kq, x14_2, rfl, HA, HJ2, ⟨mc2, rfl⟩⟩ := hcut
  cases kq with
  | zero => exact absurd HA.out (by simp [template_zzOperator.j0])
  | succ kj2 =>
   have H := HA.out; clear HA; simp only [template_zzOperator.j0] at H
   by_cases c7 : x14_2 = true
   ·subst c7
    have H1 : (if (wrap64 (a1 + 1)) < (a0.size : Int) then (if 0 ≤ (wrap64 (a1 + 1)) then (if (bt a0 (wrap64 (a1 + 1))) = 45 then (some (wrap64 ((wrap64 (a1 + 1)) + 1))) else (if (bt a0 (wrap64 (a1 + 1))) = 43 then (some (wrap64 ((wrap64 (a1 + 1)) + 1))) else (if (bt a0 (wrap64 (a1 + 1))) = 63 then (some (wrap64 ((wrap64 (a1 + 1)) + 1))) else (some 0)))) else (none)) else (some 0)) = some r := by rw [if_pos rfl] at H; exact H
    clear H; have H := H1; clear H1
    by_cases c8 : (wrap64 (a1 + 1)) < (a0.size : Int)
    ·rw [if_pos c8] at H; have c8b0 : decide ((wrap64 (a1 + 1)) < (a0.size : Int)) = true := decide_eq_true c8; clear c8
     obtain ⟨ji9, hji9⟩ : ∃ j_ : Int, (wrap64 (a1 + 1)) = j_ := ⟨_, rfl⟩
     replace H : (if 0 ≤ (ji9) then (if (bt a0 (ji9)) = 45 then (some (wrap64 ((ji9) + 1))) else (if (bt a0 (ji9)) = 43 then (some (wrap64 ((ji9) + 1))) else (if (bt a0 (ji9)) = 63 then (some (wrap64 ((ji9) + 1))) else (some 0)))) else (none)) = some r := by first | (rw [hji9] at H; exact H) | (simp only [hji9] at H ⊢; exact H)
     (try rw [hji9] at c8b0)
     have hji9w : (IntKind.i64.wrap (a1 + 1)) = ji9 := (zo _).trans hji9
     by_cases c10 : 0 ≤ (ji9)
     ·rw [if_pos c10] at H; have c10b0 : decide (0 ≤ (ji9)) = true := decide_eq_true c10; clear c10
      by_cases c12 : (bt a0 (ji9)) = 45
      ·rw [if_pos c12] at H; have c12b0 : ((bt a0 (ji9)) == 45) = true := beq_iff_eq.mpr c12; have c12b1 : ((bt a0 (ji9)) != 45) = false := bne_eq_false_iff_eq.mpr c12; clear c12; obtain rfl := Option.some.inj H; have p11 : 0 ≤ ((ji9) : Int) := of_decide_eq_true (by first | (with_reducible assumption) | assumption); have q11 : (ji9) < (a0.size : Int) := of_decide_eq_true (by first | (with_reducible assumption) | assumption); have hx11 := yw a0 (ji9); replace p11 := eq_true p11; replace q11 := eq_true q11
       go_wp2
       go_ret
       exact ⟨by first | rfl | (simp; done) | (simp only [← hji9] <;> (first | rfl | simp)) | (simp [*]; done), by repeat (first | exact Drawn0.refl _ | apply Drawn0.step)⟩
      ·rw [if_neg c12] at H; have c12b0 : ((bt a0 (ji9)) == 45) = false := beq_eq_false_iff_ne.mpr c12; have c12b1 : ((bt a0 (ji9)) != 45) = true := bne_iff_ne.mpr c12
       by_cases c14 : (bt a0 (ji9)) = 43
       ·rw [if_pos c14] at H; have c14b0 : ((bt a0 (ji9)) == 43) = true := beq_iff_eq.mpr c14; have c14b1 : ((bt a0 (ji9)) != 43) = false := bne_eq_false_iff_eq.mpr c14; clear c14; obtain rfl := Option.some.inj H; have p11 : 0 ≤ ((ji9) : Int) := of_decide_eq_true (by first | (with_reducible assumption) | assumption); have q11 : (ji9) < (a0.size : Int) := of_decide_eq_true (by first | (with_reducible assumption) | assumption); have hx11 := yw a0 (ji9); replace p11 := eq_true p11; replace q11 := eq_true q11; have p13 : 0 ≤ ((ji9) : Int) := of_decide_eq_true (by first | (with_reducible assumption) | assumption); have q13 : (ji9) < (a0.size : Int) := of_decide_eq_true (by first | (with_reducible assumption) | assumption); have hx13 := yw a0 (ji9); replace p13 := eq_true p13; replace q13 := eq_true q13
        go_wp2
        go_ret
        exact ⟨by first | rfl | (simp; done) | (simp only [← hji9] <;> (first | rfl | simp)) | (simp [*]; done), by repeat (first | exact Drawn0.refl _ | apply Drawn0.step)⟩
       ·rw [if_neg c14] at H; have c14b0 : ((bt a0 (ji9)) == 43) = false := beq_eq_false_iff_ne.mpr c14; have c14b1 : ((bt a0 (ji9)) != 43) = true := bne_iff_ne.mpr c14
        by_cases c16 : (bt a0 (ji9)) = 63
        ·rw [if_pos c16] at H; have c16b0 : ((bt a0 (ji9)) == 63) = true := beq_iff_eq.mpr c16; have c16b1 : ((bt a0 (ji9)) != 63) = false := bne_eq_false_iff_eq.mpr c16; clear c16; obtain rfl := Option.some.inj H; have p11 : 0 ≤ ((ji9) : Int) := of_decide_eq_true (by first | (with_reducible assumption) | assumption); have q11 : (ji9) < (a0.size : Int) := of_decide_eq_true (by first | (with_reducible assumption) | assumption); have hx11 := yw a0 (ji9); replace p11 := eq_true p11; replace q11 := eq_true q11; have p13 : 0 ≤ ((ji9) : Int) := of_decide_eq_true (by first | (with_reducible assumption) | assumption); have q13 : (ji9) < (a0.size : Int) := of_decide_eq_true (by first | (with_reducible assumption) | assumption); have hx13 := yw a0 (ji9); replace p13 := eq_true p13; replace q13 := eq_true q13; have p15 : 0 ≤ ((ji9) : Int) := of_decide_eq_true (by first | (with_reducible assumption) | assumption); have q15 : (ji9) < (a0.size : Int) := of_decide_eq_true (by first | (with_reducible assumption) | assumption); have hx15 := yw a0 (ji9); replace p15 := eq_true p15; replace q15 := eq_true q15
         go_wp2
         go_ret
         exact ⟨by first | rfl | (simp; done) | (simp only [← hji9] <;> (first | rfl | simp)) | (simp [*]; done), by repeat (first | exact Drawn0.refl _ | apply Drawn0.step)⟩
        ·rw [if_neg c16] at H; have c16b0 : ((bt a0 (ji9)) == 63) = false := beq_eq_false_iff_ne.mpr c16; have c16b1 : ((bt a0 (ji9)) != 63) = true := bne_iff_ne.mpr c16; obtain rfl := Option.some.inj H; have p11 : 0 ≤ ((ji9) : Int) := of_decide_eq_true (by first | (with_reducible assumption) | assumption); have q11 : (ji9) < (a0.size : Int) := of_decide_eq_true (by first | (with_reducible assumption) | assumption); have hx11 := yw a0 (ji9); replace p11 := eq_true p11; replace q11 := eq_true q11; have p13 : 0 ≤ ((ji9) : Int) := of_decide_eq_true (by first | (with_reducible assumption) | assumption); have q13 : (ji9) < (a0.size : Int) := of_decide_eq_true (by first | (with_reducible assumption) | assumption); have hx13 := yw a0 (ji9); replace p13 := eq_true p13; replace q13 := eq_true q13; have p15 : 0 ≤ ((ji9) : Int) := of_decide_eq_true (by first | (with_reducible assumption) | assumption); have q15 : (ji9) < (a0.size : Int) := of_decide_eq_true (by first | (with_reducible assumption) | assumption); have hx15 := yw a0 (ji9); replace p15 := eq_true p15; replace q15 := eq_true q15
         go_wp2
         go_ret
         exact ⟨by first | rfl | (simp; done) | (simp only [← hji9] <;> (first | rfl | simp)) | (simp [*]; done), by repeat (first | exact Drawn0.refl _ | apply Drawn0.step)⟩
     ·rw [if_neg c10] at H; exact absurd H (by simp)
    ·rw [if_neg c8] at H; have c8b0 : decide ((wrap64 (a1 + 1)) < (a0.size : Int)) = false := decide_eq_false c8; clear c8; obtain rfl := Option.some.inj H
     go_wp2
     go_ret
     exact ⟨by first | rfl | (simp; done) | (simp [*]; done), by repeat (first | exact Drawn0.refl _ | apply Drawn0.step)⟩
   ·replace c7 := Bool.eq_false_iff.mpr c7; subst c7
    have H1 : (if a1 < (a0.size : Int) then (if 0 ≤ a1 then (if (bt a0 a1) = 45 then (some (wrap64 (a1 + 1))) else (if (bt a0 a1) = 43 then (some (wrap64 (a1 + 1))) else (if (bt a0 a1) = 63 then (some (wrap64 (a1 + 1))) else (some 0)))) else (none)) else (some 0)) = some r := by rw [if_neg (show ¬ (false = true) by decide)] at H; exact H
    clear H; have H := H1; clear H1
    by_cases c17 : a1 < (a0.size : Int)
    ·rw [if_pos c17] at H; have c17b0 : decide (a1 < (a0.size : Int)) = true := decide_eq_true c17; clear c17
     by_cases c18 : 0 ≤ a1
     ·rw [if_pos c18] at H; have c18b0 : decide (0 ≤ a1) = true := decide_eq_true c18; clear c18
      by_cases c20 : (bt a0 a1) = 45
      ·rw [if_pos c20] at H; have c20b0 : ((bt a0 a1) == 45) = true := beq_iff_eq.mpr c20; have c20b1 : ((bt a0 a1) != 45) = false := bne_eq_false_iff_eq.mpr c20; clear c20; obtain rfl := Option.some.inj H; have p19 : 0 ≤ (a1 : Int) := of_decide_eq_true (by first | (with_reducible assumption) | assumption); have q19 : a1 < (a0.size : Int) := of_decide_eq_true (by first | (with_reducible assumption) | assumption); have hx19 := yw a0 a1; replace p19 := eq_true p19; replace q19 := eq_true q19
       go_wp2
       go_ret
       exact ⟨by first | rfl | (simp; done) | (simp [*]; done), by repeat (first | exact Drawn0.refl _ | apply Drawn0.step)⟩
      ·rw [if_neg c20] at H; have c20b0 : ((bt a0 a1) == 45) = false := beq_eq_false_iff_ne.mpr c20; have c20b1 : ((bt a0 a1) != 45) = true := bne_iff_ne.mpr c20
       by_cases c22 : (bt a0 a1) = 43
       ·rw [if_pos c22] at H; have c22b0 : ((bt a0 a1) == 43) = true := beq_iff_eq.mpr c22; have c22b1 : ((bt a0 a1) != 43) = false := bne_eq_false_iff_eq.mpr c22; clear c22; obtain rfl := Option.some.inj H; have p19 : 0 ≤ (a1 : Int) := of_decide_eq_true (by first | (with_reducible assumption) | assumption); have q19 : a1 < (a0.size : Int) := of_decide_eq_true (by first | (with_reducible assumption) | assumption); have hx19 := yw a0 a1; replace p19 := eq_true p19; replace q19 := eq_true q19; have p21 : 0 ≤ (a1 : Int) := of_decide_eq_true (by first | (with_reducible assumption) | assumption); have q21 : a1 < (a0.size : Int) := of_decide_eq_true (by first | (with_reducible assumption) | assumption); have hx21 := yw a0 a1; replace p21 := eq_true p21; replace q21 := eq_true q21
        go_wp2
        go_ret
        exact ⟨by first | rfl | (simp; done) | (simp [*]; done), by repeat (first | exact Drawn0.refl _ | apply Drawn0.step)⟩
       ·rw [if_neg c22] at H; have c22b0 : ((bt a0 a1) == 43) = false := beq_eq_false_iff_ne.mpr c22; have c22b1 : ((bt a0 a1) != 43) = true := bne_iff_ne.mpr c22
        by_cases c24 : (bt a0 a1) = 63
        ·rw [if_pos c24] at H; have c24b0 : ((bt a0 a1) == 63) = true := beq_iff_eq.mpr c24; have c24b1 : ((bt a0 a1) != 63) = false := bne_eq_false_iff_eq.mpr c24; clear c24; obtain rfl := Option.some.inj H; have p19 : 0 ≤ (a1 : Int) := of_decide_eq_true (by first | (with_reducible assumption) | assumption); have q19 : a1 < (a0.size : Int) := of_decide_eq_true (by first | (with_reducible assumption) | assumption); have hx19 := yw a0 a1; replace p19 := eq_true p19; replace q19 := eq_true q19; have p21 : 0 ≤ (a1 : Int) := of_decide_eq_true (by first | (with_reducible assumption) | assumption); have q21 : a1 < (a0.size : Int) := of_decide_eq_true (by first | (with_reducible assumption) | assumption); have hx21 := yw a0 a1; replace p21 := eq_true p21; replace q21 := eq_true q21; have p23 : 0 ≤ (a1 : Int) := of_decide_eq_true (by first | (with_reducible assumption) | assumption); have q23 : a1 < (a0.size : Int) := of_decide_eq_true (by first | (with_reducible assumption) | assumption); have hx23 := yw a0 a1; replace p23 := eq_true p23; replace q23 := eq_true q23
         go_wp2
         go_ret
         exact ⟨by first | rfl | (simp; done) | (simp [*]; done), by repeat (first | exact Drawn0.refl _ | apply Drawn0.step)⟩
        ·rw [if_neg c24] at H; have c24b0 : ((bt a0 a1) == 63) = false := beq_eq_false_iff_ne.mpr c24; have c24b1 : ((bt a0 a1) != 63) = true := bne_iff_ne.mpr c24; obtain rfl := Option.some.inj H; have p19 : 0 ≤ (a1 : Int) := of_decide_eq_true (by first | (with_reducible assumption) | assumption); have q19 : a1 < (a0.size : Int) := of_decide_eq_true (by first | (with_reducible assumption) | assumption); have hx19 := yw a0 a1; replace p19 := eq_true p19; replace q19 := eq_true q19; have p21 : 0 ≤ (a1 : Int) := of_decide_eq_true (by first | (with_reducible assumption) | assumption); have q21 : a1 < (a0.size : Int) := of_decide_eq_true (by first | (with_reducible assumption) | assumption); have hx21 := yw a0 a1; replace p21 := eq_true p21; replace q21 := eq_true q21; have p23 : 0 ≤ (a1 : Int) := of_decide_eq_true (by first | (with_reducible assumption) | assumption); have q23 : a1 < (a0.size : Int) := of_decide_eq_true (by first | (with_reducible assumption) | assumption); have hx23 := yw a0 a1; replace p23 := eq_true p23; replace q23 := eq_true q23
         go_wp2
         go_ret
         exact ⟨by first | rfl | (simp; done) | (simp [*]; done), by repeat (first | exact Drawn0.refl _ | apply Drawn0.step)⟩
     ·rw [if_neg c18] at H; exact absurd H (by simp)
    ·rw [if_neg c17] at H; have c17b0 : decide (a1 < (a0.size : Int)) = false := decide_eq_false c17; clear c17; obtain rfl := Option.some.inj H
     go_wp2
     go_ret
     exact ⟨by first | rfl | (simp; done) | (simp [*]; done), by repeat (first | exact Drawn0.refl _ | apply Drawn0.step)⟩
attribute [local go_sem] xf xd xk xj yt yr xe xc 
mutual
def template_zzLast.l0 : Nat → ByteArray → Int → Int → Option (Int)
 | 0, _, _, _ => none
 | k + 1, x0, x1, x5 => if x1 < (x0.size : Int) then (if 0 ≤ x1 then (template_zzLast.j1 k x0 x1 x5 ((bt x0 x1) != 10)) else (none)) else (template_zzLast.j1 k x0 x1 x5 false)
def template_zzLast.j1 : Nat → ByteArray → Int → Int → Bool → Option (Int)
 | 0, _, _, _, _ => none
 | k + 1, x0, x1, x5, x15 => if x15 = true then (if 0 ≤ x1 then (if x1 < (x0.size : Int) then (if (bt x0 x1) = 125 then (template_zzLast.l0 k x0 (wrap64 (x1 + 1)) x1) else (template_zzLast.l0 k x0 (wrap64 (x1 + 1)) x5)) else (none)) else (none)) else (some x5)
end
def template_zzLast.f (k : Nat) (a0 : ByteArray) (a1 : Int) : Option (Int) := template_zzLast.l0 k a0 a1 (-1)
set_option maxHeartbeats 8000000 in
set_option maxRecDepth 100000 in
theorem template_zzLast.calls (k : Nat) (a0 : ByteArray) (a1 : Int) (r : Int) (w : World) (h : template_zzLast.f k a0 a1 = some r) :
  Calls Tryz.prog 179 #[.string a0, .int .i64 a1] w fun e w' => e = .returned (.int .i64 r) ∧ Drawn0 w w' := by
 have H : (template_zzLast.l0 k a0 a1 (-1)) = some r := h; clear h; have H' := aM H; clear H
 go_enter Tryz.func179, Tryz.ntmps179
 go_wp2
 go_loopg [1, 5] k (fun kq v1 v5 w' => ∃ (x1_1 : Int) (x5_1 : Int), v1 = .int .i64 x1_1 ∧ v5 = .int .i64 x5_1 ∧ Aside0 (template_zzLast.l0 kq a0 x1_1 x5_1 = some r) ∧ Aside0 (kq ≤ k) ∧ Drawn0 w w')
 case atStart => exact ⟨(a1), ((-1)), (by first | rfl | (simp; done) | (simp [*]; done)), (by first | rfl | (simp; done) | (simp [*]; done)), H', ⟨Nat.le_refl _⟩, by repeat (first | exact Drawn0.refl _ | apply Drawn0.step)⟩
 case round =>
  clear H'
  try clear c1
  try clear p2
  obtain ⟨x1_1, x5_1, rfl, rfl, HA, HK1, ⟨m1, rfl⟩⟩ := hrel
  cases gk with
  | zero => exact absurd HA.out (by simp [template_zzLast.l0])
  | succ k1 =>
   have H := HA.out; clear HA; simp only [template_zzLast.l0] at H; have HC3 := aM H; clear H
   go_upto_region 2 with (fail)
   go_cut [15] (fun v15 wc => ∃ (kq : Nat) (x15_2 : Bool), v15 = .bool x15_2 ∧ Aside0 (template_zzLast.j1 kq a0 x1_1 x5_1 x15_2 = some r) ∧ Aside0 (kq ≤ k1) ∧ Drawn0 w wc)
   case first =>
    have H := HC3.out; clear HC3
    by_cases c4 : x1_1 < (a0.size : Int)
    ·rw [if_pos c4] at H; have c4b0 : decide (x1_1 < (a0.size : Int)) = true := decide_eq_true c4; clear c4
     (first | rw [c4b0] | (simp only [zo, zt]; rw [c4b0]) | skip)
     by_cases c5 : 0 ≤ x1_1
     ·rw [if_pos c5] at H; have c5b0 : decide (0 ≤ x1_1) = true := decide_eq_true c5; clear c5; have H' := aM H; clear H; have p6 : 0 ≤ (x1_1 : Int) := of_decide_eq_true (by first | (with_reducible assumption) | assumption); have q6 : x1_1 < (a0.size : Int) := of_decide_eq_true (by first | (with_reducible assumption) | assumption); have hx6 := yw a0 x1_1; replace p6 := eq_true p6; replace q6 := eq_true q6
      go_wp2
      go_meet
      case rel => exact ⟨_, (((bt a0 x1_1) != 10)), (by first | rfl | (simp; done) | (simp [*]; done)), H', ⟨by have := HK1.out; first | omega | exact Nat.le_refl _⟩, by repeat (first | exact Drawn0.refl _ | apply Drawn0.step)⟩
     ·rw [if_neg c5] at H; exact absurd H (by simp)
    ·rw [if_neg c4] at H; have c4b0 : decide (x1_1 < (a0.size : Int)) = false := decide_eq_false c4; clear c4
     (first | rw [c4b0] | (simp only [zo, zt]; rw [c4b0]) | skip)
     have H' := aM H; clear H
     go_wp2
     go_meet
     case rel => exact ⟨_, (false), (by first | rfl | (simp; done) | (simp [*]; done)), H', ⟨by have := HK1.out; first | omega | exact Nat.le_refl _⟩, by repeat (first | exact Drawn0.refl _ | apply Drawn0.step)⟩
   case rest =>
    clear HC3
    try clear c1
    try clear p2
    try clear c4
    try clear c4b0
    try clear c5
    try clear c5b0
    try clear p6
    try clear q6
    try clear hx6
    try clear p2
    try clear p6
    try clear q6
    obtain ⟨kq, x15_2, rfl, HA, HJ2, ⟨mc2, rfl⟩⟩ := hcut
    cases kq with
    | zero => exact absurd HA.out (by simp [template_zzLast.j1])
    | succ kj2 =>
     have H := HA.out; clear HA; simp only [template_zzLast.j1] at H
     by_cases c7 : x15_2 = true
     ·subst c7
      have H1 : (if 0 ≤ x1_1 then (if x1_1 < (a0.size : Int) then (if (bt a0 x1_1) = 125 then (template_zzLast.l0 kj2 a0 (wrap64 (x1_1 + 1)) x1_1) else (template_zzLast.l0 kj2 a0 (wrap64 (x1_1 + 1)) x5_1)) else (none)) else (none)) = some r := by rw [if_pos rfl] at H; exact H
      clear H; have H := H1; clear H1
      by_cases c8 : 0 ≤ x1_1
      ·rw [if_pos c8] at H; have c8b0 : decide (0 ≤ x1_1) = true := decide_eq_true c8; clear c8
       by_cases c9 : x1_1 < (a0.size : Int)
       ·rw [if_pos c9] at H; have c9b0 : decide (x1_1 < (a0.size : Int)) = true := decide_eq_true c9; clear c9
        by_cases c11 : (bt a0 x1_1) = 125
        ·rw [if_pos c11] at H; have c11b0 : ((bt a0 x1_1) == 125) = true := beq_iff_eq.mpr c11; have c11b1 : ((bt a0 x1_1) != 125) = false := bne_eq_false_iff_eq.mpr c11; clear c11; have H' := aM H; clear H; have p10 : 0 ≤ (x1_1 : Int) := of_decide_eq_true (by first | (with_reducible assumption) | assumption); have q10 : x1_1 < (a0.size : Int) := of_decide_eq_true (by first | (with_reducible assumption) | assumption); have hx10 := yw a0 x1_1; replace p10 := eq_true p10; replace q10 := eq_true q10
         go_wp2
         go_roundg kj2
         case measure => have := HK1.out; have := HJ2.out; omega
         case rel => exact ⟨(wrap64 (x1_1 + 1)), (x1_1), (by first | rfl | (simp; done) | (simp [*]; done)), (by first | rfl | (simp; done) | (simp [*]; done)), H', ⟨by have := HK1.out; have := HJ2.out; omega⟩, by repeat (first | exact Drawn0.refl _ | apply Drawn0.step)⟩
        ·rw [if_neg c11] at H; have c11b0 : ((bt a0 x1_1) == 125) = false := beq_eq_false_iff_ne.mpr c11; have c11b1 : ((bt a0 x1_1) != 125) = true := bne_iff_ne.mpr c11; have H' := aM H; clear H; have p10 : 0 ≤ (x1_1 : Int) := of_decide_eq_true (by first | (with_reducible assumption) | assumption); have q10 : x1_1 < (a0.size : Int) := of_decide_eq_true (by first | (with_reducible assumption) | assumption); have hx10 := yw a0 x1_1; replace p10 := eq_true p10; replace q10 := eq_true q10
         go_wp2
         go_roundg kj2
         case measure => have := HK1.out; have := HJ2.out; omega
         case rel => exact ⟨(wrap64 (x1_1 + 1)), (x5_1), (by first | rfl | (simp; done) | (simp [*]; done)), (by first | rfl | (simp; done) | (simp [*]; done)), H', ⟨by have := HK1.out; have := HJ2.out; omega⟩, by repeat (first | exact Drawn0.refl _ | apply Drawn0.step)⟩
       ·rw [if_neg c9] at H; exact absurd H (by simp)
      ·rw [if_neg c8] at H; exact absurd H (by simp)
     ·replace c7 := Bool.eq_false_iff.mpr c7; subst c7
      have H1 : (some x5_1) = some r := by rw [if_neg (show ¬ (false = true) by decide)] at H; exact H
      clear H; have H := H1; clear H1; obtain rfl := Option.some.inj H
      go_wp2
      go_ret
      exact ⟨by first | rfl | (simp; done) | (simp [*]; done), by repeat (first | exact Drawn0.refl _ | apply Drawn0.step)⟩
attribute [local go_sem] xf xd xk xj yt yr xe xc 
mutual
def template_zzAt.j0 : Nat → ByteArray → Int → Bool → Option (List ByteArray × Int × Bool)
 | 0, _, _, _ => none
 | k + 1, x0, x1, x21 => if x21 = true then (some (([] : List ByteArray), 0, false)) else (if 0 ≤ (wrap64 (x1 + 1)) then (if (wrap64 (x1 + 1)) < (x0.size : Int) then (if (bt x0 (wrap64 (x1 + 1))) = 36 then (some ((([(⟨#[36, 36]⟩ : ByteArray), (⟨#[36]⟩ : ByteArray), (⟨#[]⟩ : ByteArray), (⟨#[]⟩ : ByteArray), (⟨#[]⟩ : ByteArray), (⟨#[]⟩ : ByteArray)] : List ByteArray)), wrap64 (x1 + 2), true)) else ((template_zzName.f k x0 (wrap64 (x1 + 1))).bind fun t265 => (if t265 > (wrap64 (x1 + 1)) then (if 0 ≤ x1 then (if x1 ≤ t265 then (if t265 ≤ (x0.size : Int) then (if (wrap64 (x1 + 1)) ≤ t265 then (some ((([x0.extract (x1 : Int).toNat (t265 : Int).toNat, (⟨#[]⟩ : ByteArray), x0.extract ((wrap64 (x1 + 1)) : Int).toNat (t265 : Int).toNat, (⟨#[]⟩ : ByteArray), (⟨#[]⟩ : ByteArray), (⟨#[]⟩ : ByteArray)] : List ByteArray)), t265, true)) else (none)) else (none)) else (none)) else (none)) else (if (bt x0 (wrap64 (x1 + 1))) = 123 then ((template_zzName.f k x0 (wrap64 (x1 + 2))).bind fun t269 => (if t269 > (wrap64 (x1 + 2)) then (if t269 < (x0.size : Int) then (if 0 ≤ t269 then (template_zzAt.j1 k x0 x1 t269 ((bt x0 t269) == 125)) else (none)) else (template_zzAt.j1 k x0 x1 t269 false)) else (template_zzAt.j1 k x0 x1 t269 false))) else (some (([] : List ByteArray), 0, false)))))) else (none)) else (none))
def template_zzAt.j1 : Nat → ByteArray → Int → Int → Bool → Option (List ByteArray × Int × Bool)
 | 0, _, _, _, _ => none
 | k + 1, x0, x1, x8, x73 => if x73 = true then (if 0 ≤ x1 then (if x1 ≤ (wrap64 (x8 + 1)) then (if (wrap64 (x8 + 1)) ≤ (x0.size : Int) then (if 0 ≤ (wrap64 (x1 + 2)) then (if (wrap64 (x1 + 2)) ≤ x8 then (if x8 ≤ (x0.size : Int) then (some ((([x0.extract (x1 : Int).toNat ((wrap64 (x8 + 1)) : Int).toNat, (⟨#[]⟩ : ByteArray), (⟨#[]⟩ : ByteArray), x0.extract ((wrap64 (x1 + 2)) : Int).toNat (x8 : Int).toNat, (⟨#[]⟩ : ByteArray), (⟨#[]⟩ : ByteArray)] : List ByteArray)), wrap64 (x8 + 1), true)) else (none)) else (none)) else (none)) else (none)) else (none)) else (none)) else ((template_zzOperator.f k x0 x8).bind fun t273 => (if x8 > (wrap64 (x1 + 2)) then (template_zzAt.j2 k x0 x1 t273 (decide (t273 > 0))) else (template_zzAt.j2 k x0 x1 t273 false)))
def template_zzAt.j2 : Nat → ByteArray → Int → Int → Bool → Option (List ByteArray × Int × Bool)
 | 0, _, _, _, _ => none
 | k + 1, x0, x1, x9, x97 => if x97 = true then ((template_zzLast.f k x0 x9).bind fun t274 => (if t274 ≥ 0 then (if 0 ≤ x1 then (if x1 ≤ (wrap64 (t274 + 1)) then (if (wrap64 (t274 + 1)) ≤ (x0.size : Int) then (if 0 ≤ (wrap64 (x1 + 2)) then (if (wrap64 (x1 + 2)) ≤ t274 then (if t274 ≤ (x0.size : Int) then (if 0 ≤ x9 then (if x9 ≤ t274 then (some ((([x0.extract (x1 : Int).toNat ((wrap64 (t274 + 1)) : Int).toNat, (⟨#[]⟩ : ByteArray), (⟨#[]⟩ : ByteArray), x0.extract ((wrap64 (x1 + 2)) : Int).toNat (t274 : Int).toNat, x0.extract (x9 : Int).toNat (t274 : Int).toNat, (⟨#[]⟩ : ByteArray)] : List ByteArray)), wrap64 (t274 + 1), true)) else (none)) else (none)) else (none)) else (none)) else (none)) else (none)) else (none)) else (none)) else (some ((([(⟨#[36, 123]⟩ : ByteArray), (⟨#[]⟩ : ByteArray), (⟨#[]⟩ : ByteArray), (⟨#[]⟩ : ByteArray), (⟨#[]⟩ : ByteArray), (⟨#[]⟩ : ByteArray)] : List ByteArray)), wrap64 (x1 + 2), true)))) else (some ((([(⟨#[36, 123]⟩ : ByteArray), (⟨#[]⟩ : ByteArray), (⟨#[]⟩ : ByteArray), (⟨#[]⟩ : ByteArray), (⟨#[]⟩ : ByteArray), (⟨#[]⟩ : ByteArray)] : List ByteArray)), wrap64 (x1 + 2), true))
end
def template_zzAt.f (k : Nat) (a0 : ByteArray) (a1 : Int) : Option (List ByteArray × Int × Bool) := if (wrap64 (a1 + 1)) ≥ (a0.size : Int) then (template_zzAt.j0 k a0 a1 true) else (if 0 ≤ a1 then (if a1 < (a0.size : Int) then (template_zzAt.j0 k a0 a1 ((bt a0 a1) != 36)) else (none)) else (none))
def template_zzAt.T7 : Bool × List (List Nat × List Nat) := (true, [([], []), ([], []), ([], []), ([0, 1, 2], [0, 1, 2]), ([], []), ([], []), ([5], [5]), ([], []), ([4, 6, 7], [4, 6, 7]), ([3, 8], [3, 8]), ([], []), ([9, 0, 1, 2, 3, 4, 5, 6, 7, 8, 9], [9]), ([10, 11, 0, 1, 2, 3, 4, 5, 6, 7, 8, 9, 10, 11], [10]), ([12, 0, 1, 2, 3, 4, 5, 6, 7, 8, 9, 10, 11, 12], [])])
def template_zzAt.B7 : List Nat := [0, 0, 0, 7, 0, 0, 32, 0, 240, 511, 0, 1023, 4095, 8191]
theorem template_zzAt.tab7 : rtab .any (opsOf Tryz.f160 7) = template_zzAt.T7 := by kernel_rfl
theorem template_zzAt.bits7 : waitsOk template_zzAt.T7.2 template_zzAt.B7 = true := by kernel_rfl
def template_zzAt.T12 : Bool × List (List Nat × List Nat) := (true, [([], []), ([], []), ([], []), ([2], [2]), ([0, 1, 3], [0, 1, 3]), ([], []), ([], []), ([6], [6]), ([], []), ([5, 7, 8], [5, 7, 8]), ([4, 9], [4, 9]), ([], []), ([11], [11]), ([10, 0, 1, 2, 3, 4, 5, 6, 7, 8, 9, 10], [10]), ([12, 13, 0, 1, 2, 3, 4, 5, 6, 7, 8, 9, 10, 11, 12, 13], [12]), ([14, 0, 1, 2, 3, 4, 5, 6, 7, 8, 9, 10, 11, 12, 13, 14], [])])
def template_zzAt.B12 : List Nat := [0, 0, 0, 4, 15, 0, 0, 64, 0, 480, 1023, 0, 2048, 2047, 16383, 32767]
theorem template_zzAt.tab12 : rtab .any (opsOf Tryz.f160 12) = template_zzAt.T12 := by kernel_rfl
theorem template_zzAt.bits12 : waitsOk template_zzAt.T12.2 template_zzAt.B12 = true := by kernel_rfl
def template_zzAt.T17 : Bool × List (List Nat × List Nat) := (true, [([], []), ([], []), ([], []), ([2], [2]), ([0, 1, 3], [0, 1, 3]), ([], []), ([], []), ([6], [6]), ([], []), ([5, 7, 8], [5, 7, 8]), ([], []), ([], []), ([], []), ([10, 11, 12], [10, 11, 12]), ([4, 9, 13], [4, 9, 13]), ([], []), ([15], [15]), ([14, 0, 1, 2, 3, 4, 5, 6, 7, 8, 9, 10, 11, 12, 13, 14], [14]), ([16, 17, 0, 1, 2, 3, 4, 5, 6, 7, 8, 9, 10, 11, 12, 13, 14, 15, 16, 17], [16]), ([18, 0, 1, 2, 3, 4, 5, 6, 7, 8, 9, 10, 11, 12, 13, 14, 15, 16, 17, 18], [])])
def template_zzAt.B17 : List Nat := [0, 0, 0, 4, 15, 0, 0, 64, 0, 480, 0, 0, 0, 7168, 16383, 0, 32768, 32767, 262143, 524287]
theorem template_zzAt.tab17 : rtab .any (opsOf Tryz.f160 17) = template_zzAt.T17 := by kernel_rfl
theorem template_zzAt.bits17 : waitsOk template_zzAt.T17.2 template_zzAt.B17 = true := by kernel_rfl
set_option maxHeartbeats 8000000 in
set_option maxRecDepth 100000 in
theorem template_zzAt.calls (k : Nat) (a0 : ByteArray) (a1 : Int) (r1 : List ByteArray) (r2 : Int) (r3 : Bool) (w : World) (h : template_zzAt.f k a0 a1 = some (r1, r2, r3)) :
  Calls Tryz.prog 160 #[.string a0, .int .i64 a1] w fun e w' => ∃ v0_ : Value, e = .returned (.tuple #[v0_, .int .i64 r2, .bool r3]) ∧ Kd.R Kd.string 9 w' w.heap.size (fun _ => True) v0_ r1 ∧ Below w.heap.size w w' := by
 have HB := aM (Below.refl w.heap.size w); have H : (if (wrap64 (a1 + 1)) ≥ (a0.size : Int) then (template_zzAt.j0 k a0 a1 true) else (if 0 ≤ a1 then (if a1 < (a0.size : Int) then (template_zzAt.j0 k a0 a1 ((bt a0 a1) != 36)) else (none)) else (none))) = some (r1, r2, r3) := h; clear h; have HC3 := aM H; clear H
 go_enter Tryz.func160, Tryz.ntmps160
 go_upto_region 1 with (fail)
 go_cut [21] (fun v21 wc => ∃ (kq : Nat) (x21_2 : Bool), v21 = .bool x21_2 ∧ Aside0 (template_zzAt.j0 kq a0 a1 x21_2 = some (r1, r2, r3)) ∧ Aside0 (kq ≤ k) ∧ Aside0 (Below w.heap.size w wc))
 case first =>
  have H := HC3.out; clear HC3
  by_cases c4 : (wrap64 (a1 + 1)) ≥ (a0.size : Int)
  ·rw [if_pos c4] at H; have c4b0 : decide ((a0.size : Int) ≤ (wrap64 (a1 + 1))) = true := decide_eq_true c4; clear c4
   (first | rw [c4b0] | (simp only [zo, zt]; rw [c4b0]) | skip)
   have H' := aM H; clear H
   go_wp2
   go_meet
   case rel => exact ⟨_, (true), (by first | rfl | (simp; done) | (simp [*]; done)), H', ⟨by first | omega | exact Nat.le_refl _⟩, ⟨by repeat (first | (with_reducible first | exact HB.out | apply za | apply zc | apply zj) | exact HB.out)⟩⟩
  ·rw [if_neg c4] at H; have c4b0 : decide ((a0.size : Int) ≤ (wrap64 (a1 + 1))) = false := decide_eq_false c4; clear c4
   (first | rw [c4b0] | (simp only [zo, zt]; rw [c4b0]) | skip)
   by_cases c5 : 0 ≤ a1
   ·rw [if_pos c5] at H; have c5b0 : decide (0 ≤ a1) = true := decide_eq_true c5; clear c5
    by_cases c6 : a1 < (a0.size : Int)
    ·rw [if_pos c6] at H; have c6b0 : decide (a1 < (a0.size : Int)) = true := decide_eq_true c6; clear c6; have H' := aM H; clear H; have p7 : 0 ≤ (a1 : Int) := of_decide_eq_true (by first | (with_reducible assumption) | assumption); have q7 : a1 < (a0.size : Int) := of_decide_eq_true (by first | (with_reducible assumption) | assumption); have hx7 := yw a0 a1; replace p7 := eq_true p7; replace q7 := eq_true q7
     go_wp2
     go_meet
     case rel => exact ⟨_, (((bt a0 a1) != 36)), (by first | rfl | (simp; done) | (simp [*]; done)), H', ⟨by first | omega | exact Nat.le_refl _⟩, ⟨by repeat (first | (with_reducible first | exact HB.out | apply za | apply zc | apply zj) | exact HB.out)⟩⟩
    ·rw [if_neg c6] at H; exact absurd H (by simp)
   ·rw [if_neg c5] at H; exact absurd H (by simp)
 case rest =>
  clear HC3
  try clear c1
  try clear p2
  try clear c4
  try clear c4b0
  try clear c5
  try clear c5b0
  try clear c6
  try clear c6b0
  try clear p6
  try clear p7
  try clear q7
  try clear hx7
  try clear p7
  try clear q7
  obtain ⟨kq, x21_2, rfl, HA, HJ2, HB⟩ := hcut
  cases kq with
  | zero => exact absurd HA.out (by simp [template_zzAt.j0])
  | succ kj2 =>
   have H := HA.out; clear HA; simp only [template_zzAt.j0] at H
   by_cases c8 : x21_2 = true
   ·subst c8
    have H1 : (some (([] : List ByteArray), 0, false)) = some (r1, r2, r3) := by rw [if_pos rfl] at H; exact H
    clear H; have H := H1; clear H1; simp only [Option.some.injEq, Prod.mk.injEq] at H; obtain ⟨rfl, rfl, rfl⟩ := H
    go_wp2
    go_ret3
    exact ⟨_, by first | rfl | (simp [zv, zu] <;> rfl) | (simp [*, zv, zu] <;> rfl), by first | exact Kd.R_nil _ _ _ _ _ | exact Kd.N_nil _ _ _ _ _ | exact Kd.V_nil _ _ _ _ _ | exact Kd.Q_nil _ _ _ _ _ | exact Kd.S_nil _ _ _ _ _, by repeat (first | (with_reducible first | exact HB.out | apply za | apply zc | apply zj) | exact HB.out)⟩
   ·replace c8 := Bool.eq_false_iff.mpr c8; subst c8
    have H1 : (if 0 ≤ (wrap64 (a1 + 1)) then (if (wrap64 (a1 + 1)) < (a0.size : Int) then (if (bt a0 (wrap64 (a1 + 1))) = 36 then (some ((([(⟨#[36, 36]⟩ : ByteArray), (⟨#[36]⟩ : ByteArray), (⟨#[]⟩ : ByteArray), (⟨#[]⟩ : ByteArray), (⟨#[]⟩ : ByteArray), (⟨#[]⟩ : ByteArray)] : List ByteArray)), wrap64 (a1 + 2), true)) else ((template_zzName.f kj2 a0 (wrap64 (a1 + 1))).bind fun t265 => (if t265 > (wrap64 (a1 + 1)) then (if 0 ≤ a1 then (if a1 ≤ t265 then (if t265 ≤ (a0.size : Int) then (if (wrap64 (a1 + 1)) ≤ t265 then (some ((([a0.extract (a1 : Int).toNat (t265 : Int).toNat, (⟨#[]⟩ : ByteArray), a0.extract ((wrap64 (a1 + 1)) : Int).toNat (t265 : Int).toNat, (⟨#[]⟩ : ByteArray), (⟨#[]⟩ : ByteArray), (⟨#[]⟩ : ByteArray)] : List ByteArray)), t265, true)) else (none)) else (none)) else (none)) else (none)) else (if (bt a0 (wrap64 (a1 + 1))) = 123 then ((template_zzName.f kj2 a0 (wrap64 (a1 + 2))).bind fun t269 => (if t269 > (wrap64 (a1 + 2)) then (if t269 < (a0.size : Int) then (if 0 ≤ t269 then (template_zzAt.j1 kj2 a0 a1 t269 ((bt a0 t269) == 125)) else (none)) else (template_zzAt.j1 kj2 a0 a1 t269 false)) else (template_zzAt.j1 kj2 a0 a1 t269 false))) else (some (([] : List ByteArray), 0, false)))))) else (none)) else (none)) = some (r1, r2, r3) := by rw [if_neg (show ¬ (false = true) by decide)] at H; exact H
    clear H; have H := H1; clear H1
    obtain ⟨ji9, hji9⟩ : ∃ j_ : Int, (wrap64 (a1 + 1)) = j_ := ⟨_, rfl⟩
    replace H : (if 0 ≤ (ji9) then (if (ji9) < (a0.size : Int) then (if (bt a0 (ji9)) = 36 then (some ((([(⟨#[36, 36]⟩ : ByteArray), (⟨#[36]⟩ : ByteArray), (⟨#[]⟩ : ByteArray), (⟨#[]⟩ : ByteArray), (⟨#[]⟩ : ByteArray), (⟨#[]⟩ : ByteArray)] : List ByteArray)), wrap64 (a1 + 2), true)) else ((template_zzName.f kj2 a0 (ji9)).bind fun t265 => (if t265 > (ji9) then (if 0 ≤ a1 then (if a1 ≤ t265 then (if t265 ≤ (a0.size : Int) then (if (ji9) ≤ t265 then (some ((([a0.extract (a1 : Int).toNat (t265 : Int).toNat, (⟨#[]⟩ : ByteArray), a0.extract ((ji9) : Int).toNat (t265 : Int).toNat, (⟨#[]⟩ : ByteArray), (⟨#[]⟩ : ByteArray), (⟨#[]⟩ : ByteArray)] : List ByteArray)), t265, true)) else (none)) else (none)) else (none)) else (none)) else (if (bt a0 (ji9)) = 123 then ((template_zzName.f kj2 a0 (wrap64 (a1 + 2))).bind fun t269 => (if t269 > (wrap64 (a1 + 2)) then (if t269 < (a0.size : Int) then (if 0 ≤ t269 then (template_zzAt.j1 kj2 a0 a1 t269 ((bt a0 t269) == 125)) else (none)) else (template_zzAt.j1 kj2 a0 a1 t269 false)) else (template_zzAt.j1 kj2 a0 a1 t269 false))) else (some (([] : List ByteArray), 0, false)))))) else (none)) else (none)) = some (r1, r2, r3) := by first | (rw [hji9] at H; exact H) | (simp only [hji9] at H ⊢; exact H)
    have hji9w : (IntKind.i64.wrap (a1 + 1)) = ji9 := (zo _).trans hji9
    by_cases c10 : 0 ≤ (ji9)
    ·rw [if_pos c10] at H; have c10b0 : decide (0 ≤ (ji9)) = true := decide_eq_true c10; clear c10
     by_cases c11 : (ji9) < (a0.size : Int)
     ·rw [if_pos c11] at H; have c11b0 : decide ((ji9) < (a0.size : Int)) = true := decide_eq_true c11; clear c11
      by_cases c13 : (bt a0 (ji9)) = 36
      ·rw [if_pos c13] at H; have c13b0 : ((bt a0 (ji9)) == 36) = true := beq_iff_eq.mpr c13; have c13b1 : ((bt a0 (ji9)) != 36) = false := bne_eq_false_iff_eq.mpr c13; clear c13
       obtain ⟨y262, hy262⟩ : ∃ y_ : List ByteArray, y_ = (([(⟨#[36, 36]⟩ : ByteArray), (⟨#[36]⟩ : ByteArray), (⟨#[]⟩ : ByteArray), (⟨#[]⟩ : ByteArray), (⟨#[]⟩ : ByteArray), (⟨#[]⟩ : ByteArray)] : List ByteArray)) := ⟨_, rfl⟩
       replace H : (some (y262, wrap64 (a1 + 2), true)) = some (r1, r2, r3) := by first | (rw [hy262]; with_reducible exact H) | (have H2_ := (Option.bind_some _ _).symm.trans H; rw [hy262]; with_reducible exact H2_) | (have H2_ := (Option.bind_some _ _).symm.trans H; with_reducible exact H2_) | with_reducible exact H | (rw [hy262]; exact H) | exact H
       have Ny262 := aM hy262; clear hy262; simp only [Option.some.injEq, Prod.mk.injEq] at H; obtain ⟨rfl, rfl, rfl⟩ := H; have p12 : 0 ≤ ((ji9) : Int) := of_decide_eq_true (by first | (with_reducible assumption) | assumption); have q12 : (ji9) < (a0.size : Int) := of_decide_eq_true (by first | (with_reducible assumption) | assumption); have hx12 := yw a0 (ji9); replace p12 := eq_true p12; replace q12 := eq_true q12
       go_wp2_with (first | ((with_reducible refine yn (N := 27) rfl ?_); (try (refine xa (by rfl) ?_; dsimp only)); refine Kd.R_lit Kd.string _ 9 ?hg (N := 27) ?hd (xs := ([(⟨#[36, 36]⟩ : ByteArray), (⟨#[36]⟩ : ByteArray), (⟨#[]⟩ : ByteArray), (⟨#[]⟩ : ByteArray), (⟨#[]⟩ : ByteArray), (⟨#[]⟩ : ByteArray)] : List ByteArray)) (inner := [.string (⟨#[36, 36]⟩ : ByteArray), .string (⟨#[36]⟩ : ByteArray), .string (⟨#[]⟩ : ByteArray), .string (⟨#[]⟩ : ByteArray), .string (⟨#[]⟩ : ByteArray), .string (⟨#[]⟩ : ByteArray)]) (ok := fun _ => True) (okp := fun _ => True) ?hr ?hp (fun _ hk => hk) trivial (Below.refl _ _) (Nat.le_refl _) (by simp) ?_; (case hd => rfl); (case hg => rfl); (case hr => first | (go_simp; done) | (go_simp; rfl)); (case hp => exact (Reps.one (show Kd.M Kd.string _ _ _ (⟨#[36, 36]⟩ : ByteArray) [.string (⟨#[36, 36]⟩ : ByteArray)] from rfl) (Reps.one (show Kd.M Kd.string _ _ _ (⟨#[36]⟩ : ByteArray) [.string (⟨#[36]⟩ : ByteArray)] from rfl) (Reps.one (show Kd.M Kd.string _ _ _ (⟨#[]⟩ : ByteArray) [.string (⟨#[]⟩ : ByteArray)] from rfl) (Reps.one (show Kd.M Kd.string _ _ _ (⟨#[]⟩ : ByteArray) [.string (⟨#[]⟩ : ByteArray)] from rfl) (Reps.one (show Kd.M Kd.string _ _ _ (⟨#[]⟩ : ByteArray) [.string (⟨#[]⟩ : ByteArray)] from rfl) (Reps.one (show Kd.M Kd.string _ _ _ (⟨#[]⟩ : ByteArray) [.string (⟨#[]⟩ : ByteArray)] from rfl) (Reps.none _ _)))))))); intro v263 w14 ho15 hb hg_ hnew_; clear hg_ hnew_; (first | rw [← Ny262.out] at ho15 | (simp only [Int.reduceToNat] at ho15; rw [← Ny262.out] at ho15)); have n0_ := aM (Kd.R_lower ho15 (zl (by repeat (first | (with_reducible first | exact HB.out | apply za | apply zc | apply zj) | exact HB.out)))); have n1_ := aM (zx (by repeat (first | (with_reducible first | exact HB.out | apply za | apply zc | apply zj) | exact HB.out)) hb); clear HB; have HO264 := n0_; have HB := n1_; clear n0_ n1_; clear hb ho15))
       go_ret3
       exact ⟨_, by first | rfl | (simp [zv, zu] <;> rfl) | (simp only [← hji9]; first | rfl | (simp [zv, zu] <;> rfl)) | (simp [*, zv, zu] <;> rfl), by (with_reducible repeat (first | apply Kd.R_alloc | apply Kd.R_drewN | apply Kd.R_drew)); exact HO264.out, by repeat (first | (with_reducible first | exact HB.out | apply za | apply zc | apply zj) | exact HB.out)⟩
      ·rw [if_neg c13] at H; have c13b0 : ((bt a0 (ji9)) == 36) = false := beq_eq_false_iff_ne.mpr c13; have c13b1 : ((bt a0 (ji9)) != 36) = true := bne_iff_ne.mpr c13; replace H := Option.bind_eq_some_iff.mp H; obtain ⟨t265, A160, H⟩ := H; replace H : (if t265 > (ji9) then (if 0 ≤ a1 then (if a1 ≤ t265 then (if t265 ≤ (a0.size : Int) then (if (ji9) ≤ t265 then (some ((([a0.extract (a1 : Int).toNat (t265 : Int).toNat, (⟨#[]⟩ : ByteArray), a0.extract ((ji9) : Int).toNat (t265 : Int).toNat, (⟨#[]⟩ : ByteArray), (⟨#[]⟩ : ByteArray), (⟨#[]⟩ : ByteArray)] : List ByteArray)), t265, true)) else (none)) else (none)) else (none)) else (none)) else (if (bt a0 (ji9)) = 123 then ((template_zzName.f kj2 a0 (wrap64 (a1 + 2))).bind fun t269 => (if t269 > (wrap64 (a1 + 2)) then (if t269 < (a0.size : Int) then (if 0 ≤ t269 then (template_zzAt.j1 kj2 a0 a1 t269 ((bt a0 t269) == 125)) else (none)) else (template_zzAt.j1 kj2 a0 a1 t269 false)) else (template_zzAt.j1 kj2 a0 a1 t269 false))) else (some (([] : List ByteArray), 0, false)))) = some (r1, r2, r3) := H; have A16 := aM A160; clear A160
       by_cases c17 : t265 > (ji9)
       ·rw [if_pos c17] at H; have c17b0 : decide ((ji9) < t265) = true := decide_eq_true c17; clear c17
        by_cases c18 : 0 ≤ a1
        ·rw [if_pos c18] at H; have c18b0 := eq_true c18; have c18b1 : decide (0 ≤ a1) = true := decide_eq_true c18; clear c18
         by_cases c19 : a1 ≤ t265
         ·rw [if_pos c19] at H; have c19b0 := eq_true c19; have c19b1 : decide (a1 ≤ t265) = true := decide_eq_true c19; clear c19
          by_cases c20 : t265 ≤ (a0.size : Int)
          ·rw [if_pos c20] at H; have c20b0 := eq_true c20; have c20b1 : decide (t265 ≤ (a0.size : Int)) = true := decide_eq_true c20; clear c20; have c21b0 := eq_true (of_decide_eq_true (by first | (with_reducible assumption) | assumption) : 0 ≤ (ji9))
           by_cases c22 : (ji9) ≤ t265
           ·rw [if_pos c22] at H; have c22b0 := eq_true c22; have c22b1 : decide ((ji9) ≤ t265) = true := decide_eq_true c22; clear c22; have c23b0 := eq_true (of_decide_eq_true (by first | (with_reducible assumption) | assumption) : t265 ≤ (a0.size : Int))
            obtain ⟨y266, hy266⟩ : ∃ y_ : List ByteArray, y_ = (([a0.extract (a1 : Int).toNat (t265 : Int).toNat, (⟨#[]⟩ : ByteArray), a0.extract ((ji9) : Int).toNat (t265 : Int).toNat, (⟨#[]⟩ : ByteArray), (⟨#[]⟩ : ByteArray), (⟨#[]⟩ : ByteArray)] : List ByteArray)) := ⟨_, rfl⟩
            replace H : (some (y266, t265, true)) = some (r1, r2, r3) := by first | (rw [hy266]; with_reducible exact H) | (have H2_ := (Option.bind_some _ _).symm.trans H; rw [hy266]; with_reducible exact H2_) | (have H2_ := (Option.bind_some _ _).symm.trans H; with_reducible exact H2_) | with_reducible exact H | (rw [hy266]; exact H) | exact H
            have Ny266 := aM hy266; clear hy266; simp only [Option.some.injEq, Prod.mk.injEq] at H; obtain ⟨rfl, rfl, rfl⟩ := H; have p12 : 0 ≤ ((ji9) : Int) := of_decide_eq_true (by first | (with_reducible assumption) | assumption); have q12 : (ji9) < (a0.size : Int) := of_decide_eq_true (by first | (with_reducible assumption) | assumption); have hx12 := yw a0 (ji9); replace p12 := eq_true p12; replace q12 := eq_true q12
            try go_wp2_with (first | ((with_reducible refine yu (f := 177) rfl ?_); refine vl (some 33) rfl rfl Tryz.func177 (by kernel_rfl) rfl #[.string a0, .int .i64 ji9] rfl (by (try simp only [List.map_toArray, List.map_cons, List.map_nil]); first | done | (simp only [hji9]; rfl) | rfl | (simp only [List.length_drop, List.length_take]; rfl)) ?_; (with_reducible refine (template_zzName.calls kj2 a0 ji9 t265 _ A16.out).mono ?_); rintro e w' ⟨rfl, ⟨nd, rfl⟩⟩; refine ⟨_, rfl, ?_⟩))
            (try (rw [drewN_self wc]; generalize hq_ : World.drewN wc _ = wc; have n0_ : Aside0 (Below w.heap.size w wc) := ⟨by rw [← hq_]; exact (by repeat (first | (with_reducible first | exact HB.out | apply za | apply zc | apply zj) | exact HB.out))⟩; clear HB hq_; have HB := n0_; clear n0_))
            have n0_ := aM (zj HB.out); clear HB; have HB := n0_; clear n0_; refine xb (n := 14) (S := fun w' => True) (ds := []) (bZ 14 0) (by kernel_rfl) rfl rfl trivial (fun hHeld => ?_); refine xr template_zzAt.tab7 template_zzAt.bits7 (fun HT_ HW_ => ?_); generalize wc.drew = w24 at HB hHeld ⊢; refine pU 0 (some 38) (bZ 14 1) rfl (zz HT_.out (by kernel_rfl)) ?_; refine pU 1 (some 39) (bZ 14 3) rfl (zz HT_.out (by kernel_rfl)) ?_; refine pU 2 (some 40) (bZ 14 7) rfl (zz HT_.out (by kernel_rfl)) ?_; refine pU 3 (some 41) (bZ 14 15) rfl (zz HT_.out (by kernel_rfl)) ?_; refine pU 4 (some 42) (bZ 14 31) rfl (zz HT_.out (by kernel_rfl)) ?_; refine pU 5 (some 43) (bZ 14 63) rfl (zz HT_.out (by kernel_rfl)) ?_; refine pU 6 (some 44) (bZ 14 127) rfl (zz HT_.out (by kernel_rfl)) ?_; refine pU 7 (some 45) (bZ 14 255) rfl (zz HT_.out (by kernel_rfl)) ?_; refine pU 8 (some 46) (bZ 14 511) rfl (zz HT_.out (by kernel_rfl)) ?_; refine pU 10 (some 48) (bZ 14 1535) rfl (zz HT_.out (by kernel_rfl)) ?_; refine one_ (i := 9) (N := some 47) (bZ 14 2047) rfl rfl (xi HT_.out (by kernel_rfl)) (by decide) (fun K hK => ?_); refine Kd.R_lit_step Kd.string _ 9 ?hg (N := 47) ?hd (xs := ([a0.extract (a1 : Int).toNat (t265 : Int).toNat, (⟨#[]⟩ : ByteArray), a0.extract ((ji9) : Int).toNat (t265 : Int).toNat, (⟨#[]⟩ : ByteArray), (⟨#[]⟩ : ByteArray), (⟨#[]⟩ : ByteArray)] : List ByteArray)) (inner := [.string (a0.extract (a1 : Int).toNat (t265 : Int).toNat), .string (⟨#[]⟩ : ByteArray), .string (a0.extract ((ji9) : Int).toNat (t265 : Int).toNat), .string (⟨#[]⟩ : ByteArray), .string (⟨#[]⟩ : ByteArray), .string (⟨#[]⟩ : ByteArray)]) (ok := fun _ => True) (okp := fun _ => True) ?hr ?hp (fun _ hk => hk) trivial (Below.refl _ _) (Nat.le_refl _) (by simp) ?_; (case hd => rfl); (case hg => rfl); (case hr => first | (go_simp; done) | (go_simp; rfl)); (case hp => exact (Reps.one (show Kd.M Kd.string _ _ _ (a0.extract (a1 : Int).toNat (t265 : Int).toNat) [.string (a0.extract (a1 : Int).toNat (t265 : Int).toNat)] from rfl) (Reps.one (show Kd.M Kd.string _ _ _ (⟨#[]⟩ : ByteArray) [.string (⟨#[]⟩ : ByteArray)] from rfl) (Reps.one (show Kd.M Kd.string _ _ _ (a0.extract ((ji9) : Int).toNat (t265 : Int).toNat) [.string (a0.extract ((ji9) : Int).toNat (t265 : Int).toNat)] from rfl) (Reps.one (show Kd.M Kd.string _ _ _ (⟨#[]⟩ : ByteArray) [.string (⟨#[]⟩ : ByteArray)] from rfl) (Reps.one (show Kd.M Kd.string _ _ _ (⟨#[]⟩ : ByteArray) [.string (⟨#[]⟩ : ByteArray)] from rfl) (Reps.one (show Kd.M Kd.string _ _ _ (⟨#[]⟩ : ByteArray) [.string (⟨#[]⟩ : ByteArray)] from rfl) (Reps.none _ _)))))))); intro v267 w25 ho26 hb hg_ hnew_; clear hg_ hnew_
            (first | rw [← Ny266.out] at ho26 | (simp only [Int.reduceToNat] at ho26; rw [← Ny266.out] at ho26))
            have n0_ := aM (Kd.R_lower ho26 (zl (by repeat (first | (with_reducible first | exact HB.out | apply za | apply zc | apply zj) | exact HB.out)))); have n1_ := aM (zx (by repeat (first | (with_reducible first | exact HB.out | apply za | apply zc | apply zj) | exact HB.out)) hb); clear HB; have HO268 := n0_; have HB := n1_; clear n0_ n1_ hb ho26; refine hK.out _ _ trivial (fun hHeld => ?_); clear hK K; refine zq (a' := ?_) ?_ ?_; rotate_left
            ·show Act.put _ (some 47) _ = _
             simp only [Act.put, sA, sB, sC, zo, zt]; rfl
            refine pU 11 (some 4) (bZ 14 4095) rfl (zz HT_.out (by kernel_rfl)) ?_; refine pU 12 (some 5) (bZ 14 8191) rfl (zz HT_.out (by kernel_rfl)) ?_; refine pU 13 (some 6) (bZ 14 16383) rfl (zz HT_.out (by kernel_rfl)) ?_; refine xl (vm HT_.out (by kernel_rfl)) ?_
            try go_wp2
            go_ret3
            exact ⟨_, by first | rfl | (simp [zv, zu] <;> rfl) | (simp only [← hji9]; first | rfl | (simp [zv, zu] <;> rfl)) | (simp [*, zv, zu] <;> rfl), by (with_reducible repeat (first | apply Kd.R_alloc | apply Kd.R_drewN | apply Kd.R_drew)); exact HO268.out, by repeat (first | (with_reducible first | exact HB.out | apply za | apply zc | apply zj) | exact HB.out)⟩
           ·rw [if_neg c22] at H; exact absurd H (by simp)
          ·rw [if_neg c20] at H; exact absurd H (by simp)
         ·rw [if_neg c19] at H; exact absurd H (by simp)
        ·rw [if_neg c18] at H; exact absurd H (by simp)
       ·rw [if_neg c17] at H; have c17b0 : decide ((ji9) < t265) = false := decide_eq_false c17; clear c17
        by_cases c28 : (bt a0 (ji9)) = 123
        ·rw [if_pos c28] at H; have c28b0 : ((bt a0 (ji9)) == 123) = true := beq_iff_eq.mpr c28; have c28b1 : ((bt a0 (ji9)) != 123) = false := bne_eq_false_iff_eq.mpr c28; clear c28; replace H := Option.bind_eq_some_iff.mp H; obtain ⟨t269, A290, H⟩ := H; replace H : (if t269 > (wrap64 (a1 + 2)) then (if t269 < (a0.size : Int) then (if 0 ≤ t269 then (template_zzAt.j1 kj2 a0 a1 t269 ((bt a0 t269) == 125)) else (none)) else (template_zzAt.j1 kj2 a0 a1 t269 false)) else (template_zzAt.j1 kj2 a0 a1 t269 false)) = some (r1, r2, r3) := H; have A29 := aM A290; clear A290; have HC30 := aM H; clear H; have p12 : 0 ≤ ((ji9) : Int) := of_decide_eq_true (by first | (with_reducible assumption) | assumption); have q12 : (ji9) < (a0.size : Int) := of_decide_eq_true (by first | (with_reducible assumption) | assumption); have hx12 := yw a0 (ji9); replace p12 := eq_true p12; replace q12 := eq_true q12
         go_upto_region 11 with (first | ((with_reducible refine yu (f := 177) rfl ?_); refine vl (some 33) rfl rfl Tryz.func177 (by kernel_rfl) rfl #[.string a0, .int .i64 ji9] rfl (by (try simp only [List.map_toArray, List.map_cons, List.map_nil]); first | done | (simp only [hji9]; rfl) | rfl | (simp only [List.length_drop, List.length_take]; rfl)) ?_; (with_reducible refine (template_zzName.calls kj2 a0 ji9 t265 _ A16.out).mono ?_); rintro e w' ⟨rfl, ⟨nd, rfl⟩⟩; refine ⟨_, rfl, ?_⟩; have p27 : 0 ≤ ((ji9) : Int) := of_decide_eq_true (by first | (with_reducible assumption) | assumption); have q27 : (ji9) < (a0.size : Int) := of_decide_eq_true (by first | (with_reducible assumption) | assumption); have hx27 := yw a0 (ji9); replace p27 := eq_true p27; replace q27 := eq_true q27) | ((with_reducible refine yu (f := 177) rfl ?_); refine vl (some 57) rfl rfl Tryz.func177 (by kernel_rfl) rfl #[.string a0, .int .i64 (wrap64 (a1 + 2))] rfl (by (try simp only [List.map_toArray, List.map_cons, List.map_nil]); first | done | rfl | (simp only [List.length_drop, List.length_take]; rfl)) ?_; (with_reducible refine (template_zzName.calls kj2 a0 (wrap64 (a1 + 2)) t269 _ A29.out).mono ?_); rintro e w' ⟨rfl, ⟨nd, rfl⟩⟩; refine ⟨_, rfl, ?_⟩))
         (try simp only [Act.put, List.setIfInBounds_toArray, List.set_cons_zero, List.set_cons_succ])
         go_cut [73] (fun v73 wc => ∃ (kq : Nat) (x73_29 : Bool), v73 = .bool x73_29 ∧ Aside0 (template_zzAt.j1 kq a0 a1 t269 x73_29 = some (r1, r2, r3)) ∧ Aside0 (kq ≤ kj2) ∧ Aside0 (Below w.heap.size w wc))
         case first =>
          have H := HC30.out; clear HC30
          by_cases c31 : t269 > (wrap64 (a1 + 2))
          ·rw [if_pos c31] at H; have c31b0 : decide ((wrap64 (a1 + 2)) < t269) = true := decide_eq_true c31; clear c31
           (first | rw [c31b0] | (simp only [zo, zt]; rw [c31b0]) | skip)
           by_cases c32 : t269 < (a0.size : Int)
           ·rw [if_pos c32] at H; have c32b0 : decide (t269 < (a0.size : Int)) = true := decide_eq_true c32; clear c32
            by_cases c33 : 0 ≤ t269
            ·rw [if_pos c33] at H; have c33b0 : decide (0 ≤ t269) = true := decide_eq_true c33; clear c33; have H' := aM H; clear H; have p34 : 0 ≤ (t269 : Int) := of_decide_eq_true (by first | (with_reducible assumption) | assumption); have q34 : t269 < (a0.size : Int) := of_decide_eq_true (by first | (with_reducible assumption) | assumption); have hx34 := yw a0 t269; replace p34 := eq_true p34; replace q34 := eq_true q34
             go_wp2
             go_meet
             case rel => exact ⟨_, (((bt a0 t269) == 125)), (by first | rfl | (simp; done) | (simp [*]; done)), H', ⟨by have := HJ2.out; first | omega | exact Nat.le_refl _⟩, ⟨by repeat (first | (with_reducible first | exact HB.out | apply za | apply zc | apply zj) | exact HB.out)⟩⟩
            ·rw [if_neg c33] at H; exact absurd H (by simp)
           ·rw [if_neg c32] at H; have c32b0 : decide (t269 < (a0.size : Int)) = false := decide_eq_false c32; clear c32; have H' := aM H; clear H
            go_wp2
            go_meet
            case rel => exact ⟨_, (false), (by first | rfl | (simp; done) | (simp [*]; done)), H', ⟨by have := HJ2.out; first | omega | exact Nat.le_refl _⟩, ⟨by repeat (first | (with_reducible first | exact HB.out | apply za | apply zc | apply zj) | exact HB.out)⟩⟩
          ·rw [if_neg c31] at H; have c31b0 : decide ((wrap64 (a1 + 2)) < t269) = false := decide_eq_false c31; clear c31
           (first | rw [c31b0] | (simp only [zo, zt]; rw [c31b0]) | skip)
           have H' := aM H; clear H
           go_wp2
           go_meet
           case rel => exact ⟨_, (false), (by first | rfl | (simp; done) | (simp [*]; done)), H', ⟨by have := HJ2.out; first | omega | exact Nat.le_refl _⟩, ⟨by repeat (first | (with_reducible first | exact HB.out | apply za | apply zc | apply zj) | exact HB.out)⟩⟩
         case rest =>
          clear HC30
          try clear c1
          try clear p1
          try clear q1
          try clear hx1
          try clear c2
          try clear p2
          try clear q2
          try clear hx2
          try clear c3
          try clear p3
          try clear q3
          try clear hx3
          try clear c4
          try clear c4b0
          try clear c5
          try clear c5b0
          try clear c6
          try clear c6b0
          try clear p6
          try clear p7
          try clear q7
          try clear hx7
          try clear c8
          try clear c10
          try clear c10b0
          try clear c11
          try clear c11b0
          try clear p12
          try clear q12
          try clear hx12
          try clear c13
          try clear c13b0
          try clear c13b1
          try clear c16
          try clear c17
          try clear c17b0
          try clear c18
          try clear c18b0
          try clear c18b1
          try clear c19
          try clear c19b0
          try clear c19b1
          try clear c20
          try clear c20b0
          try clear c20b1
          try clear c21
          try clear c21b0
          try clear c22
          try clear c22b0
          try clear c22b1
          try clear c23
          try clear c23b0
          try clear p27
          try clear q27
          try clear hx27
          try clear c28
          try clear c28b0
          try clear c28b1
          try clear c31
          try clear c31b0
          try clear c32
          try clear c32b0
          try clear c33
          try clear c33b0
          try clear p34
          try clear q34
          try clear hx34
          try clear p12
          try clear p2
          try clear p27
          try clear p34
          try clear p6
          try clear p7
          try clear q12
          try clear q27
          try clear q34
          try clear q7
          obtain ⟨kq, x73_29, rfl, HA, HJ29, HB⟩ := hcut
          cases kq with
          | zero => exact absurd HA.out (by simp [template_zzAt.j1])
          | succ kj29 =>
           have H := HA.out; clear HA; simp only [template_zzAt.j1] at H
           by_cases c35 : x73_29 = true
           ·subst c35
            have H1 : (if 0 ≤ a1 then (if a1 ≤ (wrap64 (t269 + 1)) then (if (wrap64 (t269 + 1)) ≤ (a0.size : Int) then (if 0 ≤ (wrap64 (a1 + 2)) then (if (wrap64 (a1 + 2)) ≤ t269 then (if t269 ≤ (a0.size : Int) then (some ((([a0.extract (a1 : Int).toNat ((wrap64 (t269 + 1)) : Int).toNat, (⟨#[]⟩ : ByteArray), (⟨#[]⟩ : ByteArray), a0.extract ((wrap64 (a1 + 2)) : Int).toNat (t269 : Int).toNat, (⟨#[]⟩ : ByteArray), (⟨#[]⟩ : ByteArray)] : List ByteArray)), wrap64 (t269 + 1), true)) else (none)) else (none)) else (none)) else (none)) else (none)) else (none)) = some (r1, r2, r3) := by rw [if_pos rfl] at H; exact H
            clear H; have H := H1; clear H1
            by_cases c36 : 0 ≤ a1
            ·rw [if_pos c36] at H; have c36b0 := eq_true c36; have c36b1 : decide (0 ≤ a1) = true := decide_eq_true c36; clear c36
             by_cases c37 : a1 ≤ (wrap64 (t269 + 1))
             ·rw [if_pos c37] at H; have c37b0 := eq_true c37; have c37b1 : decide (a1 ≤ (wrap64 (t269 + 1))) = true := decide_eq_true c37
              by_cases c38 : (wrap64 (t269 + 1)) ≤ (a0.size : Int)
              ·rw [if_pos c38] at H; have c38b0 := eq_true c38; have c38b1 : decide ((wrap64 (t269 + 1)) ≤ (a0.size : Int)) = true := decide_eq_true c38
               obtain ⟨ji39, hji39⟩ : ∃ j_ : Int, (wrap64 (a1 + 2)) = j_ := ⟨_, rfl⟩
               replace H : (if 0 ≤ (ji39) then (if (ji39) ≤ t269 then (if t269 ≤ (a0.size : Int) then (some ((([a0.extract (a1 : Int).toNat ((wrap64 (t269 + 1)) : Int).toNat, (⟨#[]⟩ : ByteArray), (⟨#[]⟩ : ByteArray), a0.extract ((ji39) : Int).toNat (t269 : Int).toNat, (⟨#[]⟩ : ByteArray), (⟨#[]⟩ : ByteArray)] : List ByteArray)), wrap64 (t269 + 1), true)) else (none)) else (none)) else (none)) = some (r1, r2, r3) := by first | (rw [hji39] at H; exact H) | (simp only [hji39] at H ⊢; exact H)
               have hji39w : (IntKind.i64.wrap (a1 + 2)) = ji39 := (zo _).trans hji39
               by_cases c40 : 0 ≤ (ji39)
               ·rw [if_pos c40] at H; have c40b0 := eq_true c40; have c40b1 : decide (0 ≤ (ji39)) = true := decide_eq_true c40; clear c40
                by_cases c41 : (ji39) ≤ t269
                ·rw [if_pos c41] at H; have c41b0 := eq_true c41; have c41b1 : decide ((ji39) ≤ t269) = true := decide_eq_true c41; clear c41
                 by_cases c42 : t269 ≤ (a0.size : Int)
                 ·rw [if_pos c42] at H; have c42b0 := eq_true c42; have c42b1 : decide (t269 ≤ (a0.size : Int)) = true := decide_eq_true c42; clear c42
                  obtain ⟨y270, hy270⟩ : ∃ y_ : List ByteArray, y_ = (([a0.extract (a1 : Int).toNat ((wrap64 (t269 + 1)) : Int).toNat, (⟨#[]⟩ : ByteArray), (⟨#[]⟩ : ByteArray), a0.extract ((ji39) : Int).toNat (t269 : Int).toNat, (⟨#[]⟩ : ByteArray), (⟨#[]⟩ : ByteArray)] : List ByteArray)) := ⟨_, rfl⟩
                  replace H : (some (y270, wrap64 (t269 + 1), true)) = some (r1, r2, r3) := by first | (rw [hy270]; with_reducible exact H) | (have H2_ := (Option.bind_some _ _).symm.trans H; rw [hy270]; with_reducible exact H2_) | (have H2_ := (Option.bind_some _ _).symm.trans H; with_reducible exact H2_) | with_reducible exact H | (rw [hy270]; exact H) | exact H
                  have Ny270 := aM hy270; clear hy270; simp only [Option.some.injEq, Prod.mk.injEq] at H; obtain ⟨rfl, rfl, rfl⟩ := H
                  try go_wp2
                  have n0_ := aM (zj HB.out); clear HB; have HB := n0_; clear n0_; refine xb (n := 16) (S := fun w' => True) (ds := []) (bZ 16 0) (by kernel_rfl) rfl rfl trivial (fun hHeld => ?_); refine xr template_zzAt.tab12 template_zzAt.bits12 (fun HT_ HW_ => ?_); generalize wc.drew = w43 at HB hHeld ⊢; refine pU 0 (some 74) (bZ 16 1) rfl (zz HT_.out (by kernel_rfl)) ?_; refine pU 1 (some 75) (bZ 16 3) rfl (zz HT_.out (by kernel_rfl)) ?_; refine pU 2 (some 76) (bZ 16 7) rfl (zz HT_.out (by kernel_rfl)) ?_; refine pU 3 (some 77) (bZ 16 15) rfl (zz HT_.out (by kernel_rfl)) ?_; refine pU 4 (some 78) (bZ 16 31) rfl (zz HT_.out (by kernel_rfl)) ?_; refine pU 5 (some 79) (bZ 16 63) rfl (zz HT_.out (by kernel_rfl)) ?_; refine pU 6 (some 80) (bZ 16 127) rfl (zz HT_.out (by kernel_rfl)) ?_; refine pU 7 (some 81) (bZ 16 255) rfl (zz HT_.out (by kernel_rfl)) ?_; refine pU 8 (some 82) (bZ 16 511) rfl (zz HT_.out (by kernel_rfl)) ?_; refine pU 9 (some 83) (bZ 16 1023) rfl (zz HT_.out (by kernel_rfl)) ?_; refine pU 11 (some 85) (bZ 16 3071) rfl (zz HT_.out (by kernel_rfl)) ?_; refine pU 12 (some 86) (bZ 16 7167) rfl (zz HT_.out (by kernel_rfl)) ?_; refine one_ (i := 10) (N := some 84) (bZ 16 8191) rfl rfl (xi HT_.out (by kernel_rfl)) (by decide) (fun K hK => ?_); refine Kd.R_lit_step Kd.string _ 9 ?hg (N := 84) ?hd (xs := ([a0.extract (a1 : Int).toNat ((wrap64 (t269 + 1)) : Int).toNat, (⟨#[]⟩ : ByteArray), (⟨#[]⟩ : ByteArray), a0.extract ((ji39) : Int).toNat (t269 : Int).toNat, (⟨#[]⟩ : ByteArray), (⟨#[]⟩ : ByteArray)] : List ByteArray)) (inner := [.string (a0.extract (a1 : Int).toNat ((wrap64 (t269 + 1)) : Int).toNat), .string (⟨#[]⟩ : ByteArray), .string (⟨#[]⟩ : ByteArray), .string (a0.extract ((ji39) : Int).toNat (t269 : Int).toNat), .string (⟨#[]⟩ : ByteArray), .string (⟨#[]⟩ : ByteArray)]) (ok := fun _ => True) (okp := fun _ => True) ?hr ?hp (fun _ hk => hk) trivial (Below.refl _ _) (Nat.le_refl _) (by simp) ?_; (case hd => rfl); (case hg => rfl); (case hr => first | (go_simp; done) | (go_simp; rfl)); (case hp => exact (Reps.one (show Kd.M Kd.string _ _ _ (a0.extract (a1 : Int).toNat ((wrap64 (t269 + 1)) : Int).toNat) [.string (a0.extract (a1 : Int).toNat ((wrap64 (t269 + 1)) : Int).toNat)] from rfl) (Reps.one (show Kd.M Kd.string _ _ _ (⟨#[]⟩ : ByteArray) [.string (⟨#[]⟩ : ByteArray)] from rfl) (Reps.one (show Kd.M Kd.string _ _ _ (⟨#[]⟩ : ByteArray) [.string (⟨#[]⟩ : ByteArray)] from rfl) (Reps.one (show Kd.M Kd.string _ _ _ (a0.extract ((ji39) : Int).toNat (t269 : Int).toNat) [.string (a0.extract ((ji39) : Int).toNat (t269 : Int).toNat)] from rfl) (Reps.one (show Kd.M Kd.string _ _ _ (⟨#[]⟩ : ByteArray) [.string (⟨#[]⟩ : ByteArray)] from rfl) (Reps.one (show Kd.M Kd.string _ _ _ (⟨#[]⟩ : ByteArray) [.string (⟨#[]⟩ : ByteArray)] from rfl) (Reps.none _ _)))))))); intro v271 w44 ho45 hb hg_ hnew_; clear hg_ hnew_
                  (first | rw [← Ny270.out] at ho45 | (simp only [Int.reduceToNat] at ho45; rw [← Ny270.out] at ho45))
                  have n0_ := aM (Kd.R_lower ho45 (zl (by repeat (first | (with_reducible first | exact HB.out | apply za | apply zc | apply zj) | exact HB.out)))); have n1_ := aM (zx (by repeat (first | (with_reducible first | exact HB.out | apply za | apply zc | apply zj) | exact HB.out)) hb); clear HB; have HO272 := n0_; have HB := n1_; clear n0_ n1_ hb ho45; refine hK.out _ _ trivial (fun hHeld => ?_); clear hK K; refine zq (a' := ?_) ?_ ?_; rotate_left
                  ·show Act.put _ (some 84) _ = _
                   simp only [Act.put, sA, sB, sC, zo, zt]; rfl
                  refine pU 13 (some 4) (bZ 16 16383) rfl (zz HT_.out (by kernel_rfl)) ?_; refine pU 14 (some 5) (bZ 16 32767) rfl (zz HT_.out (by kernel_rfl)) ?_; refine pU 15 (some 6) (bZ 16 65535) rfl (zz HT_.out (by kernel_rfl)) ?_; refine xl (vm HT_.out (by kernel_rfl)) ?_
                  try go_wp2
                  go_ret3
                  exact ⟨_, by first | rfl | (simp [zv, zu] <;> rfl) | (simp only [← hji9, ← hji39]; first | rfl | (simp [zv, zu] <;> rfl)) | (simp [*, zv, zu] <;> rfl), by (with_reducible repeat (first | apply Kd.R_alloc | apply Kd.R_drewN | apply Kd.R_drew)); exact HO272.out, by repeat (first | (with_reducible first | exact HB.out | apply za | apply zc | apply zj) | exact HB.out)⟩
                 ·rw [if_neg c42] at H; exact absurd H (by simp)
                ·rw [if_neg c41] at H; exact absurd H (by simp)
               ·rw [if_neg c40] at H; exact absurd H (by simp)
              ·rw [if_neg c38] at H; exact absurd H (by simp)
             ·rw [if_neg c37] at H; exact absurd H (by simp)
            ·rw [if_neg c36] at H; exact absurd H (by simp)
           ·replace c35 := Bool.eq_false_iff.mpr c35; subst c35
            have H1 : ((template_zzOperator.f kj29 a0 t269).bind fun t273 => (if t269 > (wrap64 (a1 + 2)) then (template_zzAt.j2 kj29 a0 a1 t273 (decide (t273 > 0))) else (template_zzAt.j2 kj29 a0 a1 t273 false))) = some (r1, r2, r3) := by rw [if_neg (show ¬ (false = true) by decide)] at H; exact H
            clear H; have H := H1; clear H1; replace H := Option.bind_eq_some_iff.mp H; obtain ⟨t273, A460, H⟩ := H; replace H : (if t269 > (wrap64 (a1 + 2)) then (template_zzAt.j2 kj29 a0 a1 t273 (decide (t273 > 0))) else (template_zzAt.j2 kj29 a0 a1 t273 false)) = some (r1, r2, r3) := H; have A46 := aM A460; clear A460; have HC47 := aM H; clear H
            go_upto_region 14 with (first | ((with_reducible refine yu (f := 178) rfl ?_); refine vl (some 89) rfl rfl Tryz.func178 (by kernel_rfl) rfl #[.string a0, .int .i64 t269] rfl (by (try simp only [List.map_toArray, List.map_cons, List.map_nil]); first | done | rfl | (simp only [List.length_drop, List.length_take]; rfl)) ?_; (with_reducible refine (template_zzOperator.calls kj29 a0 t269 t273 _ A46.out).mono ?_); rintro e w' ⟨rfl, ⟨nd, rfl⟩⟩; refine ⟨_, rfl, ?_⟩))
            (try simp only [Act.put, List.setIfInBounds_toArray, List.set_cons_zero, List.set_cons_succ])
            go_cut [97] (fun v97 wc => ∃ (kq : Nat) (x97_46 : Bool), v97 = .bool x97_46 ∧ Aside0 (template_zzAt.j2 kq a0 a1 t273 x97_46 = some (r1, r2, r3)) ∧ Aside0 (kq ≤ kj29) ∧ Aside0 (Below w.heap.size w wc))
            case first =>
             have H := HC47.out; clear HC47
             by_cases c48 : t269 > (wrap64 (a1 + 2))
             ·rw [if_pos c48] at H; have c48b0 : decide ((wrap64 (a1 + 2)) < t269) = true := decide_eq_true c48; clear c48
              (first | rw [c48b0] | (simp only [zo, zt]; rw [c48b0]) | skip)
              have H' := aM H; clear H
              go_wp2
              go_meet
              case rel => exact ⟨_, (decide (t273 > 0)), (by first | rfl | (simp; done) | (simp [*]; done)), H', ⟨by have := HJ2.out; have := HJ29.out; first | omega | exact Nat.le_refl _⟩, ⟨by repeat (first | (with_reducible first | exact HB.out | apply za | apply zc | apply zj) | exact HB.out)⟩⟩
             ·rw [if_neg c48] at H; have c48b0 : decide ((wrap64 (a1 + 2)) < t269) = false := decide_eq_false c48; clear c48
              (first | rw [c48b0] | (simp only [zo, zt]; rw [c48b0]) | skip)
              have H' := aM H; clear H
              go_wp2
              go_meet
              case rel => exact ⟨_, (false), (by first | rfl | (simp; done) | (simp [*]; done)), H', ⟨by have := HJ2.out; have := HJ29.out; first | omega | exact Nat.le_refl _⟩, ⟨by repeat (first | (with_reducible first | exact HB.out | apply za | apply zc | apply zj) | exact HB.out)⟩⟩
            case rest =>
             clear HC47
             try clear c1
             try clear p1
             try clear q1
             try clear hx1
             try clear c2
             try clear p2
             try clear q2
             try clear hx2
             try clear c3
             try clear p3
             try clear q3
             try clear hx3
             try clear c4
             try clear c4b0
             try clear c5
             try clear c5b0
             try clear c6
             try clear c6b0
             try clear p6
             try clear p7
             try clear q7
             try clear hx7
             try clear c8
             try clear c10
             try clear c10b0
             try clear c11
             try clear c11b0
             try clear p12
             try clear q12
             try clear hx12
             try clear c13
             try clear c13b0
             try clear c13b1
             try clear c16
             try clear c17
             try clear c17b0
             try clear c18
             try clear c18b0
             try clear c18b1
             try clear c19
             try clear c19b0
             try clear c19b1
             try clear c20
             try clear c20b0
             try clear c20b1
             try clear c21
             try clear c21b0
             try clear c22
             try clear c22b0
             try clear c22b1
             try clear c23
             try clear c23b0
             try clear p27
             try clear q27
             try clear hx27
             try clear c28
             try clear c28b0
             try clear c28b1
             try clear c31
             try clear c31b0
             try clear c32
             try clear c32b0
             try clear c33
             try clear c33b0
             try clear p34
             try clear q34
             try clear hx34
             try clear c35
             try clear c36
             try clear c36b0
             try clear c36b1
             try clear c37
             try clear c37b0
             try clear c37b1
             try clear c38
             try clear c38b0
             try clear c38b1
             try clear c40
             try clear c40b0
             try clear c40b1
             try clear c41
             try clear c41b0
             try clear c41b1
             try clear c42
             try clear c42b0
             try clear c42b1
             try clear c48
             try clear c48b0
             try clear p1
             try clear p12
             try clear p2
             try clear p27
             try clear p3
             try clear p34
             try clear p6
             try clear p7
             try clear q1
             try clear q12
             try clear q2
             try clear q27
             try clear q3
             try clear q34
             try clear q7
             obtain ⟨kq, x97_46, rfl, HA, HJ46, HB⟩ := hcut
             cases kq with
             | zero => exact absurd HA.out (by simp [template_zzAt.j2])
             | succ kj46 =>
              have H := HA.out; clear HA; simp only [template_zzAt.j2] at H
              by_cases c49 : x97_46 = true
              ·subst c49
               have H1 : ((template_zzLast.f kj46 a0 t273).bind fun t274 => (if t274 ≥ 0 then (if 0 ≤ a1 then (if a1 ≤ (wrap64 (t274 + 1)) then (if (wrap64 (t274 + 1)) ≤ (a0.size : Int) then (if 0 ≤ (wrap64 (a1 + 2)) then (if (wrap64 (a1 + 2)) ≤ t274 then (if t274 ≤ (a0.size : Int) then (if 0 ≤ t273 then (if t273 ≤ t274 then (some ((([a0.extract (a1 : Int).toNat ((wrap64 (t274 + 1)) : Int).toNat, (⟨#[]⟩ : ByteArray), (⟨#[]⟩ : ByteArray), a0.extract ((wrap64 (a1 + 2)) : Int).toNat (t274 : Int).toNat, a0.extract (t273 : Int).toNat (t274 : Int).toNat, (⟨#[]⟩ : ByteArray)] : List ByteArray)), wrap64 (t274 + 1), true)) else (none)) else (none)) else (none)) else (none)) else (none)) else (none)) else (none)) else (none)) else (some ((([(⟨#[36, 123]⟩ : ByteArray), (⟨#[]⟩ : ByteArray), (⟨#[]⟩ : ByteArray), (⟨#[]⟩ : ByteArray), (⟨#[]⟩ : ByteArray), (⟨#[]⟩ : ByteArray)] : List ByteArray)), wrap64 (a1 + 2), true)))) = some (r1, r2, r3) := by rw [if_pos rfl] at H; exact H
               clear H; have H := H1; clear H1; replace H := Option.bind_eq_some_iff.mp H; obtain ⟨t274, A500, H⟩ := H; replace H : (if t274 ≥ 0 then (if 0 ≤ a1 then (if a1 ≤ (wrap64 (t274 + 1)) then (if (wrap64 (t274 + 1)) ≤ (a0.size : Int) then (if 0 ≤ (wrap64 (a1 + 2)) then (if (wrap64 (a1 + 2)) ≤ t274 then (if t274 ≤ (a0.size : Int) then (if 0 ≤ t273 then (if t273 ≤ t274 then (some ((([a0.extract (a1 : Int).toNat ((wrap64 (t274 + 1)) : Int).toNat, (⟨#[]⟩ : ByteArray), (⟨#[]⟩ : ByteArray), a0.extract ((wrap64 (a1 + 2)) : Int).toNat (t274 : Int).toNat, a0.extract (t273 : Int).toNat (t274 : Int).toNat, (⟨#[]⟩ : ByteArray)] : List ByteArray)), wrap64 (t274 + 1), true)) else (none)) else (none)) else (none)) else (none)) else (none)) else (none)) else (none)) else (none)) else (some ((([(⟨#[36, 123]⟩ : ByteArray), (⟨#[]⟩ : ByteArray), (⟨#[]⟩ : ByteArray), (⟨#[]⟩ : ByteArray), (⟨#[]⟩ : ByteArray), (⟨#[]⟩ : ByteArray)] : List ByteArray)), wrap64 (a1 + 2), true))) = some (r1, r2, r3) := H; have A50 := aM A500; clear A500
               by_cases c51 : t274 ≥ 0
               ·rw [if_pos c51] at H; have c51b0 : decide (0 ≤ t274) = true := decide_eq_true c51; clear c51
                by_cases c52 : 0 ≤ a1
                ·rw [if_pos c52] at H; have c52b0 := eq_true c52; have c52b1 : decide (0 ≤ a1) = true := decide_eq_true c52; clear c52
                 by_cases c53 : a1 ≤ (wrap64 (t274 + 1))
                 ·rw [if_pos c53] at H; have c53b0 := eq_true c53; have c53b1 : decide (a1 ≤ (wrap64 (t274 + 1))) = true := decide_eq_true c53
                  by_cases c54 : (wrap64 (t274 + 1)) ≤ (a0.size : Int)
                  ·rw [if_pos c54] at H; have c54b0 := eq_true c54; have c54b1 : decide ((wrap64 (t274 + 1)) ≤ (a0.size : Int)) = true := decide_eq_true c54
                   obtain ⟨ji55, hji55⟩ : ∃ j_ : Int, (wrap64 (a1 + 2)) = j_ := ⟨_, rfl⟩
                   replace H : (if 0 ≤ (ji55) then (if (ji55) ≤ t274 then (if t274 ≤ (a0.size : Int) then (if 0 ≤ t273 then (if t273 ≤ t274 then (some ((([a0.extract (a1 : Int).toNat ((wrap64 (t274 + 1)) : Int).toNat, (⟨#[]⟩ : ByteArray), (⟨#[]⟩ : ByteArray), a0.extract ((ji55) : Int).toNat (t274 : Int).toNat, a0.extract (t273 : Int).toNat (t274 : Int).toNat, (⟨#[]⟩ : ByteArray)] : List ByteArray)), wrap64 (t274 + 1), true)) else (none)) else (none)) else (none)) else (none)) else (none)) = some (r1, r2, r3) := by first | (rw [hji55] at H; exact H) | (simp only [hji55] at H ⊢; exact H)
                   (try rw [hji55] at A50)
                   have hji55w : (IntKind.i64.wrap (a1 + 2)) = ji55 := (zo _).trans hji55
                   by_cases c56 : 0 ≤ (ji55)
                   ·rw [if_pos c56] at H; have c56b0 := eq_true c56; have c56b1 : decide (0 ≤ (ji55)) = true := decide_eq_true c56; clear c56
                    by_cases c57 : (ji55) ≤ t274
                    ·rw [if_pos c57] at H; have c57b0 := eq_true c57; have c57b1 : decide ((ji55) ≤ t274) = true := decide_eq_true c57; clear c57
                     by_cases c58 : t274 ≤ (a0.size : Int)
                     ·rw [if_pos c58] at H; have c58b0 := eq_true c58; have c58b1 : decide (t274 ≤ (a0.size : Int)) = true := decide_eq_true c58; clear c58
                      by_cases c59 : 0 ≤ t273
                      ·rw [if_pos c59] at H; have c59b0 := eq_true c59; have c59b1 : decide (0 ≤ t273) = true := decide_eq_true c59; clear c59
                       by_cases c60 : t273 ≤ t274
                       ·rw [if_pos c60] at H; have c60b0 := eq_true c60; have c60b1 : decide (t273 ≤ t274) = true := decide_eq_true c60; clear c60; have c61b0 := eq_true (of_decide_eq_true (by first | (with_reducible assumption) | assumption) : t274 ≤ (a0.size : Int))
                        obtain ⟨y275, hy275⟩ : ∃ y_ : List ByteArray, y_ = (([a0.extract (a1 : Int).toNat ((wrap64 (t274 + 1)) : Int).toNat, (⟨#[]⟩ : ByteArray), (⟨#[]⟩ : ByteArray), a0.extract ((ji55) : Int).toNat (t274 : Int).toNat, a0.extract (t273 : Int).toNat (t274 : Int).toNat, (⟨#[]⟩ : ByteArray)] : List ByteArray)) := ⟨_, rfl⟩
                        replace H : (some (y275, wrap64 (t274 + 1), true)) = some (r1, r2, r3) := by first | (rw [hy275]; with_reducible exact H) | (have H2_ := (Option.bind_some _ _).symm.trans H; rw [hy275]; with_reducible exact H2_) | (have H2_ := (Option.bind_some _ _).symm.trans H; with_reducible exact H2_) | with_reducible exact H | (rw [hy275]; exact H) | exact H
                        have Ny275 := aM hy275; clear hy275; simp only [Option.some.injEq, Prod.mk.injEq] at H; obtain ⟨rfl, rfl, rfl⟩ := H
                        try go_wp2_with (first | ((with_reducible refine yu (f := 179) rfl ?_); refine vl (some 100) rfl rfl Tryz.func179 (by kernel_rfl) rfl #[.string a0, .int .i64 t273] rfl (by (try simp only [List.map_toArray, List.map_cons, List.map_nil]); first | done | rfl | (simp only [List.length_drop, List.length_take]; rfl)) ?_; (with_reducible refine (template_zzLast.calls kj46 a0 t273 t274 _ A50.out).mono ?_); rintro e w' ⟨rfl, ⟨nd, rfl⟩⟩; refine ⟨_, rfl, ?_⟩))
                        (try (rw [drewN_self wc]; generalize hq_ : World.drewN wc _ = wc; have n0_ : Aside0 (Below w.heap.size w wc) := ⟨by rw [← hq_]; exact (by repeat (first | (with_reducible first | exact HB.out | apply za | apply zc | apply zj) | exact HB.out))⟩; clear HB hq_; have HB := n0_; clear n0_))
                        have n0_ := aM (zj HB.out); clear HB; have HB := n0_; clear n0_; refine xb (n := 20) (S := fun w' => True) (ds := []) (bZ 20 0) (by kernel_rfl) rfl rfl trivial (fun hHeld => ?_); refine xr template_zzAt.tab17 template_zzAt.bits17 (fun HT_ HW_ => ?_); generalize wc.drew = w62 at HB hHeld ⊢; refine pU 0 (some 103) (bZ 20 1) rfl (zz HT_.out (by kernel_rfl)) ?_; refine pU 1 (some 104) (bZ 20 3) rfl (zz HT_.out (by kernel_rfl)) ?_; refine pU 2 (some 105) (bZ 20 7) rfl (zz HT_.out (by kernel_rfl)) ?_; refine pU 3 (some 106) (bZ 20 15) rfl (zz HT_.out (by kernel_rfl)) ?_; refine pU 4 (some 107) (bZ 20 31) rfl (zz HT_.out (by kernel_rfl)) ?_; refine pU 5 (some 108) (bZ 20 63) rfl (zz HT_.out (by kernel_rfl)) ?_; refine pU 6 (some 109) (bZ 20 127) rfl (zz HT_.out (by kernel_rfl)) ?_; refine pU 7 (some 110) (bZ 20 255) rfl (zz HT_.out (by kernel_rfl)) ?_; refine pU 8 (some 111) (bZ 20 511) rfl (zz HT_.out (by kernel_rfl)) ?_; refine pU 9 (some 112) (bZ 20 1023) rfl (zz HT_.out (by kernel_rfl)) ?_; refine pU 10 (some 113) (bZ 20 2047) rfl (zz HT_.out (by kernel_rfl)) ?_; refine pU 11 (some 114) (bZ 20 4095) rfl (zz HT_.out (by kernel_rfl)) ?_; refine pU 12 (some 115) (bZ 20 8191) rfl (zz HT_.out (by kernel_rfl)) ?_; refine pU 13 (some 116) (bZ 20 16383) rfl (zz HT_.out (by kernel_rfl)) ?_; refine pU 15 (some 118) (bZ 20 49151) rfl (zz HT_.out (by kernel_rfl)) ?_; refine pU 16 (some 119) (bZ 20 114687) rfl (zz HT_.out (by kernel_rfl)) ?_; refine one_ (i := 14) (N := some 117) (bZ 20 131071) rfl rfl (xi HT_.out (by kernel_rfl)) (by decide) (fun K hK => ?_); refine Kd.R_lit_step Kd.string _ 9 ?hg (N := 117) ?hd (xs := ([a0.extract (a1 : Int).toNat ((wrap64 (t274 + 1)) : Int).toNat, (⟨#[]⟩ : ByteArray), (⟨#[]⟩ : ByteArray), a0.extract ((ji55) : Int).toNat (t274 : Int).toNat, a0.extract (t273 : Int).toNat (t274 : Int).toNat, (⟨#[]⟩ : ByteArray)] : List ByteArray)) (inner := [.string (a0.extract (a1 : Int).toNat ((wrap64 (t274 + 1)) : Int).toNat), .string (⟨#[]⟩ : ByteArray), .string (⟨#[]⟩ : ByteArray), .string (a0.extract ((ji55) : Int).toNat (t274 : Int).toNat), .string (a0.extract (t273 : Int).toNat (t274 : Int).toNat), .string (⟨#[]⟩ : ByteArray)]) (ok := fun _ => True) (okp := fun _ => True) ?hr ?hp (fun _ hk => hk) trivial (Below.refl _ _) (Nat.le_refl _) (by simp) ?_; (case hd => rfl); (case hg => rfl); (case hr => first | (go_simp; done) | (go_simp; rfl)); (case hp => exact (Reps.one (show Kd.M Kd.string _ _ _ (a0.extract (a1 : Int).toNat ((wrap64 (t274 + 1)) : Int).toNat) [.string (a0.extract (a1 : Int).toNat ((wrap64 (t274 + 1)) : Int).toNat)] from rfl) (Reps.one (show Kd.M Kd.string _ _ _ (⟨#[]⟩ : ByteArray) [.string (⟨#[]⟩ : ByteArray)] from rfl) (Reps.one (show Kd.M Kd.string _ _ _ (⟨#[]⟩ : ByteArray) [.string (⟨#[]⟩ : ByteArray)] from rfl) (Reps.one (show Kd.M Kd.string _ _ _ (a0.extract ((ji55) : Int).toNat (t274 : Int).toNat) [.string (a0.extract ((ji55) : Int).toNat (t274 : Int).toNat)] from rfl) (Reps.one (show Kd.M Kd.string _ _ _ (a0.extract (t273 : Int).toNat (t274 : Int).toNat) [.string (a0.extract (t273 : Int).toNat (t274 : Int).toNat)] from rfl) (Reps.one (show Kd.M Kd.string _ _ _ (⟨#[]⟩ : ByteArray) [.string (⟨#[]⟩ : ByteArray)] from rfl) (Reps.none _ _)))))))); intro v276 w63 ho64 hb hg_ hnew_; clear hg_ hnew_
                        (first | rw [← Ny275.out] at ho64 | (simp only [Int.reduceToNat] at ho64; rw [← Ny275.out] at ho64))
                        have n0_ := aM (Kd.R_lower ho64 (zl (by repeat (first | (with_reducible first | exact HB.out | apply za | apply zc | apply zj) | exact HB.out)))); have n1_ := aM (zx (by repeat (first | (with_reducible first | exact HB.out | apply za | apply zc | apply zj) | exact HB.out)) hb); clear HB; have HO277 := n0_; have HB := n1_; clear n0_ n1_ hb ho64; refine hK.out _ _ trivial (fun hHeld => ?_); clear hK K; refine zq (a' := ?_) ?_ ?_; rotate_left
                        ·show Act.put _ (some 117) _ = _
                         simp only [Act.put, sA, sB, sC, zo, zt]; rfl
                        refine pU 17 (some 4) (bZ 20 262143) rfl (zz HT_.out (by kernel_rfl)) ?_; refine pU 18 (some 5) (bZ 20 524287) rfl (zz HT_.out (by kernel_rfl)) ?_; refine pU 19 (some 6) (bZ 20 1048575) rfl (zz HT_.out (by kernel_rfl)) ?_; refine xl (vm HT_.out (by kernel_rfl)) ?_
                        try go_wp2
                        go_ret3
                        exact ⟨_, by first | rfl | (simp [zv, zu] <;> rfl) | (simp only [← hji9, ← hji55]; first | rfl | (simp [zv, zu] <;> rfl)) | (simp [*, zv, zu] <;> rfl), by (with_reducible repeat (first | apply Kd.R_alloc | apply Kd.R_drewN | apply Kd.R_drew)); exact HO277.out, by repeat (first | (with_reducible first | exact HB.out | apply za | apply zc | apply zj) | exact HB.out)⟩
                       ·rw [if_neg c60] at H; exact absurd H (by simp)
                      ·rw [if_neg c59] at H; exact absurd H (by simp)
                     ·rw [if_neg c58] at H; exact absurd H (by simp)
                    ·rw [if_neg c57] at H; exact absurd H (by simp)
                   ·rw [if_neg c56] at H; exact absurd H (by simp)
                  ·rw [if_neg c54] at H; exact absurd H (by simp)
                 ·rw [if_neg c53] at H; exact absurd H (by simp)
                ·rw [if_neg c52] at H; exact absurd H (by simp)
               ·rw [if_neg c51] at H; have c51b0 : decide (0 ≤ t274) = false := decide_eq_false c51; clear c51
                obtain ⟨y278, hy278⟩ : ∃ y_ : List ByteArray, y_ = (([(⟨#[36, 123]⟩ : ByteArray), (⟨#[]⟩ : ByteArray), (⟨#[]⟩ : ByteArray), (⟨#[]⟩ : ByteArray), (⟨#[]⟩ : ByteArray), (⟨#[]⟩ : ByteArray)] : List ByteArray)) := ⟨_, rfl⟩
                replace H : (some (y278, wrap64 (a1 + 2), true)) = some (r1, r2, r3) := by first | (rw [hy278]; with_reducible exact H) | (have H2_ := (Option.bind_some _ _).symm.trans H; rw [hy278]; with_reducible exact H2_) | (have H2_ := (Option.bind_some _ _).symm.trans H; with_reducible exact H2_) | with_reducible exact H | (rw [hy278]; exact H) | exact H
                have Ny278 := aM hy278; clear hy278; simp only [Option.some.injEq, Prod.mk.injEq] at H; obtain ⟨rfl, rfl, rfl⟩ := H
                go_wp2_with (first | ((with_reducible refine yu (f := 179) rfl ?_); refine vl (some 100) rfl rfl Tryz.func179 (by kernel_rfl) rfl #[.string a0, .int .i64 t273] rfl (by (try simp only [List.map_toArray, List.map_cons, List.map_nil]); first | done | rfl | (simp only [List.length_drop, List.length_take]; rfl)) ?_; (with_reducible refine (template_zzLast.calls kj46 a0 t273 t274 _ A50.out).mono ?_); rintro e w' ⟨rfl, ⟨nd, rfl⟩⟩; refine ⟨_, rfl, ?_⟩) | ((with_reducible refine yn (N := 120) rfl ?_); (try (refine xa (by rfl) ?_; dsimp only)); refine Kd.R_lit Kd.string _ 9 ?hg (N := 120) ?hd (xs := ([(⟨#[36, 123]⟩ : ByteArray), (⟨#[]⟩ : ByteArray), (⟨#[]⟩ : ByteArray), (⟨#[]⟩ : ByteArray), (⟨#[]⟩ : ByteArray), (⟨#[]⟩ : ByteArray)] : List ByteArray)) (inner := [.string (⟨#[36, 123]⟩ : ByteArray), .string (⟨#[]⟩ : ByteArray), .string (⟨#[]⟩ : ByteArray), .string (⟨#[]⟩ : ByteArray), .string (⟨#[]⟩ : ByteArray), .string (⟨#[]⟩ : ByteArray)]) (ok := fun _ => True) (okp := fun _ => True) ?hr ?hp (fun _ hk => hk) trivial (Below.refl _ _) (Nat.le_refl _) (by simp) ?_; (case hd => rfl); (case hg => rfl); (case hr => first | (go_simp; done) | (go_simp; rfl)); (case hp => exact (Reps.one (show Kd.M Kd.string _ _ _ (⟨#[36, 123]⟩ : ByteArray) [.string (⟨#[36, 123]⟩ : ByteArray)] from rfl) (Reps.one (show Kd.M Kd.string _ _ _ (⟨#[]⟩ : ByteArray) [.string (⟨#[]⟩ : ByteArray)] from rfl) (Reps.one (show Kd.M Kd.string _ _ _ (⟨#[]⟩ : ByteArray) [.string (⟨#[]⟩ : ByteArray)] from rfl) (Reps.one (show Kd.M Kd.string _ _ _ (⟨#[]⟩ : ByteArray) [.string (⟨#[]⟩ : ByteArray)] from rfl) (Reps.one (show Kd.M Kd.string _ _ _ (⟨#[]⟩ : ByteArray) [.string (⟨#[]⟩ : ByteArray)] from rfl) (Reps.one (show Kd.M Kd.string _ _ _ (⟨#[]⟩ : ByteArray) [.string (⟨#[]⟩ : ByteArray)] from rfl) (Reps.none _ _)))))))); intro v279 w65 ho66 hb hg_ hnew_; clear hg_ hnew_; (first | rw [← Ny278.out] at ho66 | (simp only [Int.reduceToNat] at ho66; rw [← Ny278.out] at ho66)); have n0_ := aM (Kd.R_lower ho66 (zl (by repeat (first | (with_reducible first | exact HB.out | apply za | apply zc | apply zj) | exact HB.out)))); have n1_ := aM (zx (by repeat (first | (with_reducible first | exact HB.out | apply za | apply zc | apply zj) | exact HB.out)) hb); clear HB; have HO280 := n0_; have HB := n1_; clear n0_ n1_; clear hb ho66))
                go_ret3
                exact ⟨_, by first | rfl | (simp [zv, zu] <;> rfl) | (simp only [← hji9]; first | rfl | (simp [zv, zu] <;> rfl)) | (simp [*, zv, zu] <;> rfl), by (with_reducible repeat (first | apply Kd.R_alloc | apply Kd.R_drewN | apply Kd.R_drew)); exact HO280.out, by repeat (first | (with_reducible first | exact HB.out | apply za | apply zc | apply zj) | exact HB.out)⟩
              ·replace c49 := Bool.eq_false_iff.mpr c49; subst c49
               have H1 : (some ((([(⟨#[36, 123]⟩ : ByteArray), (⟨#[]⟩ : ByteArray), (⟨#[]⟩ : ByteArray), (⟨#[]⟩ : ByteArray), (⟨#[]⟩ : ByteArray), (⟨#[]⟩ : ByteArray)] : List ByteArray)), wrap64 (a1 + 2), true)) = some (r1, r2, r3) := by rw [if_neg (show ¬ (false = true) by decide)] at H; exact H
               clear H; have H := H1; clear H1
               obtain ⟨y281, hy281⟩ : ∃ y_ : List ByteArray, y_ = (([(⟨#[36, 123]⟩ : ByteArray), (⟨#[]⟩ : ByteArray), (⟨#[]⟩ : ByteArray), (⟨#[]⟩ : ByteArray), (⟨#[]⟩ : ByteArray), (⟨#[]⟩ : ByteArray)] : List ByteArray)) := ⟨_, rfl⟩
               replace H : (some (y281, wrap64 (a1 + 2), true)) = some (r1, r2, r3) := by first | (rw [hy281]; with_reducible exact H) | (have H2_ := (Option.bind_some _ _).symm.trans H; rw [hy281]; with_reducible exact H2_) | (have H2_ := (Option.bind_some _ _).symm.trans H; with_reducible exact H2_) | with_reducible exact H | (rw [hy281]; exact H) | exact H
               have Ny281 := aM hy281; clear hy281; simp only [Option.some.injEq, Prod.mk.injEq] at H; obtain ⟨rfl, rfl, rfl⟩ := H
               go_wp2_with (first | ((with_reducible refine yn (N := 120) rfl ?_); (try (refine xa (by rfl) ?_; dsimp only)); refine Kd.R_lit Kd.string _ 9 ?hg (N := 120) ?hd (xs := ([(⟨#[36, 123]⟩ : ByteArray), (⟨#[]⟩ : ByteArray), (⟨#[]⟩ : ByteArray), (⟨#[]⟩ : ByteArray), (⟨#[]⟩ : ByteArray), (⟨#[]⟩ : ByteArray)] : List ByteArray)) (inner := [.string (⟨#[36, 123]⟩ : ByteArray), .string (⟨#[]⟩ : ByteArray), .string (⟨#[]⟩ : ByteArray), .string (⟨#[]⟩ : ByteArray), .string (⟨#[]⟩ : ByteArray), .string (⟨#[]⟩ : ByteArray)]) (ok := fun _ => True) (okp := fun _ => True) ?hr ?hp (fun _ hk => hk) trivial (Below.refl _ _) (Nat.le_refl _) (by simp) ?_; (case hd => rfl); (case hg => rfl); (case hr => first | (go_simp; done) | (go_simp; rfl)); (case hp => exact (Reps.one (show Kd.M Kd.string _ _ _ (⟨#[36, 123]⟩ : ByteArray) [.string (⟨#[36, 123]⟩ : ByteArray)] from rfl) (Reps.one (show Kd.M Kd.string _ _ _ (⟨#[]⟩ : ByteArray) [.string (⟨#[]⟩ : ByteArray)] from rfl) (Reps.one (show Kd.M Kd.string _ _ _ (⟨#[]⟩ : ByteArray) [.string (⟨#[]⟩ : ByteArray)] from rfl) (Reps.one (show Kd.M Kd.string _ _ _ (⟨#[]⟩ : ByteArray) [.string (⟨#[]⟩ : ByteArray)] from rfl) (Reps.one (show Kd.M Kd.string _ _ _ (⟨#[]⟩ : ByteArray) [.string (⟨#[]⟩ : ByteArray)] from rfl) (Reps.one (show Kd.M Kd.string _ _ _ (⟨#[]⟩ : ByteArray) [.string (⟨#[]⟩ : ByteArray)] from rfl) (Reps.none _ _)))))))); intro v282 w67 ho68 hb hg_ hnew_; clear hg_ hnew_; (first | rw [← Ny281.out] at ho68 | (simp only [Int.reduceToNat] at ho68; rw [← Ny281.out] at ho68)); have n0_ := aM (Kd.R_lower ho68 (zl (by repeat (first | (with_reducible first | exact HB.out | apply za | apply zc | apply zj) | exact HB.out)))); have n1_ := aM (zx (by repeat (first | (with_reducible first | exact HB.out | apply za | apply zc | apply zj) | exact HB.out)) hb); clear HB; have HO283 := n0_; have HB := n1_; clear n0_ n1_; clear hb ho68))
               go_ret3
               exact ⟨_, by first | rfl | (simp [zv, zu] <;> rfl) | (simp only [← hji9]; first | rfl | (simp [zv, zu] <;> rfl)) | (simp [*, zv, zu] <;> rfl), by (with_reducible repeat (first | apply Kd.R_alloc | apply Kd.R_drewN | apply Kd.R_drew)); exact HO283.out, by repeat (first | (with_reducible first | exact HB.out | apply za | apply zc | apply zj) | exact HB.out)⟩
        ·rw [if_neg c28] at H; have c28b0 : ((bt a0 (ji9)) == 123) = false := beq_eq_false_iff_ne.mpr c28; have c28b1 : ((bt a0 (ji9)) != 123) = true := bne_iff_ne.mpr c28; simp only [Option.some.injEq, Prod.mk.injEq] at H; obtain ⟨rfl, rfl, rfl⟩ := H; have p12 : 0 ≤ ((ji9) : Int) := of_decide_eq_true (by first | (with_reducible assumption) | assumption); have q12 : (ji9) < (a0.size : Int) := of_decide_eq_true (by first | (with_reducible assumption) | assumption); have hx12 := yw a0 (ji9); replace p12 := eq_true p12; replace q12 := eq_true q12
         go_wp2_with (first | ((with_reducible refine yu (f := 177) rfl ?_); refine vl (some 33) rfl rfl Tryz.func177 (by kernel_rfl) rfl #[.string a0, .int .i64 ji9] rfl (by (try simp only [List.map_toArray, List.map_cons, List.map_nil]); first | done | (simp only [hji9]; rfl) | rfl | (simp only [List.length_drop, List.length_take]; rfl)) ?_; (with_reducible refine (template_zzName.calls kj2 a0 ji9 t265 _ A16.out).mono ?_); rintro e w' ⟨rfl, ⟨nd, rfl⟩⟩; refine ⟨_, rfl, ?_⟩; have p27 : 0 ≤ ((ji9) : Int) := of_decide_eq_true (by first | (with_reducible assumption) | assumption); have q27 : (ji9) < (a0.size : Int) := of_decide_eq_true (by first | (with_reducible assumption) | assumption); have hx27 := yw a0 (ji9); replace p27 := eq_true p27; replace q27 := eq_true q27))
         go_ret3
         exact ⟨_, by first | rfl | (simp [zv, zu] <;> rfl) | (simp only [← hji9]; first | rfl | (simp [zv, zu] <;> rfl)) | (simp [*, zv, zu] <;> rfl), by first | exact Kd.R_nil _ _ _ _ _ | exact Kd.N_nil _ _ _ _ _ | exact Kd.V_nil _ _ _ _ _ | exact Kd.Q_nil _ _ _ _ _ | exact Kd.S_nil _ _ _ _ _, by repeat (first | (with_reducible first | exact HB.out | apply za | apply zc | apply zj) | exact HB.out)⟩
     ·rw [if_neg c11] at H; exact absurd H (by simp)
    ·rw [if_neg c10] at H; exact absurd H (by simp)
attribute [local go_sem] xf xd xk xj yt yr xe xc 
def template_getFirstBraceClosingIndex.l0 : Nat → ByteArray → Int → Int → Option (Int)
 | 0, _, _, _ => none
 | k + 1, x0, x3, x4 => if x4 < (x0.size : Int) then (if 0 ≤ x4 then (if (bt x0 x4) = 125 then (if (wrap64 (x3 - 1)) = 0 then (some x4) else (if (bt x0 x4) = 123 then (template_getFirstBraceClosingIndex.l0 k x0 (wrap64 ((wrap64 (x3 - 1)) + 1)) (wrap64 ((wrap64 (x4 + 1)) + 1))) else (template_getFirstBraceClosingIndex.l0 k x0 (wrap64 (x3 - 1)) (wrap64 (x4 + 1))))) else (if (bt x0 x4) = 123 then (template_getFirstBraceClosingIndex.l0 k x0 (wrap64 (x3 + 1)) (wrap64 ((wrap64 (x4 + 1)) + 1))) else (template_getFirstBraceClosingIndex.l0 k x0 x3 (wrap64 (x4 + 1))))) else (none)) else (some (-1))
def template_getFirstBraceClosingIndex.f (k : Nat) (a0 : ByteArray) : Option (Int) := template_getFirstBraceClosingIndex.l0 k a0 0 0
set_option maxHeartbeats 8000000 in
set_option maxRecDepth 100000 in
theorem template_getFirstBraceClosingIndex.calls (k : Nat) (a0 : ByteArray) (r : Int) (w : World) (h : template_getFirstBraceClosingIndex.f k a0 = some r) :
  Calls Tryz.prog 124 #[.string a0] w fun e w' => e = .returned (.int .i64 r) ∧ Drawn0 w w' := by
 have H : (template_getFirstBraceClosingIndex.l0 k a0 0 0) = some r := h; clear h; have H' := aM H; clear H
 go_enter Tryz.func124, Tryz.ntmps124
 go_wp2
 go_loopg [3, 4] k (fun kq v3 v4 w' => ∃ (x3_1 : Int) (x4_1 : Int), v3 = .int .i64 x3_1 ∧ v4 = .int .i64 x4_1 ∧ Aside0 (template_getFirstBraceClosingIndex.l0 kq a0 x3_1 x4_1 = some r) ∧ Aside0 (kq ≤ k) ∧ Drawn0 w w')
 case atStart => exact ⟨(0), (0), (by first | rfl | (simp; done) | (simp [*]; done)), (by first | rfl | (simp; done) | (simp [*]; done)), H', ⟨Nat.le_refl _⟩, by repeat (first | exact Drawn0.refl _ | apply Drawn0.step)⟩
 case round =>
  clear H'
  try clear c1
  obtain ⟨x3_1, x4_1, rfl, rfl, HA, HK1, ⟨m1, rfl⟩⟩ := hrel
  cases gk with
  | zero => exact absurd HA.out (by simp [template_getFirstBraceClosingIndex.l0])
  | succ k1 =>
   have H := HA.out; clear HA; simp only [template_getFirstBraceClosingIndex.l0] at H
   by_cases c2 : x4_1 < (a0.size : Int)
   ·rw [if_pos c2] at H; have c2b0 : decide (x4_1 < (a0.size : Int)) = true := decide_eq_true c2; clear c2
    by_cases c3 : 0 ≤ x4_1
    ·rw [if_pos c3] at H; have c3b0 : decide (0 ≤ x4_1) = true := decide_eq_true c3; clear c3
     by_cases c5 : (bt a0 x4_1) = 125
     ·rw [if_pos c5] at H; have c5b0 : ((bt a0 x4_1) == 125) = true := beq_iff_eq.mpr c5; have c5b1 : ((bt a0 x4_1) != 125) = false := bne_eq_false_iff_eq.mpr c5; clear c5
      by_cases c6 : (wrap64 (x3_1 - 1)) = 0
      ·rw [if_pos c6] at H; have c6b0 : ((wrap64 (x3_1 - 1)) == 0) = true := beq_iff_eq.mpr c6; have c6b1 : ((wrap64 (x3_1 - 1)) != 0) = false := bne_eq_false_iff_eq.mpr c6; clear c6; obtain rfl := Option.some.inj H; have p4 : 0 ≤ (x4_1 : Int) := of_decide_eq_true (by first | (with_reducible assumption) | assumption); have q4 : x4_1 < (a0.size : Int) := of_decide_eq_true (by first | (with_reducible assumption) | assumption); have hx4 := yw a0 x4_1; replace p4 := eq_true p4; replace q4 := eq_true q4
       go_wp2
       go_ret
       exact ⟨by first | rfl | (simp; done) | (simp [*]; done), by repeat (first | exact Drawn0.refl _ | apply Drawn0.step)⟩
      ·rw [if_neg c6] at H; have c6b0 : ((wrap64 (x3_1 - 1)) == 0) = false := beq_eq_false_iff_ne.mpr c6; have c6b1 : ((wrap64 (x3_1 - 1)) != 0) = true := bne_iff_ne.mpr c6
       by_cases c8 : (bt a0 x4_1) = 123
       ·rw [if_pos c8] at H; have c8b0 : ((bt a0 x4_1) == 123) = true := beq_iff_eq.mpr c8; have c8b1 : ((bt a0 x4_1) != 123) = false := bne_eq_false_iff_eq.mpr c8; clear c8; have H' := aM H; clear H; have p4 : 0 ≤ (x4_1 : Int) := of_decide_eq_true (by first | (with_reducible assumption) | assumption); have q4 : x4_1 < (a0.size : Int) := of_decide_eq_true (by first | (with_reducible assumption) | assumption); have hx4 := yw a0 x4_1; replace p4 := eq_true p4; replace q4 := eq_true q4; have p7 : 0 ≤ (x4_1 : Int) := of_decide_eq_true (by first | (with_reducible assumption) | assumption); have q7 : x4_1 < (a0.size : Int) := of_decide_eq_true (by first | (with_reducible assumption) | assumption); have hx7 := yw a0 x4_1; replace p7 := eq_true p7; replace q7 := eq_true q7
        go_wp2
        go_roundg k1
        case measure => have := HK1.out; omega
        case rel => exact ⟨(wrap64 ((wrap64 (x3_1 - 1)) + 1)), (wrap64 ((wrap64 (x4_1 + 1)) + 1)), (by first | rfl | (simp; done) | (simp [*]; done)), (by first | rfl | (simp; done) | (simp [*]; done)), H', ⟨by have := HK1.out; omega⟩, by repeat (first | exact Drawn0.refl _ | apply Drawn0.step)⟩
       ·rw [if_neg c8] at H; have c8b0 : ((bt a0 x4_1) == 123) = false := beq_eq_false_iff_ne.mpr c8; have c8b1 : ((bt a0 x4_1) != 123) = true := bne_iff_ne.mpr c8; have H' := aM H; clear H; have p4 : 0 ≤ (x4_1 : Int) := of_decide_eq_true (by first | (with_reducible assumption) | assumption); have q4 : x4_1 < (a0.size : Int) := of_decide_eq_true (by first | (with_reducible assumption) | assumption); have hx4 := yw a0 x4_1; replace p4 := eq_true p4; replace q4 := eq_true q4; have p7 : 0 ≤ (x4_1 : Int) := of_decide_eq_true (by first | (with_reducible assumption) | assumption); have q7 : x4_1 < (a0.size : Int) := of_decide_eq_true (by first | (with_reducible assumption) | assumption); have hx7 := yw a0 x4_1; replace p7 := eq_true p7; replace q7 := eq_true q7
        go_wp2
        go_roundg k1
        case measure => have := HK1.out; omega
        case rel => exact ⟨(wrap64 (x3_1 - 1)), (wrap64 (x4_1 + 1)), (by first | rfl | (simp; done) | (simp [*]; done)), (by first | rfl | (simp; done) | (simp [*]; done)), H', ⟨by have := HK1.out; omega⟩, by repeat (first | exact Drawn0.refl _ | apply Drawn0.step)⟩
     ·rw [if_neg c5] at H; have c5b0 : ((bt a0 x4_1) == 125) = false := beq_eq_false_iff_ne.mpr c5; have c5b1 : ((bt a0 x4_1) != 125) = true := bne_iff_ne.mpr c5
      by_cases c10 : (bt a0 x4_1) = 123
      ·rw [if_pos c10] at H; have c10b0 : ((bt a0 x4_1) == 123) = true := beq_iff_eq.mpr c10; have c10b1 : ((bt a0 x4_1) != 123) = false := bne_eq_false_iff_eq.mpr c10; clear c10; have H' := aM H; clear H; have p4 : 0 ≤ (x4_1 : Int) := of_decide_eq_true (by first | (with_reducible assumption) | assumption); have q4 : x4_1 < (a0.size : Int) := of_decide_eq_true (by first | (with_reducible assumption) | assumption); have hx4 := yw a0 x4_1; replace p4 := eq_true p4; replace q4 := eq_true q4; have p9 : 0 ≤ (x4_1 : Int) := of_decide_eq_true (by first | (with_reducible assumption) | assumption); have q9 : x4_1 < (a0.size : Int) := of_decide_eq_true (by first | (with_reducible assumption) | assumption); have hx9 := yw a0 x4_1; replace p9 := eq_true p9; replace q9 := eq_true q9
       go_wp2
       go_roundg k1
       case measure => have := HK1.out; omega
       case rel => exact ⟨(wrap64 (x3_1 + 1)), (wrap64 ((wrap64 (x4_1 + 1)) + 1)), (by first | rfl | (simp; done) | (simp [*]; done)), (by first | rfl | (simp; done) | (simp [*]; done)), H', ⟨by have := HK1.out; omega⟩, by repeat (first | exact Drawn0.refl _ | apply Drawn0.step)⟩
      ·rw [if_neg c10] at H; have c10b0 : ((bt a0 x4_1) == 123) = false := beq_eq_false_iff_ne.mpr c10; have c10b1 : ((bt a0 x4_1) != 123) = true := bne_iff_ne.mpr c10; have H' := aM H; clear H; have p4 : 0 ≤ (x4_1 : Int) := of_decide_eq_true (by first | (with_reducible assumption) | assumption); have q4 : x4_1 < (a0.size : Int) := of_decide_eq_true (by first | (with_reducible assumption) | assumption); have hx4 := yw a0 x4_1; replace p4 := eq_true p4; replace q4 := eq_true q4; have p9 : 0 ≤ (x4_1 : Int) := of_decide_eq_true (by first | (with_reducible assumption) | assumption); have q9 : x4_1 < (a0.size : Int) := of_decide_eq_true (by first | (with_reducible assumption) | assumption); have hx9 := yw a0 x4_1; replace p9 := eq_true p9; replace q9 := eq_true q9
       go_wp2
       go_roundg k1
       case measure => have := HK1.out; omega
       case rel => exact ⟨(x3_1), (wrap64 (x4_1 + 1)), (by first | rfl | (simp; done) | (simp [*]; done)), (by first | rfl | (simp; done) | (simp [*]; done)), H', ⟨by have := HK1.out; omega⟩, by repeat (first | exact Drawn0.refl _ | apply Drawn0.step)⟩
    ·rw [if_neg c3] at H; exact absurd H (by simp)
   ·rw [if_neg c2] at H; have c2b0 : decide (x4_1 < (a0.size : Int)) = false := decide_eq_false c2; clear c2; obtain rfl := Option.some.inj H
    go_wp2
    go_ret
    exact ⟨by first | rfl | (simp; done) | (simp [*]; done), by repeat (first | exact Drawn0.refl _ | apply Drawn0.step)⟩
end Go.Proofs.YtjcffojiacgocaaGreatDoor.PS
namespace Go.Proofs.YtjcffojiacgocaaGreatDoor.Tr.Sb
open Go.RowKit Go.Proofs.YtjcffojiacgocaaGreatDoorW.PrintWords Go.Proofs.YtjcffojiacgocaaGreatDoorW.PrintLast Go.Proofs.YtjcffojiacgocaaGreatDoor.Str Go.Proofs.YtjcffojiacgocaaGreatDoor.PS
abbrev BA := ByteArray
def mk (l : Bs) : BA := ⟨l.toArray⟩
theorem lb_mk' (l : Bs) : lb (mk l) = l := lb_mk l
theorem eq_mk {s : BA} {l : Bs} (h : lb s = l) : s = mk l := lb_inj (by rw [h, lb_mk'])
def At (s : BA) (i : Nat) (c : UInt8) : Prop := (lb s)[i]? = some c
theorem At.lt {s : BA} {i : Nat} {c : UInt8} (h : At s i c) : i < s.size := by
 rw [← yd]; exact (List.getElem?_eq_some_iff.1 h).1
theorem At.bt {s : BA} {i : Nat} {c : UInt8} (h : At s i c) : bt s (i : Int) = (c.toNat : Int) := by
 obtain ⟨h1, h2⟩ := List.getElem?_eq_some_iff.1 h; rw [bt_lb s i h1, h2]
theorem At.of {s : BA} {p q : Bs} {c : UInt8} {i : Nat} (h : lb s = p ++ c :: q) (hi : i = p.length) : At s i c := by
 subst hi
 unfold At
 rw [h]
 simp
theorem wrapN (a b : Nat) (h : a + b < 4611686018427387904) : wrap64 ((a : Int) + (b : Int)) = ((a + b : Nat) : Int) := by unfold wrap64; omega
theorem wrap1 (i : Nat) (h : i < 4611686018427387904) : wrap64 ((i : Int) + 1) = ((i + 1 : Nat) : Int) := by unfold wrap64; omega
theorem wrap2 (i : Nat) (h : i < 4611686018427387904) : wrap64 ((i : Int) + 2) = ((i + 2 : Nat) : Int) := by unfold wrap64; omega
def isLet (n : Nat) : Bool := n == 95 || (decide (97 ≤ n) && decide (n ≤ 122)) || (decide (65 ≤ n) && decide (n ≤ 90))
def isCon (n : Nat) : Bool := isLet n || (decide (48 ≤ n) && decide (n ≤ 57))
theorem isLet_iff (n : Nat) : isLet n = true ↔ n = 95 ∨ (97 ≤ n ∧ n ≤ 122) ∨ (65 ≤ n ∧ n ≤ 90) := by simp [isLet, or_assoc]
theorem isCon_iff (n : Nat) : isCon n = true ↔ isLet n = true ∨ (48 ≤ n ∧ n ≤ 57) := by simp [isCon]
theorem isLet_no {n : Nat} (h : isLet n = false) : ¬ (n = 95 ∨ (97 ≤ n ∧ n ≤ 122) ∨ (65 ≤ n ∧ n ≤ 90)) := fun e => by rw [(isLet_iff n).2 e] at h; cases h
theorem ends_letter_j0 (s : BA) (i x : Int) (b : Bool) (hx : x < 128) : Ends (fun r => r = if b then 1 else 0) (fun k => template_zzLetter.j0 k s i x b) := by
 have h1 : Ends (fun r => r = (0 : Int)) (fun k => template_zzLetter.j1 k s i x false) := by
  refine Ends.step (fun k => by simp only [template_zzLetter.j1]; rfl) ?_; exact Ends.no (by simp) (Ends.ite (fun _ => Ends.no (by omega) (Ends.now rfl)) (fun _ => Ends.now rfl))
 refine Ends.step (fun k => by simp only [template_zzLetter.j0]; rfl) ?_
 cases b
 ·exact Ends.no (by simp) (Ends.ite (fun _ => Ends.no (by omega) h1) (fun _ => h1))
 ·exact Ends.yes (by simp) (Ends.now rfl)
theorem ends_letter (s : BA) (i : Nat) (c : UInt8) (h : At s i c) (hc : c.toNat < 128) : Ends (fun r => r = if isLet c.toNat then 1 else 0) (fun k => template_zzLetter.f k s (i : Int)) := by
 have hlt := h.lt; have hb := h.bt
 unfold template_zzLetter.f
 rw [hb]
 have H := fun b => ends_letter_j0 s (i : Int) (c.toNat : Int) b (by omega)
 refine Ends.no (by omega) (Ends.yes (by omega) (Ends.yes (by omega) ?_))
 rcases hl : isLet c.toNat with _ | _
 ·have hn := isLet_no hl; refine Ends.no (by omega) ?_; refine Ends.ite (fun h1 => Ends.no (by omega) (Ends.ite (fun h2 => ?_) (fun _ => H false))) (fun _ => Ends.ite (fun h2 => ?_) (fun _ => H false))
  ·rw [decide_eq_false (by omega)]; exact H false
  ·rw [decide_eq_false (by omega)]; exact H false
 ·have hy := (isLet_iff _).1 hl; refine Ends.ite (fun _ => H true) (fun h1 => Ends.ite (fun h2 => Ends.ite (fun _ => H true) (fun h3 => Ends.ite (fun h4 => ?_) (fun _ => Ends.never (by omega)))) (fun h3 => Ends.ite (fun h4 => ?_) (fun _ => Ends.never (by omega))))
  ·rw [decide_eq_true (by omega)]; exact H true
  ·rw [decide_eq_true (by omega)]; exact H true
def Stops (s : BA) (i : Nat) : Prop := i = s.size ∨ ∃ c, At s i c ∧ c.toNat < 128 ∧ isCon c.toNat = false
theorem letter_lt {n : Nat} (h : isCon n = true) : n < 128 := by
 rcases (isCon_iff n).1 h with h | h
 ·have := (isLet_iff n).1 h; omega
 ·omega
theorem ends_name_l (s : BA) (hs : s.size < 4611686018427387904) (i n : Nat) (hc : ∀ j, j < n → ∃ c, At s (i + j) c ∧ isCon c.toNat = true) (he : Stops s (i + n)) : ∀ (d j : Nat), j + d = n →
  Ends (fun r => r = ((i + n : Nat) : Int)) (fun k => template_zzName.l0 k s ((i + j : Nat) : Int)) := by
 intro d
 induction d with
 | zero =>
  intro j hj
  obtain rfl : j = n := by omega
  refine Ends.step (fun k => by simp only [template_zzName.l0]; rfl) ?_
  rcases he with he | ⟨c, hat, h7, hno⟩
  ·exact Ends.no (by omega) (Ends.now rfl)
  ·have hlt := hat.lt; have hb := hat.bt
   have hl : isLet c.toNat = false := by
    rcases h : isLet c.toNat with _ | _
    ·rfl
    ·rw [(isCon_iff _).2 (.inl h)] at hno; cases hno
   have hd : ¬ (48 ≤ c.toNat ∧ c.toNat ≤ 57) := fun h => by rw [(isCon_iff _).2 (.inr h)] at hno; cases hno
   have hf : Ends (fun r => r = ((i + j : Nat) : Int)) (fun k => template_zzName.j1 k s ((i + j : Nat) : Int) 0 false) := by
    refine Ends.step (fun k => by simp only [template_zzName.j1]; rfl) ?_; exact Ends.no (by simp) (Ends.yes (by simp) (Ends.now rfl))
   refine Ends.yes (by omega) (Ends.bind (ends_letter s (i + j) c hat h7) (fun r hr => ?_)); rw [hl] at hr; have hr0 : r = 0 := hr; subst hr0; rw [hb]; refine Ends.yes (by simp) (Ends.yes (by omega) (Ends.ite (fun h1 => ?_) (fun _ => hf))); rw [decide_eq_false (by omega)]; exact hf
 | succ d ih =>
  intro j hj; obtain ⟨c, hat, hco⟩ := hc j (by omega); have hlt := hat.lt; have hb := hat.bt; have h7 := letter_lt hco; have hn := ih (j + 1) (by omega); have hw : wrap64 (((i + j : Nat) : Int) + 1) = ((i + (j + 1) : Nat) : Int) := wrap1 (i + j) (by omega); refine Ends.step (fun k => by simp only [template_zzName.l0]; rfl) ?_; refine Ends.yes (by omega) (Ends.bind (ends_letter s (i + j) c hat h7) (fun r hr => ?_)); rw [hb]
  rcases hl : isLet c.toNat with _ | _
  ·rw [hl] at hr; have hr0 : r = 0 := hr; subst hr0
   have hd : 48 ≤ c.toNat ∧ c.toNat ≤ 57 := by
    rcases (isCon_iff _).1 hco with h | h
    ·rw [hl] at h; cases h
    ·exact h
   refine Ends.yes (by simp) (Ends.yes (by omega) (Ends.yes (by omega) ?_)); rw [decide_eq_true (by omega)]; refine Ends.step (fun k => by simp only [template_zzName.j1]; rfl) ?_; rw [hw]; exact Ends.yes (by simp) (Ends.no (by decide) hn)
  ·rw [hl] at hr; have hr0 : r = 1 := hr; subst hr0; refine Ends.no (by decide) ?_; refine Ends.step (fun k => by simp only [template_zzName.j1]; rfl) ?_; rw [hw]; exact Ends.no (by simp) (Ends.no (by decide) hn)
theorem ends_name (s : BA) (hs : s.size < 4611686018427387904) (i n : Nat) (hn : 0 < n) (hl : ∃ c, At s i c ∧ isLet c.toNat = true) (hc : ∀ j, j < n → ∃ c, At s (i + j) c ∧ isCon c.toNat = true) (he : Stops s (i + n)) :
  Ends (fun r => r = ((i + n : Nat) : Int)) (fun k => template_zzName.f k s (i : Int)) := by
 obtain ⟨c, hat, hco⟩ := hl; have hlt := hat.lt
 unfold template_zzName.f
 refine Ends.bind (ends_letter s i c hat (letter_lt ((isCon_iff _).2 (.inl hco)))) (fun r hr => ?_); rw [hco] at hr; have hr1 : r = 1 := hr; subst hr1; rw [wrap1 i (by omega)]; exact Ends.no (by decide) (ends_name_l s hs i n hc he (n - 1) 1 (by omega))
theorem ends_at_none (s : BA) (hs : s.size < 4611686018427387904) (i : Nat) (c : UInt8) (h : At s i c) (hc : c ≠ 36) : Ends (fun r => r = (([] : List BA), (0 : Int), false)) (fun k => template_zzAt.f k s (i : Int)) := by
 have hlt := h.lt
 have hj : Ends (fun r => r = (([] : List BA), (0 : Int), false)) (fun k => template_zzAt.j0 k s (i : Int) true) := by
  refine Ends.step (fun k => by simp only [template_zzAt.j0]; rfl) ?_; exact Ends.yes (by simp) (Ends.now rfl)
 unfold template_zzAt.f
 have hne : ((c.toNat : Int) != 36) = true := by
  refine bne_iff_ne.2 (fun e => hc ?_); exact UInt8.toNat_inj.1 (by show c.toNat = 36; omega)
 rw [wrap1 i (by omega), h.bt, hne]; exact Ends.ite (fun _ => hj) (fun _ => Ends.yes (by omega) (Ends.yes (by omega) hj))
structure IsName (n : Bs) : Prop where
 ne : n ≠ []
 head : ∀ c, n.head? = some c → isLet c.toNat = true
 con : ∀ c, c ∈ n → isCon c.toNat = true
theorem IsName.pos {n : Bs} (h : IsName n) : 0 < n.length := List.length_pos_iff.2 h.ne
theorem name_at {s : BA} {p n q : Bs} (h : lb s = p ++ n ++ q) (hn : IsName n) : (∃ c, At s p.length c ∧ isLet c.toNat = true) ∧ ∀ j, j < n.length → ∃ c, At s (p.length + j) c ∧ isCon c.toNat = true := by
 have hat : ∀ j, (hj : j < n.length) → At s (p.length + j) n[j] := fun j hj => by
  unfold At
  rw [h, List.append_assoc, List.getElem?_append_right (by omega), List.getElem?_append_left (by omega)]
  simp [hj]
 have hp := hn.pos; refine ⟨⟨n[0], hat 0 hp, hn.head _ ?_⟩, fun j hj => ⟨n[j], hat j hj, hn.con _ (List.getElem_mem hj)⟩⟩; rw [List.head?_eq_getElem?, List.getElem?_eq_getElem hp]
theorem ext_mid {s : BA} {p m q : Bs} (h : lb s = p ++ m ++ q) (a b : Nat) (ha : a = p.length) (hb : b = p.length + m.length) : s.extract a b = mk m := by
 refine eq_mk ?_; rw [lb_extract, h, ha, hb]; rw [List.append_assoc, List.take_append, List.take_of_length_le (by omega), show p.length + m.length - p.length = m.length by omega, List.take_left', List.drop_left']
 ·rfl
 ·rfl
def E0 : BA := ⟨#[]⟩
theorem ends_at_twice (s : BA) (hs : s.size < 4611686018427387904) (p q : Bs) (h : lb s = p ++ [36, 36] ++ q) :
  Ends (fun r => r = ([mk [36, 36], mk [36], E0, E0, E0, E0], ((p.length + 2 : Nat) : Int), true)) (fun k => template_zzAt.f k s (p.length : Int)) := by
 have hsz : s.size = p.length + 2 + q.length := by rw [← yd, h]; simp; omega
 have h0 : At s p.length 36 := At.of (p := p) (q := 36 :: q) (by rw [h]; simp) rfl; have h1 : At s (p.length + 1) 36 := At.of (p := p ++ [36]) (q := q) (by rw [h]; simp) (by simp)
 unfold template_zzAt.f
 have e0 : ((((36 : UInt8).toNat : Int)) != 36) = false := by decide
 rw [wrap1 p.length (by omega), h0.bt, e0]; refine Ends.no (by omega) (Ends.yes (by omega) (Ends.yes (by omega) ?_)); refine Ends.step (fun k => by simp only [template_zzAt.j0]; rfl) ?_; rw [wrap1 p.length (by omega), wrap2 p.length (by omega), h1.bt]; exact Ends.no (by simp) (Ends.yes (by omega) (Ends.yes (by omega) (Ends.yes (by decide) (Ends.now rfl))))
end Go.Proofs.YtjcffojiacgocaaGreatDoor.Tr.Sb
namespace Go.Proofs.YtjcffojiacgocaaGreatDoor.Maps
open Go.RowKit Go.Proofs.YtjcffojiacgocaaGreatDoorW.PrintWords Go.Proofs.YtjcffojiacgocaaGreatDoorW.PrintLast Go.Proofs.YtjcffojiacgocaaGreatDoor.Str Go.Proofs.YtjcffojiacgocaaGreatDoor.Kit Go.Proofs.YtjcffojiacgocaaGreatDoor.Flat Go.Proofs.YtjcffojiacgocaaGreatDoor.MapV Go.Proofs.YtjcffojiacgocaaGreatDoor.Frame Go.Sort Go.Lib
abbrev BA := ByteArray
def encP (x : BA × BA) : List Value := [.string x.1, .string x.2]
theorem encP_len (x : BA × BA) : (encP x).length = 2 := rfl
theorem encP_one (x : BA × BA) : ∀ u ∈ encP x, u.oneCell' = true := by
 intro u hu
 simp [encP] at hu
 rcases hu with rfl | rfl <;> rfl
def kp : Kd (BA × BA) := flat encP 2 encP_len encP_one
def toP (f : List (Bs × BA)) : List (BA × BA) := f.map fun p => (⟨p.1.toArray⟩, p.2)
theorem xh (f : List (Bs × BA)) : (toP f).length = f.length := List.length_map _
def ofP (l : List (BA × BA)) : List (Bs × BA) := l.map fun p => (lb p.1, p.2)
theorem ofP_toP (f : List (Bs × BA)) : ofP (toP f) = f := by
 unfold ofP toP
 rw [List.map_map]
 conv => rhs; rw [← List.map_id f]
 refine List.map_congr_left (fun p _ => ?_)
 simp [lb]
instance : Inhabited (BA × BA) := ⟨(⟨#[]⟩, ⟨#[]⟩)⟩
theorem key_u : Tryz.prog.underlying 9 = some .string := Tryz.underlying9
theorem map_u : Tryz.prog.underlying 111 = some (.map 9 9) := Tryz.underlying111
theorem info_pair : (Tryz.prog.info? 63).map (fun i => (i.zero, i.size, i.bytes)) = some (some (.agg #[.string ⟨#[]⟩, .string ⟨#[]⟩]), 2, 32) := by kernel_rfl
abbrev MapS (w : World) (b : Nat) (f : List (Bs × BA)) : Prop := MapE Tryz.prog 9 Value.string w b f
theorem toP_append (f g : List (Bs × BA)) : toP (f ++ g) = toP f ++ toP g := List.map_append
section
variable {ops : Array Oper} {rest : List Oper} {o : Oper} {a : Act} {Q : Exit → Act → World → Prop}
end
theorem vk : (Tryz.prog.info? 56).map (fun i => (i.zero, i.size, i.bytes)) = some (some (.agg #[.string ⟨#[]⟩, .string ⟨#[]⟩]), 2, 32) := by kernel_rfl
theorem kp_open {w : World} {A : Option Addr} {xs : List (BA × BA)} (h : kp.C w A xs.length xs) (h0 : 0 < xs.length) :
  ∃ bk off, A = some ⟨bk, off, none⟩ ∧ bk < w.heap.size ∧ ∀ (j : Nat) (hj : j < xs.length), w.cell? ⟨bk, off + j * 2, none⟩ = some (.string xs[j].1) ∧ w.cell? ⟨bk, off + j * 2 + 1, none⟩ = some (.string xs[j].2) := by
 obtain ⟨bk, off, rfl, hb, hc⟩ := flat_open h h0 (by decide); refine ⟨bk, off, rfl, hb, fun j hj => ⟨hc j hj 0 _ rfl, ?_⟩⟩; have := hc j hj 1 _ rfl; rw [← Nat.add_assoc] at this; exact this
theorem cell_grown {w w' : World} {row : Option Nat} {p : Addr} {x : Value} (hg : w.grownBy w' row) (hc : w.cell? p = some x) (hn : some p.block ≠ row) : w'.cell? p = some x := by
 have hb := hg.block p.block (World.block_lt_of_cell? w p hc) hn
 unfold World.cell? at hc ⊢
 rw [hb]; exact hc
section
variable {ops : Array Oper} {o : Oper} {a : Act} {Q : Exit → Act → World → Prop} {Kc : Act → World → Prop}
theorem append_pair_step {w0 W : World} {ok : Nat → Prop} (hw : Region.wanted o (yielded ops a.tmps) = true) (hfresh : ∀ k, W.heap.size ≤ k → ok k) (t e : TypeId) (ht : Tryz.prog.underlying t = some (.slice e)) (hinfo : (Tryz.prog.info? e).map (fun i => (i.zero, i.size, i.bytes)) = some (some (.agg #[.string ⟨#[]⟩, .string ⟨#[]⟩]), 2, 32)) (s x : Operand) (ho : o.op = .call { callee := .builtin .append, args := #[s, x], argTypes := #[t, t] })
  {v : Value} {xs : List (BA × BA)} {p q : BA} (hs : a.eval s = v) (hx : a.eval x = .slice (some ⟨W.heap.size, 0, none⟩) 1 1)
  (HO : kp.R e W w0.heap.size ok v xs) (HB : Below w0.heap.size w0 W) (hl : xs.length < 4398046511103)
  (h : ∀ v1 w1, kp.R e w1 w0.heap.size ok v1 (xs ++ [(p, q)]) → Below w0.heap.size w0 w1 → W.grownBy w1 v.ownBlock → Kc (a.put o.dst v1) w1) :
  if Region.wanted o (yielded ops a.tmps) = true then Oper.wp Tryz.prog o a (W.alloc (.cells #[.string p, .string q] e)) Kc Q else Kc (a.put o.dst undef) (W.alloc (.cells #[.string p, .string q] e)) :=
 Kd.R_append_step kp w0.heap.size hw s x t e (.agg #[.string ⟨#[]⟩, .string ⟨#[]⟩]) 32 ho ht hinfo rfl (show 0 < 2 by decide) (by decide) v xs (p, q) (encP (p, q)) ok (fun _ => False) hs hx rfl (fun _ hk => hk.elim) hfresh HO HB HB.size (by omega)
  (fun v1 w1 h2 h3 h4 _ => h v1 w1 h2 h3 h4)
end
end Go.Proofs.YtjcffojiacgocaaGreatDoor.Maps
namespace Go.Proofs.YtjcffojiacgocaaGreatDoor.Maps
open Go.RowKit Go.Proofs.YtjcffojiacgocaaGreatDoorW.PrintWords Go.Proofs.YtjcffojiacgocaaGreatDoorW.PrintLast Go.Proofs.YtjcffojiacgocaaGreatDoor.Str Go.Proofs.YtjcffojiacgocaaGreatDoor.Kit Go.Proofs.YtjcffojiacgocaaGreatDoor.Flat Go.Proofs.YtjcffojiacgocaaGreatDoor.MapV Go.Proofs.YtjcffojiacgocaaGreatDoor.Frame
set_option maxHeartbeats 1600000 in
set_option maxRecDepth 100000 in
theorem pairsTo {A : Option Addr} {c : Nat} (l : List (BA × BA)) (w : World) (h : kp.C w A l.length l) (hn : l.length ≤ 17179869184) :
  Calls Tryz.prog 13 #[.slice A l.length c] w fun e w' => ∃ v, e = .returned v ∧ kp.R 63 w' w.heap.size (fun _ => True) v l ∧ Below w.heap.size w w' := by
 have H := aM h; have HB0 := aM (Below.refl w.heap.size w); clear h
 go_enter Tryz.func13, Tryz.ntmps13
 go_wp2
 go_loopw [3, 4] (fun v3 v4 wr => ∃ i : Nat, v4 = .int .i64 i ∧ i ≤ l.length ∧ Aside0 (kp.R 63 wr w.heap.size (fun _ => True) v3 (l.take i)) ∧ Aside0 (Below w.heap.size w wr)) (fun _ v4 _ => l.length - (intOf v4).toNat)
 case atStart => exact ⟨0, rfl, by omega, ⟨Kd.R_nil _ _ _ _ _⟩, HB0⟩
 case round =>
  clear HB0; obtain ⟨i, rfl, hi, HO, HB⟩ := hrel
  by_cases hlt : i < l.length
  ·obtain ⟨b0, o0, rfl, hb0, hc0⟩ := kp_open H.out (by omega); obtain ⟨g0, g1⟩ := hc0 i hlt; replace g0 := zf HB.out g0; replace g1 := zf HB.out g1
   have q0 : (0 : Int) ≤ (i : Int) := by omega
   have q1 : (i : Int) < (l.length : Int) := by omega
   have HT := aM (show l.take (i + 1) = l.take i ++ [(l[i].1, l[i].2)] by rw [List.take_succ_eq_append_getElem hlt])
   have hln : (l.take i).length < 4398046511103 := by rw [List.length_take]; omega
   generalize l[i].1 = p at g0 HT; generalize l[i].2 = q at g1 HT; obtain ⟨A3, c3, rfl⟩ := Kd.R_slice HO.out
   have hmin : (l.take i).length = i := by rw [List.length_take]; omega
   rw [hmin] at HO ⊢; clear hmin
   have hne : some b0 ≠ (Value.slice A3 i c3).ownBlock := fun e => by have := Kd.R_base HO.out b0 e.symm; omega
   clear hc0
   go_wp2_with fail
   refine xb (n := 15) (S := fun w' => w'.cell? ⟨b0, o0 + i * 2, none⟩ = some (.string p) ∧ w'.cell? ⟨b0, o0 + i * 2 + 1, none⟩ = some (.string q)) (ds := []) (bZ 15 0) (by kernel_rfl) rfl rfl ⟨g0, g1⟩ (fun hHeld => ?_); refine pU 0 (some 11) (bZ 15 1) rfl (by kernel_rfl) ?_; refine pU 1 (some 12) (bZ 15 3) rfl (by kernel_rfl) ?_; refine pU 2 (some 13) (bZ 15 7) rfl (by kernel_rfl) ?_; refine pU 3 (some 14) (bZ 15 15) rfl (by kernel_rfl) ?_; refine pU 4 (some 15) (bZ 15 31) rfl (by kernel_rfl) ?_; refine pU 6 (some 17) (bZ 15 95) rfl (by kernel_rfl) ?_; refine pU 7 (some 18) (bZ 15 223) rfl (by kernel_rfl) ?_; refine pU 8 (some 19) (bZ 15 479) rfl (by kernel_rfl) ?_; refine pU 9 (some 20) (bZ 15 991) rfl (by kernel_rfl) ?_; refine tU 5 (some 16) (bZ 15 1023) rfl (by kernel_rfl) (Or.inl ⟨by rfl, by rintro w' ⟨s0, s1⟩; go_simp; with_reducible rfl⟩) hHeld ?_; refine tU 10 (some 21) (bZ 15 2047) rfl (by kernel_rfl) (Or.inl ⟨by rfl, by rintro w' ⟨s0, s1⟩; go_simp; with_reducible rfl⟩) hHeld ?_; refine pU 11 (some 22) (bZ 15 4095) rfl (by kernel_rfl) ?_; refine one_ (i := 12) (N := some 23) (bZ 15 8191) rfl rfl (by kernel_rfl) (by decide) (fun K hK => ?_); refine yp (w1 := ?_) (v := ?_) (by rfl) rfl ?_ ?_; rotate_left 2
   ·go_simp; constructor
    ·rfl
    ·rfl
   refine hK.out _ _ ⟨zf (za (Below.refl _ _) _) hHeld.1, zf (za (Below.refl _ _) _) hHeld.2⟩ (fun hHeld => ?_); clear hK K; refine zq (a' := ?_) ?_ ?_; rotate_left
   ·show Act.put _ (some 23) _ = _
    simp only [Act.put, sA, sB, sC, zo, zt]; rfl
   refine one_ (i := 13) (N := some 24) (bZ 15 16383) rfl rfl (by kernel_rfl) (by decide) (fun K hK => ?_); have hh0 := hHeld.1; have hh1 := hHeld.2; refine append_pair_step (w0 := w) (ok := fun _ => True) rfl (fun _ _ => trivial) 37 63 Tryz.underlying37 info_pair (.tmp 11) (.tmp 23) rfl rfl rfl (Kd.R_drew HO.out) (zr HB.out) hln ?_; intro v1 w5 ho hb hg; have HO5 := aM ho; have HB5 := aM hb; have k0 := cell_grown hg (show wr.drew.cell? _ = _ from g0) hne; have k1 := cell_grown hg (show wr.drew.cell? _ = _ from g1) hne; clear ho hb hg; refine hK.out _ _ ⟨k0, k1⟩ (fun hHeld => ?_); clear hK K; refine zq (a' := ?_) ?_ ?_; rotate_left
   ·show Act.put _ (some 24) _ = _
    simp only [Act.put, sA, sB, sC, zo, zt]; rfl
   refine pU 14 (some 3) (bZ 15 32767) rfl (by kernel_rfl) ?_; refine xl (by kernel_rfl) ?_
   go_wp2
   go_roundw
   case rel => exact ⟨i + 1, by go_num, by omega, ⟨by rw [HT.out]; exact HO5.out⟩, HB5⟩
   case measure => simp [intOf]; omega
  ·have hall := HO.out; rw [List.take_of_length_le (by omega)] at hall; have HALL := aM hall; clear hall HO
   go_wp2
   go_ret
   exact ⟨_, rfl, HALL.out, HB.out⟩
end Go.Proofs.YtjcffojiacgocaaGreatDoor.Maps
namespace Go.Proofs.YtjcffojiacgocaaGreatDoor.MapV
open Go.RowKit Go.Proofs.YtjcffojiacgocaaGreatDoorW.PrintWords Go.Proofs.YtjcffojiacgocaaGreatDoor.Str
section
variable {α : Type}
theorem fold_snoc : ∀ (g f : List (Bs × α)), Rises (f ++ g) → g.foldl (fun f p => mput f p.1 p.2) f = f ++ g
 | [], f, _ => by simp
 | p :: r, f, h => by
  have h1 := List.pairwise_append.1 h
  have hp : mput f p.1 p.2 = f ++ [p] := by
   rw [mput_ins f.length h1.1 (fun j hj _ => h1.2.2 _ (List.getElem_mem hj) p (by simp)) (Nat.le_refl _) (fun h => absurd h (Nat.lt_irrefl _))]
   simp
  rw [List.foldl_cons, hp, fold_snoc r (f ++ [p]) (by simpa using h)]
  simp
theorem fitM_id {f : List (Bs × α)} (h : Rises f) : fitM f = f := by
 have := fold_snoc f [] (by simpa using h)
 simpa [fitM] using this
end
end Go.Proofs.YtjcffojiacgocaaGreatDoor.MapV
