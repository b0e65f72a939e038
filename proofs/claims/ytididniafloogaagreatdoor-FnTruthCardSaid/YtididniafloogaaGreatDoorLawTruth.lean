/- StringToBool returns the documented value: the walks of the law. -/
import Derived.Test.YtididniafloogaaGreatDoorTruth
namespace Go.Proofs.YtididniafloogaaGreatDoor.Maps
open Go.RowKit Go.Proofs.YtididniafloogaaGreatDoorW.PrintWords Go.Proofs.YtididniafloogaaGreatDoor.Str Go.Proofs.YtididniafloogaaGreatDoor.Kit Go.Proofs.YtididniafloogaaGreatDoor.Flat Go.Proofs.YtididniafloogaaGreatDoor.MapV Go.Proofs.YtididniafloogaaGreatDoor.Frame Go.Proofs.YtididniafloogaaGreatDoor.Index
set_option linter.unusedVariables false
set_option linter.unusedSimpArgs false

/-- a sign of which no truth is spelled -/
def okc (n : Nat) : Bool := (decide (50 ≤ n) && decide (n ≤ 57)) || n == 120 || n == 122 || n == 45
theorem okc_facts : ∀ i : Fin 128, okc i.val = true → Lib.isSp (UInt8.ofNat i.val) = false ∧ Lib.lowerB (UInt8.ofNat i.val) = UInt8.ofNat i.val := by decide
theorem okc_lt {n : Nat} (h : okc n = true) : n < 128 := by
  unfold okc at h
  simp at h
  omega
theorem okc_byte {b : UInt8} (h : okc b.toNat = true) : Lib.isSp b = false ∧ Lib.lowerB b = b := by
  have := okc_facts ⟨b.toNat, okc_lt h⟩ h
  simpa using this
theorem trim_id {l : Bs} (h : ∀ b ∈ l, Lib.isSp b = false) : Lib.trimSpace l = l := by
  have dw : ∀ l : Bs, (∀ b ∈ l, Lib.isSp b = false) → l.dropWhile Lib.isSp = l := by
    intro l h
    cases l with
    | nil => rfl
    | cons x r => rw [List.dropWhile_cons, h x (by simp)]; rfl
  unfold Lib.trimSpace
  rw [dw l h, dw l.reverse (fun b hb => h b (List.mem_reverse.1 hb)), List.reverse_reverse]
theorem lower_id {l : Bs} (h : ∀ b ∈ l, Lib.lowerB b = b) : Lib.toLowerA l = l := by
  unfold Lib.toLowerA
  conv => rhs; rw [← List.map_id l]
  exact List.map_congr_left (fun b hb => h b hb)
def TruthSays (l : Bs) (b : Bool) : Prop := (∀ x ∈ l, x.toNat < 128) ∧ truthB l = b
def TruthPost (s : BA) (w : World) (e : Ending) (w' : World) : Prop := w' = w ∧ ∃ b o : Bool, e = .returned (.tuple #[.bool b, .bool o]) ∧ (o = true → TruthSays (lb s) b)
theorem TruthPost.no {s : BA} {w : World} : TruthPost s w (.returned (.tuple #[.bool false, .bool false])) w := ⟨rfl, _, _, rfl, fun h => by cases h⟩
theorem TruthPost.yes {s : BA} {w : World} {b : Bool} (h : TruthSays (lb s) b) : TruthPost s w (.returned (.tuple #[.bool b, .bool true])) w := ⟨rfl, _, _, rfl, fun _ => h⟩
set_option maxHeartbeats 6400000 in
set_option maxRecDepth 100000 in
theorem Truth (s : BA) (w : World) (hs : s.size ≤ 4398046511104) : Calls Tryz.prog 17 #[.string s] w (TruthPost s w) := by
  by_cases h0 : s.toList = [49]
  · have Y := Aside0.mk (show TruthSays (lb s) true by rw [← toList_lb, h0]; exact ⟨by decide, by decide +kernel⟩)
    have t0 : (s.toList == [49]) = true := by rw [h0]; rfl
    clear h0
    go_enter Tryz.func17, Tryz.ntmps17
    go_wp2
    go_ret2
    exact TruthPost.yes Y.out
  by_cases h1 : s.toList = [116]
  · have Y := Aside0.mk (show TruthSays (lb s) true by rw [← toList_lb, h1]; exact ⟨by decide, by decide +kernel⟩)
    have t0 : (s.toList == [49]) = false := by rw [h1]; rfl
    have t1 : (s.toList == [116]) = true := by rw [h1]; rfl
    clear h0 h1
    go_enter Tryz.func17, Tryz.ntmps17
    go_wp2
    go_ret2
    exact TruthPost.yes Y.out
  by_cases h2 : s.toList = [84]
  · have Y := Aside0.mk (show TruthSays (lb s) true by rw [← toList_lb, h2]; exact ⟨by decide, by decide +kernel⟩)
    have t0 : (s.toList == [49]) = false := by rw [h2]; rfl
    have t1 : (s.toList == [116]) = false := by rw [h2]; rfl
    have t2 : (s.toList == [84]) = true := by rw [h2]; rfl
    clear h0 h1 h2
    go_enter Tryz.func17, Tryz.ntmps17
    go_wp2
    go_ret2
    exact TruthPost.yes Y.out
  by_cases h3 : s.toList = [116, 114, 117, 101]
  · have Y := Aside0.mk (show TruthSays (lb s) true by rw [← toList_lb, h3]; exact ⟨by decide, by decide +kernel⟩)
    have t0 : (s.toList == [49]) = false := by rw [h3]; rfl
    have t1 : (s.toList == [116]) = false := by rw [h3]; rfl
    have t2 : (s.toList == [84]) = false := by rw [h3]; rfl
    have t3 : (s.toList == [116, 114, 117, 101]) = true := by rw [h3]; rfl
    clear h0 h1 h2 h3
    go_enter Tryz.func17, Tryz.ntmps17
    go_wp2
    go_ret2
    exact TruthPost.yes Y.out
  by_cases h4 : s.toList = [84, 114, 117, 101]
  · have Y := Aside0.mk (show TruthSays (lb s) true by rw [← toList_lb, h4]; exact ⟨by decide, by decide +kernel⟩)
    have t0 : (s.toList == [49]) = false := by rw [h4]; rfl
    have t1 : (s.toList == [116]) = false := by rw [h4]; rfl
    have t2 : (s.toList == [84]) = false := by rw [h4]; rfl
    have t3 : (s.toList == [116, 114, 117, 101]) = false := by rw [h4]; rfl
    have t4 : (s.toList == [84, 114, 117, 101]) = true := by rw [h4]; rfl
    clear h0 h1 h2 h3 h4
    go_enter Tryz.func17, Tryz.ntmps17
    go_wp2
    go_ret2
    exact TruthPost.yes Y.out
  by_cases h5 : s.toList = [84, 82, 85, 69]
  · have Y := Aside0.mk (show TruthSays (lb s) true by rw [← toList_lb, h5]; exact ⟨by decide, by decide +kernel⟩)
    have t0 : (s.toList == [49]) = false := by rw [h5]; rfl
    have t1 : (s.toList == [116]) = false := by rw [h5]; rfl
    have t2 : (s.toList == [84]) = false := by rw [h5]; rfl
    have t3 : (s.toList == [116, 114, 117, 101]) = false := by rw [h5]; rfl
    have t4 : (s.toList == [84, 114, 117, 101]) = false := by rw [h5]; rfl
    have t5 : (s.toList == [84, 82, 85, 69]) = true := by rw [h5]; rfl
    clear h0 h1 h2 h3 h4 h5
    go_enter Tryz.func17, Tryz.ntmps17
    go_wp2
    go_ret2
    exact TruthPost.yes Y.out
  by_cases h6 : s.toList = [48]
  · have Y := Aside0.mk (show TruthSays (lb s) false by rw [← toList_lb, h6]; exact ⟨by decide, by decide +kernel⟩)
    have t0 : (s.toList == [49]) = false := by rw [h6]; rfl
    have t1 : (s.toList == [116]) = false := by rw [h6]; rfl
    have t2 : (s.toList == [84]) = false := by rw [h6]; rfl
    have t3 : (s.toList == [116, 114, 117, 101]) = false := by rw [h6]; rfl
    have t4 : (s.toList == [84, 114, 117, 101]) = false := by rw [h6]; rfl
    have t5 : (s.toList == [84, 82, 85, 69]) = false := by rw [h6]; rfl
    have t6 : (s.toList == [48]) = true := by rw [h6]; rfl
    clear h0 h1 h2 h3 h4 h5 h6
    go_enter Tryz.func17, Tryz.ntmps17
    go_wp2
    go_ret2
    exact TruthPost.yes Y.out
  by_cases h7 : s.toList = [102]
  · have Y := Aside0.mk (show TruthSays (lb s) false by rw [← toList_lb, h7]; exact ⟨by decide, by decide +kernel⟩)
    have t0 : (s.toList == [49]) = false := by rw [h7]; rfl
    have t1 : (s.toList == [116]) = false := by rw [h7]; rfl
    have t2 : (s.toList == [84]) = false := by rw [h7]; rfl
    have t3 : (s.toList == [116, 114, 117, 101]) = false := by rw [h7]; rfl
    have t4 : (s.toList == [84, 114, 117, 101]) = false := by rw [h7]; rfl
    have t5 : (s.toList == [84, 82, 85, 69]) = false := by rw [h7]; rfl
    have t6 : (s.toList == [48]) = false := by rw [h7]; rfl
    have t7 : (s.toList == [102]) = true := by rw [h7]; rfl
    clear h0 h1 h2 h3 h4 h5 h6 h7
    go_enter Tryz.func17, Tryz.ntmps17
    go_wp2
    go_ret2
    exact TruthPost.yes Y.out
  by_cases h8 : s.toList = [70]
  · have Y := Aside0.mk (show TruthSays (lb s) false by rw [← toList_lb, h8]; exact ⟨by decide, by decide +kernel⟩)
    have t0 : (s.toList == [49]) = false := by rw [h8]; rfl
    have t1 : (s.toList == [116]) = false := by rw [h8]; rfl
    have t2 : (s.toList == [84]) = false := by rw [h8]; rfl
    have t3 : (s.toList == [116, 114, 117, 101]) = false := by rw [h8]; rfl
    have t4 : (s.toList == [84, 114, 117, 101]) = false := by rw [h8]; rfl
    have t5 : (s.toList == [84, 82, 85, 69]) = false := by rw [h8]; rfl
    have t6 : (s.toList == [48]) = false := by rw [h8]; rfl
    have t7 : (s.toList == [102]) = false := by rw [h8]; rfl
    have t8 : (s.toList == [70]) = true := by rw [h8]; rfl
    clear h0 h1 h2 h3 h4 h5 h6 h7 h8
    go_enter Tryz.func17, Tryz.ntmps17
    go_wp2
    go_ret2
    exact TruthPost.yes Y.out
  by_cases h9 : s.toList = [102, 97, 108, 115, 101]
  · have Y := Aside0.mk (show TruthSays (lb s) false by rw [← toList_lb, h9]; exact ⟨by decide, by decide +kernel⟩)
    have t0 : (s.toList == [49]) = false := by rw [h9]; rfl
    have t1 : (s.toList == [116]) = false := by rw [h9]; rfl
    have t2 : (s.toList == [84]) = false := by rw [h9]; rfl
    have t3 : (s.toList == [116, 114, 117, 101]) = false := by rw [h9]; rfl
    have t4 : (s.toList == [84, 114, 117, 101]) = false := by rw [h9]; rfl
    have t5 : (s.toList == [84, 82, 85, 69]) = false := by rw [h9]; rfl
    have t6 : (s.toList == [48]) = false := by rw [h9]; rfl
    have t7 : (s.toList == [102]) = false := by rw [h9]; rfl
    have t8 : (s.toList == [70]) = false := by rw [h9]; rfl
    have t9 : (s.toList == [102, 97, 108, 115, 101]) = true := by rw [h9]; rfl
    clear h0 h1 h2 h3 h4 h5 h6 h7 h8 h9
    go_enter Tryz.func17, Tryz.ntmps17
    go_wp2
    go_ret2
    exact TruthPost.yes Y.out
  by_cases h10 : s.toList = [70, 97, 108, 115, 101]
  · have Y := Aside0.mk (show TruthSays (lb s) false by rw [← toList_lb, h10]; exact ⟨by decide, by decide +kernel⟩)
    have t0 : (s.toList == [49]) = false := by rw [h10]; rfl
    have t1 : (s.toList == [116]) = false := by rw [h10]; rfl
    have t2 : (s.toList == [84]) = false := by rw [h10]; rfl
    have t3 : (s.toList == [116, 114, 117, 101]) = false := by rw [h10]; rfl
    have t4 : (s.toList == [84, 114, 117, 101]) = false := by rw [h10]; rfl
    have t5 : (s.toList == [84, 82, 85, 69]) = false := by rw [h10]; rfl
    have t6 : (s.toList == [48]) = false := by rw [h10]; rfl
    have t7 : (s.toList == [102]) = false := by rw [h10]; rfl
    have t8 : (s.toList == [70]) = false := by rw [h10]; rfl
    have t9 : (s.toList == [102, 97, 108, 115, 101]) = false := by rw [h10]; rfl
    have t10 : (s.toList == [70, 97, 108, 115, 101]) = true := by rw [h10]; rfl
    clear h0 h1 h2 h3 h4 h5 h6 h7 h8 h9 h10
    go_enter Tryz.func17, Tryz.ntmps17
    go_wp2
    go_ret2
    exact TruthPost.yes Y.out
  by_cases h11 : s.toList = [70, 65, 76, 83, 69]
  · have Y := Aside0.mk (show TruthSays (lb s) false by rw [← toList_lb, h11]; exact ⟨by decide, by decide +kernel⟩)
    have t0 : (s.toList == [49]) = false := by rw [h11]; rfl
    have t1 : (s.toList == [116]) = false := by rw [h11]; rfl
    have t2 : (s.toList == [84]) = false := by rw [h11]; rfl
    have t3 : (s.toList == [116, 114, 117, 101]) = false := by rw [h11]; rfl
    have t4 : (s.toList == [84, 114, 117, 101]) = false := by rw [h11]; rfl
    have t5 : (s.toList == [84, 82, 85, 69]) = false := by rw [h11]; rfl
    have t6 : (s.toList == [48]) = false := by rw [h11]; rfl
    have t7 : (s.toList == [102]) = false := by rw [h11]; rfl
    have t8 : (s.toList == [70]) = false := by rw [h11]; rfl
    have t9 : (s.toList == [102, 97, 108, 115, 101]) = false := by rw [h11]; rfl
    have t10 : (s.toList == [70, 97, 108, 115, 101]) = false := by rw [h11]; rfl
    have t11 : (s.toList == [70, 65, 76, 83, 69]) = true := by rw [h11]; rfl
    clear h0 h1 h2 h3 h4 h5 h6 h7 h8 h9 h10 h11
    go_enter Tryz.func17, Tryz.ntmps17
    go_wp2
    go_ret2
    exact TruthPost.yes Y.out
  have t0 : (s.toList == [49]) = false := beq_eq_false_iff_ne.mpr h0
  have t1 : (s.toList == [116]) = false := beq_eq_false_iff_ne.mpr h1
  have t2 : (s.toList == [84]) = false := beq_eq_false_iff_ne.mpr h2
  have t3 : (s.toList == [116, 114, 117, 101]) = false := beq_eq_false_iff_ne.mpr h3
  have t4 : (s.toList == [84, 114, 117, 101]) = false := beq_eq_false_iff_ne.mpr h4
  have t5 : (s.toList == [84, 82, 85, 69]) = false := beq_eq_false_iff_ne.mpr h5
  have t6 : (s.toList == [48]) = false := beq_eq_false_iff_ne.mpr h6
  have t7 : (s.toList == [102]) = false := beq_eq_false_iff_ne.mpr h7
  have t8 : (s.toList == [70]) = false := beq_eq_false_iff_ne.mpr h8
  have t9 : (s.toList == [102, 97, 108, 115, 101]) = false := beq_eq_false_iff_ne.mpr h9
  have t10 : (s.toList == [70, 97, 108, 115, 101]) = false := beq_eq_false_iff_ne.mpr h10
  have t11 : (s.toList == [70, 65, 76, 83, 69]) = false := beq_eq_false_iff_ne.mpr h11
  by_cases he : s.size = 0
  · have Y := Aside0.mk (show TruthSays (lb s) false by
      have : lb s = [] := List.eq_nil_of_length_eq_zero (by rw [lb_length]; exact he)
      rw [this]
      exact ⟨by simp, by decide +kernel⟩)
    have t12 : (s.toList == ([] : List UInt8)) = true := by rw [toList_lb, List.eq_nil_of_length_eq_zero (show (lb s).length = 0 by rw [lb_length]; exact he)]; rfl
    have t13 : s.toList.isEmpty = true := by rw [toList_lb, List.eq_nil_of_length_eq_zero (show (lb s).length = 0 by rw [lb_length]; exact he)]; rfl
    have t14 : s.toList = [] := by rw [toList_lb]; exact List.eq_nil_of_length_eq_zero (show (lb s).length = 0 by rw [lb_length]; exact he)
    clear h0 h1 h2 h3 h4 h5 h6 h7 h8 h9 h10 h11 he
    go_enter Tryz.func17, Tryz.ntmps17
    go_wp2
    go_ret2
    exact TruthPost.yes Y.out
  · have hne : lb s ≠ [] := fun e => he (by rw [← lb_length, e]; rfl)
    have t12 : (s.toList == ([] : List UInt8)) = false := by rw [toList_lb]; simpa using hne
    have t13 : s.toList.isEmpty = false := by rw [toList_lb]; simpa using hne
    have t14 : ¬ s.toList = [] := by rw [toList_lb]; exact hne
    have HALL := Aside0.mk (show (∀ b ∈ lb s, okc b.toNat = true) → TruthSays (lb s) false from fun h => by
      refine ⟨fun b hb => okc_lt (h b hb), ?_⟩
      unfold truthB
      rw [trim_id (fun b hb => (okc_byte (h b hb)).1), lower_id (fun b hb => (okc_byte (h b hb)).2), Lib.parseBool_bytes]
      rw [← toList_lb]
      rw [t0, t1, t2, t3, t4, t5, t6, t7, t8, t9, t10, t11]
      rfl)
    clear h0 h1 h2 h3 h4 h5 h6 h7 h8 h9 h10 h11 he hne
    go_enter Tryz.func17, Tryz.ntmps17
    go_wp2
    go_loop [4] (fun v4 => ∃ i : Nat, v4 = .int .i64 i ∧ i ≤ s.size ∧ Aside0 (∀ b ∈ (lb s).take i, okc b.toNat = true)) (fun v4 => s.size - (intOf v4).toNat)
    case atStart => exact ⟨0, rfl, by omega, ⟨by simp⟩⟩
    case round =>
      obtain ⟨i, rfl, hi, HT⟩ := hrel
      by_cases hlt : i < s.size
      · have hlt' : i < (lb s).length := by rw [lb_length]; exact hlt
        have q0 : (0 : Int) ≤ (i : Int) := by omega
        have q1 : (i : Int) < (s.size : Int) := by omega
        obtain ⟨b, hb⟩ : ∃ b : UInt8, (lb s)[i] = b := ⟨_, rfl⟩
        have hbs : s[i] = b := hb
        have hcv : (s[i].toNat : Int) = (b.toNat : Int) := by rw [hbs]
        have HX := Aside0.mk (show okc b.toNat = true → ∀ b ∈ (lb s).take (i + 1), okc b.toNat = true from fun h => by
          rw [List.take_succ_eq_append_getElem hlt', hb]
          intro x hx
          rcases List.mem_append.1 hx with hx | hx
          · exact HT.out x hx
          · simp at hx; subst hx; exact h)
        clear hb hbs
        obtain ⟨n, hn⟩ : ∃ n : Nat, b.toNat = n := ⟨_, rfl⟩
        rw [hn] at hcv HX
        clear hn
        by_cases c1 : 50 ≤ n ∧ n ≤ 57
        · have Y := Aside0.mk (HX.out (by unfold okc; simp [c1.1, c1.2]))
          obtain ⟨c1, c2⟩ := c1
          clear HX
          go_wp2
          go_round
          case rel => exact ⟨i + 1, by go_num, by omega, Y⟩
          case measure => simp [intOf]; omega
        · by_cases c2 : n = 120
          · have Y := Aside0.mk (HX.out (by rw [c2]; rfl))
            subst c2
            clear HX c1
            go_wp2
            go_round
            case rel => exact ⟨i + 1, by go_num, by omega, Y⟩
            case measure => simp [intOf]; omega
          · by_cases c3 : n = 122
            · have Y := Aside0.mk (HX.out (by rw [c3]; rfl))
              subst c3
              clear HX c1
              go_wp2
              go_round
              case rel => exact ⟨i + 1, by go_num, by omega, Y⟩
              case measure => simp [intOf]; omega
            · by_cases c4 : n = 45
              · have Y := Aside0.mk (HX.out (by rw [c4]; rfl))
                subst c4
                clear HX c1
                go_wp2
                go_round
                case rel => exact ⟨i + 1, by go_num, by omega, Y⟩
                case measure => simp [intOf]; omega
              · have e2 : ((n : Int) != 120) = true := by simpa using (show ¬ (n : Int) = 120 by omega)
                have e3 : ((n : Int) != 122) = true := by simpa using (show ¬ (n : Int) = 122 by omega)
                have e4 : ((n : Int) != 45) = true := by simpa using (show ¬ (n : Int) = 45 by omega)
                have e5 : ((n : Int) == 120) = false := by simpa using (show ¬ (n : Int) = 120 by omega)
                have e6 : ((n : Int) == 122) = false := by simpa using (show ¬ (n : Int) = 122 by omega)
                have e7 : ((n : Int) == 45) = false := by simpa using (show ¬ (n : Int) = 45 by omega)
                clear HX c2 c3 c4
                by_cases c5 : 50 ≤ n
                · have c6 : 57 < n := by omega
                  have e8 : decide ((n : Int) ≤ 57) = false := decide_eq_false (by omega)
                  have e9 : decide ((57 : Int) < (n : Int)) = true := decide_eq_true (by omega)
                  clear c1
                  go_wp2
                  go_ret2
                  exact TruthPost.no
                · have c6 : n < 50 := by omega
                  clear c1 c5
                  go_wp2
                  go_ret2
                  exact TruthPost.no
      · have Y := Aside0.mk (HALL.out (by
          have := HT.out
          rw [List.take_of_length_le (by rw [lb_length]; omega)] at this
          exact this))
        clear HT
        go_wp2
        go_ret2
        exact TruthPost.yes Y.out
set_option maxHeartbeats 1600000 in
theorem lawTruth (s : BA) (w : World) (_ : s.size ≤ 140737488351232) (hT : MTabs w) :
    Calls Tryz.prog 4 #[.string s] w fun e w' => e = .returned (.bool true) ∧ Below w.heap.size w w' := by
  have HT := Aside0.mk hT
  have HB0 := Aside0.mk (Below.refl w.heap.size w)
  clear hT
  by_cases hs : 2147483647 < s.size
  · have hs' : (2147483647 : Int) < (s.size : Int) := by omega
    clear hs
    go_enter Tryz.func4, Tryz.ntmps4
    go_wp2
    go_ret
    exact ⟨rfl, HB0.out⟩
  · have hs' : ¬ (2147483647 : Int) < (s.size : Int) := by omega
    have CT := Aside0.mk (Truth s w (by omega))
    have CS := Aside0.mk (fun (b : Bool) (h : TruthSays (lb s) b) => show Calls Tryz.prog 18 #[.string s] w fun e w' => e = .returned (.bool b) ∧ Below w.heap.size w w' from by
      have := StringToBool s w h.1 (by omega) HT.out
      rw [h.2] at this
      exact this)
    clear hs
    go_enter Tryz.func4, Tryz.ntmps4
    go_wp2_with fail
    refine CT.out.mono ?_
    rintro e w1 ⟨rfl, b, o, rfl, hn⟩
    have HN := Aside0.mk hn
    clear hn
    cases o
    · go_wp2_with fail
      refine (mapsAwake _ HT.out).mono ?_
      rintro e w2 ⟨rfl, hb⟩
      have HB := Aside0.mk hb
      clear hb
      go_wp2
      go_ret
      exact ⟨rfl, HB.out⟩
    · have hbb : (b == b) = true := beq_self_eq_true b
      go_wp2_with fail
      refine (CS.out b (HN.out (by trivial))).mono ?_
      rintro e w2 ⟨rfl, hb⟩
      have HB := Aside0.mk hb
      have HT2 := Aside0.mk (HT.out.below hb)
      clear hb
      go_wp2_with fail
      refine (mapsAwake _ HT2.out).mono ?_
      rintro e w3 ⟨rfl, hb⟩
      have HB3 := Aside0.mk (hb_then HB.out hb)
      clear hb
      go_wp2
      go_ret
      exact ⟨rfl, HB3.out⟩
end Go.Proofs.YtididniafloogaaGreatDoor.Maps
