/- ArrayContains and its reference: the walks of the law. -/
import Derived.Test.YtididniafloogaaGreatDoorTruth
import Derived.Test.YtididniafloogaaGreatDoorTexts
namespace Go.Proofs.YtididniafloogaaGreatDoor.Maps
open Go.RowKit Go.Proofs.YtididniafloogaaGreatDoorW.PrintWords Go.Proofs.YtididniafloogaaGreatDoor.Str Go.Proofs.YtididniafloogaaGreatDoor.Kit Go.Proofs.YtididniafloogaaGreatDoor.Flat Go.Proofs.YtididniafloogaaGreatDoor.MapV Go.Proofs.YtididniafloogaaGreatDoor.Frame Go.Proofs.YtididniafloogaaGreatDoor.Index
set_option linter.unusedVariables false
set_option linter.unusedSimpArgs false

def inB (xs : List ByteArray) (x : ByteArray) : Bool := xs.any fun y => lb y == lb x
theorem mapsIn {A : Option Addr} {c : Nat} {xs : List ByteArray} (x : ByteArray) (w : World) (h : Kd.string.C w A xs.length xs) (hn : xs.length ≤ 4398046511104) :
    Calls Tryz.prog 58 #[.slice A xs.length c, .string x] w fun e w' => e = .returned (.bool (inB xs x)) ∧ w' = w := by
  have H := Aside0.mk h
  clear h
  go_enter Tryz.func58, Tryz.ntmps58
  go_wp2
  go_loop [5] (fun v5 => ∃ i : Nat, v5 = .int .i64 i ∧ i ≤ xs.length ∧ Aside0 (inB (xs.take i) x = false)) (fun v5 => xs.length - (intOf v5).toNat)
  case atStart => exact ⟨0, rfl, by omega, ⟨rfl⟩⟩
  case round =>
    obtain ⟨i, rfl, hi, HA⟩ := hrel
    by_cases hlt : i < xs.length
    · obtain ⟨b0, o0, rfl, hb0, hc0⟩ := strs_open H.out (by omega)
      have g0 := hc0 i hlt
      have q0 : (0 : Int) ≤ (i : Int) := by omega
      have q1 : (i : Int) < (xs.length : Int) := by omega
      have ST := Aside0.mk (show inB (xs.take (i + 1)) x = (lb xs[i] == lb x) by
        have h1 := HA.out
        unfold inB at h1 ⊢
        rw [List.take_succ_eq_append_getElem hlt, List.any_append, h1]
        simp)
      have YE := Aside0.mk (show (lb xs[i] == lb x) = true → inB xs x = true from fun h => List.any_eq_true.2 ⟨_, List.getElem_mem hlt, h⟩)
      have e0 : (xs[i].toList == x.toList) = (lb xs[i] == lb x) := by rw [toList_lb, toList_lb]
      generalize xs[i] = y at g0 ST YE e0
      clear hc0
      cases hb : (lb y == lb x)
      · rw [hb] at ST e0
        clear hb
        go_wp2
        go_round
        case rel => exact ⟨i + 1, by go_num, by omega, ST⟩
        case measure => simp [intOf]; omega
      · rw [hb] at e0 YE
        have Y := Aside0.mk (YE.out rfl)
        clear hb
        go_wp2
        go_ret
        exact ⟨by rw [Y.out]; rfl, rfl⟩
    · have hall := HA.out
      rw [List.take_of_length_le (by omega)] at hall
      have HALL := Aside0.mk hall
      clear hall HA
      go_wp2
      go_ret
      exact ⟨by rw [HALL.out]; rfl, rfl⟩
/-- each of a row stands in another one -/
def allIn (l all : List ByteArray) : Bool := l.all fun x => inB all x
theorem allIn_take (l all : List ByteArray) (i : Nat) (h : i < l.length) : allIn (l.take (i + 1)) all = (allIn (l.take i) all && inB all l[i]) := by
  unfold allIn
  rw [List.take_succ_eq_append_getElem h, List.all_append]
  simp
theorem allIn_no {l all : List ByteArray} {i : Nat} (h : i < l.length) (hn : inB all l[i] = false) : allIn l all = false := by
  unfold allIn
  rw [List.all_eq_false]
  exact ⟨_, List.getElem_mem h, by simp [hn]⟩
set_option maxHeartbeats 800000 in
theorem Within {A B : Option Addr} {c d : Nat} {l all : List ByteArray} (w : World) (h : Kd.string.C w A l.length l) (k : Kd.string.C w B all.length all) (hn : l.length ≤ 4398046511104) (hm : all.length ≤ 4398046511104) :
    Calls Tryz.prog 24 #[.slice A l.length c, .slice B all.length d] w fun e w' => e = .returned (.bool (allIn l all)) ∧ w' = w := by
  have H := Aside0.mk h
  have K := Aside0.mk k
  clear h k
  go_enter Tryz.func24, Tryz.ntmps24
  go_wp2
  go_loop [5] (fun v5 => ∃ i : Nat, v5 = .int .i64 i ∧ i ≤ l.length ∧ Aside0 (allIn (l.take i) all = true)) (fun v5 => l.length - (intOf v5).toNat)
  case atStart => exact ⟨0, rfl, by omega, ⟨rfl⟩⟩
  case round =>
    obtain ⟨i, rfl, hi, HA⟩ := hrel
    by_cases hlt : i < l.length
    · obtain ⟨b0, o0, rfl, hb0, hc0⟩ := strs_open H.out (by omega)
      have g0 := hc0 i hlt
      have q0 : (0 : Int) ≤ (i : Int) := by omega
      have q1 : (i : Int) < (l.length : Int) := by omega
      have CM := Aside0.mk (mapsIn (c := d) l[i] w K.out hm)
      have ST := Aside0.mk (allIn_take l all i hlt)
      have NO := Aside0.mk (fun h => allIn_no (all := all) hlt h)
      generalize l[i] = x at g0 CM ST NO
      clear hc0
      cases hb : inB all x
      · rw [hb] at CM
        have Y := Aside0.mk (NO.out hb)
        clear hb
        go_wp2_with (refine CM.out.mono ?_; rintro e w2 ⟨rfl, rfl⟩)
        go_ret
        exact ⟨by rw [Y.out]; rfl, rfl⟩
      · rw [hb] at CM
        have Y := Aside0.mk (show allIn (l.take (i + 1)) all = true by rw [ST.out, HA.out, hb]; rfl)
        clear hb
        go_wp2_with (refine CM.out.mono ?_; rintro e w2 ⟨rfl, rfl⟩)
        go_round
        case rel => exact ⟨i + 1, by go_num, by omega, Y⟩
        case measure => simp [intOf]; omega
    · have hall := HA.out
      rw [List.take_of_length_le (by omega)] at hall
      have HALL := Aside0.mk hall
      clear hall HA
      go_wp2
      go_ret
      exact ⟨by rw [HALL.out]; rfl, rfl⟩
theorem contains_in (all : List ByteArray) (x : ByteArray) : Lib.containsS all x = inB all x := by
  rw [Bool.eq_iff_iff, Lib.containsS_iff]
  unfold inB
  rw [List.any_eq_true]
  constructor
  · intro h
    exact ⟨x, h, beq_self_eq_true _⟩
  · rintro ⟨y, hy, he⟩
    rw [← lb_inj (beq_iff_eq.1 he)]
    exact hy
theorem Contains {B : Option Addr} {d : Nat} {all : List ByteArray} (x : ByteArray) (w : World) (k : Kd.string.C w B all.length all) :
    Calls Tryz.prog 85 #[.slice B all.length d, .string x] w fun e w' => e = .returned (.bool (inB all x)) ∧ w' = w := by
  rcases Nat.eq_zero_or_pos all.length with h0 | h0
  · obtain rfl := List.eq_nil_of_length_eq_zero h0
    exact Tryz.slices_Contains_string_empty B d x w
  · obtain ⟨b0, o0, rfl, hb0, hc0⟩ := strs_open k h0
    have := Tryz.slices_Contains_string b0 o0 all.length d all x w (Nat.le_refl _) k.2.1 (fun j hj => by rw [hc0 j hj]; simp [List.getD, List.getElem?_eq_getElem hj])
    rw [List.take_length, contains_in] at this
    exact this
set_option maxHeartbeats 800000 in
theorem utilsContains {A B : Option Addr} {c d : Nat} {l all : List ByteArray} (w : World) (h : Kd.string.C w A l.length l) (k : Kd.string.C w B all.length all) (hn : l.length ≤ 4398046511104) :
    Calls Tryz.prog 57 #[.slice B all.length d, .slice A l.length c] w fun e w' => e = .returned (.bool (allIn l all)) ∧ w' = w := by
  have H := Aside0.mk h
  have K := Aside0.mk k
  clear h k
  go_enter Tryz.func57, Tryz.ntmps57
  go_wp2
  go_loop [9] (fun v5 => ∃ i : Nat, v5 = .int .i64 i ∧ i ≤ l.length ∧ Aside0 (allIn (l.take i) all = true)) (fun v5 => l.length - (intOf v5).toNat)
  case atStart => exact ⟨0, rfl, by omega, ⟨rfl⟩⟩
  case round =>
    obtain ⟨i, rfl, hi, HA⟩ := hrel
    by_cases hlt : i < l.length
    · obtain ⟨b0, o0, rfl, hb0, hc0⟩ := strs_open H.out (by omega)
      have g0 := hc0 i hlt
      have q0 : (0 : Int) ≤ (i : Int) := by omega
      have q1 : (i : Int) < (l.length : Int) := by omega
      have CM := Aside0.mk (Contains (d := d) l[i] w K.out)
      have ST := Aside0.mk (allIn_take l all i hlt)
      have NO := Aside0.mk (fun h => allIn_no (all := all) hlt h)
      generalize l[i] = x at g0 CM ST NO
      clear hc0
      cases hb : inB all x
      · rw [hb] at CM
        have Y := Aside0.mk (NO.out hb)
        clear hb
        go_wp2_with (refine CM.out.mono ?_; rintro e w2 ⟨rfl, rfl⟩)
        go_ret
        exact ⟨by rw [Y.out]; rfl, rfl⟩
      · rw [hb] at CM
        have Y := Aside0.mk (show allIn (l.take (i + 1)) all = true by rw [ST.out, HA.out, hb]; rfl)
        clear hb
        go_wp2_with (refine CM.out.mono ?_; rintro e w2 ⟨rfl, rfl⟩)
        go_round
        case rel => exact ⟨i + 1, by go_num, by omega, Y⟩
        case measure => simp [intOf]; omega
    · have hall := HA.out
      rw [List.take_of_length_le (by omega)] at hall
      have HALL := Aside0.mk hall
      clear hall HA
      go_wp2
      go_ret
      exact ⟨by rw [HALL.out]; rfl, rfl⟩
theorem ArrayContains {A B : Option Addr} {c d : Nat} {l all : List ByteArray} (w : World) (h : Kd.string.C w A l.length l) (k : Kd.string.C w B all.length all) (hn : l.length ≤ 4398046511104) :
    Calls Tryz.prog 23 #[.slice B all.length d, .slice A l.length c] w fun e w' => e = .returned (.bool (allIn l all)) ∧ w' = w := by
  have CU := Aside0.mk (utilsContains (c := c) (d := d) w h k hn)
  clear h k
  generalize allIn l all = r at CU
  go_enter Tryz.func23, Tryz.ntmps23
  go_wp2_with (refine CU.out.mono ?_; rintro e w2 ⟨rfl, rfl⟩)
  go_ret
  exact ⟨rfl, rfl⟩
set_option maxHeartbeats 1600000 in
theorem lawContains {A B : Option Addr} {c d : Nat} {l all : List ByteArray} (w : World) (h : Kd.string.C w A l.length l) (hc : l.length ≤ c) (k : Kd.string.C w B all.length all) (hd : all.length ≤ d) (hT : MTabs w) :
    Calls Tryz.prog 6 #[.slice A l.length c, .slice B all.length d] w fun e w' => e = .returned (.bool true) ∧ Below w.heap.size w w' := by
  have H := Aside0.mk h
  have K := Aside0.mk k
  have HT := Aside0.mk hT
  have HB0 := Aside0.mk (Below.refl w.heap.size w)
  clear h k hT hc hd
  have CF1 := Aside0.mk (Texts.zzFits2 (c := c) w H.out)
  have CF2 := Aside0.mk (Texts.zzFits2 (c := d) w K.out)
  by_cases f1 : Texts.fits l
  · rw [decide_eq_true f1] at CF1
    by_cases f2 : Texts.fits all
    · rw [decide_eq_true f2] at CF2
      have CA := Aside0.mk (ArrayContains (c := c) (d := d) w H.out K.out (by have := f1.1; omega))
      have CW := Aside0.mk (Within (c := c) (d := d) w H.out K.out (by have := f1.1; omega) (by have := f2.1; omega))
      generalize allIn l all = r at CA CW
      have hrr : (r == r) = true := beq_self_eq_true r
      clear f1 f2
      go_enter Tryz.func6, Tryz.ntmps6
      go_wp2_with fail
      refine CF1.out.mono ?_
      rintro e w1 ⟨rfl, rfl⟩
      go_wp2_with fail
      refine CF2.out.mono ?_
      rintro e w1 ⟨rfl, rfl⟩
      go_wp2_with fail
      refine CA.out.mono ?_
      rintro e w1 ⟨rfl, rfl⟩
      go_wp2_with fail
      refine CW.out.mono ?_
      rintro e w1 ⟨rfl, rfl⟩
      go_wp2_with fail
      refine (mapsAwake _ HT.out).mono ?_
      rintro e w3 ⟨rfl, hb⟩
      have HB3 := Aside0.mk hb
      clear hb
      go_wp2
      go_ret
      exact ⟨rfl, HB3.out⟩
    · rw [decide_eq_false f2] at CF2
      clear f1 f2
      go_enter Tryz.func6, Tryz.ntmps6
      go_wp2_with fail
      refine CF1.out.mono ?_
      rintro e w1 ⟨rfl, rfl⟩
      go_wp2_with fail
      refine CF2.out.mono ?_
      rintro e w1 ⟨rfl, rfl⟩
      go_wp2
      go_ret
      exact ⟨rfl, HB0.out⟩
  · rw [decide_eq_false f1] at CF1
    clear f1
    go_enter Tryz.func6, Tryz.ntmps6
    go_wp2_with fail
    refine CF1.out.mono ?_
    rintro e w1 ⟨rfl, rfl⟩
    go_wp2
    go_ret
    exact ⟨rfl, HB0.out⟩
theorem lawContainsRow (A : Option Addr) (c : Nat) (l : List ByteArray) (B : Option Addr) (d : Nat) (all : List ByteArray) (w : World) (h : Kd.string.C w A l.length l) (hc : l.length ≤ c) (k : Kd.string.C w B all.length all) (hd : all.length ≤ d) (hT : MTabs w) :
    Calls Tryz.prog 6 #[.slice A l.length c, .slice B all.length d] w fun e w' => e = .returned (.bool true) ∧ Below w.heap.size w w' := lawContains w h hc k hd hT
end Go.Proofs.YtididniafloogaaGreatDoor.Maps
