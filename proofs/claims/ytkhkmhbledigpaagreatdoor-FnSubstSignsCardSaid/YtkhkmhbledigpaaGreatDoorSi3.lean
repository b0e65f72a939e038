/- Parts of the proof, laid together: Ends, Str, Q0, QTemplateZzLetter, QTemplateZzName, QTemplateZzOperator, QTemplateZzLast, QTemplateZzAt, QTemplateGetFirstBraceClosingIndex, SubPure, Kit, Flat. -/
import Derived.Test.YtkhkmhbledigpaaGreatDoorSi2
import Derived.Test.YtkhkmhbledigpaaGreatDoorSi1
import Derived.Test.YtkhkmhbledigpaaGreatDoorProg
import Derived.Below
import Derived.Deep.Draws
import Derived.Deep.AppendLies
import Derived.Maps.AppendAt
import Derived.OwnWalk
import Derived.Laws.BytesArg
import Derived.Laws.MakeOwn
import Derived.Laws.OwnMore
import Derived.Deep.OwnRows
import Derived.Tactics
import Derived.Lib.ConvBytes
import Derived.Laws.Slices
import Derived.WalkKit
import Derived.KernelRfl
import Derived.RowKit3
import Derived.Deep.LoopGhost
import Derived.Deep.QuietTactic
import Derived.BigQuiet
import Derived.WideLaws
import Derived.Deep.DeepCutAuto
import Derived.Deep.CutBlock
import Derived.Deep.RegionHeld3
import Derived.Laws.Rows
import Derived.Lib.AppendStr
import Derived.ArgAppend
import Derived.Laws.IdiomCopy
import Derived.OrdersHeld
import Derived.Laws.BitsLemmas
import Derived.RowKit
import Derived.Laws.Cover1
import Derived.Sort.OwnSorted
import Derived.Shelf.SlSortFuncK.WholeK
import Derived.Shelf.GgSortFunc.Tiny
namespace Go.Proofs.YtkhkmhbledigpaaGreatDoor.Tr
open Go.RowKit Go.Proofs.YtkhkmhbledigpaaGreatDoorW.PrintWords Go.Proofs.YtkhkmhbledigpaaGreatDoorW.PrintLast
set_option linter.unusedVariables false
def Ends {α : Type} (P : α → Prop) (g : Nat → Option α) : Prop := ∃ r, Ev g r ∧ P r
section
variable {α β : Type} {P : α → Prop} {g f : Nat → Option α}
theorem Ends.of {r : α} (h : Ev g r) (hp : P r) : Ends P g := ⟨r, h, hp⟩
theorem Ends.ev {r : α} (h : Ends (fun x => x = r) g) : Ev g r := by
 obtain ⟨x, hx, rfl⟩ := h
 exact hx
theorem Ev.ends {r : α} (h : Ev g r) : Ends (fun x => x = r) g := ⟨r, h, rfl⟩
theorem Ends.mono {Q : α → Prop} (h : Ends P g) (hq : ∀ r, P r → Q r) : Ends Q g := by
 obtain ⟨x, hx, hp⟩ := h
 exact ⟨x, hx, hq x hp⟩
theorem Ends.now {r : α} (h : P r) : Ends P (fun _ => some r) := ⟨r, Ev.now r, h⟩
theorem Ends.never (h : False) : Ends P g := h.elim
theorem Ends.ite {c : Prop} [Decidable c] (h1 : c → Ends P f) (h2 : ¬ c → Ends P g) : Ends P (fun k => if c then f k else g k) := by
 by_cases h : c
 ·obtain ⟨r, hr, hp⟩ := h1 h
  exact ⟨r, Ev.congr (fun k => by rw [if_pos h]) hr, hp⟩
 ·obtain ⟨r, hr, hp⟩ := h2 h
  exact ⟨r, Ev.congr (fun k => by rw [if_neg h]) hr, hp⟩
theorem Ends.yes {c : Prop} [Decidable c] (hc : c) (h : Ends P f) : Ends P (fun k => if c then f k else g k) := Ends.ite (fun _ => h) (fun n => absurd hc n)
theorem Ends.no {c : Prop} [Decidable c] (hc : ¬ c) (h : Ends P g) : Ends P (fun k => if c then f k else g k) := Ends.ite (fun n => absurd n hc) (fun _ => h)
theorem Ends.bind {Q : β → Prop} {u : Nat → Option β} {v : Nat → β → Option α} (hu : Ends Q u) (hv : ∀ a, Q a → Ends P (fun k => v k a)) : Ends P (fun k => (u k).bind (v k)) := by
 obtain ⟨a, ha, hq⟩ := hu
 obtain ⟨r, hr, hp⟩ := hv a hq
 exact ⟨r, Ev.bind ha hr, hp⟩
theorem Ends.step (h : ∀ k, g (k + 1) = f k) (k : Ends P f) : Ends P g := by
 obtain ⟨r, hr, hp⟩ := k
 exact ⟨r, Ev.step h hr, hp⟩
theorem Ends.congr (h : ∀ k, g k = f k) (k : Ends P f) : Ends P g := by
 obtain ⟨r, hr, hp⟩ := k
 exact ⟨r, Ev.congr h hr, hp⟩
end
end Go.Proofs.YtkhkmhbledigpaaGreatDoor.Tr
namespace Go.Proofs.YtkhkmhbledigpaaGreatDoor.Str
open Go.RowKit Go.Proofs.YtkhkmhbledigpaaGreatDoorW.PrintWords
abbrev Bs := List UInt8
abbrev lb (s : ByteArray) : Bs := s.data.toList
theorem lb_length (s : ByteArray) : (lb s).length = s.size := by rw [Array.length_toList]; rfl
theorem lb_inj {s t : ByteArray} (h : lb s = lb t) : s = t := by
 cases s; cases t
 simp only [lb] at h
 rw [Array.toList_inj.1 h]
theorem lb_append (s t : ByteArray) : lb (s ++ t) = lb s ++ lb t := by simp [lb]
theorem lb_extract (s : ByteArray) (a b : Nat) : lb (s.extract a b) = ((lb s).take b).drop a := by
 simp [lb, List.extract_eq_drop_take', ByteArray.data_extract]
theorem lb_mk (l : Bs) : lb ⟨l.toArray⟩ = l := by simp [lb]
theorem toList_lb (s : ByteArray) : s.toList = lb s := ByteArray.toList_eq s
theorem bt_lb (s : ByteArray) (i : Nat) (h : i < (lb s).length) : bt s i = ((lb s)[i].toNat : Int) := by
 have h' : i < s.size := by rw [← lb_length]; exact h
 simp [lb, bt, h']
 rfl
def find (sub : Bs) : Bs → Option Nat
 | [] => if sub = [] then some 0 else none
 | c :: t => if sub.isPrefixOf (c :: t) then some 0 else (find sub t).map (· + 1)
def findI (sub s : Bs) : Int := match find sub s with
 | some i => (i : Int)
 | none => -1
theorem find_short (sub : Bs) : ∀ (s : Bs), s.length < sub.length → find sub s = none
 | [], h => by
  have : sub ≠ [] := by rintro rfl; simp at h
  simp [find, this]
 | c :: t, h => by
  have h1 : sub.isPrefixOf (c :: t) = false := by
   rw [Bool.eq_false_iff]
   intro hp
   have := (List.isPrefixOf_iff_prefix.1 hp).length_le
   omega
  simp only [List.length_cons] at h
  rw [find, h1, find_short sub t (by omega)]
  simp
theorem find_eq (sub s : Bs) : find sub s = if sub.isPrefixOf s then some 0 else match s with
 | [] => none
 | _ :: t => (find sub t).map (· + 1) := by
 cases s with
 | nil =>
  cases sub with
  | nil => simp [find]
  | cons a b => simp [find]
 | cons c t => rw [find]
theorem prefix_iff (sub s : Bs) : sub.isPrefixOf s = true ↔ sub.length ≤ s.length ∧ s.take sub.length = sub := by
 rw [List.isPrefixOf_iff_prefix]
 constructor
 ·intro h
  exact ⟨h.length_le, (List.prefix_iff_eq_take.1 h).symm⟩
 ·intro ⟨_, h⟩
  exact List.prefix_iff_eq_take.2 h.symm
theorem find_some {sub s : Bs} {i : Nat} (h : find sub s = some i) : i + sub.length ≤ s.length ∧ (s.drop i).take sub.length = sub := by
 induction s generalizing i with
 | nil =>
  by_cases e : sub = []
  ·simp [find, e] at h
   subst h e
   simp
  ·simp [find, e] at h
 | cons c t ih =>
  rw [find] at h
  by_cases hp : sub.isPrefixOf (c :: t) = true
  ·rw [if_pos hp] at h
   simp at h
   subst h
   obtain ⟨h1, h2⟩ := (prefix_iff _ _).1 hp
   exact ⟨by omega, by simpa using h2⟩
  ·rw [if_neg hp] at h
   obtain ⟨j, hj, rfl⟩ := Option.map_eq_some_iff.1 h
   obtain ⟨h1, h2⟩ := ih hj
   exact ⟨by simp; omega, by simpa using h2⟩
def split (c : UInt8) : Bs → List Bs
 | [] => [[]]
 | x :: t => if x = c then [] :: split c t else match split c t with
  | [] => [[x]]
  | h :: r => (x :: h) :: r
end Go.Proofs.YtkhkmhbledigpaaGreatDoor.Str
namespace Go.Proofs.YtkhkmhbledigpaaGreatDoor.Str
open Go.RowKit Go.Proofs.YtkhkmhbledigpaaGreatDoorW.PrintWords
def At (sub s : Bs) (j : Nat) : Prop := j ≤ s.length ∧ find sub s = (find sub (s.drop j)).map (· + j)
theorem At.start (sub s : Bs) : At sub s 0 := ⟨by omega, by simp⟩
theorem At.hit {sub s : Bs} {j : Nat} (h : At sub s j) (hm : j + sub.length ≤ s.length) (e : (s.drop j).take sub.length = sub) : findI sub s = j := by
 have hp : sub.isPrefixOf (s.drop j) = true := (prefix_iff _ _).2 ⟨by rw [List.length_drop]; omega, e⟩
 have h2 := h.2
 rw [find_eq sub (s.drop j), if_pos hp] at h2
 simp [findI, h2]
theorem At.next {sub s : Bs} {j : Nat} (h : At sub s j) (hm : j + sub.length ≤ s.length) (e : ¬ (s.drop j).take sub.length = sub) : At sub s (j + 1) := by
 have hp : ¬ sub.isPrefixOf (s.drop j) = true := fun hp => e ((prefix_iff _ _).1 hp).2
 have hlt : j < s.length := by
  rcases Nat.lt_or_ge j s.length with h' | h'
  ·exact h'
  ·exfalso
   apply e
   have : sub = [] := List.eq_nil_of_length_eq_zero (by omega)
   simp [this]
 refine ⟨hlt, ?_⟩
 have h2 := h.2
 rw [find_eq sub (s.drop j), if_neg hp, List.drop_eq_getElem_cons hlt] at h2
 rw [h2]
 simp only [Option.map_map]
 congr 1
 funext x
 simp
 omega
theorem At.miss {sub s : Bs} {j : Nat} (h : At sub s j) (hm : s.length < j + sub.length) : findI sub s = -1 := by
 have h2 := h.2
 rw [find_short sub (s.drop j) (by rw [List.length_drop]; have := h.1; omega)] at h2
 simp [findI, h2]
theorem lb_piece (s : ByteArray) (j m : Nat) : lb (s.extract j (j + m)) = ((lb s).drop j).take m := by
 rw [lb_extract, List.drop_take]
 congr 1
 omega
end Go.Proofs.YtkhkmhbledigpaaGreatDoor.Str
namespace Go.Proofs.YtkhkmhbledigpaaGreatDoor.PS
open Go.RowKit Go.Proofs.YtkhkmhbledigpaaGreatDoorW.PrintWords Go.Proofs.YtkhkmhbledigpaaGreatDoorW.PrintLast Go.Proofs.YtkhkmhbledigpaaGreatDoorW.PrintMore
attribute [local go_sem] max2_int min2_int max_two min_two max_three min_three max_four min_four 
set_option linter.unusedVariables false
set_option linter.unusedSimpArgs false
def errW : Option Int → Value
 | none => .nilIface
 | some c => .iface 0 (.int .i64 c)
theorem errW_none : errW none = .nilIface := rfl
theorem errW_some (c : Int) : errW (some c) = .iface 0 (.int .i64 c) := rfl
theorem info5 : (Tryz.prog.info? 5).map (fun i => (i.zero, i.size, i.bytes)) = some (some (.int .u8 0), 1, 1) := by kernel_rfl
structure S40 where
 f0 : ByteArray
 f1 : ByteArray
end Go.Proofs.YtkhkmhbledigpaaGreatDoor.PS
namespace Go.Proofs.YtkhkmhbledigpaaGreatDoor.PS
open Go.RowKit Go.Proofs.YtkhkmhbledigpaaGreatDoorW.PrintWords Go.Proofs.YtkhkmhbledigpaaGreatDoorW.PrintLast Go.Proofs.YtkhkmhbledigpaaGreatDoorW.PrintMore
attribute [local go_sem] max2_int min2_int max_two min_two max_three min_three max_four min_four 
set_option linter.unusedVariables false
set_option linter.unusedSimpArgs false
mutual
def template_zzLetter.j0 : Nat → ByteArray → Int → Int → Bool → Option (Int)
 | 0, _, _, _, _ => none
 | k + 1, x0, x1, x5, x30 => if x30 = true then (some 1) else (if (wrap64 (x1 + 1)) < (x0.size : Int) then (if x5 = 197 then (if 0 ≤ (wrap64 (x1 + 1)) then (template_zzLetter.j1 k x0 x1 x5 ((bt x0 (wrap64 (x1 + 1))) == 191)) else (none)) else (template_zzLetter.j1 k x0 x1 x5 false)) else (template_zzLetter.j1 k x0 x1 x5 false))
def template_zzLetter.j1 : Nat → ByteArray → Int → Int → Bool → Option (Int)
 | 0, _, _, _, _ => none
 | k + 1, x0, x1, x5, x46 => if x46 = true then (some 2) else (if (wrap64 (x1 + 2)) < (x0.size : Int) then (if x5 = 226 then (if 0 ≤ (wrap64 (x1 + 1)) then (if (wrap64 (x1 + 1)) < (x0.size : Int) then (if (bt x0 (wrap64 (x1 + 1))) = 132 then (if 0 ≤ (wrap64 (x1 + 2)) then (if (bt x0 (wrap64 (x1 + 2))) = 170 then (some 3) else (some 0)) else (none)) else (some 0)) else (none)) else (none)) else (some 0)) else (some 0))
end
def template_zzLetter.f (k : Nat) (a0 : ByteArray) (a1 : Int) : Option (Int) := if a1 ≥ (a0.size : Int) then (some 0) else (if 0 ≤ a1 then (if a1 < (a0.size : Int) then (if (bt a0 a1) = 95 then (template_zzLetter.j0 k a0 a1 (bt a0 a1) true) else (if (bt a0 a1) ≥ 97 then (if (bt a0 a1) ≤ 122 then (template_zzLetter.j0 k a0 a1 (bt a0 a1) true) else (if (bt a0 a1) ≥ 65 then (template_zzLetter.j0 k a0 a1 (bt a0 a1) (decide ((bt a0 a1) ≤ 90))) else (template_zzLetter.j0 k a0 a1 (bt a0 a1) false))) else (if (bt a0 a1) ≥ 65 then (template_zzLetter.j0 k a0 a1 (bt a0 a1) (decide ((bt a0 a1) ≤ 90))) else (template_zzLetter.j0 k a0 a1 (bt a0 a1) false)))) else (none)) else (none))
set_option maxHeartbeats 8000000 in
set_option maxRecDepth 100000 in
theorem template_zzLetter.calls (k : Nat) (a0 : ByteArray) (a1 : Int) (r : Int) (w : World) (h : template_zzLetter.f k a0 a1 = some r) :
  Calls Tryz.prog 93 #[.string a0, .int .i64 a1] w fun e w' => e = .returned (.int .i64 r) ∧ Drawn0 w w' := by
 have H : (if a1 ≥ (a0.size : Int) then (some 0) else (if 0 ≤ a1 then (if a1 < (a0.size : Int) then (if (bt a0 a1) = 95 then (template_zzLetter.j0 k a0 a1 (bt a0 a1) true) else (if (bt a0 a1) ≥ 97 then (if (bt a0 a1) ≤ 122 then (template_zzLetter.j0 k a0 a1 (bt a0 a1) true) else (if (bt a0 a1) ≥ 65 then (template_zzLetter.j0 k a0 a1 (bt a0 a1) (decide ((bt a0 a1) ≤ 90))) else (template_zzLetter.j0 k a0 a1 (bt a0 a1) false))) else (if (bt a0 a1) ≥ 65 then (template_zzLetter.j0 k a0 a1 (bt a0 a1) (decide ((bt a0 a1) ≤ 90))) else (template_zzLetter.j0 k a0 a1 (bt a0 a1) false)))) else (none)) else (none))) = some r := h
 clear h
 by_cases c3 : a1 ≥ (a0.size : Int)
 ·rw [if_pos c3] at H
  have c3b0 : decide ((a0.size : Int) ≤ a1) = true := decide_eq_true c3
  clear c3
  obtain rfl := Option.some.inj H
  go_enter Tryz.func93, Tryz.ntmps93
  go_wp2
  go_ret
  exact ⟨by first | rfl | (simp; done) | (simp [*]; done), by repeat (first | exact Drawn0.refl _ | apply Drawn0.step)⟩
 ·rw [if_neg c3] at H
  have c3b0 : decide ((a0.size : Int) ≤ a1) = false := decide_eq_false c3
  clear c3
  by_cases c4 : 0 ≤ a1
  ·rw [if_pos c4] at H
   have c4b0 : decide (0 ≤ a1) = true := decide_eq_true c4
   clear c4
   by_cases c5 : a1 < (a0.size : Int)
   ·rw [if_pos c5] at H
    have c5b0 : decide (a1 < (a0.size : Int)) = true := decide_eq_true c5
    clear c5
    have HC7 := aM H
    clear H
    have p6 : 0 ≤ (a1 : Int) := of_decide_eq_true (by first | (with_reducible assumption) | assumption)
    have q6 : a1 < (a0.size : Int) := of_decide_eq_true (by first | (with_reducible assumption) | assumption)
    have hx6 := bt_at a0 a1
    replace p6 := eq_true p6
    replace q6 := eq_true q6
    go_enter Tryz.func93, Tryz.ntmps93
    go_upto_region 4 with (fail)
    go_cut [30] (fun v30 wc => ∃ (kq : Nat) (x30_6 : Bool), v30 = .bool x30_6 ∧ Aside0 (template_zzLetter.j0 kq a0 a1 (bt a0 a1) x30_6 = some r) ∧ Aside0 (kq ≤ k) ∧ Drawn0 w wc)
    case first =>
     have H := HC7.out
     clear HC7
     by_cases c8 : (bt a0 a1) = 95
     ·rw [if_pos c8] at H
      have c8b0 : ((bt a0 a1) == 95) = true := beq_iff_eq.mpr c8
      have c8b1 : ((bt a0 a1) != 95) = false := bne_eq_false_iff_eq.mpr c8
      clear c8
      (first | rw [c8b0] | (simp only [i64_w, i32_w]; rw [c8b0]) | skip)
      have H' := aM H
      clear H
      go_wp2
      go_meet
      case rel => exact ⟨_, (true), (by first | rfl | (simp; done) | (simp [*]; done)), H', ⟨by first | omega | exact Nat.le_refl _⟩, by repeat (first | exact Drawn0.refl _ | apply Drawn0.step)⟩
     ·rw [if_neg c8] at H
      have c8b0 : ((bt a0 a1) == 95) = false := beq_eq_false_iff_ne.mpr c8
      have c8b1 : ((bt a0 a1) != 95) = true := bne_iff_ne.mpr c8
      (first | rw [c8b0] | (simp only [i64_w, i32_w]; rw [c8b0]) | skip)
      by_cases c9 : (bt a0 a1) ≥ 97
      ·rw [if_pos c9] at H
       have c9b0 : decide (97 ≤ (bt a0 a1)) = true := decide_eq_true c9
       clear c9
       by_cases c10 : (bt a0 a1) ≤ 122
       ·rw [if_pos c10] at H
        have c10b0 : decide ((bt a0 a1) ≤ 122) = true := decide_eq_true c10
        clear c10
        have H' := aM H
        clear H
        go_wp2
        go_meet
        case rel => exact ⟨_, (true), (by first | rfl | (simp; done) | (simp [*]; done)), H', ⟨by first | omega | exact Nat.le_refl _⟩, by repeat (first | exact Drawn0.refl _ | apply Drawn0.step)⟩
       ·rw [if_neg c10] at H
        have c10b0 : decide ((bt a0 a1) ≤ 122) = false := decide_eq_false c10
        clear c10
        by_cases c11 : (bt a0 a1) ≥ 65
        ·rw [if_pos c11] at H
         have c11b0 : decide (65 ≤ (bt a0 a1)) = true := decide_eq_true c11
         clear c11
         have H' := aM H
         clear H
         go_wp2
         go_meet
         case rel => exact ⟨_, (decide ((bt a0 a1) ≤ 90)), (by first | rfl | (simp; done) | (simp [*]; done)), H', ⟨by first | omega | exact Nat.le_refl _⟩, by repeat (first | exact Drawn0.refl _ | apply Drawn0.step)⟩
        ·rw [if_neg c11] at H
         have c11b0 : decide (65 ≤ (bt a0 a1)) = false := decide_eq_false c11
         clear c11
         have H' := aM H
         clear H
         go_wp2
         go_meet
         case rel => exact ⟨_, (false), (by first | rfl | (simp; done) | (simp [*]; done)), H', ⟨by first | omega | exact Nat.le_refl _⟩, by repeat (first | exact Drawn0.refl _ | apply Drawn0.step)⟩
      ·rw [if_neg c9] at H
       have c9b0 : decide (97 ≤ (bt a0 a1)) = false := decide_eq_false c9
       clear c9
       by_cases c12 : (bt a0 a1) ≥ 65
       ·rw [if_pos c12] at H
        have c12b0 : decide (65 ≤ (bt a0 a1)) = true := decide_eq_true c12
        clear c12
        have H' := aM H
        clear H
        go_wp2
        go_meet
        case rel => exact ⟨_, (decide ((bt a0 a1) ≤ 90)), (by first | rfl | (simp; done) | (simp [*]; done)), H', ⟨by first | omega | exact Nat.le_refl _⟩, by repeat (first | exact Drawn0.refl _ | apply Drawn0.step)⟩
       ·rw [if_neg c12] at H
        have c12b0 : decide (65 ≤ (bt a0 a1)) = false := decide_eq_false c12
        clear c12
        have H' := aM H
        clear H
        go_wp2
        go_meet
        case rel => exact ⟨_, (false), (by first | rfl | (simp; done) | (simp [*]; done)), H', ⟨by first | omega | exact Nat.le_refl _⟩, by repeat (first | exact Drawn0.refl _ | apply Drawn0.step)⟩
    case rest =>
     clear HC7
     try clear c1
     try clear p2
     try clear c3
     try clear c3b0
     try clear c4
     try clear c4b0
     try clear c5
     try clear c5b0
     try clear p6
     try clear q6
     try clear hx6
     try clear c8
     try clear c8b0
     try clear c8b1
     try clear c9
     try clear c9b0
     try clear c10
     try clear c10b0
     try clear c11
     try clear c11b0
     try clear c12
     try clear c12b0
     try clear p6
     try clear q6
     obtain ⟨kq, x30_6, rfl, HA, HJ6, ⟨mc6, rfl⟩⟩ := hcut
     cases kq with
     | zero => exact absurd HA.out (by simp [template_zzLetter.j0])
     | succ kj6 =>
      have H := HA.out
      clear HA
      simp only [template_zzLetter.j0] at H
      by_cases c13 : x30_6 = true
      ·subst c13
       have H1 : (some 1) = some r := by rw [if_pos rfl] at H; exact H
       clear H
       have H := H1
       clear H1
       obtain rfl := Option.some.inj H
       go_wp2
       go_ret
       exact ⟨by first | rfl | (simp; done) | (simp [*]; done), by repeat (first | exact Drawn0.refl _ | apply Drawn0.step)⟩
      ·replace c13 := Bool.eq_false_iff.mpr c13
       subst c13
       have H1 : (if (wrap64 (a1 + 1)) < (a0.size : Int) then (if (bt a0 a1) = 197 then (if 0 ≤ (wrap64 (a1 + 1)) then (template_zzLetter.j1 kj6 a0 a1 (bt a0 a1) ((bt a0 (wrap64 (a1 + 1))) == 191)) else (none)) else (template_zzLetter.j1 kj6 a0 a1 (bt a0 a1) false)) else (template_zzLetter.j1 kj6 a0 a1 (bt a0 a1) false)) = some r := by rw [if_neg (show ¬ (false = true) by decide)] at H; exact H
       clear H
       have H := H1
       clear H1
       have HC14 := aM H
       clear H
       go_upto_region 6 with (fail)
       go_cut [46] (fun v46 wc => ∃ (kq : Nat) (x46_13 : Bool), v46 = .bool x46_13 ∧ Aside0 (template_zzLetter.j1 kq a0 a1 (bt a0 a1) x46_13 = some r) ∧ Aside0 (kq ≤ kj6) ∧ Drawn0 w wc)
       case first =>
        have H := HC14.out
        clear HC14
        by_cases c15 : (wrap64 (a1 + 1)) < (a0.size : Int)
        ·rw [if_pos c15] at H
         have c15b0 : decide ((wrap64 (a1 + 1)) < (a0.size : Int)) = true := decide_eq_true c15
         clear c15
         (first | rw [c15b0] | (simp only [i64_w, i32_w]; rw [c15b0]) | skip)
         by_cases c16 : (bt a0 a1) = 197
         ·rw [if_pos c16] at H
          have c16b0 : ((bt a0 a1) == 197) = true := beq_iff_eq.mpr c16
          have c16b1 : ((bt a0 a1) != 197) = false := bne_eq_false_iff_eq.mpr c16
          clear c16
          obtain ⟨ji17, hji17⟩ : ∃ j_ : Int, (wrap64 (a1 + 1)) = j_ := ⟨_, rfl⟩
          replace H : (if 0 ≤ (ji17) then (template_zzLetter.j1 kj6 a0 a1 (bt a0 a1) ((bt a0 (ji17)) == 191)) else (none)) = some r := by first | (rw [hji17] at H; exact H) | (simp only [hji17] at H ⊢; exact H)
          (try rw [hji17] at c15b0)
          have hji17w : (IntKind.i64.wrap (a1 + 1)) = ji17 := (i64_w _).trans hji17
          by_cases c18 : 0 ≤ (ji17)
          ·rw [if_pos c18] at H
           have c18b0 : decide (0 ≤ (ji17)) = true := decide_eq_true c18
           clear c18
           have H' := aM H
           clear H
           have p19 : 0 ≤ ((ji17) : Int) := of_decide_eq_true (by first | (with_reducible assumption) | assumption)
           have q19 : (ji17) < (a0.size : Int) := of_decide_eq_true (by first | (with_reducible assumption) | assumption)
           have hx19 := bt_at a0 (ji17)
           replace p19 := eq_true p19
           replace q19 := eq_true q19
           go_wp2
           go_meet
           case rel => exact ⟨_, (((bt a0 (ji17)) == 191)), (by first | rfl | (simp; done) | (simp only [← hji17] <;> (first | rfl | simp)) | (simp [*]; done)), H', ⟨by have := HJ6.out; first | omega | exact Nat.le_refl _⟩, by repeat (first | exact Drawn0.refl _ | apply Drawn0.step)⟩
          ·rw [if_neg c18] at H
           exact absurd H (by simp)
         ·rw [if_neg c16] at H
          have c16b0 : ((bt a0 a1) == 197) = false := beq_eq_false_iff_ne.mpr c16
          have c16b1 : ((bt a0 a1) != 197) = true := bne_iff_ne.mpr c16
          have H' := aM H
          clear H
          go_wp2
          go_meet
          case rel => exact ⟨_, (false), (by first | rfl | (simp; done) | (simp [*]; done)), H', ⟨by have := HJ6.out; first | omega | exact Nat.le_refl _⟩, by repeat (first | exact Drawn0.refl _ | apply Drawn0.step)⟩
        ·rw [if_neg c15] at H
         have c15b0 : decide ((wrap64 (a1 + 1)) < (a0.size : Int)) = false := decide_eq_false c15
         clear c15
         (first | rw [c15b0] | (simp only [i64_w, i32_w]; rw [c15b0]) | skip)
         have H' := aM H
         clear H
         go_wp2
         go_meet
         case rel => exact ⟨_, (false), (by first | rfl | (simp; done) | (simp [*]; done)), H', ⟨by have := HJ6.out; first | omega | exact Nat.le_refl _⟩, by repeat (first | exact Drawn0.refl _ | apply Drawn0.step)⟩
       case rest =>
        clear HC14
        try clear c1
        try clear p1
        try clear q1
        try clear hx1
        try clear p2
        try clear c3
        try clear c3b0
        try clear c4
        try clear c4b0
        try clear c5
        try clear c5b0
        try clear c6
        try clear p6
        try clear q6
        try clear hx6
        try clear c8
        try clear c8b0
        try clear c8b1
        try clear c9
        try clear c9b0
        try clear c10
        try clear c10b0
        try clear c11
        try clear c11b0
        try clear c12
        try clear c12b0
        try clear c13
        try clear c15
        try clear c15b0
        try clear c16
        try clear c16b0
        try clear c16b1
        try clear c18
        try clear c18b0
        try clear p19
        try clear q19
        try clear hx19
        try clear p19
        try clear p2
        try clear p6
        try clear q19
        try clear q6
        obtain ⟨kq, x46_13, rfl, HA, HJ13, ⟨mc13, rfl⟩⟩ := hcut
        cases kq with
        | zero => exact absurd HA.out (by simp [template_zzLetter.j1])
        | succ kj13 =>
         have H := HA.out
         clear HA
         simp only [template_zzLetter.j1] at H
         by_cases c20 : x46_13 = true
         ·subst c20
          have H1 : (some 2) = some r := by rw [if_pos rfl] at H; exact H
          clear H
          have H := H1
          clear H1
          obtain rfl := Option.some.inj H
          go_wp2
          go_ret
          exact ⟨by first | rfl | (simp; done) | (simp [*]; done), by repeat (first | exact Drawn0.refl _ | apply Drawn0.step)⟩
         ·replace c20 := Bool.eq_false_iff.mpr c20
          subst c20
          have H1 : (if (wrap64 (a1 + 2)) < (a0.size : Int) then (if (bt a0 a1) = 226 then (if 0 ≤ (wrap64 (a1 + 1)) then (if (wrap64 (a1 + 1)) < (a0.size : Int) then (if (bt a0 (wrap64 (a1 + 1))) = 132 then (if 0 ≤ (wrap64 (a1 + 2)) then (if (bt a0 (wrap64 (a1 + 2))) = 170 then (some 3) else (some 0)) else (none)) else (some 0)) else (none)) else (none)) else (some 0)) else (some 0)) = some r := by rw [if_neg (show ¬ (false = true) by decide)] at H; exact H
          clear H
          have H := H1
          clear H1
          by_cases c21 : (wrap64 (a1 + 2)) < (a0.size : Int)
          ·rw [if_pos c21] at H
           have c21b0 : decide ((wrap64 (a1 + 2)) < (a0.size : Int)) = true := decide_eq_true c21
           clear c21
           by_cases c22 : (bt a0 a1) = 226
           ·rw [if_pos c22] at H
            have c22b0 : ((bt a0 a1) == 226) = true := beq_iff_eq.mpr c22
            have c22b1 : ((bt a0 a1) != 226) = false := bne_eq_false_iff_eq.mpr c22
            clear c22
            obtain ⟨ji23, hji23⟩ : ∃ j_ : Int, (wrap64 (a1 + 1)) = j_ := ⟨_, rfl⟩
            replace H : (if 0 ≤ (ji23) then (if (ji23) < (a0.size : Int) then (if (bt a0 (ji23)) = 132 then (if 0 ≤ (wrap64 (a1 + 2)) then (if (bt a0 (wrap64 (a1 + 2))) = 170 then (some 3) else (some 0)) else (none)) else (some 0)) else (none)) else (none)) = some r := by first | (rw [hji23] at H; exact H) | (simp only [hji23] at H ⊢; exact H)
            have hji23w : (IntKind.i64.wrap (a1 + 1)) = ji23 := (i64_w _).trans hji23
            by_cases c24 : 0 ≤ (ji23)
            ·rw [if_pos c24] at H
             have c24b0 : decide (0 ≤ (ji23)) = true := decide_eq_true c24
             clear c24
             by_cases c25 : (ji23) < (a0.size : Int)
             ·rw [if_pos c25] at H
              have c25b0 : decide ((ji23) < (a0.size : Int)) = true := decide_eq_true c25
              clear c25
              by_cases c27 : (bt a0 (ji23)) = 132
              ·rw [if_pos c27] at H
               have c27b0 : ((bt a0 (ji23)) == 132) = true := beq_iff_eq.mpr c27
               have c27b1 : ((bt a0 (ji23)) != 132) = false := bne_eq_false_iff_eq.mpr c27
               clear c27
               obtain ⟨ji28, hji28⟩ : ∃ j_ : Int, (wrap64 (a1 + 2)) = j_ := ⟨_, rfl⟩
               replace H : (if 0 ≤ (ji28) then (if (bt a0 (ji28)) = 170 then (some 3) else (some 0)) else (none)) = some r := by first | (rw [hji28] at H; exact H) | (simp only [hji28] at H ⊢; exact H)
               (try rw [hji28] at c21b0)
               have hji28w : (IntKind.i64.wrap (a1 + 2)) = ji28 := (i64_w _).trans hji28
               by_cases c29 : 0 ≤ (ji28)
               ·rw [if_pos c29] at H
                have c29b0 : decide (0 ≤ (ji28)) = true := decide_eq_true c29
                clear c29
                by_cases c31 : (bt a0 (ji28)) = 170
                ·rw [if_pos c31] at H
                 have c31b0 : ((bt a0 (ji28)) == 170) = true := beq_iff_eq.mpr c31
                 have c31b1 : ((bt a0 (ji28)) != 170) = false := bne_eq_false_iff_eq.mpr c31
                 clear c31
                 obtain rfl := Option.some.inj H
                 have p26 : 0 ≤ ((ji23) : Int) := of_decide_eq_true (by first | (with_reducible assumption) | assumption)
                 have q26 : (ji23) < (a0.size : Int) := of_decide_eq_true (by first | (with_reducible assumption) | assumption)
                 have hx26 := bt_at a0 (ji23)
                 replace p26 := eq_true p26
                 replace q26 := eq_true q26
                 have p30 : 0 ≤ ((ji28) : Int) := of_decide_eq_true (by first | (with_reducible assumption) | assumption)
                 have q30 : (ji28) < (a0.size : Int) := of_decide_eq_true (by first | (with_reducible assumption) | assumption)
                 have hx30 := bt_at a0 (ji28)
                 replace p30 := eq_true p30
                 replace q30 := eq_true q30
                 go_wp2
                 go_ret
                 exact ⟨by first | rfl | (simp; done) | (simp only [← hji23, ← hji28] <;> (first | rfl | simp)) | (simp [*]; done), by repeat (first | exact Drawn0.refl _ | apply Drawn0.step)⟩
                ·rw [if_neg c31] at H
                 have c31b0 : ((bt a0 (ji28)) == 170) = false := beq_eq_false_iff_ne.mpr c31
                 have c31b1 : ((bt a0 (ji28)) != 170) = true := bne_iff_ne.mpr c31
                 obtain rfl := Option.some.inj H
                 have p26 : 0 ≤ ((ji23) : Int) := of_decide_eq_true (by first | (with_reducible assumption) | assumption)
                 have q26 : (ji23) < (a0.size : Int) := of_decide_eq_true (by first | (with_reducible assumption) | assumption)
                 have hx26 := bt_at a0 (ji23)
                 replace p26 := eq_true p26
                 replace q26 := eq_true q26
                 have p30 : 0 ≤ ((ji28) : Int) := of_decide_eq_true (by first | (with_reducible assumption) | assumption)
                 have q30 : (ji28) < (a0.size : Int) := of_decide_eq_true (by first | (with_reducible assumption) | assumption)
                 have hx30 := bt_at a0 (ji28)
                 replace p30 := eq_true p30
                 replace q30 := eq_true q30
                 go_wp2
                 go_ret
                 exact ⟨by first | rfl | (simp; done) | (simp only [← hji23, ← hji28] <;> (first | rfl | simp)) | (simp [*]; done), by repeat (first | exact Drawn0.refl _ | apply Drawn0.step)⟩
               ·rw [if_neg c29] at H
                exact absurd H (by simp)
              ·rw [if_neg c27] at H
               have c27b0 : ((bt a0 (ji23)) == 132) = false := beq_eq_false_iff_ne.mpr c27
               have c27b1 : ((bt a0 (ji23)) != 132) = true := bne_iff_ne.mpr c27
               obtain rfl := Option.some.inj H
               have p26 : 0 ≤ ((ji23) : Int) := of_decide_eq_true (by first | (with_reducible assumption) | assumption)
               have q26 : (ji23) < (a0.size : Int) := of_decide_eq_true (by first | (with_reducible assumption) | assumption)
               have hx26 := bt_at a0 (ji23)
               replace p26 := eq_true p26
               replace q26 := eq_true q26
               go_wp2
               go_ret
               exact ⟨by first | rfl | (simp; done) | (simp only [← hji23] <;> (first | rfl | simp)) | (simp [*]; done), by repeat (first | exact Drawn0.refl _ | apply Drawn0.step)⟩
             ·rw [if_neg c25] at H
              exact absurd H (by simp)
            ·rw [if_neg c24] at H
             exact absurd H (by simp)
           ·rw [if_neg c22] at H
            have c22b0 : ((bt a0 a1) == 226) = false := beq_eq_false_iff_ne.mpr c22
            have c22b1 : ((bt a0 a1) != 226) = true := bne_iff_ne.mpr c22
            obtain rfl := Option.some.inj H
            go_wp2
            go_ret
            exact ⟨by first | rfl | (simp; done) | (simp [*]; done), by repeat (first | exact Drawn0.refl _ | apply Drawn0.step)⟩
          ·rw [if_neg c21] at H
           have c21b0 : decide ((wrap64 (a1 + 2)) < (a0.size : Int)) = false := decide_eq_false c21
           clear c21
           obtain rfl := Option.some.inj H
           go_wp2
           go_ret
           exact ⟨by first | rfl | (simp; done) | (simp [*]; done), by repeat (first | exact Drawn0.refl _ | apply Drawn0.step)⟩
   ·rw [if_neg c5] at H
    exact absurd H (by simp)
  ·rw [if_neg c4] at H
   exact absurd H (by simp)
end Go.Proofs.YtkhkmhbledigpaaGreatDoor.PS
namespace Go.Proofs.YtkhkmhbledigpaaGreatDoor.PS
open Go.RowKit Go.Proofs.YtkhkmhbledigpaaGreatDoorW.PrintWords Go.Proofs.YtkhkmhbledigpaaGreatDoorW.PrintLast Go.Proofs.YtkhkmhbledigpaaGreatDoorW.PrintMore
attribute [local go_sem] max2_int min2_int max_two min_two max_three min_three max_four min_four 
set_option linter.unusedVariables false
set_option linter.unusedSimpArgs false
mutual
def template_zzName.l0 : Nat → ByteArray → Int → Option (Int)
 | 0, _, _ => none
 | k + 1, x0, x1 => if x1 < (x0.size : Int) then ((template_zzLetter.f k x0 x1).bind fun t102 => (if t102 = 0 then (if 0 ≤ x1 then (if (bt x0 x1) ≥ 48 then (template_zzName.j1 k x0 x1 t102 (decide ((bt x0 x1) ≤ 57))) else (template_zzName.j1 k x0 x1 t102 false)) else (none)) else (template_zzName.j1 k x0 x1 t102 false))) else (some x1)
def template_zzName.j1 : Nat → ByteArray → Int → Int → Bool → Option (Int)
 | 0, _, _, _, _ => none
 | k + 1, x0, x1, x5, x38 => if x38 = true then (if 1 = 0 then (some x1) else (template_zzName.l0 k x0 (wrap64 (x1 + 1)))) else (if x5 = 0 then (some x1) else (template_zzName.l0 k x0 (wrap64 (x1 + x5))))
end
def template_zzName.f (k : Nat) (a0 : ByteArray) (a1 : Int) : Option (Int) := (template_zzLetter.f k a0 a1).bind fun t101 => (if t101 = 0 then (some a1) else (template_zzName.l0 k a0 (wrap64 (a1 + t101))))
set_option maxHeartbeats 8000000 in
set_option maxRecDepth 100000 in
theorem template_zzName.calls (k : Nat) (a0 : ByteArray) (a1 : Int) (r : Int) (w : World) (h : template_zzName.f k a0 a1 = some r) :
  Calls Tryz.prog 85 #[.string a0, .int .i64 a1] w fun e w' => e = .returned (.int .i64 r) ∧ Drawn0 w w' := by
 have H : ((template_zzLetter.f k a0 a1).bind fun t101 => (if t101 = 0 then (some a1) else (template_zzName.l0 k a0 (wrap64 (a1 + t101))))) = some r := h
 clear h
 replace H := Option.bind_eq_some_iff.mp H
 obtain ⟨t101, A30, H⟩ := H
 replace H : (if t101 = 0 then (some a1) else (template_zzName.l0 k a0 (wrap64 (a1 + t101)))) = some r := H
 have A3 := aM A30
 clear A30
 by_cases c4 : t101 = 0
 ·rw [if_pos c4] at H
  have c4b0 : (t101 == 0) = true := beq_iff_eq.mpr c4
  have c4b1 : (t101 != 0) = false := bne_eq_false_iff_eq.mpr c4
  clear c4
  obtain rfl := Option.some.inj H
  go_enter Tryz.func85, Tryz.ntmps85
  go_wp2_with (first | ((with_reducible refine gate_callee (f := 93) rfl ?_); refine goesL_ (some 8) rfl rfl Tryz.func93 (by kernel_rfl) rfl #[.string a0, .int .i64 a1] rfl (by (try simp only [List.map_toArray, List.map_cons, List.map_nil]); first | done | rfl | (simp only [List.length_drop, List.length_take]; rfl)) ?_; (with_reducible refine (template_zzLetter.calls k a0 a1 t101 _ A3.out).mono ?_); rintro e w' ⟨rfl, ⟨nd, rfl⟩⟩; refine ⟨_, rfl, ?_⟩))
  go_ret
  exact ⟨by first | rfl | (simp; done) | (simp [*]; done), by repeat (first | exact Drawn0.refl _ | apply Drawn0.step)⟩
 ·rw [if_neg c4] at H
  have c4b0 : (t101 == 0) = false := beq_eq_false_iff_ne.mpr c4
  have c4b1 : (t101 != 0) = true := bne_iff_ne.mpr c4
  have H' := aM H
  clear H
  go_enter Tryz.func85, Tryz.ntmps85
  go_wp2_with (first | ((with_reducible refine gate_callee (f := 93) rfl ?_); refine goesL_ (some 8) rfl rfl Tryz.func93 (by kernel_rfl) rfl #[.string a0, .int .i64 a1] rfl (by (try simp only [List.map_toArray, List.map_cons, List.map_nil]); first | done | rfl | (simp only [List.length_drop, List.length_take]; rfl)) ?_; (with_reducible refine (template_zzLetter.calls k a0 a1 t101 _ A3.out).mono ?_); rintro e w' ⟨rfl, ⟨nd, rfl⟩⟩; refine ⟨_, rfl, ?_⟩))
  go_loopg [1] k (fun kq v1 w' => ∃ (x1_1 : Int), v1 = .int .i64 x1_1 ∧ Aside0 (template_zzName.l0 kq a0 x1_1 = some r) ∧ Aside0 (kq ≤ k) ∧ Drawn0 w w')
  case atStart => exact ⟨(wrap64 (a1 + t101)), (by first | rfl | (simp; done) | (simp [*]; done)), H', ⟨Nat.le_refl _⟩, by repeat (first | exact Drawn0.refl _ | apply Drawn0.step)⟩
  case round =>
   clear H'
   try clear p2
   try clear c4
   try clear c4b0
   try clear c4b1
   obtain ⟨x1_1, rfl, HA, HK1, ⟨m1, rfl⟩⟩ := hrel
   cases gk with
   | zero => exact absurd HA.out (by simp [template_zzName.l0])
   | succ k1 =>
    have H := HA.out
    clear HA
    simp only [template_zzName.l0] at H
    by_cases c5 : x1_1 < (a0.size : Int)
    ·rw [if_pos c5] at H
     have c5b0 : decide (x1_1 < (a0.size : Int)) = true := decide_eq_true c5
     clear c5
     replace H := Option.bind_eq_some_iff.mp H
     obtain ⟨t102, A60, H⟩ := H
     replace H : (if t102 = 0 then (if 0 ≤ x1_1 then (if (bt a0 x1_1) ≥ 48 then (template_zzName.j1 k1 a0 x1_1 t102 (decide ((bt a0 x1_1) ≤ 57))) else (template_zzName.j1 k1 a0 x1_1 t102 false)) else (none)) else (template_zzName.j1 k1 a0 x1_1 t102 false)) = some r := H
     have A6 := aM A60
     clear A60
     have HC7 := aM H
     clear H
     go_upto_region 8 with (first | ((with_reducible refine gate_callee (f := 93) rfl ?_); refine goesL_ (some 24) rfl rfl Tryz.func93 (by kernel_rfl) rfl #[.string a0, .int .i64 x1_1] rfl (by (try simp only [List.map_toArray, List.map_cons, List.map_nil]); first | done | rfl | (simp only [List.length_drop, List.length_take]; rfl)) ?_; (with_reducible refine (template_zzLetter.calls k1 a0 x1_1 t102 _ A6.out).mono ?_); rintro e w' ⟨rfl, ⟨nd, rfl⟩⟩; refine ⟨_, rfl, ?_⟩))
     (try simp only [Act.put, List.setIfInBounds_toArray, List.set_cons_zero, List.set_cons_succ])
     go_cut [38] (fun v38 wc => ∃ (kq : Nat) (x38_6 : Bool), v38 = .bool x38_6 ∧ Aside0 (template_zzName.j1 kq a0 x1_1 t102 x38_6 = some r) ∧ Aside0 (kq ≤ k1) ∧ Drawn0 w wc)
     case first =>
      have H := HC7.out
      clear HC7
      by_cases c8 : t102 = 0
      ·rw [if_pos c8] at H
       have c8b0 : (t102 == 0) = true := beq_iff_eq.mpr c8
       have c8b1 : (t102 != 0) = false := bne_eq_false_iff_eq.mpr c8
       clear c8
       (first | rw [c8b0] | (simp only [i64_w, i32_w]; rw [c8b0]) | skip)
       by_cases c9 : 0 ≤ x1_1
       ·rw [if_pos c9] at H
        have c9b0 : decide (0 ≤ x1_1) = true := decide_eq_true c9
        clear c9
        by_cases c11 : (bt a0 x1_1) ≥ 48
        ·rw [if_pos c11] at H
         have c11b0 : decide (48 ≤ (bt a0 x1_1)) = true := decide_eq_true c11
         clear c11
         have H' := aM H
         clear H
         have p10 : 0 ≤ (x1_1 : Int) := of_decide_eq_true (by first | (with_reducible assumption) | assumption)
         have q10 : x1_1 < (a0.size : Int) := of_decide_eq_true (by first | (with_reducible assumption) | assumption)
         have hx10 := bt_at a0 x1_1
         replace p10 := eq_true p10
         replace q10 := eq_true q10
         have p12 : 0 ≤ (x1_1 : Int) := of_decide_eq_true (by first | (with_reducible assumption) | assumption)
         have q12 : x1_1 < (a0.size : Int) := of_decide_eq_true (by first | (with_reducible assumption) | assumption)
         have hx12 := bt_at a0 x1_1
         replace p12 := eq_true p12
         replace q12 := eq_true q12
         go_wp2
         go_meet
         case rel => exact ⟨_, (decide ((bt a0 x1_1) ≤ 57)), (by first | rfl | (simp; done) | (simp [*]; done)), H', ⟨by have := HK1.out; first | omega | exact Nat.le_refl _⟩, by repeat (first | exact Drawn0.refl _ | apply Drawn0.step)⟩
        ·rw [if_neg c11] at H
         have c11b0 : decide (48 ≤ (bt a0 x1_1)) = false := decide_eq_false c11
         clear c11
         have H' := aM H
         clear H
         have p10 : 0 ≤ (x1_1 : Int) := of_decide_eq_true (by first | (with_reducible assumption) | assumption)
         have q10 : x1_1 < (a0.size : Int) := of_decide_eq_true (by first | (with_reducible assumption) | assumption)
         have hx10 := bt_at a0 x1_1
         replace p10 := eq_true p10
         replace q10 := eq_true q10
         go_wp2
         go_meet
         case rel => exact ⟨_, (false), (by first | rfl | (simp; done) | (simp [*]; done)), H', ⟨by have := HK1.out; first | omega | exact Nat.le_refl _⟩, by repeat (first | exact Drawn0.refl _ | apply Drawn0.step)⟩
       ·rw [if_neg c9] at H
        exact absurd H (by simp)
      ·rw [if_neg c8] at H
       have c8b0 : (t102 == 0) = false := beq_eq_false_iff_ne.mpr c8
       have c8b1 : (t102 != 0) = true := bne_iff_ne.mpr c8
       (first | rw [c8b0] | (simp only [i64_w, i32_w]; rw [c8b0]) | skip)
       have H' := aM H
       clear H
       go_wp2
       go_meet
       case rel => exact ⟨_, (false), (by first | rfl | (simp; done) | (simp [*]; done)), H', ⟨by have := HK1.out; first | omega | exact Nat.le_refl _⟩, by repeat (first | exact Drawn0.refl _ | apply Drawn0.step)⟩
     case rest =>
      clear HC7
      try clear c1
      try clear p1
      try clear q1
      try clear hx1
      try clear p2
      try clear c4
      try clear c4b0
      try clear c4b1
      try clear c5
      try clear c5b0
      try clear p6
      try clear c8
      try clear c8b0
      try clear c8b1
      try clear c9
      try clear c9b0
      try clear p10
      try clear q10
      try clear hx10
      try clear c11
      try clear c11b0
      try clear p12
      try clear q12
      try clear hx12
      try clear p10
      try clear p12
      try clear p2
      try clear q10
      try clear q12
      obtain ⟨kq, x38_6, rfl, HA, HJ6, ⟨mc6, rfl⟩⟩ := hcut
      cases kq with
      | zero => exact absurd HA.out (by simp [template_zzName.j1])
      | succ kj6 =>
       have H := HA.out
       clear HA
       simp only [template_zzName.j1] at H
       by_cases c13 : x38_6 = true
       ·subst c13
        have H1 : (if 1 = 0 then (some x1_1) else (template_zzName.l0 kj6 a0 (wrap64 (x1_1 + 1)))) = some r := by rw [if_pos rfl] at H; exact H
        clear H
        have H := H1
        clear H1
        by_cases c14 : 1 = 0
        ·exact absurd c14 (by decide)
        ·rw [if_neg c14] at H
         have c14b0 : (1 == 0) = false := beq_eq_false_iff_ne.mpr c14
         have c14b1 : (1 != 0) = true := bne_iff_ne.mpr c14
         have H' := aM H
         clear H
         go_wp2
         go_roundg kj6
         case measure => have := HK1.out; have := HJ6.out; omega
         case rel => exact ⟨(wrap64 (x1_1 + 1)), (by first | rfl | (simp; done) | (simp [*]; done)), H', ⟨by have := HK1.out; have := HJ6.out; omega⟩, by repeat (first | exact Drawn0.refl _ | apply Drawn0.step)⟩
       ·replace c13 := Bool.eq_false_iff.mpr c13
        subst c13
        have H1 : (if t102 = 0 then (some x1_1) else (template_zzName.l0 kj6 a0 (wrap64 (x1_1 + t102)))) = some r := by rw [if_neg (show ¬ (false = true) by decide)] at H; exact H
        clear H
        have H := H1
        clear H1
        by_cases c15 : t102 = 0
        ·rw [if_pos c15] at H
         have c15b0 : (t102 == 0) = true := beq_iff_eq.mpr c15
         have c15b1 : (t102 != 0) = false := bne_eq_false_iff_eq.mpr c15
         clear c15
         obtain rfl := Option.some.inj H
         go_wp2
         go_ret
         exact ⟨by first | rfl | (simp; done) | (simp [*]; done), by repeat (first | exact Drawn0.refl _ | apply Drawn0.step)⟩
        ·rw [if_neg c15] at H
         have c15b0 : (t102 == 0) = false := beq_eq_false_iff_ne.mpr c15
         have c15b1 : (t102 != 0) = true := bne_iff_ne.mpr c15
         have H' := aM H
         clear H
         go_wp2
         go_roundg kj6
         case measure => have := HK1.out; have := HJ6.out; omega
         case rel => exact ⟨(wrap64 (x1_1 + t102)), (by first | rfl | (simp; done) | (simp [*]; done)), H', ⟨by have := HK1.out; have := HJ6.out; omega⟩, by repeat (first | exact Drawn0.refl _ | apply Drawn0.step)⟩
    ·rw [if_neg c5] at H
     have c5b0 : decide (x1_1 < (a0.size : Int)) = false := decide_eq_false c5
     clear c5
     obtain rfl := Option.some.inj H
     go_wp2
     go_ret
     exact ⟨by first | rfl | (simp; done) | (simp [*]; done), by repeat (first | exact Drawn0.refl _ | apply Drawn0.step)⟩
end Go.Proofs.YtkhkmhbledigpaaGreatDoor.PS
namespace Go.Proofs.YtkhkmhbledigpaaGreatDoor.PS
open Go.RowKit Go.Proofs.YtkhkmhbledigpaaGreatDoorW.PrintWords Go.Proofs.YtkhkmhbledigpaaGreatDoorW.PrintLast Go.Proofs.YtkhkmhbledigpaaGreatDoorW.PrintMore
attribute [local go_sem] max2_int min2_int max_two min_two max_three min_three max_four min_four 
set_option linter.unusedVariables false
set_option linter.unusedSimpArgs false
def template_zzOperator.j0 : Nat → ByteArray → Int → Bool → Option (Int)
 | 0, _, _, _ => none
 | k + 1, x0, x1, x14 => if x14 = true then (if (wrap64 (x1 + 1)) < (x0.size : Int) then (if 0 ≤ (wrap64 (x1 + 1)) then (if (bt x0 (wrap64 (x1 + 1))) = 45 then (some (wrap64 ((wrap64 (x1 + 1)) + 1))) else (if (bt x0 (wrap64 (x1 + 1))) = 43 then (some (wrap64 ((wrap64 (x1 + 1)) + 1))) else (if (bt x0 (wrap64 (x1 + 1))) = 63 then (some (wrap64 ((wrap64 (x1 + 1)) + 1))) else (some 0)))) else (none)) else (some 0)) else (if x1 < (x0.size : Int) then (if 0 ≤ x1 then (if (bt x0 x1) = 45 then (some (wrap64 (x1 + 1))) else (if (bt x0 x1) = 43 then (some (wrap64 (x1 + 1))) else (if (bt x0 x1) = 63 then (some (wrap64 (x1 + 1))) else (some 0)))) else (none)) else (some 0))
def template_zzOperator.f (k : Nat) (a0 : ByteArray) (a1 : Int) : Option (Int) := if a1 < (a0.size : Int) then (if 0 ≤ a1 then (template_zzOperator.j0 k a0 a1 ((bt a0 a1) == 58)) else (none)) else (template_zzOperator.j0 k a0 a1 false)
set_option maxHeartbeats 8000000 in
set_option maxRecDepth 100000 in
theorem template_zzOperator.calls (k : Nat) (a0 : ByteArray) (a1 : Int) (r : Int) (w : World) (h : template_zzOperator.f k a0 a1 = some r) :
  Calls Tryz.prog 86 #[.string a0, .int .i64 a1] w fun e w' => e = .returned (.int .i64 r) ∧ Drawn0 w w' := by
 have H : (if a1 < (a0.size : Int) then (if 0 ≤ a1 then (template_zzOperator.j0 k a0 a1 ((bt a0 a1) == 58)) else (none)) else (template_zzOperator.j0 k a0 a1 false)) = some r := h
 clear h
 have HC3 := aM H
 clear H
 go_enter Tryz.func86, Tryz.ntmps86
 go_upto_region 1 with (fail)
 go_cut [14] (fun v14 wc => ∃ (kq : Nat) (x14_2 : Bool), v14 = .bool x14_2 ∧ Aside0 (template_zzOperator.j0 kq a0 a1 x14_2 = some r) ∧ Aside0 (kq ≤ k) ∧ Drawn0 w wc)
 case first =>
  have H := HC3.out
  clear HC3
  by_cases c4 : a1 < (a0.size : Int)
  ·rw [if_pos c4] at H
   have c4b0 : decide (a1 < (a0.size : Int)) = true := decide_eq_true c4
   clear c4
   (first | rw [c4b0] | (simp only [i64_w, i32_w]; rw [c4b0]) | skip)
   by_cases c5 : 0 ≤ a1
   ·rw [if_pos c5] at H
    have c5b0 : decide (0 ≤ a1) = true := decide_eq_true c5
    clear c5
    have H' := aM H
    clear H
    have p6 : 0 ≤ (a1 : Int) := of_decide_eq_true (by first | (with_reducible assumption) | assumption)
    have q6 : a1 < (a0.size : Int) := of_decide_eq_true (by first | (with_reducible assumption) | assumption)
    have hx6 := bt_at a0 a1
    replace p6 := eq_true p6
    replace q6 := eq_true q6
    go_wp2
    go_meet
    case rel => exact ⟨_, (((bt a0 a1) == 58)), (by first | rfl | (simp; done) | (simp [*]; done)), H', ⟨by first | omega | exact Nat.le_refl _⟩, by repeat (first | exact Drawn0.refl _ | apply Drawn0.step)⟩
   ·rw [if_neg c5] at H
    exact absurd H (by simp)
  ·rw [if_neg c4] at H
   have c4b0 : decide (a1 < (a0.size : Int)) = false := decide_eq_false c4
   clear c4
   (first | rw [c4b0] | (simp only [i64_w, i32_w]; rw [c4b0]) | skip)
   have H' := aM H
   clear H
   go_wp2
   go_meet
   case rel => exact ⟨_, (false), (by first | rfl | (simp; done) | (simp [*]; done)), H', ⟨by first | omega | exact Nat.le_refl _⟩, by repeat (first | exact Drawn0.refl _ | apply Drawn0.step)⟩
 case rest =>
  clear HC3
  try clear p2
  try clear c4
  try clear c4b0
  try clear c5
  try clear c5b0
  try clear p6
  try clear q6
  try clear hx6
  try clear p6
  try clear q6
  obtain ⟨kq, x14_2, rfl, HA, HJ2, ⟨mc2, rfl⟩⟩ := hcut
  cases kq with
  | zero => exact absurd HA.out (by simp [template_zzOperator.j0])
  | succ kj2 =>
   have H := HA.out
   clear HA
   simp only [template_zzOperator.j0] at H
   by_cases c7 : x14_2 = true
   ·subst c7
    have H1 : (if (wrap64 (a1 + 1)) < (a0.size : Int) then (if 0 ≤ (wrap64 (a1 + 1)) then (if (bt a0 (wrap64 (a1 + 1))) = 45 then (some (wrap64 ((wrap64 (a1 + 1)) + 1))) else (if (bt a0 (wrap64 (a1 + 1))) = 43 then (some (wrap64 ((wrap64 (a1 + 1)) + 1))) else (if (bt a0 (wrap64 (a1 + 1))) = 63 then (some (wrap64 ((wrap64 (a1 + 1)) + 1))) else (some 0)))) else (none)) else (some 0)) = some r := by rw [if_pos rfl] at H; exact H
    clear H
    have H := H1
    clear H1
    by_cases c8 : (wrap64 (a1 + 1)) < (a0.size : Int)
    ·rw [if_pos c8] at H
     have c8b0 : decide ((wrap64 (a1 + 1)) < (a0.size : Int)) = true := decide_eq_true c8
     clear c8
     obtain ⟨ji9, hji9⟩ : ∃ j_ : Int, (wrap64 (a1 + 1)) = j_ := ⟨_, rfl⟩
     replace H : (if 0 ≤ (ji9) then (if (bt a0 (ji9)) = 45 then (some (wrap64 ((ji9) + 1))) else (if (bt a0 (ji9)) = 43 then (some (wrap64 ((ji9) + 1))) else (if (bt a0 (ji9)) = 63 then (some (wrap64 ((ji9) + 1))) else (some 0)))) else (none)) = some r := by first | (rw [hji9] at H; exact H) | (simp only [hji9] at H ⊢; exact H)
     (try rw [hji9] at c8b0)
     have hji9w : (IntKind.i64.wrap (a1 + 1)) = ji9 := (i64_w _).trans hji9
     by_cases c10 : 0 ≤ (ji9)
     ·rw [if_pos c10] at H
      have c10b0 : decide (0 ≤ (ji9)) = true := decide_eq_true c10
      clear c10
      by_cases c12 : (bt a0 (ji9)) = 45
      ·rw [if_pos c12] at H
       have c12b0 : ((bt a0 (ji9)) == 45) = true := beq_iff_eq.mpr c12
       have c12b1 : ((bt a0 (ji9)) != 45) = false := bne_eq_false_iff_eq.mpr c12
       clear c12
       obtain rfl := Option.some.inj H
       have p11 : 0 ≤ ((ji9) : Int) := of_decide_eq_true (by first | (with_reducible assumption) | assumption)
       have q11 : (ji9) < (a0.size : Int) := of_decide_eq_true (by first | (with_reducible assumption) | assumption)
       have hx11 := bt_at a0 (ji9)
       replace p11 := eq_true p11
       replace q11 := eq_true q11
       go_wp2
       go_ret
       exact ⟨by first | rfl | (simp; done) | (simp only [← hji9] <;> (first | rfl | simp)) | (simp [*]; done), by repeat (first | exact Drawn0.refl _ | apply Drawn0.step)⟩
      ·rw [if_neg c12] at H
       have c12b0 : ((bt a0 (ji9)) == 45) = false := beq_eq_false_iff_ne.mpr c12
       have c12b1 : ((bt a0 (ji9)) != 45) = true := bne_iff_ne.mpr c12
       by_cases c14 : (bt a0 (ji9)) = 43
       ·rw [if_pos c14] at H
        have c14b0 : ((bt a0 (ji9)) == 43) = true := beq_iff_eq.mpr c14
        have c14b1 : ((bt a0 (ji9)) != 43) = false := bne_eq_false_iff_eq.mpr c14
        clear c14
        obtain rfl := Option.some.inj H
        have p11 : 0 ≤ ((ji9) : Int) := of_decide_eq_true (by first | (with_reducible assumption) | assumption)
        have q11 : (ji9) < (a0.size : Int) := of_decide_eq_true (by first | (with_reducible assumption) | assumption)
        have hx11 := bt_at a0 (ji9)
        replace p11 := eq_true p11
        replace q11 := eq_true q11
        have p13 : 0 ≤ ((ji9) : Int) := of_decide_eq_true (by first | (with_reducible assumption) | assumption)
        have q13 : (ji9) < (a0.size : Int) := of_decide_eq_true (by first | (with_reducible assumption) | assumption)
        have hx13 := bt_at a0 (ji9)
        replace p13 := eq_true p13
        replace q13 := eq_true q13
        go_wp2
        go_ret
        exact ⟨by first | rfl | (simp; done) | (simp only [← hji9] <;> (first | rfl | simp)) | (simp [*]; done), by repeat (first | exact Drawn0.refl _ | apply Drawn0.step)⟩
       ·rw [if_neg c14] at H
        have c14b0 : ((bt a0 (ji9)) == 43) = false := beq_eq_false_iff_ne.mpr c14
        have c14b1 : ((bt a0 (ji9)) != 43) = true := bne_iff_ne.mpr c14
        by_cases c16 : (bt a0 (ji9)) = 63
        ·rw [if_pos c16] at H
         have c16b0 : ((bt a0 (ji9)) == 63) = true := beq_iff_eq.mpr c16
         have c16b1 : ((bt a0 (ji9)) != 63) = false := bne_eq_false_iff_eq.mpr c16
         clear c16
         obtain rfl := Option.some.inj H
         have p11 : 0 ≤ ((ji9) : Int) := of_decide_eq_true (by first | (with_reducible assumption) | assumption)
         have q11 : (ji9) < (a0.size : Int) := of_decide_eq_true (by first | (with_reducible assumption) | assumption)
         have hx11 := bt_at a0 (ji9)
         replace p11 := eq_true p11
         replace q11 := eq_true q11
         have p13 : 0 ≤ ((ji9) : Int) := of_decide_eq_true (by first | (with_reducible assumption) | assumption)
         have q13 : (ji9) < (a0.size : Int) := of_decide_eq_true (by first | (with_reducible assumption) | assumption)
         have hx13 := bt_at a0 (ji9)
         replace p13 := eq_true p13
         replace q13 := eq_true q13
         have p15 : 0 ≤ ((ji9) : Int) := of_decide_eq_true (by first | (with_reducible assumption) | assumption)
         have q15 : (ji9) < (a0.size : Int) := of_decide_eq_true (by first | (with_reducible assumption) | assumption)
         have hx15 := bt_at a0 (ji9)
         replace p15 := eq_true p15
         replace q15 := eq_true q15
         go_wp2
         go_ret
         exact ⟨by first | rfl | (simp; done) | (simp only [← hji9] <;> (first | rfl | simp)) | (simp [*]; done), by repeat (first | exact Drawn0.refl _ | apply Drawn0.step)⟩
        ·rw [if_neg c16] at H
         have c16b0 : ((bt a0 (ji9)) == 63) = false := beq_eq_false_iff_ne.mpr c16
         have c16b1 : ((bt a0 (ji9)) != 63) = true := bne_iff_ne.mpr c16
         obtain rfl := Option.some.inj H
         have p11 : 0 ≤ ((ji9) : Int) := of_decide_eq_true (by first | (with_reducible assumption) | assumption)
         have q11 : (ji9) < (a0.size : Int) := of_decide_eq_true (by first | (with_reducible assumption) | assumption)
         have hx11 := bt_at a0 (ji9)
         replace p11 := eq_true p11
         replace q11 := eq_true q11
         have p13 : 0 ≤ ((ji9) : Int) := of_decide_eq_true (by first | (with_reducible assumption) | assumption)
         have q13 : (ji9) < (a0.size : Int) := of_decide_eq_true (by first | (with_reducible assumption) | assumption)
         have hx13 := bt_at a0 (ji9)
         replace p13 := eq_true p13
         replace q13 := eq_true q13
         have p15 : 0 ≤ ((ji9) : Int) := of_decide_eq_true (by first | (with_reducible assumption) | assumption)
         have q15 : (ji9) < (a0.size : Int) := of_decide_eq_true (by first | (with_reducible assumption) | assumption)
         have hx15 := bt_at a0 (ji9)
         replace p15 := eq_true p15
         replace q15 := eq_true q15
         go_wp2
         go_ret
         exact ⟨by first | rfl | (simp; done) | (simp only [← hji9] <;> (first | rfl | simp)) | (simp [*]; done), by repeat (first | exact Drawn0.refl _ | apply Drawn0.step)⟩
     ·rw [if_neg c10] at H
      exact absurd H (by simp)
    ·rw [if_neg c8] at H
     have c8b0 : decide ((wrap64 (a1 + 1)) < (a0.size : Int)) = false := decide_eq_false c8
     clear c8
     obtain rfl := Option.some.inj H
     go_wp2
     go_ret
     exact ⟨by first | rfl | (simp; done) | (simp [*]; done), by repeat (first | exact Drawn0.refl _ | apply Drawn0.step)⟩
   ·replace c7 := Bool.eq_false_iff.mpr c7
    subst c7
    have H1 : (if a1 < (a0.size : Int) then (if 0 ≤ a1 then (if (bt a0 a1) = 45 then (some (wrap64 (a1 + 1))) else (if (bt a0 a1) = 43 then (some (wrap64 (a1 + 1))) else (if (bt a0 a1) = 63 then (some (wrap64 (a1 + 1))) else (some 0)))) else (none)) else (some 0)) = some r := by rw [if_neg (show ¬ (false = true) by decide)] at H; exact H
    clear H
    have H := H1
    clear H1
    by_cases c17 : a1 < (a0.size : Int)
    ·rw [if_pos c17] at H
     have c17b0 : decide (a1 < (a0.size : Int)) = true := decide_eq_true c17
     clear c17
     by_cases c18 : 0 ≤ a1
     ·rw [if_pos c18] at H
      have c18b0 : decide (0 ≤ a1) = true := decide_eq_true c18
      clear c18
      by_cases c20 : (bt a0 a1) = 45
      ·rw [if_pos c20] at H
       have c20b0 : ((bt a0 a1) == 45) = true := beq_iff_eq.mpr c20
       have c20b1 : ((bt a0 a1) != 45) = false := bne_eq_false_iff_eq.mpr c20
       clear c20
       obtain rfl := Option.some.inj H
       have p19 : 0 ≤ (a1 : Int) := of_decide_eq_true (by first | (with_reducible assumption) | assumption)
       have q19 : a1 < (a0.size : Int) := of_decide_eq_true (by first | (with_reducible assumption) | assumption)
       have hx19 := bt_at a0 a1
       replace p19 := eq_true p19
       replace q19 := eq_true q19
       go_wp2
       go_ret
       exact ⟨by first | rfl | (simp; done) | (simp [*]; done), by repeat (first | exact Drawn0.refl _ | apply Drawn0.step)⟩
      ·rw [if_neg c20] at H
       have c20b0 : ((bt a0 a1) == 45) = false := beq_eq_false_iff_ne.mpr c20
       have c20b1 : ((bt a0 a1) != 45) = true := bne_iff_ne.mpr c20
       by_cases c22 : (bt a0 a1) = 43
       ·rw [if_pos c22] at H
        have c22b0 : ((bt a0 a1) == 43) = true := beq_iff_eq.mpr c22
        have c22b1 : ((bt a0 a1) != 43) = false := bne_eq_false_iff_eq.mpr c22
        clear c22
        obtain rfl := Option.some.inj H
        have p19 : 0 ≤ (a1 : Int) := of_decide_eq_true (by first | (with_reducible assumption) | assumption)
        have q19 : a1 < (a0.size : Int) := of_decide_eq_true (by first | (with_reducible assumption) | assumption)
        have hx19 := bt_at a0 a1
        replace p19 := eq_true p19
        replace q19 := eq_true q19
        have p21 : 0 ≤ (a1 : Int) := of_decide_eq_true (by first | (with_reducible assumption) | assumption)
        have q21 : a1 < (a0.size : Int) := of_decide_eq_true (by first | (with_reducible assumption) | assumption)
        have hx21 := bt_at a0 a1
        replace p21 := eq_true p21
        replace q21 := eq_true q21
        go_wp2
        go_ret
        exact ⟨by first | rfl | (simp; done) | (simp [*]; done), by repeat (first | exact Drawn0.refl _ | apply Drawn0.step)⟩
       ·rw [if_neg c22] at H
        have c22b0 : ((bt a0 a1) == 43) = false := beq_eq_false_iff_ne.mpr c22
        have c22b1 : ((bt a0 a1) != 43) = true := bne_iff_ne.mpr c22
        by_cases c24 : (bt a0 a1) = 63
        ·rw [if_pos c24] at H
         have c24b0 : ((bt a0 a1) == 63) = true := beq_iff_eq.mpr c24
         have c24b1 : ((bt a0 a1) != 63) = false := bne_eq_false_iff_eq.mpr c24
         clear c24
         obtain rfl := Option.some.inj H
         have p19 : 0 ≤ (a1 : Int) := of_decide_eq_true (by first | (with_reducible assumption) | assumption)
         have q19 : a1 < (a0.size : Int) := of_decide_eq_true (by first | (with_reducible assumption) | assumption)
         have hx19 := bt_at a0 a1
         replace p19 := eq_true p19
         replace q19 := eq_true q19
         have p21 : 0 ≤ (a1 : Int) := of_decide_eq_true (by first | (with_reducible assumption) | assumption)
         have q21 : a1 < (a0.size : Int) := of_decide_eq_true (by first | (with_reducible assumption) | assumption)
         have hx21 := bt_at a0 a1
         replace p21 := eq_true p21
         replace q21 := eq_true q21
         have p23 : 0 ≤ (a1 : Int) := of_decide_eq_true (by first | (with_reducible assumption) | assumption)
         have q23 : a1 < (a0.size : Int) := of_decide_eq_true (by first | (with_reducible assumption) | assumption)
         have hx23 := bt_at a0 a1
         replace p23 := eq_true p23
         replace q23 := eq_true q23
         go_wp2
         go_ret
         exact ⟨by first | rfl | (simp; done) | (simp [*]; done), by repeat (first | exact Drawn0.refl _ | apply Drawn0.step)⟩
        ·rw [if_neg c24] at H
         have c24b0 : ((bt a0 a1) == 63) = false := beq_eq_false_iff_ne.mpr c24
         have c24b1 : ((bt a0 a1) != 63) = true := bne_iff_ne.mpr c24
         obtain rfl := Option.some.inj H
         have p19 : 0 ≤ (a1 : Int) := of_decide_eq_true (by first | (with_reducible assumption) | assumption)
         have q19 : a1 < (a0.size : Int) := of_decide_eq_true (by first | (with_reducible assumption) | assumption)
         have hx19 := bt_at a0 a1
         replace p19 := eq_true p19
         replace q19 := eq_true q19
         have p21 : 0 ≤ (a1 : Int) := of_decide_eq_true (by first | (with_reducible assumption) | assumption)
         have q21 : a1 < (a0.size : Int) := of_decide_eq_true (by first | (with_reducible assumption) | assumption)
         have hx21 := bt_at a0 a1
         replace p21 := eq_true p21
         replace q21 := eq_true q21
         have p23 : 0 ≤ (a1 : Int) := of_decide_eq_true (by first | (with_reducible assumption) | assumption)
         have q23 : a1 < (a0.size : Int) := of_decide_eq_true (by first | (with_reducible assumption) | assumption)
         have hx23 := bt_at a0 a1
         replace p23 := eq_true p23
         replace q23 := eq_true q23
         go_wp2
         go_ret
         exact ⟨by first | rfl | (simp; done) | (simp [*]; done), by repeat (first | exact Drawn0.refl _ | apply Drawn0.step)⟩
     ·rw [if_neg c18] at H
      exact absurd H (by simp)
    ·rw [if_neg c17] at H
     have c17b0 : decide (a1 < (a0.size : Int)) = false := decide_eq_false c17
     clear c17
     obtain rfl := Option.some.inj H
     go_wp2
     go_ret
     exact ⟨by first | rfl | (simp; done) | (simp [*]; done), by repeat (first | exact Drawn0.refl _ | apply Drawn0.step)⟩
end Go.Proofs.YtkhkmhbledigpaaGreatDoor.PS
namespace Go.Proofs.YtkhkmhbledigpaaGreatDoor.PS
open Go.RowKit Go.Proofs.YtkhkmhbledigpaaGreatDoorW.PrintWords Go.Proofs.YtkhkmhbledigpaaGreatDoorW.PrintLast Go.Proofs.YtkhkmhbledigpaaGreatDoorW.PrintMore
attribute [local go_sem] max2_int min2_int max_two min_two max_three min_three max_four min_four 
set_option linter.unusedVariables false
set_option linter.unusedSimpArgs false
mutual
def template_zzLast.l0 : Nat → ByteArray → Int → Int → Option (Int)
 | 0, _, _, _ => none
 | k + 1, x0, x1, x5 => if x1 < (x0.size : Int) then (if 0 ≤ x1 then (template_zzLast.j1 k x0 x1 x5 ((bt x0 x1) != 10)) else (none)) else (template_zzLast.j1 k x0 x1 x5 false)
def template_zzLast.j1 : Nat → ByteArray → Int → Int → Bool → Option (Int)
 | 0, _, _, _, _ => none
 | k + 1, x0, x1, x5, x15 => if x15 = true then (if 0 ≤ x1 then (if x1 < (x0.size : Int) then (if (bt x0 x1) = 125 then (template_zzLast.l0 k x0 (wrap64 (x1 + 1)) x1) else (template_zzLast.l0 k x0 (wrap64 (x1 + 1)) x5)) else (none)) else (none)) else (some x5)
end
def template_zzLast.f (k : Nat) (a0 : ByteArray) (a1 : Int) : Option (Int) := template_zzLast.l0 k a0 a1 (-1)
set_option maxHeartbeats 8000000 in
set_option maxRecDepth 100000 in
theorem template_zzLast.calls (k : Nat) (a0 : ByteArray) (a1 : Int) (r : Int) (w : World) (h : template_zzLast.f k a0 a1 = some r) :
  Calls Tryz.prog 87 #[.string a0, .int .i64 a1] w fun e w' => e = .returned (.int .i64 r) ∧ Drawn0 w w' := by
 have H : (template_zzLast.l0 k a0 a1 (-1)) = some r := h
 clear h
 have H' := aM H
 clear H
 go_enter Tryz.func87, Tryz.ntmps87
 go_wp2
 go_loopg [1, 5] k (fun kq v1 v5 w' => ∃ (x1_1 : Int) (x5_1 : Int), v1 = .int .i64 x1_1 ∧ v5 = .int .i64 x5_1 ∧ Aside0 (template_zzLast.l0 kq a0 x1_1 x5_1 = some r) ∧ Aside0 (kq ≤ k) ∧ Drawn0 w w')
 case atStart => exact ⟨(a1), ((-1)), (by first | rfl | (simp; done) | (simp [*]; done)), (by first | rfl | (simp; done) | (simp [*]; done)), H', ⟨Nat.le_refl _⟩, by repeat (first | exact Drawn0.refl _ | apply Drawn0.step)⟩
 case round =>
  clear H'
  try clear p2
  obtain ⟨x1_1, x5_1, rfl, rfl, HA, HK1, ⟨m1, rfl⟩⟩ := hrel
  cases gk with
  | zero => exact absurd HA.out (by simp [template_zzLast.l0])
  | succ k1 =>
   have H := HA.out
   clear HA
   simp only [template_zzLast.l0] at H
   have HC3 := aM H
   clear H
   go_upto_region 2 with (fail)
   go_cut [15] (fun v15 wc => ∃ (kq : Nat) (x15_2 : Bool), v15 = .bool x15_2 ∧ Aside0 (template_zzLast.j1 kq a0 x1_1 x5_1 x15_2 = some r) ∧ Aside0 (kq ≤ k1) ∧ Drawn0 w wc)
   case first =>
    have H := HC3.out
    clear HC3
    by_cases c4 : x1_1 < (a0.size : Int)
    ·rw [if_pos c4] at H
     have c4b0 : decide (x1_1 < (a0.size : Int)) = true := decide_eq_true c4
     clear c4
     (first | rw [c4b0] | (simp only [i64_w, i32_w]; rw [c4b0]) | skip)
     by_cases c5 : 0 ≤ x1_1
     ·rw [if_pos c5] at H
      have c5b0 : decide (0 ≤ x1_1) = true := decide_eq_true c5
      clear c5
      have H' := aM H
      clear H
      have p6 : 0 ≤ (x1_1 : Int) := of_decide_eq_true (by first | (with_reducible assumption) | assumption)
      have q6 : x1_1 < (a0.size : Int) := of_decide_eq_true (by first | (with_reducible assumption) | assumption)
      have hx6 := bt_at a0 x1_1
      replace p6 := eq_true p6
      replace q6 := eq_true q6
      go_wp2
      go_meet
      case rel => exact ⟨_, (((bt a0 x1_1) != 10)), (by first | rfl | (simp; done) | (simp [*]; done)), H', ⟨by have := HK1.out; first | omega | exact Nat.le_refl _⟩, by repeat (first | exact Drawn0.refl _ | apply Drawn0.step)⟩
     ·rw [if_neg c5] at H
      exact absurd H (by simp)
    ·rw [if_neg c4] at H
     have c4b0 : decide (x1_1 < (a0.size : Int)) = false := decide_eq_false c4
     clear c4
     (first | rw [c4b0] | (simp only [i64_w, i32_w]; rw [c4b0]) | skip)
     have H' := aM H
     clear H
     go_wp2
     go_meet
     case rel => exact ⟨_, (false), (by first | rfl | (simp; done) | (simp [*]; done)), H', ⟨by have := HK1.out; first | omega | exact Nat.le_refl _⟩, by repeat (first | exact Drawn0.refl _ | apply Drawn0.step)⟩
   case rest =>
    clear HC3
    try clear p2
    try clear c4
    try clear c4b0
    try clear c5
    try clear c5b0
    try clear p6
    try clear q6
    try clear hx6
    try clear p2
    try clear p6
    try clear q6
    obtain ⟨kq, x15_2, rfl, HA, HJ2, ⟨mc2, rfl⟩⟩ := hcut
    cases kq with
    | zero => exact absurd HA.out (by simp [template_zzLast.j1])
    | succ kj2 =>
     have H := HA.out
     clear HA
     simp only [template_zzLast.j1] at H
     by_cases c7 : x15_2 = true
     ·subst c7
      have H1 : (if 0 ≤ x1_1 then (if x1_1 < (a0.size : Int) then (if (bt a0 x1_1) = 125 then (template_zzLast.l0 kj2 a0 (wrap64 (x1_1 + 1)) x1_1) else (template_zzLast.l0 kj2 a0 (wrap64 (x1_1 + 1)) x5_1)) else (none)) else (none)) = some r := by rw [if_pos rfl] at H; exact H
      clear H
      have H := H1
      clear H1
      by_cases c8 : 0 ≤ x1_1
      ·rw [if_pos c8] at H
       have c8b0 : decide (0 ≤ x1_1) = true := decide_eq_true c8
       clear c8
       by_cases c9 : x1_1 < (a0.size : Int)
       ·rw [if_pos c9] at H
        have c9b0 : decide (x1_1 < (a0.size : Int)) = true := decide_eq_true c9
        clear c9
        by_cases c11 : (bt a0 x1_1) = 125
        ·rw [if_pos c11] at H
         have c11b0 : ((bt a0 x1_1) == 125) = true := beq_iff_eq.mpr c11
         have c11b1 : ((bt a0 x1_1) != 125) = false := bne_eq_false_iff_eq.mpr c11
         clear c11
         have H' := aM H
         clear H
         have p10 : 0 ≤ (x1_1 : Int) := of_decide_eq_true (by first | (with_reducible assumption) | assumption)
         have q10 : x1_1 < (a0.size : Int) := of_decide_eq_true (by first | (with_reducible assumption) | assumption)
         have hx10 := bt_at a0 x1_1
         replace p10 := eq_true p10
         replace q10 := eq_true q10
         go_wp2
         go_roundg kj2
         case measure => have := HK1.out; have := HJ2.out; omega
         case rel => exact ⟨(wrap64 (x1_1 + 1)), (x1_1), (by first | rfl | (simp; done) | (simp [*]; done)), (by first | rfl | (simp; done) | (simp [*]; done)), H', ⟨by have := HK1.out; have := HJ2.out; omega⟩, by repeat (first | exact Drawn0.refl _ | apply Drawn0.step)⟩
        ·rw [if_neg c11] at H
         have c11b0 : ((bt a0 x1_1) == 125) = false := beq_eq_false_iff_ne.mpr c11
         have c11b1 : ((bt a0 x1_1) != 125) = true := bne_iff_ne.mpr c11
         have H' := aM H
         clear H
         have p10 : 0 ≤ (x1_1 : Int) := of_decide_eq_true (by first | (with_reducible assumption) | assumption)
         have q10 : x1_1 < (a0.size : Int) := of_decide_eq_true (by first | (with_reducible assumption) | assumption)
         have hx10 := bt_at a0 x1_1
         replace p10 := eq_true p10
         replace q10 := eq_true q10
         go_wp2
         go_roundg kj2
         case measure => have := HK1.out; have := HJ2.out; omega
         case rel => exact ⟨(wrap64 (x1_1 + 1)), (x5_1), (by first | rfl | (simp; done) | (simp [*]; done)), (by first | rfl | (simp; done) | (simp [*]; done)), H', ⟨by have := HK1.out; have := HJ2.out; omega⟩, by repeat (first | exact Drawn0.refl _ | apply Drawn0.step)⟩
       ·rw [if_neg c9] at H
        exact absurd H (by simp)
      ·rw [if_neg c8] at H
       exact absurd H (by simp)
     ·replace c7 := Bool.eq_false_iff.mpr c7
      subst c7
      have H1 : (some x5_1) = some r := by rw [if_neg (show ¬ (false = true) by decide)] at H; exact H
      clear H
      have H := H1
      clear H1
      obtain rfl := Option.some.inj H
      go_wp2
      go_ret
      exact ⟨by first | rfl | (simp; done) | (simp [*]; done), by repeat (first | exact Drawn0.refl _ | apply Drawn0.step)⟩
end Go.Proofs.YtkhkmhbledigpaaGreatDoor.PS
namespace Go.Proofs.YtkhkmhbledigpaaGreatDoor.PS
open Go.RowKit Go.Proofs.YtkhkmhbledigpaaGreatDoorW.PrintWords Go.Proofs.YtkhkmhbledigpaaGreatDoorW.PrintLast Go.Proofs.YtkhkmhbledigpaaGreatDoorW.PrintMore
attribute [local go_sem] max2_int min2_int max_two min_two max_three min_three max_four min_four 
set_option linter.unusedVariables false
set_option linter.unusedSimpArgs false
mutual
def template_zzAt.j0 : Nat → ByteArray → Int → Bool → Option (List ByteArray × Int × Bool)
 | 0, _, _, _ => none
 | k + 1, x0, x1, x21 => if x21 = true then (some (([] : List ByteArray), 0, false)) else (if 0 ≤ (wrap64 (x1 + 1)) then (if (wrap64 (x1 + 1)) < (x0.size : Int) then (if (bt x0 (wrap64 (x1 + 1))) = 36 then (some ((([(⟨#[36, 36]⟩ : ByteArray), (⟨#[36]⟩ : ByteArray), (⟨#[]⟩ : ByteArray), (⟨#[]⟩ : ByteArray), (⟨#[]⟩ : ByteArray), (⟨#[]⟩ : ByteArray)] : List ByteArray)), wrap64 (x1 + 2), true)) else ((template_zzName.f k x0 (wrap64 (x1 + 1))).bind fun t106 => (if t106 > (wrap64 (x1 + 1)) then (if 0 ≤ x1 then (if x1 ≤ t106 then (if t106 ≤ (x0.size : Int) then (if (wrap64 (x1 + 1)) ≤ t106 then (some ((([x0.extract (x1 : Int).toNat (t106 : Int).toNat, (⟨#[]⟩ : ByteArray), x0.extract ((wrap64 (x1 + 1)) : Int).toNat (t106 : Int).toNat, (⟨#[]⟩ : ByteArray), (⟨#[]⟩ : ByteArray), (⟨#[]⟩ : ByteArray)] : List ByteArray)), t106, true)) else (none)) else (none)) else (none)) else (none)) else (if (bt x0 (wrap64 (x1 + 1))) = 123 then ((template_zzName.f k x0 (wrap64 (x1 + 2))).bind fun t110 => (if t110 > (wrap64 (x1 + 2)) then (if t110 < (x0.size : Int) then (if 0 ≤ t110 then (template_zzAt.j1 k x0 x1 t110 ((bt x0 t110) == 125)) else (none)) else (template_zzAt.j1 k x0 x1 t110 false)) else (template_zzAt.j1 k x0 x1 t110 false))) else (some (([] : List ByteArray), 0, false)))))) else (none)) else (none))
def template_zzAt.j1 : Nat → ByteArray → Int → Int → Bool → Option (List ByteArray × Int × Bool)
 | 0, _, _, _, _ => none
 | k + 1, x0, x1, x8, x73 => if x73 = true then (if 0 ≤ x1 then (if x1 ≤ (wrap64 (x8 + 1)) then (if (wrap64 (x8 + 1)) ≤ (x0.size : Int) then (if 0 ≤ (wrap64 (x1 + 2)) then (if (wrap64 (x1 + 2)) ≤ x8 then (if x8 ≤ (x0.size : Int) then (some ((([x0.extract (x1 : Int).toNat ((wrap64 (x8 + 1)) : Int).toNat, (⟨#[]⟩ : ByteArray), (⟨#[]⟩ : ByteArray), x0.extract ((wrap64 (x1 + 2)) : Int).toNat (x8 : Int).toNat, (⟨#[]⟩ : ByteArray), (⟨#[]⟩ : ByteArray)] : List ByteArray)), wrap64 (x8 + 1), true)) else (none)) else (none)) else (none)) else (none)) else (none)) else (none)) else ((template_zzOperator.f k x0 x8).bind fun t114 => (if x8 > (wrap64 (x1 + 2)) then (template_zzAt.j2 k x0 x1 t114 (decide (t114 > 0))) else (template_zzAt.j2 k x0 x1 t114 false)))
def template_zzAt.j2 : Nat → ByteArray → Int → Int → Bool → Option (List ByteArray × Int × Bool)
 | 0, _, _, _, _ => none
 | k + 1, x0, x1, x9, x97 => if x97 = true then ((template_zzLast.f k x0 x9).bind fun t115 => (if t115 ≥ 0 then (if 0 ≤ x1 then (if x1 ≤ (wrap64 (t115 + 1)) then (if (wrap64 (t115 + 1)) ≤ (x0.size : Int) then (if 0 ≤ (wrap64 (x1 + 2)) then (if (wrap64 (x1 + 2)) ≤ t115 then (if t115 ≤ (x0.size : Int) then (if 0 ≤ x9 then (if x9 ≤ t115 then (some ((([x0.extract (x1 : Int).toNat ((wrap64 (t115 + 1)) : Int).toNat, (⟨#[]⟩ : ByteArray), (⟨#[]⟩ : ByteArray), x0.extract ((wrap64 (x1 + 2)) : Int).toNat (t115 : Int).toNat, x0.extract (x9 : Int).toNat (t115 : Int).toNat, (⟨#[]⟩ : ByteArray)] : List ByteArray)), wrap64 (t115 + 1), true)) else (none)) else (none)) else (none)) else (none)) else (none)) else (none)) else (none)) else (none)) else (some ((([(⟨#[36, 123]⟩ : ByteArray), (⟨#[]⟩ : ByteArray), (⟨#[]⟩ : ByteArray), (⟨#[]⟩ : ByteArray), (⟨#[]⟩ : ByteArray), (⟨#[]⟩ : ByteArray)] : List ByteArray)), wrap64 (x1 + 2), true)))) else (some ((([(⟨#[36, 123]⟩ : ByteArray), (⟨#[]⟩ : ByteArray), (⟨#[]⟩ : ByteArray), (⟨#[]⟩ : ByteArray), (⟨#[]⟩ : ByteArray), (⟨#[]⟩ : ByteArray)] : List ByteArray)), wrap64 (x1 + 2), true))
end
def template_zzAt.f (k : Nat) (a0 : ByteArray) (a1 : Int) : Option (List ByteArray × Int × Bool) := if (wrap64 (a1 + 1)) ≥ (a0.size : Int) then (template_zzAt.j0 k a0 a1 true) else (if 0 ≤ a1 then (if a1 < (a0.size : Int) then (template_zzAt.j0 k a0 a1 ((bt a0 a1) != 36)) else (none)) else (none))
def template_zzAt.T7 : Bool × List (List Nat × List Nat) := (true, [([], []), ([], []), ([], []), ([0, 1, 2], [0, 1, 2]), ([], []), ([], []), ([5], [5]), ([], []), ([4, 6, 7], [4, 6, 7]), ([3, 8], [3, 8]), ([], []), ([9, 0, 1, 2, 3, 4, 5, 6, 7, 8, 9], [9]), ([10, 11, 0, 1, 2, 3, 4, 5, 6, 7, 8, 9, 10, 11], [10]), ([12, 0, 1, 2, 3, 4, 5, 6, 7, 8, 9, 10, 11, 12], [])])
def template_zzAt.B7 : List Nat := [0, 0, 0, 7, 0, 0, 32, 0, 240, 511, 0, 1023, 4095, 8191]
theorem template_zzAt.tab7 : rtab .any (opsOf Tryz.f78 7) = template_zzAt.T7 := by kernel_rfl
theorem template_zzAt.bits7 : waitsOk template_zzAt.T7.2 template_zzAt.B7 = true := by kernel_rfl
def template_zzAt.T12 : Bool × List (List Nat × List Nat) := (true, [([], []), ([], []), ([], []), ([2], [2]), ([0, 1, 3], [0, 1, 3]), ([], []), ([], []), ([6], [6]), ([], []), ([5, 7, 8], [5, 7, 8]), ([4, 9], [4, 9]), ([], []), ([11], [11]), ([10, 0, 1, 2, 3, 4, 5, 6, 7, 8, 9, 10], [10]), ([12, 13, 0, 1, 2, 3, 4, 5, 6, 7, 8, 9, 10, 11, 12, 13], [12]), ([14, 0, 1, 2, 3, 4, 5, 6, 7, 8, 9, 10, 11, 12, 13, 14], [])])
def template_zzAt.B12 : List Nat := [0, 0, 0, 4, 15, 0, 0, 64, 0, 480, 1023, 0, 2048, 2047, 16383, 32767]
theorem template_zzAt.tab12 : rtab .any (opsOf Tryz.f78 12) = template_zzAt.T12 := by kernel_rfl
theorem template_zzAt.bits12 : waitsOk template_zzAt.T12.2 template_zzAt.B12 = true := by kernel_rfl
def template_zzAt.T17 : Bool × List (List Nat × List Nat) := (true, [([], []), ([], []), ([], []), ([2], [2]), ([0, 1, 3], [0, 1, 3]), ([], []), ([], []), ([6], [6]), ([], []), ([5, 7, 8], [5, 7, 8]), ([], []), ([], []), ([], []), ([10, 11, 12], [10, 11, 12]), ([4, 9, 13], [4, 9, 13]), ([], []), ([15], [15]), ([14, 0, 1, 2, 3, 4, 5, 6, 7, 8, 9, 10, 11, 12, 13, 14], [14]), ([16, 17, 0, 1, 2, 3, 4, 5, 6, 7, 8, 9, 10, 11, 12, 13, 14, 15, 16, 17], [16]), ([18, 0, 1, 2, 3, 4, 5, 6, 7, 8, 9, 10, 11, 12, 13, 14, 15, 16, 17, 18], [])])
def template_zzAt.B17 : List Nat := [0, 0, 0, 4, 15, 0, 0, 64, 0, 480, 0, 0, 0, 7168, 16383, 0, 32768, 32767, 262143, 524287]
theorem template_zzAt.tab17 : rtab .any (opsOf Tryz.f78 17) = template_zzAt.T17 := by kernel_rfl
theorem template_zzAt.bits17 : waitsOk template_zzAt.T17.2 template_zzAt.B17 = true := by kernel_rfl
set_option maxHeartbeats 8000000 in
set_option maxRecDepth 100000 in
theorem template_zzAt.calls (k : Nat) (a0 : ByteArray) (a1 : Int) (r1 : List ByteArray) (r2 : Int) (r3 : Bool) (w : World) (h : template_zzAt.f k a0 a1 = some (r1, r2, r3)) :
  Calls Tryz.prog 78 #[.string a0, .int .i64 a1] w fun e w' => ∃ v0_ : Value, e = .returned (.tuple #[v0_, .int .i64 r2, .bool r3]) ∧ Kd.R Kd.string 9 w' w.heap.size (fun _ => True) v0_ r1 ∧ Below w.heap.size w w' := by
 have HB := aM (Below.refl w.heap.size w)
 have H : (if (wrap64 (a1 + 1)) ≥ (a0.size : Int) then (template_zzAt.j0 k a0 a1 true) else (if 0 ≤ a1 then (if a1 < (a0.size : Int) then (template_zzAt.j0 k a0 a1 ((bt a0 a1) != 36)) else (none)) else (none))) = some (r1, r2, r3) := h
 clear h
 have HC3 := aM H
 clear H
 go_enter Tryz.func78, Tryz.ntmps78
 go_upto_region 1 with (fail)
 go_cut [21] (fun v21 wc => ∃ (kq : Nat) (x21_2 : Bool), v21 = .bool x21_2 ∧ Aside0 (template_zzAt.j0 kq a0 a1 x21_2 = some (r1, r2, r3)) ∧ Aside0 (kq ≤ k) ∧ Aside0 (Below w.heap.size w wc))
 case first =>
  have H := HC3.out
  clear HC3
  by_cases c4 : (wrap64 (a1 + 1)) ≥ (a0.size : Int)
  ·rw [if_pos c4] at H
   have c4b0 : decide ((a0.size : Int) ≤ (wrap64 (a1 + 1))) = true := decide_eq_true c4
   clear c4
   (first | rw [c4b0] | (simp only [i64_w, i32_w]; rw [c4b0]) | skip)
   have H' := aM H
   clear H
   go_wp2
   go_meet
   case rel => exact ⟨_, (true), (by first | rfl | (simp; done) | (simp [*]; done)), H', ⟨by first | omega | exact Nat.le_refl _⟩, ⟨by repeat (first | (with_reducible first | exact HB.out | apply below_alloc | apply pw_below_drewN | apply below_drew1) | exact HB.out)⟩⟩
  ·rw [if_neg c4] at H
   have c4b0 : decide ((a0.size : Int) ≤ (wrap64 (a1 + 1))) = false := decide_eq_false c4
   clear c4
   (first | rw [c4b0] | (simp only [i64_w, i32_w]; rw [c4b0]) | skip)
   by_cases c5 : 0 ≤ a1
   ·rw [if_pos c5] at H
    have c5b0 : decide (0 ≤ a1) = true := decide_eq_true c5
    clear c5
    by_cases c6 : a1 < (a0.size : Int)
    ·rw [if_pos c6] at H
     have c6b0 : decide (a1 < (a0.size : Int)) = true := decide_eq_true c6
     clear c6
     have H' := aM H
     clear H
     have p7 : 0 ≤ (a1 : Int) := of_decide_eq_true (by first | (with_reducible assumption) | assumption)
     have q7 : a1 < (a0.size : Int) := of_decide_eq_true (by first | (with_reducible assumption) | assumption)
     have hx7 := bt_at a0 a1
     replace p7 := eq_true p7
     replace q7 := eq_true q7
     go_wp2
     go_meet
     case rel => exact ⟨_, (((bt a0 a1) != 36)), (by first | rfl | (simp; done) | (simp [*]; done)), H', ⟨by first | omega | exact Nat.le_refl _⟩, ⟨by repeat (first | (with_reducible first | exact HB.out | apply below_alloc | apply pw_below_drewN | apply below_drew1) | exact HB.out)⟩⟩
    ·rw [if_neg c6] at H
     exact absurd H (by simp)
   ·rw [if_neg c5] at H
    exact absurd H (by simp)
 case rest =>
  clear HC3
  try clear p2
  try clear c4
  try clear c4b0
  try clear c5
  try clear c5b0
  try clear c6
  try clear c6b0
  try clear p6
  try clear c7
  try clear p7
  try clear q7
  try clear hx7
  try clear p7
  try clear q7
  obtain ⟨kq, x21_2, rfl, HA, HJ2, HB⟩ := hcut
  cases kq with
  | zero => exact absurd HA.out (by simp [template_zzAt.j0])
  | succ kj2 =>
   have H := HA.out
   clear HA
   simp only [template_zzAt.j0] at H
   by_cases c8 : x21_2 = true
   ·subst c8
    have H1 : (some (([] : List ByteArray), 0, false)) = some (r1, r2, r3) := by rw [if_pos rfl] at H; exact H
    clear H
    have H := H1
    clear H1
    simp only [Option.some.injEq, Prod.mk.injEq] at H
    obtain ⟨rfl, rfl, rfl⟩ := H
    go_wp2
    go_ret3
    exact ⟨_, by first | rfl | (simp [errW_none, errW_some] <;> rfl) | (simp [*, errW_none, errW_some] <;> rfl), by first | exact Kd.R_nil _ _ _ _ _ | exact Kd.N_nil _ _ _ _ _ | exact Kd.V_nil _ _ _ _ _ | exact Kd.Q_nil _ _ _ _ _ | exact Kd.S_nil _ _ _ _ _, by repeat (first | (with_reducible first | exact HB.out | apply below_alloc | apply pw_below_drewN | apply below_drew1) | exact HB.out)⟩
   ·replace c8 := Bool.eq_false_iff.mpr c8
    subst c8
    have H1 : (if 0 ≤ (wrap64 (a1 + 1)) then (if (wrap64 (a1 + 1)) < (a0.size : Int) then (if (bt a0 (wrap64 (a1 + 1))) = 36 then (some ((([(⟨#[36, 36]⟩ : ByteArray), (⟨#[36]⟩ : ByteArray), (⟨#[]⟩ : ByteArray), (⟨#[]⟩ : ByteArray), (⟨#[]⟩ : ByteArray), (⟨#[]⟩ : ByteArray)] : List ByteArray)), wrap64 (a1 + 2), true)) else ((template_zzName.f kj2 a0 (wrap64 (a1 + 1))).bind fun t106 => (if t106 > (wrap64 (a1 + 1)) then (if 0 ≤ a1 then (if a1 ≤ t106 then (if t106 ≤ (a0.size : Int) then (if (wrap64 (a1 + 1)) ≤ t106 then (some ((([a0.extract (a1 : Int).toNat (t106 : Int).toNat, (⟨#[]⟩ : ByteArray), a0.extract ((wrap64 (a1 + 1)) : Int).toNat (t106 : Int).toNat, (⟨#[]⟩ : ByteArray), (⟨#[]⟩ : ByteArray), (⟨#[]⟩ : ByteArray)] : List ByteArray)), t106, true)) else (none)) else (none)) else (none)) else (none)) else (if (bt a0 (wrap64 (a1 + 1))) = 123 then ((template_zzName.f kj2 a0 (wrap64 (a1 + 2))).bind fun t110 => (if t110 > (wrap64 (a1 + 2)) then (if t110 < (a0.size : Int) then (if 0 ≤ t110 then (template_zzAt.j1 kj2 a0 a1 t110 ((bt a0 t110) == 125)) else (none)) else (template_zzAt.j1 kj2 a0 a1 t110 false)) else (template_zzAt.j1 kj2 a0 a1 t110 false))) else (some (([] : List ByteArray), 0, false)))))) else (none)) else (none)) = some (r1, r2, r3) := by rw [if_neg (show ¬ (false = true) by decide)] at H; exact H
    clear H
    have H := H1
    clear H1
    obtain ⟨ji9, hji9⟩ : ∃ j_ : Int, (wrap64 (a1 + 1)) = j_ := ⟨_, rfl⟩
    replace H : (if 0 ≤ (ji9) then (if (ji9) < (a0.size : Int) then (if (bt a0 (ji9)) = 36 then (some ((([(⟨#[36, 36]⟩ : ByteArray), (⟨#[36]⟩ : ByteArray), (⟨#[]⟩ : ByteArray), (⟨#[]⟩ : ByteArray), (⟨#[]⟩ : ByteArray), (⟨#[]⟩ : ByteArray)] : List ByteArray)), wrap64 (a1 + 2), true)) else ((template_zzName.f kj2 a0 (ji9)).bind fun t106 => (if t106 > (ji9) then (if 0 ≤ a1 then (if a1 ≤ t106 then (if t106 ≤ (a0.size : Int) then (if (ji9) ≤ t106 then (some ((([a0.extract (a1 : Int).toNat (t106 : Int).toNat, (⟨#[]⟩ : ByteArray), a0.extract ((ji9) : Int).toNat (t106 : Int).toNat, (⟨#[]⟩ : ByteArray), (⟨#[]⟩ : ByteArray), (⟨#[]⟩ : ByteArray)] : List ByteArray)), t106, true)) else (none)) else (none)) else (none)) else (none)) else (if (bt a0 (ji9)) = 123 then ((template_zzName.f kj2 a0 (wrap64 (a1 + 2))).bind fun t110 => (if t110 > (wrap64 (a1 + 2)) then (if t110 < (a0.size : Int) then (if 0 ≤ t110 then (template_zzAt.j1 kj2 a0 a1 t110 ((bt a0 t110) == 125)) else (none)) else (template_zzAt.j1 kj2 a0 a1 t110 false)) else (template_zzAt.j1 kj2 a0 a1 t110 false))) else (some (([] : List ByteArray), 0, false)))))) else (none)) else (none)) = some (r1, r2, r3) := by first | (rw [hji9] at H; exact H) | (simp only [hji9] at H ⊢; exact H)
    have hji9w : (IntKind.i64.wrap (a1 + 1)) = ji9 := (i64_w _).trans hji9
    by_cases c10 : 0 ≤ (ji9)
    ·rw [if_pos c10] at H
     have c10b0 : decide (0 ≤ (ji9)) = true := decide_eq_true c10
     clear c10
     by_cases c11 : (ji9) < (a0.size : Int)
     ·rw [if_pos c11] at H
      have c11b0 : decide ((ji9) < (a0.size : Int)) = true := decide_eq_true c11
      clear c11
      by_cases c13 : (bt a0 (ji9)) = 36
      ·rw [if_pos c13] at H
       have c13b0 : ((bt a0 (ji9)) == 36) = true := beq_iff_eq.mpr c13
       have c13b1 : ((bt a0 (ji9)) != 36) = false := bne_eq_false_iff_eq.mpr c13
       clear c13
       obtain ⟨y103, hy103⟩ : ∃ y_ : List ByteArray, y_ = (([(⟨#[36, 36]⟩ : ByteArray), (⟨#[36]⟩ : ByteArray), (⟨#[]⟩ : ByteArray), (⟨#[]⟩ : ByteArray), (⟨#[]⟩ : ByteArray), (⟨#[]⟩ : ByteArray)] : List ByteArray)) := ⟨_, rfl⟩
       replace H : (some (y103, wrap64 (a1 + 2), true)) = some (r1, r2, r3) := by first | (rw [hy103]; with_reducible exact H) | (have H2_ := (Option.bind_some _ _).symm.trans H; rw [hy103]; with_reducible exact H2_) | (have H2_ := (Option.bind_some _ _).symm.trans H; with_reducible exact H2_) | with_reducible exact H | (rw [hy103]; exact H) | exact H
       have Ny103 := aM hy103
       clear hy103
       simp only [Option.some.injEq, Prod.mk.injEq] at H
       obtain ⟨rfl, rfl, rfl⟩ := H
       have p12 : 0 ≤ ((ji9) : Int) := of_decide_eq_true (by first | (with_reducible assumption) | assumption)
       have q12 : (ji9) < (a0.size : Int) := of_decide_eq_true (by first | (with_reducible assumption) | assumption)
       have hx12 := bt_at a0 (ji9)
       replace p12 := eq_true p12
       replace q12 := eq_true q12
       go_wp2_with (first | ((with_reducible refine gate_dst (N := 27) rfl ?_); (try (refine gate_guard (by rfl) ?_; dsimp only)); refine Kd.R_lit Kd.string _ 9 ?hg (N := 27) ?hd (xs := ([(⟨#[36, 36]⟩ : ByteArray), (⟨#[36]⟩ : ByteArray), (⟨#[]⟩ : ByteArray), (⟨#[]⟩ : ByteArray), (⟨#[]⟩ : ByteArray), (⟨#[]⟩ : ByteArray)] : List ByteArray)) (inner := [.string (⟨#[36, 36]⟩ : ByteArray), .string (⟨#[36]⟩ : ByteArray), .string (⟨#[]⟩ : ByteArray), .string (⟨#[]⟩ : ByteArray), .string (⟨#[]⟩ : ByteArray), .string (⟨#[]⟩ : ByteArray)]) (ok := fun _ => True) (okp := fun _ => True) ?hr ?hp (fun _ hk => hk) trivial (Below.refl _ _) (Nat.le_refl _) (by simp) ?_; (case hd => rfl); (case hg => rfl); (case hr => first | (go_simp; done) | (go_simp; rfl)); (case hp => exact (Reps.one (show Kd.M Kd.string _ _ _ (⟨#[36, 36]⟩ : ByteArray) [.string (⟨#[36, 36]⟩ : ByteArray)] from rfl) (Reps.one (show Kd.M Kd.string _ _ _ (⟨#[36]⟩ : ByteArray) [.string (⟨#[36]⟩ : ByteArray)] from rfl) (Reps.one (show Kd.M Kd.string _ _ _ (⟨#[]⟩ : ByteArray) [.string (⟨#[]⟩ : ByteArray)] from rfl) (Reps.one (show Kd.M Kd.string _ _ _ (⟨#[]⟩ : ByteArray) [.string (⟨#[]⟩ : ByteArray)] from rfl) (Reps.one (show Kd.M Kd.string _ _ _ (⟨#[]⟩ : ByteArray) [.string (⟨#[]⟩ : ByteArray)] from rfl) (Reps.one (show Kd.M Kd.string _ _ _ (⟨#[]⟩ : ByteArray) [.string (⟨#[]⟩ : ByteArray)] from rfl) (Reps.none _ _)))))))); intro v104 w14 ho15 hb hg_ hnew_; clear hg_ hnew_; (first | rw [← Ny103.out] at ho15 | (simp only [Int.reduceToNat] at ho15; rw [← Ny103.out] at ho15)); have n0_ := aM (Kd.R_lower ho15 (below_size (by repeat (first | (with_reducible first | exact HB.out | apply below_alloc | apply pw_below_drewN | apply below_drew1) | exact HB.out)))); have n1_ := aM (below_step (by repeat (first | (with_reducible first | exact HB.out | apply below_alloc | apply pw_below_drewN | apply below_drew1) | exact HB.out)) hb); clear HB; have HO105 := n0_; have HB := n1_; clear n0_ n1_; clear hb ho15))
       go_ret3
       exact ⟨_, by first | rfl | (simp [errW_none, errW_some] <;> rfl) | (simp only [← hji9]; first | rfl | (simp [errW_none, errW_some] <;> rfl)) | (simp [*, errW_none, errW_some] <;> rfl), by (with_reducible repeat (first | apply Kd.R_alloc | apply Kd.R_drewN | apply Kd.R_drew)); exact HO105.out, by repeat (first | (with_reducible first | exact HB.out | apply below_alloc | apply pw_below_drewN | apply below_drew1) | exact HB.out)⟩
      ·rw [if_neg c13] at H
       have c13b0 : ((bt a0 (ji9)) == 36) = false := beq_eq_false_iff_ne.mpr c13
       have c13b1 : ((bt a0 (ji9)) != 36) = true := bne_iff_ne.mpr c13
       replace H := Option.bind_eq_some_iff.mp H
       obtain ⟨t106, A160, H⟩ := H
       replace H : (if t106 > (ji9) then (if 0 ≤ a1 then (if a1 ≤ t106 then (if t106 ≤ (a0.size : Int) then (if (ji9) ≤ t106 then (some ((([a0.extract (a1 : Int).toNat (t106 : Int).toNat, (⟨#[]⟩ : ByteArray), a0.extract ((ji9) : Int).toNat (t106 : Int).toNat, (⟨#[]⟩ : ByteArray), (⟨#[]⟩ : ByteArray), (⟨#[]⟩ : ByteArray)] : List ByteArray)), t106, true)) else (none)) else (none)) else (none)) else (none)) else (if (bt a0 (ji9)) = 123 then ((template_zzName.f kj2 a0 (wrap64 (a1 + 2))).bind fun t110 => (if t110 > (wrap64 (a1 + 2)) then (if t110 < (a0.size : Int) then (if 0 ≤ t110 then (template_zzAt.j1 kj2 a0 a1 t110 ((bt a0 t110) == 125)) else (none)) else (template_zzAt.j1 kj2 a0 a1 t110 false)) else (template_zzAt.j1 kj2 a0 a1 t110 false))) else (some (([] : List ByteArray), 0, false)))) = some (r1, r2, r3) := H
       have A16 := aM A160
       clear A160
       by_cases c17 : t106 > (ji9)
       ·rw [if_pos c17] at H
        have c17b0 : decide ((ji9) < t106) = true := decide_eq_true c17
        clear c17
        by_cases c18 : 0 ≤ a1
        ·rw [if_pos c18] at H
         have c18b0 := eq_true c18
         have c18b1 : decide (0 ≤ a1) = true := decide_eq_true c18
         clear c18
         by_cases c19 : a1 ≤ t106
         ·rw [if_pos c19] at H
          have c19b0 := eq_true c19
          have c19b1 : decide (a1 ≤ t106) = true := decide_eq_true c19
          clear c19
          by_cases c20 : t106 ≤ (a0.size : Int)
          ·rw [if_pos c20] at H
           have c20b0 := eq_true c20
           have c20b1 : decide (t106 ≤ (a0.size : Int)) = true := decide_eq_true c20
           clear c20
           have c21b0 := eq_true (of_decide_eq_true (by first | (with_reducible assumption) | assumption) : 0 ≤ (ji9))
           by_cases c22 : (ji9) ≤ t106
           ·rw [if_pos c22] at H
            have c22b0 := eq_true c22
            have c22b1 : decide ((ji9) ≤ t106) = true := decide_eq_true c22
            clear c22
            have c23b0 := eq_true (of_decide_eq_true (by first | (with_reducible assumption) | assumption) : t106 ≤ (a0.size : Int))
            obtain ⟨y107, hy107⟩ : ∃ y_ : List ByteArray, y_ = (([a0.extract (a1 : Int).toNat (t106 : Int).toNat, (⟨#[]⟩ : ByteArray), a0.extract ((ji9) : Int).toNat (t106 : Int).toNat, (⟨#[]⟩ : ByteArray), (⟨#[]⟩ : ByteArray), (⟨#[]⟩ : ByteArray)] : List ByteArray)) := ⟨_, rfl⟩
            replace H : (some (y107, t106, true)) = some (r1, r2, r3) := by first | (rw [hy107]; with_reducible exact H) | (have H2_ := (Option.bind_some _ _).symm.trans H; rw [hy107]; with_reducible exact H2_) | (have H2_ := (Option.bind_some _ _).symm.trans H; with_reducible exact H2_) | with_reducible exact H | (rw [hy107]; exact H) | exact H
            have Ny107 := aM hy107
            clear hy107
            simp only [Option.some.injEq, Prod.mk.injEq] at H
            obtain ⟨rfl, rfl, rfl⟩ := H
            have p12 : 0 ≤ ((ji9) : Int) := of_decide_eq_true (by first | (with_reducible assumption) | assumption)
            have q12 : (ji9) < (a0.size : Int) := of_decide_eq_true (by first | (with_reducible assumption) | assumption)
            have hx12 := bt_at a0 (ji9)
            replace p12 := eq_true p12
            replace q12 := eq_true q12
            try go_wp2_with (first | ((with_reducible refine gate_callee (f := 85) rfl ?_); refine goesL_ (some 33) rfl rfl Tryz.func85 (by kernel_rfl) rfl #[.string a0, .int .i64 ji9] rfl (by (try simp only [List.map_toArray, List.map_cons, List.map_nil]); first | done | (simp only [hji9]; rfl) | rfl | (simp only [List.length_drop, List.length_take]; rfl)) ?_; (with_reducible refine (template_zzName.calls kj2 a0 ji9 t106 _ A16.out).mono ?_); rintro e w' ⟨rfl, ⟨nd, rfl⟩⟩; refine ⟨_, rfl, ?_⟩))
            (try (rw [drewN_self wc]; generalize hq_ : World.drewN wc _ = wc; have n0_ : Aside0 (Below w.heap.size w wc) := ⟨by rw [← hq_]; exact (by repeat (first | (with_reducible first | exact HB.out | apply below_alloc | apply pw_below_drewN | apply below_drew1) | exact HB.out))⟩; clear HB hq_; have HB := n0_; clear n0_))
            have n0_ := aM (below_drew1 HB.out)
            clear HB; have HB := n0_; clear n0_
            refine start_ (n := 14) (S := fun w' => True) (ds := []) #[false, false, false, false, false, false, false, false, false, false, false, false, false, false] (by kernel_rfl) rfl rfl trivial (fun hHeld => ?_); refine with_tabW template_zzAt.tab7 template_zzAt.bits7 (fun HT_ HW_ => ?_)
            generalize wc.drew = w24 at HB hHeld ⊢
            refine pure_ (i := 0) (N := some 38) (v := ?_) (a' := ?_) #[true, false, false, false, false, false, false, false, false, false, false, false, false, false] rfl rfl (any_of HT_.out (by kernel_rfl)) (fun _ _ _ h => h) (Or.inl ⟨by rfl, ?_⟩) ?_ ?_
            rotate_left
            ·intro w'; go_simp; with_reducible rfl
            rotate_left
            ·simp only [Act.put, sA, sB, sC, i64_w, i32_w]; rfl
            refine pure_ (i := 1) (N := some 39) (v := ?_) (a' := ?_) #[true, true, false, false, false, false, false, false, false, false, false, false, false, false] rfl rfl (any_of HT_.out (by kernel_rfl)) (fun _ _ _ h => h) (Or.inl ⟨by rfl, ?_⟩) ?_ ?_
            rotate_left
            ·intro w'; go_simp; with_reducible rfl
            rotate_left
            ·simp only [Act.put, sA, sB, sC, i64_w, i32_w]; rfl
            refine pure_ (i := 2) (N := some 40) (v := ?_) (a' := ?_) #[true, true, true, false, false, false, false, false, false, false, false, false, false, false] rfl rfl (any_of HT_.out (by kernel_rfl)) (fun _ _ _ h => h) (Or.inl ⟨by rfl, ?_⟩) ?_ ?_
            rotate_left
            ·intro w'; go_simp; with_reducible rfl
            rotate_left
            ·simp only [Act.put, sA, sB, sC, i64_w, i32_w]; rfl
            refine pure_ (i := 3) (N := some 41) (v := ?_) (a' := ?_) #[true, true, true, true, false, false, false, false, false, false, false, false, false, false] rfl rfl (any_of HT_.out (by kernel_rfl)) (fun _ _ _ h => h) (Or.inl ⟨by rfl, ?_⟩) ?_ ?_
            rotate_left
            ·intro w'; go_simp; with_reducible rfl
            rotate_left
            ·simp only [Act.put, sA, sB, sC, i64_w, i32_w]; rfl
            refine pure_ (i := 4) (N := some 42) (v := ?_) (a' := ?_) #[true, true, true, true, true, false, false, false, false, false, false, false, false, false] rfl rfl (any_of HT_.out (by kernel_rfl)) (fun _ _ _ h => h) (Or.inl ⟨by rfl, ?_⟩) ?_ ?_
            rotate_left
            ·intro w'; go_simp; with_reducible rfl
            rotate_left
            ·simp only [Act.put, sA, sB, sC, i64_w, i32_w]; rfl
            refine pure_ (i := 5) (N := some 43) (v := ?_) (a' := ?_) #[true, true, true, true, true, true, false, false, false, false, false, false, false, false] rfl rfl (any_of HT_.out (by kernel_rfl)) (fun _ _ _ h => h) (Or.inl ⟨by rfl, ?_⟩) ?_ ?_
            rotate_left
            ·intro w'; go_simp; with_reducible rfl
            rotate_left
            ·simp only [Act.put, sA, sB, sC, i64_w, i32_w]; rfl
            refine pure_ (i := 6) (N := some 44) (v := ?_) (a' := ?_) #[true, true, true, true, true, true, true, false, false, false, false, false, false, false] rfl rfl (any_of HT_.out (by kernel_rfl)) (fun _ _ _ h => h) (Or.inl ⟨by rfl, ?_⟩) ?_ ?_
            rotate_left
            ·intro w'; go_simp; with_reducible rfl
            rotate_left
            ·simp only [Act.put, sA, sB, sC, i64_w, i32_w]; rfl
            refine pure_ (i := 7) (N := some 45) (v := ?_) (a' := ?_) #[true, true, true, true, true, true, true, true, false, false, false, false, false, false] rfl rfl (any_of HT_.out (by kernel_rfl)) (fun _ _ _ h => h) (Or.inl ⟨by rfl, ?_⟩) ?_ ?_
            rotate_left
            ·intro w'; go_simp; with_reducible rfl
            rotate_left
            ·simp only [Act.put, sA, sB, sC, i64_w, i32_w]; rfl
            refine pure_ (i := 8) (N := some 46) (v := ?_) (a' := ?_) #[true, true, true, true, true, true, true, true, true, false, false, false, false, false] rfl rfl (any_of HT_.out (by kernel_rfl)) (fun _ _ _ h => h) (Or.inl ⟨by rfl, ?_⟩) ?_ ?_
            rotate_left
            ·intro w'; go_simp; with_reducible rfl
            rotate_left
            ·simp only [Act.put, sA, sB, sC, i64_w, i32_w]; rfl
            refine pure_ (i := 10) (N := some 48) (v := ?_) (a' := ?_) #[true, true, true, true, true, true, true, true, true, false, true, false, false, false] rfl rfl (any_of HT_.out (by kernel_rfl)) (fun _ _ _ h => h) (Or.inl ⟨by rfl, ?_⟩) ?_ ?_
            rotate_left
            ·intro w'; go_simp; with_reducible rfl
            rotate_left
            ·simp only [Act.put, sA, sB, sC, i64_w, i32_w]; rfl
            refine one_ (i := 9) (N := some 47) #[true, true, true, true, true, true, true, true, true, true, true, false, false, false] rfl rfl (one_of HT_.out (by kernel_rfl)) (by decide) (fun K hK => ?_)
            refine Kd.R_lit_step Kd.string _ 9 ?hg (N := 47) ?hd (xs := ([a0.extract (a1 : Int).toNat (t106 : Int).toNat, (⟨#[]⟩ : ByteArray), a0.extract ((ji9) : Int).toNat (t106 : Int).toNat, (⟨#[]⟩ : ByteArray), (⟨#[]⟩ : ByteArray), (⟨#[]⟩ : ByteArray)] : List ByteArray)) (inner := [.string (a0.extract (a1 : Int).toNat (t106 : Int).toNat), .string (⟨#[]⟩ : ByteArray), .string (a0.extract ((ji9) : Int).toNat (t106 : Int).toNat), .string (⟨#[]⟩ : ByteArray), .string (⟨#[]⟩ : ByteArray), .string (⟨#[]⟩ : ByteArray)]) (ok := fun _ => True) (okp := fun _ => True) ?hr ?hp (fun _ hk => hk) trivial (Below.refl _ _) (Nat.le_refl _) (by simp) ?_; (case hd => rfl); (case hg => rfl); (case hr => first | (go_simp; done) | (go_simp; rfl)); (case hp => exact (Reps.one (show Kd.M Kd.string _ _ _ (a0.extract (a1 : Int).toNat (t106 : Int).toNat) [.string (a0.extract (a1 : Int).toNat (t106 : Int).toNat)] from rfl) (Reps.one (show Kd.M Kd.string _ _ _ (⟨#[]⟩ : ByteArray) [.string (⟨#[]⟩ : ByteArray)] from rfl) (Reps.one (show Kd.M Kd.string _ _ _ (a0.extract ((ji9) : Int).toNat (t106 : Int).toNat) [.string (a0.extract ((ji9) : Int).toNat (t106 : Int).toNat)] from rfl) (Reps.one (show Kd.M Kd.string _ _ _ (⟨#[]⟩ : ByteArray) [.string (⟨#[]⟩ : ByteArray)] from rfl) (Reps.one (show Kd.M Kd.string _ _ _ (⟨#[]⟩ : ByteArray) [.string (⟨#[]⟩ : ByteArray)] from rfl) (Reps.one (show Kd.M Kd.string _ _ _ (⟨#[]⟩ : ByteArray) [.string (⟨#[]⟩ : ByteArray)] from rfl) (Reps.none _ _))))))))
            intro v108 w25 ho26 hb hg_ hnew_; clear hg_ hnew_
            (first | rw [← Ny107.out] at ho26 | (simp only [Int.reduceToNat] at ho26; rw [← Ny107.out] at ho26))
            have n0_ := aM (Kd.R_lower ho26 (below_size (by repeat (first | (with_reducible first | exact HB.out | apply below_alloc | apply pw_below_drewN | apply below_drew1) | exact HB.out))))
            have n1_ := aM (below_step (by repeat (first | (with_reducible first | exact HB.out | apply below_alloc | apply pw_below_drewN | apply below_drew1) | exact HB.out)) hb)
            clear HB; have HO109 := n0_; have HB := n1_; clear n0_ n1_ hb ho26
            refine hK.out _ _ trivial (fun hHeld => ?_)
            clear hK K
            refine norm_ (a' := ?_) ?_ ?_
            rotate_left
            ·show Act.put _ (some 47) _ = _
             simp only [Act.put, sA, sB, sC, i64_w, i32_w]; rfl
            refine pure_ (i := 11) (N := some 4) (v := ?_) (a' := ?_) #[true, true, true, true, true, true, true, true, true, true, true, true, false, false] rfl rfl (any_of HT_.out (by kernel_rfl)) (fun _ _ _ h => h) (Or.inl ⟨by rfl, ?_⟩) ?_ ?_
            rotate_left
            ·intro w'; go_simp; with_reducible rfl
            rotate_left
            ·simp only [Act.put, sA, sB, sC, i64_w, i32_w]; rfl
            refine pure_ (i := 12) (N := some 5) (v := ?_) (a' := ?_) #[true, true, true, true, true, true, true, true, true, true, true, true, true, false] rfl rfl (any_of HT_.out (by kernel_rfl)) (fun _ _ _ h => h) (Or.inl ⟨by rfl, ?_⟩) ?_ ?_
            rotate_left
            ·intro w'; go_simp; with_reducible rfl
            rotate_left
            ·simp only [Act.put, sA, sB, sC, i64_w, i32_w]; rfl
            refine pure_ (i := 13) (N := some 6) (v := ?_) (a' := ?_) #[true, true, true, true, true, true, true, true, true, true, true, true, true, true] rfl rfl (any_of HT_.out (by kernel_rfl)) (fun _ _ _ h => h) (Or.inl ⟨by rfl, ?_⟩) ?_ ?_
            rotate_left
            ·intro w'; go_simp; with_reducible rfl
            rotate_left
            ·simp only [Act.put, sA, sB, sC, i64_w, i32_w]; rfl
            refine done_ (done_of HT_.out (by kernel_rfl)) ?_
            try go_wp2
            go_ret3
            exact ⟨_, by first | rfl | (simp [errW_none, errW_some] <;> rfl) | (simp only [← hji9]; first | rfl | (simp [errW_none, errW_some] <;> rfl)) | (simp [*, errW_none, errW_some] <;> rfl), by (with_reducible repeat (first | apply Kd.R_alloc | apply Kd.R_drewN | apply Kd.R_drew)); exact HO109.out, by repeat (first | (with_reducible first | exact HB.out | apply below_alloc | apply pw_below_drewN | apply below_drew1) | exact HB.out)⟩
           ·rw [if_neg c22] at H
            exact absurd H (by simp)
          ·rw [if_neg c20] at H
           exact absurd H (by simp)
         ·rw [if_neg c19] at H
          exact absurd H (by simp)
        ·rw [if_neg c18] at H
         exact absurd H (by simp)
       ·rw [if_neg c17] at H
        have c17b0 : decide ((ji9) < t106) = false := decide_eq_false c17
        clear c17
        by_cases c28 : (bt a0 (ji9)) = 123
        ·rw [if_pos c28] at H
         have c28b0 : ((bt a0 (ji9)) == 123) = true := beq_iff_eq.mpr c28
         have c28b1 : ((bt a0 (ji9)) != 123) = false := bne_eq_false_iff_eq.mpr c28
         clear c28
         replace H := Option.bind_eq_some_iff.mp H
         obtain ⟨t110, A290, H⟩ := H
         replace H : (if t110 > (wrap64 (a1 + 2)) then (if t110 < (a0.size : Int) then (if 0 ≤ t110 then (template_zzAt.j1 kj2 a0 a1 t110 ((bt a0 t110) == 125)) else (none)) else (template_zzAt.j1 kj2 a0 a1 t110 false)) else (template_zzAt.j1 kj2 a0 a1 t110 false)) = some (r1, r2, r3) := H
         have A29 := aM A290
         clear A290
         have HC30 := aM H
         clear H
         have p12 : 0 ≤ ((ji9) : Int) := of_decide_eq_true (by first | (with_reducible assumption) | assumption)
         have q12 : (ji9) < (a0.size : Int) := of_decide_eq_true (by first | (with_reducible assumption) | assumption)
         have hx12 := bt_at a0 (ji9)
         replace p12 := eq_true p12
         replace q12 := eq_true q12
         go_upto_region 11 with (first | ((with_reducible refine gate_callee (f := 85) rfl ?_); refine goesL_ (some 33) rfl rfl Tryz.func85 (by kernel_rfl) rfl #[.string a0, .int .i64 ji9] rfl (by (try simp only [List.map_toArray, List.map_cons, List.map_nil]); first | done | (simp only [hji9]; rfl) | rfl | (simp only [List.length_drop, List.length_take]; rfl)) ?_; (with_reducible refine (template_zzName.calls kj2 a0 ji9 t106 _ A16.out).mono ?_); rintro e w' ⟨rfl, ⟨nd, rfl⟩⟩; refine ⟨_, rfl, ?_⟩; have p27 : 0 ≤ ((ji9) : Int) := of_decide_eq_true (by first | (with_reducible assumption) | assumption); have q27 : (ji9) < (a0.size : Int) := of_decide_eq_true (by first | (with_reducible assumption) | assumption); have hx27 := bt_at a0 (ji9); replace p27 := eq_true p27; replace q27 := eq_true q27) | ((with_reducible refine gate_callee (f := 85) rfl ?_); refine goesL_ (some 57) rfl rfl Tryz.func85 (by kernel_rfl) rfl #[.string a0, .int .i64 (wrap64 (a1 + 2))] rfl (by (try simp only [List.map_toArray, List.map_cons, List.map_nil]); first | done | rfl | (simp only [List.length_drop, List.length_take]; rfl)) ?_; (with_reducible refine (template_zzName.calls kj2 a0 (wrap64 (a1 + 2)) t110 _ A29.out).mono ?_); rintro e w' ⟨rfl, ⟨nd, rfl⟩⟩; refine ⟨_, rfl, ?_⟩))
         (try simp only [Act.put, List.setIfInBounds_toArray, List.set_cons_zero, List.set_cons_succ])
         go_cut [73] (fun v73 wc => ∃ (kq : Nat) (x73_29 : Bool), v73 = .bool x73_29 ∧ Aside0 (template_zzAt.j1 kq a0 a1 t110 x73_29 = some (r1, r2, r3)) ∧ Aside0 (kq ≤ kj2) ∧ Aside0 (Below w.heap.size w wc))
         case first =>
          have H := HC30.out
          clear HC30
          by_cases c31 : t110 > (wrap64 (a1 + 2))
          ·rw [if_pos c31] at H
           have c31b0 : decide ((wrap64 (a1 + 2)) < t110) = true := decide_eq_true c31
           clear c31
           (first | rw [c31b0] | (simp only [i64_w, i32_w]; rw [c31b0]) | skip)
           by_cases c32 : t110 < (a0.size : Int)
           ·rw [if_pos c32] at H
            have c32b0 : decide (t110 < (a0.size : Int)) = true := decide_eq_true c32
            clear c32
            by_cases c33 : 0 ≤ t110
            ·rw [if_pos c33] at H
             have c33b0 : decide (0 ≤ t110) = true := decide_eq_true c33
             clear c33
             have H' := aM H
             clear H
             have p34 : 0 ≤ (t110 : Int) := of_decide_eq_true (by first | (with_reducible assumption) | assumption)
             have q34 : t110 < (a0.size : Int) := of_decide_eq_true (by first | (with_reducible assumption) | assumption)
             have hx34 := bt_at a0 t110
             replace p34 := eq_true p34
             replace q34 := eq_true q34
             go_wp2
             go_meet
             case rel => exact ⟨_, (((bt a0 t110) == 125)), (by first | rfl | (simp; done) | (simp [*]; done)), H', ⟨by have := HJ2.out; first | omega | exact Nat.le_refl _⟩, ⟨by repeat (first | (with_reducible first | exact HB.out | apply below_alloc | apply pw_below_drewN | apply below_drew1) | exact HB.out)⟩⟩
            ·rw [if_neg c33] at H
             exact absurd H (by simp)
           ·rw [if_neg c32] at H
            have c32b0 : decide (t110 < (a0.size : Int)) = false := decide_eq_false c32
            clear c32
            have H' := aM H
            clear H
            go_wp2
            go_meet
            case rel => exact ⟨_, (false), (by first | rfl | (simp; done) | (simp [*]; done)), H', ⟨by have := HJ2.out; first | omega | exact Nat.le_refl _⟩, ⟨by repeat (first | (with_reducible first | exact HB.out | apply below_alloc | apply pw_below_drewN | apply below_drew1) | exact HB.out)⟩⟩
          ·rw [if_neg c31] at H
           have c31b0 : decide ((wrap64 (a1 + 2)) < t110) = false := decide_eq_false c31
           clear c31
           (first | rw [c31b0] | (simp only [i64_w, i32_w]; rw [c31b0]) | skip)
           have H' := aM H
           clear H
           go_wp2
           go_meet
           case rel => exact ⟨_, (false), (by first | rfl | (simp; done) | (simp [*]; done)), H', ⟨by have := HJ2.out; first | omega | exact Nat.le_refl _⟩, ⟨by repeat (first | (with_reducible first | exact HB.out | apply below_alloc | apply pw_below_drewN | apply below_drew1) | exact HB.out)⟩⟩
         case rest =>
          clear HC30
          try clear c1
          try clear p1
          try clear q1
          try clear hx1
          try clear c2
          try clear p2
          try clear q2
          try clear hx2
          try clear c3
          try clear p3
          try clear q3
          try clear hx3
          try clear c4
          try clear c4b0
          try clear c5
          try clear c5b0
          try clear c6
          try clear c6b0
          try clear p6
          try clear c7
          try clear p7
          try clear q7
          try clear hx7
          try clear c8
          try clear c10
          try clear c10b0
          try clear c11
          try clear c11b0
          try clear p12
          try clear q12
          try clear hx12
          try clear c13
          try clear c13b0
          try clear c13b1
          try clear c17
          try clear c17b0
          try clear c18
          try clear c18b0
          try clear c18b1
          try clear c19
          try clear c19b0
          try clear c19b1
          try clear c20
          try clear c20b0
          try clear c20b1
          try clear c21
          try clear c21b0
          try clear c22
          try clear c22b0
          try clear c22b1
          try clear c23
          try clear c23b0
          try clear p27
          try clear q27
          try clear hx27
          try clear c28
          try clear c28b0
          try clear c28b1
          try clear c31
          try clear c31b0
          try clear c32
          try clear c32b0
          try clear c33
          try clear c33b0
          try clear p34
          try clear q34
          try clear hx34
          try clear p12
          try clear p2
          try clear p27
          try clear p34
          try clear p6
          try clear p7
          try clear q12
          try clear q27
          try clear q34
          try clear q7
          obtain ⟨kq, x73_29, rfl, HA, HJ29, HB⟩ := hcut
          cases kq with
          | zero => exact absurd HA.out (by simp [template_zzAt.j1])
          | succ kj29 =>
           have H := HA.out
           clear HA
           simp only [template_zzAt.j1] at H
           by_cases c35 : x73_29 = true
           ·subst c35
            have H1 : (if 0 ≤ a1 then (if a1 ≤ (wrap64 (t110 + 1)) then (if (wrap64 (t110 + 1)) ≤ (a0.size : Int) then (if 0 ≤ (wrap64 (a1 + 2)) then (if (wrap64 (a1 + 2)) ≤ t110 then (if t110 ≤ (a0.size : Int) then (some ((([a0.extract (a1 : Int).toNat ((wrap64 (t110 + 1)) : Int).toNat, (⟨#[]⟩ : ByteArray), (⟨#[]⟩ : ByteArray), a0.extract ((wrap64 (a1 + 2)) : Int).toNat (t110 : Int).toNat, (⟨#[]⟩ : ByteArray), (⟨#[]⟩ : ByteArray)] : List ByteArray)), wrap64 (t110 + 1), true)) else (none)) else (none)) else (none)) else (none)) else (none)) else (none)) = some (r1, r2, r3) := by rw [if_pos rfl] at H; exact H
            clear H
            have H := H1
            clear H1
            by_cases c36 : 0 ≤ a1
            ·rw [if_pos c36] at H
             have c36b0 := eq_true c36
             have c36b1 : decide (0 ≤ a1) = true := decide_eq_true c36
             clear c36
             by_cases c37 : a1 ≤ (wrap64 (t110 + 1))
             ·rw [if_pos c37] at H
              have c37b0 := eq_true c37
              have c37b1 : decide (a1 ≤ (wrap64 (t110 + 1))) = true := decide_eq_true c37
              by_cases c38 : (wrap64 (t110 + 1)) ≤ (a0.size : Int)
              ·rw [if_pos c38] at H
               have c38b0 := eq_true c38
               have c38b1 : decide ((wrap64 (t110 + 1)) ≤ (a0.size : Int)) = true := decide_eq_true c38
               obtain ⟨ji39, hji39⟩ : ∃ j_ : Int, (wrap64 (a1 + 2)) = j_ := ⟨_, rfl⟩
               replace H : (if 0 ≤ (ji39) then (if (ji39) ≤ t110 then (if t110 ≤ (a0.size : Int) then (some ((([a0.extract (a1 : Int).toNat ((wrap64 (t110 + 1)) : Int).toNat, (⟨#[]⟩ : ByteArray), (⟨#[]⟩ : ByteArray), a0.extract ((ji39) : Int).toNat (t110 : Int).toNat, (⟨#[]⟩ : ByteArray), (⟨#[]⟩ : ByteArray)] : List ByteArray)), wrap64 (t110 + 1), true)) else (none)) else (none)) else (none)) = some (r1, r2, r3) := by first | (rw [hji39] at H; exact H) | (simp only [hji39] at H ⊢; exact H)
               have hji39w : (IntKind.i64.wrap (a1 + 2)) = ji39 := (i64_w _).trans hji39
               by_cases c40 : 0 ≤ (ji39)
               ·rw [if_pos c40] at H
                have c40b0 := eq_true c40
                have c40b1 : decide (0 ≤ (ji39)) = true := decide_eq_true c40
                clear c40
                by_cases c41 : (ji39) ≤ t110
                ·rw [if_pos c41] at H
                 have c41b0 := eq_true c41
                 have c41b1 : decide ((ji39) ≤ t110) = true := decide_eq_true c41
                 clear c41
                 by_cases c42 : t110 ≤ (a0.size : Int)
                 ·rw [if_pos c42] at H
                  have c42b0 := eq_true c42
                  have c42b1 : decide (t110 ≤ (a0.size : Int)) = true := decide_eq_true c42
                  clear c42
                  obtain ⟨y111, hy111⟩ : ∃ y_ : List ByteArray, y_ = (([a0.extract (a1 : Int).toNat ((wrap64 (t110 + 1)) : Int).toNat, (⟨#[]⟩ : ByteArray), (⟨#[]⟩ : ByteArray), a0.extract ((ji39) : Int).toNat (t110 : Int).toNat, (⟨#[]⟩ : ByteArray), (⟨#[]⟩ : ByteArray)] : List ByteArray)) := ⟨_, rfl⟩
                  replace H : (some (y111, wrap64 (t110 + 1), true)) = some (r1, r2, r3) := by first | (rw [hy111]; with_reducible exact H) | (have H2_ := (Option.bind_some _ _).symm.trans H; rw [hy111]; with_reducible exact H2_) | (have H2_ := (Option.bind_some _ _).symm.trans H; with_reducible exact H2_) | with_reducible exact H | (rw [hy111]; exact H) | exact H
                  have Ny111 := aM hy111
                  clear hy111
                  simp only [Option.some.injEq, Prod.mk.injEq] at H
                  obtain ⟨rfl, rfl, rfl⟩ := H
                  try go_wp2
                  have n0_ := aM (below_drew1 HB.out)
                  clear HB; have HB := n0_; clear n0_
                  refine start_ (n := 16) (S := fun w' => True) (ds := []) #[false, false, false, false, false, false, false, false, false, false, false, false, false, false, false, false] (by kernel_rfl) rfl rfl trivial (fun hHeld => ?_); refine with_tabW template_zzAt.tab12 template_zzAt.bits12 (fun HT_ HW_ => ?_)
                  generalize wc.drew = w43 at HB hHeld ⊢
                  refine pure_ (i := 0) (N := some 74) (v := ?_) (a' := ?_) #[true, false, false, false, false, false, false, false, false, false, false, false, false, false, false, false] rfl rfl (any_of HT_.out (by kernel_rfl)) (fun _ _ _ h => h) (Or.inl ⟨by rfl, ?_⟩) ?_ ?_
                  rotate_left
                  ·intro w'; go_simp; with_reducible rfl
                  rotate_left
                  ·simp only [Act.put, sA, sB, sC, i64_w, i32_w]; rfl
                  refine pure_ (i := 1) (N := some 75) (v := ?_) (a' := ?_) #[true, true, false, false, false, false, false, false, false, false, false, false, false, false, false, false] rfl rfl (any_of HT_.out (by kernel_rfl)) (fun _ _ _ h => h) (Or.inl ⟨by rfl, ?_⟩) ?_ ?_
                  rotate_left
                  ·intro w'; go_simp; with_reducible rfl
                  rotate_left
                  ·simp only [Act.put, sA, sB, sC, i64_w, i32_w]; rfl
                  refine pure_ (i := 2) (N := some 76) (v := ?_) (a' := ?_) #[true, true, true, false, false, false, false, false, false, false, false, false, false, false, false, false] rfl rfl (any_of HT_.out (by kernel_rfl)) (fun _ _ _ h => h) (Or.inl ⟨by rfl, ?_⟩) ?_ ?_
                  rotate_left
                  ·intro w'; go_simp; with_reducible rfl
                  rotate_left
                  ·simp only [Act.put, sA, sB, sC, i64_w, i32_w]; rfl
                  refine pure_ (i := 3) (N := some 77) (v := ?_) (a' := ?_) #[true, true, true, true, false, false, false, false, false, false, false, false, false, false, false, false] rfl rfl (any_of HT_.out (by kernel_rfl)) (fun _ _ _ h => h) (Or.inl ⟨by rfl, ?_⟩) ?_ ?_
                  rotate_left
                  ·intro w'; go_simp; with_reducible rfl
                  rotate_left
                  ·simp only [Act.put, sA, sB, sC, i64_w, i32_w]; rfl
                  refine pure_ (i := 4) (N := some 78) (v := ?_) (a' := ?_) #[true, true, true, true, true, false, false, false, false, false, false, false, false, false, false, false] rfl rfl (any_of HT_.out (by kernel_rfl)) (fun _ _ _ h => h) (Or.inl ⟨by rfl, ?_⟩) ?_ ?_
                  rotate_left
                  ·intro w'; go_simp; with_reducible rfl
                  rotate_left
                  ·simp only [Act.put, sA, sB, sC, i64_w, i32_w]; rfl
                  refine pure_ (i := 5) (N := some 79) (v := ?_) (a' := ?_) #[true, true, true, true, true, true, false, false, false, false, false, false, false, false, false, false] rfl rfl (any_of HT_.out (by kernel_rfl)) (fun _ _ _ h => h) (Or.inl ⟨by rfl, ?_⟩) ?_ ?_
                  rotate_left
                  ·intro w'; go_simp; with_reducible rfl
                  rotate_left
                  ·simp only [Act.put, sA, sB, sC, i64_w, i32_w]; rfl
                  refine pure_ (i := 6) (N := some 80) (v := ?_) (a' := ?_) #[true, true, true, true, true, true, true, false, false, false, false, false, false, false, false, false] rfl rfl (any_of HT_.out (by kernel_rfl)) (fun _ _ _ h => h) (Or.inl ⟨by rfl, ?_⟩) ?_ ?_
                  rotate_left
                  ·intro w'; go_simp; with_reducible rfl
                  rotate_left
                  ·simp only [Act.put, sA, sB, sC, i64_w, i32_w]; rfl
                  refine pure_ (i := 7) (N := some 81) (v := ?_) (a' := ?_) #[true, true, true, true, true, true, true, true, false, false, false, false, false, false, false, false] rfl rfl (any_of HT_.out (by kernel_rfl)) (fun _ _ _ h => h) (Or.inl ⟨by rfl, ?_⟩) ?_ ?_
                  rotate_left
                  ·intro w'; go_simp; with_reducible rfl
                  rotate_left
                  ·simp only [Act.put, sA, sB, sC, i64_w, i32_w]; rfl
                  refine pure_ (i := 8) (N := some 82) (v := ?_) (a' := ?_) #[true, true, true, true, true, true, true, true, true, false, false, false, false, false, false, false] rfl rfl (any_of HT_.out (by kernel_rfl)) (fun _ _ _ h => h) (Or.inl ⟨by rfl, ?_⟩) ?_ ?_
                  rotate_left
                  ·intro w'; go_simp; with_reducible rfl
                  rotate_left
                  ·simp only [Act.put, sA, sB, sC, i64_w, i32_w]; rfl
                  refine pure_ (i := 9) (N := some 83) (v := ?_) (a' := ?_) #[true, true, true, true, true, true, true, true, true, true, false, false, false, false, false, false] rfl rfl (any_of HT_.out (by kernel_rfl)) (fun _ _ _ h => h) (Or.inl ⟨by rfl, ?_⟩) ?_ ?_
                  rotate_left
                  ·intro w'; go_simp; with_reducible rfl
                  rotate_left
                  ·simp only [Act.put, sA, sB, sC, i64_w, i32_w]; rfl
                  refine pure_ (i := 11) (N := some 85) (v := ?_) (a' := ?_) #[true, true, true, true, true, true, true, true, true, true, false, true, false, false, false, false] rfl rfl (any_of HT_.out (by kernel_rfl)) (fun _ _ _ h => h) (Or.inl ⟨by rfl, ?_⟩) ?_ ?_
                  rotate_left
                  ·intro w'; go_simp; with_reducible rfl
                  rotate_left
                  ·simp only [Act.put, sA, sB, sC, i64_w, i32_w]; rfl
                  refine pure_ (i := 12) (N := some 86) (v := ?_) (a' := ?_) #[true, true, true, true, true, true, true, true, true, true, false, true, true, false, false, false] rfl rfl (any_of HT_.out (by kernel_rfl)) (fun _ _ _ h => h) (Or.inl ⟨by rfl, ?_⟩) ?_ ?_
                  rotate_left
                  ·intro w'; go_simp; with_reducible rfl
                  rotate_left
                  ·simp only [Act.put, sA, sB, sC, i64_w, i32_w]; rfl
                  refine one_ (i := 10) (N := some 84) #[true, true, true, true, true, true, true, true, true, true, true, true, true, false, false, false] rfl rfl (one_of HT_.out (by kernel_rfl)) (by decide) (fun K hK => ?_)
                  refine Kd.R_lit_step Kd.string _ 9 ?hg (N := 84) ?hd (xs := ([a0.extract (a1 : Int).toNat ((wrap64 (t110 + 1)) : Int).toNat, (⟨#[]⟩ : ByteArray), (⟨#[]⟩ : ByteArray), a0.extract ((ji39) : Int).toNat (t110 : Int).toNat, (⟨#[]⟩ : ByteArray), (⟨#[]⟩ : ByteArray)] : List ByteArray)) (inner := [.string (a0.extract (a1 : Int).toNat ((wrap64 (t110 + 1)) : Int).toNat), .string (⟨#[]⟩ : ByteArray), .string (⟨#[]⟩ : ByteArray), .string (a0.extract ((ji39) : Int).toNat (t110 : Int).toNat), .string (⟨#[]⟩ : ByteArray), .string (⟨#[]⟩ : ByteArray)]) (ok := fun _ => True) (okp := fun _ => True) ?hr ?hp (fun _ hk => hk) trivial (Below.refl _ _) (Nat.le_refl _) (by simp) ?_; (case hd => rfl); (case hg => rfl); (case hr => first | (go_simp; done) | (go_simp; rfl)); (case hp => exact (Reps.one (show Kd.M Kd.string _ _ _ (a0.extract (a1 : Int).toNat ((wrap64 (t110 + 1)) : Int).toNat) [.string (a0.extract (a1 : Int).toNat ((wrap64 (t110 + 1)) : Int).toNat)] from rfl) (Reps.one (show Kd.M Kd.string _ _ _ (⟨#[]⟩ : ByteArray) [.string (⟨#[]⟩ : ByteArray)] from rfl) (Reps.one (show Kd.M Kd.string _ _ _ (⟨#[]⟩ : ByteArray) [.string (⟨#[]⟩ : ByteArray)] from rfl) (Reps.one (show Kd.M Kd.string _ _ _ (a0.extract ((ji39) : Int).toNat (t110 : Int).toNat) [.string (a0.extract ((ji39) : Int).toNat (t110 : Int).toNat)] from rfl) (Reps.one (show Kd.M Kd.string _ _ _ (⟨#[]⟩ : ByteArray) [.string (⟨#[]⟩ : ByteArray)] from rfl) (Reps.one (show Kd.M Kd.string _ _ _ (⟨#[]⟩ : ByteArray) [.string (⟨#[]⟩ : ByteArray)] from rfl) (Reps.none _ _))))))))
                  intro v112 w44 ho45 hb hg_ hnew_; clear hg_ hnew_
                  (first | rw [← Ny111.out] at ho45 | (simp only [Int.reduceToNat] at ho45; rw [← Ny111.out] at ho45))
                  have n0_ := aM (Kd.R_lower ho45 (below_size (by repeat (first | (with_reducible first | exact HB.out | apply below_alloc | apply pw_below_drewN | apply below_drew1) | exact HB.out))))
                  have n1_ := aM (below_step (by repeat (first | (with_reducible first | exact HB.out | apply below_alloc | apply pw_below_drewN | apply below_drew1) | exact HB.out)) hb)
                  clear HB; have HO113 := n0_; have HB := n1_; clear n0_ n1_ hb ho45
                  refine hK.out _ _ trivial (fun hHeld => ?_)
                  clear hK K
                  refine norm_ (a' := ?_) ?_ ?_
                  rotate_left
                  ·show Act.put _ (some 84) _ = _
                   simp only [Act.put, sA, sB, sC, i64_w, i32_w]; rfl
                  refine pure_ (i := 13) (N := some 4) (v := ?_) (a' := ?_) #[true, true, true, true, true, true, true, true, true, true, true, true, true, true, false, false] rfl rfl (any_of HT_.out (by kernel_rfl)) (fun _ _ _ h => h) (Or.inl ⟨by rfl, ?_⟩) ?_ ?_
                  rotate_left
                  ·intro w'; go_simp; with_reducible rfl
                  rotate_left
                  ·simp only [Act.put, sA, sB, sC, i64_w, i32_w]; rfl
                  refine pure_ (i := 14) (N := some 5) (v := ?_) (a' := ?_) #[true, true, true, true, true, true, true, true, true, true, true, true, true, true, true, false] rfl rfl (any_of HT_.out (by kernel_rfl)) (fun _ _ _ h => h) (Or.inl ⟨by rfl, ?_⟩) ?_ ?_
                  rotate_left
                  ·intro w'; go_simp; with_reducible rfl
                  rotate_left
                  ·simp only [Act.put, sA, sB, sC, i64_w, i32_w]; rfl
                  refine pure_ (i := 15) (N := some 6) (v := ?_) (a' := ?_) #[true, true, true, true, true, true, true, true, true, true, true, true, true, true, true, true] rfl rfl (any_of HT_.out (by kernel_rfl)) (fun _ _ _ h => h) (Or.inl ⟨by rfl, ?_⟩) ?_ ?_
                  rotate_left
                  ·intro w'; go_simp; with_reducible rfl
                  rotate_left
                  ·simp only [Act.put, sA, sB, sC, i64_w, i32_w]; rfl
                  refine done_ (done_of HT_.out (by kernel_rfl)) ?_
                  try go_wp2
                  go_ret3
                  exact ⟨_, by first | rfl | (simp [errW_none, errW_some] <;> rfl) | (simp only [← hji9, ← hji39]; first | rfl | (simp [errW_none, errW_some] <;> rfl)) | (simp [*, errW_none, errW_some] <;> rfl), by (with_reducible repeat (first | apply Kd.R_alloc | apply Kd.R_drewN | apply Kd.R_drew)); exact HO113.out, by repeat (first | (with_reducible first | exact HB.out | apply below_alloc | apply pw_below_drewN | apply below_drew1) | exact HB.out)⟩
                 ·rw [if_neg c42] at H
                  exact absurd H (by simp)
                ·rw [if_neg c41] at H
                 exact absurd H (by simp)
               ·rw [if_neg c40] at H
                exact absurd H (by simp)
              ·rw [if_neg c38] at H
               exact absurd H (by simp)
             ·rw [if_neg c37] at H
              exact absurd H (by simp)
            ·rw [if_neg c36] at H
             exact absurd H (by simp)
           ·replace c35 := Bool.eq_false_iff.mpr c35
            subst c35
            have H1 : ((template_zzOperator.f kj29 a0 t110).bind fun t114 => (if t110 > (wrap64 (a1 + 2)) then (template_zzAt.j2 kj29 a0 a1 t114 (decide (t114 > 0))) else (template_zzAt.j2 kj29 a0 a1 t114 false))) = some (r1, r2, r3) := by rw [if_neg (show ¬ (false = true) by decide)] at H; exact H
            clear H
            have H := H1
            clear H1
            replace H := Option.bind_eq_some_iff.mp H
            obtain ⟨t114, A460, H⟩ := H
            replace H : (if t110 > (wrap64 (a1 + 2)) then (template_zzAt.j2 kj29 a0 a1 t114 (decide (t114 > 0))) else (template_zzAt.j2 kj29 a0 a1 t114 false)) = some (r1, r2, r3) := H
            have A46 := aM A460
            clear A460
            have HC47 := aM H
            clear H
            go_upto_region 14 with (first | ((with_reducible refine gate_callee (f := 86) rfl ?_); refine goesL_ (some 89) rfl rfl Tryz.func86 (by kernel_rfl) rfl #[.string a0, .int .i64 t110] rfl (by (try simp only [List.map_toArray, List.map_cons, List.map_nil]); first | done | rfl | (simp only [List.length_drop, List.length_take]; rfl)) ?_; (with_reducible refine (template_zzOperator.calls kj29 a0 t110 t114 _ A46.out).mono ?_); rintro e w' ⟨rfl, ⟨nd, rfl⟩⟩; refine ⟨_, rfl, ?_⟩))
            (try simp only [Act.put, List.setIfInBounds_toArray, List.set_cons_zero, List.set_cons_succ])
            go_cut [97] (fun v97 wc => ∃ (kq : Nat) (x97_46 : Bool), v97 = .bool x97_46 ∧ Aside0 (template_zzAt.j2 kq a0 a1 t114 x97_46 = some (r1, r2, r3)) ∧ Aside0 (kq ≤ kj29) ∧ Aside0 (Below w.heap.size w wc))
            case first =>
             have H := HC47.out
             clear HC47
             by_cases c48 : t110 > (wrap64 (a1 + 2))
             ·rw [if_pos c48] at H
              have c48b0 : decide ((wrap64 (a1 + 2)) < t110) = true := decide_eq_true c48
              clear c48
              (first | rw [c48b0] | (simp only [i64_w, i32_w]; rw [c48b0]) | skip)
              have H' := aM H
              clear H
              go_wp2
              go_meet
              case rel => exact ⟨_, (decide (t114 > 0)), (by first | rfl | (simp; done) | (simp [*]; done)), H', ⟨by have := HJ2.out; have := HJ29.out; first | omega | exact Nat.le_refl _⟩, ⟨by repeat (first | (with_reducible first | exact HB.out | apply below_alloc | apply pw_below_drewN | apply below_drew1) | exact HB.out)⟩⟩
             ·rw [if_neg c48] at H
              have c48b0 : decide ((wrap64 (a1 + 2)) < t110) = false := decide_eq_false c48
              clear c48
              (first | rw [c48b0] | (simp only [i64_w, i32_w]; rw [c48b0]) | skip)
              have H' := aM H
              clear H
              go_wp2
              go_meet
              case rel => exact ⟨_, (false), (by first | rfl | (simp; done) | (simp [*]; done)), H', ⟨by have := HJ2.out; have := HJ29.out; first | omega | exact Nat.le_refl _⟩, ⟨by repeat (first | (with_reducible first | exact HB.out | apply below_alloc | apply pw_below_drewN | apply below_drew1) | exact HB.out)⟩⟩
            case rest =>
             clear HC47
             try clear c1
             try clear p1
             try clear q1
             try clear hx1
             try clear c2
             try clear p2
             try clear q2
             try clear hx2
             try clear c3
             try clear p3
             try clear q3
             try clear hx3
             try clear c4
             try clear c4b0
             try clear c5
             try clear c5b0
             try clear c6
             try clear c6b0
             try clear p6
             try clear c7
             try clear p7
             try clear q7
             try clear hx7
             try clear c8
             try clear c10
             try clear c10b0
             try clear c11
             try clear c11b0
             try clear p12
             try clear q12
             try clear hx12
             try clear c13
             try clear c13b0
             try clear c13b1
             try clear c17
             try clear c17b0
             try clear c18
             try clear c18b0
             try clear c18b1
             try clear c19
             try clear c19b0
             try clear c19b1
             try clear c20
             try clear c20b0
             try clear c20b1
             try clear c21
             try clear c21b0
             try clear c22
             try clear c22b0
             try clear c22b1
             try clear c23
             try clear c23b0
             try clear p27
             try clear q27
             try clear hx27
             try clear c28
             try clear c28b0
             try clear c28b1
             try clear c31
             try clear c31b0
             try clear c32
             try clear c32b0
             try clear c33
             try clear c33b0
             try clear p34
             try clear q34
             try clear hx34
             try clear c35
             try clear c36
             try clear c36b0
             try clear c36b1
             try clear c37
             try clear c37b0
             try clear c37b1
             try clear c38
             try clear c38b0
             try clear c38b1
             try clear c40
             try clear c40b0
             try clear c40b1
             try clear c41
             try clear c41b0
             try clear c41b1
             try clear c42
             try clear c42b0
             try clear c42b1
             try clear c48
             try clear c48b0
             try clear p1
             try clear p12
             try clear p2
             try clear p27
             try clear p3
             try clear p34
             try clear p6
             try clear p7
             try clear q1
             try clear q12
             try clear q2
             try clear q27
             try clear q3
             try clear q34
             try clear q7
             obtain ⟨kq, x97_46, rfl, HA, HJ46, HB⟩ := hcut
             cases kq with
             | zero => exact absurd HA.out (by simp [template_zzAt.j2])
             | succ kj46 =>
              have H := HA.out
              clear HA
              simp only [template_zzAt.j2] at H
              by_cases c49 : x97_46 = true
              ·subst c49
               have H1 : ((template_zzLast.f kj46 a0 t114).bind fun t115 => (if t115 ≥ 0 then (if 0 ≤ a1 then (if a1 ≤ (wrap64 (t115 + 1)) then (if (wrap64 (t115 + 1)) ≤ (a0.size : Int) then (if 0 ≤ (wrap64 (a1 + 2)) then (if (wrap64 (a1 + 2)) ≤ t115 then (if t115 ≤ (a0.size : Int) then (if 0 ≤ t114 then (if t114 ≤ t115 then (some ((([a0.extract (a1 : Int).toNat ((wrap64 (t115 + 1)) : Int).toNat, (⟨#[]⟩ : ByteArray), (⟨#[]⟩ : ByteArray), a0.extract ((wrap64 (a1 + 2)) : Int).toNat (t115 : Int).toNat, a0.extract (t114 : Int).toNat (t115 : Int).toNat, (⟨#[]⟩ : ByteArray)] : List ByteArray)), wrap64 (t115 + 1), true)) else (none)) else (none)) else (none)) else (none)) else (none)) else (none)) else (none)) else (none)) else (some ((([(⟨#[36, 123]⟩ : ByteArray), (⟨#[]⟩ : ByteArray), (⟨#[]⟩ : ByteArray), (⟨#[]⟩ : ByteArray), (⟨#[]⟩ : ByteArray), (⟨#[]⟩ : ByteArray)] : List ByteArray)), wrap64 (a1 + 2), true)))) = some (r1, r2, r3) := by rw [if_pos rfl] at H; exact H
               clear H
               have H := H1
               clear H1
               replace H := Option.bind_eq_some_iff.mp H
               obtain ⟨t115, A500, H⟩ := H
               replace H : (if t115 ≥ 0 then (if 0 ≤ a1 then (if a1 ≤ (wrap64 (t115 + 1)) then (if (wrap64 (t115 + 1)) ≤ (a0.size : Int) then (if 0 ≤ (wrap64 (a1 + 2)) then (if (wrap64 (a1 + 2)) ≤ t115 then (if t115 ≤ (a0.size : Int) then (if 0 ≤ t114 then (if t114 ≤ t115 then (some ((([a0.extract (a1 : Int).toNat ((wrap64 (t115 + 1)) : Int).toNat, (⟨#[]⟩ : ByteArray), (⟨#[]⟩ : ByteArray), a0.extract ((wrap64 (a1 + 2)) : Int).toNat (t115 : Int).toNat, a0.extract (t114 : Int).toNat (t115 : Int).toNat, (⟨#[]⟩ : ByteArray)] : List ByteArray)), wrap64 (t115 + 1), true)) else (none)) else (none)) else (none)) else (none)) else (none)) else (none)) else (none)) else (none)) else (some ((([(⟨#[36, 123]⟩ : ByteArray), (⟨#[]⟩ : ByteArray), (⟨#[]⟩ : ByteArray), (⟨#[]⟩ : ByteArray), (⟨#[]⟩ : ByteArray), (⟨#[]⟩ : ByteArray)] : List ByteArray)), wrap64 (a1 + 2), true))) = some (r1, r2, r3) := H
               have A50 := aM A500
               clear A500
               by_cases c51 : t115 ≥ 0
               ·rw [if_pos c51] at H
                have c51b0 : decide (0 ≤ t115) = true := decide_eq_true c51
                clear c51
                by_cases c52 : 0 ≤ a1
                ·rw [if_pos c52] at H
                 have c52b0 := eq_true c52
                 have c52b1 : decide (0 ≤ a1) = true := decide_eq_true c52
                 clear c52
                 by_cases c53 : a1 ≤ (wrap64 (t115 + 1))
                 ·rw [if_pos c53] at H
                  have c53b0 := eq_true c53
                  have c53b1 : decide (a1 ≤ (wrap64 (t115 + 1))) = true := decide_eq_true c53
                  by_cases c54 : (wrap64 (t115 + 1)) ≤ (a0.size : Int)
                  ·rw [if_pos c54] at H
                   have c54b0 := eq_true c54
                   have c54b1 : decide ((wrap64 (t115 + 1)) ≤ (a0.size : Int)) = true := decide_eq_true c54
                   obtain ⟨ji55, hji55⟩ : ∃ j_ : Int, (wrap64 (a1 + 2)) = j_ := ⟨_, rfl⟩
                   replace H : (if 0 ≤ (ji55) then (if (ji55) ≤ t115 then (if t115 ≤ (a0.size : Int) then (if 0 ≤ t114 then (if t114 ≤ t115 then (some ((([a0.extract (a1 : Int).toNat ((wrap64 (t115 + 1)) : Int).toNat, (⟨#[]⟩ : ByteArray), (⟨#[]⟩ : ByteArray), a0.extract ((ji55) : Int).toNat (t115 : Int).toNat, a0.extract (t114 : Int).toNat (t115 : Int).toNat, (⟨#[]⟩ : ByteArray)] : List ByteArray)), wrap64 (t115 + 1), true)) else (none)) else (none)) else (none)) else (none)) else (none)) = some (r1, r2, r3) := by first | (rw [hji55] at H; exact H) | (simp only [hji55] at H ⊢; exact H)
                   (try rw [hji55] at A50)
                   have hji55w : (IntKind.i64.wrap (a1 + 2)) = ji55 := (i64_w _).trans hji55
                   by_cases c56 : 0 ≤ (ji55)
                   ·rw [if_pos c56] at H
                    have c56b0 := eq_true c56
                    have c56b1 : decide (0 ≤ (ji55)) = true := decide_eq_true c56
                    clear c56
                    by_cases c57 : (ji55) ≤ t115
                    ·rw [if_pos c57] at H
                     have c57b0 := eq_true c57
                     have c57b1 : decide ((ji55) ≤ t115) = true := decide_eq_true c57
                     clear c57
                     by_cases c58 : t115 ≤ (a0.size : Int)
                     ·rw [if_pos c58] at H
                      have c58b0 := eq_true c58
                      have c58b1 : decide (t115 ≤ (a0.size : Int)) = true := decide_eq_true c58
                      clear c58
                      by_cases c59 : 0 ≤ t114
                      ·rw [if_pos c59] at H
                       have c59b0 := eq_true c59
                       have c59b1 : decide (0 ≤ t114) = true := decide_eq_true c59
                       clear c59
                       by_cases c60 : t114 ≤ t115
                       ·rw [if_pos c60] at H
                        have c60b0 := eq_true c60
                        have c60b1 : decide (t114 ≤ t115) = true := decide_eq_true c60
                        clear c60
                        have c61b0 := eq_true (of_decide_eq_true (by first | (with_reducible assumption) | assumption) : t115 ≤ (a0.size : Int))
                        obtain ⟨y116, hy116⟩ : ∃ y_ : List ByteArray, y_ = (([a0.extract (a1 : Int).toNat ((wrap64 (t115 + 1)) : Int).toNat, (⟨#[]⟩ : ByteArray), (⟨#[]⟩ : ByteArray), a0.extract ((ji55) : Int).toNat (t115 : Int).toNat, a0.extract (t114 : Int).toNat (t115 : Int).toNat, (⟨#[]⟩ : ByteArray)] : List ByteArray)) := ⟨_, rfl⟩
                        replace H : (some (y116, wrap64 (t115 + 1), true)) = some (r1, r2, r3) := by first | (rw [hy116]; with_reducible exact H) | (have H2_ := (Option.bind_some _ _).symm.trans H; rw [hy116]; with_reducible exact H2_) | (have H2_ := (Option.bind_some _ _).symm.trans H; with_reducible exact H2_) | with_reducible exact H | (rw [hy116]; exact H) | exact H
                        have Ny116 := aM hy116
                        clear hy116
                        simp only [Option.some.injEq, Prod.mk.injEq] at H
                        obtain ⟨rfl, rfl, rfl⟩ := H
                        try go_wp2_with (first | ((with_reducible refine gate_callee (f := 87) rfl ?_); refine goesL_ (some 100) rfl rfl Tryz.func87 (by kernel_rfl) rfl #[.string a0, .int .i64 t114] rfl (by (try simp only [List.map_toArray, List.map_cons, List.map_nil]); first | done | rfl | (simp only [List.length_drop, List.length_take]; rfl)) ?_; (with_reducible refine (template_zzLast.calls kj46 a0 t114 t115 _ A50.out).mono ?_); rintro e w' ⟨rfl, ⟨nd, rfl⟩⟩; refine ⟨_, rfl, ?_⟩))
                        (try (rw [drewN_self wc]; generalize hq_ : World.drewN wc _ = wc; have n0_ : Aside0 (Below w.heap.size w wc) := ⟨by rw [← hq_]; exact (by repeat (first | (with_reducible first | exact HB.out | apply below_alloc | apply pw_below_drewN | apply below_drew1) | exact HB.out))⟩; clear HB hq_; have HB := n0_; clear n0_))
                        have n0_ := aM (below_drew1 HB.out)
                        clear HB; have HB := n0_; clear n0_
                        refine start_ (n := 20) (S := fun w' => True) (ds := []) #[false, false, false, false, false, false, false, false, false, false, false, false, false, false, false, false, false, false, false, false] (by kernel_rfl) rfl rfl trivial (fun hHeld => ?_); refine with_tabW template_zzAt.tab17 template_zzAt.bits17 (fun HT_ HW_ => ?_)
                        generalize wc.drew = w62 at HB hHeld ⊢
                        refine pure_ (i := 0) (N := some 103) (v := ?_) (a' := ?_) #[true, false, false, false, false, false, false, false, false, false, false, false, false, false, false, false, false, false, false, false] rfl rfl (any_of HT_.out (by kernel_rfl)) (fun _ _ _ h => h) (Or.inl ⟨by rfl, ?_⟩) ?_ ?_
                        rotate_left
                        ·intro w'; go_simp; with_reducible rfl
                        rotate_left
                        ·simp only [Act.put, sA, sB, sC, i64_w, i32_w]; rfl
                        refine pure_ (i := 1) (N := some 104) (v := ?_) (a' := ?_) #[true, true, false, false, false, false, false, false, false, false, false, false, false, false, false, false, false, false, false, false] rfl rfl (any_of HT_.out (by kernel_rfl)) (fun _ _ _ h => h) (Or.inl ⟨by rfl, ?_⟩) ?_ ?_
                        rotate_left
                        ·intro w'; go_simp; with_reducible rfl
                        rotate_left
                        ·simp only [Act.put, sA, sB, sC, i64_w, i32_w]; rfl
                        refine pure_ (i := 2) (N := some 105) (v := ?_) (a' := ?_) #[true, true, true, false, false, false, false, false, false, false, false, false, false, false, false, false, false, false, false, false] rfl rfl (any_of HT_.out (by kernel_rfl)) (fun _ _ _ h => h) (Or.inl ⟨by rfl, ?_⟩) ?_ ?_
                        rotate_left
                        ·intro w'; go_simp; with_reducible rfl
                        rotate_left
                        ·simp only [Act.put, sA, sB, sC, i64_w, i32_w]; rfl
                        refine pure_ (i := 3) (N := some 106) (v := ?_) (a' := ?_) #[true, true, true, true, false, false, false, false, false, false, false, false, false, false, false, false, false, false, false, false] rfl rfl (any_of HT_.out (by kernel_rfl)) (fun _ _ _ h => h) (Or.inl ⟨by rfl, ?_⟩) ?_ ?_
                        rotate_left
                        ·intro w'; go_simp; with_reducible rfl
                        rotate_left
                        ·simp only [Act.put, sA, sB, sC, i64_w, i32_w]; rfl
                        refine pure_ (i := 4) (N := some 107) (v := ?_) (a' := ?_) #[true, true, true, true, true, false, false, false, false, false, false, false, false, false, false, false, false, false, false, false] rfl rfl (any_of HT_.out (by kernel_rfl)) (fun _ _ _ h => h) (Or.inl ⟨by rfl, ?_⟩) ?_ ?_
                        rotate_left
                        ·intro w'; go_simp; with_reducible rfl
                        rotate_left
                        ·simp only [Act.put, sA, sB, sC, i64_w, i32_w]; rfl
                        refine pure_ (i := 5) (N := some 108) (v := ?_) (a' := ?_) #[true, true, true, true, true, true, false, false, false, false, false, false, false, false, false, false, false, false, false, false] rfl rfl (any_of HT_.out (by kernel_rfl)) (fun _ _ _ h => h) (Or.inl ⟨by rfl, ?_⟩) ?_ ?_
                        rotate_left
                        ·intro w'; go_simp; with_reducible rfl
                        rotate_left
                        ·simp only [Act.put, sA, sB, sC, i64_w, i32_w]; rfl
                        refine pure_ (i := 6) (N := some 109) (v := ?_) (a' := ?_) #[true, true, true, true, true, true, true, false, false, false, false, false, false, false, false, false, false, false, false, false] rfl rfl (any_of HT_.out (by kernel_rfl)) (fun _ _ _ h => h) (Or.inl ⟨by rfl, ?_⟩) ?_ ?_
                        rotate_left
                        ·intro w'; go_simp; with_reducible rfl
                        rotate_left
                        ·simp only [Act.put, sA, sB, sC, i64_w, i32_w]; rfl
                        refine pure_ (i := 7) (N := some 110) (v := ?_) (a' := ?_) #[true, true, true, true, true, true, true, true, false, false, false, false, false, false, false, false, false, false, false, false] rfl rfl (any_of HT_.out (by kernel_rfl)) (fun _ _ _ h => h) (Or.inl ⟨by rfl, ?_⟩) ?_ ?_
                        rotate_left
                        ·intro w'; go_simp; with_reducible rfl
                        rotate_left
                        ·simp only [Act.put, sA, sB, sC, i64_w, i32_w]; rfl
                        refine pure_ (i := 8) (N := some 111) (v := ?_) (a' := ?_) #[true, true, true, true, true, true, true, true, true, false, false, false, false, false, false, false, false, false, false, false] rfl rfl (any_of HT_.out (by kernel_rfl)) (fun _ _ _ h => h) (Or.inl ⟨by rfl, ?_⟩) ?_ ?_
                        rotate_left
                        ·intro w'; go_simp; with_reducible rfl
                        rotate_left
                        ·simp only [Act.put, sA, sB, sC, i64_w, i32_w]; rfl
                        refine pure_ (i := 9) (N := some 112) (v := ?_) (a' := ?_) #[true, true, true, true, true, true, true, true, true, true, false, false, false, false, false, false, false, false, false, false] rfl rfl (any_of HT_.out (by kernel_rfl)) (fun _ _ _ h => h) (Or.inl ⟨by rfl, ?_⟩) ?_ ?_
                        rotate_left
                        ·intro w'; go_simp; with_reducible rfl
                        rotate_left
                        ·simp only [Act.put, sA, sB, sC, i64_w, i32_w]; rfl
                        refine pure_ (i := 10) (N := some 113) (v := ?_) (a' := ?_) #[true, true, true, true, true, true, true, true, true, true, true, false, false, false, false, false, false, false, false, false] rfl rfl (any_of HT_.out (by kernel_rfl)) (fun _ _ _ h => h) (Or.inl ⟨by rfl, ?_⟩) ?_ ?_
                        rotate_left
                        ·intro w'; go_simp; with_reducible rfl
                        rotate_left
                        ·simp only [Act.put, sA, sB, sC, i64_w, i32_w]; rfl
                        refine pure_ (i := 11) (N := some 114) (v := ?_) (a' := ?_) #[true, true, true, true, true, true, true, true, true, true, true, true, false, false, false, false, false, false, false, false] rfl rfl (any_of HT_.out (by kernel_rfl)) (fun _ _ _ h => h) (Or.inl ⟨by rfl, ?_⟩) ?_ ?_
                        rotate_left
                        ·intro w'; go_simp; with_reducible rfl
                        rotate_left
                        ·simp only [Act.put, sA, sB, sC, i64_w, i32_w]; rfl
                        refine pure_ (i := 12) (N := some 115) (v := ?_) (a' := ?_) #[true, true, true, true, true, true, true, true, true, true, true, true, true, false, false, false, false, false, false, false] rfl rfl (any_of HT_.out (by kernel_rfl)) (fun _ _ _ h => h) (Or.inl ⟨by rfl, ?_⟩) ?_ ?_
                        rotate_left
                        ·intro w'; go_simp; with_reducible rfl
                        rotate_left
                        ·simp only [Act.put, sA, sB, sC, i64_w, i32_w]; rfl
                        refine pure_ (i := 13) (N := some 116) (v := ?_) (a' := ?_) #[true, true, true, true, true, true, true, true, true, true, true, true, true, true, false, false, false, false, false, false] rfl rfl (any_of HT_.out (by kernel_rfl)) (fun _ _ _ h => h) (Or.inl ⟨by rfl, ?_⟩) ?_ ?_
                        rotate_left
                        ·intro w'; go_simp; with_reducible rfl
                        rotate_left
                        ·simp only [Act.put, sA, sB, sC, i64_w, i32_w]; rfl
                        refine pure_ (i := 15) (N := some 118) (v := ?_) (a' := ?_) #[true, true, true, true, true, true, true, true, true, true, true, true, true, true, false, true, false, false, false, false] rfl rfl (any_of HT_.out (by kernel_rfl)) (fun _ _ _ h => h) (Or.inl ⟨by rfl, ?_⟩) ?_ ?_
                        rotate_left
                        ·intro w'; go_simp; with_reducible rfl
                        rotate_left
                        ·simp only [Act.put, sA, sB, sC, i64_w, i32_w]; rfl
                        refine pure_ (i := 16) (N := some 119) (v := ?_) (a' := ?_) #[true, true, true, true, true, true, true, true, true, true, true, true, true, true, false, true, true, false, false, false] rfl rfl (any_of HT_.out (by kernel_rfl)) (fun _ _ _ h => h) (Or.inl ⟨by rfl, ?_⟩) ?_ ?_
                        rotate_left
                        ·intro w'; go_simp; with_reducible rfl
                        rotate_left
                        ·simp only [Act.put, sA, sB, sC, i64_w, i32_w]; rfl
                        refine one_ (i := 14) (N := some 117) #[true, true, true, true, true, true, true, true, true, true, true, true, true, true, true, true, true, false, false, false] rfl rfl (one_of HT_.out (by kernel_rfl)) (by decide) (fun K hK => ?_)
                        refine Kd.R_lit_step Kd.string _ 9 ?hg (N := 117) ?hd (xs := ([a0.extract (a1 : Int).toNat ((wrap64 (t115 + 1)) : Int).toNat, (⟨#[]⟩ : ByteArray), (⟨#[]⟩ : ByteArray), a0.extract ((ji55) : Int).toNat (t115 : Int).toNat, a0.extract (t114 : Int).toNat (t115 : Int).toNat, (⟨#[]⟩ : ByteArray)] : List ByteArray)) (inner := [.string (a0.extract (a1 : Int).toNat ((wrap64 (t115 + 1)) : Int).toNat), .string (⟨#[]⟩ : ByteArray), .string (⟨#[]⟩ : ByteArray), .string (a0.extract ((ji55) : Int).toNat (t115 : Int).toNat), .string (a0.extract (t114 : Int).toNat (t115 : Int).toNat), .string (⟨#[]⟩ : ByteArray)]) (ok := fun _ => True) (okp := fun _ => True) ?hr ?hp (fun _ hk => hk) trivial (Below.refl _ _) (Nat.le_refl _) (by simp) ?_; (case hd => rfl); (case hg => rfl); (case hr => first | (go_simp; done) | (go_simp; rfl)); (case hp => exact (Reps.one (show Kd.M Kd.string _ _ _ (a0.extract (a1 : Int).toNat ((wrap64 (t115 + 1)) : Int).toNat) [.string (a0.extract (a1 : Int).toNat ((wrap64 (t115 + 1)) : Int).toNat)] from rfl) (Reps.one (show Kd.M Kd.string _ _ _ (⟨#[]⟩ : ByteArray) [.string (⟨#[]⟩ : ByteArray)] from rfl) (Reps.one (show Kd.M Kd.string _ _ _ (⟨#[]⟩ : ByteArray) [.string (⟨#[]⟩ : ByteArray)] from rfl) (Reps.one (show Kd.M Kd.string _ _ _ (a0.extract ((ji55) : Int).toNat (t115 : Int).toNat) [.string (a0.extract ((ji55) : Int).toNat (t115 : Int).toNat)] from rfl) (Reps.one (show Kd.M Kd.string _ _ _ (a0.extract (t114 : Int).toNat (t115 : Int).toNat) [.string (a0.extract (t114 : Int).toNat (t115 : Int).toNat)] from rfl) (Reps.one (show Kd.M Kd.string _ _ _ (⟨#[]⟩ : ByteArray) [.string (⟨#[]⟩ : ByteArray)] from rfl) (Reps.none _ _))))))))
                        intro v117 w63 ho64 hb hg_ hnew_; clear hg_ hnew_
                        (first | rw [← Ny116.out] at ho64 | (simp only [Int.reduceToNat] at ho64; rw [← Ny116.out] at ho64))
                        have n0_ := aM (Kd.R_lower ho64 (below_size (by repeat (first | (with_reducible first | exact HB.out | apply below_alloc | apply pw_below_drewN | apply below_drew1) | exact HB.out))))
                        have n1_ := aM (below_step (by repeat (first | (with_reducible first | exact HB.out | apply below_alloc | apply pw_below_drewN | apply below_drew1) | exact HB.out)) hb)
                        clear HB; have HO118 := n0_; have HB := n1_; clear n0_ n1_ hb ho64
                        refine hK.out _ _ trivial (fun hHeld => ?_)
                        clear hK K
                        refine norm_ (a' := ?_) ?_ ?_
                        rotate_left
                        ·show Act.put _ (some 117) _ = _
                         simp only [Act.put, sA, sB, sC, i64_w, i32_w]; rfl
                        refine pure_ (i := 17) (N := some 4) (v := ?_) (a' := ?_) #[true, true, true, true, true, true, true, true, true, true, true, true, true, true, true, true, true, true, false, false] rfl rfl (any_of HT_.out (by kernel_rfl)) (fun _ _ _ h => h) (Or.inl ⟨by rfl, ?_⟩) ?_ ?_
                        rotate_left
                        ·intro w'; go_simp; with_reducible rfl
                        rotate_left
                        ·simp only [Act.put, sA, sB, sC, i64_w, i32_w]; rfl
                        refine pure_ (i := 18) (N := some 5) (v := ?_) (a' := ?_) #[true, true, true, true, true, true, true, true, true, true, true, true, true, true, true, true, true, true, true, false] rfl rfl (any_of HT_.out (by kernel_rfl)) (fun _ _ _ h => h) (Or.inl ⟨by rfl, ?_⟩) ?_ ?_
                        rotate_left
                        ·intro w'; go_simp; with_reducible rfl
                        rotate_left
                        ·simp only [Act.put, sA, sB, sC, i64_w, i32_w]; rfl
                        refine pure_ (i := 19) (N := some 6) (v := ?_) (a' := ?_) #[true, true, true, true, true, true, true, true, true, true, true, true, true, true, true, true, true, true, true, true] rfl rfl (any_of HT_.out (by kernel_rfl)) (fun _ _ _ h => h) (Or.inl ⟨by rfl, ?_⟩) ?_ ?_
                        rotate_left
                        ·intro w'; go_simp; with_reducible rfl
                        rotate_left
                        ·simp only [Act.put, sA, sB, sC, i64_w, i32_w]; rfl
                        refine done_ (done_of HT_.out (by kernel_rfl)) ?_
                        try go_wp2
                        go_ret3
                        exact ⟨_, by first | rfl | (simp [errW_none, errW_some] <;> rfl) | (simp only [← hji9, ← hji55]; first | rfl | (simp [errW_none, errW_some] <;> rfl)) | (simp [*, errW_none, errW_some] <;> rfl), by (with_reducible repeat (first | apply Kd.R_alloc | apply Kd.R_drewN | apply Kd.R_drew)); exact HO118.out, by repeat (first | (with_reducible first | exact HB.out | apply below_alloc | apply pw_below_drewN | apply below_drew1) | exact HB.out)⟩
                       ·rw [if_neg c60] at H
                        exact absurd H (by simp)
                      ·rw [if_neg c59] at H
                       exact absurd H (by simp)
                     ·rw [if_neg c58] at H
                      exact absurd H (by simp)
                    ·rw [if_neg c57] at H
                     exact absurd H (by simp)
                   ·rw [if_neg c56] at H
                    exact absurd H (by simp)
                  ·rw [if_neg c54] at H
                   exact absurd H (by simp)
                 ·rw [if_neg c53] at H
                  exact absurd H (by simp)
                ·rw [if_neg c52] at H
                 exact absurd H (by simp)
               ·rw [if_neg c51] at H
                have c51b0 : decide (0 ≤ t115) = false := decide_eq_false c51
                clear c51
                obtain ⟨y119, hy119⟩ : ∃ y_ : List ByteArray, y_ = (([(⟨#[36, 123]⟩ : ByteArray), (⟨#[]⟩ : ByteArray), (⟨#[]⟩ : ByteArray), (⟨#[]⟩ : ByteArray), (⟨#[]⟩ : ByteArray), (⟨#[]⟩ : ByteArray)] : List ByteArray)) := ⟨_, rfl⟩
                replace H : (some (y119, wrap64 (a1 + 2), true)) = some (r1, r2, r3) := by first | (rw [hy119]; with_reducible exact H) | (have H2_ := (Option.bind_some _ _).symm.trans H; rw [hy119]; with_reducible exact H2_) | (have H2_ := (Option.bind_some _ _).symm.trans H; with_reducible exact H2_) | with_reducible exact H | (rw [hy119]; exact H) | exact H
                have Ny119 := aM hy119
                clear hy119
                simp only [Option.some.injEq, Prod.mk.injEq] at H
                obtain ⟨rfl, rfl, rfl⟩ := H
                go_wp2_with (first | ((with_reducible refine gate_callee (f := 87) rfl ?_); refine goesL_ (some 100) rfl rfl Tryz.func87 (by kernel_rfl) rfl #[.string a0, .int .i64 t114] rfl (by (try simp only [List.map_toArray, List.map_cons, List.map_nil]); first | done | rfl | (simp only [List.length_drop, List.length_take]; rfl)) ?_; (with_reducible refine (template_zzLast.calls kj46 a0 t114 t115 _ A50.out).mono ?_); rintro e w' ⟨rfl, ⟨nd, rfl⟩⟩; refine ⟨_, rfl, ?_⟩) | ((with_reducible refine gate_dst (N := 120) rfl ?_); (try (refine gate_guard (by rfl) ?_; dsimp only)); refine Kd.R_lit Kd.string _ 9 ?hg (N := 120) ?hd (xs := ([(⟨#[36, 123]⟩ : ByteArray), (⟨#[]⟩ : ByteArray), (⟨#[]⟩ : ByteArray), (⟨#[]⟩ : ByteArray), (⟨#[]⟩ : ByteArray), (⟨#[]⟩ : ByteArray)] : List ByteArray)) (inner := [.string (⟨#[36, 123]⟩ : ByteArray), .string (⟨#[]⟩ : ByteArray), .string (⟨#[]⟩ : ByteArray), .string (⟨#[]⟩ : ByteArray), .string (⟨#[]⟩ : ByteArray), .string (⟨#[]⟩ : ByteArray)]) (ok := fun _ => True) (okp := fun _ => True) ?hr ?hp (fun _ hk => hk) trivial (Below.refl _ _) (Nat.le_refl _) (by simp) ?_; (case hd => rfl); (case hg => rfl); (case hr => first | (go_simp; done) | (go_simp; rfl)); (case hp => exact (Reps.one (show Kd.M Kd.string _ _ _ (⟨#[36, 123]⟩ : ByteArray) [.string (⟨#[36, 123]⟩ : ByteArray)] from rfl) (Reps.one (show Kd.M Kd.string _ _ _ (⟨#[]⟩ : ByteArray) [.string (⟨#[]⟩ : ByteArray)] from rfl) (Reps.one (show Kd.M Kd.string _ _ _ (⟨#[]⟩ : ByteArray) [.string (⟨#[]⟩ : ByteArray)] from rfl) (Reps.one (show Kd.M Kd.string _ _ _ (⟨#[]⟩ : ByteArray) [.string (⟨#[]⟩ : ByteArray)] from rfl) (Reps.one (show Kd.M Kd.string _ _ _ (⟨#[]⟩ : ByteArray) [.string (⟨#[]⟩ : ByteArray)] from rfl) (Reps.one (show Kd.M Kd.string _ _ _ (⟨#[]⟩ : ByteArray) [.string (⟨#[]⟩ : ByteArray)] from rfl) (Reps.none _ _)))))))); intro v120 w65 ho66 hb hg_ hnew_; clear hg_ hnew_; (first | rw [← Ny119.out] at ho66 | (simp only [Int.reduceToNat] at ho66; rw [← Ny119.out] at ho66)); have n0_ := aM (Kd.R_lower ho66 (below_size (by repeat (first | (with_reducible first | exact HB.out | apply below_alloc | apply pw_below_drewN | apply below_drew1) | exact HB.out)))); have n1_ := aM (below_step (by repeat (first | (with_reducible first | exact HB.out | apply below_alloc | apply pw_below_drewN | apply below_drew1) | exact HB.out)) hb); clear HB; have HO121 := n0_; have HB := n1_; clear n0_ n1_; clear hb ho66))
                go_ret3
                exact ⟨_, by first | rfl | (simp [errW_none, errW_some] <;> rfl) | (simp only [← hji9]; first | rfl | (simp [errW_none, errW_some] <;> rfl)) | (simp [*, errW_none, errW_some] <;> rfl), by (with_reducible repeat (first | apply Kd.R_alloc | apply Kd.R_drewN | apply Kd.R_drew)); exact HO121.out, by repeat (first | (with_reducible first | exact HB.out | apply below_alloc | apply pw_below_drewN | apply below_drew1) | exact HB.out)⟩
              ·replace c49 := Bool.eq_false_iff.mpr c49
               subst c49
               have H1 : (some ((([(⟨#[36, 123]⟩ : ByteArray), (⟨#[]⟩ : ByteArray), (⟨#[]⟩ : ByteArray), (⟨#[]⟩ : ByteArray), (⟨#[]⟩ : ByteArray), (⟨#[]⟩ : ByteArray)] : List ByteArray)), wrap64 (a1 + 2), true)) = some (r1, r2, r3) := by rw [if_neg (show ¬ (false = true) by decide)] at H; exact H
               clear H
               have H := H1
               clear H1
               obtain ⟨y122, hy122⟩ : ∃ y_ : List ByteArray, y_ = (([(⟨#[36, 123]⟩ : ByteArray), (⟨#[]⟩ : ByteArray), (⟨#[]⟩ : ByteArray), (⟨#[]⟩ : ByteArray), (⟨#[]⟩ : ByteArray), (⟨#[]⟩ : ByteArray)] : List ByteArray)) := ⟨_, rfl⟩
               replace H : (some (y122, wrap64 (a1 + 2), true)) = some (r1, r2, r3) := by first | (rw [hy122]; with_reducible exact H) | (have H2_ := (Option.bind_some _ _).symm.trans H; rw [hy122]; with_reducible exact H2_) | (have H2_ := (Option.bind_some _ _).symm.trans H; with_reducible exact H2_) | with_reducible exact H | (rw [hy122]; exact H) | exact H
               have Ny122 := aM hy122
               clear hy122
               simp only [Option.some.injEq, Prod.mk.injEq] at H
               obtain ⟨rfl, rfl, rfl⟩ := H
               go_wp2_with (first | ((with_reducible refine gate_dst (N := 120) rfl ?_); (try (refine gate_guard (by rfl) ?_; dsimp only)); refine Kd.R_lit Kd.string _ 9 ?hg (N := 120) ?hd (xs := ([(⟨#[36, 123]⟩ : ByteArray), (⟨#[]⟩ : ByteArray), (⟨#[]⟩ : ByteArray), (⟨#[]⟩ : ByteArray), (⟨#[]⟩ : ByteArray), (⟨#[]⟩ : ByteArray)] : List ByteArray)) (inner := [.string (⟨#[36, 123]⟩ : ByteArray), .string (⟨#[]⟩ : ByteArray), .string (⟨#[]⟩ : ByteArray), .string (⟨#[]⟩ : ByteArray), .string (⟨#[]⟩ : ByteArray), .string (⟨#[]⟩ : ByteArray)]) (ok := fun _ => True) (okp := fun _ => True) ?hr ?hp (fun _ hk => hk) trivial (Below.refl _ _) (Nat.le_refl _) (by simp) ?_; (case hd => rfl); (case hg => rfl); (case hr => first | (go_simp; done) | (go_simp; rfl)); (case hp => exact (Reps.one (show Kd.M Kd.string _ _ _ (⟨#[36, 123]⟩ : ByteArray) [.string (⟨#[36, 123]⟩ : ByteArray)] from rfl) (Reps.one (show Kd.M Kd.string _ _ _ (⟨#[]⟩ : ByteArray) [.string (⟨#[]⟩ : ByteArray)] from rfl) (Reps.one (show Kd.M Kd.string _ _ _ (⟨#[]⟩ : ByteArray) [.string (⟨#[]⟩ : ByteArray)] from rfl) (Reps.one (show Kd.M Kd.string _ _ _ (⟨#[]⟩ : ByteArray) [.string (⟨#[]⟩ : ByteArray)] from rfl) (Reps.one (show Kd.M Kd.string _ _ _ (⟨#[]⟩ : ByteArray) [.string (⟨#[]⟩ : ByteArray)] from rfl) (Reps.one (show Kd.M Kd.string _ _ _ (⟨#[]⟩ : ByteArray) [.string (⟨#[]⟩ : ByteArray)] from rfl) (Reps.none _ _)))))))); intro v123 w67 ho68 hb hg_ hnew_; clear hg_ hnew_; (first | rw [← Ny122.out] at ho68 | (simp only [Int.reduceToNat] at ho68; rw [← Ny122.out] at ho68)); have n0_ := aM (Kd.R_lower ho68 (below_size (by repeat (first | (with_reducible first | exact HB.out | apply below_alloc | apply pw_below_drewN | apply below_drew1) | exact HB.out)))); have n1_ := aM (below_step (by repeat (first | (with_reducible first | exact HB.out | apply below_alloc | apply pw_below_drewN | apply below_drew1) | exact HB.out)) hb); clear HB; have HO124 := n0_; have HB := n1_; clear n0_ n1_; clear hb ho68))
               go_ret3
               exact ⟨_, by first | rfl | (simp [errW_none, errW_some] <;> rfl) | (simp only [← hji9]; first | rfl | (simp [errW_none, errW_some] <;> rfl)) | (simp [*, errW_none, errW_some] <;> rfl), by (with_reducible repeat (first | apply Kd.R_alloc | apply Kd.R_drewN | apply Kd.R_drew)); exact HO124.out, by repeat (first | (with_reducible first | exact HB.out | apply below_alloc | apply pw_below_drewN | apply below_drew1) | exact HB.out)⟩
        ·rw [if_neg c28] at H
         have c28b0 : ((bt a0 (ji9)) == 123) = false := beq_eq_false_iff_ne.mpr c28
         have c28b1 : ((bt a0 (ji9)) != 123) = true := bne_iff_ne.mpr c28
         simp only [Option.some.injEq, Prod.mk.injEq] at H
         obtain ⟨rfl, rfl, rfl⟩ := H
         have p12 : 0 ≤ ((ji9) : Int) := of_decide_eq_true (by first | (with_reducible assumption) | assumption)
         have q12 : (ji9) < (a0.size : Int) := of_decide_eq_true (by first | (with_reducible assumption) | assumption)
         have hx12 := bt_at a0 (ji9)
         replace p12 := eq_true p12
         replace q12 := eq_true q12
         go_wp2_with (first | ((with_reducible refine gate_callee (f := 85) rfl ?_); refine goesL_ (some 33) rfl rfl Tryz.func85 (by kernel_rfl) rfl #[.string a0, .int .i64 ji9] rfl (by (try simp only [List.map_toArray, List.map_cons, List.map_nil]); first | done | (simp only [hji9]; rfl) | rfl | (simp only [List.length_drop, List.length_take]; rfl)) ?_; (with_reducible refine (template_zzName.calls kj2 a0 ji9 t106 _ A16.out).mono ?_); rintro e w' ⟨rfl, ⟨nd, rfl⟩⟩; refine ⟨_, rfl, ?_⟩; have p27 : 0 ≤ ((ji9) : Int) := of_decide_eq_true (by first | (with_reducible assumption) | assumption); have q27 : (ji9) < (a0.size : Int) := of_decide_eq_true (by first | (with_reducible assumption) | assumption); have hx27 := bt_at a0 (ji9); replace p27 := eq_true p27; replace q27 := eq_true q27))
         go_ret3
         exact ⟨_, by first | rfl | (simp [errW_none, errW_some] <;> rfl) | (simp only [← hji9]; first | rfl | (simp [errW_none, errW_some] <;> rfl)) | (simp [*, errW_none, errW_some] <;> rfl), by first | exact Kd.R_nil _ _ _ _ _ | exact Kd.N_nil _ _ _ _ _ | exact Kd.V_nil _ _ _ _ _ | exact Kd.Q_nil _ _ _ _ _ | exact Kd.S_nil _ _ _ _ _, by repeat (first | (with_reducible first | exact HB.out | apply below_alloc | apply pw_below_drewN | apply below_drew1) | exact HB.out)⟩
     ·rw [if_neg c11] at H
      exact absurd H (by simp)
    ·rw [if_neg c10] at H
     exact absurd H (by simp)
end Go.Proofs.YtkhkmhbledigpaaGreatDoor.PS
namespace Go.Proofs.YtkhkmhbledigpaaGreatDoor.PS
open Go.RowKit Go.Proofs.YtkhkmhbledigpaaGreatDoorW.PrintWords Go.Proofs.YtkhkmhbledigpaaGreatDoorW.PrintLast Go.Proofs.YtkhkmhbledigpaaGreatDoorW.PrintMore
attribute [local go_sem] max2_int min2_int max_two min_two max_three min_three max_four min_four 
set_option linter.unusedVariables false
set_option linter.unusedSimpArgs false
def template_getFirstBraceClosingIndex.l0 : Nat → ByteArray → Int → Int → Option (Int)
 | 0, _, _, _ => none
 | k + 1, x0, x3, x4 => if x4 < (x0.size : Int) then (if 0 ≤ x4 then (if (bt x0 x4) = 125 then (if (wrap64 (x3 - 1)) = 0 then (some x4) else (if (bt x0 x4) = 123 then (template_getFirstBraceClosingIndex.l0 k x0 (wrap64 ((wrap64 (x3 - 1)) + 1)) (wrap64 ((wrap64 (x4 + 1)) + 1))) else (template_getFirstBraceClosingIndex.l0 k x0 (wrap64 (x3 - 1)) (wrap64 (x4 + 1))))) else (if (bt x0 x4) = 123 then (template_getFirstBraceClosingIndex.l0 k x0 (wrap64 (x3 + 1)) (wrap64 ((wrap64 (x4 + 1)) + 1))) else (template_getFirstBraceClosingIndex.l0 k x0 x3 (wrap64 (x4 + 1))))) else (none)) else (some (-1))
def template_getFirstBraceClosingIndex.f (k : Nat) (a0 : ByteArray) : Option (Int) := template_getFirstBraceClosingIndex.l0 k a0 0 0
set_option maxHeartbeats 8000000 in
set_option maxRecDepth 100000 in
theorem template_getFirstBraceClosingIndex.calls (k : Nat) (a0 : ByteArray) (r : Int) (w : World) (h : template_getFirstBraceClosingIndex.f k a0 = some r) :
  Calls Tryz.prog 82 #[.string a0] w fun e w' => e = .returned (.int .i64 r) ∧ Drawn0 w w' := by
 have H : (template_getFirstBraceClosingIndex.l0 k a0 0 0) = some r := h
 clear h
 have H' := aM H
 clear H
 go_enter Tryz.func82, Tryz.ntmps82
 go_wp2
 go_loopg [3, 4] k (fun kq v3 v4 w' => ∃ (x3_1 : Int) (x4_1 : Int), v3 = .int .i64 x3_1 ∧ v4 = .int .i64 x4_1 ∧ Aside0 (template_getFirstBraceClosingIndex.l0 kq a0 x3_1 x4_1 = some r) ∧ Aside0 (kq ≤ k) ∧ Drawn0 w w')
 case atStart => exact ⟨(0), (0), (by first | rfl | (simp; done) | (simp [*]; done)), (by first | rfl | (simp; done) | (simp [*]; done)), H', ⟨Nat.le_refl _⟩, by repeat (first | exact Drawn0.refl _ | apply Drawn0.step)⟩
 case round =>
  clear H'
  obtain ⟨x3_1, x4_1, rfl, rfl, HA, HK1, ⟨m1, rfl⟩⟩ := hrel
  cases gk with
  | zero => exact absurd HA.out (by simp [template_getFirstBraceClosingIndex.l0])
  | succ k1 =>
   have H := HA.out
   clear HA
   simp only [template_getFirstBraceClosingIndex.l0] at H
   by_cases c2 : x4_1 < (a0.size : Int)
   ·rw [if_pos c2] at H
    have c2b0 : decide (x4_1 < (a0.size : Int)) = true := decide_eq_true c2
    clear c2
    by_cases c3 : 0 ≤ x4_1
    ·rw [if_pos c3] at H
     have c3b0 : decide (0 ≤ x4_1) = true := decide_eq_true c3
     clear c3
     by_cases c5 : (bt a0 x4_1) = 125
     ·rw [if_pos c5] at H
      have c5b0 : ((bt a0 x4_1) == 125) = true := beq_iff_eq.mpr c5
      have c5b1 : ((bt a0 x4_1) != 125) = false := bne_eq_false_iff_eq.mpr c5
      clear c5
      by_cases c6 : (wrap64 (x3_1 - 1)) = 0
      ·rw [if_pos c6] at H
       have c6b0 : ((wrap64 (x3_1 - 1)) == 0) = true := beq_iff_eq.mpr c6
       have c6b1 : ((wrap64 (x3_1 - 1)) != 0) = false := bne_eq_false_iff_eq.mpr c6
       clear c6
       obtain rfl := Option.some.inj H
       have p4 : 0 ≤ (x4_1 : Int) := of_decide_eq_true (by first | (with_reducible assumption) | assumption)
       have q4 : x4_1 < (a0.size : Int) := of_decide_eq_true (by first | (with_reducible assumption) | assumption)
       have hx4 := bt_at a0 x4_1
       replace p4 := eq_true p4
       replace q4 := eq_true q4
       go_wp2
       go_ret
       exact ⟨by first | rfl | (simp; done) | (simp [*]; done), by repeat (first | exact Drawn0.refl _ | apply Drawn0.step)⟩
      ·rw [if_neg c6] at H
       have c6b0 : ((wrap64 (x3_1 - 1)) == 0) = false := beq_eq_false_iff_ne.mpr c6
       have c6b1 : ((wrap64 (x3_1 - 1)) != 0) = true := bne_iff_ne.mpr c6
       by_cases c8 : (bt a0 x4_1) = 123
       ·rw [if_pos c8] at H
        have c8b0 : ((bt a0 x4_1) == 123) = true := beq_iff_eq.mpr c8
        have c8b1 : ((bt a0 x4_1) != 123) = false := bne_eq_false_iff_eq.mpr c8
        clear c8
        have H' := aM H
        clear H
        have p4 : 0 ≤ (x4_1 : Int) := of_decide_eq_true (by first | (with_reducible assumption) | assumption)
        have q4 : x4_1 < (a0.size : Int) := of_decide_eq_true (by first | (with_reducible assumption) | assumption)
        have hx4 := bt_at a0 x4_1
        replace p4 := eq_true p4
        replace q4 := eq_true q4
        have p7 : 0 ≤ (x4_1 : Int) := of_decide_eq_true (by first | (with_reducible assumption) | assumption)
        have q7 : x4_1 < (a0.size : Int) := of_decide_eq_true (by first | (with_reducible assumption) | assumption)
        have hx7 := bt_at a0 x4_1
        replace p7 := eq_true p7
        replace q7 := eq_true q7
        go_wp2
        go_roundg k1
        case measure => have := HK1.out; omega
        case rel => exact ⟨(wrap64 ((wrap64 (x3_1 - 1)) + 1)), (wrap64 ((wrap64 (x4_1 + 1)) + 1)), (by first | rfl | (simp; done) | (simp [*]; done)), (by first | rfl | (simp; done) | (simp [*]; done)), H', ⟨by have := HK1.out; omega⟩, by repeat (first | exact Drawn0.refl _ | apply Drawn0.step)⟩
       ·rw [if_neg c8] at H
        have c8b0 : ((bt a0 x4_1) == 123) = false := beq_eq_false_iff_ne.mpr c8
        have c8b1 : ((bt a0 x4_1) != 123) = true := bne_iff_ne.mpr c8
        have H' := aM H
        clear H
        have p4 : 0 ≤ (x4_1 : Int) := of_decide_eq_true (by first | (with_reducible assumption) | assumption)
        have q4 : x4_1 < (a0.size : Int) := of_decide_eq_true (by first | (with_reducible assumption) | assumption)
        have hx4 := bt_at a0 x4_1
        replace p4 := eq_true p4
        replace q4 := eq_true q4
        have p7 : 0 ≤ (x4_1 : Int) := of_decide_eq_true (by first | (with_reducible assumption) | assumption)
        have q7 : x4_1 < (a0.size : Int) := of_decide_eq_true (by first | (with_reducible assumption) | assumption)
        have hx7 := bt_at a0 x4_1
        replace p7 := eq_true p7
        replace q7 := eq_true q7
        go_wp2
        go_roundg k1
        case measure => have := HK1.out; omega
        case rel => exact ⟨(wrap64 (x3_1 - 1)), (wrap64 (x4_1 + 1)), (by first | rfl | (simp; done) | (simp [*]; done)), (by first | rfl | (simp; done) | (simp [*]; done)), H', ⟨by have := HK1.out; omega⟩, by repeat (first | exact Drawn0.refl _ | apply Drawn0.step)⟩
     ·rw [if_neg c5] at H
      have c5b0 : ((bt a0 x4_1) == 125) = false := beq_eq_false_iff_ne.mpr c5
      have c5b1 : ((bt a0 x4_1) != 125) = true := bne_iff_ne.mpr c5
      by_cases c10 : (bt a0 x4_1) = 123
      ·rw [if_pos c10] at H
       have c10b0 : ((bt a0 x4_1) == 123) = true := beq_iff_eq.mpr c10
       have c10b1 : ((bt a0 x4_1) != 123) = false := bne_eq_false_iff_eq.mpr c10
       clear c10
       have H' := aM H
       clear H
       have p4 : 0 ≤ (x4_1 : Int) := of_decide_eq_true (by first | (with_reducible assumption) | assumption)
       have q4 : x4_1 < (a0.size : Int) := of_decide_eq_true (by first | (with_reducible assumption) | assumption)
       have hx4 := bt_at a0 x4_1
       replace p4 := eq_true p4
       replace q4 := eq_true q4
       have p9 : 0 ≤ (x4_1 : Int) := of_decide_eq_true (by first | (with_reducible assumption) | assumption)
       have q9 : x4_1 < (a0.size : Int) := of_decide_eq_true (by first | (with_reducible assumption) | assumption)
       have hx9 := bt_at a0 x4_1
       replace p9 := eq_true p9
       replace q9 := eq_true q9
       go_wp2
       go_roundg k1
       case measure => have := HK1.out; omega
       case rel => exact ⟨(wrap64 (x3_1 + 1)), (wrap64 ((wrap64 (x4_1 + 1)) + 1)), (by first | rfl | (simp; done) | (simp [*]; done)), (by first | rfl | (simp; done) | (simp [*]; done)), H', ⟨by have := HK1.out; omega⟩, by repeat (first | exact Drawn0.refl _ | apply Drawn0.step)⟩
      ·rw [if_neg c10] at H
       have c10b0 : ((bt a0 x4_1) == 123) = false := beq_eq_false_iff_ne.mpr c10
       have c10b1 : ((bt a0 x4_1) != 123) = true := bne_iff_ne.mpr c10
       have H' := aM H
       clear H
       have p4 : 0 ≤ (x4_1 : Int) := of_decide_eq_true (by first | (with_reducible assumption) | assumption)
       have q4 : x4_1 < (a0.size : Int) := of_decide_eq_true (by first | (with_reducible assumption) | assumption)
       have hx4 := bt_at a0 x4_1
       replace p4 := eq_true p4
       replace q4 := eq_true q4
       have p9 : 0 ≤ (x4_1 : Int) := of_decide_eq_true (by first | (with_reducible assumption) | assumption)
       have q9 : x4_1 < (a0.size : Int) := of_decide_eq_true (by first | (with_reducible assumption) | assumption)
       have hx9 := bt_at a0 x4_1
       replace p9 := eq_true p9
       replace q9 := eq_true q9
       go_wp2
       go_roundg k1
       case measure => have := HK1.out; omega
       case rel => exact ⟨(x3_1), (wrap64 (x4_1 + 1)), (by first | rfl | (simp; done) | (simp [*]; done)), (by first | rfl | (simp; done) | (simp [*]; done)), H', ⟨by have := HK1.out; omega⟩, by repeat (first | exact Drawn0.refl _ | apply Drawn0.step)⟩
    ·rw [if_neg c3] at H
     exact absurd H (by simp)
   ·rw [if_neg c2] at H
    have c2b0 : decide (x4_1 < (a0.size : Int)) = false := decide_eq_false c2
    clear c2
    obtain rfl := Option.some.inj H
    go_wp2
    go_ret
    exact ⟨by first | rfl | (simp; done) | (simp [*]; done), by repeat (first | exact Drawn0.refl _ | apply Drawn0.step)⟩
end Go.Proofs.YtkhkmhbledigpaaGreatDoor.PS
namespace Go.Proofs.YtkhkmhbledigpaaGreatDoor.Tr
open Go.RowKit Go.Proofs.YtkhkmhbledigpaaGreatDoorW.PrintWords Go.Proofs.YtkhkmhbledigpaaGreatDoorW.PrintLast Go.Proofs.YtkhkmhbledigpaaGreatDoor.Str Go.Proofs.YtkhkmhbledigpaaGreatDoor.PS
set_option linter.unusedVariables false
set_option linter.unusedSimpArgs false
abbrev BA := ByteArray
def mk (l : Bs) : BA := ⟨l.toArray⟩
theorem lb_mk' (l : Bs) : lb (mk l) = l := lb_mk l
theorem mk_size (l : Bs) : (mk l).size = l.length := by rw [← lb_length, lb_mk']
theorem eq_mk {s : BA} {l : Bs} (h : lb s = l) : s = mk l := lb_inj (by rw [h, lb_mk'])
def At (s : BA) (i : Nat) (c : UInt8) : Prop := (lb s)[i]? = some c
theorem At.lt {s : BA} {i : Nat} {c : UInt8} (h : At s i c) : i < s.size := by
 rw [← lb_length]
 exact (List.getElem?_eq_some_iff.1 h).1
theorem At.bt {s : BA} {i : Nat} {c : UInt8} (h : At s i c) : bt s (i : Int) = (c.toNat : Int) := by
 obtain ⟨h1, h2⟩ := List.getElem?_eq_some_iff.1 h
 rw [bt_lb s i h1, h2]
theorem At.of {s : BA} {p q : Bs} {c : UInt8} {i : Nat} (h : lb s = p ++ c :: q) (hi : i = p.length) : At s i c := by
 subst hi
 unfold At
 rw [h]
 simp
theorem wrapN (a b : Nat) (h : a + b < 4611686018427387904) : wrap64 ((a : Int) + (b : Int)) = ((a + b : Nat) : Int) := by unfold wrap64; omega
theorem wrap1 (i : Nat) (h : i < 4611686018427387904) : wrap64 ((i : Int) + 1) = ((i + 1 : Nat) : Int) := by unfold wrap64; omega
theorem wrap2 (i : Nat) (h : i < 4611686018427387904) : wrap64 ((i : Int) + 2) = ((i + 2 : Nat) : Int) := by unfold wrap64; omega
def isLet (n : Nat) : Bool := n == 95 || (decide (97 ≤ n) && decide (n ≤ 122)) || (decide (65 ≤ n) && decide (n ≤ 90))
def isCon (n : Nat) : Bool := isLet n || (decide (48 ≤ n) && decide (n ≤ 57))
theorem isLet_iff (n : Nat) : isLet n = true ↔ n = 95 ∨ (97 ≤ n ∧ n ≤ 122) ∨ (65 ≤ n ∧ n ≤ 90) := by simp [isLet, or_assoc]
theorem isCon_iff (n : Nat) : isCon n = true ↔ isLet n = true ∨ (48 ≤ n ∧ n ≤ 57) := by simp [isCon]
theorem isLet_no {n : Nat} (h : isLet n = false) : ¬ (n = 95 ∨ (97 ≤ n ∧ n ≤ 122) ∨ (65 ≤ n ∧ n ≤ 90)) := fun e => by rw [(isLet_iff n).2 e] at h; cases h
theorem ends_letter_j0 (s : BA) (i x : Int) (b : Bool) (hx : x < 128) : Ends (fun r => r = if b then 1 else 0) (fun k => template_zzLetter.j0 k s i x b) := by
 have h1 : Ends (fun r => r = (0 : Int)) (fun k => template_zzLetter.j1 k s i x false) := by
  refine Ends.step (fun k => by simp only [template_zzLetter.j1]; rfl) ?_
  exact Ends.no (by simp) (Ends.ite (fun _ => Ends.no (by omega) (Ends.now rfl)) (fun _ => Ends.now rfl))
 refine Ends.step (fun k => by simp only [template_zzLetter.j0]; rfl) ?_
 cases b
 ·exact Ends.no (by simp) (Ends.ite (fun _ => Ends.no (by omega) h1) (fun _ => h1))
 ·exact Ends.yes (by simp) (Ends.now rfl)
theorem ends_letter (s : BA) (i : Nat) (c : UInt8) (h : At s i c) (hc : c.toNat < 128) : Ends (fun r => r = if isLet c.toNat then 1 else 0) (fun k => template_zzLetter.f k s (i : Int)) := by
 have hlt := h.lt
 have hb := h.bt
 unfold template_zzLetter.f
 rw [hb]
 have H := fun b => ends_letter_j0 s (i : Int) (c.toNat : Int) b (by omega)
 refine Ends.no (by omega) (Ends.yes (by omega) (Ends.yes (by omega) ?_))
 rcases hl : isLet c.toNat with _ | _
 ·have hn := isLet_no hl
  refine Ends.no (by omega) ?_
  refine Ends.ite (fun h1 => Ends.no (by omega) (Ends.ite (fun h2 => ?_) (fun _ => H false))) (fun _ => Ends.ite (fun h2 => ?_) (fun _ => H false))
  ·rw [decide_eq_false (by omega)]; exact H false
  ·rw [decide_eq_false (by omega)]; exact H false
 ·have hy := (isLet_iff _).1 hl
  refine Ends.ite (fun _ => H true) (fun h1 => Ends.ite (fun h2 => Ends.ite (fun _ => H true) (fun h3 => Ends.ite (fun h4 => ?_) (fun _ => Ends.never (by omega)))) (fun h3 => Ends.ite (fun h4 => ?_) (fun _ => Ends.never (by omega))))
  ·rw [decide_eq_true (by omega)]; exact H true
  ·rw [decide_eq_true (by omega)]; exact H true
def Stops (s : BA) (i : Nat) : Prop := i = s.size ∨ ∃ c, At s i c ∧ c.toNat < 128 ∧ isCon c.toNat = false
theorem letter_lt {n : Nat} (h : isCon n = true) : n < 128 := by
 rcases (isCon_iff n).1 h with h | h
 ·have := (isLet_iff n).1 h; omega
 ·omega
theorem ends_name_l (s : BA) (hs : s.size < 4611686018427387904) (i n : Nat) (hc : ∀ j, j < n → ∃ c, At s (i + j) c ∧ isCon c.toNat = true) (he : Stops s (i + n)) : ∀ (d j : Nat), j + d = n →
  Ends (fun r => r = ((i + n : Nat) : Int)) (fun k => template_zzName.l0 k s ((i + j : Nat) : Int)) := by
 intro d
 induction d with
 | zero =>
  intro j hj
  obtain rfl : j = n := by omega
  refine Ends.step (fun k => by simp only [template_zzName.l0]; rfl) ?_
  rcases he with he | ⟨c, hat, h7, hno⟩
  ·exact Ends.no (by omega) (Ends.now rfl)
  ·have hlt := hat.lt
   have hb := hat.bt
   have hl : isLet c.toNat = false := by
    rcases h : isLet c.toNat with _ | _
    ·rfl
    ·rw [(isCon_iff _).2 (.inl h)] at hno; cases hno
   have hd : ¬ (48 ≤ c.toNat ∧ c.toNat ≤ 57) := fun h => by rw [(isCon_iff _).2 (.inr h)] at hno; cases hno
   have hf : Ends (fun r => r = ((i + j : Nat) : Int)) (fun k => template_zzName.j1 k s ((i + j : Nat) : Int) 0 false) := by
    refine Ends.step (fun k => by simp only [template_zzName.j1]; rfl) ?_
    exact Ends.no (by simp) (Ends.yes (by simp) (Ends.now rfl))
   refine Ends.yes (by omega) (Ends.bind (ends_letter s (i + j) c hat h7) (fun r hr => ?_))
   rw [hl] at hr
   have hr0 : r = 0 := hr
   subst hr0
   rw [hb]
   refine Ends.yes (by simp) (Ends.yes (by omega) (Ends.ite (fun h1 => ?_) (fun _ => hf)))
   rw [decide_eq_false (by omega)]
   exact hf
 | succ d ih =>
  intro j hj
  obtain ⟨c, hat, hco⟩ := hc j (by omega)
  have hlt := hat.lt
  have hb := hat.bt
  have h7 := letter_lt hco
  have hn := ih (j + 1) (by omega)
  have hw : wrap64 (((i + j : Nat) : Int) + 1) = ((i + (j + 1) : Nat) : Int) := wrap1 (i + j) (by omega)
  refine Ends.step (fun k => by simp only [template_zzName.l0]; rfl) ?_
  refine Ends.yes (by omega) (Ends.bind (ends_letter s (i + j) c hat h7) (fun r hr => ?_))
  rw [hb]
  rcases hl : isLet c.toNat with _ | _
  ·rw [hl] at hr
   have hr0 : r = 0 := hr
   subst hr0
   have hd : 48 ≤ c.toNat ∧ c.toNat ≤ 57 := by
    rcases (isCon_iff _).1 hco with h | h
    ·rw [hl] at h; cases h
    ·exact h
   refine Ends.yes (by simp) (Ends.yes (by omega) (Ends.yes (by omega) ?_))
   rw [decide_eq_true (by omega)]
   refine Ends.step (fun k => by simp only [template_zzName.j1]; rfl) ?_
   rw [hw]
   exact Ends.yes (by simp) (Ends.no (by decide) hn)
  ·rw [hl] at hr
   have hr0 : r = 1 := hr
   subst hr0
   refine Ends.no (by decide) ?_
   refine Ends.step (fun k => by simp only [template_zzName.j1]; rfl) ?_
   rw [hw]
   exact Ends.no (by simp) (Ends.no (by decide) hn)
theorem ends_name (s : BA) (hs : s.size < 4611686018427387904) (i n : Nat) (hn : 0 < n) (hl : ∃ c, At s i c ∧ isLet c.toNat = true) (hc : ∀ j, j < n → ∃ c, At s (i + j) c ∧ isCon c.toNat = true) (he : Stops s (i + n)) :
  Ends (fun r => r = ((i + n : Nat) : Int)) (fun k => template_zzName.f k s (i : Int)) := by
 obtain ⟨c, hat, hco⟩ := hl
 have hlt := hat.lt
 unfold template_zzName.f
 refine Ends.bind (ends_letter s i c hat (letter_lt ((isCon_iff _).2 (.inl hco)))) (fun r hr => ?_)
 rw [hco] at hr
 have hr1 : r = 1 := hr
 subst hr1
 rw [wrap1 i (by omega)]
 exact Ends.no (by decide) (ends_name_l s hs i n hc he (n - 1) 1 (by omega))
theorem ends_noname (s : BA) (i : Nat) (c : UInt8) (h : At s i c) (h7 : c.toNat < 128) (hl : isLet c.toNat = false) : Ends (fun r => r = (i : Int)) (fun k => template_zzName.f k s (i : Int)) := by
 unfold template_zzName.f
 refine Ends.bind (ends_letter s i c h h7) (fun r hr => ?_)
 rw [hl] at hr
 have hr0 : r = 0 := hr
 subst hr0
 exact Ends.yes (by simp) (Ends.now rfl)
theorem ends_at_none (s : BA) (hs : s.size < 4611686018427387904) (i : Nat) (c : UInt8) (h : At s i c) (hc : c ≠ 36) : Ends (fun r => r = (([] : List BA), (0 : Int), false)) (fun k => template_zzAt.f k s (i : Int)) := by
 have hlt := h.lt
 have hj : Ends (fun r => r = (([] : List BA), (0 : Int), false)) (fun k => template_zzAt.j0 k s (i : Int) true) := by
  refine Ends.step (fun k => by simp only [template_zzAt.j0]; rfl) ?_
  exact Ends.yes (by simp) (Ends.now rfl)
 unfold template_zzAt.f
 have hne : ((c.toNat : Int) != 36) = true := by
  refine bne_iff_ne.2 (fun e => hc ?_)
  exact UInt8.toNat_inj.1 (by show c.toNat = 36; omega)
 rw [wrap1 i (by omega), h.bt, hne]
 exact Ends.ite (fun _ => hj) (fun _ => Ends.yes (by omega) (Ends.yes (by omega) hj))
structure IsName (n : Bs) : Prop where
 ne : n ≠ []
 head : ∀ c, n.head? = some c → isLet c.toNat = true
 con : ∀ c, c ∈ n → isCon c.toNat = true
theorem IsName.pos {n : Bs} (h : IsName n) : 0 < n.length := List.length_pos_iff.2 h.ne
theorem name_at {s : BA} {p n q : Bs} (h : lb s = p ++ n ++ q) (hn : IsName n) : (∃ c, At s p.length c ∧ isLet c.toNat = true) ∧ ∀ j, j < n.length → ∃ c, At s (p.length + j) c ∧ isCon c.toNat = true := by
 have hat : ∀ j, (hj : j < n.length) → At s (p.length + j) n[j] := fun j hj => by
  unfold At
  rw [h, List.append_assoc, List.getElem?_append_right (by omega), List.getElem?_append_left (by omega)]
  simp [hj]
 have hp := hn.pos
 refine ⟨⟨n[0], hat 0 hp, hn.head _ ?_⟩, fun j hj => ⟨n[j], hat j hj, hn.con _ (List.getElem_mem hj)⟩⟩
 rw [List.head?_eq_getElem?, List.getElem?_eq_getElem hp]
theorem stops_at {s : BA} {p q : Bs} {c : UInt8} (h : lb s = p ++ c :: q) (h7 : c.toNat < 128) (hc : isCon c.toNat = false) : Stops s p.length := .inr ⟨c, At.of h rfl, h7, hc⟩
theorem ext_mid {s : BA} {p m q : Bs} (h : lb s = p ++ m ++ q) (a b : Nat) (ha : a = p.length) (hb : b = p.length + m.length) : s.extract a b = mk m := by
 refine eq_mk ?_
 rw [lb_extract, h, ha, hb]
 rw [List.append_assoc, List.take_append, List.take_of_length_le (by omega), show p.length + m.length - p.length = m.length by omega, List.take_left', List.drop_left']
 ·rfl
 ·rfl
def E0 : BA := ⟨#[]⟩
theorem ends_at_braced (s : BA) (hs : s.size < 4611686018427387904) (p n q : Bs) (hn : IsName n) (h : lb s = p ++ ([36, 123] ++ n ++ [125]) ++ q) :
  Ends (fun r => r = ([mk ([36, 123] ++ n ++ [125]), E0, E0, mk n, E0, E0], ((p.length + (n.length + 3) : Nat) : Int), true)) (fun k => template_zzAt.f k s (p.length : Int)) := by
 have hsz : s.size = p.length + (n.length + 3) + q.length := by rw [← lb_length, h]; simp; omega
 have h0 : At s p.length 36 := At.of (p := p) (q := 123 :: (n ++ 125 :: q)) (by rw [h]; simp) rfl
 have h1 : At s (p.length + 1) 123 := At.of (p := p ++ [36]) (q := n ++ 125 :: q) (by rw [h]; simp) (by simp)
 have hsplit : lb s = (p ++ [36, 123]) ++ n ++ (125 :: q) := by rw [h]; simp
 have hlen : (p ++ [36, 123]).length = p.length + 2 := by simp
 obtain ⟨na, nb⟩ := name_at hsplit hn
 rw [hlen] at na nb
 have hstop : Stops s (p.length + 2 + n.length) := by
  have := stops_at (s := s) (p := p ++ [36, 123] ++ n) (q := q) (c := 125) (by rw [hsplit]) (by decide) (by decide)
  rw [List.length_append, hlen] at this
  exact this
 have h2 : At s (p.length + 2 + n.length) 125 := At.of (p := p ++ [36, 123] ++ n) (q := q) (by rw [hsplit]) (by rw [List.length_append, hlen])
 unfold template_zzAt.f
 have e0 : ((((36 : UInt8).toNat : Int)) != 36) = false := by decide
 rw [wrap1 p.length (by omega), h0.bt, e0]
 refine Ends.no (by omega) (Ends.yes (by omega) (Ends.yes (by omega) ?_))
 refine Ends.step (fun k => by simp only [template_zzAt.j0]; rfl) ?_
 have hb1 := h1.bt
 rw [wrap1 p.length (by omega), wrap2 p.length (by omega), hb1]
 refine Ends.no (by simp) (Ends.yes (by omega) (Ends.yes (by omega) (Ends.no (by decide) ?_)))
 refine Ends.bind (ends_noname s (p.length + 1) 123 h1 (by decide) (by decide)) (fun r hr => ?_)
 subst hr
 refine Ends.no (by omega) (Ends.yes (by decide) ?_)
 refine Ends.bind (ends_name s hs (p.length + 2) n.length hn.pos na nb hstop) (fun r hr => ?_)
 subst hr
 have e2 : ((((125 : UInt8).toNat : Int)) == 125) = true := by decide
 have hpos := hn.pos
 rw [h2.bt, e2]
 refine Ends.yes (by omega) (Ends.yes (by omega) (Ends.yes (by omega) ?_))
 refine Ends.step (fun k => by simp only [template_zzAt.j1]; rfl) ?_
 rw [wrap1 (p.length + 2 + n.length) (by omega), wrap2 p.length (by omega)]
 refine Ends.yes (by simp) (Ends.yes (by omega) (Ends.yes (by omega) (Ends.yes (by omega) (Ends.yes (by omega) (Ends.yes (by omega) (Ends.yes (by omega) (Ends.now ?_)))))))
 have x1 : s.extract (p.length : Int).toNat ((p.length + 2 + n.length + 1 : Nat) : Int).toNat = mk ([36, 123] ++ n ++ [125]) := ext_mid h _ _ (by omega) (by simp; omega)
 have x2 : s.extract ((p.length + 2 : Nat) : Int).toNat ((p.length + 2 + n.length : Nat) : Int).toNat = mk n := ext_mid hsplit _ _ (by rw [hlen]; omega) (by rw [hlen]; omega)
 rw [x1, x2]
 refine Prod.ext rfl (Prod.ext ?_ rfl)
 show ((p.length + 2 + n.length + 1 : Nat) : Int) = ((p.length + (n.length + 3) : Nat) : Int)
 omega
end Go.Proofs.YtkhkmhbledigpaaGreatDoor.Tr
namespace Go.Proofs.YtkhkmhbledigpaaGreatDoor.Kit
open Go.RowKit Go.Proofs.YtkhkmhbledigpaaGreatDoorW.PrintWords Go.Proofs.YtkhkmhbledigpaaGreatDoor.Str
set_option linter.unusedVariables false
set_option linter.unusedSimpArgs false
theorem hb_then {w w1 w2 : World} (h : Below w.heap.size w w1) (k : Below w1.heap.size w1 w2) : Below w.heap.size w w2 := below_then h h.size k
section
variable {P : Program} {ops : Array Oper} {rest : List Oper} {o : Oper} {a : Act} {Q : Exit → Act → World → Prop} {α : Type}
end
section
variable {ops : Array Oper} {rest : List Oper} {o : Oper} {a : Act} {Q : Exit → Act → World → Prop}
end
end Go.Proofs.YtkhkmhbledigpaaGreatDoor.Kit
namespace Go.Proofs.YtkhkmhbledigpaaGreatDoor.Flat
open Go.RowKit Go.Proofs.YtkhkmhbledigpaaGreatDoorW.PrintWords Go.Proofs.YtkhkmhbledigpaaGreatDoor.Str Go.Sort
set_option linter.unusedVariables false
set_option linter.unusedSimpArgs false
def flat {α : Type} (enc : α → List Value) (k : Nat) (hk : ∀ x, (enc x).length = k) (h1 : ∀ x, ∀ u ∈ enc x, u.oneCell' = true) : Kd α where
 sz := k
 E := []
 K := fun _ x cs => cs = enc x
 M := fun _ _ _ x cs => cs = enc x
 K_len := fun h => by rw [h]; exact hk _
 K_one := fun h u hu => by rw [h] at hu; exact h1 _ u hu
 K_below := fun _ h => h
 K_of_M := fun h => h
 M_mono := fun _ h => h
 M_bound := fun h => h
 M_move := fun _ h => h
 M_lower := fun _ h => h
section
variable {α : Type} {enc : α → List Value} {k : Nat} {hk : ∀ x, (enc x).length = k} {h1 : ∀ x, ∀ u ∈ enc x, u.oneCell' = true}
theorem flat_length (hk : ∀ x, (enc x).length = k) : ∀ xs : List α, (xs.flatMap enc).length = xs.length * k
 | [] => by simp
 | x :: r => by rw [List.flatMap_cons, List.length_append, hk, flat_length hk r, List.length_cons, Nat.add_mul, Nat.one_mul, Nat.add_comm]
theorem reps_flat (hk : ∀ x, (enc x).length = k) : ∀ (xs : List α) (cs : List Value), Reps (fun x cs => cs = enc x) k xs cs → cs = xs.flatMap enc
 | [], cs, h => by
  have := h.1
  simp at this
  exact this
 | x :: r, cs, h => by
  have h0 := h.2 0 x rfl
  simp only [Nat.zero_mul, List.drop_zero] at h0
  have hr : Reps (fun x cs => cs = enc x) k r (cs.drop k) := by
   refine ⟨by rw [List.length_drop, h.1, List.length_cons, Nat.add_mul, Nat.one_mul]; omega, fun j p hp => ?_⟩
   have := h.2 (j + 1) p (by simpa using hp)
   rw [List.drop_drop, show k + j * k = (j + 1) * k by rw [Nat.add_mul, Nat.one_mul, Nat.add_comm]]
   exact this
  have ih := reps_flat hk r _ hr
  rw [List.flatMap_cons, ← h0, ← ih, List.take_append_drop]
theorem flat_reps (hk : ∀ x, (enc x).length = k) (xs : List α) : Reps (fun x cs => cs = enc x) k xs (xs.flatMap enc) := by
 have go : ∀ (r l : List α), Reps (fun x cs => cs = enc x) k l (l.flatMap enc) → Reps (fun x cs => cs = enc x) k (l ++ r) ((l ++ r).flatMap enc) := by
  intro r
  induction r with
  | nil => intro l h; simpa using h
  | cons p r ih =>
   intro l h
   have := ih (l ++ [p]) (by
    rw [List.flatMap_append]
    have : [p].flatMap enc = enc p := by simp
    rw [this]
    exact Reps.snoc h rfl (hk p))
   simpa using this
 exact go xs [] (Reps.none _ _)
theorem R_flat {e : Nat} {w : World} {base : Nat} {ok : Nat → Prop} {v : Value} {xs : List α} :
  (flat enc k hk h1).R e w base ok v xs ↔ (∀ b, v.ownBlock = some b → ok b) ∧ w.ownsRow base e k v xs.length (xs.flatMap enc) := by
 constructor
 ·rintro ⟨h0, inner, ho, hr⟩
  have := reps_flat hk _ _ hr
  subst this
  exact ⟨h0, ho⟩
 ·rintro ⟨h0, ho⟩
  exact ⟨h0, _, ho, flat_reps hk xs⟩
theorem flat_open {w : World} {A : Option Addr} {xs : List α} (h : (flat enc k hk h1).C w A xs.length xs) (h0 : 0 < xs.length) (hk0 : 0 < k) :
  ∃ bk off, A = some ⟨bk, off, none⟩ ∧ bk < w.heap.size ∧ ∀ (j : Nat) (hj : j < xs.length) (i : Nat) (u : Value), (enc xs[j])[i]? = some u → w.cell? ⟨bk, off + (j * k + i), none⟩ = some u := by
 obtain ⟨hl, hm, hc⟩ := h
 obtain ⟨ad, rfl, hcc⟩ := hc h0
 have cell : ∀ (j : Nat) (hj : j < xs.length) (i : Nat) (u : Value), (enc xs[j])[i]? = some u → w.cell? (ad.add (j * k + i)) = some u := by
  intro j hj i u hu
  obtain ⟨c, hcl, hr, hcell⟩ := hcc j xs[j] (List.getElem?_eq_getElem hj)
  have hr' : c = enc xs[j] := hr
  subst hr'
  exact hcell i u hu
 have hl0 : 0 < (enc xs[0]).length := by rw [hk]; exact hk0
 have c0 := cell 0 h0 0 _ (List.getElem?_eq_getElem hl0)
 rw [Nat.zero_mul, Nat.zero_add] at c0
 obtain ⟨bk, off, spot⟩ := ad
 have hspot : spot = none := by
  cases hs : spot with
  | none => rfl
  | some sp =>
   exfalso
   subst hs
   simp [World.cell?, Addr.add] at c0
   split at c0 <;> simp at c0
 subst hspot
 have add : ∀ j : Nat, (⟨bk, off, none⟩ : Addr).add j = ⟨bk, off + j, none⟩ := by intro j; unfold Addr.add; split <;> simp_all
 refine ⟨bk, off, rfl, ?_, fun j hj i u hu => by rw [← add]; exact cell j hj i u hu⟩
 rw [add] at c0
 exact World.block_lt_of_cell? w _ c0
theorem flatK_list [Inhabited α] (hk : ∀ x, (enc x).length = k) (d : Array α) : (flatK enc k d).toList = d.toList.flatMap enc := by
 apply List.ext_getElem?
 intro t
 by_cases ht : t < d.size * k
 ·have hk0 : 0 < k := Nat.pos_of_ne_zero (by rintro rfl; simp at ht)
  have hj : t / k < d.size := Nat.div_lt_of_lt_mul (by rw [Nat.mul_comm]; exact ht)
  have e1 : (flatK enc k d).toList[t]? = some ((enc d[t / k]!)[t % k]!) := by
   rw [Array.getElem?_toList, Array.getElem?_eq_getElem (by simpa using ht)]
   have := get_flatK enc k d t ht
   rw [getElem!_pos _ t (by simpa using ht)] at this
   rw [this]
  have h2 := (flat_reps hk d.toList).2 (t / k) (d.toList[t / k]'(by simpa using hj)) (List.getElem?_eq_getElem (by simpa using hj))
  have hm := Nat.mod_lt t hk0
  have e3 : ((d.toList.flatMap enc).drop (t / k * k)).take k = enc (d.toList[t / k]'(by simpa using hj)) := h2
  have e4 : (d.toList.flatMap enc)[t]? = (enc (d.toList[t / k]'(by simpa using hj)))[t % k]? := by
   rw [← e3, List.getElem?_take_of_lt hm, List.getElem?_drop]
   congr 1
   have := Nat.div_add_mod t k
   rw [Nat.mul_comm] at this
   omega
  rw [e1, e4]
  have hd : d[t / k]! = d.toList[t / k]'(by simpa using hj) := by rw [getElem!_pos d _ hj]; simp
  rw [← hd]
  have hl : t % k < (enc d[t / k]!).length := by rw [hk]; exact hm
  rw [List.getElem?_eq_getElem hl]
  simp [hl]
 ·rw [List.getElem?_eq_none (by simpa using Nat.not_lt.1 ht), List.getElem?_eq_none (by rw [flat_length hk]; simpa using Nat.not_lt.1 ht)]
theorem holdsK_of_own [Inhabited α] (hk : ∀ x, (enc x).length = k) {w : World} {base g cap : Nat} {e : TypeId} {xs : List α} (h : w.ownsRow base e k (.slice (some ⟨g, 0, none⟩) xs.length cap) xs.length (xs.flatMap enc)) : HoldsK enc k w g 0 xs.toArray := by
 rcases h.2 with ⟨h0, _⟩ | ⟨g', cap', cur, hv, hg, hb, hn, hcap, hsz, htk⟩
 ·cases h0
 cases hv
 intro j hj
 rw [size_flatK] at hj
 have hjl : j < (xs.flatMap enc).length := by rw [flat_length hk]; simpa using hj
 have hcj : cur.toList[j]? = some ((xs.flatMap enc)[j]) := by
  have : (cur.toList.take (xs.length * k))[j]? = some ((xs.flatMap enc)[j]) := by rw [htk]; exact List.getElem?_eq_getElem hjl
  rw [List.getElem?_take_of_lt (by simpa using hj)] at this
  exact this
 refine ⟨?_, by simp [World.frozen?, hb]⟩
 rw [cell_of_row w g (0 + j) cur e (0, 0) hb, Nat.zero_add, ← Array.getElem?_toList, hcj]
 have hf : (flatK enc k xs.toArray)[j]! = (xs.flatMap enc)[j] := by
  have hl := flatK_list (enc := enc) (k := k) hk xs.toArray
  have hj' : j < (flatK enc k xs.toArray).size := by simpa using hj
  rw [getElem!_pos _ j hj']
  have : (flatK enc k xs.toArray).toList[j]'(by simpa using hj) = (flatK enc k xs.toArray)[j] := by simp
  rw [← this]
  simp only [hl]
 rw [hf]
 rfl
theorem grown_sortedK [Inhabited α] {w : World} {g m : Nat} {ys : Array α} {os : Array Obj} (hg : g < w.heap.size) : w.grownBy (grow (putRowK enc k (Sort.ahead w m) g 0 ys) os) (some g) := by
 refine ⟨rfl, rfl, rfl, ?_, fun i hi hne => ?_⟩
 ·have : (putRowK enc k (Sort.ahead w m) g 0 ys).heap.size = w.heap.size := by rw [size_putRowK]; rfl
  simp [grow]
  omega
 ·rw [heap_grow_old _ _ (by rw [size_putRowK]; exact hi)]
  have : ¬ g = i := fun e => hne (by rw [e])
  simp [putRowK, putRow, mapBlock, Sort.ahead, Array.getElem?_modify, this]
end
end Go.Proofs.YtkhkmhbledigpaaGreatDoor.Flat
