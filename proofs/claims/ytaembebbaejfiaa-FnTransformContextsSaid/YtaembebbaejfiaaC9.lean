/- Parts of the proof, laid together: Idx, CutT, PureMap, PartIsC, PartMapping, FromList, Shelf, SortStr, Flat, SortOwn, FromMap, FromAll, AtPath, Back, ImplTrans, TransCtx, LawCtx, RowKit, ValArg. -/
import Derived.Test.YtaembebbaejfiaaC3
import Derived.Test.YtaembebbaejfiaaC7
import Derived.Test.YtaembebbaejfiaaC8
import Derived.Laws.IdiomCopy
import Derived.Shelf.Strings.Builder1
import Derived.Shelf.Strings.Builder2
import Derived.Shelf.Strings.OnBuilder
import Derived.Shelf.Small.Bits
import Derived.Shelf.Strings.BuilderF
import Derived.Shelf.Strings.BuilderK
import Derived.Shelf.Strings.Builder2Cap
import Derived.Shelf.Strconv.Itoa0
import Derived.Shelf.Sort.Plain
import Derived.Shelf.Strings.BuilderCap
import Derived.Shelf.Slices.In.SortNone
import Derived.Shelf.Slices.In.SortNone2
import Derived.Test.YtaembebbaejfiaaProg
import Derived.Sort.OwnSorted
import Derived.Shelf.SlSortFuncK.WholeK
import Derived.Shelf.GgSortFunc.Tiny
import Derived.Test.YtaembebbaejfiaaC6
import Derived.Test.YtaembebbaejfiaaRows
import Derived.ProofKit
import Derived.OpenShut
import Derived.ShutString
import Derived.ChangeOld
import Derived.Below
import Derived.SizedLaws
import Derived.SliceStrings
namespace Go.Proofs.Ytaembebbaejfiaa.Index
open Go.RowKit Go.Proofs.YtaembebbaejfiaaW.PrintWords Go.Proofs.Ytaembebbaejfiaa.Str Go.Proofs.Ytaembebbaejfiaa.Kit
set_option linter.unusedVariables false
set_option linter.unusedSimpArgs false
set_option maxHeartbeats 400000 in
theorem tree_zzIndex (s sub : ByteArray) (w : World) (hs : s.size ≤ 281474976710656) (hb : sub.size ≤ 281474976710656) :
  Calls Try.prog 61 #[.string s, .string sub] w fun e w' => e = .returned (.int .i64 (findI (lb sub) (lb s))) ∧ Drawn0 w w' := by
 go_enter Try.func61, Try.ntmps61
 go_wp2
 go_loopw [5] (fun v5 wr => ∃ j : Nat, v5 = .int .i64 j ∧ j ≤ s.size ∧ Aside0 (At (lb sub) (lb s) j) ∧ Drawn0 w wr) (fun v5 _ => s.size + 1 - (intOf v5).toNat)
 case atStart => exact ⟨0, rfl, by omega, ⟨At.start _ _⟩, Drawn0.refl _⟩
 case round =>
  obtain ⟨j, rfl, hj, HA, HD⟩ := hrel
  by_cases hlt : (j : Int) + (sub.size : Int) ≤ (s.size : Int)
  ·have hm : j + sub.size ≤ s.size := by omega
   have q1 : (j : Int) ≤ (j : Int) + (sub.size : Int) := by omega
   have q0 : (0 : Int) ≤ (j : Int) := by omega
   by_cases e : (s.extract j (j + sub.size)).toList = sub.toList
   ·have e1 : ((s.extract j (j + sub.size)).toList == sub.toList) = true := beq_iff_eq.mpr e
    have hit := HA.out.hit (by rw [lb_length, lb_length]; exact hm) (by rw [lb_length, ← lb_piece, ← toList_lb, ← toList_lb]; exact e)
    have Hit := aM hit
    clear e hit
    go_wp2
    go_ret
    exact ⟨by rw [Hit.out]; rfl, by repeat (first | exact HD | apply Drawn0.step)⟩
   ·have e1 : ((s.extract j (j + sub.size)).toList == sub.toList) = false := beq_eq_false_iff_ne.mpr e
    have nxt := HA.out.next (by rw [lb_length, lb_length]; exact hm) (by rw [lb_length, ← lb_piece, ← toList_lb, ← toList_lb]; exact e)
    have hj1 : j + 1 ≤ s.size := by have := nxt.1; rw [lb_length] at this; exact this
    have Nxt := aM nxt
    clear e nxt
    go_wp2
    go_roundw
    case rel => exact ⟨j + 1, by go_num, by omega, Nxt, by repeat (first | exact HD | apply Drawn0.step)⟩
    case measure => simp [intOf]; omega
  ·have miss := HA.out.miss (by rw [lb_length, lb_length]; omega)
   have Miss := aM miss
   have d : decide ((j : Int) + (sub.size : Int) ≤ (s.size : Int)) = false := decide_eq_false hlt
   clear miss hlt
   go_wp2
   go_ret
   exact ⟨by rw [Miss.out]; rfl, by repeat (first | exact HD | apply Drawn0.step)⟩
end Go.Proofs.Ytaembebbaejfiaa.Index
namespace Go.Proofs.Ytaembebbaejfiaa.Index
open Go.RowKit Go.Proofs.YtaembebbaejfiaaW.PrintWords Go.Proofs.Ytaembebbaejfiaa.Str Go.Proofs.Ytaembebbaejfiaa.Kit
set_option linter.unusedVariables false
set_option linter.unusedSimpArgs false
abbrev BA := ByteArray
def cutB (c : UInt8) (s : BA) : BA × BA × Bool := match find [c] (lb s) with
 | some i => (s.extract 0 i, s.extract (i + 1) s.size, true)
 | none => (s, ⟨#[]⟩, false)
set_option maxHeartbeats 800000 in
theorem zzCut (s : BA) (c : UInt8) (w : World) (hs : s.size ≤ 281474976710656) :
  Calls Try.prog 55 #[.string s, .string ⟨#[c]⟩] w fun e w' => e = .returned (.tuple #[.string (cutB c s).1, .string (cutB c s).2.1, .bool (cutB c s).2.2]) ∧ Drawn0 w w' := by
 have CI := aM (tree_zzIndex s ⟨#[c]⟩ w hs (by show 1 ≤ _; omega))
 unfold cutB
 cases hf : find [c] (lb s) with
 | none =>
  have hfi : findI (lb ⟨#[c]⟩) (lb s) = -1 := by
   show findI [c] (lb s) = -1
   unfold findI; rw [hf]
  rw [hfi] at CI
  clear hf hfi
  go_enter Try.func55, Try.ntmps55
  go_wp2_with (refine CI.out.mono ?_; rintro e w1 ⟨rfl, hd⟩; have HD := aM hd; clear hd)
  go_ret3
  exact ⟨rfl, HD.out⟩
 | some i =>
  have hfi : findI (lb ⟨#[c]⟩) (lb s) = (i : Int) := by
   show findI [c] (lb s) = _
   unfold findI; rw [hf]
  rw [hfi] at CI
  have hlt : i + 1 ≤ s.size := by
   have := (find_some hf).1
   rw [lb_length] at this
   exact this
  clear hf hfi
  have q0 : (0 : Int) ≤ (i : Int) := by omega
  have q1 : (i : Int) ≤ (s.size : Int) := by omega
  have q2 : (i : Int) + 1 ≤ (s.size : Int) := by omega
  go_enter Try.func55, Try.ntmps55
  go_wp2_with (refine CI.out.mono ?_; rintro e w1 ⟨rfl, hd⟩; have HD := aM hd; clear hd)
  go_quiet (fail)
  go_wp2
  go_ret3
  exact ⟨rfl, HD.out.step nq⟩
end Go.Proofs.Ytaembebbaejfiaa.Index
namespace Go.Proofs.Ytaembebbaejfiaa.Tr
open Go.RowKit Go.Proofs.YtaembebbaejfiaaW.PrintWords Go.Proofs.YtaembebbaejfiaaW.PrintLast Go.Proofs.Ytaembebbaejfiaa.Str Go.Proofs.Ytaembebbaejfiaa.Kit Go.Proofs.Ytaembebbaejfiaa.MapV Go.Proofs.Ytaembebbaejfiaa.Frame Go.Proofs.Ytaembebbaejfiaa.PS
open Go.Proofs.Ytaembebbaejfiaa.Index (cutB)
set_option linter.unusedVariables false
set_option linter.unusedSimpArgs false
def splitV (s : BA) : VS := if (cutB 61 s).2.2 then leaf 3 0 (cutB 61 s).2.1 else leaf 0 0 ⟨#[]⟩
theorem bt_nat (s : BA) (i : Nat) (h : i < s.size) : bt s (i : Int) = ((lb s)[i]'(by rw [lb_length]; exact h)).toNat := by
 unfold bt
 simp [lb, h]
 rfl
theorem find_at {c : UInt8} {l : Bs} {i : Nat} (hi : i < l.length) (he : l[i] = c) (hb : ∀ (j : Nat) (hj : j < l.length), j < i → l[j] ≠ c) : find [c] l = some i := by
 rw [find_one, List.findIdx?_eq_some_iff_getElem]
 exact ⟨hi, by simpa using he, fun j hj => by simpa using hb j (by omega) hj⟩
theorem find_not {c : UInt8} {l : Bs} (hb : ∀ (j : Nat) (hj : j < l.length), l[j] ≠ c) : find [c] l = none := by
 rw [find_one, List.findIdx?_eq_none_iff]
 intro x hx
 obtain ⟨j, hj, rfl⟩ := List.getElem_of_mem hx
 simpa using hb j hj
theorem ev_mergeSplit_l (s : BA) (hs : s.size ≤ 140737488355328) : ∀ (d i : Nat), i + d = s.size → (∀ (j : Nat) (hj : j < (lb s).length), j < i → (lb s)[j] ≠ 61) →
  Ev (fun k => spec_mergeSplit.l0 k s (i : Int)) ((cutB 61 s).1, (splitV s).f0, (splitV s).f1, (splitV s).f2, (splitV s).f3, (splitV s).f4) := by
 intro d
 induction d with
 | zero =>
  intro i hi hb
  have hf : find [61] (lb s) = none := find_not (fun j hj => hb j hj (by rw [lb_length] at hj; omega))
  have hc : cutB 61 s = (s, ⟨#[]⟩, false) := by unfold cutB; rw [hf]
  refine Ev.step (f := fun _ => some (s, 0, 0, ⟨#[]⟩, [], [])) (fun k => ?_) ?_
  ·simp only [spec_mergeSplit.l0]
   rw [if_neg (by omega)]
  ·unfold splitV
   rw [hc]
   exact Ev.now _
 | succ d ih =>
  intro i hi hb
  have hlt : i < s.size := by omega
  have hll : i < (lb s).length := by rw [lb_length]; exact hlt
  by_cases h : (lb s)[i] = 61
  ·have hf : find [61] (lb s) = some i := find_at hll h hb
   have hc : cutB 61 s = (s.extract 0 i, s.extract (i + 1) s.size, true) := by unfold cutB; rw [hf]
   refine Ev.step (f := fun _ => some (s.extract 0 i, 3, 0, s.extract (i + 1) s.size, [], [])) (fun k => ?_) ?_
   ·simp only [spec_mergeSplit.l0]
    have h1 : bt s (i : Int) = 61 := by rw [bt_nat s i hlt, h]; rfl
    rw [if_pos (by omega), if_pos (by omega), if_pos h1, if_pos (by omega), wrapS i (by omega), if_pos (by omega), if_pos (by omega)]
    simp [spec_T.f]
   ·unfold splitV
    rw [hc]
    exact Ev.now _
  ·refine Ev.step (f := fun k => spec_mergeSplit.l0 k s ((i + 1 : Nat) : Int)) (fun k => ?_) (ih (i + 1) (by omega) (fun j hj hji => by
    by_cases e : j = i
    ·subst e; exact h
    ·exact hb j hj (by omega)))
   simp only [spec_mergeSplit.l0]
   have h1 : ¬ bt s (i : Int) = 61 := by
    rw [bt_nat s i hlt]
    intro e
    have e2 : ((lb s)[i]).toNat = 61 := by omega
    exact h (UInt8.toNat_inj.1 e2)
   rw [if_pos (by omega), if_pos (by omega), if_neg h1, wrapS i (by omega)]
theorem ev_mergeSplit (s : BA) (hs : s.size ≤ 140737488355328) : Ev (fun k => spec_mergeSplit.f k s) ((cutB 61 s).1, (splitV s).f0, (splitV s).f1, (splitV s).f2, (splitV s).f3, (splitV s).f4) := ev_mergeSplit_l s hs s.size 0 (by omega) (fun j _ h => absurd h (Nat.not_lt_zero _))
theorem cut_size (s : BA) : (cutB 61 s).1.size ≤ s.size ∧ (cutB 61 s).2.1.size ≤ s.size := by
 unfold cutB
 cases find [61] (lb s) with
 | none => exact ⟨Nat.le_refl _, Nat.zero_le _⟩
 | some i => exact ⟨by show (s.extract 0 i).size ≤ _; rw [ByteArray.size_extract]; omega, by show (s.extract (i + 1) s.size).size ≤ _; rw [ByteArray.size_extract]; omega⟩
theorem ends_sayPairs_l (x : VS) (hs : SmallS x) (hx : InStep x) (h53 : x.f0 = 5 → x.f3.length = x.f4.length) : ∀ (d i : Nat), i + d = x.f4.length →
  Ends (fun b => b = true → x.f0 = 5 ∨ x.f0 = 4) (fun k => spec_sayPairs.l0 k (i : Int) x.f0 x.f1 x.f2 x.f3 x.f4) := by
 intro d
 induction d with
 | zero =>
  intro i hi
  refine Ends.step (fun k => by simp only [spec_sayPairs.l0]; rfl) ?_
  exact Ends.no (by omega) (Ends.ite (fun h => Ends.now (fun _ => .inl h)) (fun _ => Ends.ite (fun h => Ends.now (fun _ => .inr h)) (fun _ => Ends.now (fun h => by cases h))))
 | succ d ih =>
  intro i hi
  have hlt : i < x.f4.length := by omega
  have hvl := hs.vals
  have hn := ih (i + 1) (by omega)
  have hv := hs.at (List.getElem_mem hlt)
  have ht : x.f4[i].f2.size ≤ 140737488355328 := by
   generalize x.f4[i] = v at hv
   cases hv
   assumption
  have hj : ∀ c : Bool, Ends (fun b => b = true → x.f0 = 5 ∨ x.f0 = 4) (fun k => spec_sayPairs.j1 k (i : Int) c x.f0 x.f1 x.f2 x.f3 x.f4 x.f4[i].f0 x.f4[i].f1 x.f4[i].f2 x.f4[i].f3 x.f4[i].f4) := by
   intro c
   refine Ends.step (fun k => by simp only [spec_sayPairs.j1]; rfl) ?_
   rw [wrapS i (by omega)]
   refine Ends.ite (fun _ => Ends.now (fun h => by cases h)) (fun _ => Ends.ite (fun _ => Ends.bindEv (ev_mergeSplit _ ht) (Ends.ite (fun _ => Ends.bind (ends_sayName _ ?_) (fun b _ => Ends.ite (fun _ => hn) (fun _ => Ends.now (fun h => by cases h)))) (fun _ => Ends.now (fun h => by cases h)))) (fun _ => hn))
   have := (cut_size x.f4[i].f2).1
   show (cutB 61 x.f4[i].f2).1.size ≤ _
   omega
  refine Ends.step (fun k => by simp only [spec_sayPairs.l0]; rfl) ?_
  rw [rdS hlt]
  refine Ends.yes (by omega) (Ends.yes (by omega) (Ends.ite (fun h5 => ?_) (fun _ => hj _)))
  have hl := h53 h5
  have hlk : i < x.f3.length := by omega
  rw [rdB hlk]
  refine Ends.yes (by omega) (Ends.bind (ends_sayName _ (hs.keyIn (List.getElem_mem hlk))) (fun b _ => Ends.ite (fun _ => Ends.ite (fun _ => hj _) (fun _ => Ends.ite (fun _ => hj _) (fun _ => hj _))) (fun _ => hj _)))
theorem ends_sayPairs (x : VS) (hs : SmallS x) (hx : InStep x) (h53 : x.f0 = 5 → x.f3.length = x.f4.length) : Ends (fun b => b = true → x.f0 = 5 ∨ x.f0 = 4) (fun k => spec_sayPairs.f k x.f0 x.f1 x.f2 x.f3 x.f4) := ends_sayPairs_l x hs hx h53 x.f4.length 0 (by omega)
end Go.Proofs.Ytaembebbaejfiaa.Tr
namespace Go.Proofs.Ytaembebbaejfiaa.Tr
open Go.RowKit Go.Proofs.YtaembebbaejfiaaW.PrintWords Go.Proofs.YtaembebbaejfiaaW.PrintLast Go.Proofs.Ytaembebbaejfiaa.Str Go.Proofs.Ytaembebbaejfiaa.Kit Go.Proofs.Ytaembebbaejfiaa.MapV Go.Proofs.Ytaembebbaejfiaa.Frame Go.Proofs.Ytaembebbaejfiaa.PS
set_option linter.unusedVariables false
set_option linter.unusedSimpArgs false
def Turns (ig : Bool) (x y : VI) : Prop := ∀ (w : World) (A3 A4 : Option Addr) (c3 c4 : Nat), x.f3.length ≤ c3 → Kd.string.C w A3 x.f3.length x.f3 → x.f4.length ≤ c4 → kI.C w A4 x.f4.length x.f4 →
  Calls Try.prog 21 #[.agg #[.int .i64 x.f0, .int .i64 x.f1, .string x.f2, .slice A3 x.f3.length c3, .slice A4 x.f4.length c4], .bool ig] w (Told w y)
theorem from_calls (x : VI) (z : VS) (hz : fromI x = z) (hx : Small x) (A3 A4 : Option Addr) (c3 c4 : Nat) (w : World) (l3 : x.f3.length ≤ c3) (hk : Kd.string.C w A3 x.f3.length x.f3) (l4 : x.f4.length ≤ c4) (hv : kI.C w A4 x.f4.length x.f4) :
  Calls Try.prog 19 #[.agg #[.int .i64 x.f0, .int .i64 x.f1, .string x.f2, .slice A3 x.f3.length c3, .slice A4 x.f4.length c4]] w fun e w' => ∃ B3 d3 B4 d4, e = .returned (.agg #[.int .i64 z.f0, .int .i64 z.f1, .string z.f2, .slice B3 z.f3.length d3, .slice B4 z.f4.length d4]) ∧ z.f3.length ≤ d3 ∧ Kd.string.C w' B3 z.f3.length z.f3 ∧ z.f4.length ≤ d4 ∧ kS.C w' B4 z.f4.length z.f4 ∧ Below w.heap.size w w' := by
 subst hz
 obtain ⟨k, hk'⟩ := (ev_from x hx).rounds
 refine (laws_from.calls k x.f0 x.f1 x.f2 A3 c3 x.f3 A4 c4 x.f4 _ _ _ _ _ w hk l3 hv l4 hk').mono ?_
 rintro e w1 ⟨v3, v4, rfl, hr3, hr4, hb⟩
 obtain ⟨B3, d3, rfl, m3, g3⟩ := Kd.R_reads hr3
 obtain ⟨B4, d4, rfl, m4, g4⟩ := Kd.R_reads hr4
 exact ⟨B3, d3, B4, d4, rfl, m3, g3, m4, g4, hb⟩
theorem to_calls (x : VS) (hx : SmallS x) (A3 A4 : Option Addr) (c3 c4 : Nat) (w : World) (l3 : x.f3.length ≤ c3) (hk : Kd.string.C w A3 x.f3.length x.f3) (l4 : x.f4.length ≤ c4) (hv : kS.C w A4 x.f4.length x.f4) :
  Calls Try.prog 13 #[.agg #[.int .i64 x.f0, .int .i64 x.f1, .string x.f2, .slice A3 x.f3.length c3, .slice A4 x.f4.length c4]] w fun e w' => ∃ B3 d3 B4 d4, e = .returned (.agg #[.int .i64 (toI x).f0, .int .i64 (toI x).f1, .string (toI x).f2, .slice B3 (toI x).f3.length d3, .slice B4 (toI x).f4.length d4]) ∧ (toI x).f3.length ≤ d3 ∧ Kd.string.C w' B3 (toI x).f3.length (toI x).f3 ∧ (toI x).f4.length ≤ d4 ∧ kI.C w' B4 (toI x).f4.length (toI x).f4 ∧ Below w.heap.size w w' := by
 obtain ⟨k, hk'⟩ := (ev_to x hx).rounds
 refine (laws_to.calls k x.f0 x.f1 x.f2 A3 c3 x.f3 A4 c4 x.f4 _ _ _ _ _ w hk l3 hv l4 hk').mono ?_
 rintro e w1 ⟨v3, v4, rfl, hr3, hr4, hb⟩
 obtain ⟨B3, d3, rfl, m3, g3⟩ := Kd.R_reads hr3
 obtain ⟨B4, d4, rfl, m4, g4⟩ := Kd.R_reads hr4
 exact ⟨B3, d3, B4, d4, rfl, m3, g3, m4, g4, hb⟩
theorem same_calls (x : VS) (hx : Short x) (A3 A4 : Option Addr) (c3 c4 : Nat) (B3 B4 : Option Addr) (d3 d4 : Nat) (w : World) (l3 : x.f3.length ≤ c3) (hk : Kd.string.C w A3 x.f3.length x.f3) (l4 : x.f4.length ≤ c4) (hv : kS.C w A4 x.f4.length x.f4) (m3 : x.f3.length ≤ d3) (jk : Kd.string.C w B3 x.f3.length x.f3) (m4 : x.f4.length ≤ d4) (jv : kS.C w B4 x.f4.length x.f4) :
  Calls Try.prog 18 #[.agg #[.int .i64 x.f0, .int .i64 x.f1, .string x.f2, .slice A3 x.f3.length c3, .slice A4 x.f4.length c4], .agg #[.int .i64 x.f0, .int .i64 x.f1, .string x.f2, .slice B3 x.f3.length d3, .slice B4 x.f4.length d4]] w fun e w' => e = .returned (.bool true) ∧ Below w.heap.size w w' := by
 obtain ⟨k, hk'⟩ := (ev_same x hx).rounds
 exact spec_Same.calls k x.f0 x.f1 x.f2 A3 c3 x.f3 A4 c4 x.f4 x.f0 x.f1 x.f2 B3 d3 x.f3 B4 d4 x.f4 true w hk l3 hv l4 jk m3 jv m4 hk'
theorem cell_row5 {w : World} {b : Nat} {T : TypeId} {v0 v1 v2 v3 v4 : Value} (h : w.heap[b]? = some (.cells #[v0, v1, v2, v3, v4] T (0, 0))) :
  w.cell? ⟨b, 0, none⟩ = some v0 ∧ w.cell? ⟨b, 1, none⟩ = some v1 ∧ w.cell? ⟨b, 2, none⟩ = some v2 ∧ w.cell? ⟨b, 3, none⟩ = some v3 ∧ w.cell? ⟨b, 4, none⟩ = some v4 := by
 simp [World.cell?, h]
set_option maxHeartbeats 3200000 in
set_option maxRecDepth 100000 in
theorem part_is (ig : Bool) (x want : VS) (y1 y2 : VI) (hx : SmallS x) (h1 : Turns ig (toI x) y1) (h2 : Turns ig y1 y2) (hy1 : Small y1) (hy2 : Small y2) (e1 : fromI y1 = want) (e2 : fromI y2 = want) (hw : Short want)
  (A3 A4 B3 B4 : Option Addr) (c3 c4 d3 d4 : Nat) (w : World) (l3 : x.f3.length ≤ c3) (hk : Kd.string.C w A3 x.f3.length x.f3) (l4 : x.f4.length ≤ c4) (hv : kS.C w A4 x.f4.length x.f4) (m3 : want.f3.length ≤ d3) (jk : Kd.string.C w B3 want.f3.length want.f3) (m4 : want.f4.length ≤ d4) (jv : kS.C w B4 want.f4.length want.f4) :
  Calls Try.prog 9 #[.func (.func 21) #[] #[], .agg #[.int .i64 x.f0, .int .i64 x.f1, .string x.f2, .slice A3 x.f3.length c3, .slice A4 x.f4.length c4], .agg #[.int .i64 want.f0, .int .i64 want.f1, .string want.f2, .slice B3 want.f3.length d3, .slice B4 want.f4.length d4], .bool ig] w fun e w' => e = .returned (.bool true) ∧ Below w.heap.size w w' := by
 have hb1 := below_alloc (Below.refl w.heap.size w) (.cells #[.int .i64 x.f0, .int .i64 x.f1, .string x.f2, .slice A3 x.f3.length c3, .slice A4 x.f4.length c4] 25)
 have hb2 := below_alloc hb1 (.cells #[.int .i64 want.f0, .int .i64 want.f1, .string want.f2, .slice B3 want.f3.length d3, .slice B4 want.f4.length d4] 25)
 have HB := aM hb2
 have hxb : ((w.alloc (.cells #[.int .i64 x.f0, .int .i64 x.f1, .string x.f2, .slice A3 x.f3.length c3, .slice A4 x.f4.length c4] 25)).alloc (.cells #[.int .i64 want.f0, .int .i64 want.f1, .string want.f2, .slice B3 want.f3.length d3, .slice B4 want.f4.length d4] 25)).heap[w.heap.size]? = some (.cells #[.int .i64 x.f0, .int .i64 x.f1, .string x.f2, .slice A3 x.f3.length c3, .slice A4 x.f4.length c4] 25 (0, 0)) := blk_alloc (cb_new _ _) _
 have hwb := cb_new (w.alloc (.cells #[.int .i64 x.f0, .int .i64 x.f1, .string x.f2, .slice A3 x.f3.length c3, .slice A4 x.f4.length c4] 25)) (.cells #[.int .i64 want.f0, .int .i64 want.f1, .string want.f2, .slice B3 want.f3.length d3, .slice B4 want.f4.length d4] 25)
 rw [World.size_alloc] at hwb
 have HW := aM hwb
 have CT := aM (to_calls x hx A3 A4 c3 c4 _ l3 (Kd.C_below hk hb2) l4 (Kd.C_below hv hb2))
 have JK := aM (Kd.C_below jk hb2)
 have JV := aM (Kd.C_below jv hb2)
 have H1 := aM h1
 have H2 := aM h2
 have E1 := aM e1
 have E2 := aM e2
 clear hb1 hb2 hwb hk hv jk jv h1 h2 e1 e2
 generalize toI x = x1 at CT H1
 obtain ⟨z0, z1, z2, z3, z4⟩ := x1
 obtain ⟨p0, p1, p2, p3, p4⟩ := y1
 obtain ⟨q0, q1, q2, q3, q4⟩ := y2
 go_enter Try.func9, Try.ntmps9
 go_wp2_with (refine load_val (.tmp 5) rfl rfl rfl hxb ?_)
 refine CT.out.mono ?_
 rintro e w1 ⟨G3, g3, G4, g4, rfl, k3, r3, k4, r4, hb⟩
 have HB1 := aM (hb_then HB.out hb)
 have HW1 := aM ((hb.block _ (cb_lt HW.out)).trans HW.out)
 have JK1 := aM (Kd.C_below JK.out hb)
 have JV1 := aM (Kd.C_below JV.out hb)
 have CG := aM (H1.out w1 G3 G4 g3 g4 k3 r3 k4 r4)
 clear hb CT r3 r4 k3 k4 HB HW JK JV hxb H1
 go_wp2_with fail
 refine CG.out.mono ?_
 rintro e w2 ⟨v3, v4, rfl, hv3, hv4, hb⟩
 obtain ⟨P3, a3, rfl, k3, r3⟩ := Kd.R_reads hv3
 obtain ⟨P4, a4, rfl, k4, r4⟩ := Kd.R_reads hv4
 have hbn := below_alloc (Below.refl w2.heap.size w2) (.cells #[.int .i64 p0, .int .i64 p1, .string p2, .slice P3 p3.length a3, .slice P4 p4.length a4] 36)
 have HB2 := aM (hb_then (hb_then HB1.out hb) hbn)
 have HW2 := aM (blk_alloc ((hb.block _ (cb_lt HW1.out)).trans HW1.out) (.cells #[.int .i64 p0, .int .i64 p1, .string p2, .slice P3 p3.length a3, .slice P4 p4.length a4] 36))
 have JK2 := aM (Kd.C_below (Kd.C_below JK1.out hb) hbn)
 have JV2 := aM (Kd.C_below (Kd.C_below JV1.out hb) hbn)
 have RK2 := aM (Kd.C_below r3 hbn)
 have RV2 := aM (Kd.C_below r4 hbn)
 have hp := cb_new w2 (.cells #[.int .i64 p0, .int .i64 p1, .string p2, .slice P3 p3.length a3, .slice P4 p4.length a4] 36)
 have HP2 := aM hp
 have CG2 := aM (H2.out _ P3 P4 a3 a4 k3 (Kd.C_below r3 hbn) k4 (Kd.C_below r4 hbn))
 clear hb CG r3 r4 HB1 HW1 JK1 JV1 H2 hv3 hv4 hbn
 go_wp2_with (refine load_ival (.tmp 9) rfl rfl rfl hp ?_)
 refine CG2.out.mono ?_
 rintro e w3 ⟨v3, v4, rfl, hv3, hv4, hb⟩
 obtain ⟨Q3, s3, rfl, n3, t3⟩ := Kd.R_reads hv3
 obtain ⟨Q4, s4, rfl, n4, t4⟩ := Kd.R_reads hv4
 have hbn := below_alloc (Below.refl w3.heap.size w3) (.cells #[.int .i64 q0, .int .i64 q1, .string q2, .slice Q3 q3.length s3, .slice Q4 q4.length s4] 36)
 have hbw := hb_then hb hbn
 have HB3 := aM (hb_then HB2.out hbw)
 have HP3 := aM (cell_row5 ((hbw.block _ (cb_lt HP2.out)).trans HP2.out))
 have HW3 := aM (cell_row5 ((hbw.block _ (cb_lt HW2.out)).trans HW2.out))
 have HQ3 := aM (cell_row5 (cb_new w3 (.cells #[.int .i64 q0, .int .i64 q1, .string q2, .slice Q3 q3.length s3, .slice Q4 q4.length s4] 36)))
 have JK3 := aM (Kd.C_below JK2.out hbw)
 have JV3 := aM (Kd.C_below JV2.out hbw)
 have RK3 := aM (Kd.C_below RK2.out hbw)
 have RV3 := aM (Kd.C_below RV2.out hbw)
 have QK3 := aM (Kd.C_below t3 hbn)
 have QV3 := aM (Kd.C_below t4 hbn)
 have HL3 := aM k3
 have HL4 := aM k4
 have HM3 := aM n3
 have HM4 := aM n4
 clear hb hbw hbn hv3 hv4 t3 t4 CG2 JK2 JV2 RK2 RV2 HP2 HW2 HB2 k3 k4 n3 n4 hp
 go_wp2
 generalize hW0 : w3.alloc _ = W0 at HB3 HP3 HW3 HQ3 JK3 JV3 RK3 RV3 QK3 QV3 ⊢
 obtain ⟨x0, x1, x2, x3, x4⟩ := HP3.out
 obtain ⟨x5, x6, x7, x8, x9⟩ := HW3.out
 obtain ⟨x10, x11, x12, x13, x14⟩ := HQ3.out
 clear HP3 HW3 HQ3 hW0
 refine start_ (n := 17) (S := fun w' => w'.cell? ⟨w2.heap.size, 0, none⟩ = some (.int .i64 p0) ∧ w'.cell? ⟨w2.heap.size, 1, none⟩ = some (.int .i64 p1) ∧ w'.cell? ⟨w2.heap.size, 2, none⟩ = some (.string p2) ∧ w'.cell? ⟨w2.heap.size, 3, none⟩ = some (.slice P3 p3.length a3) ∧ w'.cell? ⟨w2.heap.size, 4, none⟩ = some (.slice P4 p4.length a4) ∧ w'.cell? ⟨w.heap.size + 1, 0, none⟩ = some (.int .i64 want.f0) ∧ w'.cell? ⟨w.heap.size + 1, 1, none⟩ = some (.int .i64 want.f1) ∧ w'.cell? ⟨w.heap.size + 1, 2, none⟩ = some (.string want.f2) ∧ w'.cell? ⟨w.heap.size + 1, 3, none⟩ = some (.slice B3 want.f3.length d3) ∧ w'.cell? ⟨w.heap.size + 1, 4, none⟩ = some (.slice B4 want.f4.length d4) ∧ w'.cell? ⟨w3.heap.size, 0, none⟩ = some (.int .i64 q0) ∧ w'.cell? ⟨w3.heap.size, 1, none⟩ = some (.int .i64 q1) ∧ w'.cell? ⟨w3.heap.size, 2, none⟩ = some (.string q2) ∧ w'.cell? ⟨w3.heap.size, 3, none⟩ = some (.slice Q3 q3.length s3) ∧ w'.cell? ⟨w3.heap.size, 4, none⟩ = some (.slice Q4 q4.length s4)) (ds := []) #[false, false, false, false, false, false, false, false, false, false, false, false, false, false, false, false, false] (by kernel_rfl) rfl rfl ⟨x0, x1, x2, x3, x4, x5, x6, x7, x8, x9, x10, x11, x12, x13, x14⟩ (fun hHeld => ?_)
 refine pure_ (i := 0) (N := some 28) (v := ?_) (a' := ?_) #[true, false, false, false, false, false, false, false, false, false, false, false, false, false, false, false, false] rfl rfl (by kernel_rfl) (fun _ _ _ h => h) (Or.inl ⟨by rfl, ?_⟩) ?_ ?_
 rotate_left
 ·intro w'; go_simp; with_reducible rfl
 rotate_left
 ·simp only [Act.put, sA, sB, sC, i64_w, i32_w]; rfl
 refine pure_ (i := 1) (N := some 29) (v := ?_) (a' := ?_) #[true, true, false, false, false, false, false, false, false, false, false, false, false, false, false, false, false] rfl rfl (by kernel_rfl) (fun _ _ _ h => h) (Or.inl ⟨by rfl, ?_⟩) ?_ ?_
 rotate_left
 ·intro w'; go_simp; with_reducible rfl
 rotate_left
 ·simp only [Act.put, sA, sB, sC, i64_w, i32_w]; rfl
 refine pure_ (i := 2) (N := some 30) (v := ?_) (a' := ?_) #[true, true, true, false, false, false, false, false, false, false, false, false, false, false, false, false, false] rfl rfl (by kernel_rfl) (fun _ _ _ h => h) (Or.inl ⟨by rfl, ?_⟩) ?_ ?_
 rotate_left
 ·intro w'; go_simp; with_reducible rfl
 rotate_left
 ·simp only [Act.put, sA, sB, sC, i64_w, i32_w]; rfl
 refine pure_ (i := 3) (N := some 31) (v := ?_) (a' := ?_) #[true, true, true, true, false, false, false, false, false, false, false, false, false, false, false, false, false] rfl rfl (by kernel_rfl) (fun _ _ _ h => h) (Or.inl ⟨by rfl, ?_⟩) ?_ ?_
 rotate_left
 ·intro w'; go_simp; with_reducible rfl
 rotate_left
 ·simp only [Act.put, sA, sB, sC, i64_w, i32_w]; rfl
 refine pure_ (i := 4) (N := some 32) (v := ?_) (a' := ?_) #[true, true, true, true, true, false, false, false, false, false, false, false, false, false, false, false, false] rfl rfl (by kernel_rfl) (fun _ _ _ h => h) (Or.inl ⟨by rfl, ?_⟩) ?_ ?_
 rotate_left
 ·intro w'; go_simp; with_reducible rfl
 rotate_left
 ·simp only [Act.put, sA, sB, sC, i64_w, i32_w]; rfl
 refine take_ (i := 5) (N := some 33) (v := ?_) (a' := ?_) #[true, true, true, true, true, true, false, false, false, false, false, false, false, false, false, false, false] rfl rfl (by kernel_rfl) (fun _ _ _ h => h) (Or.inl ⟨by rfl, ?_⟩) hHeld ?_ ?_
 rotate_left
 ·rintro w' ⟨s0, s1, s2, s3, s4, s5, s6, s7, s8, s9, s10, s11, s12, s13, s14⟩
  go_simp; with_reducible rfl
 rotate_left
 ·simp only [Act.put, sA, sB, sC, i64_w, i32_w]; rfl
 refine take_ (i := 7) (N := some 35) (v := ?_) (a' := ?_) #[true, true, true, true, true, true, false, true, false, false, false, false, false, false, false, false, false] rfl rfl (by kernel_rfl) (fun _ _ _ h => h) (Or.inl ⟨by rfl, ?_⟩) hHeld ?_ ?_
 rotate_left
 ·rintro w' ⟨s0, s1, s2, s3, s4, s5, s6, s7, s8, s9, s10, s11, s12, s13, s14⟩
  go_simp; with_reducible rfl
 rotate_left
 ·simp only [Act.put, sA, sB, sC, i64_w, i32_w]; rfl
 refine one_ (i := 6) (N := some 34) #[true, true, true, true, true, true, true, true, false, false, false, false, false, false, false, false, false] rfl rfl (by kernel_rfl) (by decide) (fun K hK => ?_)
 refine goes_ Try.func19 (by kernel_rfl) rfl #[.agg #[.int .i64 p0, .int .i64 p1, .string p2, .slice P3 p3.length a3, .slice P4 p4.length a4]] (by rfl) rfl rfl (by simp only [List.map_toArray, List.map_cons, List.map_nil]; rfl) ?_
 with_reducible refine (from_calls ⟨p0, p1, p2, p3, p4⟩ want E1.out hy1 P3 P4 a3 a4 W0.drew HL3.out (Kd.C_below RK3.out (below_drew (Below.refl _ _))) HL4.out (Kd.C_below RV3.out (below_drew (Below.refl _ _)))).mono ?_
 rintro e w4 ⟨F3, b3, F4, b4, rfl, f3, g3, f4, g4, hb4⟩
 refine ⟨_, rfl, ?_⟩
 have F4_ := aM (And.intro f3 (And.intro g3 (And.intro f4 g4)))
 have HB4 := aM (hb_then (below_drew (Below.refl W0.heap.size W0)) hb4)
 clear f3 g3 f4 g4
 refine hK.out _ _ ⟨pw_cell_below hb4 hHeld.1, pw_cell_below hb4 hHeld.2.1, pw_cell_below hb4 hHeld.2.2.1, pw_cell_below hb4 hHeld.2.2.2.1, pw_cell_below hb4 hHeld.2.2.2.2.1, pw_cell_below hb4 hHeld.2.2.2.2.2.1, pw_cell_below hb4 hHeld.2.2.2.2.2.2.1, pw_cell_below hb4 hHeld.2.2.2.2.2.2.2.1, pw_cell_below hb4 hHeld.2.2.2.2.2.2.2.2.1, pw_cell_below hb4 hHeld.2.2.2.2.2.2.2.2.2.1, pw_cell_below hb4 hHeld.2.2.2.2.2.2.2.2.2.2.1, pw_cell_below hb4 hHeld.2.2.2.2.2.2.2.2.2.2.2.1, pw_cell_below hb4 hHeld.2.2.2.2.2.2.2.2.2.2.2.2.1, pw_cell_below hb4 hHeld.2.2.2.2.2.2.2.2.2.2.2.2.2.1, pw_cell_below hb4 hHeld.2.2.2.2.2.2.2.2.2.2.2.2.2.2⟩ (fun hHeld => ?_)
 clear hK K
 refine norm_ (a' := ?_) ?_ ?_
 rotate_left
 ·show Act.put _ (some 34) _ = _
  simp only [Act.put, sA, sB, sC, i64_w, i32_w]; rfl
 refine one_ (i := 8) (N := some 36) #[true, true, true, true, true, true, true, true, true, false, false, false, false, false, false, false, false] rfl rfl (by kernel_rfl) (by decide) (fun K hK => ?_)
 refine goes_ Try.func18 (by kernel_rfl) rfl #[.agg #[.int .i64 want.f0, .int .i64 want.f1, .string want.f2, .slice F3 want.f3.length b3, .slice F4 want.f4.length b4], .agg #[.int .i64 want.f0, .int .i64 want.f1, .string want.f2, .slice B3 want.f3.length d3, .slice B4 want.f4.length d4]] (by rfl) rfl rfl (by simp only [List.map_toArray, List.map_cons, List.map_nil]; rfl) ?_
 with_reducible refine (same_calls want hw F3 F4 b3 b4 B3 B4 d3 d4 w4 F4_.out.1 F4_.out.2.1 F4_.out.2.2.1 F4_.out.2.2.2 m3 (Kd.C_below JK3.out HB4.out) m4 (Kd.C_below JV3.out HB4.out)).mono ?_
 rintro e w5 ⟨rfl, hb5⟩
 refine ⟨_, rfl, ?_⟩
 have HB5 := aM (hb_then HB4.out hb5)
 refine hK.out _ _ ⟨pw_cell_below hb5 hHeld.1, pw_cell_below hb5 hHeld.2.1, pw_cell_below hb5 hHeld.2.2.1, pw_cell_below hb5 hHeld.2.2.2.1, pw_cell_below hb5 hHeld.2.2.2.2.1, pw_cell_below hb5 hHeld.2.2.2.2.2.1, pw_cell_below hb5 hHeld.2.2.2.2.2.2.1, pw_cell_below hb5 hHeld.2.2.2.2.2.2.2.1, pw_cell_below hb5 hHeld.2.2.2.2.2.2.2.2.1, pw_cell_below hb5 hHeld.2.2.2.2.2.2.2.2.2.1, pw_cell_below hb5 hHeld.2.2.2.2.2.2.2.2.2.2.1, pw_cell_below hb5 hHeld.2.2.2.2.2.2.2.2.2.2.2.1, pw_cell_below hb5 hHeld.2.2.2.2.2.2.2.2.2.2.2.2.1, pw_cell_below hb5 hHeld.2.2.2.2.2.2.2.2.2.2.2.2.2.1, pw_cell_below hb5 hHeld.2.2.2.2.2.2.2.2.2.2.2.2.2.2⟩ (fun hHeld => ?_)
 clear hK K
 refine norm_ (a' := ?_) ?_ ?_
 rotate_left
 ·show Act.put _ (some 36) _ = _
  simp only [Act.put, sA, sB, sC, i64_w, i32_w]; rfl
 refine pure_ (i := 9) (N := some 37) (v := ?_) (a' := ?_) #[true, true, true, true, true, true, true, true, true, true, false, false, false, false, false, false, false] rfl rfl (by kernel_rfl) (fun _ _ _ h => h) (Or.inl ⟨by rfl, ?_⟩) ?_ ?_
 rotate_left
 ·intro w'; go_simp; with_reducible rfl
 rotate_left
 ·simp only [Act.put, sA, sB, sC, i64_w, i32_w]; rfl
 refine pure_ (i := 10) (N := some 38) (v := ?_) (a' := ?_) #[true, true, true, true, true, true, true, true, true, true, true, false, false, false, false, false, false] rfl rfl (by kernel_rfl) (fun _ _ _ h => h) (Or.inl ⟨by rfl, ?_⟩) ?_ ?_
 rotate_left
 ·intro w'; go_simp; with_reducible rfl
 rotate_left
 ·simp only [Act.put, sA, sB, sC, i64_w, i32_w]; rfl
 refine take_ (i := 11) (N := some 39) (v := ?_) (a' := ?_) #[true, true, true, true, true, true, true, true, true, true, true, true, false, false, false, false, false] rfl rfl (by kernel_rfl) (fun _ _ _ h => h) (Or.inl ⟨by rfl, ?_⟩) hHeld ?_ ?_
 rotate_left
 ·rintro w' ⟨s0, s1, s2, s3, s4, s5, s6, s7, s8, s9, s10, s11, s12, s13, s14⟩
  go_simp; with_reducible rfl
 rotate_left
 ·simp only [Act.put, sA, sB, sC, i64_w, i32_w]; rfl
 refine take_ (i := 13) (N := some 41) (v := ?_) (a' := ?_) #[true, true, true, true, true, true, true, true, true, true, true, true, false, true, false, false, false] rfl rfl (by kernel_rfl) (fun _ _ _ h => h) (Or.inl ⟨by rfl, ?_⟩) hHeld ?_ ?_
 rotate_left
 ·rintro w' ⟨s0, s1, s2, s3, s4, s5, s6, s7, s8, s9, s10, s11, s12, s13, s14⟩
  go_simp; with_reducible rfl
 rotate_left
 ·simp only [Act.put, sA, sB, sC, i64_w, i32_w]; rfl
 refine one_ (i := 12) (N := some 40) #[true, true, true, true, true, true, true, true, true, true, true, true, true, true, false, false, false] rfl rfl (by kernel_rfl) (by decide) (fun K hK => ?_)
 refine goes_ Try.func19 (by kernel_rfl) rfl #[.agg #[.int .i64 q0, .int .i64 q1, .string q2, .slice Q3 q3.length s3, .slice Q4 q4.length s4]] (by rfl) rfl rfl (by simp only [List.map_toArray, List.map_cons, List.map_nil]; rfl) ?_
 with_reducible refine (from_calls ⟨q0, q1, q2, q3, q4⟩ want E2.out hy2 Q3 Q4 s3 s4 w5 HM3.out (Kd.C_below QK3.out HB5.out) HM4.out (Kd.C_below QV3.out HB5.out)).mono ?_
 rintro e w6 ⟨G3_, i3, G4_, i4, rfl, f3, g3, f4, g4, hb6⟩
 refine ⟨_, rfl, ?_⟩
 have F6_ := aM (And.intro f3 (And.intro g3 (And.intro f4 g4)))
 have HB6 := aM (hb_then HB5.out hb6)
 clear f3 g3 f4 g4
 refine hK.out _ _ ⟨pw_cell_below hb6 hHeld.1, pw_cell_below hb6 hHeld.2.1, pw_cell_below hb6 hHeld.2.2.1, pw_cell_below hb6 hHeld.2.2.2.1, pw_cell_below hb6 hHeld.2.2.2.2.1, pw_cell_below hb6 hHeld.2.2.2.2.2.1, pw_cell_below hb6 hHeld.2.2.2.2.2.2.1, pw_cell_below hb6 hHeld.2.2.2.2.2.2.2.1, pw_cell_below hb6 hHeld.2.2.2.2.2.2.2.2.1, pw_cell_below hb6 hHeld.2.2.2.2.2.2.2.2.2.1, pw_cell_below hb6 hHeld.2.2.2.2.2.2.2.2.2.2.1, pw_cell_below hb6 hHeld.2.2.2.2.2.2.2.2.2.2.2.1, pw_cell_below hb6 hHeld.2.2.2.2.2.2.2.2.2.2.2.2.1, pw_cell_below hb6 hHeld.2.2.2.2.2.2.2.2.2.2.2.2.2.1, pw_cell_below hb6 hHeld.2.2.2.2.2.2.2.2.2.2.2.2.2.2⟩ (fun hHeld => ?_)
 clear hK K
 refine norm_ (a' := ?_) ?_ ?_
 rotate_left
 ·show Act.put _ (some 40) _ = _
  simp only [Act.put, sA, sB, sC, i64_w, i32_w]; rfl
 refine one_ (i := 14) (N := some 42) #[true, true, true, true, true, true, true, true, true, true, true, true, true, true, true, false, false] rfl rfl (by kernel_rfl) (by decide) (fun K hK => ?_)
 refine goes_ Try.func18 (by kernel_rfl) rfl #[.agg #[.int .i64 want.f0, .int .i64 want.f1, .string want.f2, .slice G3_ want.f3.length i3, .slice G4_ want.f4.length i4], .agg #[.int .i64 want.f0, .int .i64 want.f1, .string want.f2, .slice B3 want.f3.length d3, .slice B4 want.f4.length d4]] (by rfl) rfl rfl (by simp only [List.map_toArray, List.map_cons, List.map_nil]; rfl) ?_
 with_reducible refine (same_calls want hw G3_ G4_ i3 i4 B3 B4 d3 d4 w6 F6_.out.1 F6_.out.2.1 F6_.out.2.2.1 F6_.out.2.2.2 m3 (Kd.C_below JK3.out HB6.out) m4 (Kd.C_below JV3.out HB6.out)).mono ?_
 rintro e w7 ⟨rfl, hb7⟩
 refine ⟨_, rfl, ?_⟩
 have HB7 := aM (hb_then HB6.out hb7)
 refine hK.out _ _ ⟨pw_cell_below hb7 hHeld.1, pw_cell_below hb7 hHeld.2.1, pw_cell_below hb7 hHeld.2.2.1, pw_cell_below hb7 hHeld.2.2.2.1, pw_cell_below hb7 hHeld.2.2.2.2.1, pw_cell_below hb7 hHeld.2.2.2.2.2.1, pw_cell_below hb7 hHeld.2.2.2.2.2.2.1, pw_cell_below hb7 hHeld.2.2.2.2.2.2.2.1, pw_cell_below hb7 hHeld.2.2.2.2.2.2.2.2.1, pw_cell_below hb7 hHeld.2.2.2.2.2.2.2.2.2.1, pw_cell_below hb7 hHeld.2.2.2.2.2.2.2.2.2.2.1, pw_cell_below hb7 hHeld.2.2.2.2.2.2.2.2.2.2.2.1, pw_cell_below hb7 hHeld.2.2.2.2.2.2.2.2.2.2.2.2.1, pw_cell_below hb7 hHeld.2.2.2.2.2.2.2.2.2.2.2.2.2.1, pw_cell_below hb7 hHeld.2.2.2.2.2.2.2.2.2.2.2.2.2.2⟩ (fun hHeld => ?_)
 clear hK K
 refine norm_ (a' := ?_) ?_ ?_
 rotate_left
 ·show Act.put _ (some 42) _ = _
  simp only [Act.put, sA, sB, sC, i64_w, i32_w]; rfl
 refine pure_ (i := 15) (N := some 43) (v := ?_) (a' := ?_) #[true, true, true, true, true, true, true, true, true, true, true, true, true, true, true, true, false] rfl rfl (by kernel_rfl) (fun _ _ _ h => h) (Or.inl ⟨by rfl, ?_⟩) ?_ ?_
 rotate_left
 ·intro w'; go_simp; with_reducible rfl
 rotate_left
 ·simp only [Act.put, sA, sB, sC, i64_w, i32_w]; rfl
 refine pure_ (i := 16) (N := some 8) (v := ?_) (a' := ?_) #[true, true, true, true, true, true, true, true, true, true, true, true, true, true, true, true, true] rfl rfl (by kernel_rfl) (fun _ _ _ h => h) (Or.inl ⟨by rfl, ?_⟩) ?_ ?_
 rotate_left
 ·intro w'; go_simp; with_reducible rfl
 rotate_left
 ·simp only [Act.put, sA, sB, sC, i64_w, i32_w]; rfl
 refine done_ (by kernel_rfl) ?_
 go_wp2
 go_ret
 exact ⟨rfl, hb_then HB3.out (HB7.out)⟩
end Go.Proofs.Ytaembebbaejfiaa.Tr
namespace Go.Proofs.Ytaembebbaejfiaa.Tr
open Go.RowKit Go.Proofs.YtaembebbaejfiaaW.PrintWords Go.Proofs.YtaembebbaejfiaaW.PrintLast Go.Proofs.Ytaembebbaejfiaa.Str Go.Proofs.Ytaembebbaejfiaa.Kit Go.Proofs.Ytaembebbaejfiaa.MapV Go.Proofs.Ytaembebbaejfiaa.Frame Go.Proofs.Ytaembebbaejfiaa.PS
open Go.Proofs.Ytaembebbaejfiaa.Index (cutB)
set_option linter.unusedVariables false
set_option linter.unusedSimpArgs false
def mapsOf (ks : List BA) (vs : List VS) : VS := ⟨5, 0, ⟨#[]⟩, (fitW ks vs [] []).1, (fitW ks vs [] []).2⟩
theorem said_at {fn : Func} {p q : Tmp} (hr : fn.results = #[.cell p 25, .tmp q]) {tmps : Array Value} {W : World} {b n3 c3 n4 c4 : Nat} {k n : Int} {t : BA} {A3 A4 : Option Addr} {v : Value} (hp : tmps.getD p undef = .pointer (some ⟨b, 0, none⟩)) (h3 : tmps.getD q undef = v) (hb : W.heap[b]? = some (.cells #[.int .i64 k, .int .i64 n, .string t, .slice A3 n3 c3, .slice A4 n4 c4] 25 (0, 0))) :
  (results fn tmps).run Try.prog W = .ok (.tuple #[.agg #[.int .i64 k, .int .i64 n, .string t, .slice A3 n3 c3, .slice A4 n4 c4], v]) W := by
 have := results_ct (P := Try.prog) hr tmps W b 25 _ (0, 0) _ hp hb Try.underlying25 rfl val_size
 rw [h3] at this
 exact this
def KindOk (k : Int) : Prop := k = 5 ∨ k = 4
def MapSaid (x : VS) (ks : List BA) (vs : List VS) (z : VS) (b : Bool) : Prop := b = true → KindOk x.f0 ∧ (∀ v, v ∈ vs → v.f0 = 3) ∧ z = mapsOf ks vs
def MapPost (x : VS) (ks : List BA) (vs : List VS) (w : World) (e : Ending) (w' : World) : Prop := ∃ (z : VS) (b : Bool) (B3 : Option Addr) (d3 : Nat) (B4 : Option Addr) (d4 : Nat), e = .returned (.tuple #[.agg #[.int .i64 z.f0, .int .i64 z.f1, .string z.f2, .slice B3 z.f3.length d3, .slice B4 z.f4.length d4], .bool b]) ∧ MapSaid x ks vs z b ∧ Reads w' z B3 d3 B4 d4 ∧ Below w.heap.size w w'
theorem ev_has (K : List BA) (V : List VS) (key : BA) (hl : K.length = V.length) (hn : V.length ≤ 1759218604400) : ∃ b, Ev (fun k => spec_Has.f k 5 0 ⟨#[]⟩ K V key) b := by
 have hx : InStep (⟨5, 0, ⟨#[]⟩, K, V⟩ : VS) := ⟨Nat.le_of_eq hl, by show K.length < _; omega⟩
 exact ⟨_, ev_Has (⟨5, 0, ⟨#[]⟩, K, V⟩ : VS) key hx⟩
theorem split_held (w : World) (s : BA) (A5 A6 : Option Addr) (c5 c6 : Nat) (l5 : (splitV s).f3.length ≤ c5) (l6 : (splitV s).f4.length ≤ c6) : kS.K w (splitV s) [.int .i64 (splitV s).f0, .int .i64 (splitV s).f1, .string (splitV s).f2, .slice A5 (splitV s).f3.length c5, .slice A6 (splitV s).f4.length c6] := by
 have e3 : (splitV s).f3 = [] := by unfold splitV; split <;> rfl
 have e4 : (splitV s).f4 = [] := by unfold splitV; split <;> rfl
 refine k25_mk w (splitV s) l5 ?_ l6 ?_
 ·rw [e3]; exact nilC _ _ _
 ·rw [e4]; exact nilC _ _ _
theorem kS_row {w : World} {A : Option Addr} {xs : List VS} {bk off : Nat} {i : Nat} (hi : i < xs.length) {A3 A4 : Option Addr} {c3 c4 : Nat} (l3 : xs[i].f3.length ≤ c3) (h3 : Kd.string.C w A3 xs[i].f3.length xs[i].f3) (l4 : xs[i].f4.length ≤ c4) (h4 : kS.C w A4 xs[i].f4.length xs[i].f4) : kS.K w xs[i] [.int .i64 xs[i].f0, .int .i64 xs[i].f1, .string xs[i].f2, .slice A3 xs[i].f3.length c3, .slice A4 xs[i].f4.length c4] := k25_mk w xs[i] l3 h3 l4 h4
set_option maxHeartbeats 12800000 in
set_option maxRecDepth 100000 in
theorem partMapping_map (x : VS) (h5 : x.f0 = 5) (hl5 : x.f3.length = x.f4.length) (hs : SmallS x) (hx : InStep x) (A3 A4 : Option Addr) (c3 c4 : Nat) (w : World) (h : Reads w x A3 c3 A4 c4) :
  Calls Try.prog 20 #[.agg #[.int .i64 x.f0, .int .i64 x.f1, .string x.f2, .slice A3 x.f3.length c3, .slice A4 x.f4.length c4]] w (MapPost x x.f3 x.f4 w) := by
 obtain ⟨x0, x1, x2, x3, xs⟩ := x
 have e5 : x0 = 5 := h5
 have HL5 := aM (show x3.length = xs.length from hl5)
 clear hl5
 subst e5
 have hn : xs.length ≤ 1759218604400 := hs.vals
 obtain ⟨bP, hbP, hbF⟩ := ends_sayPairs _ hs hx (fun _ => HL5.out)
 obtain ⟨kP, hkP⟩ := hbP.rounds
 obtain ⟨KF, VF, hF⟩ : ∃ KF VF, fitW x3 xs [] [] = (KF, VF) := ⟨_, _, rfl⟩
 have hb1 := below_alloc (below_alloc (Below.refl w.heap.size w) (.cells #[.int .i64 5, .int .i64 x1, .string x2, .slice A3 x3.length c3, .slice A4 xs.length c4] 25)) (.cells zC 25)
 have HB := aM hb1
 have hxb : ((w.alloc (.cells #[.int .i64 5, .int .i64 x1, .string x2, .slice A3 x3.length c3, .slice A4 xs.length c4] 25)).alloc (.cells zC 25)).heap[w.heap.size]? = some (.cells #[.int .i64 5, .int .i64 x1, .string x2, .slice A3 x3.length c3, .slice A4 xs.length c4] 25 (0, 0)) := blk_alloc (cb_new _ _) _
 have hrb := cb_new (w.alloc (.cells #[.int .i64 5, .int .i64 x1, .string x2, .slice A3 x3.length c3, .slice A4 xs.length c4] 25)) (.cells zC 25)
 rw [World.size_alloc] at hrb
 have HX0 := aM hxb
 have HR0 := aM hrb
 have HRD := aM h
 have HF := aM hF
 have HSM := aM hs
 have HBF := aM (show bP = true → KindOk 5 from hbF)
 have HKP := aM hkP
 have CE := aM (empty_gives ((w.alloc (.cells #[.int .i64 5, .int .i64 x1, .string x2, .slice A3 x3.length c3, .slice A4 xs.length c4] 25)).alloc (.cells zC 25)))
 clear h hxb hrb hF hs hx h5 hb1 hbP hbF hkP
 go_enter Try.func20, Try.ntmps20
 go_wp2_with fail
 refine CE.out.mono ?_
 rintro e w1 ⟨rfl, hb⟩
 have hbn := below_alloc (Below.refl w1.heap.size w1) (.cells #[.int .i64 5, .int .i64 0, .string ⟨#[]⟩, .slice none 0 0, .slice none 0 0] 25)
 have hlt0 := cb_lt HR0.out
 rw [World.size_alloc, World.size_alloc] at hlt0
 have hsz1 := hb.size
 rw [World.size_alloc, World.size_alloc] at hsz1
 have HB2 := aM (hb_then (hb_then HB.out hb) hbn)
 have HX2 := aM (blk_alloc ((hb.block _ (cb_lt HX0.out)).trans HX0.out) (.cells #[.int .i64 5, .int .i64 0, .string ⟨#[]⟩, .slice none 0 0, .slice none 0 0] 25))
 have HR2 := aM (blk_alloc ((hb.block _ (cb_lt HR0.out)).trans HR0.out) (.cells #[.int .i64 5, .int .i64 0, .string ⟨#[]⟩, .slice none 0 0, .slice none 0 0] 25))
 have HG2 := aM (cb_new w1 (.cells #[.int .i64 5, .int .i64 0, .string ⟨#[]⟩, .slice none 0 0, .slice none 0 0] 25))
 clear hb hbn CE HB HX0 HR0
 go_wp2
 generalize hW2 : w1.alloc _ = W2 at HB2 HX2 HR2 HG2 ⊢
 generalize hb4 : w1.heap.size = b4 at HG2 hsz1 ⊢
 clear hW2 hb4
 go_loopw [5] (fun v wr => ∃ (i : Nat) (Ks : List BA) (Vs : List VS) (A7 A8 : Option Addr) (c7 c8 : Nat), v = .int .i64 i ∧ i ≤ xs.length ∧ Ks.length = Vs.length ∧ Vs.length ≤ i ∧ Aside0 (fitW (x3.drop i) (xs.drop i) Ks Vs = (KF, VF)) ∧ Aside0 (∀ (j : Nat) (hj : j < xs.length), j < i → xs[j].f0 = 3)
  ∧ Aside0 (wr.heap[b4]? = some (.cells #[.int .i64 5, .int .i64 0, .string ⟨#[]⟩, .slice A7 Ks.length c7, .slice A8 Vs.length c8] 25 (0, 0)))
  ∧ Aside0 (wr.heap[w.heap.size]? = some (.cells #[.int .i64 5, .int .i64 x1, .string x2, .slice A3 x3.length c3, .slice A4 xs.length c4] 25 (0, 0)))
  ∧ Aside0 (wr.heap[w.heap.size + 1]? = some (.cells zC 25 (0, 0))) ∧ Aside0 (Below w.heap.size w wr)
  ∧ Aside0 (Kd.string.R 9 wr b4 (fun k => b4 < k) (.slice A7 Ks.length c7) Ks)
  ∧ Aside0 ((kFix w).R 25 wr b4 (fun k => b4 < k) (.slice A8 Vs.length c8) Vs)) (fun v _ => xs.length - (intOf v).toNat)
 case atStart => exact ⟨0, [], [], none, none, 0, 0, rfl, Nat.zero_le _, rfl, Nat.le_refl _, HF, ⟨fun j _ h => absurd h (Nat.not_lt_zero _)⟩, HG2, HX2, HR2, HB2, ⟨Kd.R_nil _ _ _ _ _⟩, ⟨Kd.R_nil _ _ _ _ _⟩⟩
 case round =>
  clear HG2 HX2 HR2 HB2
  obtain ⟨i, Ks, Vs, A7, A8, c7, c8, rfl, hin, hKV, hVi, HFI, HT, HG, HX, HR, HB, HK, HV⟩ := hrel
  have HKV := aM hKV
  have hKi : Ks.length ≤ i := by omega
  clear hKV
  have q0 : (0 : Int) ≤ (i : Int) := by omega
  have hvn : Vs.length ≤ 1759218604400 := Nat.le_trans hVi (Nat.le_trans hin hn)
  have hlt4 := cb_lt HG.out
  have hltw := cb_lt HR.out
  have x4c : wr.cell? ⟨w.heap.size, 4, none⟩ = some (.slice A4 xs.length c4) := cb_cell (i := 4) HX.out rfl
  by_cases hlv : i < xs.length
  ·obtain ⟨vb, vo, rfl, hvb, hvc⟩ := kS_at (xs := xs) HRD.out.hv (by omega)
   obtain ⟨E3, f3, E4, f4, y0, y1, y2, y3, y4, m3, g3, m4, g4⟩ := hvc i hlv
   have HKE := aM (kS_row (A := none) (bk := 0) (off := 0) hlv m3 g3 m4 g4)
   have n0 := pw_cell_below HB.out y0
   have n1 := pw_cell_below HB.out y1
   have n2 := pw_cell_below HB.out y2
   have n3 := pw_cell_below HB.out y3
   have n4 := pw_cell_below HB.out y4
   clear hvc y0 y1 y2 y3 y4 m3 g3 m4 g4 hvb
   have q2 : (i : Int) < (xs.length : Int) := by omega
   have hd1 : decide ((i : Int) < (xs.length : Int)) = true := decide_eq_true q2
   have hlk : i < x3.length := by have := HL5.out; omega
   have q3 : (i : Int) < (x3.length : Int) := by omega
   obtain ⟨kb, ko, rfl, hkb, hkc⟩ := strs_open HRD.out.hk (by show 0 < x3.length; omega)
   have z0 := pw_cell_below HB.out (hkc i hlk)
   have z3 : wr.cell? ⟨w.heap.size, 3, none⟩ = some (.slice (some ⟨kb, ko, none⟩) x3.length c3) := cb_cell (i := 3) HX.out rfl
   clear hkc hkb
   obtain ⟨u, hu⟩ : ∃ u, xs[i] = u := ⟨_, rfl⟩
   rw [hu] at HKE n0 n1 n2 n3 n4
   have HU := aM hu
   obtain ⟨u0, u1, u2, u3, u4⟩ := u
   clear hu
   go_wp2_with fail
   refine start_ (n := 8) (S := fun w' => w'.cell? ⟨w.heap.size, 4, none⟩ = some (.slice (some ⟨vb, vo, none⟩) xs.length c4) ∧ w'.cell? ⟨vb, vo + i * 5, none⟩ = some (.int .i64 u0) ∧ w'.cell? ⟨vb, vo + i * 5 + 1, none⟩ = some (.int .i64 u1) ∧ w'.cell? ⟨vb, vo + i * 5 + 2, none⟩ = some (.string u2) ∧ w'.cell? ⟨vb, vo + i * 5 + 3, none⟩ = some (.slice E3 u3.length f3) ∧ w'.cell? ⟨vb, vo + i * 5 + 4, none⟩ = some (.slice E4 u4.length f4)) (ds := [7]) #[false, false, false, false, false, false, false, false] (by kernel_rfl) rfl rfl ⟨x4c, n0, n1, n2, n3, n4⟩ (fun hHeld => ?_)
   refine pure_ (i := 0) (N := some 16) (v := ?_) (a' := ?_) #[true, false, false, false, false, false, false, false] rfl rfl (by kernel_rfl) (fun _ _ _ h => h) (Or.inl ⟨by rfl, ?_⟩) ?_ ?_
   rotate_left
   ·intro w'; go_simp; with_reducible rfl
   rotate_left
   ·simp only [Act.put, sA, sB, sC, i64_w, i32_w]; rfl
   refine pure_ (i := 2) (N := some 18) (v := ?_) (a' := ?_) #[true, false, true, false, false, false, false, false] rfl rfl (by kernel_rfl) (fun _ _ _ h => h) (Or.inl ⟨by rfl, ?_⟩) ?_ ?_
   rotate_left
   ·intro w'; go_simp; with_reducible rfl
   rotate_left
   ·simp only [Act.put, sA, sB, sC, i64_w, i32_w]; rfl
   refine take_ (i := 1) (N := some 17) (v := ?_) (a' := ?_) #[true, true, true, false, false, false, false, false] rfl rfl (by kernel_rfl) (fun _ _ _ h => h) (Or.inl ⟨by rfl, ?_⟩) hHeld ?_ ?_
   rotate_left
   ·rintro w' ⟨s0, s1, s2, s3, s4, s5⟩
    go_simp; with_reducible rfl
   rotate_left
   ·simp only [Act.put, sA, sB, sC, i64_w, i32_w]; rfl
   refine pure_ (i := 3) (N := some 19) (v := ?_) (a' := ?_) #[true, true, true, true, false, false, false, false] rfl rfl (by kernel_rfl) (fun _ _ _ h => h) (Or.inl ⟨by rfl, ?_⟩) ?_ ?_
   rotate_left
   ·intro w'; go_simp; with_reducible rfl
   rotate_left
   ·simp only [Act.put, sA, sB, sC, i64_w, i32_w]; rfl
   refine take_ (i := 4) (N := some 20) (v := ?_) (a' := ?_) #[true, true, true, true, true, false, false, false] rfl rfl (by kernel_rfl) (fun _ _ _ h => h) (Or.inl ⟨by rfl, ?_⟩) hHeld ?_ ?_
   rotate_left
   ·rintro w' ⟨s0, s1, s2, s3, s4, s5⟩
    go_simp; with_reducible rfl
   rotate_left
   ·simp only [Act.put, sA, sB, sC, i64_w, i32_w]; rfl
   refine one_ (i := 5) (N := some 7) #[true, true, true, true, true, true, false, false] rfl rfl (by kernel_rfl) (by decide) (fun K hK => ?_)
   refine value_ (w1 := ?_) (v := ?_) (by rfl) rfl ?_ ?_
   rotate_left 2
   ·go_simp; constructor
    ·rfl
    ·rfl
   refine hK.out _ _ ⟨pw_cell_below (below_alloc (Below.refl _ _) _) hHeld.1, pw_cell_below (below_alloc (Below.refl _ _) _) hHeld.2.1, pw_cell_below (below_alloc (Below.refl _ _) _) hHeld.2.2.1, pw_cell_below (below_alloc (Below.refl _ _) _) hHeld.2.2.2.1, pw_cell_below (below_alloc (Below.refl _ _) _) hHeld.2.2.2.2.1, pw_cell_below (below_alloc (Below.refl _ _) _) hHeld.2.2.2.2.2⟩ (fun hHeld => ?_)
   clear hK K
   refine norm_ (a' := ?_) ?_ ?_
   rotate_left
   ·show Act.put _ (some 7) _ = _
    simp only [Act.put, sA, sB, sC, i64_w, i32_w]; rfl
   refine pure_ (i := 6) (N := some 6) (v := ?_) (a' := ?_) #[true, true, true, true, true, true, true, false] rfl rfl (by kernel_rfl) (fun _ _ _ h => h) (Or.inl ⟨by rfl, ?_⟩) ?_ ?_
   rotate_left
   ·intro w'; go_simp; with_reducible rfl
   rotate_left
   ·simp only [Act.put, sA, sB, sC, i64_w, i32_w]; rfl
   refine last_ (i := 7) (N := none) #[true, true, true, true, true, true, true, true] rfl rfl (by kernel_rfl) (by decide) (fun K hK => ?_)
   refine store_row_step rfl rfl 25 (.tmp 7) (.tmp 20) rfl wr.heap.size #[.int .i64 u0, .int .i64 u1, .string u2, .slice E3 u3.length f3, .slice E4 u4.length f4] rfl rfl 25 _ (cb_new wr.drew (.cells #[.int .i64 0, .int .i64 0, .string ⟨#[]⟩, .slice none 0 0, .slice none 0 0] 25)) val_size rfl (val_one _ _ _ _ _ _ _ _ _) ?_
   refine hK.out _ _ ?_
   clear hK K
   refine done_ (by kernel_rfl) ?_
   have hb5 := below_drew (below_alloc (Below.refl wr.heap.size wr) (.cells zC 25))
   have hg5 := grown_setRow ((wr.alloc (.cells zC 25)).drew) wr.heap.size #[.int .i64 u0, .int .i64 u1, .string u2, .slice E3 u3.length f3, .slice E4 u4.length f4]
   have hBl : Below wr.heap.size wr (((wr.alloc (.cells zC 25)).drew).setRow wr.heap.size #[.int .i64 u0, .int .i64 u1, .string u2, .slice E3 u3.length f3, .slice E4 u4.length f4]) := pw_below_grown hb5 (some wr.heap.size) hb5.size hg5 (fun k hk => by injection hk with hk; omega)
   have HE5 := aM (setRow_heap ((wr.alloc (.cells zC 25)).drew) wr.heap.size _ #[.int .i64 u0, .int .i64 u1, .string u2, .slice E3 u3.length f3, .slice E4 u4.length f4] _ _ (show ((wr.alloc (.cells zC 25)).drew).heap[wr.heap.size]? = _ from cb_new wr (.cells zC 25)))
   have HG5 := aM ((hBl.block _ (cb_lt HG.out)).trans HG.out)
   have HR5 := aM ((hBl.block _ (cb_lt HR.out)).trans HR.out)
   have HX5 := aM ((hBl.block _ (cb_lt HX.out)).trans HX.out)
   have HB5 := aM (hb_then HB.out hBl)
   have HK5 := aM (Kd.R_below (Kd.R_mono (ok' := fun k => b4 < k ∧ k < wr.heap.size) (Kd.R_bound HK.out) (fun k hk => ⟨hk.1, hk.2.2.1⟩)) hBl)
   have HV5 := aM (Kd.R_below (Kd.R_mono (ok' := fun k => b4 < k ∧ k < wr.heap.size) (Kd.R_bound HV.out) (fun k hk => ⟨hk.1, hk.2.2.1⟩)) hBl)
   have HBL := aM hBl
   have z5 := pw_cell_below hBl z0
   clear z0 z3 hb5 hg5 hBl hHeld n0 n1 n2 n3 n4 x4c hlt4 hltw
   generalize ((wr.alloc (.cells zC 25)).drew).setRow wr.heap.size #[.int .i64 u0, .int .i64 u1, .string u2, .slice E3 u3.length f3, .slice E4 u4.length f4] = w5 at HE5 HG5 HR5 HX5 HB5 HK5 HV5 HBL z5 ⊢
   generalize hb7 : wr.heap.size = b7 at HE5 HK5 HV5 ⊢
   have hk7 : b4 < b7 := by have := cb_lt HG.out; omega
   have hw7 : w.heap.size + 1 < b7 := by have := cb_lt HR.out; omega
   clear HG HX HR HB HK HV
   have x0d : w5.cell? ⟨w.heap.size, 0, none⟩ = some (.int .i64 5) := cb_cell (i := 0) HX5.out rfl
   have x3d : w5.cell? ⟨w.heap.size, 3, none⟩ = some (.slice (some ⟨kb, ko, none⟩) x3.length c3) := cb_cell (i := 3) HX5.out rfl
   obtain ⟨key, hkey⟩ : ∃ key, x3[i] = key := ⟨_, rfl⟩
   rw [hkey] at z5
   have HKI := aM (show ∃ (h : i < x3.length), x3[i] = key from ⟨hlk, hkey⟩)
   have HVI := aM (show ∃ (h : i < xs.length), xs[i] = ⟨u0, u1, u2, u3, u4⟩ from ⟨hlv, HU.out⟩)
   have HKU := HKE
   obtain ⟨w6, hw6⟩ : ∃ w6, w5 = w6 := ⟨_, rfl⟩
   subst hw6
   have HE6 := HE5
   have HG6 := HG5
   have HR6 := HR5
   have HX6 := HX5
   have HB6 := HB5
   have HK6 := HK5
   have HV6 := HV5
   clear HE5 HG5 HR5 HX5 HB5 HK5 HV5 hkey
   obtain ⟨bH, hbH⟩ := ev_has Ks Vs key HKV.out hvn
   obtain ⟨kH, hkH⟩ := hbH.rounds
   obtain ⟨_, l7, r7⟩ := Kd.R_reads' HK6.out
   obtain ⟨_, l8, r8⟩ := Kd.R_reads' HV6.out
   have CHs := aM (spec_Has.calls kH 5 0 ⟨#[]⟩ A7 c7 Ks A8 c8 Vs key bH w5 r7 l7 (ReadsRow.imp_ r8 (Below.refl _ _) (fun _ _ hp => kS.K_below HB6.out hp)) l8 hkH)
   have HKT := aM hKi
   clear hbH hkH l7 r7 l8 r8 hKi hVi hin q2
   go_wp2_with (refine load_val (.tmp 4) rfl rfl rfl HG6.out ?_)
   clear x0d x3d z5
   refine CHs.out.mono ?_
   rintro e w9 ⟨rfl, hb⟩
   have HE9 := aM ((hb.block _ (cb_lt HE6.out)).trans HE6.out)
   have HG9 := aM ((hb.block _ (cb_lt HG6.out)).trans HG6.out)
   have HR9 := aM ((hb.block _ (cb_lt HR6.out)).trans HR6.out)
   have HX9 := aM ((hb.block _ (cb_lt HX6.out)).trans HX6.out)
   have HB9 := aM (hb_then HB6.out hb)
   have HK9 := aM (Kd.R_below HK6.out hb)
   have HV9 := aM (Kd.R_below HV6.out hb)
   clear HE6 HG6 HR6 HX6 HB6 HK6 HV6 CHs hb
   have e0 : w9.cell? ⟨b7, 0, none⟩ = some (.int .i64 u0) := cb_cell (i := 0) HE9.out rfl
   cases bH
   rotate_left
   ·go_wp2_with (refine store_val (.tmp 2) (.tmp 43) rfl rfl rfl rfl HR9.out ?_)
    have hg := grown_setRow w9 (w.heap.size + 1) zC
    have hB := pw_below_grown HB9.out (some (w.heap.size + 1)) HB9.out.size hg (fun k hk => by injection hk with hk; omega)
    have hX := setRow_heap w9 (w.heap.size + 1) _ zC _ _ HR9.out
    exact bodyPost_ret (v := .tuple #[.agg zC, .bool false]) (said_at rfl rfl rfl hX) rfl ⟨leaf 0 0 ⟨#[]⟩, false, none, 0, none, 0, rfl, (fun h => by cases h), ⟨Nat.zero_le _, nilC _ _ _, Nat.zero_le _, nilC _ _ _⟩, hB⟩
   by_cases h3 : u0 = 3
   rotate_left
   ·have t3 : ((u0 : Int) != 3) = true := by simpa using h3
    have t4 : ((u0 : Int) == 3) = false := by simpa using h3
    clear h3
    go_wp2_with (refine store_val (.tmp 2) (.tmp 43) rfl rfl rfl rfl HR9.out ?_)
    have hg := grown_setRow w9 (w.heap.size + 1) zC
    have hB := pw_below_grown HB9.out (some (w.heap.size + 1)) HB9.out.size hg (fun k hk => by injection hk with hk; omega)
    have hX := setRow_heap w9 (w.heap.size + 1) _ zC _ _ HR9.out
    exact bodyPost_ret (v := .tuple #[.agg zC, .bool false]) (said_at rfl rfl rfl hX) rfl ⟨leaf 0 0 ⟨#[]⟩, false, none, 0, none, 0, rfl, (fun h => by cases h), ⟨Nat.zero_le _, nilC _ _ _, Nat.zero_le _, nilC _ _ _⟩, hB⟩
   subst h3
   obtain ⟨K2, hK2⟩ : ∃ K2, withK Ks key = K2 := ⟨_, rfl⟩
   obtain ⟨V2, hV2⟩ : ∃ V2, withV Ks Vs key (⟨3, u1, u2, u3, u4⟩ : VS) = V2 := ⟨_, rfl⟩
   have hl1 := withV_length (key := key) (x := (⟨3, u1, u2, u3, u4⟩ : VS)) HKV.out
   have hl2 := withK_length (ks := Ks) (key := key)
   rw [hK2] at hl1 hl2
   rw [hV2] at hl1
   have HL := aM (And.intro hl1 hl2)
   have HN := aM (show fitW (x3.drop (i + 1)) (xs.drop (i + 1)) K2 V2 = (KF, VF) by
    have := HFI.out
    obtain ⟨hk1, hk2⟩ := HKI.out
    obtain ⟨hv1, hv2⟩ := HVI.out
    rw [List.drop_eq_getElem_cons hk1, List.drop_eq_getElem_cons hv1, hk2, hv2, fitW, hK2, hV2] at this
    exact this)
   have HTN := aM (show ∀ (j : Nat) (hj : j < xs.length), j < i + 1 → xs[j].f0 = 3 from fun j hj hji => by
    by_cases e : j = i
    ·subst e
     obtain ⟨hv1, hv2⟩ := HVI.out
     rw [hv2]
    ·exact HT.out j hj (by omega))
   obtain ⟨_, l7, r7⟩ := Kd.R_reads' HK9.out
   obtain ⟨_, l8, r8⟩ := Kd.R_reads' HV9.out
   have CW := aM (WithP (fun x cs => kS.K w x cs) (fun hp => kS.K_len hp) (fun hp => kS.K_one hp) (A3 := A7) (A4 := A8) (c3 := c7) (c4 := c8) (A5 := E3) (A6 := E4) (c5 := f3) (c6 := f4) 5 0 ⟨#[]⟩ Ks Vs key (⟨3, u1, u2, u3, u4⟩ : VS) w9 r7 r8 HKU.out HKV.out hvn K2 V2 hK2 hV2)
   clear hl1 hl2 hK2 hV2 l7 r7 l8 r8
   go_wp2_with (first | refine load_val (.tmp 4) rfl rfl rfl HG9.out ?_ | refine load_val (.tmp 7) rfl rfl rfl HE9.out ?_)
   refine CW.out.mono ?_
   rintro e w10 ⟨B7, d7, B8, d8, rfl, k1, k2, hb⟩
   have hG10 := (hb.block _ (cb_lt HG9.out)).trans HG9.out
   have hR10 := (hb.block _ (cb_lt HR9.out)).trans HR9.out
   have hX10 := (hb.block _ (cb_lt HX9.out)).trans HX9.out
   have hB10 := hb_then HB9.out hb
   have hlw := cb_lt HG9.out
   have hg := grown_setRow w10 b4 #[.int .i64 5, .int .i64 0, .string ⟨#[]⟩, .slice B7 K2.length d7, .slice B8 V2.length d8]
   have HG5 := aM (setRow_heap w10 b4 _ #[.int .i64 5, .int .i64 0, .string ⟨#[]⟩, .slice B7 K2.length d7, .slice B8 V2.length d8] _ _ hG10)
   have HR5 := aM ((setRow_other w10 b4 (w.heap.size + 1) #[.int .i64 5, .int .i64 0, .string ⟨#[]⟩, .slice B7 K2.length d7, .slice B8 V2.length d8] (by omega)).trans hR10)
   have HX5 := aM ((setRow_other w10 b4 w.heap.size #[.int .i64 5, .int .i64 0, .string ⟨#[]⟩, .slice B7 K2.length d7, .slice B8 V2.length d8] (by omega)).trans hX10)
   have HB5 := aM (pw_below_grown hB10 (some b4) hB10.size hg (fun k hk => by injection hk with hk; omega))
   have HK5 := aM (Kd.R_grown (Kd.R_lower (Kd.R_mono (Kd.R_bound k1) (ok' := fun k => b4 < k) (fun k h => Nat.lt_of_lt_of_le hlw h.2.1)) (Nat.le_of_lt hlw)) hg (fun k hk e => by injection e with e; omega))
   have HV5 := aM (Kd.R_grown (Kd.R_lower (Kd.R_mono (Kd.R_bound k2) (ok' := fun k => b4 < k) (fun k h => Nat.lt_of_lt_of_le hlw h.2.1)) (Nat.le_of_lt hlw)) hg (fun k hk e => by injection e with e; omega))
   have HLV := aM hlv
   have HL3 := aM (show V2.length ≤ i + 1 by have := HL.out.1; have := HL.out.2; have := HKT.out; omega)
   have q5 : wrap64 ((i : Int) + 1) = ((i + 1 : Nat) : Int) := wrapS i (by omega)
   clear HU hg k1 k2 hb hR10 hX10 hB10 hlw e0 HG9 HR9 HX9 HB9 HK9 HV9 HE9 hlv hd1 hvn
   go_wp2_with (refine store_val (.tmp 4) (.tmp 47) rfl rfl rfl rfl hG10 ?_; generalize w10.setRow b4 #[.int .i64 5, .int .i64 0, .string ⟨#[]⟩, .slice B7 K2.length d7, .slice B8 V2.length d8] = w11 at HG5 HR5 HX5 HB5 HK5 HV5 ⊢; clear hG10)
   go_roundw
   case rel => exact ⟨i + 1, K2, V2, B7, B8, d7, d8, congrArg (Value.int .i64) q5, HLV.out, HL.out.1.symm, HL3.out, HN, HTN, HG5, HX5, HR5, HB5, HK5, HV5⟩
   case measure =>
    rw [q5]
    clear q5
    have := HLV.out
    simp [intOf]
    omega
  ·have hd1 : decide ((i : Int) < (xs.length : Int)) = false := decide_eq_false (by omega)
   have hie : i = xs.length := by omega
   have hF1 : (Ks, Vs) = (KF, VF) := by
    have := HFI.out
    rw [List.drop_eq_nil_of_le (show xs.length ≤ i by omega)] at this
    rw [fitW_nil] at this
    exact this
   obtain ⟨rfl, rfl⟩ := Prod.mk.inj hF1
   have HALL := aM (show ∀ v, v ∈ xs → v.f0 = 3 from fun v hv => by
    obtain ⟨j, hj, rfl⟩ := List.getElem_of_mem hv
    exact HT.out j hj (by omega))
   clear hF1 hie hVi hKi hin
   have r1 := HRD.out.below (below_drew HB.out)
   have CP := aM (spec_sayPairs.calls kP 5 x1 x2 A3 c3 x3 A4 c4 xs bP wr.drew r1.hk r1.l3 r1.hv r1.l4 HKP.out)
   have g0 : wr.cell? ⟨b4, 0, none⟩ = some (.int .i64 5) := cb_cell (i := 0) HG.out rfl
   have g1 : wr.cell? ⟨b4, 1, none⟩ = some (.int .i64 0) := cb_cell (i := 1) HG.out rfl
   have g2 : wr.cell? ⟨b4, 2, none⟩ = some (.string ⟨#[]⟩) := cb_cell (i := 2) HG.out rfl
   have g3 : wr.cell? ⟨b4, 3, none⟩ = some (.slice A7 Ks.length c7) := cb_cell (i := 3) HG.out rfl
   have g4 : wr.cell? ⟨b4, 4, none⟩ = some (.slice A8 Vs.length c8) := cb_cell (i := 4) HG.out rfl
   have s0 : wr.cell? ⟨w.heap.size, 0, none⟩ = some (.int .i64 5) := cb_cell (i := 0) HX.out rfl
   have s1 : wr.cell? ⟨w.heap.size, 1, none⟩ = some (.int .i64 x1) := cb_cell (i := 1) HX.out rfl
   have s2 : wr.cell? ⟨w.heap.size, 2, none⟩ = some (.string x2) := cb_cell (i := 2) HX.out rfl
   have s3 : wr.cell? ⟨w.heap.size, 3, none⟩ = some (.slice A3 x3.length c3) := cb_cell (i := 3) HX.out rfl
   clear r1
   go_wp2_with fail
   refine start_ (n := 5) (S := fun w' => w'.cell? ⟨b4, 0, none⟩ = some (.int .i64 5) ∧ w'.cell? ⟨b4, 1, none⟩ = some (.int .i64 0) ∧ w'.cell? ⟨b4, 2, none⟩ = some (.string ⟨#[]⟩) ∧ w'.cell? ⟨b4, 3, none⟩ = some (.slice A7 Ks.length c7) ∧ w'.cell? ⟨b4, 4, none⟩ = some (.slice A8 Vs.length c8) ∧ w'.cell? ⟨w.heap.size, 0, none⟩ = some (.int .i64 5) ∧ w'.cell? ⟨w.heap.size, 1, none⟩ = some (.int .i64 x1) ∧ w'.cell? ⟨w.heap.size, 2, none⟩ = some (.string x2) ∧ w'.cell? ⟨w.heap.size, 3, none⟩ = some (.slice A3 x3.length c3) ∧ w'.cell? ⟨w.heap.size, 4, none⟩ = some (.slice A4 xs.length c4)) (ds := [3]) #[false, false, false, false, false] (by kernel_rfl) rfl rfl ⟨g0, g1, g2, g3, g4, s0, s1, s2, s3, x4c⟩ (fun hHeld => ?_)
   refine take_ (i := 0) (N := some 48) (v := ?_) (a' := ?_) #[true, false, false, false, false] rfl rfl (by kernel_rfl) (fun _ _ _ h => h) (Or.inl ⟨by rfl, ?_⟩) hHeld ?_ ?_
   rotate_left
   ·rintro w' ⟨s0, s1, s2, s3, s4, s5, s6, s7, s8, s9⟩
    go_simp; with_reducible rfl
   rotate_left
   ·simp only [Act.put, sA, sB, sC, i64_w, i32_w]; rfl
   refine take_ (i := 1) (N := some 49) (v := ?_) (a' := ?_) #[true, true, false, false, false] rfl rfl (by kernel_rfl) (fun _ _ _ h => h) (Or.inl ⟨by rfl, ?_⟩) hHeld ?_ ?_
   rotate_left
   ·rintro w' ⟨s0, s1, s2, s3, s4, s5, s6, s7, s8, s9⟩
    go_simp; with_reducible rfl
   rotate_left
   ·simp only [Act.put, sA, sB, sC, i64_w, i32_w]; rfl
   refine one_ (i := 2) (N := some 50) #[true, true, true, false, false] rfl rfl (by kernel_rfl) (by decide) (fun K hK => ?_)
   refine goes_ Try.func36 (by kernel_rfl) rfl #[.agg #[.int .i64 5, .int .i64 x1, .string x2, .slice A3 x3.length c3, .slice A4 xs.length c4]] (by rfl) rfl rfl (by simp only [List.map_toArray, List.map_cons, List.map_nil]; rfl) ?_
   with_reducible refine (CP.out).mono ?_
   rintro e w6 ⟨rfl, hb⟩
   refine ⟨_, rfl, ?_⟩
   have HB6 := aM (hb_then (below_drew HB.out) hb)
   have HG6 := aM ((hb.block _ (cb_lt (show wr.drew.heap[b4]? = _ from HG.out))).trans HG.out)
   have HR6 := aM ((hb.block _ (cb_lt (show wr.drew.heap[w.heap.size + 1]? = _ from HR.out))).trans HR.out)
   have HK6 := aM (Kd.R_below HK.out (hb_then (below_drew (Below.refl wr.heap.size wr)) hb))
   have HV6 := aM (Kd.R_below HV.out (hb_then (below_drew (Below.refl wr.heap.size wr)) hb))
   refine hK.out _ _ ⟨pw_cell_below hb hHeld.1, pw_cell_below hb hHeld.2.1, pw_cell_below hb hHeld.2.2.1, pw_cell_below hb hHeld.2.2.2.1, pw_cell_below hb hHeld.2.2.2.2.1, pw_cell_below hb hHeld.2.2.2.2.2.1, pw_cell_below hb hHeld.2.2.2.2.2.2.1, pw_cell_below hb hHeld.2.2.2.2.2.2.2.1, pw_cell_below hb hHeld.2.2.2.2.2.2.2.2.1, pw_cell_below hb hHeld.2.2.2.2.2.2.2.2.2⟩ (fun hHeld => ?_)
   clear hK K
   refine norm_ (a' := ?_) ?_ ?_
   rotate_left
   ·show Act.put _ (some 50) _ = _
    simp only [Act.put, sA, sB, sC, i64_w, i32_w]; rfl
   refine last_ (i := 3) (N := none) #[true, true, true, true, false] rfl rfl (by kernel_rfl) (by decide) (fun K hK => ?_)
   refine store_row_step (w := w6) rfl rfl 25 (.tmp 2) (.tmp 48) rfl (w.heap.size + 1) #[.int .i64 5, .int .i64 0, .string ⟨#[]⟩, .slice A7 Ks.length c7, .slice A8 Vs.length c8] rfl rfl 25 _ HR6.out val_size rfl (val_one _ _ _ _ _ _ _ _ _) ?_
   refine hK.out _ _ ?_
   clear hK K
   refine pure_ (i := 4) (N := some 3) (v := ?_) (a' := ?_) #[true, true, true, true, true] rfl rfl (by kernel_rfl) (fun _ _ _ h => h) (Or.inl ⟨by rfl, ?_⟩) ?_ ?_
   rotate_left
   ·intro w'; go_simp; with_reducible rfl
   rotate_left
   ·simp only [Act.put, sA, sB, sC, i64_w, i32_w]; rfl
   refine done_ (by kernel_rfl) ?_
   have hg := grown_setRow w6 (w.heap.size + 1) #[.int .i64 5, .int .i64 0, .string ⟨#[]⟩, .slice A7 Ks.length c7, .slice A8 Vs.length c8]
   have hX := setRow_heap w6 (w.heap.size + 1) _ #[.int .i64 5, .int .i64 0, .string ⟨#[]⟩, .slice A7 Ks.length c7, .slice A8 Vs.length c8] _ _ HR6.out
   have hB := pw_below_grown HB6.out (some (w.heap.size + 1)) HB6.out.size hg (fun k hk => by injection hk with hk; omega)
   obtain ⟨_, _, _, _, e3, e4, hrd⟩ := fix_reads (x := ⟨5, 0, ⟨#[]⟩, Ks, Vs⟩) hB (Kd.R_grown HK6.out hg (fun k hk e => by injection e with e; omega)) (Kd.R_grown HV6.out hg (fun k hk e => by injection e with e; omega))
   injection e3 with e31 e32 e33
   injection e4 with e41 e42 e43
   subst e31 e33 e41 e43
   have HXX := aM (And.intro hX (And.intro hB hrd))
   have HFF := aM (show mapsOf x3 xs = ⟨5, 0, ⟨#[]⟩, Ks, Vs⟩ by unfold mapsOf; rw [HF.out])
   clear hg hX hB hrd
   go_wp2
   exact bodyPost_ret (v := .tuple #[.agg #[.int .i64 5, .int .i64 0, .string ⟨#[]⟩, .slice A7 Ks.length c7, .slice A8 Vs.length c8], .bool bP]) (said_at rfl rfl rfl HXX.out.1) rfl ⟨⟨5, 0, ⟨#[]⟩, Ks, Vs⟩, bP, A7, c7, A8, c8, rfl, (fun h => ⟨HBF.out h, HALL.out, HFF.out.symm⟩), HXX.out.2.2, HXX.out.2.1⟩
set_option maxHeartbeats 12800000 in
set_option maxRecDepth 100000 in
theorem partMapping_list (x : VS) (h5 : x.f0 ≠ 5) (hs : SmallS x) (hx : InStep x) (A3 A4 : Option Addr) (c3 c4 : Nat) (w : World) (h : Reads w x A3 c3 A4 c4) :
  Calls Try.prog 20 #[.agg #[.int .i64 x.f0, .int .i64 x.f1, .string x.f2, .slice A3 x.f3.length c3, .slice A4 x.f4.length c4]] w (MapPost x (x.f4.map fun v => (cutB 61 v.f2).1) (x.f4.map fun v => splitV v.f2) w) := by
 obtain ⟨x0, x1, x2, x3, xs⟩ := x
 have e5 : x0 ≠ 5 := h5
 obtain ⟨k0, hk0⟩ : ∃ k0, x0 = k0 := ⟨_, rfl⟩
 subst hk0
 have hn : xs.length ≤ 1759218604400 := hs.vals
 obtain ⟨bP, hbP, hbF⟩ := ends_sayPairs _ hs hx (fun e => absurd e h5)
 obtain ⟨kP, hkP⟩ := hbP.rounds
 obtain ⟨KF, VF, hF⟩ : ∃ KF VF, fitW (xs.map fun v => (cutB 61 v.f2).1) (xs.map fun v => splitV v.f2) [] [] = (KF, VF) := ⟨_, _, rfl⟩
 have b5 : ((x0 : Int) == 5) = false := by simpa using e5
 have b5' : (x0 != (5 : Int)) = true := by simpa using e5
 clear e5
 have hb1 := below_alloc (below_alloc (Below.refl w.heap.size w) (.cells #[.int .i64 x0, .int .i64 x1, .string x2, .slice A3 x3.length c3, .slice A4 xs.length c4] 25)) (.cells zC 25)
 have HB := aM hb1
 have hxb : ((w.alloc (.cells #[.int .i64 x0, .int .i64 x1, .string x2, .slice A3 x3.length c3, .slice A4 xs.length c4] 25)).alloc (.cells zC 25)).heap[w.heap.size]? = some (.cells #[.int .i64 x0, .int .i64 x1, .string x2, .slice A3 x3.length c3, .slice A4 xs.length c4] 25 (0, 0)) := blk_alloc (cb_new _ _) _
 have hrb := cb_new (w.alloc (.cells #[.int .i64 x0, .int .i64 x1, .string x2, .slice A3 x3.length c3, .slice A4 xs.length c4] 25)) (.cells zC 25)
 rw [World.size_alloc] at hrb
 have HX0 := aM hxb
 have HR0 := aM hrb
 have HRD := aM h
 have HF := aM hF
 have HSM := aM hs
 have HBF := aM (show bP = true → KindOk x0 from hbF)
 have HKP := aM hkP
 have CE := aM (empty_gives ((w.alloc (.cells #[.int .i64 x0, .int .i64 x1, .string x2, .slice A3 x3.length c3, .slice A4 xs.length c4] 25)).alloc (.cells zC 25)))
 clear h hxb hrb hF hs hx h5 hb1 hbP hbF hkP
 go_enter Try.func20, Try.ntmps20
 go_wp2_with fail
 refine CE.out.mono ?_
 rintro e w1 ⟨rfl, hb⟩
 have hbn := below_alloc (Below.refl w1.heap.size w1) (.cells #[.int .i64 5, .int .i64 0, .string ⟨#[]⟩, .slice none 0 0, .slice none 0 0] 25)
 have hlt0 := cb_lt HR0.out
 rw [World.size_alloc, World.size_alloc] at hlt0
 have hsz1 := hb.size
 rw [World.size_alloc, World.size_alloc] at hsz1
 have HB2 := aM (hb_then (hb_then HB.out hb) hbn)
 have HX2 := aM (blk_alloc ((hb.block _ (cb_lt HX0.out)).trans HX0.out) (.cells #[.int .i64 5, .int .i64 0, .string ⟨#[]⟩, .slice none 0 0, .slice none 0 0] 25))
 have HR2 := aM (blk_alloc ((hb.block _ (cb_lt HR0.out)).trans HR0.out) (.cells #[.int .i64 5, .int .i64 0, .string ⟨#[]⟩, .slice none 0 0, .slice none 0 0] 25))
 have HG2 := aM (cb_new w1 (.cells #[.int .i64 5, .int .i64 0, .string ⟨#[]⟩, .slice none 0 0, .slice none 0 0] 25))
 clear hb hbn CE HB HX0 HR0
 go_wp2
 generalize hW2 : w1.alloc _ = W2 at HB2 HX2 HR2 HG2 ⊢
 generalize hb4 : w1.heap.size = b4 at HG2 hsz1 ⊢
 clear hW2 hb4
 go_loopw [5] (fun v wr => ∃ (i : Nat) (Ks : List BA) (Vs : List VS) (A7 A8 : Option Addr) (c7 c8 : Nat), v = .int .i64 i ∧ i ≤ xs.length ∧ Ks.length = Vs.length ∧ Vs.length ≤ i ∧ Aside0 (fitW ((xs.map fun v => (cutB 61 v.f2).1).drop i) ((xs.map fun v => splitV v.f2).drop i) Ks Vs = (KF, VF)) ∧ Aside0 (∀ (j : Nat) (hj : j < (xs.map fun v => splitV v.f2).length), j < i → (xs.map fun v => splitV v.f2)[j].f0 = 3)
  ∧ Aside0 (wr.heap[b4]? = some (.cells #[.int .i64 5, .int .i64 0, .string ⟨#[]⟩, .slice A7 Ks.length c7, .slice A8 Vs.length c8] 25 (0, 0)))
  ∧ Aside0 (wr.heap[w.heap.size]? = some (.cells #[.int .i64 x0, .int .i64 x1, .string x2, .slice A3 x3.length c3, .slice A4 xs.length c4] 25 (0, 0)))
  ∧ Aside0 (wr.heap[w.heap.size + 1]? = some (.cells zC 25 (0, 0))) ∧ Aside0 (Below w.heap.size w wr)
  ∧ Aside0 (Kd.string.R 9 wr b4 (fun k => b4 < k) (.slice A7 Ks.length c7) Ks)
  ∧ Aside0 ((kFix w).R 25 wr b4 (fun k => b4 < k) (.slice A8 Vs.length c8) Vs)) (fun v _ => xs.length - (intOf v).toNat)
 case atStart => exact ⟨0, [], [], none, none, 0, 0, rfl, Nat.zero_le _, rfl, Nat.le_refl _, HF, ⟨fun j _ h => absurd h (Nat.not_lt_zero _)⟩, HG2, HX2, HR2, HB2, ⟨Kd.R_nil _ _ _ _ _⟩, ⟨Kd.R_nil _ _ _ _ _⟩⟩
 case round =>
  clear HG2 HX2 HR2 HB2
  obtain ⟨i, Ks, Vs, A7, A8, c7, c8, rfl, hin, hKV, hVi, HFI, HT, HG, HX, HR, HB, HK, HV⟩ := hrel
  have HKV := aM hKV
  have hKi : Ks.length ≤ i := by omega
  clear hKV
  have q0 : (0 : Int) ≤ (i : Int) := by omega
  have hvn : Vs.length ≤ 1759218604400 := Nat.le_trans hVi (Nat.le_trans hin hn)
  have hlt4 := cb_lt HG.out
  have hltw := cb_lt HR.out
  have x4c : wr.cell? ⟨w.heap.size, 4, none⟩ = some (.slice A4 xs.length c4) := cb_cell (i := 4) HX.out rfl
  by_cases hlv : i < xs.length
  ·obtain ⟨vb, vo, rfl, hvb, hvc⟩ := kS_at (xs := xs) HRD.out.hv (by omega)
   obtain ⟨E3, f3, E4, f4, y0, y1, y2, y3, y4, m3, g3, m4, g4⟩ := hvc i hlv
   have HKE := aM (kS_row (A := none) (bk := 0) (off := 0) hlv m3 g3 m4 g4)
   have n0 := pw_cell_below HB.out y0
   have n1 := pw_cell_below HB.out y1
   have n2 := pw_cell_below HB.out y2
   have n3 := pw_cell_below HB.out y3
   have n4 := pw_cell_below HB.out y4
   clear hvc y0 y1 y2 y3 y4 m3 g3 m4 g4 hvb
   have q2 : (i : Int) < (xs.length : Int) := by omega
   have hd1 : decide ((i : Int) < (xs.length : Int)) = true := decide_eq_true q2
   obtain ⟨u, hu⟩ : ∃ u, xs[i] = u := ⟨_, rfl⟩
   rw [hu] at HKE n0 n1 n2 n3 n4
   have HU := aM hu
   obtain ⟨u0, u1, u2, u3, u4⟩ := u
   clear hu
   go_wp2_with fail
   refine start_ (n := 8) (S := fun w' => w'.cell? ⟨w.heap.size, 4, none⟩ = some (.slice (some ⟨vb, vo, none⟩) xs.length c4) ∧ w'.cell? ⟨vb, vo + i * 5, none⟩ = some (.int .i64 u0) ∧ w'.cell? ⟨vb, vo + i * 5 + 1, none⟩ = some (.int .i64 u1) ∧ w'.cell? ⟨vb, vo + i * 5 + 2, none⟩ = some (.string u2) ∧ w'.cell? ⟨vb, vo + i * 5 + 3, none⟩ = some (.slice E3 u3.length f3) ∧ w'.cell? ⟨vb, vo + i * 5 + 4, none⟩ = some (.slice E4 u4.length f4)) (ds := [7]) #[false, false, false, false, false, false, false, false] (by kernel_rfl) rfl rfl ⟨x4c, n0, n1, n2, n3, n4⟩ (fun hHeld => ?_)
   refine pure_ (i := 0) (N := some 16) (v := ?_) (a' := ?_) #[true, false, false, false, false, false, false, false] rfl rfl (by kernel_rfl) (fun _ _ _ h => h) (Or.inl ⟨by rfl, ?_⟩) ?_ ?_
   rotate_left
   ·intro w'; go_simp; with_reducible rfl
   rotate_left
   ·simp only [Act.put, sA, sB, sC, i64_w, i32_w]; rfl
   refine pure_ (i := 2) (N := some 18) (v := ?_) (a' := ?_) #[true, false, true, false, false, false, false, false] rfl rfl (by kernel_rfl) (fun _ _ _ h => h) (Or.inl ⟨by rfl, ?_⟩) ?_ ?_
   rotate_left
   ·intro w'; go_simp; with_reducible rfl
   rotate_left
   ·simp only [Act.put, sA, sB, sC, i64_w, i32_w]; rfl
   refine take_ (i := 1) (N := some 17) (v := ?_) (a' := ?_) #[true, true, true, false, false, false, false, false] rfl rfl (by kernel_rfl) (fun _ _ _ h => h) (Or.inl ⟨by rfl, ?_⟩) hHeld ?_ ?_
   rotate_left
   ·rintro w' ⟨s0, s1, s2, s3, s4, s5⟩
    go_simp; with_reducible rfl
   rotate_left
   ·simp only [Act.put, sA, sB, sC, i64_w, i32_w]; rfl
   refine pure_ (i := 3) (N := some 19) (v := ?_) (a' := ?_) #[true, true, true, true, false, false, false, false] rfl rfl (by kernel_rfl) (fun _ _ _ h => h) (Or.inl ⟨by rfl, ?_⟩) ?_ ?_
   rotate_left
   ·intro w'; go_simp; with_reducible rfl
   rotate_left
   ·simp only [Act.put, sA, sB, sC, i64_w, i32_w]; rfl
   refine take_ (i := 4) (N := some 20) (v := ?_) (a' := ?_) #[true, true, true, true, true, false, false, false] rfl rfl (by kernel_rfl) (fun _ _ _ h => h) (Or.inl ⟨by rfl, ?_⟩) hHeld ?_ ?_
   rotate_left
   ·rintro w' ⟨s0, s1, s2, s3, s4, s5⟩
    go_simp; with_reducible rfl
   rotate_left
   ·simp only [Act.put, sA, sB, sC, i64_w, i32_w]; rfl
   refine one_ (i := 5) (N := some 7) #[true, true, true, true, true, true, false, false] rfl rfl (by kernel_rfl) (by decide) (fun K hK => ?_)
   refine value_ (w1 := ?_) (v := ?_) (by rfl) rfl ?_ ?_
   rotate_left 2
   ·go_simp; constructor
    ·rfl
    ·rfl
   refine hK.out _ _ ⟨pw_cell_below (below_alloc (Below.refl _ _) _) hHeld.1, pw_cell_below (below_alloc (Below.refl _ _) _) hHeld.2.1, pw_cell_below (below_alloc (Below.refl _ _) _) hHeld.2.2.1, pw_cell_below (below_alloc (Below.refl _ _) _) hHeld.2.2.2.1, pw_cell_below (below_alloc (Below.refl _ _) _) hHeld.2.2.2.2.1, pw_cell_below (below_alloc (Below.refl _ _) _) hHeld.2.2.2.2.2⟩ (fun hHeld => ?_)
   clear hK K
   refine norm_ (a' := ?_) ?_ ?_
   rotate_left
   ·show Act.put _ (some 7) _ = _
    simp only [Act.put, sA, sB, sC, i64_w, i32_w]; rfl
   refine pure_ (i := 6) (N := some 6) (v := ?_) (a' := ?_) #[true, true, true, true, true, true, true, false] rfl rfl (by kernel_rfl) (fun _ _ _ h => h) (Or.inl ⟨by rfl, ?_⟩) ?_ ?_
   rotate_left
   ·intro w'; go_simp; with_reducible rfl
   rotate_left
   ·simp only [Act.put, sA, sB, sC, i64_w, i32_w]; rfl
   refine last_ (i := 7) (N := none) #[true, true, true, true, true, true, true, true] rfl rfl (by kernel_rfl) (by decide) (fun K hK => ?_)
   refine store_row_step rfl rfl 25 (.tmp 7) (.tmp 20) rfl wr.heap.size #[.int .i64 u0, .int .i64 u1, .string u2, .slice E3 u3.length f3, .slice E4 u4.length f4] rfl rfl 25 _ (cb_new wr.drew (.cells #[.int .i64 0, .int .i64 0, .string ⟨#[]⟩, .slice none 0 0, .slice none 0 0] 25)) val_size rfl (val_one _ _ _ _ _ _ _ _ _) ?_
   refine hK.out _ _ ?_
   clear hK K
   refine done_ (by kernel_rfl) ?_
   have hb5 := below_drew (below_alloc (Below.refl wr.heap.size wr) (.cells zC 25))
   have hg5 := grown_setRow ((wr.alloc (.cells zC 25)).drew) wr.heap.size #[.int .i64 u0, .int .i64 u1, .string u2, .slice E3 u3.length f3, .slice E4 u4.length f4]
   have hBl : Below wr.heap.size wr (((wr.alloc (.cells zC 25)).drew).setRow wr.heap.size #[.int .i64 u0, .int .i64 u1, .string u2, .slice E3 u3.length f3, .slice E4 u4.length f4]) := pw_below_grown hb5 (some wr.heap.size) hb5.size hg5 (fun k hk => by injection hk with hk; omega)
   have HE5 := aM (setRow_heap ((wr.alloc (.cells zC 25)).drew) wr.heap.size _ #[.int .i64 u0, .int .i64 u1, .string u2, .slice E3 u3.length f3, .slice E4 u4.length f4] _ _ (show ((wr.alloc (.cells zC 25)).drew).heap[wr.heap.size]? = _ from cb_new wr (.cells zC 25)))
   have HG5 := aM ((hBl.block _ (cb_lt HG.out)).trans HG.out)
   have HR5 := aM ((hBl.block _ (cb_lt HR.out)).trans HR.out)
   have HX5 := aM ((hBl.block _ (cb_lt HX.out)).trans HX.out)
   have HB5 := aM (hb_then HB.out hBl)
   have HK5 := aM (Kd.R_below (Kd.R_mono (ok' := fun k => b4 < k ∧ k < wr.heap.size) (Kd.R_bound HK.out) (fun k hk => ⟨hk.1, hk.2.2.1⟩)) hBl)
   have HV5 := aM (Kd.R_below (Kd.R_mono (ok' := fun k => b4 < k ∧ k < wr.heap.size) (Kd.R_bound HV.out) (fun k hk => ⟨hk.1, hk.2.2.1⟩)) hBl)
   have HBL := aM hBl
   skip; clear hb5 hg5 hBl hHeld n0 n1 n2 n3 n4 x4c hlt4 hltw
   generalize ((wr.alloc (.cells zC 25)).drew).setRow wr.heap.size #[.int .i64 u0, .int .i64 u1, .string u2, .slice E3 u3.length f3, .slice E4 u4.length f4] = w5 at HE5 HG5 HR5 HX5 HB5 HK5 HV5 HBL  ⊢
   generalize hb7 : wr.heap.size = b7 at HE5 HK5 HV5 ⊢
   have hk7 : b4 < b7 := by have := cb_lt HG.out; omega
   have hw7 : w.heap.size + 1 < b7 := by have := cb_lt HR.out; omega
   clear HG HX HR HB HK HV
   have x0d : w5.cell? ⟨w.heap.size, 0, none⟩ = some (.int .i64 x0) := cb_cell (i := 0) HX5.out rfl
   have e2d : w5.cell? ⟨b7, 2, none⟩ = some (.string u2) := cb_cell (i := 2) HE5.out rfl
   have hut : u2.size ≤ 140737488355328 := by
    have h1 := HSM.out.at (v := xs[i]) (List.getElem_mem hlv)
    rw [HU.out] at h1
    cases h1
    assumption
   obtain ⟨kM, hkM⟩ := (ev_mergeSplit u2 hut).rounds
   have CM := aM (spec_mergeSplit.calls kM u2 _ _ _ _ _ _ w5 hkM)
   obtain ⟨key, hkey⟩ : ∃ key, (cutB 61 u2).1 = key := ⟨_, rfl⟩
   have HKI := aM (show ∃ (h : i < (xs.map fun v => (cutB 61 v.f2).1).length), (xs.map fun v => (cutB 61 v.f2).1)[i] = key from ⟨by rw [List.length_map]; exact hlv, by rw [List.getElem_map, HU.out]; exact hkey⟩)
   have hsp := split_held w u2
   have hvi : (xs.map fun v => splitV v.f2)[i]'(by rw [List.length_map]; exact hlv) = splitV u2 := by rw [List.getElem_map, HU.out]
   rw [hkey] at CM
   generalize splitV u2 = sv at CM hsp hvi
   obtain ⟨p0, p1, p2, p3, p4⟩ := sv
   have HVI := aM (show ∃ (h : i < (xs.map fun v => splitV v.f2).length), (xs.map fun v => splitV v.f2)[i] = ⟨p0, p1, p2, p3, p4⟩ from ⟨by rw [List.length_map]; exact hlv, hvi⟩)
   have HSP := aM hsp
   clear hut hkM hkey hsp hvi
   go_wp2_with fail
   refine CM.out.mono ?_
   rintro e w8 ⟨v4, v5, rfl, hr4, hr5, hb⟩
   obtain ⟨P5, q5, rfl, l5, g5⟩ := Kd.R_reads hr4
   obtain ⟨P6, q6, rfl, l6, g6⟩ := Kd.R_reads hr5
   have HKU := aM (HSP.out P5 P6 q5 q6 l5 l6)
   have hE8 := (hb.block _ (cb_lt HE5.out)).trans HE5.out
   have hG8 := (hb.block _ (cb_lt HG5.out)).trans HG5.out
   have hR8 := (hb.block _ (cb_lt HR5.out)).trans HR5.out
   have hX8 := (hb.block _ (cb_lt HX5.out)).trans HX5.out
   have hB8 := hb_then HB5.out hb
   have hg8 := grown_setRow w8 b7 #[.int .i64 p0, .int .i64 p1, .string p2, .slice P5 p3.length q5, .slice P6 p4.length q6]
   have HE6 := aM (setRow_heap w8 b7 _ #[.int .i64 p0, .int .i64 p1, .string p2, .slice P5 p3.length q5, .slice P6 p4.length q6] _ _ hE8)
   have HG6 := aM ((setRow_other w8 b7 b4 #[.int .i64 p0, .int .i64 p1, .string p2, .slice P5 p3.length q5, .slice P6 p4.length q6] (by omega)).trans hG8)
   have HR6 := aM ((setRow_other w8 b7 (w.heap.size + 1) #[.int .i64 p0, .int .i64 p1, .string p2, .slice P5 p3.length q5, .slice P6 p4.length q6] (by omega)).trans hR8)
   have HX6 := aM ((setRow_other w8 b7 w.heap.size #[.int .i64 p0, .int .i64 p1, .string p2, .slice P5 p3.length q5, .slice P6 p4.length q6] (by omega)).trans hX8)
   have HB6 := aM (pw_below_grown hB8 (some b7) hB8.size hg8 (fun k hk => by injection hk with hk; omega))
   have HK6 := aM (Kd.R_grown (Kd.R_below HK5.out hb) hg8 (fun k hk e => by injection e with e; have := hk.2; omega))
   have HV6 := aM (Kd.R_grown (Kd.R_below HV5.out hb) hg8 (fun k hk e => by injection e with e; have := hk.2; omega))
   have HE8 := aM hE8
   clear x0d e2d hr4 hr5 hb l5 g5 l6 g6 hE8 hG8 hR8 hX8 hB8 hg8 HE5 HG5 HR5 HX5 HB5 HK5 HV5 CM
   obtain ⟨w6, hw6⟩ : ∃ w6, w8.setRow b7 #[.int .i64 p0, .int .i64 p1, .string p2, .slice P5 p3.length q5, .slice P6 p4.length q6] = w6 := ⟨_, rfl⟩
   rw [hw6] at HE6 HG6 HR6 HX6 HB6 HK6 HV6
   have HW6 := aM hw6
   clear hw6
   obtain ⟨bH, hbH⟩ := ev_has Ks Vs key HKV.out hvn
   obtain ⟨kH, hkH⟩ := hbH.rounds
   obtain ⟨_, l7, r7⟩ := Kd.R_reads' HK6.out
   obtain ⟨_, l8, r8⟩ := Kd.R_reads' HV6.out
   have CHs := aM (spec_Has.calls kH 5 0 ⟨#[]⟩ A7 c7 Ks A8 c8 Vs key bH w6 r7 l7 (ReadsRow.imp_ r8 (Below.refl _ _) (fun _ _ hp => kS.K_below HB6.out hp)) l8 hkH)
   have HKT := aM hKi
   clear hbH hkH l7 r7 l8 r8 hKi hVi hin q2
   go_wp2_with (first | (refine store_val (.tmp 7) (.tmp 34) rfl rfl rfl rfl HE8.out ?_; rw [HW6.out]) | refine load_val (.tmp 4) rfl rfl rfl HG6.out ?_)
   clear HW6 HE8
   refine CHs.out.mono ?_
   rintro e w9 ⟨rfl, hb⟩
   have HE9 := aM ((hb.block _ (cb_lt HE6.out)).trans HE6.out)
   have HG9 := aM ((hb.block _ (cb_lt HG6.out)).trans HG6.out)
   have HR9 := aM ((hb.block _ (cb_lt HR6.out)).trans HR6.out)
   have HX9 := aM ((hb.block _ (cb_lt HX6.out)).trans HX6.out)
   have HB9 := aM (hb_then HB6.out hb)
   have HK9 := aM (Kd.R_below HK6.out hb)
   have HV9 := aM (Kd.R_below HV6.out hb)
   clear HE6 HG6 HR6 HX6 HB6 HK6 HV6 CHs hb
   have e0 : w9.cell? ⟨b7, 0, none⟩ = some (.int .i64 p0) := cb_cell (i := 0) HE9.out rfl
   cases bH
   rotate_left
   ·go_wp2_with (refine store_val (.tmp 2) (.tmp 43) rfl rfl rfl rfl HR9.out ?_)
    have hg := grown_setRow w9 (w.heap.size + 1) zC
    have hB := pw_below_grown HB9.out (some (w.heap.size + 1)) HB9.out.size hg (fun k hk => by injection hk with hk; omega)
    have hX := setRow_heap w9 (w.heap.size + 1) _ zC _ _ HR9.out
    exact bodyPost_ret (v := .tuple #[.agg zC, .bool false]) (said_at rfl rfl rfl hX) rfl ⟨leaf 0 0 ⟨#[]⟩, false, none, 0, none, 0, rfl, (fun h => by cases h), ⟨Nat.zero_le _, nilC _ _ _, Nat.zero_le _, nilC _ _ _⟩, hB⟩
   by_cases h3 : p0 = 3
   rotate_left
   ·have t3 : ((p0 : Int) != 3) = true := by simpa using h3
    have t4 : ((p0 : Int) == 3) = false := by simpa using h3
    clear h3
    go_wp2_with (refine store_val (.tmp 2) (.tmp 43) rfl rfl rfl rfl HR9.out ?_)
    have hg := grown_setRow w9 (w.heap.size + 1) zC
    have hB := pw_below_grown HB9.out (some (w.heap.size + 1)) HB9.out.size hg (fun k hk => by injection hk with hk; omega)
    have hX := setRow_heap w9 (w.heap.size + 1) _ zC _ _ HR9.out
    exact bodyPost_ret (v := .tuple #[.agg zC, .bool false]) (said_at rfl rfl rfl hX) rfl ⟨leaf 0 0 ⟨#[]⟩, false, none, 0, none, 0, rfl, (fun h => by cases h), ⟨Nat.zero_le _, nilC _ _ _, Nat.zero_le _, nilC _ _ _⟩, hB⟩
   subst h3
   obtain ⟨K2, hK2⟩ : ∃ K2, withK Ks key = K2 := ⟨_, rfl⟩
   obtain ⟨V2, hV2⟩ : ∃ V2, withV Ks Vs key (⟨3, p1, p2, p3, p4⟩ : VS) = V2 := ⟨_, rfl⟩
   have hl1 := withV_length (key := key) (x := (⟨3, p1, p2, p3, p4⟩ : VS)) HKV.out
   have hl2 := withK_length (ks := Ks) (key := key)
   rw [hK2] at hl1 hl2
   rw [hV2] at hl1
   have HL := aM (And.intro hl1 hl2)
   have HN := aM (show fitW ((xs.map fun v => (cutB 61 v.f2).1).drop (i + 1)) ((xs.map fun v => splitV v.f2).drop (i + 1)) K2 V2 = (KF, VF) by
    have := HFI.out
    obtain ⟨hk1, hk2⟩ := HKI.out
    obtain ⟨hv1, hv2⟩ := HVI.out
    rw [List.drop_eq_getElem_cons hk1, List.drop_eq_getElem_cons hv1, hk2, hv2, fitW, hK2, hV2] at this
    exact this)
   have HTN := aM (show ∀ (j : Nat) (hj : j < (xs.map fun v => splitV v.f2).length), j < i + 1 → (xs.map fun v => splitV v.f2)[j].f0 = 3 from fun j hj hji => by
    by_cases e : j = i
    ·subst e
     obtain ⟨hv1, hv2⟩ := HVI.out
     rw [hv2]
    ·exact HT.out j hj (by omega))
   obtain ⟨_, l7, r7⟩ := Kd.R_reads' HK9.out
   obtain ⟨_, l8, r8⟩ := Kd.R_reads' HV9.out
   have CW := aM (WithP (fun x cs => kS.K w x cs) (fun hp => kS.K_len hp) (fun hp => kS.K_one hp) (A3 := A7) (A4 := A8) (c3 := c7) (c4 := c8) (A5 := P5) (A6 := P6) (c5 := q5) (c6 := q6) 5 0 ⟨#[]⟩ Ks Vs key (⟨3, p1, p2, p3, p4⟩ : VS) w9 r7 r8 HKU.out HKV.out hvn K2 V2 hK2 hV2)
   clear hl1 hl2 hK2 hV2 l7 r7 l8 r8
   go_wp2_with (first | refine load_val (.tmp 4) rfl rfl rfl HG9.out ?_ | refine load_val (.tmp 7) rfl rfl rfl HE9.out ?_)
   refine CW.out.mono ?_
   rintro e w10 ⟨B7, d7, B8, d8, rfl, k1, k2, hb⟩
   have hG10 := (hb.block _ (cb_lt HG9.out)).trans HG9.out
   have hR10 := (hb.block _ (cb_lt HR9.out)).trans HR9.out
   have hX10 := (hb.block _ (cb_lt HX9.out)).trans HX9.out
   have hB10 := hb_then HB9.out hb
   have hlw := cb_lt HG9.out
   have hg := grown_setRow w10 b4 #[.int .i64 5, .int .i64 0, .string ⟨#[]⟩, .slice B7 K2.length d7, .slice B8 V2.length d8]
   have HG5 := aM (setRow_heap w10 b4 _ #[.int .i64 5, .int .i64 0, .string ⟨#[]⟩, .slice B7 K2.length d7, .slice B8 V2.length d8] _ _ hG10)
   have HR5 := aM ((setRow_other w10 b4 (w.heap.size + 1) #[.int .i64 5, .int .i64 0, .string ⟨#[]⟩, .slice B7 K2.length d7, .slice B8 V2.length d8] (by omega)).trans hR10)
   have HX5 := aM ((setRow_other w10 b4 w.heap.size #[.int .i64 5, .int .i64 0, .string ⟨#[]⟩, .slice B7 K2.length d7, .slice B8 V2.length d8] (by omega)).trans hX10)
   have HB5 := aM (pw_below_grown hB10 (some b4) hB10.size hg (fun k hk => by injection hk with hk; omega))
   have HK5 := aM (Kd.R_grown (Kd.R_lower (Kd.R_mono (Kd.R_bound k1) (ok' := fun k => b4 < k) (fun k h => Nat.lt_of_lt_of_le hlw h.2.1)) (Nat.le_of_lt hlw)) hg (fun k hk e => by injection e with e; omega))
   have HV5 := aM (Kd.R_grown (Kd.R_lower (Kd.R_mono (Kd.R_bound k2) (ok' := fun k => b4 < k) (fun k h => Nat.lt_of_lt_of_le hlw h.2.1)) (Nat.le_of_lt hlw)) hg (fun k hk e => by injection e with e; omega))
   have HLV := aM hlv
   have HL3 := aM (show V2.length ≤ i + 1 by have := HL.out.1; have := HL.out.2; have := HKT.out; omega)
   have q5 : wrap64 ((i : Int) + 1) = ((i + 1 : Nat) : Int) := wrapS i (by omega)
   clear HU hg k1 k2 hb hR10 hX10 hB10 hlw e0 HG9 HR9 HX9 HB9 HK9 HV9 HE9 hlv hd1 hvn
   go_wp2_with (refine store_val (.tmp 4) (.tmp 47) rfl rfl rfl rfl hG10 ?_; generalize w10.setRow b4 #[.int .i64 5, .int .i64 0, .string ⟨#[]⟩, .slice B7 K2.length d7, .slice B8 V2.length d8] = w11 at HG5 HR5 HX5 HB5 HK5 HV5 ⊢; clear hG10)
   go_roundw
   case rel => exact ⟨i + 1, K2, V2, B7, B8, d7, d8, congrArg (Value.int .i64) q5, HLV.out, HL.out.1.symm, HL3.out, HN, HTN, HG5, HX5, HR5, HB5, HK5, HV5⟩
   case measure =>
    rw [q5]
    clear q5
    have := HLV.out
    simp [intOf]
    omega
  ·have hd1 : decide ((i : Int) < (xs.length : Int)) = false := decide_eq_false (by omega)
   have hie : i = xs.length := by omega
   have hF1 : (Ks, Vs) = (KF, VF) := by
    have := HFI.out
    rw [List.drop_eq_nil_of_le (show (xs.map fun v => splitV v.f2).length ≤ i by rw [List.length_map]; omega)] at this
    rw [fitW_nil] at this
    exact this
   obtain ⟨rfl, rfl⟩ := Prod.mk.inj hF1
   have HALL := aM (show ∀ v, v ∈ (xs.map fun v => splitV v.f2) → v.f0 = 3 from fun v hv => by
    obtain ⟨j, hj, rfl⟩ := List.getElem_of_mem hv
    exact HT.out j hj (by rw [List.length_map] at hj; omega))
   clear hF1 hie hVi hKi hin
   have r1 := HRD.out.below (below_drew HB.out)
   have CP := aM (spec_sayPairs.calls kP x0 x1 x2 A3 c3 x3 A4 c4 xs bP wr.drew r1.hk r1.l3 r1.hv r1.l4 HKP.out)
   have g0 : wr.cell? ⟨b4, 0, none⟩ = some (.int .i64 5) := cb_cell (i := 0) HG.out rfl
   have g1 : wr.cell? ⟨b4, 1, none⟩ = some (.int .i64 0) := cb_cell (i := 1) HG.out rfl
   have g2 : wr.cell? ⟨b4, 2, none⟩ = some (.string ⟨#[]⟩) := cb_cell (i := 2) HG.out rfl
   have g3 : wr.cell? ⟨b4, 3, none⟩ = some (.slice A7 Ks.length c7) := cb_cell (i := 3) HG.out rfl
   have g4 : wr.cell? ⟨b4, 4, none⟩ = some (.slice A8 Vs.length c8) := cb_cell (i := 4) HG.out rfl
   have s0 : wr.cell? ⟨w.heap.size, 0, none⟩ = some (.int .i64 x0) := cb_cell (i := 0) HX.out rfl
   have s1 : wr.cell? ⟨w.heap.size, 1, none⟩ = some (.int .i64 x1) := cb_cell (i := 1) HX.out rfl
   have s2 : wr.cell? ⟨w.heap.size, 2, none⟩ = some (.string x2) := cb_cell (i := 2) HX.out rfl
   have s3 : wr.cell? ⟨w.heap.size, 3, none⟩ = some (.slice A3 x3.length c3) := cb_cell (i := 3) HX.out rfl
   clear r1
   go_wp2_with fail
   refine start_ (n := 5) (S := fun w' => w'.cell? ⟨b4, 0, none⟩ = some (.int .i64 5) ∧ w'.cell? ⟨b4, 1, none⟩ = some (.int .i64 0) ∧ w'.cell? ⟨b4, 2, none⟩ = some (.string ⟨#[]⟩) ∧ w'.cell? ⟨b4, 3, none⟩ = some (.slice A7 Ks.length c7) ∧ w'.cell? ⟨b4, 4, none⟩ = some (.slice A8 Vs.length c8) ∧ w'.cell? ⟨w.heap.size, 0, none⟩ = some (.int .i64 x0) ∧ w'.cell? ⟨w.heap.size, 1, none⟩ = some (.int .i64 x1) ∧ w'.cell? ⟨w.heap.size, 2, none⟩ = some (.string x2) ∧ w'.cell? ⟨w.heap.size, 3, none⟩ = some (.slice A3 x3.length c3) ∧ w'.cell? ⟨w.heap.size, 4, none⟩ = some (.slice A4 xs.length c4)) (ds := [3]) #[false, false, false, false, false] (by kernel_rfl) rfl rfl ⟨g0, g1, g2, g3, g4, s0, s1, s2, s3, x4c⟩ (fun hHeld => ?_)
   refine take_ (i := 0) (N := some 48) (v := ?_) (a' := ?_) #[true, false, false, false, false] rfl rfl (by kernel_rfl) (fun _ _ _ h => h) (Or.inl ⟨by rfl, ?_⟩) hHeld ?_ ?_
   rotate_left
   ·rintro w' ⟨s0, s1, s2, s3, s4, s5, s6, s7, s8, s9⟩
    go_simp; with_reducible rfl
   rotate_left
   ·simp only [Act.put, sA, sB, sC, i64_w, i32_w]; rfl
   refine take_ (i := 1) (N := some 49) (v := ?_) (a' := ?_) #[true, true, false, false, false] rfl rfl (by kernel_rfl) (fun _ _ _ h => h) (Or.inl ⟨by rfl, ?_⟩) hHeld ?_ ?_
   rotate_left
   ·rintro w' ⟨s0, s1, s2, s3, s4, s5, s6, s7, s8, s9⟩
    go_simp; with_reducible rfl
   rotate_left
   ·simp only [Act.put, sA, sB, sC, i64_w, i32_w]; rfl
   refine one_ (i := 2) (N := some 50) #[true, true, true, false, false] rfl rfl (by kernel_rfl) (by decide) (fun K hK => ?_)
   refine goes_ Try.func36 (by kernel_rfl) rfl #[.agg #[.int .i64 x0, .int .i64 x1, .string x2, .slice A3 x3.length c3, .slice A4 xs.length c4]] (by rfl) rfl rfl (by simp only [List.map_toArray, List.map_cons, List.map_nil]; rfl) ?_
   with_reducible refine (CP.out).mono ?_
   rintro e w6 ⟨rfl, hb⟩
   refine ⟨_, rfl, ?_⟩
   have HB6 := aM (hb_then (below_drew HB.out) hb)
   have HG6 := aM ((hb.block _ (cb_lt (show wr.drew.heap[b4]? = _ from HG.out))).trans HG.out)
   have HR6 := aM ((hb.block _ (cb_lt (show wr.drew.heap[w.heap.size + 1]? = _ from HR.out))).trans HR.out)
   have HK6 := aM (Kd.R_below HK.out (hb_then (below_drew (Below.refl wr.heap.size wr)) hb))
   have HV6 := aM (Kd.R_below HV.out (hb_then (below_drew (Below.refl wr.heap.size wr)) hb))
   refine hK.out _ _ ⟨pw_cell_below hb hHeld.1, pw_cell_below hb hHeld.2.1, pw_cell_below hb hHeld.2.2.1, pw_cell_below hb hHeld.2.2.2.1, pw_cell_below hb hHeld.2.2.2.2.1, pw_cell_below hb hHeld.2.2.2.2.2.1, pw_cell_below hb hHeld.2.2.2.2.2.2.1, pw_cell_below hb hHeld.2.2.2.2.2.2.2.1, pw_cell_below hb hHeld.2.2.2.2.2.2.2.2.1, pw_cell_below hb hHeld.2.2.2.2.2.2.2.2.2⟩ (fun hHeld => ?_)
   clear hK K
   refine norm_ (a' := ?_) ?_ ?_
   rotate_left
   ·show Act.put _ (some 50) _ = _
    simp only [Act.put, sA, sB, sC, i64_w, i32_w]; rfl
   refine last_ (i := 3) (N := none) #[true, true, true, true, false] rfl rfl (by kernel_rfl) (by decide) (fun K hK => ?_)
   refine store_row_step (w := w6) rfl rfl 25 (.tmp 2) (.tmp 48) rfl (w.heap.size + 1) #[.int .i64 5, .int .i64 0, .string ⟨#[]⟩, .slice A7 Ks.length c7, .slice A8 Vs.length c8] rfl rfl 25 _ HR6.out val_size rfl (val_one _ _ _ _ _ _ _ _ _) ?_
   refine hK.out _ _ ?_
   clear hK K
   refine pure_ (i := 4) (N := some 3) (v := ?_) (a' := ?_) #[true, true, true, true, true] rfl rfl (by kernel_rfl) (fun _ _ _ h => h) (Or.inl ⟨by rfl, ?_⟩) ?_ ?_
   rotate_left
   ·intro w'; go_simp; with_reducible rfl
   rotate_left
   ·simp only [Act.put, sA, sB, sC, i64_w, i32_w]; rfl
   refine done_ (by kernel_rfl) ?_
   have hg := grown_setRow w6 (w.heap.size + 1) #[.int .i64 5, .int .i64 0, .string ⟨#[]⟩, .slice A7 Ks.length c7, .slice A8 Vs.length c8]
   have hX := setRow_heap w6 (w.heap.size + 1) _ #[.int .i64 5, .int .i64 0, .string ⟨#[]⟩, .slice A7 Ks.length c7, .slice A8 Vs.length c8] _ _ HR6.out
   have hB := pw_below_grown HB6.out (some (w.heap.size + 1)) HB6.out.size hg (fun k hk => by injection hk with hk; omega)
   obtain ⟨_, _, _, _, e3, e4, hrd⟩ := fix_reads (x := ⟨5, 0, ⟨#[]⟩, Ks, Vs⟩) hB (Kd.R_grown HK6.out hg (fun k hk e => by injection e with e; omega)) (Kd.R_grown HV6.out hg (fun k hk e => by injection e with e; omega))
   injection e3 with e31 e32 e33
   injection e4 with e41 e42 e43
   subst e31 e33 e41 e43
   have HXX := aM (And.intro hX (And.intro hB hrd))
   have HFF := aM (show mapsOf (xs.map fun v => (cutB 61 v.f2).1) (xs.map fun v => splitV v.f2) = ⟨5, 0, ⟨#[]⟩, Ks, Vs⟩ by unfold mapsOf; rw [HF.out])
   clear hg hX hB hrd
   go_wp2
   exact bodyPost_ret (v := .tuple #[.agg #[.int .i64 5, .int .i64 0, .string ⟨#[]⟩, .slice A7 Ks.length c7, .slice A8 Vs.length c8], .bool bP]) (said_at rfl rfl rfl HXX.out.1) rfl ⟨⟨5, 0, ⟨#[]⟩, Ks, Vs⟩, bP, A7, c7, A8, c8, rfl, (fun h => ⟨HBF.out h, HALL.out, HFF.out.symm⟩), HXX.out.2.2, HXX.out.2.1⟩
end Go.Proofs.Ytaembebbaejfiaa.Tr
namespace Go.Proofs.Ytaembebbaejfiaa.Tr
open Go.RowKit Go.Proofs.YtaembebbaejfiaaW.PrintWords Go.Proofs.YtaembebbaejfiaaW.PrintLast Go.Proofs.Ytaembebbaejfiaa.Str Go.Proofs.Ytaembebbaejfiaa.Kit Go.Proofs.Ytaembebbaejfiaa.MapV Go.Proofs.Ytaembebbaejfiaa.Frame Go.Proofs.Ytaembebbaejfiaa.PS
set_option linter.unusedVariables false
set_option linter.unusedSimpArgs false
theorem kAny_at {w : World} {A : Option Addr} {xs : List Value} (h : kAny.C w A xs.length xs) (h0 : 0 < xs.length) :
  ∃ bk off, A = some ⟨bk, off, none⟩ ∧ bk < w.heap.size ∧ ∀ (j : Nat) (hj : j < xs.length), w.cell? ⟨bk, off + j, none⟩ = some xs[j] := by
 obtain ⟨hl, hm, hc⟩ := h
 obtain ⟨ad, rfl, hcc⟩ := hc h0
 have cell : ∀ (j : Nat) (hj : j < xs.length), w.cell? (ad.add j) = some xs[j] := by
  intro j hj
  obtain ⟨c, hcl, hr, hcell⟩ := hcc j xs[j] (List.getElem?_eq_getElem hj)
  have hr' : c = [xs[j]] := hr.1
  subst hr'
  have := hcell 0 _ rfl
  rw [show j * kAny.sz + 0 = j from by show j * 1 + 0 = j; omega] at this
  exact this
 have c0 := cell 0 h0
 obtain ⟨bk, off, spot⟩ := ad
 have hspot : spot = none := by
  cases hs : spot with
  | none => rfl
  | some sp =>
   exfalso
   subst hs
   simp [World.cell?, Addr.add] at c0
   split at c0 <;> simp at c0
 subst hspot
 have add : ∀ j : Nat, (⟨bk, off, none⟩ : Addr).add j = ⟨bk, off + j, none⟩ := by intro j; unfold Addr.add; split <;> simp_all
 refine ⟨bk, off, rfl, ?_, fun j hj => (add j) ▸ cell j hj⟩
 rw [add] at c0
 by_cases hb : bk < w.heap.size
 ·exact hb
 ·simp [World.cell?, Array.getElem?_eq_none (Nat.le_of_not_lt hb)] at c0
def FromAt (y : Y) : Prop := ∀ (v : Value) (F : Nat → Prop) (w : World), AR w v y F → Calls Try.prog 42 #[v] w (Told w (valOf y))
theorem t_lst_bool (v : Value) (w : World) : (Instr.typeAssert (.iface 58 v) 20 4 true).run Try.prog w = .ok (.tuple #[.bool false, .bool false]) w := by kernel_rfl
theorem t_lst_int (v : Value) (w : World) : (Instr.typeAssert (.iface 58 v) 20 3 true).run Try.prog w = .ok (.tuple #[.int .i64 0, .bool false]) w := by kernel_rfl
theorem t_lst_i64 (v : Value) (w : World) : (Instr.typeAssert (.iface 58 v) 20 2 true).run Try.prog w = .ok (.tuple #[.int .i64 0, .bool false]) w := by kernel_rfl
theorem t_lst_u64 (v : Value) (w : World) : (Instr.typeAssert (.iface 58 v) 20 71 true).run Try.prog w = .ok (.tuple #[.int .u64 0, .bool false]) w := by kernel_rfl
theorem t_lst_str (v : Value) (w : World) : (Instr.typeAssert (.iface 58 v) 20 9 true).run Try.prog w = .ok (.tuple #[.string ⟨#[]⟩, .bool false]) w := by kernel_rfl
theorem t_lst (v : Value) (w : World) : (Instr.typeAssert (.iface 58 v) 20 58 true).run Try.prog w = .ok (.tuple #[v, .bool true]) w := by kernel_rfl
theorem info_iv : (Try.prog.info? 36).map (fun i => (i.zero, i.size, i.bytes)) = some (some (.agg #[.int .i64 0, .int .i64 0, .string ⟨#[]⟩, .slice none 0 0, .slice none 0 0]), 5, 80) := by kernel_rfl
theorem told_row {fn : Func} (hr : fn.results = #[.cell 2 36, .tmp 3]) {tmps : Array Value} {W : World} {b n3 c3 n4 c4 : Nat} {k n : Int} {t : BA} {A3 A4 : Option Addr} (hp : tmps.getD 2 undef = .pointer (some ⟨b, 0, none⟩)) (h3 : tmps.getD 3 undef = .bool true) (hb : W.heap[b]? = some (.cells #[.int .i64 k, .int .i64 n, .string t, .slice A3 n3 c3, .slice A4 n4 c4] 36 (0, 0))) :
  (results fn tmps).run Try.prog W = .ok (.tuple #[.agg #[.int .i64 k, .int .i64 n, .string t, .slice A3 n3 c3, .slice A4 n4 c4], .bool true]) W := by
 have := results_ct (P := Try.prog) hr tmps W b 36 _ (0, 0) _ hp hb Try.underlying36 rfl ival_size
 rw [h3] at this
 exact this
set_option maxHeartbeats 6400000 in
set_option maxRecDepth 100000 in
theorem from_list (zs : List En) (A : Option Addr) (c : Nat) (w : World) (hn : zs.length ≤ 1759218604400) (hC : kAny.C w A zs.length (zs.map (fun z => z.1))) (hz : ∀ z, z ∈ zs → AR w z.1 z.2.1 z.2.2) (hch : ∀ z, z ∈ zs → FromAt z.2.1) :
  Calls Try.prog 42 #[.iface 58 (.slice A zs.length c)] w (Told w (valOf (.list (zs.map (fun z => z.2.1))))) := by
 have f0 := t_lst_bool
 have f1 := t_lst_int
 have f2 := t_lst_i64
 have f3 := t_lst_u64
 have f4 := t_lst_str
 have f5 := t_lst
 have HC := aM hC
 have HZ := aM hz
 have HCH := aM hch
 have hb0 := below_alloc (Below.refl w.heap.size w) (.cells #[.int .i64 0, .int .i64 0, .string ⟨#[]⟩, .slice none 0 0, .slice none 0 0] 36)
 have HB0 := aM (below_alloc hb0 (.cells #[.int .i64 0, .int .i64 0, .string ⟨#[]⟩, .slice none 0 0, .slice none 0 0] 36))
 have HZ0 := aM (show ((w.alloc (.cells #[.int .i64 0, .int .i64 0, .string ⟨#[]⟩, .slice none 0 0, .slice none 0 0] 36)).alloc (.cells #[.int .i64 0, .int .i64 0, .string ⟨#[]⟩, .slice none 0 0, .slice none 0 0] 36)).heap[w.heap.size]? = some (.cells zI 36 (0, 0)) from blk_alloc (cb_new _ _) _)
 have h1 := cb_new (w.alloc (.cells #[.int .i64 0, .int .i64 0, .string ⟨#[]⟩, .slice none 0 0, .slice none 0 0] 36)) (.cells #[.int .i64 0, .int .i64 0, .string ⟨#[]⟩, .slice none 0 0, .slice none 0 0] 36)
 rw [World.size_alloc] at h1
 clear hC hz hch hb0
 go_enter Try.func42, Try.ntmps42
 go_wp2_with (refine store_ival (.tmp 11) (.tmp 49) rfl rfl rfl rfl h1 ?_)
 have HX1 := aM (setRow_heap _ (w.heap.size + 1) _ #[.int .i64 4, .int .i64 0, .string ⟨#[]⟩, .slice none 0 0, .slice none 0 0] _ _ h1)
 have hg := grown_setRow ((w.alloc (.cells #[.int .i64 0, .int .i64 0, .string ⟨#[]⟩, .slice none 0 0, .slice none 0 0] 36)).alloc (.cells #[.int .i64 0, .int .i64 0, .string ⟨#[]⟩, .slice none 0 0, .slice none 0 0] 36)) (w.heap.size + 1) #[.int .i64 4, .int .i64 0, .string ⟨#[]⟩, .slice none 0 0, .slice none 0 0]
 have HB1 := aM (pw_below_grown HB0.out (some (w.heap.size + 1)) HB0.out.size hg (fun k hk => by injection hk with hk; have h2 : w.heap.size + 1 = k := hk; omega))
 have HZ1 := aM ((hg.block w.heap.size (cb_lt HZ0.out) (fun e => by injection e with e; omega)).trans HZ0.out)
 clear hg h1 HB0 HZ0
 go_loopw [52, 12, 13, 14] (fun v52 v12 v13 v14 wr => ∃ (i : Nat) (A2 : Option Addr) (c2 : Nat), v52 = .int .i64 i ∧ i ≤ zs.length ∧ Aside0 (wr.heap[w.heap.size + 1]? = some (.cells #[.int .i64 4, .int .i64 0, .string ⟨#[]⟩, .slice none 0 0, .slice A2 i c2] 36 (0, 0))) ∧ Aside0 (kI.R 36 wr (w.heap.size + 2) (fun _ => True) (.slice A2 i c2) ((zs.take i).map (fun z => valOf z.2.1))) ∧ Aside0 (Below w.heap.size w wr) ∧ Aside0 (wr.heap[w.heap.size]? = some (.cells zI 36 (0, 0)))) (fun v52 _ _ _ _ => zs.length - (intOf v52).toNat)
 case atStart => exact ⟨0, none, 0, rfl, by omega, HX1, ⟨Kd.R_nil _ _ _ _ _⟩, HB1, HZ1⟩
 case round =>
  clear HX1 HB1 HZ1
  obtain ⟨i, A2, c2, rfl, hiv, HX, HR, HB, HZ0⟩ := hrel
  have q0 : (0 : Int) ≤ (i : Int) := by omega
  by_cases hlv : i < zs.length
  ·have q2 : (i : Int) < (zs.length : Int) := by omega
   have hl0 : (zs.map (fun z => z.1)).length = zs.length := List.length_map ..
   obtain ⟨vb, vo, rfl, hvb, hvc⟩ := kAny_at (A := A) (xs := zs.map (fun z => z.1)) (by rw [hl0]; exact HC.out) (by omega)
   have e0 : w.cell? ⟨vb, vo + i, none⟩ = some (zs[i]'hlv).1 := by
    have h := hvc i (by omega)
    rw [List.getElem_map] at h
    exact h
   have y0 := pw_cell_below HB.out e0
   have CA := aM (fun (W : World) (hb : Below w.heap.size w W) => HCH.out zs[i] (List.getElem_mem hlv) zs[i].1 _ W ((HZ.out zs[i] (List.getElem_mem hlv)).keep hb))
   clear hvc e0 hl0
   go_wp2_with fail
   refine (CA.out wr HB.out).mono ?_
   rintro e w3 ⟨v3, v4, rfl, hv3, hv4, hb3⟩
   have HXE := aM (show (zs.take (i + 1)).map (fun z => valOf z.2.1) = (zs.take i).map (fun z => valOf z.2.1) ++ [valOf (zs[i]'hlv).2.1] by rw [List.take_succ_eq_append_getElem hlv, List.map_append]; rfl)
   generalize valOf (zs[i]'hlv).2.1 = x at hv3 hv4 HXE
   obtain ⟨x0, x1, x2, x3, x4⟩ := x
   obtain ⟨A3, c3, rfl⟩ := Kd.R_slice hv3
   obtain ⟨A4, c4, rfl⟩ := Kd.R_slice hv4
   have hW := below_alloc hb3 (.cells #[.int .i64 0, .int .i64 0, .string ⟨#[]⟩, .slice none 0 0, .slice none 0 0] 36)
   have h5 := cb_new w3 (.cells #[.int .i64 0, .int .i64 0, .string ⟨#[]⟩, .slice none 0 0, .slice none 0 0] 36)
   have hg5 := grown_setRow (w3.alloc (.cells #[.int .i64 0, .int .i64 0, .string ⟨#[]⟩, .slice none 0 0, .slice none 0 0] 36)) w3.heap.size #[.int .i64 x0, .int .i64 x1, .string x2, .slice A3 x3.length c3, .slice A4 x4.length c4]
   have hb5 := pw_below_grown hW (some w3.heap.size) hW.size hg5 (fun k hk => by injection hk with hk; have := hb3.size; omega)
   have h6 := setRow_heap _ w3.heap.size _ #[.int .i64 x0, .int .i64 x1, .string x2, .slice A3 x3.length c3, .slice A4 x4.length c4] _ _ h5
   have hm5 : ∀ k, k < w3.heap.size → ((w3.alloc (.cells #[.int .i64 0, .int .i64 0, .string ⟨#[]⟩, .slice none 0 0, .slice none 0 0] 36)).setRow w3.heap.size #[.int .i64 x0, .int .i64 x1, .string x2, .slice A3 x3.length c3, .slice A4 x4.length c4]).heap[k]? = w3.heap[k]? := fun k hk => (hg5.block k (by rw [World.size_alloc]; omega) (fun e => by injection e with e; omega)).trans ((below_alloc (Below.refl w3.heap.size w3) _).block k hk)
   have HX5 := aM ((hb5.block _ (cb_lt HX.out)).trans HX.out)
   have x4_ := cb_cell (i := 4) HX5.out rfl
   have HZ5 := aM ((hb5.block _ (cb_lt HZ0.out)).trans HZ0.out)
   have HR5 := aM (Kd.R_below HR.out hb5)
   have HB5 := aM (hb_then HB.out hb5)
   have HM := aM (k36_mkM ((w3.alloc (.cells #[.int .i64 0, .int .i64 0, .string ⟨#[]⟩, .slice none 0 0, .slice none 0 0] 36)).setRow w3.heap.size #[.int .i64 x0, .int .i64 x1, .string x2, .slice A3 x3.length c3, .slice A4 x4.length c4]) (w.heap.size + 2) (fun k => wr.heap.size ≤ k ∧ k < w3.heap.size) ⟨x0, x1, x2, x3, x4⟩
    (Kd.R_lower (Kd.R_move (Kd.R_mono (ok' := fun k => wr.heap.size ≤ k ∧ k < w3.heap.size) (Kd.R_bound hv3) (fun k hk => ⟨hk.2.1, hk.2.2.1⟩)) (fun k hk => hm5 k hk.2)) (by have := cb_lt HX.out; omega))
    (Kd.R_lower (Kd.R_move (Kd.R_mono (ok' := fun k => wr.heap.size ≤ k ∧ k < w3.heap.size) (Kd.R_bound hv4) (fun k hk => ⟨hk.2.1, hk.2.2.1⟩)) (fun k hk => hm5 k hk.2)) (by have := cb_lt HX.out; omega)))
   have HOK := aM (show ∀ k, wr.heap.size ≤ k ∧ k < w3.heap.size → True ∧ some k ≠ (Value.slice A2 i c2).ownBlock from fun k hk => ⟨trivial, fun e => by have := ((Kd.R_bound HR.out).1 k e.symm).2.2.1; omega⟩)
   have hsz := cb_lt HX5.out
   clear hv3 hv4 hW hg5 hb5 hm5 HX HR HB HZ0
   go_wp2_with (first | (refine store_ival (.tmp 13) (.tmp 61) rfl rfl rfl rfl h5 ?_; generalize (w3.alloc (.cells #[.int .i64 0, .int .i64 0, .string ⟨#[]⟩, .slice none 0 0, .slice none 0 0] 36)).setRow w3.heap.size #[.int .i64 x0, .int .i64 x1, .string x2, .slice A3 x3.length c3, .slice A4 x4.length c4] = W5 at h6 x4_ HX5 HZ5 HR5 HB5 HM hsz ⊢; clear h5) | refine load_ival (.tmp 13) rfl rfl rfl h6 ?_ | refine Kd.R_append kI (w0 := W5) (w.heap.size + 2) rfl (.tmp 67) (.tmp 69) 34 36 (.agg #[.int .i64 0, .int .i64 0, .string ⟨#[]⟩, .slice none 0 0, .slice none 0 0]) 80 rfl Try.underlying34 info_iv rfl (show 0 < 5 by decide) (by decide) (.slice A2 i c2) ((zs.take i).map (fun z => valOf z.2.1)) ⟨x0, x1, x2, x3, x4⟩ _ (fun _ => True) _ rfl rfl HM.out HOK.out (fun _ _ => trivial) HR5.out (Below.refl _ _) (by omega) (by rw [List.length_map, List.length_take]; omega) ?_)
   intro v1 w6 ho hb6 hg6 hat
   rw [← List.map_take, ← HXE.out] at ho
   have hlen : ((zs.take (i + 1)).map (fun z => valOf z.2.1)).length = i + 1 := by rw [List.length_map, List.length_take]; omega
   obtain ⟨A5, c5, rfl⟩ := Kd.R_slice ho
   rw [hlen] at ho hat ⊢
   have hB6 := pw_below_grown HB5.out (Value.slice A2 i c2).ownBlock HB5.out.size hg6 (fun k hk => by have := Kd.R_base HR5.out k hk; omega)
   have hX6 := (hb6.block (w.heap.size + 1) (by omega)).trans HX5.out
   have hZ6 := (hb6.block w.heap.size (by omega)).trans HZ5.out
   have HX7 := aM (cb_set hX6 (i := 4) (.slice A5 (i + 1) c5))
   have hg7 := grown_setCell w6 (w.heap.size + 1) 4 (.slice A5 (i + 1) c5)
   have HB7 := aM (pw_below_grown hB6 (some (w.heap.size + 1)) hB6.size hg7 (fun k hk => by injection hk with hk; omega))
   have HZ7 := aM ((hg7.block w.heap.size (cb_lt hZ6) (fun e => by injection e with e; omega)).trans hZ6)
   have HR7 := aM (Kd.R_mono (ok' := fun _ => True) (Kd.R_move (Kd.R_bound ho) (fun k hk => hg7.block k hk.2.2.1 (fun e => by have h2 := Option.some.inj e; have h3 := hk.2.1; omega))) (fun _ _ => trivial))
   have y4 := cb_cell (i := 4) hX6 rfl
   have y5 := cb_frozen (i := 4) hX6
   clear ho hat hlen hB6 hX6 hZ6 hb6 hg6 hg7 HX5 HZ5 HR5 HB5 HM HOK HXE CA x4_ h6 hsz
   go_wp2
   go_roundw
   case rel => exact ⟨i + 1, A5, c5, by go_num, by omega, HX7, HR7, HB7, HZ7⟩
   case measure => simp [intOf]; omega
  ·have hin : i = zs.length := by omega
   subst hin
   have hg8 := grown_setRow wr w.heap.size #[.int .i64 4, .int .i64 0, .string ⟨#[]⟩, .slice none 0 0, .slice A2 zs.length c2]
   have HX8 := aM (setRow_heap _ w.heap.size _ #[.int .i64 4, .int .i64 0, .string ⟨#[]⟩, .slice none 0 0, .slice A2 zs.length c2] _ _ HZ0.out)
   have HB8 := aM (pw_below_grown HB.out (some w.heap.size) HB.out.size hg8 (fun k hk => by injection hk with hk; omega))
   have hR := HR.out
   rw [List.take_length] at hR
   have HR8 := aM (Kd.R_lower (base' := w.heap.size) (Kd.R_mono (ok' := fun _ => True) (Kd.R_move (Kd.R_bound hR) (fun k hk => hg8.block k hk.2.2.1 (fun e => by have h2 := Option.some.inj e; have h3 := hk.2.1; omega))) (fun _ _ => trivial)) (by omega))
   have h11 := HX.out
   have h2 := HZ0.out
   clear hR hg8
   go_wp2_with (first | refine load_ival (.tmp 11) rfl rfl rfl h11 ?_ | refine store_ival (.tmp 2) (.tmp 73) rfl rfl rfl rfl h2 ?_)
   exact bodyPost_ret (v := .tuple #[.agg #[.int .i64 4, .int .i64 0, .string ⟨#[]⟩, .slice none 0 0, .slice A2 zs.length c2], .bool true]) (told_row rfl rfl rfl HX8.out) rfl ⟨.slice none 0 0, .slice A2 zs.length c2, by simp [valOf], by simp only [valOf]; exact Kd.R_nil _ _ _ _ _, by simp only [valOf]; rw [valL_map, List.map_map]; exact HR8.out, HB8.out⟩
end Go.Proofs.Ytaembebbaejfiaa.Tr
namespace Go.Proofs
open Go.Shelf
def Try.lays156_ren : Go.Shelf.Ren := ⟨fun | 156 => 52 | 165 => 58 | 166 => 59 | 169 => 60 | 240 => 63 | 241 => 64 | 276 => 67 | 277 => 68 | n => n, fun | 31 => 22 | 9 => 9 | 3 => 3 | 4 => 4 | 0 => 0 | 20 => 20 | 72 => 83 | 76 => 85 | 70 => 81 | 37 => 69 | 75 => 52 | 127 => 93 | 164 => 97 | 5 => 5 | 80 => 87 | n => n, fun | n => n⟩
theorem Try.lays156 : Go.Proofs.Lays.n156 Try.prog Try.lays156_ren := {
 mixed := by kernel_rfl
 f156 := Try.func52.trans (congrArg some (by kernel_rfl))
 f165 := Try.func58.trans (congrArg some (by kernel_rfl))
 f166 := Try.func59.trans (congrArg some (by kernel_rfl))
 f169 := Try.func60.trans (congrArg some (by kernel_rfl))
 f240 := Try.func63.trans (congrArg some (by kernel_rfl))
 f241 := Try.func64.trans (congrArg some (by kernel_rfl))
 f276 := Try.func67.trans (congrArg some (by kernel_rfl))
 f277 := Try.func68.trans (congrArg some (by kernel_rfl))
 t0 := Try.underlying0
 a0 := Try.isAgg0
 z0 := Try.sizeOf0
 v0 := Try.zeroValue0
 t3 := Try.underlying3
 a3 := Try.isAgg3
 z3 := Try.sizeOf3
 v3 := Try.zeroValue3
 t4 := Try.underlying4
 a4 := Try.isAgg4
 z4 := Try.sizeOf4
 v4 := Try.zeroValue4
 t9 := Try.underlying9
 a9 := Try.isAgg9
 z9 := Try.sizeOf9
 v9 := Try.zeroValue9
 t20 := Try.underlying20
 a20 := Try.isAgg20
 z20 := Try.sizeOf20
 v20 := Try.zeroValue20
 t31 := Try.underlying22
 a31 := Try.isAgg22
 z31 := Try.sizeOf22
 v31 := Try.zeroValue22
 t37 := Try.underlying69
 a37 := Try.isAgg69
 z37 := Try.sizeOf69
 v37 := Try.zeroValue69
 t70 := Try.underlying81
 a70 := Try.isAgg81
 z70 := Try.sizeOf81
 v70 := Try.zeroValue81
 t72 := Try.underlying83
 a72 := Try.isAgg83
 z72 := Try.sizeOf83
 v72 := Try.zeroValue83
 t75 := Try.underlying52
 a75 := Try.isAgg52
 z75 := Try.sizeOf52
 v75 := Try.zeroValue52
 t76 := Try.underlying85
 a76 := Try.isAgg85
 z76 := Try.sizeOf85
 v76 := Try.zeroValue85
 t127 := Try.underlying93
 a127 := Try.isAgg93
 z127 := Try.sizeOf93
 v127 := Try.zeroValue93
 t164 := Try.underlying97
 a164 := Try.isAgg97
 z164 := Try.sizeOf97
 v164 := Try.zeroValue97 }
theorem Try.Builder_Extra_156 : Builder.Extra Try.prog Try.lays156_ren := {
 sizeBuilder := by kernel_rfl
 liesBuilder := by kernel_rfl
 t5 := Try.underlying5
 a5 := Try.isAgg5
 z5 := Try.sizeOf5
 v5 := Try.zeroValue5
 infoByte := by kernel_rfl
 cellsByte := by kernel_rfl
 sizeByte := by kernel_rfl
 neB5 := by decide }
open Go.RowKit in
theorem Try.strings_Join_none (a : Option Addr) (c : Nat) (sep : ByteArray) (w : World) :
  Calls Try.prog 52 #[.slice a 0 c, .string sep] w fun e w' => e = .returned (.string ⟨#[]⟩) ∧ w' = w := Any.strings_Join_none Try.lays156 Try.Builder_Extra_156 a c sep w
open Go.RowKit in
theorem Try.strings_Join (bk o c : Nat) (xs : List ByteArray) (sep : ByteArray) (w : World) (hcells : ∀ (j : Nat) x, xs[j]? = some x → w.cell? ⟨bk, o + j, none⟩ = some (.string x)) (hbk : bk < w.heap.size) (hN : xs.length ≤ 140737488355328) (hcap : xs.length ≤ c) (hlen : (Lib.join (xs.map (·.data.toList)) sep.data.toList).length ≤ 140737488355328) :
  Calls Try.prog 52 #[.slice (some ⟨bk, o, none⟩) xs.length c, .string sep] w fun e w' => e = .returned (.string ⟨(Lib.join (xs.map (·.data.toList)) sep.data.toList).toArray⟩) ∧ Below w.heap.size w w' := Any.strings_Join Try.lays156 Try.Builder_Extra_156 bk o c xs sep w hcells hbk hN hcap hlen
def Try.lays192_ren : Go.Shelf.Ren := ⟨fun | 192 => 57 | 190 => 62 | 125 => 66 | 258 => 65 | 128 => 78 | 129 => 79 | 302 => 69 | 303 => 70 | 304 => 71 | 305 => 72 | 306 => 73 | 307 => 74 | 308 => 75 | 309 => 76 | 310 => 77 | 333 => 80 | 329 => 81 | 330 => 82 | 334 => 83 | 335 => 84 | 336 => 85 | 344 => 86 | n => n, fun | 31 => 22 | 0 => 0 | 9 => 9 | 3 => 3 | 46 => 96 | 51 => 109 | 53 => 71 | 4 => 4 | 183 => 102 | 182 => 101 | 131 => 62 | 5 => 5 | 218 => 111 | 222 => 115 | 228 => 117 | 229 => 118 | n => n, fun | n => n⟩
theorem Try.lays192 : Go.Proofs.Lays.n192 Try.prog Try.lays192_ren := {
 mixed := by kernel_rfl
 f125 := Try.func66.trans (congrArg some (by kernel_rfl))
 f128 := Try.func78.trans (congrArg some (by kernel_rfl))
 f129 := Try.func79.trans (congrArg some (by kernel_rfl))
 f190 := Try.func62.trans (congrArg some (by kernel_rfl))
 f192 := Try.func57.trans (congrArg some (by kernel_rfl))
 f258 := Try.func65.trans (congrArg some (by kernel_rfl))
 f302 := Try.func69.trans (congrArg some (by kernel_rfl))
 f303 := Try.func70.trans (congrArg some (by kernel_rfl))
 f304 := Try.func71.trans (congrArg some (by kernel_rfl))
 f305 := Try.func72.trans (congrArg some (by kernel_rfl))
 f306 := Try.func73.trans (congrArg some (by kernel_rfl))
 f307 := Try.func74.trans (congrArg some (by kernel_rfl))
 f308 := Try.func75.trans (congrArg some (by kernel_rfl))
 f309 := Try.func76.trans (congrArg some (by kernel_rfl))
 f310 := Try.func77.trans (congrArg some (by kernel_rfl))
 f329 := Try.func81.trans (congrArg some (by kernel_rfl))
 f330 := Try.func82.trans (congrArg some (by kernel_rfl))
 f333 := Try.func80.trans (congrArg some (by kernel_rfl))
 f334 := Try.func83.trans (congrArg some (by kernel_rfl))
 f335 := Try.func84.trans (congrArg some (by kernel_rfl))
 f336 := Try.func85.trans (congrArg some (by kernel_rfl))
 f344 := Try.func86.trans (congrArg some (by kernel_rfl))
 t0 := Try.underlying0
 a0 := Try.isAgg0
 z0 := Try.sizeOf0
 v0 := Try.zeroValue0
 t3 := Try.underlying3
 a3 := Try.isAgg3
 z3 := Try.sizeOf3
 v3 := Try.zeroValue3
 t4 := Try.underlying4
 a4 := Try.isAgg4
 z4 := Try.sizeOf4
 v4 := Try.zeroValue4
 t5 := Try.underlying5
 a5 := Try.isAgg5
 z5 := Try.sizeOf5
 v5 := Try.zeroValue5
 t9 := Try.underlying9
 a9 := Try.isAgg9
 z9 := Try.sizeOf9
 v9 := Try.zeroValue9
 t31 := Try.underlying22
 a31 := Try.isAgg22
 z31 := Try.sizeOf22
 v31 := Try.zeroValue22
 t46 := Try.underlying96
 a46 := Try.isAgg96
 z46 := Try.sizeOf96
 v46 := Try.zeroValue96
 t51 := Try.underlying109
 a51 := Try.isAgg109
 z51 := Try.sizeOf109
 v51 := Try.zeroValue109
 t53 := Try.underlying71
 a53 := Try.isAgg71
 z53 := Try.sizeOf71
 v53 := Try.zeroValue71
 t131 := Try.underlying62
 a131 := Try.isAgg62
 z131 := Try.sizeOf62
 v131 := Try.zeroValue62
 t182 := Try.underlying101
 a182 := Try.isAgg101
 z182 := Try.sizeOf101
 v182 := Try.zeroValue101
 t183 := Try.underlying102
 a183 := Try.isAgg102
 z183 := Try.sizeOf102
 v183 := Try.zeroValue102
 t218 := Try.underlying111
 a218 := Try.isAgg111
 z218 := Try.sizeOf111
 v218 := Try.zeroValue111
 t222 := Try.underlying115
 a222 := Try.isAgg115
 z222 := Try.sizeOf115
 v222 := Try.zeroValue115
 t228 := Try.underlying117
 a228 := Try.isAgg117
 z228 := Try.sizeOf117
 v228 := Try.zeroValue117
 t229 := Try.underlying118
 a229 := Try.isAgg118
 z229 := Try.sizeOf118
 v229 := Try.zeroValue118 }
open Go.Sort Go.RowKit in
theorem Try.sort_Strings (blk off cap : Nat) (ss : List (List UInt8)) (w : World) (hH : Holds encStr w blk off ss.toArray) (hblk : blk < w.heap.size) (hsz : ss.length < 4611686018427387904) :
  Calls Try.prog 57 #[.slice (some ⟨blk, off, none⟩) ss.length cap] w fun e w' =>
   e = .returned (.tuple #[]) ∧ ∃ n os, w' = grow (putRow encStr (Sort.ahead w n) blk off (ss.mergeSort fun x y => decide (x ≤ y)).toArray) os := Any.sort_Strings Try.lays192 blk off cap ss w hH hblk hsz
open Go.RowKit Go.Sort in
theorem Try.sort_Strings_none (p : Option Addr) (cap : Nat) (w : World) :
  Calls Try.prog 57 #[.slice p 0 cap] w fun e w' => e = .returned (.tuple #[]) ∧ w' = w := Any.sort_Strings_none Try.lays192 p cap w
end Go.Proofs
namespace Go.Proofs.Ytaembebbaejfiaa.Flat
open Go.RowKit Go.Proofs.YtaembebbaejfiaaW.PrintWords Go.Proofs.Ytaembebbaejfiaa.Str Go.Sort
set_option linter.unusedVariables false
set_option linter.unusedSimpArgs false
def flat {α : Type} (enc : α → List Value) (k : Nat) (hk : ∀ x, (enc x).length = k) (h1 : ∀ x, ∀ u ∈ enc x, u.oneCell' = true) : Kd α where
 sz := k
 E := []
 K := fun _ x cs => cs = enc x
 M := fun _ _ _ x cs => cs = enc x
 K_len := fun h => by rw [h]; exact hk _
 K_one := fun h u hu => by rw [h] at hu; exact h1 _ u hu
 K_below := fun _ h => h
 K_of_M := fun h => h
 M_mono := fun _ h => h
 M_bound := fun h => h
 M_move := fun _ h => h
 M_lower := fun _ h => h
section
variable {α : Type} {enc : α → List Value} {k : Nat} {hk : ∀ x, (enc x).length = k} {h1 : ∀ x, ∀ u ∈ enc x, u.oneCell' = true}
theorem reps_flat (hk : ∀ x, (enc x).length = k) : ∀ (xs : List α) (cs : List Value), Reps (fun x cs => cs = enc x) k xs cs → cs = xs.flatMap enc
 | [], cs, h => by
  have := h.1
  simp at this
  exact this
 | x :: r, cs, h => by
  have h0 := h.2 0 x rfl
  simp only [Nat.zero_mul, List.drop_zero] at h0
  have hr : Reps (fun x cs => cs = enc x) k r (cs.drop k) := by
   refine ⟨by rw [List.length_drop, h.1, List.length_cons, Nat.add_mul, Nat.one_mul]; omega, fun j p hp => ?_⟩
   have := h.2 (j + 1) p (by simpa using hp)
   rw [List.drop_drop, show k + j * k = (j + 1) * k by rw [Nat.add_mul, Nat.one_mul, Nat.add_comm]]
   exact this
  have ih := reps_flat hk r _ hr
  rw [List.flatMap_cons, ← h0, ← ih, List.take_append_drop]
theorem flat_reps (hk : ∀ x, (enc x).length = k) (xs : List α) : Reps (fun x cs => cs = enc x) k xs (xs.flatMap enc) := by
 have go : ∀ (r l : List α), Reps (fun x cs => cs = enc x) k l (l.flatMap enc) → Reps (fun x cs => cs = enc x) k (l ++ r) ((l ++ r).flatMap enc) := by
  intro r
  induction r with
  | nil => intro l h; simpa using h
  | cons p r ih =>
   intro l h
   have := ih (l ++ [p]) (by
    rw [List.flatMap_append]
    have : [p].flatMap enc = enc p := by simp
    rw [this]
    exact Reps.snoc h rfl (hk p))
   simpa using this
 exact go xs [] (Reps.none _ _)
theorem R_flat {e : Nat} {w : World} {base : Nat} {ok : Nat → Prop} {v : Value} {xs : List α} :
  (flat enc k hk h1).R e w base ok v xs ↔ (∀ b, v.ownBlock = some b → ok b) ∧ w.ownsRow base e k v xs.length (xs.flatMap enc) := by
 constructor
 ·rintro ⟨h0, inner, ho, hr⟩
  have := reps_flat hk _ _ hr
  subst this
  exact ⟨h0, ho⟩
 ·rintro ⟨h0, ho⟩
  exact ⟨h0, _, ho, flat_reps hk xs⟩
end
end Go.Proofs.Ytaembebbaejfiaa.Flat
namespace Go.Proofs.Ytaembebbaejfiaa.Tr
open Go.RowKit Go.Proofs.YtaembebbaejfiaaW.PrintWords Go.Proofs.YtaembebbaejfiaaW.PrintLast Go.Proofs.Ytaembebbaejfiaa.Str Go.Proofs.Ytaembebbaejfiaa.Kit Go.Proofs.Ytaembebbaejfiaa.Flat Go.Proofs.Ytaembebbaejfiaa.MapV Go.Proofs.Ytaembebbaejfiaa.Frame Go.Sort
set_option linter.unusedVariables false
set_option linter.unusedSimpArgs false
def Srt (ys : List BA) : Prop := ys.Pairwise fun x y => ¬ lb y < lb x
theorem srt_unique {xs ys : List BA} (hx : Srt xs) (hy : Srt ys) (hp : xs.Perm ys) : xs = ys := by
 refine List.Perm.eq_of_pairwise (le := fun x y => ¬ lb y < lb x) (fun a b _ _ h1 h2 => ?_) hx hy hp
 rcases lt_total (lb a) (lb b) with e | e | e
 ·exact absurd e h2
 ·exact lb_inj e
 ·exact absurd e h1
theorem fm_map (f : BA → Value) : ∀ xs : List BA, (xs.flatMap fun x => [f x]) = xs.map f
 | [] => rfl
 | x :: r => by rw [List.flatMap_cons, fm_map f r]; rfl
theorem enc_lb (ys : List BA) : (ys.map lb).map encStr = ys.map Value.string := by
 rw [List.map_map]
 exact List.map_congr_left (fun y _ => by show Value.string ⟨(lb y).toArray⟩ = _; rw [mk_lb])
def ofL (l : List (List UInt8)) : List BA := l.map fun b => ⟨b.toArray⟩
theorem ofL_enc (l : List (List UInt8)) : (ofL l).map Value.string = l.map encStr := by unfold ofL; rw [List.map_map]; rfl
theorem ofL_lb (ys : List BA) : ofL (ys.map lb) = ys := by
 unfold ofL
 rw [List.map_map]
 exact (List.map_congr_left (fun y _ => mk_lb y)).trans (List.map_id ys)
theorem ofL_srt {l : List (List UInt8)} (h : l.Pairwise fun x y => decide (x ≤ y) = true) : Srt (ofL l) := by
 unfold Srt ofL
 rw [List.pairwise_map]
 refine h.imp (fun {x y} hxy => ?_)
 rw [lb_mk, lb_mk]
 exact List.not_lt.2 (of_decide_eq_true hxy)
set_option maxHeartbeats 800000 in
theorem sort_own {base g n c : Nat} {ys : List BA} (w : World) (h : Kd.string.R 9 w base (fun _ => True) (.slice (some ⟨g, 0, none⟩) n c) ys) (hn : ys.length ≤ 1759218604400) :
  Calls Try.prog 57 #[.slice (some ⟨g, 0, none⟩) n c] w fun e w' => e = .returned (.tuple #[]) ∧ ∃ zs, Kd.string.R 9 w' base (fun _ => True) (.slice (some ⟨g, 0, none⟩) n c) zs ∧ zs.Perm ys ∧ Srt zs ∧ w.grownBy w' (some g) := by
 have h' : (flat (fun x : BA => [Value.string x]) 1 (fun _ => rfl) (fun x u hu => by rw [List.mem_singleton.1 hu]; rfl)).R 9 w base (fun _ => True) (.slice (some ⟨g, 0, none⟩) n c) ys := h
 rcases (R_flat.1 h').2.2 with ⟨hv, _⟩ | ⟨g', cap, cur, hv, hgb, hblk, hle, hcap, hcsz, htk⟩
 ·cases hv
 injection hv with e1 e2 e3
 injection e1 with e1
 injection e1 with e1
 subst e1 e2 e3
 rw [fm_map, Nat.mul_one, ← enc_lb] at htk
 have hL : (ys.map lb).length = ys.length := List.length_map _
 have hH := holds_of_block (ss := ys.map lb) hblk (by rw [hL]; exact htk)
 have CS := Any.sort_Strings Try.lays192 g 0 c (ys.map lb) w hH (cb_lt hblk) (by rw [hL]; omega)
 rw [hL] at CS
 refine CS.mono ?_
 rintro e w1 ⟨rfl, m, os, rfl⟩
 have hls : ((ys.map lb).mergeSort fun x y => decide (x ≤ y)).length = (ys.map lb).length := by rw [List.length_mergeSort]
 have HO := ownsRow_sorted (n := m) (os := os) hls hgb hblk (by rw [hL]; exact hle) hcap hcsz
 have HG := grownBy_sorted (w := w) (g := g) (n := m) (os := os) ((ys.map lb).mergeSort fun x y => decide (x ≤ y)).toArray
 refine ⟨rfl, ofL ((ys.map lb).mergeSort fun x y => decide (x ≤ y)), ?_, ?_, ?_, HG⟩
 ·refine (show (flat (fun x : BA => [Value.string x]) 1 (fun _ => rfl) (fun x u hu => by rw [List.mem_singleton.1 hu]; rfl)).R 9 _ base (fun _ => True) (.slice (some ⟨g, 0, none⟩) ys.length c) (ofL ((ys.map lb).mergeSort fun x y => decide (x ≤ y))) from R_flat.2 ⟨fun _ _ => trivial, ?_⟩)
  have hl2 : (ofL ((ys.map lb).mergeSort fun x y => decide (x ≤ y))).length = ys.length := by unfold ofL; rw [List.length_map, hls, hL]
  rw [fm_map, ofL_enc, hl2]
  have := HO
  rw [hL] at this
  exact this
 ·have := (List.mergeSort_perm (ys.map lb) (fun x y => decide (x ≤ y))).map (fun b : List UInt8 => (⟨b.toArray⟩ : BA))
  have e : (ys.map lb).map (fun b : List UInt8 => (⟨b.toArray⟩ : BA)) = ys := ofL_lb ys
  rw [e] at this
  exact this
 ·refine ofL_srt (List.pairwise_mergeSort (fun a b c h1 h2 => ?_) (fun a b => ?_) _)
  ·exact decide_eq_true (List.le_trans (of_decide_eq_true h1) (of_decide_eq_true h2))
  ·rcases List.le_total a b with h | h
   ·simp [h]
   ·simp [h]
end Go.Proofs.Ytaembebbaejfiaa.Tr
namespace Go.Proofs.Ytaembebbaejfiaa.Tr
open Go.RowKit Go.Proofs.YtaembebbaejfiaaW.PrintWords Go.Proofs.YtaembebbaejfiaaW.PrintLast Go.Proofs.Ytaembebbaejfiaa.Str Go.Proofs.Ytaembebbaejfiaa.Kit Go.Proofs.Ytaembebbaejfiaa.Flat Go.Proofs.Ytaembebbaejfiaa.MapV Go.Proofs.Ytaembebbaejfiaa.Frame Go.Proofs.Ytaembebbaejfiaa.PS
set_option linter.unusedVariables false
set_option linter.unusedSimpArgs false
theorem sort_any {base : Nat} {v : Value} {ys : List BA} (w : World) (h : Kd.string.R 9 w base (fun _ => True) v ys) (hn : ys.length ≤ 1759218604400) :
  Calls Try.prog 57 #[v] w fun e w' => e = .returned (.tuple #[]) ∧ ∃ zs, Kd.string.R 9 w' base (fun _ => True) v zs ∧ zs.Perm ys ∧ Srt zs ∧ w.grownBy w' v.ownBlock := by
 obtain ⟨A, c, rfl⟩ := Kd.R_slice h
 rcases Kd.R_base2 h with hb | ⟨k, hk, _⟩
 ·have h0 : ys = [] := by
   obtain ⟨_, inner, ho, hr⟩ := h
   rcases ho.2 with ⟨hv, hi⟩ | ⟨g, cap, cur, hv, _⟩
   ·injection hv with _ e2 _
    exact List.length_eq_zero_iff.1 e2
   ·rw [hv] at hb
    simp [Value.ownBlock] at hb
  subst h0
  refine (Any.sort_Strings_none Try.lays192 A c w).mono ?_
  rintro e w' ⟨rfl, rfl⟩
  exact ⟨rfl, [], h, List.Perm.refl _, List.Pairwise.nil, ⟨rfl, rfl, rfl, Nat.le_refl _, fun _ _ _ => rfl⟩⟩
 ·obtain ⟨g, rfl⟩ : ∃ g, A = some ⟨g, 0, none⟩ := by
   obtain ⟨_, inner, ho, hr⟩ := h
   rcases ho.2 with ⟨hv, hi⟩ | ⟨g, cap, cur, hv, _⟩
   ·rw [hv] at hk
    simp [Value.ownBlock] at hk
   ·injection hv with e1 _ _
    exact ⟨g, e1⟩
  exact sort_own w h hn
theorem left_same' {w w' : World} {b r : Nat} (hb : w'.heap[b]? = w.heap[b]?) (hr : w'.heap[r]? = w.heap[r]?) : w'.rangeLeft b r = w.rangeLeft b r := by
 unfold World.rangeLeft
 rw [hb, hr]
theorem str_own {e : TypeId} {w : World} {base : Nat} {ok : Nat → Prop} {v : Value} {xs : List BA} (h : Kd.string.R e w base ok v xs) : Kd.string.R e w base (fun k => v.ownBlock = some k) v xs := by
 have h' : (flat (fun x : BA => [Value.string x]) 1 (fun _ => rfl) (fun x u hu => by rw [List.mem_singleton.1 hu]; rfl)).R e w base ok v xs := h
 exact (show (flat (fun x : BA => [Value.string x]) 1 (fun _ => rfl) (fun x u hu => by rw [List.mem_singleton.1 hu]; rfl)).R e w base (fun k => v.ownBlock = some k) v xs from R_flat.2 ⟨fun b hb => hb, (R_flat.1 h').2⟩)
def kOf (l : List (Bs × Value)) : List BA := l.map (fun p => ⟨p.1.toArray⟩)
theorem kOf_length (l : List (Bs × Value)) : (kOf l).length = l.length := List.length_map ..
theorem kOf_srt {f : List (Bs × Value)} (h : Rises f) : Srt (kOf f) := by
 unfold Srt kOf
 rw [List.pairwise_map]
 refine List.Pairwise.imp (fun {x y} hxy => ?_) h
 rw [lb_mk, lb_mk]
 exact fun h2 => Std.lt_irrefl (Std.lt_trans hxy h2)
set_option maxHeartbeats 6400000 in
set_option maxRecDepth 100000 in
theorem from_map (zs : List (Bs × En)) (b : Nat) (w : World) (hn : zs.length ≤ 1759218604400) (hm : MapA w b (zs.map (fun z => (z.1, z.2.1)))) (hz : ∀ z, z ∈ zs → ∃ F, AR w z.2.1 z.2.2.1 F) (hch : ∀ z, z ∈ zs → FromAt z.2.2.1) :
  Calls Try.prog 51 #[.map (some b)] w (Told w (valOf (.map (zs.map (fun z => (z.1, z.2.2.1)))))) := by
 have HK := aM (MapE.key_le akey_u hm)
 have HRS := aM (MapE.rises (Go.Maps.string_keyed akey_u) hm)
 have HFL := aM (show (zs.map (fun z => (z.1, z.2.1))).length = zs.length from List.length_map ..)
 have HM := aM hm
 have HZ := aM hz
 have HCH := aM hch
 have hbl := hm.lt
 have HF := aM (show zs.map (fun z => (z.1, z.2.1)) = zs.map (fun z => (z.1, z.2.1)) from rfl)
 generalize hf : zs.map (fun z => (z.1, z.2.1)) = f at HK HRS HFL HM HF
 clear HF
 have HF := aM hf
 clear hf hm hz hch
 have hb0 := below_alloc (Below.refl w.heap.size w) (.cells #[.int .i64 0, .int .i64 0, .string ⟨#[]⟩, .slice none 0 0, .slice none 0 0] 36)
 have hB0 := below_alloc hb0 (.cells #[.int .i64 0, .int .i64 0, .string ⟨#[]⟩, .slice none 0 0, .slice none 0 0] 36)
 have hZ0 : ((w.alloc (.cells #[.int .i64 0, .int .i64 0, .string ⟨#[]⟩, .slice none 0 0, .slice none 0 0] 36)).alloc (.cells #[.int .i64 0, .int .i64 0, .string ⟨#[]⟩, .slice none 0 0, .slice none 0 0] 36)).heap[w.heap.size]? = some (.cells zI 36 (0, 0)) := blk_alloc (cb_new _ _) _
 have h1 := cb_new (w.alloc (.cells #[.int .i64 0, .int .i64 0, .string ⟨#[]⟩, .slice none 0 0, .slice none 0 0] 36)) (.cells #[.int .i64 0, .int .i64 0, .string ⟨#[]⟩, .slice none 0 0, .slice none 0 0] 36)
 rw [World.size_alloc] at h1
 have hg := grown_setRow ((w.alloc (.cells #[.int .i64 0, .int .i64 0, .string ⟨#[]⟩, .slice none 0 0, .slice none 0 0] 36)).alloc (.cells #[.int .i64 0, .int .i64 0, .string ⟨#[]⟩, .slice none 0 0, .slice none 0 0] 36)) (w.heap.size + 1) #[.int .i64 5, .int .i64 0, .string ⟨#[]⟩, .slice none 0 0, .slice none 0 0]
 have HX1 := aM (setRow_heap _ (w.heap.size + 1) _ #[.int .i64 5, .int .i64 0, .string ⟨#[]⟩, .slice none 0 0, .slice none 0 0] _ _ h1)
 have HB1 := aM (pw_below_grown hB0 (some (w.heap.size + 1)) hB0.size hg (fun k hk => by injection hk with hk; have h2 : w.heap.size + 1 = k := hk; omega))
 have HZ1 := aM ((hg.block w.heap.size (cb_lt hZ0) (fun e => by injection e with e; omega)).trans hZ0)
 have HM1 := aM (HM.out.below HB1.out)
 have hs1 : (((w.alloc (.cells #[.int .i64 0, .int .i64 0, .string ⟨#[]⟩, .slice none 0 0, .slice none 0 0] 36)).alloc (.cells #[.int .i64 0, .int .i64 0, .string ⟨#[]⟩, .slice none 0 0, .slice none 0 0] 36)).setRow (w.heap.size + 1) #[.int .i64 5, .int .i64 0, .string ⟨#[]⟩, .slice none 0 0, .slice none 0 0]).heap.size = w.heap.size + 2 := by simp [World.setRow]
 clear hb0 hB0 hZ0 hg
 go_enter Try.func51, Try.ntmps51
 go_wp2_with (first | (refine store_ival (.tmp 4) (.tmp 10) rfl rfl rfl rfl h1 ?_; generalize ((w.alloc (.cells #[.int .i64 0, .int .i64 0, .string ⟨#[]⟩, .slice none 0 0, .slice none 0 0] 36)).alloc (.cells #[.int .i64 0, .int .i64 0, .string ⟨#[]⟩, .slice none 0 0, .slice none 0 0] 36)).setRow (w.heap.size + 1) #[.int .i64 5, .int .i64 0, .string ⟨#[]⟩, .slice none 0 0, .slice none 0 0] = W1 at HX1 HB1 HZ1 HM1 hs1 ⊢; clear h1) | (at_range; refine range_mapE akey_u amap_u rfl _ rfl rfl HM1.out ?_; intro w0 hrg0 hg0 hs0; rw [hs1] at hrg0 hs0; have HR0 := aM hrg0; have HG0 := aM hg0; have HS0 := aM hs0; clear hrg0 hg0 hs0))
 go_frame
 rw [hs1]
 have HX0 := aM ((HG0.out.block (w.heap.size + 1) (by omega) (by simp)).trans HX1.out)
 have HZ0 := aM ((HG0.out.block w.heap.size (by omega) (by simp)).trans HZ1.out)
 have HB0 := aM (pw_below_grown HB1.out none HB1.out.size HG0.out (fun k hk => by cases hk))
 have hs0 := HS0.out
 clear HG0 HX1 HZ1 HB1 HM1 HS0
 go_loopw [5] (fun v5 wr => ∃ (dn lf : List (Bs × Value)) (A0 : Option Addr) (c0 : Nat), Aside0 (Ranges Try.prog 9 id wr b (w.heap.size + 2) f lf) ∧ Aside0 (wr.heap[w.heap.size + 1]? = some (.cells #[.int .i64 5, .int .i64 0, .string ⟨#[]⟩, .slice A0 dn.length c0, .slice none 0 0] 36 (0, 0))) ∧ Aside0 (Kd.string.R 9 wr (w.heap.size + 3) (fun _ => True) (.slice A0 dn.length c0) (kOf dn)) ∧ Aside0 ((dn ++ lf).Perm f) ∧ Aside0 (Below w.heap.size w wr) ∧ Aside0 (wr.heap[w.heap.size]? = some (.cells zI 36 (0, 0))) ∧ w.heap.size + 3 ≤ wr.heap.size) (fun _ wr => wr.rangeLeft b (w.heap.size + 2))
 case atStart => exact ⟨[], f, none, 0, HR0, HX0, ⟨Kd.R_nil _ _ _ _ _⟩, ⟨List.Perm.refl _⟩, HB0, HZ0, by omega⟩
 case round =>
  clear HR0 HX0 HB0 HZ0 hs0
  obtain ⟨dn, lf, A0, c0, HR, HX, HV, HP, HB, HZ0, hsz⟩ := hrel
  have hcell : wr.cell? ⟨w.heap.size + 1, 3, none⟩ = some (.slice A0 dn.length c0) := cb_cell (i := 3) HX.out rfl
  have hlen : dn.length + lf.length = zs.length := by rw [← HFL.out, ← HP.out.length_eq, List.length_append]
  have HL := aM hlen
  clear hlen
  go_wp2_with (first | (at_next; refine next_mapA akey_u rfl _ rfl rfl HR.out (fun hd => ?_) (fun x c w2 hx hen => ?_); rotate_left; (have HX2 := aM (show w2.heap[w.heap.size + 1]? = some (.cells #[.int .i64 5, .int .i64 0, .string ⟨#[]⟩, .slice A0 dn.length c0, .slice none 0 0] 36 (0, 0)) from (hx.out.2.2.2.2.1.block _ (cb_lt HX.out) (by simp)).trans HX.out)); (have hc2 : w2.cell? ⟨w.heap.size + 1, 3, none⟩ = some (.slice A0 dn.length c0) := cb_cell (i := 3) HX2.out rfl); (have HV2 := aM (Kd.R_mono (ok' := fun _ => True) (Kd.R_grown (Kd.R_bound HV.out) hx.out.2.2.2.2.1 (fun k hk e => by have h2 := Option.some.inj e; have h3 := hk.2.1; omega)) (fun _ _ => trivial))); (have HB2 := aM (pw_below_grown HB.out (some (w.heap.size + 2)) HB.out.size hx.out.2.2.2.2.1 (fun k hk => by injection hk with hk; omega))); (have hsz2 : w.heap.size + 3 ≤ w2.heap.size := by have := hx.out.2.2.2.2.2; omega); (have hfit : ((kOf dn).length + 1) * 16 ≤ 140737488355328 := by rw [kOf_length]; have := HL.out; omega); rotate_right) | (at_builtin; refine Kd.R_append Kd.string (w0 := w2) (w.heap.size + 3) rfl (.tmp 18) (.tmp 20) 22 9 (.string ⟨#[]⟩) 16 rfl Try.underlying22 info_string rfl (show 0 < 1 by decide) (by decide) (.slice A0 dn.length c0) (kOf dn) x [.string x] (fun _ => True) (fun _ => False) rfl rfl rfl (fun _ h => h.elim) (fun _ _ => trivial) HV2.out (Below.refl _ _) hsz2 hfit ?_; intro v1 w3 ho hb3 hg3 hat; obtain ⟨A1, c1, rfl⟩ := Kd.R_slice ho; have HV3 := aM ho; have HB3 := aM hb3; have HG3 := aM hg3; clear ho hb3 hg3 hat; have HX3 := aM ((HB3.out.block (w.heap.size + 1) (by omega)).trans HX2.out); have hc3 : w3.cell? ⟨w.heap.size + 1, 3, none⟩ = some (.slice A0 dn.length c0) := cb_cell (i := 3) HX3.out rfl; have hf3 := cb_frozen (i := 3) HX3.out))
  ·-- all have come: they are sorted; then a value each
   have hpf : dn.Perm f := by have := HP.out; rw [hd.out, List.append_nil] at this; exact this
   have hdl : dn.length = zs.length := by rw [← HFL.out]; exact hpf.length_eq
   have HPK := aM (show (kOf dn).Perm (kOf f) from hpf.map _)
   rw [hdl] at HX HV ⊢
   clear hpf hd hcell HL HP HR hdl
   refine (sort_any wr HV.out (by rw [HPK.out.length_eq, kOf_length, HFL.out]; exact hn)).mono ?_
   rintro e w5 ⟨rfl, ys, hys, hpm, hsr, hg5⟩
   obtain rfl : ys = kOf f := srt_unique hsr (kOf_srt HRS.out) (hpm.trans HPK.out)
   have hown : ∀ k, (Value.slice A0 zs.length c0).ownBlock = some k → w.heap.size + 3 ≤ k ∧ k < wr.heap.size := fun k hk => ⟨((Kd.R_bound HV.out).1 k hk).2.1, ((Kd.R_bound HV.out).1 k hk).2.2.1⟩
   have hHX5 := (hg5.block (w.heap.size + 1) (by omega) (fun e => by have := hown _ e.symm; omega)).trans HX.out
   have HX5 := aM hHX5
   have HZ5 := aM ((hg5.block w.heap.size (by omega) (fun e => by have := hown _ e.symm; omega)).trans HZ0.out)
   have HB5 := aM (pw_below_grown HB.out _ HB.out.size hg5 (fun k hk => by have := hown k hk; omega))
   have HV5 := aM hys
   have hc5 : w5.cell? ⟨w.heap.size + 1, 3, none⟩ = some (.slice A0 zs.length c0) := cb_cell (i := 3) hHX5 rfl
   clear hys hpm hsr hown hHX5 HX HZ0 HB HV HPK hg5
   go_wp2
   go_loopw [29, 7, 8, 9] (fun v29 v7 v8 v9 wq => ∃ (i : Nat) (A2 : Option Addr) (c2 : Nat), v29 = .int .i64 i ∧ i ≤ zs.length ∧ Aside0 (wq.heap[w.heap.size + 1]? = some (.cells #[.int .i64 5, .int .i64 0, .string ⟨#[]⟩, .slice A0 zs.length c0, .slice A2 i c2] 36 (0, 0))) ∧ Aside0 (Kd.string.R 9 wq (w.heap.size + 3) (fun _ => True) (.slice A0 zs.length c0) (kOf f)) ∧ Aside0 (kI.R 36 wq (w.heap.size + 3) (fun k => some k ≠ (Value.slice A0 zs.length c0).ownBlock) (.slice A2 i c2) ((zs.take i).map (fun z => valOf z.2.2.1))) ∧ Aside0 (Below w.heap.size w wq) ∧ Aside0 (wq.heap[w.heap.size]? = some (.cells zI 36 (0, 0)))) (fun v29 _ _ _ _ => zs.length - (intOf v29).toNat)
   case atStart => exact ⟨0, none, 0, rfl, by omega, HX5, HV5, ⟨Kd.R_nil _ _ _ _ _⟩, HB5, HZ5⟩
   case round =>
    clear HX5 HV5 HB5 HZ5 hc5
    obtain ⟨i, A2, c2, rfl, hiv, HX, HV, HR, HB, HZ0⟩ := hrel
    have q0 : (0 : Int) ≤ (i : Int) := by omega
    have hown : ∀ k, (Value.slice A0 zs.length c0).ownBlock = some k → w.heap.size + 3 ≤ k ∧ k < wr.heap.size := fun k hk => ⟨((Kd.R_bound HV.out).1 k hk).2.1, ((Kd.R_bound HV.out).1 k hk).2.2.1⟩
    by_cases hlv : i < zs.length
    ·have q2 : (i : Int) < (zs.length : Int) := by omega
     have hkl : (kOf f).length = zs.length := by rw [kOf_length, HFL.out]
     obtain ⟨hn0, hnc, hC⟩ := Kd.R_reads' HV.out
     obtain ⟨kb, ko, rfl, hkb, hkc⟩ := strs_open hC (by omega)
     have hf1 : (zs[i]'hlv).1 = (zs[i]'hlv).1 := rfl
     have hfm : ((zs[i]'hlv).1, (zs[i]'hlv).2.1) ∈ f := by rw [← HF.out]; exact List.mem_map.2 ⟨zs[i]'hlv, List.getElem_mem hlv, rfl⟩
     have e0 : wr.cell? ⟨kb, ko + i, none⟩ = some (.string ⟨(zs[i]'hlv).1.toArray⟩) := by
      have h := hkc i (by omega)
      have h2 : (kOf f)[i]'(by omega) = ⟨(zs[i]'hlv).1.toArray⟩ := by
       have : f[i]'(by rw [HFL.out]; exact hlv) = ((zs[i]'hlv).1, (zs[i]'hlv).2.1) := by simp [← HF.out]
       unfold kOf
       rw [List.getElem_map, this]
      rw [h2] at h
      exact h
     have hks : (⟨(zs[i]'hlv).1.toArray⟩ : BA).size ≤ maxLen := by have := HK.out _ hfm; simpa [ByteArray.size] using this
     have hlk := run_look_mapE (s := ⟨(zs[i]'hlv).1.toArray⟩) akey_u amap_u (Try.zeroValue20 wr) (HM.out.below HB.out) hks
     rw [lb_mk, mget_of_mem HRS.out hfm] at hlk
     have CA := aM (show ∀ (W : World) (hb : Below w.heap.size w W), Calls Try.prog 42 #[(zs[i]'hlv).2.1] W (Told W (valOf (zs[i]'hlv).2.2.1)) from fun W hb => by obtain ⟨F, hF⟩ := HZ.out zs[i] (List.getElem_mem hlv); exact HCH.out zs[i] (List.getElem_mem hlv) zs[i].2.1 _ W (hF.keep hb))
     clear hkl hn0 hnc hC hkc hf1 hfm hks
     go_wp2_with fail
     refine (CA.out wr HB.out).mono ?_
     rintro e w3 ⟨v3, v4, rfl, hv3, hv4, hb3⟩
     have HXE := aM (show (zs.take (i + 1)).map (fun z => valOf z.2.2.1) = ((zs.take i).map (fun z => valOf z.2.2.1)) ++ [valOf (zs[i]'hlv).2.2.1] by rw [List.take_succ_eq_append_getElem hlv, List.map_append]; rfl)
     generalize valOf (zs[i]'hlv).2.2.1 = x at hv3 hv4 HXE
     obtain ⟨x0, x1, x2, x3, x4⟩ := x
     obtain ⟨A3, c3, rfl⟩ := Kd.R_slice hv3
     obtain ⟨A4, c4, rfl⟩ := Kd.R_slice hv4
     have hW := below_alloc hb3 (.cells #[.int .i64 0, .int .i64 0, .string ⟨#[]⟩, .slice none 0 0, .slice none 0 0] 36)
     have h5 := cb_new w3 (.cells #[.int .i64 0, .int .i64 0, .string ⟨#[]⟩, .slice none 0 0, .slice none 0 0] 36)
     have hg5 := grown_setRow (w3.alloc (.cells #[.int .i64 0, .int .i64 0, .string ⟨#[]⟩, .slice none 0 0, .slice none 0 0] 36)) w3.heap.size #[.int .i64 x0, .int .i64 x1, .string x2, .slice A3 x3.length c3, .slice A4 x4.length c4]
     have hb5 := pw_below_grown hW (some w3.heap.size) hW.size hg5 (fun k hk => by injection hk with hk; have := hb3.size; omega)
     have h6 := setRow_heap _ w3.heap.size _ #[.int .i64 x0, .int .i64 x1, .string x2, .slice A3 x3.length c3, .slice A4 x4.length c4] _ _ h5
     have hm5 : ∀ k, k < w3.heap.size → ((w3.alloc (.cells #[.int .i64 0, .int .i64 0, .string ⟨#[]⟩, .slice none 0 0, .slice none 0 0] 36)).setRow w3.heap.size #[.int .i64 x0, .int .i64 x1, .string x2, .slice A3 x3.length c3, .slice A4 x4.length c4]).heap[k]? = w3.heap[k]? := fun k hk => (hg5.block k (by rw [World.size_alloc]; omega) (fun e => by injection e with e; omega)).trans ((below_alloc (Below.refl w3.heap.size w3) _).block k hk)
     have hwr := (cb_lt HX.out)
     have hwr2 : w.heap.size + 3 ≤ wr.heap.size := by have := hown kb rfl; omega
     have HX5 := aM ((hb5.block _ (cb_lt HX.out)).trans HX.out)
     have x4_ := cb_cell (i := 4) HX5.out rfl
     have HZ5 := aM ((hb5.block _ (cb_lt HZ0.out)).trans HZ0.out)
     have HV5 := aM (Kd.R_below HV.out hb5)
     have HR5 := aM (Kd.R_below HR.out hb5)
     have HB5 := aM (hb_then HB.out hb5)
     have HM5 := aM (k36_mkM ((w3.alloc (.cells #[.int .i64 0, .int .i64 0, .string ⟨#[]⟩, .slice none 0 0, .slice none 0 0] 36)).setRow w3.heap.size #[.int .i64 x0, .int .i64 x1, .string x2, .slice A3 x3.length c3, .slice A4 x4.length c4]) (w.heap.size + 3) (fun k => wr.heap.size ≤ k ∧ k < w3.heap.size) ⟨x0, x1, x2, x3, x4⟩
      (Kd.R_lower (Kd.R_move (Kd.R_mono (ok' := (fun k => wr.heap.size ≤ k ∧ k < w3.heap.size)) (Kd.R_bound hv3) (fun k hk => ⟨hk.2.1, hk.2.2.1⟩)) (fun k hk => hm5 k hk.2)) hwr2)
      (Kd.R_lower (Kd.R_move (Kd.R_mono (ok' := (fun k => wr.heap.size ≤ k ∧ k < w3.heap.size)) (Kd.R_bound hv4) (fun k hk => ⟨hk.2.1, hk.2.2.1⟩)) (fun k hk => hm5 k hk.2)) hwr2))
     have HOK := aM (show ∀ k, wr.heap.size ≤ k ∧ k < w3.heap.size → (some k ≠ (Value.slice (some ⟨kb, ko, none⟩) zs.length c0).ownBlock) ∧ some k ≠ (Value.slice A2 i c2).ownBlock from fun k hk => ⟨fun e => by have := hown k e.symm; omega, fun e => by have := ((Kd.R_bound HR.out).1 k e.symm).2.2.1; omega⟩)
     have hsz : w.heap.size + 3 ≤ ((w3.alloc (.cells #[.int .i64 0, .int .i64 0, .string ⟨#[]⟩, .slice none 0 0, .slice none 0 0] 36)).setRow w3.heap.size #[.int .i64 x0, .int .i64 x1, .string x2, .slice A3 x3.length c3, .slice A4 x4.length c4]).heap.size := Nat.le_trans hwr2 hb5.size
     have hfr : ∀ k, ((w3.alloc (.cells #[.int .i64 0, .int .i64 0, .string ⟨#[]⟩, .slice none 0 0, .slice none 0 0] 36)).setRow w3.heap.size #[.int .i64 x0, .int .i64 x1, .string x2, .slice A3 x3.length c3, .slice A4 x4.length c4]).heap.size ≤ k → some k ≠ (Value.slice (some ⟨kb, ko, none⟩) zs.length c0).ownBlock := fun k hk e => by have h1 := hown k e.symm; have h2 := hb5.size; omega
     have HFR := aM hfr
     have hlow : ∀ k, (Value.slice (some ⟨kb, ko, none⟩) zs.length c0).ownBlock = some k → w.heap.size + 3 ≤ k := fun k hk => (hown k hk).1
     clear hv3 hv4 hW hg5 hb5 hm5 HX HV HR HB HZ0 hwr hwr2 hown hfr
     go_wp2_with (first | (refine store_ival (.tmp 8) (.tmp 38) rfl rfl rfl rfl h5 ?_; generalize (w3.alloc (.cells #[.int .i64 0, .int .i64 0, .string ⟨#[]⟩, .slice none 0 0, .slice none 0 0] 36)).setRow w3.heap.size #[.int .i64 x0, .int .i64 x1, .string x2, .slice A3 x3.length c3, .slice A4 x4.length c4] = W5 at h6 x4_ HX5 HZ5 HV5 HR5 HB5 HM5 HFR hsz ⊢; clear h5) | refine load_ival (.tmp 8) rfl rfl rfl h6 ?_ | refine Kd.R_append kI (w0 := W5) (w.heap.size + 3) rfl (.tmp 44) (.tmp 46) 34 36 (.agg #[.int .i64 0, .int .i64 0, .string ⟨#[]⟩, .slice none 0 0, .slice none 0 0]) 80 rfl Try.underlying34 info_iv rfl (show 0 < 5 by decide) (by decide) (.slice A2 i c2) ((zs.take i).map (fun z => valOf z.2.2.1)) ⟨x0, x1, x2, x3, x4⟩ _ (fun k => some k ≠ (Value.slice (some ⟨kb, ko, none⟩) zs.length c0).ownBlock) _ rfl rfl HM5.out HOK.out HFR.out HR5.out (Below.refl _ _) hsz (by rw [List.length_map, List.length_take]; omega) ?_)
     intro v1 w6 ho hb6 hg6 hat
     rw [← List.map_take, ← HXE.out] at ho
     have hlen : ((zs.take (i + 1)).map (fun z => valOf z.2.2.1)).length = i + 1 := by rw [List.length_map, List.length_take]; omega
     obtain ⟨A5, c5, rfl⟩ := Kd.R_slice ho
     rw [hlen] at ho hat ⊢
     have hB6 := pw_below_grown HB5.out (Value.slice A2 i c2).ownBlock HB5.out.size hg6 (fun k hk => by have := Kd.R_base HR5.out k hk; omega)
     have hX6 := (hb6.block (w.heap.size + 1) (by omega)).trans HX5.out
     have hZ6 := (hb6.block w.heap.size (by omega)).trans HZ5.out
     have hV6 := Kd.R_mono (ok' := fun _ => True) (Kd.R_grown (str_own HV5.out) hg6 (fun k hk e => HR5.out.1 k e.symm hk.symm)) (fun _ _ => trivial)
     have HX7 := aM (cb_set hX6 (i := 4) (.slice A5 (i + 1) c5))
     have hg7 := grown_setCell w6 (w.heap.size + 1) 4 (.slice A5 (i + 1) c5)
     have HB7 := aM (pw_below_grown hB6 (some (w.heap.size + 1)) hB6.size hg7 (fun k hk => by injection hk with hk; omega))
     have HZ7 := aM ((hg7.block w.heap.size (cb_lt hZ6) (fun e => by injection e with e; omega)).trans hZ6)
     have HV7 := aM (Kd.R_mono (ok' := fun _ => True) (Kd.R_grown (Kd.R_bound hV6) hg7 (fun k hk e => by have h2 := Option.some.inj e; have h3 := hk.2.1; omega)) (fun _ _ => trivial))
     have HR7 := aM (Kd.R_mono (ok' := fun k => some k ≠ (Value.slice (some ⟨kb, ko, none⟩) zs.length c0).ownBlock) (Kd.R_move (Kd.R_bound ho) (fun k hk => hg7.block k hk.2.2.1 (fun e => by have h2 := Option.some.inj e; have h3 := hk.2.1; omega))) (fun _ hk => hk.1))
     have y4 := cb_cell (i := 4) hX6 rfl
     have y5 := cb_frozen (i := 4) hX6
     clear ho hat hlen hB6 hX6 hZ6 hV6 hb6 hg6 hg7 HX5 HZ5 HV5 HR5 HB5 HM5 HOK HXE CA x4_ h6 hsz HFR
     go_wp2
     go_roundw
     case rel => exact ⟨i + 1, A5, c5, by go_num, by omega, HX7, HV7, HR7, HB7, HZ7⟩
     case measure => simp [intOf]; omega
    ·have hin : i = zs.length := by omega
     subst hin
     have hg8 := grown_setRow wr w.heap.size #[.int .i64 5, .int .i64 0, .string ⟨#[]⟩, .slice A0 zs.length c0, .slice A2 zs.length c2]
     have HX8 := aM (setRow_heap _ w.heap.size _ #[.int .i64 5, .int .i64 0, .string ⟨#[]⟩, .slice A0 zs.length c0, .slice A2 zs.length c2] _ _ HZ0.out)
     have HB8 := aM (pw_below_grown HB.out (some w.heap.size) HB.out.size hg8 (fun k hk => by injection hk with hk; omega))
     have hR := HR.out
     rw [List.take_length] at hR
     have HR8 := aM (Kd.R_lower (base' := w.heap.size) (Kd.R_mono (ok' := fun _ => True) (Kd.R_move (Kd.R_bound hR) (fun k hk => hg8.block k hk.2.2.1 (fun e => by have h2 := Option.some.inj e; have h3 := hk.2.1; omega))) (fun _ _ => trivial)) (by omega))
     have hKO : kOf f = (zs.map (fun z => (z.1, z.2.2.1))).map (fun p => (⟨p.1.toArray⟩ : BA)) := by rw [← HF.out]; unfold kOf; rw [List.map_map, List.map_map]; rfl
     have HV8 := aM (Kd.R_lower (base' := w.heap.size) (Kd.R_mono (ok' := fun _ => True) (Kd.R_move (Kd.R_bound HV.out) (fun k hk => hg8.block k hk.2.2.1 (fun e => by have h2 := Option.some.inj e; have h3 := hk.2.1; omega))) (fun _ _ => trivial)) (by omega))
     rw [hKO] at HV8
     have h11 := HX.out
     have h2 := HZ0.out
     clear hR hg8 hown hKO
     go_wp2_with (first | refine load_ival (.tmp 4) rfl rfl rfl h11 ?_ | refine store_ival (.tmp 2) (.tmp 50) rfl rfl rfl rfl h2 ?_)
     exact bodyPost_ret (v := .tuple #[.agg #[.int .i64 5, .int .i64 0, .string ⟨#[]⟩, .slice A0 zs.length c0, .slice A2 zs.length c2], .bool true]) (told_row rfl rfl rfl HX8.out) rfl ⟨.slice A0 zs.length c0, .slice A2 zs.length c2, by simp [valOf], by simp only [valOf]; exact HV8.out, by simp only [valOf]; rw [valM_map, List.map_map]; exact HR8.out, HB8.out⟩
  ·-- a key more
   have hl : (kOf dn).length + 1 = (dn ++ [(lb x, c)]).length := by rw [kOf_length, List.length_append, List.length_singleton]
   have hk : kOf dn ++ [x] = kOf (dn ++ [(lb x, c)]) := by unfold kOf; rw [List.map_append]; simp
   have hown : ∀ k, (Value.slice A0 dn.length c0).ownBlock = some k → w.heap.size + 3 ≤ k := fun k hk => ((Kd.R_bound HV2.out).1 k hk).2.1
   have nb : ∀ j, j < w.heap.size + 3 → some j ≠ (Value.slice A0 dn.length c0).ownBlock := fun j hj e => by have := hown j e.symm; omega
   rw [hk] at HV3
   rw [hl]
   rw [show (kOf (dn ++ [(lb x, c)])).length = (dn ++ [(lb x, c)]).length from kOf_length _] at HV3
   have hg7 := grown_setCell w3 (w.heap.size + 1) 3 (.slice A1 (dn ++ [(lb x, c)]).length c1)
   have HG7 := aM hg7
   have hHB3 : Below w.heap.size w w3 := pw_below_grown HB2.out _ HB2.out.size HG3.out (fun k hk => by have := hown k hk; omega)
   have hpm : lf.Perm ((lb x, c) :: mdel lf (lb x)) := rises_take ((HRS.out.sublist HR.out.sub).imp (fun {p q} h => lt_ne h)) hx.out.1
   clear hl hk
   go_roundw
   case rel =>
    refine ⟨dn ++ [(lb x, c)], mdel lf (lb x), A1, c1, ⟨?_⟩, ⟨cb_set HX3.out _⟩, ⟨?_⟩, ⟨?_⟩, ⟨?_⟩, ⟨?_⟩, ?_⟩
    ·exact (hx.out.2.2.1.kept HG3.out (nb _ (by omega)) (nb _ (by omega))).kept hg7 (fun e => by have := Option.some.inj e; omega) (fun e => by have := Option.some.inj e; omega)
    ·exact Kd.R_mono (Kd.R_grown (Kd.R_bound HV3.out) hg7 (fun k hk e => by have h2 := Option.some.inj e; have h3 := hk.2.1; omega)) (fun _ _ => trivial)
    ·rw [List.append_assoc]
     exact ((hpm.symm).append_left dn).trans HP.out
    ·exact pw_below_grown hHB3 (some (w.heap.size + 1)) hHB3.size hg7 (fun k hk => by have := Option.some.inj hk; omega)
    ·exact (hg7.block w.heap.size (by have := HG3.out.size; omega) (fun e => by have := Option.some.inj e; omega)).trans ((HB3.out.block w.heap.size (by omega)).trans ((hx.out.2.2.2.2.1.block w.heap.size (by omega) (fun e => by have := Option.some.inj e; omega)).trans HZ0.out))
    ·have h1 := hg7.size; have h2 := HG3.out.size; omega
   case measure =>
    have e1 := left_same' (b := b) (r := w.heap.size + 2) (w := w2) (w' := w3.setCell ⟨w.heap.size + 1, 3, none⟩ (.slice A1 (dn ++ [(lb x, c)]).length c1)) ?_ ?_
    ·rw [e1]; exact hx.out.2.2.2.1
    ·rw [hg7.block b (by have := hHB3.size; omega) (fun e => by have := Option.some.inj e; omega), HG3.out.block b (by omega) (nb _ (by omega))]
    ·rw [hg7.block _ (by have := HG3.out.size; omega) (fun e => by have := Option.some.inj e; omega), HG3.out.block _ (by omega) (nb _ (by omega))]
end Go.Proofs.Ytaembebbaejfiaa.Tr
namespace Go.Proofs.Ytaembebbaejfiaa.Tr
open Go.RowKit Go.Proofs.YtaembebbaejfiaaW.PrintWords Go.Proofs.YtaembebbaejfiaaW.PrintLast Go.Proofs.Ytaembebbaejfiaa.Str Go.Proofs.Ytaembebbaejfiaa.Kit Go.Proofs.Ytaembebbaejfiaa.MapV Go.Proofs.Ytaembebbaejfiaa.Frame Go.Proofs.Ytaembebbaejfiaa.PS
set_option linter.unusedVariables false
set_option linter.unusedSimpArgs false
theorem t_map_bool (v : Value) (w : World) : (Instr.typeAssert (.iface 65 v) 20 4 true).run Try.prog w = .ok (.tuple #[.bool false, .bool false]) w := by kernel_rfl
theorem t_map_int (v : Value) (w : World) : (Instr.typeAssert (.iface 65 v) 20 3 true).run Try.prog w = .ok (.tuple #[.int .i64 0, .bool false]) w := by kernel_rfl
theorem t_map_i64 (v : Value) (w : World) : (Instr.typeAssert (.iface 65 v) 20 2 true).run Try.prog w = .ok (.tuple #[.int .i64 0, .bool false]) w := by kernel_rfl
theorem t_map_u64 (v : Value) (w : World) : (Instr.typeAssert (.iface 65 v) 20 71 true).run Try.prog w = .ok (.tuple #[.int .u64 0, .bool false]) w := by kernel_rfl
theorem t_map_str (v : Value) (w : World) : (Instr.typeAssert (.iface 65 v) 20 9 true).run Try.prog w = .ok (.tuple #[.string ⟨#[]⟩, .bool false]) w := by kernel_rfl
theorem t_map_lst (v : Value) (w : World) : (Instr.typeAssert (.iface 65 v) 20 58 true).run Try.prog w = .ok (.tuple #[.slice none 0 0, .bool false]) w := by kernel_rfl
theorem t_map_map (v : Value) (w : World) : (Instr.typeAssert (.iface 65 v) 20 65 true).run Try.prog w = .ok (.tuple #[v, .bool true]) w := by kernel_rfl
inductive FitsY : Y → Prop
 | null : FitsY .null
 | bool (b) : FitsY (.bool b)
 | int (n) : FitsY (.int n)
 | text (s) : FitsY (.text s)
 | list (l : List Y) (hl : l.length ≤ 1759218604400) (h : ∀ y, y ∈ l → FitsY y) : FitsY (.list l)
 | map (m : List (Bs × Y)) (hl : m.length ≤ 1759218604400) (hk : ∀ p, p ∈ m → p.1.length ≤ maxLen) (h : ∀ p, p ∈ m → FitsY p.2) : FitsY (.map m)
set_option maxHeartbeats 1600000 in
theorem from_amap (b : Nat) (w : World) (y : Y) (hm : ∀ W, Below w.heap.size w W → Calls Try.prog 51 #[.map (some b)] W (Told W (valOf y))) :
  Calls Try.prog 42 #[.iface 65 (.map (some b))] w (Told w (valOf y)) := by
 have f0 := t_map_bool
 have f1 := t_map_int
 have f2 := t_map_i64
 have f3 := t_map_u64
 have f4 := t_map_str
 have f5 := t_map_lst
 have f6 := t_map_map
 have h0 := aM (cb_new w (.cells #[.int .i64 0, .int .i64 0, .string ⟨#[]⟩, .slice none 0 0, .slice none 0 0] 36))
 have HB := aM (below_alloc (Below.refl w.heap.size w) (.cells #[.int .i64 0, .int .i64 0, .string ⟨#[]⟩, .slice none 0 0, .slice none 0 0] 36))
 have CM := aM (hm _ HB.out)
 clear hm
 generalize valOf y = x at CM
 obtain ⟨x0, x1, x2, x3, x4⟩ := x
 go_enter Try.func42, Try.ntmps42
 go_wp2_with fail
 refine CM.out.mono ?_
 rintro e w3 ⟨v3, v4, rfl, hv3, hv4, hb3⟩
 obtain ⟨A3, c3, rfl⟩ := Kd.R_slice hv3
 obtain ⟨A4, c4, rfl⟩ := Kd.R_slice hv4
 have h1 := (hb3.block _ (cb_lt h0.out)).trans h0.out
 have hg := grown_setRow w3 w.heap.size #[.int .i64 x0, .int .i64 x1, .string x2, .slice A3 x3.length c3, .slice A4 x4.length c4]
 have HX := aM (setRow_heap _ w.heap.size _ #[.int .i64 x0, .int .i64 x1, .string x2, .slice A3 x3.length c3, .slice A4 x4.length c4] _ _ h1)
 have hb := hb_then HB.out hb3
 have HB8 := aM (pw_below_grown hb (some w.heap.size) hb.size hg (fun k hk => by have := Option.some.inj hk; omega))
 have hbase := HB.out.size
 have hlt := cb_lt h0.out
 have H3 := aM (Kd.R_lower (base' := w.heap.size) (Kd.R_mono (ok' := fun _ => True) (Kd.R_move (Kd.R_bound hv3) (fun k hk => hg.block k hk.2.2.1 (fun e => by have h2 := Option.some.inj e; have h3 := hk.2.1; omega))) (fun _ _ => trivial)) hbase)
 have H4 := aM (Kd.R_lower (base' := w.heap.size) (Kd.R_mono (ok' := fun _ => True) (Kd.R_move (Kd.R_bound hv4) (fun k hk => hg.block k hk.2.2.1 (fun e => by have h2 := Option.some.inj e; have h3 := hk.2.1; omega))) (fun _ _ => trivial)) hbase)
 clear hv3 hv4 hb3 hg hb hbase hlt HB h0 CM
 go_wp2_with (refine store_ival (.tmp 2) (.tmp 79) rfl rfl rfl rfl h1 ?_)
 exact bodyPost_ret (v := .tuple #[.agg #[.int .i64 x0, .int .i64 x1, .string x2, .slice A3 x3.length c3, .slice A4 x4.length c4], .bool true]) (told_row rfl rfl rfl HX.out) rfl ⟨.slice A3 x3.length c3, .slice A4 x4.length c4, rfl, H3.out, H4.out, HB8.out⟩
theorem from_any {y : Y} (h : FitsY y) : FromAt y := by
 induction h with
 | null => intro v F w ha; cases ha; exact from_null w
 | bool b =>
  intro v F w ha
  cases ha
  cases b
  ·exact from_bfalse w
  ·exact from_btrue w
 | int n => intro v F w ha; cases ha; exact from_int n w
 | text s => intro v F w ha; cases ha; exact from_text s w
 | list l hl h ih =>
  intro v F w ha
  cases ha with
  | list v zs _ _ hy hr hz hd hb hF =>
   subst hy
   obtain ⟨A, c, rfl⟩ := Kd.R_slice hr
   obtain ⟨hn, hc, hC⟩ := Kd.R_reads' hr
   rw [List.length_map] at hC hl ⊢
   exact from_list zs A c w hl hC hz (fun z hzz => ih z.2.1 (List.mem_map.2 ⟨z, hzz, rfl⟩))
 | map m hl hk h ih =>
  intro v F w ha
  cases ha with
  | map b zs _ _ hy hm hz hd hb hF =>
   subst hy
   rw [List.length_map] at hl
   exact from_amap b w _ (fun W hb => from_map zs b W hl (hm.below hb) (fun z hzz => ⟨_, (hz z hzz).keep hb⟩) (fun z hzz => ih (z.1, z.2.2.1) (List.mem_map.2 ⟨z, hzz, rfl⟩)))
end Go.Proofs.Ytaembebbaejfiaa.Tr
namespace Go.Proofs.Ytaembebbaejfiaa.Mount
open Go.RowKit Go.Proofs.YtaembebbaejfiaaW.PrintWords Go.Proofs.Ytaembebbaejfiaa.Str Go.Proofs.Ytaembebbaejfiaa.Kit Go.Proofs.Ytaembebbaejfiaa.Frame
set_option linter.unusedVariables false
set_option linter.unusedSimpArgs false
theorem join_C {A : Option Addr} {c : Nat} {xs : List ByteArray} (sep : ByteArray) (w : World) (h : Kd.string.C w A xs.length xs) (hc : xs.length ≤ c)
  (hN : xs.length ≤ 140737488355328) (hlen : (Lib.join (xs.map lb) (lb sep)).length ≤ 140737488355328) :
  Calls Try.prog 52 #[.slice A xs.length c, .string sep] w fun e w' => e = .returned (.string ⟨(Lib.join (xs.map lb) (lb sep)).toArray⟩) ∧ Below w.heap.size w w' := by
 rcases Nat.eq_zero_or_pos xs.length with h0 | h0
 ·obtain rfl := List.eq_nil_of_length_eq_zero h0
  exact (Try.strings_Join_none A c sep w).mono fun e w' ⟨he, hw⟩ => ⟨he, hw ▸ Below.refl _ _⟩
 ·obtain ⟨bk, off, rfl, hbk, hcell⟩ := strs_open h h0
  exact Try.strings_Join bk off c xs sep w (fun j x hx => by
   obtain ⟨hj, rfl⟩ := List.getElem?_eq_some_iff.1 hx
   exact hcell j hj) hbk hN hc hlen
def newPath (xs : List ByteArray) : ByteArray := ⟨(Lib.join (xs.map lb) [46]).toArray⟩
set_option maxHeartbeats 400000 in
theorem tree_NewPath {A : Option Addr} {c : Nat} {xs : List ByteArray} (w : World) (h : Kd.string.C w A xs.length xs) (hc : xs.length ≤ c)
  (hN : xs.length ≤ 140737488355328) (hlen : (newPath xs).size ≤ 140737488355328) :
  Calls Try.prog 45 #[.slice A xs.length c] w fun e w' => e = .returned (.string (newPath xs)) ∧ Below w.heap.size w w' := by
 have H := aM h
 have HC := aM hc
 have HN := aM hN
 have HL := aM hlen
 clear h hc hN hlen
 go_enter Try.func45, Try.ntmps45
 go_wp2_with fail
 refine (join_C ⟨#[46]⟩ w H.out HC.out HN.out (by have := HL.out; rw [← lb_length, newPath, lb_mk] at this; exact this)).mono ?_
 rintro e w1 ⟨rfl, hb⟩
 have HB := aM hb
 clear hb
 go_wp2
 go_ret
 exact ⟨rfl, HB.out⟩
set_option maxHeartbeats 400000 in
theorem implAt (w : World) : Calls Try.prog 31 #[] w fun e w' => ∃ p, e = .returned (.string p) ∧ Below w.heap.size w w' := by
 have HC := aM (show Kd.string.C (w.alloc (.cells #[.string ⟨#[97, 116]⟩] 9)) (some ⟨w.heap.size, 0, none⟩) [(⟨#[97, 116]⟩ : ByteArray)].length [⟨#[97, 116]⟩] from strs_lit w 9 [(⟨#[97, 116]⟩ : ByteArray)] (by decide))
 go_enter Try.func31, Try.ntmps31
 go_wp2_with fail
 refine (tree_NewPath (c := 1) (xs := [(⟨#[97, 116]⟩ : ByteArray)]) _ HC.out (Nat.le_refl _) (by simp) (by decide)).mono ?_
 rintro e w1 ⟨rfl, hb⟩
 have HB := aM (hb_then ((Below.refl _ w).alloc (Nat.le_refl _) _) hb)
 clear hb
 go_wp2
 go_ret
 exact ⟨_, rfl, HB.out⟩
end Go.Proofs.Ytaembebbaejfiaa.Mount
namespace Go.Proofs.Ytaembebbaejfiaa.Tr
open Go.RowKit Go.Proofs.YtaembebbaejfiaaW.PrintWords Go.Proofs.Ytaembebbaejfiaa.Str Go.Proofs.Ytaembebbaejfiaa.Kit Go.Proofs.Ytaembebbaejfiaa.MapV Go.Proofs.Ytaembebbaejfiaa.Frame Go.Proofs.Ytaembebbaejfiaa.PS
set_option linter.unusedVariables false
set_option linter.unusedSimpArgs false
theorem fold_mem {α : Type} : ∀ (l f : List (Bs × α)) (p : Bs × α), p ∈ l.foldl (fun f p => mput f p.1 p.2) f → p ∈ f ∨ p ∈ l
 | [], f, p, h => .inl h
 | q :: r, f, p, h => by
  rcases fold_mem r (mput f q.1 q.2) p h with h | h
  ·rcases mput_mem h with rfl | h
   ·exact .inr (by simp)
   ·exact .inl h
  ·exact .inr (by simp [h])
theorem fitM_mem {α : Type} {l : List (Bs × α)} {p : Bs × α} (h : p ∈ fitM l) : p ∈ l := by
 rcases fold_mem l [] p h with h | h
 ·simp at h
 ·exact h
inductive Norm : Y → Prop
 | null : Norm .null
 | bool (b) : Norm (.bool b)
 | int (n) : Norm (.int n)
 | text (s) : Norm (.text s)
 | list (l : List Y) (h : ∀ y, y ∈ l → Norm y) : Norm (.list l)
 | map (m : List (Bs × Y)) (hr : Rises m) (h : ∀ p, p ∈ m → Norm p.2) : Norm (.map m)
theorem mput_last {α : Type} {f : List (Bs × α)} {k : Bs} {v : α} (h : Rises (f ++ [(k, v)])) : mput f k v = f ++ [(k, v)] := by
 have hr : Rises f := h.sublist (List.sublist_append_left _ _)
 have hl : ∀ p ∈ f, p.1 < k := fun p hp => (List.pairwise_append.1 h).2.2 p hp (k, v) (by simp)
 refine rises_ext (mput_rises hr _ _) h (fun q => ?_)
 rw [mget_mput]
 by_cases hq : k = q
 ·subst hq
  rw [if_pos rfl]
  exact (mget_of_mem h (by simp)).symm
 ·rw [if_neg hq]
  cases hg : mget f q with
  | none =>
   cases hg2 : mget (f ++ [(k, v)]) q with
   | none => rfl
   | some u =>
    have := mget_some hg2
    rcases List.mem_append.1 this with h1 | h1
    ·exact absurd rfl (mget_none hg _ h1)
    ·simp at h1
     exact absurd h1.1.symm hq
  | some u => exact (mget_of_mem h (by simp [mget_some hg])).symm
theorem fitM_rises_aux {α : Type} : ∀ (l f : List (Bs × α)), Rises (f ++ l) → l.foldl (fun f p => mput f p.1 p.2) f = f ++ l
 | [], f, _ => by simp
 | (k, v) :: r, f, h => by
  have e : f ++ (k, v) :: r = (f ++ [(k, v)]) ++ r := by simp
  have h2 : mput f k v = f ++ [(k, v)] := mput_last (h.sublist (by rw [e]; exact List.sublist_append_left _ _))
  rw [List.foldl_cons]
  show List.foldl _ (mput f k v) r = _
  rw [h2, fitM_rises_aux r _ (by rw [← e]; exact h), e]
theorem fitM_of_rises {α : Type} {m : List (Bs × α)} (h : Rises m) : fitM m = m := fitM_rises_aux m [] (by simpa using h)
theorem back {y : Y} (h : Norm y) : anyOf (valOf y) = y := by
 induction h with
 | null => simp [valOf, anyOf]
 | bool b => cases b <;> simp [valOf, anyOf]
 | int n => simp [valOf, anyOf]
 | text s => simp [valOf, anyOf]
 | list l h ih =>
  simp only [valOf, anyOf]
  rw [if_neg (by decide), if_neg (by decide), if_neg (by decide), if_pos trivial, anyL_map, valL_map, List.map_map]
  exact congrArg Y.list ((List.map_congr_left (fun y hy => ih y hy)).trans (List.map_id l))
 | map m hr h ih =>
  simp only [valOf, anyOf]
  rw [if_neg (by decide), if_neg (by decide), if_neg (by decide), if_neg (by decide), if_pos trivial, anyL_map, valM_map, List.map_map, List.map_map]
  have e1 : m.map (lb ∘ fun p => (⟨p.1.toArray⟩ : BA)) = m.map (fun p => p.1) := List.map_congr_left (fun p _ => lb_mk p.1)
  have e2 : m.map (anyOf ∘ fun p => valOf p.2) = m.map (fun p => p.2) := List.map_congr_left (fun p hp => ih p hp)
  rw [e1, e2, List.zip_map']
  have e3 : m.map (fun p => (p.1, p.2)) = m := (List.map_congr_left (fun p _ => rfl)).trans (List.map_id m)
  rw [e3, fitM_of_rises hr]
theorem pairs_mem {ks : List BA} {vs : List VI} {p : Bs × Y} (h : p ∈ pairsOf ks vs) : ∃ v, v ∈ vs ∧ p.2 = anyOf v := by
 have h2 : p.2 ∈ anyL vs := (List.of_mem_zip (show (p.1, p.2) ∈ (ks.map lb).zip (anyL vs) from h)).2
 rw [anyL_map] at h2
 obtain ⟨v, hv, he⟩ := List.mem_map.1 h2
 exact ⟨v, hv, he.symm⟩
theorem small_fits {x : VI} (h : Small x) : FitsY (anyOf x) ∧ Norm (anyOf x) := by
 induction h with
 | mk x hk hkl hvl hv ih =>
  obtain ⟨k, n, t, ks, vs⟩ := x
  by_cases h1 : k = 1
  ·subst h1; simp only [anyOf]; exact ⟨.bool _, .bool _⟩
  by_cases h2 : k = 2
  ·subst h2; simp only [anyOf]; exact ⟨.int _, .int _⟩
  by_cases h3 : k = 3
  ·subst h3; simp only [anyOf]; exact ⟨.text _, .text _⟩
  by_cases h4 : k = 4
  ·subst h4
   have e : anyOf ⟨4, n, t, ks, vs⟩ = .list (anyL vs) := by simp [anyOf]
   rw [e, anyL_map]
   exact ⟨.list _ (by rw [List.length_map]; exact hvl) (fun y hy => by obtain ⟨v, hvv, rfl⟩ := List.mem_map.1 hy; exact (ih v hvv).1), .list _ (fun y hy => by obtain ⟨v, hvv, rfl⟩ := List.mem_map.1 hy; exact (ih v hvv).2)⟩
  by_cases h5 : k = 5
  ·subst h5
   have e : anyOf ⟨5, n, t, ks, vs⟩ = .map (fitM (pairsOf ks vs)) := by simp [anyOf, pairsOf]
   rw [e]
   refine ⟨.map _ ?_ (fun p hp => ?_) (fun p hp => ?_), .map _ (fitM_rises _) (fun p hp => ?_)⟩
   ·have := fitM_length (pairsOf ks vs)
    rw [pairsOf_length] at this
    have h6 : vs.length ≤ 1759218604400 := hvl
    omega
   ·have hz : p.1 ∈ ks.map lb := (List.of_mem_zip (show (p.1, p.2) ∈ (ks.map lb).zip (anyL vs) from fitM_mem hp)).1
    obtain ⟨s, hs, he⟩ := List.mem_map.1 hz
    rw [← he, lb_length]
    exact hk s hs
   ·obtain ⟨v, hvv, he⟩ := pairs_mem (fitM_mem hp)
    rw [he]; exact (ih v hvv).1
   ·obtain ⟨v, hvv, he⟩ := pairs_mem (fitM_mem hp)
    rw [he]; exact (ih v hvv).2
  ·have e : anyOf ⟨k, n, t, ks, vs⟩ = .null := by simp [anyOf, h1, h2, h3, h4, h5]
   rw [e]
   exact ⟨.null, .null⟩
end Go.Proofs.Ytaembebbaejfiaa.Tr
namespace Go.Proofs.Ytaembebbaejfiaa.Tr
open Go.RowKit Go.Proofs.YtaembebbaejfiaaW.PrintWords Go.Proofs.YtaembebbaejfiaaW.PrintLast Go.Proofs.Ytaembebbaejfiaa.Str Go.Proofs.Ytaembebbaejfiaa.Kit Go.Proofs.Ytaembebbaejfiaa.MapV Go.Proofs.Ytaembebbaejfiaa.Frame Go.Proofs.Ytaembebbaejfiaa.PS
set_option linter.unusedVariables false
set_option linter.unusedSimpArgs false
theorem told_at {fn : Func} {p q : Tmp} (hr : fn.results = #[.cell p 36, .tmp q]) {tmps : Array Value} {W : World} {b n3 c3 n4 c4 : Nat} {k n : Int} {t : BA} {A3 A4 : Option Addr} (hp : tmps.getD p undef = .pointer (some ⟨b, 0, none⟩)) (h3 : tmps.getD q undef = .bool true) (hb : W.heap[b]? = some (.cells #[.int .i64 k, .int .i64 n, .string t, .slice A3 n3 c3, .slice A4 n4 c4] 36 (0, 0))) :
  (results fn tmps).run Try.prog W = .ok (.tuple #[.agg #[.int .i64 k, .int .i64 n, .string t, .slice A3 n3 c3, .slice A4 n4 c4], .bool true]) W := by
 have := results_ct (P := Try.prog) hr tmps W b 36 _ (0, 0) _ hp hb Try.underlying36 rfl ival_size
 rw [h3] at this
 exact this
set_option maxHeartbeats 800000 in
theorem impl_value {v : Value} {y : Y} {F : Nat → Prop} (w : World) (hy : FitsY y) (ha : AR w v y F) : Calls Try.prog 28 #[v, .nilIface] w (Told w (valOf y)) := by
 have h0 := aM (cb_new w (.cells #[.int .i64 0, .int .i64 0, .string ⟨#[]⟩, .slice none 0 0, .slice none 0 0] 36))
 have HB := aM (below_alloc (Below.refl w.heap.size w) (.cells #[.int .i64 0, .int .i64 0, .string ⟨#[]⟩, .slice none 0 0, .slice none 0 0] 36))
 have CM := aM (from_any hy v _ (w.alloc (.cells #[.int .i64 0, .int .i64 0, .string ⟨#[]⟩, .slice none 0 0, .slice none 0 0] 36)) (ha.keep HB.out))
 clear ha
 generalize valOf y = x at CM
 obtain ⟨x0, x1, x2, x3, x4⟩ := x
 go_enter Try.func28, Try.ntmps28
 go_wp2_with fail
 refine CM.out.mono ?_
 rintro e w3 ⟨v3, v4, rfl, hv3, hv4, hb3⟩
 obtain ⟨A3, c3, rfl⟩ := Kd.R_slice hv3
 obtain ⟨A4, c4, rfl⟩ := Kd.R_slice hv4
 have h1 := (hb3.block _ (cb_lt h0.out)).trans h0.out
 have hg := grown_setRow w3 w.heap.size #[.int .i64 x0, .int .i64 x1, .string x2, .slice A3 x3.length c3, .slice A4 x4.length c4]
 have HX := aM (setRow_heap _ w.heap.size _ #[.int .i64 x0, .int .i64 x1, .string x2, .slice A3 x3.length c3, .slice A4 x4.length c4] _ _ h1)
 have hb := hb_then HB.out hb3
 have HB8 := aM (pw_below_grown hb (some w.heap.size) hb.size hg (fun k hk => by have := Option.some.inj hk; omega))
 have hbase := HB.out.size
 have hlt := cb_lt h0.out
 have H3 := aM (Kd.R_lower (base' := w.heap.size) (Kd.R_mono (ok' := fun _ => True) (Kd.R_move (Kd.R_bound hv3) (fun k hk => hg.block k hk.2.2.1 (fun e => by have h2 := Option.some.inj e; have h3 := hk.2.1; omega))) (fun _ _ => trivial)) hbase)
 have H4 := aM (Kd.R_lower (base' := w.heap.size) (Kd.R_mono (ok' := fun _ => True) (Kd.R_move (Kd.R_bound hv4) (fun k hk => hg.block k hk.2.2.1 (fun e => by have h2 := Option.some.inj e; have h3 := hk.2.1; omega))) (fun _ _ => trivial)) hbase)
 clear hv3 hv4 hb3 hg hb hbase hlt HB h0 CM
 go_wp2_with (refine store_ival (.tmp 4) (.tmp 11) rfl rfl rfl rfl h1 ?_)
 exact bodyPost_ret (v := .tuple #[.agg #[.int .i64 x0, .int .i64 x1, .string x2, .slice A3 x3.length c3, .slice A4 x4.length c4], .bool true]) (told_at rfl rfl rfl HX.out) rfl ⟨.slice A3 x3.length c3, .slice A4 x4.length c4, rfl, H3.out, H4.out, HB8.out⟩
def TransAs (w : World) (y : Y) (e : Ending) (w' : World) : Prop := ∃ v F, e = .returned (.tuple #[v, .nilIface]) ∧ AR w' v y F ∧ Below w.heap.size w w'
set_option maxHeartbeats 800000 in
theorem trans_door {y : Y} (v pv : Value) (ig : Bool) (w : World) (h : Calls Try.prog 49 #[v, pv, .bool ig] w (TransAs w y)) :
  Calls Try.prog 37 #[v, pv, .bool ig] w (TransAs w y) := by
 have CN := aM h
 clear h
 go_enter Try.func37, Try.ntmps37
 go_wp2_with fail
 refine CN.out.mono ?_
 rintro e w1 ⟨u, F, rfl, ha, hb⟩
 have HA := aM ha
 have HB := aM hb
 clear ha hb
 go_wp2
 go_ret2
 exact ⟨_, _, rfl, HA.out, HB.out⟩
set_option maxHeartbeats 1600000 in
theorem impl_trans (x : VI) (hx : Small x) (y : Y) (hfy : FitsY y) (ig : Bool) (hf : ∀ (W : World) (v : Value) (pv : BA) (F : Nat → Prop), AR W v (anyOf x) F → Calls Try.prog 49 #[v, .string pv, .bool ig] W (TransAs W y))
  (A3 A4 : Option Addr) (c3 c4 : Nat) (w : World) (l3 : x.f3.length ≤ c3) (hk : Kd.string.C w A3 x.f3.length x.f3) (l4 : x.f4.length ≤ c4) (hv : kI.C w A4 x.f4.length x.f4) :
  Calls Try.prog 21 #[.agg #[.int .i64 x.f0, .int .i64 x.f1, .string x.f2, .slice A3 x.f3.length c3, .slice A4 x.f4.length c4], .bool ig] w (Told w (valOf y)) := by
 have hb1 := below_alloc (Below.refl w.heap.size w) (.cells #[.int .i64 x.f0, .int .i64 x.f1, .string x.f2, .slice A3 x.f3.length c3, .slice A4 x.f4.length c4] 36)
 have hb2 := below_alloc hb1 (.cells #[.int .i64 0, .int .i64 0, .string ⟨#[]⟩, .slice none 0 0, .slice none 0 0] 36)
 have HB := aM hb2
 have h0 := cb_new (w.alloc (.cells #[.int .i64 x.f0, .int .i64 x.f1, .string x.f2, .slice A3 x.f3.length c3, .slice A4 x.f4.length c4] 36)) (.cells #[.int .i64 0, .int .i64 0, .string ⟨#[]⟩, .slice none 0 0, .slice none 0 0] 36)
 rw [World.size_alloc] at h0
 have H0 := aM h0
 have hxb : ((w.alloc (.cells #[.int .i64 x.f0, .int .i64 x.f1, .string x.f2, .slice A3 x.f3.length c3, .slice A4 x.f4.length c4] 36)).alloc (.cells #[.int .i64 0, .int .i64 0, .string ⟨#[]⟩, .slice none 0 0, .slice none 0 0] 36)).heap[w.heap.size]? = some (.cells #[.int .i64 x.f0, .int .i64 x.f1, .string x.f2, .slice A3 x.f3.length c3, .slice A4 x.f4.length c4] 36 (0, 0)) := blk_alloc (cb_new _ _) _
 have CA := aM (toAny x hx A3 A4 c3 c4 ((w.alloc (.cells #[.int .i64 x.f0, .int .i64 x.f1, .string x.f2, .slice A3 x.f3.length c3, .slice A4 x.f4.length c4] 36)).alloc (.cells #[.int .i64 0, .int .i64 0, .string ⟨#[]⟩, .slice none 0 0, .slice none 0 0] 36)) l3 (Kd.C_below hk hb2) l4 (Kd.C_below hv hb2))
 have HFN := aM hf
 have HFY := aM hfy
 clear hb1 hb2 h0 hk hv l3 l4 hf hfy hx
 generalize anyOf x = ax at CA HFN
 obtain ⟨x0, x1, x2, x3, x4⟩ := x
 obtain ⟨yv, hy⟩ : ∃ yv, valOf y = yv := ⟨_, rfl⟩
 rw [hy]
 obtain ⟨y0, y1, y2, y3, y4⟩ := yv
 have HV := aM hy
 clear hy
 go_enter Try.func21, Try.ntmps21
 go_wp2_with (refine load_ival (.tmp 2) rfl rfl rfl hxb ?_)
 refine CA.out.mono ?_
 rintro e w1 ⟨v, rfl, ha, hb⟩
 have HA1 := aM ha
 have HB1 := aM (hb_then HB.out hb)
 have H1 := aM ((hb.block _ (cb_lt H0.out)).trans H0.out)
 clear ha hb CA hxb H0
 go_wp2_with fail
 refine (Mount.implAt w1).mono ?_
 rintro e w2 ⟨p, rfl, hb⟩
 have HA2 := aM (HA1.out.keep hb)
 have HB2 := aM (hb_then HB1.out hb)
 have H2 := aM ((hb.block _ (cb_lt H1.out)).trans H1.out)
 clear hb HA1 HB1 H1
 go_wp2_with fail
 refine (trans_door _ _ ig w2 (HFN.out w2 _ p _ HA2.out)).mono ?_
 rintro e w3 ⟨v3, F3, rfl, ha, hb⟩
 have HA3 := aM ha
 have HB3 := aM (hb_then HB2.out hb)
 have H3 := aM ((hb.block _ (cb_lt H2.out)).trans H2.out)
 clear ha hb HA2 HB2 H2
 have cv := impl_value w3 HFY.out HA3.out
 rw [HV.out] at cv
 have CV := aM cv
 clear cv
 go_wp2_with fail
 refine CV.out.mono ?_
 rintro e w4 ⟨u3, u4, rfl, hv3, hv4, hb4⟩
 obtain ⟨E3, d3, rfl⟩ := Kd.R_slice hv3
 obtain ⟨E4, d4, rfl⟩ := Kd.R_slice hv4
 have h1 := (hb4.block _ (cb_lt H3.out)).trans H3.out
 have hg := grown_setRow w4 (w.heap.size + 1) #[.int .i64 y0, .int .i64 y1, .string y2, .slice E3 y3.length d3, .slice E4 y4.length d4]
 have HX := aM (setRow_heap _ (w.heap.size + 1) _ #[.int .i64 y0, .int .i64 y1, .string y2, .slice E3 y3.length d3, .slice E4 y4.length d4] _ _ h1)
 have hb := hb_then HB3.out hb4
 have HB8 := aM (pw_below_grown hb (some (w.heap.size + 1)) hb.size hg (fun k hk => by have := Option.some.inj hk; omega))
 have hbase := HB3.out.size
 have hlt := cb_lt H3.out
 have G3 := aM (Kd.R_lower (base' := w.heap.size) (Kd.R_mono (ok' := fun _ => True) (Kd.R_move (Kd.R_bound hv3) (fun k hk => hg.block k hk.2.2.1 (fun e => by have h2 := Option.some.inj e; have h3 := hk.2.1; omega))) (fun _ _ => trivial)) hbase)
 have G4 := aM (Kd.R_lower (base' := w.heap.size) (Kd.R_mono (ok' := fun _ => True) (Kd.R_move (Kd.R_bound hv4) (fun k hk => hg.block k hk.2.2.1 (fun e => by have h2 := Option.some.inj e; have h3 := hk.2.1; omega))) (fun _ _ => trivial)) hbase)
 clear hv3 hv4 hb4 hg hb hbase hlt HB3 H3 CV HA3
 go_wp2_with (refine store_ival (.tmp 4) (.tmp 14) rfl rfl rfl rfl h1 ?_)
 exact bodyPost_ret (v := .tuple #[.agg #[.int .i64 y0, .int .i64 y1, .string y2, .slice E3 y3.length d3, .slice E4 y4.length d4], .bool true]) (told_at rfl rfl rfl HX.out) rfl ⟨.slice E3 y3.length d3, .slice E4 y4.length d4, rfl, G3.out, G4.out, HB8.out⟩
end Go.Proofs.Ytaembebbaejfiaa.Tr
namespace Go.Proofs.Ytaembebbaejfiaa.Tr
open Go.RowKit Go.Proofs.YtaembebbaejfiaaW.PrintWords Go.Proofs.YtaembebbaejfiaaW.PrintLast Go.Proofs.Ytaembebbaejfiaa.Str Go.Proofs.Ytaembebbaejfiaa.Kit Go.Proofs.Ytaembebbaejfiaa.MapV Go.Proofs.Ytaembebbaejfiaa.Frame Go.Proofs.Ytaembebbaejfiaa.PS
open Go.Proofs.Ytaembebbaejfiaa.Index (cutB zzCut)
set_option linter.unusedVariables false
set_option linter.unusedSimpArgs false
theorem t_one_str (v : Value) (w : World) : (Instr.typeAssert (.iface 9 v) 20 9 false).run Try.prog w = .ok v w := by kernel_rfl
theorem t_lst_mp (v : Value) (w : World) : (Instr.typeAssert (.iface 58 v) 20 65 true).run Try.prog w = .ok (.tuple #[.map none, .bool false]) w := by kernel_rfl
def ctxOf (ts : List BA) : List (Bs × Y) := fitM (ts.map fun t => (lb (cutB 61 t).1, Y.text (cutB 61 t).2.1))
theorem ctxOf_snoc (ts : List BA) (i : Nat) (hi : i < ts.length) : ctxOf (ts.take (i + 1)) = mput (ctxOf (ts.take i)) (lb (cutB 61 (ts[i]'hi)).1) (.text (cutB 61 (ts[i]'hi)).2.1) := by
 unfold ctxOf
 rw [List.take_succ_eq_append_getElem hi, List.map_append]
 exact fitM_snoc _ _
theorem ctxOf_length (ts : List BA) (i : Nat) : (ctxOf (ts.take i)).length ≤ i := by
 unfold ctxOf
 refine Nat.le_trans (fitM_length _) ?_
 rw [List.length_map]
 exact List.length_take_le _ _
theorem AR.is_text {w : World} {v : Value} {s : BA} {F : Nat → Prop} (h : AR w v (.text s) F) : v = .iface 9 (.string s) := by cases h; rfl
theorem AR.texts {w : World} {v : Value} {ts : List BA} {F : Nat → Prop} (h : AR w v (.list (ts.map Y.text)) F) : ∃ A c, v = .iface 58 (.slice A ts.length c) ∧ kAny.C w A ts.length (ts.map (fun t => Value.iface 9 (.string t))) := by
 cases h with
 | list v zs ys _ hy hr hz hd hb hF =>
  have he : zs.map (fun z => z.1) = ts.map (fun t => Value.iface 9 (.string t)) := by
   have hl : zs.length = ts.length := by have := congrArg List.length hy; simpa using this.symm
   refine List.ext_getElem (by simp [hl]) (fun j h1 h2 => ?_)
   simp only [List.getElem_map]
   have hj : j < zs.length := by simpa using h1
   have hj2 : j < ts.length := by simpa using h2
   have e1 : (zs[j]).2.1 = Y.text (ts[j]) := by
    have h3 := congrArg (fun l => l[j]?) hy
    simpa [hj, hj2] using h3.symm
   exact AR.is_text (e1 ▸ hz zs[j] (List.getElem_mem hj))
  obtain ⟨A, c, rfl⟩ := Kd.R_slice hr
  obtain ⟨hn, hc, hC⟩ := Kd.R_reads' hr
  rw [he] at hC ⊢
  rw [List.length_map] at hC ⊢
  exact ⟨A, c, rfl, hC⟩
set_option maxHeartbeats 3200000 in
set_option maxRecDepth 100000 in
theorem kv_list (ts : List BA) (A : Option Addr) (c : Nat) (pv : Value) (ig : Bool) (w : World) (hn : ts.length ≤ 1759218604400) (hs : ∀ t, t ∈ ts → t.size ≤ 140737488355328) (he : ∀ t, t ∈ ts → (cutB 61 t).2.2 = true) (hC : kAny.C w A ts.length (ts.map (fun t => Value.iface 9 (.string t)))) :
  Calls Try.prog 49 #[.iface 58 (.slice A ts.length c), pv, .bool ig] w (TransAs w (.map (ctxOf ts))) := by
 have f5 := t_lst
 have f6 := t_one_str
 have f7 := t_lst_mp
 have hmm := @run_makeMap Try.prog
 have HC := aM hC
 have HS := aM hs
 have HE := aM he
 have HB0 := aM (below_alloc (Below.refl w.heap.size w) (.map #[] 0))
 have HM0 := aM (MapAt.made w)
 clear hC hs he
 go_enter Try.func49, Try.ntmps49
 go_wp2
 go_loopw [30, 12, 13, 14, 15] (fun v30 v12 v13 v14 v15 wr => ∃ i : Nat, v30 = .int .i64 i ∧ i ≤ ts.length ∧ Aside0 (∃ zs, MapAt wr w.heap.size zs (ctxOf (ts.take i))) ∧ Aside0 (Below w.heap.size w wr)) (fun v30 _ _ _ _ _ => ts.length - (intOf v30).toNat)
 case atStart => exact ⟨0, rfl, by omega, ⟨[], HM0.out⟩, HB0⟩
 case round =>
  clear HM0 HB0
  obtain ⟨i, rfl, hiv, HM, HB⟩ := hrel
  have q0 : (0 : Int) ≤ (i : Int) := by omega
  by_cases hlv : i < ts.length
  ·have q2 : (i : Int) < (ts.length : Int) := by omega
   have hl0 : (ts.map (fun t => Value.iface 9 (.string t))).length = ts.length := List.length_map ..
   obtain ⟨vb, vo, rfl, hvb, hvc⟩ := kAny_at (A := A) (xs := ts.map (fun t => Value.iface 9 (.string t))) (by rw [hl0]; exact HC.out) (by omega)
   have e0 : w.cell? ⟨vb, vo + i, none⟩ = some (.iface 9 (.string (ts[i]'hlv))) := by
    have h := hvc i (by omega)
    rw [List.getElem_map] at h
    exact h
   have y0 := pw_cell_below HB.out e0
   have hti := HS.out (ts[i]'hlv) (List.getElem_mem hlv)
   have hee := HE.out (ts[i]'hlv) (List.getElem_mem hlv)
   have hsz := (cut_size (ts[i]'hlv)).1
   have HSN := aM (ctxOf_snoc ts i hlv)
   obtain ⟨t, ht⟩ : ∃ t, ts[i]'hlv = t := ⟨_, rfl⟩
   rw [ht] at y0 hti hee hsz HSN
   have CC := aM (zzCut t 61 wr (by omega))
   have hle := ctxOf_length ts i
   obtain ⟨a, b, hab⟩ : ∃ a b, cutB 61 t = (a, b, true) := ⟨_, _, by rw [← hee]⟩
   rw [hab] at CC hsz HSN
   have hks : a.size ≤ maxLen := by unfold maxLen; have h1 : a.size ≤ t.size := hsz; omega
   have HKZ := aM hks
   have HLE := aM hle
   clear hvc e0 hl0 hti hee hsz ht hab hks hle
   go_wp2_with fail
   refine CC.out.mono ?_
   rintro e w1 ⟨rfl, hd⟩
   have HB1 := aM hd.below
   obtain ⟨zs, hzs0⟩ := HM.out
   have hzs := hzs0.move hd.below
   have HZS := aM hzs
   have hlen := hzs.length
   have hfit : (zs.map (fun z => (z.1, z.2.1))).length < maxLen := by rw [hlen]; have := HLE.out; unfold maxLen; omega
   have hmm2 := hzs.hm
   clear hd hlen hzs hzs0 CC
   go_wp2_with (refine store_mapE (enc := (id : Value → Value)) (y := Value.iface 9 (.string b)) akey_u amap_u rfl _ _ _ rfl rfl hmm2 hfit rfl HKZ.out rfl ?_; intro w4 hm4 hg4; have HM4 := aM (HZS.out.put (Below.refl _ _) (AR.text _ _) (lb a) hm4 hg4); have HG4 := aM hg4; clear hm4 hg4)
   go_roundw
   case rel =>
    refine ⟨i + 1, by go_num, by omega, ⟨⟨_, by rw [HSN.out]; exact HM4.out⟩⟩, ⟨?_⟩⟩
    exact pw_below_grown (hb_then HB.out HB1.out) _ (hb_then HB.out HB1.out).size HG4.out (fun k hk => by injection hk with hk; omega)
   case measure => simp [intOf]; omega
  ·have HTK := aM (show ts.take i = ts from List.take_of_length_le (by omega))
   go_wp2
   go_ret2
   obtain ⟨zs, hzs⟩ := HM.out
   rw [HTK.out] at hzs
   exact ⟨_, _, rfl, hzs.done, HB.out⟩
set_option maxHeartbeats 800000 in
theorem kv_map (u pv : Value) (ig : Bool) (w : World) :
  Calls Try.prog 49 #[.iface 65 u, pv, .bool ig] w fun e w' => e = .returned (.tuple #[.iface 65 u, .nilIface]) ∧ w = w' := by
 have f5 := t_map_map
 go_enter Try.func49, Try.ntmps49
 go_wp2
 go_ret2
 exact ⟨rfl, rfl⟩
end Go.Proofs.Ytaembebbaejfiaa.Tr
namespace Go.Proofs.Ytaembebbaejfiaa.Tr
open Go.RowKit Go.Proofs.YtaembebbaejfiaaW.PrintWords Go.Proofs.YtaembebbaejfiaaW.PrintLast Go.Proofs.Ytaembebbaejfiaa.Str Go.Proofs.Ytaembebbaejfiaa.Kit Go.Proofs.Ytaembebbaejfiaa.MapV Go.Proofs.Ytaembebbaejfiaa.Frame Go.Proofs.Ytaembebbaejfiaa.PS
open Go.Proofs.Ytaembebbaejfiaa.Val (place placeI placeB placeI_hit placeI_end)
open Go.Proofs.Ytaembebbaejfiaa.Index (cutB)
set_option linter.unusedVariables false
set_option linter.unusedSimpArgs false
theorem texts_of {l : List VS} (hc : ∀ v, v ∈ l → Canon v) (h3 : ∀ v, v ∈ l → v.f0 = 3) : l = (l.map fun v => v.f2).map (leaf 3 0) := by
 rw [List.map_map]
 refine ((List.map_congr_left (fun v hv => ?_)).trans (List.map_id l)).symm
 exact ((hc v hv).is_text (h3 v hv)).symm
theorem split_text {v : VS} (hc : Canon v) (h : (splitV v.f2).f0 = 3) : v.f0 = 3 ∧ (cutB 61 v.f2).2.2 = true := by
 have h2 : (cutB 61 v.f2).2.2 = true := by
  unfold splitV at h
  split at h
  ·assumption
  ·simp [leaf] at h
 refine ⟨?_, h2⟩
 cases hc with
 | text s => rfl
 | _ => exfalso; revert h2; simp [leaf, cutB, lb, find]
theorem split_leaf {s : BA} (h : (cutB 61 s).2.2 = true) : splitV s = leaf 3 0 (cutB 61 s).2.1 := by unfold splitV; rw [if_pos h]
theorem withK_end {K : List BA} {k : BA} (h : ∀ s, s ∈ K → lb s < lb k) : withK K k = K ++ [k] := by
 have h0 : placeI K k = K.length := placeI_end (fun j hj => h _ (List.getElem_mem hj))
 have h1 : placeB K k = false := by
  unfold placeB
  rw [h0, List.getElem?_eq_none (Nat.le_refl _)]
 unfold withK
 rw [h1, h0]
 simp
theorem withV_end {K : List BA} {V : List VS} {k : BA} {x : VS} (hl : K.length = V.length) (h : ∀ s, s ∈ K → lb s < lb k) : withV K V k x = V ++ [x] := by
 have h0 : placeI K k = K.length := placeI_end (fun j hj => h _ (List.getElem_mem hj))
 have h1 : placeB K k = false := by
  unfold placeB
  rw [h0, List.getElem?_eq_none (Nat.le_refl _)]
 unfold withV
 rw [h1, h0, hl]
 simp
theorem fitW_id : ∀ (ks : List BA) (vs : List VS) (K : List BA) (V : List VS), RiseK (K ++ ks) → K.length = V.length → ks.length = vs.length → fitW ks vs K V = (K ++ ks, V ++ vs)
 | [], [], K, V, _, _, _ => by simp [fitW]
 | k :: ks, v :: vs, K, V, hr, hl, hn => by
  have hlt : ∀ s, s ∈ K → lb s < lb k := fun s hs => (List.pairwise_append.1 hr).2.2 s hs k (by simp)
  rw [fitW, withK_end hlt, withV_end hl hlt, fitW_id ks vs (K ++ [k]) (V ++ [v]) (by simpa using hr) (by simp [hl]) (by simpa using hn)]
  simp
 | _ :: _, [], _, _, _, _, h => by simp at h
 | [], _ :: _, _, _, _, _, h => by simp at h
def ctxV (ts : List BA) : VS := mapsOf (ts.map fun t => (cutB 61 t).1) (ts.map fun t => leaf 3 0 (cutB 61 t).2.1)
theorem ctx_parts (ts : List BA) : ∃ K V, ctxV ts = ⟨5, 0, ⟨#[]⟩, K, V⟩ ∧ K.length = V.length ∧ RiseK K ∧ V.length ≤ ts.length ∧ (∀ s, s ∈ K → ∃ t, t ∈ ts ∧ s = (cutB 61 t).1) ∧ (∀ v, v ∈ V → ∃ t, t ∈ ts ∧ v = leaf 3 0 (cutB 61 t).2.1) ∧ (K.map lb).zip (V.map fun v => anyOf (toI v)) = ctxOf ts := by
 obtain ⟨a, b, c, d, e, f⟩ := fitW_facts (ts.map fun t => (cutB 61 t).1) (ts.map fun t => leaf 3 0 (cutB 61 t).2.1) [] [] rfl List.Pairwise.nil
 refine ⟨_, _, rfl, a, b, by simpa using d, fun s h => ?_, fun v h => ?_, ?_⟩
 ·rcases e s h with h | h
  ·cases h
  ·obtain ⟨t, ht, rfl⟩ := List.mem_map.1 h
   exact ⟨t, ht, rfl⟩
 ·rcases f v h with h | h
  ·cases h
  ·obtain ⟨t, ht, rfl⟩ := List.mem_map.1 h
   exact ⟨t, ht, rfl⟩
 ·rw [fitW_mput (fun v => anyOf (toI v)) _ _ [] [] List.Pairwise.nil rfl (by simp)]
  unfold ctxOf fitM
  congr 1
  rw [List.map_map, List.map_map, List.zip_map']
  refine List.map_congr_left (fun t _ => ?_)
  simp [leaf, toI, toL, anyOf]
theorem ctx_canon (ts : List BA) : Canon (ctxV ts) := by
 obtain ⟨K, V, he, hl, hr, _, _, hv, _⟩ := ctx_parts ts
 rw [he]
 exact .map K V hr hl (fun v h => by obtain ⟨t, _, rfl⟩ := hv v h; exact .text _)
theorem ctx_small (ts : List BA) (hn : ts.length ≤ 1759218604400) (hs : ∀ t, t ∈ ts → t.size ≤ 140737488355328) : SmallS (ctxV ts) := by
 obtain ⟨K, V, he, hl, hr, hvn, hk, hv, _⟩ := ctx_parts ts
 rw [he]
 refine .mk _ (Nat.zero_le _) (fun s h => ?_) (by show K.length ≤ _; omega) (by show V.length ≤ _; omega) (fun v h => ?_)
 ·obtain ⟨t, ht, rfl⟩ := hk s h
  have h1 := hs t ht
  have h2 := (cut_size t).1
  unfold maxLen
  omega
 ·obtain ⟨t, ht, rfl⟩ := hv v h
  have h1 := hs t ht
  have h2 := (cut_size t).2
  exact leaf_small _ _ _ (by omega)
theorem any_ctx (ts : List BA) : anyOf (toI (ctxV ts)) = .map (ctxOf ts) := by
 obtain ⟨K, V, he, hl, hr, hvn, hk, hv, hz⟩ := ctx_parts ts
 rw [he, canon_anyOf_map hr, anyL_map, toL_map, List.map_map]
 exact congrArg Y.map hz
theorem texts_any (ts : List BA) : anyL (toL (ts.map (leaf 3 0))) = ts.map Y.text := by
 rw [anyL_map, toL_map, List.map_map, List.map_map]
 refine List.map_congr_left (fun t _ => ?_)
 simp [leaf, toI, toL, anyOf]
theorem any_texts (x : VS) (h4 : x.f0 = 4) (ts : List BA) (ht : x.f4 = ts.map (leaf 3 0)) : anyOf (toI x) = .list (ts.map Y.text) := by
 rw [toI_eq, h4, ht]
 simp only [anyOf]
 rw [if_neg (by decide), if_neg (by decide), if_neg (by decide), if_pos trivial, texts_any]
theorem turns_list (x : VS) (hs : SmallS x) (h4 : x.f0 = 4) (ts : List BA) (ht : x.f4 = ts.map (leaf 3 0)) (he : ∀ t, t ∈ ts → (cutB 61 t).2.2 = true) (hn : ts.length ≤ 1759218604400) (hts : ∀ t, t ∈ ts → t.size ≤ 140737488355328) (ig : Bool) : Turns ig (toI x) (toI (ctxV ts)) := by
 have e : toI (ctxV ts) = valOf (.map (ctxOf ts)) := by rw [← any_ctx, canon_back (ctx_canon ts)]
 have hfy : FitsY (.map (ctxOf ts)) := by rw [← any_ctx]; exact (small_fits (small_to _ (ctx_small ts hn hts))).1
 rw [e]
 intro w A3 A4 c3 c4 l3 hk l4 hv
 refine impl_trans (toI x) (small_to x hs) _ hfy ig (fun W v pv F ha => ?_) A3 A4 c3 c4 w l3 hk l4 hv
 rw [any_texts x h4 ts ht] at ha
 obtain ⟨A, c, rfl, hC⟩ := ha.texts
 exact kv_list ts A c _ ig W hn hts he hC
theorem turns_map (z : VS) (hc : Canon z) (hs : SmallS z) (h5 : z.f0 = 5) (ig : Bool) : Turns ig (toI z) (toI z) := by
 have e : toI z = valOf (anyOf (toI z)) := (canon_back hc).symm
 intro w A3 A4 c3 c4 l3 hk l4 hv
 have h := impl_trans (toI z) (small_to z hs) (anyOf (toI z)) (small_fits (small_to z hs)).1 ig (fun W v pv F ha => by
  have hv' : ∃ b, v = .iface 65 (.map (some b)) := by
   have hm : ∃ m, anyOf (toI z) = .map m := by
    rw [toI_eq, h5]
    exact ⟨_, by simp only [anyOf]; rw [if_neg (by decide), if_neg (by decide), if_neg (by decide), if_neg (by decide), if_pos trivial]⟩
   obtain ⟨m, hm⟩ := hm
   rw [hm] at ha
   cases ha
   exact ⟨_, rfl⟩
  obtain ⟨b, rfl⟩ := hv'
  refine (kv_map _ _ ig W).mono ?_
  rintro e w1 ⟨rfl, rfl⟩
  exact ⟨_, F, rfl, ha, Below.refl _ _⟩) A3 A4 c3 c4 w l3 hk l4 hv
 rw [← e] at h
 exact h
theorem partMapping (x : VS) (hc : Canon x) (hs : SmallS x) (A3 A4 : Option Addr) (c3 c4 : Nat) (w : World) (h : Reads w x A3 c3 A4 c4) :
  Calls Try.prog 20 #[.agg #[.int .i64 x.f0, .int .i64 x.f1, .string x.f2, .slice A3 x.f3.length c3, .slice A4 x.f4.length c4]] w fun e w' => ∃ (z : VS) (b : Bool) (B3 : Option Addr) (d3 : Nat) (B4 : Option Addr) (d4 : Nat), e = .returned (.tuple #[.agg #[.int .i64 z.f0, .int .i64 z.f1, .string z.f2, .slice B3 z.f3.length d3, .slice B4 z.f4.length d4], .bool b]) ∧ (b = true → (x.f0 = 4 ∧ ∃ ts : List BA, x.f4 = ts.map (leaf 3 0) ∧ (∀ t, t ∈ ts → (cutB 61 t).2.2 = true) ∧ z = ctxV ts) ∨ (x.f0 = 5 ∧ z = x)) ∧ Reads w' z B3 d3 B4 d4 ∧ Below w.heap.size w w' := by
 by_cases h5 : x.f0 = 5
 ·have hl : x.f3.length = x.f4.length ∧ RiseK x.f3 ∧ x = ⟨5, 0, ⟨#[]⟩, x.f3, x.f4⟩ := by
   cases hc with
   | map ks vs hr hl _ => exact ⟨hl, hr, rfl⟩
   | _ => first | (simp [leaf] at h5; done) | (exfalso; revert h5; decide)
  refine (partMapping_map x h5 hl.1 hs (hc.inStep hs) A3 A4 c3 c4 w h).mono ?_
  rintro e w1 ⟨z, b, B3, d3, B4, d4, rfl, hS, hr, hb⟩
  refine ⟨z, b, B3, d3, B4, d4, rfl, fun h => ?_, hr, hb⟩
  obtain ⟨_, _, hz⟩ := hS h
  refine .inr ⟨h5, ?_⟩
  rw [hz, hl.2.2]
  unfold mapsOf
  rw [fitW_id x.f3 x.f4 [] [] (by simpa using hl.2.1) rfl hl.1]
  rfl
 ·refine (partMapping_list x h5 hs (hc.inStep hs) A3 A4 c3 c4 w h).mono ?_
  rintro e w1 ⟨z, b, B3, d3, B4, d4, rfl, hS, hr, hb⟩
  refine ⟨z, b, B3, d3, B4, d4, rfl, fun h => ?_, hr, hb⟩
  obtain ⟨hk, h3, hz⟩ := hS h
  have h4 : x.f0 = 4 := hk.resolve_left h5
  have hv : ∀ v, v ∈ x.f4 → v.f0 = 3 ∧ (cutB 61 v.f2).2.2 = true := fun v hv => split_text (hc.at hv) (h3 _ (List.mem_map.2 ⟨v, hv, rfl⟩))
  refine .inl ⟨h4, x.f4.map fun v => v.f2, texts_of (fun v h => hc.at h) (fun v h => (hv v h).1), fun t ht => ?_, ?_⟩
  ·obtain ⟨v, hvm, rfl⟩ := List.mem_map.1 ht
   exact (hv v hvm).2
  ·rw [hz]
   unfold ctxV
   rw [List.map_map, List.map_map]
   congr 1
   exact List.map_congr_left (fun v h => split_leaf (hv v h).2)
set_option maxHeartbeats 3200000 in
set_option maxRecDepth 100000 in
theorem lawCtx (x : VS) (hx : SmallS x) (ig : Bool) (A3 A4 : Option Addr) (c3 c4 : Nat) (w : World) (h : Reads w x A3 c3 A4 c4) :
  Calls Try.prog 5 #[.agg #[.int .i64 x.f0, .int .i64 x.f1, .string x.f2, .slice A3 x.f3.length c3, .slice A4 x.f4.length c4], .bool ig] w fun e w' => e = .returned (.bool true) ∧ Below w.heap.size w w' := by
 have hb1 := below_alloc (Below.refl w.heap.size w) (.cells #[.int .i64 x.f0, .int .i64 x.f1, .string x.f2, .slice A3 x.f3.length c3, .slice A4 x.f4.length c4] 25)
 have hxb := cb_new w (.cells #[.int .i64 x.f0, .int .i64 x.f1, .string x.f2, .slice A3 x.f3.length c3, .slice A4 x.f4.length c4] 25)
 have HB := aM hb1
 have HX := aM hxb
 have HRD := aM (h.below hb1)
 have CZ := aM (fits_reads x A3 A4 c3 c4 _ HRD.out)
 clear hb1 h
 go_enter Try.func5, Try.ntmps5
 go_wp2_with (refine load_val (.tmp 2) rfl rfl rfl hxb ?_)
 refine CZ.out.mono ?_
 rintro e w1 ⟨b, rfl, hb⟩
 have HB1 := aM (hb_then HB.out hb)
 have hx1 := (hb.block _ (cb_lt HX.out)).trans HX.out
 have HRD1 := aM (HRD.out.below hb)
 clear hb HB HX HRD CZ hxb
 cases b
 ·go_wp2
  go_ret
  exact ⟨rfl, HB1.out⟩
 have CF := aM (fit_gives x hx A3 A4 c3 c4 w1 HRD1.out)
 obtain ⟨hys, _⟩ := fit_facts x hx
 have hyc := canon_fit x hx
 have HYS := aM hys
 have HYC := aM hyc
 generalize fitV x = y at CF HYS HYC hys hyc
 clear hys hyc
 go_wp2_with (refine load_val (.tmp 2) rfl rfl rfl hx1 ?_)
 refine CF.out.mono ?_
 rintro e w2 ⟨E3, f3, E4, f4, rfl, hrd, hb⟩
 have HB2 := aM (hb_then HB1.out hb)
 have hx2 := (hb.block _ (cb_lt hx1)).trans hx1
 have hlt1 := cb_lt hx1
 have HRD2 := aM (hrd (w2.setRow w.heap.size #[.int .i64 y.f0, .int .i64 y.f1, .string y.f2, .slice E3 y.f3.length f3, .slice E4 y.f4.length f4]) (fun k hk _ => setRow_other w2 w.heap.size k _ (by omega)))
 have HB3 := aM (pw_below_grown HB2.out (some w.heap.size) HB2.out.size (grown_setRow w2 w.heap.size #[.int .i64 y.f0, .int .i64 y.f1, .string y.f2, .slice E3 y.f3.length f3, .slice E4 y.f4.length f4]) (fun k hk => by injection hk with hk; omega))
 have hx3 := setRow_heap w2 w.heap.size _ #[.int .i64 y.f0, .int .i64 y.f1, .string y.f2, .slice E3 y.f3.length f3, .slice E4 y.f4.length f4] _ _ hx2
 clear hb CF hx1 hrd HRD1 hlt1 HB2
 obtain ⟨w3, hw3⟩ : ∃ w3, w2.setRow w.heap.size #[.int .i64 y.f0, .int .i64 y.f1, .string y.f2, .slice E3 y.f3.length f3, .slice E4 y.f4.length f4] = w3 := ⟨_, rfl⟩
 rw [hw3] at HRD2 HB3 hx3
 have HW3 := aM hw3
 clear hw3
 have CP := aM (partMapping y HYC.out HYS.out E3 E4 f3 f4 w3 HRD2.out)
 go_wp2_with (first | (refine store_val (.tmp 2) (.tmp 11) rfl rfl rfl rfl hx2 ?_; rw [HW3.out]; clear hx2) | refine load_val (.tmp 2) rfl rfl rfl hx3 ?_)
 refine CP.out.mono ?_
 rintro e w4 ⟨z, b, B3, d3, B4, d4, rfl, hS, hrz, hb⟩
 have hbn := below_alloc (Below.refl w4.heap.size w4) (.cells #[.int .i64 z.f0, .int .i64 z.f1, .string z.f2, .slice B3 z.f3.length d3, .slice B4 z.f4.length d4] 25)
 have HB4 := aM (hb_then (hb_then HB3.out hb) hbn)
 have hx4 := blk_alloc ((hb.block _ (cb_lt hx3)).trans hx3) (.cells #[.int .i64 z.f0, .int .i64 z.f1, .string z.f2, .slice B3 z.f3.length d3, .slice B4 z.f4.length d4] 25)
 have hz4 := cb_new w4 (.cells #[.int .i64 z.f0, .int .i64 z.f1, .string z.f2, .slice B3 z.f3.length d3, .slice B4 z.f4.length d4] 25)
 have HRY := aM ((HRD2.out.below hb).below hbn)
 have HRZ := aM (hrz.below hbn)
 have HS := aM hS
 clear hb hbn hrz hS CP hx3 HB3 HRD2
 cases b
 ·go_wp2_with (first | refine load_val (.tmp 2) rfl rfl rfl hx4 ?_ | refine load_val (.tmp 5) rfl rfl rfl hz4 ?_)
  go_ret
  exact ⟨rfl, HB4.out⟩
 ·have CI : Aside0 (Calls Try.prog 9 #[.func (.func 21) #[] #[], .agg #[.int .i64 y.f0, .int .i64 y.f1, .string y.f2, .slice E3 y.f3.length f3, .slice E4 y.f4.length f4], .agg #[.int .i64 z.f0, .int .i64 z.f1, .string z.f2, .slice B3 z.f3.length d3, .slice B4 z.f4.length d4], .bool ig] (w4.alloc (.cells #[.int .i64 z.f0, .int .i64 z.f1, .string z.f2, .slice B3 z.f3.length d3, .slice B4 z.f4.length d4] 25)) fun e w' => e = .returned (.bool true) ∧ Below (w4.alloc (.cells #[.int .i64 z.f0, .int .i64 z.f1, .string z.f2, .slice B3 z.f3.length d3, .slice B4 z.f4.length d4] 25)).heap.size (w4.alloc (.cells #[.int .i64 z.f0, .int .i64 z.f1, .string z.f2, .slice B3 z.f3.length d3, .slice B4 z.f4.length d4] 25)) w') := by
   have hy := HRY.out
   have hz := HRZ.out
   rcases HS.out rfl with ⟨h4, ts, ht, he, hzn⟩ | ⟨h5, hzy⟩
   ·have hn : ts.length ≤ 1759218604400 := by have := HYS.out.vals; rw [ht, List.length_map] at this; exact this
    have hts : ∀ t, t ∈ ts → t.size ≤ 140737488355328 := fun t h => by
     have h1 : leaf 3 0 t ∈ y.f4 := by rw [ht]; exact List.mem_map.2 ⟨t, h, rfl⟩
     have h2 := HYS.out.at h1
     cases h2
     assumption
    have hsz : SmallS z := by rw [hzn]; exact ctx_small ts hn hts
    have h1 := turns_list y HYS.out h4 ts ht he hn hts ig
    rw [← hzn] at h1
    have h2 := turns_map z (by rw [hzn]; exact ctx_canon ts) hsz (by rw [hzn]; rfl) ig
    exact ⟨part_is ig y z (toI z) (toI z) HYS.out h1 h2 (small_to z hsz) (small_to z hsz) (from_to z) (from_to z) hsz.short E3 E4 B3 B4 f3 f4 d3 d4 _ hy.l3 hy.hk hy.l4 hy.hv hz.l3 hz.hk hz.l4 hz.hv⟩
   ·subst hzy
    have h1 := turns_map z HYC.out HYS.out h5 ig
    exact ⟨part_is ig z z (toI z) (toI z) HYS.out h1 h1 (small_to z HYS.out) (small_to z HYS.out) (from_to z) (from_to z) HYS.out.short E3 E4 B3 B4 f3 f4 d3 d4 _ hy.l3 hy.hk hy.l4 hy.hv hz.l3 hz.hk hz.l4 hz.hv⟩
  obtain ⟨p0, p1, p2, p3, p4⟩ := cell_row5 hx4
  obtain ⟨q0, q1, q2, q3, q4⟩ := cell_row5 hz4
  clear hx4 hz4
  go_wp2_with fail
  refine CI.out.mono ?_
  rintro e w5 ⟨rfl, hb⟩
  have HB5 := aM (hb_then HB4.out hb)
  clear hb CI
  go_wp2
  go_ret
  exact ⟨rfl, HB5.out⟩
theorem lawCtxRow (x : VS) (A3 A4 : Option Addr) (c3 c4 : Nat) (ig : Bool) (w : World) (h3 : x.f3.length ≤ c3) (hk : Kd.string.C w A3 x.f3.length x.f3) (h4 : x.f4.length ≤ c4) (hv : kS.C w A4 x.f4.length x.f4) (hx : SmallS x) :
  Calls Try.prog 5 #[.agg #[.int .i64 x.f0, .int .i64 x.f1, .string x.f2, .slice A3 x.f3.length c3, .slice A4 x.f4.length c4], .bool ig] w fun e w' => e = .returned (.bool true) ∧ Below w.heap.size w w' := lawCtx x hx ig A3 A4 c3 c4 w ⟨h3, hk, h4, hv⟩
end Go.Proofs.Ytaembebbaejfiaa.Tr
namespace Go.Proofs.Ytaembebbaejfiaa.RowKit
open Go.RowKit Go.ChangeShapes Go.WideShapes Go.ChangeAt Go.Proofs.YtaembebbaejfiaaW.PrintWords Go.Proofs.Ytaembebbaejfiaa.Str Go.Proofs.Ytaembebbaejfiaa.Kit
set_option linter.unusedVariables false
set_option linter.unusedSimpArgs false
theorem strs_arg {H : Type} {enc : TypeId × Value → H} {P : Program} {W : World} {base : Nat} {spare : Nat → Bool} {held : Bool} {t e : TypeId} {a : Option Addr} {len cap : Nat} {d : DataW H} {ps : List MemPlace}
  (ht : P.underlying t = some (.slice e)) (he : P.underlying e = some .string) (hc : P.cellsOf e = 1) (h : DataW.Trod enc P W base spare held t (.slice a len cap) d ps) :
  ∃ xs : List ByteArray, xs.length = len ∧ len ≤ cap ∧ Kd.string.C W a xs.length xs ∧ ((d = .nil ∧ xs = []) ∨ ∃ rest, d = .slice (strs xs) rest) := by
 obtain ⟨fuel, hf⟩ := h
 rcases open_strings ht he hc hf with ⟨hcs, hx⟩ | ⟨ad, l, c, ss, hcs, _, hl, hm, hss, hx, hcell, hws⟩
 ·simp [Value.cells] at hcs
  obtain ⟨rfl, rfl, rfl⟩ := hcs
  simp only [Prod.mk.injEq] at hx
  exact ⟨[], rfl, by omega, ⟨rfl, by simp, fun h => absurd h (by simp)⟩, .inl ⟨hx.1, rfl⟩⟩
 ·simp [Value.cells] at hcs
  obtain ⟨rfl, rfl, rfl⟩ := hcs
  simp only [Prod.mk.injEq] at hx
  have hlen : len ≤ ss.length := by rw [hss]; split <;> omega
  have hl2 : (ss.take len).length = len := by rw [List.length_take]; omega
  refine ⟨ss.take len, hl2, hl, ⟨rfl, by unfold maxLen at hm; omega, fun _ => ⟨ad, rfl, fun j p hp => ?_⟩⟩, .inr ⟨_, hx.1⟩⟩
  obtain ⟨hj, rfl⟩ := List.getElem?_eq_some_iff.1 hp
  refine ⟨[.string (ss.take len)[j]], rfl, rfl, fun i u hu => ?_⟩
  have hi : i < 1 := (List.getElem?_eq_some_iff.1 hu).1
  obtain rfl : i = 0 := by omega
  have hu' : Value.string (ss.take len)[j] = u := by simpa using hu
  subst hu'
  have : j * Kd.string.sz + 0 = j := by simp [Kd.string, Kd.scalar]
  rw [this, hcell j (by rw [hl2] at hj; omega)]
  rw [hl2] at hj
  simp [List.getD_eq_getElem?_getD, List.getElem?_eq_getElem (show j < ss.length by omega)]
end Go.Proofs.Ytaembebbaejfiaa.RowKit
namespace Go.Proofs.Ytaembebbaejfiaa.RowKit
open Go.RowKit Go.ChangeShapes Go.WideShapes Go.ChangeAt Go.Proofs.YtaembebbaejfiaaW.PrintWords Go.Proofs.YtaembebbaejfiaaW.PrintLast Go.Proofs.Ytaembebbaejfiaa.Str Go.Proofs.Ytaembebbaejfiaa.Kit Go.Proofs.Ytaembebbaejfiaa.PS Go.Proofs.Ytaembebbaejfiaa.Tr
set_option linter.unusedVariables false
set_option linter.unusedSimpArgs false
theorem addr_add (a : Addr) (i j : Nat) : (a.add i).add j = a.add (i + j) := by
 unfold Addr.add
 by_cases h : i = 0
 ·subst h; simp
 ·by_cases k : j = 0
  ·subst k; simp
  ·simp [h, k, Nat.add_assoc]
theorem agg_of {v : Value} {l : List Value} (h : v.cells.toList = l) (hl : 2 ≤ l.length) : v = .agg l.toArray := by
 cases v with
 | agg cs =>
  have : cs.toList = l := by simpa [Value.cells] using h
  rw [← this]
 | _ =>
  exfalso
  have := congrArg List.length h
  simp [Value.cells] at this
  omega
theorem weightsAll_in {H : Type} {P : Program} {e : TypeId} : ∀ {l : List (DataW H)} {d : DataW H}, d ∈ l → ∀ n ∈ d.weights P e, n ∈ DataW.weightsAll P e l
 | [], _, h, _, _ => by cases h
 | x :: r, d, h, n, hn => by
  simp only [DataW.weightsAll, List.mem_append]
  rcases List.mem_cons.1 h with rfl | h
  ·exact .inl hn
  ·exact .inr (weightsAll_in h n hn)
theorem row_of {α : Type} {R : Nat → α → Prop} : ∀ (len : Nat), (∀ i, i < len → ∃ p, R i p) → ∃ xs : List α, xs.length = len ∧ ∀ (i : Nat) (hi : i < xs.length), R i xs[i]
 | 0, _ => ⟨[], rfl, fun i hi => absurd hi (by simp)⟩
 | m + 1, each => by
  obtain ⟨xs, hx, hg⟩ := row_of m (fun i hi => each i (by omega))
  obtain ⟨p, hp⟩ := each m (by omega)
  refine ⟨xs ++ [p], by simp [hx], fun i hi => ?_⟩
  by_cases h : i < xs.length
  ·rw [List.getElem_append_left h]; exact hg i h
  ·have : i = m := by simp at hi; omega
   subst this
   subst hx
   simpa using hp
theorem list5 {α : Type} {cs : List α} (h : cs.length = 5) : ∃ a b c d e, cs = [a, b, c, d, e] := by
 match cs, h with
 | [a, b, c, d, e], _ => exact ⟨a, b, c, d, e, rfl⟩
section
variable {H : Type} {enc : TypeId × Value → H} {W : World} {base : Nat} {spare : Nat → Bool} {held : Bool}
theorem strs_small {d : DataW H} {ps : List MemPlace} {fuel : Nat} {v : Value} (hf : DataW.trod enc Try.prog W base spare held fuel 22 [v] = some (d, ps)) (hw : ∀ n ∈ d.weights Try.prog 22, n ≤ reachBytes) :
  ∃ A c xs, v = .slice A xs.length c ∧ xs.length ≤ c ∧ Kd.string.C W A xs.length xs ∧ (∀ s, s ∈ xs → s.size ≤ maxLen) ∧ xs.length ≤ 8796093022000 := by
 rcases DataW.trod_slice Try.underlying22 hf with ⟨hcs, hx⟩ | ⟨ad, l, c, elems, rest, n, _, hcs, hx, _, hl, hm, hlen, _, _, _⟩
 ·have hv : v = .slice none 0 0 := by simpa using hcs
  subst hv
  exact ⟨none, 0, [], rfl, Nat.le_refl _, ⟨rfl, by simp, fun h => absurd h (by simp)⟩, (fun s h => absurd h (by simp)), by simp⟩
 ·have hv : v = .slice (some ad) l c := by simpa using hcs
  subst hv
  have hT : DataW.Trod enc Try.prog W base spare held 22 (.slice (some ad) l c) d ps := ⟨fuel, by simpa [Value.cells] using hf⟩
  obtain ⟨xs, hxl, hle, hC, hd⟩ := strs_arg Try.underlying22 Try.underlying9 (by kernel_rfl) hT
  subst hxl
  refine ⟨some ad, c, xs, rfl, hle, hC, fun s hs => ?_, ?_⟩
  ·rcases hd with ⟨_, rfl⟩ | ⟨rest, rfl⟩
   ·cases hs
   ·have h1 := hw s.data.toList.length (by
     simp only [DataW.weights, Try.underlying22, List.mem_cons, List.mem_append]
     refine .inr (.inl (weightsAll_in (d := .lit (.string s.data.toList)) ?_ _ (by simp only [DataW.weights, List.mem_singleton])))
     unfold strs
     exact List.mem_map.2 ⟨s, hs, rfl⟩)
    have h2 : s.data.toList.length = s.size := by rw [Array.length_toList]; rfl
    unfold reachBytes at h1
    unfold maxLen
    omega
  ·rcases hd with ⟨_, rfl⟩ | ⟨rest, rfl⟩
   ·simp
   ·have h1 := hw _ (by
     simp only [DataW.weights, Try.underlying22, List.mem_cons]
     exact .inl rfl)
    have hb : Try.prog.bytesOf 9 = 16 := by kernel_rfl
    have h3 : (strs xs : List (DataW H)).length = xs.length := by simp [strs]
    rw [hb, h3] at h1
    unfold reachBytes at h1
    omega
theorem val_trod : ∀ (fuel : Nat) (cs : List Value) (d : DataW H) (ps : List MemPlace), DataW.trod enc Try.prog W base spare held fuel 25 cs = some (d, ps) → (∀ n ∈ d.weights Try.prog 25, n ≤ reachBytes) →
  ∃ x : VS, kS.K W x cs ∧ SmallS x := by
 intro fuel
 induction fuel using Nat.strongRecOn with
 | _ fuel ih =>
  intro cs d ps h hw
  obtain ⟨xs, n, hfu, hx, hl, hxl, hf⟩ := DataW.trod_struct Try.underlying25 h
  have hc5 : Try.prog.cellsOf 25 = 5 := by kernel_rfl
  rw [hc5] at hl
  obtain ⟨v0, v1, v2, v3, v4, rfl⟩ := list5 hl
  simp only [Prod.mk.injEq] at hx
  obtain ⟨rfl, _⟩ := hx
  have hxl5 : xs.length = 5 := hxl
  obtain ⟨y0, y1, y2, y3, y4, rfl⟩ := list5 hxl5
  have c1 : Try.prog.cellsOf 3 = 1 := by kernel_rfl
  have c2 : Try.prog.cellsOf 9 = 1 := by kernel_rfl
  have c3 : Try.prog.cellsOf 22 = 1 := by kernel_rfl
  have c4 : Try.prog.cellsOf 23 = 1 := by kernel_rfl
  have f0 : DataW.trod enc Try.prog W base spare held n 3 [v0] = some y0 := by
   have h_ : DataW.trod enc Try.prog W base spare held n 3 (([v0, v1, v2, v3, v4].drop 0).take (Try.prog.cellsOf 3)) = some y0 := hf 0 _ rfl
   rw [c1] at h_
   exact h_
  have f1 : DataW.trod enc Try.prog W base spare held n 3 [v1] = some y1 := by
   have h_ : DataW.trod enc Try.prog W base spare held n 3 (([v0, v1, v2, v3, v4].drop 1).take (Try.prog.cellsOf 3)) = some y1 := hf 1 _ rfl
   rw [c1] at h_
   exact h_
  have f2 : DataW.trod enc Try.prog W base spare held n 9 [v2] = some y2 := by
   have h_ : DataW.trod enc Try.prog W base spare held n 9 (([v0, v1, v2, v3, v4].drop 2).take (Try.prog.cellsOf 9)) = some y2 := hf 2 _ rfl
   rw [c2] at h_
   exact h_
  have f3 : DataW.trod enc Try.prog W base spare held n 22 [v3] = some y3 := by
   have h_ : DataW.trod enc Try.prog W base spare held n 22 (([v0, v1, v2, v3, v4].drop 3).take (Try.prog.cellsOf 22)) = some y3 := hf 3 _ rfl
   rw [c3] at h_
   exact h_
  have f4 : DataW.trod enc Try.prog W base spare held n 23 [v4] = some y4 := by
   have h_ : DataW.trod enc Try.prog W base spare held n 23 (([v0, v1, v2, v3, v4].drop 4).take (Try.prog.cellsOf 23)) = some y4 := hf 4 _ rfl
   rw [c4] at h_
   exact h_
  have hwE : ∀ (j : Nat) (t : TypeId) (e : DataW H), [3, 3, 9, 22, 23][j]? = some t → [y0.1, y1.1, y2.1, y3.1, y4.1][j]? = some e → ∀ m ∈ e.weights Try.prog t, m ≤ reachBytes := by
   intro j t e ht he m hm
   refine hw m ?_
   simp only [DataW.weights, Try.underlying25]
   exact DataW.weights_mem_each (ts := [3, 3, 9, 22, 23]) ht he m hm
  obtain ⟨i0, e0, _, _⟩ := DataW.trod_int Try.underlying3 f0
  obtain ⟨i1, e1, _, _⟩ := DataW.trod_int Try.underlying3 f1
  obtain ⟨s2, e2, hx2, hs2⟩ := DataW.trod_string Try.underlying9 f2
  have e0' : v0 = .int .i64 i0 := by simpa using e0
  have e1' : v1 = .int .i64 i1 := by simpa using e1
  have e2' : v2 = .string s2 := by simpa using e2
  subst e0' e1' e2'
  have hsz2 : s2.size ≤ 140737488355328 := by
   have h1 := hwE 2 _ _ rfl rfl s2.data.toList.length (by
    rw [hx2]
    simp only [DataW.weights, List.mem_singleton])
   have h2 : s2.data.toList.length = s2.size := by rw [Array.length_toList]; rfl
   unfold reachBytes at h1
   omega
  obtain ⟨A3, cc3, ks, rfl, hk3, hC3, hks, hkl⟩ := strs_small (d := y3.1) (ps := y3.2) f3 (hwE 3 _ _ rfl rfl)
  have h4 : ∃ A4 cc4, ∃ vs : List VS, v4 = .slice A4 vs.length cc4 ∧ vs.length ≤ cc4 ∧ kS.C W A4 vs.length vs ∧ vs.length ≤ 1759218604400 ∧ ∀ v, v ∈ vs → SmallS v := by
   rcases DataW.trod_slice Try.underlying23 f4 with ⟨hcs, hx⟩ | ⟨ad, l, c, elems, rest, m, hfm, hcs, hx, _, hl4, hm4, hlen, hel, _, _⟩
   ·have hv : v4 = .slice none 0 0 := by simpa using hcs
    subst hv
    exact ⟨none, 0, [], rfl, Nat.le_refl _, ⟨rfl, by simp, fun h => absurd h (by simp)⟩, by simp, (fun v h => absurd h (by simp))⟩
   ·have hv : v4 = .slice (some ad) l c := by simpa using hcs
    subst hv
    have hw4 := hwE 4 _ _ rfl rfl
    rw [hx] at hw4
    simp only [DataW.weights, Try.underlying23, List.mem_cons, List.mem_append] at hw4
    have hb : Try.prog.bytesOf 25 = 80 := by kernel_rfl
    have hlb := hw4 _ (.inl rfl)
    rw [hb, List.length_map, List.length_map, hlen] at hlb
    have hlb2 : l ≤ 1759218604400 := by unfold reachBytes at hlb; omega
    have each : ∀ i, i < l → ∃ p : VS, (∃ c, c.length = 5 ∧ kS.K W p c ∧ ∀ j u, c[j]? = some u → W.cell? (ad.add (i * 5 + j)) = some u) ∧ SmallS p := by
     intro i hi
     have h2 := hel i hi
     rw [List.getElem?_eq_getElem (by omega), hc5, Option.bind_eq_some_iff] at h2
     obtain ⟨cs, h3, h4⟩ := h2
     obtain ⟨_, hcl, hcell⟩ := World.cells?_some h3
     obtain ⟨p, hp, hps⟩ := ih m (by omega) cs (elems[i]'(by omega)).1 (elems[i]'(by omega)).2 h4 (fun q hq => hw4 q (.inr (.inl (weightsAll_in (List.mem_map.2 ⟨_, List.getElem_mem (by omega), rfl⟩) q hq))))
     refine ⟨p, ⟨cs, hcl, hp, fun j u hu => ?_⟩, hps⟩
     have hj : j < 5 := by rw [← hcl]; exact (List.getElem?_eq_some_iff.1 hu).1
     rw [← addr_add, hcell j hj]
     exact hu
    obtain ⟨vs, hvl, hvs⟩ := row_of l each
    subst hvl
    refine ⟨some ad, c, vs, rfl, hl4, ⟨rfl, by unfold maxLen at hm4; omega, fun _ => ⟨ad, rfl, fun j p hp => ?_⟩⟩, hlb2, fun v hv => ?_⟩
    ·obtain ⟨hj, rfl⟩ := List.getElem?_eq_some_iff.1 hp
     exact (hvs j hj).1
    ·obtain ⟨i, hi, rfl⟩ := List.getElem_of_mem hv
     exact (hvs i hi).2
  obtain ⟨A4, cc4, vs, rfl, hv4, hC4, hvl, hvs⟩ := h4
  exact ⟨⟨i0, i1, s2, ks, vs⟩, k25_mk W ⟨i0, i1, s2, ks, vs⟩ hk3 hC3 hv4 hC4, .mk _ hsz2 hks hkl hvl hvs⟩
theorem val_arg {v : Value} {d : DataW H} {ps : List MemPlace} (h : DataW.Trod enc Try.prog W base spare held 25 v d ps) (hw : ∀ n ∈ d.weights Try.prog 25, n ≤ reachBytes) :
  ∃ (x : VS) (A3 A4 : Option Addr) (c3 c4 : Nat), v.cells.toList = [.int .i64 x.f0, .int .i64 x.f1, .string x.f2, .slice A3 x.f3.length c3, .slice A4 x.f4.length c4] ∧ x.f3.length ≤ c3 ∧ Kd.string.C W A3 x.f3.length x.f3 ∧ x.f4.length ≤ c4 ∧ kS.C W A4 x.f4.length x.f4 ∧ SmallS x := by
 obtain ⟨fuel, hf⟩ := h
 obtain ⟨x, hx, hs⟩ := val_trod fuel _ d ps hf hw
 obtain ⟨A3, c3, A4, c4, e, l3, g3, l4, g4⟩ := k25_open hx
 exact ⟨x, A3, A4, c3, c4, e, l3, g3, l4, g4, hs⟩
end
end Go.Proofs.Ytaembebbaejfiaa.RowKit
