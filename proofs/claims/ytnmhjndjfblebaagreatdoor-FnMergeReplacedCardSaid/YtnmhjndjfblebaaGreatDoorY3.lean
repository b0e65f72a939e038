/- Parts of the proof, laid vq: Str, Kit, Index, Rowstr, PathM, Buf, Frame, Special, MapV, Place, Q0, Held, MapStep, FitPlain, Any, FromAny, FromList. -/
import Derived.Test.YtnmhjndjfblebaaGreatDoorY1
import Derived.Test.YtnmhjndjfblebaaGreatDoorProg
import Derived.Test.YtnmhjndjfblebaaGreatDoorY2
import Derived.BigQuiet
import Derived.Deep.QuietTactic
import Derived.Maps.RangeWalk
import Derived.Maps.OwnOps
import Derived.Sort.KeysCollected
import Derived.Sort.Walk0
import Derived.Laws.Cover1
import Derived.Below
import Derived.Deep.Draws
import Derived.Deep.AppendLies
import Derived.Maps.AppendAt
import Derived.OwnWalk
import Derived.Laws.BytesArg
import Derived.Laws.MakeOwn
import Derived.Laws.OwnMore
import Derived.Deep.OwnRows
import Derived.Tactics
import Derived.Lib.ConvBytes
import Derived.Laws.Slices
import Derived.WalkKit
import Derived.KernelRfl
import Derived.RowKit3
import Derived.Deep.LoopGhost
import Derived.WideLaws
import Derived.Deep.DeepCutAuto
import Derived.Deep.CutBlock
import Derived.Deep.RegionHeld3
import Derived.Laws.Rows
import Derived.Lib.AppendStr
import Derived.ArgAppend
import Derived.Laws.IdiomCopy
import Derived.OrdersHeld
import Derived.Laws.BitsLemmas
import Derived.RowKit
import Derived.Deep.MidRow
set_option linter.unusedVariables false
set_option linter.unusedSimpArgs false
namespace Go.Proofs.YtnmhjndjfblebaaGreatDoor.Str
open Go.RowKit Go.Proofs.YtnmhjndjfblebaaGreatDoorW.PrintWords
abbrev Bs := List UInt8
abbrev lb (s : ByteArray) : Bs := s.data.toList
theorem xw (s : ByteArray) : (lb s).length = s.size := by rw [Array.length_toList]; rfl
theorem lb_inj {s t : ByteArray} (h : lb s = lb t) : s = t := by
 cases s; cases t
 simp only [lb] at h; rw [Array.toList_inj.1 h]
theorem lb_extract (s : ByteArray) (a b : Nat) : lb (s.extract a b) = ((lb s).take b).drop a := by
 simp [lb,List.extract_eq_drop_take', ByteArray.data_extract]
theorem lb_mk (l : Bs) : lb ⟨l.toArray⟩ = l := by simp [lb]
theorem mk_lb (s : ByteArray) : (⟨(lb s).toArray⟩ : ByteArray) = s := by simp [lb]
theorem xt (s : ByteArray) : s.toList = lb s := ByteArray.toList_eq s
theorem w64 {i : Int} (h0 : -4611686018427387904 ≤ i) (h1 : i ≤ 4611686018427387904) : wrap64 i = i := by
 unfold wrap64; omega
def find (sub : Bs) : Bs → Option Nat
 | [] => if sub = [] then some 0 else none
 | c :: t => if sub.isPrefixOf (c :: t) then some 0 else (find sub t).map (· + 1)
def findI (sub s : Bs) : Int := match find sub s with
 | some i => (i : Int)
 | none => -1
theorem find_short (sub : Bs) : ∀ (s : Bs),s.length < sub.length → find sub s = none
 | [],h => by
  have : sub ≠ [] := by rintro rfl; simp at h
  simp [find,this]
 | c :: t,h => by
  have h1 : sub.isPrefixOf (c :: t) = false := by
   rw [Bool.eq_false_iff]; intro hp; have := (List.isPrefixOf_iff_prefix.1 hp).length_le
   omega
  simp only [List.length_cons] at h; rw [find,h1,find_short sub t (by omega)]
  simp
theorem find_eq (sub s : Bs) : find sub s = if sub.isPrefixOf s then some 0 else match s with
 | [] => none
 | _ :: t => (find sub t).map (· + 1) := by
 cases s with
 | nil =>
  cases sub with
  | nil => simp [find]
  | cons a b => simp [find]
 | cons c t => rw [find]
theorem prefix_iff (sub s : Bs) : sub.isPrefixOf s = true ↔ sub.length ≤ s.length ∧ s.take sub.length = sub := by
 rw [List.isPrefixOf_iff_prefix]; constructor
 ·intro h; exact ⟨h.length_le,(List.prefix_iff_eq_take.1 h).symm⟩
 ·intro ⟨_,h⟩; exact List.prefix_iff_eq_take.2 h.symm
theorem find_some {sub s : Bs} {i : Nat} (h : find sub s = some i) : i + sub.length ≤ s.length ∧ (s.drop i).take sub.length = sub := by
 induction s generalizing i with
 | nil =>
  by_cases e : sub = []
  ·simp [find,e] at h
   subst h e
   simp
  ·simp [find,e] at h
 | cons c t ih =>
  rw [find] at h
  by_cases hp : sub.isPrefixOf (c :: t) = true
  ·rw [if_pos hp] at h
   simp at h
   subst h; obtain ⟨h1,h2⟩ := (prefix_iff _ _).1 hp; exact ⟨by omega,by simpa using h2⟩
  ·rw [if_neg hp] at h; obtain ⟨j,hj,rfl⟩ := Option.map_eq_some_iff.1 h; obtain ⟨h1,h2⟩ := ih hj; exact ⟨by simp; omega,by simpa using h2⟩
theorem find_one (c : UInt8) : ∀ s : Bs,find [c] s = s.findIdx? (· == c)
 | [] => by simp [find]
 | x :: t => by
  rw [find,find_one c t,List.findIdx?_cons]
  by_cases h : x = c
  ·subst h; simp [List.isPrefixOf]
  ·have h' : ¬ c = x := fun e => h e.symm
   simp [List.isPrefixOf,h,h']
def split (c : UInt8) : Bs → List Bs
 | [] => [[]]
 | x :: t => if x = c then [] :: split c t else match split c t with
  | [] => [[x]]
  | h :: r => (x :: h) :: r
theorem split_none {c : UInt8} {s : Bs} (h : find [c] s = none) : split c s = [s] := by
 induction s with
 | nil => rfl
 | cons x t ih =>
  rw [find_one,List.findIdx?_cons] at h
  by_cases e : x = c
  ·subst e; simp at h
  ·simp [e] at h
   have := ih (by rw [find_one]; simpa using h); rw [split,if_neg e,this]
theorem split_some {c : UInt8} {s : Bs} {i : Nat} (h : find [c] s = some i) : split c s = s.take i :: split c (s.drop (i + 1)) := by
 induction s generalizing i with
 | nil => simp [find] at h
 | cons x t ih =>
  rw [find_one,List.findIdx?_cons] at h
  by_cases e : x = c
  ·subst e
   simp at h
   subst h
   simp [split]
  ·simp [e] at h
   obtain ⟨j,hj,rfl⟩ := h; have := ih (i := j) (by rw [find_one]; exact hj); rw [split,if_neg e,this]
   simp
theorem split_length (c : UInt8) : ∀ s : Bs,(split c s).length ≤ s.length + 1
 | [] => by simp [split]
 | x :: t => by
  have ih := split_length c t; rw [split]
  split
  ·simp; omega
  ·split
   ·simp
   ·rename_i h r he; rw [he] at ih; simp at ih ⊢; omega
def At (sub s : Bs) (j : Nat) : Prop := j ≤ s.length ∧ find sub s = (find sub (s.drop j)).map (· + j)
theorem At.start (sub s : Bs) : At sub s 0 := ⟨by omega,by simp⟩
theorem At.hit {sub s : Bs} {j : Nat} (h : At sub s j) (hm : j + sub.length ≤ s.length) (e : (s.drop j).take sub.length = sub) : findI sub s = j := by
 have hp : sub.isPrefixOf (s.drop j) = true := (prefix_iff _ _).2 ⟨by rw [List.length_drop]; omega,e⟩; have h2 := h.2; rw [find_eq sub (s.drop j),if_pos hp] at h2
 simp [findI,h2]
theorem At.next {sub s : Bs} {j : Nat} (h : At sub s j) (hm : j + sub.length ≤ s.length) (e : ¬ (s.drop j).take sub.length = sub) : At sub s (j + 1) := by
 have hp : ¬ sub.isPrefixOf (s.drop j) = true := fun hp => e ((prefix_iff _ _).1 hp).2
 have hlt : j < s.length := by
  rcases Nat.lt_or_ge j s.length with h' | h'
  ·exact h'
  ·exfalso
   apply e
   have : sub = [] := List.eq_nil_of_length_eq_zero (by omega)
   simp [this]
 refine ⟨hlt, ?_⟩; have h2 := h.2; rw [find_eq sub (s.drop j),if_neg hp,List.drop_eq_getElem_cons hlt] at h2; rw [h2]; simp only [Option.map_map]
 congr 1
 funext x
 simp
 omega
theorem At.miss {sub s : Bs} {j : Nat} (h : At sub s j) (hm : s.length < j + sub.length) : findI sub s = -1 := by
 have h2 := h.2; rw [find_short sub (s.drop j) (by rw [List.length_drop]; have := h.1; omega)] at h2
 simp [findI,h2]
theorem lb_piece (s : ByteArray) (j m : Nat) : lb (s.extract j (j + m)) = ((lb s).drop j).take m := by
 rw [lb_extract,List.drop_take]
 congr 1
 omega
end Go.Proofs.YtnmhjndjfblebaaGreatDoor.Str
namespace Go.Proofs.YtnmhjndjfblebaaGreatDoor.Kit
open Go.RowKit Go.Proofs.YtnmhjndjfblebaaGreatDoorW.PrintWords Go.Proofs.YtnmhjndjfblebaaGreatDoor.Str
theorem zm {w w1 w2 : World} (h : Below w.heap.size w w1) (k : Below w1.heap.size w1 w2) : Below w.heap.size w w2 := vl h h.size k
section
variable {P : Program} {ops : Array Oper} {rest : List Oper} {o : Oper} {a : Act} {Q : Exit → Act → World → Prop} {α : Type}
theorem append_scalar (enc : α → Value) (h1 : ∀ x,(enc x).oneCell' = true) {w0 W : World} (t e : TypeId) (z : Value) (bytes : Nat)
  (ht : P.underlying t = some (.slice e)) (hinfo : (P.info? e).map (fun i => (i.zero,i.size,i.bytes)) = some (some z,1,bytes)) (hz : z.cells.size = 1) (hb0 : 0 < bytes)
  (hgd : o.guard = none) (s x : Operand) (ho : o.op = .call { callee := .builtin .append,args := #[s,x],argTypes := #[t,t] })
  (v : Value) (xs : List α) (p : α) (hs : a.eval s = v) (hx : a.eval x = .slice (some ⟨W.heap.size,0,none⟩) 1 1)
  (HO : (Kd.scalar enc h1).R e W w0.heap.size (fun _ => True) v xs) (HB : Below w0.heap.size w0 W) (hl : (xs.length + 1) * bytes ≤ 140737488355328)
  (h : ∀ v1 w1,(Kd.scalar enc h1).R e w1 w0.heap.size (fun _ => True) v1 (xs ++ [p]) → Below w0.heap.size w0 w1 → W.grownBy w1 v.ownBlock → wpList P ops Q rest (a.put o.dst v1) w1) :
  wpList P ops Q (o :: rest) a (W.alloc (.cells #[enc p] e)) :=
 Kd.R_append (Kd.scalar enc h1) w0.heap.size hgd s x t e z bytes ho ht hinfo hz (show 0 < 1 by decide) hb0 v xs p [enc p] (fun _ => True) (fun _ => False) hs hx rfl (fun _ hk => hk.elim) (fun _ _ => trivial) HO HB HB.size hl
  (fun v1 w1 h2 h3 h4 _ => h v1 w1 h2 h3 h4)
end
theorem yy : (Tryz.prog.info? 9).map (fun i => (i.zero,i.size,i.bytes)) = some (some (.string ⟨#[]⟩),1,16) := by kernel_rfl
section
variable {ops : Array Oper} {rest : List Oper} {o : Oper} {a : Act} {Q : Exit → Act → World → Prop}
theorem own_empty {α : Type} (d : Kd α) {w : World} {base : Nat} {e : TypeId} {ok : Nat → Prop} (hb : base ≤ w.heap.size) (hok : ok w.heap.size) : d.R e (w.alloc (.cells #[] e)) base ok (.slice (some ⟨w.heap.size,0,none⟩) 0 0) [] := by
 refine ⟨fun k hk => ?_, [],⟨by simp, .inr ⟨w.heap.size,0,#[],rfl,hb,heap_alloc_new w _,Nat.le_refl _,by unfold maxLen; omega,by simp,by simp⟩⟩,Reps.none _ _⟩
 have : w.heap.size = k := by simpa [Value.ownBlock] using hk
 subst this; exact hok
theorem append_str {w0 W : World} (s x : Operand) (hgd : o.guard = none) (ho : o.op = .call { callee := .builtin .append,args := #[s,x],argTypes := #[22,22] })
  {v : Value} {xs : List ByteArray} {p : ByteArray} (hs : a.eval s = v) (hx : a.eval x = .slice (some ⟨W.heap.size,0,none⟩) 1 1)
  (HO : Kd.string.R 9 W w0.heap.size (fun _ => True) v xs) (HB : Below w0.heap.size w0 W) (hl : xs.length < 8796093022207)
  (h : ∀ v1 w1,Kd.string.R 9 w1 w0.heap.size (fun _ => True) v1 (xs ++ [p]) → Below w0.heap.size w0 w1 → W.grownBy w1 v.ownBlock → wpList Tryz.prog ops Q rest (a.put o.dst v1) w1) :
  wpList Tryz.prog ops Q (o :: rest) a (W.alloc (.cells #[.string p] 9)) :=
 append_scalar Value.string (fun _ => rfl) 22 9 (.string ⟨#[]⟩) 16 Tryz.underlying22 yy rfl (by decide) hgd s x ho v xs p hs hx HO HB (by omega) h
end
end Go.Proofs.YtnmhjndjfblebaaGreatDoor.Kit
namespace Go.Proofs.YtnmhjndjfblebaaGreatDoor.Index
open Go.RowKit Go.Proofs.YtnmhjndjfblebaaGreatDoorW.PrintWords Go.Proofs.YtnmhjndjfblebaaGreatDoor.Str Go.Proofs.YtnmhjndjfblebaaGreatDoor.Kit
set_option maxHeartbeats 400000 in
theorem tree_zzIndex (s sub : ByteArray) (w : World) (hs : s.size ≤ 281474976710656) (hb : sub.size ≤ 281474976710656) :
  Calls Tryz.prog 95 #[.string s, .string sub] w fun e w' => e = .returned (.int .i64 (findI (lb sub) (lb s))) ∧ Drawn0 w w' := by
 go_enter Tryz.func95,Tryz.ntmps95
 go_wp2
 go_loopw [5] (fun v5 wr => ∃ j : Nat,v5 = .int .i64 j ∧ j ≤ s.size ∧ Aside0 (At (lb sub) (lb s) j) ∧ Drawn0 w wr) (fun v5 _ => s.size + 1 - (intOf v5).toNat)
 case atStart => exact ⟨0,rfl,by omega,⟨At.start _ _⟩,Drawn0.refl _⟩
 case round =>
  obtain ⟨j,rfl,hj,HA,HD⟩ := hrel
  by_cases hlt : (j : Int) + (sub.size : Int) ≤ (s.size : Int)
  ·have hm : j + sub.size ≤ s.size := by omega
   have q1 : (j : Int) ≤ (j : Int) + (sub.size : Int) := by omega
   have q0 : (0 : Int) ≤ (j : Int) := by omega
   by_cases e : (s.extract j (j + sub.size)).toList = sub.toList
   ·have e1 : ((s.extract j (j + sub.size)).toList == sub.toList) = true := beq_iff_eq.mpr e; have hit := HA.out.hit (by rw [xw,xw]; exact hm) (by rw [xw, ← lb_piece, ← xt, ← xt]; exact e); have Hit := aM hit; clear e hit
    go_wp2
    go_ret
    exact ⟨by rw [Hit.out]; rfl,by repeat (first | exact HD | apply Drawn0.step)⟩
   ·have e1 : ((s.extract j (j + sub.size)).toList == sub.toList) = false := beq_eq_false_iff_ne.mpr e; have nxt := HA.out.next (by rw [xw,xw]; exact hm) (by rw [xw, ← lb_piece, ← xt, ← xt]; exact e)
    have hj1 : j + 1 ≤ s.size := by have := nxt.1; rw [xw] at this; exact this
    have Nxt := aM nxt; clear e nxt
    go_wp2
    go_roundw
    case rel => exact ⟨j + 1,by go_num,by omega,Nxt,by repeat (first | exact HD | apply Drawn0.step)⟩
    case measure => simp [intOf]; omega
  ·have miss := HA.out.miss (by rw [xw,xw]; omega); have Miss := aM miss; have d : decide ((j : Int) + (sub.size : Int) ≤ (s.size : Int)) = false := decide_eq_false hlt; clear miss hlt
   go_wp2
   go_ret
   exact ⟨by rw [Miss.out]; rfl,by repeat (first | exact HD | apply Drawn0.step)⟩
def parts (c : UInt8) (s : ByteArray) : List ByteArray := (split c (lb s)).map fun p => ⟨p.toArray⟩
def Cutting (c : UInt8) (s : ByteArray) (out : List ByteArray) (r : ByteArray) : Prop := parts c s = out ++ parts c r ∧ out.length + r.size ≤ s.size
theorem Cutting.start (c : UInt8) (s : ByteArray) : Cutting c s [] s := ⟨rfl,by simp⟩
theorem Cutting.next {c : UInt8} {s r : ByteArray} {out : List ByteArray} {i : Nat} (h : Cutting c s out r) (hf : find [c] (lb r) = some i) (hi : i + 1 ≤ r.size) :
  Cutting c s (out ++ [r.extract 0 i]) (r.extract (i + 1) r.size) := by
 obtain ⟨h1,h2⟩ := h
 have e : parts c r = r.extract 0 i :: parts c (r.extract (i + 1) r.size) := by
  unfold parts
  rw [split_some hf,List.map_cons]
  congr 1
  ·apply lb_inj
   rw [lb_mk,lb_extract,List.drop_zero]
  ·rw [lb_extract]
   congr 2
   rw [← xw,List.take_length]
 refine ⟨by rw [h1,e]; simp, ?_⟩; rw [ByteArray.size_extract,List.length_append,List.length_singleton]
 omega
theorem Cutting.last {c : UInt8} {s r : ByteArray} {out : List ByteArray} (h : Cutting c s out r) (hf : find [c] (lb r) = none) : parts c s = out ++ [r] := by
 rw [h.1]
 congr 1
 unfold parts
 rw [split_none hf,List.map_cons,List.map_nil,mk_lb]
set_option maxHeartbeats 400000 in
theorem tree_zzSplit (s : ByteArray) (c : UInt8) (w : World) (hs : s.size ≤ 4398046511104) :
  Calls Tryz.prog 85 #[.string s, .string ⟨#[c]⟩] w fun e w' => ∃ v,e = .returned v ∧ Kd.R Kd.string 9 w' w.heap.size (fun _ => True) v (parts c s) ∧ Below w.heap.size w w' := by
 have HB := aM (Below.refl w.heap.size w)
 go_enter Tryz.func85,Tryz.ntmps85
 go_wp2
 go_loopw [0,5,8] (fun v0 v5 v8 wr => ∃ (r : ByteArray) (out : List ByteArray),v0 = .string r ∧ r.size ≤ 4398046511104 ∧ Aside0 (Cutting c s out r) ∧ Aside0 (Kd.R Kd.string 9 wr w.heap.size (fun _ => True) v5 out) ∧ Aside0 (Below w.heap.size w wr)) (fun v0 _ _ _ => match v0 with | .string r => r.size | _ => 0)
 case atStart => exact ⟨s, [],rfl,hs,⟨Cutting.start c s⟩,⟨Kd.R_nil _ _ _ _ _⟩,HB⟩
 case round =>
  clear HB; obtain ⟨r,out,rfl,hr,HCut,HO,HB⟩ := hrel
  cases hf : find [c] (lb r) with
  | none =>
   have Hf := aM hf
   have hfi : findI [c] (lb r) = -1 := by rw [findI,hf]
   have Hfi := aM hfi; clear hf hfi
   go_wp2_with fail
   refine (tree_zzIndex r ⟨#[c]⟩ _ (by omega) (by show 1 ≤ _; omega)).mono ?_; rintro e w1 ⟨rfl,hd⟩; rw [show lb ⟨#[c]⟩ = [c] from rfl,Hfi.out]; have HB1 := aM (zm HB.out hd.below); have HO1 := aM (Kd.R_below HO.out hd.below)
   have hl : out.length < 8796093022207 := by have := HCut.out.2; omega
   clear hd HB HO
   go_wp2_with (at_builtin; refine append_str _ _ rfl rfl rfl rfl HO1.out HB1.out hl ?_; intro v1 w2 ho hb hg)
   go_ret
   exact ⟨_,rfl,by rw [HCut.out.last Hf.out]; exact ho,hb⟩
  | some i =>
   have hfi : findI [c] (lb r) = i := by rw [findI,hf]
   have hi := (find_some hf).1; rw [xw] at hi; have hi2 : i + 1 ≤ r.size := hi; have hcut := HCut.out.next hf hi2; have hcs := hcut.2; rw [List.length_append,List.length_singleton] at hcs; have HCut2 := aM hcut; have Hfi := aM hfi
   have hl : out.length < 8796093022207 := by omega
   clear hf hfi hcut hi hcs
   go_wp2_with fail
   refine (tree_zzIndex r ⟨#[c]⟩ _ (by omega) (by show 1 ≤ _; omega)).mono ?_; rintro e w1 ⟨rfl,hd⟩; rw [show lb ⟨#[c]⟩ = [c] from rfl,Hfi.out]; have HB1 := aM (zm HB.out hd.below); have HO1 := aM (Kd.R_below HO.out hd.below); clear hd HB HO
   have q0 : (0 : Int) ≤ (i : Int) := by omega
   have q1 : (i : Int) ≤ (r.size : Int) := by omega
   have q2 : ((i : Int) + 1) ≤ (r.size : Int) := by omega
   go_wp2_with (at_builtin; refine append_str _ _ rfl rfl rfl rfl HO1.out HB1.out hl ?_; intro v1 w2 ho hb hg; have HO2 := aM ho; have HB2 := aM hb; clear ho hb hg)
   go_roundw
   case rel => exact ⟨_, _,rfl,by rw [ByteArray.size_extract]; omega,HCut2,HO2,HB2⟩
   case measure => simp; omega
end Go.Proofs.YtnmhjndjfblebaaGreatDoor.Index
namespace Go.Proofs.YtnmhjndjfblebaaGreatDoor.Kit
open Go.RowKit Go.Proofs.YtnmhjndjfblebaaGreatDoorW.PrintWords Go.Proofs.YtnmhjndjfblebaaGreatDoor.Str
theorem strs_open {w : World} {A : Option Addr} {xs : List ByteArray} (h : Kd.string.C w A xs.length xs) (h0 : 0 < xs.length) :
  ∃ bk off,A = some ⟨bk,off,none⟩ ∧ bk < w.heap.size ∧ ∀ (j : Nat) (hj : j < xs.length),w.cell? ⟨bk,off + j,none⟩ = some (.string xs[j]) := by
 obtain ⟨hl,hm,hc⟩ := h; obtain ⟨ad,rfl,hcc⟩ := hc h0
 have cell : ∀ (j : Nat) (hj : j < xs.length),w.cell? (ad.add j) = some (.string xs[j]) := by
  intro j hj; obtain ⟨c,hcl,hr,hcell⟩ := hcc j xs[j] (List.getElem?_eq_getElem hj); have hr' : c = [Value.string xs[j]] := hr; subst hr'; have := hcell 0 _ rfl
  simpa [Kd.string,Kd.scalar] using this
 obtain ⟨bk,off,spot⟩ := ad
 have hspot : spot = none := by
  have h1 := cell 0 h0
  cases hs : spot with
  | none => rfl
  | some sp =>
   exfalso
   subst hs
   simp [World.cell?, Addr.add] at h1
   split at h1 <;> simp at h1
 subst hspot
 have add : ∀ j : Nat,(⟨bk,off,none⟩ : Addr).add j = ⟨bk,off + j,none⟩ := by intro j; unfold Addr.add; split <;> simp_all
 refine ⟨bk,off,rfl, ?_,fun j hj => by rw [← add]; exact cell j hj⟩; have h1 := cell 0 h0; rw [add] at h1; exact World.block_lt_of_cell? w _ h1
theorem strs_mk {w : World} {b o : Nat} {xs : List ByteArray} (hm : xs.length ≤ 9223372036854775807) (hc : ∀ (j : Nat) (hj : j < xs.length),w.cell? ⟨b,o + j,none⟩ = some (.string xs[j])) : Kd.string.C w (some ⟨b,o,none⟩) xs.length xs := by
 refine ⟨rfl,hm,fun _ => ⟨_,rfl,fun j p hp => ?_⟩⟩; obtain ⟨hj,rfl⟩ := List.getElem?_eq_some_iff.1 hp; refine ⟨[.string xs[j]],rfl,rfl,fun i u hu => ?_⟩; have hi : i < 1 := (List.getElem?_eq_some_iff.1 hu).1
 obtain rfl : i = 0 := by omega
 have hu' : Value.string xs[j] = u := by simpa using hu
 subst hu'
 have add : (⟨b,o,none⟩ : Addr).add (j * Kd.string.sz + 0) = ⟨b,o + j,none⟩ := by
  have : j * Kd.string.sz + 0 = j := by simp [Kd.string,Kd.scalar]
  rw [this]; unfold Addr.add; split <;> simp_all
 rw [add]; exact hc j hj
theorem strs_lit (w : World) (e : TypeId) (xs : List ByteArray) (hm : xs.length ≤ 9223372036854775807) : Kd.string.C (w.alloc (.cells (xs.map Value.string).toArray e)) (some ⟨w.heap.size,0,none⟩) xs.length xs := by
 refine strs_mk hm fun j hj => ?_
 have := World.cell?_alloc_new w (xs.map Value.string).toArray e j; rw [Nat.zero_add]; rw [this]
 simp [hj]
end Go.Proofs.YtnmhjndjfblebaaGreatDoor.Kit
namespace Go.Proofs.YtnmhjndjfblebaaGreatDoor.Tree
open Go.RowKit Go.Proofs.YtnmhjndjfblebaaGreatDoorW.PrintWords Go.Proofs.YtnmhjndjfblebaaGreatDoor.Str Go.Proofs.YtnmhjndjfblebaaGreatDoor.Kit Go.Proofs.YtnmhjndjfblebaaGreatDoor.Index
set_option maxHeartbeats 400000 in
theorem Path_Parts (s : ByteArray) (w : World) (hs : s.size ≤ 4398046511104) :
  Calls Tryz.prog 72 #[.string s] w fun e w' => ∃ v,e = .returned v ∧ Kd.R Kd.string 9 w' w.heap.size (fun _ => True) v (parts 46 s) ∧ Below w.heap.size w w' := by
 go_enter Tryz.func72,Tryz.ntmps72
 go_wp2_with fail
 refine (tree_zzSplit s 46 w hs).mono ?_; rintro e w1 ⟨v,rfl,hr,hb⟩; have HR := aM hr; have HB := aM hb; clear hr hb
 go_wp2
 go_ret
 exact ⟨_,rfl,HR.out,HB.out⟩
def takes (p x : ByteArray) : Bool := lb p == [42] || lb p == lb x
def matchB : List ByteArray → List ByteArray → Bool
 | p :: ps,x :: xs => takes p x && matchB ps xs
 | _, [] => true
 | [], _ :: _ => false
def Matching (ps xs : List ByteArray) (j : Nat) : Prop := matchB ps xs = matchB (ps.drop j) (xs.drop j)
theorem Matching.start (ps xs : List ByteArray) : Matching ps xs 0 := by simp [Matching]
theorem Matching.next {ps xs : List ByteArray} {j : Nat} (h : Matching ps xs j) (hp : j < ps.length) (hx : j < xs.length) (ht : takes ps[j] xs[j] = true) : Matching ps xs (j + 1) := by
 unfold Matching at *
 rw [h,List.drop_eq_getElem_cons hp,List.drop_eq_getElem_cons hx,matchB,ht,Bool.true_and]
theorem Matching.fail {ps xs : List ByteArray} {j : Nat} (h : Matching ps xs j) (hp : j < ps.length) (hx : j < xs.length) (ht : takes ps[j] xs[j] = false) : matchB ps xs = false := by
 unfold Matching at *
 rw [h,List.drop_eq_getElem_cons hp,List.drop_eq_getElem_cons hx,matchB,ht,Bool.false_and]
theorem Matching.done {ps xs : List ByteArray} {j : Nat} (h : Matching ps xs j) (hx : xs.length ≤ j) : matchB ps xs = true := by
 unfold Matching at *
 rw [h,List.drop_of_length_le hx]
 cases ps.drop j <;> rfl
def pathMatches (p pattern : ByteArray) : Bool := (parts 46 pattern).length == (parts 46 p).length && matchB (parts 46 pattern) (parts 46 p)
theorem parts_length (c : UInt8) (s : ByteArray) : (parts c s).length ≤ s.size + 1 := by
 rw [parts,List.length_map, ← xw]; exact split_length c (lb s)
set_option maxHeartbeats 800000 in
theorem Path_Matches (p pattern : ByteArray) (w : World) (hp : p.size ≤ 4398046511104) (hq : pattern.size ≤ 4398046511104) :
  Calls Tryz.prog 55 #[.string p, .string pattern] w fun e w' => e = .returned (.bool (pathMatches p pattern)) ∧ Below w.heap.size w w' := by
 have l1 := parts_length 46 pattern; have l2 := parts_length 46 p
 unfold pathMatches
 generalize hps : parts 46 pattern = ps at *; generalize hxs : parts 46 p = xs at *; have HPS := aM hps; have HXS := aM hxs; clear hps hxs
 go_enter Tryz.func55,Tryz.ntmps55
 go_wp2_with fail
 refine (Path_Parts pattern w hq).mono ?_; rintro e w1 ⟨v1,rfl,hr1,hb1⟩; rw [HPS.out] at hr1; have HB1 := aM hb1; have HR1 := aM hr1; clear hr1 hb1
 go_wp2_with fail
 refine (Path_Parts p w1 hp).mono ?_; rintro e w2 ⟨v2,rfl,hr2,hb2⟩; rw [HXS.out] at hr2; obtain ⟨A1,c1,rfl,hc1,hC1⟩ := Kd.R_reads (Kd.R_below HR1.out hb2); obtain ⟨A2,c2,rfl,hc2,hC2⟩ := Kd.R_reads hr2; have HB := aM (zm HB1.out hb2); clear hr2 hb2 HR1 HB1
 by_cases hl : ps.length = xs.length
 ·have e1 : ((ps.length : Int) == (xs.length : Int)) = true := beq_iff_eq.mpr (by omega); have e2 : ((ps.length : Int) != (xs.length : Int)) = false := bne_eq_false_iff_eq.mpr (by omega); have H0 := aM hC1; have H1 := aM hC2; have HL := aM hl
  have hle : ps.length ≤ xs.length := by omega
  have hge : xs.length ≤ ps.length := by omega
  clear hl hC1 hC2
  go_wp2
  go_loopw [20] (fun v20 wr => ∃ j : Nat,v20 = .int .i64 j ∧ j ≤ xs.length ∧ Aside0 (Matching ps xs j) ∧ Drawn0 w2 wr) (fun v20 _ => xs.length - (intOf v20).toNat)
  case atStart => exact ⟨0,rfl,by omega,⟨Matching.start ps xs⟩,Drawn0.refl _⟩
  case round =>
   obtain ⟨j,rfl,hj,HM,⟨nd,rfl⟩⟩ := hrel
   by_cases hlt : j < xs.length
   ·obtain ⟨b0,o0,rfl,hb0,hc0⟩ := strs_open H0.out (by omega); obtain ⟨b1,o1,rfl,hb1,hc1⟩ := strs_open H1.out (by omega); have g0 := hc0 j (by omega); have g1 := hc1 j hlt
    have hlt2 : j < ps.length := by omega
    clear hc0 hc1
    cases ht : takes ps[j] xs[j] with
    | true =>
     have nxt := aM (HM.out.next hlt2 hlt ht)
     by_cases hstar : ps[j].toList = [42]
     ·have e1 : (ps[j].toList == [42]) = true := beq_iff_eq.mpr hstar; clear ht hstar
      go_wp2
      go_roundw
      case rel => exact ⟨j + 1,by go_num,by omega,nxt,by repeat (first | exact Drawn0.refl _ | apply Drawn0.step)⟩
      case measure => simp [intOf]; omega
     ·have e1 : (ps[j].toList == [42]) = false := beq_eq_false_iff_ne.mpr hstar
      have e2 : (ps[j].toList == xs[j].toList) = true := by
       simp only [takes,Bool.or_eq_true,beq_iff_eq] at ht; rw [beq_iff_eq,xt,xt]; rw [xt] at hstar; exact ht.resolve_left hstar
      clear ht hstar
      go_wp2
      go_roundw
      case rel => exact ⟨j + 1,by go_num,by omega,nxt,by repeat (first | exact Drawn0.refl _ | apply Drawn0.step)⟩
      case measure => simp [intOf]; omega
    | false =>
     have fl := aM (HM.out.fail hlt2 hlt ht); simp only [takes,Bool.or_eq_false_iff] at ht
     have e1 : (ps[j].toList == [42]) = false := by rw [xt]; exact ht.1
     have e2 : (ps[j].toList == xs[j].toList) = false := by rw [xt,xt]; exact ht.2
     clear ht
     go_wp2
     go_ret
     exact ⟨by rw [fl.out,Bool.and_false]; rfl,zm HB.out (Drawn0.below ⟨⟨nd,rfl⟩⟩)⟩
   ·have dn := aM (HM.out.done (by omega))
    go_wp2
    go_ret
    exact ⟨by rw [dn.out,HL.out,beq_self_eq_true]; rfl,zm HB.out (Drawn0.below ⟨⟨nd,rfl⟩⟩)⟩
 ·have e1 : ((ps.length : Int) == (xs.length : Int)) = false := beq_eq_false_iff_ne.mpr (by omega); have e2 : ((ps.length : Int) != (xs.length : Int)) = true := bne_iff_ne.mpr (by omega); have e3 := aM (show (ps.length == xs.length) = false from beq_eq_false_iff_ne.mpr hl); clear hl
  go_wp2
  go_ret
  exact ⟨by rw [e3.out]; rfl,HB.out⟩
theorem zq {p pattern : ByteArray} (h : pathMatches p pattern = false) (w : World) (hp : p.size ≤ 4398046511104) (hq : pattern.size ≤ 4398046511104) :
  Calls Tryz.prog 55 #[.string p, .string pattern] w fun e w' => e = .returned (.bool false) ∧ Below w.heap.size w w' := by
 have := Path_Matches p pattern w hp hq; rw [h] at this; exact this
theorem yes_match {p pattern : ByteArray} (h : pathMatches p pattern = true) (w : World) (hp : p.size ≤ 4398046511104) (hq : pattern.size ≤ 4398046511104) :
  Calls Tryz.prog 55 #[.string p, .string pattern] w fun e w' => e = .returned (.bool true) ∧ Below w.heap.size w w' := by
 have := Path_Matches p pattern w hp hq; rw [h] at this; exact this
end Go.Proofs.YtnmhjndjfblebaaGreatDoor.Tree
namespace Go.Proofs.YtnmhjndjfblebaaGreatDoor.Kit
open Go.RowKit Go.Proofs.YtnmhjndjfblebaaGreatDoorW.PrintWords Go.Proofs.YtnmhjndjfblebaaGreatDoor.Str
def bnums (l : Bs) : List Int := l.map fun b => (b.toNat : Int)
theorem bnums_append (l m : Bs) : bnums (l ++ m) = bnums l ++ bnums m := by simp [bnums]
theorem bnums_length (l : Bs) : (bnums l).length = l.length := by simp [bnums]
theorem str_bnums (l : Bs) : strOfNums (bnums l) = ⟨l.toArray⟩ := by
 apply lb_inj
 rw [lb_mk,lb,strOfNums_data,bnums,List.map_map]
 conv => rhs; rw [← List.map_id l]
 refine List.map_congr_left fun x _ => ?_
 simp
def Buf (w : World) (base : Nat) (v : Value) (l : Bs) : Prop := w.ownsRow base 5 1 v l.length (nums .u8 (bnums l))
theorem Buf.nil (w : World) (base : Nat) : Buf w base (.slice none 0 0) [] := own_nil _ _ _ _
theorem Buf.below {w w' : World} {base : Nat} {v : Value} {l : Bs} (h : Buf w base v l) (hb : Below w.heap.size w w') : Buf w' base v l := pw_own_below h hb
theorem Buf.slice {w : World} {base : Nat} {v : Value} {l : Bs} (h : Buf w base v l) : ∃ A c,v = .slice A l.length c := own_slice h
theorem info_byte : (Tryz.prog.info? 5).map (fun i => (i.zero,i.size,i.bytes)) = some (some (.int .u8 0),1,1) := by kernel_rfl
theorem Buf.string {w : World} {base : Nat} {v : Value} {l : Bs} (h : Buf w base v l) : (convert 89 9 v).run Tryz.prog w = .ok (.string ⟨l.toArray⟩) w := by
 rw [← str_bnums]; exact own_string Tryz.underlying89 Tryz.underlying5 Tryz.underlying9 h
section
variable {ops : Array Oper} {rest : List Oper} {o : Oper} {a : Act} {Q : Exit → Act → World → Prop}
theorem append_bufS {w0 W : World} (s x : Operand) (hgd : o.guard = none) (ho : o.op = .call { callee := .builtin .append,args := #[s,x],argTypes := #[89,9] })
  {v : Value} {l : Bs} {y : ByteArray} (hs : a.eval s = v) (hx : a.eval x = .string y) (HO : Buf W w0.heap.size v l) (HB : Below w0.heap.size w0 W) (hl : l.length + y.size ≤ 140737488355328)
  (h : ∀ v1 w1,Buf w1 w0.heap.size v1 (l ++ lb y) → Below w0.heap.size w0 w1 → W.grownBy w1 v.ownBlock → wpList Tryz.prog ops Q rest (a.put o.dst v1) w1) :
  wpList Tryz.prog ops Q (o :: rest) a W := by
 refine print_append_str (w0 := w0) w0.heap.size hgd s x 89 9 5 ho Tryz.underlying89 Tryz.underlying9 info_byte v (bnums l) y hs hx (by rw [bnums_length]; exact HO) HB HB.size (by rw [bnums_length]; exact hl) ?_; intro v1 w1 hown hb hg; refine h v1 w1 ?_ hb hg
 unfold Buf
 rw [bnums_append]; have e : bnums (lb y) = bytesOf y := rfl; rw [e]
 have e2 : (l ++ lb y).length = (bnums l ++ bytesOf y).length := by rw [List.length_append,List.length_append,bnums_length,bytesOf_length,xw]
 rw [e2]; exact hown
end
end Go.Proofs.YtnmhjndjfblebaaGreatDoor.Kit
namespace Go.Proofs.YtnmhjndjfblebaaGreatDoor.Frame
open Go.RowKit Go.Proofs.YtnmhjndjfblebaaGreatDoorW.PrintWords Go.Proofs.YtnmhjndjfblebaaGreatDoor.Str Go.Proofs.YtnmhjndjfblebaaGreatDoor.Kit
structure Turns (F : Nat → Prop) (w w' : World) : Prop where
 os : w'.os = w.os
 tape : w'.tape = w.tape
 output : w'.output = w.output
 size : w.heap.size ≤ w'.heap.size
 block : ∀ k,k < w.heap.size → ¬ F k → w'.heap[k]? = w.heap[k]?
theorem Turns.refl (F : Nat → Prop) (w : World) : Turns F w w := ⟨rfl,rfl,rfl,Nat.le_refl _,fun _ _ _ => rfl⟩
theorem Turns.mono {F G : Nat → Prop} {w w' : World} (h : Turns F w w') (hs : ∀ k,k < w.heap.size → F k → G k) : Turns G w w' :=
 ⟨h.os,h.tape,h.output,h.size,fun k hk hg => h.block k hk (fun hf => hg (hs k hk hf))⟩
theorem Turns.trans {F G : Nat → Prop} {a b c : World} (h : Turns F a b) (k : Turns G b c) (hs : ∀ j,j < a.heap.size → G j → F j) : Turns F a c :=
 ⟨k.os.trans h.os,k.tape.trans h.tape,k.output.trans h.output,Nat.le_trans h.size k.size,fun i hi hn => (k.block i (Nat.lt_of_lt_of_le hi h.size) (fun hg => hn (hs i hi hg))).trans (h.block i hi hn)⟩
theorem Turns.of_below {F : Nat → Prop} {w w' : World} (h : Below w.heap.size w w') : Turns F w w' := ⟨h.os,h.tape,h.output,h.size,fun k hk _ => h.block k hk⟩
theorem Turns.of_grown {w w' : World} {g : Option Nat} (h : w.grownBy w' g) : Turns (fun k => some k = g) w w' := ⟨h.os,h.tape,h.output,h.size,fun k hk hn => h.block k hk hn⟩
theorem Turns.below {F : Nat → Prop} {w0 w w' : World} (h : Turns F w w') (hb : Below w0.heap.size w0 w) (hf : ∀ k,k < w0.heap.size → ¬ F k) : Below w0.heap.size w0 w' :=
 ⟨h.os.trans hb.os,h.tape.trans hb.tape,h.output.trans hb.output,Nat.le_trans hb.size h.size,fun k hk => (h.block k (Nat.lt_of_lt_of_le hk hb.size) (hf k hk)).trans (hb.block k hk)⟩
theorem Turns.setCell (w : World) (b i : Nat) (v : Value) : Turns (fun k => k = b) w (w.setCell ⟨b,i,none⟩ v) :=
 ⟨rfl,rfl,rfl,by simp,fun k _ hn => Go.heap_setCell_other w _ k v hn⟩
theorem Turns.alloc (F : Nat → Prop) (w : World) (o : Obj) : Turns F w (w.alloc o) :=
 Turns.of_below ((Below.refl _ w).alloc (Nat.le_refl _) o)
theorem Turns.obj {F : Nat → Prop} {w w' : World} {k : Nat} {o : Obj} (h : Turns F w w') (hk : w.heap[k]? = some o) (hn : ¬ F k) : w'.heap[k]? = some o :=
 (h.block k (Array.getElem?_eq_some_iff.1 hk).1 hn).trans hk
theorem zu {w : World} {b i : Nat} {cs : Array Value} {t : TypeId} {v : Value} (h : w.heap[b]? = some (.cells cs t (0,0))) (hi : cs[i]? = some v) : w.cell? ⟨b,i,none⟩ = some v := by
 simp [World.cell?, h,hi]
theorem vk {w : World} {b i : Nat} {cs : Array Value} {t : TypeId} (h : w.heap[b]? = some (.cells cs t (0,0))) : w.frozen? ⟨b,i,none⟩ = false := by
 simp [World.frozen?, h]
theorem cb_set {w : World} {b i : Nat} {cs : Array Value} {t : TypeId} (h : w.heap[b]? = some (.cells cs t (0,0))) (v : Value) : (w.setCell ⟨b,i,none⟩ v).heap[b]? = some (.cells (cs.setIfInBounds i v) t (0,0)) :=
 Go.heap_setCell_same w b i cs t v h
theorem yw (w : World) (x : Obj) : (w.alloc x).heap[w.heap.size]? = some x := by
 show (w.heap.push x)[w.heap.size]? = _
 simp
theorem zn {w : World} {k : Nat} {o : Obj} (h : w.heap[k]? = some o) : k < w.heap.size := (Array.getElem?_eq_some_iff.1 h).1
end Go.Proofs.YtnmhjndjfblebaaGreatDoor.Frame
namespace Go.Proofs.YtnmhjndjfblebaaGreatDoor.Tree
open Go.RowKit Go.Proofs.YtnmhjndjfblebaaGreatDoorW.PrintWords Go.Proofs.YtnmhjndjfblebaaGreatDoorW.PrintLast Go.Proofs.YtnmhjndjfblebaaGreatDoor.Str Go.Proofs.YtnmhjndjfblebaaGreatDoor.Kit Go.Proofs.YtnmhjndjfblebaaGreatDoor.Frame
set_option maxHeartbeats 12800000 in
set_option maxRecDepth 100000 in
theorem special_0 (w : World) : Calls Tryz.prog 39 #[.string ⟨#[115,101,114,118,105,99,101,115,46,115]⟩] w fun e w' => e = .returned (.tuple #[.nilFunc,(.bool false)]) ∧ Below w.heap.size w w' := by
 have m0 := aM (show pathMatches ⟨#[115,101,114,118,105,99,101,115,46,115]⟩ ⟨#[110,101,116,119,111,114,107,115,46,42,46,105,112,97,109,46,99,111,110,102,105,103]⟩ = false by decide +kernel); have m1 := aM (show pathMatches ⟨#[115,101,114,118,105,99,101,115,46,115]⟩ ⟨#[110,101,116,119,111,114,107,115,46,42,46,108,97,98,101,108,115]⟩ = false by decide +kernel); have m2 := aM (show pathMatches ⟨#[115,101,114,118,105,99,101,115,46,115]⟩ ⟨#[118,111,108,117,109,101,115,46,42,46,108,97,98,101,108,115]⟩ = false by decide +kernel); have m3 := aM (show pathMatches ⟨#[115,101,114,118,105,99,101,115,46,115]⟩ ⟨#[115,101,99,114,101,116,115,46,42,46,108,97,98,101,108,115]⟩ = false by decide +kernel); have m4 := aM (show pathMatches ⟨#[115,101,114,118,105,99,101,115,46,115]⟩ ⟨#[99,111,110,102,105,103,115,46,42,46,108,97,98,101,108,115]⟩ = false by decide +kernel); have m5 := aM (show pathMatches ⟨#[115,101,114,118,105,99,101,115,46,115]⟩ ⟨#[115,101,114,118,105,99,101,115,46,42,46,97,110,110,111,116,97,116,105,111,110,115]⟩ = false by decide +kernel); have m6 := aM (show pathMatches ⟨#[115,101,114,118,105,99,101,115,46,115]⟩ ⟨#[115,101,114,118,105,99,101,115,46,42,46,98,117,105,108,100]⟩ = false by decide +kernel); have m7 := aM (show pathMatches ⟨#[115,101,114,118,105,99,101,115,46,115]⟩ ⟨#[115,101,114,118,105,99,101,115,46,42,46,98,117,105,108,100,46,97,114,103,115]⟩ = false by decide +kernel); have m8 := aM (show pathMatches ⟨#[115,101,114,118,105,99,101,115,46,115]⟩ ⟨#[115,101,114,118,105,99,101,115,46,42,46,98,117,105,108,100,46,97,100,100,105,116,105,111,110,97,108,95,99,111,110,116,101,120,116,115]⟩ = false by decide +kernel); have m9 := aM (show pathMatches ⟨#[115,101,114,118,105,99,101,115,46,115]⟩ ⟨#[115,101,114,118,105,99,101,115,46,42,46,98,117,105,108,100,46,101,120,116,114,97,95,104,111,115,116,115]⟩ = false by decide +kernel); have m10 := aM (show pathMatches ⟨#[115,101,114,118,105,99,101,115,46,115]⟩ ⟨#[115,101,114,118,105,99,101,115,46,42,46,98,117,105,108,100,46,108,97,98,101,108,115]⟩ = false by decide +kernel); have m11 := aM (show pathMatches ⟨#[115,101,114,118,105,99,101,115,46,115]⟩ ⟨#[115,101,114,118,105,99,101,115,46,42,46,99,111,109,109,97,110,100]⟩ = false by decide +kernel); have m12 := aM (show pathMatches ⟨#[115,101,114,118,105,99,101,115,46,115]⟩ ⟨#[115,101,114,118,105,99,101,115,46,42,46,100,101,112,101,110,100,115,95,111,110]⟩ = false by decide +kernel); have m13 := aM (show pathMatches ⟨#[115,101,114,118,105,99,101,115,46,115]⟩ ⟨#[115,101,114,118,105,99,101,115,46,42,46,100,110,115]⟩ = false by decide +kernel); have m14 := aM (show pathMatches ⟨#[115,101,114,118,105,99,101,115,46,115]⟩ ⟨#[115,101,114,118,105,99,101,115,46,42,46,100,110,115,95,111,112,116]⟩ = false by decide +kernel); have m15 := aM (show pathMatches ⟨#[115,101,114,118,105,99,101,115,46,115]⟩ ⟨#[115,101,114,118,105,99,101,115,46,42,46,100,110,115,95,115,101,97,114,99,104]⟩ = false by decide +kernel); have m16 := aM (show pathMatches ⟨#[115,101,114,118,105,99,101,115,46,115]⟩ ⟨#[115,101,114,118,105,99,101,115,46,42,46,101,110,116,114,121,112,111,105,110,116]⟩ = false by decide +kernel); have m17 := aM (show pathMatches ⟨#[115,101,114,118,105,99,101,115,46,115]⟩ ⟨#[115,101,114,118,105,99,101,115,46,42,46,101,110,118,95,102,105,108,101]⟩ = false by decide +kernel); have m18 := aM (show pathMatches ⟨#[115,101,114,118,105,99,101,115,46,115]⟩ ⟨#[115,101,114,118,105,99,101,115,46,42,46,108,97,98,101,108,95,102,105,108,101]⟩ = false by decide +kernel); have m19 := aM (show pathMatches ⟨#[115,101,114,118,105,99,101,115,46,115]⟩ ⟨#[115,101,114,118,105,99,101,115,46,42,46,101,110,118,105,114,111,110,109,101,110,116]⟩ = false by decide +kernel); have m20 := aM (show pathMatches ⟨#[115,101,114,118,105,99,101,115,46,115]⟩ ⟨#[115,101,114,118,105,99,101,115,46,42,46,101,120,116,114,97,95,104,111,115,116,115]⟩ = false by decide +kernel); have m21 := aM (show pathMatches ⟨#[115,101,114,118,105,99,101,115,46,115]⟩ ⟨#[115,101,114,118,105,99,101,115,46,42,46,104,101,97,108,116,104,99,104,101,99,107,46,116,101,115,116]⟩ = false by decide +kernel); have m22 := aM (show pathMatches ⟨#[115,101,114,118,105,99,101,115,46,115]⟩ ⟨#[115,101,114,118,105,99,101,115,46,42,46,108,97,98,101,108,115]⟩ = false by decide +kernel); have m23 := aM (show pathMatches ⟨#[115,101,114,118,105,99,101,115,46,115]⟩ ⟨#[115,101,114,118,105,99,101,115,46,42,46,118,111,108,117,109,101,115,46,42,46,118,111,108,117,109,101,46,108,97,98,101,108,115]⟩ = false by decide +kernel); have m24 := aM (show pathMatches ⟨#[115,101,114,118,105,99,101,115,46,115]⟩ ⟨#[115,101,114,118,105,99,101,115,46,42,46,108,111,103,103,105,110,103]⟩ = false by decide +kernel); have m25 := aM (show pathMatches ⟨#[115,101,114,118,105,99,101,115,46,115]⟩ ⟨#[115,101,114,118,105,99,101,115,46,42,46,109,111,100,101,108,115]⟩ = false by decide +kernel); have m26 := aM (show pathMatches ⟨#[115,101,114,118,105,99,101,115,46,115]⟩ ⟨#[115,101,114,118,105,99,101,115,46,42,46,110,101,116,119,111,114,107,115]⟩ = false by decide +kernel); have m27 := aM (show pathMatches ⟨#[115,101,114,118,105,99,101,115,46,115]⟩ ⟨#[115,101,114,118,105,99,101,115,46,42,46,115,121,115,99,116,108,115]⟩ = false by decide +kernel); have m28 := aM (show pathMatches ⟨#[115,101,114,118,105,99,101,115,46,115]⟩ ⟨#[115,101,114,118,105,99,101,115,46,42,46,116,109,112,102,115]⟩ = false by decide +kernel); have m29 := aM (show pathMatches ⟨#[115,101,114,118,105,99,101,115,46,115]⟩ ⟨#[115,101,114,118,105,99,101,115,46,42,46,117,108,105,109,105,116,115,46,42]⟩ = false by decide +kernel); have m30 := aM (show pathMatches ⟨#[115,101,114,118,105,99,101,115,46,115]⟩ ⟨#[106,111,98,115,46,42,46,97,110,110,111,116,97,116,105,111,110,115]⟩ = false by decide +kernel); have m31 := aM (show pathMatches ⟨#[115,101,114,118,105,99,101,115,46,115]⟩ ⟨#[106,111,98,115,46,42,46,98,117,105,108,100]⟩ = false by decide +kernel); have m32 := aM (show pathMatches ⟨#[115,101,114,118,105,99,101,115,46,115]⟩ ⟨#[106,111,98,115,46,42,46,98,117,105,108,100,46,97,114,103,115]⟩ = false by decide +kernel); have m33 := aM (show pathMatches ⟨#[115,101,114,118,105,99,101,115,46,115]⟩ ⟨#[106,111,98,115,46,42,46,98,117,105,108,100,46,97,100,100,105,116,105,111,110,97,108,95,99,111,110,116,101,120,116,115]⟩ = false by decide +kernel); have m34 := aM (show pathMatches ⟨#[115,101,114,118,105,99,101,115,46,115]⟩ ⟨#[106,111,98,115,46,42,46,98,117,105,108,100,46,101,120,116,114,97,95,104,111,115,116,115]⟩ = false by decide +kernel); have m35 := aM (show pathMatches ⟨#[115,101,114,118,105,99,101,115,46,115]⟩ ⟨#[106,111,98,115,46,42,46,98,117,105,108,100,46,108,97,98,101,108,115]⟩ = false by decide +kernel); have m36 := aM (show pathMatches ⟨#[115,101,114,118,105,99,101,115,46,115]⟩ ⟨#[106,111,98,115,46,42,46,99,111,109,109,97,110,100]⟩ = false by decide +kernel); have m37 := aM (show pathMatches ⟨#[115,101,114,118,105,99,101,115,46,115]⟩ ⟨#[106,111,98,115,46,42,46,100,101,112,101,110,100,115,95,111,110]⟩ = false by decide +kernel); have m38 := aM (show pathMatches ⟨#[115,101,114,118,105,99,101,115,46,115]⟩ ⟨#[106,111,98,115,46,42,46,100,110,115]⟩ = false by decide +kernel); have m39 := aM (show pathMatches ⟨#[115,101,114,118,105,99,101,115,46,115]⟩ ⟨#[106,111,98,115,46,42,46,100,110,115,95,111,112,116]⟩ = false by decide +kernel); have m40 := aM (show pathMatches ⟨#[115,101,114,118,105,99,101,115,46,115]⟩ ⟨#[106,111,98,115,46,42,46,100,110,115,95,115,101,97,114,99,104]⟩ = false by decide +kernel); have m41 := aM (show pathMatches ⟨#[115,101,114,118,105,99,101,115,46,115]⟩ ⟨#[106,111,98,115,46,42,46,101,110,116,114,121,112,111,105,110,116]⟩ = false by decide +kernel); have m42 := aM (show pathMatches ⟨#[115,101,114,118,105,99,101,115,46,115]⟩ ⟨#[106,111,98,115,46,42,46,101,110,118,95,102,105,108,101]⟩ = false by decide +kernel); have m43 := aM (show pathMatches ⟨#[115,101,114,118,105,99,101,115,46,115]⟩ ⟨#[106,111,98,115,46,42,46,108,97,98,101,108,95,102,105,108,101]⟩ = false by decide +kernel); have m44 := aM (show pathMatches ⟨#[115,101,114,118,105,99,101,115,46,115]⟩ ⟨#[106,111,98,115,46,42,46,101,110,118,105,114,111,110,109,101,110,116]⟩ = false by decide +kernel); have m45 := aM (show pathMatches ⟨#[115,101,114,118,105,99,101,115,46,115]⟩ ⟨#[106,111,98,115,46,42,46,101,120,116,114,97,95,104,111,115,116,115]⟩ = false by decide +kernel); have m46 := aM (show pathMatches ⟨#[115,101,114,118,105,99,101,115,46,115]⟩ ⟨#[106,111,98,115,46,42,46,104,101,97,108,116,104,99,104,101,99,107,46,116,101,115,116]⟩ = false by decide +kernel); have m47 := aM (show pathMatches ⟨#[115,101,114,118,105,99,101,115,46,115]⟩ ⟨#[106,111,98,115,46,42,46,108,97,98,101,108,115]⟩ = false by decide +kernel); have m48 := aM (show pathMatches ⟨#[115,101,114,118,105,99,101,115,46,115]⟩ ⟨#[106,111,98,115,46,42,46,118,111,108,117,109,101,115,46,42,46,118,111,108,117,109,101,46,108,97,98,101,108,115]⟩ = false by decide +kernel); have m49 := aM (show pathMatches ⟨#[115,101,114,118,105,99,101,115,46,115]⟩ ⟨#[106,111,98,115,46,42,46,108,111,103,103,105,110,103]⟩ = false by decide +kernel); have m50 := aM (show pathMatches ⟨#[115,101,114,118,105,99,101,115,46,115]⟩ ⟨#[106,111,98,115,46,42,46,109,111,100,101,108,115]⟩ = false by decide +kernel); have m51 := aM (show pathMatches ⟨#[115,101,114,118,105,99,101,115,46,115]⟩ ⟨#[106,111,98,115,46,42,46,110,101,116,119,111,114,107,115]⟩ = false by decide +kernel); have m52 := aM (show pathMatches ⟨#[115,101,114,118,105,99,101,115,46,115]⟩ ⟨#[106,111,98,115,46,42,46,115,121,115,99,116,108,115]⟩ = false by decide +kernel); have m53 := aM (show pathMatches ⟨#[115,101,114,118,105,99,101,115,46,115]⟩ ⟨#[106,111,98,115,46,42,46,116,109,112,102,115]⟩ = false by decide +kernel); have m54 := aM (show pathMatches ⟨#[115,101,114,118,105,99,101,115,46,115]⟩ ⟨#[106,111,98,115,46,42,46,117,108,105,109,105,116,115,46,42]⟩ = false by decide +kernel); have m55 := aM (show pathMatches ⟨#[115,101,114,118,105,99,101,115,46,115]⟩ ⟨#[115,101,114,118,105,99,101,115,46,42,46,100,101,112,108,111,121,46,108,97,98,101,108,115]⟩ = false by decide +kernel); have HB := aM (Below.refl w.heap.size w)
 go_enter Tryz.func39,Tryz.ntmps39
 go_wp2_with fail
 refine (zq m0.out _ (by decide) (by decide)).mono ?_; rintro e v0 ⟨rfl,hb⟩; replace HB := aM (zm HB.out hb); clear hb m0
 go_wp2_with fail
 refine (zq m1.out _ (by decide) (by decide)).mono ?_; rintro e v1 ⟨rfl,hb⟩; replace HB := aM (zm HB.out hb); clear hb m1
 go_wp2_with fail
 refine (zq m2.out _ (by decide) (by decide)).mono ?_; rintro e v2 ⟨rfl,hb⟩; replace HB := aM (zm HB.out hb); clear hb m2
 go_wp2_with fail
 refine (zq m3.out _ (by decide) (by decide)).mono ?_; rintro e v3 ⟨rfl,hb⟩; replace HB := aM (zm HB.out hb); clear hb m3
 go_wp2_with fail
 refine (zq m4.out _ (by decide) (by decide)).mono ?_; rintro e v4 ⟨rfl,hb⟩; replace HB := aM (zm HB.out hb); clear hb m4
 go_wp2
 obtain ⟨b,hb⟩ : ∃ b,v4.heap.size = b := ⟨_,rfl⟩
 have HA := aM (yw v4 (.cells #[.string ⟨#[115,101,114,118,105,99,101,115]⟩, .string ⟨#[106,111,98,115]⟩] 52)); replace HB := aM (zb HB.out (.cells #[.string ⟨#[115,101,114,118,105,99,101,115]⟩, .string ⟨#[106,111,98,115]⟩] 52)); rw [hb] at HA; rw [hb]; clear hb; generalize v4.alloc _ = W at HA HB ⊢
 go_loopw [18,5] (fun v18 v5 wr => (v18 = .int .i64 0 ∨ v18 = .int .i64 1 ∨ v18 = .int .i64 2) ∧ Aside0 (wr.heap[b]? = some (.cells #[.string ⟨#[115,101,114,118,105,99,101,115]⟩, .string ⟨#[106,111,98,115]⟩] 52 (0,0))) ∧ Aside0 (Below w.heap.size w wr)) (fun v18 _ _ => 2 - (intOf v18).toNat)
 case atStart => exact ⟨.inl rfl,HA,HB⟩
 case round =>
  clear HA HB; obtain ⟨hi,HA,HB⟩ := hrel; have c0 := zu (i := 0) HA.out (v := .string ⟨#[115,101,114,118,105,99,101,115]⟩) rfl; have c1 := zu (i := 1) HA.out (v := .string ⟨#[106,111,98,115]⟩) rfl
  rcases hi with rfl | rfl | rfl
  ·skip
   go_wp2_with fail
   refine (zq m5.out _ (by decide) (by decide)).mono ?_; rintro e v5 ⟨rfl,hb⟩; replace HB := aM (zm HB.out hb); replace HA := aM ((hb.block _ (zn HA.out)).trans HA.out); clear c0 c1 hb m5
   go_wp2_with fail
   refine (zq m6.out _ (by decide) (by decide)).mono ?_; rintro e v6 ⟨rfl,hb⟩; replace HB := aM (zm HB.out hb); replace HA := aM ((hb.block _ (zn HA.out)).trans HA.out); clear hb m6
   go_wp2_with fail
   refine (zq m7.out _ (by decide) (by decide)).mono ?_; rintro e v7 ⟨rfl,hb⟩; replace HB := aM (zm HB.out hb); replace HA := aM ((hb.block _ (zn HA.out)).trans HA.out); clear hb m7
   go_wp2_with fail
   refine (zq m8.out _ (by decide) (by decide)).mono ?_; rintro e v8 ⟨rfl,hb⟩; replace HB := aM (zm HB.out hb); replace HA := aM ((hb.block _ (zn HA.out)).trans HA.out); clear hb m8
   go_wp2_with fail
   refine (zq m9.out _ (by decide) (by decide)).mono ?_; rintro e v9 ⟨rfl,hb⟩; replace HB := aM (zm HB.out hb); replace HA := aM ((hb.block _ (zn HA.out)).trans HA.out); clear hb m9
   go_wp2_with fail
   refine (zq m10.out _ (by decide) (by decide)).mono ?_; rintro e v10 ⟨rfl,hb⟩; replace HB := aM (zm HB.out hb); replace HA := aM ((hb.block _ (zn HA.out)).trans HA.out); clear hb m10
   go_wp2_with fail
   refine (zq m11.out _ (by decide) (by decide)).mono ?_; rintro e v11 ⟨rfl,hb⟩; replace HB := aM (zm HB.out hb); replace HA := aM ((hb.block _ (zn HA.out)).trans HA.out); clear hb m11
   go_wp2_with fail
   refine (zq m12.out _ (by decide) (by decide)).mono ?_; rintro e v12 ⟨rfl,hb⟩; replace HB := aM (zm HB.out hb); replace HA := aM ((hb.block _ (zn HA.out)).trans HA.out); clear hb m12
   go_wp2_with fail
   refine (zq m13.out _ (by decide) (by decide)).mono ?_; rintro e v13 ⟨rfl,hb⟩; replace HB := aM (zm HB.out hb); replace HA := aM ((hb.block _ (zn HA.out)).trans HA.out); clear hb m13
   go_wp2_with fail
   refine (zq m14.out _ (by decide) (by decide)).mono ?_; rintro e v14 ⟨rfl,hb⟩; replace HB := aM (zm HB.out hb); replace HA := aM ((hb.block _ (zn HA.out)).trans HA.out); clear hb m14
   go_wp2_with fail
   refine (zq m15.out _ (by decide) (by decide)).mono ?_; rintro e v15 ⟨rfl,hb⟩; replace HB := aM (zm HB.out hb); replace HA := aM ((hb.block _ (zn HA.out)).trans HA.out); clear hb m15
   go_wp2_with fail
   refine (zq m16.out _ (by decide) (by decide)).mono ?_; rintro e v16 ⟨rfl,hb⟩; replace HB := aM (zm HB.out hb); replace HA := aM ((hb.block _ (zn HA.out)).trans HA.out); clear hb m16
   go_wp2_with fail
   refine (zq m17.out _ (by decide) (by decide)).mono ?_; rintro e v17 ⟨rfl,hb⟩; replace HB := aM (zm HB.out hb); replace HA := aM ((hb.block _ (zn HA.out)).trans HA.out); clear hb m17
   go_wp2_with fail
   refine (zq m18.out _ (by decide) (by decide)).mono ?_; rintro e v18 ⟨rfl,hb⟩; replace HB := aM (zm HB.out hb); replace HA := aM ((hb.block _ (zn HA.out)).trans HA.out); clear hb m18
   go_wp2_with fail
   refine (zq m19.out _ (by decide) (by decide)).mono ?_; rintro e v19 ⟨rfl,hb⟩; replace HB := aM (zm HB.out hb); replace HA := aM ((hb.block _ (zn HA.out)).trans HA.out); clear hb m19
   go_wp2_with fail
   refine (zq m20.out _ (by decide) (by decide)).mono ?_; rintro e v20 ⟨rfl,hb⟩; replace HB := aM (zm HB.out hb); replace HA := aM ((hb.block _ (zn HA.out)).trans HA.out); clear hb m20
   go_wp2_with fail
   refine (zq m21.out _ (by decide) (by decide)).mono ?_; rintro e v21 ⟨rfl,hb⟩; replace HB := aM (zm HB.out hb); replace HA := aM ((hb.block _ (zn HA.out)).trans HA.out); clear hb m21
   go_wp2_with fail
   refine (zq m22.out _ (by decide) (by decide)).mono ?_; rintro e v22 ⟨rfl,hb⟩; replace HB := aM (zm HB.out hb); replace HA := aM ((hb.block _ (zn HA.out)).trans HA.out); clear hb m22
   go_wp2_with fail
   refine (zq m23.out _ (by decide) (by decide)).mono ?_; rintro e v23 ⟨rfl,hb⟩; replace HB := aM (zm HB.out hb); replace HA := aM ((hb.block _ (zn HA.out)).trans HA.out); clear hb m23
   go_wp2_with fail
   refine (zq m24.out _ (by decide) (by decide)).mono ?_; rintro e v24 ⟨rfl,hb⟩; replace HB := aM (zm HB.out hb); replace HA := aM ((hb.block _ (zn HA.out)).trans HA.out); clear hb m24
   go_wp2_with fail
   refine (zq m25.out _ (by decide) (by decide)).mono ?_; rintro e v25 ⟨rfl,hb⟩; replace HB := aM (zm HB.out hb); replace HA := aM ((hb.block _ (zn HA.out)).trans HA.out); clear hb m25
   go_wp2_with fail
   refine (zq m26.out _ (by decide) (by decide)).mono ?_; rintro e v26 ⟨rfl,hb⟩; replace HB := aM (zm HB.out hb); replace HA := aM ((hb.block _ (zn HA.out)).trans HA.out); clear hb m26
   go_wp2_with fail
   refine (zq m27.out _ (by decide) (by decide)).mono ?_; rintro e v27 ⟨rfl,hb⟩; replace HB := aM (zm HB.out hb); replace HA := aM ((hb.block _ (zn HA.out)).trans HA.out); clear hb m27
   go_wp2_with fail
   refine (zq m28.out _ (by decide) (by decide)).mono ?_; rintro e v28 ⟨rfl,hb⟩; replace HB := aM (zm HB.out hb); replace HA := aM ((hb.block _ (zn HA.out)).trans HA.out); clear hb m28
   go_wp2_with fail
   refine (zq m29.out _ (by decide) (by decide)).mono ?_; rintro e v29 ⟨rfl,hb⟩; replace HB := aM (zm HB.out hb); replace HA := aM ((hb.block _ (zn HA.out)).trans HA.out); clear hb m29
   go_wp2
   go_roundw
   case rel => exact ⟨.inr (.inl rfl),HA,HB⟩
   case measure => simp [intOf]
  ·skip
   go_wp2_with fail
   refine (zq m30.out _ (by decide) (by decide)).mono ?_; rintro e v30 ⟨rfl,hb⟩; replace HB := aM (zm HB.out hb); replace HA := aM ((hb.block _ (zn HA.out)).trans HA.out); clear c0 c1 hb m30
   go_wp2_with fail
   refine (zq m31.out _ (by decide) (by decide)).mono ?_; rintro e v31 ⟨rfl,hb⟩; replace HB := aM (zm HB.out hb); replace HA := aM ((hb.block _ (zn HA.out)).trans HA.out); clear hb m31
   go_wp2_with fail
   refine (zq m32.out _ (by decide) (by decide)).mono ?_; rintro e v32 ⟨rfl,hb⟩; replace HB := aM (zm HB.out hb); replace HA := aM ((hb.block _ (zn HA.out)).trans HA.out); clear hb m32
   go_wp2_with fail
   refine (zq m33.out _ (by decide) (by decide)).mono ?_; rintro e v33 ⟨rfl,hb⟩; replace HB := aM (zm HB.out hb); replace HA := aM ((hb.block _ (zn HA.out)).trans HA.out); clear hb m33
   go_wp2_with fail
   refine (zq m34.out _ (by decide) (by decide)).mono ?_; rintro e v34 ⟨rfl,hb⟩; replace HB := aM (zm HB.out hb); replace HA := aM ((hb.block _ (zn HA.out)).trans HA.out); clear hb m34
   go_wp2_with fail
   refine (zq m35.out _ (by decide) (by decide)).mono ?_; rintro e v35 ⟨rfl,hb⟩; replace HB := aM (zm HB.out hb); replace HA := aM ((hb.block _ (zn HA.out)).trans HA.out); clear hb m35
   go_wp2_with fail
   refine (zq m36.out _ (by decide) (by decide)).mono ?_; rintro e v36 ⟨rfl,hb⟩; replace HB := aM (zm HB.out hb); replace HA := aM ((hb.block _ (zn HA.out)).trans HA.out); clear hb m36
   go_wp2_with fail
   refine (zq m37.out _ (by decide) (by decide)).mono ?_; rintro e v37 ⟨rfl,hb⟩; replace HB := aM (zm HB.out hb); replace HA := aM ((hb.block _ (zn HA.out)).trans HA.out); clear hb m37
   go_wp2_with fail
   refine (zq m38.out _ (by decide) (by decide)).mono ?_; rintro e v38 ⟨rfl,hb⟩; replace HB := aM (zm HB.out hb); replace HA := aM ((hb.block _ (zn HA.out)).trans HA.out); clear hb m38
   go_wp2_with fail
   refine (zq m39.out _ (by decide) (by decide)).mono ?_; rintro e v39 ⟨rfl,hb⟩; replace HB := aM (zm HB.out hb); replace HA := aM ((hb.block _ (zn HA.out)).trans HA.out); clear hb m39
   go_wp2_with fail
   refine (zq m40.out _ (by decide) (by decide)).mono ?_; rintro e v40 ⟨rfl,hb⟩; replace HB := aM (zm HB.out hb); replace HA := aM ((hb.block _ (zn HA.out)).trans HA.out); clear hb m40
   go_wp2_with fail
   refine (zq m41.out _ (by decide) (by decide)).mono ?_; rintro e v41 ⟨rfl,hb⟩; replace HB := aM (zm HB.out hb); replace HA := aM ((hb.block _ (zn HA.out)).trans HA.out); clear hb m41
   go_wp2_with fail
   refine (zq m42.out _ (by decide) (by decide)).mono ?_; rintro e v42 ⟨rfl,hb⟩; replace HB := aM (zm HB.out hb); replace HA := aM ((hb.block _ (zn HA.out)).trans HA.out); clear hb m42
   go_wp2_with fail
   refine (zq m43.out _ (by decide) (by decide)).mono ?_; rintro e v43 ⟨rfl,hb⟩; replace HB := aM (zm HB.out hb); replace HA := aM ((hb.block _ (zn HA.out)).trans HA.out); clear hb m43
   go_wp2_with fail
   refine (zq m44.out _ (by decide) (by decide)).mono ?_; rintro e v44 ⟨rfl,hb⟩; replace HB := aM (zm HB.out hb); replace HA := aM ((hb.block _ (zn HA.out)).trans HA.out); clear hb m44
   go_wp2_with fail
   refine (zq m45.out _ (by decide) (by decide)).mono ?_; rintro e v45 ⟨rfl,hb⟩; replace HB := aM (zm HB.out hb); replace HA := aM ((hb.block _ (zn HA.out)).trans HA.out); clear hb m45
   go_wp2_with fail
   refine (zq m46.out _ (by decide) (by decide)).mono ?_; rintro e v46 ⟨rfl,hb⟩; replace HB := aM (zm HB.out hb); replace HA := aM ((hb.block _ (zn HA.out)).trans HA.out); clear hb m46
   go_wp2_with fail
   refine (zq m47.out _ (by decide) (by decide)).mono ?_; rintro e v47 ⟨rfl,hb⟩; replace HB := aM (zm HB.out hb); replace HA := aM ((hb.block _ (zn HA.out)).trans HA.out); clear hb m47
   go_wp2_with fail
   refine (zq m48.out _ (by decide) (by decide)).mono ?_; rintro e v48 ⟨rfl,hb⟩; replace HB := aM (zm HB.out hb); replace HA := aM ((hb.block _ (zn HA.out)).trans HA.out); clear hb m48
   go_wp2_with fail
   refine (zq m49.out _ (by decide) (by decide)).mono ?_; rintro e v49 ⟨rfl,hb⟩; replace HB := aM (zm HB.out hb); replace HA := aM ((hb.block _ (zn HA.out)).trans HA.out); clear hb m49
   go_wp2_with fail
   refine (zq m50.out _ (by decide) (by decide)).mono ?_; rintro e v50 ⟨rfl,hb⟩; replace HB := aM (zm HB.out hb); replace HA := aM ((hb.block _ (zn HA.out)).trans HA.out); clear hb m50
   go_wp2_with fail
   refine (zq m51.out _ (by decide) (by decide)).mono ?_; rintro e v51 ⟨rfl,hb⟩; replace HB := aM (zm HB.out hb); replace HA := aM ((hb.block _ (zn HA.out)).trans HA.out); clear hb m51
   go_wp2_with fail
   refine (zq m52.out _ (by decide) (by decide)).mono ?_; rintro e v52 ⟨rfl,hb⟩; replace HB := aM (zm HB.out hb); replace HA := aM ((hb.block _ (zn HA.out)).trans HA.out); clear hb m52
   go_wp2_with fail
   refine (zq m53.out _ (by decide) (by decide)).mono ?_; rintro e v53 ⟨rfl,hb⟩; replace HB := aM (zm HB.out hb); replace HA := aM ((hb.block _ (zn HA.out)).trans HA.out); clear hb m53
   go_wp2_with fail
   refine (zq m54.out _ (by decide) (by decide)).mono ?_; rintro e v54 ⟨rfl,hb⟩; replace HB := aM (zm HB.out hb); replace HA := aM ((hb.block _ (zn HA.out)).trans HA.out); clear hb m54
   go_wp2
   go_roundw
   case rel => exact ⟨.inr (.inr rfl),HA,HB⟩
   case measure => simp [intOf]
  ·skip
   go_wp2_with fail
   refine (zq m55.out _ (by decide) (by decide)).mono ?_; rintro e v55 ⟨rfl,hb⟩; replace HB := aM (zm HB.out hb); replace HA := aM ((hb.block _ (zn HA.out)).trans HA.out); clear hb m55
   go_wp2
   go_ret2
   exact ⟨rfl,HB.out⟩
set_option maxHeartbeats 12800000 in
set_option maxRecDepth 100000 in
theorem special_1 (w : World) : Calls Tryz.prog 39 #[.string ⟨#[115,101,114,118,105,99,101,115,46,115,46,99,111,109,109,97,110,100]⟩] w fun e w' => e = .returned (.tuple #[(.func (.func 60) #[] #[]),(.bool true)]) ∧ Below w.heap.size w w' := by
 have m0 := aM (show pathMatches ⟨#[115,101,114,118,105,99,101,115,46,115,46,99,111,109,109,97,110,100]⟩ ⟨#[110,101,116,119,111,114,107,115,46,42,46,105,112,97,109,46,99,111,110,102,105,103]⟩ = false by decide +kernel); have m1 := aM (show pathMatches ⟨#[115,101,114,118,105,99,101,115,46,115,46,99,111,109,109,97,110,100]⟩ ⟨#[110,101,116,119,111,114,107,115,46,42,46,108,97,98,101,108,115]⟩ = false by decide +kernel); have m2 := aM (show pathMatches ⟨#[115,101,114,118,105,99,101,115,46,115,46,99,111,109,109,97,110,100]⟩ ⟨#[118,111,108,117,109,101,115,46,42,46,108,97,98,101,108,115]⟩ = false by decide +kernel); have m3 := aM (show pathMatches ⟨#[115,101,114,118,105,99,101,115,46,115,46,99,111,109,109,97,110,100]⟩ ⟨#[115,101,99,114,101,116,115,46,42,46,108,97,98,101,108,115]⟩ = false by decide +kernel); have m4 := aM (show pathMatches ⟨#[115,101,114,118,105,99,101,115,46,115,46,99,111,109,109,97,110,100]⟩ ⟨#[99,111,110,102,105,103,115,46,42,46,108,97,98,101,108,115]⟩ = false by decide +kernel); have m5 := aM (show pathMatches ⟨#[115,101,114,118,105,99,101,115,46,115,46,99,111,109,109,97,110,100]⟩ ⟨#[115,101,114,118,105,99,101,115,46,42,46,97,110,110,111,116,97,116,105,111,110,115]⟩ = false by decide +kernel); have m6 := aM (show pathMatches ⟨#[115,101,114,118,105,99,101,115,46,115,46,99,111,109,109,97,110,100]⟩ ⟨#[115,101,114,118,105,99,101,115,46,42,46,98,117,105,108,100]⟩ = false by decide +kernel); have m7 := aM (show pathMatches ⟨#[115,101,114,118,105,99,101,115,46,115,46,99,111,109,109,97,110,100]⟩ ⟨#[115,101,114,118,105,99,101,115,46,42,46,98,117,105,108,100,46,97,114,103,115]⟩ = false by decide +kernel); have m8 := aM (show pathMatches ⟨#[115,101,114,118,105,99,101,115,46,115,46,99,111,109,109,97,110,100]⟩ ⟨#[115,101,114,118,105,99,101,115,46,42,46,98,117,105,108,100,46,97,100,100,105,116,105,111,110,97,108,95,99,111,110,116,101,120,116,115]⟩ = false by decide +kernel); have m9 := aM (show pathMatches ⟨#[115,101,114,118,105,99,101,115,46,115,46,99,111,109,109,97,110,100]⟩ ⟨#[115,101,114,118,105,99,101,115,46,42,46,98,117,105,108,100,46,101,120,116,114,97,95,104,111,115,116,115]⟩ = false by decide +kernel); have m10 := aM (show pathMatches ⟨#[115,101,114,118,105,99,101,115,46,115,46,99,111,109,109,97,110,100]⟩ ⟨#[115,101,114,118,105,99,101,115,46,42,46,98,117,105,108,100,46,108,97,98,101,108,115]⟩ = false by decide +kernel); have m11 := aM (show pathMatches ⟨#[115,101,114,118,105,99,101,115,46,115,46,99,111,109,109,97,110,100]⟩ ⟨#[115,101,114,118,105,99,101,115,46,42,46,99,111,109,109,97,110,100]⟩ = true by decide +kernel); have HB := aM (Below.refl w.heap.size w)
 go_enter Tryz.func39,Tryz.ntmps39
 go_wp2_with fail
 refine (zq m0.out _ (by decide) (by decide)).mono ?_; rintro e v0 ⟨rfl,hb⟩; replace HB := aM (zm HB.out hb); clear hb m0
 go_wp2_with fail
 refine (zq m1.out _ (by decide) (by decide)).mono ?_; rintro e v1 ⟨rfl,hb⟩; replace HB := aM (zm HB.out hb); clear hb m1
 go_wp2_with fail
 refine (zq m2.out _ (by decide) (by decide)).mono ?_; rintro e v2 ⟨rfl,hb⟩; replace HB := aM (zm HB.out hb); clear hb m2
 go_wp2_with fail
 refine (zq m3.out _ (by decide) (by decide)).mono ?_; rintro e v3 ⟨rfl,hb⟩; replace HB := aM (zm HB.out hb); clear hb m3
 go_wp2_with fail
 refine (zq m4.out _ (by decide) (by decide)).mono ?_; rintro e v4 ⟨rfl,hb⟩; replace HB := aM (zm HB.out hb); clear hb m4
 go_wp2
 obtain ⟨b,hb⟩ : ∃ b,v4.heap.size = b := ⟨_,rfl⟩
 have HA := aM (yw v4 (.cells #[.string ⟨#[115,101,114,118,105,99,101,115]⟩, .string ⟨#[106,111,98,115]⟩] 52)); replace HB := aM (zb HB.out (.cells #[.string ⟨#[115,101,114,118,105,99,101,115]⟩, .string ⟨#[106,111,98,115]⟩] 52)); rw [hb] at HA; rw [hb]; clear hb; generalize v4.alloc _ = W at HA HB ⊢
 go_loopw [18,5] (fun v18 v5 wr => v18 = .int .i64 0 ∧ Aside0 (wr.heap[b]? = some (.cells #[.string ⟨#[115,101,114,118,105,99,101,115]⟩, .string ⟨#[106,111,98,115]⟩] 52 (0,0))) ∧ Aside0 (Below w.heap.size w wr)) (fun v18 _ _ => 2 - (intOf v18).toNat)
 case atStart => exact ⟨rfl,HA,HB⟩
 case round =>
  clear HA HB; obtain ⟨hi,HA,HB⟩ := hrel; have c0 := zu (i := 0) HA.out (v := .string ⟨#[115,101,114,118,105,99,101,115]⟩) rfl; have c1 := zu (i := 1) HA.out (v := .string ⟨#[106,111,98,115]⟩) rfl; subst hi
  ·skip
   go_wp2_with fail
   refine (zq m5.out _ (by decide) (by decide)).mono ?_; rintro e v5 ⟨rfl,hb⟩; replace HB := aM (zm HB.out hb); replace HA := aM ((hb.block _ (zn HA.out)).trans HA.out); clear c0 c1 hb m5
   go_wp2_with fail
   refine (zq m6.out _ (by decide) (by decide)).mono ?_; rintro e v6 ⟨rfl,hb⟩; replace HB := aM (zm HB.out hb); replace HA := aM ((hb.block _ (zn HA.out)).trans HA.out); clear hb m6
   go_wp2_with fail
   refine (zq m7.out _ (by decide) (by decide)).mono ?_; rintro e v7 ⟨rfl,hb⟩; replace HB := aM (zm HB.out hb); replace HA := aM ((hb.block _ (zn HA.out)).trans HA.out); clear hb m7
   go_wp2_with fail
   refine (zq m8.out _ (by decide) (by decide)).mono ?_; rintro e v8 ⟨rfl,hb⟩; replace HB := aM (zm HB.out hb); replace HA := aM ((hb.block _ (zn HA.out)).trans HA.out); clear hb m8
   go_wp2_with fail
   refine (zq m9.out _ (by decide) (by decide)).mono ?_; rintro e v9 ⟨rfl,hb⟩; replace HB := aM (zm HB.out hb); replace HA := aM ((hb.block _ (zn HA.out)).trans HA.out); clear hb m9
   go_wp2_with fail
   refine (zq m10.out _ (by decide) (by decide)).mono ?_; rintro e v10 ⟨rfl,hb⟩; replace HB := aM (zm HB.out hb); replace HA := aM ((hb.block _ (zn HA.out)).trans HA.out); clear hb m10
   go_wp2_with fail
   refine (yes_match m11.out _ (by decide) (by decide)).mono ?_; rintro e v11 ⟨rfl,hb⟩; replace HB := aM (zm HB.out hb); replace HA := aM ((hb.block _ (zn HA.out)).trans HA.out); clear hb m11
   go_wp2
   go_ret2
   exact ⟨rfl,HB.out⟩
set_option maxHeartbeats 12800000 in
set_option maxRecDepth 100000 in
theorem special_2 (w : World) : Calls Tryz.prog 39 #[.string ⟨#[115,101,114,118,105,99,101,115,46,115,46,101,110,116,114,121,112,111,105,110,116]⟩] w fun e w' => e = .returned (.tuple #[(.func (.func 60) #[] #[]),(.bool true)]) ∧ Below w.heap.size w w' := by
 have m0 := aM (show pathMatches ⟨#[115,101,114,118,105,99,101,115,46,115,46,101,110,116,114,121,112,111,105,110,116]⟩ ⟨#[110,101,116,119,111,114,107,115,46,42,46,105,112,97,109,46,99,111,110,102,105,103]⟩ = false by decide +kernel); have m1 := aM (show pathMatches ⟨#[115,101,114,118,105,99,101,115,46,115,46,101,110,116,114,121,112,111,105,110,116]⟩ ⟨#[110,101,116,119,111,114,107,115,46,42,46,108,97,98,101,108,115]⟩ = false by decide +kernel); have m2 := aM (show pathMatches ⟨#[115,101,114,118,105,99,101,115,46,115,46,101,110,116,114,121,112,111,105,110,116]⟩ ⟨#[118,111,108,117,109,101,115,46,42,46,108,97,98,101,108,115]⟩ = false by decide +kernel); have m3 := aM (show pathMatches ⟨#[115,101,114,118,105,99,101,115,46,115,46,101,110,116,114,121,112,111,105,110,116]⟩ ⟨#[115,101,99,114,101,116,115,46,42,46,108,97,98,101,108,115]⟩ = false by decide +kernel); have m4 := aM (show pathMatches ⟨#[115,101,114,118,105,99,101,115,46,115,46,101,110,116,114,121,112,111,105,110,116]⟩ ⟨#[99,111,110,102,105,103,115,46,42,46,108,97,98,101,108,115]⟩ = false by decide +kernel); have m5 := aM (show pathMatches ⟨#[115,101,114,118,105,99,101,115,46,115,46,101,110,116,114,121,112,111,105,110,116]⟩ ⟨#[115,101,114,118,105,99,101,115,46,42,46,97,110,110,111,116,97,116,105,111,110,115]⟩ = false by decide +kernel); have m6 := aM (show pathMatches ⟨#[115,101,114,118,105,99,101,115,46,115,46,101,110,116,114,121,112,111,105,110,116]⟩ ⟨#[115,101,114,118,105,99,101,115,46,42,46,98,117,105,108,100]⟩ = false by decide +kernel); have m7 := aM (show pathMatches ⟨#[115,101,114,118,105,99,101,115,46,115,46,101,110,116,114,121,112,111,105,110,116]⟩ ⟨#[115,101,114,118,105,99,101,115,46,42,46,98,117,105,108,100,46,97,114,103,115]⟩ = false by decide +kernel); have m8 := aM (show pathMatches ⟨#[115,101,114,118,105,99,101,115,46,115,46,101,110,116,114,121,112,111,105,110,116]⟩ ⟨#[115,101,114,118,105,99,101,115,46,42,46,98,117,105,108,100,46,97,100,100,105,116,105,111,110,97,108,95,99,111,110,116,101,120,116,115]⟩ = false by decide +kernel); have m9 := aM (show pathMatches ⟨#[115,101,114,118,105,99,101,115,46,115,46,101,110,116,114,121,112,111,105,110,116]⟩ ⟨#[115,101,114,118,105,99,101,115,46,42,46,98,117,105,108,100,46,101,120,116,114,97,95,104,111,115,116,115]⟩ = false by decide +kernel); have m10 := aM (show pathMatches ⟨#[115,101,114,118,105,99,101,115,46,115,46,101,110,116,114,121,112,111,105,110,116]⟩ ⟨#[115,101,114,118,105,99,101,115,46,42,46,98,117,105,108,100,46,108,97,98,101,108,115]⟩ = false by decide +kernel); have m11 := aM (show pathMatches ⟨#[115,101,114,118,105,99,101,115,46,115,46,101,110,116,114,121,112,111,105,110,116]⟩ ⟨#[115,101,114,118,105,99,101,115,46,42,46,99,111,109,109,97,110,100]⟩ = false by decide +kernel); have m12 := aM (show pathMatches ⟨#[115,101,114,118,105,99,101,115,46,115,46,101,110,116,114,121,112,111,105,110,116]⟩ ⟨#[115,101,114,118,105,99,101,115,46,42,46,100,101,112,101,110,100,115,95,111,110]⟩ = false by decide +kernel); have m13 := aM (show pathMatches ⟨#[115,101,114,118,105,99,101,115,46,115,46,101,110,116,114,121,112,111,105,110,116]⟩ ⟨#[115,101,114,118,105,99,101,115,46,42,46,100,110,115]⟩ = false by decide +kernel); have m14 := aM (show pathMatches ⟨#[115,101,114,118,105,99,101,115,46,115,46,101,110,116,114,121,112,111,105,110,116]⟩ ⟨#[115,101,114,118,105,99,101,115,46,42,46,100,110,115,95,111,112,116]⟩ = false by decide +kernel); have m15 := aM (show pathMatches ⟨#[115,101,114,118,105,99,101,115,46,115,46,101,110,116,114,121,112,111,105,110,116]⟩ ⟨#[115,101,114,118,105,99,101,115,46,42,46,100,110,115,95,115,101,97,114,99,104]⟩ = false by decide +kernel); have m16 := aM (show pathMatches ⟨#[115,101,114,118,105,99,101,115,46,115,46,101,110,116,114,121,112,111,105,110,116]⟩ ⟨#[115,101,114,118,105,99,101,115,46,42,46,101,110,116,114,121,112,111,105,110,116]⟩ = true by decide +kernel); have HB := aM (Below.refl w.heap.size w)
 go_enter Tryz.func39,Tryz.ntmps39
 go_wp2_with fail
 refine (zq m0.out _ (by decide) (by decide)).mono ?_; rintro e v0 ⟨rfl,hb⟩; replace HB := aM (zm HB.out hb); clear hb m0
 go_wp2_with fail
 refine (zq m1.out _ (by decide) (by decide)).mono ?_; rintro e v1 ⟨rfl,hb⟩; replace HB := aM (zm HB.out hb); clear hb m1
 go_wp2_with fail
 refine (zq m2.out _ (by decide) (by decide)).mono ?_; rintro e v2 ⟨rfl,hb⟩; replace HB := aM (zm HB.out hb); clear hb m2
 go_wp2_with fail
 refine (zq m3.out _ (by decide) (by decide)).mono ?_; rintro e v3 ⟨rfl,hb⟩; replace HB := aM (zm HB.out hb); clear hb m3
 go_wp2_with fail
 refine (zq m4.out _ (by decide) (by decide)).mono ?_; rintro e v4 ⟨rfl,hb⟩; replace HB := aM (zm HB.out hb); clear hb m4
 go_wp2
 obtain ⟨b,hb⟩ : ∃ b,v4.heap.size = b := ⟨_,rfl⟩
 have HA := aM (yw v4 (.cells #[.string ⟨#[115,101,114,118,105,99,101,115]⟩, .string ⟨#[106,111,98,115]⟩] 52)); replace HB := aM (zb HB.out (.cells #[.string ⟨#[115,101,114,118,105,99,101,115]⟩, .string ⟨#[106,111,98,115]⟩] 52)); rw [hb] at HA; rw [hb]; clear hb; generalize v4.alloc _ = W at HA HB ⊢
 go_loopw [18,5] (fun v18 v5 wr => v18 = .int .i64 0 ∧ Aside0 (wr.heap[b]? = some (.cells #[.string ⟨#[115,101,114,118,105,99,101,115]⟩, .string ⟨#[106,111,98,115]⟩] 52 (0,0))) ∧ Aside0 (Below w.heap.size w wr)) (fun v18 _ _ => 2 - (intOf v18).toNat)
 case atStart => exact ⟨rfl,HA,HB⟩
 case round =>
  clear HA HB; obtain ⟨hi,HA,HB⟩ := hrel; have c0 := zu (i := 0) HA.out (v := .string ⟨#[115,101,114,118,105,99,101,115]⟩) rfl; have c1 := zu (i := 1) HA.out (v := .string ⟨#[106,111,98,115]⟩) rfl; subst hi
  ·skip
   go_wp2_with fail
   refine (zq m5.out _ (by decide) (by decide)).mono ?_; rintro e v5 ⟨rfl,hb⟩; replace HB := aM (zm HB.out hb); replace HA := aM ((hb.block _ (zn HA.out)).trans HA.out); clear c0 c1 hb m5
   go_wp2_with fail
   refine (zq m6.out _ (by decide) (by decide)).mono ?_; rintro e v6 ⟨rfl,hb⟩; replace HB := aM (zm HB.out hb); replace HA := aM ((hb.block _ (zn HA.out)).trans HA.out); clear hb m6
   go_wp2_with fail
   refine (zq m7.out _ (by decide) (by decide)).mono ?_; rintro e v7 ⟨rfl,hb⟩; replace HB := aM (zm HB.out hb); replace HA := aM ((hb.block _ (zn HA.out)).trans HA.out); clear hb m7
   go_wp2_with fail
   refine (zq m8.out _ (by decide) (by decide)).mono ?_; rintro e v8 ⟨rfl,hb⟩; replace HB := aM (zm HB.out hb); replace HA := aM ((hb.block _ (zn HA.out)).trans HA.out); clear hb m8
   go_wp2_with fail
   refine (zq m9.out _ (by decide) (by decide)).mono ?_; rintro e v9 ⟨rfl,hb⟩; replace HB := aM (zm HB.out hb); replace HA := aM ((hb.block _ (zn HA.out)).trans HA.out); clear hb m9
   go_wp2_with fail
   refine (zq m10.out _ (by decide) (by decide)).mono ?_; rintro e v10 ⟨rfl,hb⟩; replace HB := aM (zm HB.out hb); replace HA := aM ((hb.block _ (zn HA.out)).trans HA.out); clear hb m10
   go_wp2_with fail
   refine (zq m11.out _ (by decide) (by decide)).mono ?_; rintro e v11 ⟨rfl,hb⟩; replace HB := aM (zm HB.out hb); replace HA := aM ((hb.block _ (zn HA.out)).trans HA.out); clear hb m11
   go_wp2_with fail
   refine (zq m12.out _ (by decide) (by decide)).mono ?_; rintro e v12 ⟨rfl,hb⟩; replace HB := aM (zm HB.out hb); replace HA := aM ((hb.block _ (zn HA.out)).trans HA.out); clear hb m12
   go_wp2_with fail
   refine (zq m13.out _ (by decide) (by decide)).mono ?_; rintro e v13 ⟨rfl,hb⟩; replace HB := aM (zm HB.out hb); replace HA := aM ((hb.block _ (zn HA.out)).trans HA.out); clear hb m13
   go_wp2_with fail
   refine (zq m14.out _ (by decide) (by decide)).mono ?_; rintro e v14 ⟨rfl,hb⟩; replace HB := aM (zm HB.out hb); replace HA := aM ((hb.block _ (zn HA.out)).trans HA.out); clear hb m14
   go_wp2_with fail
   refine (zq m15.out _ (by decide) (by decide)).mono ?_; rintro e v15 ⟨rfl,hb⟩; replace HB := aM (zm HB.out hb); replace HA := aM ((hb.block _ (zn HA.out)).trans HA.out); clear hb m15
   go_wp2_with fail
   refine (yes_match m16.out _ (by decide) (by decide)).mono ?_; rintro e v16 ⟨rfl,hb⟩; replace HB := aM (zm HB.out hb); replace HA := aM ((hb.block _ (zn HA.out)).trans HA.out); clear hb m16
   go_wp2
   go_ret2
   exact ⟨rfl,HB.out⟩
set_option maxHeartbeats 12800000 in
set_option maxRecDepth 100000 in
theorem special_3 (w : World) : Calls Tryz.prog 39 #[.string ⟨#[115,101,114,118,105,99,101,115,46,115,46,104,101,97,108,116,104,99,104,101,99,107]⟩] w fun e w' => e = .returned (.tuple #[.nilFunc,(.bool false)]) ∧ Below w.heap.size w w' := by
 have m0 := aM (show pathMatches ⟨#[115,101,114,118,105,99,101,115,46,115,46,104,101,97,108,116,104,99,104,101,99,107]⟩ ⟨#[110,101,116,119,111,114,107,115,46,42,46,105,112,97,109,46,99,111,110,102,105,103]⟩ = false by decide +kernel); have m1 := aM (show pathMatches ⟨#[115,101,114,118,105,99,101,115,46,115,46,104,101,97,108,116,104,99,104,101,99,107]⟩ ⟨#[110,101,116,119,111,114,107,115,46,42,46,108,97,98,101,108,115]⟩ = false by decide +kernel); have m2 := aM (show pathMatches ⟨#[115,101,114,118,105,99,101,115,46,115,46,104,101,97,108,116,104,99,104,101,99,107]⟩ ⟨#[118,111,108,117,109,101,115,46,42,46,108,97,98,101,108,115]⟩ = false by decide +kernel); have m3 := aM (show pathMatches ⟨#[115,101,114,118,105,99,101,115,46,115,46,104,101,97,108,116,104,99,104,101,99,107]⟩ ⟨#[115,101,99,114,101,116,115,46,42,46,108,97,98,101,108,115]⟩ = false by decide +kernel); have m4 := aM (show pathMatches ⟨#[115,101,114,118,105,99,101,115,46,115,46,104,101,97,108,116,104,99,104,101,99,107]⟩ ⟨#[99,111,110,102,105,103,115,46,42,46,108,97,98,101,108,115]⟩ = false by decide +kernel); have m5 := aM (show pathMatches ⟨#[115,101,114,118,105,99,101,115,46,115,46,104,101,97,108,116,104,99,104,101,99,107]⟩ ⟨#[115,101,114,118,105,99,101,115,46,42,46,97,110,110,111,116,97,116,105,111,110,115]⟩ = false by decide +kernel); have m6 := aM (show pathMatches ⟨#[115,101,114,118,105,99,101,115,46,115,46,104,101,97,108,116,104,99,104,101,99,107]⟩ ⟨#[115,101,114,118,105,99,101,115,46,42,46,98,117,105,108,100]⟩ = false by decide +kernel); have m7 := aM (show pathMatches ⟨#[115,101,114,118,105,99,101,115,46,115,46,104,101,97,108,116,104,99,104,101,99,107]⟩ ⟨#[115,101,114,118,105,99,101,115,46,42,46,98,117,105,108,100,46,97,114,103,115]⟩ = false by decide +kernel); have m8 := aM (show pathMatches ⟨#[115,101,114,118,105,99,101,115,46,115,46,104,101,97,108,116,104,99,104,101,99,107]⟩ ⟨#[115,101,114,118,105,99,101,115,46,42,46,98,117,105,108,100,46,97,100,100,105,116,105,111,110,97,108,95,99,111,110,116,101,120,116,115]⟩ = false by decide +kernel); have m9 := aM (show pathMatches ⟨#[115,101,114,118,105,99,101,115,46,115,46,104,101,97,108,116,104,99,104,101,99,107]⟩ ⟨#[115,101,114,118,105,99,101,115,46,42,46,98,117,105,108,100,46,101,120,116,114,97,95,104,111,115,116,115]⟩ = false by decide +kernel); have m10 := aM (show pathMatches ⟨#[115,101,114,118,105,99,101,115,46,115,46,104,101,97,108,116,104,99,104,101,99,107]⟩ ⟨#[115,101,114,118,105,99,101,115,46,42,46,98,117,105,108,100,46,108,97,98,101,108,115]⟩ = false by decide +kernel); have m11 := aM (show pathMatches ⟨#[115,101,114,118,105,99,101,115,46,115,46,104,101,97,108,116,104,99,104,101,99,107]⟩ ⟨#[115,101,114,118,105,99,101,115,46,42,46,99,111,109,109,97,110,100]⟩ = false by decide +kernel); have m12 := aM (show pathMatches ⟨#[115,101,114,118,105,99,101,115,46,115,46,104,101,97,108,116,104,99,104,101,99,107]⟩ ⟨#[115,101,114,118,105,99,101,115,46,42,46,100,101,112,101,110,100,115,95,111,110]⟩ = false by decide +kernel); have m13 := aM (show pathMatches ⟨#[115,101,114,118,105,99,101,115,46,115,46,104,101,97,108,116,104,99,104,101,99,107]⟩ ⟨#[115,101,114,118,105,99,101,115,46,42,46,100,110,115]⟩ = false by decide +kernel); have m14 := aM (show pathMatches ⟨#[115,101,114,118,105,99,101,115,46,115,46,104,101,97,108,116,104,99,104,101,99,107]⟩ ⟨#[115,101,114,118,105,99,101,115,46,42,46,100,110,115,95,111,112,116]⟩ = false by decide +kernel); have m15 := aM (show pathMatches ⟨#[115,101,114,118,105,99,101,115,46,115,46,104,101,97,108,116,104,99,104,101,99,107]⟩ ⟨#[115,101,114,118,105,99,101,115,46,42,46,100,110,115,95,115,101,97,114,99,104]⟩ = false by decide +kernel); have m16 := aM (show pathMatches ⟨#[115,101,114,118,105,99,101,115,46,115,46,104,101,97,108,116,104,99,104,101,99,107]⟩ ⟨#[115,101,114,118,105,99,101,115,46,42,46,101,110,116,114,121,112,111,105,110,116]⟩ = false by decide +kernel); have m17 := aM (show pathMatches ⟨#[115,101,114,118,105,99,101,115,46,115,46,104,101,97,108,116,104,99,104,101,99,107]⟩ ⟨#[115,101,114,118,105,99,101,115,46,42,46,101,110,118,95,102,105,108,101]⟩ = false by decide +kernel); have m18 := aM (show pathMatches ⟨#[115,101,114,118,105,99,101,115,46,115,46,104,101,97,108,116,104,99,104,101,99,107]⟩ ⟨#[115,101,114,118,105,99,101,115,46,42,46,108,97,98,101,108,95,102,105,108,101]⟩ = false by decide +kernel); have m19 := aM (show pathMatches ⟨#[115,101,114,118,105,99,101,115,46,115,46,104,101,97,108,116,104,99,104,101,99,107]⟩ ⟨#[115,101,114,118,105,99,101,115,46,42,46,101,110,118,105,114,111,110,109,101,110,116]⟩ = false by decide +kernel); have m20 := aM (show pathMatches ⟨#[115,101,114,118,105,99,101,115,46,115,46,104,101,97,108,116,104,99,104,101,99,107]⟩ ⟨#[115,101,114,118,105,99,101,115,46,42,46,101,120,116,114,97,95,104,111,115,116,115]⟩ = false by decide +kernel); have m21 := aM (show pathMatches ⟨#[115,101,114,118,105,99,101,115,46,115,46,104,101,97,108,116,104,99,104,101,99,107]⟩ ⟨#[115,101,114,118,105,99,101,115,46,42,46,104,101,97,108,116,104,99,104,101,99,107,46,116,101,115,116]⟩ = false by decide +kernel); have m22 := aM (show pathMatches ⟨#[115,101,114,118,105,99,101,115,46,115,46,104,101,97,108,116,104,99,104,101,99,107]⟩ ⟨#[115,101,114,118,105,99,101,115,46,42,46,108,97,98,101,108,115]⟩ = false by decide +kernel); have m23 := aM (show pathMatches ⟨#[115,101,114,118,105,99,101,115,46,115,46,104,101,97,108,116,104,99,104,101,99,107]⟩ ⟨#[115,101,114,118,105,99,101,115,46,42,46,118,111,108,117,109,101,115,46,42,46,118,111,108,117,109,101,46,108,97,98,101,108,115]⟩ = false by decide +kernel); have m24 := aM (show pathMatches ⟨#[115,101,114,118,105,99,101,115,46,115,46,104,101,97,108,116,104,99,104,101,99,107]⟩ ⟨#[115,101,114,118,105,99,101,115,46,42,46,108,111,103,103,105,110,103]⟩ = false by decide +kernel); have m25 := aM (show pathMatches ⟨#[115,101,114,118,105,99,101,115,46,115,46,104,101,97,108,116,104,99,104,101,99,107]⟩ ⟨#[115,101,114,118,105,99,101,115,46,42,46,109,111,100,101,108,115]⟩ = false by decide +kernel); have m26 := aM (show pathMatches ⟨#[115,101,114,118,105,99,101,115,46,115,46,104,101,97,108,116,104,99,104,101,99,107]⟩ ⟨#[115,101,114,118,105,99,101,115,46,42,46,110,101,116,119,111,114,107,115]⟩ = false by decide +kernel); have m27 := aM (show pathMatches ⟨#[115,101,114,118,105,99,101,115,46,115,46,104,101,97,108,116,104,99,104,101,99,107]⟩ ⟨#[115,101,114,118,105,99,101,115,46,42,46,115,121,115,99,116,108,115]⟩ = false by decide +kernel); have m28 := aM (show pathMatches ⟨#[115,101,114,118,105,99,101,115,46,115,46,104,101,97,108,116,104,99,104,101,99,107]⟩ ⟨#[115,101,114,118,105,99,101,115,46,42,46,116,109,112,102,115]⟩ = false by decide +kernel); have m29 := aM (show pathMatches ⟨#[115,101,114,118,105,99,101,115,46,115,46,104,101,97,108,116,104,99,104,101,99,107]⟩ ⟨#[115,101,114,118,105,99,101,115,46,42,46,117,108,105,109,105,116,115,46,42]⟩ = false by decide +kernel); have m30 := aM (show pathMatches ⟨#[115,101,114,118,105,99,101,115,46,115,46,104,101,97,108,116,104,99,104,101,99,107]⟩ ⟨#[106,111,98,115,46,42,46,97,110,110,111,116,97,116,105,111,110,115]⟩ = false by decide +kernel); have m31 := aM (show pathMatches ⟨#[115,101,114,118,105,99,101,115,46,115,46,104,101,97,108,116,104,99,104,101,99,107]⟩ ⟨#[106,111,98,115,46,42,46,98,117,105,108,100]⟩ = false by decide +kernel); have m32 := aM (show pathMatches ⟨#[115,101,114,118,105,99,101,115,46,115,46,104,101,97,108,116,104,99,104,101,99,107]⟩ ⟨#[106,111,98,115,46,42,46,98,117,105,108,100,46,97,114,103,115]⟩ = false by decide +kernel); have m33 := aM (show pathMatches ⟨#[115,101,114,118,105,99,101,115,46,115,46,104,101,97,108,116,104,99,104,101,99,107]⟩ ⟨#[106,111,98,115,46,42,46,98,117,105,108,100,46,97,100,100,105,116,105,111,110,97,108,95,99,111,110,116,101,120,116,115]⟩ = false by decide +kernel); have m34 := aM (show pathMatches ⟨#[115,101,114,118,105,99,101,115,46,115,46,104,101,97,108,116,104,99,104,101,99,107]⟩ ⟨#[106,111,98,115,46,42,46,98,117,105,108,100,46,101,120,116,114,97,95,104,111,115,116,115]⟩ = false by decide +kernel); have m35 := aM (show pathMatches ⟨#[115,101,114,118,105,99,101,115,46,115,46,104,101,97,108,116,104,99,104,101,99,107]⟩ ⟨#[106,111,98,115,46,42,46,98,117,105,108,100,46,108,97,98,101,108,115]⟩ = false by decide +kernel); have m36 := aM (show pathMatches ⟨#[115,101,114,118,105,99,101,115,46,115,46,104,101,97,108,116,104,99,104,101,99,107]⟩ ⟨#[106,111,98,115,46,42,46,99,111,109,109,97,110,100]⟩ = false by decide +kernel); have m37 := aM (show pathMatches ⟨#[115,101,114,118,105,99,101,115,46,115,46,104,101,97,108,116,104,99,104,101,99,107]⟩ ⟨#[106,111,98,115,46,42,46,100,101,112,101,110,100,115,95,111,110]⟩ = false by decide +kernel); have m38 := aM (show pathMatches ⟨#[115,101,114,118,105,99,101,115,46,115,46,104,101,97,108,116,104,99,104,101,99,107]⟩ ⟨#[106,111,98,115,46,42,46,100,110,115]⟩ = false by decide +kernel); have m39 := aM (show pathMatches ⟨#[115,101,114,118,105,99,101,115,46,115,46,104,101,97,108,116,104,99,104,101,99,107]⟩ ⟨#[106,111,98,115,46,42,46,100,110,115,95,111,112,116]⟩ = false by decide +kernel); have m40 := aM (show pathMatches ⟨#[115,101,114,118,105,99,101,115,46,115,46,104,101,97,108,116,104,99,104,101,99,107]⟩ ⟨#[106,111,98,115,46,42,46,100,110,115,95,115,101,97,114,99,104]⟩ = false by decide +kernel); have m41 := aM (show pathMatches ⟨#[115,101,114,118,105,99,101,115,46,115,46,104,101,97,108,116,104,99,104,101,99,107]⟩ ⟨#[106,111,98,115,46,42,46,101,110,116,114,121,112,111,105,110,116]⟩ = false by decide +kernel); have m42 := aM (show pathMatches ⟨#[115,101,114,118,105,99,101,115,46,115,46,104,101,97,108,116,104,99,104,101,99,107]⟩ ⟨#[106,111,98,115,46,42,46,101,110,118,95,102,105,108,101]⟩ = false by decide +kernel); have m43 := aM (show pathMatches ⟨#[115,101,114,118,105,99,101,115,46,115,46,104,101,97,108,116,104,99,104,101,99,107]⟩ ⟨#[106,111,98,115,46,42,46,108,97,98,101,108,95,102,105,108,101]⟩ = false by decide +kernel); have m44 := aM (show pathMatches ⟨#[115,101,114,118,105,99,101,115,46,115,46,104,101,97,108,116,104,99,104,101,99,107]⟩ ⟨#[106,111,98,115,46,42,46,101,110,118,105,114,111,110,109,101,110,116]⟩ = false by decide +kernel); have m45 := aM (show pathMatches ⟨#[115,101,114,118,105,99,101,115,46,115,46,104,101,97,108,116,104,99,104,101,99,107]⟩ ⟨#[106,111,98,115,46,42,46,101,120,116,114,97,95,104,111,115,116,115]⟩ = false by decide +kernel); have m46 := aM (show pathMatches ⟨#[115,101,114,118,105,99,101,115,46,115,46,104,101,97,108,116,104,99,104,101,99,107]⟩ ⟨#[106,111,98,115,46,42,46,104,101,97,108,116,104,99,104,101,99,107,46,116,101,115,116]⟩ = false by decide +kernel); have m47 := aM (show pathMatches ⟨#[115,101,114,118,105,99,101,115,46,115,46,104,101,97,108,116,104,99,104,101,99,107]⟩ ⟨#[106,111,98,115,46,42,46,108,97,98,101,108,115]⟩ = false by decide +kernel); have m48 := aM (show pathMatches ⟨#[115,101,114,118,105,99,101,115,46,115,46,104,101,97,108,116,104,99,104,101,99,107]⟩ ⟨#[106,111,98,115,46,42,46,118,111,108,117,109,101,115,46,42,46,118,111,108,117,109,101,46,108,97,98,101,108,115]⟩ = false by decide +kernel); have m49 := aM (show pathMatches ⟨#[115,101,114,118,105,99,101,115,46,115,46,104,101,97,108,116,104,99,104,101,99,107]⟩ ⟨#[106,111,98,115,46,42,46,108,111,103,103,105,110,103]⟩ = false by decide +kernel); have m50 := aM (show pathMatches ⟨#[115,101,114,118,105,99,101,115,46,115,46,104,101,97,108,116,104,99,104,101,99,107]⟩ ⟨#[106,111,98,115,46,42,46,109,111,100,101,108,115]⟩ = false by decide +kernel); have m51 := aM (show pathMatches ⟨#[115,101,114,118,105,99,101,115,46,115,46,104,101,97,108,116,104,99,104,101,99,107]⟩ ⟨#[106,111,98,115,46,42,46,110,101,116,119,111,114,107,115]⟩ = false by decide +kernel); have m52 := aM (show pathMatches ⟨#[115,101,114,118,105,99,101,115,46,115,46,104,101,97,108,116,104,99,104,101,99,107]⟩ ⟨#[106,111,98,115,46,42,46,115,121,115,99,116,108,115]⟩ = false by decide +kernel); have m53 := aM (show pathMatches ⟨#[115,101,114,118,105,99,101,115,46,115,46,104,101,97,108,116,104,99,104,101,99,107]⟩ ⟨#[106,111,98,115,46,42,46,116,109,112,102,115]⟩ = false by decide +kernel); have m54 := aM (show pathMatches ⟨#[115,101,114,118,105,99,101,115,46,115,46,104,101,97,108,116,104,99,104,101,99,107]⟩ ⟨#[106,111,98,115,46,42,46,117,108,105,109,105,116,115,46,42]⟩ = false by decide +kernel); have m55 := aM (show pathMatches ⟨#[115,101,114,118,105,99,101,115,46,115,46,104,101,97,108,116,104,99,104,101,99,107]⟩ ⟨#[115,101,114,118,105,99,101,115,46,42,46,100,101,112,108,111,121,46,108,97,98,101,108,115]⟩ = false by decide +kernel); have HB := aM (Below.refl w.heap.size w)
 go_enter Tryz.func39,Tryz.ntmps39
 go_wp2_with fail
 refine (zq m0.out _ (by decide) (by decide)).mono ?_; rintro e v0 ⟨rfl,hb⟩; replace HB := aM (zm HB.out hb); clear hb m0
 go_wp2_with fail
 refine (zq m1.out _ (by decide) (by decide)).mono ?_; rintro e v1 ⟨rfl,hb⟩; replace HB := aM (zm HB.out hb); clear hb m1
 go_wp2_with fail
 refine (zq m2.out _ (by decide) (by decide)).mono ?_; rintro e v2 ⟨rfl,hb⟩; replace HB := aM (zm HB.out hb); clear hb m2
 go_wp2_with fail
 refine (zq m3.out _ (by decide) (by decide)).mono ?_; rintro e v3 ⟨rfl,hb⟩; replace HB := aM (zm HB.out hb); clear hb m3
 go_wp2_with fail
 refine (zq m4.out _ (by decide) (by decide)).mono ?_; rintro e v4 ⟨rfl,hb⟩; replace HB := aM (zm HB.out hb); clear hb m4
 go_wp2
 obtain ⟨b,hb⟩ : ∃ b,v4.heap.size = b := ⟨_,rfl⟩
 have HA := aM (yw v4 (.cells #[.string ⟨#[115,101,114,118,105,99,101,115]⟩, .string ⟨#[106,111,98,115]⟩] 52)); replace HB := aM (zb HB.out (.cells #[.string ⟨#[115,101,114,118,105,99,101,115]⟩, .string ⟨#[106,111,98,115]⟩] 52)); rw [hb] at HA; rw [hb]; clear hb; generalize v4.alloc _ = W at HA HB ⊢
 go_loopw [18,5] (fun v18 v5 wr => (v18 = .int .i64 0 ∨ v18 = .int .i64 1 ∨ v18 = .int .i64 2) ∧ Aside0 (wr.heap[b]? = some (.cells #[.string ⟨#[115,101,114,118,105,99,101,115]⟩, .string ⟨#[106,111,98,115]⟩] 52 (0,0))) ∧ Aside0 (Below w.heap.size w wr)) (fun v18 _ _ => 2 - (intOf v18).toNat)
 case atStart => exact ⟨.inl rfl,HA,HB⟩
 case round =>
  clear HA HB; obtain ⟨hi,HA,HB⟩ := hrel; have c0 := zu (i := 0) HA.out (v := .string ⟨#[115,101,114,118,105,99,101,115]⟩) rfl; have c1 := zu (i := 1) HA.out (v := .string ⟨#[106,111,98,115]⟩) rfl
  rcases hi with rfl | rfl | rfl
  ·skip
   go_wp2_with fail
   refine (zq m5.out _ (by decide) (by decide)).mono ?_; rintro e v5 ⟨rfl,hb⟩; replace HB := aM (zm HB.out hb); replace HA := aM ((hb.block _ (zn HA.out)).trans HA.out); clear c0 c1 hb m5
   go_wp2_with fail
   refine (zq m6.out _ (by decide) (by decide)).mono ?_; rintro e v6 ⟨rfl,hb⟩; replace HB := aM (zm HB.out hb); replace HA := aM ((hb.block _ (zn HA.out)).trans HA.out); clear hb m6
   go_wp2_with fail
   refine (zq m7.out _ (by decide) (by decide)).mono ?_; rintro e v7 ⟨rfl,hb⟩; replace HB := aM (zm HB.out hb); replace HA := aM ((hb.block _ (zn HA.out)).trans HA.out); clear hb m7
   go_wp2_with fail
   refine (zq m8.out _ (by decide) (by decide)).mono ?_; rintro e v8 ⟨rfl,hb⟩; replace HB := aM (zm HB.out hb); replace HA := aM ((hb.block _ (zn HA.out)).trans HA.out); clear hb m8
   go_wp2_with fail
   refine (zq m9.out _ (by decide) (by decide)).mono ?_; rintro e v9 ⟨rfl,hb⟩; replace HB := aM (zm HB.out hb); replace HA := aM ((hb.block _ (zn HA.out)).trans HA.out); clear hb m9
   go_wp2_with fail
   refine (zq m10.out _ (by decide) (by decide)).mono ?_; rintro e v10 ⟨rfl,hb⟩; replace HB := aM (zm HB.out hb); replace HA := aM ((hb.block _ (zn HA.out)).trans HA.out); clear hb m10
   go_wp2_with fail
   refine (zq m11.out _ (by decide) (by decide)).mono ?_; rintro e v11 ⟨rfl,hb⟩; replace HB := aM (zm HB.out hb); replace HA := aM ((hb.block _ (zn HA.out)).trans HA.out); clear hb m11
   go_wp2_with fail
   refine (zq m12.out _ (by decide) (by decide)).mono ?_; rintro e v12 ⟨rfl,hb⟩; replace HB := aM (zm HB.out hb); replace HA := aM ((hb.block _ (zn HA.out)).trans HA.out); clear hb m12
   go_wp2_with fail
   refine (zq m13.out _ (by decide) (by decide)).mono ?_; rintro e v13 ⟨rfl,hb⟩; replace HB := aM (zm HB.out hb); replace HA := aM ((hb.block _ (zn HA.out)).trans HA.out); clear hb m13
   go_wp2_with fail
   refine (zq m14.out _ (by decide) (by decide)).mono ?_; rintro e v14 ⟨rfl,hb⟩; replace HB := aM (zm HB.out hb); replace HA := aM ((hb.block _ (zn HA.out)).trans HA.out); clear hb m14
   go_wp2_with fail
   refine (zq m15.out _ (by decide) (by decide)).mono ?_; rintro e v15 ⟨rfl,hb⟩; replace HB := aM (zm HB.out hb); replace HA := aM ((hb.block _ (zn HA.out)).trans HA.out); clear hb m15
   go_wp2_with fail
   refine (zq m16.out _ (by decide) (by decide)).mono ?_; rintro e v16 ⟨rfl,hb⟩; replace HB := aM (zm HB.out hb); replace HA := aM ((hb.block _ (zn HA.out)).trans HA.out); clear hb m16
   go_wp2_with fail
   refine (zq m17.out _ (by decide) (by decide)).mono ?_; rintro e v17 ⟨rfl,hb⟩; replace HB := aM (zm HB.out hb); replace HA := aM ((hb.block _ (zn HA.out)).trans HA.out); clear hb m17
   go_wp2_with fail
   refine (zq m18.out _ (by decide) (by decide)).mono ?_; rintro e v18 ⟨rfl,hb⟩; replace HB := aM (zm HB.out hb); replace HA := aM ((hb.block _ (zn HA.out)).trans HA.out); clear hb m18
   go_wp2_with fail
   refine (zq m19.out _ (by decide) (by decide)).mono ?_; rintro e v19 ⟨rfl,hb⟩; replace HB := aM (zm HB.out hb); replace HA := aM ((hb.block _ (zn HA.out)).trans HA.out); clear hb m19
   go_wp2_with fail
   refine (zq m20.out _ (by decide) (by decide)).mono ?_; rintro e v20 ⟨rfl,hb⟩; replace HB := aM (zm HB.out hb); replace HA := aM ((hb.block _ (zn HA.out)).trans HA.out); clear hb m20
   go_wp2_with fail
   refine (zq m21.out _ (by decide) (by decide)).mono ?_; rintro e v21 ⟨rfl,hb⟩; replace HB := aM (zm HB.out hb); replace HA := aM ((hb.block _ (zn HA.out)).trans HA.out); clear hb m21
   go_wp2_with fail
   refine (zq m22.out _ (by decide) (by decide)).mono ?_; rintro e v22 ⟨rfl,hb⟩; replace HB := aM (zm HB.out hb); replace HA := aM ((hb.block _ (zn HA.out)).trans HA.out); clear hb m22
   go_wp2_with fail
   refine (zq m23.out _ (by decide) (by decide)).mono ?_; rintro e v23 ⟨rfl,hb⟩; replace HB := aM (zm HB.out hb); replace HA := aM ((hb.block _ (zn HA.out)).trans HA.out); clear hb m23
   go_wp2_with fail
   refine (zq m24.out _ (by decide) (by decide)).mono ?_; rintro e v24 ⟨rfl,hb⟩; replace HB := aM (zm HB.out hb); replace HA := aM ((hb.block _ (zn HA.out)).trans HA.out); clear hb m24
   go_wp2_with fail
   refine (zq m25.out _ (by decide) (by decide)).mono ?_; rintro e v25 ⟨rfl,hb⟩; replace HB := aM (zm HB.out hb); replace HA := aM ((hb.block _ (zn HA.out)).trans HA.out); clear hb m25
   go_wp2_with fail
   refine (zq m26.out _ (by decide) (by decide)).mono ?_; rintro e v26 ⟨rfl,hb⟩; replace HB := aM (zm HB.out hb); replace HA := aM ((hb.block _ (zn HA.out)).trans HA.out); clear hb m26
   go_wp2_with fail
   refine (zq m27.out _ (by decide) (by decide)).mono ?_; rintro e v27 ⟨rfl,hb⟩; replace HB := aM (zm HB.out hb); replace HA := aM ((hb.block _ (zn HA.out)).trans HA.out); clear hb m27
   go_wp2_with fail
   refine (zq m28.out _ (by decide) (by decide)).mono ?_; rintro e v28 ⟨rfl,hb⟩; replace HB := aM (zm HB.out hb); replace HA := aM ((hb.block _ (zn HA.out)).trans HA.out); clear hb m28
   go_wp2_with fail
   refine (zq m29.out _ (by decide) (by decide)).mono ?_; rintro e v29 ⟨rfl,hb⟩; replace HB := aM (zm HB.out hb); replace HA := aM ((hb.block _ (zn HA.out)).trans HA.out); clear hb m29
   go_wp2
   go_roundw
   case rel => exact ⟨.inr (.inl rfl),HA,HB⟩
   case measure => simp [intOf]
  ·skip
   go_wp2_with fail
   refine (zq m30.out _ (by decide) (by decide)).mono ?_; rintro e v30 ⟨rfl,hb⟩; replace HB := aM (zm HB.out hb); replace HA := aM ((hb.block _ (zn HA.out)).trans HA.out); clear c0 c1 hb m30
   go_wp2_with fail
   refine (zq m31.out _ (by decide) (by decide)).mono ?_; rintro e v31 ⟨rfl,hb⟩; replace HB := aM (zm HB.out hb); replace HA := aM ((hb.block _ (zn HA.out)).trans HA.out); clear hb m31
   go_wp2_with fail
   refine (zq m32.out _ (by decide) (by decide)).mono ?_; rintro e v32 ⟨rfl,hb⟩; replace HB := aM (zm HB.out hb); replace HA := aM ((hb.block _ (zn HA.out)).trans HA.out); clear hb m32
   go_wp2_with fail
   refine (zq m33.out _ (by decide) (by decide)).mono ?_; rintro e v33 ⟨rfl,hb⟩; replace HB := aM (zm HB.out hb); replace HA := aM ((hb.block _ (zn HA.out)).trans HA.out); clear hb m33
   go_wp2_with fail
   refine (zq m34.out _ (by decide) (by decide)).mono ?_; rintro e v34 ⟨rfl,hb⟩; replace HB := aM (zm HB.out hb); replace HA := aM ((hb.block _ (zn HA.out)).trans HA.out); clear hb m34
   go_wp2_with fail
   refine (zq m35.out _ (by decide) (by decide)).mono ?_; rintro e v35 ⟨rfl,hb⟩; replace HB := aM (zm HB.out hb); replace HA := aM ((hb.block _ (zn HA.out)).trans HA.out); clear hb m35
   go_wp2_with fail
   refine (zq m36.out _ (by decide) (by decide)).mono ?_; rintro e v36 ⟨rfl,hb⟩; replace HB := aM (zm HB.out hb); replace HA := aM ((hb.block _ (zn HA.out)).trans HA.out); clear hb m36
   go_wp2_with fail
   refine (zq m37.out _ (by decide) (by decide)).mono ?_; rintro e v37 ⟨rfl,hb⟩; replace HB := aM (zm HB.out hb); replace HA := aM ((hb.block _ (zn HA.out)).trans HA.out); clear hb m37
   go_wp2_with fail
   refine (zq m38.out _ (by decide) (by decide)).mono ?_; rintro e v38 ⟨rfl,hb⟩; replace HB := aM (zm HB.out hb); replace HA := aM ((hb.block _ (zn HA.out)).trans HA.out); clear hb m38
   go_wp2_with fail
   refine (zq m39.out _ (by decide) (by decide)).mono ?_; rintro e v39 ⟨rfl,hb⟩; replace HB := aM (zm HB.out hb); replace HA := aM ((hb.block _ (zn HA.out)).trans HA.out); clear hb m39
   go_wp2_with fail
   refine (zq m40.out _ (by decide) (by decide)).mono ?_; rintro e v40 ⟨rfl,hb⟩; replace HB := aM (zm HB.out hb); replace HA := aM ((hb.block _ (zn HA.out)).trans HA.out); clear hb m40
   go_wp2_with fail
   refine (zq m41.out _ (by decide) (by decide)).mono ?_; rintro e v41 ⟨rfl,hb⟩; replace HB := aM (zm HB.out hb); replace HA := aM ((hb.block _ (zn HA.out)).trans HA.out); clear hb m41
   go_wp2_with fail
   refine (zq m42.out _ (by decide) (by decide)).mono ?_; rintro e v42 ⟨rfl,hb⟩; replace HB := aM (zm HB.out hb); replace HA := aM ((hb.block _ (zn HA.out)).trans HA.out); clear hb m42
   go_wp2_with fail
   refine (zq m43.out _ (by decide) (by decide)).mono ?_; rintro e v43 ⟨rfl,hb⟩; replace HB := aM (zm HB.out hb); replace HA := aM ((hb.block _ (zn HA.out)).trans HA.out); clear hb m43
   go_wp2_with fail
   refine (zq m44.out _ (by decide) (by decide)).mono ?_; rintro e v44 ⟨rfl,hb⟩; replace HB := aM (zm HB.out hb); replace HA := aM ((hb.block _ (zn HA.out)).trans HA.out); clear hb m44
   go_wp2_with fail
   refine (zq m45.out _ (by decide) (by decide)).mono ?_; rintro e v45 ⟨rfl,hb⟩; replace HB := aM (zm HB.out hb); replace HA := aM ((hb.block _ (zn HA.out)).trans HA.out); clear hb m45
   go_wp2_with fail
   refine (zq m46.out _ (by decide) (by decide)).mono ?_; rintro e v46 ⟨rfl,hb⟩; replace HB := aM (zm HB.out hb); replace HA := aM ((hb.block _ (zn HA.out)).trans HA.out); clear hb m46
   go_wp2_with fail
   refine (zq m47.out _ (by decide) (by decide)).mono ?_; rintro e v47 ⟨rfl,hb⟩; replace HB := aM (zm HB.out hb); replace HA := aM ((hb.block _ (zn HA.out)).trans HA.out); clear hb m47
   go_wp2_with fail
   refine (zq m48.out _ (by decide) (by decide)).mono ?_; rintro e v48 ⟨rfl,hb⟩; replace HB := aM (zm HB.out hb); replace HA := aM ((hb.block _ (zn HA.out)).trans HA.out); clear hb m48
   go_wp2_with fail
   refine (zq m49.out _ (by decide) (by decide)).mono ?_; rintro e v49 ⟨rfl,hb⟩; replace HB := aM (zm HB.out hb); replace HA := aM ((hb.block _ (zn HA.out)).trans HA.out); clear hb m49
   go_wp2_with fail
   refine (zq m50.out _ (by decide) (by decide)).mono ?_; rintro e v50 ⟨rfl,hb⟩; replace HB := aM (zm HB.out hb); replace HA := aM ((hb.block _ (zn HA.out)).trans HA.out); clear hb m50
   go_wp2_with fail
   refine (zq m51.out _ (by decide) (by decide)).mono ?_; rintro e v51 ⟨rfl,hb⟩; replace HB := aM (zm HB.out hb); replace HA := aM ((hb.block _ (zn HA.out)).trans HA.out); clear hb m51
   go_wp2_with fail
   refine (zq m52.out _ (by decide) (by decide)).mono ?_; rintro e v52 ⟨rfl,hb⟩; replace HB := aM (zm HB.out hb); replace HA := aM ((hb.block _ (zn HA.out)).trans HA.out); clear hb m52
   go_wp2_with fail
   refine (zq m53.out _ (by decide) (by decide)).mono ?_; rintro e v53 ⟨rfl,hb⟩; replace HB := aM (zm HB.out hb); replace HA := aM ((hb.block _ (zn HA.out)).trans HA.out); clear hb m53
   go_wp2_with fail
   refine (zq m54.out _ (by decide) (by decide)).mono ?_; rintro e v54 ⟨rfl,hb⟩; replace HB := aM (zm HB.out hb); replace HA := aM ((hb.block _ (zn HA.out)).trans HA.out); clear hb m54
   go_wp2
   go_roundw
   case rel => exact ⟨.inr (.inr rfl),HA,HB⟩
   case measure => simp [intOf]
  ·skip
   go_wp2_with fail
   refine (zq m55.out _ (by decide) (by decide)).mono ?_; rintro e v55 ⟨rfl,hb⟩; replace HB := aM (zm HB.out hb); replace HA := aM ((hb.block _ (zn HA.out)).trans HA.out); clear hb m55
   go_wp2
   go_ret2
   exact ⟨rfl,HB.out⟩
set_option maxHeartbeats 12800000 in
set_option maxRecDepth 100000 in
theorem special_4 (w : World) : Calls Tryz.prog 39 #[.string ⟨#[115,101,114,118,105,99,101,115,46,115,46,104,101,97,108,116,104,99,104,101,99,107,46,116,101,115,116]⟩] w fun e w' => e = .returned (.tuple #[(.func (.func 60) #[] #[]),(.bool true)]) ∧ Below w.heap.size w w' := by
 have m0 := aM (show pathMatches ⟨#[115,101,114,118,105,99,101,115,46,115,46,104,101,97,108,116,104,99,104,101,99,107,46,116,101,115,116]⟩ ⟨#[110,101,116,119,111,114,107,115,46,42,46,105,112,97,109,46,99,111,110,102,105,103]⟩ = false by decide +kernel); have m1 := aM (show pathMatches ⟨#[115,101,114,118,105,99,101,115,46,115,46,104,101,97,108,116,104,99,104,101,99,107,46,116,101,115,116]⟩ ⟨#[110,101,116,119,111,114,107,115,46,42,46,108,97,98,101,108,115]⟩ = false by decide +kernel); have m2 := aM (show pathMatches ⟨#[115,101,114,118,105,99,101,115,46,115,46,104,101,97,108,116,104,99,104,101,99,107,46,116,101,115,116]⟩ ⟨#[118,111,108,117,109,101,115,46,42,46,108,97,98,101,108,115]⟩ = false by decide +kernel); have m3 := aM (show pathMatches ⟨#[115,101,114,118,105,99,101,115,46,115,46,104,101,97,108,116,104,99,104,101,99,107,46,116,101,115,116]⟩ ⟨#[115,101,99,114,101,116,115,46,42,46,108,97,98,101,108,115]⟩ = false by decide +kernel); have m4 := aM (show pathMatches ⟨#[115,101,114,118,105,99,101,115,46,115,46,104,101,97,108,116,104,99,104,101,99,107,46,116,101,115,116]⟩ ⟨#[99,111,110,102,105,103,115,46,42,46,108,97,98,101,108,115]⟩ = false by decide +kernel); have m5 := aM (show pathMatches ⟨#[115,101,114,118,105,99,101,115,46,115,46,104,101,97,108,116,104,99,104,101,99,107,46,116,101,115,116]⟩ ⟨#[115,101,114,118,105,99,101,115,46,42,46,97,110,110,111,116,97,116,105,111,110,115]⟩ = false by decide +kernel); have m6 := aM (show pathMatches ⟨#[115,101,114,118,105,99,101,115,46,115,46,104,101,97,108,116,104,99,104,101,99,107,46,116,101,115,116]⟩ ⟨#[115,101,114,118,105,99,101,115,46,42,46,98,117,105,108,100]⟩ = false by decide +kernel); have m7 := aM (show pathMatches ⟨#[115,101,114,118,105,99,101,115,46,115,46,104,101,97,108,116,104,99,104,101,99,107,46,116,101,115,116]⟩ ⟨#[115,101,114,118,105,99,101,115,46,42,46,98,117,105,108,100,46,97,114,103,115]⟩ = false by decide +kernel); have m8 := aM (show pathMatches ⟨#[115,101,114,118,105,99,101,115,46,115,46,104,101,97,108,116,104,99,104,101,99,107,46,116,101,115,116]⟩ ⟨#[115,101,114,118,105,99,101,115,46,42,46,98,117,105,108,100,46,97,100,100,105,116,105,111,110,97,108,95,99,111,110,116,101,120,116,115]⟩ = false by decide +kernel); have m9 := aM (show pathMatches ⟨#[115,101,114,118,105,99,101,115,46,115,46,104,101,97,108,116,104,99,104,101,99,107,46,116,101,115,116]⟩ ⟨#[115,101,114,118,105,99,101,115,46,42,46,98,117,105,108,100,46,101,120,116,114,97,95,104,111,115,116,115]⟩ = false by decide +kernel); have m10 := aM (show pathMatches ⟨#[115,101,114,118,105,99,101,115,46,115,46,104,101,97,108,116,104,99,104,101,99,107,46,116,101,115,116]⟩ ⟨#[115,101,114,118,105,99,101,115,46,42,46,98,117,105,108,100,46,108,97,98,101,108,115]⟩ = false by decide +kernel); have m11 := aM (show pathMatches ⟨#[115,101,114,118,105,99,101,115,46,115,46,104,101,97,108,116,104,99,104,101,99,107,46,116,101,115,116]⟩ ⟨#[115,101,114,118,105,99,101,115,46,42,46,99,111,109,109,97,110,100]⟩ = false by decide +kernel); have m12 := aM (show pathMatches ⟨#[115,101,114,118,105,99,101,115,46,115,46,104,101,97,108,116,104,99,104,101,99,107,46,116,101,115,116]⟩ ⟨#[115,101,114,118,105,99,101,115,46,42,46,100,101,112,101,110,100,115,95,111,110]⟩ = false by decide +kernel); have m13 := aM (show pathMatches ⟨#[115,101,114,118,105,99,101,115,46,115,46,104,101,97,108,116,104,99,104,101,99,107,46,116,101,115,116]⟩ ⟨#[115,101,114,118,105,99,101,115,46,42,46,100,110,115]⟩ = false by decide +kernel); have m14 := aM (show pathMatches ⟨#[115,101,114,118,105,99,101,115,46,115,46,104,101,97,108,116,104,99,104,101,99,107,46,116,101,115,116]⟩ ⟨#[115,101,114,118,105,99,101,115,46,42,46,100,110,115,95,111,112,116]⟩ = false by decide +kernel); have m15 := aM (show pathMatches ⟨#[115,101,114,118,105,99,101,115,46,115,46,104,101,97,108,116,104,99,104,101,99,107,46,116,101,115,116]⟩ ⟨#[115,101,114,118,105,99,101,115,46,42,46,100,110,115,95,115,101,97,114,99,104]⟩ = false by decide +kernel); have m16 := aM (show pathMatches ⟨#[115,101,114,118,105,99,101,115,46,115,46,104,101,97,108,116,104,99,104,101,99,107,46,116,101,115,116]⟩ ⟨#[115,101,114,118,105,99,101,115,46,42,46,101,110,116,114,121,112,111,105,110,116]⟩ = false by decide +kernel); have m17 := aM (show pathMatches ⟨#[115,101,114,118,105,99,101,115,46,115,46,104,101,97,108,116,104,99,104,101,99,107,46,116,101,115,116]⟩ ⟨#[115,101,114,118,105,99,101,115,46,42,46,101,110,118,95,102,105,108,101]⟩ = false by decide +kernel); have m18 := aM (show pathMatches ⟨#[115,101,114,118,105,99,101,115,46,115,46,104,101,97,108,116,104,99,104,101,99,107,46,116,101,115,116]⟩ ⟨#[115,101,114,118,105,99,101,115,46,42,46,108,97,98,101,108,95,102,105,108,101]⟩ = false by decide +kernel); have m19 := aM (show pathMatches ⟨#[115,101,114,118,105,99,101,115,46,115,46,104,101,97,108,116,104,99,104,101,99,107,46,116,101,115,116]⟩ ⟨#[115,101,114,118,105,99,101,115,46,42,46,101,110,118,105,114,111,110,109,101,110,116]⟩ = false by decide +kernel); have m20 := aM (show pathMatches ⟨#[115,101,114,118,105,99,101,115,46,115,46,104,101,97,108,116,104,99,104,101,99,107,46,116,101,115,116]⟩ ⟨#[115,101,114,118,105,99,101,115,46,42,46,101,120,116,114,97,95,104,111,115,116,115]⟩ = false by decide +kernel); have m21 := aM (show pathMatches ⟨#[115,101,114,118,105,99,101,115,46,115,46,104,101,97,108,116,104,99,104,101,99,107,46,116,101,115,116]⟩ ⟨#[115,101,114,118,105,99,101,115,46,42,46,104,101,97,108,116,104,99,104,101,99,107,46,116,101,115,116]⟩ = true by decide +kernel); have HB := aM (Below.refl w.heap.size w)
 go_enter Tryz.func39,Tryz.ntmps39
 go_wp2_with fail
 refine (zq m0.out _ (by decide) (by decide)).mono ?_; rintro e v0 ⟨rfl,hb⟩; replace HB := aM (zm HB.out hb); clear hb m0
 go_wp2_with fail
 refine (zq m1.out _ (by decide) (by decide)).mono ?_; rintro e v1 ⟨rfl,hb⟩; replace HB := aM (zm HB.out hb); clear hb m1
 go_wp2_with fail
 refine (zq m2.out _ (by decide) (by decide)).mono ?_; rintro e v2 ⟨rfl,hb⟩; replace HB := aM (zm HB.out hb); clear hb m2
 go_wp2_with fail
 refine (zq m3.out _ (by decide) (by decide)).mono ?_; rintro e v3 ⟨rfl,hb⟩; replace HB := aM (zm HB.out hb); clear hb m3
 go_wp2_with fail
 refine (zq m4.out _ (by decide) (by decide)).mono ?_; rintro e v4 ⟨rfl,hb⟩; replace HB := aM (zm HB.out hb); clear hb m4
 go_wp2
 obtain ⟨b,hb⟩ : ∃ b,v4.heap.size = b := ⟨_,rfl⟩
 have HA := aM (yw v4 (.cells #[.string ⟨#[115,101,114,118,105,99,101,115]⟩, .string ⟨#[106,111,98,115]⟩] 52)); replace HB := aM (zb HB.out (.cells #[.string ⟨#[115,101,114,118,105,99,101,115]⟩, .string ⟨#[106,111,98,115]⟩] 52)); rw [hb] at HA; rw [hb]; clear hb; generalize v4.alloc _ = W at HA HB ⊢
 go_loopw [18,5] (fun v18 v5 wr => v18 = .int .i64 0 ∧ Aside0 (wr.heap[b]? = some (.cells #[.string ⟨#[115,101,114,118,105,99,101,115]⟩, .string ⟨#[106,111,98,115]⟩] 52 (0,0))) ∧ Aside0 (Below w.heap.size w wr)) (fun v18 _ _ => 2 - (intOf v18).toNat)
 case atStart => exact ⟨rfl,HA,HB⟩
 case round =>
  clear HA HB; obtain ⟨hi,HA,HB⟩ := hrel; have c0 := zu (i := 0) HA.out (v := .string ⟨#[115,101,114,118,105,99,101,115]⟩) rfl; have c1 := zu (i := 1) HA.out (v := .string ⟨#[106,111,98,115]⟩) rfl; subst hi
  ·skip
   go_wp2_with fail
   refine (zq m5.out _ (by decide) (by decide)).mono ?_; rintro e v5 ⟨rfl,hb⟩; replace HB := aM (zm HB.out hb); replace HA := aM ((hb.block _ (zn HA.out)).trans HA.out); clear c0 c1 hb m5
   go_wp2_with fail
   refine (zq m6.out _ (by decide) (by decide)).mono ?_; rintro e v6 ⟨rfl,hb⟩; replace HB := aM (zm HB.out hb); replace HA := aM ((hb.block _ (zn HA.out)).trans HA.out); clear hb m6
   go_wp2_with fail
   refine (zq m7.out _ (by decide) (by decide)).mono ?_; rintro e v7 ⟨rfl,hb⟩; replace HB := aM (zm HB.out hb); replace HA := aM ((hb.block _ (zn HA.out)).trans HA.out); clear hb m7
   go_wp2_with fail
   refine (zq m8.out _ (by decide) (by decide)).mono ?_; rintro e v8 ⟨rfl,hb⟩; replace HB := aM (zm HB.out hb); replace HA := aM ((hb.block _ (zn HA.out)).trans HA.out); clear hb m8
   go_wp2_with fail
   refine (zq m9.out _ (by decide) (by decide)).mono ?_; rintro e v9 ⟨rfl,hb⟩; replace HB := aM (zm HB.out hb); replace HA := aM ((hb.block _ (zn HA.out)).trans HA.out); clear hb m9
   go_wp2_with fail
   refine (zq m10.out _ (by decide) (by decide)).mono ?_; rintro e v10 ⟨rfl,hb⟩; replace HB := aM (zm HB.out hb); replace HA := aM ((hb.block _ (zn HA.out)).trans HA.out); clear hb m10
   go_wp2_with fail
   refine (zq m11.out _ (by decide) (by decide)).mono ?_; rintro e v11 ⟨rfl,hb⟩; replace HB := aM (zm HB.out hb); replace HA := aM ((hb.block _ (zn HA.out)).trans HA.out); clear hb m11
   go_wp2_with fail
   refine (zq m12.out _ (by decide) (by decide)).mono ?_; rintro e v12 ⟨rfl,hb⟩; replace HB := aM (zm HB.out hb); replace HA := aM ((hb.block _ (zn HA.out)).trans HA.out); clear hb m12
   go_wp2_with fail
   refine (zq m13.out _ (by decide) (by decide)).mono ?_; rintro e v13 ⟨rfl,hb⟩; replace HB := aM (zm HB.out hb); replace HA := aM ((hb.block _ (zn HA.out)).trans HA.out); clear hb m13
   go_wp2_with fail
   refine (zq m14.out _ (by decide) (by decide)).mono ?_; rintro e v14 ⟨rfl,hb⟩; replace HB := aM (zm HB.out hb); replace HA := aM ((hb.block _ (zn HA.out)).trans HA.out); clear hb m14
   go_wp2_with fail
   refine (zq m15.out _ (by decide) (by decide)).mono ?_; rintro e v15 ⟨rfl,hb⟩; replace HB := aM (zm HB.out hb); replace HA := aM ((hb.block _ (zn HA.out)).trans HA.out); clear hb m15
   go_wp2_with fail
   refine (zq m16.out _ (by decide) (by decide)).mono ?_; rintro e v16 ⟨rfl,hb⟩; replace HB := aM (zm HB.out hb); replace HA := aM ((hb.block _ (zn HA.out)).trans HA.out); clear hb m16
   go_wp2_with fail
   refine (zq m17.out _ (by decide) (by decide)).mono ?_; rintro e v17 ⟨rfl,hb⟩; replace HB := aM (zm HB.out hb); replace HA := aM ((hb.block _ (zn HA.out)).trans HA.out); clear hb m17
   go_wp2_with fail
   refine (zq m18.out _ (by decide) (by decide)).mono ?_; rintro e v18 ⟨rfl,hb⟩; replace HB := aM (zm HB.out hb); replace HA := aM ((hb.block _ (zn HA.out)).trans HA.out); clear hb m18
   go_wp2_with fail
   refine (zq m19.out _ (by decide) (by decide)).mono ?_; rintro e v19 ⟨rfl,hb⟩; replace HB := aM (zm HB.out hb); replace HA := aM ((hb.block _ (zn HA.out)).trans HA.out); clear hb m19
   go_wp2_with fail
   refine (zq m20.out _ (by decide) (by decide)).mono ?_; rintro e v20 ⟨rfl,hb⟩; replace HB := aM (zm HB.out hb); replace HA := aM ((hb.block _ (zn HA.out)).trans HA.out); clear hb m20
   go_wp2_with fail
   refine (yes_match m21.out _ (by decide) (by decide)).mono ?_; rintro e v21 ⟨rfl,hb⟩; replace HB := aM (zm HB.out hb); replace HA := aM ((hb.block _ (zn HA.out)).trans HA.out); clear hb m21
   go_wp2
   go_ret2
   exact ⟨rfl,HB.out⟩
end Go.Proofs.YtnmhjndjfblebaaGreatDoor.Tree
namespace Go.Proofs.YtnmhjndjfblebaaGreatDoor.MapV
open Go.RowKit Go.Proofs.YtnmhjndjfblebaaGreatDoorW.PrintWords Go.Proofs.YtnmhjndjfblebaaGreatDoor.Str Go.Maps
open Go.WideElems (Fit rd rg pl rd_val rd_key)
section
variable {α β : Type}
def mget (f : List (Bs × α)) (k : Bs) : Option α := (f.find? fun p => p.1 == k).map (·.2)
def mins (x : Bs × α) : List (Bs × α) → List (Bs × α)
 | [] => [x]
 | y :: r => if x.1 < y.1 then x :: y :: r else y :: mins x r
def mdel (f : List (Bs × α)) (k : Bs) : List (Bs × α) := f.filter fun p => !(p.1 == k)
def mput (f : List (Bs × α)) (k : Bs) (v : α) : List (Bs × α) := mins (k,v) (mdel f k)
def Rises (f : List (Bs × α)) : Prop := f.Pairwise fun p q => p.1 < q.1
theorem lt_irrefl (a : Bs) : ¬ a < a := List.lt_irrefl a
theorem lt_trans {a b c : Bs} (h : a < b) (k : b < c) : a < c := List.lt_trans h k
theorem lt_total (a b : Bs) : a < b ∨ a = b ∨ b < a := by
 by_cases h : a < b
 ·exact .inl h
 ·by_cases k : b < a
  ·exact .inr (.inr k)
  ·exact .inr (.inl (List.le_antisymm k h))
theorem lt_ne {a b : Bs} (h : a < b) : a ≠ b := fun e => lt_irrefl a (by rw [← e] at h; exact h)
theorem mins_mem {x p : Bs × α} : ∀ {f : List (Bs × α)}, p ∈ mins x f ↔ p = x ∨ p ∈ f
 | [] => by simp [mins]
 | y :: r => by
  rw [mins]
  split
  ·simp
  ·rw [List.mem_cons,mins_mem,List.mem_cons]; constructor
   ·rintro (h | h | h)
    ·exact .inr (.inl h)
    ·exact .inl h
    ·exact .inr (.inr h)
   ·rintro (h | h | h)
    ·exact .inr (.inl h)
    ·exact .inl h
    ·exact .inr (.inr h)
theorem mins_length (x : Bs × α) : ∀ f : List (Bs × α),(mins x f).length = f.length + 1
 | [] => rfl
 | y :: r => by
  rw [mins]
  split
  ·rfl
  ·simp [mins_length x r]
theorem mput_length (f : List (Bs × α)) (k : Bs) (v : α) : (mput f k v).length ≤ f.length + 1 := by
 rw [mput,mins_length]; have := List.length_filter_le (fun p : Bs × α => !(p.1 == k)) f
 unfold mdel
 omega
theorem mins_rises {x : Bs × α} : ∀ {f : List (Bs × α)}, Rises f → (∀ p ∈ f,p.1 ≠ x.1) → Rises (mins x f)
 | [], _, _ => by simp [mins,Rises]
 | y :: r,h,hn => by
  obtain ⟨h1,h2⟩ := List.pairwise_cons.1 h; rw [mins]
  split
  ·rename_i hb
   refine List.pairwise_cons.2 ⟨fun q hq => ?_,h⟩
   rcases List.mem_cons.1 hq with rfl | hq
   ·exact hb
   ·exact lt_trans hb (h1 q hq)
  ·rename_i hb
   refine List.pairwise_cons.2 ⟨fun q hq => ?_,mins_rises h2 (fun p hp => hn p (by simp [hp]))⟩
   rcases mins_mem.1 hq with rfl | hq
   ·rcases lt_total y.1 q.1 with e | e | e
    ·exact e
    ·exact absurd e (hn y (by simp))
    ·exact absurd e hb
   ·exact h1 q hq
theorem mdel_rises {f : List (Bs × α)} (h : Rises f) (k : Bs) : Rises (mdel f k) := h.filter _
theorem mput_rises {f : List (Bs × α)} (h : Rises f) (k : Bs) (v : α) : Rises (mput f k v) :=
 mins_rises (mdel_rises h k) (fun p hp => by
  have := (List.mem_filter.1 hp).2
  simpa using this)
theorem mget_mins_same {f : List (Bs × α)} {k : Bs} {v : α} : (∀ p ∈ f,p.1 ≠ k) → mget (mins (k,v) f) k = some v := by
 induction f with
 | nil => intro _; simp [mins,mget]
 | cons y r ih =>
  intro h; rw [mins]
  split
  ·simp [mget]
  ·have hy : (y.1 == k) = false := by simpa using h y (by simp)
   have := ih (fun p hp => h p (by simp [hp]))
   unfold mget at this ⊢
   rw [List.find?_cons,hy]; exact this
theorem mget_mins_other {f : List (Bs × α)} {k k' : Bs} {v : α} (hk : k ≠ k') : mget (mins (k,v) f) k' = mget f k' := by
 have hkk : (k == k') = false := by simpa using hk
 induction f with
 | nil => simp [mins,mget,hk]
 | cons y r ih =>
  rw [mins]
  split
  ·unfold mget; rw [List.find?_cons]; simp only [hkk]
  ·unfold mget at ih ⊢
   rw [List.find?_cons,List.find?_cons]
   cases y.1 == k'
   ·exact ih
   ·rfl
theorem mget_mdel_other {f : List (Bs × α)} {k k' : Bs} (hk : k ≠ k') : mget (mdel f k) k' = mget f k' := by
 unfold mget mdel
 induction f with
 | nil => rfl
 | cons y r ih =>
  by_cases e : y.1 = k
  ·have h1 : (y.1 == k) = true := by simpa using e
   have h2 : (y.1 == k') = false := by rw [e]; simpa using hk
   rw [List.filter_cons,h1,List.find?_cons,h2]
   simpa using ih
  ·have h1 : (y.1 == k) = false := by simpa using e
   rw [List.filter_cons,h1]; simp only [Bool.not_false,if_true,List.find?_cons]
   cases y.1 == k'
   ·exact ih
   ·rfl
theorem mget_mput (f : List (Bs × α)) (k k' : Bs) (v : α) : mget (mput f k v) k' = if k = k' then some v else mget f k' := by
 unfold mput
 by_cases h : k = k'
 ·subst h; rw [if_pos rfl]; exact mget_mins_same (fun p hp => by have := (List.mem_filter.1 hp).2; simpa using this)
 ·rw [if_neg h,mget_mins_other h,mget_mdel_other h]
theorem mget_some {f : List (Bs × α)} {k : Bs} {v : α} (h : mget f k = some v) : (k,v) ∈ f := by
 unfold mget at h
 obtain ⟨p,hp,rfl⟩ := Option.map_eq_some_iff.1 h; have h1 := List.find?_some hp; have h2 := List.mem_of_find?_eq_some hp
 have : p.1 = k := by simpa using h1
 subst this; exact h2
theorem mget_none {f : List (Bs × α)} {k : Bs} (h : mget f k = none) : ∀ p ∈ f,p.1 ≠ k := by
 intro p hp
 have h1 : f.find? (fun p => p.1 == k) = none := by simpa [mget] using h
 simpa using List.find?_eq_none.1 h1 p hp
theorem mget_of_mem {f : List (Bs × α)} (hr : Rises f) {k : Bs} {v : α} (h : (k,v) ∈ f) : mget f k = some v := by
 induction f with
 | nil => simp at h
 | cons y r ih =>
  obtain ⟨h1,h2⟩ := List.pairwise_cons.1 hr
  rcases List.mem_cons.1 h with h | h
  ·subst h; simp [mget]
  ·have hy : (y.1 == k) = false := by simpa using lt_ne (h1 _ h)
   unfold mget at ih ⊢
   rw [List.find?_cons,hy]; exact ih h2 h
theorem rises_ext : ∀ {f g : List (Bs × α)}, Rises f → Rises g → (∀ k,mget f k = mget g k) → f = g := by
 have key : ∀ {f g : List (Bs × α)}, Rises f → Rises g → (∀ k,mget f k = mget g k) → ∀ p ∈ f,p ∈ g := by
  intro f g hf hg h p hp; have := mget_of_mem hf (k := p.1) (v := p.2) hp; rw [h] at this; exact mget_some this
 intro f
 induction f with
 | nil =>
  intro g hf hg h
  cases g with
  | nil => rfl
  | cons y r =>
   have := key hg hf (fun k => (h k).symm) y (by simp)
   simp at this
 | cons x f ih =>
  intro g hf hg h
  cases g with
  | nil =>
   have := key hf hg h x (by simp)
   simp at this
  | cons y g =>
   obtain ⟨x1,x2⟩ := List.pairwise_cons.1 hf; obtain ⟨y1,y2⟩ := List.pairwise_cons.1 hg
   have hxy : x = y := by
    have a := key hf hg h x (by simp); have b := key hg hf (fun k => (h k).symm) y (by simp)
    rcases List.mem_cons.1 a with a | a
    ·exact a
    ·rcases List.mem_cons.1 b with b | b
     ·exact b.symm
     ·exact absurd (lt_trans (x1 _ b) (y1 _ a)) (lt_irrefl _)
   subst hxy; refine congrArg _ (ih x2 y2 (fun k => ?_)); have hk := h k
   unfold mget at hk ⊢
   rw [List.find?_cons,List.find?_cons] at hk
   by_cases e : x.1 = k
   ·have n1 : f.find? (fun p => p.1 == k) = none := List.find?_eq_none.2 (fun p hp => by simpa [← e] using (lt_ne (x1 p hp)).symm); have n2 : g.find? (fun p => p.1 == k) = none := List.find?_eq_none.2 (fun p hp => by simpa [← e] using (lt_ne (y1 p hp)).symm); rw [n1,n2]
   ·have : (x.1 == k) = false := by simpa using e
    rw [this] at hk; exact hk
theorem rises_take {f : List (Bs × α)} (hf : f.Pairwise fun p q => p.1 ≠ q.1) {k : Bs} {v : α} (h : (k,v) ∈ f) : f.Perm ((k,v) :: mdel f k) := by
 induction f with
 | nil => simp at h
 | cons y r ih =>
  obtain ⟨h1,h2⟩ := List.pairwise_cons.1 hf
  rcases List.mem_cons.1 h with h | h
  ·subst h
   have : mdel ((k,v) :: r) k = r := by
    unfold mdel
    rw [List.filter_cons]; simp only [beq_self_eq_true,Bool.not_true]; exact List.filter_eq_self.2 (fun p hp => by simpa using (h1 p hp).symm)
   rw [this]
  ·have hy : (y.1 == k) = false := by simpa using h1 _ h
   have : mdel (y :: r) k = y :: mdel r k := by
    unfold mdel
    rw [List.filter_cons,hy]; rfl
   rw [this]; exact ((ih h2 h).cons y).trans (List.Perm.swap _ _ _)
theorem mins_map (g : α → β) (x : Bs × α) : ∀ f : List (Bs × α),mins (x.1,g x.2) (f.map fun p => (p.1,g p.2)) = (mins x f).map fun p => (p.1,g p.2)
 | [] => rfl
 | y :: r => by
  rw [List.map_cons,mins,mins]
  split
  ·rfl
  ·rw [mins_map g x r]; rfl
theorem mput_map (g : α → β) (f : List (Bs × α)) (k : Bs) (v : α) : mput (f.map fun p => (p.1,g p.2)) k (g v) = (mput f k v).map fun p => (p.1,g p.2) := by
 unfold mput
 rw [← mins_map g (k,v)]; refine congrArg _ ?_
 unfold mdel
 rw [List.filter_map]; rfl
end
theorem before_lt : ∀ a b : Bs,bytesBefore a b = decide (a < b)
 | [], [] => by decide
 | [], _ :: _ => by simp [bytesBefore]
 | _ :: _, [] => by simp [bytesBefore]
 | a :: r,b :: s => by
  rw [bytesBefore,before_lt r s]; have : (a :: r < b :: s) ↔ a < b ∨ (a = b ∧ r < s) := List.cons_lt_cons_iff
  by_cases h1 : a < b
  ·simp [this,h1]
  ·by_cases h2 : a = b
   ·simp [this,h1,h2]
   ·simp [this,h1,h2]
def heldR (v : Value) : Option (DataW Value × List MemPlace) := some (.held v, [])
section
variable {α : Type} (enc : α → Value)
def ent (p : Bs × α) : Lit × DataW Value := (.string p.1, .held (enc p.2))
theorem ent_put (f : List (Bs × α)) (k : Bs) (v : α) : (DataW.map (f.map (ent enc))).put (.string k) (.held (enc v)) = .map ((mput f k v).map (ent enc)) := by
 have ins : ∀ g : List (Bs × α),DataW.insert (Lit.string k,DataW.held (enc v)) (g.map (ent enc)) = (mins (k,v) g).map (ent enc) := by
  intro g
  induction g with
  | nil => rfl
  | cons y r ih =>
   rw [List.map_cons,DataW.insert,mins]; have : (Lit.string k).before (ent enc y).1 = decide (k < y.1) := before_lt k y.1; rw [this]
   by_cases h : k < y.1
   ·simp [h,ent]
   ·simp [h,ih]
 unfold DataW.put mput
 rw [← ins]; refine congrArg (fun x => DataW.map (DataW.insert _ x)) ?_
 unfold mdel
 rw [List.filter_map]; rfl
theorem ent_at (f : List (Bs × α)) (k : Bs) (zd : DataW Value) : (DataW.map (f.map (ent enc))).atKey (.string k) zd = match mget f k with
  | some v => .held (enc v)
  | none => zd := by
 unfold DataW.atKey mget
 simp only [List.find?_map]
 have : ((fun p : Lit × DataW Value => p.1.sameKey (.string k)) ∘ ent enc) = fun p : Bs × α => p.1 == k := rfl
 rw [this]
 cases f.find? (fun p => p.1 == k) <;> rfl
theorem ent_has (f : List (Bs × α)) (k : Bs) : Maps.has (DataW.map (f.map (ent enc))) (.string k) = (mget f k).isSome := by
 unfold mget
 rw [Maps.has_eq,List.any_map]
 have : ((fun p : Lit × DataW Value => p.1.sameKey (.string k)) ∘ ent enc) = fun p : Bs × α => p.1 == k := rfl
 rw [this]; rw [Option.isSome_map,Bool.eq_iff_iff,List.any_eq_true,List.find?_isSome]
end
def MapE (P : Program) (k : TypeId) {α : Type} (enc : α → Value) (w : World) (b : Nat) (f : List (Bs × α)) : Prop := w.ownsMap P k heldR b f.length (.map (f.map (ent enc)))
section
variable {P : Program} {k : TypeId} {α : Type} {enc : α → Value} {w w1 : World} {b : Nat} {f : List (Bs × α)}
theorem owns_norm {n : Nat} {l : List (Lit × DataW Value)} (h : w.ownsMap P k heldR b n (.map l)) : w.ownsMap P k heldR b l.length (.map l) := by
 obtain ⟨es,clock,hb,F,hs,hD⟩ := h; refine ⟨es,clock,hb,F, ?_,hD⟩
 injection hD with hD
 rw [hD,length_sorted]
 simp
theorem MapE.of {n : Nat} (h : w.ownsMap P k heldR b n (.map (f.map (ent enc)))) : MapE P k enc w b f := by
 have := owns_norm h; rw [List.length_map] at this; exact this
theorem MapE.lt (h : MapE P k enc w b f) : b < w.heap.size := World.ownsMap.lt h
theorem MapE.grown (h : MapE P k enc w b f) {row : Option Nat} (hg : w.grownBy w1 row) (hn : some b ≠ row) : MapE P k enc w1 b f := World.ownsMap.kept h hg hn
theorem MapE.below (h : MapE P k enc w b f) (hb : Below w.heap.size w w1) : MapE P k enc w1 b f := h.grown (grown_of_below hb none) (by simp)
theorem MapE.move (h : MapE P k enc w b f) (hm : w1.heap[b]? = w.heap[b]?) : MapE P k enc w1 b f := by
 obtain ⟨es,clock,hb,F,r⟩ := h; exact ⟨es,clock,hm.trans hb,F,r⟩
theorem MapE.made (P : Program) (k : TypeId) (enc : α → Value) (w : World) : MapE P k enc (w.alloc (.map #[] 0)) w.heap.size [] := World.ownsMap_made w P k heldR
theorem MapE.rises (K : Keyed P k) (h : MapE P k enc w b f) : Rises f := by
 obtain ⟨es,clock,hb,F,hs,hD⟩ := h
 injection hD with hD
 have h1 := Maps.sorted_sorted K.one (es.toList.map (rg P k heldR)) (fun p hp => by
  obtain ⟨x,hx,rfl⟩ := List.mem_map.1 hp; obtain ⟨y,hy⟩ := F.reads x hx; rw [Go.WideElems.rg_of hy]
  exact ⟨_,rd_key hy⟩) (Maps.fit_apart K F)
 rw [← hD,List.pairwise_map] at h1
 exact h1.imp (fun {p q} hh => by
  have : bytesBefore p.1 q.1 = true := hh; rw [before_lt] at this
  exact of_decide_eq_true this)
theorem MapE.key_le (hk : P.underlying k = some .string) (h : MapE P k enc w b f) : ∀ p ∈ f,p.1.length ≤ maxLen := by
 intro p hp; refine strKeys_le h hk p.1 ?_
 show p.1 ∈ (f.map (ent enc)).map fun p => strOf p.1
 rw [List.map_map]; exact List.mem_map.2 ⟨p,hp,rfl⟩
open Go.WideMaps in
theorem keyOf_s (hk : P.underlying k = some .string) {s : ByteArray} (hs : s.size ≤ maxLen) : keyOf P k (.string s) = some (.string (lb s)) := keyOf_string_mk hk hs
end
section
variable {P : Program} {k e t : TypeId} {α : Type} {enc : α → Value} {w : World} {b : Nat} {f : List (Bs × α)}
variable {ops : Array Oper} {rest : List Oper} {o : Oper} {a : Act} {Q : Exit → Act → World → Prop}
theorem store_mapE (hk : P.underlying k = some .string) (ht : P.underlying t = some (.map k e)) (hg : o.guard = none) (m x v : Operand) (hop : o.op = Op.mapUpdate t m x v)
  (hm : a.eval m = .map (some b)) (h : MapE P k enc w b f) (hn : f.length < maxLen) {s : ByteArray} {y : α} (hx : a.eval x = .string s) (hs : s.size ≤ maxLen) (hv : a.eval v = enc y)
  (hK : ∀ w', MapE P k enc w' b (mput f (lb s) y) → w.grownBy w' (some b) → wpList P ops Q rest (a.put o.dst undef) w') : wpList P ops Q (o :: rest) a w :=
 wpList_mapUpdate_own w hg m x v t hop k e (string_keyed hk) ht heldR b f.length _ hm h hn _ _ _ hx hv (keyOf_s hk hs) _ [] rfl (fun w' h1 h2 => hK w' (MapE.of (by rw [ent_put] at h1; exact h1)) h2)
theorem run_look_mapE (hk : P.underlying k = some .string) (ht : P.underlying t = some (.map k e)) {z : Value} (hz : (zeroValue e).run P w = .ok z w) (h : MapE P k enc w b f) {s : ByteArray} (hs : s.size ≤ maxLen) :
  (Instr.lookup t (.map (some b)) (.string s) false).run P w = .ok (((mget f (lb s)).map enc).getD z) w := by
 obtain ⟨v,ps,hrun,hv⟩ := World.ownsMap.lookup h (string_keyed hk) ht hz (zd := .held z) (zp := []) rfl (keyOf_s hk hs); rw [ent_at] at hv
 have : v = ((mget f (lb s)).map enc).getD z := by
  cases hf : mget f (lb s) with
  | none => rw [hf] at hv; simp [heldR] at hv; simpa using hv.1
  | some y => rw [hf] at hv; simp [heldR] at hv; simpa using hv.1
 rw [← this]; exact hrun
theorem run_look_ok_mapE (hk : P.underlying k = some .string) (ht : P.underlying t = some (.map k e)) {z : Value} (hz : (zeroValue e).run P w = .ok z w) (h : MapE P k enc w b f) {s : ByteArray} (hs : s.size ≤ maxLen) :
  (Instr.lookup t (.map (some b)) (.string s) true).run P w = .ok (.tuple #[((mget f (lb s)).map enc).getD z, .bool (mget f (lb s)).isSome]) w := by
 obtain ⟨v,ps,hrun,hv⟩ := World.ownsMap.look_ok h (string_keyed hk) ht hz (zd := .held z) (zp := []) rfl (keyOf_s hk hs); rw [ent_at] at hv; rw [ent_has] at hrun
 have : v = ((mget f (lb s)).map enc).getD z := by
  cases hf : mget f (lb s) with
  | none => rw [hf] at hv; simp [heldR] at hv; simpa using hv.1
  | some y => rw [hf] at hv; simp [heldR] at hv; simpa using hv.1
 rw [← this]; exact hrun
def Ranges (P : Program) (k : TypeId) {α : Type} (enc : α → Value) (w : World) (b r : Nat) (f left : List (Bs × α)) : Prop :=
 ∃ lf cnt,w.ranges P k heldR b r f.length (.map (f.map (ent enc))) lf cnt ∧ left = f.filter fun p => lf (.string p.1)
theorem Ranges.lt {r : Nat} {left : List (Bs × α)} (h : Ranges P k enc w b r f left) : r < w.heap.size := by
 obtain ⟨lf,cnt,h, _⟩ := h; exact h.lt
theorem Ranges.kept {w' : World} {r : Nat} {left : List (Bs × α)} (h : Ranges P k enc w b r f left) {row : Option Nat} (hg : w.grownBy w' row) (h1 : some b ≠ row) (h2 : some r ≠ row) : Ranges P k enc w' b r f left := by
 obtain ⟨lf,cnt,h,e⟩ := h; exact ⟨lf,cnt,h.kept hg h1 h2,e⟩
theorem Ranges.below {w' : World} {r : Nat} {left : List (Bs × α)} (h : Ranges P k enc w b r f left) (hb : Below w.heap.size w w') : Ranges P k enc w' b r f left := h.kept (grown_of_below hb none) (by simp) (by simp)
theorem Ranges.sub {r : Nat} {left : List (Bs × α)} (h : Ranges P k enc w b r f left) : left.Sublist f := by
 obtain ⟨lf,cnt,h,e⟩ := h; rw [e]; exact List.filter_sublist
theorem range_mapE (hk : P.underlying k = some .string) (ht : P.underlying t = some (.map k e)) (hg : o.guard = none) (m : Operand) (hop : o.op = Op.range t m) (hm : a.eval m = .map (some b)) (h : MapE P k enc w b f)
  (hK : ∀ w', Ranges P k enc w' b w.heap.size f f → w.grownBy w' none → w'.heap.size = w.heap.size + 1 → wpList P ops Q rest (a.put o.dst (.pointer (some ⟨w.heap.size,0,none⟩))) w') : wpList P ops Q (o :: rest) a w :=
 wpList_range_own w hg m t hop k e (string_keyed hk) ht heldR b f.length _ hm h (fun w' h1 h2 h3 => hK w' ⟨_, _,h1,by
  refine (List.filter_eq_self.2 (fun p hp => ?_)).symm; rw [ent_has]
  cases hf : mget f p.1 with
  | none => exact absurd rfl (mget_none hf p hp)
  | some _ => rfl⟩ h2 h3)
theorem next_mapE (hk : P.underlying k = some .string) (hg : o.guard = none) (it : Operand) (hop : o.op = Op.next it false) {r : Nat} {left : List (Bs × α)} (hit : a.eval it = .pointer (some ⟨r,0,none⟩)) (h : Ranges P k enc w b r f left)
  (hDone : left = [] → wpList P ops Q rest (a.put o.dst (.tuple #[.bool false])) w)
  (hMore : ∀ (x : Bs) (c : α) (w' : World),(x,c) ∈ left → x.length ≤ maxLen → Ranges P k enc w' b r f (mdel left x) → w'.rangeLeft b r < w.rangeLeft b r → w.grownBy w' (some r) → w'.heap.size = w.heap.size →
   (Instr.entry (.pointer (some ⟨r,0,none⟩))).run P w' = .ok (.tuple #[.string ⟨x.toArray⟩,enc c]) w' → wpList P ops Q rest (a.put o.dst (.tuple #[.bool true, .string ⟨x.toArray⟩,enc c])) w') : wpList P ops Q (o :: rest) a w := by
 obtain ⟨lf,cnt,h,hl⟩ := h; refine wpList_next_ranges w hg it hop k (string_keyed hk) heldR (encStr : List UInt8 → Value) (id : Value → Value) (fun key kl hkk => by obtain ⟨x,hx, _⟩ := Maps.keyOf_str hk hkk; exact ⟨x,hx⟩) (fun v y _ => ⟨v,rfl⟩) b r f.length _ lf cnt hit h (fun h0 hd => hDone ?_) ?_
 ·rw [hl]; exact List.filter_eq_nil_iff.2 (fun p _ => by rw [hd]; simp)
 ·intro x v kl yv w2 cnt2 hkey hlk hv hat hrg2 hlt hg2 hs2 hen; obtain ⟨x', ex,rfl,hxl⟩ := Maps.keyOf_str hk hkey; obtain rfl : x = x' := encStr_inj ex
  have hy : yv.1 = .held v := by
   have : heldR v = some yv := hv
   unfold heldR at this
   injection this with this
   rw [← this]
  obtain ⟨c,hc⟩ : ∃ c,mget f x = some c := by
   have h1 := hat .nil; rw [ent_at] at h1
   cases hf : mget f x with
   | some c => exact ⟨c,rfl⟩
   | none => rw [hf,hy] at h1; cases h1
  obtain rfl : v = enc c := by
   have h1 := hat .nil; rw [ent_at,hc,hy] at h1
   injection h1 with h1
   exact h1.symm
  have hm1 := h.left_eq; have hm2 := hrg2.left_eq; refine hMore x c w2 ?_ hxl ⟨_, _,hrg2, ?_⟩ (by omega) hg2 hs2 hen
  ·rw [hl]; exact List.mem_filter.2 ⟨mget_some hc,hlk⟩
  ·rw [hl]
   unfold mdel
   rw [List.filter_filter]
   congr 1
   funext p
   rw [Bool.and_comm]; rfl
theorem next_mapA (hk : P.underlying k = some .string) (hg : o.guard = none) (it : Operand) (hop : o.op = Op.next it false) {r : Nat} {left : List (Bs × α)} (hit : a.eval it = .pointer (some ⟨r,0,none⟩)) (h : Ranges P k enc w b r f left)
  (hDone : Aside0 (left = []) → wpList P ops Q rest (a.put o.dst (.tuple #[.bool false])) w)
  (hMore : ∀ (x : ByteArray) (c : α) (w' : World),Aside0 ((lb x,c) ∈ left ∧ x.size ≤ maxLen ∧ Ranges P k enc w' b r f (mdel left (lb x)) ∧ w'.rangeLeft b r < w.rangeLeft b r ∧ w.grownBy w' (some r) ∧ w'.heap.size = w.heap.size) →
   (Instr.entry (.pointer (some ⟨r,0,none⟩))).run P w' = .ok (.tuple #[.string x,enc c]) w' → wpList P ops Q rest (a.put o.dst (.tuple #[.bool true, .string x,enc c])) w') : wpList P ops Q (o :: rest) a w :=
 next_mapE hk hg it hop hit h (fun hd => hDone ⟨hd⟩) (fun x c w' h1 h2 h3 h4 h5 h6 h7 => hMore ⟨x.toArray⟩ c w' ⟨by rw [lb_mk]; exact h1,h2,by rw [lb_mk]; exact h3,h4,h5,h6⟩ h7)
end
end Go.Proofs.YtnmhjndjfblebaaGreatDoor.MapV
namespace Go.Proofs.YtnmhjndjfblebaaGreatDoor.Val
open Go.RowKit Go.Proofs.YtnmhjndjfblebaaGreatDoorW.PrintWords Go.Proofs.YtnmhjndjfblebaaGreatDoorW.PrintLast Go.Proofs.YtnmhjndjfblebaaGreatDoor.Str Go.Proofs.YtnmhjndjfblebaaGreatDoor.Kit Go.Proofs.YtnmhjndjfblebaaGreatDoor.Frame Go.Proofs.YtnmhjndjfblebaaGreatDoor.MapV
def placeI (ks : List ByteArray) (k : ByteArray) : Nat := (ks.takeWhile fun x => decide (lb x < lb k)).length
def placeB (ks : List ByteArray) (k : ByteArray) : Bool := match ks[placeI ks k]? with | some x => x.toList == k.toList | none => false
theorem placeI_hit {k : ByteArray} : ∀ {ks : List ByteArray} {i : Nat}, (∀ (j : Nat) (hj : j < ks.length),j < i → lb ks[j] < lb k) → ∀ hi : i < ks.length, ¬ lb ks[i] < lb k → placeI ks k = i
 | [], _, _,hi, _ => by simp at hi
 | x :: r,0, _, _,hn => by
  have : ¬ lb x < lb k := hn
  unfold placeI
  rw [List.takeWhile_cons_of_neg (by simpa using this)]; rfl
 | x :: r,i + 1,ha,hi,hn => by
  have h0 : lb x < lb k := ha 0 (by simp) (by omega); have ih := placeI_hit (k := k) (ks := r) (i := i) (fun j hj hji => by have := ha (j + 1) (by simpa using hj) (by omega); simpa using this) (by simpa using hi) (by simpa using hn)
  unfold placeI at ih ⊢
  rw [List.takeWhile_cons_of_pos (by simpa using h0),List.length_cons,ih]
theorem placeI_end {k : ByteArray} {ks : List ByteArray} (ha : ∀ (j : Nat) (hj : j < ks.length),lb ks[j] < lb k) : placeI ks k = ks.length := by
 unfold placeI
 induction ks with
 | nil => rfl
 | cons x r ih =>
  have h0 : lb x < lb k := ha 0 (by simp); rw [List.takeWhile_cons_of_pos (by simpa using h0),List.length_cons,ih (fun j hj => by have := ha (j + 1) (by simpa using hj); simpa using this),List.length_cons]
set_option maxHeartbeats 1600000 in
set_option maxRecDepth 100000 in
theorem place (kd nm : Int) (t : ByteArray) {A3 A4 : Option Addr} {c3 n4 c4 : Nat} (ks : List ByteArray) (k : ByteArray) (w : World) (h : Kd.string.C w A3 ks.length ks) (hn : ks.length ≤ 17592186044416) :
  Calls Tryz.prog 22 #[.agg #[.int .i64 kd, .int .i64 nm, .string t, .slice A3 ks.length c3, .slice A4 n4 c4], .string k] w fun e w' => e = .returned (.tuple #[.int .i64 (placeI ks k), .bool (placeB ks k)]) ∧ Below w.heap.size w w' := by
 have H := aM h; have HX := aM (yw w (.cells #[.int .i64 kd, .int .i64 nm, .string t, .slice A3 ks.length c3, .slice A4 n4 c4] 25)); have HB := aM ((Below.refl _ w).alloc (Nat.le_refl _) (.cells #[.int .i64 kd, .int .i64 nm, .string t, .slice A3 ks.length c3, .slice A4 n4 c4] 25)); clear h
 go_enter Tryz.func22,Tryz.ntmps22
 go_wp2
 go_loopw [6] (fun v wr => ∃ i : Nat,v = .int .i64 i ∧ i ≤ ks.length ∧ Aside0 (∀ (j : Nat) (hj : j < ks.length),j < i → lb ks[j] < lb k) ∧ Aside0 (wr.heap[w.heap.size]? = some (.cells #[.int .i64 kd, .int .i64 nm, .string t, .slice A3 ks.length c3, .slice A4 n4 c4] 25 (0,0))) ∧ Aside0 (Below w.heap.size w wr)) (fun v _ => ks.length - (intOf v).toNat)
 case atStart => exact ⟨0,rfl,by omega,⟨fun j _ h => absurd h (Nat.not_lt_zero _)⟩,HX,HB⟩
 case round =>
  clear HX HB; obtain ⟨i,rfl,hi,HN,HX,HB⟩ := hrel; have x3 : wr.cell? ⟨w.heap.size,3,none⟩ = some (.slice A3 ks.length c3) := zu (i := 3) HX.out rfl
  by_cases hlt : i < ks.length
  ·obtain ⟨b0,o0,rfl,hb0,hc0⟩ := strs_open (Kd.C_below H.out HB.out) (by omega); have g0 := hc0 i hlt
   have q0 : (0 : Int) ≤ (i : Int) := by omega
   have q1 : (i : Int) < (ks.length : Int) := by omega
   have HA := aM (show lb ks[i] < lb k → ∀ (j : Nat) (hj : j < ks.length),j < i + 1 → lb ks[j] < lb k from fun h j hj hji => by
    by_cases hj' : j < i
    ·exact HN.out j hj hj'
    ·have : j = i := by omega
     subst this; exact h)
   have HP := aM (show ¬ lb ks[i] < lb k → placeI ks k = i ∧ placeB ks k = (ks[i].toList == k.toList) from fun h => by
    have h1 := placeI_hit HN.out hlt h; refine ⟨h1, ?_⟩
    unfold placeB
    rw [h1,List.getElem?_eq_getElem hlt])
   have hless : Op.bytesLess ks[i].toList k.toList = decide (lb ks[i] < lb k) := by rw [bytesLess_eq,xt,xt]
   clear hc0
   by_cases hl : lb ks[i] < lb k
   ·rw [decide_eq_true hl] at hless; have Y := aM (HA.out hl); clear HA HP hl; generalize ks[i] = x at g0 hless
    go_wp2
    go_roundw
    case rel => exact ⟨i + 1,by go_num,by omega,Y,HX,HB⟩
    case measure => simp [intOf]; omega
   ·rw [decide_eq_false hl] at hless; have Y := aM (HP.out hl); clear HA HP hl; generalize ks[i] = x at g0 hless Y
    go_wp2_with fail
    go_quiet (fail)
    go_wp2
    go_ret2
    exact ⟨by rw [Y.out.1,Y.out.2]; rfl,zc HB.out nq⟩
  ·have Y := aM (placeI_end (k := k) (ks := ks) (fun j hj => HN.out j hj (by omega)))
   have Z := aM (show placeB ks k = false by
    unfold placeB
    rw [Y.out,List.getElem?_eq_none (Nat.le_refl _)])
   go_wp2
   go_ret2
   exact ⟨by rw [Y.out,Z.out]; rfl,HB.out⟩
end Go.Proofs.YtnmhjndjfblebaaGreatDoor.Val
namespace Go.Proofs.YtnmhjndjfblebaaGreatDoor.PS
open Go.RowKit Go.Proofs.YtnmhjndjfblebaaGreatDoorW.PrintWords Go.Proofs.YtnmhjndjfblebaaGreatDoorW.PrintLast Go.Proofs.YtnmhjndjfblebaaGreatDoorW.PrintMore
attribute [local go_sem] xl xj xv xu xe xd xk xi 
def errW : Option Int → Value
 | none => .nilIface
 | some c => .iface 0 (.int .i64 c)
theorem zz : errW none = .nilIface := rfl
theorem zw (c : Int) : errW (some c) = .iface 0 (.int .i64 c) := rfl
theorem info9 : (Tryz.prog.info? 9).map (fun i => (i.zero,i.size,i.bytes)) = some (some (.string ⟨#[]⟩),1,16) := by kernel_rfl
theorem xq : (Tryz.prog.info? 25).map (fun i => (i.zero,i.size,i.bytes)) = some (some (.agg #[(.int .i64 0),(.int .i64 0),(.string ⟨#[]⟩),(.slice none 0 0),(.slice none 0 0)]),5,80) := by kernel_rfl
theorem info31 : (Tryz.prog.info? 31).map (fun i => (i.zero,i.size,i.bytes)) = some (some (.agg #[(.int .i64 0),(.int .i64 0),(.string ⟨#[]⟩),(.slice none 0 0),(.slice none 0 0)]),5,80) := by kernel_rfl
structure S25 where
 f0 : Int
 f1 : Int
 f2 : ByteArray
 f3 : (List ByteArray)
 f4 : (List S25)
def z25 : S25 := ⟨(0 : Int),(0 : Int),(⟨#[]⟩ : ByteArray),([] : List ByteArray),([] : List S25)⟩
def F25 (d : Kd S25) : Kd S25 := Kd.iso (Kd.pair (Kd.int .i64) (Kd.pair (Kd.int .i64) (Kd.pair Kd.string (Kd.pair (Kd.slice 9 Kd.string) (Kd.slice 25 d))))) (fun x : S25 => (x.f0,x.f1,x.f2,x.f3,x.f4))
theorem mono25 : Kd.Mono F25 := Kd.mono_iso _ (Kd.mono_pair (Kd.mono_const _) (Kd.mono_pair (Kd.mono_const _) (Kd.mono_pair (Kd.mono_const _) (Kd.mono_pair (Kd.mono_const _) (Kd.mono_slice 25 Kd.mono_id)))))
theorem sub25 : Kd.Sub F25 [9,25] := Kd.sub_iso _ (Kd.sub_pair (Kd.sub_const _ (by decide)) (Kd.sub_pair (Kd.sub_const _ (by decide)) (Kd.sub_pair (Kd.sub_const _ (by decide)) (Kd.sub_pair (Kd.sub_const _ (by decide)) (Kd.sub_slice 25 (by decide) Kd.sub_id)))))
theorem sz25 : ∀ n,(Kd.upto F25 5 [9,25] n).sz = 5 := Kd.upto_sz (fun _ => rfl)
def k25 : Kd S25 := Kd.fix F25 5 [9,25] sz25 (Kd.upto_E sub25)
theorem k25_open {w : World} {x : S25} {cs : List Value} (h : k25.K w x cs) : ∃ A3 c3 A4 c4,cs = [.int .i64 x.f0, .int .i64 x.f1, .string x.f2, .slice A3 x.f3.length c3, .slice A4 x.f4.length c4] ∧ x.f3.length ≤ c3 ∧ Kd.string.C w A3 x.f3.length x.f3 ∧ x.f4.length ≤ c4 ∧ k25.C w A4 x.f4.length x.f4 := by
 obtain ⟨n,h⟩ := h
 cases n with
 | zero => exact h.elim
 | succ n =>
  obtain ⟨_, _,rfl,rfl,⟨_, _,rfl,rfl,⟨_, _,rfl,rfl,⟨_, _,rfl,⟨A3,c3,rfl,l3,g3⟩,⟨A4,c4,rfl,l4,g4⟩⟩⟩⟩⟩ := h; exact ⟨A3,c3,A4,c4,rfl,l3,g3,l4,Kd.fix_C g4⟩
theorem k25_mk (w : World) (x : S25) {A3 : Option Addr} {c3 : Nat} (l3 : x.f3.length ≤ c3) (g3 : Kd.string.C w A3 x.f3.length x.f3) {A4 : Option Addr} {c4 : Nat} (l4 : x.f4.length ≤ c4) (g4 : k25.C w A4 x.f4.length x.f4) : k25.K w x [.int .i64 x.f0, .int .i64 x.f1, .string x.f2, .slice A3 x.f3.length c3, .slice A4 x.f4.length c4] := by
 obtain ⟨n4,q4⟩ := Kd.fix_C_back mono25 g4; have r4 := Kd.upto_C_le mono25 sz25 (show n4 ≤ n4 by omega) q4; exact ⟨n4 + 1,⟨[.int .i64 x.f0], [.int .i64 x.f1, .string x.f2, .slice A3 x.f3.length c3, .slice A4 x.f4.length c4],rfl,rfl,⟨[.int .i64 x.f1], [.string x.f2, .slice A3 x.f3.length c3, .slice A4 x.f4.length c4],rfl,rfl,⟨[.string x.f2], [.slice A3 x.f3.length c3, .slice A4 x.f4.length c4],rfl,rfl,⟨[.slice A3 x.f3.length c3], [.slice A4 x.f4.length c4],rfl,⟨A3,c3,rfl,l3,g3⟩,⟨A4,c4,rfl,l4,r4⟩⟩⟩⟩⟩⟩
theorem k25_mkM (w : World) (base : Nat) (ok : Nat → Prop) (x : S25) {v3 : Value} (g3 : Kd.string.R 9 w base ok v3 x.f3) {v4 : Value} (g4 : k25.R 25 w base ok v4 x.f4) : k25.M w base ok x [.int .i64 x.f0, .int .i64 x.f1, .string x.f2,v3,v4] := by
 obtain ⟨n4,q4⟩ := Kd.fix_R_back mono25 g4; have r4 := Kd.upto_R_le mono25 sz25 (show n4 ≤ n4 by omega) q4; exact ⟨n4 + 1,⟨[.int .i64 x.f0], [.int .i64 x.f1, .string x.f2,v3,v4],rfl,rfl,⟨[.int .i64 x.f1], [.string x.f2,v3,v4],rfl,rfl,⟨[.string x.f2], [v3,v4],rfl,rfl,⟨[v3], [v4],rfl,⟨v3,rfl,g3⟩,⟨v4,rfl,r4⟩⟩⟩⟩⟩⟩
theorem k25_mkF (W : World) (ok : Nat → Prop) (x : S25) {A3 : Option Addr} {c3 : Nat} (l3 : x.f3.length ≤ c3) (g3 : Kd.F Kd.string W ok A3 x.f3.length x.f3) {A4 : Option Addr} {c4 : Nat} (l4 : x.f4.length ≤ c4) (g4 : Kd.F k25 W ok A4 x.f4.length x.f4) : Kd.FK k25 W ok x [.int .i64 x.f0, .int .i64 x.f1, .string x.f2, .slice A3 x.f3.length c3, .slice A4 x.f4.length c4] := fun W2 hW => k25_mk W2 x l3 (g3 W2 hW) l4 (g4 W2 hW)
def rd_T25 (xs : List S25) (i : Int) : S25 := xs.getD i.toNat z25
theorem at_T25 {w : World} {A : Option Addr} {n : Nat} {xs : List S25} (h : Kd.C k25 w A n xs) (i : Int) (h0 : 0 ≤ i) (h1 : i < n) : ∃ ad A3 c3 A4 c4,A = some ad ∧ w.cell? (ad.add (i.toNat * 5)) = some (.int .i64 (rd_T25 xs i).f0) ∧ w.cell? ⟨(ad.add (i.toNat * 5)).block,(ad.add (i.toNat * 5)).off + 1,none⟩ = some (.int .i64 (rd_T25 xs i).f1) ∧ w.cell? ⟨(ad.add (i.toNat * 5)).block,(ad.add (i.toNat * 5)).off + 2,none⟩ = some (.string (rd_T25 xs i).f2) ∧ w.cell? ⟨(ad.add (i.toNat * 5)).block,(ad.add (i.toNat * 5)).off + 3,none⟩ = some (.slice A3 (rd_T25 xs i).f3.length c3) ∧ w.cell? ⟨(ad.add (i.toNat * 5)).block,(ad.add (i.toNat * 5)).off + 4,none⟩ = some (.slice A4 (rd_T25 xs i).f4.length c4) ∧ (rd_T25 xs i).f3.length ≤ c3 ∧ Kd.string.C w A3 (rd_T25 xs i).f3.length (rd_T25 xs i).f3 ∧ (rd_T25 xs i).f4.length ≤ c4 ∧ k25.C w A4 (rd_T25 xs i).f4.length (rd_T25 xs i).f4 := by
 obtain ⟨ad,c,e, _,hK,hc0⟩ := Kd.C_get h z25 i h0 h1; have hc : ∀ j u,c[j]? = some u → w.cell? (ad.add (i.toNat * 5 + j)) = some u := hc0; obtain ⟨A3,c3,A4,c4,rfl,l3,g3,l4,g4⟩ := k25_open hK; exact ⟨ad,A3,c3,A4,c4,e,hc 0 _ rfl,by rw [← vz _ _ 1 (by omega)]; exact hc 1 _ rfl,by rw [← vz _ _ 2 (by omega)]; exact hc 2 _ rfl,by rw [← vz _ _ 3 (by omega)]; exact hc 3 _ rfl,by rw [← vz _ _ 4 (by omega)]; exact hc 4 _ rfl,l3,g3,l4,g4⟩
structure S31 where
 f0 : Int
 f1 : Int
 f2 : ByteArray
 f3 : (List ByteArray)
 f4 : (List S31)
def z31 : S31 := ⟨(0 : Int),(0 : Int),(⟨#[]⟩ : ByteArray),([] : List ByteArray),([] : List S31)⟩
def F31 (d : Kd S31) : Kd S31 := Kd.iso (Kd.pair (Kd.int .i64) (Kd.pair (Kd.int .i64) (Kd.pair Kd.string (Kd.pair (Kd.slice 9 Kd.string) (Kd.slice 31 d))))) (fun x : S31 => (x.f0,x.f1,x.f2,x.f3,x.f4))
theorem mono31 : Kd.Mono F31 := Kd.mono_iso _ (Kd.mono_pair (Kd.mono_const _) (Kd.mono_pair (Kd.mono_const _) (Kd.mono_pair (Kd.mono_const _) (Kd.mono_pair (Kd.mono_const _) (Kd.mono_slice 31 Kd.mono_id)))))
theorem sub31 : Kd.Sub F31 [9,31] := Kd.sub_iso _ (Kd.sub_pair (Kd.sub_const _ (by decide)) (Kd.sub_pair (Kd.sub_const _ (by decide)) (Kd.sub_pair (Kd.sub_const _ (by decide)) (Kd.sub_pair (Kd.sub_const _ (by decide)) (Kd.sub_slice 31 (by decide) Kd.sub_id)))))
theorem sz31 : ∀ n,(Kd.upto F31 5 [9,31] n).sz = 5 := Kd.upto_sz (fun _ => rfl)
def k31 : Kd S31 := Kd.fix F31 5 [9,31] sz31 (Kd.upto_E sub31)
theorem k31_open {w : World} {x : S31} {cs : List Value} (h : k31.K w x cs) : ∃ A3 c3 A4 c4,cs = [.int .i64 x.f0, .int .i64 x.f1, .string x.f2, .slice A3 x.f3.length c3, .slice A4 x.f4.length c4] ∧ x.f3.length ≤ c3 ∧ Kd.string.C w A3 x.f3.length x.f3 ∧ x.f4.length ≤ c4 ∧ k31.C w A4 x.f4.length x.f4 := by
 obtain ⟨n,h⟩ := h
 cases n with
 | zero => exact h.elim
 | succ n =>
  obtain ⟨_, _,rfl,rfl,⟨_, _,rfl,rfl,⟨_, _,rfl,rfl,⟨_, _,rfl,⟨A3,c3,rfl,l3,g3⟩,⟨A4,c4,rfl,l4,g4⟩⟩⟩⟩⟩ := h; exact ⟨A3,c3,A4,c4,rfl,l3,g3,l4,Kd.fix_C g4⟩
theorem k31_mkM (w : World) (base : Nat) (ok : Nat → Prop) (x : S31) {v3 : Value} (g3 : Kd.string.R 9 w base ok v3 x.f3) {v4 : Value} (g4 : k31.R 31 w base ok v4 x.f4) : k31.M w base ok x [.int .i64 x.f0, .int .i64 x.f1, .string x.f2,v3,v4] := by
 obtain ⟨n4,q4⟩ := Kd.fix_R_back mono31 g4; have r4 := Kd.upto_R_le mono31 sz31 (show n4 ≤ n4 by omega) q4; exact ⟨n4 + 1,⟨[.int .i64 x.f0], [.int .i64 x.f1, .string x.f2,v3,v4],rfl,rfl,⟨[.int .i64 x.f1], [.string x.f2,v3,v4],rfl,rfl,⟨[.string x.f2], [v3,v4],rfl,rfl,⟨[v3], [v4],rfl,⟨v3,rfl,g3⟩,⟨v4,rfl,r4⟩⟩⟩⟩⟩⟩
def rd_T31 (xs : List S31) (i : Int) : S31 := xs.getD i.toNat z31
theorem at_T31 {w : World} {A : Option Addr} {n : Nat} {xs : List S31} (h : Kd.C k31 w A n xs) (i : Int) (h0 : 0 ≤ i) (h1 : i < n) : ∃ ad A3 c3 A4 c4,A = some ad ∧ w.cell? (ad.add (i.toNat * 5)) = some (.int .i64 (rd_T31 xs i).f0) ∧ w.cell? ⟨(ad.add (i.toNat * 5)).block,(ad.add (i.toNat * 5)).off + 1,none⟩ = some (.int .i64 (rd_T31 xs i).f1) ∧ w.cell? ⟨(ad.add (i.toNat * 5)).block,(ad.add (i.toNat * 5)).off + 2,none⟩ = some (.string (rd_T31 xs i).f2) ∧ w.cell? ⟨(ad.add (i.toNat * 5)).block,(ad.add (i.toNat * 5)).off + 3,none⟩ = some (.slice A3 (rd_T31 xs i).f3.length c3) ∧ w.cell? ⟨(ad.add (i.toNat * 5)).block,(ad.add (i.toNat * 5)).off + 4,none⟩ = some (.slice A4 (rd_T31 xs i).f4.length c4) ∧ (rd_T31 xs i).f3.length ≤ c3 ∧ Kd.string.C w A3 (rd_T31 xs i).f3.length (rd_T31 xs i).f3 ∧ (rd_T31 xs i).f4.length ≤ c4 ∧ k31.C w A4 (rd_T31 xs i).f4.length (rd_T31 xs i).f4 := by
 obtain ⟨ad,c,e, _,hK,hc0⟩ := Kd.C_get h z31 i h0 h1; have hc : ∀ j u,c[j]? = some u → w.cell? (ad.add (i.toNat * 5 + j)) = some u := hc0; obtain ⟨A3,c3,A4,c4,rfl,l3,g3,l4,g4⟩ := k31_open hK; exact ⟨ad,A3,c3,A4,c4,e,hc 0 _ rfl,by rw [← vz _ _ 1 (by omega)]; exact hc 1 _ rfl,by rw [← vz _ _ 2 (by omega)]; exact hc 2 _ rfl,by rw [← vz _ _ 3 (by omega)]; exact hc 3 _ rfl,by rw [← vz _ _ 4 (by omega)]; exact hc 4 _ rfl,l3,g3,l4,g4⟩
end Go.Proofs.YtnmhjndjfblebaaGreatDoor.PS
namespace Go.Proofs.YtnmhjndjfblebaaGreatDoor.Tr
open Go.RowKit Go.Proofs.YtnmhjndjfblebaaGreatDoorW.PrintWords Go.Proofs.YtnmhjndjfblebaaGreatDoorW.PrintLast Go.Proofs.YtnmhjndjfblebaaGreatDoor.Str Go.Proofs.YtnmhjndjfblebaaGreatDoor.Kit Go.Proofs.YtnmhjndjfblebaaGreatDoor.MapV Go.Proofs.YtnmhjndjfblebaaGreatDoor.Frame Go.Proofs.YtnmhjndjfblebaaGreatDoor.PS
abbrev BA := ByteArray
abbrev VI := S31
abbrev VS := S25
abbrev kI : Kd VI := k31
abbrev kS : Kd VS := k25
def held {α : Type} (sz : Nat) (Pf : α → List Value → Prop) (h5 : ∀ {x cs}, Pf x cs → cs.length = sz) (h1 : ∀ {x cs}, Pf x cs → ∀ u ∈ cs,u.oneCell' = true) : Kd α where
 sz := sz
 E := []
 K := fun _ x cs => Pf x cs
 M := fun _ _ _ x cs => Pf x cs
 K_len := h5
 K_one := h1
 K_below := fun _ h => h
 K_of_M := fun h => h
 M_mono := fun _ h => h
 M_bound := fun h => h
 M_move := fun _ h => h
 M_lower := fun _ h => h
def zerosV : Array Value := #[.int .i64 0, .int .i64 0, .string ⟨#[]⟩, .slice none 0 0, .slice none 0 0]
def Has {α : Type} (d : Kd α) (e : Nat) (W0 w : World) (v : Value) (xs : List α) (b : Nat) : Prop := d.R e w W0.heap.size (fun _ => True) v xs ∧ v.ownBlock = some b ∧ b < w.heap.size ∧ W0.heap.size ≤ b
def HasZ (W0 w : World) (g : Nat) : Prop := w.heap[g]? = some (.cells zerosV 25 (0,0)) ∧ W0.heap.size ≤ g
section
variable {α : Type} {d : Kd α} {e : Nat} {W0 w w1 : World} {v : Value} {xs ys : List α} {b b' g : Nat}
theorem Has.new (hB : Below W0.heap.size W0 w) : Has d e W0 (w.alloc (.cells #[] e)) (.slice (some ⟨w.heap.size,0,none⟩) 0 0) [] w.heap.size :=
 ⟨own_empty d hB.size trivial,rfl,by rw [World.size_alloc]; omega,hB.size⟩
theorem HasZ.new (hB : Below W0.heap.size W0 w) : HasZ W0 (w.alloc (.cells zerosV 25)) w.heap.size := ⟨yw _ _,hB.size⟩
theorem Has.alloc (h : Has d e W0 w v xs b) (o : Obj) : Has d e W0 (w.alloc o) v xs b := ⟨Kd.R_alloc h.1 o,h.2.1,by rw [World.size_alloc]; have := h.2.2.1; omega,h.2.2.2⟩
theorem HasZ.alloc (h : HasZ W0 w g) (o : Obj) : HasZ W0 (w.alloc o) g := ⟨((zb (Below.refl _ w) o).block _ (zn h.1)).trans h.1,h.2⟩
theorem Has.ne_new (h : Has d e W0 w v xs b) : b ≠ w.heap.size := by have := h.2.2.1; omega
theorem HasZ.ne_new (h : HasZ W0 w g) : g ≠ w.heap.size := by have := zn h.1; omega
theorem Has.grown (hk : ∀ (w : World) (base : Nat) (ok ok' : Nat → Prop) x cs,d.M w base ok x cs → d.M w base ok' x cs) (h : Has d e W0 w v xs b) (hg : w.grownBy w1 (some b')) (hn : b ≠ b') : Has d e W0 w1 v xs b := by
 obtain ⟨⟨h0,inner,ho,hr⟩,hb,hlt,hle⟩ := h
 have h2 : d.R e w W0.heap.size (fun k => k = b) v xs := ⟨fun k hk => by rw [hb] at hk; injection hk with hk; exact hk.symm,inner,ho,hr.imp_ (fun x cs hx => hk _ _ _ _ x cs hx)⟩
 have h3 := Kd.R_grown h2 hg (fun k hk => by rw [hk]; exact fun e => hn (Option.some.inj e)); exact ⟨Kd.R_mono h3 (fun _ _ => trivial),hb,by have := hg.size; omega,hle⟩
theorem HasZ.grown (h : HasZ W0 w g) (hg : w.grownBy w1 (some b')) (hn : g ≠ b') : HasZ W0 w1 g := ⟨(hg.block _ (zn h.1) (fun e => hn (Option.some.inj e))).trans h.1,h.2⟩
theorem Has.grew (h : Has d e W0 w v xs b) {v1 : Value} (h1 : d.R e w1 W0.heap.size (fun _ => True) v1 ys) (hg : w.grownBy w1 v.ownBlock) (hat : v1.ownBlock = v.ownBlock ∨ ∃ b,v1.ownBlock = some b ∧ w.heap.size ≤ b) :
  ∃ b1,Has d e W0 w1 v1 ys b1 ∧ (b1 = b ∨ w.heap.size ≤ b1) := by
 rcases hat with hat | ⟨b1,hat,hle⟩
 ·exact ⟨b,⟨h1,hat.trans h.2.1,by have := hg.size; have := h.2.2.1; omega,h.2.2.2⟩, .inl rfl⟩
 ·have hlt := (Kd.R_bound h1).1 b1 hat; exact ⟨b1,⟨h1,hat,hlt.2.2.1,hlt.2.1⟩, .inr hle⟩
end
section
variable {P : Program} {ops : Array Oper} {o : Oper} {a : Act} {Q : Exit → Act → World → Prop} {Kc : Act → World → Prop} {w : World}
theorem xg (hw : Region.wanted o (yielded ops a.tmps) = true) (hN : o.dst = none) (ty : TypeId) (x y : Operand) (ho : o.op = .store ty x y) (g : Nat) (cells : Array Value) (hx : a.eval x = .pointer (some ⟨g,0,none⟩)) (hy : a.eval y = .agg cells)
  (t : TypeId) (old : Array Value) (hg : w.heap[g]? = some (.cells old t (0,0))) (hi : (P.info? ty).map (·.size) = some cells.size) (hold : old.size = cells.size) (h1 : cells.all (·.oneCell') = true)
  (h : Kc a (w.setRow g cells)) : if Region.wanted o (yielded ops a.tmps) = true then Oper.wp P o a w Kc Q else Kc (a.put none undef) w := by
 rw [if_pos hw]; refine wp_store_row ty x y ho g cells hx hy t old hg hi hold h1 ?_; rw [hN]; exact h
theorem yi (w : World) (g : Nat) (cs : Array Value) : w.grownBy (w.setRow g cs) (some g) := ⟨rfl,rfl,rfl,by simp,fun k _ hn => setRow_other w g k cs (fun e => hn (by rw [e]))⟩
end
theorem xz : (Tryz.prog.info? 25).map (fun i => i.size) = some 5 := by kernel_rfl
theorem vr (k n : Int) (t : ByteArray) (A3 A4 : Option Addr) (n3 c3 n4 c4 : Nat) : (#[Value.int .i64 k,Value.int .i64 n,Value.string t,Value.slice A3 n3 c3,Value.slice A4 n4 c4] : Array Value).all (fun v => v.oneCell') = true :=
 all_oneCell_toArray (cs := [Value.int .i64 k,Value.int .i64 n,Value.string t,Value.slice A3 n3 c3,Value.slice A4 n4 c4]) (fun v hv => by simp at hv; rcases hv with rfl | rfl | rfl | rfl | rfl <;> rfl)
theorem Has.below {α : Type} {d : Kd α} {e : Nat} {W0 w w1 : World} {v : Value} {xs : List α} {b : Nat} (h : Has d e W0 w v xs b) (hb : Below w.heap.size w w1) : Has d e W0 w1 v xs b := ⟨Kd.R_below h.1 hb,h.2.1,Nat.lt_of_lt_of_le h.2.2.1 hb.size,h.2.2.2⟩
theorem Has.slice {α : Type} {d : Kd α} {e : Nat} {W0 w : World} {v : Value} {xs : List α} {b : Nat} (h : Has d e W0 w v xs b) : ∃ c,v = .slice (some ⟨b,0,none⟩) xs.length c := by
 obtain ⟨⟨_,inner,ho, _⟩,hb, _⟩ := h
 rcases ho.2 with ⟨rfl, _⟩ | ⟨g', cap,cur,rfl, _⟩
 ·simp [Value.ownBlock] at hb
 ·have : g' = b := by simpa [Value.ownBlock] using hb
  subst this; exact ⟨cap,rfl⟩
theorem one_str (w : World) (base : Nat) (e : TypeId) (hb : base ≤ w.heap.size) (p : ByteArray) : Kd.string.R e (w.alloc (.cells #[.string p] e)) base (fun _ => True) (.slice (some ⟨w.heap.size,0,none⟩) 1 1) [p] := by
 refine ⟨fun _ _ => trivial, [.string p],⟨rfl, .inr ⟨w.heap.size,1, _,rfl,hb,yw _ _,Nat.le_refl _,by unfold maxLen; omega,rfl,rfl⟩⟩,rfl,fun j q hq => ?_⟩
 have hj : j = 0 := by
  have := (List.getElem?_eq_some_iff.1 hq).1
  simp at this
  exact this
 subst hj
 injection hq with hq
 subst hq; rfl
theorem ym {a b b1 S : Nat} (hn : a ≠ b) (hl : a < S) (h : b1 = b ∨ S ≤ b1) : a ≠ b1 := by
 rcases h with rfl | h
 ·exact hn
 ·omega
theorem yj (w : World) (g j : Nat) (u : Value) : w.grownBy (w.setCell ⟨g,j,none⟩ u) (some g) := ⟨rfl,rfl,rfl,by simp,fun k _ hn => Below.heap_setCell w ⟨g,j,none⟩ u k (fun e => hn (by rw [e]))⟩
section
variable {ops : Array Oper} {rest : List Oper} {o : Oper} {a : Act} {Q : Exit → Act → World → Prop}
theorem xr {w : World} {b : Nat} {k n : Int} {t : ByteArray} {A3 A4 : Option Addr} {n3 c3 n4 c4 : Nat} (x : Operand) (hgd : o.guard = none) (ho : o.op = .load 25 x) (hx : a.eval x = .pointer (some ⟨b,0,none⟩)) (hb : w.heap[b]? = some (.cells #[.int .i64 k, .int .i64 n, .string t, .slice A3 n3 c3, .slice A4 n4 c4] 25 (0,0)))
  (h : wpList Tryz.prog ops Q rest (a.put o.dst (.agg #[.int .i64 k, .int .i64 n, .string t, .slice A3 n3 c3, .slice A4 n4 c4])) w) : wpList Tryz.prog ops Q (o :: rest) a w :=
 wpList_load_row hgd _ x ho b hx _ _ _ _ hb Tryz.underlying25 rfl xz h
theorem vt {w : World} {b : Nat} {k n : Int} {t : ByteArray} {A3 A4 : Option Addr} {n3 c3 n4 c4 : Nat} {k' n' : Int} {t' : ByteArray} {A3' A4' : Option Addr} {n3' c3' n4' c4' : Nat} (x y : Operand) (hgd : o.guard = none) (ho : o.op = .store 25 x y) (hx : a.eval x = .pointer (some ⟨b,0,none⟩)) (hy : a.eval y = .agg #[.int .i64 k, .int .i64 n, .string t, .slice A3 n3 c3, .slice A4 n4 c4]) (hb : w.heap[b]? = some (.cells #[.int .i64 k', .int .i64 n', .string t', .slice A3' n3' c3', .slice A4' n4' c4'] 25 (0,0)))
  (h : wpList Tryz.prog ops Q rest (a.put o.dst undef) (w.setRow b #[.int .i64 k, .int .i64 n, .string t, .slice A3 n3 c3, .slice A4 n4 c4])) : wpList Tryz.prog ops Q (o :: rest) a w :=
 wpList_store_row hgd _ x y ho b _ hx hy _ _ hb xz rfl (vr _ _ _ _ _ _ _ _ _) h
end
theorem vp {fn : Func} {p : Tmp} (hr : fn.results = #[.cell p 25]) {tmps : Array Value} {w : World} {b : Nat} {k n : Int} {t : ByteArray} {A3 A4 : Option Addr} {n3 c3 n4 c4 : Nat} (hp : tmps.getD p undef = .pointer (some ⟨b,0,none⟩)) (hb : w.heap[b]? = some (.cells #[.int .i64 k, .int .i64 n, .string t, .slice A3 n3 c3, .slice A4 n4 c4] 25 (0,0))) :
  (results fn tmps).run Tryz.prog w = .ok (.agg #[.int .i64 k, .int .i64 n, .string t, .slice A3 n3 c3, .slice A4 n4 c4]) w :=
 results_cell_row hr tmps w b _ _ _ _ hp hb Tryz.underlying25 rfl xz
theorem vx : (Tryz.prog.info? 31).map (fun i => i.size) = some 5 := by kernel_rfl
section
variable {ops : Array Oper} {rest : List Oper} {o : Oper} {a : Act} {Q : Exit → Act → World → Prop}
theorem load_ival {w : World} {b : Nat} {k n : Int} {t : ByteArray} {A3 A4 : Option Addr} {n3 c3 n4 c4 : Nat} (x : Operand) (hgd : o.guard = none) (ho : o.op = .load 31 x) (hx : a.eval x = .pointer (some ⟨b,0,none⟩)) (hb : w.heap[b]? = some (.cells #[.int .i64 k, .int .i64 n, .string t, .slice A3 n3 c3, .slice A4 n4 c4] 31 (0,0)))
  (h : wpList Tryz.prog ops Q rest (a.put o.dst (.agg #[.int .i64 k, .int .i64 n, .string t, .slice A3 n3 c3, .slice A4 n4 c4])) w) : wpList Tryz.prog ops Q (o :: rest) a w :=
 wpList_load_row hgd _ x ho b hx _ _ _ _ hb Tryz.underlying31 rfl vx h
theorem xo {w : World} {b : Nat} {k n : Int} {t : ByteArray} {A3 A4 : Option Addr} {n3 c3 n4 c4 : Nat} {k' n' : Int} {t' : ByteArray} {A3' A4' : Option Addr} {n3' c3' n4' c4' : Nat} (x y : Operand) (hgd : o.guard = none) (ho : o.op = .store 31 x y) (hx : a.eval x = .pointer (some ⟨b,0,none⟩)) (hy : a.eval y = .agg #[.int .i64 k, .int .i64 n, .string t, .slice A3 n3 c3, .slice A4 n4 c4]) (hb : w.heap[b]? = some (.cells #[.int .i64 k', .int .i64 n', .string t', .slice A3' n3' c3', .slice A4' n4' c4'] 31 (0,0)))
  (h : wpList Tryz.prog ops Q rest (a.put o.dst undef) (w.setRow b #[.int .i64 k, .int .i64 n, .string t, .slice A3 n3 c3, .slice A4 n4 c4])) : wpList Tryz.prog ops Q (o :: rest) a w :=
 wpList_store_row hgd _ x y ho b _ hx hy _ _ hb vx rfl (vr _ _ _ _ _ _ _ _ _) h
end
section
variable {α : Type} {sz : Nat} {Pf : α → List Value → Prop} {h5 : ∀ {x cs}, Pf x cs → cs.length = sz} {h1 : ∀ {x cs}, Pf x cs → ∀ u ∈ cs,u.oneCell' = true}
theorem one_held (w : World) (base : Nat) (e : TypeId) (hb : base ≤ w.heap.size) (x : α) {cs : List Value} (hx : Pf x cs) : (held sz Pf h5 h1).R e (w.alloc (.cells cs.toArray e)) base (fun _ => True) (.slice (some ⟨w.heap.size,0,none⟩) 1 1) [x] := by
 have hl : cs.length = sz := h5 hx; refine ⟨fun _ _ => trivial,cs,⟨by rw [hl]; simp [held], .inr ⟨w.heap.size,1, _,rfl,hb,yw _ _,Nat.le_refl _,by unfold maxLen; omega,by simp [hl,held],by simp [held]; exact List.take_of_length_le (show cs.length ≤ sz by omega)⟩⟩,by rw [hl]; simp [held],fun j q hq => ?_⟩
 have hj : j = 0 := by
  have := (List.getElem?_eq_some_iff.1 hq).1
  simp at this
  exact this
 subst hj
 injection hq with hq
 subst hq
 show Pf x ((cs.drop (0 * sz)).take sz)
 rw [Nat.zero_mul,List.drop_zero,List.take_of_length_le (by rw [hl]; exact Nat.le_refl _)]; exact hx
theorem held_put {e : Nat} {W : World} {base : Nat} {ok : Nat → Prop} {g n cap : Nat} {xs : List α} (h : (held sz Pf h5 h1).R e W base ok (.slice (some ⟨g,0,none⟩) n cap) xs) (i : Nat) (hi : i < n) (x : α) {cs : List Value} (hx : Pf x cs) :
  W.there g (i * sz) cs.length ∧ (held sz Pf h5 h1).R e (W.setCells g (i * sz) cs) base ok (.slice (some ⟨g,0,none⟩) n cap) (xs.set i x) ∧ W.grownBy (W.setCells g (i * sz) cs) (some g) := by
 obtain ⟨c,hcl,hcM,hcc,hcf⟩ := Kd.R_elem h x (i : Int) (by omega) (by omega); have hl : cs.length = sz := h5 hx
 have ht : (i : Int).toNat = i := by simp
 refine ⟨fun j hj => ?_, ?_⟩
 ·have hjc : j < c.length := by rw [hcl]; show j < sz; omega
  have h2 := hcc j _ (List.getElem?_eq_getElem hjc); have h3 := hcf j; rw [ht] at h2 h3; exact ⟨by rw [show W.cell? ⟨g,i * sz + j,none⟩ = _ from h2]; rfl,h3⟩
 ·have h4 := Kd.R_seg (okp := fun _ => False) h (i : Int) (by omega) (by omega) (seg := cs) (j := 0) (x' := x) hcl hcc (by show 0 + cs.length ≤ sz; omega) (show Pf x (c.take 0 ++ cs ++ c.drop (0 + cs.length)) by
   rw [List.drop_eq_nil_of_le (by rw [hcl,hl]; show sz ≤ 0 + sz; omega),List.append_nil,List.take_zero,List.nil_append]
   exact hx) (fun _ hf => hf.elim)
  rw [ht] at h4; exact h4
theorem R_held {d : Kd α} {e : Nat} {w : World} {base : Nat} {ok ok' : Nat → Prop} {v : Value} {xs : List α} (hsz : d.sz = sz) (hPf : ∀ x cs,Pf x cs → d.M w base (fun k => ok' k ∧ some k ≠ v.ownBlock) x cs) (hok : ∀ k,v.ownBlock = some k → ok' k) (h : (held sz Pf h5 h1).R e w base ok v xs) : d.R e w base ok' v xs := by
 obtain ⟨h0,inner,ho,hr⟩ := h; refine ⟨hok,inner, ?_, ?_⟩
 ·rw [hsz]; exact ho
 ·rw [hsz]; exact hr.imp_ (fun x cs hp => hPf x cs hp)
end
theorem kS_at {w : World} {A : Option Addr} {xs : List S25} (h : kS.C w A xs.length xs) (h0 : 0 < xs.length) :
  ∃ bk off,A = some ⟨bk,off,none⟩ ∧ bk < w.heap.size ∧ ∀ (j : Nat) (hj : j < xs.length), ∃ A3 c3 A4 c4,w.cell? ⟨bk,off + j * 5,none⟩ = some (.int .i64 xs[j].f0) ∧ w.cell? ⟨bk,off + j * 5 + 1,none⟩ = some (.int .i64 xs[j].f1) ∧ w.cell? ⟨bk,off + j * 5 + 2,none⟩ = some (.string xs[j].f2) ∧ w.cell? ⟨bk,off + j * 5 + 3,none⟩ = some (.slice A3 xs[j].f3.length c3) ∧ w.cell? ⟨bk,off + j * 5 + 4,none⟩ = some (.slice A4 xs[j].f4.length c4) ∧ xs[j].f3.length ≤ c3 ∧ Kd.string.C w A3 xs[j].f3.length xs[j].f3 ∧ xs[j].f4.length ≤ c4 ∧ kS.C w A4 xs[j].f4.length xs[j].f4 := by
 obtain ⟨hl,hm,hc⟩ := h; obtain ⟨ad,rfl,hcc⟩ := hc h0
 have cell : ∀ (j : Nat) (hj : j < xs.length), ∃ A3 c3 A4 c4,(∀ i u,([.int .i64 xs[j].f0, .int .i64 xs[j].f1, .string xs[j].f2, .slice A3 xs[j].f3.length c3, .slice A4 xs[j].f4.length c4] : List Value)[i]? = some u → w.cell? (ad.add (j * 5 + i)) = some u) ∧ xs[j].f3.length ≤ c3 ∧ Kd.string.C w A3 xs[j].f3.length xs[j].f3 ∧ xs[j].f4.length ≤ c4 ∧ kS.C w A4 xs[j].f4.length xs[j].f4 := by
  intro j hj; obtain ⟨c,hcl,hr,hcell⟩ := hcc j xs[j] (List.getElem?_eq_getElem hj); obtain ⟨A3,c3,A4,c4,rfl,l3,g3,l4,g4⟩ := k25_open hr; exact ⟨A3,c3,A4,c4,hcell,l3,g3,l4,g4⟩
 obtain ⟨_, _, _, _,hx, _⟩ := cell 0 h0; have c0 := hx 0 _ rfl; rw [Nat.zero_mul,Nat.zero_add] at c0; obtain ⟨bk,off,spot⟩ := ad
 have hspot : spot = none := by
  cases hs : spot with
  | none => rfl
  | some sp =>
   exfalso
   subst hs
   simp [World.cell?, Addr.add] at c0
   split at c0 <;> simp at c0
 subst hspot
 have add : ∀ j : Nat,(⟨bk,off,none⟩ : Addr).add j = ⟨bk,off + j,none⟩ := by intro j; unfold Addr.add; split <;> simp_all
 refine ⟨bk,off,rfl, ?_,fun j hj => ?_⟩
 ·rw [add] at c0; exact World.block_lt_of_cell? w _ c0
 ·obtain ⟨A3,c3,A4,c4,hcell,l3,g3,l4,g4⟩ := cell j hj
  have e : ∀ i u,([.int .i64 xs[j].f0, .int .i64 xs[j].f1, .string xs[j].f2, .slice A3 xs[j].f3.length c3, .slice A4 xs[j].f4.length c4] : List Value)[i]? = some u → w.cell? ⟨bk,off + j * 5 + i,none⟩ = some u := fun i u hu => by
   have := hcell i u hu; rw [add, ← Nat.add_assoc] at this; exact this
  exact ⟨A3,c3,A4,c4,e 0 _ rfl,e 1 _ rfl,e 2 _ rfl,e 3 _ rfl,e 4 _ rfl,l3,g3,l4,g4⟩
theorem kI_at {w : World} {A : Option Addr} {xs : List S31} (h : kI.C w A xs.length xs) (h0 : 0 < xs.length) :
  ∃ bk off,A = some ⟨bk,off,none⟩ ∧ bk < w.heap.size ∧ ∀ (j : Nat) (hj : j < xs.length), ∃ A3 c3 A4 c4,w.cell? ⟨bk,off + j * 5,none⟩ = some (.int .i64 xs[j].f0) ∧ w.cell? ⟨bk,off + j * 5 + 1,none⟩ = some (.int .i64 xs[j].f1) ∧ w.cell? ⟨bk,off + j * 5 + 2,none⟩ = some (.string xs[j].f2) ∧ w.cell? ⟨bk,off + j * 5 + 3,none⟩ = some (.slice A3 xs[j].f3.length c3) ∧ w.cell? ⟨bk,off + j * 5 + 4,none⟩ = some (.slice A4 xs[j].f4.length c4) ∧ xs[j].f3.length ≤ c3 ∧ Kd.string.C w A3 xs[j].f3.length xs[j].f3 ∧ xs[j].f4.length ≤ c4 ∧ kI.C w A4 xs[j].f4.length xs[j].f4 := by
 obtain ⟨hl,hm,hc⟩ := h; obtain ⟨ad,rfl,hcc⟩ := hc h0
 have cell : ∀ (j : Nat) (hj : j < xs.length), ∃ A3 c3 A4 c4,(∀ i u,([.int .i64 xs[j].f0, .int .i64 xs[j].f1, .string xs[j].f2, .slice A3 xs[j].f3.length c3, .slice A4 xs[j].f4.length c4] : List Value)[i]? = some u → w.cell? (ad.add (j * 5 + i)) = some u) ∧ xs[j].f3.length ≤ c3 ∧ Kd.string.C w A3 xs[j].f3.length xs[j].f3 ∧ xs[j].f4.length ≤ c4 ∧ kI.C w A4 xs[j].f4.length xs[j].f4 := by
  intro j hj; obtain ⟨c,hcl,hr,hcell⟩ := hcc j xs[j] (List.getElem?_eq_getElem hj); obtain ⟨A3,c3,A4,c4,rfl,l3,g3,l4,g4⟩ := k31_open hr; exact ⟨A3,c3,A4,c4,hcell,l3,g3,l4,g4⟩
 obtain ⟨_, _, _, _,hx, _⟩ := cell 0 h0; have c0 := hx 0 _ rfl; rw [Nat.zero_mul,Nat.zero_add] at c0; obtain ⟨bk,off,spot⟩ := ad
 have hspot : spot = none := by
  cases hs : spot with
  | none => rfl
  | some sp =>
   exfalso
   subst hs
   simp [World.cell?, Addr.add] at c0
   split at c0 <;> simp at c0
 subst hspot
 have add : ∀ j : Nat,(⟨bk,off,none⟩ : Addr).add j = ⟨bk,off + j,none⟩ := by intro j; unfold Addr.add; split <;> simp_all
 refine ⟨bk,off,rfl, ?_,fun j hj => ?_⟩
 ·rw [add] at c0; exact World.block_lt_of_cell? w _ c0
 ·obtain ⟨A3,c3,A4,c4,hcell,l3,g3,l4,g4⟩ := cell j hj
  have e : ∀ i u,([.int .i64 xs[j].f0, .int .i64 xs[j].f1, .string xs[j].f2, .slice A3 xs[j].f3.length c3, .slice A4 xs[j].f4.length c4] : List Value)[i]? = some u → w.cell? ⟨bk,off + j * 5 + i,none⟩ = some u := fun i u hu => by
   have := hcell i u hu; rw [add, ← Nat.add_assoc] at this; exact this
  exact ⟨A3,c3,A4,c4,e 0 _ rfl,e 1 _ rfl,e 2 _ rfl,e 3 _ rfl,e 4 _ rfl,l3,g3,l4,g4⟩
end Go.Proofs.YtnmhjndjfblebaaGreatDoor.Tr
namespace Go.Proofs.YtnmhjndjfblebaaGreatDoor.MapV
open Go.RowKit Go.Proofs.YtnmhjndjfblebaaGreatDoorW.PrintWords Go.Proofs.YtnmhjndjfblebaaGreatDoorW.PrintLast Go.Proofs.YtnmhjndjfblebaaGreatDoor.Str
section
variable {P : Program} {k e t : TypeId} {α : Type} {enc : α → Value} {w : World} {b : Nat} {f : List (Bs × α)}
variable {ops : Array Oper} {o : Oper} {a : Act} {Q : Exit → Act → World → Prop} {Kc : Act → World → Prop}
theorem store_mapE_step (hk : P.underlying k = some .string) (ht : P.underlying t = some (.map k e)) (hw : Region.wanted o (yielded ops a.tmps) = true) (hN : o.dst = none) (m x v : Operand) (hop : o.op = Op.mapUpdate t m x v)
  (hm : a.eval m = .map (some b)) (h : MapE P k enc w b f) (hn : f.length < maxLen) {s : ByteArray} {y : α} (hx : a.eval x = .string s) (hs : s.size ≤ maxLen) (hv : a.eval v = enc y)
  (hK : ∀ w', MapE P k enc w' b (mput f (lb s) y) → w.grownBy w' (some b) → Kc a w') : if Region.wanted o (yielded ops a.tmps) = true then Oper.wp P o a w Kc Q else Kc (a.put none undef) w := by
 obtain ⟨w', hrun,r1,r2⟩ := World.ownsMap.update h (Go.Maps.string_keyed hk) ht hn (keyOf_s hk hs) (val := enc y) (d := .held (enc y)) (ps := []) rfl; refine skip_ (w1 := w') hw hN ?_ (hK w' (MapE.of (by rw [ent_put] at r1; exact r1)) r2)
 simp [execOp,hop,hm,hx,hv,hrun,Result.andThen]
end
theorem run_makeHint {P : Program} {t k e : TypeId} (hu : P.underlying t = some (.map k e)) (i : IntKind) (n : Int) (w : World) : (Instr.makeMap t (some (.int i n))).run P w = .ok (.map (some w.heap.size)) (w.alloc (.map #[] 0)) := by
 simp [Instr.makeMap,run_underlying hu,asInt,asIntOf,Result.andThen]
end Go.Proofs.YtnmhjndjfblebaaGreatDoor.MapV
namespace Go.Proofs.YtnmhjndjfblebaaGreatDoor.MapV
open Go.RowKit Go.Proofs.YtnmhjndjfblebaaGreatDoorW.PrintWords Go.Proofs.YtnmhjndjfblebaaGreatDoor.Str
section
variable {α : Type} {key : Bs} {v : α}
theorem lt_asymm {a b : Bs} (h : a < b) : ¬ b < a := fun k => lt_irrefl a (lt_trans h k)
theorem mdel_id {f : List (Bs × α)} (h : ∀ p ∈ f,p.1 ≠ key) : mdel f key = f := List.filter_eq_self.2 (fun p hp => by simpa using h p hp)
theorem mput_lt {y : Bs × α} {r : List (Bs × α)} (h : y.1 < key) : mput (y :: r) key v = y :: mput r key v := by
 have hy : (y.1 == key) = false := by simpa using lt_ne h
 unfold mput
 have : mdel (y :: r) key = y :: mdel r key := by
  unfold mdel
  rw [List.filter_cons,hy]; rfl
 rw [this,mins,if_neg (lt_asymm h)]
theorem mput_gt {f : List (Bs × α)} (hr : ∀ p ∈ f,key < p.1) : mput f key v = (key,v) :: f := by
 unfold mput
 rw [mdel_id (fun p hp => (lt_ne (hr p hp)).symm)]
 cases f with
 | nil => rfl
 | cons z t => rw [mins,if_pos (hr z (by simp))]
theorem mput_ins : ∀ (k : Nat) {f : List (Bs × α)}, Rises f → (∀ (j : Nat) (h : j < f.length),j < k → f[j].1 < key) → k ≤ f.length → (∀ (h : k < f.length),key < f[k].1) → mput f key v = f.take k ++ (key,v) :: f.drop k
 | 0,f,hf, _, _,hg => by
  rw [mput_gt]
  ·rfl
  ·cases f with
   | nil => simp
   | cons y r =>
    have hy : key < y.1 := hg (by simp); obtain ⟨h1, _⟩ := List.pairwise_cons.1 hf; intro p hp
    rcases List.mem_cons.1 hp with rfl | hp
    ·exact hy
    ·exact lt_trans hy (h1 p hp)
 | k + 1, [], _, _,h, _ => by simp at h
 | k + 1,y :: r,hf,hl,h,hg => by
  obtain ⟨_,h2⟩ := List.pairwise_cons.1 hf; have hy : y.1 < key := hl 0 (by simp) (by omega); rw [mput_lt hy,mput_ins k h2 (fun j hj hk => by have := hl (j + 1) (by simp; omega) (by omega); simpa using this) (by simpa using h) (fun hk => by have := hg (by simpa using hk); simpa using this)]; rfl
def fitM (l : List (Bs × α)) : List (Bs × α) := l.foldl (fun f p => mput f p.1 p.2) []
theorem fitM_snoc (l : List (Bs × α)) (p : Bs × α) : fitM (l ++ [p]) = mput (fitM l) p.1 p.2 := by simp [fitM]
theorem fold_rises (l : List (Bs × α)) : ∀ {f : List (Bs × α)}, Rises f → Rises (l.foldl (fun f p => mput f p.1 p.2) f) := by
 induction l with
 | nil => intro f h; exact h
 | cons p r ih => intro f h; exact ih (mput_rises h _ _)
theorem fitM_rises (l : List (Bs × α)) : Rises (fitM l) := fold_rises l List.Pairwise.nil
theorem fold_length (l : List (Bs × α)) : ∀ (f : List (Bs × α)),(l.foldl (fun f p => mput f p.1 p.2) f).length ≤ f.length + l.length := by
 induction l with
 | nil => intro f; simp
 | cons p r ih =>
  intro f; have h1 := ih (mput f p.1 p.2); have h2 := mput_length f p.1 p.2; simp only [List.foldl_cons,List.length_cons]
  omega
theorem fitM_length (l : List (Bs × α)) : (fitM l).length ≤ l.length := by
 have := fold_length l []
 simpa [fitM] using this
end
end Go.Proofs.YtnmhjndjfblebaaGreatDoor.MapV
namespace Go.Proofs.YtnmhjndjfblebaaGreatDoor.Tr
open Go.RowKit Go.Proofs.YtnmhjndjfblebaaGreatDoorW.PrintWords Go.Proofs.YtnmhjndjfblebaaGreatDoorW.PrintLast Go.Proofs.YtnmhjndjfblebaaGreatDoor.Str Go.Proofs.YtnmhjndjfblebaaGreatDoor.Kit Go.Proofs.YtnmhjndjfblebaaGreatDoor.MapV Go.Proofs.YtnmhjndjfblebaaGreatDoor.Frame Go.Proofs.YtnmhjndjfblebaaGreatDoor.PS
inductive Y where
 | null : Y
 | bool (b : Bool) : Y
 | int (n : Int) : Y
 | text (s : BA) : Y
 | list (l : List Y) : Y
 | map (m : List (Bs × Y)) : Y
def PA (x : Value) (cs : List Value) : Prop := cs = [x] ∧ x.oneCell' = true
theorem PA5 {x : Value} {cs : List Value} (h : PA x cs) : cs.length = 1 := by rw [h.1]; rfl
theorem PA1 {x : Value} {cs : List Value} (h : PA x cs) : ∀ u ∈ cs,u.oneCell' = true := by
 intro u hu; rw [h.1] at hu
 simp at hu
 rw [hu]; exact h.2
abbrev kAny : Kd Value := held 1 PA PA5 PA1
theorem kAny_put {e : Nat} {W : World} {base : Nat} {ok : Nat → Prop} {g n cap : Nat} {xs : List Value} (h : kAny.R e W base ok (.slice (some ⟨g,0,none⟩) n cap) xs) (i : Nat) (hi : i < n) (x : Value) (hx : x.oneCell' = true) :
  (W.cell? ⟨g,i,none⟩).isSome = true ∧ W.frozen? ⟨g,i,none⟩ = false ∧ kAny.R e (W.setCell ⟨g,i,none⟩ x) base ok (.slice (some ⟨g,0,none⟩) n cap) (xs.set i x) := by
 have h1 := held_put (h5 := PA5) (h1 := PA1) h i hi x (cs := [x]) ⟨rfl,hx⟩
 have e : W.setCells g (i * 1) [x] = W.setCell ⟨g,i,none⟩ x := by simp [World.setCells]
 rw [e] at h1; have h2 := h1.1 0 (by simp); rw [Nat.mul_one,Nat.add_zero] at h2; exact ⟨h2.1,h2.2,h1.2.1⟩
theorem akey_u : Tryz.prog.underlying 9 = some .string := Tryz.underlying9
theorem amap_u : Tryz.prog.underlying 62 = some (.map 9 20) := Tryz.underlying62
abbrev MapA (w : World) (b : Nat) (f : List (Bs × Value)) : Prop := MapE Tryz.prog 9 id w b f
abbrev En := Value × Y × (Nat → Prop)
def En.far (a b : En) : Prop := ∀ k,a.2.2 k → ¬ b.2.2 k
inductive AR (w : World) : Value → Y → (Nat → Prop) → Prop
 | null (F) : AR w .nilIface .null F
 | bool (b F) : AR w (.iface 4 (.bool b)) (.bool b) F
 | int (n F) : AR w (.iface 3 (.int .i64 n)) (.int n) F
 | text (s F) : AR w (.iface 9 (.string s)) (.text s) F
 | list (v : Value) (zs : List En) (ys : List Y) (F : Nat → Prop) (hy : ys = zs.map (fun z => z.2.1)) (hr : kAny.R 20 w 0 (fun _ => True) v (zs.map (fun z => z.1))) (hz : ∀ z,z ∈ zs → AR w z.1 z.2.1 z.2.2)
   (hd : zs.Pairwise En.far) (hb : ∀ b,v.ownBlock = some b → F b ∧ ∀ z,z ∈ zs → ¬ z.2.2 b) (hF : ∀ z,z ∈ zs → ∀ k,z.2.2 k → F k) : AR w (.iface 44 v) (.list ys) F
 | map (b : Nat) (zs : List (Bs × En)) (ys : List (Bs × Y)) (F : Nat → Prop) (hy : ys = zs.map (fun z => (z.1,z.2.2.1))) (hm : MapA w b (zs.map (fun z => (z.1,z.2.1)))) (hz : ∀ z,z ∈ zs → AR w z.2.1 z.2.2.1 z.2.2.2)
   (hd : zs.Pairwise (fun a b => En.far a.2 b.2)) (hb : F b ∧ ∀ z,z ∈ zs → ¬ z.2.2.2 b) (hF : ∀ z,z ∈ zs → ∀ k,z.2.2.2 k → F k) : AR w (.iface 62 (.map (some b))) (.map ys) F
theorem AR.mono {w : World} {v : Value} {y : Y} {F G : Nat → Prop} (h : AR w v y F) (hFG : ∀ k,F k → G k) : AR w v y G := by
 cases h with
 | null => exact .null _
 | bool => exact .bool _ _
 | int => exact .int _ _
 | text => exact .text _ _
 | list v zs ys _ hy hr hz hd hb hF => exact .list v zs ys G hy hr hz hd (fun b h => ⟨hFG _ (hb b h).1,(hb b h).2⟩) (fun z h k hk => hFG _ (hF z h k hk))
 | map b zs ys _ hy hm hz hd hb hF => exact .map b zs ys G hy hm hz hd ⟨hFG _ hb.1,hb.2⟩ (fun z h k hk => hFG _ (hF z h k hk))
theorem kAny_move {e : Nat} {w w1 : World} {base : Nat} {ok : Nat → Prop} {v : Value} {xs : List Value} (h : kAny.R e w base ok v xs) (hm : ∀ k,v.ownBlock = some k → w1.heap[k]? = w.heap[k]?) : kAny.R e w1 base ok v xs := by
 obtain ⟨h0,inner,ho,hr⟩ := h; exact ⟨h0,inner,own_move ho hm,hr⟩
theorem AR.move {w w1 : World} {v : Value} {y : Y} {F : Nat → Prop} (h : AR w v y F) (hm : ∀ k,F k → w1.heap[k]? = w.heap[k]?) : AR w1 v y F := by
 induction h with
 | null => exact .null _
 | bool => exact .bool _ _
 | int => exact .int _ _
 | text => exact .text _ _
 | list v zs ys F hy hr hz hd hb hF ih =>
  exact .list v zs ys F hy (kAny_move hr (fun k hk => hm k (hb k hk).1)) (fun z h => ih z h (fun k hk => hm k (hF z h k hk))) hd hb hF
 | map b zs ys F hy hmm hz hd hb hF ih =>
  exact .map b zs ys F hy (hmm.move (hm b hb.1)) (fun z h => ih z h (fun k hk => hm k (hF z h k hk))) hd hb hF
theorem AR.tight {w : World} {v : Value} {y : Y} {F : Nat → Prop} (h : AR w v y F) : AR w v y (fun k => F k ∧ k < w.heap.size) := by
 induction h with
 | null => exact .null _
 | bool => exact .bool _ _
 | int => exact .int _ _
 | text => exact .text _ _
 | list v zs ys F hy hr hz hd hb hF ih =>
  let g : En → En := fun z => (z.1,z.2.1,fun k => z.2.2 k ∧ k < w.heap.size)
  refine .list v (zs.map g) ys _ (by rw [hy,List.map_map]; rfl) (by rw [List.map_map]; exact hr) (fun z h => ?_) (hd.map g (fun a b hab k hk hk2 => hab k hk.1 hk2.1)) (fun b hbb => ⟨⟨(hb b hbb).1,(Kd.R_bound hr).1 b hbb |>.2.2.1⟩,fun z h => ?_⟩) (fun z h k hk => ?_)
  ·obtain ⟨z0,h0,rfl⟩ := List.mem_map.1 h; exact ih z0 h0
  ·obtain ⟨z0,h0,rfl⟩ := List.mem_map.1 h
   exact fun hk => (hb b hbb).2 z0 h0 hk.1
  ·obtain ⟨z0,h0,rfl⟩ := List.mem_map.1 h; exact ⟨hF z0 h0 k hk.1,hk.2⟩
 | map b zs ys F hy hmm hz hd hb hF ih =>
  let g : Bs × En → Bs × En := fun z => (z.1,z.2.1,z.2.2.1,fun k => z.2.2.2 k ∧ k < w.heap.size)
  refine .map b (zs.map g) ys _ (by rw [hy,List.map_map]; rfl) (by rw [List.map_map]; exact hmm) (fun z h => ?_) (hd.map g (fun a b hab k hk hk2 => hab k hk.1 hk2.1)) ⟨⟨hb.1,hmm.lt⟩,fun z h => ?_⟩ (fun z h k hk => ?_)
  ·obtain ⟨z0,h0,rfl⟩ := List.mem_map.1 h; exact ih z0 h0
  ·obtain ⟨z0,h0,rfl⟩ := List.mem_map.1 h
   exact fun hk => hb.2 z0 h0 hk.1
  ·obtain ⟨z0,h0,rfl⟩ := List.mem_map.1 h; exact ⟨hF z0 h0 k hk.1,hk.2⟩
theorem AR.keep {w w1 : World} {v : Value} {y : Y} {F : Nat → Prop} (h : AR w v y F) (hb : Below w.heap.size w w1) : AR w1 v y (fun k => F k ∧ k < w.heap.size) := h.tight.move (fun k hk => hb.block k hk.2)
theorem AR.one {w : World} {v : Value} {y : Y} {F : Nat → Prop} (h : AR w v y F) : v.oneCell' = true := by cases h <;> rfl
section
variable {α β : Type}
theorem mput_mem {f : List (Bs × α)} {k : Bs} {v : α} {p : Bs × α} (h : p ∈ mput f k v) : p = (k,v) ∨ p ∈ f := by
 unfold mput at h
 rcases mins_mem.1 h with h | h
 ·exact .inl h
 ·exact .inr (List.mem_filter.1 h).1
theorem mins_pair {R : Bs × α → Bs × α → Prop} (hs : ∀ a b,R a b → R b a) {x : Bs × α} : ∀ {f : List (Bs × α)}, f.Pairwise R → (∀ p ∈ f,R x p) → (mins x f).Pairwise R
 | [], _, _ => by simp [mins]
 | y :: r,h,hx => by
  obtain ⟨h1,h2⟩ := List.pairwise_cons.1 h; rw [mins]
  split
  ·exact List.pairwise_cons.2 ⟨hx,h⟩
  ·refine List.pairwise_cons.2 ⟨fun p hp => ?_,mins_pair hs h2 (fun p hp => hx p (by simp [hp]))⟩
   rcases mins_mem.1 hp with rfl | hp
   ·exact hs _ _ (hx y (by simp))
   ·exact h1 p hp
theorem mput_pair {R : Bs × α → Bs × α → Prop} (hs : ∀ a b,R a b → R b a) {f : List (Bs × α)} {k : Bs} {v : α} (h : f.Pairwise R) (hx : ∀ p ∈ f,R (k,v) p) : (mput f k v).Pairwise R :=
 mins_pair hs (h.sublist List.filter_sublist) (fun p hp => hx p (List.mem_filter.1 hp).1)
theorem mins_map (g : α → β) (x : Bs × α) : ∀ f : List (Bs × α),(mins x f).map (fun p => (p.1,g p.2)) = mins (x.1,g x.2) (f.map (fun p => (p.1,g p.2)))
 | [] => rfl
 | y :: r => by
  rw [mins,List.map_cons,mins]
  by_cases h : x.1 < y.1
  ·rw [if_pos h,if_pos h]; rfl
  ·rw [if_neg h,if_neg h,List.map_cons,mins_map g x r]
theorem mput_map (g : α → β) (f : List (Bs × α)) (k : Bs) (v : α) : (mput f k v).map (fun p => (p.1,g p.2)) = mput (f.map (fun p => (p.1,g p.2))) k (g v) := by
 unfold mput
 rw [mins_map]
 congr 1
 unfold mdel
 rw [List.filter_map]; rfl
end
mutual
def anyOf : VI → Y
 | ⟨k,n,t,ks,vs⟩ => if k = 1 then .bool (n != 0) else if k = 2 then .int n else if k = 3 then .text t else if k = 4 then .list (anyL vs) else if k = 5 then .map (fitM ((ks.map lb).zip (anyL vs))) else .null
def anyL : List VI → List Y
 | [] => []
 | v :: r => anyOf v :: anyL r
end
theorem vu : ∀ vs,anyL vs = vs.map anyOf
 | [] => by simp [anyL]
 | v :: r => by simp [anyL,vu r]
inductive Small : VI → Prop
 | mk (x : VI) (hk : ∀ s,s ∈ x.f3 → s.size ≤ maxLen) (hkl : x.f3.length ≤ 8796093022000) (hvl : x.f4.length ≤ 1759218604400) (hv : ∀ v,v ∈ x.f4 → Small v) : Small x
def pairsOf (ks : List BA) (vs : List VI) : List (Bs × Y) := (ks.map lb).zip (anyL vs)
theorem vy (vs : List VI) : (anyL vs).length = vs.length := by rw [vu,List.length_map]
theorem pairsOf_length (ks : List BA) (vs : List VI) : (pairsOf ks vs).length = min ks.length vs.length := by
 unfold pairsOf
 rw [List.length_zip,List.length_map,vy]
theorem pairsOf_get {ks : List BA} {vs : List VI} {i : Nat} (hk : i < ks.length) (hv : i < vs.length) : (pairsOf ks vs).take (i + 1) = (pairsOf ks vs).take i ++ [(lb ks[i],anyOf vs[i])] := by
 have hl : i < ((ks.map lb).zip (anyL vs)).length := by rw [List.length_zip,List.length_map,vy]; omega
 show ((ks.map lb).zip (anyL vs)).take (i + 1) = ((ks.map lb).zip (anyL vs)).take i ++ [(lb ks[i],anyOf vs[i])]
 rw [List.take_succ_eq_append_getElem hl,List.getElem_zip]
 simp [vu]
def Made (w : World) (y : Y) (e : Ending) (w' : World) : Prop := ∃ v,e = .returned v ∧ AR w' v y (fun k => w.heap.size ≤ k ∧ k < w'.heap.size) ∧ Below w.heap.size w w'
structure MapAt (wr : World) (b : Nat) (zs : List (Bs × En)) (m : List (Bs × Y)) : Prop where
 hm : MapA wr b (zs.map (fun z => (z.1,z.2.1)))
 hz : ∀ z,z ∈ zs → AR wr z.2.1 z.2.2.1 z.2.2.2
 hd : zs.Pairwise (fun a b => En.far a.2 b.2)
 hF : ∀ z,z ∈ zs → ∀ k,z.2.2.2 k → b < k ∧ k < wr.heap.size
 hy : zs.map (fun z => (z.1,z.2.2.1)) = m
theorem MapAt.made (w : World) : MapAt (w.alloc (.map #[] 0)) w.heap.size [] [] := ⟨MapE.made Tryz.prog 9 (id : Value → Value) w,fun z h => by simp at h,List.Pairwise.nil,fun z h => by simp at h,rfl⟩
theorem MapAt.lt {wr : World} {b : Nat} {zs : List (Bs × En)} {m : List (Bs × Y)} (h : MapAt wr b zs m) : b < wr.heap.size := h.hm.lt
theorem MapAt.move {wr w1 : World} {b : Nat} {zs : List (Bs × En)} {m : List (Bs × Y)} (h : MapAt wr b zs m) (hb : Below wr.heap.size wr w1) : MapAt w1 b zs m :=
 ⟨h.hm.below hb,fun z hz => (h.hz z hz).move (fun k hk => hb.block k (h.hF z hz k hk).2),h.hd,fun z hz k hk => ⟨(h.hF z hz k hk).1,Nat.lt_of_lt_of_le (h.hF z hz k hk).2 hb.size⟩,h.hy⟩
theorem MapAt.drew {wr : World} {b : Nat} {zs : List (Bs × En)} {m : List (Bs × Y)} (h : MapAt wr b zs m) : MapAt wr.drew b zs m := h.move (yh (Below.refl _ _))
theorem MapAt.put {W w3 w4 : World} {b : Nat} {zs : List (Bs × En)} {m : List (Bs × Y)} (h : MapAt W b zs m) (hb3 : Below W.heap.size W w3) {v : Value} {y : Y} (hA : AR w3 v y (fun k => W.heap.size ≤ k ∧ k < w3.heap.size)) (key : Bs)
  (hm4 : MapA w4 b (mput (zs.map (fun z => (z.1,z.2.1))) key v)) (hg : w3.grownBy w4 (some b)) : MapAt w4 b (mput zs key (v,y,fun k => W.heap.size ≤ k ∧ k < w3.heap.size)) (mput m key y) := by
 have hlt := h.lt
 have mv : ∀ {v y F}, AR w3 v y F → (∀ k,F k → b < k ∧ k < w3.heap.size) → AR w4 v y F := fun hA hF => hA.move (fun k hk => hg.block k (hF k hk).2 (fun e => by injection e with e; have := (hF k hk).1; omega))
 have h3 := h.move hb3; refine ⟨?_,fun z hz => ?_, ?_,fun z hz k hk => ?_, ?_⟩
 ·rw [mput_map (fun e : En => e.1)]; exact hm4
 ·rcases mput_mem hz with rfl | hz
  ·exact mv hA (fun k hk => ⟨by omega,hk.2⟩)
  ·exact mv (h3.hz z hz) (h3.hF z hz)
 ·refine mput_pair (fun a b hab k hk hk2 => hab k hk2 hk) h.hd (fun p hp k hk hk2 => ?_); have h1 := (h.hF p hp k hk2).2; have h2 : W.heap.size ≤ k := hk.1
  omega
 ·rcases mput_mem hz with rfl | hz
  ·have h2 : W.heap.size ≤ k := hk.1; have h3 : k < w3.heap.size := hk.2; have := hg.size; exact ⟨by omega,by omega⟩
  ·have h5 := h3.hF z hz k hk; have := hg.size; exact ⟨h5.1,by omega⟩
 ·rw [mput_map (fun e : En => e.2.1), ← h.hy]
theorem MapAt.done {wr : World} {b : Nat} {zs : List (Bs × En)} {m : List (Bs × Y)} (h : MapAt wr b zs m) : AR wr (.iface 62 (.map (some b))) (.map m) (fun k => b ≤ k ∧ k < wr.heap.size) :=
 .map b zs m _ h.hy.symm h.hm h.hz h.hd ⟨⟨Nat.le_refl _,h.lt⟩,fun z hz hk => by have := (h.hF z hz b hk).1; omega⟩ (fun z hz k hk => ⟨Nat.le_of_lt (h.hF z hz k hk).1,(h.hF z hz k hk).2⟩)
theorem MapAt.length {wr : World} {b : Nat} {zs : List (Bs × En)} {m : List (Bs × Y)} (h : MapAt wr b zs m) : (zs.map (fun z => (z.1,z.2.1))).length = m.length := by rw [← h.hy,List.length_map,List.length_map]
mutual
def valOf : Y → VI
 | .null => ⟨0,0,⟨#[]⟩, [], []⟩
 | .bool b => ⟨1,if b then 1 else 0,⟨#[]⟩, [], []⟩
 | .int n => ⟨2,n,⟨#[]⟩, [], []⟩
 | .text s => ⟨3,0,s, [], []⟩
 | .list l => ⟨4,0,⟨#[]⟩, [],valL l⟩
 | .map m => ⟨5,0,⟨#[]⟩,m.map (fun p => ⟨p.1.toArray⟩),valM m⟩
def valL : List Y → List VI
 | [] => []
 | y :: r => valOf y :: valL r
def valM : List (Bs × Y) → List VI
 | [] => []
 | p :: r => valP p :: valM r
def valP : Bs × Y → VI
 | (_,y) => valOf y
end
theorem valL_map : ∀ l,valL l = l.map valOf
 | [] => by simp [valL]
 | y :: r => by simp [valL,valL_map r]
theorem valM_map : ∀ m,valM m = m.map (fun p => valOf p.2)
 | [] => by simp [valM]
 | (k,y) :: r => by simp [valM,valP,valM_map r]
def Told (w : World) (x : VI) (e : Ending) (w' : World) : Prop := ∃ v3 v4,e = .returned (.tuple #[.agg #[.int .i64 x.f0, .int .i64 x.f1, .string x.f2,v3,v4], .bool true]) ∧ Kd.string.R 9 w' w.heap.size (fun _ => True) v3 x.f3 ∧ kI.R 31 w' w.heap.size (fun _ => True) v4 x.f4 ∧ Below w.heap.size w w'
def zI : Array Value := #[.int .i64 0, .int .i64 0, .string ⟨#[]⟩, .slice none 0 0, .slice none 0 0]
section
theorem t_bool (v : Value) (w : World) : (Instr.typeAssert (.iface 4 v) 20 4 true).run Tryz.prog w = .ok (.tuple #[v, .bool true]) w := by kernel_rfl
theorem t_int_bool (v : Value) (w : World) : (Instr.typeAssert (.iface 3 v) 20 4 true).run Tryz.prog w = .ok (.tuple #[.bool false, .bool false]) w := by kernel_rfl
theorem t_int (v : Value) (w : World) : (Instr.typeAssert (.iface 3 v) 20 3 true).run Tryz.prog w = .ok (.tuple #[v, .bool true]) w := by kernel_rfl
theorem t_str_bool (v : Value) (w : World) : (Instr.typeAssert (.iface 9 v) 20 4 true).run Tryz.prog w = .ok (.tuple #[.bool false, .bool false]) w := by kernel_rfl
theorem t_str_int (v : Value) (w : World) : (Instr.typeAssert (.iface 9 v) 20 3 true).run Tryz.prog w = .ok (.tuple #[.int .i64 0, .bool false]) w := by kernel_rfl
theorem t_str_i64 (v : Value) (w : World) : (Instr.typeAssert (.iface 9 v) 20 2 true).run Tryz.prog w = .ok (.tuple #[.int .i64 0, .bool false]) w := by kernel_rfl
theorem t_str_u64 (v : Value) (w : World) : (Instr.typeAssert (.iface 9 v) 20 77 true).run Tryz.prog w = .ok (.tuple #[.int .u64 0, .bool false]) w := by kernel_rfl
theorem t_str (v : Value) (w : World) : (Instr.typeAssert (.iface 9 v) 20 9 true).run Tryz.prog w = .ok (.tuple #[v, .bool true]) w := by kernel_rfl
end
theorem told_leaf {fn : Func} (hr : fn.results = #[.cell 2 31, .tmp 3]) {tmps : Array Value} {w W : World} {k n : Int} {t : BA} (hp : tmps.getD 2 undef = .pointer (some ⟨w.heap.size,0,none⟩)) (h3 : tmps.getD 3 undef = .bool true) (hb : W.heap[w.heap.size]? = some (.cells #[.int .i64 k, .int .i64 n, .string t, .slice none 0 0, .slice none 0 0] 31 (0,0))) :
  (results fn tmps).run Tryz.prog W = .ok (.tuple #[.agg #[.int .i64 k, .int .i64 n, .string t, .slice none 0 0, .slice none 0 0], .bool true]) W := by
 have := results_ct (P := Tryz.prog) hr tmps W w.heap.size 31 _ (0,0) _ hp hb Tryz.underlying31 rfl vx; rw [h3] at this; exact this
set_option maxHeartbeats 800000 in
theorem from_null (w : World) : Calls Tryz.prog 38 #[.nilIface] w (Told w (valOf .null)) := by
 have h0 := yw w (.cells #[.int .i64 0, .int .i64 0, .string ⟨#[]⟩, .slice none 0 0, .slice none 0 0] 31); have HB := aM (zb (Below.refl w.heap.size w) (.cells #[.int .i64 0, .int .i64 0, .string ⟨#[]⟩, .slice none 0 0, .slice none 0 0] 31))
 go_enter Tryz.func38,Tryz.ntmps38
 go_wp2_with (refine xo (.tmp 2) (.tmp 18) rfl rfl rfl rfl h0 ?_)
 have h1 := setRow_heap _ w.heap.size _ #[.int .i64 0, .int .i64 0, .string ⟨#[]⟩, .slice none 0 0, .slice none 0 0] _ _ h0; have hB := zt HB.out (some w.heap.size) HB.out.size (yi _ w.heap.size #[.int .i64 0, .int .i64 0, .string ⟨#[]⟩, .slice none 0 0, .slice none 0 0]) (fun k hk => by injection hk with hk; have h2 : w.heap.size = k := hk; omega); exact bodyPost_ret (v := .tuple #[.agg #[.int .i64 0, .int .i64 0, .string ⟨#[]⟩, .slice none 0 0, .slice none 0 0], .bool true]) (told_leaf rfl rfl rfl h1) rfl ⟨.slice none 0 0, .slice none 0 0,by simp [valOf],by simp only [valOf]; exact Kd.R_nil _ _ _ _ _,by simp only [valOf]; exact Kd.R_nil _ _ _ _ _,hB⟩
set_option maxHeartbeats 800000 in
theorem from_btrue (w : World) : Calls Tryz.prog 38 #[(.iface 4 (.bool true))] w (Told w (valOf (.bool true))) := by
 have f0 := t_bool; have h0 := yw w (.cells #[.int .i64 0, .int .i64 0, .string ⟨#[]⟩, .slice none 0 0, .slice none 0 0] 31); have HB := aM (zb (Below.refl w.heap.size w) (.cells #[.int .i64 0, .int .i64 0, .string ⟨#[]⟩, .slice none 0 0, .slice none 0 0] 31))
 go_enter Tryz.func38,Tryz.ntmps38
 go_wp2_with (refine xo (.tmp 2) (.tmp 23) rfl rfl rfl rfl h0 ?_)
 have h1 := setRow_heap _ w.heap.size _ #[.int .i64 1, .int .i64 1, .string ⟨#[]⟩, .slice none 0 0, .slice none 0 0] _ _ h0; have hB := zt HB.out (some w.heap.size) HB.out.size (yi _ w.heap.size #[.int .i64 1, .int .i64 1, .string ⟨#[]⟩, .slice none 0 0, .slice none 0 0]) (fun k hk => by injection hk with hk; have h2 : w.heap.size = k := hk; omega); exact bodyPost_ret (v := .tuple #[.agg #[.int .i64 1, .int .i64 1, .string ⟨#[]⟩, .slice none 0 0, .slice none 0 0], .bool true]) (told_leaf rfl rfl rfl h1) rfl ⟨.slice none 0 0, .slice none 0 0,by simp [valOf],by simp only [valOf]; exact Kd.R_nil _ _ _ _ _,by simp only [valOf]; exact Kd.R_nil _ _ _ _ _,hB⟩
set_option maxHeartbeats 800000 in
theorem from_bfalse (w : World) : Calls Tryz.prog 38 #[(.iface 4 (.bool false))] w (Told w (valOf (.bool false))) := by
 have f0 := t_bool; have h0 := yw w (.cells #[.int .i64 0, .int .i64 0, .string ⟨#[]⟩, .slice none 0 0, .slice none 0 0] 31); have HB := aM (zb (Below.refl w.heap.size w) (.cells #[.int .i64 0, .int .i64 0, .string ⟨#[]⟩, .slice none 0 0, .slice none 0 0] 31))
 go_enter Tryz.func38,Tryz.ntmps38
 go_wp2_with (refine xo (.tmp 2) (.tmp 24) rfl rfl rfl rfl h0 ?_)
 have h1 := setRow_heap _ w.heap.size _ #[.int .i64 1, .int .i64 0, .string ⟨#[]⟩, .slice none 0 0, .slice none 0 0] _ _ h0; have hB := zt HB.out (some w.heap.size) HB.out.size (yi _ w.heap.size #[.int .i64 1, .int .i64 0, .string ⟨#[]⟩, .slice none 0 0, .slice none 0 0]) (fun k hk => by injection hk with hk; have h2 : w.heap.size = k := hk; omega); exact bodyPost_ret (v := .tuple #[.agg #[.int .i64 1, .int .i64 0, .string ⟨#[]⟩, .slice none 0 0, .slice none 0 0], .bool true]) (told_leaf rfl rfl rfl h1) rfl ⟨.slice none 0 0, .slice none 0 0,by simp [valOf],by simp only [valOf]; exact Kd.R_nil _ _ _ _ _,by simp only [valOf]; exact Kd.R_nil _ _ _ _ _,hB⟩
set_option maxHeartbeats 800000 in
theorem from_int (n : Int) (w : World) : Calls Tryz.prog 38 #[(.iface 3 (.int .i64 n))] w (Told w (valOf (.int n))) := by
 have f0 := t_int_bool; have f1 := t_int; have h0 := yw w (.cells #[.int .i64 0, .int .i64 0, .string ⟨#[]⟩, .slice none 0 0, .slice none 0 0] 31); have HB := aM (zb (Below.refl w.heap.size w) (.cells #[.int .i64 0, .int .i64 0, .string ⟨#[]⟩, .slice none 0 0, .slice none 0 0] 31))
 go_enter Tryz.func38,Tryz.ntmps38
 go_wp2_with (refine xo (.tmp 2) (.tmp 29) rfl rfl rfl rfl h0 ?_)
 have h1 := setRow_heap _ w.heap.size _ #[.int .i64 2, .int .i64 n, .string ⟨#[]⟩, .slice none 0 0, .slice none 0 0] _ _ h0; have hB := zt HB.out (some w.heap.size) HB.out.size (yi _ w.heap.size #[.int .i64 2, .int .i64 n, .string ⟨#[]⟩, .slice none 0 0, .slice none 0 0]) (fun k hk => by injection hk with hk; have h2 : w.heap.size = k := hk; omega); exact bodyPost_ret (v := .tuple #[.agg #[.int .i64 2, .int .i64 n, .string ⟨#[]⟩, .slice none 0 0, .slice none 0 0], .bool true]) (told_leaf rfl rfl rfl h1) rfl ⟨.slice none 0 0, .slice none 0 0,by simp [valOf],by simp only [valOf]; exact Kd.R_nil _ _ _ _ _,by simp only [valOf]; exact Kd.R_nil _ _ _ _ _,hB⟩
set_option maxHeartbeats 800000 in
theorem from_text (s : BA) (w : World) : Calls Tryz.prog 38 #[(.iface 9 (.string s))] w (Told w (valOf (.text s))) := by
 have f0 := t_str_bool; have f1 := t_str_int; have f2 := t_str_i64; have f3 := t_str_u64; have f4 := t_str; have h0 := yw w (.cells #[.int .i64 0, .int .i64 0, .string ⟨#[]⟩, .slice none 0 0, .slice none 0 0] 31); have HB := aM (zb (Below.refl w.heap.size w) (.cells #[.int .i64 0, .int .i64 0, .string ⟨#[]⟩, .slice none 0 0, .slice none 0 0] 31))
 go_enter Tryz.func38,Tryz.ntmps38
 go_wp2_with (refine xo (.tmp 2) (.tmp 45) rfl rfl rfl rfl h0 ?_)
 have h1 := setRow_heap _ w.heap.size _ #[.int .i64 3, .int .i64 0, .string s, .slice none 0 0, .slice none 0 0] _ _ h0; have hB := zt HB.out (some w.heap.size) HB.out.size (yi _ w.heap.size #[.int .i64 3, .int .i64 0, .string s, .slice none 0 0, .slice none 0 0]) (fun k hk => by injection hk with hk; have h2 : w.heap.size = k := hk; omega); exact bodyPost_ret (v := .tuple #[.agg #[.int .i64 3, .int .i64 0, .string s, .slice none 0 0, .slice none 0 0], .bool true]) (told_leaf rfl rfl rfl h1) rfl ⟨.slice none 0 0, .slice none 0 0,by simp [valOf],by simp only [valOf]; exact Kd.R_nil _ _ _ _ _,by simp only [valOf]; exact Kd.R_nil _ _ _ _ _,hB⟩
theorem kAny_at {w : World} {A : Option Addr} {xs : List Value} (h : kAny.C w A xs.length xs) (h0 : 0 < xs.length) :
  ∃ bk off,A = some ⟨bk,off,none⟩ ∧ bk < w.heap.size ∧ ∀ (j : Nat) (hj : j < xs.length),w.cell? ⟨bk,off + j,none⟩ = some xs[j] := by
 obtain ⟨hl,hm,hc⟩ := h; obtain ⟨ad,rfl,hcc⟩ := hc h0
 have cell : ∀ (j : Nat) (hj : j < xs.length),w.cell? (ad.add j) = some xs[j] := by
  intro j hj; obtain ⟨c,hcl,hr,hcell⟩ := hcc j xs[j] (List.getElem?_eq_getElem hj); have hr' : c = [xs[j]] := hr.1; subst hr'; have := hcell 0 _ rfl; rw [show j * kAny.sz + 0 = j from by show j * 1 + 0 = j; omega] at this; exact this
 have c0 := cell 0 h0; obtain ⟨bk,off,spot⟩ := ad
 have hspot : spot = none := by
  cases hs : spot with
  | none => rfl
  | some sp =>
   exfalso
   subst hs
   simp [World.cell?, Addr.add] at c0
   split at c0 <;> simp at c0
 subst hspot
 have add : ∀ j : Nat,(⟨bk,off,none⟩ : Addr).add j = ⟨bk,off + j,none⟩ := by intro j; unfold Addr.add; split <;> simp_all
 refine ⟨bk,off,rfl, ?_,fun j hj => (add j) ▸ cell j hj⟩; rw [add] at c0
 by_cases hb : bk < w.heap.size
 ·exact hb
 ·simp [World.cell?, Array.getElem?_eq_none (Nat.le_of_not_lt hb)] at c0
def FromAt (y : Y) : Prop := ∀ (v : Value) (F : Nat → Prop) (w : World),AR w v y F → Calls Tryz.prog 38 #[v] w (Told w (valOf y))
theorem t_lst_bool (v : Value) (w : World) : (Instr.typeAssert (.iface 44 v) 20 4 true).run Tryz.prog w = .ok (.tuple #[.bool false, .bool false]) w := by kernel_rfl
theorem t_lst_int (v : Value) (w : World) : (Instr.typeAssert (.iface 44 v) 20 3 true).run Tryz.prog w = .ok (.tuple #[.int .i64 0, .bool false]) w := by kernel_rfl
theorem t_lst_i64 (v : Value) (w : World) : (Instr.typeAssert (.iface 44 v) 20 2 true).run Tryz.prog w = .ok (.tuple #[.int .i64 0, .bool false]) w := by kernel_rfl
theorem t_lst_u64 (v : Value) (w : World) : (Instr.typeAssert (.iface 44 v) 20 77 true).run Tryz.prog w = .ok (.tuple #[.int .u64 0, .bool false]) w := by kernel_rfl
theorem t_lst_str (v : Value) (w : World) : (Instr.typeAssert (.iface 44 v) 20 9 true).run Tryz.prog w = .ok (.tuple #[.string ⟨#[]⟩, .bool false]) w := by kernel_rfl
theorem t_lst (v : Value) (w : World) : (Instr.typeAssert (.iface 44 v) 20 44 true).run Tryz.prog w = .ok (.tuple #[v, .bool true]) w := by kernel_rfl
theorem info_iv : (Tryz.prog.info? 31).map (fun i => (i.zero,i.size,i.bytes)) = some (some (.agg #[.int .i64 0, .int .i64 0, .string ⟨#[]⟩, .slice none 0 0, .slice none 0 0]),5,80) := by kernel_rfl
theorem told_row {fn : Func} (hr : fn.results = #[.cell 2 31, .tmp 3]) {tmps : Array Value} {W : World} {b n3 c3 n4 c4 : Nat} {k n : Int} {t : BA} {A3 A4 : Option Addr} (hp : tmps.getD 2 undef = .pointer (some ⟨b,0,none⟩)) (h3 : tmps.getD 3 undef = .bool true) (hb : W.heap[b]? = some (.cells #[.int .i64 k, .int .i64 n, .string t, .slice A3 n3 c3, .slice A4 n4 c4] 31 (0,0))) :
  (results fn tmps).run Tryz.prog W = .ok (.tuple #[.agg #[.int .i64 k, .int .i64 n, .string t, .slice A3 n3 c3, .slice A4 n4 c4], .bool true]) W := by
 have := results_ct (P := Tryz.prog) hr tmps W b 31 _ (0,0) _ hp hb Tryz.underlying31 rfl vx; rw [h3] at this; exact this
set_option maxHeartbeats 6400000 in
set_option maxRecDepth 100000 in
theorem from_list (zs : List En) (A : Option Addr) (c : Nat) (w : World) (hn : zs.length ≤ 1759218604400) (hC : kAny.C w A zs.length (zs.map (fun z => z.1))) (hz : ∀ z,z ∈ zs → AR w z.1 z.2.1 z.2.2) (hch : ∀ z,z ∈ zs → FromAt z.2.1) :
  Calls Tryz.prog 38 #[.iface 44 (.slice A zs.length c)] w (Told w (valOf (.list (zs.map (fun z => z.2.1))))) := by
 have f0 := t_lst_bool; have f1 := t_lst_int; have f2 := t_lst_i64; have f3 := t_lst_u64; have f4 := t_lst_str; have f5 := t_lst; have HC := aM hC; have HZ := aM hz; have HCH := aM hch; have hb0 := zb (Below.refl w.heap.size w) (.cells #[.int .i64 0, .int .i64 0, .string ⟨#[]⟩, .slice none 0 0, .slice none 0 0] 31); have HB0 := aM (zb hb0 (.cells #[.int .i64 0, .int .i64 0, .string ⟨#[]⟩, .slice none 0 0, .slice none 0 0] 31)); have HZ0 := aM (show ((w.alloc (.cells #[.int .i64 0, .int .i64 0, .string ⟨#[]⟩, .slice none 0 0, .slice none 0 0] 31)).alloc (.cells #[.int .i64 0, .int .i64 0, .string ⟨#[]⟩, .slice none 0 0, .slice none 0 0] 31)).heap[w.heap.size]? = some (.cells zI 31 (0,0)) from ze (yw _ _) _); have h1 := yw (w.alloc (.cells #[.int .i64 0, .int .i64 0, .string ⟨#[]⟩, .slice none 0 0, .slice none 0 0] 31)) (.cells #[.int .i64 0, .int .i64 0, .string ⟨#[]⟩, .slice none 0 0, .slice none 0 0] 31); rw [World.size_alloc] at h1; clear hC hz hch hb0
 go_enter Tryz.func38,Tryz.ntmps38
 go_wp2_with (refine xo (.tmp 11) (.tmp 49) rfl rfl rfl rfl h1 ?_)
 have HX1 := aM (setRow_heap _ (w.heap.size + 1) _ #[.int .i64 4, .int .i64 0, .string ⟨#[]⟩, .slice none 0 0, .slice none 0 0] _ _ h1); have hg := yi ((w.alloc (.cells #[.int .i64 0, .int .i64 0, .string ⟨#[]⟩, .slice none 0 0, .slice none 0 0] 31)).alloc (.cells #[.int .i64 0, .int .i64 0, .string ⟨#[]⟩, .slice none 0 0, .slice none 0 0] 31)) (w.heap.size + 1) #[.int .i64 4, .int .i64 0, .string ⟨#[]⟩, .slice none 0 0, .slice none 0 0]; have HB1 := aM (zt HB0.out (some (w.heap.size + 1)) HB0.out.size hg (fun k hk => by injection hk with hk; have h2 : w.heap.size + 1 = k := hk; omega)); have HZ1 := aM ((hg.block w.heap.size (zn HZ0.out) (fun e => by injection e with e; omega)).trans HZ0.out); clear hg h1 HB0 HZ0
 go_loopw [52,12,13,14] (fun v52 v12 v13 v14 wr => ∃ (i : Nat) (A2 : Option Addr) (c2 : Nat),v52 = .int .i64 i ∧ i ≤ zs.length ∧ Aside0 (wr.heap[w.heap.size + 1]? = some (.cells #[.int .i64 4, .int .i64 0, .string ⟨#[]⟩, .slice none 0 0, .slice A2 i c2] 31 (0,0))) ∧ Aside0 (kI.R 31 wr (w.heap.size + 2) (fun _ => True) (.slice A2 i c2) ((zs.take i).map (fun z => valOf z.2.1))) ∧ Aside0 (Below w.heap.size w wr) ∧ Aside0 (wr.heap[w.heap.size]? = some (.cells zI 31 (0,0)))) (fun v52 _ _ _ _ => zs.length - (intOf v52).toNat)
 case atStart => exact ⟨0,none,0,rfl,by omega,HX1,⟨Kd.R_nil _ _ _ _ _⟩,HB1,HZ1⟩
 case round =>
  clear HX1 HB1 HZ1; obtain ⟨i,A2,c2,rfl,hiv,HX,HR,HB,HZ0⟩ := hrel
  have q0 : (0 : Int) ≤ (i : Int) := by omega
  by_cases hlv : i < zs.length
  ·have q2 : (i : Int) < (zs.length : Int) := by omega
   have hl0 : (zs.map (fun z => z.1)).length = zs.length := List.length_map ..; obtain ⟨vb,vo,rfl,hvb,hvc⟩ := kAny_at (A := A) (xs := zs.map (fun z => z.1)) (by rw [hl0]; exact HC.out) (by omega)
   have e0 : w.cell? ⟨vb,vo + i,none⟩ = some (zs[i]'hlv).1 := by
    have h := hvc i (by omega); rw [List.getElem_map] at h; exact h
   have y0 := zf HB.out e0; have CA := aM (fun (W : World) (hb : Below w.heap.size w W) => HCH.out zs[i] (List.getElem_mem hlv) zs[i].1 _ W ((HZ.out zs[i] (List.getElem_mem hlv)).keep hb)); clear hvc e0 hl0
   go_wp2_with fail
   refine (CA.out wr HB.out).mono ?_; rintro e w3 ⟨v3,v4,rfl,hv3,hv4,hb3⟩; have HXE := aM (show (zs.take (i + 1)).map (fun z => valOf z.2.1) = (zs.take i).map (fun z => valOf z.2.1) ++ [valOf (zs[i]'hlv).2.1] by rw [List.take_succ_eq_append_getElem hlv,List.map_append]; rfl); generalize valOf (zs[i]'hlv).2.1 = x at hv3 hv4 HXE; obtain ⟨x0,x1,x2,x3,x4⟩ := x; obtain ⟨A3,c3,rfl⟩ := Kd.R_slice hv3; obtain ⟨A4,c4,rfl⟩ := Kd.R_slice hv4; have hW := zb hb3 (.cells #[.int .i64 0, .int .i64 0, .string ⟨#[]⟩, .slice none 0 0, .slice none 0 0] 31); have h5 := yw w3 (.cells #[.int .i64 0, .int .i64 0, .string ⟨#[]⟩, .slice none 0 0, .slice none 0 0] 31); have hg5 := yi (w3.alloc (.cells #[.int .i64 0, .int .i64 0, .string ⟨#[]⟩, .slice none 0 0, .slice none 0 0] 31)) w3.heap.size #[.int .i64 x0, .int .i64 x1, .string x2, .slice A3 x3.length c3, .slice A4 x4.length c4]; have hb5 := zt hW (some w3.heap.size) hW.size hg5 (fun k hk => by injection hk with hk; have := hb3.size; omega); have h6 := setRow_heap _ w3.heap.size _ #[.int .i64 x0, .int .i64 x1, .string x2, .slice A3 x3.length c3, .slice A4 x4.length c4] _ _ h5
   have hm5 : ∀ k,k < w3.heap.size → ((w3.alloc (.cells #[.int .i64 0, .int .i64 0, .string ⟨#[]⟩, .slice none 0 0, .slice none 0 0] 31)).setRow w3.heap.size #[.int .i64 x0, .int .i64 x1, .string x2, .slice A3 x3.length c3, .slice A4 x4.length c4]).heap[k]? = w3.heap[k]? := fun k hk => (hg5.block k (by rw [World.size_alloc]; omega) (fun e => by injection e with e; omega)).trans ((zb (Below.refl w3.heap.size w3) _).block k hk)
   have HX5 := aM ((hb5.block _ (zn HX.out)).trans HX.out); have x4_ := zu (i := 4) HX5.out rfl; have HZ5 := aM ((hb5.block _ (zn HZ0.out)).trans HZ0.out); have HR5 := aM (Kd.R_below HR.out hb5); have HB5 := aM (zm HB.out hb5)
   have HM := aM (k31_mkM ((w3.alloc (.cells #[.int .i64 0, .int .i64 0, .string ⟨#[]⟩, .slice none 0 0, .slice none 0 0] 31)).setRow w3.heap.size #[.int .i64 x0, .int .i64 x1, .string x2, .slice A3 x3.length c3, .slice A4 x4.length c4]) (w.heap.size + 2) (fun k => wr.heap.size ≤ k ∧ k < w3.heap.size) ⟨x0,x1,x2,x3,x4⟩
    (Kd.R_lower (Kd.R_move (Kd.R_mono (ok' := fun k => wr.heap.size ≤ k ∧ k < w3.heap.size) (Kd.R_bound hv3) (fun k hk => ⟨hk.2.1,hk.2.2.1⟩)) (fun k hk => hm5 k hk.2)) (by have := zn HX.out; omega))
    (Kd.R_lower (Kd.R_move (Kd.R_mono (ok' := fun k => wr.heap.size ≤ k ∧ k < w3.heap.size) (Kd.R_bound hv4) (fun k hk => ⟨hk.2.1,hk.2.2.1⟩)) (fun k hk => hm5 k hk.2)) (by have := zn HX.out; omega)))
   have HOK := aM (show ∀ k,wr.heap.size ≤ k ∧ k < w3.heap.size → True ∧ some k ≠ (Value.slice A2 i c2).ownBlock from fun k hk => ⟨trivial,fun e => by have := ((Kd.R_bound HR.out).1 k e.symm).2.2.1; omega⟩); have hsz := zn HX5.out; clear hv3 hv4 hW hg5 hb5 hm5 HX HR HB HZ0
   go_wp2_with (first | (refine xo (.tmp 13) (.tmp 61) rfl rfl rfl rfl h5 ?_; generalize (w3.alloc (.cells #[.int .i64 0, .int .i64 0, .string ⟨#[]⟩, .slice none 0 0, .slice none 0 0] 31)).setRow w3.heap.size #[.int .i64 x0, .int .i64 x1, .string x2, .slice A3 x3.length c3, .slice A4 x4.length c4] = W5 at h6 x4_ HX5 HZ5 HR5 HB5 HM hsz ⊢; clear h5) | refine load_ival (.tmp 13) rfl rfl rfl h6 ?_ | refine Kd.R_append kI (w0 := W5) (w.heap.size + 2) rfl (.tmp 67) (.tmp 69) 29 31 (.agg #[.int .i64 0, .int .i64 0, .string ⟨#[]⟩, .slice none 0 0, .slice none 0 0]) 80 rfl Tryz.underlying29 info_iv rfl (show 0 < 5 by decide) (by decide) (.slice A2 i c2) ((zs.take i).map (fun z => valOf z.2.1)) ⟨x0,x1,x2,x3,x4⟩ _ (fun _ => True) _ rfl rfl HM.out HOK.out (fun _ _ => trivial) HR5.out (Below.refl _ _) (by omega) (by rw [List.length_map,List.length_take]; omega) ?_)
   intro v1 w6 ho hb6 hg6 hat; rw [← List.map_take, ← HXE.out] at ho
   have hlen : ((zs.take (i + 1)).map (fun z => valOf z.2.1)).length = i + 1 := by rw [List.length_map,List.length_take]; omega
   obtain ⟨A5,c5,rfl⟩ := Kd.R_slice ho; rw [hlen] at ho hat ⊢; have hB6 := zt HB5.out (Value.slice A2 i c2).ownBlock HB5.out.size hg6 (fun k hk => by have := Kd.R_base HR5.out k hk; omega); have hX6 := (hb6.block (w.heap.size + 1) (by omega)).trans HX5.out; have hZ6 := (hb6.block w.heap.size (by omega)).trans HZ5.out; have HX7 := aM (cb_set hX6 (i := 4) (.slice A5 (i + 1) c5)); have hg7 := yj w6 (w.heap.size + 1) 4 (.slice A5 (i + 1) c5); have HB7 := aM (zt hB6 (some (w.heap.size + 1)) hB6.size hg7 (fun k hk => by injection hk with hk; omega)); have HZ7 := aM ((hg7.block w.heap.size (zn hZ6) (fun e => by injection e with e; omega)).trans hZ6); have HR7 := aM (Kd.R_mono (ok' := fun _ => True) (Kd.R_move (Kd.R_bound ho) (fun k hk => hg7.block k hk.2.2.1 (fun e => by have h2 := Option.some.inj e; have h3 := hk.2.1; omega))) (fun _ _ => trivial)); have y4 := zu (i := 4) hX6 rfl; have y5 := vk (i := 4) hX6; clear ho hat hlen hB6 hX6 hZ6 hb6 hg6 hg7 HX5 HZ5 HR5 HB5 HM HOK HXE CA x4_ h6 hsz
   go_wp2
   go_roundw
   case rel => exact ⟨i + 1,A5,c5,by go_num,by omega,HX7,HR7,HB7,HZ7⟩
   case measure => simp [intOf]; omega
  ·have hin : i = zs.length := by omega
   subst hin; have hg8 := yi wr w.heap.size #[.int .i64 4, .int .i64 0, .string ⟨#[]⟩, .slice none 0 0, .slice A2 zs.length c2]; have HX8 := aM (setRow_heap _ w.heap.size _ #[.int .i64 4, .int .i64 0, .string ⟨#[]⟩, .slice none 0 0, .slice A2 zs.length c2] _ _ HZ0.out); have HB8 := aM (zt HB.out (some w.heap.size) HB.out.size hg8 (fun k hk => by injection hk with hk; omega)); have hR := HR.out; rw [List.take_length] at hR; have HR8 := aM (Kd.R_lower (base' := w.heap.size) (Kd.R_mono (ok' := fun _ => True) (Kd.R_move (Kd.R_bound hR) (fun k hk => hg8.block k hk.2.2.1 (fun e => by have h2 := Option.some.inj e; have h3 := hk.2.1; omega))) (fun _ _ => trivial)) (by omega)); have h11 := HX.out; have h2 := HZ0.out; clear hR hg8
   go_wp2_with (first | refine load_ival (.tmp 11) rfl rfl rfl h11 ?_ | refine xo (.tmp 2) (.tmp 73) rfl rfl rfl rfl h2 ?_)
   exact bodyPost_ret (v := .tuple #[.agg #[.int .i64 4, .int .i64 0, .string ⟨#[]⟩, .slice none 0 0, .slice A2 zs.length c2], .bool true]) (told_row rfl rfl rfl HX8.out) rfl ⟨.slice none 0 0, .slice A2 zs.length c2,by simp [valOf],by simp only [valOf]; exact Kd.R_nil _ _ _ _ _,by simp only [valOf]; rw [valL_map,List.map_map]; exact HR8.out,HB8.out⟩
end Go.Proofs.YtnmhjndjfblebaaGreatDoor.Tr
