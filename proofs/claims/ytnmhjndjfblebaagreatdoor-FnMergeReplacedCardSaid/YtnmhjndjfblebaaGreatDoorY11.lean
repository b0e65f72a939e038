/- Parts of the proof, laid vq: RowKit, DTabsZ, ValArg. -/
import Derived.Test.YtnmhjndjfblebaaGreatDoorY3
import Derived.Test.YtnmhjndjfblebaaGreatDoorRows
import Derived.ProofKit
import Derived.OpenShut
import Derived.ShutString
import Derived.ChangeOld
import Derived.Below
import Derived.SizedLaws
import Derived.SliceStrings
import Derived.Test.YtnmhjndjfblebaaGreatDoorCards
import Derived.PinnedBridge
import Derived.Test.YtnmhjndjfblebaaGreatDoorY7
set_option linter.unusedVariables false
set_option linter.unusedSimpArgs false
namespace Go.Proofs.YtnmhjndjfblebaaGreatDoor.RowKit
open Go.RowKit Go.ChangeShapes Go.WideShapes Go.ChangeAt Go.Proofs.YtnmhjndjfblebaaGreatDoorW.PrintWords Go.Proofs.YtnmhjndjfblebaaGreatDoor.Str Go.Proofs.YtnmhjndjfblebaaGreatDoor.Kit
theorem strs_arg {H : Type} {enc : TypeId × Value → H} {P : Program} {W : World} {base : Nat} {spare : Nat → Bool} {held : Bool} {t e : TypeId} {a : Option Addr} {len cap : Nat} {d : DataW H} {ps : List MemPlace}
  (ht : P.underlying t = some (.slice e)) (he : P.underlying e = some .string) (hc : P.cellsOf e = 1) (h : DataW.Trod enc P W base spare held t (.slice a len cap) d ps) :
  ∃ xs : List ByteArray,xs.length = len ∧ len ≤ cap ∧ Kd.string.C W a xs.length xs ∧ ((d = .nil ∧ xs = []) ∨ ∃ rest,d = .slice (strs xs) rest) := by
 obtain ⟨fuel,hf⟩ := h
 rcases open_strings ht he hc hf with ⟨hcs,hx⟩ | ⟨ad,l,c,ss,hcs, _,hl,hm,hss,hx,hcell,hws⟩
 ·simp [Value.cells] at hcs
  obtain ⟨rfl,rfl,rfl⟩ := hcs; simp only [Prod.mk.injEq] at hx; exact ⟨[],rfl,by omega,⟨rfl,by simp,fun h => absurd h (by simp)⟩, .inl ⟨hx.1,rfl⟩⟩
 ·simp [Value.cells] at hcs
  obtain ⟨rfl,rfl,rfl⟩ := hcs; simp only [Prod.mk.injEq] at hx
  have hlen : len ≤ ss.length := by rw [hss]; split <;> omega
  have hl2 : (ss.take len).length = len := by rw [List.length_take]; omega
  refine ⟨ss.take len,hl2,hl,⟨rfl,by unfold maxLen at hm; omega,fun _ => ⟨ad,rfl,fun j p hp => ?_⟩⟩, .inr ⟨_,hx.1⟩⟩; obtain ⟨hj,rfl⟩ := List.getElem?_eq_some_iff.1 hp; refine ⟨[.string (ss.take len)[j]],rfl,rfl,fun i u hu => ?_⟩; have hi : i < 1 := (List.getElem?_eq_some_iff.1 hu).1
  obtain rfl : i = 0 := by omega
  have hu' : Value.string (ss.take len)[j] = u := by simpa using hu
  subst hu'
  have : j * Kd.string.sz + 0 = j := by simp [Kd.string,Kd.scalar]
  rw [this,hcell j (by rw [hl2] at hj; omega)]; rw [hl2] at hj
  simp [List.getD_eq_getElem?_getD,List.getElem?_eq_getElem (show j < ss.length by omega)]
end Go.Proofs.YtnmhjndjfblebaaGreatDoor.RowKit
namespace Go.Proofs.YtnmhjndjfblebaaGreatDoor.DTabsFnMergeReplaced
open Go.RowKit Go.Lib
theorem any {W : World} (hL : laidMet Tryz.prog Rows.fnMergeReplacedRow.laid W) : True := trivial
end Go.Proofs.YtnmhjndjfblebaaGreatDoor.DTabsFnMergeReplaced
namespace Go.Proofs.YtnmhjndjfblebaaGreatDoor.RowKit
open Go.RowKit Go.ChangeShapes Go.WideShapes Go.ChangeAt Go.Proofs.YtnmhjndjfblebaaGreatDoorW.PrintWords Go.Proofs.YtnmhjndjfblebaaGreatDoorW.PrintLast Go.Proofs.YtnmhjndjfblebaaGreatDoor.Str Go.Proofs.YtnmhjndjfblebaaGreatDoor.Kit Go.Proofs.YtnmhjndjfblebaaGreatDoor.PS Go.Proofs.YtnmhjndjfblebaaGreatDoor.Tr
theorem addr_add (a : Addr) (i j : Nat) : (a.add i).add j = a.add (i + j) := by
 unfold Addr.add
 by_cases h : i = 0
 ·subst h; simp
 ·by_cases k : j = 0
  ·subst k; simp
  ·simp [h,k,Nat.add_assoc]
theorem agg_of {v : Value} {l : List Value} (h : v.cells.toList = l) (hl : 2 ≤ l.length) : v = .agg l.toArray := by
 cases v with
 | agg cs =>
  have : cs.toList = l := by simpa [Value.cells] using h
  rw [← this]
 | _ =>
  exfalso
  have := congrArg List.length h
  simp [Value.cells] at this
  omega
theorem weightsAll_in {H : Type} {P : Program} {e : TypeId} : ∀ {l : List (DataW H)} {d : DataW H}, d ∈ l → ∀ n ∈ d.weights P e,n ∈ DataW.weightsAll P e l
 | [], _,h, _, _ => by cases h
 | x :: r,d,h,n,hn => by
  simp only [DataW.weightsAll,List.mem_append]
  rcases List.mem_cons.1 h with rfl | h
  ·exact .inl hn
  ·exact .inr (weightsAll_in h n hn)
theorem row_of {α : Type} {R : Nat → α → Prop} : ∀ (len : Nat),(∀ i,i < len → ∃ p,R i p) → ∃ xs : List α,xs.length = len ∧ ∀ (i : Nat) (hi : i < xs.length),R i xs[i]
 | 0, _ => ⟨[],rfl,fun i hi => absurd hi (by simp)⟩
 | m + 1,each => by
  obtain ⟨xs,hx,hg⟩ := row_of m (fun i hi => each i (by omega)); obtain ⟨p,hp⟩ := each m (by omega); refine ⟨xs ++ [p],by simp [hx],fun i hi => ?_⟩
  by_cases h : i < xs.length
  ·rw [List.getElem_append_left h]; exact hg i h
  ·have : i = m := by simp at hi; omega
   subst this; subst hx
   simpa using hp
theorem list5 {α : Type} {cs : List α} (h : cs.length = 5) : ∃ a b c d e,cs = [a,b,c,d,e] := by
 match cs,h with
 | [a,b,c,d,e], _ => exact ⟨a,b,c,d,e,rfl⟩
section
variable {H : Type} {enc : TypeId × Value → H} {W : World} {base : Nat} {spare : Nat → Bool} {held : Bool}
theorem strs_small {d : DataW H} {ps : List MemPlace} {fuel : Nat} {v : Value} (hf : DataW.trod enc Tryz.prog W base spare held fuel 22 [v] = some (d,ps)) (hw : ∀ n ∈ d.weights Tryz.prog 22,n ≤ reachBytes) :
  ∃ A c xs,v = .slice A xs.length c ∧ xs.length ≤ c ∧ Kd.string.C W A xs.length xs ∧ (∀ s,s ∈ xs → s.size ≤ maxLen) ∧ xs.length ≤ 8796093022000 := by
 rcases DataW.trod_slice Tryz.underlying22 hf with ⟨hcs,hx⟩ | ⟨ad,l,c,elems,rest,n, _,hcs,hx, _,hl,hm,hlen, _, _, _⟩
 ·have hv : v = .slice none 0 0 := by simpa using hcs
  subst hv; exact ⟨none,0, [],rfl,Nat.le_refl _,⟨rfl,by simp,fun h => absurd h (by simp)⟩,(fun s h => absurd h (by simp)),by simp⟩
 ·have hv : v = .slice (some ad) l c := by simpa using hcs
  subst hv
  have hT : DataW.Trod enc Tryz.prog W base spare held 22 (.slice (some ad) l c) d ps := ⟨fuel,by simpa [Value.cells] using hf⟩
  obtain ⟨xs,hxl,hle,hC,hd⟩ := strs_arg Tryz.underlying22 Tryz.underlying9 (by kernel_rfl) hT; subst hxl; refine ⟨some ad,c,xs,rfl,hle,hC,fun s hs => ?_, ?_⟩
  ·rcases hd with ⟨_,rfl⟩ | ⟨rest,rfl⟩
   ·cases hs
   ·have h1 := hw s.data.toList.length (by
     simp only [DataW.weights,Tryz.underlying22,List.mem_cons,List.mem_append]; refine .inr (.inl (weightsAll_in (d := .lit (.string s.data.toList)) ?_ _ (by simp only [DataW.weights,List.mem_singleton])))
     unfold strs
     exact List.mem_map.2 ⟨s,hs,rfl⟩)
    have h2 : s.data.toList.length = s.size := by rw [Array.length_toList]; rfl
    unfold reachBytes at h1
    unfold maxLen
    omega
  ·rcases hd with ⟨_,rfl⟩ | ⟨rest,rfl⟩
   ·simp
   ·have h1 := hw _ (by
     simp only [DataW.weights,Tryz.underlying22,List.mem_cons]
     exact .inl rfl)
    have hb : Tryz.prog.bytesOf 9 = 16 := by kernel_rfl
    have h3 : (strs xs : List (DataW H)).length = xs.length := by simp [strs]
    rw [hb,h3] at h1
    unfold reachBytes at h1
    omega
theorem val_trod : ∀ (fuel : Nat) (cs : List Value) (d : DataW H) (ps : List MemPlace),DataW.trod enc Tryz.prog W base spare held fuel 25 cs = some (d,ps) → (∀ n ∈ d.weights Tryz.prog 25,n ≤ reachBytes) →
  ∃ x : VS,kS.K W x cs ∧ SmallS x := by
 intro fuel
 induction fuel using Nat.strongRecOn with
 | _ fuel ih =>
  intro cs d ps h hw; obtain ⟨xs,n,hfu,hx,hl,hxl,hf⟩ := DataW.trod_struct Tryz.underlying25 h
  have hc5 : Tryz.prog.cellsOf 25 = 5 := by kernel_rfl
  rw [hc5] at hl; obtain ⟨v0,v1,v2,v3,v4,rfl⟩ := list5 hl; simp only [Prod.mk.injEq] at hx; obtain ⟨rfl, _⟩ := hx; have hxl5 : xs.length = 5 := hxl; obtain ⟨y0,y1,y2,y3,y4,rfl⟩ := list5 hxl5
  have c1 : Tryz.prog.cellsOf 3 = 1 := by kernel_rfl
  have c2 : Tryz.prog.cellsOf 9 = 1 := by kernel_rfl
  have c3 : Tryz.prog.cellsOf 22 = 1 := by kernel_rfl
  have c4 : Tryz.prog.cellsOf 23 = 1 := by kernel_rfl
  have f0 : DataW.trod enc Tryz.prog W base spare held n 3 [v0] = some y0 := by
   have h_ : DataW.trod enc Tryz.prog W base spare held n 3 (([v0,v1,v2,v3,v4].drop 0).take (Tryz.prog.cellsOf 3)) = some y0 := hf 0 _ rfl; rw [c1] at h_; exact h_
  have f1 : DataW.trod enc Tryz.prog W base spare held n 3 [v1] = some y1 := by
   have h_ : DataW.trod enc Tryz.prog W base spare held n 3 (([v0,v1,v2,v3,v4].drop 1).take (Tryz.prog.cellsOf 3)) = some y1 := hf 1 _ rfl; rw [c1] at h_; exact h_
  have f2 : DataW.trod enc Tryz.prog W base spare held n 9 [v2] = some y2 := by
   have h_ : DataW.trod enc Tryz.prog W base spare held n 9 (([v0,v1,v2,v3,v4].drop 2).take (Tryz.prog.cellsOf 9)) = some y2 := hf 2 _ rfl; rw [c2] at h_; exact h_
  have f3 : DataW.trod enc Tryz.prog W base spare held n 22 [v3] = some y3 := by
   have h_ : DataW.trod enc Tryz.prog W base spare held n 22 (([v0,v1,v2,v3,v4].drop 3).take (Tryz.prog.cellsOf 22)) = some y3 := hf 3 _ rfl; rw [c3] at h_; exact h_
  have f4 : DataW.trod enc Tryz.prog W base spare held n 23 [v4] = some y4 := by
   have h_ : DataW.trod enc Tryz.prog W base spare held n 23 (([v0,v1,v2,v3,v4].drop 4).take (Tryz.prog.cellsOf 23)) = some y4 := hf 4 _ rfl; rw [c4] at h_; exact h_
  have hwE : ∀ (j : Nat) (t : TypeId) (e : DataW H), [3,3,9,22,23][j]? = some t → [y0.1,y1.1,y2.1,y3.1,y4.1][j]? = some e → ∀ m ∈ e.weights Tryz.prog t,m ≤ reachBytes := by
   intro j t e ht he m hm; refine hw m ?_; simp only [DataW.weights,Tryz.underlying25]; exact DataW.weights_mem_each (ts := [3,3,9,22,23]) ht he m hm
  obtain ⟨i0,e0, _, _⟩ := DataW.trod_int Tryz.underlying3 f0; obtain ⟨i1,e1, _, _⟩ := DataW.trod_int Tryz.underlying3 f1; obtain ⟨s2,e2,hx2,hs2⟩ := DataW.trod_string Tryz.underlying9 f2
  have e0' : v0 = .int .i64 i0 := by simpa using e0
  have e1' : v1 = .int .i64 i1 := by simpa using e1
  have e2' : v2 = .string s2 := by simpa using e2
  subst e0' e1' e2'
  have hsz2 : s2.size ≤ 140737488355328 := by
   have h1 := hwE 2 _ _ rfl rfl s2.data.toList.length (by
    rw [hx2]
    simp only [DataW.weights,List.mem_singleton])
   have h2 : s2.data.toList.length = s2.size := by rw [Array.length_toList]; rfl
   unfold reachBytes at h1
   omega
  obtain ⟨A3,cc3,ks,rfl,hk3,hC3,hks,hkl⟩ := strs_small (d := y3.1) (ps := y3.2) f3 (hwE 3 _ _ rfl rfl)
  have h4 : ∃ A4 cc4, ∃ vs : List VS,v4 = .slice A4 vs.length cc4 ∧ vs.length ≤ cc4 ∧ kS.C W A4 vs.length vs ∧ vs.length ≤ 1759218604400 ∧ ∀ v,v ∈ vs → SmallS v := by
   rcases DataW.trod_slice Tryz.underlying23 f4 with ⟨hcs,hx⟩ | ⟨ad,l,c,elems,rest,m,hfm,hcs,hx, _,hl4,hm4,hlen,hel, _, _⟩
   ·have hv : v4 = .slice none 0 0 := by simpa using hcs
    subst hv; exact ⟨none,0, [],rfl,Nat.le_refl _,⟨rfl,by simp,fun h => absurd h (by simp)⟩,by simp,(fun v h => absurd h (by simp))⟩
   ·have hv : v4 = .slice (some ad) l c := by simpa using hcs
    subst hv; have hw4 := hwE 4 _ _ rfl rfl; rw [hx] at hw4; simp only [DataW.weights,Tryz.underlying23,List.mem_cons,List.mem_append] at hw4
    have hb : Tryz.prog.bytesOf 25 = 80 := by kernel_rfl
    have hlb := hw4 _ (.inl rfl); rw [hb,List.length_map,List.length_map,hlen] at hlb
    have hlb2 : l ≤ 1759218604400 := by unfold reachBytes at hlb; omega
    have each : ∀ i,i < l → ∃ p : VS,(∃ c,c.length = 5 ∧ kS.K W p c ∧ ∀ j u,c[j]? = some u → W.cell? (ad.add (i * 5 + j)) = some u) ∧ SmallS p := by
     intro i hi; have h2 := hel i hi; rw [List.getElem?_eq_getElem (by omega),hc5,Option.bind_eq_some_iff] at h2; obtain ⟨cs,h3,h4⟩ := h2; obtain ⟨_,hcl,hcell⟩ := World.cells?_some h3; obtain ⟨p,hp,hps⟩ := ih m (by omega) cs (elems[i]'(by omega)).1 (elems[i]'(by omega)).2 h4 (fun q hq => hw4 q (.inr (.inl (weightsAll_in (List.mem_map.2 ⟨_,List.getElem_mem (by omega),rfl⟩) q hq)))); refine ⟨p,⟨cs,hcl,hp,fun j u hu => ?_⟩,hps⟩
     have hj : j < 5 := by rw [← hcl]; exact (List.getElem?_eq_some_iff.1 hu).1
     rw [← addr_add,hcell j hj]; exact hu
    obtain ⟨vs,hvl,hvs⟩ := row_of l each; subst hvl; refine ⟨some ad,c,vs,rfl,hl4,⟨rfl,by unfold maxLen at hm4; omega,fun _ => ⟨ad,rfl,fun j p hp => ?_⟩⟩,hlb2,fun v hv => ?_⟩
    ·obtain ⟨hj,rfl⟩ := List.getElem?_eq_some_iff.1 hp; exact (hvs j hj).1
    ·obtain ⟨i,hi,rfl⟩ := List.getElem_of_mem hv; exact (hvs i hi).2
  obtain ⟨A4,cc4,vs,rfl,hv4,hC4,hvl,hvs⟩ := h4; exact ⟨⟨i0,i1,s2,ks,vs⟩,k25_mk W ⟨i0,i1,s2,ks,vs⟩ hk3 hC3 hv4 hC4, .mk _ hsz2 hks hkl hvl hvs⟩
theorem val_arg {v : Value} {d : DataW H} {ps : List MemPlace} (h : DataW.Trod enc Tryz.prog W base spare held 25 v d ps) (hw : ∀ n ∈ d.weights Tryz.prog 25,n ≤ reachBytes) :
  ∃ (x : VS) (A3 A4 : Option Addr) (c3 c4 : Nat),v.cells.toList = [.int .i64 x.f0, .int .i64 x.f1, .string x.f2, .slice A3 x.f3.length c3, .slice A4 x.f4.length c4] ∧ x.f3.length ≤ c3 ∧ Kd.string.C W A3 x.f3.length x.f3 ∧ x.f4.length ≤ c4 ∧ kS.C W A4 x.f4.length x.f4 ∧ SmallS x := by
 obtain ⟨fuel,hf⟩ := h; obtain ⟨x,hx,hs⟩ := val_trod fuel _ d ps hf hw; obtain ⟨A3,c3,A4,c4,e,l3,g3,l4,g4⟩ := k25_open hx; exact ⟨x,A3,A4,c3,c4,e,l3,g3,l4,g4,hs⟩
end
end Go.Proofs.YtnmhjndjfblebaaGreatDoor.RowKit
