/- Parts of the proof, laid together: OmitItems, Index, ReplAll, RangeSetA, Omit, OmitMap, Ends, QSpecSame, PureSame, Gives, OmitTop, QSpecNormFull, NormFull, Name, NormAwake, FromTo, RowKit, ValArg, ValUp. -/
import Derived.Test.YtmpmekliaicecaaDoorO6
import Derived.Test.YtmpmekliaicecaaDoorO3
import Derived.Test.YtmpmekliaicecaaDoorO1
import Derived.Test.YtmpmekliaicecaaDoorO2
import Derived.Lib.OthersKept
import Derived.BigCall
import Derived.Test.YtmpmekliaicecaaDoorRows
import Derived.ProofKit
import Derived.OpenShut
import Derived.ShutString
import Derived.ChangeOld
import Derived.Below
import Derived.SizedLaws
import Derived.SliceStrings
set_option linter.unusedVariables false
set_option linter.unusedSimpArgs false
namespace Go.Proofs.YtmpmekliaicecaaDoor.Tr
open Go.RowKit Go.Proofs.YtmpmekliaicecaaDoorW.PrintWords Go.Proofs.YtmpmekliaicecaaDoorW.PrintLast Go.Proofs.YtmpmekliaicecaaDoor.Str Go.Proofs.YtmpmekliaicecaaDoor.Kit Go.Proofs.YtmpmekliaicecaaDoor.MapV Go.Proofs.YtmpmekliaicecaaDoor.Frame Go.Proofs.YtmpmekliaicecaaDoor.PS
def Fst (zs : List En) (i : Nat) (k : Nat) : Prop := ∃ j, ∃ h : j < zs.length, j < i ∧ (zs[j]'h).2.2 k
theorem far_at {zs : List En} (h : zs.Pairwise En.far) {i j : Nat} (hi : i < zs.length) (hj : j < zs.length) (hne : i ≠ j) : En.far (zs[i]'hi) (zs[j]'hj) := by
 rcases Nat.lt_or_gt_of_ne hne with h1 | h1
 ·exact List.pairwise_iff_getElem.1 h i j hi hj h1
 ·exact far_symm (List.pairwise_iff_getElem.1 h j i hj hi h1)
structure ItemsAt (w : World) (zs : List En) (i : Nat) (wr : World) (g : Option Nat) (zs' : List En) : Prop where
 len : zs'.length = i
 hy : zs'.map (fun z => z.2.1) = (zs.take i).map (fun z => z.2.1)
 hz : ∀ z, z ∈ zs' → AR wr z.1 z.2.1 z.2.2
 hd : zs'.Pairwise En.far
 hF : ∀ z, z ∈ zs' → ∀ k, z.2.2 k → Fst zs i k ∨ (w.heap.size ≤ k ∧ k < wr.heap.size ∧ some k ≠ g)
 ht : Turns (Fst zs i) w wr
theorem ItemsAt.start (w : World) (zs : List En) (wr : World) (g : Option Nat) (ht : Below w.heap.size w wr) : ItemsAt w zs 0 wr g [] :=
 ⟨rfl, rfl, fun z h => (by cases h), List.Pairwise.nil, fun z h => (by cases h), (Turns.of_below (F := fun _ => False) ht).mono (fun k _ h => h.elim)⟩
theorem ItemsAt.below {w : World} {zs : List En} {i : Nat} {wr w3 : World} {g : Option Nat} {zs' : List En} (h : ItemsAt w zs i wr g zs') (hb : Below wr.heap.size wr w3) (hF0 : ∀ z, z ∈ zs → ∀ k, z.2.2 k → k < w.heap.size) : ItemsAt w zs i w3 g zs' := by
 have lt : ∀ k, Fst zs i k → k < w.heap.size := fun k ⟨j, hj, _, h2⟩ => hF0 _ (List.getElem_mem hj) k h2
 refine ⟨h.len, h.hy, fun z hz => (h.hz z hz).move (fun k hk => hb.block k ?_), h.hd, fun z hz k hk => ?_, h.ht.trans (Turns.of_below (F := fun _ => False) hb) (fun j hj h1 => h1.elim)⟩
 ·rcases h.hF z hz k hk with h1 | h1
  ·have := lt k h1; have := h.ht.size; omega
  ·exact h1.2.1
 ·rcases h.hF z hz k hk with h1 | h1
  ·exact .inl h1
  ·exact .inr ⟨h1.1, Nat.lt_of_lt_of_le h1.2.1 hb.size, h1.2.2⟩
theorem ItemsAt.next {w : World} {zs : List En} {i : Nat} {wr : World} {g : Option Nat} {zs' : List En} (h : ItemsAt w zs i wr g zs') (hd : zs.Pairwise En.far) (hF0 : ∀ z, z ∈ zs → ∀ k, z.2.2 k → k < w.heap.size) (hi : i < zs.length) (hA : AR w (zs[i]'hi).1 (zs[i]'hi).2.1 (zs[i]'hi).2.2) : AR wr (zs[i]'hi).1 (zs[i]'hi).2.1 (zs[i]'hi).2.2 :=
 hA.move (fun k hk => h.ht.block k (hF0 _ (List.getElem_mem hi) k hk) (fun ⟨j, hj, h1, h2⟩ => far_at hd hi hj (by omega) k hk h2))
theorem ItemsAt.step {w : World} {zs : List En} {i : Nat} {w3 w4 w5 : World} {g g' : Option Nat} {zs' : List En} (h : ItemsAt w zs i w3 g zs') (hd : zs.Pairwise En.far) (hF0 : ∀ z, z ∈ zs → ∀ k, z.2.2 k → k < w.heap.size) (hi : i < zs.length)
  {v : Value} (hA : AR w4 v (zs[i]'hi).2.1 (fun k => (zs[i]'hi).2.2 k ∨ (w3.heap.size ≤ k ∧ k < w4.heap.size))) (ht : Turns (zs[i]'hi).2.2 w3 w4) (hg0 : ∀ k, g = some k → w.heap.size ≤ k ∧ k < w3.heap.size) (hg : w4.grownBy w5 g) (hgg : g' = g ∨ ∃ b, g' = some b ∧ w4.heap.size ≤ b) :
  ItemsAt w zs (i + 1) w5 g' (zs' ++ [(v, (zs[i]'hi).2.1, fun k => (zs[i]'hi).2.2 k ∨ (w3.heap.size ≤ k ∧ k < w4.heap.size))]) := by
 have lt : ∀ k, Fst zs i k → k < w.heap.size := fun k ⟨j, hj, _, h2⟩ => hF0 _ (List.getElem_mem hj) k h2
 have lti : ∀ k, (zs[i]'hi).2.2 k → k < w.heap.size := hF0 _ (List.getElem_mem hi); have s03 := h.ht.size; have s34 := ht.size; have s45 := hg.size
 have gne : ∀ k, k < w.heap.size → some k ≠ g := fun k hk e => by have := hg0 k e.symm; omega
 have gne' : ∀ k, k < w4.heap.size → some k ≠ g → some k ≠ g' := fun k hk hn e => by
  rcases hgg with h1 | ⟨b, h1, h2⟩
  ·exact hn (e.trans h1)
  ·have := e.trans h1
   injection this with this
   omega
 have up : ∀ k, Fst zs i k → Fst zs (i + 1) k := fun k ⟨j, hj, h1, h2⟩ => ⟨j, hj, by omega, h2⟩
 have keep : ∀ z, z ∈ zs' → ∀ k, z.2.2 k → w5.heap[k]? = w3.heap[k]? := fun z hz k hk => by
  have h1 : k < w3.heap.size ∧ ¬ (zs[i]'hi).2.2 k ∧ some k ≠ g := by
   rcases h.hF z hz k hk with h1 | h1
   ·refine ⟨by have := lt k h1; omega, fun h2 => ?_, gne k (lt k h1)⟩; obtain ⟨j, hj, h3, h4⟩ := h1; exact far_at hd hi hj (by omega) k h2 h4
   ·exact ⟨h1.2.1, fun h2 => by have := lti k h2; omega, h1.2.2⟩
  exact (hg.block k (by omega) (fun e => h1.2.2 e)).trans (ht.block k h1.1 h1.2.1)
 refine ⟨by rw [List.length_append, h.len]; rfl, ?_, fun z hz => ?_, ?_, fun z hz k hk => ?_, ?_⟩
 ·rw [List.map_append, h.hy, List.take_succ_eq_append_getElem hi, List.map_append]; rfl
 ·rcases List.mem_append.1 hz with hz | hz
  ·exact (h.hz z hz).move (keep z hz)
  ·simp only [List.mem_singleton] at hz; subst hz; refine hA.move (fun k hk => hg.block k ?_ (fun e => ?_))
   ·rcases hk with hk | hk
    ·have := lti k hk; omega
    ·exact hk.2
   ·rcases hk with hk | hk
    ·exact gne k (lti k hk) e
    ·have := hg0 k e.symm
     omega
 ·refine List.pairwise_append.2 ⟨h.hd, by simp, fun a ha b hb k hk hk2 => ?_⟩; simp only [List.mem_singleton] at hb; subst hb
  rcases h.hF a ha k hk with h1 | h1
  ·rcases hk2 with h2 | h2
   ·obtain ⟨j, hj, h3, h4⟩ := h1; exact far_at hd hi hj (by omega) k h2 h4
   ·have := lt k h1; omega
  ·rcases hk2 with h2 | h2
   ·have := lti k h2; omega
   ·omega
 ·rcases List.mem_append.1 hz with hz | hz
  ·rcases h.hF z hz k hk with h1 | h1
   ·exact .inl (up k h1)
   ·exact .inr ⟨h1.1, by omega, gne' k (by omega) h1.2.2⟩
  ·simp only [List.mem_singleton] at hz; subst hz
   rcases hk with hk | hk
   ·exact .inl ⟨i, hi, by omega, hk⟩
   ·refine .inr ⟨by omega, by omega, gne' k (by omega) (fun e => by have := hg0 k e.symm; omega)⟩
 ·refine ⟨?_, ?_, ?_, by omega, fun k hk hn => ?_⟩
  ·exact hg.os.trans (ht.os.trans h.ht.os)
  ·exact hg.tape.trans (ht.tape.trans h.ht.tape)
  ·exact hg.output.trans (ht.output.trans h.ht.output)
  ·have h1 : ¬ Fst zs i k := fun h2 => hn (up k h2)
   have h2 : ¬ (zs[i]'hi).2.2 k := fun h2 => hn ⟨i, hi, by omega, h2⟩
   exact (hg.block k (by omega) (fun e => gne k hk e)).trans ((ht.block k (by omega) h2).trans (h.ht.block k hk h1))
end Go.Proofs.YtmpmekliaicecaaDoor.Tr
namespace Go.Proofs.YtmpmekliaicecaaDoor.Index
open Go.RowKit Go.Proofs.YtmpmekliaicecaaDoorW.PrintWords Go.Proofs.YtmpmekliaicecaaDoor.Str Go.Proofs.YtmpmekliaicecaaDoor.Kit
set_option maxHeartbeats 400000 in
theorem tree_zzIndex (s sub : ByteArray) (w : World) (hs : s.size ≤ 281474976710656) (hb : sub.size ≤ 281474976710656) :
  Calls Tryd.prog 67 #[.string s, .string sub] w fun e w' => e = .returned (.int .i64 (findI (lb sub) (lb s))) ∧ Drawn0 w w' := by
 go_enter Tryd.func67, Tryd.ntmps67
 go_wp2
 go_loopw [5] (fun v5 wr => ∃ j : Nat, v5 = .int .i64 j ∧ j ≤ s.size ∧ Aside0 (At (lb sub) (lb s) j) ∧ Drawn0 w wr) (fun v5 _ => s.size + 1 - (intOf v5).toNat)
 case atStart => exact ⟨0, rfl, by omega, ⟨At.start _ _⟩, Drawn0.refl _⟩
 case round =>
  obtain ⟨j, rfl, hj, HA, HD⟩ := hrel
  by_cases hlt : (j : Int) + (sub.size : Int) ≤ (s.size : Int)
  ·have hm : j + sub.size ≤ s.size := by omega
   have q1 : (j : Int) ≤ (j : Int) + (sub.size : Int) := by omega
   have q0 : (0 : Int) ≤ (j : Int) := by omega
   by_cases e : (s.extract j (j + sub.size)).toList = sub.toList
   ·have e1 : ((s.extract j (j + sub.size)).toList == sub.toList) = true := beq_iff_eq.mpr e; have hit := HA.out.hit (by rw [yk, yk]; exact hm) (by rw [yk, ← lb_piece, ← xa, ← xa]; exact e); have Hit := aM hit; clear e hit
    go_wp2
    go_ret
    exact ⟨by rw [Hit.out]; rfl, by repeat (first | exact HD | apply Drawn0.step)⟩
   ·have e1 : ((s.extract j (j + sub.size)).toList == sub.toList) = false := beq_eq_false_iff_ne.mpr e; have nxt := HA.out.next (by rw [yk, yk]; exact hm) (by rw [yk, ← lb_piece, ← xa, ← xa]; exact e)
    have hj1 : j + 1 ≤ s.size := by have := nxt.1; rw [yk] at this; exact this
    have Nxt := aM nxt; clear e nxt
    go_wp2
    go_roundw
    case rel => exact ⟨j + 1, by go_num, by omega, Nxt, by repeat (first | exact HD | apply Drawn0.step)⟩
    case measure => simp [intOf]; omega
  ·have miss := HA.out.miss (by rw [yk, yk]; omega); have Miss := aM miss; have d : decide ((j : Int) + (sub.size : Int) ≤ (s.size : Int)) = false := decide_eq_false hlt; clear miss hlt
   go_wp2
   go_ret
   exact ⟨by rw [Miss.out]; rfl, by repeat (first | exact HD | apply Drawn0.step)⟩
end Go.Proofs.YtmpmekliaicecaaDoor.Index
namespace Go.Proofs.YtmpmekliaicecaaDoor.Tr
open Go.RowKit Go.Proofs.YtmpmekliaicecaaDoorW.PrintWords Go.Proofs.YtmpmekliaicecaaDoorW.PrintLast Go.Proofs.YtmpmekliaicecaaDoor.Str Go.Proofs.YtmpmekliaicecaaDoor.Kit Go.Proofs.YtmpmekliaicecaaDoor.Frame
open Go.Proofs.YtmpmekliaicecaaDoor.Index (tree_zzIndex)
def ghost : ByteArray := ⟨#[240, 159, 145, 187]⟩
def strSz : Value → Nat
 | .string s => s.size
 | _ => 0
set_option maxHeartbeats 1600000 in
theorem replace_any (k : ByteArray) (w : World) (hs : k.size ≤ 4398046511104) : Calls Tryd.prog 47 #[.string k, .string ⟨#[46]⟩, .string ⟨#[240, 159, 145, 187]⟩] w fun e w' => ∃ t : ByteArray, e = .returned (.string t) ∧ t.size ≤ 4 * k.size ∧ Below w.heap.size w w' := by
 have HB := aM (Below.refl w.heap.size w)
 go_enter Tryd.func47, Tryd.ntmps47
 go_wp2
 go_loopw [0, 7, 10] (fun v0 v7 v10 wr => ∃ (s : ByteArray) (l : Bs), v0 = .string s ∧ s.size ≤ 4398046511104 ∧ l.length + 4 * s.size ≤ 4 * k.size ∧ Aside0 (Buf wr w.heap.size v7 l) ∧ Aside0 (Below w.heap.size w wr)) (fun v0 _ _ _ => strSz v0)
 case atStart => exact ⟨k, [], rfl, hs, by simp, ⟨Buf.nil _ _⟩, HB⟩
 case round =>
  clear HB; obtain ⟨s, l, rfl, hss, hl, HO, HB⟩ := hrel
  cases hf : find [46] (lb s) with
  | none =>
   have hfi : findI [46] (lb s) = -1 := by rw [findI, hf]
   have Hfi := aM hfi; clear hf hfi
   go_wp2_with fail
   refine (tree_zzIndex s ⟨#[46]⟩ _ (by omega) (by show 1 ≤ _; omega)).mono ?_; rintro e w1 ⟨rfl, hd⟩; rw [show lb ⟨#[46]⟩ = [46] from rfl, Hfi.out]; have HB1 := aM (yq HB.out hd.below); have HO1 := aM (HO.out.below hd.below); have HLL := aM (show l.length + s.size ≤ 140737488355328 by omega); clear hd HB HO
   go_wp2_with (at_builtin; refine append_bufS _ _ rfl rfl rfl rfl HO1.out HB1.out HLL.out ?_; intro v1 w2 ho hb hg; have HB2 := aM hb; have hst := ho.string; clear ho hg hb)
   go_ret
   refine ⟨_, rfl, ?_, HB2.out⟩; rw [← yk, lb_mk, List.length_append, yk]
   omega
  | some i =>
   have hfi : findI [46] (lb s) = i := by rw [findI, hf]
   have hi := (find_some hf).1; rw [yk] at hi; have hi2 : i + 1 ≤ s.size := hi; have Hfi := aM hfi; clear hf hfi hi
   go_wp2_with fail
   refine (tree_zzIndex s ⟨#[46]⟩ _ (by omega) (by show 1 ≤ _; omega)).mono ?_; rintro e w1 ⟨rfl, hd⟩; rw [show lb ⟨#[46]⟩ = [46] from rfl, Hfi.out]; have HB1 := aM (yq HB.out hd.below); have HO1 := aM (HO.out.below hd.below); clear hd HB HO
   have q0 : (0 : Int) ≤ (i : Int) := by omega
   have q1 : (i : Int) ≤ (s.size : Int) := by omega
   have q2 : ((i : Int) + 1) ≤ (s.size : Int) := by omega
   have HLL := aM (show l.length + (s.extract 0 i).size ≤ 140737488355328 by rw [ByteArray.size_extract]; omega); have HLM := aM (show (l ++ lb (s.extract 0 i)).length + ghost.size ≤ 140737488355328 by rw [List.length_append, yk, ByteArray.size_extract]; have : ghost.size = 4 := rfl; omega); have HLE := aM (show (l ++ lb (s.extract 0 i) ++ lb ghost).length + 4 * (s.extract (i + 1) s.size).size ≤ 4 * k.size by rw [List.length_append, List.length_append, yk, yk, ByteArray.size_extract, ByteArray.size_extract]; have : ghost.size = 4 := rfl; omega)
   go_wp2_with (at_builtin; first | (refine append_bufS (.tmp 54) (.tmp 57) rfl rfl rfl rfl HO1.out HB1.out HLL.out ?_; intro v1 w2 ho hb hg; have HO2 := aM ho; have HB2 := aM hb; clear ho hb hg) | (refine append_bufS (.tmp 58) (.tmp 59) rfl rfl rfl rfl HO2.out HB2.out HLM.out ?_; intro v3 w3 ho hb hg; have HO3 := aM ho; have HB3 := aM hb; clear ho hb hg))
   go_roundw
   case rel => exact ⟨_, _, rfl, by rw [ByteArray.size_extract]; omega, HLE.out, HO3, HB3⟩
   case measure => simp [strSz]; omega
set_option maxHeartbeats 800000 in
theorem next_any (p k : ByteArray) (w : World) (hp : p.size ≤ 4398046511104) (hk : k.size ≤ 4398046511104) : Calls Tryd.prog 35 #[.string p, .string k] w fun e w' => ∃ t : ByteArray, e = .returned (.string t) ∧ t.size ≤ p.size + 1 + 4 * k.size ∧ Below w.heap.size w w' := by
 have CR := aM (replace_any k w hk)
 by_cases h0 : p.toList = []
 ·have q0 : (p.toList == []) = true := by rw [h0]; rfl
  clear h0
  go_enter Tryd.func35, Tryd.ntmps35
  go_wp2
  go_ret
  exact ⟨k, rfl, by omega, Below.refl _ _⟩
 ·have q0 : (p.toList == []) = false := beq_eq_false_iff_ne.2 h0; clear h0
  go_enter Tryd.func35, Tryd.ntmps35
  go_wp2_with fail
  refine CR.out.mono ?_; rintro e w1 ⟨r, rfl, hr, hb⟩; have HB := aM hb
  have z1 : ¬ 9223372036854775807 < ByteArray.size p + 1 := by omega
  have z2 : ¬ 9223372036854775807 < ByteArray.size p + 1 + ByteArray.size r := by omega
  clear hb CR
  go_wp2
  go_ret
  exact ⟨_, rfl, by have h46 : (⟨#[46]⟩ : ByteArray).size = 1 := rfl; rw [ByteArray.size_append, ByteArray.size_append, h46]; omega, HB.out⟩
end Go.Proofs.YtmpmekliaicecaaDoor.Tr
namespace Go.Proofs.YtmpmekliaicecaaDoor.MapV
open Go.RowKit Go.Proofs.YtmpmekliaicecaaDoorW.PrintWords Go.Proofs.YtmpmekliaicecaaDoorW.PrintLast Go.Proofs.YtmpmekliaicecaaDoor.Str Go.ChangeMaps Go.MapKept Go.WideShapes Go.Maps
open Go.WideElems (Fit rd rg pl rd_key rd_val rg_of other_key rd_mk)
theorem leftOf_length (es : Array MapEntry) (seen : Array Nat) : (leftOf es seen).size = (es.toList.filter fun e => !seen.contains e.born).length := by
 unfold leftOf
 rw [← Array.toList_filter, Array.length_toList]
theorem filter_born (seen : Array Nat) : ∀ l l' : List MapEntry, l.map (·.born) = l'.map (·.born) → (l.filter fun e => !seen.contains e.born).length = (l'.filter fun e => !seen.contains e.born).length
 | [], [], _ => rfl
 | [], y :: r, h => by simp at h
 | x :: r, [], h => by simp at h
 | x :: r, y :: s, h => by
  simp only [List.map_cons, List.cons.injEq] at h; have ih := filter_born seen r s h.2; rw [List.filter_cons, List.filter_cons, h.1]
  split <;> simp only [List.length_cons, ih]
theorem ranges_set {H : Type} {P : Program} {k t e : TypeId} {R : Value → Option (DataW H × List MemPlace)} {w : World} {b r n : Nat} {D : DataW H} {left : Lit → Bool} {cnt : Nat}
  (h : w.ranges P k R b r n D left cnt) (K : Keyed P k) (ht : P.underlying t = some (.map k e)) (hn : n < maxLen) {key val : Value} {kl : Lit} {d : DataW H} {ps : List MemPlace}
  (hkey : keyOf P k key = some kl) (hv : R val = some (d, ps)) (hhas : Maps.has D kl = true) :
  ∃ w', (Instr.mapUpdate t (.map (some b)) key val).run P w = .ok () w' ∧ w'.ranges P k R b r n (D.put kl d) left cnt ∧ w.grownBy w' (some b) := by
 have hne := h.ne; obtain ⟨es, clock, since, seen, c0, hb, F, hs, rfl, hr, hold, rfl, hl1, hl2, hsc, hsk⟩ := h; obtain ⟨es', clock', hrun, F', hput, _⟩ := Maps.fit_store (R' := R) K ht hb F (Nat.lt_of_le_of_lt hs hn) (fun _ _ _ _ hz => hz) hkey hv
 rcases K.find w hkey es.toList F.keys with ⟨h1, h2⟩ | ⟨j, e0, h1, h2, h3⟩
 ·exfalso
  obtain ⟨p, hp, hpk⟩ := List.any_eq_true.1 hhas; obtain ⟨x, hx, rfl⟩ := List.mem_map.1 (mem_sorted.1 hp); obtain ⟨y, hy⟩ := F.reads x hx; have e1 := WideAt.sameKey_eq hpk; rw [rg_of hy] at e1; exact h2 x hx (K.inj (e1 ▸ rd_key hy) hkey)
 have hj : es[j]? = some e0 := by simpa using h2
 have hjl : j < es.toList.length := (List.getElem?_eq_some_iff.1 h2).1
 have hlist : (es.modify j (fun e' => { e' with key := key, val := val })).toList = es.toList.set j { e0 with key := key, val := val } := by rw [Array.toList_modify, modify_eq_set _ _ _ _ h2]
 have hrun2 : (Instr.mapUpdate t (.map (some b)) key val).run P w = .ok () (setBlock w b (.map (es.modify j (fun e' => { e' with key := key, val := val })) clock)) := by
  simp [Instr.mapUpdate, run_underlying ht, MapKept.run_getObj_map hb, K.check w false hkey, h1, hj, h3, K.stays w hkey, MapKept.run_setObj_map _ hb, Result.andThen, setBlock]
 have hsame : (some (Obj.map es' clock') : Option Obj) = some (.map (es.modify j (fun e' => { e' with key := key, val := val })) clock) := by
  have e1 : setBlock w b (.map es' clock') = setBlock w b (.map (es.modify j (fun e' => { e' with key := key, val := val })) clock) := by
   have := hrun.symm.trans hrun2
   injection this
  rw [← heap_setBlock_same hb (Obj.map es' clock'), e1, heap_setBlock_same hb]
 injection hsame with hsame
 injection hsame with he hc
 subst hc; rw [← he] at hlist; have hmk := rd_mk (R := R) (born := e0.born) hkey hv
 have hkl0 : (rg P k R e0).1 = kl := by
  obtain ⟨y, hy⟩ := F.reads e0 (List.mem_of_getElem? h2); have h4 := rd_key hy; rw [h3, hkey] at h4; rw [rg_of hy]; exact (Option.some.inj h4).symm
 have hkln : (rg P k R { e0 with key := key, val := val }).1 = kl := by rw [rg_of hmk]
 have hborn : es'.toList.map (·.born) = es.toList.map (·.born) := by
  rw [hlist, List.map_set]; refine List.ext_getElem? (fun i => ?_); rw [List.getElem?_set]
  split
  ·rename_i hij
   subst hij; rw [List.getElem?_map, h2]; simp only [List.length_map, Option.map_some]; rw [if_pos hjl]
  ·rfl
 have who : ∀ x ∈ es'.toList, x = { e0 with key := key, val := val } ∨ x ∈ es.toList := fun x hx => by
  rw [hlist] at hx
  rcases List.mem_or_eq_of_mem_set hx with h | h
  ·exact .inr h
  ·exact .inl h
 refine ⟨_, hrun, ⟨es', clock', since, seen, c0, heap_setBlock_same hb _, F', ?_, by rw [DataW.put_eq, hput], (heap_setBlock_other hb _ hne).trans hr, fun x hx => ?_, ?_, fun x hx => ?_, fun x0 hx0 => ?_, hsc, hsk⟩, ⟨rfl, rfl, rfl, by simp [setBlock], fun i _ hi => heap_setBlock_other hb _ (fun e => hi (by rw [e]))⟩⟩
 ·have : es'.size = es.size := by
   rw [← Array.length_toList, hlist, List.length_set, Array.length_toList]
  omega
 ·rcases who x hx with rfl | hx
  ·exact hold e0 (List.mem_of_getElem? h2)
  ·exact hold x hx
 ·rw [leftOf_length, leftOf_length]; exact filter_born seen _ _ hborn
 ·rcases who x hx with rfl | hx
  ·rw [hkln, ← hkl0]; exact hl1 e0 (List.mem_of_getElem? h2)
  ·exact hl1 x hx
 ·obtain ⟨x, hx, rfl⟩ := hl2 x0 hx0; obtain ⟨i, hi, ex⟩ := List.getElem_of_mem hx
  by_cases hij : j = i
  ·subst hij
   have : x = e0 := by
    have := List.getElem?_eq_getElem hi; rw [h2, ex] at this; exact (Option.some.inj this).symm
   subst this; exact ⟨{ x with key := key, val := val }, by rw [hlist]; exact List.mem_set hjl _, by rw [hkln, hkl0]⟩
  ·refine ⟨x, ?_, rfl⟩; rw [hlist, List.mem_iff_getElem]; exact ⟨i, by simpa using hi, by rw [List.getElem_set_ne hij]; exact ex⟩
section
variable {P : Program} {k e t : TypeId} {α : Type} {enc : α → Value} {w : World} {b r : Nat} {f left : List (Bs × α)}
variable {ops : Array Oper} {rest : List Oper} {o : Oper} {a : Act} {Q : Exit → Act → World → Prop}
theorem ranges_norm {n cnt : Nat} {l : List (Lit × DataW Value)} {lf : Lit → Bool} (h : w.ranges P k heldR b r n (.map l) lf cnt) : w.ranges P k heldR b r l.length (.map l) lf cnt := by
 obtain ⟨es, clock, since, seen, c0, hb, F, hs, hD, rest⟩ := h; refine ⟨es, clock, since, seen, c0, hb, F, ?_, hD, rest⟩
 injection hD with hD
 rw [hD, length_sorted, List.length_map, Array.length_toList]; exact Nat.le_refl _
theorem filter_mins {q : Bs × α → Bool} {x : Bs × α} (hq : q x = false) : ∀ l : List (Bs × α), (mins x l).filter q = l.filter q
 | [] => by simp [mins, hq]
 | y :: r => by
  unfold mins
  split
  ·rw [List.filter_cons, hq]; rfl
  ·rw [List.filter_cons, List.filter_cons, filter_mins hq r]
theorem filter_mput {q : Bs × α → Bool} {key : Bs} {y : α} (hq : ∀ v, q (key, v) = false) (f : List (Bs × α)) : (mput f key y).filter q = f.filter q := by
 unfold mput
 rw [filter_mins (hq y)]
 unfold mdel
 rw [List.filter_filter]; refine List.filter_congr (fun p _ => ?_); obtain ⟨pk, pv⟩ := p
 by_cases h : pk = key
 ·subst h; rw [hq]; rfl
 ·have : (pk == key) = false := by simpa using h
  show (q (pk, pv) && !(pk == key)) = q (pk, pv)
  rw [this, Bool.not_false, Bool.and_true]
theorem store_rangesE (hk : P.underlying k = some .string) (ht : P.underlying t = some (.map k e)) (hg : o.guard = none) (m x v : Operand) (hop : o.op = Op.mapUpdate t m x v)
  (hm : a.eval m = .map (some b)) (h : Ranges P k enc w b r f left) (hn : f.length < maxLen) {s : ByteArray} {y : α} (hx : a.eval x = .string s) (hs : s.size ≤ maxLen) (hv : a.eval v = enc y)
  (hhas : (mget f (lb s)).isSome = true) (hlf : ∀ p ∈ left, p.1 ≠ lb s)
  (hK : ∀ w', Ranges P k enc w' b r (mput f (lb s) y) left → w.grownBy w' (some b) → w'.rangeLeft b r = w.rangeLeft b r → wpList P ops Q rest (a.put o.dst undef) w') : wpList P ops Q (o :: rest) a w := by
 obtain ⟨lf, cnt, h, rfl⟩ := h
 refine wpList_plain hg fun K' hK' => ?_
 obtain ⟨w', hrun, r1, r2⟩ := ranges_set h (Go.Maps.string_keyed hk) ht hn (keyOf_s hk hs) (val := enc y) (d := .held (enc y)) (ps := []) rfl (by rw [ent_has]; exact hhas)
 unfold Oper.wp
 simp [execOp, hop, hm, hx, hv, hrun, Result.andThen]
 refine hK' _ _ (hK w' ⟨lf, cnt, ?_, ?_⟩ r2 (by rw [r1.left_eq, h.left_eq]))
 ·rw [ent_put] at r1; have := ranges_norm r1; rw [List.length_map] at this; exact this
 ·obtain ⟨c, hc⟩ := Option.isSome_iff_exists.1 hhas; have hmem := mget_some hc; refine (filter_mput (fun v => ?_) f).symm
  cases hq : lf (.string (lb s))
  ·rfl
  ·exact absurd rfl (hlf (lb s, c) (List.mem_filter.2 ⟨hmem, hq⟩))
end
end Go.Proofs.YtmpmekliaicecaaDoor.MapV
namespace Go.Proofs.YtmpmekliaicecaaDoor.Tr
open Go.RowKit Go.Proofs.YtmpmekliaicecaaDoorW.PrintWords Go.Proofs.YtmpmekliaicecaaDoorW.PrintLast Go.Proofs.YtmpmekliaicecaaDoor.Str Go.Proofs.YtmpmekliaicecaaDoor.Kit Go.Proofs.YtmpmekliaicecaaDoor.MapV Go.Proofs.YtmpmekliaicecaaDoor.Frame Go.Proofs.YtmpmekliaicecaaDoor.PS
theorem o_bool_str (v : Value) (w : World) : (Instr.typeAssert (.iface 4 v) 20 9 true).run Tryd.prog w = .ok (.tuple #[.string ⟨#[]⟩, .bool false]) w := by kernel_rfl
theorem o_bool_map (v : Value) (w : World) : (Instr.typeAssert (.iface 4 v) 20 45 true).run Tryd.prog w = .ok (.tuple #[.map none, .bool false]) w := by kernel_rfl
theorem o_bool_lst (v : Value) (w : World) : (Instr.typeAssert (.iface 4 v) 20 58 true).run Tryd.prog w = .ok (.tuple #[.slice none 0 0, .bool false]) w := by kernel_rfl
theorem o_int_str (v : Value) (w : World) : (Instr.typeAssert (.iface 3 v) 20 9 true).run Tryd.prog w = .ok (.tuple #[.string ⟨#[]⟩, .bool false]) w := by kernel_rfl
theorem o_int_map (v : Value) (w : World) : (Instr.typeAssert (.iface 3 v) 20 45 true).run Tryd.prog w = .ok (.tuple #[.map none, .bool false]) w := by kernel_rfl
theorem o_int_lst (v : Value) (w : World) : (Instr.typeAssert (.iface 3 v) 20 58 true).run Tryd.prog w = .ok (.tuple #[.slice none 0 0, .bool false]) w := by kernel_rfl
theorem o_str_str (v : Value) (w : World) : (Instr.typeAssert (.iface 9 v) 20 9 true).run Tryd.prog w = .ok (.tuple #[v, .bool true]) w := by kernel_rfl
theorem o_str_map (v : Value) (w : World) : (Instr.typeAssert (.iface 9 v) 20 45 true).run Tryd.prog w = .ok (.tuple #[.map none, .bool false]) w := by kernel_rfl
theorem o_str_lst (v : Value) (w : World) : (Instr.typeAssert (.iface 9 v) 20 58 true).run Tryd.prog w = .ok (.tuple #[.slice none 0 0, .bool false]) w := by kernel_rfl
theorem o_map_str (v : Value) (w : World) : (Instr.typeAssert (.iface 45 v) 20 9 true).run Tryd.prog w = .ok (.tuple #[.string ⟨#[]⟩, .bool false]) w := by kernel_rfl
theorem o_map_map (v : Value) (w : World) : (Instr.typeAssert (.iface 45 v) 20 45 true).run Tryd.prog w = .ok (.tuple #[v, .bool true]) w := by kernel_rfl
theorem o_lst_str (v : Value) (w : World) : (Instr.typeAssert (.iface 58 v) 20 9 true).run Tryd.prog w = .ok (.tuple #[.string ⟨#[]⟩, .bool false]) w := by kernel_rfl
theorem o_lst_map (v : Value) (w : World) : (Instr.typeAssert (.iface 58 v) 20 45 true).run Tryd.prog w = .ok (.tuple #[.map none, .bool false]) w := by kernel_rfl
theorem o_lst_lst (v : Value) (w : World) : (Instr.typeAssert (.iface 58 v) 20 58 true).run Tryd.prog w = .ok (.tuple #[v, .bool true]) w := by kernel_rfl
theorem o_nil (T : TypeId) (v : Value) (w : World) : (binOp BinOp.eql 20 (.iface T v) .nilIface).run Tryd.prog w = .ok (.bool false) w := by kernel_rfl
set_option maxHeartbeats 800000 in
theorem isEmpty_full {w0 : World} {v : Value} {y : Y} {F : Nat → Prop} (hA : AR w0 v y F) (hy : FullY y) (w : World) : Calls Tryd.prog 33 #[v] w fun e w' => e = .returned (.bool false) ∧ w' = w := by
 have f0 := o_nil
 cases hA with
 | null => cases hy
 | bool b F =>
  have f1 := o_bool_str
  go_enter Tryd.func33, Tryd.ntmps33
  go_wp2
  go_ret
  exact ⟨rfl, rfl⟩
 | int n F =>
  have f1 := o_int_str
  go_enter Tryd.func33, Tryd.ntmps33
  go_wp2
  go_ret
  exact ⟨rfl, rfl⟩
 | text s F =>
  have f1 := o_str_str
  have hs : (s.toList == []) = false := by
   cases hy with
   | text _ h => exact beq_eq_false_iff_ne.2 h
  clear hy
  go_enter Tryd.func33, Tryd.ntmps33
  go_wp2
  go_ret
  exact ⟨rfl, rfl⟩
 | list v zs ys F h1 h2 h3 h4 h5 h6 =>
  have f1 := o_lst_str; clear h1 h2 h3 h4 h5 h6 hy
  go_enter Tryd.func33, Tryd.ntmps33
  go_wp2
  go_ret
  exact ⟨rfl, rfl⟩
 | map b zs ys F h1 h2 h3 h4 h5 h6 =>
  have f1 := o_map_str; clear h1 h2 h3 h4 h5 h6 hy
  go_enter Tryd.func33, Tryd.ntmps33
  go_wp2
  go_ret
  exact ⟨rfl, rfl⟩
theorem ar_iface {w : World} {v : Value} {y : Y} {F : Nat → Prop} (h : AR w v y F) (hy : FullY y) : ∃ T u, v = .iface T u := by
 cases h with
 | null => cases hy
 | bool => exact ⟨_, _, rfl⟩
 | int => exact ⟨_, _, rfl⟩
 | text => exact ⟨_, _, rfl⟩
 | list => exact ⟨_, _, rfl⟩
 | map => exact ⟨_, _, rfl⟩
def OmitAt (y : Y) : Prop := ∀ (v : Value) (F : Nat → Prop) (w : World) (path : BA), AR w v y F → (∀ k, F k → k < w.heap.size) → path.size + 10 * volY y ≤ 1099511627776 →
 Calls Tryd.prog 26 #[v, .string path] w fun e w' => ∃ v', e = .returned v' ∧ AR w' v' y (fun k => F k ∨ (w.heap.size ≤ k ∧ k < w'.heap.size)) ∧ Turns F w w'
theorem omit_leaf (v : Value) (y : Y) (hc : ∀ w F, AR w v y F) (h2 : ∀ w : World, (Instr.typeAssert v 20 45 true).run Tryd.prog w = .ok (.tuple #[.map none, .bool false]) w) (h3 : ∀ w : World, (Instr.typeAssert v 20 58 true).run Tryd.prog w = .ok (.tuple #[.slice none 0 0, .bool false]) w) (F : Nat → Prop) (w : World) (path : BA) :
  Calls Tryd.prog 26 #[v, .string path] w fun e w' => ∃ v', e = .returned v' ∧ AR w' v' y (fun k => F k ∨ (w.heap.size ≤ k ∧ k < w'.heap.size)) ∧ Turns F w w' := by
 have HC := aM hc; clear hc
 go_enter Tryd.func26, Tryd.ntmps26
 go_wp2
 go_ret
 exact ⟨v, rfl, HC.out _ _, Turns.refl _ _⟩
theorem cellO {w w1 : World} {b : Nat} (h : w1.heap[b]? = w.heap[b]?) (i : Nat) : w1.cell? ⟨b, i, none⟩ = w.cell? ⟨b, i, none⟩ := by simp [World.cell?, h]
set_option maxHeartbeats 6400000 in
set_option maxRecDepth 100000 in
theorem omit_list (zs : List En) (F : Nat → Prop) (A : Option Addr) (c : Nat) (w : World) (path : BA) (hul : zs.length ≤ 1759218604400) (hC : kAny.C w A zs.length (zs.map (fun z => z.1))) (hA : ∀ bk off, A = some ⟨bk, off, none⟩ → bk < w.heap.size ∧ ∀ z, z ∈ zs → ¬ z.2.2 bk) (hz : ∀ z, z ∈ zs → AR w z.1 z.2.1 z.2.2) (hd : zs.Pairwise En.far)
  (hF : ∀ z, z ∈ zs → ∀ k, z.2.2 k → F k) (hlt : ∀ k, F k → k < w.heap.size) (hfull : ∀ z, z ∈ zs → FullY z.2.1) (hch : ∀ z, z ∈ zs → OmitAt z.2.1) (hv : ∀ z, z ∈ zs → path.size + 9 + 10 * volY z.2.1 ≤ 1099511627776) (hp : path.size ≤ 4398046511104) :
  Calls Tryd.prog 26 #[.iface 58 (.slice A zs.length c), .string path] w fun e w' => ∃ v', e = .returned v' ∧ AR w' v' (.list (zs.map (fun z => z.2.1))) (fun k => F k ∨ (w.heap.size ≤ k ∧ k < w'.heap.size)) ∧ Turns F w w' := by
 have f1 := o_lst_map; have f2 := o_lst_lst; have HC := aM hC; have HA := aM hA; have HZ := aM hz; have HD := aM hd; have HF := aM hF; have HL := aM hlt; have HFU := aM hfull; have HCH := aM hch; have HVV := aM hv; have HF0 := aM (fun (z : En) (hz : z ∈ zs) k (hk : z.2.2 k) => hlt k (hF z hz k hk)); have hmk := run_make_cap (P := Tryd.prog) 58 20 .nilIface 1 16 Tryd.underlying58 info_any zs.length (by omega) (by omega); have ho0 := own_made_cap kAny w w.heap.size 20 #[.nilIface] zs.length (Nat.le_refl _) (by omega); rw [show zs.length * kAny.sz = zs.length from Nat.mul_one _] at ho0; have HO0 := aM (Kd.R_mono (ok' := fun _ => True) (Kd.R_bound ho0) (fun _ _ => trivial)); have HI0 := aM (ItemsAt.start w zs (w.alloc (.cells (madeCells #[.nilIface] zs.length) 20)) (Value.slice (some ⟨w.heap.size, 0, none⟩) 0 zs.length).ownBlock ((Below.refl _ w).alloc (Nat.le_refl _) _)); clear hC hA hz hd hF hlt hfull hch hv ho0
 go_enter Tryd.func26, Tryd.ntmps26
 go_wp2
 clear hmk
 go_loopw [11, 50, 9] (fun v11 v50 v9 wr => ∃ (i : Nat) (A2 : Option Addr) (c2 : Nat) (zs' : List En), v50 = .int .i64 i ∧ v9 = .slice A2 i c2 ∧ i ≤ zs.length ∧ Aside0 (kAny.R 20 wr w.heap.size (fun _ => True) (.slice A2 i c2) (zs'.map (fun z => z.1))) ∧ Aside0 (ItemsAt w zs i wr (Value.slice A2 i c2).ownBlock zs')) (fun _ v50 _ _ => zs.length - (intOf v50).toNat)
 case atStart => exact ⟨0, some ⟨w.heap.size, 0, none⟩, zs.length, [], rfl, rfl, by omega, HO0, HI0⟩
 case round =>
  clear HO0 HI0; obtain ⟨i, A2, c2, zs', rfl, rfl, hiv, HO, HI⟩ := hrel
  have q0 : (0 : Int) ≤ (i : Int) := by omega
  by_cases hlv : i < zs.length
  ·have q2 : (i : Int) < (zs.length : Int) := by omega
   have hl0 : (zs.map (fun z => z.1)).length = zs.length := List.length_map ..; obtain ⟨vb, vo, rfl, hvb, hvc⟩ := kAny_at (A := A) (xs := zs.map (fun z => z.1)) (by rw [hl0]; exact HC.out) (by omega)
   have e0 : w.cell? ⟨vb, vo + i, none⟩ = some (zs[i]'hlv).1 := by
    have h := hvc i (by omega); rw [List.getElem_map] at h; exact h
   obtain ⟨hvb1, hvb2⟩ := HA.out vb vo rfl
   have y0 : wr.cell? ⟨vb, vo + i, none⟩ = some (zs[i]'hlv).1 := by
    rw [cellO (HI.out.ht.block vb hvb1 (fun ⟨j, hj, _, h2⟩ => hvb2 _ (List.getElem_mem hj) h2))]; exact e0
   have hm := List.getElem_mem hlv; have HAR := aM (HI.out.next HD.out HF0.out hlv (HZ.out _ hm)); have HFi := aM (HF0.out _ hm); have CE := aM (isEmpty_full (HZ.out _ hm) (HFU.out _ hm) wr); have CN := aM (next_any path ⟨#[91, 93]⟩ wr hp (by decide)); have hwr := HI.out.ht.size; have CA := aM (fun (W : World) (hb : Below wr.heap.size wr W) (q : BA) (hq : q.size ≤ path.size + 9) => HCH.out _ hm (zs[i]'hlv).1 (zs[i]'hlv).2.2 W q (HAR.out.move (fun k hk => hb.block k (by have := HFi.out k hk; omega))) (fun k hk => by have := HFi.out k hk; have := hb.size; omega) (by have := HVV.out _ hm; omega)); clear hvc e0 hl0 hvb1 hvb2
   obtain ⟨x, hx⟩ : ∃ x, (zs[i]'hlv).1 = x := ⟨_, rfl⟩
   rw [hx] at y0 CE CA; clear hx
   go_wp2_with fail
   refine CE.out.mono ?_; rintro e w2 ⟨rfl, rfl⟩; clear CE
   go_wp2_with fail
   refine CN.out.mono ?_; rintro e w3 ⟨q, rfl, hq, hb3⟩; have HB3 := aM hb3; have CB := aM (CA.out w3 hb3 q hq); clear CN CA hq hb3
   go_wp2_with fail
   refine CB.out.mono ?_; rintro e w4 ⟨v4, rfl, ha4, ht4⟩; obtain ⟨T4, u4, rfl⟩ := ar_iface ha4 (HFU.out _ hm); have h1 := ha4.one; have hl' := HI.out.len; have HA4 := aM ha4; have HT4 := aM ht4; have HI3 := aM (HI.out.below HB3.out HF0.out)
   have hown : ∀ k, (Value.slice A2 i c2).ownBlock = some k → w.heap.size ≤ k ∧ k < w2.heap.size := fun k hk => by have := (Kd.R_bound HO.out).1 k hk; exact ⟨this.2.1, this.2.2.1⟩
   have HOW := aM hown; have HO4 := aM (kAny_move (w1 := w4) (Kd.R_below HO.out HB3.out) (fun k hk => ht4.block k (by have := (hown k hk).2; have := HB3.out.size; omega) (fun hk2 => by have := HFi.out k hk2; have := (hown k hk).1; omega))); have hs4 : w.heap.size ≤ w4.heap.size := Nat.le_trans hwr (Nat.le_trans HB3.out.size ht4.size); clear ha4 ht4 CB hown y0
   go_wp2_with (refine Kd.R_append kAny (w0 := w4) (W := w4) w.heap.size rfl (.tmp 60) (.tmp 65) 58 20 .nilIface 16 rfl Tryd.underlying58 info_any rfl (show 0 < 1 by decide) (by decide) (.slice A2 i c2) (zs'.map (fun z => z.1)) (.iface T4 u4) [.iface T4 u4] (fun _ => True) (fun _ => False) rfl rfl (show PA _ _ from ⟨rfl, h1⟩) (fun _ h => h.elim) (fun _ _ => trivial) HO4.out (Below.refl _ _) hs4 (by rw [List.length_map]; omega) ?_)
   intro v1 w5 ho hb5 hg5 hat
   have hlen : (zs'.map (fun z => z.1) ++ [Value.iface T4 u4]).length = i + 1 := by rw [List.length_append, List.length_map, hl']; rfl
   obtain ⟨A5, c5, rfl⟩ := Kd.R_slice ho; rw [hlen] at ho hat ⊢; have HI5 := aM (HI3.out.step HD.out HF0.out hlv HA4.out HT4.out (fun k hk => by have := HOW.out k hk; have := HB3.out.size; omega) hg5 hat); have HO5 := aM ho; clear ho hat hg5 hb5 hlen h1 hl' hs4 hwr
   go_wp2
   go_roundw
   case rel =>
    refine ⟨i + 1, A5, c5, _, by go_num, rfl, by omega, ⟨?_⟩, HI5⟩; rw [List.map_append]; exact HO5.out
   case measure => simp [intOf]; omega
  ·have hin : i = zs.length := by omega
   subst hin; have d2 : decide ((zs.length : Int) < (zs.length : Int)) = false := decide_eq_false (by omega)
   go_wp2
   go_ret
   refine ⟨_, rfl, .list _ zs' _ _ ?_ (Kd.R_lower HO.out (Nat.zero_le _)) HI.out.hz HI.out.hd (fun b hb => ?_) (fun z hz k hk => ?_), HI.out.ht.mono (fun k _ h => ?_)⟩
   ·rw [HI.out.hy, List.take_length]
   ·have h1 := (Kd.R_bound HO.out).1 b hb; refine ⟨.inr ⟨h1.2.1, h1.2.2.1⟩, fun z hz hk => ?_⟩
    rcases HI.out.hF z hz b hk with ⟨j, hj, _, h2⟩ | h2
    ·have := HF0.out _ (List.getElem_mem hj) b h2
     omega
    ·exact h2.2.2 hb.symm
   ·rcases HI.out.hF z hz k hk with ⟨j, hj, _, h2⟩ | h2
    ·exact .inl (HF.out _ (List.getElem_mem hj) k h2)
    ·exact .inr ⟨h2.1, h2.2.1⟩
   ·obtain ⟨j, hj, _, h2⟩ := h; exact HF.out _ (List.getElem_mem hj) k h2
theorem mdel_neO {f : List (Bs × Value)} {k : Bs} {p : Bs × Value} (h : p ∈ mdel f k) : p.1 ≠ k := (mdel_in h).2
set_option maxHeartbeats 6400000 in
set_option maxRecDepth 100000 in
theorem omit_map (m : List (Bs × Y)) (zs0 : List (Bs × En)) (b : Nat) (F : Nat → Prop) (w : World) (path : BA) (hml : m.length ≤ 1759218604400) (hE : EntsAt w.heap.size F w b m zs0) (hbF : F b) (hfull : ∀ p, p ∈ m → FullY p.2) (hch : ∀ p, p ∈ m → OmitAt p.2)
  (hv : ∀ p, p ∈ m → path.size + 1 + 4 * p.1.length + 10 * volY p.2 ≤ 1099511627776) (hp : path.size ≤ 4398046511104) :
  Calls Tryd.prog 26 #[.iface 45 (.map (some b)), .string path] w fun e w' => ∃ v', e = .returned v' ∧ AR w' v' (.map m) (fun k => F k ∨ (w.heap.size ≤ k ∧ k < w'.heap.size)) ∧ Turns F w w' := by
 have f1 := o_map_map; have hbl := hE.hm.lt; have HE := aM hE; have HBF := aM hbF; have HFU := aM hfull; have HCH := aM hch; have HVV := aM hv; clear hE hbF hfull hch hv
 go_enter Tryd.func26, Tryd.ntmps26
 go_wp2_with (at_range; refine range_mapE (enc := (id : Value → Value)) akey_u amap_u rfl _ rfl rfl HE.out.hm ?_; intro w0 hrg0 hg0 hs0; have HR0 := aM hrg0; have HG0 := aM hg0; have HS0 := aM hs0; clear hrg0 hg0 hs0)
 go_frame
 have HE0 := aM (HE.out.iter ⟨HG0.out.os, HG0.out.tape, HG0.out.output, HG0.out.size, fun j hj _ => HG0.out.block j hj (by simp)⟩ (by omega)); have HT0 := aM (show Turns F w w0 from ⟨HG0.out.os, HG0.out.tape, HG0.out.output, HG0.out.size, fun j hj _ => HG0.out.block j hj (by simp)⟩); clear HG0 HE
 go_loopw [6, 7] (fun v6 v7 wr => Aside0 (∃ (zs : List (Bs × En)) (lf : List (Bs × Value)), Ranges Tryd.prog 9 (id : Value → Value) wr b w.heap.size (zs.map (fun z => (z.1, z.2.1))) lf ∧ EntsAt w.heap.size F wr b m zs ∧ Turns F w wr ∧ w.heap.size < wr.heap.size)) (fun _ _ wr => wr.rangeLeft b w.heap.size)
 case atStart => exact ⟨zs0, _, HR0.out, HE0.out, HT0.out, by have := HS0.out; omega⟩
 case round =>
  clear HR0 HE0 HT0 HS0; obtain ⟨zs, lf, hr, he, ht, hlt⟩ := hrel.out; have HR := aM hr; have HE := aM he; have HT := aM ht; clear hr he ht hrel
  go_wp2_with (at_next; refine next_mapA akey_u rfl _ rfl rfl HR.out (fun hd => ?_) (fun x c w2 hx hen => ?_); rotate_left)
  ·obtain ⟨z, hz, hze⟩ := List.mem_map.1 (HR.out.sub.subset hx.out.1); have HZ := aM hz; have HZ1 := aM (show z.1 = lb x from congrArg Prod.fst hze); have HZ2 := aM (show z.2.1 = c from congrArg Prod.snd hze); have HPM := aM (show (z.1, z.2.2.1) ∈ m by rw [← HE.out.hy]; exact List.mem_map.2 ⟨z, hz, rfl⟩); have hvv := HVV.out _ HPM.out; simp only at hvv; rw [HZ1.out, yk] at hvv
   have hxs : x.size ≤ 4398046511104 := by omega
   have hsz2 := hx.out.2.2.2.2.2; have hks : x.size ≤ maxLen := hx.out.2.1; have HE2 := aM (HE.out.iter hx.out.2.2.2.2.1 (by omega)); have HAR := aM (show AR w2 c z.2.2.1 z.2.2.2 by rw [← HZ2.out]; exact HE2.out.hz z hz); have HFi := aM (HE2.out.hF z hz); have CE := aM (isEmpty_full HAR.out (HFU.out _ HPM.out) w2); have CN := aM (next_any path x w2 hp hxs); have CA := aM (fun (W : World) (hb : Below w2.heap.size w2 W) (q : BA) (hq : q.size ≤ path.size + 1 + 4 * x.size) => HCH.out _ HPM.out c z.2.2.2 W q (HAR.out.move (fun k hk => hb.block k (HFi.out k hk).2.1)) (fun k hk => Nat.lt_of_lt_of_le (HFi.out k hk).2.1 hb.size) (by simp only; omega)); have HX := aM hx; clear hz hze hx hen hvv
   go_wp2_with fail
   refine CE.out.mono ?_; rintro e w3 ⟨rfl, rfl⟩; clear CE
   go_wp2_with fail
   refine CN.out.mono ?_; rintro e w4 ⟨q, rfl, hq, hb⟩; have HB4 := aM hb; have CB := aM (CA.out w4 hb q hq); clear CN CA hq hb
   go_wp2_with fail
   refine CB.out.mono ?_; rintro e w5 ⟨v5, rfl, ha5, ht5⟩; have HA5 := aM ha5; have HT5 := aM ht5; have hs34 := HB4.out.size; have hs45 := ht5.size
   have keep : ∀ k, k < w3.heap.size → ¬ z.2.2.2 k → w5.heap[k]? = w3.heap[k]? := fun k hk hn => (ht5.block k (by omega) hn).trans (HB4.out.block k hk)
   have nb : ¬ z.2.2.2 b := fun h => (HFi.out b h).1 rfl
   have ns : ¬ z.2.2.2 w.heap.size := fun h => by have := (HFi.out _ h).2.2; omega
   have kb := keep b (by omega) nb; have ks := keep w.heap.size (by omega) ns; have HR5 := aM (Tr.Ranges.move HX.out.out.2.2.1 kb ks); have hl5 := left_sameO (b := b) (r := w.heap.size) kb ks; have HE4 := aM (HE2.out.below HB4.out)
   have hmg : (mget (zs.map (fun z => (z.1, z.2.1))) (lb x)).isSome = true := by
    rw [← HZ1.out, xt (MapE.rises (Go.Maps.string_keyed akey_u) HE.out.hm) (List.mem_map.2 ⟨z, HZ.out, rfl⟩)]; rfl
   have hml2 : (zs.map (fun z => (z.1, z.2.1))).length < maxLen := by
    have h1 := congrArg List.length HE.out.hy; rw [List.length_map] at h1; rw [List.length_map]
    unfold maxLen
    omega
   clear ha5 ht5 CB keep nb ns kb ks
   go_wp2_with (at_mapUpdate; refine store_rangesE (enc := (id : Value → Value)) (y := v5) akey_u amap_u rfl _ _ _ rfl rfl HR5.out hml2 rfl hks rfl hmg (fun p hp => mdel_neO hp) ?_; intro w6 hr6 hg6 hl6; have HR6 := aM hr6; have HG6 := aM hg6; have HL6 := aM hl6; clear hr6 hg6 hl6)
   simp only [Act.put]
   go_roundw
   case rel =>
    have h6 := HR6.out; rw [← HZ1.out] at h6; have e6 := HE4.out.put (by omega) HZ.out HT5.out HA5.out h6.owns HG6.out; refine ⟨_, mdel lf z.1, ?_, e6, ?_, by have := HG6.out.size; omega⟩
    ·rw [mput_map (fun e : En => e.1)]; exact h6
    ·have hg2 := HX.out.out.2.2.2.2.1; refine ⟨HG6.out.os.trans (HT5.out.os.trans (HB4.out.os.trans (hg2.os.trans HT.out.os))), HG6.out.tape.trans (HT5.out.tape.trans (HB4.out.tape.trans (hg2.tape.trans HT.out.tape))), HG6.out.output.trans (HT5.out.output.trans (HB4.out.output.trans (hg2.output.trans HT.out.output))), by have := HG6.out.size; omega, fun k hk hn => ?_⟩
     have n1 : k ≠ b := fun e => hn (e ▸ HBF.out)
     have n2 : ¬ z.2.2.2 k := fun h => by
      have h3 := (HFi.out k h).2.2
      rcases h3 with h3 | h3
      ·exact hn h3.2
      ·omega
     exact (HG6.out.block k (by omega) (fun e => n1 (Option.some.inj e))).trans ((HT5.out.block k (by omega) n2).trans ((HB4.out.block k (by omega)).trans ((hg2.block k (by omega) (fun e => by have := Option.some.inj e; omega)).trans (HT.out.block k hk hn))))
   case measure =>
    rw [HL6.out, hl5]; exact HX.out.out.2.2.2.1
  ·go_ret
   refine ⟨_, rfl, .map b zs _ _ HE.out.hy.symm HE.out.hm HE.out.hz HE.out.hd ⟨.inl HBF.out, fun z hz h => (HE.out.hF z hz b h).1 rfl⟩ (fun z hz k hk => ?_), HT.out⟩; have h1 := HE.out.hF z hz k hk
   rcases h1.2.2 with h2 | h2
   ·exact .inl h2.2
   ·exact .inr ⟨by omega, h1.2.1⟩
theorem omit_all {y : Y} (h : FullY y) : OmitAt y := by
 induction h with
 | bool b => intro v F w path ha hlt hs; cases ha; exact omit_leaf _ _ (fun _ _ => .bool _ _) (o_bool_map _) (o_bool_lst _) F w path
 | int n => intro v F w path ha hlt hs; cases ha; exact omit_leaf _ _ (fun _ _ => .int _ _) (o_int_map _) (o_int_lst _) F w path
 | text s h => intro v F w path ha hlt hs; cases ha; exact omit_leaf _ _ (fun _ _ => .text _ _) (o_str_map _) (o_str_lst _) F w path
 | list l h ih =>
  intro v F w path ha hlt hs
  cases ha with
  | list v zs _ _ hy hr hz hd hbb hF =>
   obtain ⟨A, c, rfl⟩ := Kd.R_slice hr; obtain ⟨hn, hc, hC⟩ := Kd.R_reads' hr; rw [List.length_map] at hC hn ⊢; subst hy; simp only [volY] at hs; have hvl := volYl_len (zs.map (fun z => z.2.1)); rw [List.length_map] at hvl
   have hmem : ∀ z, z ∈ zs → z.2.1 ∈ zs.map (fun z => z.2.1) := fun z hz => List.mem_map.2 ⟨z, hz, rfl⟩
   exact omit_list zs F A c w path (by omega) hC (fun bk off e => by
    subst e; have h1 := (Kd.R_bound hr).1 bk rfl
    exact ⟨h1.2.2.1, (hbb bk rfl).2⟩) hz hd hF hlt (fun z hz => h _ (hmem z hz)) (fun z hz => ih _ (hmem z hz)) (fun z hz => by have := volYl_mem (hmem z hz); omega) (by omega)
 | map m h ih =>
  intro v F w path ha hlt hs
  cases ha with
  | map b zs _ _ hy hm hz hd hbb hF =>
   subst hy; simp only [volY] at hs; have hvl := volYm_len (zs.map (fun z => (z.1, z.2.2.1))); exact omit_map _ zs b F w path (by omega) ⟨hm, hz, hd, fun z hz k hk => ⟨fun e => hbb.2 z hz (e ▸ hk), hlt k (hF z hz k hk), .inl ⟨hlt k (hF z hz k hk), hF z hz k hk⟩⟩, rfl⟩ hbb.1 h ih (fun p hp => by have := volYm_mem hp; omega) (by omega)
end Go.Proofs.YtmpmekliaicecaaDoor.Tr
namespace Go.Proofs.YtmpmekliaicecaaDoor.Tr
open Go.RowKit Go.Proofs.YtmpmekliaicecaaDoorW.PrintWords Go.Proofs.YtmpmekliaicecaaDoorW.PrintLast
def Ends {α : Type} (P : α → Prop) (g : Nat → Option α) : Prop := ∃ r, Ev g r ∧ P r
section
variable {α β : Type} {P : α → Prop} {g f : Nat → Option α}
theorem Ends.of {r : α} (h : Ev g r) (hp : P r) : Ends P g := ⟨r, h, hp⟩
theorem Ends.ev {r : α} (h : Ends (fun x => x = r) g) : Ev g r := by
 obtain ⟨x, hx, rfl⟩ := h; exact hx
theorem Ev.ends {r : α} (h : Ev g r) : Ends (fun x => x = r) g := ⟨r, h, rfl⟩
theorem Ends.mono {Q : α → Prop} (h : Ends P g) (hq : ∀ r, P r → Q r) : Ends Q g := by
 obtain ⟨x, hx, hp⟩ := h; exact ⟨x, hx, hq x hp⟩
theorem Ends.now {r : α} (h : P r) : Ends P (fun _ => some r) := ⟨r, Ev.now r, h⟩
theorem Ends.ite {c : Prop} [Decidable c] (h1 : c → Ends P f) (h2 : ¬ c → Ends P g) : Ends P (fun k => if c then f k else g k) := by
 by_cases h : c
 ·obtain ⟨r, hr, hp⟩ := h1 h; exact ⟨r, Ev.congr (fun k => by rw [if_pos h]) hr, hp⟩
 ·obtain ⟨r, hr, hp⟩ := h2 h; exact ⟨r, Ev.congr (fun k => by rw [if_neg h]) hr, hp⟩
theorem Ends.no {c : Prop} [Decidable c] (hc : ¬ c) (h : Ends P g) : Ends P (fun k => if c then f k else g k) := Ends.ite (fun n => absurd n hc) (fun _ => h)
theorem Ends.bind {Q : β → Prop} {u : Nat → Option β} {v : Nat → β → Option α} (hu : Ends Q u) (hv : ∀ a, Q a → Ends P (fun k => v k a)) : Ends P (fun k => (u k).bind (v k)) := by
 obtain ⟨a, ha, hq⟩ := hu; obtain ⟨r, hr, hp⟩ := hv a hq; exact ⟨r, Ev.bind ha hr, hp⟩
theorem Ends.step (h : ∀ k, g (k + 1) = f k) (k : Ends P f) : Ends P g := by
 obtain ⟨r, hr, hp⟩ := k; exact ⟨r, Ev.step h hr, hp⟩
theorem Ends.congr (h : ∀ k, g k = f k) (k : Ends P f) : Ends P g := by
 obtain ⟨r, hr, hp⟩ := k; exact ⟨r, Ev.congr h hr, hp⟩
end
end Go.Proofs.YtmpmekliaicecaaDoor.Tr
namespace Go.Proofs.YtmpmekliaicecaaDoor.PS
open Go.RowKit Go.Proofs.YtmpmekliaicecaaDoorW.PrintWords Go.Proofs.YtmpmekliaicecaaDoorW.PrintLast Go.Proofs.YtmpmekliaicecaaDoorW.PrintMore
attribute [local go_sem] xg xe xn xm yz yy xf xd 
mutual
def spec_Same.j0 : Nat → Bool → Int → Int → ByteArray → List ByteArray → List (S25) → Int → Int → ByteArray → List ByteArray → List (S25) → Option (Bool)
 | 0, _, _, _, _, _, _, _, _, _, _, _ => none
 | k + 1, x43, x282000, x282001, x282002, x282003, x282004, x283000, x283001, x283002, x283003, x283004 => if x43 = true then (some false) else (spec_Same.l0 k 0 x282000 x282001 x282002 x282003 x282004 x283000 x283001 x283002 x283003 x283004)
def spec_Same.l0 : Nat → Int → Int → Int → ByteArray → List ByteArray → List (S25) → Int → Int → ByteArray → List ByteArray → List (S25) → Option (Bool)
 | 0, _, _, _, _, _, _, _, _, _, _, _ => none
 | k + 1, x5, x282000, x282001, x282002, x282003, x282004, x283000, x283001, x283002, x283003, x283004 => if x5 < (x282003.length : Int) then (if 0 ≤ x5 then (if x5 < (x283003.length : Int) then (if (rdOf ByteArray.empty x282003 x5).toList = (rdOf ByteArray.empty x283003 x5).toList then (spec_Same.l0 k (wrap64 (x5 + 1)) x282000 x282001 x282002 x282003 x282004 x283000 x283001 x283002 x283003 x283004) else (some false)) else (none)) else (none)) else (spec_Same.l1 k 0 x282000 x282001 x282002 x282003 x282004 x283000 x283001 x283002 x283003 x283004)
def spec_Same.l1 : Nat → Int → Int → Int → ByteArray → List ByteArray → List (S25) → Int → Int → ByteArray → List ByteArray → List (S25) → Option (Bool)
 | 0, _, _, _, _, _, _, _, _, _, _, _ => none
 | k + 1, x6, x282000, x282001, x282002, x282003, x282004, x283000, x283001, x283002, x283003, x283004 => if x6 < (x282004.length : Int) then (if 0 ≤ x6 then (if x6 < (x283004.length : Int) then ((spec_Same.f k ((rd_T25 x282004 x6).f0) ((rd_T25 x282004 x6).f1) ((rd_T25 x282004 x6).f2) ((rd_T25 x282004 x6).f3) ((rd_T25 x282004 x6).f4) ((rd_T25 x283004 x6).f0) ((rd_T25 x283004 x6).f1) ((rd_T25 x283004 x6).f2) ((rd_T25 x283004 x6).f3) ((rd_T25 x283004 x6).f4)).bind fun t287 => (if t287 = true then (spec_Same.l1 k (wrap64 (x6 + 1)) x282000 x282001 x282002 x282003 x282004 x283000 x283001 x283002 x283003 x283004) else (some false))) else (none)) else (none)) else (some true)
def spec_Same.f : Nat → Int → Int → ByteArray → List ByteArray → List (S25) → Int → Int → ByteArray → List ByteArray → List (S25) → Option (Bool)
 | 0, _, _, _, _, _, _, _, _, _, _ => none
 | k + 1, a0_0, a0_1, a0_2, l0_3, l0_4, a1_0, a1_1, a1_2, l1_3, l1_4 => if a0_0 = a1_0 then (if a0_1 = a1_1 then (if a0_2.toList = a1_2.toList then (if (l0_3.length : Int) = (l1_3.length : Int) then (spec_Same.j0 k ((l0_4.length : Int) != (l1_4.length : Int)) a0_0 a0_1 a0_2 l0_3 l0_4 a1_0 a1_1 a1_2 l1_3 l1_4) else (spec_Same.j0 k true a0_0 a0_1 a0_2 l0_3 l0_4 a1_0 a1_1 a1_2 l1_3 l1_4)) else (spec_Same.j0 k true a0_0 a0_1 a0_2 l0_3 l0_4 a1_0 a1_1 a1_2 l1_3 l1_4)) else (spec_Same.j0 k true a0_0 a0_1 a0_2 l0_3 l0_4 a1_0 a1_1 a1_2 l1_3 l1_4)) else (spec_Same.j0 k true a0_0 a0_1 a0_2 l0_3 l0_4 a1_0 a1_1 a1_2 l1_3 l1_4)
end
def spec_Same.T6 : Bool × List (List Nat × List Nat) := (true, [([], []), ([0], [0]), ([], []), ([1, 2], [1, 2]), ([3], [3]), ([], []), ([5], [5]), ([], []), ([6, 7], [6, 7]), ([8], [8]), ([4, 9], [4, 9])])
def spec_Same.B6 : List Nat := [0, 1, 0, 7, 15, 0, 32, 0, 224, 480, 1023]
theorem spec_Same.tab6 : rtab .any (opsOf Tryd.f8 6) = spec_Same.T6 := by kernel_rfl
theorem spec_Same.bits6 : waitsOk spec_Same.T6.2 spec_Same.B6 = true := by kernel_rfl
def spec_Same.T11 : Bool × List (List Nat × List Nat) := (true, [([], []), ([0], [0]), ([], []), ([1, 2], [1, 2]), ([3], [3]), ([], []), ([5], [5]), ([], []), ([6, 7], [6, 7]), ([8], [8]), ([4, 9], [4, 9]), ([10], [10])])
def spec_Same.B11 : List Nat := [0, 1, 0, 7, 15, 0, 32, 0, 224, 480, 1023, 2047]
theorem spec_Same.tab11 : rtab .any (opsOf Tryd.f8 11) = spec_Same.T11 := by kernel_rfl
theorem spec_Same.bits11 : waitsOk spec_Same.T11.2 spec_Same.B11 = true := by kernel_rfl
set_option maxHeartbeats 8000000 in
set_option maxRecDepth 100000 in
theorem spec_Same.calls (k : Nat) : ∀ (a0_0 : Int) (a0_1 : Int) (a0_2 : ByteArray) (A0_3 : Option Addr) (c0_3 : Nat) (l0_3 : List ByteArray) (A0_4 : Option Addr) (c0_4 : Nat) (l0_4 : List (S25)) (a1_0 : Int) (a1_1 : Int) (a1_2 : ByteArray) (A1_3 : Option Addr) (c1_3 : Nat) (l1_3 : List ByteArray) (A1_4 : Option Addr) (c1_4 : Nat) (l1_4 : List (S25)) (r : Bool) (w : World) (hr0_3 : Kd.C Kd.string w A0_3 l0_3.length l0_3) (hc0_3 : l0_3.length ≤ c0_3) (hr0_4 : Kd.C k25 w A0_4 l0_4.length l0_4) (hc0_4 : l0_4.length ≤ c0_4) (hr1_3 : Kd.C Kd.string w A1_3 l1_3.length l1_3) (hc1_3 : l1_3.length ≤ c1_3) (hr1_4 : Kd.C k25 w A1_4 l1_4.length l1_4) (hc1_4 : l1_4.length ≤ c1_4) (h : spec_Same.f k a0_0 a0_1 a0_2 l0_3 l0_4 a1_0 a1_1 a1_2 l1_3 l1_4 = some r),
  Calls Tryd.prog 8 #[.agg #[.int .i64 a0_0, .int .i64 a0_1, .string a0_2, .slice A0_3 l0_3.length c0_3, .slice A0_4 l0_4.length c0_4], .agg #[.int .i64 a1_0, .int .i64 a1_1, .string a1_2, .slice A1_3 l1_3.length c1_3, .slice A1_4 l1_4.length c1_4]] w fun e w' => e = .returned (.bool r) ∧ Below w.heap.size w w' := by
 induction k using Nat.strongRecOn with
 | _ k ih =>
 intro a0_0 a0_1 a0_2 A0_3 c0_3 l0_3 A0_4 c0_4 l0_4 a1_0 a1_1 a1_2 A1_3 c1_3 l1_3 A1_4 c1_4 l1_4 r w hr0_3 hc0_3 hr0_4 hc0_4 hr1_3 hc1_3 hr1_4 hc1_4 h
 cases k with
 | zero => exact absurd h (by simp [spec_Same.f])
 | succ k =>
 simp only [spec_Same.f] at h; have hu25 := Tryd.underlying25; have HR0_3 := aM hr0_3; have HC0_3 := aM hc0_3; clear hr0_3 hc0_3; have HR0_4 := aM hr0_4; have HC0_4 := aM hc0_4; clear hr0_4 hc0_4; have HR1_3 := aM hr1_3; have HC1_3 := aM hc1_3; clear hr1_3 hc1_3; have HR1_4 := aM hr1_4; have HC1_4 := aM hc1_4; clear hr1_4 hc1_4; have HB := aM (Below.refl w.heap.size w); have H : (if a0_0 = a1_0 then (if a0_1 = a1_1 then (if a0_2.toList = a1_2.toList then (if (l0_3.length : Int) = (l1_3.length : Int) then (spec_Same.j0 k ((l0_4.length : Int) != (l1_4.length : Int)) a0_0 a0_1 a0_2 l0_3 l0_4 a1_0 a1_1 a1_2 l1_3 l1_4) else (spec_Same.j0 k true a0_0 a0_1 a0_2 l0_3 l0_4 a1_0 a1_1 a1_2 l1_3 l1_4)) else (spec_Same.j0 k true a0_0 a0_1 a0_2 l0_3 l0_4 a1_0 a1_1 a1_2 l1_3 l1_4)) else (spec_Same.j0 k true a0_0 a0_1 a0_2 l0_3 l0_4 a1_0 a1_1 a1_2 l1_3 l1_4)) else (spec_Same.j0 k true a0_0 a0_1 a0_2 l0_3 l0_4 a1_0 a1_1 a1_2 l1_3 l1_4)) = some r := h; clear h; have HC3 := aM H; clear H
 go_enter Tryd.func8, Tryd.ntmps8
 go_upto_region 1 with (first | ((with_reducible refine yl (N := 2) rfl ?_); (try (refine yr (by rfl) ?_; dsimp only)); refine yh ?hg (N := 2) ?hd (cs := #[.int .i64 a0_0, .int .i64 a0_1, .string a0_2, .slice A0_3 l0_3.length c0_3, .slice A0_4 l0_4.length c0_4]) (t := 25) ?hr ?_; (case hd => rfl); (case hg => rfl); (case hr => first | (go_simp; done) | (go_simp; rfl)); intro gb281 hg w4 hbox hb; have n0_ := aM (zq (by repeat (first | (with_reducible first | exact HB.out | apply zb | apply ze | apply zj) | exact HB.out)) hb); have n1_ := aM (hbox); have n2_ := aM ((by rw [hg]; exact (zl (by repeat (first | (with_reducible first | exact HB.out | apply zb | apply ze | apply zj) | exact HB.out))) : w.heap.size ≤ gb281)); have n3_ := aM ((by rw [hg]; exact (zl (by repeat (first | (with_reducible first | exact HB.out | apply zb | apply ze | apply zj) | exact HB.out))) : w.heap.size ≤ gb281)); clear HB; have HB := n0_; have BK281 := n1_; have GW281 := n2_; have GE281 := n3_; clear n0_ n1_ n2_ n3_; clear hb hbox hg) | ((with_reducible refine yl (N := 3) rfl ?_); (try (refine yr (by rfl) ?_; dsimp only)); refine yh ?hg (N := 3) ?hd (cs := #[.int .i64 a1_0, .int .i64 a1_1, .string a1_2, .slice A1_3 l1_3.length c1_3, .slice A1_4 l1_4.length c1_4]) (t := 25) ?hr ?_; (case hd => rfl); (case hg => rfl); (case hr => first | (go_simp; done) | (go_simp; rfl)); intro gb282 hg w5 hbox hb; have n0_ := aM (zo (g := gb281) (o := .cells #[.int .i64 a0_0, .int .i64 a0_1, .string a0_2, .slice A0_3 l0_3.length c0_3, .slice A0_4 l0_4.length c0_4] 25 (0, 0)) (by (with_reducible repeat (first | refine zf ?_ _ | refine zh ?_ | refine zc ?_ _)); exact BK281.out) hb); have n1_ := aM (zq (by repeat (first | (with_reducible first | exact HB.out | apply zb | apply ze | apply zj | refine zg ?_ GE281.out) | exact HB.out)) hb); have n2_ := aM (hbox); have n3_ := aM ((by rw [hg]; exact (zl (by repeat (first | (with_reducible first | exact HB.out | apply zb | apply ze | apply zj | refine zg ?_ GE281.out) | exact HB.out))) : w.heap.size ≤ gb282)); have n4_ := aM ((by rw [hg]; exact (zl (by repeat (first | (with_reducible first | exact HB.out | apply zb | apply ze | apply zj | refine zg ?_ GE281.out) | exact HB.out))) : w.heap.size ≤ gb282)); have n5_ := aM ((by rw [hg]; exact Nat.ne_of_lt (yi (g := gb281) (o := .cells #[.int .i64 a0_0, .int .i64 a0_1, .string a0_2, .slice A0_3 l0_3.length c0_3, .slice A0_4 l0_4.length c0_4] 25 (0, 0)) (by (with_reducible repeat (first | refine zf ?_ _ | refine zh ?_ | refine zc ?_ _)); exact BK281.out)) : gb281 ≠ gb282)); have n6_ := aM ((by rw [hg]; exact Nat.ne_of_gt (yi (g := gb281) (o := .cells #[.int .i64 a0_0, .int .i64 a0_1, .string a0_2, .slice A0_3 l0_3.length c0_3, .slice A0_4 l0_4.length c0_4] 25 (0, 0)) (by (with_reducible repeat (first | refine zf ?_ _ | refine zh ?_ | refine zc ?_ _)); exact BK281.out)) : gb282 ≠ gb281)); clear BK281; clear HB; have BK281 := n0_; have HB := n1_; have BK282 := n2_; have GW282 := n3_; have GE282 := n4_; have NB281_282 := n5_; have NB282_281 := n6_; clear n0_ n1_ n2_ n3_ n4_ n5_ n6_; clear hb hbox hg))
 (try simp only [Act.put, List.setIfInBounds_toArray, List.set_cons_zero, List.set_cons_succ])
 go_cut [43] (fun v43 wc => ∃ (kq : Nat) (x43_2 : Bool), v43 = .bool x43_2 ∧ Aside0 (spec_Same.j0 kq x43_2 a0_0 a0_1 a0_2 l0_3 l0_4 a1_0 a1_1 a1_2 l1_3 l1_4 = some r) ∧ Aside0 (kq ≤ k) ∧ Aside0 (wc.heap[gb281]? = some (.cells #[.int .i64 a0_0, .int .i64 a0_1, .string a0_2, (.slice A0_3 l0_3.length c0_3), (.slice A0_4 l0_4.length c0_4)] 25 (0, 0))) ∧ Aside0 (wc.heap[gb282]? = some (.cells #[.int .i64 a1_0, .int .i64 a1_1, .string a1_2, (.slice A1_3 l1_3.length c1_3), (.slice A1_4 l1_4.length c1_4)] 25 (0, 0))) ∧ Aside0 (Below w.heap.size w wc))
 case first =>
  have H := HC3.out; clear HC3
  by_cases c6 : a0_0 = a1_0
  ·rw [if_pos c6] at H; have c6b0 : (a0_0 == a1_0) = true := beq_iff_eq.mpr c6; have c6b1 : (a0_0 != a1_0) = false := bne_eq_false_iff_eq.mpr c6; clear c6
   (first | rw [c6b0] | (simp only [zw, zx]; rw [c6b0]) | skip)
   by_cases c7 : a0_1 = a1_1
   ·rw [if_pos c7] at H; have c7b0 : (a0_1 == a1_1) = true := beq_iff_eq.mpr c7; have c7b1 : (a0_1 != a1_1) = false := bne_eq_false_iff_eq.mpr c7; clear c7
    by_cases c8 : a0_2.toList = a1_2.toList
    ·rw [if_pos c8] at H; have c8b0 : (a0_2.toList == a1_2.toList) = true := beq_iff_eq.mpr c8; have c8b1 : (a0_2.toList != a1_2.toList) = false := bne_eq_false_iff_eq.mpr c8; clear c8
     by_cases c9 : (l0_3.length : Int) = (l1_3.length : Int)
     ·rw [if_pos c9] at H; have c9b0 : ((l0_3.length : Int) == (l1_3.length : Int)) = true := beq_iff_eq.mpr c9; have c9b1 : ((l0_3.length : Int) != (l1_3.length : Int)) = false := bne_eq_false_iff_eq.mpr c9
      have c9b2 : (l0_3.length == l1_3.length) = true := by first | simpa using c9 | (simp at c9 ⊢; omega)
      clear c9; have H' := aM H; clear H; have hnb10 := NB281_282.out; have hnc10 := NB282_281.out; have hcz11_0 : w5.cell? ⟨gb281, 0, none⟩ = some (.int .i64 a0_0) := (za BK281.out 0).trans rfl; have hcz11_1 : w5.cell? ⟨gb281, 1, none⟩ = some (.int .i64 a0_1) := (za BK281.out 1).trans rfl; have hcz11_2 : w5.cell? ⟨gb281, 2, none⟩ = some (.string a0_2) := (za BK281.out 2).trans rfl; have hcz11_3 : w5.cell? ⟨gb281, 3, none⟩ = some (.slice A0_3 l0_3.length c0_3) := (za BK281.out 3).trans rfl; have hcz11_4 : w5.cell? ⟨gb281, 4, none⟩ = some (.slice A0_4 l0_4.length c0_4) := (za BK281.out 4).trans rfl; have hfz11_0 := zi BK281.out 0; have hfz11_1 := zi BK281.out 1; have hfz11_2 := zi BK281.out 2; have hfz11_3 := zi BK281.out 3; have hfz11_4 := zi BK281.out 4; have hcz12_0 : w5.cell? ⟨gb282, 0, none⟩ = some (.int .i64 a1_0) := (za BK282.out 0).trans rfl; have hcz12_1 : w5.cell? ⟨gb282, 1, none⟩ = some (.int .i64 a1_1) := (za BK282.out 1).trans rfl; have hcz12_2 : w5.cell? ⟨gb282, 2, none⟩ = some (.string a1_2) := (za BK282.out 2).trans rfl; have hcz12_3 : w5.cell? ⟨gb282, 3, none⟩ = some (.slice A1_3 l1_3.length c1_3) := (za BK282.out 3).trans rfl; have hcz12_4 : w5.cell? ⟨gb282, 4, none⟩ = some (.slice A1_4 l1_4.length c1_4) := (za BK282.out 4).trans rfl; have hfz12_0 := zi BK282.out 0; have hfz12_1 := zi BK282.out 1; have hfz12_2 := zi BK282.out 2; have hfz12_3 := zi BK282.out 3; have hfz12_4 := zi BK282.out 4
      go_wp2
      go_meet
      case rel => exact ⟨_, (((l0_4.length : Int) != (l1_4.length : Int))), (by first | rfl | (simp; done) | (simp [*]; done)), H', ⟨by first | omega | exact Nat.le_refl _⟩, ⟨by (with_reducible repeat (first | refine zf ?_ _ | refine zh ?_ | refine zc ?_ _)); exact BK281.out⟩, ⟨by (with_reducible repeat (first | refine zf ?_ _ | refine zh ?_ | refine zc ?_ _)); exact BK282.out⟩, ⟨by repeat (first | (with_reducible first | exact HB.out | apply zb | apply ze | apply zj | refine zg ?_ GE281.out | refine zg ?_ GE282.out) | exact HB.out)⟩⟩
     ·rw [if_neg c9] at H; have c9b0 : ((l0_3.length : Int) == (l1_3.length : Int)) = false := beq_eq_false_iff_ne.mpr c9; have c9b1 : ((l0_3.length : Int) != (l1_3.length : Int)) = true := bne_iff_ne.mpr c9
      have c9b2 : (l0_3.length == l1_3.length) = false := by first | simpa using c9 | (simp at c9 ⊢; omega)
      have H' := aM H; clear H; have hnb13 := NB281_282.out; have hnc13 := NB282_281.out; have hcz14_0 : w5.cell? ⟨gb281, 0, none⟩ = some (.int .i64 a0_0) := (za BK281.out 0).trans rfl; have hcz14_1 : w5.cell? ⟨gb281, 1, none⟩ = some (.int .i64 a0_1) := (za BK281.out 1).trans rfl; have hcz14_2 : w5.cell? ⟨gb281, 2, none⟩ = some (.string a0_2) := (za BK281.out 2).trans rfl; have hcz14_3 : w5.cell? ⟨gb281, 3, none⟩ = some (.slice A0_3 l0_3.length c0_3) := (za BK281.out 3).trans rfl; have hcz14_4 : w5.cell? ⟨gb281, 4, none⟩ = some (.slice A0_4 l0_4.length c0_4) := (za BK281.out 4).trans rfl; have hfz14_0 := zi BK281.out 0; have hfz14_1 := zi BK281.out 1; have hfz14_2 := zi BK281.out 2; have hfz14_3 := zi BK281.out 3; have hfz14_4 := zi BK281.out 4; have hcz15_0 : w5.cell? ⟨gb282, 0, none⟩ = some (.int .i64 a1_0) := (za BK282.out 0).trans rfl; have hcz15_1 : w5.cell? ⟨gb282, 1, none⟩ = some (.int .i64 a1_1) := (za BK282.out 1).trans rfl; have hcz15_2 : w5.cell? ⟨gb282, 2, none⟩ = some (.string a1_2) := (za BK282.out 2).trans rfl; have hcz15_3 : w5.cell? ⟨gb282, 3, none⟩ = some (.slice A1_3 l1_3.length c1_3) := (za BK282.out 3).trans rfl; have hcz15_4 : w5.cell? ⟨gb282, 4, none⟩ = some (.slice A1_4 l1_4.length c1_4) := (za BK282.out 4).trans rfl; have hfz15_0 := zi BK282.out 0; have hfz15_1 := zi BK282.out 1; have hfz15_2 := zi BK282.out 2; have hfz15_3 := zi BK282.out 3; have hfz15_4 := zi BK282.out 4
      go_wp2
      go_meet
      case rel => exact ⟨_, (true), (by first | rfl | (simp; done) | (simp [*]; done)), H', ⟨by first | omega | exact Nat.le_refl _⟩, ⟨by (with_reducible repeat (first | refine zf ?_ _ | refine zh ?_ | refine zc ?_ _)); exact BK281.out⟩, ⟨by (with_reducible repeat (first | refine zf ?_ _ | refine zh ?_ | refine zc ?_ _)); exact BK282.out⟩, ⟨by repeat (first | (with_reducible first | exact HB.out | apply zb | apply ze | apply zj | refine zg ?_ GE281.out | refine zg ?_ GE282.out) | exact HB.out)⟩⟩
    ·rw [if_neg c8] at H; have c8b0 : (a0_2.toList == a1_2.toList) = false := beq_eq_false_iff_ne.mpr c8; have c8b1 : (a0_2.toList != a1_2.toList) = true := bne_iff_ne.mpr c8; have H' := aM H; clear H; have hnb16 := NB281_282.out; have hnc16 := NB282_281.out; have hcz17_0 : w5.cell? ⟨gb281, 0, none⟩ = some (.int .i64 a0_0) := (za BK281.out 0).trans rfl; have hcz17_1 : w5.cell? ⟨gb281, 1, none⟩ = some (.int .i64 a0_1) := (za BK281.out 1).trans rfl; have hcz17_2 : w5.cell? ⟨gb281, 2, none⟩ = some (.string a0_2) := (za BK281.out 2).trans rfl; have hcz17_3 : w5.cell? ⟨gb281, 3, none⟩ = some (.slice A0_3 l0_3.length c0_3) := (za BK281.out 3).trans rfl; have hcz17_4 : w5.cell? ⟨gb281, 4, none⟩ = some (.slice A0_4 l0_4.length c0_4) := (za BK281.out 4).trans rfl; have hfz17_0 := zi BK281.out 0; have hfz17_1 := zi BK281.out 1; have hfz17_2 := zi BK281.out 2; have hfz17_3 := zi BK281.out 3; have hfz17_4 := zi BK281.out 4; have hcz18_0 : w5.cell? ⟨gb282, 0, none⟩ = some (.int .i64 a1_0) := (za BK282.out 0).trans rfl; have hcz18_1 : w5.cell? ⟨gb282, 1, none⟩ = some (.int .i64 a1_1) := (za BK282.out 1).trans rfl; have hcz18_2 : w5.cell? ⟨gb282, 2, none⟩ = some (.string a1_2) := (za BK282.out 2).trans rfl; have hcz18_3 : w5.cell? ⟨gb282, 3, none⟩ = some (.slice A1_3 l1_3.length c1_3) := (za BK282.out 3).trans rfl; have hcz18_4 : w5.cell? ⟨gb282, 4, none⟩ = some (.slice A1_4 l1_4.length c1_4) := (za BK282.out 4).trans rfl; have hfz18_0 := zi BK282.out 0; have hfz18_1 := zi BK282.out 1; have hfz18_2 := zi BK282.out 2; have hfz18_3 := zi BK282.out 3; have hfz18_4 := zi BK282.out 4
     go_wp2
     go_meet
     case rel => exact ⟨_, (true), (by first | rfl | (simp; done) | (simp [*]; done)), H', ⟨by first | omega | exact Nat.le_refl _⟩, ⟨by (with_reducible repeat (first | refine zf ?_ _ | refine zh ?_ | refine zc ?_ _)); exact BK281.out⟩, ⟨by (with_reducible repeat (first | refine zf ?_ _ | refine zh ?_ | refine zc ?_ _)); exact BK282.out⟩, ⟨by repeat (first | (with_reducible first | exact HB.out | apply zb | apply ze | apply zj | refine zg ?_ GE281.out | refine zg ?_ GE282.out) | exact HB.out)⟩⟩
   ·rw [if_neg c7] at H; have c7b0 : (a0_1 == a1_1) = false := beq_eq_false_iff_ne.mpr c7; have c7b1 : (a0_1 != a1_1) = true := bne_iff_ne.mpr c7; have H' := aM H; clear H; have hnb19 := NB281_282.out; have hnc19 := NB282_281.out; have hcz20_0 : w5.cell? ⟨gb281, 0, none⟩ = some (.int .i64 a0_0) := (za BK281.out 0).trans rfl; have hcz20_1 : w5.cell? ⟨gb281, 1, none⟩ = some (.int .i64 a0_1) := (za BK281.out 1).trans rfl; have hcz20_2 : w5.cell? ⟨gb281, 2, none⟩ = some (.string a0_2) := (za BK281.out 2).trans rfl; have hcz20_3 : w5.cell? ⟨gb281, 3, none⟩ = some (.slice A0_3 l0_3.length c0_3) := (za BK281.out 3).trans rfl; have hcz20_4 : w5.cell? ⟨gb281, 4, none⟩ = some (.slice A0_4 l0_4.length c0_4) := (za BK281.out 4).trans rfl; have hfz20_0 := zi BK281.out 0; have hfz20_1 := zi BK281.out 1; have hfz20_2 := zi BK281.out 2; have hfz20_3 := zi BK281.out 3; have hfz20_4 := zi BK281.out 4; have hcz21_0 : w5.cell? ⟨gb282, 0, none⟩ = some (.int .i64 a1_0) := (za BK282.out 0).trans rfl; have hcz21_1 : w5.cell? ⟨gb282, 1, none⟩ = some (.int .i64 a1_1) := (za BK282.out 1).trans rfl; have hcz21_2 : w5.cell? ⟨gb282, 2, none⟩ = some (.string a1_2) := (za BK282.out 2).trans rfl; have hcz21_3 : w5.cell? ⟨gb282, 3, none⟩ = some (.slice A1_3 l1_3.length c1_3) := (za BK282.out 3).trans rfl; have hcz21_4 : w5.cell? ⟨gb282, 4, none⟩ = some (.slice A1_4 l1_4.length c1_4) := (za BK282.out 4).trans rfl; have hfz21_0 := zi BK282.out 0; have hfz21_1 := zi BK282.out 1; have hfz21_2 := zi BK282.out 2; have hfz21_3 := zi BK282.out 3; have hfz21_4 := zi BK282.out 4
    go_wp2
    go_meet
    case rel => exact ⟨_, (true), (by first | rfl | (simp; done) | (simp [*]; done)), H', ⟨by first | omega | exact Nat.le_refl _⟩, ⟨by (with_reducible repeat (first | refine zf ?_ _ | refine zh ?_ | refine zc ?_ _)); exact BK281.out⟩, ⟨by (with_reducible repeat (first | refine zf ?_ _ | refine zh ?_ | refine zc ?_ _)); exact BK282.out⟩, ⟨by repeat (first | (with_reducible first | exact HB.out | apply zb | apply ze | apply zj | refine zg ?_ GE281.out | refine zg ?_ GE282.out) | exact HB.out)⟩⟩
  ·rw [if_neg c6] at H; have c6b0 : (a0_0 == a1_0) = false := beq_eq_false_iff_ne.mpr c6; have c6b1 : (a0_0 != a1_0) = true := bne_iff_ne.mpr c6
   (first | rw [c6b0] | (simp only [zw, zx]; rw [c6b0]) | skip)
   have H' := aM H; clear H; have hnb22 := NB281_282.out; have hnc22 := NB282_281.out; have hcz23_0 : w5.cell? ⟨gb281, 0, none⟩ = some (.int .i64 a0_0) := (za BK281.out 0).trans rfl; have hcz23_1 : w5.cell? ⟨gb281, 1, none⟩ = some (.int .i64 a0_1) := (za BK281.out 1).trans rfl; have hcz23_2 : w5.cell? ⟨gb281, 2, none⟩ = some (.string a0_2) := (za BK281.out 2).trans rfl; have hcz23_3 : w5.cell? ⟨gb281, 3, none⟩ = some (.slice A0_3 l0_3.length c0_3) := (za BK281.out 3).trans rfl; have hcz23_4 : w5.cell? ⟨gb281, 4, none⟩ = some (.slice A0_4 l0_4.length c0_4) := (za BK281.out 4).trans rfl; have hfz23_0 := zi BK281.out 0; have hfz23_1 := zi BK281.out 1; have hfz23_2 := zi BK281.out 2; have hfz23_3 := zi BK281.out 3; have hfz23_4 := zi BK281.out 4; have hcz24_0 : w5.cell? ⟨gb282, 0, none⟩ = some (.int .i64 a1_0) := (za BK282.out 0).trans rfl; have hcz24_1 : w5.cell? ⟨gb282, 1, none⟩ = some (.int .i64 a1_1) := (za BK282.out 1).trans rfl; have hcz24_2 : w5.cell? ⟨gb282, 2, none⟩ = some (.string a1_2) := (za BK282.out 2).trans rfl; have hcz24_3 : w5.cell? ⟨gb282, 3, none⟩ = some (.slice A1_3 l1_3.length c1_3) := (za BK282.out 3).trans rfl; have hcz24_4 : w5.cell? ⟨gb282, 4, none⟩ = some (.slice A1_4 l1_4.length c1_4) := (za BK282.out 4).trans rfl; have hfz24_0 := zi BK282.out 0; have hfz24_1 := zi BK282.out 1; have hfz24_2 := zi BK282.out 2; have hfz24_3 := zi BK282.out 3; have hfz24_4 := zi BK282.out 4
   go_wp2
   go_meet
   case rel => exact ⟨_, (true), (by first | rfl | (simp; done) | (simp [*]; done)), H', ⟨by first | omega | exact Nat.le_refl _⟩, ⟨by (with_reducible repeat (first | refine zf ?_ _ | refine zh ?_ | refine zc ?_ _)); exact BK281.out⟩, ⟨by (with_reducible repeat (first | refine zf ?_ _ | refine zh ?_ | refine zc ?_ _)); exact BK282.out⟩, ⟨by repeat (first | (with_reducible first | exact HB.out | apply zb | apply ze | apply zj | refine zg ?_ GE281.out | refine zg ?_ GE282.out) | exact HB.out)⟩⟩
 case rest =>
  clear HC3
  try clear c1
  try clear c2
  try clear p2
  try clear c6
  try clear c6b0
  try clear c6b1
  try clear c7
  try clear c7b0
  try clear c7b1
  try clear c8
  try clear c8b0
  try clear c8b1
  try clear c9
  try clear c9b0
  try clear c9b1
  try clear c9b2
  try clear c10
  try clear c13
  try clear c16
  try clear c19
  try clear c22
  try clear hcz11_0
  try clear hcz11_1
  try clear hcz11_2
  try clear hcz11_3
  try clear hcz11_4
  try clear hcz12_0
  try clear hcz12_1
  try clear hcz12_2
  try clear hcz12_3
  try clear hcz12_4
  try clear hcz14_0
  try clear hcz14_1
  try clear hcz14_2
  try clear hcz14_3
  try clear hcz14_4
  try clear hcz15_0
  try clear hcz15_1
  try clear hcz15_2
  try clear hcz15_3
  try clear hcz15_4
  try clear hcz17_0
  try clear hcz17_1
  try clear hcz17_2
  try clear hcz17_3
  try clear hcz17_4
  try clear hcz18_0
  try clear hcz18_1
  try clear hcz18_2
  try clear hcz18_3
  try clear hcz18_4
  try clear hcz20_0
  try clear hcz20_1
  try clear hcz20_2
  try clear hcz20_3
  try clear hcz20_4
  try clear hcz21_0
  try clear hcz21_1
  try clear hcz21_2
  try clear hcz21_3
  try clear hcz21_4
  try clear hcz23_0
  try clear hcz23_1
  try clear hcz23_2
  try clear hcz23_3
  try clear hcz23_4
  try clear hcz24_0
  try clear hcz24_1
  try clear hcz24_2
  try clear hcz24_3
  try clear hcz24_4
  try clear hfz11_0
  try clear hfz11_1
  try clear hfz11_2
  try clear hfz11_3
  try clear hfz11_4
  try clear hfz12_0
  try clear hfz12_1
  try clear hfz12_2
  try clear hfz12_3
  try clear hfz12_4
  try clear hfz14_0
  try clear hfz14_1
  try clear hfz14_2
  try clear hfz14_3
  try clear hfz14_4
  try clear hfz15_0
  try clear hfz15_1
  try clear hfz15_2
  try clear hfz15_3
  try clear hfz15_4
  try clear hfz17_0
  try clear hfz17_1
  try clear hfz17_2
  try clear hfz17_3
  try clear hfz17_4
  try clear hfz18_0
  try clear hfz18_1
  try clear hfz18_2
  try clear hfz18_3
  try clear hfz18_4
  try clear hfz20_0
  try clear hfz20_1
  try clear hfz20_2
  try clear hfz20_3
  try clear hfz20_4
  try clear hfz21_0
  try clear hfz21_1
  try clear hfz21_2
  try clear hfz21_3
  try clear hfz21_4
  try clear hfz23_0
  try clear hfz23_1
  try clear hfz23_2
  try clear hfz23_3
  try clear hfz23_4
  try clear hfz24_0
  try clear hfz24_1
  try clear hfz24_2
  try clear hfz24_3
  try clear hfz24_4
  obtain ⟨kq, x43_2, rfl, HA, HJ2, BK281, BK282, HB⟩ := hcut
  cases kq with
  | zero => exact absurd HA.out (by simp [spec_Same.j0])
  | succ kj2 =>
   have H := HA.out; clear HA; simp only [spec_Same.j0] at H
   by_cases c25 : x43_2 = true
   ·subst c25
    have H1 : (some false) = some r := by rw [if_pos rfl] at H; exact H
    clear H; have H := H1; clear H1; obtain rfl := Option.some.inj H
    go_wp2
    go_ret
    exact ⟨by first | rfl | (simp [zv, zu] <;> rfl) | (simp [*, zv, zu] <;> rfl), by repeat (first | (with_reducible first | exact HB.out | apply zb | apply ze | apply zj | refine zg ?_ GE281.out | refine zg ?_ GE282.out) | exact HB.out)⟩
   ·replace c25 := Bool.eq_false_iff.mpr c25; subst c25
    have H1 : (spec_Same.l0 kj2 0 a0_0 a0_1 a0_2 l0_3 l0_4 a1_0 a1_1 a1_2 l1_3 l1_4) = some r := by rw [if_neg (show ¬ (false = true) by decide)] at H; exact H
    clear H; have H := H1; clear H1; have H' := aM H; clear H
    go_wp2
    go_loopg [5] kj2 (fun kq v5 w' => ∃ (x5_2 : Int), v5 = .int .i64 x5_2 ∧ Aside0 (spec_Same.l0 kq x5_2 a0_0 a0_1 a0_2 l0_3 l0_4 a1_0 a1_1 a1_2 l1_3 l1_4 = some r) ∧ Aside0 (kq ≤ kj2) ∧ Aside0 (w'.heap[gb281]? = some (.cells #[.int .i64 a0_0, .int .i64 a0_1, .string a0_2, (.slice A0_3 l0_3.length c0_3), (.slice A0_4 l0_4.length c0_4)] 25 (0, 0))) ∧ Aside0 (w'.heap[gb282]? = some (.cells #[.int .i64 a1_0, .int .i64 a1_1, .string a1_2, (.slice A1_3 l1_3.length c1_3), (.slice A1_4 l1_4.length c1_4)] 25 (0, 0))) ∧ Aside0 (Below w.heap.size w w'))
    case atStart => exact ⟨(0), (by first | rfl | (simp; done) | (simp [*]; done)), H', ⟨Nat.le_refl _⟩, ⟨by (with_reducible repeat (first | refine zf ?_ _ | refine zh ?_ | refine zc ?_ _)); exact BK281.out⟩, ⟨by (with_reducible repeat (first | refine zf ?_ _ | refine zh ?_ | refine zc ?_ _)); exact BK282.out⟩, ⟨by repeat (first | (with_reducible first | exact HB.out | apply zb | apply ze | apply zj | refine zg ?_ GE281.out | refine zg ?_ GE282.out) | exact HB.out)⟩⟩
    case round =>
     clear H'
     try clear c1
     try clear c2
     try clear p2
     try clear c6
     try clear c6b0
     try clear c6b1
     try clear c7
     try clear c7b0
     try clear c7b1
     try clear c8
     try clear c8b0
     try clear c8b1
     try clear c9
     try clear c9b0
     try clear c9b1
     try clear c9b2
     try clear c10
     try clear c13
     try clear c16
     try clear c19
     try clear c22
     try clear c25
     try clear hcz11_0
     try clear hcz11_1
     try clear hcz11_2
     try clear hcz11_3
     try clear hcz11_4
     try clear hcz12_0
     try clear hcz12_1
     try clear hcz12_2
     try clear hcz12_3
     try clear hcz12_4
     try clear hcz14_0
     try clear hcz14_1
     try clear hcz14_2
     try clear hcz14_3
     try clear hcz14_4
     try clear hcz15_0
     try clear hcz15_1
     try clear hcz15_2
     try clear hcz15_3
     try clear hcz15_4
     try clear hcz17_0
     try clear hcz17_1
     try clear hcz17_2
     try clear hcz17_3
     try clear hcz17_4
     try clear hcz18_0
     try clear hcz18_1
     try clear hcz18_2
     try clear hcz18_3
     try clear hcz18_4
     try clear hcz20_0
     try clear hcz20_1
     try clear hcz20_2
     try clear hcz20_3
     try clear hcz20_4
     try clear hcz21_0
     try clear hcz21_1
     try clear hcz21_2
     try clear hcz21_3
     try clear hcz21_4
     try clear hcz23_0
     try clear hcz23_1
     try clear hcz23_2
     try clear hcz23_3
     try clear hcz23_4
     try clear hcz24_0
     try clear hcz24_1
     try clear hcz24_2
     try clear hcz24_3
     try clear hcz24_4
     try clear hfz11_0
     try clear hfz11_1
     try clear hfz11_2
     try clear hfz11_3
     try clear hfz11_4
     try clear hfz12_0
     try clear hfz12_1
     try clear hfz12_2
     try clear hfz12_3
     try clear hfz12_4
     try clear hfz14_0
     try clear hfz14_1
     try clear hfz14_2
     try clear hfz14_3
     try clear hfz14_4
     try clear hfz15_0
     try clear hfz15_1
     try clear hfz15_2
     try clear hfz15_3
     try clear hfz15_4
     try clear hfz17_0
     try clear hfz17_1
     try clear hfz17_2
     try clear hfz17_3
     try clear hfz17_4
     try clear hfz18_0
     try clear hfz18_1
     try clear hfz18_2
     try clear hfz18_3
     try clear hfz18_4
     try clear hfz20_0
     try clear hfz20_1
     try clear hfz20_2
     try clear hfz20_3
     try clear hfz20_4
     try clear hfz21_0
     try clear hfz21_1
     try clear hfz21_2
     try clear hfz21_3
     try clear hfz21_4
     try clear hfz23_0
     try clear hfz23_1
     try clear hfz23_2
     try clear hfz23_3
     try clear hfz23_4
     try clear hfz24_0
     try clear hfz24_1
     try clear hfz24_2
     try clear hfz24_3
     try clear hfz24_4
     try clear p2
     obtain ⟨x5_2, rfl, HA, HK2, BK281, BK282, HB⟩ := hrel
     cases gk with
     | zero => exact absurd HA.out (by simp [spec_Same.l0])
     | succ k2 =>
      have H := HA.out; clear HA; simp only [spec_Same.l0] at H
      by_cases c26 : x5_2 < (l0_3.length : Int)
      ·rw [if_pos c26] at H; have c26b0 : decide (x5_2 < (l0_3.length : Int)) = true := decide_eq_true c26; clear c26
       by_cases c27 : 0 ≤ x5_2
       ·rw [if_pos c27] at H; have c27b0 : decide (0 ≤ x5_2) = true := decide_eq_true c27; clear c27
        by_cases c28 : x5_2 < (l1_3.length : Int)
        ·rw [if_pos c28] at H; have c28b0 : decide (x5_2 < (l1_3.length : Int)) = true := decide_eq_true c28; clear c28
         by_cases c29 : (rdOf ByteArray.empty l0_3 x5_2).toList = (rdOf ByteArray.empty l1_3 x5_2).toList
         ·rw [if_pos c29] at H; have c29b0 : ((rdOf ByteArray.empty l0_3 x5_2).toList == (rdOf ByteArray.empty l1_3 x5_2).toList) = true := beq_iff_eq.mpr c29; have c29b1 : ((rdOf ByteArray.empty l0_3 x5_2).toList != (rdOf ByteArray.empty l1_3 x5_2).toList) = false := bne_eq_false_iff_eq.mpr c29; clear c29; have H' := aM H; clear H; have hnb30 := NB281_282.out; have hnc30 := NB282_281.out; have hcz31_0 : wr.cell? ⟨gb281, 0, none⟩ = some (.int .i64 a0_0) := (za BK281.out 0).trans rfl; have hcz31_1 : wr.cell? ⟨gb281, 1, none⟩ = some (.int .i64 a0_1) := (za BK281.out 1).trans rfl; have hcz31_2 : wr.cell? ⟨gb281, 2, none⟩ = some (.string a0_2) := (za BK281.out 2).trans rfl; have hcz31_3 : wr.cell? ⟨gb281, 3, none⟩ = some (.slice A0_3 l0_3.length c0_3) := (za BK281.out 3).trans rfl; have hcz31_4 : wr.cell? ⟨gb281, 4, none⟩ = some (.slice A0_4 l0_4.length c0_4) := (za BK281.out 4).trans rfl; have hfz31_0 := zi BK281.out 0; have hfz31_1 := zi BK281.out 1; have hfz31_2 := zi BK281.out 2; have hfz31_3 := zi BK281.out 3; have hfz31_4 := zi BK281.out 4
          try go_wp2
          have n0_ := aM (zh BK281.out); have n1_ := aM (zh BK282.out); have n2_ := aM (zj HB.out); clear BK281 BK282 HB; have BK281 := n0_; have BK282 := n1_; have HB := n2_; clear n0_ n1_ n2_; have p283 : 0 ≤ (x5_2 : Int) := of_decide_eq_true (by first | (with_reducible assumption) | assumption); have q283 : x5_2 < (l0_3.length : Int) := of_decide_eq_true (by first | (with_reducible assumption) | assumption); obtain ⟨ad283, e283, hx283_0⟩ := Kd.at_string HR0_3.out x5_2 p283 q283; have hw283_0 := hx283_0
          cases e283
          replace hx283_0 := (HB.out.cell (World.block_lt_of_cell? w _ hx283_0)).trans hx283_0; replace p283 := eq_true p283; replace q283 := eq_true q283; have p284 : 0 ≤ (x5_2 : Int) := of_decide_eq_true (by first | (with_reducible assumption) | assumption); have q284 : x5_2 < (l1_3.length : Int) := of_decide_eq_true (by first | (with_reducible assumption) | assumption); obtain ⟨ad284, e284, hx284_0⟩ := Kd.at_string HR1_3.out x5_2 p284 q284; have hw284_0 := hx284_0
          cases e284
          replace hx284_0 := (HB.out.cell (World.block_lt_of_cell? w _ hx284_0)).trans hx284_0; replace p284 := eq_true p284; replace q284 := eq_true q284; refine xc (n := 11) (S := fun w' => w'.cell? ⟨gb281, 0, none⟩ = some (.int .i64 a0_0) ∧ w'.cell? ⟨gb281, 1, none⟩ = some (.int .i64 a0_1) ∧ w'.cell? ⟨gb281, 2, none⟩ = some (.string a0_2) ∧ w'.cell? ⟨gb281, 3, none⟩ = some (.slice (some ad283) l0_3.length c0_3) ∧ w'.cell? ⟨gb281, 4, none⟩ = some (.slice A0_4 l0_4.length c0_4) ∧ w'.cell? ⟨gb282, 0, none⟩ = some (.int .i64 a1_0) ∧ w'.cell? ⟨gb282, 1, none⟩ = some (.int .i64 a1_1) ∧ w'.cell? ⟨gb282, 2, none⟩ = some (.string a1_2) ∧ w'.cell? ⟨gb282, 3, none⟩ = some (.slice (some ad284) l1_3.length c1_3) ∧ w'.cell? ⟨gb282, 4, none⟩ = some (.slice A1_4 l1_4.length c1_4) ∧ w'.cell? (ad283.add (x5_2).toNat) = some (.string (rdOf ByteArray.empty l0_3 x5_2)) ∧ w'.cell? (ad284.add (x5_2).toNat) = some (.string (rdOf ByteArray.empty l1_3 x5_2))) (ds := []) (bZ 11 0) (by kernel_rfl) rfl rfl ⟨(za BK281.out 0).trans rfl, (za BK281.out 1).trans rfl, (za BK281.out 2).trans rfl, (za BK281.out 3).trans rfl, (za BK281.out 4).trans rfl, (za BK282.out 0).trans rfl, (za BK282.out 1).trans rfl, (za BK282.out 2).trans rfl, (za BK282.out 3).trans rfl, (za BK282.out 4).trans rfl, ((HB.out.cell (World.block_lt_of_cell? w _ hw283_0)).trans hw283_0), ((HB.out.cell (World.block_lt_of_cell? w _ hw284_0)).trans hw284_0)⟩ (fun hHeld => ?_); refine xk spec_Same.tab6 spec_Same.bits6 (fun HT_ HW_ => ?_); generalize wr.drew = w32 at BK281 BK282 HB hx283_0 hx284_0 hHeld ⊢; refine pU 0 (some 51) (bZ 11 1) rfl (ye HT_.out (by kernel_rfl)) ?_; refine pU 2 (some 53) (bZ 11 5) rfl (ye HT_.out (by kernel_rfl)) ?_; refine pU 5 (some 56) (bZ 11 37) rfl (ye HT_.out (by kernel_rfl)) ?_; refine pU 7 (some 58) (bZ 11 165) rfl (ye HT_.out (by kernel_rfl)) ?_; refine tU 1 (some 52) (bZ 11 167) rfl (yg HT_.out HW_.out (by kernel_rfl)) (Or.inl ⟨by rfl, by rintro w' ⟨s0, s1, s2, s3, s4, s5, s6, s7, s8, s9, s10, s11⟩; go_simp; with_reducible rfl⟩) hHeld ?_; refine pU 3 (some 54) (bZ 11 175) rfl (ye HT_.out (by kernel_rfl)) ?_; refine tU 4 (some 55) (bZ 11 191) rfl (yg HT_.out HW_.out (by kernel_rfl)) (Or.inl ⟨by rfl, by rintro w' ⟨s0, s1, s2, s3, s4, s5, s6, s7, s8, s9, s10, s11⟩; go_simp; with_reducible rfl⟩) hHeld ?_; refine tU 6 (some 57) (bZ 11 255) rfl (yg HT_.out HW_.out (by kernel_rfl)) (Or.inl ⟨by rfl, by rintro w' ⟨s0, s1, s2, s3, s4, s5, s6, s7, s8, s9, s10, s11⟩; go_simp; with_reducible rfl⟩) hHeld ?_; refine pU 8 (some 59) (bZ 11 511) rfl (ye HT_.out (by kernel_rfl)) ?_; refine tU 9 (some 60) (bZ 11 1023) rfl (yg HT_.out HW_.out (by kernel_rfl)) (Or.inl ⟨by rfl, by rintro w' ⟨s0, s1, s2, s3, s4, s5, s6, s7, s8, s9, s10, s11⟩; go_simp; with_reducible rfl⟩) hHeld ?_; refine pU 10 (some 61) (bZ 11 2047) rfl (ye HT_.out (by kernel_rfl)) ?_; refine xp (done_of HT_.out (by kernel_rfl)) ?_
          try go_wp2
          go_roundg k2
          case measure => have := HJ2.out; have := HK2.out; omega
          case rel => exact ⟨(wrap64 (x5_2 + 1)), (by first | rfl | (simp; done) | (simp [*]; done)), H', ⟨by have := HJ2.out; have := HK2.out; omega⟩, ⟨by (with_reducible repeat (first | refine zf ?_ _ | refine zh ?_ | refine zc ?_ _)); exact BK281.out⟩, ⟨by (with_reducible repeat (first | refine zf ?_ _ | refine zh ?_ | refine zc ?_ _)); exact BK282.out⟩, ⟨by repeat (first | (with_reducible first | exact HB.out | apply zb | apply ze | apply zj | refine zg ?_ GE281.out | refine zg ?_ GE282.out) | exact HB.out)⟩⟩
         ·rw [if_neg c29] at H; have c29b0 : ((rdOf ByteArray.empty l0_3 x5_2).toList == (rdOf ByteArray.empty l1_3 x5_2).toList) = false := beq_eq_false_iff_ne.mpr c29; have c29b1 : ((rdOf ByteArray.empty l0_3 x5_2).toList != (rdOf ByteArray.empty l1_3 x5_2).toList) = true := bne_iff_ne.mpr c29; obtain rfl := Option.some.inj H; have hnb33 := NB281_282.out; have hnc33 := NB282_281.out; have hcz34_0 : wr.cell? ⟨gb281, 0, none⟩ = some (.int .i64 a0_0) := (za BK281.out 0).trans rfl; have hcz34_1 : wr.cell? ⟨gb281, 1, none⟩ = some (.int .i64 a0_1) := (za BK281.out 1).trans rfl; have hcz34_2 : wr.cell? ⟨gb281, 2, none⟩ = some (.string a0_2) := (za BK281.out 2).trans rfl; have hcz34_3 : wr.cell? ⟨gb281, 3, none⟩ = some (.slice A0_3 l0_3.length c0_3) := (za BK281.out 3).trans rfl; have hcz34_4 : wr.cell? ⟨gb281, 4, none⟩ = some (.slice A0_4 l0_4.length c0_4) := (za BK281.out 4).trans rfl; have hfz34_0 := zi BK281.out 0; have hfz34_1 := zi BK281.out 1; have hfz34_2 := zi BK281.out 2; have hfz34_3 := zi BK281.out 3; have hfz34_4 := zi BK281.out 4
          try go_wp2
          have n0_ := aM (zh BK281.out); have n1_ := aM (zh BK282.out); have n2_ := aM (zj HB.out); clear BK281 BK282 HB; have BK281 := n0_; have BK282 := n1_; have HB := n2_; clear n0_ n1_ n2_; have p283 : 0 ≤ (x5_2 : Int) := of_decide_eq_true (by first | (with_reducible assumption) | assumption); have q283 : x5_2 < (l0_3.length : Int) := of_decide_eq_true (by first | (with_reducible assumption) | assumption); obtain ⟨ad283, e283, hx283_0⟩ := Kd.at_string HR0_3.out x5_2 p283 q283; have hw283_0 := hx283_0
          cases e283
          replace hx283_0 := (HB.out.cell (World.block_lt_of_cell? w _ hx283_0)).trans hx283_0; replace p283 := eq_true p283; replace q283 := eq_true q283; have p284 : 0 ≤ (x5_2 : Int) := of_decide_eq_true (by first | (with_reducible assumption) | assumption); have q284 : x5_2 < (l1_3.length : Int) := of_decide_eq_true (by first | (with_reducible assumption) | assumption); obtain ⟨ad284, e284, hx284_0⟩ := Kd.at_string HR1_3.out x5_2 p284 q284; have hw284_0 := hx284_0
          cases e284
          replace hx284_0 := (HB.out.cell (World.block_lt_of_cell? w _ hx284_0)).trans hx284_0; replace p284 := eq_true p284; replace q284 := eq_true q284; refine xc (n := 11) (S := fun w' => w'.cell? ⟨gb281, 0, none⟩ = some (.int .i64 a0_0) ∧ w'.cell? ⟨gb281, 1, none⟩ = some (.int .i64 a0_1) ∧ w'.cell? ⟨gb281, 2, none⟩ = some (.string a0_2) ∧ w'.cell? ⟨gb281, 3, none⟩ = some (.slice (some ad283) l0_3.length c0_3) ∧ w'.cell? ⟨gb281, 4, none⟩ = some (.slice A0_4 l0_4.length c0_4) ∧ w'.cell? ⟨gb282, 0, none⟩ = some (.int .i64 a1_0) ∧ w'.cell? ⟨gb282, 1, none⟩ = some (.int .i64 a1_1) ∧ w'.cell? ⟨gb282, 2, none⟩ = some (.string a1_2) ∧ w'.cell? ⟨gb282, 3, none⟩ = some (.slice (some ad284) l1_3.length c1_3) ∧ w'.cell? ⟨gb282, 4, none⟩ = some (.slice A1_4 l1_4.length c1_4) ∧ w'.cell? (ad283.add (x5_2).toNat) = some (.string (rdOf ByteArray.empty l0_3 x5_2)) ∧ w'.cell? (ad284.add (x5_2).toNat) = some (.string (rdOf ByteArray.empty l1_3 x5_2))) (ds := []) (bZ 11 0) (by kernel_rfl) rfl rfl ⟨(za BK281.out 0).trans rfl, (za BK281.out 1).trans rfl, (za BK281.out 2).trans rfl, (za BK281.out 3).trans rfl, (za BK281.out 4).trans rfl, (za BK282.out 0).trans rfl, (za BK282.out 1).trans rfl, (za BK282.out 2).trans rfl, (za BK282.out 3).trans rfl, (za BK282.out 4).trans rfl, ((HB.out.cell (World.block_lt_of_cell? w _ hw283_0)).trans hw283_0), ((HB.out.cell (World.block_lt_of_cell? w _ hw284_0)).trans hw284_0)⟩ (fun hHeld => ?_); refine xk spec_Same.tab6 spec_Same.bits6 (fun HT_ HW_ => ?_); generalize wr.drew = w35 at BK281 BK282 HB hx283_0 hx284_0 hHeld ⊢; refine pU 0 (some 51) (bZ 11 1) rfl (ye HT_.out (by kernel_rfl)) ?_; refine pU 2 (some 53) (bZ 11 5) rfl (ye HT_.out (by kernel_rfl)) ?_; refine pU 5 (some 56) (bZ 11 37) rfl (ye HT_.out (by kernel_rfl)) ?_; refine pU 7 (some 58) (bZ 11 165) rfl (ye HT_.out (by kernel_rfl)) ?_; refine tU 1 (some 52) (bZ 11 167) rfl (yg HT_.out HW_.out (by kernel_rfl)) (Or.inl ⟨by rfl, by rintro w' ⟨s0, s1, s2, s3, s4, s5, s6, s7, s8, s9, s10, s11⟩; go_simp; with_reducible rfl⟩) hHeld ?_; refine pU 3 (some 54) (bZ 11 175) rfl (ye HT_.out (by kernel_rfl)) ?_; refine tU 4 (some 55) (bZ 11 191) rfl (yg HT_.out HW_.out (by kernel_rfl)) (Or.inl ⟨by rfl, by rintro w' ⟨s0, s1, s2, s3, s4, s5, s6, s7, s8, s9, s10, s11⟩; go_simp; with_reducible rfl⟩) hHeld ?_; refine tU 6 (some 57) (bZ 11 255) rfl (yg HT_.out HW_.out (by kernel_rfl)) (Or.inl ⟨by rfl, by rintro w' ⟨s0, s1, s2, s3, s4, s5, s6, s7, s8, s9, s10, s11⟩; go_simp; with_reducible rfl⟩) hHeld ?_; refine pU 8 (some 59) (bZ 11 511) rfl (ye HT_.out (by kernel_rfl)) ?_; refine tU 9 (some 60) (bZ 11 1023) rfl (yg HT_.out HW_.out (by kernel_rfl)) (Or.inl ⟨by rfl, by rintro w' ⟨s0, s1, s2, s3, s4, s5, s6, s7, s8, s9, s10, s11⟩; go_simp; with_reducible rfl⟩) hHeld ?_; refine pU 10 (some 61) (bZ 11 2047) rfl (ye HT_.out (by kernel_rfl)) ?_; refine xp (done_of HT_.out (by kernel_rfl)) ?_
          try go_wp2
          go_ret
          exact ⟨by first | rfl | (simp [zv, zu] <;> rfl) | (simp [*, zv, zu] <;> rfl), by repeat (first | (with_reducible first | exact HB.out | apply zb | apply ze | apply zj | refine zg ?_ GE281.out | refine zg ?_ GE282.out) | exact HB.out)⟩
        ·rw [if_neg c28] at H; exact absurd H (by simp)
       ·rw [if_neg c27] at H; exact absurd H (by simp)
      ·rw [if_neg c26] at H; have c26b0 : decide (x5_2 < (l0_3.length : Int)) = false := decide_eq_false c26; clear c26; have H' := aM H; clear H; have hnb36 := NB281_282.out; have hnc36 := NB282_281.out; have hcz37_0 : wr.cell? ⟨gb281, 0, none⟩ = some (.int .i64 a0_0) := (za BK281.out 0).trans rfl; have hcz37_1 : wr.cell? ⟨gb281, 1, none⟩ = some (.int .i64 a0_1) := (za BK281.out 1).trans rfl; have hcz37_2 : wr.cell? ⟨gb281, 2, none⟩ = some (.string a0_2) := (za BK281.out 2).trans rfl; have hcz37_3 : wr.cell? ⟨gb281, 3, none⟩ = some (.slice A0_3 l0_3.length c0_3) := (za BK281.out 3).trans rfl; have hcz37_4 : wr.cell? ⟨gb281, 4, none⟩ = some (.slice A0_4 l0_4.length c0_4) := (za BK281.out 4).trans rfl; have hfz37_0 := zi BK281.out 0; have hfz37_1 := zi BK281.out 1; have hfz37_2 := zi BK281.out 2; have hfz37_3 := zi BK281.out 3; have hfz37_4 := zi BK281.out 4
       go_wp2
       go_loopg [6] k2 (fun kq v6 w' => ∃ (x6_3 : Int), v6 = .int .i64 x6_3 ∧ Aside0 (spec_Same.l1 kq x6_3 a0_0 a0_1 a0_2 l0_3 l0_4 a1_0 a1_1 a1_2 l1_3 l1_4 = some r) ∧ Aside0 (kq ≤ k2) ∧ Aside0 (w'.heap[gb281]? = some (.cells #[.int .i64 a0_0, .int .i64 a0_1, .string a0_2, (.slice A0_3 l0_3.length c0_3), (.slice A0_4 l0_4.length c0_4)] 25 (0, 0))) ∧ Aside0 (w'.heap[gb282]? = some (.cells #[.int .i64 a1_0, .int .i64 a1_1, .string a1_2, (.slice A1_3 l1_3.length c1_3), (.slice A1_4 l1_4.length c1_4)] 25 (0, 0))) ∧ Aside0 (Below w.heap.size w w'))
       case atStart => exact ⟨(0), (by first | rfl | (simp; done) | (simp [*]; done)), H', ⟨Nat.le_refl _⟩, ⟨by (with_reducible repeat (first | refine zf ?_ _ | refine zh ?_ | refine zc ?_ _)); exact BK281.out⟩, ⟨by (with_reducible repeat (first | refine zf ?_ _ | refine zh ?_ | refine zc ?_ _)); exact BK282.out⟩, ⟨by repeat (first | (with_reducible first | exact HB.out | apply zb | apply ze | apply zj | refine zg ?_ GE281.out | refine zg ?_ GE282.out) | exact HB.out)⟩⟩
       case round =>
        clear H'
        try clear c1
        try clear c2
        try clear p2
        try clear q2
        try clear hx2
        try clear c3
        try clear c6
        try clear c6b0
        try clear c6b1
        try clear p6
        try clear c7
        try clear c7b0
        try clear c7b1
        try clear c8
        try clear c8b0
        try clear c8b1
        try clear c9
        try clear c9b0
        try clear c9b1
        try clear c9b2
        try clear c10
        try clear c13
        try clear c16
        try clear c19
        try clear c22
        try clear c25
        try clear c26
        try clear c26b0
        try clear c27
        try clear c27b0
        try clear c28
        try clear c28b0
        try clear p28
        try clear q28
        try clear hx28
        try clear c29
        try clear c29b0
        try clear c29b1
        try clear c30
        try clear c33
        try clear c36
        try clear hcz11_0
        try clear hcz11_1
        try clear hcz11_2
        try clear hcz11_3
        try clear hcz11_4
        try clear hcz12_0
        try clear hcz12_1
        try clear hcz12_2
        try clear hcz12_3
        try clear hcz12_4
        try clear hcz14_0
        try clear hcz14_1
        try clear hcz14_2
        try clear hcz14_3
        try clear hcz14_4
        try clear hcz15_0
        try clear hcz15_1
        try clear hcz15_2
        try clear hcz15_3
        try clear hcz15_4
        try clear hcz17_0
        try clear hcz17_1
        try clear hcz17_2
        try clear hcz17_3
        try clear hcz17_4
        try clear hcz18_0
        try clear hcz18_1
        try clear hcz18_2
        try clear hcz18_3
        try clear hcz18_4
        try clear hcz20_0
        try clear hcz20_1
        try clear hcz20_2
        try clear hcz20_3
        try clear hcz20_4
        try clear hcz21_0
        try clear hcz21_1
        try clear hcz21_2
        try clear hcz21_3
        try clear hcz21_4
        try clear hcz23_0
        try clear hcz23_1
        try clear hcz23_2
        try clear hcz23_3
        try clear hcz23_4
        try clear hcz24_0
        try clear hcz24_1
        try clear hcz24_2
        try clear hcz24_3
        try clear hcz24_4
        try clear hcz31_0
        try clear hcz31_1
        try clear hcz31_2
        try clear hcz31_3
        try clear hcz31_4
        try clear hcz34_0
        try clear hcz34_1
        try clear hcz34_2
        try clear hcz34_3
        try clear hcz34_4
        try clear hcz37_0
        try clear hcz37_1
        try clear hcz37_2
        try clear hcz37_3
        try clear hcz37_4
        try clear hfz11_0
        try clear hfz11_1
        try clear hfz11_2
        try clear hfz11_3
        try clear hfz11_4
        try clear hfz12_0
        try clear hfz12_1
        try clear hfz12_2
        try clear hfz12_3
        try clear hfz12_4
        try clear hfz14_0
        try clear hfz14_1
        try clear hfz14_2
        try clear hfz14_3
        try clear hfz14_4
        try clear hfz15_0
        try clear hfz15_1
        try clear hfz15_2
        try clear hfz15_3
        try clear hfz15_4
        try clear hfz17_0
        try clear hfz17_1
        try clear hfz17_2
        try clear hfz17_3
        try clear hfz17_4
        try clear hfz18_0
        try clear hfz18_1
        try clear hfz18_2
        try clear hfz18_3
        try clear hfz18_4
        try clear hfz20_0
        try clear hfz20_1
        try clear hfz20_2
        try clear hfz20_3
        try clear hfz20_4
        try clear hfz21_0
        try clear hfz21_1
        try clear hfz21_2
        try clear hfz21_3
        try clear hfz21_4
        try clear hfz23_0
        try clear hfz23_1
        try clear hfz23_2
        try clear hfz23_3
        try clear hfz23_4
        try clear hfz24_0
        try clear hfz24_1
        try clear hfz24_2
        try clear hfz24_3
        try clear hfz24_4
        try clear hfz31_0
        try clear hfz31_1
        try clear hfz31_2
        try clear hfz31_3
        try clear hfz31_4
        try clear hfz34_0
        try clear hfz34_1
        try clear hfz34_2
        try clear hfz34_3
        try clear hfz34_4
        try clear hfz37_0
        try clear hfz37_1
        try clear hfz37_2
        try clear hfz37_3
        try clear hfz37_4
        try clear hx283_0
        try clear hx284_0
        try clear p2
        try clear p283
        try clear p284
        try clear q283
        try clear q284
        obtain ⟨x6_3, rfl, HA, HK3, BK281, BK282, HB⟩ := hrel
        cases gk with
        | zero => exact absurd HA.out (by simp [spec_Same.l1])
        | succ k3 =>
         have H := HA.out; clear HA; simp only [spec_Same.l1] at H
         by_cases c38 : x6_3 < (l0_4.length : Int)
         ·rw [if_pos c38] at H; have c38b0 : decide (x6_3 < (l0_4.length : Int)) = true := decide_eq_true c38; clear c38
          by_cases c39 : 0 ≤ x6_3
          ·rw [if_pos c39] at H; have c39b0 : decide (0 ≤ x6_3) = true := decide_eq_true c39; clear c39
           by_cases c40 : x6_3 < (l1_4.length : Int)
           ·rw [if_pos c40] at H; have c40b0 : decide (x6_3 < (l1_4.length : Int)) = true := decide_eq_true c40; clear c40; replace H := Option.bind_eq_some_iff.mp H; obtain ⟨t287, A410, H⟩ := H; replace H : (if t287 = true then (spec_Same.l1 k3 (wrap64 (x6_3 + 1)) a0_0 a0_1 a0_2 l0_3 l0_4 a1_0 a1_1 a1_2 l1_3 l1_4) else (some false)) = some r := H; have A41 := aM A410; clear A410
            by_cases c42 : t287 = true
            ·subst c42
             have H1 : (spec_Same.l1 k3 (wrap64 (x6_3 + 1)) a0_0 a0_1 a0_2 l0_3 l0_4 a1_0 a1_1 a1_2 l1_3 l1_4) = some r := by rw [if_pos rfl] at H; exact H
             clear H; have H := H1; clear H1; have H' := aM H; clear H; have hnb43 := NB281_282.out; have hnc43 := NB282_281.out; have hcz44_0 : wr.cell? ⟨gb281, 0, none⟩ = some (.int .i64 a0_0) := (za BK281.out 0).trans rfl; have hcz44_1 : wr.cell? ⟨gb281, 1, none⟩ = some (.int .i64 a0_1) := (za BK281.out 1).trans rfl; have hcz44_2 : wr.cell? ⟨gb281, 2, none⟩ = some (.string a0_2) := (za BK281.out 2).trans rfl; have hcz44_3 : wr.cell? ⟨gb281, 3, none⟩ = some (.slice A0_3 l0_3.length c0_3) := (za BK281.out 3).trans rfl; have hcz44_4 : wr.cell? ⟨gb281, 4, none⟩ = some (.slice A0_4 l0_4.length c0_4) := (za BK281.out 4).trans rfl; have hfz44_0 := zi BK281.out 0; have hfz44_1 := zi BK281.out 1; have hfz44_2 := zi BK281.out 2; have hfz44_3 := zi BK281.out 3; have hfz44_4 := zi BK281.out 4
             try go_wp2
             have n0_ := aM (zh BK281.out); have n1_ := aM (zh BK282.out); have n2_ := aM (zj HB.out); clear BK281 BK282 HB; have BK281 := n0_; have BK282 := n1_; have HB := n2_; clear n0_ n1_ n2_; have p285 : 0 ≤ (x6_3 : Int) := of_decide_eq_true (by first | (with_reducible assumption) | assumption); have q285 : x6_3 < (l0_4.length : Int) := of_decide_eq_true (by first | (with_reducible assumption) | assumption); obtain ⟨ad285, A285_3, c285_3, A285_4, c285_4, e285, hx285_0, hx285_1, hx285_2, hx285_3, hx285_4, hl285_3, hi285_3, hl285_4, hi285_4⟩ := at_T25 HR0_4.out x6_3 p285 q285; have hw285_4 := hx285_4; have hw285_3 := hx285_3; have hw285_2 := hx285_2; have hw285_1 := hx285_1; have hw285_0 := hx285_0
             cases e285
             replace hx285_0 := (HB.out.cell (World.block_lt_of_cell? w _ hx285_0)).trans hx285_0; replace hx285_1 := (HB.out.cell (World.block_lt_of_cell? w _ hx285_1)).trans hx285_1; replace hx285_2 := (HB.out.cell (World.block_lt_of_cell? w _ hx285_2)).trans hx285_2; replace hx285_3 := (HB.out.cell (World.block_lt_of_cell? w _ hx285_3)).trans hx285_3; replace hx285_4 := (HB.out.cell (World.block_lt_of_cell? w _ hx285_4)).trans hx285_4; have HR285_3 := aM hi285_3; have HC285_3 := aM hl285_3; clear hi285_3 hl285_3; have HR285_4 := aM hi285_4; have HC285_4 := aM hl285_4; clear hi285_4 hl285_4; replace p285 := eq_true p285; replace q285 := eq_true q285; have p286 : 0 ≤ (x6_3 : Int) := of_decide_eq_true (by first | (with_reducible assumption) | assumption); have q286 : x6_3 < (l1_4.length : Int) := of_decide_eq_true (by first | (with_reducible assumption) | assumption); obtain ⟨ad286, A286_3, c286_3, A286_4, c286_4, e286, hx286_0, hx286_1, hx286_2, hx286_3, hx286_4, hl286_3, hi286_3, hl286_4, hi286_4⟩ := at_T25 HR1_4.out x6_3 p286 q286; have hw286_4 := hx286_4; have hw286_3 := hx286_3; have hw286_2 := hx286_2; have hw286_1 := hx286_1; have hw286_0 := hx286_0
             cases e286
             replace hx286_0 := (HB.out.cell (World.block_lt_of_cell? w _ hx286_0)).trans hx286_0; replace hx286_1 := (HB.out.cell (World.block_lt_of_cell? w _ hx286_1)).trans hx286_1; replace hx286_2 := (HB.out.cell (World.block_lt_of_cell? w _ hx286_2)).trans hx286_2; replace hx286_3 := (HB.out.cell (World.block_lt_of_cell? w _ hx286_3)).trans hx286_3; replace hx286_4 := (HB.out.cell (World.block_lt_of_cell? w _ hx286_4)).trans hx286_4; have HR286_3 := aM hi286_3; have HC286_3 := aM hl286_3; clear hi286_3 hl286_3; have HR286_4 := aM hi286_4; have HC286_4 := aM hl286_4; clear hi286_4 hl286_4; replace p286 := eq_true p286; replace q286 := eq_true q286; refine xc (n := 12) (S := fun w' => w'.cell? ⟨gb281, 0, none⟩ = some (.int .i64 a0_0) ∧ w'.cell? ⟨gb281, 1, none⟩ = some (.int .i64 a0_1) ∧ w'.cell? ⟨gb281, 2, none⟩ = some (.string a0_2) ∧ w'.cell? ⟨gb281, 3, none⟩ = some (.slice A0_3 l0_3.length c0_3) ∧ w'.cell? ⟨gb281, 4, none⟩ = some (.slice (some ad285) l0_4.length c0_4) ∧ w'.cell? ⟨gb282, 0, none⟩ = some (.int .i64 a1_0) ∧ w'.cell? ⟨gb282, 1, none⟩ = some (.int .i64 a1_1) ∧ w'.cell? ⟨gb282, 2, none⟩ = some (.string a1_2) ∧ w'.cell? ⟨gb282, 3, none⟩ = some (.slice A1_3 l1_3.length c1_3) ∧ w'.cell? ⟨gb282, 4, none⟩ = some (.slice (some ad286) l1_4.length c1_4) ∧ w'.cell? (ad285.add ((x6_3).toNat * 5)) = some (.int .i64 ((rd_T25 l0_4 x6_3).f0)) ∧ w'.cell? ⟨(ad285.add ((x6_3).toNat * 5)).block, (ad285.add ((x6_3).toNat * 5)).off + 1, none⟩ = some (.int .i64 ((rd_T25 l0_4 x6_3).f1)) ∧ w'.cell? ⟨(ad285.add ((x6_3).toNat * 5)).block, (ad285.add ((x6_3).toNat * 5)).off + 2, none⟩ = some (.string ((rd_T25 l0_4 x6_3).f2)) ∧ w'.cell? ⟨(ad285.add ((x6_3).toNat * 5)).block, (ad285.add ((x6_3).toNat * 5)).off + 3, none⟩ = some (.slice A285_3 ((rd_T25 l0_4 x6_3).f3).length c285_3) ∧ w'.cell? ⟨(ad285.add ((x6_3).toNat * 5)).block, (ad285.add ((x6_3).toNat * 5)).off + 4, none⟩ = some (.slice A285_4 ((rd_T25 l0_4 x6_3).f4).length c285_4) ∧ w'.cell? (ad286.add ((x6_3).toNat * 5)) = some (.int .i64 ((rd_T25 l1_4 x6_3).f0)) ∧ w'.cell? ⟨(ad286.add ((x6_3).toNat * 5)).block, (ad286.add ((x6_3).toNat * 5)).off + 1, none⟩ = some (.int .i64 ((rd_T25 l1_4 x6_3).f1)) ∧ w'.cell? ⟨(ad286.add ((x6_3).toNat * 5)).block, (ad286.add ((x6_3).toNat * 5)).off + 2, none⟩ = some (.string ((rd_T25 l1_4 x6_3).f2)) ∧ w'.cell? ⟨(ad286.add ((x6_3).toNat * 5)).block, (ad286.add ((x6_3).toNat * 5)).off + 3, none⟩ = some (.slice A286_3 ((rd_T25 l1_4 x6_3).f3).length c286_3) ∧ w'.cell? ⟨(ad286.add ((x6_3).toNat * 5)).block, (ad286.add ((x6_3).toNat * 5)).off + 4, none⟩ = some (.slice A286_4 ((rd_T25 l1_4 x6_3).f4).length c286_4)) (ds := []) (bZ 12 0) (by kernel_rfl) rfl rfl ⟨(za BK281.out 0).trans rfl, (za BK281.out 1).trans rfl, (za BK281.out 2).trans rfl, (za BK281.out 3).trans rfl, (za BK281.out 4).trans rfl, (za BK282.out 0).trans rfl, (za BK282.out 1).trans rfl, (za BK282.out 2).trans rfl, (za BK282.out 3).trans rfl, (za BK282.out 4).trans rfl, ((HB.out.cell (World.block_lt_of_cell? w _ hw285_0)).trans hw285_0), ((HB.out.cell (World.block_lt_of_cell? w _ hw285_1)).trans hw285_1), ((HB.out.cell (World.block_lt_of_cell? w _ hw285_2)).trans hw285_2), ((HB.out.cell (World.block_lt_of_cell? w _ hw285_3)).trans hw285_3), ((HB.out.cell (World.block_lt_of_cell? w _ hw285_4)).trans hw285_4), ((HB.out.cell (World.block_lt_of_cell? w _ hw286_0)).trans hw286_0), ((HB.out.cell (World.block_lt_of_cell? w _ hw286_1)).trans hw286_1), ((HB.out.cell (World.block_lt_of_cell? w _ hw286_2)).trans hw286_2), ((HB.out.cell (World.block_lt_of_cell? w _ hw286_3)).trans hw286_3), ((HB.out.cell (World.block_lt_of_cell? w _ hw286_4)).trans hw286_4)⟩ (fun hHeld => ?_); refine xk spec_Same.tab11 spec_Same.bits11 (fun HT_ HW_ => ?_); generalize wr.drew = w45 at BK281 BK282 HB HR285_3 HR285_4 HR286_3 HR286_4 hx285_0 hx285_1 hx285_2 hx285_3 hx285_4 hx286_0 hx286_1 hx286_2 hx286_3 hx286_4 hHeld ⊢; refine pU 0 (some 69) (bZ 12 1) rfl (ye HT_.out (by kernel_rfl)) ?_; refine pU 2 (some 71) (bZ 12 5) rfl (ye HT_.out (by kernel_rfl)) ?_; refine pU 5 (some 74) (bZ 12 37) rfl (ye HT_.out (by kernel_rfl)) ?_; refine pU 7 (some 76) (bZ 12 165) rfl (ye HT_.out (by kernel_rfl)) ?_; refine tU 1 (some 70) (bZ 12 167) rfl (yg HT_.out HW_.out (by kernel_rfl)) (Or.inl ⟨by rfl, by rintro w' ⟨s0, s1, s2, s3, s4, s5, s6, s7, s8, s9, s10, s11, s12, s13, s14, s15, s16, s17, s18, s19⟩; go_simp; with_reducible rfl⟩) hHeld ?_; refine pU 3 (some 72) (bZ 12 175) rfl (ye HT_.out (by kernel_rfl)) ?_; refine tU 4 (some 73) (bZ 12 191) rfl (yg HT_.out HW_.out (by kernel_rfl)) (Or.inl ⟨by rfl, by rintro w' ⟨s0, s1, s2, s3, s4, s5, s6, s7, s8, s9, s10, s11, s12, s13, s14, s15, s16, s17, s18, s19⟩; go_simp; with_reducible rfl⟩) hHeld ?_; refine tU 6 (some 75) (bZ 12 255) rfl (yg HT_.out HW_.out (by kernel_rfl)) (Or.inl ⟨by rfl, by rintro w' ⟨s0, s1, s2, s3, s4, s5, s6, s7, s8, s9, s10, s11, s12, s13, s14, s15, s16, s17, s18, s19⟩; go_simp; with_reducible rfl⟩) hHeld ?_; refine pU 8 (some 77) (bZ 12 511) rfl (ye HT_.out (by kernel_rfl)) ?_; refine tU 9 (some 78) (bZ 12 1023) rfl (yg HT_.out HW_.out (by kernel_rfl)) (Or.inl ⟨by rfl, by rintro w' ⟨s0, s1, s2, s3, s4, s5, s6, s7, s8, s9, s10, s11, s12, s13, s14, s15, s16, s17, s18, s19⟩; go_simp; with_reducible rfl⟩) hHeld ?_; refine one_ (i := 10) (N := some 79) (bZ 12 2047) rfl rfl (yu HT_.out (by kernel_rfl)) (by decide) (fun K hK => ?_); refine goes_ Tryd.func8 (by kernel_rfl) rfl #[.agg #[.int .i64 ((rd_T25 l0_4 x6_3).f0), .int .i64 ((rd_T25 l0_4 x6_3).f1), .string ((rd_T25 l0_4 x6_3).f2), .slice A285_3 ((rd_T25 l0_4 x6_3).f3).length c285_3, .slice A285_4 ((rd_T25 l0_4 x6_3).f4).length c285_4], .agg #[.int .i64 ((rd_T25 l1_4 x6_3).f0), .int .i64 ((rd_T25 l1_4 x6_3).f1), .string ((rd_T25 l1_4 x6_3).f2), .slice A286_3 ((rd_T25 l1_4 x6_3).f3).length c286_3, .slice A286_4 ((rd_T25 l1_4 x6_3).f4).length c286_4]] (by rfl) rfl rfl (by (try simp only [List.map_toArray, List.map_cons, List.map_nil]); first | done | rfl | (simp only [List.length_drop, List.length_take]; rfl)) ?_
             with_reducible refine (ih k3 (by have := HJ2.out; have := HK2.out; have := HK3.out; omega) ((rd_T25 l0_4 x6_3).f0) ((rd_T25 l0_4 x6_3).f1) ((rd_T25 l0_4 x6_3).f2) _ _ ((rd_T25 l0_4 x6_3).f3) _ _ ((rd_T25 l0_4 x6_3).f4) ((rd_T25 l1_4 x6_3).f0) ((rd_T25 l1_4 x6_3).f1) ((rd_T25 l1_4 x6_3).f2) _ _ ((rd_T25 l1_4 x6_3).f3) _ _ ((rd_T25 l1_4 x6_3).f4) true _ ?side1 ?side2 ?side3 ?side4 ?side5 ?side6 ?side7 ?side8 A41.out).mono ?_
             (case side1 => repeat (first | exact (Kd.C_below HR285_3.out HB.out) | (with_reducible refine Kd.C_alloc ?_ _) | (with_reducible refine Kd.C_drewN ?_ _) | (with_reducible refine Kd.C_drew ?_)))
             (case side2 => exact HC285_3.out)
             (case side3 => repeat (first | exact (Kd.C_below HR285_4.out HB.out) | (with_reducible refine Kd.C_alloc ?_ _) | (with_reducible refine Kd.C_drewN ?_ _) | (with_reducible refine Kd.C_drew ?_)))
             (case side4 => exact HC285_4.out)
             (case side5 => repeat (first | exact (Kd.C_below HR286_3.out HB.out) | (with_reducible refine Kd.C_alloc ?_ _) | (with_reducible refine Kd.C_drewN ?_ _) | (with_reducible refine Kd.C_drew ?_)))
             (case side6 => exact HC286_3.out)
             (case side7 => repeat (first | exact (Kd.C_below HR286_4.out HB.out) | (with_reducible refine Kd.C_alloc ?_ _) | (with_reducible refine Kd.C_drewN ?_ _) | (with_reducible refine Kd.C_drew ?_)))
             (case side8 => exact HC286_4.out)
             rintro e w46 ⟨rfl, hb⟩; refine ⟨_, rfl, ?_⟩; have n0_ := aM (zo (g := gb281) (o := .cells #[.int .i64 a0_0, .int .i64 a0_1, .string a0_2, .slice A0_3 l0_3.length c0_3, .slice (some ad285) l0_4.length c0_4] 25 (0, 0)) (by (with_reducible repeat (first | refine zf ?_ _ | refine zh ?_ | refine zc ?_ _)); exact BK281.out) hb); have n1_ := aM (zo (g := gb282) (o := .cells #[.int .i64 a1_0, .int .i64 a1_1, .string a1_2, .slice A1_3 l1_3.length c1_3, .slice (some ad286) l1_4.length c1_4] 25 (0, 0)) (by (with_reducible repeat (first | refine zf ?_ _ | refine zh ?_ | refine zc ?_ _)); exact BK282.out) hb); have n2_ := aM (zq (by repeat (first | (with_reducible first | exact HB.out | apply zb | apply ze | apply zj | refine zg ?_ GE281.out | refine zg ?_ GE282.out) | exact HB.out)) hb); clear BK281 BK282 HB; have BK281 := n0_; have BK282 := n1_; have HB := n2_; clear n0_ n1_ n2_
             (try clear hb)
             (try clear hb2)
             (try clear hk)
             (try clear hi)
             refine hK.out _ _ ⟨(za BK281.out 0).trans rfl, (za BK281.out 1).trans rfl, (za BK281.out 2).trans rfl, (za BK281.out 3).trans rfl, (za BK281.out 4).trans rfl, (za BK282.out 0).trans rfl, (za BK282.out 1).trans rfl, (za BK282.out 2).trans rfl, (za BK282.out 3).trans rfl, (za BK282.out 4).trans rfl, ((HB.out.cell (World.block_lt_of_cell? w _ hw285_0)).trans hw285_0), ((HB.out.cell (World.block_lt_of_cell? w _ hw285_1)).trans hw285_1), ((HB.out.cell (World.block_lt_of_cell? w _ hw285_2)).trans hw285_2), ((HB.out.cell (World.block_lt_of_cell? w _ hw285_3)).trans hw285_3), ((HB.out.cell (World.block_lt_of_cell? w _ hw285_4)).trans hw285_4), ((HB.out.cell (World.block_lt_of_cell? w _ hw286_0)).trans hw286_0), ((HB.out.cell (World.block_lt_of_cell? w _ hw286_1)).trans hw286_1), ((HB.out.cell (World.block_lt_of_cell? w _ hw286_2)).trans hw286_2), ((HB.out.cell (World.block_lt_of_cell? w _ hw286_3)).trans hw286_3), ((HB.out.cell (World.block_lt_of_cell? w _ hw286_4)).trans hw286_4)⟩ (fun hHeld => ?_); clear hK K; refine zt (a' := ?_) ?_ ?_; rotate_left
             ·show Act.put _ (some 79) _ = _
              simp only [Act.put, sA, sB, sC, zw, zx]; rfl
             refine pU 11 (some 80) (bZ 12 4095) rfl (ye HT_.out (by kernel_rfl)) ?_; refine xp (done_of HT_.out (by kernel_rfl)) ?_
             try go_wp2
             go_roundg k3
             case measure => have := HJ2.out; have := HK2.out; have := HK3.out; omega
             case rel => exact ⟨(wrap64 (x6_3 + 1)), (by first | rfl | (simp; done) | (simp [*]; done)), H', ⟨by have := HJ2.out; have := HK2.out; have := HK3.out; omega⟩, ⟨by (with_reducible repeat (first | refine zf ?_ _ | refine zh ?_ | refine zc ?_ _)); exact BK281.out⟩, ⟨by (with_reducible repeat (first | refine zf ?_ _ | refine zh ?_ | refine zc ?_ _)); exact BK282.out⟩, ⟨by repeat (first | (with_reducible first | exact HB.out | apply zb | apply ze | apply zj | refine zg ?_ GE281.out | refine zg ?_ GE282.out) | exact HB.out)⟩⟩
            ·replace c42 := Bool.eq_false_iff.mpr c42; subst c42
             have H1 : (some false) = some r := by rw [if_neg (show ¬ (false = true) by decide)] at H; exact H
             clear H; have H := H1; clear H1; obtain rfl := Option.some.inj H; have hnb47 := NB281_282.out; have hnc47 := NB282_281.out; have hcz48_0 : wr.cell? ⟨gb281, 0, none⟩ = some (.int .i64 a0_0) := (za BK281.out 0).trans rfl; have hcz48_1 : wr.cell? ⟨gb281, 1, none⟩ = some (.int .i64 a0_1) := (za BK281.out 1).trans rfl; have hcz48_2 : wr.cell? ⟨gb281, 2, none⟩ = some (.string a0_2) := (za BK281.out 2).trans rfl; have hcz48_3 : wr.cell? ⟨gb281, 3, none⟩ = some (.slice A0_3 l0_3.length c0_3) := (za BK281.out 3).trans rfl; have hcz48_4 : wr.cell? ⟨gb281, 4, none⟩ = some (.slice A0_4 l0_4.length c0_4) := (za BK281.out 4).trans rfl; have hfz48_0 := zi BK281.out 0; have hfz48_1 := zi BK281.out 1; have hfz48_2 := zi BK281.out 2; have hfz48_3 := zi BK281.out 3; have hfz48_4 := zi BK281.out 4
             try go_wp2
             have n0_ := aM (zh BK281.out); have n1_ := aM (zh BK282.out); have n2_ := aM (zj HB.out); clear BK281 BK282 HB; have BK281 := n0_; have BK282 := n1_; have HB := n2_; clear n0_ n1_ n2_; have p285 : 0 ≤ (x6_3 : Int) := of_decide_eq_true (by first | (with_reducible assumption) | assumption); have q285 : x6_3 < (l0_4.length : Int) := of_decide_eq_true (by first | (with_reducible assumption) | assumption); obtain ⟨ad285, A285_3, c285_3, A285_4, c285_4, e285, hx285_0, hx285_1, hx285_2, hx285_3, hx285_4, hl285_3, hi285_3, hl285_4, hi285_4⟩ := at_T25 HR0_4.out x6_3 p285 q285; have hw285_4 := hx285_4; have hw285_3 := hx285_3; have hw285_2 := hx285_2; have hw285_1 := hx285_1; have hw285_0 := hx285_0
             cases e285
             replace hx285_0 := (HB.out.cell (World.block_lt_of_cell? w _ hx285_0)).trans hx285_0; replace hx285_1 := (HB.out.cell (World.block_lt_of_cell? w _ hx285_1)).trans hx285_1; replace hx285_2 := (HB.out.cell (World.block_lt_of_cell? w _ hx285_2)).trans hx285_2; replace hx285_3 := (HB.out.cell (World.block_lt_of_cell? w _ hx285_3)).trans hx285_3; replace hx285_4 := (HB.out.cell (World.block_lt_of_cell? w _ hx285_4)).trans hx285_4; have HR285_3 := aM hi285_3; have HC285_3 := aM hl285_3; clear hi285_3 hl285_3; have HR285_4 := aM hi285_4; have HC285_4 := aM hl285_4; clear hi285_4 hl285_4; replace p285 := eq_true p285; replace q285 := eq_true q285; have p286 : 0 ≤ (x6_3 : Int) := of_decide_eq_true (by first | (with_reducible assumption) | assumption); have q286 : x6_3 < (l1_4.length : Int) := of_decide_eq_true (by first | (with_reducible assumption) | assumption); obtain ⟨ad286, A286_3, c286_3, A286_4, c286_4, e286, hx286_0, hx286_1, hx286_2, hx286_3, hx286_4, hl286_3, hi286_3, hl286_4, hi286_4⟩ := at_T25 HR1_4.out x6_3 p286 q286; have hw286_4 := hx286_4; have hw286_3 := hx286_3; have hw286_2 := hx286_2; have hw286_1 := hx286_1; have hw286_0 := hx286_0
             cases e286
             replace hx286_0 := (HB.out.cell (World.block_lt_of_cell? w _ hx286_0)).trans hx286_0; replace hx286_1 := (HB.out.cell (World.block_lt_of_cell? w _ hx286_1)).trans hx286_1; replace hx286_2 := (HB.out.cell (World.block_lt_of_cell? w _ hx286_2)).trans hx286_2; replace hx286_3 := (HB.out.cell (World.block_lt_of_cell? w _ hx286_3)).trans hx286_3; replace hx286_4 := (HB.out.cell (World.block_lt_of_cell? w _ hx286_4)).trans hx286_4; have HR286_3 := aM hi286_3; have HC286_3 := aM hl286_3; clear hi286_3 hl286_3; have HR286_4 := aM hi286_4; have HC286_4 := aM hl286_4; clear hi286_4 hl286_4; replace p286 := eq_true p286; replace q286 := eq_true q286; refine xc (n := 12) (S := fun w' => w'.cell? ⟨gb281, 0, none⟩ = some (.int .i64 a0_0) ∧ w'.cell? ⟨gb281, 1, none⟩ = some (.int .i64 a0_1) ∧ w'.cell? ⟨gb281, 2, none⟩ = some (.string a0_2) ∧ w'.cell? ⟨gb281, 3, none⟩ = some (.slice A0_3 l0_3.length c0_3) ∧ w'.cell? ⟨gb281, 4, none⟩ = some (.slice (some ad285) l0_4.length c0_4) ∧ w'.cell? ⟨gb282, 0, none⟩ = some (.int .i64 a1_0) ∧ w'.cell? ⟨gb282, 1, none⟩ = some (.int .i64 a1_1) ∧ w'.cell? ⟨gb282, 2, none⟩ = some (.string a1_2) ∧ w'.cell? ⟨gb282, 3, none⟩ = some (.slice A1_3 l1_3.length c1_3) ∧ w'.cell? ⟨gb282, 4, none⟩ = some (.slice (some ad286) l1_4.length c1_4) ∧ w'.cell? (ad285.add ((x6_3).toNat * 5)) = some (.int .i64 ((rd_T25 l0_4 x6_3).f0)) ∧ w'.cell? ⟨(ad285.add ((x6_3).toNat * 5)).block, (ad285.add ((x6_3).toNat * 5)).off + 1, none⟩ = some (.int .i64 ((rd_T25 l0_4 x6_3).f1)) ∧ w'.cell? ⟨(ad285.add ((x6_3).toNat * 5)).block, (ad285.add ((x6_3).toNat * 5)).off + 2, none⟩ = some (.string ((rd_T25 l0_4 x6_3).f2)) ∧ w'.cell? ⟨(ad285.add ((x6_3).toNat * 5)).block, (ad285.add ((x6_3).toNat * 5)).off + 3, none⟩ = some (.slice A285_3 ((rd_T25 l0_4 x6_3).f3).length c285_3) ∧ w'.cell? ⟨(ad285.add ((x6_3).toNat * 5)).block, (ad285.add ((x6_3).toNat * 5)).off + 4, none⟩ = some (.slice A285_4 ((rd_T25 l0_4 x6_3).f4).length c285_4) ∧ w'.cell? (ad286.add ((x6_3).toNat * 5)) = some (.int .i64 ((rd_T25 l1_4 x6_3).f0)) ∧ w'.cell? ⟨(ad286.add ((x6_3).toNat * 5)).block, (ad286.add ((x6_3).toNat * 5)).off + 1, none⟩ = some (.int .i64 ((rd_T25 l1_4 x6_3).f1)) ∧ w'.cell? ⟨(ad286.add ((x6_3).toNat * 5)).block, (ad286.add ((x6_3).toNat * 5)).off + 2, none⟩ = some (.string ((rd_T25 l1_4 x6_3).f2)) ∧ w'.cell? ⟨(ad286.add ((x6_3).toNat * 5)).block, (ad286.add ((x6_3).toNat * 5)).off + 3, none⟩ = some (.slice A286_3 ((rd_T25 l1_4 x6_3).f3).length c286_3) ∧ w'.cell? ⟨(ad286.add ((x6_3).toNat * 5)).block, (ad286.add ((x6_3).toNat * 5)).off + 4, none⟩ = some (.slice A286_4 ((rd_T25 l1_4 x6_3).f4).length c286_4)) (ds := []) (bZ 12 0) (by kernel_rfl) rfl rfl ⟨(za BK281.out 0).trans rfl, (za BK281.out 1).trans rfl, (za BK281.out 2).trans rfl, (za BK281.out 3).trans rfl, (za BK281.out 4).trans rfl, (za BK282.out 0).trans rfl, (za BK282.out 1).trans rfl, (za BK282.out 2).trans rfl, (za BK282.out 3).trans rfl, (za BK282.out 4).trans rfl, ((HB.out.cell (World.block_lt_of_cell? w _ hw285_0)).trans hw285_0), ((HB.out.cell (World.block_lt_of_cell? w _ hw285_1)).trans hw285_1), ((HB.out.cell (World.block_lt_of_cell? w _ hw285_2)).trans hw285_2), ((HB.out.cell (World.block_lt_of_cell? w _ hw285_3)).trans hw285_3), ((HB.out.cell (World.block_lt_of_cell? w _ hw285_4)).trans hw285_4), ((HB.out.cell (World.block_lt_of_cell? w _ hw286_0)).trans hw286_0), ((HB.out.cell (World.block_lt_of_cell? w _ hw286_1)).trans hw286_1), ((HB.out.cell (World.block_lt_of_cell? w _ hw286_2)).trans hw286_2), ((HB.out.cell (World.block_lt_of_cell? w _ hw286_3)).trans hw286_3), ((HB.out.cell (World.block_lt_of_cell? w _ hw286_4)).trans hw286_4)⟩ (fun hHeld => ?_); refine xk spec_Same.tab11 spec_Same.bits11 (fun HT_ HW_ => ?_); generalize wr.drew = w49 at BK281 BK282 HB HR285_3 HR285_4 HR286_3 HR286_4 hx285_0 hx285_1 hx285_2 hx285_3 hx285_4 hx286_0 hx286_1 hx286_2 hx286_3 hx286_4 hHeld ⊢; refine pU 0 (some 69) (bZ 12 1) rfl (ye HT_.out (by kernel_rfl)) ?_; refine pU 2 (some 71) (bZ 12 5) rfl (ye HT_.out (by kernel_rfl)) ?_; refine pU 5 (some 74) (bZ 12 37) rfl (ye HT_.out (by kernel_rfl)) ?_; refine pU 7 (some 76) (bZ 12 165) rfl (ye HT_.out (by kernel_rfl)) ?_; refine tU 1 (some 70) (bZ 12 167) rfl (yg HT_.out HW_.out (by kernel_rfl)) (Or.inl ⟨by rfl, by rintro w' ⟨s0, s1, s2, s3, s4, s5, s6, s7, s8, s9, s10, s11, s12, s13, s14, s15, s16, s17, s18, s19⟩; go_simp; with_reducible rfl⟩) hHeld ?_; refine pU 3 (some 72) (bZ 12 175) rfl (ye HT_.out (by kernel_rfl)) ?_; refine tU 4 (some 73) (bZ 12 191) rfl (yg HT_.out HW_.out (by kernel_rfl)) (Or.inl ⟨by rfl, by rintro w' ⟨s0, s1, s2, s3, s4, s5, s6, s7, s8, s9, s10, s11, s12, s13, s14, s15, s16, s17, s18, s19⟩; go_simp; with_reducible rfl⟩) hHeld ?_; refine tU 6 (some 75) (bZ 12 255) rfl (yg HT_.out HW_.out (by kernel_rfl)) (Or.inl ⟨by rfl, by rintro w' ⟨s0, s1, s2, s3, s4, s5, s6, s7, s8, s9, s10, s11, s12, s13, s14, s15, s16, s17, s18, s19⟩; go_simp; with_reducible rfl⟩) hHeld ?_; refine pU 8 (some 77) (bZ 12 511) rfl (ye HT_.out (by kernel_rfl)) ?_; refine tU 9 (some 78) (bZ 12 1023) rfl (yg HT_.out HW_.out (by kernel_rfl)) (Or.inl ⟨by rfl, by rintro w' ⟨s0, s1, s2, s3, s4, s5, s6, s7, s8, s9, s10, s11, s12, s13, s14, s15, s16, s17, s18, s19⟩; go_simp; with_reducible rfl⟩) hHeld ?_; refine one_ (i := 10) (N := some 79) (bZ 12 2047) rfl rfl (yu HT_.out (by kernel_rfl)) (by decide) (fun K hK => ?_); refine goes_ Tryd.func8 (by kernel_rfl) rfl #[.agg #[.int .i64 ((rd_T25 l0_4 x6_3).f0), .int .i64 ((rd_T25 l0_4 x6_3).f1), .string ((rd_T25 l0_4 x6_3).f2), .slice A285_3 ((rd_T25 l0_4 x6_3).f3).length c285_3, .slice A285_4 ((rd_T25 l0_4 x6_3).f4).length c285_4], .agg #[.int .i64 ((rd_T25 l1_4 x6_3).f0), .int .i64 ((rd_T25 l1_4 x6_3).f1), .string ((rd_T25 l1_4 x6_3).f2), .slice A286_3 ((rd_T25 l1_4 x6_3).f3).length c286_3, .slice A286_4 ((rd_T25 l1_4 x6_3).f4).length c286_4]] (by rfl) rfl rfl (by (try simp only [List.map_toArray, List.map_cons, List.map_nil]); first | done | rfl | (simp only [List.length_drop, List.length_take]; rfl)) ?_
             with_reducible refine (ih k3 (by have := HJ2.out; have := HK2.out; have := HK3.out; omega) ((rd_T25 l0_4 x6_3).f0) ((rd_T25 l0_4 x6_3).f1) ((rd_T25 l0_4 x6_3).f2) _ _ ((rd_T25 l0_4 x6_3).f3) _ _ ((rd_T25 l0_4 x6_3).f4) ((rd_T25 l1_4 x6_3).f0) ((rd_T25 l1_4 x6_3).f1) ((rd_T25 l1_4 x6_3).f2) _ _ ((rd_T25 l1_4 x6_3).f3) _ _ ((rd_T25 l1_4 x6_3).f4) false _ ?side1 ?side2 ?side3 ?side4 ?side5 ?side6 ?side7 ?side8 A41.out).mono ?_
             (case side1 => repeat (first | exact (Kd.C_below HR285_3.out HB.out) | (with_reducible refine Kd.C_alloc ?_ _) | (with_reducible refine Kd.C_drewN ?_ _) | (with_reducible refine Kd.C_drew ?_)))
             (case side2 => exact HC285_3.out)
             (case side3 => repeat (first | exact (Kd.C_below HR285_4.out HB.out) | (with_reducible refine Kd.C_alloc ?_ _) | (with_reducible refine Kd.C_drewN ?_ _) | (with_reducible refine Kd.C_drew ?_)))
             (case side4 => exact HC285_4.out)
             (case side5 => repeat (first | exact (Kd.C_below HR286_3.out HB.out) | (with_reducible refine Kd.C_alloc ?_ _) | (with_reducible refine Kd.C_drewN ?_ _) | (with_reducible refine Kd.C_drew ?_)))
             (case side6 => exact HC286_3.out)
             (case side7 => repeat (first | exact (Kd.C_below HR286_4.out HB.out) | (with_reducible refine Kd.C_alloc ?_ _) | (with_reducible refine Kd.C_drewN ?_ _) | (with_reducible refine Kd.C_drew ?_)))
             (case side8 => exact HC286_4.out)
             rintro e w50 ⟨rfl, hb⟩; refine ⟨_, rfl, ?_⟩; have n0_ := aM (zo (g := gb281) (o := .cells #[.int .i64 a0_0, .int .i64 a0_1, .string a0_2, .slice A0_3 l0_3.length c0_3, .slice (some ad285) l0_4.length c0_4] 25 (0, 0)) (by (with_reducible repeat (first | refine zf ?_ _ | refine zh ?_ | refine zc ?_ _)); exact BK281.out) hb); have n1_ := aM (zo (g := gb282) (o := .cells #[.int .i64 a1_0, .int .i64 a1_1, .string a1_2, .slice A1_3 l1_3.length c1_3, .slice (some ad286) l1_4.length c1_4] 25 (0, 0)) (by (with_reducible repeat (first | refine zf ?_ _ | refine zh ?_ | refine zc ?_ _)); exact BK282.out) hb); have n2_ := aM (zq (by repeat (first | (with_reducible first | exact HB.out | apply zb | apply ze | apply zj | refine zg ?_ GE281.out | refine zg ?_ GE282.out) | exact HB.out)) hb); clear BK281 BK282 HB; have BK281 := n0_; have BK282 := n1_; have HB := n2_; clear n0_ n1_ n2_
             (try clear hb)
             (try clear hb2)
             (try clear hk)
             (try clear hi)
             refine hK.out _ _ ⟨(za BK281.out 0).trans rfl, (za BK281.out 1).trans rfl, (za BK281.out 2).trans rfl, (za BK281.out 3).trans rfl, (za BK281.out 4).trans rfl, (za BK282.out 0).trans rfl, (za BK282.out 1).trans rfl, (za BK282.out 2).trans rfl, (za BK282.out 3).trans rfl, (za BK282.out 4).trans rfl, ((HB.out.cell (World.block_lt_of_cell? w _ hw285_0)).trans hw285_0), ((HB.out.cell (World.block_lt_of_cell? w _ hw285_1)).trans hw285_1), ((HB.out.cell (World.block_lt_of_cell? w _ hw285_2)).trans hw285_2), ((HB.out.cell (World.block_lt_of_cell? w _ hw285_3)).trans hw285_3), ((HB.out.cell (World.block_lt_of_cell? w _ hw285_4)).trans hw285_4), ((HB.out.cell (World.block_lt_of_cell? w _ hw286_0)).trans hw286_0), ((HB.out.cell (World.block_lt_of_cell? w _ hw286_1)).trans hw286_1), ((HB.out.cell (World.block_lt_of_cell? w _ hw286_2)).trans hw286_2), ((HB.out.cell (World.block_lt_of_cell? w _ hw286_3)).trans hw286_3), ((HB.out.cell (World.block_lt_of_cell? w _ hw286_4)).trans hw286_4)⟩ (fun hHeld => ?_); clear hK K; refine zt (a' := ?_) ?_ ?_; rotate_left
             ·show Act.put _ (some 79) _ = _
              simp only [Act.put, sA, sB, sC, zw, zx]; rfl
             refine pU 11 (some 80) (bZ 12 4095) rfl (ye HT_.out (by kernel_rfl)) ?_; refine xp (done_of HT_.out (by kernel_rfl)) ?_
             try go_wp2
             go_ret
             exact ⟨by first | rfl | (simp [zv, zu] <;> rfl) | (simp [*, zv, zu] <;> rfl), by repeat (first | (with_reducible first | exact HB.out | apply zb | apply ze | apply zj | refine zg ?_ GE281.out | refine zg ?_ GE282.out) | exact HB.out)⟩
           ·rw [if_neg c40] at H; exact absurd H (by simp)
          ·rw [if_neg c39] at H; exact absurd H (by simp)
         ·rw [if_neg c38] at H; have c38b0 : decide (x6_3 < (l0_4.length : Int)) = false := decide_eq_false c38; clear c38; obtain rfl := Option.some.inj H; have hnb51 := NB281_282.out; have hnc51 := NB282_281.out; have hcz52_0 : wr.cell? ⟨gb281, 0, none⟩ = some (.int .i64 a0_0) := (za BK281.out 0).trans rfl; have hcz52_1 : wr.cell? ⟨gb281, 1, none⟩ = some (.int .i64 a0_1) := (za BK281.out 1).trans rfl; have hcz52_2 : wr.cell? ⟨gb281, 2, none⟩ = some (.string a0_2) := (za BK281.out 2).trans rfl; have hcz52_3 : wr.cell? ⟨gb281, 3, none⟩ = some (.slice A0_3 l0_3.length c0_3) := (za BK281.out 3).trans rfl; have hcz52_4 : wr.cell? ⟨gb281, 4, none⟩ = some (.slice A0_4 l0_4.length c0_4) := (za BK281.out 4).trans rfl; have hfz52_0 := zi BK281.out 0; have hfz52_1 := zi BK281.out 1; have hfz52_2 := zi BK281.out 2; have hfz52_3 := zi BK281.out 3; have hfz52_4 := zi BK281.out 4
          go_wp2
          go_ret
          exact ⟨by first | rfl | (simp [zv, zu] <;> rfl) | (simp [*, zv, zu] <;> rfl), by repeat (first | (with_reducible first | exact HB.out | apply zb | apply ze | apply zj | refine zg ?_ GE281.out | refine zg ?_ GE282.out) | exact HB.out)⟩
end Go.Proofs.YtmpmekliaicecaaDoor.PS
namespace Go.Proofs.YtmpmekliaicecaaDoor.Tr
open Go.RowKit Go.Proofs.YtmpmekliaicecaaDoorW.PrintWords Go.Proofs.YtmpmekliaicecaaDoorW.PrintLast Go.Proofs.YtmpmekliaicecaaDoor.Str Go.Proofs.YtmpmekliaicecaaDoor.Kit Go.Proofs.YtmpmekliaicecaaDoor.MapV Go.Proofs.YtmpmekliaicecaaDoor.Frame Go.Proofs.YtmpmekliaicecaaDoor.PS
inductive Short : VS → Prop
 | mk (x : VS) (hk : x.f3.length ≤ 8796093022000) (hl : x.f4.length ≤ 1759218604400) (hv : ∀ v, v ∈ x.f4 → Short v) : Short x
theorem rdS' {xs : List VS} {i : Nat} (h : i < xs.length) : rd_T25 xs (i : Int) = xs[i] := by
 unfold rd_T25
 simp [List.getD_eq_getElem?_getD, h]
theorem wrapQ (i : Nat) (h : i < 4611686018427387904) : wrap64 ((i : Int) + 1) = ((i + 1 : Nat) : Int) := by unfold wrap64; omega
def SameEv (x : VS) : Prop := Ev (fun k => spec_Same.f k x.f0 x.f1 x.f2 x.f3 x.f4 x.f0 x.f1 x.f2 x.f3 x.f4) true
theorem ev_same_l1 (a b : Int) (c : BA) (ks : List BA) (vs : List VS) (hl : vs.length ≤ 1759218604400) (hch : ∀ v, v ∈ vs → SameEv v) : ∀ (d i : Nat), i + d = vs.length → Ev (fun k => spec_Same.l1 k (i : Int) a b c ks vs a b c ks vs) true := by
 intro d
 induction d with
 | zero =>
  intro i hi; refine Ev.step (fun k => ?_) (Ev.now _); simp only [spec_Same.l1]; rw [if_neg (by omega)]
 | succ d ih =>
  intro i hi
  have hlt : i < vs.length := by omega
  refine Ev.step (f := fun k => (spec_Same.f k vs[i].f0 vs[i].f1 vs[i].f2 vs[i].f3 vs[i].f4 vs[i].f0 vs[i].f1 vs[i].f2 vs[i].f3 vs[i].f4).bind fun t => if t = true then spec_Same.l1 k ((i + 1 : Nat) : Int) a b c ks vs a b c ks vs else some false) (fun k => ?_) ?_
  ·simp only [spec_Same.l1]; rw [if_pos (by omega), if_pos (by omega), if_pos (by omega), rdS' hlt, wrapQ i (by omega)]
  ·refine Ev.bind (hch vs[i] (List.getElem_mem hlt)) ?_; simp only [if_true]; exact ih (i + 1) (by omega)
theorem ev_same_l0 (a b : Int) (c : BA) (ks : List BA) (vs : List VS) (hk : ks.length ≤ 8796093022000) (hl : vs.length ≤ 1759218604400) (hch : ∀ v, v ∈ vs → SameEv v) : ∀ (d i : Nat), i + d = ks.length → Ev (fun k => spec_Same.l0 k (i : Int) a b c ks vs a b c ks vs) true := by
 intro d
 induction d with
 | zero =>
  intro i hi; refine Ev.step (f := fun k => spec_Same.l1 k ((0 : Nat) : Int) a b c ks vs a b c ks vs) (fun k => ?_) (ev_same_l1 a b c ks vs hl hch vs.length 0 (by omega)); simp only [spec_Same.l0]; rw [if_neg (by omega)]; rfl
 | succ d ih =>
  intro i hi; refine Ev.step (f := fun k => spec_Same.l0 k ((i + 1 : Nat) : Int) a b c ks vs a b c ks vs) (fun k => ?_) (ih (i + 1) (by omega)); simp only [spec_Same.l0]; rw [if_pos (by omega), if_pos (by omega), if_pos (by omega), if_pos trivial, wrapQ i (by omega)]
theorem ev_same : ∀ x : VS, Short x → SameEv x := by
 intro x hx
 induction hx with
 | mk x hk hl hv ih =>
  obtain ⟨k, n, t, ks, vs⟩ := x; have h := ev_same_l0 k n t ks vs hk hl ih ks.length 0 (by omega)
  unfold SameEv
  refine Ev.step (f := fun j => spec_Same.j0 j false k n t ks vs k n t ks vs) (fun j => ?_) (Ev.step (f := fun j => spec_Same.l0 j ((0 : Nat) : Int) k n t ks vs k n t ks vs) (fun j => ?_) h)
  ·simp only [spec_Same.f, if_true, bne_self_eq_false]
  ·simp only [spec_Same.j0, if_false, Bool.false_eq_true]; rfl
structure Reads (w : World) (x : VS) (A3 : Option Addr) (c3 : Nat) (A4 : Option Addr) (c4 : Nat) : Prop where
 l3 : x.f3.length ≤ c3
 hk : Kd.string.C w A3 x.f3.length x.f3
 l4 : x.f4.length ≤ c4
 hv : kS.C w A4 x.f4.length x.f4
theorem Reads.below {w w1 : World} {x : VS} {A3 A4 : Option Addr} {c3 c4 : Nat} (h : Reads w x A3 c3 A4 c4) (hb : Below w.heap.size w w1) : Reads w1 x A3 c3 A4 c4 := ⟨h.l3, Kd.C_below h.hk hb, h.l4, Kd.C_below h.hv hb⟩
def Gives (x : VS) (w : World) (e : Ending) (w' : World) : Prop := ∃ A3 c3 A4 c4, e = .returned (.agg #[.int .i64 x.f0, .int .i64 x.f1, .string x.f2, .slice A3 x.f3.length c3, .slice A4 x.f4.length c4]) ∧ Reads w' x A3 c3 A4 c4 ∧ Below w.heap.size w w'
theorem fits_reads (x : VS) (A3 A4 : Option Addr) (c3 c4 : Nat) (w : World) (h : Reads w x A3 c3 A4 c4) :
  Calls Tryd.prog 4 #[.agg #[.int .i64 x.f0, .int .i64 x.f1, .string x.f2, .slice A3 x.f3.length c3, .slice A4 x.f4.length c4]] w fun e w' => ∃ b, e = .returned (.bool b) ∧ Below w.heap.size w w' := by
 obtain ⟨b, hb⟩ := ev_zzFits1 x; obtain ⟨k, hk⟩ := hb.rounds; refine (laws_zzFits1.calls k x.f0 x.f1 x.f2 A3 c3 x.f3 A4 c4 x.f4 b w h.hk h.l3 h.hv h.l4 hk).mono ?_; rintro e w1 ⟨rfl, hb1⟩; exact ⟨b, rfl, hb1⟩
def GivesS (x : VS) (w : World) (e : Ending) (w' : World) : Prop := ∃ A3 c3 A4 c4, e = .returned (.agg #[.int .i64 x.f0, .int .i64 x.f1, .string x.f2, .slice A3 x.f3.length c3, .slice A4 x.f4.length c4]) ∧ (∀ W : World, (∀ k, w.heap.size ≤ k → k < w'.heap.size → W.heap[k]? = w'.heap[k]?) → Reads W x A3 c3 A4 c4) ∧ Below w.heap.size w w'
theorem fit_gives (x : VS) (hx : SmallS x) (A3 A4 : Option Addr) (c3 c4 : Nat) (w : World) (h : Reads w x A3 c3 A4 c4) :
  Calls Tryd.prog 5 #[.agg #[.int .i64 x.f0, .int .i64 x.f1, .string x.f2, .slice A3 x.f3.length c3, .slice A4 x.f4.length c4]] w (GivesS (fitV x) w) := by
 have hF := ev_Fit x hx
 unfold FitEv at hF
 obtain ⟨k, hk⟩ := hF.rounds; refine (spec_Fit.calls k x.f0 x.f1 x.f2 A3 c3 x.f3 A4 c4 x.f4 _ _ _ _ _ w h.hk h.l3 h.hv h.l4 hk).mono ?_; rintro e w1 ⟨v3, v4, rfl, hr3, hr4, hb⟩; obtain ⟨B3, d3, rfl⟩ := Kd.R_slice hr3; obtain ⟨B4, d4, rfl⟩ := Kd.N_slice hr4; refine ⟨B3, d3, B4, d4, rfl, fun W hW => ?_, hb⟩; have h3 := Kd.R_reads' (Kd.R_step hr3 (fun k hk hl => hW k hk hl)); have h4 := Kd.N_reads' (Kd.N_step hr4 (fun k hk hl => hW k hk.1 hl)); exact ⟨h3.2.1, h3.2.2, h4.2.1, h4.2.2⟩
theorem SmallS.short {x : VS} (h : SmallS x) : Short x := by
 induction h with
 | mk x ht hk hkl hvl hv ih => exact .mk x hkl hvl ih
theorem SmallS.at {x v : VS} (h : SmallS x) (hv : v ∈ x.f4) : SmallS v := by
 cases h with
 | mk _ _ _ _ _ h => exact h v hv
theorem Canon.at {x v : VS} (h : Canon x) (hv : v ∈ x.f4) : Canon v := by
 cases h with
 | list l h => exact h v hv
 | map ks vs hr hl h => exact h v hv
 | _ => cases hv
theorem t_mp_mp (v : Value) (w : World) : (Instr.typeAssert (.iface 45 v) 20 45 false).run Tryd.prog w = .ok v w := by kernel_rfl
theorem newPath_none (w : World) : Calls Tryd.prog 27 #[.slice none 0 0] w fun e w' => e = .returned (.string ⟨#[]⟩) ∧ w = w' := by
 go_enter Tryd.func27, Tryd.ntmps27
 go_wp2_with fail
 refine (Tryd.strings_Join_none none 0 _ w).mono ?_; rintro e w1 ⟨rfl, rfl⟩
 go_wp2
 go_ret
 exact ⟨rfl, rfl⟩
theorem ar_is_map {w : World} {v : Value} {m : List (Bs × Y)} {F : Nat → Prop} (h : AR w v (.map m) F) : ∃ b, v = .iface 45 (.map (some b)) := by
 cases h with
 | map b zs _ _ hy hm hz hd hb hF => exact ⟨b, rfl⟩
theorem omit_top {b : Nat} {m : List (Bs × Y)} {F : Nat → Prop} {w : World} (ha : AR w (.iface 45 (.map (some b))) (.map m) F) (hlt : ∀ k, F k → k < w.heap.size) (hf : FullY (.map m)) (hv : 10 * volY (.map m) ≤ 1099511627776) :
  Calls Tryd.prog 20 #[.map (some b)] w fun e w' => ∃ b', e = .returned (.map (some b')) ∧ (∃ G, AR w' (.iface 45 (.map (some b'))) (.map m) G) ∧ Turns F w w' := by
 have f1 := t_mp_mp; have CA := aM (omit_all hf _ F w ⟨#[]⟩ ha hlt (by show 0 + 10 * volY (.map m) ≤ _; omega)); clear ha hlt hf hv
 go_enter Tryd.func20, Tryd.ntmps20
 go_wp2_with fail
 refine (newPath_none w).mono ?_; rintro e w1 ⟨rfl, rfl⟩
 go_wp2_with fail
 refine CA.out.mono ?_; rintro e w2 ⟨v, rfl, ha, ht⟩; obtain ⟨b', rfl⟩ := ar_is_map ha; have HA := aM ha; have HT := aM ht; clear ha ht CA
 go_wp2
 go_ret
 exact ⟨b', rfl, ⟨_, HA.out⟩, HT.out⟩
theorem ar_openO {w : World} {b : Nat} {m : List (Bs × Y)} {F : Nat → Prop} (h : AR w (.iface 45 (.map (some b))) (.map m) F) : ∃ zs : List (Bs × En), m = zs.map (fun z => (z.1, z.2.2.1)) ∧ MapA w b (zs.map (fun z => (z.1, z.2.1))) ∧ ∀ z, z ∈ zs → AR w z.2.1 z.2.2.1 z.2.2.2 := by
 cases h with
 | map b zs _ _ hy hm hz hd hb hF => exact ⟨zs, hy, hm, hz⟩
theorem fromMap_ARO {w : World} {b : Nat} {m : List (Bs × Y)} {F : Nat → Prop} (ha : AR w (.iface 45 (.map (some b))) (.map m) F) (hf : FitsY (.map m)) : Calls Tryd.prog 19 #[.map (some b)] w (Told w (valOf (.map m))) := by
 obtain ⟨zs, rfl, hm, hz⟩ := ar_openO ha
 cases hf with
 | map _ hl hk hc =>
  rw [List.length_map] at hl; exact from_map zs b w hl hm (fun z hzz => ⟨_, hz z hzz⟩) (fun z hzz => from_any (hc (z.1, z.2.2.1) (List.mem_map.2 ⟨z, hzz, rfl⟩)))
structure ReadsI (w : World) (x : VI) (A3 : Option Addr) (c3 : Nat) (A4 : Option Addr) (c4 : Nat) : Prop where
 l3 : x.f3.length ≤ c3
 hk : Kd.string.C w A3 x.f3.length x.f3
 l4 : x.f4.length ≤ c4
 hv : kI.C w A4 x.f4.length x.f4
theorem ReadsI.below {w w1 : World} {x : VI} {A3 A4 : Option Addr} {c3 c4 : Nat} (h : ReadsI w x A3 c3 A4 c4) (hb : Below w.heap.size w w1) : ReadsI w1 x A3 c3 A4 c4 := ⟨h.l3, Kd.C_below h.hk hb, h.l4, Kd.C_below h.hv hb⟩
def GivesI (w : World) (x : VI) (e : Ending) (w' : World) : Prop := ∃ A3 c3 A4 c4, e = .returned (.agg #[.int .i64 x.f0, .int .i64 x.f1, .string x.f2, .slice A3 x.f3.length c3, .slice A4 x.f4.length c4]) ∧ ReadsI w' x A3 c3 A4 c4 ∧ Below w.heap.size w w'
set_option maxHeartbeats 6400000 in
set_option maxRecDepth 100000 in
theorem omit_impl (x : VI) (hx : Small x) (hfull : FullY (.map (mapOf x))) (hvol : volY (.map (mapOf x)) ≤ 4194304) (hfit : FitsY (.map (mapOf x))) (hbk : valOf (.map (mapOf x)) = x) (A3 A4 : Option Addr) (c3 c4 : Nat) (w : World) (h1 : ReadsI w x A3 c3 A4 c4) :
  Calls Tryd.prog 10 #[.agg #[.int .i64 x.f0, .int .i64 x.f1, .string x.f2, .slice A3 x.f3.length c3, .slice A4 x.f4.length c4]] w (GivesI w x) := by
 have hbx := zb (zb (Below.refl w.heap.size w) (.cells #[.int .i64 x.f0, .int .i64 x.f1, .string x.f2, .slice A3 x.f3.length c3, .slice A4 x.f4.length c4] 33)) (.cells #[.int .i64 0, .int .i64 0, .string ⟨#[]⟩, .slice none 0 0, .slice none 0 0] 33); have hx0 : ((w.alloc (.cells #[.int .i64 x.f0, .int .i64 x.f1, .string x.f2, .slice A3 x.f3.length c3, .slice A4 x.f4.length c4] 33)).alloc (.cells #[.int .i64 0, .int .i64 0, .string ⟨#[]⟩, .slice none 0 0, .slice none 0 0] 33)).heap[w.heap.size]? = some (.cells #[.int .i64 x.f0, .int .i64 x.f1, .string x.f2, .slice A3 x.f3.length c3, .slice A4 x.f4.length c4] 33 (0, 0)) := zc (yx _ _) _
 have hz0 : ((w.alloc (.cells #[.int .i64 x.f0, .int .i64 x.f1, .string x.f2, .slice A3 x.f3.length c3, .slice A4 x.f4.length c4] 33)).alloc (.cells #[.int .i64 0, .int .i64 0, .string ⟨#[]⟩, .slice none 0 0, .slice none 0 0] 33)).heap[w.heap.size + 1]? = some (.cells #[.int .i64 0, .int .i64 0, .string ⟨#[]⟩, .slice none 0 0, .slice none 0 0] 33 (0, 0)) := by
  have h := yx (w.alloc (.cells #[.int .i64 x.f0, .int .i64 x.f1, .string x.f2, .slice A3 x.f3.length c3, .slice A4 x.f4.length c4] 33)) (.cells #[.int .i64 0, .int .i64 0, .string ⟨#[]⟩, .slice none 0 0, .slice none 0 0] 33); rw [World.size_alloc] at h; exact h
 have CTM := aM (toMap x hx A3 A4 c3 c4 _ (h1.below hbx).hk (h1.below hbx).hv); have COT := aM (fun (W : World) (b : Nat) (F : Nat → Prop) (ha : AR W (.iface 45 (.map (some b))) (.map (mapOf x)) F) (hl : ∀ k, F k → k < W.heap.size) => omit_top ha hl hfull (by omega)); have CFM := aM (fun (W : World) (b : Nat) (F : Nat → Prop) (ha : AR W (.iface 45 (.map (some b))) (.map (mapOf x)) F) => fromMap_ARO ha hfit); rw [hbk] at CFM; generalize mapOf x = m at CTM COT CFM; have HB0 := aM hbx; have HZ0 := aM hz0; clear hx hfull hvol hfit hbk h1 hbx hz0; obtain ⟨x0, x1, x2, x3, x4⟩ := x
 go_enter Tryd.func10, Tryd.ntmps10
 go_wp2_with (refine load_ival (.tmp 1) rfl rfl rfl hx0 ?_)
 refine CTM.out.mono ?_; rintro e w2 ⟨b, rfl, ha, hb⟩; have HB2 := aM (yq HB0.out hb); have HZ2 := aM ((hb.block _ (yb HZ0.out)).trans HZ0.out); have HLT := aM (Nat.lt_of_lt_of_le (yb HZ0.out) (Nat.le_refl _)); have CT := aM (COT.out w2 b _ ha (fun k hk => hk.2)); clear ha CTM COT hx0
 go_wp2_with fail
 refine CT.out.mono ?_; rintro e w3 ⟨b', rfl, ⟨G, ha⟩, ht⟩; have hb03 := ht.below hb (fun k hk hk2 => by have := hk2.1; omega); have HB3 := aM (yq HB0.out hb03); have HZ3 := aM ((hb03.block _ (yb HZ0.out)).trans HZ0.out); have CF := aM (CFM.out w3 b' G ha); clear ha CT CFM ht hb hb03 HZ2 HB2
 go_wp2_with fail
 refine CF.out.mono ?_; rintro e w5 ⟨v3, v4, rfl, hv3, hv4, hb⟩; obtain ⟨E3, e3, rfl⟩ := Kd.R_slice hv3; obtain ⟨E4, e4, rfl⟩ := Kd.R_slice hv4; have hbn := yq hb (zb (Below.refl w5.heap.size w5) (.cells #[.int .i64 x0, .int .i64 x1, .string x2, .slice E3 x3.length e3, .slice E4 x4.length e4] 33)); have HB5 := aM (yq HB3.out hbn); have h5 := (hbn.block _ (yb HZ3.out)).trans HZ3.out; have h6 := yx w5 (.cells #[.int .i64 x0, .int .i64 x1, .string x2, .slice E3 x3.length e3, .slice E4 x4.length e4] 33); have hg := yj (w5.alloc (.cells #[.int .i64 x0, .int .i64 x1, .string x2, .slice E3 x3.length e3, .slice E4 x4.length e4] 33)) (w.heap.size + 1) #[.int .i64 x0, .int .i64 x1, .string x2, .slice E3 x3.length e3, .slice E4 x4.length e4]; have HX := aM (setRow_heap _ (w.heap.size + 1) _ #[.int .i64 x0, .int .i64 x1, .string x2, .slice E3 x3.length e3, .slice E4 x4.length e4] _ _ h5); have HB8 := aM (zm HB5.out (some (w.heap.size + 1)) HB5.out.size hg (fun k hk => by have := Option.some.inj hk; omega)); have hlt3 := yb HZ3.out; have hal := zb (Below.refl w5.heap.size w5) (.cells #[.int .i64 x0, .int .i64 x1, .string x2, .slice E3 x3.length e3, .slice E4 x4.length e4] 33)
 have hne : ∀ k, w3.heap.size ≤ k → k < w5.heap.size → ((w5.alloc (.cells #[.int .i64 x0, .int .i64 x1, .string x2, .slice E3 x3.length e3, .slice E4 x4.length e4] 33)).setRow (w.heap.size + 1) #[.int .i64 x0, .int .i64 x1, .string x2, .slice E3 x3.length e3, .slice E4 x4.length e4]).heap[k]? = w5.heap[k]? := fun k hk hk2 => (hg.block k (Nat.lt_of_lt_of_le hk2 hal.size) (fun e => by have h2 := Option.some.inj e; omega)).trans (hal.block k hk2)
 have r3 := Kd.R_reads' (Kd.R_move (Kd.R_bound hv3) (fun k hk => hne k hk.2.1 hk.2.2.1)); have r4 := Kd.R_reads' (Kd.R_move (Kd.R_bound hv4) (fun k hk => hne k hk.2.1 hk.2.2.1)); have HR := aM (show ReadsI _ ⟨x0, x1, x2, x3, x4⟩ E3 e3 E4 e4 from ⟨r3.2.1, r3.2.2, r4.2.1, r4.2.2⟩); clear hv3 hv4 hb hbn hg hlt3 hal hne r3 r4 CF HB3 HZ3 HB5
 go_wp2_with (first | (refine load_ival (.tmp 3) rfl rfl rfl h6 ?_) | (refine yt (.tmp 2) (.tmp 12) rfl rfl rfl rfl h5 ?_))
 exact bodyPost_ret (v := .agg #[.int .i64 x0, .int .i64 x1, .string x2, .slice E3 x3.length e3, .slice E4 x4.length e4]) (ival_result rfl rfl HX.out) rfl ⟨E3, e3, E4, e4, rfl, HR.out, HB8.out⟩
end Go.Proofs.YtmpmekliaicecaaDoor.Tr
namespace Go.Proofs.YtmpmekliaicecaaDoor.PS
open Go.RowKit Go.Proofs.YtmpmekliaicecaaDoorW.PrintWords Go.Proofs.YtmpmekliaicecaaDoorW.PrintLast Go.Proofs.YtmpmekliaicecaaDoorW.PrintMore
attribute [local go_sem] xg xe xn xm yz yy xf xd 
mutual
def spec_NormFull.j0 : Nat → Bool → Int → Int → ByteArray → List ByteArray → List (S25) → Option (Bool)
 | 0, _, _, _, _, _, _ => none
 | k + 1, x13, x210000, x210001, x210002, x210003, x210004 => if x13 = true then (spec_NormFull.l0 k 0 x210000 x210001 x210002 x210003 x210004) else (some true)
def spec_NormFull.l0 : Nat → Int → Int → Int → ByteArray → List ByteArray → List (S25) → Option (Bool)
 | 0, _, _, _, _, _, _ => none
 | k + 1, x3, x210000, x210001, x210002, x210003, x210004 => if x3 < (x210004.length : Int) then (if 0 ≤ x3 then ((spec_NormFull.f k ((rd_T25 x210004 x3).f0) ((rd_T25 x210004 x3).f1) ((rd_T25 x210004 x3).f2) ((rd_T25 x210004 x3).f3) ((rd_T25 x210004 x3).f4)).bind fun t211 => (if t211 = true then (spec_NormFull.l0 k (wrap64 (x3 + 1)) x210000 x210001 x210002 x210003 x210004) else (some false))) else (none)) else (some (decide ((x210004.length : Int) > 0)))
def spec_NormFull.f : Nat → Int → Int → ByteArray → List ByteArray → List (S25) → Option (Bool)
 | 0, _, _, _, _, _ => none
 | k + 1, a0_0, a0_1, a0_2, l0_3, l0_4 => if a0_0 = 0 then (some false) else (if a0_0 = 3 then (some (a0_2.toList != ([] : List UInt8))) else (if a0_0 = 4 then (spec_NormFull.j0 k (a0_0 == 4) a0_0 a0_1 a0_2 l0_3 l0_4) else (spec_NormFull.j0 k (a0_0 == 5) a0_0 a0_1 a0_2 l0_3 l0_4)))
end
set_option maxHeartbeats 8000000 in
set_option maxRecDepth 100000 in
theorem spec_NormFull.calls (k : Nat) : ∀ (a0_0 : Int) (a0_1 : Int) (a0_2 : ByteArray) (A0_3 : Option Addr) (c0_3 : Nat) (l0_3 : List ByteArray) (A0_4 : Option Addr) (c0_4 : Nat) (l0_4 : List (S25)) (r : Bool) (w : World) (hr0_3 : Kd.C Kd.string w A0_3 l0_3.length l0_3) (hc0_3 : l0_3.length ≤ c0_3) (hr0_4 : Kd.C k25 w A0_4 l0_4.length l0_4) (hc0_4 : l0_4.length ≤ c0_4) (h : spec_NormFull.f k a0_0 a0_1 a0_2 l0_3 l0_4 = some r),
  Calls Tryd.prog 6 #[.agg #[.int .i64 a0_0, .int .i64 a0_1, .string a0_2, .slice A0_3 l0_3.length c0_3, .slice A0_4 l0_4.length c0_4]] w fun e w' => e = .returned (.bool r) ∧ Below w.heap.size w w' := by
 induction k using Nat.strongRecOn with
 | _ k ih =>
 intro a0_0 a0_1 a0_2 A0_3 c0_3 l0_3 A0_4 c0_4 l0_4 r w hr0_3 hc0_3 hr0_4 hc0_4 h
 cases k with
 | zero => exact absurd h (by simp [spec_NormFull.f])
 | succ k =>
 simp only [spec_NormFull.f] at h; have hu25 := Tryd.underlying25; have HR0_3 := aM hr0_3; have HC0_3 := aM hc0_3; clear hr0_3 hc0_3; have HR0_4 := aM hr0_4; have HC0_4 := aM hc0_4; clear hr0_4 hc0_4; have HB := aM (Below.refl w.heap.size w); have H : (if a0_0 = 0 then (some false) else (if a0_0 = 3 then (some (a0_2.toList != ([] : List UInt8))) else (if a0_0 = 4 then (spec_NormFull.j0 k (a0_0 == 4) a0_0 a0_1 a0_2 l0_3 l0_4) else (spec_NormFull.j0 k (a0_0 == 5) a0_0 a0_1 a0_2 l0_3 l0_4)))) = some r := h; clear h
 by_cases c2 : a0_0 = 0
 ·rw [if_pos c2] at H; have c2b0 : (a0_0 == 0) = true := beq_iff_eq.mpr c2; have c2b1 : (a0_0 != 0) = false := bne_eq_false_iff_eq.mpr c2; clear c2; obtain rfl := Option.some.inj H
  go_enter Tryd.func6, Tryd.ntmps6
  go_wp2_with (first | ((with_reducible refine yl (N := 1) rfl ?_); refine yh ?hg (N := 1) ?hd (cs := #[.int .i64 a0_0, .int .i64 a0_1, .string a0_2, .slice A0_3 l0_3.length c0_3, .slice A0_4 l0_4.length c0_4]) (t := 25) ?hr ?_; (case hd => rfl); (case hg => rfl); (case hr => first | (go_simp; done) | (go_simp; rfl)); intro gb209 hg w3 hbox hb; have n0_ := aM (zq (by repeat (first | (with_reducible first | exact HB.out | apply zb | apply ze | apply zj) | exact HB.out)) hb); have n1_ := aM (hbox); have n2_ := aM ((by rw [hg]; exact (zl (by repeat (first | (with_reducible first | exact HB.out | apply zb | apply ze | apply zj) | exact HB.out))) : w.heap.size ≤ gb209)); have n3_ := aM ((by rw [hg]; exact (zl (by repeat (first | (with_reducible first | exact HB.out | apply zb | apply ze | apply zj) | exact HB.out))) : w.heap.size ≤ gb209)); clear HB; have HB := n0_; have BK209 := n1_; have GW209 := n2_; have GE209 := n3_; clear n0_ n1_ n2_ n3_; clear hb hbox hg; have hcz4_0 : w3.cell? ⟨gb209, 0, none⟩ = some (.int .i64 a0_0) := (za BK209.out 0).trans rfl; have hcz4_1 : w3.cell? ⟨gb209, 1, none⟩ = some (.int .i64 a0_1) := (za BK209.out 1).trans rfl; have hcz4_2 : w3.cell? ⟨gb209, 2, none⟩ = some (.string a0_2) := (za BK209.out 2).trans rfl; have hcz4_3 : w3.cell? ⟨gb209, 3, none⟩ = some (.slice A0_3 l0_3.length c0_3) := (za BK209.out 3).trans rfl; have hcz4_4 : w3.cell? ⟨gb209, 4, none⟩ = some (.slice A0_4 l0_4.length c0_4) := (za BK209.out 4).trans rfl; have hfz4_0 := zi BK209.out 0; have hfz4_1 := zi BK209.out 1; have hfz4_2 := zi BK209.out 2; have hfz4_3 := zi BK209.out 3; have hfz4_4 := zi BK209.out 4))
  go_ret
  exact ⟨by first | rfl | (simp [zv, zu] <;> rfl) | (simp [*, zv, zu] <;> rfl), by repeat (first | (with_reducible first | exact HB.out | apply zb | apply ze | apply zj | refine zg ?_ GE209.out) | exact HB.out)⟩
 ·rw [if_neg c2] at H; have c2b0 : (a0_0 == 0) = false := beq_eq_false_iff_ne.mpr c2; have c2b1 : (a0_0 != 0) = true := bne_iff_ne.mpr c2
  by_cases c5 : a0_0 = 3
  ·rw [if_pos c5] at H; have c5b0 : (a0_0 == 3) = true := beq_iff_eq.mpr c5; have c5b1 : (a0_0 != 3) = false := bne_eq_false_iff_eq.mpr c5; clear c5; obtain rfl := Option.some.inj H
   go_enter Tryd.func6, Tryd.ntmps6
   go_wp2_with (first | ((with_reducible refine yl (N := 1) rfl ?_); refine yh ?hg (N := 1) ?hd (cs := #[.int .i64 a0_0, .int .i64 a0_1, .string a0_2, .slice A0_3 l0_3.length c0_3, .slice A0_4 l0_4.length c0_4]) (t := 25) ?hr ?_; (case hd => rfl); (case hg => rfl); (case hr => first | (go_simp; done) | (go_simp; rfl)); intro gb209 hg w6 hbox hb; have n0_ := aM (zq (by repeat (first | (with_reducible first | exact HB.out | apply zb | apply ze | apply zj) | exact HB.out)) hb); have n1_ := aM (hbox); have n2_ := aM ((by rw [hg]; exact (zl (by repeat (first | (with_reducible first | exact HB.out | apply zb | apply ze | apply zj) | exact HB.out))) : w.heap.size ≤ gb209)); have n3_ := aM ((by rw [hg]; exact (zl (by repeat (first | (with_reducible first | exact HB.out | apply zb | apply ze | apply zj) | exact HB.out))) : w.heap.size ≤ gb209)); clear HB; have HB := n0_; have BK209 := n1_; have GW209 := n2_; have GE209 := n3_; clear n0_ n1_ n2_ n3_; clear hb hbox hg; have hcz7_0 : w6.cell? ⟨gb209, 0, none⟩ = some (.int .i64 a0_0) := (za BK209.out 0).trans rfl; have hcz7_1 : w6.cell? ⟨gb209, 1, none⟩ = some (.int .i64 a0_1) := (za BK209.out 1).trans rfl; have hcz7_2 : w6.cell? ⟨gb209, 2, none⟩ = some (.string a0_2) := (za BK209.out 2).trans rfl; have hcz7_3 : w6.cell? ⟨gb209, 3, none⟩ = some (.slice A0_3 l0_3.length c0_3) := (za BK209.out 3).trans rfl; have hcz7_4 : w6.cell? ⟨gb209, 4, none⟩ = some (.slice A0_4 l0_4.length c0_4) := (za BK209.out 4).trans rfl; have hfz7_0 := zi BK209.out 0; have hfz7_1 := zi BK209.out 1; have hfz7_2 := zi BK209.out 2; have hfz7_3 := zi BK209.out 3; have hfz7_4 := zi BK209.out 4))
   go_ret
   exact ⟨by first | rfl | (generalize a0_2.toList = q_; cases q_ <;> first | rfl | simp) | (simp [zv, zu] <;> rfl) | (simp [*, zv, zu] <;> rfl), by repeat (first | (with_reducible first | exact HB.out | apply zb | apply ze | apply zj | refine zg ?_ GE209.out) | exact HB.out)⟩
  ·rw [if_neg c5] at H; have c5b0 : (a0_0 == 3) = false := beq_eq_false_iff_ne.mpr c5; have c5b1 : (a0_0 != 3) = true := bne_iff_ne.mpr c5; have HC8 := aM H; clear H
   go_enter Tryd.func6, Tryd.ntmps6
   go_upto_if 13 with (first | ((with_reducible refine yl (N := 1) rfl ?_); refine yh ?hg (N := 1) ?hd (cs := #[.int .i64 a0_0, .int .i64 a0_1, .string a0_2, .slice A0_3 l0_3.length c0_3, .slice A0_4 l0_4.length c0_4]) (t := 25) ?hr ?_; (case hd => rfl); (case hg => rfl); (case hr => first | (go_simp; done) | (go_simp; rfl)); intro gb209 hg w9 hbox hb; have n0_ := aM (zq (by repeat (first | (with_reducible first | exact HB.out | apply zb | apply ze | apply zj) | exact HB.out)) hb); have n1_ := aM (hbox); have n2_ := aM ((by rw [hg]; exact (zl (by repeat (first | (with_reducible first | exact HB.out | apply zb | apply ze | apply zj) | exact HB.out))) : w.heap.size ≤ gb209)); have n3_ := aM ((by rw [hg]; exact (zl (by repeat (first | (with_reducible first | exact HB.out | apply zb | apply ze | apply zj) | exact HB.out))) : w.heap.size ≤ gb209)); clear HB; have HB := n0_; have BK209 := n1_; have GW209 := n2_; have GE209 := n3_; clear n0_ n1_ n2_ n3_; clear hb hbox hg; have hcz10_0 : w9.cell? ⟨gb209, 0, none⟩ = some (.int .i64 a0_0) := (za BK209.out 0).trans rfl; have hcz10_1 : w9.cell? ⟨gb209, 1, none⟩ = some (.int .i64 a0_1) := (za BK209.out 1).trans rfl; have hcz10_2 : w9.cell? ⟨gb209, 2, none⟩ = some (.string a0_2) := (za BK209.out 2).trans rfl; have hcz10_3 : w9.cell? ⟨gb209, 3, none⟩ = some (.slice A0_3 l0_3.length c0_3) := (za BK209.out 3).trans rfl; have hcz10_4 : w9.cell? ⟨gb209, 4, none⟩ = some (.slice A0_4 l0_4.length c0_4) := (za BK209.out 4).trans rfl; have hfz10_0 := zi BK209.out 0; have hfz10_1 := zi BK209.out 1; have hfz10_2 := zi BK209.out 2; have hfz10_3 := zi BK209.out 3; have hfz10_4 := zi BK209.out 4))
   (try simp only [Act.put, List.setIfInBounds_toArray, List.set_cons_zero, List.set_cons_succ])
   go_cut [13] (fun v13 wc => ∃ (kq : Nat) (x13_7 : Bool), v13 = .bool x13_7 ∧ Aside0 (spec_NormFull.j0 kq x13_7 a0_0 a0_1 a0_2 l0_3 l0_4 = some r) ∧ Aside0 (kq ≤ k) ∧ Aside0 (wc.heap[gb209]? = some (.cells #[.int .i64 a0_0, .int .i64 a0_1, .string a0_2, (.slice A0_3 l0_3.length c0_3), (.slice A0_4 l0_4.length c0_4)] 25 (0, 0))) ∧ Aside0 (Below w.heap.size w wc))
   case first =>
    have H := HC8.out; clear HC8
    by_cases c11 : a0_0 = 4
    ·rw [if_pos c11] at H; have c11b0 : (a0_0 == 4) = true := beq_iff_eq.mpr c11; have c11b1 : (a0_0 != 4) = false := bne_eq_false_iff_eq.mpr c11; clear c11
     (first | rw [c11b0] | (simp only [zw, zx]; rw [c11b0]) | skip)
     have H' := aM H; clear H
     go_wp2
     go_meet
     case rel => exact ⟨_, ((a0_0 == 4)), (by first | rfl | (simp; done) | (simp [*]; done)), H', ⟨by first | omega | exact Nat.le_refl _⟩, ⟨by (with_reducible repeat (first | refine zf ?_ _ | refine zh ?_ | refine zc ?_ _)); exact BK209.out⟩, ⟨by repeat (first | (with_reducible first | exact HB.out | apply zb | apply ze | apply zj | refine zg ?_ GE209.out) | exact HB.out)⟩⟩
    ·rw [if_neg c11] at H; have c11b0 : (a0_0 == 4) = false := beq_eq_false_iff_ne.mpr c11; have c11b1 : (a0_0 != 4) = true := bne_iff_ne.mpr c11
     (first | rw [c11b0] | (simp only [zw, zx]; rw [c11b0]) | skip)
     have H' := aM H; clear H
     go_wp2
     go_meet
     case rel => exact ⟨_, ((a0_0 == 5)), (by first | rfl | (simp; done) | (simp [*]; done)), H', ⟨by first | omega | exact Nat.le_refl _⟩, ⟨by (with_reducible repeat (first | refine zf ?_ _ | refine zh ?_ | refine zc ?_ _)); exact BK209.out⟩, ⟨by repeat (first | (with_reducible first | exact HB.out | apply zb | apply ze | apply zj | refine zg ?_ GE209.out) | exact HB.out)⟩⟩
   case rest =>
    clear HC8
    try clear c1
    try clear c2
    try clear c2b0
    try clear c2b1
    try clear p2
    try clear c5
    try clear c5b0
    try clear c5b1
    try clear c6
    try clear c11
    try clear c11b0
    try clear c11b1
    try clear hcz10_0
    try clear hcz10_1
    try clear hcz10_2
    try clear hcz10_3
    try clear hcz10_4
    try clear hcz4_0
    try clear hcz4_1
    try clear hcz4_2
    try clear hcz4_3
    try clear hcz4_4
    try clear hcz7_0
    try clear hcz7_1
    try clear hcz7_2
    try clear hcz7_3
    try clear hcz7_4
    try clear hfz10_0
    try clear hfz10_1
    try clear hfz10_2
    try clear hfz10_3
    try clear hfz10_4
    try clear hfz4_0
    try clear hfz4_1
    try clear hfz4_2
    try clear hfz4_3
    try clear hfz4_4
    try clear hfz7_0
    try clear hfz7_1
    try clear hfz7_2
    try clear hfz7_3
    try clear hfz7_4
    obtain ⟨kq, x13_7, rfl, HA, HJ7, BK209, HB⟩ := hcut
    cases kq with
    | zero => exact absurd HA.out (by simp [spec_NormFull.j0])
    | succ kj7 =>
     have H := HA.out; clear HA; simp only [spec_NormFull.j0] at H
     by_cases c12 : x13_7 = true
     ·subst c12
      have H1 : (spec_NormFull.l0 kj7 0 a0_0 a0_1 a0_2 l0_3 l0_4) = some r := by rw [if_pos rfl] at H; exact H
      clear H; have H := H1; clear H1; have H' := aM H; clear H
      go_wp2
      go_loopg [3] kj7 (fun kq v3 w' => ∃ (x3_2 : Int), v3 = .int .i64 x3_2 ∧ Aside0 (spec_NormFull.l0 kq x3_2 a0_0 a0_1 a0_2 l0_3 l0_4 = some r) ∧ Aside0 (kq ≤ kj7) ∧ Aside0 (w'.heap[gb209]? = some (.cells #[.int .i64 a0_0, .int .i64 a0_1, .string a0_2, (.slice A0_3 l0_3.length c0_3), (.slice A0_4 l0_4.length c0_4)] 25 (0, 0))) ∧ Aside0 (Below w.heap.size w w'))
      case atStart => exact ⟨(0), (by first | rfl | (simp; done) | (simp [*]; done)), H', ⟨Nat.le_refl _⟩, ⟨by (with_reducible repeat (first | refine zf ?_ _ | refine zh ?_ | refine zc ?_ _)); exact BK209.out⟩, ⟨by repeat (first | (with_reducible first | exact HB.out | apply zb | apply ze | apply zj | refine zg ?_ GE209.out) | exact HB.out)⟩⟩
      case round =>
       clear H'
       try clear c1
       try clear c2
       try clear c2b0
       try clear c2b1
       try clear p2
       try clear c5
       try clear c5b0
       try clear c5b1
       try clear c6
       try clear c11
       try clear c11b0
       try clear c11b1
       try clear c12
       try clear hcz10_0
       try clear hcz10_1
       try clear hcz10_2
       try clear hcz10_3
       try clear hcz10_4
       try clear hcz4_0
       try clear hcz4_1
       try clear hcz4_2
       try clear hcz4_3
       try clear hcz4_4
       try clear hcz7_0
       try clear hcz7_1
       try clear hcz7_2
       try clear hcz7_3
       try clear hcz7_4
       try clear hfz10_0
       try clear hfz10_1
       try clear hfz10_2
       try clear hfz10_3
       try clear hfz10_4
       try clear hfz4_0
       try clear hfz4_1
       try clear hfz4_2
       try clear hfz4_3
       try clear hfz4_4
       try clear hfz7_0
       try clear hfz7_1
       try clear hfz7_2
       try clear hfz7_3
       try clear hfz7_4
       try clear p2
       obtain ⟨x3_2, rfl, HA, HK2, BK209, HB⟩ := hrel
       cases gk with
       | zero => exact absurd HA.out (by simp [spec_NormFull.l0])
       | succ k2 =>
        have H := HA.out; clear HA; simp only [spec_NormFull.l0] at H
        by_cases c13 : x3_2 < (l0_4.length : Int)
        ·rw [if_pos c13] at H; have c13b0 : decide (x3_2 < (l0_4.length : Int)) = true := decide_eq_true c13; clear c13
         by_cases c14 : 0 ≤ x3_2
         ·rw [if_pos c14] at H; have c14b0 : decide (0 ≤ x3_2) = true := decide_eq_true c14; clear c14; replace H := Option.bind_eq_some_iff.mp H; obtain ⟨t211, A150, H⟩ := H; replace H : (if t211 = true then (spec_NormFull.l0 k2 (wrap64 (x3_2 + 1)) a0_0 a0_1 a0_2 l0_3 l0_4) else (some false)) = some r := H; have A15 := aM A150; clear A150
          by_cases c16 : t211 = true
          ·subst c16
           have H1 : (spec_NormFull.l0 k2 (wrap64 (x3_2 + 1)) a0_0 a0_1 a0_2 l0_3 l0_4) = some r := by rw [if_pos rfl] at H; exact H
           clear H; have H := H1; clear H1; have H' := aM H; clear H; have hcz17_0 : wr.cell? ⟨gb209, 0, none⟩ = some (.int .i64 a0_0) := (za BK209.out 0).trans rfl; have hcz17_1 : wr.cell? ⟨gb209, 1, none⟩ = some (.int .i64 a0_1) := (za BK209.out 1).trans rfl; have hcz17_2 : wr.cell? ⟨gb209, 2, none⟩ = some (.string a0_2) := (za BK209.out 2).trans rfl; have hcz17_3 : wr.cell? ⟨gb209, 3, none⟩ = some (.slice A0_3 l0_3.length c0_3) := (za BK209.out 3).trans rfl; have hcz17_4 : wr.cell? ⟨gb209, 4, none⟩ = some (.slice A0_4 l0_4.length c0_4) := (za BK209.out 4).trans rfl; have hfz17_0 := zi BK209.out 0; have hfz17_1 := zi BK209.out 1; have hfz17_2 := zi BK209.out 2; have hfz17_3 := zi BK209.out 3; have hfz17_4 := zi BK209.out 4; have p210 : 0 ≤ (x3_2 : Int) := of_decide_eq_true (by first | (with_reducible assumption) | assumption); have q210 : x3_2 < (l0_4.length : Int) := of_decide_eq_true (by first | (with_reducible assumption) | assumption); obtain ⟨ad210, A210_3, c210_3, A210_4, c210_4, e210, hx210_0, hx210_1, hx210_2, hx210_3, hx210_4, hl210_3, hi210_3, hl210_4, hi210_4⟩ := at_T25 HR0_4.out x3_2 p210 q210
           cases e210
           replace hx210_0 := (HB.out.cell (World.block_lt_of_cell? w _ hx210_0)).trans hx210_0; replace hx210_1 := (HB.out.cell (World.block_lt_of_cell? w _ hx210_1)).trans hx210_1; replace hx210_2 := (HB.out.cell (World.block_lt_of_cell? w _ hx210_2)).trans hx210_2; replace hx210_3 := (HB.out.cell (World.block_lt_of_cell? w _ hx210_3)).trans hx210_3; replace hx210_4 := (HB.out.cell (World.block_lt_of_cell? w _ hx210_4)).trans hx210_4; have HR210_3 := aM hi210_3; have HC210_3 := aM hl210_3; clear hi210_3 hl210_3; have HR210_4 := aM hi210_4; have HC210_4 := aM hl210_4; clear hi210_4 hl210_4; replace p210 := eq_true p210; replace q210 := eq_true q210
           go_wp2_with (first | ((with_reducible refine xb (f := 6) rfl ?_); refine goesL_ (some 28) rfl rfl Tryd.func6 (by kernel_rfl) rfl #[.agg #[.int .i64 ((rd_T25 l0_4 x3_2).f0), .int .i64 ((rd_T25 l0_4 x3_2).f1), .string ((rd_T25 l0_4 x3_2).f2), .slice A210_3 ((rd_T25 l0_4 x3_2).f3).length c210_3, .slice A210_4 ((rd_T25 l0_4 x3_2).f4).length c210_4]] rfl (by (try simp only [List.map_toArray, List.map_cons, List.map_nil]); first | done | rfl | (simp only [List.length_drop, List.length_take]; rfl)) ?_; (with_reducible refine (ih k2 (by have := HJ7.out; have := HK2.out; omega) ((rd_T25 l0_4 x3_2).f0) ((rd_T25 l0_4 x3_2).f1) ((rd_T25 l0_4 x3_2).f2) _ _ ((rd_T25 l0_4 x3_2).f3) _ _ ((rd_T25 l0_4 x3_2).f4) true _ ?side1 ?side2 ?side3 ?side4 A15.out).mono ?_); (case side1 => repeat (first | exact (Kd.C_below HR210_3.out HB.out) | (with_reducible refine Kd.C_alloc ?_ _) | (with_reducible refine Kd.C_drewN ?_ _) | (with_reducible refine Kd.C_drew ?_))); (case side2 => exact HC210_3.out); (case side3 => repeat (first | exact (Kd.C_below HR210_4.out HB.out) | (with_reducible refine Kd.C_alloc ?_ _) | (with_reducible refine Kd.C_drewN ?_ _) | (with_reducible refine Kd.C_drew ?_))); (case side4 => exact HC210_4.out); rintro e w18 ⟨rfl, hb⟩; refine ⟨_, rfl, ?_⟩; have n0_ := aM (zo (g := gb209) (o := .cells #[.int .i64 a0_0, .int .i64 a0_1, .string a0_2, .slice A0_3 l0_3.length c0_3, .slice (some ad210) l0_4.length c0_4] 25 (0, 0)) (by (with_reducible repeat (first | refine zf ?_ _ | refine zh ?_ | refine zc ?_ _)); exact BK209.out) hb); have n1_ := aM (zq (by repeat (first | (with_reducible first | exact HB.out | apply zb | apply ze | apply zj | refine zg ?_ GE209.out) | exact HB.out)) hb); clear BK209; clear HB; have BK209 := n0_; have HB := n1_; clear n0_ n1_; (try clear hb); (try clear hb2); (try clear hk); (try clear hi)))
           go_roundg k2
           case measure => have := HJ7.out; have := HK2.out; omega
           case rel => exact ⟨(wrap64 (x3_2 + 1)), (by first | rfl | (simp; done) | (simp [*]; done)), H', ⟨by have := HJ7.out; have := HK2.out; omega⟩, ⟨by (with_reducible repeat (first | refine zf ?_ _ | refine zh ?_ | refine zc ?_ _)); exact BK209.out⟩, ⟨by repeat (first | (with_reducible first | exact HB.out | apply zb | apply ze | apply zj | refine zg ?_ GE209.out) | exact HB.out)⟩⟩
          ·replace c16 := Bool.eq_false_iff.mpr c16; subst c16
           have H1 : (some false) = some r := by rw [if_neg (show ¬ (false = true) by decide)] at H; exact H
           clear H; have H := H1; clear H1; obtain rfl := Option.some.inj H; have hcz19_0 : wr.cell? ⟨gb209, 0, none⟩ = some (.int .i64 a0_0) := (za BK209.out 0).trans rfl; have hcz19_1 : wr.cell? ⟨gb209, 1, none⟩ = some (.int .i64 a0_1) := (za BK209.out 1).trans rfl; have hcz19_2 : wr.cell? ⟨gb209, 2, none⟩ = some (.string a0_2) := (za BK209.out 2).trans rfl; have hcz19_3 : wr.cell? ⟨gb209, 3, none⟩ = some (.slice A0_3 l0_3.length c0_3) := (za BK209.out 3).trans rfl; have hcz19_4 : wr.cell? ⟨gb209, 4, none⟩ = some (.slice A0_4 l0_4.length c0_4) := (za BK209.out 4).trans rfl; have hfz19_0 := zi BK209.out 0; have hfz19_1 := zi BK209.out 1; have hfz19_2 := zi BK209.out 2; have hfz19_3 := zi BK209.out 3; have hfz19_4 := zi BK209.out 4; have p210 : 0 ≤ (x3_2 : Int) := of_decide_eq_true (by first | (with_reducible assumption) | assumption); have q210 : x3_2 < (l0_4.length : Int) := of_decide_eq_true (by first | (with_reducible assumption) | assumption); obtain ⟨ad210, A210_3, c210_3, A210_4, c210_4, e210, hx210_0, hx210_1, hx210_2, hx210_3, hx210_4, hl210_3, hi210_3, hl210_4, hi210_4⟩ := at_T25 HR0_4.out x3_2 p210 q210
           cases e210
           replace hx210_0 := (HB.out.cell (World.block_lt_of_cell? w _ hx210_0)).trans hx210_0; replace hx210_1 := (HB.out.cell (World.block_lt_of_cell? w _ hx210_1)).trans hx210_1; replace hx210_2 := (HB.out.cell (World.block_lt_of_cell? w _ hx210_2)).trans hx210_2; replace hx210_3 := (HB.out.cell (World.block_lt_of_cell? w _ hx210_3)).trans hx210_3; replace hx210_4 := (HB.out.cell (World.block_lt_of_cell? w _ hx210_4)).trans hx210_4; have HR210_3 := aM hi210_3; have HC210_3 := aM hl210_3; clear hi210_3 hl210_3; have HR210_4 := aM hi210_4; have HC210_4 := aM hl210_4; clear hi210_4 hl210_4; replace p210 := eq_true p210; replace q210 := eq_true q210
           go_wp2_with (first | ((with_reducible refine xb (f := 6) rfl ?_); refine goesL_ (some 28) rfl rfl Tryd.func6 (by kernel_rfl) rfl #[.agg #[.int .i64 ((rd_T25 l0_4 x3_2).f0), .int .i64 ((rd_T25 l0_4 x3_2).f1), .string ((rd_T25 l0_4 x3_2).f2), .slice A210_3 ((rd_T25 l0_4 x3_2).f3).length c210_3, .slice A210_4 ((rd_T25 l0_4 x3_2).f4).length c210_4]] rfl (by (try simp only [List.map_toArray, List.map_cons, List.map_nil]); first | done | rfl | (simp only [List.length_drop, List.length_take]; rfl)) ?_; (with_reducible refine (ih k2 (by have := HJ7.out; have := HK2.out; omega) ((rd_T25 l0_4 x3_2).f0) ((rd_T25 l0_4 x3_2).f1) ((rd_T25 l0_4 x3_2).f2) _ _ ((rd_T25 l0_4 x3_2).f3) _ _ ((rd_T25 l0_4 x3_2).f4) false _ ?side1 ?side2 ?side3 ?side4 A15.out).mono ?_); (case side1 => repeat (first | exact (Kd.C_below HR210_3.out HB.out) | (with_reducible refine Kd.C_alloc ?_ _) | (with_reducible refine Kd.C_drewN ?_ _) | (with_reducible refine Kd.C_drew ?_))); (case side2 => exact HC210_3.out); (case side3 => repeat (first | exact (Kd.C_below HR210_4.out HB.out) | (with_reducible refine Kd.C_alloc ?_ _) | (with_reducible refine Kd.C_drewN ?_ _) | (with_reducible refine Kd.C_drew ?_))); (case side4 => exact HC210_4.out); rintro e w20 ⟨rfl, hb⟩; refine ⟨_, rfl, ?_⟩; have n0_ := aM (zo (g := gb209) (o := .cells #[.int .i64 a0_0, .int .i64 a0_1, .string a0_2, .slice A0_3 l0_3.length c0_3, .slice (some ad210) l0_4.length c0_4] 25 (0, 0)) (by (with_reducible repeat (first | refine zf ?_ _ | refine zh ?_ | refine zc ?_ _)); exact BK209.out) hb); have n1_ := aM (zq (by repeat (first | (with_reducible first | exact HB.out | apply zb | apply ze | apply zj | refine zg ?_ GE209.out) | exact HB.out)) hb); clear BK209; clear HB; have BK209 := n0_; have HB := n1_; clear n0_ n1_; (try clear hb); (try clear hb2); (try clear hk); (try clear hi)))
           go_ret
           exact ⟨by first | rfl | (simp [zv, zu] <;> rfl) | (simp [*, zv, zu] <;> rfl), by repeat (first | (with_reducible first | exact HB.out | apply zb | apply ze | apply zj | refine zg ?_ GE209.out) | exact HB.out)⟩
         ·rw [if_neg c14] at H; exact absurd H (by simp)
        ·rw [if_neg c13] at H; have c13b0 : decide (x3_2 < (l0_4.length : Int)) = false := decide_eq_false c13; clear c13; obtain rfl := Option.some.inj H; have hcz21_0 : wr.cell? ⟨gb209, 0, none⟩ = some (.int .i64 a0_0) := (za BK209.out 0).trans rfl; have hcz21_1 : wr.cell? ⟨gb209, 1, none⟩ = some (.int .i64 a0_1) := (za BK209.out 1).trans rfl; have hcz21_2 : wr.cell? ⟨gb209, 2, none⟩ = some (.string a0_2) := (za BK209.out 2).trans rfl; have hcz21_3 : wr.cell? ⟨gb209, 3, none⟩ = some (.slice A0_3 l0_3.length c0_3) := (za BK209.out 3).trans rfl; have hcz21_4 : wr.cell? ⟨gb209, 4, none⟩ = some (.slice A0_4 l0_4.length c0_4) := (za BK209.out 4).trans rfl; have hfz21_0 := zi BK209.out 0; have hfz21_1 := zi BK209.out 1; have hfz21_2 := zi BK209.out 2; have hfz21_3 := zi BK209.out 3; have hfz21_4 := zi BK209.out 4
         go_wp2
         go_ret
         exact ⟨by first | rfl | (simp [zv, zu] <;> rfl) | (simp [*, zv, zu] <;> rfl), by repeat (first | (with_reducible first | exact HB.out | apply zb | apply ze | apply zj | refine zg ?_ GE209.out) | exact HB.out)⟩
     ·replace c12 := Bool.eq_false_iff.mpr c12; subst c12
      have H1 : (some true) = some r := by rw [if_neg (show ¬ (false = true) by decide)] at H; exact H
      clear H; have H := H1; clear H1; obtain rfl := Option.some.inj H
      go_wp2
      go_ret
      exact ⟨by first | rfl | (simp [zv, zu] <;> rfl) | (simp [*, zv, zu] <;> rfl), by repeat (first | (with_reducible first | exact HB.out | apply zb | apply ze | apply zj | refine zg ?_ GE209.out) | exact HB.out)⟩
end Go.Proofs.YtmpmekliaicecaaDoor.PS
namespace Go.Proofs.YtmpmekliaicecaaDoor.Tr
open Go.RowKit Go.Proofs.YtmpmekliaicecaaDoorW.PrintWords Go.Proofs.YtmpmekliaicecaaDoorW.PrintLast Go.Proofs.YtmpmekliaicecaaDoor.Str Go.Proofs.YtmpmekliaicecaaDoor.Kit Go.Proofs.YtmpmekliaicecaaDoor.MapV Go.Proofs.YtmpmekliaicecaaDoor.Frame Go.Proofs.YtmpmekliaicecaaDoor.PS
def FullEv (x : VS) : Prop := Ev (fun k => spec_NormFull.f k x.f0 x.f1 x.f2 x.f3 x.f4) (fullV x)
theorem ev_Full_l0 (a b : Int) (c : BA) (ks : List BA) (vs : List VS) (hvl : vs.length ≤ 1759218604400) (hch : ∀ v, v ∈ vs → FullEv v) : ∀ (d i : Nat), i + d = vs.length →
  Ev (fun k => spec_NormFull.l0 k (i : Int) a b c ks vs) (fullL (vs.drop i) && vs.length != 0) := by
 intro d
 induction d with
 | zero =>
  intro i hi; refine yp (fun k => ?_) (Ev.now _); simp only [spec_NormFull.l0]; rw [if_neg (by omega), List.drop_eq_nil_of_le (by omega)]; simp only [fullL, Bool.true_and]
  by_cases h : vs.length = 0
  ·rw [decide_eq_false (by omega), h]; rfl
  ·rw [decide_eq_true (by omega), bne_iff_ne.2 h]
 | succ d ih =>
  intro i hi
  have hlt : i < vs.length := by omega
  refine yp (f := fun k => (spec_NormFull.f k vs[i].f0 vs[i].f1 vs[i].f2 vs[i].f3 vs[i].f4).bind fun t => if t = true then spec_NormFull.l0 k ((i + 1 : Nat) : Int) a b c ks vs else some false) (fun k => ?_) ?_
  ·simp only [spec_NormFull.l0]; rw [if_pos (by omega), if_pos (by omega), rdS hlt]; refine congrArg _ (funext fun t => ?_); rw [wrapS i (by omega)]
  ·refine ev_bind (hch vs[i] (List.getElem_mem hlt)) ?_; rw [List.drop_eq_getElem_cons hlt]; simp only [fullL]
   cases fullV vs[i]
   ·exact ev_now (fun k => by simp)
   ·simp only [if_true, Bool.true_and]; exact ih (i + 1) (by omega)
theorem ev_Full : ∀ x : VS, SmallS x → FullEv x := by
 intro x hx
 induction hx with
 | mk x ht hk hkl hvl hv ih =>
  obtain ⟨k, n, t, ks, vs⟩ := x
  unfold FullEv
  by_cases h0 : k = 0
  ·subst h0; exact yp (f := fun _ => some (fullV ⟨0, n, t, ks, vs⟩)) (fun j => by simp [spec_NormFull.f, fullV]) (Ev.now _)
  by_cases h3 : k = 3
  ·subst h3; exact yp (f := fun _ => some (fullV ⟨3, n, t, ks, vs⟩)) (fun j => by simp [spec_NormFull.f, fullV]) (Ev.now _)
  have key : (k = 4 ∨ k = 5) → Ev (fun j => spec_NormFull.f j k n t ks vs) (fullV ⟨k, n, t, ks, vs⟩) := fun h45 => by
   have h := ev_Full_l0 k n t ks vs hvl ih vs.length 0 (by omega); rw [List.drop_zero] at h
   have e : fullV ⟨k, n, t, ks, vs⟩ = (fullL vs && vs.length != 0) := by rcases h45 with rfl | rfl <;> simp [fullV]
   rw [e]; refine yp (f := fun j => spec_NormFull.j0 j true k n t ks vs) (fun j => ?_) (yp (f := fun j => spec_NormFull.l0 j ((0 : Nat) : Int) k n t ks vs) (fun j => ?_) h)
   ·rcases h45 with rfl | rfl <;> simp [spec_NormFull.f]
   ·simp [spec_NormFull.j0]
  by_cases h4 : k = 4
  ·exact key (.inl h4)
  by_cases h5 : k = 5
  ·exact key (.inr h5)
  refine yp (f := fun j => spec_NormFull.j0 j false k n t ks vs) (fun j => ?_) (yp (f := fun _ => some (fullV ⟨k, n, t, ks, vs⟩)) (fun j => ?_) (Ev.now _))
  ·have e5 : (k == 5) = false := by simpa using h5
   simp only [spec_NormFull.f]; rw [if_neg h0, if_neg h3, if_neg h4, e5]
  ·simp [spec_NormFull.j0, fullV, h0, h3, h4, h5]
theorem full_reads (x : VS) (hx : SmallS x) (A3 A4 : Option Addr) (c3 c4 : Nat) (w : World) (h : Reads w x A3 c3 A4 c4) :
  Calls Tryd.prog 6 #[.agg #[.int .i64 x.f0, .int .i64 x.f1, .string x.f2, .slice A3 x.f3.length c3, .slice A4 x.f4.length c4]] w fun e w' => e = .returned (.bool (fullV x)) ∧ Below w.heap.size w w' := by
 have hF := ev_Full x hx
 unfold FullEv at hF
 obtain ⟨k, hk⟩ := hF.rounds; exact spec_NormFull.calls k x.f0 x.f1 x.f2 A3 c3 x.f3 A4 c4 x.f4 _ w h.hk h.l3 h.hv h.l4 hk
end Go.Proofs.YtmpmekliaicecaaDoor.Tr
namespace Go.Proofs.YtmpmekliaicecaaDoor.Name
open Go.RowKit Go.Proofs.YtmpmekliaicecaaDoorW.PrintWords Go.Proofs.YtmpmekliaicecaaDoor.Str Go.Proofs.YtmpmekliaicecaaDoor.Kit
def nameB (b : UInt8) : Bool := (97 ≤ b.toNat && b.toNat ≤ 122) || (48 ≤ b.toNat && b.toNat ≤ 57) || b.toNat == 95 || b.toNat == 45
def lineB (b : UInt8) : Bool := b.toNat == 95 || b.toNat == 45
theorem filter_snoc {l : Bs} {i : Nat} (h : i < l.length) : (l.take (i + 1)).filter nameB = (l.take i).filter nameB ++ (if nameB l[i] = true then [l[i]] else []) := by
 rw [List.take_succ_eq_append_getElem h, List.filter_append]
 congr 1
 cases hb : nameB l[i] <;> simp [hb]
set_option maxHeartbeats 1600000 in
set_option maxRecDepth 1000000 in
theorem zzNameChars (s : ByteArray) (w : World) (hs : s.size ≤ 70368744177664) :
  Calls Tryd.prog 30 #[.string s] w fun e w' => e = .returned (.string ⟨((lb s).filter nameB).toArray⟩) ∧ Below w.heap.size w w' := by
 go_enter Tryd.func30, Tryd.ntmps30
 go_wp2
 have HB := aM (Below.refl w.heap.size w)
 go_loopw [3, 4] (fun v3 v4 wr => ∃ (i : Nat), v4 = .int .i64 i ∧ i ≤ s.size ∧ Aside0 (Buf wr w.heap.size v3 (((lb s).take i).filter nameB)) ∧ Aside0 (Below w.heap.size w wr)) (fun _ v4 _ => s.size - (intOf v4).toNat)
 case atStart => exact ⟨0, rfl, by omega, ⟨Buf.nil _ _⟩, HB⟩
 case round =>
  clear HB; obtain ⟨i, rfl, hi, HO, HB⟩ := hrel
  by_cases hlt : i < s.size
  ·have hlt' : i < (lb s).length := by rw [yk]; exact hlt
   have q0 : (0 : Int) ≤ (i : Int) := by omega
   have q1 : (i : Int) < (s.size : Int) := by omega
   have hsn := filter_snoc hlt'
   have hl : (((lb s).take i).filter nameB).length + 1 ≤ 140737488355328 := by
    have := List.length_filter_le nameB ((lb s).take i); rw [List.length_take, yk] at this
    omega
   have hlim := (lb s)[i].toNat_lt
   obtain ⟨b, hb⟩ : ∃ b : UInt8, (lb s)[i] = b := ⟨_, rfl⟩
   have hbs : s[i] = b := hb; rw [hb] at hsn hlim
   obtain ⟨c, hc⟩ : ∃ c : Nat, b.toNat = c := ⟨_, rfl⟩
   have hcv : (s[i].toNat : Int) = (c : Int) := by rw [hbs, hc]
   have HSN := aM hsn; have HBB := aM hb; have HC := aM hc; have HL := aM hl; rw [hc] at hlim; clear hsn hb hbs hc hl
   cases hn : nameB b
   ·have hno : c < 45 ∨ (45 < c ∧ c < 48) ∨ (57 < c ∧ c < 95) ∨ c = 96 ∨ 122 < c := by
     rw [nameB, HC.out] at hn
     simp at hn
     omega
    have HN := aM hn; clear hn; have n1 : ((c : Int) == 95) = false := beq_eq_false_iff_ne.mpr (by omega); have n2 : ((c : Int) == 45) = false := beq_eq_false_iff_ne.mpr (by omega)
    rcases hno with h | h | h | h | h
    all_goals go_wp2
    all_goals
     go_roundw
     case rel =>
      refine ⟨i + 1, by go_num, by omega, ?_, HB⟩; rw [HSN.out, HN.out]
      simpa using HO
     case measure => simp [intOf]; omega
   ·have hyes : (97 ≤ c ∧ c ≤ 122) ∨ (48 ≤ c ∧ c ≤ 57) ∨ c = 95 ∨ c = 45 := by
     rw [nameB, HC.out] at hn
     simp at hn
     omega
    have HN := aM hn; clear hn
    rcases hyes with h | h | h | h
    all_goals
     go_wp2_with (at_builtin; refine append_bufB (.tmp 37) (.tmp 39) rfl rfl b (by rw [HC.out]; first | done | omega) rfl rfl HO.out HB.out HL.out ?_; intro v1 w2 ho hb hg; have HO2 := aM ho; have HB2 := aM hb; clear ho hb hg)
     all_goals
      go_roundw
      case rel =>
       refine ⟨i + 1, by go_num, by omega, ?_, HB2⟩; rw [HSN.out, HN.out]; exact HO2
      case measure => simp [intOf]; omega
  ·have e : (lb s).take i = lb s := List.take_of_length_le (by rw [yk]; omega); rw [e] at HO; have hcv := HO.out.string
   go_wp2
   go_ret
   exact ⟨rfl, HB.out⟩
def ascii (l : Bs) : Prop := ∀ b ∈ l, b.toNat < 128
set_option maxHeartbeats 1600000 in
set_option maxRecDepth 1000000 in
theorem zzInSet (c : Nat) (set : ByteArray) (w : World) (ha : ascii (lb set)) :
  Calls Tryd.prog 43 #[.int .i32 c, .string set] w fun e w' => e = .returned (.bool ((lb set).any fun b => b.toNat == c)) ∧ Below w.heap.size w w' := by
 have hk0 : (w.iter set 0).heap[w.heap.size]? = some (.stringIter set 0) := World.iter_heap w set 0; have hb0 : Below w.heap.size w (w.iter set 0) := (Below.refl _ w).alloc (Nat.le_refl _) _; have HA := aM ha; clear ha
 go_enter Tryd.func43, Tryd.ntmps43
 go_wp2
 go_loopw [6] (fun _ wr => ∃ pos : Nat, pos ≤ set.size ∧ wr.heap[w.heap.size]? = some (.stringIter set pos) ∧ Aside0 (((lb set).take pos).any (fun b => b.toNat == c) = false) ∧ Aside0 (Below w.heap.size w wr)) (fun _ wr => set.size - wr.iterPos w.heap.size)
 case atStart => exact ⟨0, Nat.zero_le _, hk0, ⟨rfl⟩, ⟨hb0⟩⟩
 case round =>
  clear hk0 hb0; obtain ⟨pos, hps, hk, HN, HB⟩ := hrel
  by_cases hp : pos < set.size
  ·have hp' : pos < (lb set).length := by rw [yk]; exact hp
   have h128 : (set[pos]'hp).toNat < 128 := HA.out _ (List.getElem_mem hp')
   have hnext : ∀ ty, (Instr.next (.pointer (some ⟨w.heap.size, 0, none⟩)) true ty).run Tryd.prog wr = _ := fun ty => Lib.run_next_ascii_at wr w.heap.size set pos ty hk hp h128
   have hk1 := Lib.iterAt_heap wr w.heap.size set pos (pos + 1) hk; have hnx1 : Below w.heap.size w (wr.iterAt w.heap.size set (pos + 1)) := Lib.below_iterAt HB.out (by omega) set (pos + 1); have HB1 := aM hnx1
   have hmu : wr.iterPos w.heap.size = pos := by simp [World.iterPos, hk]
   have hstep : ((lb set).take (pos + 1)).any (fun b => b.toNat == c) = ((set[pos]'hp).toNat == c) := by
    rw [List.take_succ_eq_append_getElem hp', List.any_append, HN.out]
    show (false || ((set[pos]'hp).toNat == c || false)) = _
    rw [Bool.false_or, Bool.or_false]
   have HST := aM hstep; have htk := aM (List.take_append_drop (pos + 1) (lb set)); clear hstep hnx1; generalize wr.iterAt w.heap.size set (pos + 1) = W1 at hnext hk1 HB1
   by_cases he : (set[pos]'hp).toNat = c
   ·have e0 : ((c : Int) == ((set[pos]'hp).toNat : Int)) = true := by rw [he]; simp
    have R := aM (show (lb set).any (fun b => b.toNat == c) = true from List.any_eq_true.2 ⟨set[pos]'hp, List.getElem_mem hp', by rw [he]; exact beq_self_eq_true c⟩); clear he
    go_wp2
    go_ret
    exact ⟨by rw [R.out]; rfl, HB1.out⟩
   ·have e0 : ((c : Int) == ((set[pos]'hp).toNat : Int)) = false := beq_eq_false_iff_ne.mpr (by omega); have R := aM (show ((lb set).take (pos + 1)).any (fun b => b.toNat == c) = false by rw [HST.out]; simpa using he); clear he
    go_wp2
    go_roundw
    case rel => exact ⟨pos + 1, by omega, hk1, R, HB1⟩
    case measure =>
     have hmu2 : W1.iterPos w.heap.size = pos + 1 := by simp [World.iterPos, hk1]
     rw [hmu, hmu2]
     omega
  ·have hnext : ∀ ty, (Instr.next (.pointer (some ⟨w.heap.size, 0, none⟩)) true ty).run Tryd.prog wr = _ := fun ty => Lib.run_next_end_at wr w.heap.size set pos ty hk hp
   have hall : (lb set).take pos = lb set := List.take_of_length_le (by rw [yk]; omega); rw [hall] at HN
   go_wp2
   go_ret
   exact ⟨by rw [HN.out]; rfl, HB.out⟩
def lines : ByteArray := ⟨#[95, 45]⟩
theorem lines_any (b : UInt8) : (lb lines).any (fun x => x.toNat == b.toNat) = lineB b := by
 simp only [lines, lb, List.any_cons, List.any_nil, lineB, Bool.or_false]
 show ((95 : Nat) == b.toNat || (45 : Nat) == b.toNat) = _
 rw [Bool.beq_comm (a := (95 : Nat)), Bool.beq_comm (a := (45 : Nat))]
set_option maxHeartbeats 1600000 in
set_option maxRecDepth 1000000 in
theorem zzTrimLeft (s : ByteArray) (w : World) (ha : ascii (lb s)) :
  Calls Tryd.prog 31 #[.string s, .string ⟨#[95, 45]⟩] w fun e w' => e = .returned (.string ⟨((lb s).dropWhile lineB).toArray⟩) ∧ Below w.heap.size w w' := by
 have hk0 : (w.iter s 0).heap[w.heap.size]? = some (.stringIter s 0) := World.iter_heap w s 0; have hb0 : Below w.heap.size w (w.iter s 0) := (Below.refl _ w).alloc (Nat.le_refl _) _; have HA := aM ha; clear ha
 go_enter Tryd.func31, Tryd.ntmps31
 go_wp2
 go_loopw [5, 6] (fun _ _ wr => ∃ pos : Nat, pos ≤ s.size ∧ wr.heap[w.heap.size]? = some (.stringIter s pos) ∧ Aside0 ((lb s).dropWhile lineB = ((lb s).drop pos).dropWhile lineB) ∧ Aside0 (Below w.heap.size w wr)) (fun _ _ wr => s.size - wr.iterPos w.heap.size)
 case atStart => exact ⟨0, Nat.zero_le _, hk0, ⟨rfl⟩, ⟨hb0⟩⟩
 case round =>
  clear hk0 hb0; obtain ⟨pos, hps, hk, HN, HB⟩ := hrel
  by_cases hp : pos < s.size
  ·have hp' : pos < (lb s).length := by rw [yk]; exact hp
   have h128 : (s[pos]'hp).toNat < 128 := HA.out _ (List.getElem_mem hp')
   have hnext : ∀ ty, (Instr.next (.pointer (some ⟨w.heap.size, 0, none⟩)) true ty).run Tryd.prog wr = _ := fun ty => Lib.run_next_ascii_at wr w.heap.size s pos ty hk hp h128
   have hk1 := Lib.iterAt_heap wr w.heap.size s pos (pos + 1) hk; have hnx1 : Below w.heap.size w (wr.iterAt w.heap.size s (pos + 1)) := Lib.below_iterAt HB.out (by omega) s (pos + 1); have HB1 := aM hnx1
   have hmu : wr.iterPos w.heap.size = pos := by simp [World.iterPos, hk]
   have hstep : ((lb s).drop pos).dropWhile lineB = if lineB (s[pos]'hp) = true then ((lb s).drop (pos + 1)).dropWhile lineB else (lb s).drop pos := by
    rw [List.drop_eq_getElem_cons hp', List.dropWhile_cons]; rfl
   have HST := aM hstep; clear hstep hnx1; have hsz1 : w.heap.size < (wr.iterAt w.heap.size s (pos + 1)).heap.size := (Array.getElem?_eq_some_iff.1 hk1).1; generalize wr.iterAt w.heap.size s (pos + 1) = W1 at hnext hk1 HB1 hsz1
   go_wp2_with fail
   refine (zzInSet (s[pos]'hp).toNat lines W1 (by intro b hb; simp [lines, lb] at hb; rcases hb with rfl | rfl <;> decide)).mono ?_; rintro e w2 ⟨rfl, hb⟩; rw [lines_any]; have hk2 : w2.heap[w.heap.size]? = some (.stringIter s (pos + 1)) := (hb.block _ hsz1).trans hk1; have HB2 := aM (yq HB1.out hb); clear hb
   cases hl : lineB (s[pos]'hp)
   ·rw [hl] at HST
    have q0 : (0 : Int) ≤ (pos : Int) := by omega
    have q1 : (pos : Int) ≤ (s.size : Int) := by omega
    clear hl
    go_wp2
    go_ret
    refine ⟨?_, HB2.out⟩; rw [HN.out, HST.out, if_neg (by decide)]
    have ee : s.extract pos s.size = ⟨((lb s).drop pos).toArray⟩ := by
     apply lb_inj
     rw [lb_extract, lb_mk, List.take_of_length_le (by rw [yk]; omega)]
    rw [← ee]; rfl
   ·rw [hl] at HST; clear hl
    go_wp2
    go_roundw
    case rel => exact ⟨pos + 1, by omega, hk2, ⟨by rw [HN.out, HST.out]; rfl⟩, HB2⟩
    case measure =>
     have hmu2 : w2.iterPos w.heap.size = pos + 1 := by simp [World.iterPos, hk2]
     rw [hmu, hmu2]
     omega
  ·have hnext : ∀ ty, (Instr.next (.pointer (some ⟨w.heap.size, 0, none⟩)) true ty).run Tryd.prog wr = _ := fun ty => Lib.run_next_end_at wr w.heap.size s pos ty hk hp
   have hall : (lb s).drop pos = [] := List.drop_of_length_le (by rw [yk]; omega); rw [hall] at HN
   go_wp2
   go_ret
   exact ⟨by rw [HN.out]; rfl, HB.out⟩
end Go.Proofs.YtmpmekliaicecaaDoor.Name
namespace Go.Proofs.YtmpmekliaicecaaDoor.LawName
open Go.RowKit Go.Proofs.YtmpmekliaicecaaDoorW.PrintWords Go.Proofs.YtmpmekliaicecaaDoor.Str Go.Proofs.YtmpmekliaicecaaDoor.Kit Go.Proofs.YtmpmekliaicecaaDoor.Name
def NTabs (w : World) : Prop := Lib.CaseVar 0 Lib.caseA w ∧ Lib.Utf8Tabs 2 3 w
theorem NTabs.below {w w' : World} (h : NTabs w) (hb : Below w.heap.size w w') : NTabs w' := ⟨Lib.CaseVar_below h.1 hb, Utf8Tabs_below h.2 hb⟩
def pn (l : Bs) : Bs := ((Lib.toLowerD l).filter nameB).dropWhile lineB
theorem nameB_lt {b : UInt8} (h : nameB b = true) : b.toNat < 128 := by
 simp [nameB] at h
 omega
theorem encode_le (z : Int) : (Lib.encodeRune z).length ≤ 4 := by
 unfold Lib.encodeRune Lib.encodeRuneZ
 rw [List.length_map]
 repeat' split
 all_goals simp
theorem mapD_len (f : Int → Int) : ∀ (n : Nat) (l : Bs), l.length ≤ n → (Lib.mapD f l).length ≤ 4 * l.length
 | 0, l, hn => by
  have : l = [] := List.eq_nil_of_length_eq_zero (by omega); subst this
  simp [Lib.mapD_nil]
 | n + 1, l, hn => by
  by_cases hne : l = []
  ·subst hne
   simp [Lib.mapD_nil]
  ·have hw := Lib.decodeL_width l; have hle := Lib.decodeL_le l hne; have ih := mapD_len f n (l.drop (Lib.decodeL l).2) (by rw [List.length_drop]; omega); rw [List.length_drop] at ih; rw [Lib.mapD_step f l hne, List.length_append]
   have hh : (if 0 ≤ f (Lib.decodeL l).1 then Lib.encodeRune (f (Lib.decodeL l).1) else []).length ≤ 4 := by
    split
    ·exact encode_le _
    ·simp
   omega
theorem lower_len (l : Bs) : (Lib.toLowerD l).length ≤ 4 * l.length := mapD_len _ _ l (Nat.le_refl _)
theorem Normalize (s : ByteArray) (w : World) (hs : s.size ≤ 8796093022208) (hT : NTabs w) :
  Calls Tryd.prog 23 #[.string s] w fun e w' => e = .returned (.string ⟨(pn (lb s)).toArray⟩) ∧ Below w.heap.size w w' := by
 have HT := aM hT; clear hT
 unfold pn
 have hl := lower_len (lb s); rw [yk] at hl; have cL := Tryd.strings_ToLower_any s w (by omega) HT.out.1 HT.out.2; have CL := aM cL; clear cL; generalize hd : Lib.toLowerD (lb s) = d at hl CL ⊢; generalize hf : d.filter nameB = f
 have hfa : ascii f := by
  subst hf
  exact fun b hb => nameB_lt (List.mem_filter.1 hb).2
 have HFA := aM hfa; have HF := aM hf; clear hd hf hfa; generalize hr : f.dropWhile lineB = r; have HR := aM hr; clear hr
 go_enter Tryd.func23, Tryd.ntmps23
 go_wp2_with fail
 refine CL.out.mono ?_; rintro e w1 ⟨rfl, hb⟩; have HB1 := aM hb; clear hb
 go_wp2_with fail
 refine (zzNameChars ⟨d.toArray⟩ w1 (by show d.toArray.size ≤ _; rw [List.size_toArray]; omega)).mono ?_; rintro e w2 ⟨rfl, hb⟩; have HB2 := aM (yq HB1.out hb); rw [lb_mk, HF.out]; clear hb
 go_wp2_with fail
 refine (zzTrimLeft ⟨f.toArray⟩ w2 (by rw [lb_mk]; exact HFA.out)).mono ?_; rintro e w3 ⟨rfl, hb⟩; have HB3 := aM (yq HB2.out hb); rw [lb_mk, HR.out]; clear hb
 go_wp2
 go_ret
 exact ⟨rfl, HB3.out⟩
theorem ProjectName (s : ByteArray) (w : World) (hs : s.size ≤ 8796093022208) (hT : NTabs w) :
  Calls Tryd.prog 18 #[.string s] w fun e w' => e = .returned (.string ⟨(pn (lb s)).toArray⟩) ∧ Below w.heap.size w w' := by
 have C := aM (Normalize s w hs hT); clear hT; generalize pn (lb s) = r at C ⊢
 go_enter Tryd.func18, Tryd.ntmps18
 go_wp2_with fail
 refine C.out.mono ?_; rintro e w1 ⟨rfl, hb⟩; have HB1 := aM hb; clear hb
 go_wp2
 go_ret
 exact ⟨rfl, HB1.out⟩
theorem awake_pn : pn [95, 65, 45, 98] = [97, 45, 98] := by
 unfold pn
 rw [Lib.toLowerD_ascii _ (by decide)]
 decide
theorem normAwake (w : World) (hT : NTabs w) :
  Calls Tryd.prog 7 #[] w fun e w' => e = .returned (.bool true) ∧ Below w.heap.size w w' := by
 have C := aM (ProjectName ⟨#[95, 65, 45, 98]⟩ w (by decide) hT); rw [show pn (lb ⟨#[95, 65, 45, 98]⟩) = [97, 45, 98] from awake_pn] at C; clear hT
 go_enter Tryd.func7, Tryd.ntmps7
 go_wp2_with fail
 refine C.out.mono ?_; rintro e w1 ⟨rfl, hb⟩; have HB1 := aM hb; clear hb
 go_wp2
 go_ret
 exact ⟨rfl, HB1.out⟩
end Go.Proofs.YtmpmekliaicecaaDoor.LawName
namespace Go.Proofs.YtmpmekliaicecaaDoor.Tr
open Go.RowKit Go.Proofs.YtmpmekliaicecaaDoorW.PrintWords Go.Proofs.YtmpmekliaicecaaDoorW.PrintLast Go.Proofs.YtmpmekliaicecaaDoor.Str Go.Proofs.YtmpmekliaicecaaDoor.Kit Go.Proofs.YtmpmekliaicecaaDoor.MapV Go.Proofs.YtmpmekliaicecaaDoor.Frame Go.Proofs.YtmpmekliaicecaaDoor.PS
theorem from_calls (x : VI) (z : VS) (hz : fromI x = z) (hx : Small x) (A3 A4 : Option Addr) (c3 c4 : Nat) (w : World) (l3 : x.f3.length ≤ c3) (hk : Kd.string.C w A3 x.f3.length x.f3) (l4 : x.f4.length ≤ c4) (hv : kI.C w A4 x.f4.length x.f4) :
  Calls Tryd.prog 9 #[.agg #[.int .i64 x.f0, .int .i64 x.f1, .string x.f2, .slice A3 x.f3.length c3, .slice A4 x.f4.length c4]] w fun e w' => ∃ B3 d3 B4 d4, e = .returned (.agg #[.int .i64 z.f0, .int .i64 z.f1, .string z.f2, .slice B3 z.f3.length d3, .slice B4 z.f4.length d4]) ∧ z.f3.length ≤ d3 ∧ Kd.string.C w' B3 z.f3.length z.f3 ∧ z.f4.length ≤ d4 ∧ kS.C w' B4 z.f4.length z.f4 ∧ Below w.heap.size w w' := by
 subst hz; obtain ⟨k, hk'⟩ := (ev_from x hx).rounds; refine (laws_from.calls k x.f0 x.f1 x.f2 A3 c3 x.f3 A4 c4 x.f4 _ _ _ _ _ w hk l3 hv l4 hk').mono ?_; rintro e w1 ⟨v3, v4, rfl, hr3, hr4, hb⟩; obtain ⟨B3, d3, rfl, m3, g3⟩ := Kd.R_reads hr3; obtain ⟨B4, d4, rfl, m4, g4⟩ := Kd.R_reads hr4; exact ⟨B3, d3, B4, d4, rfl, m3, g3, m4, g4, hb⟩
theorem to_calls (x : VS) (hx : SmallS x) (A3 A4 : Option Addr) (c3 c4 : Nat) (w : World) (l3 : x.f3.length ≤ c3) (hk : Kd.string.C w A3 x.f3.length x.f3) (l4 : x.f4.length ≤ c4) (hv : kS.C w A4 x.f4.length x.f4) :
  Calls Tryd.prog 11 #[.agg #[.int .i64 x.f0, .int .i64 x.f1, .string x.f2, .slice A3 x.f3.length c3, .slice A4 x.f4.length c4]] w fun e w' => ∃ B3 d3 B4 d4, e = .returned (.agg #[.int .i64 (toI x).f0, .int .i64 (toI x).f1, .string (toI x).f2, .slice B3 (toI x).f3.length d3, .slice B4 (toI x).f4.length d4]) ∧ (toI x).f3.length ≤ d3 ∧ Kd.string.C w' B3 (toI x).f3.length (toI x).f3 ∧ (toI x).f4.length ≤ d4 ∧ kI.C w' B4 (toI x).f4.length (toI x).f4 ∧ Below w.heap.size w w' := by
 obtain ⟨k, hk'⟩ := (ev_to x hx).rounds; refine (laws_to.calls k x.f0 x.f1 x.f2 A3 c3 x.f3 A4 c4 x.f4 _ _ _ _ _ w hk l3 hv l4 hk').mono ?_; rintro e w1 ⟨v3, v4, rfl, hr3, hr4, hb⟩; obtain ⟨B3, d3, rfl, m3, g3⟩ := Kd.R_reads hr3; obtain ⟨B4, d4, rfl, m4, g4⟩ := Kd.R_reads hr4; exact ⟨B3, d3, B4, d4, rfl, m3, g3, m4, g4, hb⟩
theorem same_calls (x : VS) (hx : Short x) (A3 A4 : Option Addr) (c3 c4 : Nat) (B3 B4 : Option Addr) (d3 d4 : Nat) (w : World) (l3 : x.f3.length ≤ c3) (hk : Kd.string.C w A3 x.f3.length x.f3) (l4 : x.f4.length ≤ c4) (hv : kS.C w A4 x.f4.length x.f4) (m3 : x.f3.length ≤ d3) (jk : Kd.string.C w B3 x.f3.length x.f3) (m4 : x.f4.length ≤ d4) (jv : kS.C w B4 x.f4.length x.f4) :
  Calls Tryd.prog 8 #[.agg #[.int .i64 x.f0, .int .i64 x.f1, .string x.f2, .slice A3 x.f3.length c3, .slice A4 x.f4.length c4], .agg #[.int .i64 x.f0, .int .i64 x.f1, .string x.f2, .slice B3 x.f3.length d3, .slice B4 x.f4.length d4]] w fun e w' => e = .returned (.bool true) ∧ Below w.heap.size w w' := by
 obtain ⟨k, hk'⟩ := (ev_same x hx).rounds; exact spec_Same.calls k x.f0 x.f1 x.f2 A3 c3 x.f3 A4 c4 x.f4 x.f0 x.f1 x.f2 B3 d3 x.f3 B4 d4 x.f4 true w hk l3 hv l4 jk m3 jv m4 hk'
theorem cell_row5 {w : World} {b : Nat} {T : TypeId} {v0 v1 v2 v3 v4 : Value} (h : w.heap[b]? = some (.cells #[v0, v1, v2, v3, v4] T (0, 0))) :
  w.cell? ⟨b, 0, none⟩ = some v0 ∧ w.cell? ⟨b, 1, none⟩ = some v1 ∧ w.cell? ⟨b, 2, none⟩ = some v2 ∧ w.cell? ⟨b, 3, none⟩ = some v3 ∧ w.cell? ⟨b, 4, none⟩ = some v4 := by
 simp [World.cell?, h]
end Go.Proofs.YtmpmekliaicecaaDoor.Tr
namespace Go.Proofs.YtmpmekliaicecaaDoor.RowKit
open Go.RowKit Go.ChangeShapes Go.WideShapes Go.ChangeAt Go.Proofs.YtmpmekliaicecaaDoorW.PrintWords Go.Proofs.YtmpmekliaicecaaDoor.Str Go.Proofs.YtmpmekliaicecaaDoor.Kit
theorem strs_arg {H : Type} {enc : TypeId × Value → H} {P : Program} {W : World} {base : Nat} {spare : Nat → Bool} {held : Bool} {t e : TypeId} {a : Option Addr} {len cap : Nat} {d : DataW H} {ps : List MemPlace}
  (ht : P.underlying t = some (.slice e)) (he : P.underlying e = some .string) (hc : P.cellsOf e = 1) (h : DataW.Trod enc P W base spare held t (.slice a len cap) d ps) :
  ∃ xs : List ByteArray, xs.length = len ∧ len ≤ cap ∧ Kd.string.C W a xs.length xs ∧ ((d = .nil ∧ xs = []) ∨ ∃ rest, d = .slice (strs xs) rest) := by
 obtain ⟨fuel, hf⟩ := h
 rcases open_strings ht he hc hf with ⟨hcs, hx⟩ | ⟨ad, l, c, ss, hcs, _, hl, hm, hss, hx, hcell, hws⟩
 ·simp [Value.cells] at hcs
  obtain ⟨rfl, rfl, rfl⟩ := hcs; simp only [Prod.mk.injEq] at hx; exact ⟨[], rfl, by omega, ⟨rfl, by simp, fun h => absurd h (by simp)⟩, .inl ⟨hx.1, rfl⟩⟩
 ·simp [Value.cells] at hcs
  obtain ⟨rfl, rfl, rfl⟩ := hcs; simp only [Prod.mk.injEq] at hx
  have hlen : len ≤ ss.length := by rw [hss]; split <;> omega
  have hl2 : (ss.take len).length = len := by rw [List.length_take]; omega
  refine ⟨ss.take len, hl2, hl, ⟨rfl, by unfold maxLen at hm; omega, fun _ => ⟨ad, rfl, fun j p hp => ?_⟩⟩, .inr ⟨_, hx.1⟩⟩; obtain ⟨hj, rfl⟩ := List.getElem?_eq_some_iff.1 hp; refine ⟨[.string (ss.take len)[j]], rfl, rfl, fun i u hu => ?_⟩; have hi : i < 1 := (List.getElem?_eq_some_iff.1 hu).1
  obtain rfl : i = 0 := by omega
  have hu' : Value.string (ss.take len)[j] = u := by simpa using hu
  subst hu'
  have : j * Kd.string.sz + 0 = j := by simp [Kd.string, Kd.scalar]
  rw [this, hcell j (by rw [hl2] at hj; omega)]; rw [hl2] at hj
  simp [List.getD_eq_getElem?_getD, List.getElem?_eq_getElem (show j < ss.length by omega)]
theorem bulkAll_le {H : Type} {d : DataW H} {l : List (DataW H)} (h : d ∈ l) : Rows.uptoBulk d ≤ Rows.uptoBulkAll l := by
 induction l with
 | nil => cases h
 | cons x r ih =>
  simp only [Rows.uptoBulkAll]
  rcases List.mem_cons.1 h with e | e
  ·subst e; omega
  ·have := ih e; omega
theorem bulk_of {H : Type} (xs : List ByteArray) : Rows.uptoBulkAll (strs xs : List (DataW H)) = bulk xs := by
 induction xs with
 | nil => rfl
 | cons a r ih =>
  simp only [strs, List.map_cons, Rows.uptoBulkAll, Rows.uptoBulk] at ih ⊢; rw [ih]
  show (lb a).length + 1 + bulk r = bulk (a :: r)
  rw [yk]
  simp [bulk]
end Go.Proofs.YtmpmekliaicecaaDoor.RowKit
namespace Go.Proofs.YtmpmekliaicecaaDoor.RowKit
open Go.RowKit Go.ChangeShapes Go.WideShapes Go.ChangeAt Go.Proofs.YtmpmekliaicecaaDoorW.PrintWords Go.Proofs.YtmpmekliaicecaaDoorW.PrintLast Go.Proofs.YtmpmekliaicecaaDoor.Str Go.Proofs.YtmpmekliaicecaaDoor.Kit Go.Proofs.YtmpmekliaicecaaDoor.PS Go.Proofs.YtmpmekliaicecaaDoor.Tr
theorem addr_add (a : Addr) (i j : Nat) : (a.add i).add j = a.add (i + j) := by
 unfold Addr.add
 by_cases h : i = 0
 ·subst h; simp
 ·by_cases k : j = 0
  ·subst k; simp
  ·simp [h, k, Nat.add_assoc]
theorem agg_of {v : Value} {l : List Value} (h : v.cells.toList = l) (hl : 2 ≤ l.length) : v = .agg l.toArray := by
 cases v with
 | agg cs =>
  have : cs.toList = l := by simpa [Value.cells] using h
  rw [← this]
 | _ =>
  exfalso
  have := congrArg List.length h
  simp [Value.cells] at this
  omega
theorem list5 {α : Type} {cs : List α} (h : cs.length = 5) : ∃ a b c d e, cs = [a, b, c, d, e] := by
 match cs, h with
 | [a, b, c, d, e], _ => exact ⟨a, b, c, d, e, rfl⟩
section
variable {H : Type} {enc : TypeId × Value → H} {W : World} {base : Nat} {spare : Nat → Bool} {held : Bool}
end
mutual
def vol : VS → Nat
 | ⟨_, _, t, ks, vs⟩ => t.size + bulk ks + volL vs + 1
def volL : List VS → Nat
 | [] => 0
 | v :: r => vol v + volL r
end
theorem vol_pos : ∀ x : VS, 1 ≤ vol x
 | ⟨_, _, t, ks, vs⟩ => by simp only [vol]; omega
theorem volL_len : ∀ l : List VS, l.length ≤ volL l
 | [] => Nat.zero_le _
 | x :: r => by
  simp only [volL, List.length_cons]; have h1 := vol_pos x; have h2 := volL_len r
  omega
theorem bulk_mem {s : BA} : ∀ {l : List BA}, s ∈ l → s.size + 1 ≤ bulk l
 | [], h => by cases h
 | x :: r, h => by
  have e : bulk (x :: r) = x.size + 1 + bulk r := by simp [bulk]
  rw [e]
  rcases List.mem_cons.1 h with rfl | h
  ·omega
  ·have := bulk_mem h
   omega
theorem bulk_len : ∀ l : List BA, l.length ≤ bulk l
 | [] => Nat.zero_le _
 | x :: r => by
  have e : bulk (x :: r) = x.size + 1 + bulk r := by simp [bulk]
  have := bulk_len r; rw [e, List.length_cons]
  omega
mutual
theorem small_vol : ∀ (x : VS), vol x ≤ 1048576 → SmallS x
 | ⟨a, b, t, ks, vs⟩, h => by
  simp only [vol] at h; have h1 := bulk_len ks; have h2 := volL_len vs; refine .mk _ ?_ (fun s hs => ?_) ?_ ?_ (fun v hv => small_volL vs (by omega) v hv)
  ·show t.size ≤ _; omega
  ·have := bulk_mem (show s ∈ ks from hs); unfold maxLen; omega
  ·show ks.length ≤ _; omega
  ·show vs.length ≤ _; omega
theorem small_volL : ∀ (l : List VS), volL l ≤ 1048576 → ∀ v, v ∈ l → SmallS v
 | [], _, v, h => by cases h
 | x :: r, h, v, hv => by
  simp only [volL] at h
  rcases List.mem_cons.1 hv with e | e
  ·rw [e]; exact small_vol x (by omega)
  ·exact small_volL r (by omega) v e
end
theorem row_ofM {α : Type} {R : Nat → α → Prop} (m : α → Nat) (b : Nat → Nat) : ∀ (len : Nat), (∀ i, i < len → ∃ p, R i p ∧ m p ≤ b i) → ∃ xs : List α, xs.length = len ∧ (∀ (i : Nat) (hi : i < xs.length), R i xs[i]) ∧ (xs.map m).sum ≤ ((List.range len).map b).sum
 | 0, _ => ⟨[], rfl, fun i hi => absurd hi (by simp), by simp⟩
 | k + 1, each => by
  obtain ⟨xs, hx, hg, hm⟩ := row_ofM m b k (fun i hi => each i (by omega)); obtain ⟨p, hp, hpm⟩ := each k (by omega); refine ⟨xs ++ [p], by simp [hx], fun i hi => ?_, ?_⟩
  ·by_cases h : i < xs.length
   ·rw [List.getElem_append_left h]; exact hg i h
   ·have : i = k := by simp at hi; omega
    subst this; subst hx
    simpa using hp
  ·rw [List.range_succ]
   simp
   omega
theorem volL_sum : ∀ l : List VS, volL l = (l.map vol).sum
 | [] => rfl
 | x :: r => by simp [volL, volL_sum r]
theorem bulkAll_sum {H : Type} : ∀ l : List (DataW H), Rows.uptoBulkAll l = ((List.range l.length).map (fun i => Rows.uptoBulk (l.getD i .nil))).sum
 | [] => rfl
 | x :: r => by
  rw [Rows.uptoBulkAll, bulkAll_sum r, List.length_cons, List.range_succ_eq_map]
  simp [Function.comp_def]
section
variable {H : Type} {enc : TypeId × Value → H} {W : World} {base : Nat} {spare : Nat → Bool} {held : Bool}
theorem strs_up {d : DataW H} {ps : List MemPlace} {fuel : Nat} {v : Value} (hf : DataW.trod enc Tryd.prog W base spare held fuel 22 [v] = some (d, ps)) :
  ∃ A c xs, v = .slice A xs.length c ∧ xs.length ≤ c ∧ Kd.string.C W A xs.length xs ∧ bulk xs + 1 ≤ Rows.uptoBulk d := by
 rcases DataW.trod_slice Tryd.underlying22 hf with ⟨hcs, hx⟩ | ⟨ad, l, c, elems, rest, n, _, hcs, hx, _, hl, hm, hlen, _, _, _⟩
 ·have hv : v = .slice none 0 0 := by simpa using hcs
  subst hv; refine ⟨none, 0, [], rfl, Nat.le_refl _, ⟨rfl, by simp, fun h => absurd h (by simp)⟩, ?_⟩
  have hd : d = .nil := by simpa using (congrArg Prod.fst hx)
  rw [hd]
  simp [bulk, Rows.uptoBulk]
 ·have hv : v = .slice (some ad) l c := by simpa using hcs
  subst hv
  have hT : DataW.Trod enc Tryd.prog W base spare held 22 (.slice (some ad) l c) d ps := ⟨fuel, by simpa [Value.cells] using hf⟩
  obtain ⟨xs, hxl, hle, hC, hd⟩ := strs_arg Tryd.underlying22 Tryd.underlying9 (by kernel_rfl) hT; subst hxl; refine ⟨some ad, c, xs, rfl, hle, hC, ?_⟩
  rcases hd with ⟨hd, rfl⟩ | ⟨rest, rfl⟩
  ·rw [hd]; simp [bulk, Rows.uptoBulk]
  ·simp only [Rows.uptoBulk]; rw [bulk_of]
   omega
theorem val_up : ∀ (fuel : Nat) (cs : List Value) (d : DataW H) (ps : List MemPlace), DataW.trod enc Tryd.prog W base spare held fuel 25 cs = some (d, ps) →
  ∃ x : VS, kS.K W x cs ∧ vol x ≤ Rows.uptoBulk d := by
 intro fuel
 induction fuel using Nat.strongRecOn with
 | _ fuel ih =>
  intro cs d ps h; obtain ⟨xs, n, hfu, hx, hl, hxl, hf⟩ := DataW.trod_struct Tryd.underlying25 h
  have hc5 : Tryd.prog.cellsOf 25 = 5 := by kernel_rfl
  rw [hc5] at hl; obtain ⟨v0, v1, v2, v3, v4, rfl⟩ := list5 hl; simp only [Prod.mk.injEq] at hx; obtain ⟨rfl, _⟩ := hx; have hxl5 : xs.length = 5 := hxl; obtain ⟨y0, y1, y2, y3, y4, rfl⟩ := list5 hxl5
  have c1 : Tryd.prog.cellsOf 3 = 1 := by kernel_rfl
  have c2 : Tryd.prog.cellsOf 9 = 1 := by kernel_rfl
  have c3 : Tryd.prog.cellsOf 22 = 1 := by kernel_rfl
  have c4 : Tryd.prog.cellsOf 23 = 1 := by kernel_rfl
  have f0 : DataW.trod enc Tryd.prog W base spare held n 3 [v0] = some y0 := by
   have h_ : DataW.trod enc Tryd.prog W base spare held n 3 (([v0, v1, v2, v3, v4].drop 0).take (Tryd.prog.cellsOf 3)) = some y0 := hf 0 _ rfl; rw [c1] at h_; exact h_
  have f1 : DataW.trod enc Tryd.prog W base spare held n 3 [v1] = some y1 := by
   have h_ : DataW.trod enc Tryd.prog W base spare held n 3 (([v0, v1, v2, v3, v4].drop 1).take (Tryd.prog.cellsOf 3)) = some y1 := hf 1 _ rfl; rw [c1] at h_; exact h_
  have f2 : DataW.trod enc Tryd.prog W base spare held n 9 [v2] = some y2 := by
   have h_ : DataW.trod enc Tryd.prog W base spare held n 9 (([v0, v1, v2, v3, v4].drop 2).take (Tryd.prog.cellsOf 9)) = some y2 := hf 2 _ rfl; rw [c2] at h_; exact h_
  have f3 : DataW.trod enc Tryd.prog W base spare held n 22 [v3] = some y3 := by
   have h_ : DataW.trod enc Tryd.prog W base spare held n 22 (([v0, v1, v2, v3, v4].drop 3).take (Tryd.prog.cellsOf 22)) = some y3 := hf 3 _ rfl; rw [c3] at h_; exact h_
  have f4 : DataW.trod enc Tryd.prog W base spare held n 23 [v4] = some y4 := by
   have h_ : DataW.trod enc Tryd.prog W base spare held n 23 (([v0, v1, v2, v3, v4].drop 4).take (Tryd.prog.cellsOf 23)) = some y4 := hf 4 _ rfl; rw [c4] at h_; exact h_
  obtain ⟨i0, e0, _, _⟩ := DataW.trod_int Tryd.underlying3 f0; obtain ⟨i1, e1, _, _⟩ := DataW.trod_int Tryd.underlying3 f1; obtain ⟨s2, e2, hx2, hs2⟩ := DataW.trod_string Tryd.underlying9 f2
  have e0' : v0 = .int .i64 i0 := by simpa using e0
  have e1' : v1 = .int .i64 i1 := by simpa using e1
  have e2' : v2 = .string s2 := by simpa using e2
  subst e0' e1' e2'
  have hsz2 : s2.size + 1 ≤ Rows.uptoBulk y2.1 := by
   rw [hx2]
   show s2.size + 1 ≤ (lb s2).length + 1
   rw [yk]; exact Nat.le_refl _
  obtain ⟨A3, cc3, ks, rfl, hk3, hC3, hks⟩ := strs_up (d := y3.1) (ps := y3.2) f3
  have h4 : ∃ A4 cc4, ∃ vs : List VS, v4 = .slice A4 vs.length cc4 ∧ vs.length ≤ cc4 ∧ kS.C W A4 vs.length vs ∧ volL vs + 1 ≤ Rows.uptoBulk y4.1 := by
   rcases DataW.trod_slice Tryd.underlying23 f4 with ⟨hcs, hx⟩ | ⟨ad, l, c, elems, rest, m, hfm, hcs, hx, _, hl4, hm4, hlen, hel, _, _⟩
   ·have hv : v4 = .slice none 0 0 := by simpa using hcs
    subst hv; refine ⟨none, 0, [], rfl, Nat.le_refl _, ⟨rfl, by simp, fun h => absurd h (by simp)⟩, ?_⟩
    have hd : y4.1 = .nil := by simpa using (congrArg Prod.fst hx)
    rw [hd]
    simp [volL, Rows.uptoBulk]
   ·have hv : v4 = .slice (some ad) l c := by simpa using hcs
    subst hv
    have each : ∀ i, i < l → ∃ p : VS, (∃ c, c.length = 5 ∧ kS.K W p c ∧ ∀ j u, c[j]? = some u → W.cell? (ad.add (i * 5 + j)) = some u) ∧ vol p ≤ Rows.uptoBulk ((elems.map (fun q => q.1)).getD i .nil) := by
     intro i hi; have h2 := hel i hi; rw [List.getElem?_eq_getElem (by omega), hc5, Option.bind_eq_some_iff] at h2; obtain ⟨cs, h3, h4⟩ := h2; obtain ⟨_, hcl, hcell⟩ := World.cells?_some h3; obtain ⟨p, hp, hps⟩ := ih m (by omega) cs (elems[i]'(by omega)).1 (elems[i]'(by omega)).2 h4
     have hgd : (elems.map (fun q => q.1)).getD i .nil = (elems[i]'(by omega)).1 := by
      rw [List.getD_eq_getElem?_getD, List.getElem?_map, List.getElem?_eq_getElem (by omega)]; rfl
     rw [← hgd] at hps; refine ⟨p, ⟨cs, hcl, hp, fun j u hu => ?_⟩, hps⟩
     have hj : j < 5 := by rw [← hcl]; exact (List.getElem?_eq_some_iff.1 hu).1
     rw [← addr_add, hcell j hj]; exact hu
    obtain ⟨vs, hvl, hvs, hsum⟩ := row_ofM vol (fun i => Rows.uptoBulk ((elems.map (fun q => q.1)).getD i .nil)) l each; subst hvl; refine ⟨some ad, c, vs, rfl, hl4, ⟨rfl, by unfold maxLen at hm4; omega, fun _ => ⟨ad, rfl, fun j p hp => ?_⟩⟩, ?_⟩
    ·obtain ⟨hj, rfl⟩ := List.getElem?_eq_some_iff.1 hp; exact hvs j hj
    ·rw [volL_sum]; have hd := congrArg Prod.fst hx; simp only at hd; rw [hd]; simp only [Rows.uptoBulk]; rw [bulkAll_sum, List.length_map, hlen]
     omega
  obtain ⟨A4, cc4, vs, rfl, hv4, hC4, hvs⟩ := h4; refine ⟨⟨i0, i1, s2, ks, vs⟩, k25_mk W ⟨i0, i1, s2, ks, vs⟩ hk3 hC3 hv4 hC4, ?_⟩; simp only [vol, Rows.uptoBulk, Rows.uptoBulkAll, List.map_cons, List.map_nil]
  omega
theorem val_argU {v : Value} {d : DataW H} {ps : List MemPlace} (h : DataW.Trod enc Tryd.prog W base spare held 25 v d ps) :
  ∃ (x : VS) (A3 A4 : Option Addr) (c3 c4 : Nat), v.cells.toList = [.int .i64 x.f0, .int .i64 x.f1, .string x.f2, .slice A3 x.f3.length c3, .slice A4 x.f4.length c4] ∧ x.f3.length ≤ c3 ∧ Kd.string.C W A3 x.f3.length x.f3 ∧ x.f4.length ≤ c4 ∧ kS.C W A4 x.f4.length x.f4 ∧ vol x ≤ Rows.uptoBulk d := by
 obtain ⟨fuel, hf⟩ := h; obtain ⟨x, hx, hs⟩ := val_up fuel _ d ps hf; obtain ⟨A3, c3, A4, c4, e, l3, g3, l4, g4⟩ := k25_open hx; exact ⟨x, A3, A4, c3, c4, e, l3, g3, l4, g4, hs⟩
end
end Go.Proofs.YtmpmekliaicecaaDoor.RowKit
