/- Parts of the proof, laid together: Str, MapV, Kit, Rowstr, Buf, Frame, Place, Q0, Held, MapStep, FitPlain, Any, FromAny, FromList, Shelf, SortStr, Flat, SortOwn, FromMap, FromAll, ToMap, ToAny, AtPath, Back, ImplTransB. -/
import Derived.Test.YtaembebbaejfiaaE1
import Derived.Maps.RangeWalk
import Derived.Maps.OwnOps
import Derived.Sort.KeysCollected
import Derived.Sort.Walk0
import Derived.Test.YtaembebbaejfiaaProg
import Derived.Test.YtaembebbaejfiaaE2
import Derived.BigQuiet
import Derived.Deep.QuietTactic
import Derived.Laws.Cover1
import Derived.Below
import Derived.Deep.Draws
import Derived.Deep.AppendLies
import Derived.Maps.AppendAt
import Derived.OwnWalk
import Derived.Laws.BytesArg
import Derived.Laws.MakeOwn
import Derived.Laws.OwnMore
import Derived.Deep.OwnRows
import Derived.Tactics
import Derived.Lib.ConvBytes
import Derived.Laws.Slices
import Derived.WalkKit
import Derived.KernelRfl
import Derived.RowKit3
import Derived.Deep.LoopGhost
import Derived.WideLaws
import Derived.Deep.DeepCutAuto
import Derived.Deep.CutBlock
import Derived.Deep.RegionHeld3
import Derived.Laws.Rows
import Derived.Lib.AppendStr
import Derived.ArgAppend
import Derived.Laws.IdiomCopy
import Derived.OrdersHeld
import Derived.Laws.BitsLemmas
import Derived.RowKit
import Derived.Deep.MidRow
import Derived.Shelf.Strings.Builder1
import Derived.Shelf.Strings.Builder2
import Derived.Shelf.Strings.OnBuilder
import Derived.Shelf.Small.Bits
import Derived.Shelf.Strings.BuilderF
import Derived.Shelf.Strings.BuilderK
import Derived.Shelf.Strings.Builder2Cap
import Derived.Shelf.Strconv.Itoa0
import Derived.Shelf.Sort.Plain
import Derived.Shelf.Strings.BuilderCap
import Derived.Shelf.Slices.In.SortNone
import Derived.Shelf.Slices.In.SortNone2
import Derived.Sort.OwnSorted
import Derived.Shelf.SlSortFuncK.WholeK
import Derived.Shelf.GgSortFunc.Tiny
namespace Go.Proofs.Ytaembebbaejfiaa.Str
open Go.RowKit Go.Proofs.YtaembebbaejfiaaW.PrintWords
abbrev Bs := List UInt8
abbrev lb (s : ByteArray) : Bs := s.data.toList
theorem lb_length (s : ByteArray) : (lb s).length = s.size := by rw [Array.length_toList]; rfl
theorem lb_inj {s t : ByteArray} (h : lb s = lb t) : s = t := by
 cases s; cases t
 simp only [lb] at h
 rw [Array.toList_inj.1 h]
theorem lb_mk (l : Bs) : lb ⟨l.toArray⟩ = l := by simp [lb]
theorem mk_lb (s : ByteArray) : (⟨(lb s).toArray⟩ : ByteArray) = s := by simp [lb]
theorem toList_lb (s : ByteArray) : s.toList = lb s := ByteArray.toList_eq s
def find (sub : Bs) : Bs → Option Nat
 | [] => if sub = [] then some 0 else none
 | c :: t => if sub.isPrefixOf (c :: t) then some 0 else (find sub t).map (· + 1)
def findI (sub s : Bs) : Int := match find sub s with
 | some i => (i : Int)
 | none => -1
theorem find_eq (sub s : Bs) : find sub s = if sub.isPrefixOf s then some 0 else match s with
 | [] => none
 | _ :: t => (find sub t).map (· + 1) := by
 cases s with
 | nil =>
  cases sub with
  | nil => simp [find]
  | cons a b => simp [find]
 | cons c t => rw [find]
theorem prefix_iff (sub s : Bs) : sub.isPrefixOf s = true ↔ sub.length ≤ s.length ∧ s.take sub.length = sub := by
 rw [List.isPrefixOf_iff_prefix]
 constructor
 ·intro h
  exact ⟨h.length_le, (List.prefix_iff_eq_take.1 h).symm⟩
 ·intro ⟨_, h⟩
  exact List.prefix_iff_eq_take.2 h.symm
def split (c : UInt8) : Bs → List Bs
 | [] => [[]]
 | x :: t => if x = c then [] :: split c t else match split c t with
  | [] => [[x]]
  | h :: r => (x :: h) :: r
end Go.Proofs.Ytaembebbaejfiaa.Str
namespace Go.Proofs.Ytaembebbaejfiaa.Str
open Go.RowKit Go.Proofs.YtaembebbaejfiaaW.PrintWords
def At (sub s : Bs) (j : Nat) : Prop := j ≤ s.length ∧ find sub s = (find sub (s.drop j)).map (· + j)
theorem At.hit {sub s : Bs} {j : Nat} (h : At sub s j) (hm : j + sub.length ≤ s.length) (e : (s.drop j).take sub.length = sub) : findI sub s = j := by
 have hp : sub.isPrefixOf (s.drop j) = true := (prefix_iff _ _).2 ⟨by rw [List.length_drop]; omega, e⟩
 have h2 := h.2
 rw [find_eq sub (s.drop j), if_pos hp] at h2
 simp [findI, h2]
theorem At.next {sub s : Bs} {j : Nat} (h : At sub s j) (hm : j + sub.length ≤ s.length) (e : ¬ (s.drop j).take sub.length = sub) : At sub s (j + 1) := by
 have hp : ¬ sub.isPrefixOf (s.drop j) = true := fun hp => e ((prefix_iff _ _).1 hp).2
 have hlt : j < s.length := by
  rcases Nat.lt_or_ge j s.length with h' | h'
  ·exact h'
  ·exfalso
   apply e
   have : sub = [] := List.eq_nil_of_length_eq_zero (by omega)
   simp [this]
 refine ⟨hlt, ?_⟩
 have h2 := h.2
 rw [find_eq sub (s.drop j), if_neg hp, List.drop_eq_getElem_cons hlt] at h2
 rw [h2]
 simp only [Option.map_map]
 congr 1
 funext x
 simp
 omega
end Go.Proofs.Ytaembebbaejfiaa.Str
namespace Go.Proofs.Ytaembebbaejfiaa.MapV
open Go.RowKit Go.Proofs.YtaembebbaejfiaaW.PrintWords Go.Proofs.Ytaembebbaejfiaa.Str Go.Maps
open Go.WideElems (Fit rd rg pl rd_val rd_key)
set_option linter.unusedVariables false
set_option linter.unusedSimpArgs false
section
variable {α β : Type}
def mget (f : List (Bs × α)) (k : Bs) : Option α := (f.find? fun p => p.1 == k).map (·.2)
def mins (x : Bs × α) : List (Bs × α) → List (Bs × α)
 | [] => [x]
 | y :: r => if x.1 < y.1 then x :: y :: r else y :: mins x r
def mdel (f : List (Bs × α)) (k : Bs) : List (Bs × α) := f.filter fun p => !(p.1 == k)
def mput (f : List (Bs × α)) (k : Bs) (v : α) : List (Bs × α) := mins (k, v) (mdel f k)
def Rises (f : List (Bs × α)) : Prop := f.Pairwise fun p q => p.1 < q.1
theorem lt_irrefl (a : Bs) : ¬ a < a := List.lt_irrefl a
theorem lt_trans {a b c : Bs} (h : a < b) (k : b < c) : a < c := List.lt_trans h k
theorem lt_total (a b : Bs) : a < b ∨ a = b ∨ b < a := by
 by_cases h : a < b
 ·exact .inl h
 ·by_cases k : b < a
  ·exact .inr (.inr k)
  ·exact .inr (.inl (List.le_antisymm k h))
theorem lt_ne {a b : Bs} (h : a < b) : a ≠ b := fun e => lt_irrefl a (by rw [← e] at h; exact h)
theorem mins_mem {x p : Bs × α} : ∀ {f : List (Bs × α)}, p ∈ mins x f ↔ p = x ∨ p ∈ f
 | [] => by simp [mins]
 | y :: r => by
  rw [mins]
  split
  ·simp
  ·rw [List.mem_cons, mins_mem, List.mem_cons]
   constructor
   ·rintro (h | h | h)
    ·exact .inr (.inl h)
    ·exact .inl h
    ·exact .inr (.inr h)
   ·rintro (h | h | h)
    ·exact .inr (.inl h)
    ·exact .inl h
    ·exact .inr (.inr h)
theorem mins_length (x : Bs × α) : ∀ f : List (Bs × α), (mins x f).length = f.length + 1
 | [] => rfl
 | y :: r => by
  rw [mins]
  split
  ·rfl
  ·simp [mins_length x r]
theorem mput_length (f : List (Bs × α)) (k : Bs) (v : α) : (mput f k v).length ≤ f.length + 1 := by
 rw [mput, mins_length]
 have := List.length_filter_le (fun p : Bs × α => !(p.1 == k)) f
 unfold mdel
 omega
theorem mins_rises {x : Bs × α} : ∀ {f : List (Bs × α)}, Rises f → (∀ p ∈ f, p.1 ≠ x.1) → Rises (mins x f)
 | [], _, _ => by simp [mins, Rises]
 | y :: r, h, hn => by
  obtain ⟨h1, h2⟩ := List.pairwise_cons.1 h
  rw [mins]
  split
  ·rename_i hb
   refine List.pairwise_cons.2 ⟨fun q hq => ?_, h⟩
   rcases List.mem_cons.1 hq with rfl | hq
   ·exact hb
   ·exact lt_trans hb (h1 q hq)
  ·rename_i hb
   refine List.pairwise_cons.2 ⟨fun q hq => ?_, mins_rises h2 (fun p hp => hn p (by simp [hp]))⟩
   rcases mins_mem.1 hq with rfl | hq
   ·rcases lt_total y.1 q.1 with e | e | e
    ·exact e
    ·exact absurd e (hn y (by simp))
    ·exact absurd e hb
   ·exact h1 q hq
theorem mdel_rises {f : List (Bs × α)} (h : Rises f) (k : Bs) : Rises (mdel f k) := h.filter _
theorem mput_rises {f : List (Bs × α)} (h : Rises f) (k : Bs) (v : α) : Rises (mput f k v) :=
 mins_rises (mdel_rises h k) (fun p hp => by
  have := (List.mem_filter.1 hp).2
  simpa using this)
theorem mget_mins_same {f : List (Bs × α)} {k : Bs} {v : α} : (∀ p ∈ f, p.1 ≠ k) → mget (mins (k, v) f) k = some v := by
 induction f with
 | nil => intro _; simp [mins, mget]
 | cons y r ih =>
  intro h
  rw [mins]
  split
  ·simp [mget]
  ·have hy : (y.1 == k) = false := by simpa using h y (by simp)
   have := ih (fun p hp => h p (by simp [hp]))
   unfold mget at this ⊢
   rw [List.find?_cons, hy]
   exact this
theorem mget_mins_other {f : List (Bs × α)} {k k' : Bs} {v : α} (hk : k ≠ k') : mget (mins (k, v) f) k' = mget f k' := by
 have hkk : (k == k') = false := by simpa using hk
 induction f with
 | nil => simp [mins, mget, hk]
 | cons y r ih =>
  rw [mins]
  split
  ·unfold mget; rw [List.find?_cons]; simp only [hkk]
  ·unfold mget at ih ⊢
   rw [List.find?_cons, List.find?_cons]
   cases y.1 == k'
   ·exact ih
   ·rfl
theorem mget_mdel_other {f : List (Bs × α)} {k k' : Bs} (hk : k ≠ k') : mget (mdel f k) k' = mget f k' := by
 unfold mget mdel
 induction f with
 | nil => rfl
 | cons y r ih =>
  by_cases e : y.1 = k
  ·have h1 : (y.1 == k) = true := by simpa using e
   have h2 : (y.1 == k') = false := by rw [e]; simpa using hk
   rw [List.filter_cons, h1, List.find?_cons, h2]
   simpa using ih
  ·have h1 : (y.1 == k) = false := by simpa using e
   rw [List.filter_cons, h1]
   simp only [Bool.not_false, if_true, List.find?_cons]
   cases y.1 == k'
   ·exact ih
   ·rfl
theorem mget_mput (f : List (Bs × α)) (k k' : Bs) (v : α) : mget (mput f k v) k' = if k = k' then some v else mget f k' := by
 unfold mput
 by_cases h : k = k'
 ·subst h
  rw [if_pos rfl]
  exact mget_mins_same (fun p hp => by have := (List.mem_filter.1 hp).2; simpa using this)
 ·rw [if_neg h, mget_mins_other h, mget_mdel_other h]
theorem mget_some {f : List (Bs × α)} {k : Bs} {v : α} (h : mget f k = some v) : (k, v) ∈ f := by
 unfold mget at h
 obtain ⟨p, hp, rfl⟩ := Option.map_eq_some_iff.1 h
 have h1 := List.find?_some hp
 have h2 := List.mem_of_find?_eq_some hp
 have : p.1 = k := by simpa using h1
 subst this
 exact h2
theorem mget_none {f : List (Bs × α)} {k : Bs} (h : mget f k = none) : ∀ p ∈ f, p.1 ≠ k := by
 intro p hp
 have h1 : f.find? (fun p => p.1 == k) = none := by simpa [mget] using h
 simpa using List.find?_eq_none.1 h1 p hp
theorem mget_of_mem {f : List (Bs × α)} (hr : Rises f) {k : Bs} {v : α} (h : (k, v) ∈ f) : mget f k = some v := by
 induction f with
 | nil => simp at h
 | cons y r ih =>
  obtain ⟨h1, h2⟩ := List.pairwise_cons.1 hr
  rcases List.mem_cons.1 h with h | h
  ·subst h; simp [mget]
  ·have hy : (y.1 == k) = false := by simpa using lt_ne (h1 _ h)
   unfold mget at ih ⊢
   rw [List.find?_cons, hy]
   exact ih h2 h
theorem rises_ext : ∀ {f g : List (Bs × α)}, Rises f → Rises g → (∀ k, mget f k = mget g k) → f = g := by
 have key : ∀ {f g : List (Bs × α)}, Rises f → Rises g → (∀ k, mget f k = mget g k) → ∀ p ∈ f, p ∈ g := by
  intro f g hf hg h p hp
  have := mget_of_mem hf (k := p.1) (v := p.2) hp
  rw [h] at this
  exact mget_some this
 intro f
 induction f with
 | nil =>
  intro g hf hg h
  cases g with
  | nil => rfl
  | cons y r =>
   have := key hg hf (fun k => (h k).symm) y (by simp)
   simp at this
 | cons x f ih =>
  intro g hf hg h
  cases g with
  | nil =>
   have := key hf hg h x (by simp)
   simp at this
  | cons y g =>
   obtain ⟨x1, x2⟩ := List.pairwise_cons.1 hf
   obtain ⟨y1, y2⟩ := List.pairwise_cons.1 hg
   have hxy : x = y := by
    have a := key hf hg h x (by simp)
    have b := key hg hf (fun k => (h k).symm) y (by simp)
    rcases List.mem_cons.1 a with a | a
    ·exact a
    ·rcases List.mem_cons.1 b with b | b
     ·exact b.symm
     ·exact absurd (lt_trans (x1 _ b) (y1 _ a)) (lt_irrefl _)
   subst hxy
   refine congrArg _ (ih x2 y2 (fun k => ?_))
   have hk := h k
   unfold mget at hk ⊢
   rw [List.find?_cons, List.find?_cons] at hk
   by_cases e : x.1 = k
   ·have n1 : f.find? (fun p => p.1 == k) = none := List.find?_eq_none.2 (fun p hp => by simpa [← e] using (lt_ne (x1 p hp)).symm)
    have n2 : g.find? (fun p => p.1 == k) = none := List.find?_eq_none.2 (fun p hp => by simpa [← e] using (lt_ne (y1 p hp)).symm)
    rw [n1, n2]
   ·have : (x.1 == k) = false := by simpa using e
    rw [this] at hk
    exact hk
theorem rises_take {f : List (Bs × α)} (hf : f.Pairwise fun p q => p.1 ≠ q.1) {k : Bs} {v : α} (h : (k, v) ∈ f) : f.Perm ((k, v) :: mdel f k) := by
 induction f with
 | nil => simp at h
 | cons y r ih =>
  obtain ⟨h1, h2⟩ := List.pairwise_cons.1 hf
  rcases List.mem_cons.1 h with h | h
  ·subst h
   have : mdel ((k, v) :: r) k = r := by
    unfold mdel
    rw [List.filter_cons]
    simp only [beq_self_eq_true, Bool.not_true]
    exact List.filter_eq_self.2 (fun p hp => by simpa using (h1 p hp).symm)
   rw [this]
  ·have hy : (y.1 == k) = false := by simpa using h1 _ h
   have : mdel (y :: r) k = y :: mdel r k := by
    unfold mdel
    rw [List.filter_cons, hy]
    rfl
   rw [this]
   exact ((ih h2 h).cons y).trans (List.Perm.swap _ _ _)
theorem mins_map (g : α → β) (x : Bs × α) : ∀ f : List (Bs × α), mins (x.1, g x.2) (f.map fun p => (p.1, g p.2)) = (mins x f).map fun p => (p.1, g p.2)
 | [] => rfl
 | y :: r => by
  rw [List.map_cons, mins, mins]
  split
  ·rfl
  ·rw [mins_map g x r]; rfl
theorem mput_map (g : α → β) (f : List (Bs × α)) (k : Bs) (v : α) : mput (f.map fun p => (p.1, g p.2)) k (g v) = (mput f k v).map fun p => (p.1, g p.2) := by
 unfold mput
 rw [← mins_map g (k, v)]
 refine congrArg _ ?_
 unfold mdel
 rw [List.filter_map]
 rfl
end
theorem before_lt : ∀ a b : Bs, bytesBefore a b = decide (a < b)
 | [], [] => by decide
 | [], _ :: _ => by simp [bytesBefore]
 | _ :: _, [] => by simp [bytesBefore]
 | a :: r, b :: s => by
  rw [bytesBefore, before_lt r s]
  have : (a :: r < b :: s) ↔ a < b ∨ (a = b ∧ r < s) := List.cons_lt_cons_iff
  by_cases h1 : a < b
  ·simp [this, h1]
  ·by_cases h2 : a = b
   ·simp [this, h1, h2]
   ·simp [this, h1, h2]
def heldR (v : Value) : Option (DataW Value × List MemPlace) := some (.held v, [])
section
variable {α : Type} (enc : α → Value)
def ent (p : Bs × α) : Lit × DataW Value := (.string p.1, .held (enc p.2))
theorem ent_put (f : List (Bs × α)) (k : Bs) (v : α) : (DataW.map (f.map (ent enc))).put (.string k) (.held (enc v)) = .map ((mput f k v).map (ent enc)) := by
 have ins : ∀ g : List (Bs × α), DataW.insert (Lit.string k, DataW.held (enc v)) (g.map (ent enc)) = (mins (k, v) g).map (ent enc) := by
  intro g
  induction g with
  | nil => rfl
  | cons y r ih =>
   rw [List.map_cons, DataW.insert, mins]
   have : (Lit.string k).before (ent enc y).1 = decide (k < y.1) := before_lt k y.1
   rw [this]
   by_cases h : k < y.1
   ·simp [h, ent]
   ·simp [h, ih]
 unfold DataW.put mput
 rw [← ins]
 refine congrArg (fun x => DataW.map (DataW.insert _ x)) ?_
 unfold mdel
 rw [List.filter_map]
 rfl
theorem ent_at (f : List (Bs × α)) (k : Bs) (zd : DataW Value) : (DataW.map (f.map (ent enc))).atKey (.string k) zd = match mget f k with
  | some v => .held (enc v)
  | none => zd := by
 unfold DataW.atKey mget
 simp only [List.find?_map]
 have : ((fun p : Lit × DataW Value => p.1.sameKey (.string k)) ∘ ent enc) = fun p : Bs × α => p.1 == k := rfl
 rw [this]
 cases f.find? (fun p => p.1 == k) <;> rfl
theorem ent_has (f : List (Bs × α)) (k : Bs) : Maps.has (DataW.map (f.map (ent enc))) (.string k) = (mget f k).isSome := by
 unfold mget
 rw [Maps.has_eq, List.any_map]
 have : ((fun p : Lit × DataW Value => p.1.sameKey (.string k)) ∘ ent enc) = fun p : Bs × α => p.1 == k := rfl
 rw [this]
 rw [Option.isSome_map, Bool.eq_iff_iff, List.any_eq_true, List.find?_isSome]
end
def MapE (P : Program) (k : TypeId) {α : Type} (enc : α → Value) (w : World) (b : Nat) (f : List (Bs × α)) : Prop := w.ownsMap P k heldR b f.length (.map (f.map (ent enc)))
section
variable {P : Program} {k : TypeId} {α : Type} {enc : α → Value} {w w1 : World} {b : Nat} {f : List (Bs × α)}
theorem owns_norm {n : Nat} {l : List (Lit × DataW Value)} (h : w.ownsMap P k heldR b n (.map l)) : w.ownsMap P k heldR b l.length (.map l) := by
 obtain ⟨es, clock, hb, F, hs, hD⟩ := h
 refine ⟨es, clock, hb, F, ?_, hD⟩
 injection hD with hD
 rw [hD, length_sorted]
 simp
theorem MapE.of {n : Nat} (h : w.ownsMap P k heldR b n (.map (f.map (ent enc)))) : MapE P k enc w b f := by
 have := owns_norm h
 rw [List.length_map] at this
 exact this
theorem MapE.lt (h : MapE P k enc w b f) : b < w.heap.size := World.ownsMap.lt h
theorem MapE.grown (h : MapE P k enc w b f) {row : Option Nat} (hg : w.grownBy w1 row) (hn : some b ≠ row) : MapE P k enc w1 b f := World.ownsMap.kept h hg hn
theorem MapE.below (h : MapE P k enc w b f) (hb : Below w.heap.size w w1) : MapE P k enc w1 b f := h.grown (grown_of_below hb none) (by simp)
theorem MapE.move (h : MapE P k enc w b f) (hm : w1.heap[b]? = w.heap[b]?) : MapE P k enc w1 b f := by
 obtain ⟨es, clock, hb, F, r⟩ := h
 exact ⟨es, clock, hm.trans hb, F, r⟩
theorem MapE.made (P : Program) (k : TypeId) (enc : α → Value) (w : World) : MapE P k enc (w.alloc (.map #[] 0)) w.heap.size [] := World.ownsMap_made w P k heldR
theorem MapE.rises (K : Keyed P k) (h : MapE P k enc w b f) : Rises f := by
 obtain ⟨es, clock, hb, F, hs, hD⟩ := h
 injection hD with hD
 have h1 := Maps.sorted_sorted K.one (es.toList.map (rg P k heldR)) (fun p hp => by
  obtain ⟨x, hx, rfl⟩ := List.mem_map.1 hp
  obtain ⟨y, hy⟩ := F.reads x hx
  rw [Go.WideElems.rg_of hy]
  exact ⟨_, rd_key hy⟩) (Maps.fit_apart K F)
 rw [← hD, List.pairwise_map] at h1
 exact h1.imp (fun {p q} hh => by
  have : bytesBefore p.1 q.1 = true := hh
  rw [before_lt] at this
  exact of_decide_eq_true this)
theorem MapE.key_le (hk : P.underlying k = some .string) (h : MapE P k enc w b f) : ∀ p ∈ f, p.1.length ≤ maxLen := by
 intro p hp
 refine strKeys_le h hk p.1 ?_
 show p.1 ∈ (f.map (ent enc)).map fun p => strOf p.1
 rw [List.map_map]
 exact List.mem_map.2 ⟨p, hp, rfl⟩
open Go.WideMaps in
theorem keyOf_s (hk : P.underlying k = some .string) {s : ByteArray} (hs : s.size ≤ maxLen) : keyOf P k (.string s) = some (.string (lb s)) := keyOf_string_mk hk hs
end
section
variable {P : Program} {k e t : TypeId} {α : Type} {enc : α → Value} {w : World} {b : Nat} {f : List (Bs × α)}
variable {ops : Array Oper} {rest : List Oper} {o : Oper} {a : Act} {Q : Exit → Act → World → Prop}
theorem look_mapE (hk : P.underlying k = some .string) (ht : P.underlying t = some (.map k e)) (hg : o.guard = none) (m x : Operand) (hop : o.op = Op.lookup t m x true) {z : Value} (hz : (zeroValue e).run P w = .ok z w)
  (hm : a.eval m = .map (some b)) (h : MapE P k enc w b f) {s : ByteArray} (hx : a.eval x = .string s) (hs : s.size ≤ maxLen)
  (hK : wpList P ops Q rest (a.put o.dst (.tuple #[((mget f (lb s)).map enc).getD z, .bool (mget f (lb s)).isSome])) w) : wpList P ops Q (o :: rest) a w :=
 wpList_lookup_own_ok w hg m x t hop k e (string_keyed hk) ht heldR hz (.held z) [] rfl b f.length _ hm h _ _ hx (keyOf_s hk hs) (fun v ps hv => by
  rw [ent_at] at hv
  rw [ent_has]
  have : v = ((mget f (lb s)).map enc).getD z := by
   cases hf : mget f (lb s) with
   | none => rw [hf] at hv; simp [heldR] at hv; simpa using hv.1
   | some y => rw [hf] at hv; simp [heldR] at hv; simpa using hv.1
  rw [this]
  exact hK)
theorem run_look_mapE (hk : P.underlying k = some .string) (ht : P.underlying t = some (.map k e)) {z : Value} (hz : (zeroValue e).run P w = .ok z w) (h : MapE P k enc w b f) {s : ByteArray} (hs : s.size ≤ maxLen) :
  (Instr.lookup t (.map (some b)) (.string s) false).run P w = .ok (((mget f (lb s)).map enc).getD z) w := by
 obtain ⟨v, ps, hrun, hv⟩ := World.ownsMap.lookup h (string_keyed hk) ht hz (zd := .held z) (zp := []) rfl (keyOf_s hk hs)
 rw [ent_at] at hv
 have : v = ((mget f (lb s)).map enc).getD z := by
  cases hf : mget f (lb s) with
  | none => rw [hf] at hv; simp [heldR] at hv; simpa using hv.1
  | some y => rw [hf] at hv; simp [heldR] at hv; simpa using hv.1
 rw [← this]
 exact hrun
def Ranges (P : Program) (k : TypeId) {α : Type} (enc : α → Value) (w : World) (b r : Nat) (f left : List (Bs × α)) : Prop :=
 ∃ lf cnt, w.ranges P k heldR b r f.length (.map (f.map (ent enc))) lf cnt ∧ left = f.filter fun p => lf (.string p.1)
theorem Ranges.lt {r : Nat} {left : List (Bs × α)} (h : Ranges P k enc w b r f left) : r < w.heap.size := by
 obtain ⟨lf, cnt, h, _⟩ := h
 exact h.lt
theorem Ranges.kept {w' : World} {r : Nat} {left : List (Bs × α)} (h : Ranges P k enc w b r f left) {row : Option Nat} (hg : w.grownBy w' row) (h1 : some b ≠ row) (h2 : some r ≠ row) : Ranges P k enc w' b r f left := by
 obtain ⟨lf, cnt, h, e⟩ := h
 exact ⟨lf, cnt, h.kept hg h1 h2, e⟩
theorem Ranges.below {w' : World} {r : Nat} {left : List (Bs × α)} (h : Ranges P k enc w b r f left) (hb : Below w.heap.size w w') : Ranges P k enc w' b r f left := h.kept (grown_of_below hb none) (by simp) (by simp)
theorem Ranges.sub {r : Nat} {left : List (Bs × α)} (h : Ranges P k enc w b r f left) : left.Sublist f := by
 obtain ⟨lf, cnt, h, e⟩ := h
 rw [e]
 exact List.filter_sublist
theorem range_mapE (hk : P.underlying k = some .string) (ht : P.underlying t = some (.map k e)) (hg : o.guard = none) (m : Operand) (hop : o.op = Op.range t m) (hm : a.eval m = .map (some b)) (h : MapE P k enc w b f)
  (hK : ∀ w', Ranges P k enc w' b w.heap.size f f → w.grownBy w' none → w'.heap.size = w.heap.size + 1 → wpList P ops Q rest (a.put o.dst (.pointer (some ⟨w.heap.size, 0, none⟩))) w') : wpList P ops Q (o :: rest) a w :=
 wpList_range_own w hg m t hop k e (string_keyed hk) ht heldR b f.length _ hm h (fun w' h1 h2 h3 => hK w' ⟨_, _, h1, by
  refine (List.filter_eq_self.2 (fun p hp => ?_)).symm
  rw [ent_has]
  cases hf : mget f p.1 with
  | none => exact absurd rfl (mget_none hf p hp)
  | some _ => rfl⟩ h2 h3)
theorem next_mapE (hk : P.underlying k = some .string) (hg : o.guard = none) (it : Operand) (hop : o.op = Op.next it false) {r : Nat} {left : List (Bs × α)} (hit : a.eval it = .pointer (some ⟨r, 0, none⟩)) (h : Ranges P k enc w b r f left)
  (hDone : left = [] → wpList P ops Q rest (a.put o.dst (.tuple #[.bool false])) w)
  (hMore : ∀ (x : Bs) (c : α) (w' : World), (x, c) ∈ left → x.length ≤ maxLen → Ranges P k enc w' b r f (mdel left x) → w'.rangeLeft b r < w.rangeLeft b r → w.grownBy w' (some r) → w'.heap.size = w.heap.size →
   (Instr.entry (.pointer (some ⟨r, 0, none⟩))).run P w' = .ok (.tuple #[.string ⟨x.toArray⟩, enc c]) w' → wpList P ops Q rest (a.put o.dst (.tuple #[.bool true, .string ⟨x.toArray⟩, enc c])) w') : wpList P ops Q (o :: rest) a w := by
 obtain ⟨lf, cnt, h, hl⟩ := h
 refine wpList_next_ranges w hg it hop k (string_keyed hk) heldR (encStr : List UInt8 → Value) (id : Value → Value) (fun key kl hkk => by obtain ⟨x, hx, _⟩ := Maps.keyOf_str hk hkk; exact ⟨x, hx⟩) (fun v y _ => ⟨v, rfl⟩) b r f.length _ lf cnt hit h (fun h0 hd => hDone ?_) ?_
 ·rw [hl]
  exact List.filter_eq_nil_iff.2 (fun p _ => by rw [hd]; simp)
 ·intro x v kl yv w2 cnt2 hkey hlk hv hat hrg2 hlt hg2 hs2 hen
  obtain ⟨x', ex, rfl, hxl⟩ := Maps.keyOf_str hk hkey
  obtain rfl : x = x' := encStr_inj ex
  have hy : yv.1 = .held v := by
   have : heldR v = some yv := hv
   unfold heldR at this
   injection this with this
   rw [← this]
  obtain ⟨c, hc⟩ : ∃ c, mget f x = some c := by
   have h1 := hat .nil
   rw [ent_at] at h1
   cases hf : mget f x with
   | some c => exact ⟨c, rfl⟩
   | none => rw [hf, hy] at h1; cases h1
  obtain rfl : v = enc c := by
   have h1 := hat .nil
   rw [ent_at, hc, hy] at h1
   injection h1 with h1
   exact h1.symm
  have hm1 := h.left_eq
  have hm2 := hrg2.left_eq
  refine hMore x c w2 ?_ hxl ⟨_, _, hrg2, ?_⟩ (by omega) hg2 hs2 hen
  ·rw [hl]
   exact List.mem_filter.2 ⟨mget_some hc, hlk⟩
  ·rw [hl]
   unfold mdel
   rw [List.filter_filter]
   congr 1
   funext p
   rw [Bool.and_comm]
   rfl
theorem next_mapA (hk : P.underlying k = some .string) (hg : o.guard = none) (it : Operand) (hop : o.op = Op.next it false) {r : Nat} {left : List (Bs × α)} (hit : a.eval it = .pointer (some ⟨r, 0, none⟩)) (h : Ranges P k enc w b r f left)
  (hDone : Aside0 (left = []) → wpList P ops Q rest (a.put o.dst (.tuple #[.bool false])) w)
  (hMore : ∀ (x : ByteArray) (c : α) (w' : World), Aside0 ((lb x, c) ∈ left ∧ x.size ≤ maxLen ∧ Ranges P k enc w' b r f (mdel left (lb x)) ∧ w'.rangeLeft b r < w.rangeLeft b r ∧ w.grownBy w' (some r) ∧ w'.heap.size = w.heap.size) →
   (Instr.entry (.pointer (some ⟨r, 0, none⟩))).run P w' = .ok (.tuple #[.string x, enc c]) w' → wpList P ops Q rest (a.put o.dst (.tuple #[.bool true, .string x, enc c])) w') : wpList P ops Q (o :: rest) a w :=
 next_mapE hk hg it hop hit h (fun hd => hDone ⟨hd⟩) (fun x c w' h1 h2 h3 h4 h5 h6 h7 => hMore ⟨x.toArray⟩ c w' ⟨by rw [lb_mk]; exact h1, h2, by rw [lb_mk]; exact h3, h4, h5, h6⟩ h7)
end
end Go.Proofs.Ytaembebbaejfiaa.MapV
namespace Go.Proofs.Ytaembebbaejfiaa.Kit
open Go.RowKit Go.Proofs.YtaembebbaejfiaaW.PrintWords Go.Proofs.Ytaembebbaejfiaa.Str
set_option linter.unusedVariables false
set_option linter.unusedSimpArgs false
theorem hb_then {w w1 w2 : World} (h : Below w.heap.size w w1) (k : Below w1.heap.size w1 w2) : Below w.heap.size w w2 := below_then h h.size k
section
variable {P : Program} {ops : Array Oper} {rest : List Oper} {o : Oper} {a : Act} {Q : Exit → Act → World → Prop} {α : Type}
end
theorem info_string : (Try.prog.info? 9).map (fun i => (i.zero, i.size, i.bytes)) = some (some (.string ⟨#[]⟩), 1, 16) := by kernel_rfl
section
variable {ops : Array Oper} {rest : List Oper} {o : Oper} {a : Act} {Q : Exit → Act → World → Prop}
theorem own_empty {α : Type} (d : Kd α) {w : World} {base : Nat} {e : TypeId} {ok : Nat → Prop} (hb : base ≤ w.heap.size) (hok : ok w.heap.size) : d.R e (w.alloc (.cells #[] e)) base ok (.slice (some ⟨w.heap.size, 0, none⟩) 0 0) [] := by
 refine ⟨fun k hk => ?_, [], ⟨by simp, .inr ⟨w.heap.size, 0, #[], rfl, hb, heap_alloc_new w _, Nat.le_refl _, by unfold maxLen; omega, by simp, by simp⟩⟩, Reps.none _ _⟩
 have : w.heap.size = k := by simpa [Value.ownBlock] using hk
 subst this; exact hok
end
end Go.Proofs.Ytaembebbaejfiaa.Kit
namespace Go.Proofs.Ytaembebbaejfiaa.Kit
open Go.RowKit Go.Proofs.YtaembebbaejfiaaW.PrintWords Go.Proofs.Ytaembebbaejfiaa.Str
set_option linter.unusedVariables false
set_option linter.unusedSimpArgs false
theorem strs_open {w : World} {A : Option Addr} {xs : List ByteArray} (h : Kd.string.C w A xs.length xs) (h0 : 0 < xs.length) :
  ∃ bk off, A = some ⟨bk, off, none⟩ ∧ bk < w.heap.size ∧ ∀ (j : Nat) (hj : j < xs.length), w.cell? ⟨bk, off + j, none⟩ = some (.string xs[j]) := by
 obtain ⟨hl, hm, hc⟩ := h
 obtain ⟨ad, rfl, hcc⟩ := hc h0
 have cell : ∀ (j : Nat) (hj : j < xs.length), w.cell? (ad.add j) = some (.string xs[j]) := by
  intro j hj
  obtain ⟨c, hcl, hr, hcell⟩ := hcc j xs[j] (List.getElem?_eq_getElem hj)
  have hr' : c = [Value.string xs[j]] := hr
  subst hr'
  have := hcell 0 _ rfl
  simpa [Kd.string, Kd.scalar] using this
 obtain ⟨bk, off, spot⟩ := ad
 have hspot : spot = none := by
  have h1 := cell 0 h0
  cases hs : spot with
  | none => rfl
  | some sp =>
   exfalso
   subst hs
   simp [World.cell?, Addr.add] at h1
   split at h1 <;> simp at h1
 subst hspot
 have add : ∀ j : Nat, (⟨bk, off, none⟩ : Addr).add j = ⟨bk, off + j, none⟩ := by intro j; unfold Addr.add; split <;> simp_all
 refine ⟨bk, off, rfl, ?_, fun j hj => by rw [← add]; exact cell j hj⟩
 have h1 := cell 0 h0
 rw [add] at h1
 exact World.block_lt_of_cell? w _ h1
theorem strs_mk {w : World} {b o : Nat} {xs : List ByteArray} (hm : xs.length ≤ 9223372036854775807) (hc : ∀ (j : Nat) (hj : j < xs.length), w.cell? ⟨b, o + j, none⟩ = some (.string xs[j])) : Kd.string.C w (some ⟨b, o, none⟩) xs.length xs := by
 refine ⟨rfl, hm, fun _ => ⟨_, rfl, fun j p hp => ?_⟩⟩
 obtain ⟨hj, rfl⟩ := List.getElem?_eq_some_iff.1 hp
 refine ⟨[.string xs[j]], rfl, rfl, fun i u hu => ?_⟩
 have hi : i < 1 := (List.getElem?_eq_some_iff.1 hu).1
 obtain rfl : i = 0 := by omega
 have hu' : Value.string xs[j] = u := by simpa using hu
 subst hu'
 have add : (⟨b, o, none⟩ : Addr).add (j * Kd.string.sz + 0) = ⟨b, o + j, none⟩ := by
  have : j * Kd.string.sz + 0 = j := by simp [Kd.string, Kd.scalar]
  rw [this]; unfold Addr.add; split <;> simp_all
 rw [add]
 exact hc j hj
theorem strs_lit (w : World) (e : TypeId) (xs : List ByteArray) (hm : xs.length ≤ 9223372036854775807) : Kd.string.C (w.alloc (.cells (xs.map Value.string).toArray e)) (some ⟨w.heap.size, 0, none⟩) xs.length xs := by
 refine strs_mk hm fun j hj => ?_
 have := World.cell?_alloc_new w (xs.map Value.string).toArray e j
 rw [Nat.zero_add]
 rw [this]
 simp [hj]
end Go.Proofs.Ytaembebbaejfiaa.Kit
namespace Go.Proofs.Ytaembebbaejfiaa.Kit
open Go.RowKit Go.Proofs.YtaembebbaejfiaaW.PrintWords Go.Proofs.Ytaembebbaejfiaa.Str
set_option linter.unusedVariables false
set_option linter.unusedSimpArgs false
def bnums (l : Bs) : List Int := l.map fun b => (b.toNat : Int)
theorem str_bnums (l : Bs) : strOfNums (bnums l) = ⟨l.toArray⟩ := by
 apply lb_inj
 rw [lb_mk, lb, strOfNums_data, bnums, List.map_map]
 conv => rhs; rw [← List.map_id l]
 refine List.map_congr_left fun x _ => ?_
 simp
def Buf (w : World) (base : Nat) (v : Value) (l : Bs) : Prop := w.ownsRow base 5 1 v l.length (nums .u8 (bnums l))
theorem Buf.nil (w : World) (base : Nat) : Buf w base (.slice none 0 0) [] := own_nil _ _ _ _
theorem Buf.below {w w' : World} {base : Nat} {v : Value} {l : Bs} (h : Buf w base v l) (hb : Below w.heap.size w w') : Buf w' base v l := pw_own_below h hb
theorem Buf.slice {w : World} {base : Nat} {v : Value} {l : Bs} (h : Buf w base v l) : ∃ A c, v = .slice A l.length c := own_slice h
theorem Buf.string {w : World} {base : Nat} {v : Value} {l : Bs} (h : Buf w base v l) : (convert 69 9 v).run Try.prog w = .ok (.string ⟨l.toArray⟩) w := by
 rw [← str_bnums]
 exact own_string Try.underlying69 Try.underlying5 Try.underlying9 h
section
variable {ops : Array Oper} {rest : List Oper} {o : Oper} {a : Act} {Q : Exit → Act → World → Prop}
end
end Go.Proofs.Ytaembebbaejfiaa.Kit
namespace Go.Proofs.Ytaembebbaejfiaa.Frame
open Go.RowKit Go.Proofs.YtaembebbaejfiaaW.PrintWords Go.Proofs.Ytaembebbaejfiaa.Str Go.Proofs.Ytaembebbaejfiaa.Kit
set_option linter.unusedVariables false
set_option linter.unusedSimpArgs false
structure Turns (F : Nat → Prop) (w w' : World) : Prop where
 os : w'.os = w.os
 tape : w'.tape = w.tape
 output : w'.output = w.output
 size : w.heap.size ≤ w'.heap.size
 block : ∀ k, k < w.heap.size → ¬ F k → w'.heap[k]? = w.heap[k]?
theorem Turns.refl (F : Nat → Prop) (w : World) : Turns F w w := ⟨rfl, rfl, rfl, Nat.le_refl _, fun _ _ _ => rfl⟩
theorem Turns.mono {F G : Nat → Prop} {w w' : World} (h : Turns F w w') (hs : ∀ k, k < w.heap.size → F k → G k) : Turns G w w' :=
 ⟨h.os, h.tape, h.output, h.size, fun k hk hg => h.block k hk (fun hf => hg (hs k hk hf))⟩
theorem Turns.trans {F G : Nat → Prop} {a b c : World} (h : Turns F a b) (k : Turns G b c) (hs : ∀ j, j < a.heap.size → G j → F j) : Turns F a c :=
 ⟨k.os.trans h.os, k.tape.trans h.tape, k.output.trans h.output, Nat.le_trans h.size k.size, fun i hi hn => (k.block i (Nat.lt_of_lt_of_le hi h.size) (fun hg => hn (hs i hi hg))).trans (h.block i hi hn)⟩
theorem Turns.of_below {F : Nat → Prop} {w w' : World} (h : Below w.heap.size w w') : Turns F w w' := ⟨h.os, h.tape, h.output, h.size, fun k hk _ => h.block k hk⟩
theorem Turns.below {F : Nat → Prop} {w0 w w' : World} (h : Turns F w w') (hb : Below w0.heap.size w0 w) (hf : ∀ k, k < w0.heap.size → ¬ F k) : Below w0.heap.size w0 w' :=
 ⟨h.os.trans hb.os, h.tape.trans hb.tape, h.output.trans hb.output, Nat.le_trans hb.size h.size, fun k hk => (h.block k (Nat.lt_of_lt_of_le hk hb.size) (hf k hk)).trans (hb.block k hk)⟩
theorem Turns.setCell (w : World) (b i : Nat) (v : Value) : Turns (fun k => k = b) w (w.setCell ⟨b, i, none⟩ v) :=
 ⟨rfl, rfl, rfl, by simp, fun k _ hn => Go.heap_setCell_other w _ k v hn⟩
theorem Turns.alloc (F : Nat → Prop) (w : World) (o : Obj) : Turns F w (w.alloc o) :=
 Turns.of_below ((Below.refl _ w).alloc (Nat.le_refl _) o)
theorem cb_cell {w : World} {b i : Nat} {cs : Array Value} {t : TypeId} {v : Value} (h : w.heap[b]? = some (.cells cs t (0, 0))) (hi : cs[i]? = some v) : w.cell? ⟨b, i, none⟩ = some v := by
 simp [World.cell?, h, hi]
theorem cb_frozen {w : World} {b i : Nat} {cs : Array Value} {t : TypeId} (h : w.heap[b]? = some (.cells cs t (0, 0))) : w.frozen? ⟨b, i, none⟩ = false := by
 simp [World.frozen?, h]
theorem cb_set {w : World} {b i : Nat} {cs : Array Value} {t : TypeId} (h : w.heap[b]? = some (.cells cs t (0, 0))) (v : Value) : (w.setCell ⟨b, i, none⟩ v).heap[b]? = some (.cells (cs.setIfInBounds i v) t (0, 0)) :=
 Go.heap_setCell_same w b i cs t v h
theorem cb_new (w : World) (x : Obj) : (w.alloc x).heap[w.heap.size]? = some x := by
 show (w.heap.push x)[w.heap.size]? = _
 simp
theorem cb_lt {w : World} {k : Nat} {o : Obj} (h : w.heap[k]? = some o) : k < w.heap.size := (Array.getElem?_eq_some_iff.1 h).1
end Go.Proofs.Ytaembebbaejfiaa.Frame
namespace Go.Proofs.Ytaembebbaejfiaa.Val
open Go.RowKit Go.Proofs.YtaembebbaejfiaaW.PrintWords Go.Proofs.YtaembebbaejfiaaW.PrintLast Go.Proofs.Ytaembebbaejfiaa.Str Go.Proofs.Ytaembebbaejfiaa.Kit Go.Proofs.Ytaembebbaejfiaa.Frame Go.Proofs.Ytaembebbaejfiaa.MapV
set_option linter.unusedVariables false
set_option linter.unusedSimpArgs false
def placeI (ks : List ByteArray) (k : ByteArray) : Nat := (ks.takeWhile fun x => decide (lb x < lb k)).length
def placeB (ks : List ByteArray) (k : ByteArray) : Bool := match ks[placeI ks k]? with | some x => x.toList == k.toList | none => false
theorem placeI_hit {k : ByteArray} : ∀ {ks : List ByteArray} {i : Nat}, (∀ (j : Nat) (hj : j < ks.length), j < i → lb ks[j] < lb k) → ∀ hi : i < ks.length, ¬ lb ks[i] < lb k → placeI ks k = i
 | [], _, _, hi, _ => by simp at hi
 | x :: r, 0, _, _, hn => by
  have : ¬ lb x < lb k := hn
  unfold placeI
  rw [List.takeWhile_cons_of_neg (by simpa using this)]
  rfl
 | x :: r, i + 1, ha, hi, hn => by
  have h0 : lb x < lb k := ha 0 (by simp) (by omega)
  have ih := placeI_hit (k := k) (ks := r) (i := i) (fun j hj hji => by have := ha (j + 1) (by simpa using hj) (by omega); simpa using this) (by simpa using hi) (by simpa using hn)
  unfold placeI at ih ⊢
  rw [List.takeWhile_cons_of_pos (by simpa using h0), List.length_cons, ih]
theorem placeI_end {k : ByteArray} {ks : List ByteArray} (ha : ∀ (j : Nat) (hj : j < ks.length), lb ks[j] < lb k) : placeI ks k = ks.length := by
 unfold placeI
 induction ks with
 | nil => rfl
 | cons x r ih =>
  have h0 : lb x < lb k := ha 0 (by simp)
  rw [List.takeWhile_cons_of_pos (by simpa using h0), List.length_cons, ih (fun j hj => by have := ha (j + 1) (by simpa using hj); simpa using this), List.length_cons]
set_option maxHeartbeats 1600000 in
set_option maxRecDepth 100000 in
theorem place (kd nm : Int) (t : ByteArray) {A3 A4 : Option Addr} {c3 n4 c4 : Nat} (ks : List ByteArray) (k : ByteArray) (w : World) (h : Kd.string.C w A3 ks.length ks) (hn : ks.length ≤ 17592186044416) :
  Calls Try.prog 38 #[.agg #[.int .i64 kd, .int .i64 nm, .string t, .slice A3 ks.length c3, .slice A4 n4 c4], .string k] w fun e w' => e = .returned (.tuple #[.int .i64 (placeI ks k), .bool (placeB ks k)]) ∧ Below w.heap.size w w' := by
 have H := aM h
 have HX := aM (cb_new w (.cells #[.int .i64 kd, .int .i64 nm, .string t, .slice A3 ks.length c3, .slice A4 n4 c4] 25))
 have HB := aM ((Below.refl _ w).alloc (Nat.le_refl _) (.cells #[.int .i64 kd, .int .i64 nm, .string t, .slice A3 ks.length c3, .slice A4 n4 c4] 25))
 clear h
 go_enter Try.func38, Try.ntmps38
 go_wp2
 go_loopw [6] (fun v wr => ∃ i : Nat, v = .int .i64 i ∧ i ≤ ks.length ∧ Aside0 (∀ (j : Nat) (hj : j < ks.length), j < i → lb ks[j] < lb k) ∧ Aside0 (wr.heap[w.heap.size]? = some (.cells #[.int .i64 kd, .int .i64 nm, .string t, .slice A3 ks.length c3, .slice A4 n4 c4] 25 (0, 0))) ∧ Aside0 (Below w.heap.size w wr)) (fun v _ => ks.length - (intOf v).toNat)
 case atStart => exact ⟨0, rfl, by omega, ⟨fun j _ h => absurd h (Nat.not_lt_zero _)⟩, HX, HB⟩
 case round =>
  clear HX HB
  obtain ⟨i, rfl, hi, HN, HX, HB⟩ := hrel
  have x3 : wr.cell? ⟨w.heap.size, 3, none⟩ = some (.slice A3 ks.length c3) := cb_cell (i := 3) HX.out rfl
  by_cases hlt : i < ks.length
  ·obtain ⟨b0, o0, rfl, hb0, hc0⟩ := strs_open (Kd.C_below H.out HB.out) (by omega)
   have g0 := hc0 i hlt
   have q0 : (0 : Int) ≤ (i : Int) := by omega
   have q1 : (i : Int) < (ks.length : Int) := by omega
   have HA := aM (show lb ks[i] < lb k → ∀ (j : Nat) (hj : j < ks.length), j < i + 1 → lb ks[j] < lb k from fun h j hj hji => by
    by_cases hj' : j < i
    ·exact HN.out j hj hj'
    ·have : j = i := by omega
     subst this; exact h)
   have HP := aM (show ¬ lb ks[i] < lb k → placeI ks k = i ∧ placeB ks k = (ks[i].toList == k.toList) from fun h => by
    have h1 := placeI_hit HN.out hlt h
    refine ⟨h1, ?_⟩
    unfold placeB
    rw [h1, List.getElem?_eq_getElem hlt])
   have hless : Op.bytesLess ks[i].toList k.toList = decide (lb ks[i] < lb k) := by rw [bytesLess_eq, toList_lb, toList_lb]
   clear hc0
   by_cases hl : lb ks[i] < lb k
   ·rw [decide_eq_true hl] at hless
    have Y := aM (HA.out hl)
    clear HA HP hl
    generalize ks[i] = x at g0 hless
    go_wp2
    go_roundw
    case rel => exact ⟨i + 1, by go_num, by omega, Y, HX, HB⟩
    case measure => simp [intOf]; omega
   ·rw [decide_eq_false hl] at hless
    have Y := aM (HP.out hl)
    clear HA HP hl
    generalize ks[i] = x at g0 hless Y
    go_wp2_with fail
    go_quiet (fail)
    go_wp2
    go_ret2
    exact ⟨by rw [Y.out.1, Y.out.2]; rfl, pw_below_drewN HB.out nq⟩
  ·have Y := aM (placeI_end (k := k) (ks := ks) (fun j hj => HN.out j hj (by omega)))
   have Z := aM (show placeB ks k = false by
    unfold placeB
    rw [Y.out, List.getElem?_eq_none (Nat.le_refl _)])
   go_wp2
   go_ret2
   exact ⟨by rw [Y.out, Z.out]; rfl, HB.out⟩
end Go.Proofs.Ytaembebbaejfiaa.Val
namespace Go.Proofs.Ytaembebbaejfiaa.PS
open Go.RowKit Go.Proofs.YtaembebbaejfiaaW.PrintWords Go.Proofs.YtaembebbaejfiaaW.PrintLast Go.Proofs.YtaembebbaejfiaaW.PrintMore
attribute [local go_sem] max2_int min2_int max_two min_two max_three min_three max_four min_four 
set_option linter.unusedVariables false
set_option linter.unusedSimpArgs false
def errW : Option Int → Value
 | none => .nilIface
 | some c => .iface 0 (.int .i64 c)
theorem errW_none : errW none = .nilIface := rfl
theorem errW_some (c : Int) : errW (some c) = .iface 0 (.int .i64 c) := rfl
theorem info9 : (Try.prog.info? 9).map (fun i => (i.zero, i.size, i.bytes)) = some (some (.string ⟨#[]⟩), 1, 16) := by kernel_rfl
theorem info25 : (Try.prog.info? 25).map (fun i => (i.zero, i.size, i.bytes)) = some (some (.agg #[(.int .i64 0), (.int .i64 0), (.string ⟨#[]⟩), (.slice none 0 0), (.slice none 0 0)]), 5, 80) := by kernel_rfl
theorem info36 : (Try.prog.info? 36).map (fun i => (i.zero, i.size, i.bytes)) = some (some (.agg #[(.int .i64 0), (.int .i64 0), (.string ⟨#[]⟩), (.slice none 0 0), (.slice none 0 0)]), 5, 80) := by kernel_rfl
structure S25 where
 f0 : Int
 f1 : Int
 f2 : ByteArray
 f3 : (List ByteArray)
 f4 : (List S25)
def z25 : S25 := ⟨(0 : Int), (0 : Int), (⟨#[]⟩ : ByteArray), ([] : List ByteArray), ([] : List S25)⟩
def F25 (d : Kd S25) : Kd S25 := Kd.iso (Kd.pair (Kd.int .i64) (Kd.pair (Kd.int .i64) (Kd.pair Kd.string (Kd.pair (Kd.slice 9 Kd.string) (Kd.slice 25 d))))) (fun x : S25 => (x.f0, x.f1, x.f2, x.f3, x.f4))
theorem mono25 : Kd.Mono F25 := Kd.mono_iso _ (Kd.mono_pair (Kd.mono_const _) (Kd.mono_pair (Kd.mono_const _) (Kd.mono_pair (Kd.mono_const _) (Kd.mono_pair (Kd.mono_const _) (Kd.mono_slice 25 Kd.mono_id)))))
theorem sub25 : Kd.Sub F25 [9, 25] := Kd.sub_iso _ (Kd.sub_pair (Kd.sub_const _ (by decide)) (Kd.sub_pair (Kd.sub_const _ (by decide)) (Kd.sub_pair (Kd.sub_const _ (by decide)) (Kd.sub_pair (Kd.sub_const _ (by decide)) (Kd.sub_slice 25 (by decide) Kd.sub_id)))))
theorem sz25 : ∀ n, (Kd.upto F25 5 [9, 25] n).sz = 5 := Kd.upto_sz (fun _ => rfl)
def k25 : Kd S25 := Kd.fix F25 5 [9, 25] sz25 (Kd.upto_E sub25)
theorem k25_heap : Kd.Heap k25 := Kd.heap_fix (fun _ h_ => Kd.heap_iso _ (Kd.heap_pair (Kd.heap_int .i64) (Kd.heap_pair (Kd.heap_int .i64) (Kd.heap_pair Kd.heap_string (Kd.heap_pair (Kd.heap_slice 9 Kd.heap_string) (Kd.heap_slice 25 h_))))))
theorem k25_open {w : World} {x : S25} {cs : List Value} (h : k25.K w x cs) : ∃ A3 c3 A4 c4, cs = [.int .i64 x.f0, .int .i64 x.f1, .string x.f2, .slice A3 x.f3.length c3, .slice A4 x.f4.length c4] ∧ x.f3.length ≤ c3 ∧ Kd.string.C w A3 x.f3.length x.f3 ∧ x.f4.length ≤ c4 ∧ k25.C w A4 x.f4.length x.f4 := by
 obtain ⟨n, h⟩ := h
 cases n with
 | zero => exact h.elim
 | succ n =>
  obtain ⟨_, _, rfl, rfl, ⟨_, _, rfl, rfl, ⟨_, _, rfl, rfl, ⟨_, _, rfl, ⟨A3, c3, rfl, l3, g3⟩, ⟨A4, c4, rfl, l4, g4⟩⟩⟩⟩⟩ := h
  exact ⟨A3, c3, A4, c4, rfl, l3, g3, l4, Kd.fix_C g4⟩
theorem k25_mk (w : World) (x : S25) {A3 : Option Addr} {c3 : Nat} (l3 : x.f3.length ≤ c3) (g3 : Kd.string.C w A3 x.f3.length x.f3) {A4 : Option Addr} {c4 : Nat} (l4 : x.f4.length ≤ c4) (g4 : k25.C w A4 x.f4.length x.f4) : k25.K w x [.int .i64 x.f0, .int .i64 x.f1, .string x.f2, .slice A3 x.f3.length c3, .slice A4 x.f4.length c4] := by
 obtain ⟨n4, q4⟩ := Kd.fix_C_back mono25 g4
 have r4 := Kd.upto_C_le mono25 sz25 (show n4 ≤ n4 by omega) q4
 exact ⟨n4 + 1, ⟨[.int .i64 x.f0], [.int .i64 x.f1, .string x.f2, .slice A3 x.f3.length c3, .slice A4 x.f4.length c4], rfl, rfl, ⟨[.int .i64 x.f1], [.string x.f2, .slice A3 x.f3.length c3, .slice A4 x.f4.length c4], rfl, rfl, ⟨[.string x.f2], [.slice A3 x.f3.length c3, .slice A4 x.f4.length c4], rfl, rfl, ⟨[.slice A3 x.f3.length c3], [.slice A4 x.f4.length c4], rfl, ⟨A3, c3, rfl, l3, g3⟩, ⟨A4, c4, rfl, l4, r4⟩⟩⟩⟩⟩⟩
theorem k25_mkM (w : World) (base : Nat) (ok : Nat → Prop) (x : S25) {v3 : Value} (g3 : Kd.string.R 9 w base ok v3 x.f3) {v4 : Value} (g4 : k25.R 25 w base ok v4 x.f4) : k25.M w base ok x [.int .i64 x.f0, .int .i64 x.f1, .string x.f2, v3, v4] := by
 obtain ⟨n4, q4⟩ := Kd.fix_R_back mono25 g4
 have r4 := Kd.upto_R_le mono25 sz25 (show n4 ≤ n4 by omega) q4
 exact ⟨n4 + 1, ⟨[.int .i64 x.f0], [.int .i64 x.f1, .string x.f2, v3, v4], rfl, rfl, ⟨[.int .i64 x.f1], [.string x.f2, v3, v4], rfl, rfl, ⟨[.string x.f2], [v3, v4], rfl, rfl, ⟨[v3], [v4], rfl, ⟨v3, rfl, g3⟩, ⟨v4, rfl, r4⟩⟩⟩⟩⟩⟩
def rd_T25 (xs : List S25) (i : Int) : S25 := xs.getD i.toNat z25
theorem at_T25 {w : World} {A : Option Addr} {n : Nat} {xs : List S25} (h : Kd.C k25 w A n xs) (i : Int) (h0 : 0 ≤ i) (h1 : i < n) : ∃ ad A3 c3 A4 c4, A = some ad ∧ w.cell? (ad.add (i.toNat * 5)) = some (.int .i64 (rd_T25 xs i).f0) ∧ w.cell? ⟨(ad.add (i.toNat * 5)).block, (ad.add (i.toNat * 5)).off + 1, none⟩ = some (.int .i64 (rd_T25 xs i).f1) ∧ w.cell? ⟨(ad.add (i.toNat * 5)).block, (ad.add (i.toNat * 5)).off + 2, none⟩ = some (.string (rd_T25 xs i).f2) ∧ w.cell? ⟨(ad.add (i.toNat * 5)).block, (ad.add (i.toNat * 5)).off + 3, none⟩ = some (.slice A3 (rd_T25 xs i).f3.length c3) ∧ w.cell? ⟨(ad.add (i.toNat * 5)).block, (ad.add (i.toNat * 5)).off + 4, none⟩ = some (.slice A4 (rd_T25 xs i).f4.length c4) ∧ (rd_T25 xs i).f3.length ≤ c3 ∧ Kd.string.C w A3 (rd_T25 xs i).f3.length (rd_T25 xs i).f3 ∧ (rd_T25 xs i).f4.length ≤ c4 ∧ k25.C w A4 (rd_T25 xs i).f4.length (rd_T25 xs i).f4 := by
 obtain ⟨ad, c, e, _, hK, hc0⟩ := Kd.C_get h z25 i h0 h1
 have hc : ∀ j u, c[j]? = some u → w.cell? (ad.add (i.toNat * 5 + j)) = some u := hc0
 obtain ⟨A3, c3, A4, c4, rfl, l3, g3, l4, g4⟩ := k25_open hK
 exact ⟨ad, A3, c3, A4, c4, e, hc 0 _ rfl, by rw [← add_field _ _ 1 (by omega)]; exact hc 1 _ rfl, by rw [← add_field _ _ 2 (by omega)]; exact hc 2 _ rfl, by rw [← add_field _ _ 3 (by omega)]; exact hc 3 _ rfl, by rw [← add_field _ _ 4 (by omega)]; exact hc 4 _ rfl, l3, g3, l4, g4⟩
structure S36 where
 f0 : Int
 f1 : Int
 f2 : ByteArray
 f3 : (List ByteArray)
 f4 : (List S36)
def z36 : S36 := ⟨(0 : Int), (0 : Int), (⟨#[]⟩ : ByteArray), ([] : List ByteArray), ([] : List S36)⟩
def F36 (d : Kd S36) : Kd S36 := Kd.iso (Kd.pair (Kd.int .i64) (Kd.pair (Kd.int .i64) (Kd.pair Kd.string (Kd.pair (Kd.slice 9 Kd.string) (Kd.slice 36 d))))) (fun x : S36 => (x.f0, x.f1, x.f2, x.f3, x.f4))
theorem mono36 : Kd.Mono F36 := Kd.mono_iso _ (Kd.mono_pair (Kd.mono_const _) (Kd.mono_pair (Kd.mono_const _) (Kd.mono_pair (Kd.mono_const _) (Kd.mono_pair (Kd.mono_const _) (Kd.mono_slice 36 Kd.mono_id)))))
theorem sub36 : Kd.Sub F36 [9, 36] := Kd.sub_iso _ (Kd.sub_pair (Kd.sub_const _ (by decide)) (Kd.sub_pair (Kd.sub_const _ (by decide)) (Kd.sub_pair (Kd.sub_const _ (by decide)) (Kd.sub_pair (Kd.sub_const _ (by decide)) (Kd.sub_slice 36 (by decide) Kd.sub_id)))))
theorem sz36 : ∀ n, (Kd.upto F36 5 [9, 36] n).sz = 5 := Kd.upto_sz (fun _ => rfl)
def k36 : Kd S36 := Kd.fix F36 5 [9, 36] sz36 (Kd.upto_E sub36)
theorem k36_open {w : World} {x : S36} {cs : List Value} (h : k36.K w x cs) : ∃ A3 c3 A4 c4, cs = [.int .i64 x.f0, .int .i64 x.f1, .string x.f2, .slice A3 x.f3.length c3, .slice A4 x.f4.length c4] ∧ x.f3.length ≤ c3 ∧ Kd.string.C w A3 x.f3.length x.f3 ∧ x.f4.length ≤ c4 ∧ k36.C w A4 x.f4.length x.f4 := by
 obtain ⟨n, h⟩ := h
 cases n with
 | zero => exact h.elim
 | succ n =>
  obtain ⟨_, _, rfl, rfl, ⟨_, _, rfl, rfl, ⟨_, _, rfl, rfl, ⟨_, _, rfl, ⟨A3, c3, rfl, l3, g3⟩, ⟨A4, c4, rfl, l4, g4⟩⟩⟩⟩⟩ := h
  exact ⟨A3, c3, A4, c4, rfl, l3, g3, l4, Kd.fix_C g4⟩
theorem k36_mkM (w : World) (base : Nat) (ok : Nat → Prop) (x : S36) {v3 : Value} (g3 : Kd.string.R 9 w base ok v3 x.f3) {v4 : Value} (g4 : k36.R 36 w base ok v4 x.f4) : k36.M w base ok x [.int .i64 x.f0, .int .i64 x.f1, .string x.f2, v3, v4] := by
 obtain ⟨n4, q4⟩ := Kd.fix_R_back mono36 g4
 have r4 := Kd.upto_R_le mono36 sz36 (show n4 ≤ n4 by omega) q4
 exact ⟨n4 + 1, ⟨[.int .i64 x.f0], [.int .i64 x.f1, .string x.f2, v3, v4], rfl, rfl, ⟨[.int .i64 x.f1], [.string x.f2, v3, v4], rfl, rfl, ⟨[.string x.f2], [v3, v4], rfl, rfl, ⟨[v3], [v4], rfl, ⟨v3, rfl, g3⟩, ⟨v4, rfl, r4⟩⟩⟩⟩⟩⟩
def rd_T36 (xs : List S36) (i : Int) : S36 := xs.getD i.toNat z36
theorem at_T36 {w : World} {A : Option Addr} {n : Nat} {xs : List S36} (h : Kd.C k36 w A n xs) (i : Int) (h0 : 0 ≤ i) (h1 : i < n) : ∃ ad A3 c3 A4 c4, A = some ad ∧ w.cell? (ad.add (i.toNat * 5)) = some (.int .i64 (rd_T36 xs i).f0) ∧ w.cell? ⟨(ad.add (i.toNat * 5)).block, (ad.add (i.toNat * 5)).off + 1, none⟩ = some (.int .i64 (rd_T36 xs i).f1) ∧ w.cell? ⟨(ad.add (i.toNat * 5)).block, (ad.add (i.toNat * 5)).off + 2, none⟩ = some (.string (rd_T36 xs i).f2) ∧ w.cell? ⟨(ad.add (i.toNat * 5)).block, (ad.add (i.toNat * 5)).off + 3, none⟩ = some (.slice A3 (rd_T36 xs i).f3.length c3) ∧ w.cell? ⟨(ad.add (i.toNat * 5)).block, (ad.add (i.toNat * 5)).off + 4, none⟩ = some (.slice A4 (rd_T36 xs i).f4.length c4) ∧ (rd_T36 xs i).f3.length ≤ c3 ∧ Kd.string.C w A3 (rd_T36 xs i).f3.length (rd_T36 xs i).f3 ∧ (rd_T36 xs i).f4.length ≤ c4 ∧ k36.C w A4 (rd_T36 xs i).f4.length (rd_T36 xs i).f4 := by
 obtain ⟨ad, c, e, _, hK, hc0⟩ := Kd.C_get h z36 i h0 h1
 have hc : ∀ j u, c[j]? = some u → w.cell? (ad.add (i.toNat * 5 + j)) = some u := hc0
 obtain ⟨A3, c3, A4, c4, rfl, l3, g3, l4, g4⟩ := k36_open hK
 exact ⟨ad, A3, c3, A4, c4, e, hc 0 _ rfl, by rw [← add_field _ _ 1 (by omega)]; exact hc 1 _ rfl, by rw [← add_field _ _ 2 (by omega)]; exact hc 2 _ rfl, by rw [← add_field _ _ 3 (by omega)]; exact hc 3 _ rfl, by rw [← add_field _ _ 4 (by omega)]; exact hc 4 _ rfl, l3, g3, l4, g4⟩
end Go.Proofs.Ytaembebbaejfiaa.PS
namespace Go.Proofs.Ytaembebbaejfiaa.Tr
open Go.RowKit Go.Proofs.YtaembebbaejfiaaW.PrintWords Go.Proofs.YtaembebbaejfiaaW.PrintLast Go.Proofs.Ytaembebbaejfiaa.Str Go.Proofs.Ytaembebbaejfiaa.Kit Go.Proofs.Ytaembebbaejfiaa.MapV Go.Proofs.Ytaembebbaejfiaa.Frame Go.Proofs.Ytaembebbaejfiaa.PS
set_option linter.unusedVariables false
set_option linter.unusedSimpArgs false
abbrev BA := ByteArray
abbrev VI := S36
abbrev VS := S25
abbrev kI : Kd VI := k36
abbrev kS : Kd VS := k25
def held {α : Type} (sz : Nat) (Pf : α → List Value → Prop) (h5 : ∀ {x cs}, Pf x cs → cs.length = sz) (h1 : ∀ {x cs}, Pf x cs → ∀ u ∈ cs, u.oneCell' = true) : Kd α where
 sz := sz
 E := []
 K := fun _ x cs => Pf x cs
 M := fun _ _ _ x cs => Pf x cs
 K_len := h5
 K_one := h1
 K_below := fun _ h => h
 K_of_M := fun h => h
 M_mono := fun _ h => h
 M_bound := fun h => h
 M_move := fun _ h => h
 M_lower := fun _ h => h
def zerosV : Array Value := #[.int .i64 0, .int .i64 0, .string ⟨#[]⟩, .slice none 0 0, .slice none 0 0]
def Has {α : Type} (d : Kd α) (e : Nat) (W0 w : World) (v : Value) (xs : List α) (b : Nat) : Prop := d.R e w W0.heap.size (fun _ => True) v xs ∧ v.ownBlock = some b ∧ b < w.heap.size ∧ W0.heap.size ≤ b
def HasZ (W0 w : World) (g : Nat) : Prop := w.heap[g]? = some (.cells zerosV 25 (0, 0)) ∧ W0.heap.size ≤ g
section
variable {α : Type} {d : Kd α} {e : Nat} {W0 w w1 : World} {v : Value} {xs ys : List α} {b b' g : Nat}
theorem Has.new (hB : Below W0.heap.size W0 w) : Has d e W0 (w.alloc (.cells #[] e)) (.slice (some ⟨w.heap.size, 0, none⟩) 0 0) [] w.heap.size :=
 ⟨own_empty d hB.size trivial, rfl, by rw [World.size_alloc]; omega, hB.size⟩
theorem HasZ.new (hB : Below W0.heap.size W0 w) : HasZ W0 (w.alloc (.cells zerosV 25)) w.heap.size := ⟨cb_new _ _, hB.size⟩
theorem Has.alloc (h : Has d e W0 w v xs b) (o : Obj) : Has d e W0 (w.alloc o) v xs b := ⟨Kd.R_alloc h.1 o, h.2.1, by rw [World.size_alloc]; have := h.2.2.1; omega, h.2.2.2⟩
theorem HasZ.alloc (h : HasZ W0 w g) (o : Obj) : HasZ W0 (w.alloc o) g := ⟨((below_alloc (Below.refl _ w) o).block _ (cb_lt h.1)).trans h.1, h.2⟩
theorem Has.ne_new (h : Has d e W0 w v xs b) : b ≠ w.heap.size := by have := h.2.2.1; omega
theorem HasZ.ne_new (h : HasZ W0 w g) : g ≠ w.heap.size := by have := cb_lt h.1; omega
theorem Has.grown (hk : ∀ (w : World) (base : Nat) (ok ok' : Nat → Prop) x cs, d.M w base ok x cs → d.M w base ok' x cs) (h : Has d e W0 w v xs b) (hg : w.grownBy w1 (some b')) (hn : b ≠ b') : Has d e W0 w1 v xs b := by
 obtain ⟨⟨h0, inner, ho, hr⟩, hb, hlt, hle⟩ := h
 have h2 : d.R e w W0.heap.size (fun k => k = b) v xs := ⟨fun k hk => by rw [hb] at hk; injection hk with hk; exact hk.symm, inner, ho, hr.imp_ (fun x cs hx => hk _ _ _ _ x cs hx)⟩
 have h3 := Kd.R_grown h2 hg (fun k hk => by rw [hk]; exact fun e => hn (Option.some.inj e))
 exact ⟨Kd.R_mono h3 (fun _ _ => trivial), hb, by have := hg.size; omega, hle⟩
theorem HasZ.grown (h : HasZ W0 w g) (hg : w.grownBy w1 (some b')) (hn : g ≠ b') : HasZ W0 w1 g := ⟨(hg.block _ (cb_lt h.1) (fun e => hn (Option.some.inj e))).trans h.1, h.2⟩
theorem Has.grew (h : Has d e W0 w v xs b) {v1 : Value} (h1 : d.R e w1 W0.heap.size (fun _ => True) v1 ys) (hg : w.grownBy w1 v.ownBlock) (hat : v1.ownBlock = v.ownBlock ∨ ∃ b, v1.ownBlock = some b ∧ w.heap.size ≤ b) :
  ∃ b1, Has d e W0 w1 v1 ys b1 ∧ (b1 = b ∨ w.heap.size ≤ b1) := by
 rcases hat with hat | ⟨b1, hat, hle⟩
 ·exact ⟨b, ⟨h1, hat.trans h.2.1, by have := hg.size; have := h.2.2.1; omega, h.2.2.2⟩, .inl rfl⟩
 ·have hlt := (Kd.R_bound h1).1 b1 hat
  exact ⟨b1, ⟨h1, hat, hlt.2.2.1, hlt.2.1⟩, .inr hle⟩
end
section
variable {P : Program} {ops : Array Oper} {o : Oper} {a : Act} {Q : Exit → Act → World → Prop} {Kc : Act → World → Prop} {w : World}
theorem store_row_step (hw : Region.wanted o (yielded ops a.tmps) = true) (hN : o.dst = none) (ty : TypeId) (x y : Operand) (ho : o.op = .store ty x y) (g : Nat) (cells : Array Value) (hx : a.eval x = .pointer (some ⟨g, 0, none⟩)) (hy : a.eval y = .agg cells)
  (t : TypeId) (old : Array Value) (hg : w.heap[g]? = some (.cells old t (0, 0))) (hi : (P.info? ty).map (·.size) = some cells.size) (hold : old.size = cells.size) (h1 : cells.all (·.oneCell') = true)
  (h : Kc a (w.setRow g cells)) : if Region.wanted o (yielded ops a.tmps) = true then Oper.wp P o a w Kc Q else Kc (a.put none undef) w := by
 rw [if_pos hw]
 refine wp_store_row ty x y ho g cells hx hy t old hg hi hold h1 ?_
 rw [hN]
 exact h
theorem grown_setRow (w : World) (g : Nat) (cs : Array Value) : w.grownBy (w.setRow g cs) (some g) := ⟨rfl, rfl, rfl, by simp, fun k _ hn => setRow_other w g k cs (fun e => hn (by rw [e]))⟩
end
theorem val_size : (Try.prog.info? 25).map (fun i => i.size) = some 5 := by kernel_rfl
theorem val_one (k n : Int) (t : ByteArray) (A3 A4 : Option Addr) (n3 c3 n4 c4 : Nat) : (#[Value.int .i64 k, Value.int .i64 n, Value.string t, Value.slice A3 n3 c3, Value.slice A4 n4 c4] : Array Value).all (fun v => v.oneCell') = true :=
 all_oneCell_toArray (cs := [Value.int .i64 k, Value.int .i64 n, Value.string t, Value.slice A3 n3 c3, Value.slice A4 n4 c4]) (fun v hv => by simp at hv; rcases hv with rfl | rfl | rfl | rfl | rfl <;> rfl)
theorem Has.below {α : Type} {d : Kd α} {e : Nat} {W0 w w1 : World} {v : Value} {xs : List α} {b : Nat} (h : Has d e W0 w v xs b) (hb : Below w.heap.size w w1) : Has d e W0 w1 v xs b := ⟨Kd.R_below h.1 hb, h.2.1, Nat.lt_of_lt_of_le h.2.2.1 hb.size, h.2.2.2⟩
theorem Has.slice {α : Type} {d : Kd α} {e : Nat} {W0 w : World} {v : Value} {xs : List α} {b : Nat} (h : Has d e W0 w v xs b) : ∃ c, v = .slice (some ⟨b, 0, none⟩) xs.length c := by
 obtain ⟨⟨_, inner, ho, _⟩, hb, _⟩ := h
 rcases ho.2 with ⟨rfl, _⟩ | ⟨g', cap, cur, rfl, _⟩
 ·simp [Value.ownBlock] at hb
 ·have : g' = b := by simpa [Value.ownBlock] using hb
  subst this
  exact ⟨cap, rfl⟩
theorem one_str (w : World) (base : Nat) (e : TypeId) (hb : base ≤ w.heap.size) (p : ByteArray) : Kd.string.R e (w.alloc (.cells #[.string p] e)) base (fun _ => True) (.slice (some ⟨w.heap.size, 0, none⟩) 1 1) [p] := by
 refine ⟨fun _ _ => trivial, [.string p], ⟨rfl, .inr ⟨w.heap.size, 1, _, rfl, hb, cb_new _ _, Nat.le_refl _, by unfold maxLen; omega, rfl, rfl⟩⟩, rfl, fun j q hq => ?_⟩
 have hj : j = 0 := by
  have := (List.getElem?_eq_some_iff.1 hq).1
  simp at this
  exact this
 subst hj
 injection hq with hq
 subst hq
 rfl
theorem ne_grew {a b b1 S : Nat} (hn : a ≠ b) (hl : a < S) (h : b1 = b ∨ S ≤ b1) : a ≠ b1 := by
 rcases h with rfl | h
 ·exact hn
 ·omega
theorem grown_setCell (w : World) (g j : Nat) (u : Value) : w.grownBy (w.setCell ⟨g, j, none⟩ u) (some g) := ⟨rfl, rfl, rfl, by simp, fun k _ hn => Below.heap_setCell w ⟨g, j, none⟩ u k (fun e => hn (by rw [e]))⟩
section
variable {ops : Array Oper} {rest : List Oper} {o : Oper} {a : Act} {Q : Exit → Act → World → Prop}
theorem load_val {w : World} {b : Nat} {k n : Int} {t : ByteArray} {A3 A4 : Option Addr} {n3 c3 n4 c4 : Nat} (x : Operand) (hgd : o.guard = none) (ho : o.op = .load 25 x) (hx : a.eval x = .pointer (some ⟨b, 0, none⟩)) (hb : w.heap[b]? = some (.cells #[.int .i64 k, .int .i64 n, .string t, .slice A3 n3 c3, .slice A4 n4 c4] 25 (0, 0)))
  (h : wpList Try.prog ops Q rest (a.put o.dst (.agg #[.int .i64 k, .int .i64 n, .string t, .slice A3 n3 c3, .slice A4 n4 c4])) w) : wpList Try.prog ops Q (o :: rest) a w :=
 wpList_load_row hgd _ x ho b hx _ _ _ _ hb Try.underlying25 rfl val_size h
theorem store_val {w : World} {b : Nat} {k n : Int} {t : ByteArray} {A3 A4 : Option Addr} {n3 c3 n4 c4 : Nat} {k' n' : Int} {t' : ByteArray} {A3' A4' : Option Addr} {n3' c3' n4' c4' : Nat} (x y : Operand) (hgd : o.guard = none) (ho : o.op = .store 25 x y) (hx : a.eval x = .pointer (some ⟨b, 0, none⟩)) (hy : a.eval y = .agg #[.int .i64 k, .int .i64 n, .string t, .slice A3 n3 c3, .slice A4 n4 c4]) (hb : w.heap[b]? = some (.cells #[.int .i64 k', .int .i64 n', .string t', .slice A3' n3' c3', .slice A4' n4' c4'] 25 (0, 0)))
  (h : wpList Try.prog ops Q rest (a.put o.dst undef) (w.setRow b #[.int .i64 k, .int .i64 n, .string t, .slice A3 n3 c3, .slice A4 n4 c4])) : wpList Try.prog ops Q (o :: rest) a w :=
 wpList_store_row hgd _ x y ho b _ hx hy _ _ hb val_size rfl (val_one _ _ _ _ _ _ _ _ _) h
end
theorem val_result {fn : Func} {p : Tmp} (hr : fn.results = #[.cell p 25]) {tmps : Array Value} {w : World} {b : Nat} {k n : Int} {t : ByteArray} {A3 A4 : Option Addr} {n3 c3 n4 c4 : Nat} (hp : tmps.getD p undef = .pointer (some ⟨b, 0, none⟩)) (hb : w.heap[b]? = some (.cells #[.int .i64 k, .int .i64 n, .string t, .slice A3 n3 c3, .slice A4 n4 c4] 25 (0, 0))) :
  (results fn tmps).run Try.prog w = .ok (.agg #[.int .i64 k, .int .i64 n, .string t, .slice A3 n3 c3, .slice A4 n4 c4]) w :=
 results_cell_row hr tmps w b _ _ _ _ hp hb Try.underlying25 rfl val_size
theorem ival_size : (Try.prog.info? 36).map (fun i => i.size) = some 5 := by kernel_rfl
section
variable {ops : Array Oper} {rest : List Oper} {o : Oper} {a : Act} {Q : Exit → Act → World → Prop}
theorem load_ival {w : World} {b : Nat} {k n : Int} {t : ByteArray} {A3 A4 : Option Addr} {n3 c3 n4 c4 : Nat} (x : Operand) (hgd : o.guard = none) (ho : o.op = .load 36 x) (hx : a.eval x = .pointer (some ⟨b, 0, none⟩)) (hb : w.heap[b]? = some (.cells #[.int .i64 k, .int .i64 n, .string t, .slice A3 n3 c3, .slice A4 n4 c4] 36 (0, 0)))
  (h : wpList Try.prog ops Q rest (a.put o.dst (.agg #[.int .i64 k, .int .i64 n, .string t, .slice A3 n3 c3, .slice A4 n4 c4])) w) : wpList Try.prog ops Q (o :: rest) a w :=
 wpList_load_row hgd _ x ho b hx _ _ _ _ hb Try.underlying36 rfl ival_size h
theorem store_ival {w : World} {b : Nat} {k n : Int} {t : ByteArray} {A3 A4 : Option Addr} {n3 c3 n4 c4 : Nat} {k' n' : Int} {t' : ByteArray} {A3' A4' : Option Addr} {n3' c3' n4' c4' : Nat} (x y : Operand) (hgd : o.guard = none) (ho : o.op = .store 36 x y) (hx : a.eval x = .pointer (some ⟨b, 0, none⟩)) (hy : a.eval y = .agg #[.int .i64 k, .int .i64 n, .string t, .slice A3 n3 c3, .slice A4 n4 c4]) (hb : w.heap[b]? = some (.cells #[.int .i64 k', .int .i64 n', .string t', .slice A3' n3' c3', .slice A4' n4' c4'] 36 (0, 0)))
  (h : wpList Try.prog ops Q rest (a.put o.dst undef) (w.setRow b #[.int .i64 k, .int .i64 n, .string t, .slice A3 n3 c3, .slice A4 n4 c4])) : wpList Try.prog ops Q (o :: rest) a w :=
 wpList_store_row hgd _ x y ho b _ hx hy _ _ hb ival_size rfl (val_one _ _ _ _ _ _ _ _ _) h
end
section
variable {α : Type} {sz : Nat} {Pf : α → List Value → Prop} {h5 : ∀ {x cs}, Pf x cs → cs.length = sz} {h1 : ∀ {x cs}, Pf x cs → ∀ u ∈ cs, u.oneCell' = true}
theorem one_held (w : World) (base : Nat) (e : TypeId) (hb : base ≤ w.heap.size) (x : α) {cs : List Value} (hx : Pf x cs) : (held sz Pf h5 h1).R e (w.alloc (.cells cs.toArray e)) base (fun _ => True) (.slice (some ⟨w.heap.size, 0, none⟩) 1 1) [x] := by
 have hl : cs.length = sz := h5 hx
 refine ⟨fun _ _ => trivial, cs, ⟨by rw [hl]; simp [held], .inr ⟨w.heap.size, 1, _, rfl, hb, cb_new _ _, Nat.le_refl _, by unfold maxLen; omega, by simp [hl, held], by simp [held]; exact List.take_of_length_le (show cs.length ≤ sz by omega)⟩⟩, by rw [hl]; simp [held], fun j q hq => ?_⟩
 have hj : j = 0 := by
  have := (List.getElem?_eq_some_iff.1 hq).1
  simp at this
  exact this
 subst hj
 injection hq with hq
 subst hq
 show Pf x ((cs.drop (0 * sz)).take sz)
 rw [Nat.zero_mul, List.drop_zero, List.take_of_length_le (by rw [hl]; exact Nat.le_refl _)]
 exact hx
theorem held_put {e : Nat} {W : World} {base : Nat} {ok : Nat → Prop} {g n cap : Nat} {xs : List α} (h : (held sz Pf h5 h1).R e W base ok (.slice (some ⟨g, 0, none⟩) n cap) xs) (i : Nat) (hi : i < n) (x : α) {cs : List Value} (hx : Pf x cs) :
  W.there g (i * sz) cs.length ∧ (held sz Pf h5 h1).R e (W.setCells g (i * sz) cs) base ok (.slice (some ⟨g, 0, none⟩) n cap) (xs.set i x) ∧ W.grownBy (W.setCells g (i * sz) cs) (some g) := by
 obtain ⟨c, hcl, hcM, hcc, hcf⟩ := Kd.R_elem h x (i : Int) (by omega) (by omega)
 have hl : cs.length = sz := h5 hx
 have ht : (i : Int).toNat = i := by simp
 refine ⟨fun j hj => ?_, ?_⟩
 ·have hjc : j < c.length := by rw [hcl]; show j < sz; omega
  have h2 := hcc j _ (List.getElem?_eq_getElem hjc)
  have h3 := hcf j
  rw [ht] at h2 h3
  exact ⟨by rw [show W.cell? ⟨g, i * sz + j, none⟩ = _ from h2]; rfl, h3⟩
 ·have h4 := Kd.R_seg (okp := fun _ => False) h (i : Int) (by omega) (by omega) (seg := cs) (j := 0) (x' := x) hcl hcc (by show 0 + cs.length ≤ sz; omega) (show Pf x (c.take 0 ++ cs ++ c.drop (0 + cs.length)) by
   rw [List.drop_eq_nil_of_le (by rw [hcl, hl]; show sz ≤ 0 + sz; omega), List.append_nil, List.take_zero, List.nil_append]
   exact hx) (fun _ hf => hf.elim)
  rw [ht] at h4
  exact h4
theorem R_held {d : Kd α} {e : Nat} {w : World} {base : Nat} {ok ok' : Nat → Prop} {v : Value} {xs : List α} (hsz : d.sz = sz) (hPf : ∀ x cs, Pf x cs → d.M w base (fun k => ok' k ∧ some k ≠ v.ownBlock) x cs) (hok : ∀ k, v.ownBlock = some k → ok' k) (h : (held sz Pf h5 h1).R e w base ok v xs) : d.R e w base ok' v xs := by
 obtain ⟨h0, inner, ho, hr⟩ := h
 refine ⟨hok, inner, ?_, ?_⟩
 ·rw [hsz]; exact ho
 ·rw [hsz]; exact hr.imp_ (fun x cs hp => hPf x cs hp)
end
theorem kI_at {w : World} {A : Option Addr} {xs : List S36} (h : kI.C w A xs.length xs) (h0 : 0 < xs.length) :
  ∃ bk off, A = some ⟨bk, off, none⟩ ∧ bk < w.heap.size ∧ ∀ (j : Nat) (hj : j < xs.length), ∃ A3 c3 A4 c4, w.cell? ⟨bk, off + j * 5, none⟩ = some (.int .i64 xs[j].f0) ∧ w.cell? ⟨bk, off + j * 5 + 1, none⟩ = some (.int .i64 xs[j].f1) ∧ w.cell? ⟨bk, off + j * 5 + 2, none⟩ = some (.string xs[j].f2) ∧ w.cell? ⟨bk, off + j * 5 + 3, none⟩ = some (.slice A3 xs[j].f3.length c3) ∧ w.cell? ⟨bk, off + j * 5 + 4, none⟩ = some (.slice A4 xs[j].f4.length c4) ∧ xs[j].f3.length ≤ c3 ∧ Kd.string.C w A3 xs[j].f3.length xs[j].f3 ∧ xs[j].f4.length ≤ c4 ∧ kI.C w A4 xs[j].f4.length xs[j].f4 := by
 obtain ⟨hl, hm, hc⟩ := h
 obtain ⟨ad, rfl, hcc⟩ := hc h0
 have cell : ∀ (j : Nat) (hj : j < xs.length), ∃ A3 c3 A4 c4, (∀ i u, ([.int .i64 xs[j].f0, .int .i64 xs[j].f1, .string xs[j].f2, .slice A3 xs[j].f3.length c3, .slice A4 xs[j].f4.length c4] : List Value)[i]? = some u → w.cell? (ad.add (j * 5 + i)) = some u) ∧ xs[j].f3.length ≤ c3 ∧ Kd.string.C w A3 xs[j].f3.length xs[j].f3 ∧ xs[j].f4.length ≤ c4 ∧ kI.C w A4 xs[j].f4.length xs[j].f4 := by
  intro j hj
  obtain ⟨c, hcl, hr, hcell⟩ := hcc j xs[j] (List.getElem?_eq_getElem hj)
  obtain ⟨A3, c3, A4, c4, rfl, l3, g3, l4, g4⟩ := k36_open hr
  exact ⟨A3, c3, A4, c4, hcell, l3, g3, l4, g4⟩
 obtain ⟨_, _, _, _, hx, _⟩ := cell 0 h0
 have c0 := hx 0 _ rfl
 rw [Nat.zero_mul, Nat.zero_add] at c0
 obtain ⟨bk, off, spot⟩ := ad
 have hspot : spot = none := by
  cases hs : spot with
  | none => rfl
  | some sp =>
   exfalso
   subst hs
   simp [World.cell?, Addr.add] at c0
   split at c0 <;> simp at c0
 subst hspot
 have add : ∀ j : Nat, (⟨bk, off, none⟩ : Addr).add j = ⟨bk, off + j, none⟩ := by intro j; unfold Addr.add; split <;> simp_all
 refine ⟨bk, off, rfl, ?_, fun j hj => ?_⟩
 ·rw [add] at c0
  exact World.block_lt_of_cell? w _ c0
 ·obtain ⟨A3, c3, A4, c4, hcell, l3, g3, l4, g4⟩ := cell j hj
  have e : ∀ i u, ([.int .i64 xs[j].f0, .int .i64 xs[j].f1, .string xs[j].f2, .slice A3 xs[j].f3.length c3, .slice A4 xs[j].f4.length c4] : List Value)[i]? = some u → w.cell? ⟨bk, off + j * 5 + i, none⟩ = some u := fun i u hu => by
   have := hcell i u hu
   rw [add, ← Nat.add_assoc] at this
   exact this
  exact ⟨A3, c3, A4, c4, e 0 _ rfl, e 1 _ rfl, e 2 _ rfl, e 3 _ rfl, e 4 _ rfl, l3, g3, l4, g4⟩
end Go.Proofs.Ytaembebbaejfiaa.Tr
namespace Go.Proofs.Ytaembebbaejfiaa.MapV
open Go.RowKit Go.Proofs.YtaembebbaejfiaaW.PrintWords Go.Proofs.YtaembebbaejfiaaW.PrintLast Go.Proofs.Ytaembebbaejfiaa.Str
set_option linter.unusedVariables false
set_option linter.unusedSimpArgs false
section
variable {P : Program} {k e t : TypeId} {α : Type} {enc : α → Value} {w : World} {b : Nat} {f : List (Bs × α)}
variable {ops : Array Oper} {o : Oper} {a : Act} {Q : Exit → Act → World → Prop} {Kc : Act → World → Prop}
theorem store_mapE_step (hk : P.underlying k = some .string) (ht : P.underlying t = some (.map k e)) (hw : Region.wanted o (yielded ops a.tmps) = true) (hN : o.dst = none) (m x v : Operand) (hop : o.op = Op.mapUpdate t m x v)
  (hm : a.eval m = .map (some b)) (h : MapE P k enc w b f) (hn : f.length < maxLen) {s : ByteArray} {y : α} (hx : a.eval x = .string s) (hs : s.size ≤ maxLen) (hv : a.eval v = enc y)
  (hK : ∀ w', MapE P k enc w' b (mput f (lb s) y) → w.grownBy w' (some b) → Kc a w') : if Region.wanted o (yielded ops a.tmps) = true then Oper.wp P o a w Kc Q else Kc (a.put none undef) w := by
 obtain ⟨w', hrun, r1, r2⟩ := World.ownsMap.update h (Go.Maps.string_keyed hk) ht hn (keyOf_s hk hs) (val := enc y) (d := .held (enc y)) (ps := []) rfl
 refine skip_ (w1 := w') hw hN ?_ (hK w' (MapE.of (by rw [ent_put] at r1; exact r1)) r2)
 simp [execOp, hop, hm, hx, hv, hrun, Result.andThen]
end
theorem run_makeHint {P : Program} {t k e : TypeId} (hu : P.underlying t = some (.map k e)) (i : IntKind) (n : Int) (w : World) : (Instr.makeMap t (some (.int i n))).run P w = .ok (.map (some w.heap.size)) (w.alloc (.map #[] 0)) := by
 simp [Instr.makeMap, run_underlying hu, asInt, asIntOf, Result.andThen]
end Go.Proofs.Ytaembebbaejfiaa.MapV
namespace Go.Proofs.Ytaembebbaejfiaa.MapV
open Go.RowKit Go.Proofs.YtaembebbaejfiaaW.PrintWords Go.Proofs.Ytaembebbaejfiaa.Str
set_option linter.unusedVariables false
set_option linter.unusedSimpArgs false
section
variable {α : Type} {key : Bs} {v : α}
theorem lt_asymm {a b : Bs} (h : a < b) : ¬ b < a := fun k => lt_irrefl a (lt_trans h k)
theorem mdel_id {f : List (Bs × α)} (h : ∀ p ∈ f, p.1 ≠ key) : mdel f key = f := List.filter_eq_self.2 (fun p hp => by simpa using h p hp)
theorem mput_lt {y : Bs × α} {r : List (Bs × α)} (h : y.1 < key) : mput (y :: r) key v = y :: mput r key v := by
 have hy : (y.1 == key) = false := by simpa using lt_ne h
 unfold mput
 have : mdel (y :: r) key = y :: mdel r key := by
  unfold mdel
  rw [List.filter_cons, hy]
  rfl
 rw [this, mins, if_neg (lt_asymm h)]
theorem mput_eq {y : Bs × α} {r : List (Bs × α)} (h : y.1 = key) (hr : ∀ p ∈ r, key < p.1) : mput (y :: r) key v = (key, v) :: r := by
 have hy : (y.1 == key) = true := by simpa using h
 unfold mput
 have : mdel (y :: r) key = r := by
  unfold mdel
  rw [List.filter_cons, hy]
  exact mdel_id (fun p hp => (lt_ne (hr p hp)).symm)
 rw [this]
 cases r with
 | nil => rfl
 | cons z t => rw [mins, if_pos (hr z (by simp))]
theorem mput_gt {f : List (Bs × α)} (hr : ∀ p ∈ f, key < p.1) : mput f key v = (key, v) :: f := by
 unfold mput
 rw [mdel_id (fun p hp => (lt_ne (hr p hp)).symm)]
 cases f with
 | nil => rfl
 | cons z t => rw [mins, if_pos (hr z (by simp))]
theorem mput_ins : ∀ (k : Nat) {f : List (Bs × α)}, Rises f → (∀ (j : Nat) (h : j < f.length), j < k → f[j].1 < key) → k ≤ f.length → (∀ (h : k < f.length), key < f[k].1) → mput f key v = f.take k ++ (key, v) :: f.drop k
 | 0, f, hf, _, _, hg => by
  rw [mput_gt]
  ·rfl
  ·cases f with
   | nil => simp
   | cons y r =>
    have hy : key < y.1 := hg (by simp)
    obtain ⟨h1, _⟩ := List.pairwise_cons.1 hf
    intro p hp
    rcases List.mem_cons.1 hp with rfl | hp
    ·exact hy
    ·exact lt_trans hy (h1 p hp)
 | k + 1, [], _, _, h, _ => by simp at h
 | k + 1, y :: r, hf, hl, h, hg => by
  obtain ⟨_, h2⟩ := List.pairwise_cons.1 hf
  have hy : y.1 < key := hl 0 (by simp) (by omega)
  rw [mput_lt hy, mput_ins k h2 (fun j hj hk => by have := hl (j + 1) (by simp; omega) (by omega); simpa using this) (by simpa using h) (fun hk => by have := hg (by simpa using hk); simpa using this)]
  rfl
def fitM (l : List (Bs × α)) : List (Bs × α) := l.foldl (fun f p => mput f p.1 p.2) []
theorem fitM_snoc (l : List (Bs × α)) (p : Bs × α) : fitM (l ++ [p]) = mput (fitM l) p.1 p.2 := by simp [fitM]
theorem fold_length (l : List (Bs × α)) : ∀ (f : List (Bs × α)), (l.foldl (fun f p => mput f p.1 p.2) f).length ≤ f.length + l.length := by
 induction l with
 | nil => intro f; simp
 | cons p r ih =>
  intro f
  have h1 := ih (mput f p.1 p.2)
  have h2 := mput_length f p.1 p.2
  simp only [List.foldl_cons, List.length_cons]
  omega
theorem fitM_length (l : List (Bs × α)) : (fitM l).length ≤ l.length := by
 have := fold_length l []
 simpa [fitM] using this
end
end Go.Proofs.Ytaembebbaejfiaa.MapV
namespace Go.Proofs.Ytaembebbaejfiaa.Tr
open Go.RowKit Go.Proofs.YtaembebbaejfiaaW.PrintWords Go.Proofs.YtaembebbaejfiaaW.PrintLast Go.Proofs.Ytaembebbaejfiaa.Str Go.Proofs.Ytaembebbaejfiaa.Kit Go.Proofs.Ytaembebbaejfiaa.MapV Go.Proofs.Ytaembebbaejfiaa.Frame Go.Proofs.Ytaembebbaejfiaa.PS
set_option linter.unusedVariables false
set_option linter.unusedSimpArgs false
inductive Y where
 | null : Y
 | bool (b : Bool) : Y
 | int (n : Int) : Y
 | text (s : BA) : Y
 | list (l : List Y) : Y
 | map (m : List (Bs × Y)) : Y
def PA (x : Value) (cs : List Value) : Prop := cs = [x] ∧ x.oneCell' = true
theorem PA5 {x : Value} {cs : List Value} (h : PA x cs) : cs.length = 1 := by rw [h.1]; rfl
theorem PA1 {x : Value} {cs : List Value} (h : PA x cs) : ∀ u ∈ cs, u.oneCell' = true := by
 intro u hu
 rw [h.1] at hu
 simp at hu
 rw [hu]
 exact h.2
abbrev kAny : Kd Value := held 1 PA PA5 PA1
theorem kAny_put {e : Nat} {W : World} {base : Nat} {ok : Nat → Prop} {g n cap : Nat} {xs : List Value} (h : kAny.R e W base ok (.slice (some ⟨g, 0, none⟩) n cap) xs) (i : Nat) (hi : i < n) (x : Value) (hx : x.oneCell' = true) :
  (W.cell? ⟨g, i, none⟩).isSome = true ∧ W.frozen? ⟨g, i, none⟩ = false ∧ kAny.R e (W.setCell ⟨g, i, none⟩ x) base ok (.slice (some ⟨g, 0, none⟩) n cap) (xs.set i x) := by
 have h1 := held_put (h5 := PA5) (h1 := PA1) h i hi x (cs := [x]) ⟨rfl, hx⟩
 have e : W.setCells g (i * 1) [x] = W.setCell ⟨g, i, none⟩ x := by simp [World.setCells]
 rw [e] at h1
 have h2 := h1.1 0 (by simp)
 rw [Nat.mul_one, Nat.add_zero] at h2
 exact ⟨h2.1, h2.2, h1.2.1⟩
theorem akey_u : Try.prog.underlying 9 = some .string := Try.underlying9
theorem amap_u : Try.prog.underlying 65 = some (.map 9 20) := Try.underlying65
abbrev MapA (w : World) (b : Nat) (f : List (Bs × Value)) : Prop := MapE Try.prog 9 id w b f
abbrev En := Value × Y × (Nat → Prop)
def En.far (a b : En) : Prop := ∀ k, a.2.2 k → ¬ b.2.2 k
inductive AR (w : World) : Value → Y → (Nat → Prop) → Prop
 | null (F) : AR w .nilIface .null F
 | bool (b F) : AR w (.iface 4 (.bool b)) (.bool b) F
 | int (n F) : AR w (.iface 3 (.int .i64 n)) (.int n) F
 | text (s F) : AR w (.iface 9 (.string s)) (.text s) F
 | list (v : Value) (zs : List En) (ys : List Y) (F : Nat → Prop) (hy : ys = zs.map (fun z => z.2.1)) (hr : kAny.R 20 w 0 (fun _ => True) v (zs.map (fun z => z.1))) (hz : ∀ z, z ∈ zs → AR w z.1 z.2.1 z.2.2)
   (hd : zs.Pairwise En.far) (hb : ∀ b, v.ownBlock = some b → F b ∧ ∀ z, z ∈ zs → ¬ z.2.2 b) (hF : ∀ z, z ∈ zs → ∀ k, z.2.2 k → F k) : AR w (.iface 58 v) (.list ys) F
 | map (b : Nat) (zs : List (Bs × En)) (ys : List (Bs × Y)) (F : Nat → Prop) (hy : ys = zs.map (fun z => (z.1, z.2.2.1))) (hm : MapA w b (zs.map (fun z => (z.1, z.2.1)))) (hz : ∀ z, z ∈ zs → AR w z.2.1 z.2.2.1 z.2.2.2)
   (hd : zs.Pairwise (fun a b => En.far a.2 b.2)) (hb : F b ∧ ∀ z, z ∈ zs → ¬ z.2.2.2 b) (hF : ∀ z, z ∈ zs → ∀ k, z.2.2.2 k → F k) : AR w (.iface 65 (.map (some b))) (.map ys) F
theorem AR.mono {w : World} {v : Value} {y : Y} {F G : Nat → Prop} (h : AR w v y F) (hFG : ∀ k, F k → G k) : AR w v y G := by
 cases h with
 | null => exact .null _
 | bool => exact .bool _ _
 | int => exact .int _ _
 | text => exact .text _ _
 | list v zs ys _ hy hr hz hd hb hF => exact .list v zs ys G hy hr hz hd (fun b h => ⟨hFG _ (hb b h).1, (hb b h).2⟩) (fun z h k hk => hFG _ (hF z h k hk))
 | map b zs ys _ hy hm hz hd hb hF => exact .map b zs ys G hy hm hz hd ⟨hFG _ hb.1, hb.2⟩ (fun z h k hk => hFG _ (hF z h k hk))
theorem kAny_move {e : Nat} {w w1 : World} {base : Nat} {ok : Nat → Prop} {v : Value} {xs : List Value} (h : kAny.R e w base ok v xs) (hm : ∀ k, v.ownBlock = some k → w1.heap[k]? = w.heap[k]?) : kAny.R e w1 base ok v xs := by
 obtain ⟨h0, inner, ho, hr⟩ := h
 exact ⟨h0, inner, own_move ho hm, hr⟩
theorem AR.move {w w1 : World} {v : Value} {y : Y} {F : Nat → Prop} (h : AR w v y F) (hm : ∀ k, F k → w1.heap[k]? = w.heap[k]?) : AR w1 v y F := by
 induction h with
 | null => exact .null _
 | bool => exact .bool _ _
 | int => exact .int _ _
 | text => exact .text _ _
 | list v zs ys F hy hr hz hd hb hF ih =>
  exact .list v zs ys F hy (kAny_move hr (fun k hk => hm k (hb k hk).1)) (fun z h => ih z h (fun k hk => hm k (hF z h k hk))) hd hb hF
 | map b zs ys F hy hmm hz hd hb hF ih =>
  exact .map b zs ys F hy (hmm.move (hm b hb.1)) (fun z h => ih z h (fun k hk => hm k (hF z h k hk))) hd hb hF
theorem AR.tight {w : World} {v : Value} {y : Y} {F : Nat → Prop} (h : AR w v y F) : AR w v y (fun k => F k ∧ k < w.heap.size) := by
 induction h with
 | null => exact .null _
 | bool => exact .bool _ _
 | int => exact .int _ _
 | text => exact .text _ _
 | list v zs ys F hy hr hz hd hb hF ih =>
  let g : En → En := fun z => (z.1, z.2.1, fun k => z.2.2 k ∧ k < w.heap.size)
  refine .list v (zs.map g) ys _ (by rw [hy, List.map_map]; rfl) (by rw [List.map_map]; exact hr) (fun z h => ?_) (hd.map g (fun a b hab k hk hk2 => hab k hk.1 hk2.1)) (fun b hbb => ⟨⟨(hb b hbb).1, (Kd.R_bound hr).1 b hbb |>.2.2.1⟩, fun z h => ?_⟩) (fun z h k hk => ?_)
  ·obtain ⟨z0, h0, rfl⟩ := List.mem_map.1 h
   exact ih z0 h0
  ·obtain ⟨z0, h0, rfl⟩ := List.mem_map.1 h
   exact fun hk => (hb b hbb).2 z0 h0 hk.1
  ·obtain ⟨z0, h0, rfl⟩ := List.mem_map.1 h
   exact ⟨hF z0 h0 k hk.1, hk.2⟩
 | map b zs ys F hy hmm hz hd hb hF ih =>
  let g : Bs × En → Bs × En := fun z => (z.1, z.2.1, z.2.2.1, fun k => z.2.2.2 k ∧ k < w.heap.size)
  refine .map b (zs.map g) ys _ (by rw [hy, List.map_map]; rfl) (by rw [List.map_map]; exact hmm) (fun z h => ?_) (hd.map g (fun a b hab k hk hk2 => hab k hk.1 hk2.1)) ⟨⟨hb.1, hmm.lt⟩, fun z h => ?_⟩ (fun z h k hk => ?_)
  ·obtain ⟨z0, h0, rfl⟩ := List.mem_map.1 h
   exact ih z0 h0
  ·obtain ⟨z0, h0, rfl⟩ := List.mem_map.1 h
   exact fun hk => hb.2 z0 h0 hk.1
  ·obtain ⟨z0, h0, rfl⟩ := List.mem_map.1 h
   exact ⟨hF z0 h0 k hk.1, hk.2⟩
theorem AR.keep {w w1 : World} {v : Value} {y : Y} {F : Nat → Prop} (h : AR w v y F) (hb : Below w.heap.size w w1) : AR w1 v y (fun k => F k ∧ k < w.heap.size) := h.tight.move (fun k hk => hb.block k hk.2)
theorem AR.one {w : World} {v : Value} {y : Y} {F : Nat → Prop} (h : AR w v y F) : v.oneCell' = true := by cases h <;> rfl
section
variable {α β : Type}
theorem mput_mem {f : List (Bs × α)} {k : Bs} {v : α} {p : Bs × α} (h : p ∈ mput f k v) : p = (k, v) ∨ p ∈ f := by
 unfold mput at h
 rcases mins_mem.1 h with h | h
 ·exact .inl h
 ·exact .inr (List.mem_filter.1 h).1
theorem mins_pair {R : Bs × α → Bs × α → Prop} (hs : ∀ a b, R a b → R b a) {x : Bs × α} : ∀ {f : List (Bs × α)}, f.Pairwise R → (∀ p ∈ f, R x p) → (mins x f).Pairwise R
 | [], _, _ => by simp [mins]
 | y :: r, h, hx => by
  obtain ⟨h1, h2⟩ := List.pairwise_cons.1 h
  rw [mins]
  split
  ·exact List.pairwise_cons.2 ⟨hx, h⟩
  ·refine List.pairwise_cons.2 ⟨fun p hp => ?_, mins_pair hs h2 (fun p hp => hx p (by simp [hp]))⟩
   rcases mins_mem.1 hp with rfl | hp
   ·exact hs _ _ (hx y (by simp))
   ·exact h1 p hp
theorem mput_pair {R : Bs × α → Bs × α → Prop} (hs : ∀ a b, R a b → R b a) {f : List (Bs × α)} {k : Bs} {v : α} (h : f.Pairwise R) (hx : ∀ p ∈ f, R (k, v) p) : (mput f k v).Pairwise R :=
 mins_pair hs (h.sublist List.filter_sublist) (fun p hp => hx p (List.mem_filter.1 hp).1)
theorem mins_map (g : α → β) (x : Bs × α) : ∀ f : List (Bs × α), (mins x f).map (fun p => (p.1, g p.2)) = mins (x.1, g x.2) (f.map (fun p => (p.1, g p.2)))
 | [] => rfl
 | y :: r => by
  rw [mins, List.map_cons, mins]
  by_cases h : x.1 < y.1
  ·rw [if_pos h, if_pos h]; rfl
  ·rw [if_neg h, if_neg h, List.map_cons, mins_map g x r]
theorem mput_map (g : α → β) (f : List (Bs × α)) (k : Bs) (v : α) : (mput f k v).map (fun p => (p.1, g p.2)) = mput (f.map (fun p => (p.1, g p.2))) k (g v) := by
 unfold mput
 rw [mins_map]
 congr 1
 unfold mdel
 rw [List.filter_map]
 rfl
end
mutual
def anyOf : VI → Y
 | ⟨k, n, t, ks, vs⟩ => if k = 1 then .bool (n != 0) else if k = 2 then .int n else if k = 3 then .text t else if k = 4 then .list (anyL vs) else if k = 5 then .map (fitM ((ks.map lb).zip (anyL vs))) else .null
def anyL : List VI → List Y
 | [] => []
 | v :: r => anyOf v :: anyL r
end
theorem anyL_map : ∀ vs, anyL vs = vs.map anyOf
 | [] => by simp [anyL]
 | v :: r => by simp [anyL, anyL_map r]
inductive Small : VI → Prop
 | mk (x : VI) (hk : ∀ s, s ∈ x.f3 → s.size ≤ maxLen) (hkl : x.f3.length ≤ 8796093022000) (hvl : x.f4.length ≤ 1759218604400) (hv : ∀ v, v ∈ x.f4 → Small v) : Small x
def pairsOf (ks : List BA) (vs : List VI) : List (Bs × Y) := (ks.map lb).zip (anyL vs)
theorem anyL_length (vs : List VI) : (anyL vs).length = vs.length := by rw [anyL_map, List.length_map]
theorem pairsOf_length (ks : List BA) (vs : List VI) : (pairsOf ks vs).length = min ks.length vs.length := by
 unfold pairsOf
 rw [List.length_zip, List.length_map, anyL_length]
theorem pairsOf_get {ks : List BA} {vs : List VI} {i : Nat} (hk : i < ks.length) (hv : i < vs.length) : (pairsOf ks vs).take (i + 1) = (pairsOf ks vs).take i ++ [(lb ks[i], anyOf vs[i])] := by
 have hl : i < ((ks.map lb).zip (anyL vs)).length := by rw [List.length_zip, List.length_map, anyL_length]; omega
 show ((ks.map lb).zip (anyL vs)).take (i + 1) = ((ks.map lb).zip (anyL vs)).take i ++ [(lb ks[i], anyOf vs[i])]
 rw [List.take_succ_eq_append_getElem hl, List.getElem_zip]
 simp [anyL_map]
def Made (w : World) (y : Y) (e : Ending) (w' : World) : Prop := ∃ v, e = .returned v ∧ AR w' v y (fun k => w.heap.size ≤ k ∧ k < w'.heap.size) ∧ Below w.heap.size w w'
structure MapAt (wr : World) (b : Nat) (zs : List (Bs × En)) (m : List (Bs × Y)) : Prop where
 hm : MapA wr b (zs.map (fun z => (z.1, z.2.1)))
 hz : ∀ z, z ∈ zs → AR wr z.2.1 z.2.2.1 z.2.2.2
 hd : zs.Pairwise (fun a b => En.far a.2 b.2)
 hF : ∀ z, z ∈ zs → ∀ k, z.2.2.2 k → b < k ∧ k < wr.heap.size
 hy : zs.map (fun z => (z.1, z.2.2.1)) = m
theorem MapAt.made (w : World) : MapAt (w.alloc (.map #[] 0)) w.heap.size [] [] := ⟨MapE.made Try.prog 9 (id : Value → Value) w, fun z h => by simp at h, List.Pairwise.nil, fun z h => by simp at h, rfl⟩
theorem MapAt.lt {wr : World} {b : Nat} {zs : List (Bs × En)} {m : List (Bs × Y)} (h : MapAt wr b zs m) : b < wr.heap.size := h.hm.lt
theorem MapAt.move {wr w1 : World} {b : Nat} {zs : List (Bs × En)} {m : List (Bs × Y)} (h : MapAt wr b zs m) (hb : Below wr.heap.size wr w1) : MapAt w1 b zs m :=
 ⟨h.hm.below hb, fun z hz => (h.hz z hz).move (fun k hk => hb.block k (h.hF z hz k hk).2), h.hd, fun z hz k hk => ⟨(h.hF z hz k hk).1, Nat.lt_of_lt_of_le (h.hF z hz k hk).2 hb.size⟩, h.hy⟩
theorem MapAt.drew {wr : World} {b : Nat} {zs : List (Bs × En)} {m : List (Bs × Y)} (h : MapAt wr b zs m) : MapAt wr.drew b zs m := h.move (below_drew (Below.refl _ _))
theorem MapAt.put {W w3 w4 : World} {b : Nat} {zs : List (Bs × En)} {m : List (Bs × Y)} (h : MapAt W b zs m) (hb3 : Below W.heap.size W w3) {v : Value} {y : Y} (hA : AR w3 v y (fun k => W.heap.size ≤ k ∧ k < w3.heap.size)) (key : Bs)
  (hm4 : MapA w4 b (mput (zs.map (fun z => (z.1, z.2.1))) key v)) (hg : w3.grownBy w4 (some b)) : MapAt w4 b (mput zs key (v, y, fun k => W.heap.size ≤ k ∧ k < w3.heap.size)) (mput m key y) := by
 have hlt := h.lt
 have mv : ∀ {v y F}, AR w3 v y F → (∀ k, F k → b < k ∧ k < w3.heap.size) → AR w4 v y F := fun hA hF => hA.move (fun k hk => hg.block k (hF k hk).2 (fun e => by injection e with e; have := (hF k hk).1; omega))
 have h3 := h.move hb3
 refine ⟨?_, fun z hz => ?_, ?_, fun z hz k hk => ?_, ?_⟩
 ·rw [mput_map (fun e : En => e.1)]
  exact hm4
 ·rcases mput_mem hz with rfl | hz
  ·exact mv hA (fun k hk => ⟨by omega, hk.2⟩)
  ·exact mv (h3.hz z hz) (h3.hF z hz)
 ·refine mput_pair (fun a b hab k hk hk2 => hab k hk2 hk) h.hd (fun p hp k hk hk2 => ?_)
  have h1 := (h.hF p hp k hk2).2
  have h2 : W.heap.size ≤ k := hk.1
  omega
 ·rcases mput_mem hz with rfl | hz
  ·have h2 : W.heap.size ≤ k := hk.1
   have h3 : k < w3.heap.size := hk.2
   have := hg.size
   exact ⟨by omega, by omega⟩
  ·have h5 := h3.hF z hz k hk
   have := hg.size
   exact ⟨h5.1, by omega⟩
 ·rw [mput_map (fun e : En => e.2.1), ← h.hy]
theorem MapAt.done {wr : World} {b : Nat} {zs : List (Bs × En)} {m : List (Bs × Y)} (h : MapAt wr b zs m) : AR wr (.iface 65 (.map (some b))) (.map m) (fun k => b ≤ k ∧ k < wr.heap.size) :=
 .map b zs m _ h.hy.symm h.hm h.hz h.hd ⟨⟨Nat.le_refl _, h.lt⟩, fun z hz hk => by have := (h.hF z hz b hk).1; omega⟩ (fun z hz k hk => ⟨Nat.le_of_lt (h.hF z hz k hk).1, (h.hF z hz k hk).2⟩)
theorem MapAt.length {wr : World} {b : Nat} {zs : List (Bs × En)} {m : List (Bs × Y)} (h : MapAt wr b zs m) : (zs.map (fun z => (z.1, z.2.1))).length = m.length := by rw [← h.hy, List.length_map, List.length_map]
end Go.Proofs.Ytaembebbaejfiaa.Tr
namespace Go.Proofs.Ytaembebbaejfiaa.Tr
open Go.RowKit Go.Proofs.YtaembebbaejfiaaW.PrintWords Go.Proofs.YtaembebbaejfiaaW.PrintLast Go.Proofs.Ytaembebbaejfiaa.Str Go.Proofs.Ytaembebbaejfiaa.Kit Go.Proofs.Ytaembebbaejfiaa.MapV Go.Proofs.Ytaembebbaejfiaa.Frame Go.Proofs.Ytaembebbaejfiaa.PS
set_option linter.unusedVariables false
set_option linter.unusedSimpArgs false
mutual
def valOf : Y → VI
 | .null => ⟨0, 0, ⟨#[]⟩, [], []⟩
 | .bool b => ⟨1, if b then 1 else 0, ⟨#[]⟩, [], []⟩
 | .int n => ⟨2, n, ⟨#[]⟩, [], []⟩
 | .text s => ⟨3, 0, s, [], []⟩
 | .list l => ⟨4, 0, ⟨#[]⟩, [], valL l⟩
 | .map m => ⟨5, 0, ⟨#[]⟩, m.map (fun p => ⟨p.1.toArray⟩), valM m⟩
def valL : List Y → List VI
 | [] => []
 | y :: r => valOf y :: valL r
def valM : List (Bs × Y) → List VI
 | [] => []
 | p :: r => valP p :: valM r
def valP : Bs × Y → VI
 | (_, y) => valOf y
end
theorem valL_map : ∀ l, valL l = l.map valOf
 | [] => by simp [valL]
 | y :: r => by simp [valL, valL_map r]
theorem valM_map : ∀ m, valM m = m.map (fun p => valOf p.2)
 | [] => by simp [valM]
 | (k, y) :: r => by simp [valM, valP, valM_map r]
def Told (w : World) (x : VI) (e : Ending) (w' : World) : Prop := ∃ v3 v4, e = .returned (.tuple #[.agg #[.int .i64 x.f0, .int .i64 x.f1, .string x.f2, v3, v4], .bool true]) ∧ Kd.string.R 9 w' w.heap.size (fun _ => True) v3 x.f3 ∧ kI.R 36 w' w.heap.size (fun _ => True) v4 x.f4 ∧ Below w.heap.size w w'
def zI : Array Value := #[.int .i64 0, .int .i64 0, .string ⟨#[]⟩, .slice none 0 0, .slice none 0 0]
section
theorem t_bool (v : Value) (w : World) : (Instr.typeAssert (.iface 4 v) 20 4 true).run Try.prog w = .ok (.tuple #[v, .bool true]) w := by kernel_rfl
theorem t_int_bool (v : Value) (w : World) : (Instr.typeAssert (.iface 3 v) 20 4 true).run Try.prog w = .ok (.tuple #[.bool false, .bool false]) w := by kernel_rfl
theorem t_int (v : Value) (w : World) : (Instr.typeAssert (.iface 3 v) 20 3 true).run Try.prog w = .ok (.tuple #[v, .bool true]) w := by kernel_rfl
theorem t_str_bool (v : Value) (w : World) : (Instr.typeAssert (.iface 9 v) 20 4 true).run Try.prog w = .ok (.tuple #[.bool false, .bool false]) w := by kernel_rfl
theorem t_str_int (v : Value) (w : World) : (Instr.typeAssert (.iface 9 v) 20 3 true).run Try.prog w = .ok (.tuple #[.int .i64 0, .bool false]) w := by kernel_rfl
theorem t_str_i64 (v : Value) (w : World) : (Instr.typeAssert (.iface 9 v) 20 2 true).run Try.prog w = .ok (.tuple #[.int .i64 0, .bool false]) w := by kernel_rfl
theorem t_str_u64 (v : Value) (w : World) : (Instr.typeAssert (.iface 9 v) 20 71 true).run Try.prog w = .ok (.tuple #[.int .u64 0, .bool false]) w := by kernel_rfl
theorem t_str (v : Value) (w : World) : (Instr.typeAssert (.iface 9 v) 20 9 true).run Try.prog w = .ok (.tuple #[v, .bool true]) w := by kernel_rfl
end
theorem told_leaf {fn : Func} (hr : fn.results = #[.cell 2 36, .tmp 3]) {tmps : Array Value} {w W : World} {k n : Int} {t : BA} (hp : tmps.getD 2 undef = .pointer (some ⟨w.heap.size, 0, none⟩)) (h3 : tmps.getD 3 undef = .bool true) (hb : W.heap[w.heap.size]? = some (.cells #[.int .i64 k, .int .i64 n, .string t, .slice none 0 0, .slice none 0 0] 36 (0, 0))) :
  (results fn tmps).run Try.prog W = .ok (.tuple #[.agg #[.int .i64 k, .int .i64 n, .string t, .slice none 0 0, .slice none 0 0], .bool true]) W := by
 have := results_ct (P := Try.prog) hr tmps W w.heap.size 36 _ (0, 0) _ hp hb Try.underlying36 rfl ival_size
 rw [h3] at this
 exact this
set_option maxHeartbeats 800000 in
theorem from_null (w : World) : Calls Try.prog 42 #[.nilIface] w (Told w (valOf .null)) := by
 have h0 := cb_new w (.cells #[.int .i64 0, .int .i64 0, .string ⟨#[]⟩, .slice none 0 0, .slice none 0 0] 36)
 have HB := aM (below_alloc (Below.refl w.heap.size w) (.cells #[.int .i64 0, .int .i64 0, .string ⟨#[]⟩, .slice none 0 0, .slice none 0 0] 36))
 go_enter Try.func42, Try.ntmps42
 go_wp2_with (refine store_ival (.tmp 2) (.tmp 18) rfl rfl rfl rfl h0 ?_)
 have h1 := setRow_heap _ w.heap.size _ #[.int .i64 0, .int .i64 0, .string ⟨#[]⟩, .slice none 0 0, .slice none 0 0] _ _ h0
 have hB := pw_below_grown HB.out (some w.heap.size) HB.out.size (grown_setRow _ w.heap.size #[.int .i64 0, .int .i64 0, .string ⟨#[]⟩, .slice none 0 0, .slice none 0 0]) (fun k hk => by injection hk with hk; have h2 : w.heap.size = k := hk; omega)
 exact bodyPost_ret (v := .tuple #[.agg #[.int .i64 0, .int .i64 0, .string ⟨#[]⟩, .slice none 0 0, .slice none 0 0], .bool true]) (told_leaf rfl rfl rfl h1) rfl ⟨.slice none 0 0, .slice none 0 0, by simp [valOf], by simp only [valOf]; exact Kd.R_nil _ _ _ _ _, by simp only [valOf]; exact Kd.R_nil _ _ _ _ _, hB⟩
set_option maxHeartbeats 800000 in
theorem from_btrue (w : World) : Calls Try.prog 42 #[(.iface 4 (.bool true))] w (Told w (valOf (.bool true))) := by
 have f0 := t_bool
 have h0 := cb_new w (.cells #[.int .i64 0, .int .i64 0, .string ⟨#[]⟩, .slice none 0 0, .slice none 0 0] 36)
 have HB := aM (below_alloc (Below.refl w.heap.size w) (.cells #[.int .i64 0, .int .i64 0, .string ⟨#[]⟩, .slice none 0 0, .slice none 0 0] 36))
 go_enter Try.func42, Try.ntmps42
 go_wp2_with (refine store_ival (.tmp 2) (.tmp 23) rfl rfl rfl rfl h0 ?_)
 have h1 := setRow_heap _ w.heap.size _ #[.int .i64 1, .int .i64 1, .string ⟨#[]⟩, .slice none 0 0, .slice none 0 0] _ _ h0
 have hB := pw_below_grown HB.out (some w.heap.size) HB.out.size (grown_setRow _ w.heap.size #[.int .i64 1, .int .i64 1, .string ⟨#[]⟩, .slice none 0 0, .slice none 0 0]) (fun k hk => by injection hk with hk; have h2 : w.heap.size = k := hk; omega)
 exact bodyPost_ret (v := .tuple #[.agg #[.int .i64 1, .int .i64 1, .string ⟨#[]⟩, .slice none 0 0, .slice none 0 0], .bool true]) (told_leaf rfl rfl rfl h1) rfl ⟨.slice none 0 0, .slice none 0 0, by simp [valOf], by simp only [valOf]; exact Kd.R_nil _ _ _ _ _, by simp only [valOf]; exact Kd.R_nil _ _ _ _ _, hB⟩
set_option maxHeartbeats 800000 in
theorem from_bfalse (w : World) : Calls Try.prog 42 #[(.iface 4 (.bool false))] w (Told w (valOf (.bool false))) := by
 have f0 := t_bool
 have h0 := cb_new w (.cells #[.int .i64 0, .int .i64 0, .string ⟨#[]⟩, .slice none 0 0, .slice none 0 0] 36)
 have HB := aM (below_alloc (Below.refl w.heap.size w) (.cells #[.int .i64 0, .int .i64 0, .string ⟨#[]⟩, .slice none 0 0, .slice none 0 0] 36))
 go_enter Try.func42, Try.ntmps42
 go_wp2_with (refine store_ival (.tmp 2) (.tmp 24) rfl rfl rfl rfl h0 ?_)
 have h1 := setRow_heap _ w.heap.size _ #[.int .i64 1, .int .i64 0, .string ⟨#[]⟩, .slice none 0 0, .slice none 0 0] _ _ h0
 have hB := pw_below_grown HB.out (some w.heap.size) HB.out.size (grown_setRow _ w.heap.size #[.int .i64 1, .int .i64 0, .string ⟨#[]⟩, .slice none 0 0, .slice none 0 0]) (fun k hk => by injection hk with hk; have h2 : w.heap.size = k := hk; omega)
 exact bodyPost_ret (v := .tuple #[.agg #[.int .i64 1, .int .i64 0, .string ⟨#[]⟩, .slice none 0 0, .slice none 0 0], .bool true]) (told_leaf rfl rfl rfl h1) rfl ⟨.slice none 0 0, .slice none 0 0, by simp [valOf], by simp only [valOf]; exact Kd.R_nil _ _ _ _ _, by simp only [valOf]; exact Kd.R_nil _ _ _ _ _, hB⟩
set_option maxHeartbeats 800000 in
theorem from_int (n : Int) (w : World) : Calls Try.prog 42 #[(.iface 3 (.int .i64 n))] w (Told w (valOf (.int n))) := by
 have f0 := t_int_bool
 have f1 := t_int
 have h0 := cb_new w (.cells #[.int .i64 0, .int .i64 0, .string ⟨#[]⟩, .slice none 0 0, .slice none 0 0] 36)
 have HB := aM (below_alloc (Below.refl w.heap.size w) (.cells #[.int .i64 0, .int .i64 0, .string ⟨#[]⟩, .slice none 0 0, .slice none 0 0] 36))
 go_enter Try.func42, Try.ntmps42
 go_wp2_with (refine store_ival (.tmp 2) (.tmp 29) rfl rfl rfl rfl h0 ?_)
 have h1 := setRow_heap _ w.heap.size _ #[.int .i64 2, .int .i64 n, .string ⟨#[]⟩, .slice none 0 0, .slice none 0 0] _ _ h0
 have hB := pw_below_grown HB.out (some w.heap.size) HB.out.size (grown_setRow _ w.heap.size #[.int .i64 2, .int .i64 n, .string ⟨#[]⟩, .slice none 0 0, .slice none 0 0]) (fun k hk => by injection hk with hk; have h2 : w.heap.size = k := hk; omega)
 exact bodyPost_ret (v := .tuple #[.agg #[.int .i64 2, .int .i64 n, .string ⟨#[]⟩, .slice none 0 0, .slice none 0 0], .bool true]) (told_leaf rfl rfl rfl h1) rfl ⟨.slice none 0 0, .slice none 0 0, by simp [valOf], by simp only [valOf]; exact Kd.R_nil _ _ _ _ _, by simp only [valOf]; exact Kd.R_nil _ _ _ _ _, hB⟩
set_option maxHeartbeats 800000 in
theorem from_text (s : BA) (w : World) : Calls Try.prog 42 #[(.iface 9 (.string s))] w (Told w (valOf (.text s))) := by
 have f0 := t_str_bool
 have f1 := t_str_int
 have f2 := t_str_i64
 have f3 := t_str_u64
 have f4 := t_str
 have h0 := cb_new w (.cells #[.int .i64 0, .int .i64 0, .string ⟨#[]⟩, .slice none 0 0, .slice none 0 0] 36)
 have HB := aM (below_alloc (Below.refl w.heap.size w) (.cells #[.int .i64 0, .int .i64 0, .string ⟨#[]⟩, .slice none 0 0, .slice none 0 0] 36))
 go_enter Try.func42, Try.ntmps42
 go_wp2_with (refine store_ival (.tmp 2) (.tmp 45) rfl rfl rfl rfl h0 ?_)
 have h1 := setRow_heap _ w.heap.size _ #[.int .i64 3, .int .i64 0, .string s, .slice none 0 0, .slice none 0 0] _ _ h0
 have hB := pw_below_grown HB.out (some w.heap.size) HB.out.size (grown_setRow _ w.heap.size #[.int .i64 3, .int .i64 0, .string s, .slice none 0 0, .slice none 0 0]) (fun k hk => by injection hk with hk; have h2 : w.heap.size = k := hk; omega)
 exact bodyPost_ret (v := .tuple #[.agg #[.int .i64 3, .int .i64 0, .string s, .slice none 0 0, .slice none 0 0], .bool true]) (told_leaf rfl rfl rfl h1) rfl ⟨.slice none 0 0, .slice none 0 0, by simp [valOf], by simp only [valOf]; exact Kd.R_nil _ _ _ _ _, by simp only [valOf]; exact Kd.R_nil _ _ _ _ _, hB⟩
end Go.Proofs.Ytaembebbaejfiaa.Tr
namespace Go.Proofs.Ytaembebbaejfiaa.Tr
open Go.RowKit Go.Proofs.YtaembebbaejfiaaW.PrintWords Go.Proofs.YtaembebbaejfiaaW.PrintLast Go.Proofs.Ytaembebbaejfiaa.Str Go.Proofs.Ytaembebbaejfiaa.Kit Go.Proofs.Ytaembebbaejfiaa.MapV Go.Proofs.Ytaembebbaejfiaa.Frame Go.Proofs.Ytaembebbaejfiaa.PS
set_option linter.unusedVariables false
set_option linter.unusedSimpArgs false
theorem kAny_at {w : World} {A : Option Addr} {xs : List Value} (h : kAny.C w A xs.length xs) (h0 : 0 < xs.length) :
  ∃ bk off, A = some ⟨bk, off, none⟩ ∧ bk < w.heap.size ∧ ∀ (j : Nat) (hj : j < xs.length), w.cell? ⟨bk, off + j, none⟩ = some xs[j] := by
 obtain ⟨hl, hm, hc⟩ := h
 obtain ⟨ad, rfl, hcc⟩ := hc h0
 have cell : ∀ (j : Nat) (hj : j < xs.length), w.cell? (ad.add j) = some xs[j] := by
  intro j hj
  obtain ⟨c, hcl, hr, hcell⟩ := hcc j xs[j] (List.getElem?_eq_getElem hj)
  have hr' : c = [xs[j]] := hr.1
  subst hr'
  have := hcell 0 _ rfl
  rw [show j * kAny.sz + 0 = j from by show j * 1 + 0 = j; omega] at this
  exact this
 have c0 := cell 0 h0
 obtain ⟨bk, off, spot⟩ := ad
 have hspot : spot = none := by
  cases hs : spot with
  | none => rfl
  | some sp =>
   exfalso
   subst hs
   simp [World.cell?, Addr.add] at c0
   split at c0 <;> simp at c0
 subst hspot
 have add : ∀ j : Nat, (⟨bk, off, none⟩ : Addr).add j = ⟨bk, off + j, none⟩ := by intro j; unfold Addr.add; split <;> simp_all
 refine ⟨bk, off, rfl, ?_, fun j hj => (add j) ▸ cell j hj⟩
 rw [add] at c0
 by_cases hb : bk < w.heap.size
 ·exact hb
 ·simp [World.cell?, Array.getElem?_eq_none (Nat.le_of_not_lt hb)] at c0
def FromAt (y : Y) : Prop := ∀ (v : Value) (F : Nat → Prop) (w : World), AR w v y F → Calls Try.prog 42 #[v] w (Told w (valOf y))
theorem t_lst_bool (v : Value) (w : World) : (Instr.typeAssert (.iface 58 v) 20 4 true).run Try.prog w = .ok (.tuple #[.bool false, .bool false]) w := by kernel_rfl
theorem t_lst_int (v : Value) (w : World) : (Instr.typeAssert (.iface 58 v) 20 3 true).run Try.prog w = .ok (.tuple #[.int .i64 0, .bool false]) w := by kernel_rfl
theorem t_lst_i64 (v : Value) (w : World) : (Instr.typeAssert (.iface 58 v) 20 2 true).run Try.prog w = .ok (.tuple #[.int .i64 0, .bool false]) w := by kernel_rfl
theorem t_lst_u64 (v : Value) (w : World) : (Instr.typeAssert (.iface 58 v) 20 71 true).run Try.prog w = .ok (.tuple #[.int .u64 0, .bool false]) w := by kernel_rfl
theorem t_lst_str (v : Value) (w : World) : (Instr.typeAssert (.iface 58 v) 20 9 true).run Try.prog w = .ok (.tuple #[.string ⟨#[]⟩, .bool false]) w := by kernel_rfl
theorem t_lst (v : Value) (w : World) : (Instr.typeAssert (.iface 58 v) 20 58 true).run Try.prog w = .ok (.tuple #[v, .bool true]) w := by kernel_rfl
theorem info_iv : (Try.prog.info? 36).map (fun i => (i.zero, i.size, i.bytes)) = some (some (.agg #[.int .i64 0, .int .i64 0, .string ⟨#[]⟩, .slice none 0 0, .slice none 0 0]), 5, 80) := by kernel_rfl
theorem told_row {fn : Func} (hr : fn.results = #[.cell 2 36, .tmp 3]) {tmps : Array Value} {W : World} {b n3 c3 n4 c4 : Nat} {k n : Int} {t : BA} {A3 A4 : Option Addr} (hp : tmps.getD 2 undef = .pointer (some ⟨b, 0, none⟩)) (h3 : tmps.getD 3 undef = .bool true) (hb : W.heap[b]? = some (.cells #[.int .i64 k, .int .i64 n, .string t, .slice A3 n3 c3, .slice A4 n4 c4] 36 (0, 0))) :
  (results fn tmps).run Try.prog W = .ok (.tuple #[.agg #[.int .i64 k, .int .i64 n, .string t, .slice A3 n3 c3, .slice A4 n4 c4], .bool true]) W := by
 have := results_ct (P := Try.prog) hr tmps W b 36 _ (0, 0) _ hp hb Try.underlying36 rfl ival_size
 rw [h3] at this
 exact this
set_option maxHeartbeats 6400000 in
set_option maxRecDepth 100000 in
theorem from_list (zs : List En) (A : Option Addr) (c : Nat) (w : World) (hn : zs.length ≤ 1759218604400) (hC : kAny.C w A zs.length (zs.map (fun z => z.1))) (hz : ∀ z, z ∈ zs → AR w z.1 z.2.1 z.2.2) (hch : ∀ z, z ∈ zs → FromAt z.2.1) :
  Calls Try.prog 42 #[.iface 58 (.slice A zs.length c)] w (Told w (valOf (.list (zs.map (fun z => z.2.1))))) := by
 have f0 := t_lst_bool
 have f1 := t_lst_int
 have f2 := t_lst_i64
 have f3 := t_lst_u64
 have f4 := t_lst_str
 have f5 := t_lst
 have HC := aM hC
 have HZ := aM hz
 have HCH := aM hch
 have hb0 := below_alloc (Below.refl w.heap.size w) (.cells #[.int .i64 0, .int .i64 0, .string ⟨#[]⟩, .slice none 0 0, .slice none 0 0] 36)
 have HB0 := aM (below_alloc hb0 (.cells #[.int .i64 0, .int .i64 0, .string ⟨#[]⟩, .slice none 0 0, .slice none 0 0] 36))
 have HZ0 := aM (show ((w.alloc (.cells #[.int .i64 0, .int .i64 0, .string ⟨#[]⟩, .slice none 0 0, .slice none 0 0] 36)).alloc (.cells #[.int .i64 0, .int .i64 0, .string ⟨#[]⟩, .slice none 0 0, .slice none 0 0] 36)).heap[w.heap.size]? = some (.cells zI 36 (0, 0)) from blk_alloc (cb_new _ _) _)
 have h1 := cb_new (w.alloc (.cells #[.int .i64 0, .int .i64 0, .string ⟨#[]⟩, .slice none 0 0, .slice none 0 0] 36)) (.cells #[.int .i64 0, .int .i64 0, .string ⟨#[]⟩, .slice none 0 0, .slice none 0 0] 36)
 rw [World.size_alloc] at h1
 clear hC hz hch hb0
 go_enter Try.func42, Try.ntmps42
 go_wp2_with (refine store_ival (.tmp 11) (.tmp 49) rfl rfl rfl rfl h1 ?_)
 have HX1 := aM (setRow_heap _ (w.heap.size + 1) _ #[.int .i64 4, .int .i64 0, .string ⟨#[]⟩, .slice none 0 0, .slice none 0 0] _ _ h1)
 have hg := grown_setRow ((w.alloc (.cells #[.int .i64 0, .int .i64 0, .string ⟨#[]⟩, .slice none 0 0, .slice none 0 0] 36)).alloc (.cells #[.int .i64 0, .int .i64 0, .string ⟨#[]⟩, .slice none 0 0, .slice none 0 0] 36)) (w.heap.size + 1) #[.int .i64 4, .int .i64 0, .string ⟨#[]⟩, .slice none 0 0, .slice none 0 0]
 have HB1 := aM (pw_below_grown HB0.out (some (w.heap.size + 1)) HB0.out.size hg (fun k hk => by injection hk with hk; have h2 : w.heap.size + 1 = k := hk; omega))
 have HZ1 := aM ((hg.block w.heap.size (cb_lt HZ0.out) (fun e => by injection e with e; omega)).trans HZ0.out)
 clear hg h1 HB0 HZ0
 go_loopw [52, 12, 13, 14] (fun v52 v12 v13 v14 wr => ∃ (i : Nat) (A2 : Option Addr) (c2 : Nat), v52 = .int .i64 i ∧ i ≤ zs.length ∧ Aside0 (wr.heap[w.heap.size + 1]? = some (.cells #[.int .i64 4, .int .i64 0, .string ⟨#[]⟩, .slice none 0 0, .slice A2 i c2] 36 (0, 0))) ∧ Aside0 (kI.R 36 wr (w.heap.size + 2) (fun _ => True) (.slice A2 i c2) ((zs.take i).map (fun z => valOf z.2.1))) ∧ Aside0 (Below w.heap.size w wr) ∧ Aside0 (wr.heap[w.heap.size]? = some (.cells zI 36 (0, 0)))) (fun v52 _ _ _ _ => zs.length - (intOf v52).toNat)
 case atStart => exact ⟨0, none, 0, rfl, by omega, HX1, ⟨Kd.R_nil _ _ _ _ _⟩, HB1, HZ1⟩
 case round =>
  clear HX1 HB1 HZ1
  obtain ⟨i, A2, c2, rfl, hiv, HX, HR, HB, HZ0⟩ := hrel
  have q0 : (0 : Int) ≤ (i : Int) := by omega
  by_cases hlv : i < zs.length
  ·have q2 : (i : Int) < (zs.length : Int) := by omega
   have hl0 : (zs.map (fun z => z.1)).length = zs.length := List.length_map ..
   obtain ⟨vb, vo, rfl, hvb, hvc⟩ := kAny_at (A := A) (xs := zs.map (fun z => z.1)) (by rw [hl0]; exact HC.out) (by omega)
   have e0 : w.cell? ⟨vb, vo + i, none⟩ = some (zs[i]'hlv).1 := by
    have h := hvc i (by omega)
    rw [List.getElem_map] at h
    exact h
   have y0 := pw_cell_below HB.out e0
   have CA := aM (fun (W : World) (hb : Below w.heap.size w W) => HCH.out zs[i] (List.getElem_mem hlv) zs[i].1 _ W ((HZ.out zs[i] (List.getElem_mem hlv)).keep hb))
   clear hvc e0 hl0
   go_wp2_with fail
   refine (CA.out wr HB.out).mono ?_
   rintro e w3 ⟨v3, v4, rfl, hv3, hv4, hb3⟩
   have HXE := aM (show (zs.take (i + 1)).map (fun z => valOf z.2.1) = (zs.take i).map (fun z => valOf z.2.1) ++ [valOf (zs[i]'hlv).2.1] by rw [List.take_succ_eq_append_getElem hlv, List.map_append]; rfl)
   generalize valOf (zs[i]'hlv).2.1 = x at hv3 hv4 HXE
   obtain ⟨x0, x1, x2, x3, x4⟩ := x
   obtain ⟨A3, c3, rfl⟩ := Kd.R_slice hv3
   obtain ⟨A4, c4, rfl⟩ := Kd.R_slice hv4
   have hW := below_alloc hb3 (.cells #[.int .i64 0, .int .i64 0, .string ⟨#[]⟩, .slice none 0 0, .slice none 0 0] 36)
   have h5 := cb_new w3 (.cells #[.int .i64 0, .int .i64 0, .string ⟨#[]⟩, .slice none 0 0, .slice none 0 0] 36)
   have hg5 := grown_setRow (w3.alloc (.cells #[.int .i64 0, .int .i64 0, .string ⟨#[]⟩, .slice none 0 0, .slice none 0 0] 36)) w3.heap.size #[.int .i64 x0, .int .i64 x1, .string x2, .slice A3 x3.length c3, .slice A4 x4.length c4]
   have hb5 := pw_below_grown hW (some w3.heap.size) hW.size hg5 (fun k hk => by injection hk with hk; have := hb3.size; omega)
   have h6 := setRow_heap _ w3.heap.size _ #[.int .i64 x0, .int .i64 x1, .string x2, .slice A3 x3.length c3, .slice A4 x4.length c4] _ _ h5
   have hm5 : ∀ k, k < w3.heap.size → ((w3.alloc (.cells #[.int .i64 0, .int .i64 0, .string ⟨#[]⟩, .slice none 0 0, .slice none 0 0] 36)).setRow w3.heap.size #[.int .i64 x0, .int .i64 x1, .string x2, .slice A3 x3.length c3, .slice A4 x4.length c4]).heap[k]? = w3.heap[k]? := fun k hk => (hg5.block k (by rw [World.size_alloc]; omega) (fun e => by injection e with e; omega)).trans ((below_alloc (Below.refl w3.heap.size w3) _).block k hk)
   have HX5 := aM ((hb5.block _ (cb_lt HX.out)).trans HX.out)
   have x4_ := cb_cell (i := 4) HX5.out rfl
   have HZ5 := aM ((hb5.block _ (cb_lt HZ0.out)).trans HZ0.out)
   have HR5 := aM (Kd.R_below HR.out hb5)
   have HB5 := aM (hb_then HB.out hb5)
   have HM := aM (k36_mkM ((w3.alloc (.cells #[.int .i64 0, .int .i64 0, .string ⟨#[]⟩, .slice none 0 0, .slice none 0 0] 36)).setRow w3.heap.size #[.int .i64 x0, .int .i64 x1, .string x2, .slice A3 x3.length c3, .slice A4 x4.length c4]) (w.heap.size + 2) (fun k => wr.heap.size ≤ k ∧ k < w3.heap.size) ⟨x0, x1, x2, x3, x4⟩
    (Kd.R_lower (Kd.R_move (Kd.R_mono (ok' := fun k => wr.heap.size ≤ k ∧ k < w3.heap.size) (Kd.R_bound hv3) (fun k hk => ⟨hk.2.1, hk.2.2.1⟩)) (fun k hk => hm5 k hk.2)) (by have := cb_lt HX.out; omega))
    (Kd.R_lower (Kd.R_move (Kd.R_mono (ok' := fun k => wr.heap.size ≤ k ∧ k < w3.heap.size) (Kd.R_bound hv4) (fun k hk => ⟨hk.2.1, hk.2.2.1⟩)) (fun k hk => hm5 k hk.2)) (by have := cb_lt HX.out; omega)))
   have HOK := aM (show ∀ k, wr.heap.size ≤ k ∧ k < w3.heap.size → True ∧ some k ≠ (Value.slice A2 i c2).ownBlock from fun k hk => ⟨trivial, fun e => by have := ((Kd.R_bound HR.out).1 k e.symm).2.2.1; omega⟩)
   have hsz := cb_lt HX5.out
   clear hv3 hv4 hW hg5 hb5 hm5 HX HR HB HZ0
   go_wp2_with (first | (refine store_ival (.tmp 13) (.tmp 61) rfl rfl rfl rfl h5 ?_; generalize (w3.alloc (.cells #[.int .i64 0, .int .i64 0, .string ⟨#[]⟩, .slice none 0 0, .slice none 0 0] 36)).setRow w3.heap.size #[.int .i64 x0, .int .i64 x1, .string x2, .slice A3 x3.length c3, .slice A4 x4.length c4] = W5 at h6 x4_ HX5 HZ5 HR5 HB5 HM hsz ⊢; clear h5) | refine load_ival (.tmp 13) rfl rfl rfl h6 ?_ | refine Kd.R_append kI (w0 := W5) (w.heap.size + 2) rfl (.tmp 67) (.tmp 69) 34 36 (.agg #[.int .i64 0, .int .i64 0, .string ⟨#[]⟩, .slice none 0 0, .slice none 0 0]) 80 rfl Try.underlying34 info_iv rfl (show 0 < 5 by decide) (by decide) (.slice A2 i c2) ((zs.take i).map (fun z => valOf z.2.1)) ⟨x0, x1, x2, x3, x4⟩ _ (fun _ => True) _ rfl rfl HM.out HOK.out (fun _ _ => trivial) HR5.out (Below.refl _ _) (by omega) (by rw [List.length_map, List.length_take]; omega) ?_)
   intro v1 w6 ho hb6 hg6 hat
   rw [← List.map_take, ← HXE.out] at ho
   have hlen : ((zs.take (i + 1)).map (fun z => valOf z.2.1)).length = i + 1 := by rw [List.length_map, List.length_take]; omega
   obtain ⟨A5, c5, rfl⟩ := Kd.R_slice ho
   rw [hlen] at ho hat ⊢
   have hB6 := pw_below_grown HB5.out (Value.slice A2 i c2).ownBlock HB5.out.size hg6 (fun k hk => by have := Kd.R_base HR5.out k hk; omega)
   have hX6 := (hb6.block (w.heap.size + 1) (by omega)).trans HX5.out
   have hZ6 := (hb6.block w.heap.size (by omega)).trans HZ5.out
   have HX7 := aM (cb_set hX6 (i := 4) (.slice A5 (i + 1) c5))
   have hg7 := grown_setCell w6 (w.heap.size + 1) 4 (.slice A5 (i + 1) c5)
   have HB7 := aM (pw_below_grown hB6 (some (w.heap.size + 1)) hB6.size hg7 (fun k hk => by injection hk with hk; omega))
   have HZ7 := aM ((hg7.block w.heap.size (cb_lt hZ6) (fun e => by injection e with e; omega)).trans hZ6)
   have HR7 := aM (Kd.R_mono (ok' := fun _ => True) (Kd.R_move (Kd.R_bound ho) (fun k hk => hg7.block k hk.2.2.1 (fun e => by have h2 := Option.some.inj e; have h3 := hk.2.1; omega))) (fun _ _ => trivial))
   have y4 := cb_cell (i := 4) hX6 rfl
   have y5 := cb_frozen (i := 4) hX6
   clear ho hat hlen hB6 hX6 hZ6 hb6 hg6 hg7 HX5 HZ5 HR5 HB5 HM HOK HXE CA x4_ h6 hsz
   go_wp2
   go_roundw
   case rel => exact ⟨i + 1, A5, c5, by go_num, by omega, HX7, HR7, HB7, HZ7⟩
   case measure => simp [intOf]; omega
  ·have hin : i = zs.length := by omega
   subst hin
   have hg8 := grown_setRow wr w.heap.size #[.int .i64 4, .int .i64 0, .string ⟨#[]⟩, .slice none 0 0, .slice A2 zs.length c2]
   have HX8 := aM (setRow_heap _ w.heap.size _ #[.int .i64 4, .int .i64 0, .string ⟨#[]⟩, .slice none 0 0, .slice A2 zs.length c2] _ _ HZ0.out)
   have HB8 := aM (pw_below_grown HB.out (some w.heap.size) HB.out.size hg8 (fun k hk => by injection hk with hk; omega))
   have hR := HR.out
   rw [List.take_length] at hR
   have HR8 := aM (Kd.R_lower (base' := w.heap.size) (Kd.R_mono (ok' := fun _ => True) (Kd.R_move (Kd.R_bound hR) (fun k hk => hg8.block k hk.2.2.1 (fun e => by have h2 := Option.some.inj e; have h3 := hk.2.1; omega))) (fun _ _ => trivial)) (by omega))
   have h11 := HX.out
   have h2 := HZ0.out
   clear hR hg8
   go_wp2_with (first | refine load_ival (.tmp 11) rfl rfl rfl h11 ?_ | refine store_ival (.tmp 2) (.tmp 73) rfl rfl rfl rfl h2 ?_)
   exact bodyPost_ret (v := .tuple #[.agg #[.int .i64 4, .int .i64 0, .string ⟨#[]⟩, .slice none 0 0, .slice A2 zs.length c2], .bool true]) (told_row rfl rfl rfl HX8.out) rfl ⟨.slice none 0 0, .slice A2 zs.length c2, by simp [valOf], by simp only [valOf]; exact Kd.R_nil _ _ _ _ _, by simp only [valOf]; rw [valL_map, List.map_map]; exact HR8.out, HB8.out⟩
end Go.Proofs.Ytaembebbaejfiaa.Tr
namespace Go.Proofs
open Go.Shelf
def Try.lays156_ren : Go.Shelf.Ren := ⟨fun | 156 => 52 | 165 => 58 | 166 => 59 | 169 => 60 | 240 => 63 | 241 => 64 | 276 => 67 | 277 => 68 | n => n, fun | 31 => 22 | 9 => 9 | 3 => 3 | 4 => 4 | 0 => 0 | 20 => 20 | 72 => 83 | 76 => 85 | 70 => 81 | 37 => 69 | 75 => 52 | 127 => 93 | 164 => 97 | 5 => 5 | 80 => 87 | n => n, fun | n => n⟩
theorem Try.lays156 : Go.Proofs.Lays.n156 Try.prog Try.lays156_ren := {
 mixed := by kernel_rfl
 f156 := Try.func52.trans (congrArg some (by kernel_rfl))
 f165 := Try.func58.trans (congrArg some (by kernel_rfl))
 f166 := Try.func59.trans (congrArg some (by kernel_rfl))
 f169 := Try.func60.trans (congrArg some (by kernel_rfl))
 f240 := Try.func63.trans (congrArg some (by kernel_rfl))
 f241 := Try.func64.trans (congrArg some (by kernel_rfl))
 f276 := Try.func67.trans (congrArg some (by kernel_rfl))
 f277 := Try.func68.trans (congrArg some (by kernel_rfl))
 t0 := Try.underlying0
 a0 := Try.isAgg0
 z0 := Try.sizeOf0
 v0 := Try.zeroValue0
 t3 := Try.underlying3
 a3 := Try.isAgg3
 z3 := Try.sizeOf3
 v3 := Try.zeroValue3
 t4 := Try.underlying4
 a4 := Try.isAgg4
 z4 := Try.sizeOf4
 v4 := Try.zeroValue4
 t9 := Try.underlying9
 a9 := Try.isAgg9
 z9 := Try.sizeOf9
 v9 := Try.zeroValue9
 t20 := Try.underlying20
 a20 := Try.isAgg20
 z20 := Try.sizeOf20
 v20 := Try.zeroValue20
 t31 := Try.underlying22
 a31 := Try.isAgg22
 z31 := Try.sizeOf22
 v31 := Try.zeroValue22
 t37 := Try.underlying69
 a37 := Try.isAgg69
 z37 := Try.sizeOf69
 v37 := Try.zeroValue69
 t70 := Try.underlying81
 a70 := Try.isAgg81
 z70 := Try.sizeOf81
 v70 := Try.zeroValue81
 t72 := Try.underlying83
 a72 := Try.isAgg83
 z72 := Try.sizeOf83
 v72 := Try.zeroValue83
 t75 := Try.underlying52
 a75 := Try.isAgg52
 z75 := Try.sizeOf52
 v75 := Try.zeroValue52
 t76 := Try.underlying85
 a76 := Try.isAgg85
 z76 := Try.sizeOf85
 v76 := Try.zeroValue85
 t127 := Try.underlying93
 a127 := Try.isAgg93
 z127 := Try.sizeOf93
 v127 := Try.zeroValue93
 t164 := Try.underlying97
 a164 := Try.isAgg97
 z164 := Try.sizeOf97
 v164 := Try.zeroValue97 }
theorem Try.Builder_Extra_156 : Builder.Extra Try.prog Try.lays156_ren := {
 sizeBuilder := by kernel_rfl
 liesBuilder := by kernel_rfl
 t5 := Try.underlying5
 a5 := Try.isAgg5
 z5 := Try.sizeOf5
 v5 := Try.zeroValue5
 infoByte := by kernel_rfl
 cellsByte := by kernel_rfl
 sizeByte := by kernel_rfl
 neB5 := by decide }
open Go.RowKit in
theorem Try.strings_Join_none (a : Option Addr) (c : Nat) (sep : ByteArray) (w : World) :
  Calls Try.prog 52 #[.slice a 0 c, .string sep] w fun e w' => e = .returned (.string ⟨#[]⟩) ∧ w' = w := Any.strings_Join_none Try.lays156 Try.Builder_Extra_156 a c sep w
open Go.RowKit in
theorem Try.strings_Join (bk o c : Nat) (xs : List ByteArray) (sep : ByteArray) (w : World) (hcells : ∀ (j : Nat) x, xs[j]? = some x → w.cell? ⟨bk, o + j, none⟩ = some (.string x)) (hbk : bk < w.heap.size) (hN : xs.length ≤ 140737488355328) (hcap : xs.length ≤ c) (hlen : (Lib.join (xs.map (·.data.toList)) sep.data.toList).length ≤ 140737488355328) :
  Calls Try.prog 52 #[.slice (some ⟨bk, o, none⟩) xs.length c, .string sep] w fun e w' => e = .returned (.string ⟨(Lib.join (xs.map (·.data.toList)) sep.data.toList).toArray⟩) ∧ Below w.heap.size w w' := Any.strings_Join Try.lays156 Try.Builder_Extra_156 bk o c xs sep w hcells hbk hN hcap hlen
def Try.lays192_ren : Go.Shelf.Ren := ⟨fun | 192 => 57 | 190 => 62 | 125 => 66 | 258 => 65 | 128 => 78 | 129 => 79 | 302 => 69 | 303 => 70 | 304 => 71 | 305 => 72 | 306 => 73 | 307 => 74 | 308 => 75 | 309 => 76 | 310 => 77 | 333 => 80 | 329 => 81 | 330 => 82 | 334 => 83 | 335 => 84 | 336 => 85 | 344 => 86 | n => n, fun | 31 => 22 | 0 => 0 | 9 => 9 | 3 => 3 | 46 => 96 | 51 => 109 | 53 => 71 | 4 => 4 | 183 => 102 | 182 => 101 | 131 => 62 | 5 => 5 | 218 => 111 | 222 => 115 | 228 => 117 | 229 => 118 | n => n, fun | n => n⟩
theorem Try.lays192 : Go.Proofs.Lays.n192 Try.prog Try.lays192_ren := {
 mixed := by kernel_rfl
 f125 := Try.func66.trans (congrArg some (by kernel_rfl))
 f128 := Try.func78.trans (congrArg some (by kernel_rfl))
 f129 := Try.func79.trans (congrArg some (by kernel_rfl))
 f190 := Try.func62.trans (congrArg some (by kernel_rfl))
 f192 := Try.func57.trans (congrArg some (by kernel_rfl))
 f258 := Try.func65.trans (congrArg some (by kernel_rfl))
 f302 := Try.func69.trans (congrArg some (by kernel_rfl))
 f303 := Try.func70.trans (congrArg some (by kernel_rfl))
 f304 := Try.func71.trans (congrArg some (by kernel_rfl))
 f305 := Try.func72.trans (congrArg some (by kernel_rfl))
 f306 := Try.func73.trans (congrArg some (by kernel_rfl))
 f307 := Try.func74.trans (congrArg some (by kernel_rfl))
 f308 := Try.func75.trans (congrArg some (by kernel_rfl))
 f309 := Try.func76.trans (congrArg some (by kernel_rfl))
 f310 := Try.func77.trans (congrArg some (by kernel_rfl))
 f329 := Try.func81.trans (congrArg some (by kernel_rfl))
 f330 := Try.func82.trans (congrArg some (by kernel_rfl))
 f333 := Try.func80.trans (congrArg some (by kernel_rfl))
 f334 := Try.func83.trans (congrArg some (by kernel_rfl))
 f335 := Try.func84.trans (congrArg some (by kernel_rfl))
 f336 := Try.func85.trans (congrArg some (by kernel_rfl))
 f344 := Try.func86.trans (congrArg some (by kernel_rfl))
 t0 := Try.underlying0
 a0 := Try.isAgg0
 z0 := Try.sizeOf0
 v0 := Try.zeroValue0
 t3 := Try.underlying3
 a3 := Try.isAgg3
 z3 := Try.sizeOf3
 v3 := Try.zeroValue3
 t4 := Try.underlying4
 a4 := Try.isAgg4
 z4 := Try.sizeOf4
 v4 := Try.zeroValue4
 t5 := Try.underlying5
 a5 := Try.isAgg5
 z5 := Try.sizeOf5
 v5 := Try.zeroValue5
 t9 := Try.underlying9
 a9 := Try.isAgg9
 z9 := Try.sizeOf9
 v9 := Try.zeroValue9
 t31 := Try.underlying22
 a31 := Try.isAgg22
 z31 := Try.sizeOf22
 v31 := Try.zeroValue22
 t46 := Try.underlying96
 a46 := Try.isAgg96
 z46 := Try.sizeOf96
 v46 := Try.zeroValue96
 t51 := Try.underlying109
 a51 := Try.isAgg109
 z51 := Try.sizeOf109
 v51 := Try.zeroValue109
 t53 := Try.underlying71
 a53 := Try.isAgg71
 z53 := Try.sizeOf71
 v53 := Try.zeroValue71
 t131 := Try.underlying62
 a131 := Try.isAgg62
 z131 := Try.sizeOf62
 v131 := Try.zeroValue62
 t182 := Try.underlying101
 a182 := Try.isAgg101
 z182 := Try.sizeOf101
 v182 := Try.zeroValue101
 t183 := Try.underlying102
 a183 := Try.isAgg102
 z183 := Try.sizeOf102
 v183 := Try.zeroValue102
 t218 := Try.underlying111
 a218 := Try.isAgg111
 z218 := Try.sizeOf111
 v218 := Try.zeroValue111
 t222 := Try.underlying115
 a222 := Try.isAgg115
 z222 := Try.sizeOf115
 v222 := Try.zeroValue115
 t228 := Try.underlying117
 a228 := Try.isAgg117
 z228 := Try.sizeOf117
 v228 := Try.zeroValue117
 t229 := Try.underlying118
 a229 := Try.isAgg118
 z229 := Try.sizeOf118
 v229 := Try.zeroValue118 }
open Go.Sort Go.RowKit in
theorem Try.sort_Strings (blk off cap : Nat) (ss : List (List UInt8)) (w : World) (hH : Holds encStr w blk off ss.toArray) (hblk : blk < w.heap.size) (hsz : ss.length < 4611686018427387904) :
  Calls Try.prog 57 #[.slice (some ⟨blk, off, none⟩) ss.length cap] w fun e w' =>
   e = .returned (.tuple #[]) ∧ ∃ n os, w' = grow (putRow encStr (Sort.ahead w n) blk off (ss.mergeSort fun x y => decide (x ≤ y)).toArray) os := Any.sort_Strings Try.lays192 blk off cap ss w hH hblk hsz
open Go.RowKit Go.Sort in
theorem Try.sort_Strings_none (p : Option Addr) (cap : Nat) (w : World) :
  Calls Try.prog 57 #[.slice p 0 cap] w fun e w' => e = .returned (.tuple #[]) ∧ w' = w := Any.sort_Strings_none Try.lays192 p cap w
end Go.Proofs
namespace Go.Proofs.Ytaembebbaejfiaa.Flat
open Go.RowKit Go.Proofs.YtaembebbaejfiaaW.PrintWords Go.Proofs.Ytaembebbaejfiaa.Str Go.Sort
set_option linter.unusedVariables false
set_option linter.unusedSimpArgs false
def flat {α : Type} (enc : α → List Value) (k : Nat) (hk : ∀ x, (enc x).length = k) (h1 : ∀ x, ∀ u ∈ enc x, u.oneCell' = true) : Kd α where
 sz := k
 E := []
 K := fun _ x cs => cs = enc x
 M := fun _ _ _ x cs => cs = enc x
 K_len := fun h => by rw [h]; exact hk _
 K_one := fun h u hu => by rw [h] at hu; exact h1 _ u hu
 K_below := fun _ h => h
 K_of_M := fun h => h
 M_mono := fun _ h => h
 M_bound := fun h => h
 M_move := fun _ h => h
 M_lower := fun _ h => h
section
variable {α : Type} {enc : α → List Value} {k : Nat} {hk : ∀ x, (enc x).length = k} {h1 : ∀ x, ∀ u ∈ enc x, u.oneCell' = true}
theorem reps_flat (hk : ∀ x, (enc x).length = k) : ∀ (xs : List α) (cs : List Value), Reps (fun x cs => cs = enc x) k xs cs → cs = xs.flatMap enc
 | [], cs, h => by
  have := h.1
  simp at this
  exact this
 | x :: r, cs, h => by
  have h0 := h.2 0 x rfl
  simp only [Nat.zero_mul, List.drop_zero] at h0
  have hr : Reps (fun x cs => cs = enc x) k r (cs.drop k) := by
   refine ⟨by rw [List.length_drop, h.1, List.length_cons, Nat.add_mul, Nat.one_mul]; omega, fun j p hp => ?_⟩
   have := h.2 (j + 1) p (by simpa using hp)
   rw [List.drop_drop, show k + j * k = (j + 1) * k by rw [Nat.add_mul, Nat.one_mul, Nat.add_comm]]
   exact this
  have ih := reps_flat hk r _ hr
  rw [List.flatMap_cons, ← h0, ← ih, List.take_append_drop]
theorem flat_reps (hk : ∀ x, (enc x).length = k) (xs : List α) : Reps (fun x cs => cs = enc x) k xs (xs.flatMap enc) := by
 have go : ∀ (r l : List α), Reps (fun x cs => cs = enc x) k l (l.flatMap enc) → Reps (fun x cs => cs = enc x) k (l ++ r) ((l ++ r).flatMap enc) := by
  intro r
  induction r with
  | nil => intro l h; simpa using h
  | cons p r ih =>
   intro l h
   have := ih (l ++ [p]) (by
    rw [List.flatMap_append]
    have : [p].flatMap enc = enc p := by simp
    rw [this]
    exact Reps.snoc h rfl (hk p))
   simpa using this
 exact go xs [] (Reps.none _ _)
theorem R_flat {e : Nat} {w : World} {base : Nat} {ok : Nat → Prop} {v : Value} {xs : List α} :
  (flat enc k hk h1).R e w base ok v xs ↔ (∀ b, v.ownBlock = some b → ok b) ∧ w.ownsRow base e k v xs.length (xs.flatMap enc) := by
 constructor
 ·rintro ⟨h0, inner, ho, hr⟩
  have := reps_flat hk _ _ hr
  subst this
  exact ⟨h0, ho⟩
 ·rintro ⟨h0, ho⟩
  exact ⟨h0, _, ho, flat_reps hk xs⟩
end
end Go.Proofs.Ytaembebbaejfiaa.Flat
namespace Go.Proofs.Ytaembebbaejfiaa.Tr
open Go.RowKit Go.Proofs.YtaembebbaejfiaaW.PrintWords Go.Proofs.YtaembebbaejfiaaW.PrintLast Go.Proofs.Ytaembebbaejfiaa.Str Go.Proofs.Ytaembebbaejfiaa.Kit Go.Proofs.Ytaembebbaejfiaa.Flat Go.Proofs.Ytaembebbaejfiaa.MapV Go.Proofs.Ytaembebbaejfiaa.Frame Go.Sort
set_option linter.unusedVariables false
set_option linter.unusedSimpArgs false
def Srt (ys : List BA) : Prop := ys.Pairwise fun x y => ¬ lb y < lb x
theorem srt_unique {xs ys : List BA} (hx : Srt xs) (hy : Srt ys) (hp : xs.Perm ys) : xs = ys := by
 refine List.Perm.eq_of_pairwise (le := fun x y => ¬ lb y < lb x) (fun a b _ _ h1 h2 => ?_) hx hy hp
 rcases lt_total (lb a) (lb b) with e | e | e
 ·exact absurd e h2
 ·exact lb_inj e
 ·exact absurd e h1
theorem fm_map (f : BA → Value) : ∀ xs : List BA, (xs.flatMap fun x => [f x]) = xs.map f
 | [] => rfl
 | x :: r => by rw [List.flatMap_cons, fm_map f r]; rfl
theorem enc_lb (ys : List BA) : (ys.map lb).map encStr = ys.map Value.string := by
 rw [List.map_map]
 exact List.map_congr_left (fun y _ => by show Value.string ⟨(lb y).toArray⟩ = _; rw [mk_lb])
def ofL (l : List (List UInt8)) : List BA := l.map fun b => ⟨b.toArray⟩
theorem ofL_enc (l : List (List UInt8)) : (ofL l).map Value.string = l.map encStr := by unfold ofL; rw [List.map_map]; rfl
theorem ofL_lb (ys : List BA) : ofL (ys.map lb) = ys := by
 unfold ofL
 rw [List.map_map]
 exact (List.map_congr_left (fun y _ => mk_lb y)).trans (List.map_id ys)
theorem ofL_srt {l : List (List UInt8)} (h : l.Pairwise fun x y => decide (x ≤ y) = true) : Srt (ofL l) := by
 unfold Srt ofL
 rw [List.pairwise_map]
 refine h.imp (fun {x y} hxy => ?_)
 rw [lb_mk, lb_mk]
 exact List.not_lt.2 (of_decide_eq_true hxy)
set_option maxHeartbeats 800000 in
theorem sort_own {base g n c : Nat} {ys : List BA} (w : World) (h : Kd.string.R 9 w base (fun _ => True) (.slice (some ⟨g, 0, none⟩) n c) ys) (hn : ys.length ≤ 1759218604400) :
  Calls Try.prog 57 #[.slice (some ⟨g, 0, none⟩) n c] w fun e w' => e = .returned (.tuple #[]) ∧ ∃ zs, Kd.string.R 9 w' base (fun _ => True) (.slice (some ⟨g, 0, none⟩) n c) zs ∧ zs.Perm ys ∧ Srt zs ∧ w.grownBy w' (some g) := by
 have h' : (flat (fun x : BA => [Value.string x]) 1 (fun _ => rfl) (fun x u hu => by rw [List.mem_singleton.1 hu]; rfl)).R 9 w base (fun _ => True) (.slice (some ⟨g, 0, none⟩) n c) ys := h
 rcases (R_flat.1 h').2.2 with ⟨hv, _⟩ | ⟨g', cap, cur, hv, hgb, hblk, hle, hcap, hcsz, htk⟩
 ·cases hv
 injection hv with e1 e2 e3
 injection e1 with e1
 injection e1 with e1
 subst e1 e2 e3
 rw [fm_map, Nat.mul_one, ← enc_lb] at htk
 have hL : (ys.map lb).length = ys.length := List.length_map _
 have hH := holds_of_block (ss := ys.map lb) hblk (by rw [hL]; exact htk)
 have CS := Any.sort_Strings Try.lays192 g 0 c (ys.map lb) w hH (cb_lt hblk) (by rw [hL]; omega)
 rw [hL] at CS
 refine CS.mono ?_
 rintro e w1 ⟨rfl, m, os, rfl⟩
 have hls : ((ys.map lb).mergeSort fun x y => decide (x ≤ y)).length = (ys.map lb).length := by rw [List.length_mergeSort]
 have HO := ownsRow_sorted (n := m) (os := os) hls hgb hblk (by rw [hL]; exact hle) hcap hcsz
 have HG := grownBy_sorted (w := w) (g := g) (n := m) (os := os) ((ys.map lb).mergeSort fun x y => decide (x ≤ y)).toArray
 refine ⟨rfl, ofL ((ys.map lb).mergeSort fun x y => decide (x ≤ y)), ?_, ?_, ?_, HG⟩
 ·refine (show (flat (fun x : BA => [Value.string x]) 1 (fun _ => rfl) (fun x u hu => by rw [List.mem_singleton.1 hu]; rfl)).R 9 _ base (fun _ => True) (.slice (some ⟨g, 0, none⟩) ys.length c) (ofL ((ys.map lb).mergeSort fun x y => decide (x ≤ y))) from R_flat.2 ⟨fun _ _ => trivial, ?_⟩)
  have hl2 : (ofL ((ys.map lb).mergeSort fun x y => decide (x ≤ y))).length = ys.length := by unfold ofL; rw [List.length_map, hls, hL]
  rw [fm_map, ofL_enc, hl2]
  have := HO
  rw [hL] at this
  exact this
 ·have := (List.mergeSort_perm (ys.map lb) (fun x y => decide (x ≤ y))).map (fun b : List UInt8 => (⟨b.toArray⟩ : BA))
  have e : (ys.map lb).map (fun b : List UInt8 => (⟨b.toArray⟩ : BA)) = ys := ofL_lb ys
  rw [e] at this
  exact this
 ·refine ofL_srt (List.pairwise_mergeSort (fun a b c h1 h2 => ?_) (fun a b => ?_) _)
  ·exact decide_eq_true (List.le_trans (of_decide_eq_true h1) (of_decide_eq_true h2))
  ·rcases List.le_total a b with h | h
   ·simp [h]
   ·simp [h]
end Go.Proofs.Ytaembebbaejfiaa.Tr
namespace Go.Proofs.Ytaembebbaejfiaa.Tr
open Go.RowKit Go.Proofs.YtaembebbaejfiaaW.PrintWords Go.Proofs.YtaembebbaejfiaaW.PrintLast Go.Proofs.Ytaembebbaejfiaa.Str Go.Proofs.Ytaembebbaejfiaa.Kit Go.Proofs.Ytaembebbaejfiaa.Flat Go.Proofs.Ytaembebbaejfiaa.MapV Go.Proofs.Ytaembebbaejfiaa.Frame Go.Proofs.Ytaembebbaejfiaa.PS
set_option linter.unusedVariables false
set_option linter.unusedSimpArgs false
theorem sort_any {base : Nat} {v : Value} {ys : List BA} (w : World) (h : Kd.string.R 9 w base (fun _ => True) v ys) (hn : ys.length ≤ 1759218604400) :
  Calls Try.prog 57 #[v] w fun e w' => e = .returned (.tuple #[]) ∧ ∃ zs, Kd.string.R 9 w' base (fun _ => True) v zs ∧ zs.Perm ys ∧ Srt zs ∧ w.grownBy w' v.ownBlock := by
 obtain ⟨A, c, rfl⟩ := Kd.R_slice h
 rcases Kd.R_base2 h with hb | ⟨k, hk, _⟩
 ·have h0 : ys = [] := by
   obtain ⟨_, inner, ho, hr⟩ := h
   rcases ho.2 with ⟨hv, hi⟩ | ⟨g, cap, cur, hv, _⟩
   ·injection hv with _ e2 _
    exact List.length_eq_zero_iff.1 e2
   ·rw [hv] at hb
    simp [Value.ownBlock] at hb
  subst h0
  refine (Any.sort_Strings_none Try.lays192 A c w).mono ?_
  rintro e w' ⟨rfl, rfl⟩
  exact ⟨rfl, [], h, List.Perm.refl _, List.Pairwise.nil, ⟨rfl, rfl, rfl, Nat.le_refl _, fun _ _ _ => rfl⟩⟩
 ·obtain ⟨g, rfl⟩ : ∃ g, A = some ⟨g, 0, none⟩ := by
   obtain ⟨_, inner, ho, hr⟩ := h
   rcases ho.2 with ⟨hv, hi⟩ | ⟨g, cap, cur, hv, _⟩
   ·rw [hv] at hk
    simp [Value.ownBlock] at hk
   ·injection hv with e1 _ _
    exact ⟨g, e1⟩
  exact sort_own w h hn
theorem left_same' {w w' : World} {b r : Nat} (hb : w'.heap[b]? = w.heap[b]?) (hr : w'.heap[r]? = w.heap[r]?) : w'.rangeLeft b r = w.rangeLeft b r := by
 unfold World.rangeLeft
 rw [hb, hr]
theorem str_own {e : TypeId} {w : World} {base : Nat} {ok : Nat → Prop} {v : Value} {xs : List BA} (h : Kd.string.R e w base ok v xs) : Kd.string.R e w base (fun k => v.ownBlock = some k) v xs := by
 have h' : (flat (fun x : BA => [Value.string x]) 1 (fun _ => rfl) (fun x u hu => by rw [List.mem_singleton.1 hu]; rfl)).R e w base ok v xs := h
 exact (show (flat (fun x : BA => [Value.string x]) 1 (fun _ => rfl) (fun x u hu => by rw [List.mem_singleton.1 hu]; rfl)).R e w base (fun k => v.ownBlock = some k) v xs from R_flat.2 ⟨fun b hb => hb, (R_flat.1 h').2⟩)
def kOf (l : List (Bs × Value)) : List BA := l.map (fun p => ⟨p.1.toArray⟩)
theorem kOf_length (l : List (Bs × Value)) : (kOf l).length = l.length := List.length_map ..
theorem kOf_srt {f : List (Bs × Value)} (h : Rises f) : Srt (kOf f) := by
 unfold Srt kOf
 rw [List.pairwise_map]
 refine List.Pairwise.imp (fun {x y} hxy => ?_) h
 rw [lb_mk, lb_mk]
 exact fun h2 => Std.lt_irrefl (Std.lt_trans hxy h2)
set_option maxHeartbeats 6400000 in
set_option maxRecDepth 100000 in
theorem from_map (zs : List (Bs × En)) (b : Nat) (w : World) (hn : zs.length ≤ 1759218604400) (hm : MapA w b (zs.map (fun z => (z.1, z.2.1)))) (hz : ∀ z, z ∈ zs → ∃ F, AR w z.2.1 z.2.2.1 F) (hch : ∀ z, z ∈ zs → FromAt z.2.2.1) :
  Calls Try.prog 51 #[.map (some b)] w (Told w (valOf (.map (zs.map (fun z => (z.1, z.2.2.1)))))) := by
 have HK := aM (MapE.key_le akey_u hm)
 have HRS := aM (MapE.rises (Go.Maps.string_keyed akey_u) hm)
 have HFL := aM (show (zs.map (fun z => (z.1, z.2.1))).length = zs.length from List.length_map ..)
 have HM := aM hm
 have HZ := aM hz
 have HCH := aM hch
 have hbl := hm.lt
 have HF := aM (show zs.map (fun z => (z.1, z.2.1)) = zs.map (fun z => (z.1, z.2.1)) from rfl)
 generalize hf : zs.map (fun z => (z.1, z.2.1)) = f at HK HRS HFL HM HF
 clear HF
 have HF := aM hf
 clear hf hm hz hch
 have hb0 := below_alloc (Below.refl w.heap.size w) (.cells #[.int .i64 0, .int .i64 0, .string ⟨#[]⟩, .slice none 0 0, .slice none 0 0] 36)
 have hB0 := below_alloc hb0 (.cells #[.int .i64 0, .int .i64 0, .string ⟨#[]⟩, .slice none 0 0, .slice none 0 0] 36)
 have hZ0 : ((w.alloc (.cells #[.int .i64 0, .int .i64 0, .string ⟨#[]⟩, .slice none 0 0, .slice none 0 0] 36)).alloc (.cells #[.int .i64 0, .int .i64 0, .string ⟨#[]⟩, .slice none 0 0, .slice none 0 0] 36)).heap[w.heap.size]? = some (.cells zI 36 (0, 0)) := blk_alloc (cb_new _ _) _
 have h1 := cb_new (w.alloc (.cells #[.int .i64 0, .int .i64 0, .string ⟨#[]⟩, .slice none 0 0, .slice none 0 0] 36)) (.cells #[.int .i64 0, .int .i64 0, .string ⟨#[]⟩, .slice none 0 0, .slice none 0 0] 36)
 rw [World.size_alloc] at h1
 have hg := grown_setRow ((w.alloc (.cells #[.int .i64 0, .int .i64 0, .string ⟨#[]⟩, .slice none 0 0, .slice none 0 0] 36)).alloc (.cells #[.int .i64 0, .int .i64 0, .string ⟨#[]⟩, .slice none 0 0, .slice none 0 0] 36)) (w.heap.size + 1) #[.int .i64 5, .int .i64 0, .string ⟨#[]⟩, .slice none 0 0, .slice none 0 0]
 have HX1 := aM (setRow_heap _ (w.heap.size + 1) _ #[.int .i64 5, .int .i64 0, .string ⟨#[]⟩, .slice none 0 0, .slice none 0 0] _ _ h1)
 have HB1 := aM (pw_below_grown hB0 (some (w.heap.size + 1)) hB0.size hg (fun k hk => by injection hk with hk; have h2 : w.heap.size + 1 = k := hk; omega))
 have HZ1 := aM ((hg.block w.heap.size (cb_lt hZ0) (fun e => by injection e with e; omega)).trans hZ0)
 have HM1 := aM (HM.out.below HB1.out)
 have hs1 : (((w.alloc (.cells #[.int .i64 0, .int .i64 0, .string ⟨#[]⟩, .slice none 0 0, .slice none 0 0] 36)).alloc (.cells #[.int .i64 0, .int .i64 0, .string ⟨#[]⟩, .slice none 0 0, .slice none 0 0] 36)).setRow (w.heap.size + 1) #[.int .i64 5, .int .i64 0, .string ⟨#[]⟩, .slice none 0 0, .slice none 0 0]).heap.size = w.heap.size + 2 := by simp [World.setRow]
 clear hb0 hB0 hZ0 hg
 go_enter Try.func51, Try.ntmps51
 go_wp2_with (first | (refine store_ival (.tmp 4) (.tmp 10) rfl rfl rfl rfl h1 ?_; generalize ((w.alloc (.cells #[.int .i64 0, .int .i64 0, .string ⟨#[]⟩, .slice none 0 0, .slice none 0 0] 36)).alloc (.cells #[.int .i64 0, .int .i64 0, .string ⟨#[]⟩, .slice none 0 0, .slice none 0 0] 36)).setRow (w.heap.size + 1) #[.int .i64 5, .int .i64 0, .string ⟨#[]⟩, .slice none 0 0, .slice none 0 0] = W1 at HX1 HB1 HZ1 HM1 hs1 ⊢; clear h1) | (at_range; refine range_mapE akey_u amap_u rfl _ rfl rfl HM1.out ?_; intro w0 hrg0 hg0 hs0; rw [hs1] at hrg0 hs0; have HR0 := aM hrg0; have HG0 := aM hg0; have HS0 := aM hs0; clear hrg0 hg0 hs0))
 go_frame
 rw [hs1]
 have HX0 := aM ((HG0.out.block (w.heap.size + 1) (by omega) (by simp)).trans HX1.out)
 have HZ0 := aM ((HG0.out.block w.heap.size (by omega) (by simp)).trans HZ1.out)
 have HB0 := aM (pw_below_grown HB1.out none HB1.out.size HG0.out (fun k hk => by cases hk))
 have hs0 := HS0.out
 clear HG0 HX1 HZ1 HB1 HM1 HS0
 go_loopw [5] (fun v5 wr => ∃ (dn lf : List (Bs × Value)) (A0 : Option Addr) (c0 : Nat), Aside0 (Ranges Try.prog 9 id wr b (w.heap.size + 2) f lf) ∧ Aside0 (wr.heap[w.heap.size + 1]? = some (.cells #[.int .i64 5, .int .i64 0, .string ⟨#[]⟩, .slice A0 dn.length c0, .slice none 0 0] 36 (0, 0))) ∧ Aside0 (Kd.string.R 9 wr (w.heap.size + 3) (fun _ => True) (.slice A0 dn.length c0) (kOf dn)) ∧ Aside0 ((dn ++ lf).Perm f) ∧ Aside0 (Below w.heap.size w wr) ∧ Aside0 (wr.heap[w.heap.size]? = some (.cells zI 36 (0, 0))) ∧ w.heap.size + 3 ≤ wr.heap.size) (fun _ wr => wr.rangeLeft b (w.heap.size + 2))
 case atStart => exact ⟨[], f, none, 0, HR0, HX0, ⟨Kd.R_nil _ _ _ _ _⟩, ⟨List.Perm.refl _⟩, HB0, HZ0, by omega⟩
 case round =>
  clear HR0 HX0 HB0 HZ0 hs0
  obtain ⟨dn, lf, A0, c0, HR, HX, HV, HP, HB, HZ0, hsz⟩ := hrel
  have hcell : wr.cell? ⟨w.heap.size + 1, 3, none⟩ = some (.slice A0 dn.length c0) := cb_cell (i := 3) HX.out rfl
  have hlen : dn.length + lf.length = zs.length := by rw [← HFL.out, ← HP.out.length_eq, List.length_append]
  have HL := aM hlen
  clear hlen
  go_wp2_with (first | (at_next; refine next_mapA akey_u rfl _ rfl rfl HR.out (fun hd => ?_) (fun x c w2 hx hen => ?_); rotate_left; (have HX2 := aM (show w2.heap[w.heap.size + 1]? = some (.cells #[.int .i64 5, .int .i64 0, .string ⟨#[]⟩, .slice A0 dn.length c0, .slice none 0 0] 36 (0, 0)) from (hx.out.2.2.2.2.1.block _ (cb_lt HX.out) (by simp)).trans HX.out)); (have hc2 : w2.cell? ⟨w.heap.size + 1, 3, none⟩ = some (.slice A0 dn.length c0) := cb_cell (i := 3) HX2.out rfl); (have HV2 := aM (Kd.R_mono (ok' := fun _ => True) (Kd.R_grown (Kd.R_bound HV.out) hx.out.2.2.2.2.1 (fun k hk e => by have h2 := Option.some.inj e; have h3 := hk.2.1; omega)) (fun _ _ => trivial))); (have HB2 := aM (pw_below_grown HB.out (some (w.heap.size + 2)) HB.out.size hx.out.2.2.2.2.1 (fun k hk => by injection hk with hk; omega))); (have hsz2 : w.heap.size + 3 ≤ w2.heap.size := by have := hx.out.2.2.2.2.2; omega); (have hfit : ((kOf dn).length + 1) * 16 ≤ 140737488355328 := by rw [kOf_length]; have := HL.out; omega); rotate_right) | (at_builtin; refine Kd.R_append Kd.string (w0 := w2) (w.heap.size + 3) rfl (.tmp 18) (.tmp 20) 22 9 (.string ⟨#[]⟩) 16 rfl Try.underlying22 info_string rfl (show 0 < 1 by decide) (by decide) (.slice A0 dn.length c0) (kOf dn) x [.string x] (fun _ => True) (fun _ => False) rfl rfl rfl (fun _ h => h.elim) (fun _ _ => trivial) HV2.out (Below.refl _ _) hsz2 hfit ?_; intro v1 w3 ho hb3 hg3 hat; obtain ⟨A1, c1, rfl⟩ := Kd.R_slice ho; have HV3 := aM ho; have HB3 := aM hb3; have HG3 := aM hg3; clear ho hb3 hg3 hat; have HX3 := aM ((HB3.out.block (w.heap.size + 1) (by omega)).trans HX2.out); have hc3 : w3.cell? ⟨w.heap.size + 1, 3, none⟩ = some (.slice A0 dn.length c0) := cb_cell (i := 3) HX3.out rfl; have hf3 := cb_frozen (i := 3) HX3.out))
  ·-- all have come: they are sorted; then a value each
   have hpf : dn.Perm f := by have := HP.out; rw [hd.out, List.append_nil] at this; exact this
   have hdl : dn.length = zs.length := by rw [← HFL.out]; exact hpf.length_eq
   have HPK := aM (show (kOf dn).Perm (kOf f) from hpf.map _)
   rw [hdl] at HX HV ⊢
   clear hpf hd hcell HL HP HR hdl
   refine (sort_any wr HV.out (by rw [HPK.out.length_eq, kOf_length, HFL.out]; exact hn)).mono ?_
   rintro e w5 ⟨rfl, ys, hys, hpm, hsr, hg5⟩
   obtain rfl : ys = kOf f := srt_unique hsr (kOf_srt HRS.out) (hpm.trans HPK.out)
   have hown : ∀ k, (Value.slice A0 zs.length c0).ownBlock = some k → w.heap.size + 3 ≤ k ∧ k < wr.heap.size := fun k hk => ⟨((Kd.R_bound HV.out).1 k hk).2.1, ((Kd.R_bound HV.out).1 k hk).2.2.1⟩
   have hHX5 := (hg5.block (w.heap.size + 1) (by omega) (fun e => by have := hown _ e.symm; omega)).trans HX.out
   have HX5 := aM hHX5
   have HZ5 := aM ((hg5.block w.heap.size (by omega) (fun e => by have := hown _ e.symm; omega)).trans HZ0.out)
   have HB5 := aM (pw_below_grown HB.out _ HB.out.size hg5 (fun k hk => by have := hown k hk; omega))
   have HV5 := aM hys
   have hc5 : w5.cell? ⟨w.heap.size + 1, 3, none⟩ = some (.slice A0 zs.length c0) := cb_cell (i := 3) hHX5 rfl
   clear hys hpm hsr hown hHX5 HX HZ0 HB HV HPK hg5
   go_wp2
   go_loopw [29, 7, 8, 9] (fun v29 v7 v8 v9 wq => ∃ (i : Nat) (A2 : Option Addr) (c2 : Nat), v29 = .int .i64 i ∧ i ≤ zs.length ∧ Aside0 (wq.heap[w.heap.size + 1]? = some (.cells #[.int .i64 5, .int .i64 0, .string ⟨#[]⟩, .slice A0 zs.length c0, .slice A2 i c2] 36 (0, 0))) ∧ Aside0 (Kd.string.R 9 wq (w.heap.size + 3) (fun _ => True) (.slice A0 zs.length c0) (kOf f)) ∧ Aside0 (kI.R 36 wq (w.heap.size + 3) (fun k => some k ≠ (Value.slice A0 zs.length c0).ownBlock) (.slice A2 i c2) ((zs.take i).map (fun z => valOf z.2.2.1))) ∧ Aside0 (Below w.heap.size w wq) ∧ Aside0 (wq.heap[w.heap.size]? = some (.cells zI 36 (0, 0)))) (fun v29 _ _ _ _ => zs.length - (intOf v29).toNat)
   case atStart => exact ⟨0, none, 0, rfl, by omega, HX5, HV5, ⟨Kd.R_nil _ _ _ _ _⟩, HB5, HZ5⟩
   case round =>
    clear HX5 HV5 HB5 HZ5 hc5
    obtain ⟨i, A2, c2, rfl, hiv, HX, HV, HR, HB, HZ0⟩ := hrel
    have q0 : (0 : Int) ≤ (i : Int) := by omega
    have hown : ∀ k, (Value.slice A0 zs.length c0).ownBlock = some k → w.heap.size + 3 ≤ k ∧ k < wr.heap.size := fun k hk => ⟨((Kd.R_bound HV.out).1 k hk).2.1, ((Kd.R_bound HV.out).1 k hk).2.2.1⟩
    by_cases hlv : i < zs.length
    ·have q2 : (i : Int) < (zs.length : Int) := by omega
     have hkl : (kOf f).length = zs.length := by rw [kOf_length, HFL.out]
     obtain ⟨hn0, hnc, hC⟩ := Kd.R_reads' HV.out
     obtain ⟨kb, ko, rfl, hkb, hkc⟩ := strs_open hC (by omega)
     have hf1 : (zs[i]'hlv).1 = (zs[i]'hlv).1 := rfl
     have hfm : ((zs[i]'hlv).1, (zs[i]'hlv).2.1) ∈ f := by rw [← HF.out]; exact List.mem_map.2 ⟨zs[i]'hlv, List.getElem_mem hlv, rfl⟩
     have e0 : wr.cell? ⟨kb, ko + i, none⟩ = some (.string ⟨(zs[i]'hlv).1.toArray⟩) := by
      have h := hkc i (by omega)
      have h2 : (kOf f)[i]'(by omega) = ⟨(zs[i]'hlv).1.toArray⟩ := by
       have : f[i]'(by rw [HFL.out]; exact hlv) = ((zs[i]'hlv).1, (zs[i]'hlv).2.1) := by simp [← HF.out]
       unfold kOf
       rw [List.getElem_map, this]
      rw [h2] at h
      exact h
     have hks : (⟨(zs[i]'hlv).1.toArray⟩ : BA).size ≤ maxLen := by have := HK.out _ hfm; simpa [ByteArray.size] using this
     have hlk := run_look_mapE (s := ⟨(zs[i]'hlv).1.toArray⟩) akey_u amap_u (Try.zeroValue20 wr) (HM.out.below HB.out) hks
     rw [lb_mk, mget_of_mem HRS.out hfm] at hlk
     have CA := aM (show ∀ (W : World) (hb : Below w.heap.size w W), Calls Try.prog 42 #[(zs[i]'hlv).2.1] W (Told W (valOf (zs[i]'hlv).2.2.1)) from fun W hb => by obtain ⟨F, hF⟩ := HZ.out zs[i] (List.getElem_mem hlv); exact HCH.out zs[i] (List.getElem_mem hlv) zs[i].2.1 _ W (hF.keep hb))
     clear hkl hn0 hnc hC hkc hf1 hfm hks
     go_wp2_with fail
     refine (CA.out wr HB.out).mono ?_
     rintro e w3 ⟨v3, v4, rfl, hv3, hv4, hb3⟩
     have HXE := aM (show (zs.take (i + 1)).map (fun z => valOf z.2.2.1) = ((zs.take i).map (fun z => valOf z.2.2.1)) ++ [valOf (zs[i]'hlv).2.2.1] by rw [List.take_succ_eq_append_getElem hlv, List.map_append]; rfl)
     generalize valOf (zs[i]'hlv).2.2.1 = x at hv3 hv4 HXE
     obtain ⟨x0, x1, x2, x3, x4⟩ := x
     obtain ⟨A3, c3, rfl⟩ := Kd.R_slice hv3
     obtain ⟨A4, c4, rfl⟩ := Kd.R_slice hv4
     have hW := below_alloc hb3 (.cells #[.int .i64 0, .int .i64 0, .string ⟨#[]⟩, .slice none 0 0, .slice none 0 0] 36)
     have h5 := cb_new w3 (.cells #[.int .i64 0, .int .i64 0, .string ⟨#[]⟩, .slice none 0 0, .slice none 0 0] 36)
     have hg5 := grown_setRow (w3.alloc (.cells #[.int .i64 0, .int .i64 0, .string ⟨#[]⟩, .slice none 0 0, .slice none 0 0] 36)) w3.heap.size #[.int .i64 x0, .int .i64 x1, .string x2, .slice A3 x3.length c3, .slice A4 x4.length c4]
     have hb5 := pw_below_grown hW (some w3.heap.size) hW.size hg5 (fun k hk => by injection hk with hk; have := hb3.size; omega)
     have h6 := setRow_heap _ w3.heap.size _ #[.int .i64 x0, .int .i64 x1, .string x2, .slice A3 x3.length c3, .slice A4 x4.length c4] _ _ h5
     have hm5 : ∀ k, k < w3.heap.size → ((w3.alloc (.cells #[.int .i64 0, .int .i64 0, .string ⟨#[]⟩, .slice none 0 0, .slice none 0 0] 36)).setRow w3.heap.size #[.int .i64 x0, .int .i64 x1, .string x2, .slice A3 x3.length c3, .slice A4 x4.length c4]).heap[k]? = w3.heap[k]? := fun k hk => (hg5.block k (by rw [World.size_alloc]; omega) (fun e => by injection e with e; omega)).trans ((below_alloc (Below.refl w3.heap.size w3) _).block k hk)
     have hwr := (cb_lt HX.out)
     have hwr2 : w.heap.size + 3 ≤ wr.heap.size := by have := hown kb rfl; omega
     have HX5 := aM ((hb5.block _ (cb_lt HX.out)).trans HX.out)
     have x4_ := cb_cell (i := 4) HX5.out rfl
     have HZ5 := aM ((hb5.block _ (cb_lt HZ0.out)).trans HZ0.out)
     have HV5 := aM (Kd.R_below HV.out hb5)
     have HR5 := aM (Kd.R_below HR.out hb5)
     have HB5 := aM (hb_then HB.out hb5)
     have HM5 := aM (k36_mkM ((w3.alloc (.cells #[.int .i64 0, .int .i64 0, .string ⟨#[]⟩, .slice none 0 0, .slice none 0 0] 36)).setRow w3.heap.size #[.int .i64 x0, .int .i64 x1, .string x2, .slice A3 x3.length c3, .slice A4 x4.length c4]) (w.heap.size + 3) (fun k => wr.heap.size ≤ k ∧ k < w3.heap.size) ⟨x0, x1, x2, x3, x4⟩
      (Kd.R_lower (Kd.R_move (Kd.R_mono (ok' := (fun k => wr.heap.size ≤ k ∧ k < w3.heap.size)) (Kd.R_bound hv3) (fun k hk => ⟨hk.2.1, hk.2.2.1⟩)) (fun k hk => hm5 k hk.2)) hwr2)
      (Kd.R_lower (Kd.R_move (Kd.R_mono (ok' := (fun k => wr.heap.size ≤ k ∧ k < w3.heap.size)) (Kd.R_bound hv4) (fun k hk => ⟨hk.2.1, hk.2.2.1⟩)) (fun k hk => hm5 k hk.2)) hwr2))
     have HOK := aM (show ∀ k, wr.heap.size ≤ k ∧ k < w3.heap.size → (some k ≠ (Value.slice (some ⟨kb, ko, none⟩) zs.length c0).ownBlock) ∧ some k ≠ (Value.slice A2 i c2).ownBlock from fun k hk => ⟨fun e => by have := hown k e.symm; omega, fun e => by have := ((Kd.R_bound HR.out).1 k e.symm).2.2.1; omega⟩)
     have hsz : w.heap.size + 3 ≤ ((w3.alloc (.cells #[.int .i64 0, .int .i64 0, .string ⟨#[]⟩, .slice none 0 0, .slice none 0 0] 36)).setRow w3.heap.size #[.int .i64 x0, .int .i64 x1, .string x2, .slice A3 x3.length c3, .slice A4 x4.length c4]).heap.size := Nat.le_trans hwr2 hb5.size
     have hfr : ∀ k, ((w3.alloc (.cells #[.int .i64 0, .int .i64 0, .string ⟨#[]⟩, .slice none 0 0, .slice none 0 0] 36)).setRow w3.heap.size #[.int .i64 x0, .int .i64 x1, .string x2, .slice A3 x3.length c3, .slice A4 x4.length c4]).heap.size ≤ k → some k ≠ (Value.slice (some ⟨kb, ko, none⟩) zs.length c0).ownBlock := fun k hk e => by have h1 := hown k e.symm; have h2 := hb5.size; omega
     have HFR := aM hfr
     have hlow : ∀ k, (Value.slice (some ⟨kb, ko, none⟩) zs.length c0).ownBlock = some k → w.heap.size + 3 ≤ k := fun k hk => (hown k hk).1
     clear hv3 hv4 hW hg5 hb5 hm5 HX HV HR HB HZ0 hwr hwr2 hown hfr
     go_wp2_with (first | (refine store_ival (.tmp 8) (.tmp 38) rfl rfl rfl rfl h5 ?_; generalize (w3.alloc (.cells #[.int .i64 0, .int .i64 0, .string ⟨#[]⟩, .slice none 0 0, .slice none 0 0] 36)).setRow w3.heap.size #[.int .i64 x0, .int .i64 x1, .string x2, .slice A3 x3.length c3, .slice A4 x4.length c4] = W5 at h6 x4_ HX5 HZ5 HV5 HR5 HB5 HM5 HFR hsz ⊢; clear h5) | refine load_ival (.tmp 8) rfl rfl rfl h6 ?_ | refine Kd.R_append kI (w0 := W5) (w.heap.size + 3) rfl (.tmp 44) (.tmp 46) 34 36 (.agg #[.int .i64 0, .int .i64 0, .string ⟨#[]⟩, .slice none 0 0, .slice none 0 0]) 80 rfl Try.underlying34 info_iv rfl (show 0 < 5 by decide) (by decide) (.slice A2 i c2) ((zs.take i).map (fun z => valOf z.2.2.1)) ⟨x0, x1, x2, x3, x4⟩ _ (fun k => some k ≠ (Value.slice (some ⟨kb, ko, none⟩) zs.length c0).ownBlock) _ rfl rfl HM5.out HOK.out HFR.out HR5.out (Below.refl _ _) hsz (by rw [List.length_map, List.length_take]; omega) ?_)
     intro v1 w6 ho hb6 hg6 hat
     rw [← List.map_take, ← HXE.out] at ho
     have hlen : ((zs.take (i + 1)).map (fun z => valOf z.2.2.1)).length = i + 1 := by rw [List.length_map, List.length_take]; omega
     obtain ⟨A5, c5, rfl⟩ := Kd.R_slice ho
     rw [hlen] at ho hat ⊢
     have hB6 := pw_below_grown HB5.out (Value.slice A2 i c2).ownBlock HB5.out.size hg6 (fun k hk => by have := Kd.R_base HR5.out k hk; omega)
     have hX6 := (hb6.block (w.heap.size + 1) (by omega)).trans HX5.out
     have hZ6 := (hb6.block w.heap.size (by omega)).trans HZ5.out
     have hV6 := Kd.R_mono (ok' := fun _ => True) (Kd.R_grown (str_own HV5.out) hg6 (fun k hk e => HR5.out.1 k e.symm hk.symm)) (fun _ _ => trivial)
     have HX7 := aM (cb_set hX6 (i := 4) (.slice A5 (i + 1) c5))
     have hg7 := grown_setCell w6 (w.heap.size + 1) 4 (.slice A5 (i + 1) c5)
     have HB7 := aM (pw_below_grown hB6 (some (w.heap.size + 1)) hB6.size hg7 (fun k hk => by injection hk with hk; omega))
     have HZ7 := aM ((hg7.block w.heap.size (cb_lt hZ6) (fun e => by injection e with e; omega)).trans hZ6)
     have HV7 := aM (Kd.R_mono (ok' := fun _ => True) (Kd.R_grown (Kd.R_bound hV6) hg7 (fun k hk e => by have h2 := Option.some.inj e; have h3 := hk.2.1; omega)) (fun _ _ => trivial))
     have HR7 := aM (Kd.R_mono (ok' := fun k => some k ≠ (Value.slice (some ⟨kb, ko, none⟩) zs.length c0).ownBlock) (Kd.R_move (Kd.R_bound ho) (fun k hk => hg7.block k hk.2.2.1 (fun e => by have h2 := Option.some.inj e; have h3 := hk.2.1; omega))) (fun _ hk => hk.1))
     have y4 := cb_cell (i := 4) hX6 rfl
     have y5 := cb_frozen (i := 4) hX6
     clear ho hat hlen hB6 hX6 hZ6 hV6 hb6 hg6 hg7 HX5 HZ5 HV5 HR5 HB5 HM5 HOK HXE CA x4_ h6 hsz HFR
     go_wp2
     go_roundw
     case rel => exact ⟨i + 1, A5, c5, by go_num, by omega, HX7, HV7, HR7, HB7, HZ7⟩
     case measure => simp [intOf]; omega
    ·have hin : i = zs.length := by omega
     subst hin
     have hg8 := grown_setRow wr w.heap.size #[.int .i64 5, .int .i64 0, .string ⟨#[]⟩, .slice A0 zs.length c0, .slice A2 zs.length c2]
     have HX8 := aM (setRow_heap _ w.heap.size _ #[.int .i64 5, .int .i64 0, .string ⟨#[]⟩, .slice A0 zs.length c0, .slice A2 zs.length c2] _ _ HZ0.out)
     have HB8 := aM (pw_below_grown HB.out (some w.heap.size) HB.out.size hg8 (fun k hk => by injection hk with hk; omega))
     have hR := HR.out
     rw [List.take_length] at hR
     have HR8 := aM (Kd.R_lower (base' := w.heap.size) (Kd.R_mono (ok' := fun _ => True) (Kd.R_move (Kd.R_bound hR) (fun k hk => hg8.block k hk.2.2.1 (fun e => by have h2 := Option.some.inj e; have h3 := hk.2.1; omega))) (fun _ _ => trivial)) (by omega))
     have hKO : kOf f = (zs.map (fun z => (z.1, z.2.2.1))).map (fun p => (⟨p.1.toArray⟩ : BA)) := by rw [← HF.out]; unfold kOf; rw [List.map_map, List.map_map]; rfl
     have HV8 := aM (Kd.R_lower (base' := w.heap.size) (Kd.R_mono (ok' := fun _ => True) (Kd.R_move (Kd.R_bound HV.out) (fun k hk => hg8.block k hk.2.2.1 (fun e => by have h2 := Option.some.inj e; have h3 := hk.2.1; omega))) (fun _ _ => trivial)) (by omega))
     rw [hKO] at HV8
     have h11 := HX.out
     have h2 := HZ0.out
     clear hR hg8 hown hKO
     go_wp2_with (first | refine load_ival (.tmp 4) rfl rfl rfl h11 ?_ | refine store_ival (.tmp 2) (.tmp 50) rfl rfl rfl rfl h2 ?_)
     exact bodyPost_ret (v := .tuple #[.agg #[.int .i64 5, .int .i64 0, .string ⟨#[]⟩, .slice A0 zs.length c0, .slice A2 zs.length c2], .bool true]) (told_row rfl rfl rfl HX8.out) rfl ⟨.slice A0 zs.length c0, .slice A2 zs.length c2, by simp [valOf], by simp only [valOf]; exact HV8.out, by simp only [valOf]; rw [valM_map, List.map_map]; exact HR8.out, HB8.out⟩
  ·-- a key more
   have hl : (kOf dn).length + 1 = (dn ++ [(lb x, c)]).length := by rw [kOf_length, List.length_append, List.length_singleton]
   have hk : kOf dn ++ [x] = kOf (dn ++ [(lb x, c)]) := by unfold kOf; rw [List.map_append]; simp
   have hown : ∀ k, (Value.slice A0 dn.length c0).ownBlock = some k → w.heap.size + 3 ≤ k := fun k hk => ((Kd.R_bound HV2.out).1 k hk).2.1
   have nb : ∀ j, j < w.heap.size + 3 → some j ≠ (Value.slice A0 dn.length c0).ownBlock := fun j hj e => by have := hown j e.symm; omega
   rw [hk] at HV3
   rw [hl]
   rw [show (kOf (dn ++ [(lb x, c)])).length = (dn ++ [(lb x, c)]).length from kOf_length _] at HV3
   have hg7 := grown_setCell w3 (w.heap.size + 1) 3 (.slice A1 (dn ++ [(lb x, c)]).length c1)
   have HG7 := aM hg7
   have hHB3 : Below w.heap.size w w3 := pw_below_grown HB2.out _ HB2.out.size HG3.out (fun k hk => by have := hown k hk; omega)
   have hpm : lf.Perm ((lb x, c) :: mdel lf (lb x)) := rises_take ((HRS.out.sublist HR.out.sub).imp (fun {p q} h => lt_ne h)) hx.out.1
   clear hl hk
   go_roundw
   case rel =>
    refine ⟨dn ++ [(lb x, c)], mdel lf (lb x), A1, c1, ⟨?_⟩, ⟨cb_set HX3.out _⟩, ⟨?_⟩, ⟨?_⟩, ⟨?_⟩, ⟨?_⟩, ?_⟩
    ·exact (hx.out.2.2.1.kept HG3.out (nb _ (by omega)) (nb _ (by omega))).kept hg7 (fun e => by have := Option.some.inj e; omega) (fun e => by have := Option.some.inj e; omega)
    ·exact Kd.R_mono (Kd.R_grown (Kd.R_bound HV3.out) hg7 (fun k hk e => by have h2 := Option.some.inj e; have h3 := hk.2.1; omega)) (fun _ _ => trivial)
    ·rw [List.append_assoc]
     exact ((hpm.symm).append_left dn).trans HP.out
    ·exact pw_below_grown hHB3 (some (w.heap.size + 1)) hHB3.size hg7 (fun k hk => by have := Option.some.inj hk; omega)
    ·exact (hg7.block w.heap.size (by have := HG3.out.size; omega) (fun e => by have := Option.some.inj e; omega)).trans ((HB3.out.block w.heap.size (by omega)).trans ((hx.out.2.2.2.2.1.block w.heap.size (by omega) (fun e => by have := Option.some.inj e; omega)).trans HZ0.out))
    ·have h1 := hg7.size; have h2 := HG3.out.size; omega
   case measure =>
    have e1 := left_same' (b := b) (r := w.heap.size + 2) (w := w2) (w' := w3.setCell ⟨w.heap.size + 1, 3, none⟩ (.slice A1 (dn ++ [(lb x, c)]).length c1)) ?_ ?_
    ·rw [e1]; exact hx.out.2.2.2.1
    ·rw [hg7.block b (by have := hHB3.size; omega) (fun e => by have := Option.some.inj e; omega), HG3.out.block b (by omega) (nb _ (by omega))]
    ·rw [hg7.block _ (by have := HG3.out.size; omega) (fun e => by have := Option.some.inj e; omega), HG3.out.block _ (by omega) (nb _ (by omega))]
end Go.Proofs.Ytaembebbaejfiaa.Tr
namespace Go.Proofs.Ytaembebbaejfiaa.Tr
open Go.RowKit Go.Proofs.YtaembebbaejfiaaW.PrintWords Go.Proofs.YtaembebbaejfiaaW.PrintLast Go.Proofs.Ytaembebbaejfiaa.Str Go.Proofs.Ytaembebbaejfiaa.Kit Go.Proofs.Ytaembebbaejfiaa.MapV Go.Proofs.Ytaembebbaejfiaa.Frame Go.Proofs.Ytaembebbaejfiaa.PS
set_option linter.unusedVariables false
set_option linter.unusedSimpArgs false
theorem t_map_bool (v : Value) (w : World) : (Instr.typeAssert (.iface 65 v) 20 4 true).run Try.prog w = .ok (.tuple #[.bool false, .bool false]) w := by kernel_rfl
theorem t_map_int (v : Value) (w : World) : (Instr.typeAssert (.iface 65 v) 20 3 true).run Try.prog w = .ok (.tuple #[.int .i64 0, .bool false]) w := by kernel_rfl
theorem t_map_i64 (v : Value) (w : World) : (Instr.typeAssert (.iface 65 v) 20 2 true).run Try.prog w = .ok (.tuple #[.int .i64 0, .bool false]) w := by kernel_rfl
theorem t_map_u64 (v : Value) (w : World) : (Instr.typeAssert (.iface 65 v) 20 71 true).run Try.prog w = .ok (.tuple #[.int .u64 0, .bool false]) w := by kernel_rfl
theorem t_map_str (v : Value) (w : World) : (Instr.typeAssert (.iface 65 v) 20 9 true).run Try.prog w = .ok (.tuple #[.string ⟨#[]⟩, .bool false]) w := by kernel_rfl
theorem t_map_lst (v : Value) (w : World) : (Instr.typeAssert (.iface 65 v) 20 58 true).run Try.prog w = .ok (.tuple #[.slice none 0 0, .bool false]) w := by kernel_rfl
theorem t_map_map (v : Value) (w : World) : (Instr.typeAssert (.iface 65 v) 20 65 true).run Try.prog w = .ok (.tuple #[v, .bool true]) w := by kernel_rfl
inductive FitsY : Y → Prop
 | null : FitsY .null
 | bool (b) : FitsY (.bool b)
 | int (n) : FitsY (.int n)
 | text (s) : FitsY (.text s)
 | list (l : List Y) (hl : l.length ≤ 1759218604400) (h : ∀ y, y ∈ l → FitsY y) : FitsY (.list l)
 | map (m : List (Bs × Y)) (hl : m.length ≤ 1759218604400) (hk : ∀ p, p ∈ m → p.1.length ≤ maxLen) (h : ∀ p, p ∈ m → FitsY p.2) : FitsY (.map m)
set_option maxHeartbeats 1600000 in
theorem from_amap (b : Nat) (w : World) (y : Y) (hm : ∀ W, Below w.heap.size w W → Calls Try.prog 51 #[.map (some b)] W (Told W (valOf y))) :
  Calls Try.prog 42 #[.iface 65 (.map (some b))] w (Told w (valOf y)) := by
 have f0 := t_map_bool
 have f1 := t_map_int
 have f2 := t_map_i64
 have f3 := t_map_u64
 have f4 := t_map_str
 have f5 := t_map_lst
 have f6 := t_map_map
 have h0 := aM (cb_new w (.cells #[.int .i64 0, .int .i64 0, .string ⟨#[]⟩, .slice none 0 0, .slice none 0 0] 36))
 have HB := aM (below_alloc (Below.refl w.heap.size w) (.cells #[.int .i64 0, .int .i64 0, .string ⟨#[]⟩, .slice none 0 0, .slice none 0 0] 36))
 have CM := aM (hm _ HB.out)
 clear hm
 generalize valOf y = x at CM
 obtain ⟨x0, x1, x2, x3, x4⟩ := x
 go_enter Try.func42, Try.ntmps42
 go_wp2_with fail
 refine CM.out.mono ?_
 rintro e w3 ⟨v3, v4, rfl, hv3, hv4, hb3⟩
 obtain ⟨A3, c3, rfl⟩ := Kd.R_slice hv3
 obtain ⟨A4, c4, rfl⟩ := Kd.R_slice hv4
 have h1 := (hb3.block _ (cb_lt h0.out)).trans h0.out
 have hg := grown_setRow w3 w.heap.size #[.int .i64 x0, .int .i64 x1, .string x2, .slice A3 x3.length c3, .slice A4 x4.length c4]
 have HX := aM (setRow_heap _ w.heap.size _ #[.int .i64 x0, .int .i64 x1, .string x2, .slice A3 x3.length c3, .slice A4 x4.length c4] _ _ h1)
 have hb := hb_then HB.out hb3
 have HB8 := aM (pw_below_grown hb (some w.heap.size) hb.size hg (fun k hk => by have := Option.some.inj hk; omega))
 have hbase := HB.out.size
 have hlt := cb_lt h0.out
 have H3 := aM (Kd.R_lower (base' := w.heap.size) (Kd.R_mono (ok' := fun _ => True) (Kd.R_move (Kd.R_bound hv3) (fun k hk => hg.block k hk.2.2.1 (fun e => by have h2 := Option.some.inj e; have h3 := hk.2.1; omega))) (fun _ _ => trivial)) hbase)
 have H4 := aM (Kd.R_lower (base' := w.heap.size) (Kd.R_mono (ok' := fun _ => True) (Kd.R_move (Kd.R_bound hv4) (fun k hk => hg.block k hk.2.2.1 (fun e => by have h2 := Option.some.inj e; have h3 := hk.2.1; omega))) (fun _ _ => trivial)) hbase)
 clear hv3 hv4 hb3 hg hb hbase hlt HB h0 CM
 go_wp2_with (refine store_ival (.tmp 2) (.tmp 79) rfl rfl rfl rfl h1 ?_)
 exact bodyPost_ret (v := .tuple #[.agg #[.int .i64 x0, .int .i64 x1, .string x2, .slice A3 x3.length c3, .slice A4 x4.length c4], .bool true]) (told_row rfl rfl rfl HX.out) rfl ⟨.slice A3 x3.length c3, .slice A4 x4.length c4, rfl, H3.out, H4.out, HB8.out⟩
theorem from_any {y : Y} (h : FitsY y) : FromAt y := by
 induction h with
 | null => intro v F w ha; cases ha; exact from_null w
 | bool b =>
  intro v F w ha
  cases ha
  cases b
  ·exact from_bfalse w
  ·exact from_btrue w
 | int n => intro v F w ha; cases ha; exact from_int n w
 | text s => intro v F w ha; cases ha; exact from_text s w
 | list l hl h ih =>
  intro v F w ha
  cases ha with
  | list v zs _ _ hy hr hz hd hb hF =>
   subst hy
   obtain ⟨A, c, rfl⟩ := Kd.R_slice hr
   obtain ⟨hn, hc, hC⟩ := Kd.R_reads' hr
   rw [List.length_map] at hC hl ⊢
   exact from_list zs A c w hl hC hz (fun z hzz => ih z.2.1 (List.mem_map.2 ⟨z, hzz, rfl⟩))
 | map m hl hk h ih =>
  intro v F w ha
  cases ha with
  | map b zs _ _ hy hm hz hd hb hF =>
   subst hy
   rw [List.length_map] at hl
   exact from_amap b w _ (fun W hb => from_map zs b W hl (hm.below hb) (fun z hzz => ⟨_, (hz z hzz).keep hb⟩) (fun z hzz => ih (z.1, z.2.2.1) (List.mem_map.2 ⟨z, hzz, rfl⟩)))
end Go.Proofs.Ytaembebbaejfiaa.Tr
namespace Go.Proofs.Ytaembebbaejfiaa.Tr
open Go.RowKit Go.Proofs.YtaembebbaejfiaaW.PrintWords Go.Proofs.YtaembebbaejfiaaW.PrintLast Go.Proofs.Ytaembebbaejfiaa.Str Go.Proofs.Ytaembebbaejfiaa.Kit Go.Proofs.Ytaembebbaejfiaa.MapV Go.Proofs.Ytaembebbaejfiaa.Frame Go.Proofs.Ytaembebbaejfiaa.PS
set_option linter.unusedVariables false
set_option linter.unusedSimpArgs false
def ToAnyAt (x : VI) : Prop := ∀ (A3 A4 : Option Addr) (c3 c4 : Nat) (w : World), x.f3.length ≤ c3 → Kd.string.C w A3 x.f3.length x.f3 → x.f4.length ≤ c4 → kI.C w A4 x.f4.length x.f4 →
  Calls Try.prog 30 #[.agg #[.int .i64 x.f0, .int .i64 x.f1, .string x.f2, .slice A3 x.f3.length c3, .slice A4 x.f4.length c4]] w (Made w (anyOf x))
set_option maxHeartbeats 6400000 in
set_option maxRecDepth 100000 in
theorem toMap_of (kd nm : Int) (t : BA) (ks : List BA) (vs : List VI) (hks : ∀ s, s ∈ ks → s.size ≤ maxLen) (hkl : ks.length ≤ 8796093022000) (hvl : vs.length ≤ 1759218604400) (hch : ∀ v, v ∈ vs → ToAnyAt v) (A3 A4 : Option Addr) (c3 c4 : Nat) (w : World) (hk : Kd.string.C w A3 ks.length ks) (hv : kI.C w A4 vs.length vs) :
  Calls Try.prog 44 #[.agg #[.int .i64 kd, .int .i64 nm, .string t, .slice A3 ks.length c3, .slice A4 vs.length c4]] w fun e w' => ∃ b, e = .returned (.map (some b)) ∧ AR w' (.iface 65 (.map (some b))) (.map (fitM (pairsOf ks vs))) (fun k => w.heap.size ≤ k ∧ k < w'.heap.size) ∧ Below w.heap.size w w' := by
 have HC := aM hch
 have HK := aM hk
 have HV := aM hv
 have HKS := aM hks
 have hmm := fun (n : Int) (w : World) => run_makeHint (P := Try.prog) amap_u .i64 n w
 have hbx := below_alloc (Below.refl w.heap.size w) (.cells #[.int .i64 kd, .int .i64 nm, .string t, .slice A3 ks.length c3, .slice A4 vs.length c4] 36)
 have HB0 := aM (below_alloc hbx (.map #[] 0))
 have HX0 := aM (show ((w.alloc (.cells #[.int .i64 kd, .int .i64 nm, .string t, .slice A3 ks.length c3, .slice A4 vs.length c4] 36)).alloc (.map #[] 0)).heap[w.heap.size]? = some (.cells #[.int .i64 kd, .int .i64 nm, .string t, .slice A3 ks.length c3, .slice A4 vs.length c4] 36 (0, 0)) from blk_alloc (cb_new _ _) _)
 have hm0 := MapAt.made (w.alloc (.cells #[.int .i64 kd, .int .i64 nm, .string t, .slice A3 ks.length c3, .slice A4 vs.length c4] 36))
 rw [World.size_alloc] at hm0
 have HM0 := aM hm0
 have HT0 := aM (show fitM ((pairsOf ks vs).take 0) = [] from rfl)
 clear hch hk hv hks hbx hm0
 go_enter Try.func44, Try.ntmps44
 go_wp2
 go_loopw [4] (fun v4 wr => ∃ i : Nat, v4 = .int .i64 i ∧ i ≤ ks.length ∧ i ≤ vs.length ∧ Aside0 (∃ zs, MapAt wr (w.heap.size + 1) zs (fitM ((pairsOf ks vs).take i))) ∧ Aside0 (Below w.heap.size w wr) ∧ Aside0 (wr.heap[w.heap.size]? = some (.cells #[.int .i64 kd, .int .i64 nm, .string t, .slice A3 ks.length c3, .slice A4 vs.length c4] 36 (0, 0)))) (fun v4 _ => ks.length - (intOf v4).toNat)
 case atStart => exact ⟨0, rfl, by omega, by omega, ⟨[], HM0.out⟩, HB0, HX0⟩
 case round =>
  clear HM0 HB0 HX0 HT0
  obtain ⟨i, rfl, hik, hiv, HM, HB, HX⟩ := hrel
  have x3 := cb_cell (i := 3) HX.out rfl
  have x4 := cb_cell (i := 4) HX.out rfl
  have q0 : (0 : Int) ≤ (i : Int) := by omega
  by_cases hlk : i < ks.length
  ·by_cases hlv : i < vs.length
   ·have q1 : (i : Int) < (ks.length : Int) := by omega
    have q2 : (i : Int) < (vs.length : Int) := by omega
    have d1 : decide ((i : Int) < (ks.length : Int)) = true := decide_eq_true q1
    have d2 : decide ((i : Int) < (vs.length : Int)) = true := decide_eq_true q2
    obtain ⟨kb, ko, rfl, hkb, hkc⟩ := strs_open HK.out (by omega)
    obtain ⟨vb, vo, rfl, hvb, hvc⟩ := kI_at HV.out (by omega)
    have k0 := hkc i hlk
    obtain ⟨B3, d3, B4, d4, e0, e1, e2, e3, e4, l3, g3, l4, g4⟩ := hvc i hlv
    have HCH := aM (HC.out vs[i] (List.getElem_mem hlv))
    have HKZ := aM (HKS.out ks[i] (List.getElem_mem hlk))
    have HTK := aM (pairsOf_get hlk hlv)
    have HG := aM (And.intro l3 (And.intro g3 (And.intro l4 g4)))
    have n0 : wr.drew.cell? ⟨kb, ko + i, none⟩ = some (.string ks[i]) := pw_cell_below HB.out k0
    have y0 : wr.drew.cell? ⟨vb, vo + i * 5, none⟩ = some (.int .i64 vs[i].f0) := pw_cell_below HB.out e0
    have y1 : wr.drew.cell? ⟨vb, vo + i * 5 + 1, none⟩ = some (.int .i64 vs[i].f1) := pw_cell_below HB.out e1
    have y2 : wr.drew.cell? ⟨vb, vo + i * 5 + 2, none⟩ = some (.string vs[i].f2) := pw_cell_below HB.out e2
    have y3 : wr.drew.cell? ⟨vb, vo + i * 5 + 3, none⟩ = some (.slice B3 vs[i].f3.length d3) := pw_cell_below HB.out e3
    have y4 : wr.drew.cell? ⟨vb, vo + i * 5 + 4, none⟩ = some (.slice B4 vs[i].f4.length d4) := pw_cell_below HB.out e4
    have z3 : wr.drew.cell? ⟨w.heap.size, 3, none⟩ = some (.slice (some ⟨kb, ko, none⟩) ks.length c3) := x3
    have z4 : wr.drew.cell? ⟨w.heap.size, 4, none⟩ = some (.slice (some ⟨vb, vo, none⟩) vs.length c4) := x4
    have CA := aM (fun (W : World) (hb : Below w.heap.size w W) => HCH.out B3 B4 d3 d4 W HG.out.1 (Kd.C_below HG.out.2.1 hb) HG.out.2.2.1 (Kd.C_below HG.out.2.2.2 hb))
    clear hkc hvc k0 e0 e1 e2 e3 e4 l3 g3 l4 g4 HCH HG
    generalize ks[i] = key at n0 HTK HKZ
    generalize vs[i] = v at y0 y1 y2 y3 y4 HTK CA
    obtain ⟨x0, x1, x2, x3_, x4_⟩ := v
    obtain ⟨f, hf⟩ : ∃ f, fitM ((pairsOf ks vs).take i) = f := ⟨_, rfl⟩
    have HF := aM (show fitM ((pairsOf ks vs).take (i + 1)) = mput f (lb key) (anyOf ⟨x0, x1, x2, x3_, x4_⟩) by rw [HTK.out, fitM_snoc, hf])
    have hfl : f.length ≤ i := by
     rw [← hf]
     exact Nat.le_trans (fitM_length _) (List.length_take_le _ _)
    rw [hf] at HM
    clear hf HTK
    generalize anyOf ⟨x0, x1, x2, x3_, x4_⟩ = yv at CA HF
    go_wp2_with fail
    refine start_ (n := 13) (S := fun w' => w'.cell? ⟨w.heap.size, 3, none⟩ = some (.slice (some ⟨kb, ko, none⟩) ks.length c3) ∧ w'.cell? ⟨w.heap.size, 4, none⟩ = some (.slice (some ⟨vb, vo, none⟩) vs.length c4) ∧ w'.cell? ⟨kb, ko + i, none⟩ = some (.string key) ∧ w'.cell? ⟨vb, vo + i * 5, none⟩ = some (.int .i64 x0) ∧ w'.cell? ⟨vb, vo + i * 5 + 1, none⟩ = some (.int .i64 x1) ∧ w'.cell? ⟨vb, vo + i * 5 + 2, none⟩ = some (.string x2) ∧ w'.cell? ⟨vb, vo + i * 5 + 3, none⟩ = some (.slice B3 x3_.length d3) ∧ w'.cell? ⟨vb, vo + i * 5 + 4, none⟩ = some (.slice B4 x4_.length d4)) (ds := [12]) #[false, false, false, false, false, false, false, false, false, false, false, false, false] (by kernel_rfl) rfl rfl ⟨z3, z4, n0, y0, y1, y2, y3, y4⟩ (fun hHeld => ?_)
    refine pure_ (i := 0) (N := some 23) (v := ?_) (a' := ?_) #[true, false, false, false, false, false, false, false, false, false, false, false, false] rfl rfl (by kernel_rfl) (fun _ _ _ h => h) (Or.inl ⟨by rfl, ?_⟩) ?_ ?_
    rotate_left
    ·intro w'; go_simp; with_reducible rfl
    rotate_left
    ·simp only [Act.put, sA, sB, sC, i64_w, i32_w]; rfl
    refine pure_ (i := 1) (N := some 24) (v := ?_) (a' := ?_) #[true, true, false, false, false, false, false, false, false, false, false, false, false] rfl rfl (by kernel_rfl) (fun _ _ _ h => h) (Or.inl ⟨by rfl, ?_⟩) ?_ ?_
    rotate_left
    ·intro w'; go_simp; with_reducible rfl
    rotate_left
    ·simp only [Act.put, sA, sB, sC, i64_w, i32_w]; rfl
    refine pure_ (i := 3) (N := some 26) (v := ?_) (a' := ?_) #[true, true, false, true, false, false, false, false, false, false, false, false, false] rfl rfl (by kernel_rfl) (fun _ _ _ h => h) (Or.inl ⟨by rfl, ?_⟩) ?_ ?_
    rotate_left
    ·intro w'; go_simp; with_reducible rfl
    rotate_left
    ·simp only [Act.put, sA, sB, sC, i64_w, i32_w]; rfl
    refine pure_ (i := 6) (N := some 29) (v := ?_) (a' := ?_) #[true, true, false, true, false, false, true, false, false, false, false, false, false] rfl rfl (by kernel_rfl) (fun _ _ _ h => h) (Or.inl ⟨by rfl, ?_⟩) ?_ ?_
    rotate_left
    ·intro w'; go_simp; with_reducible rfl
    rotate_left
    ·simp only [Act.put, sA, sB, sC, i64_w, i32_w]; rfl
    refine pure_ (i := 8) (N := some 31) (v := ?_) (a' := ?_) #[true, true, false, true, false, false, true, false, true, false, false, false, false] rfl rfl (by kernel_rfl) (fun _ _ _ h => h) (Or.inl ⟨by rfl, ?_⟩) ?_ ?_
    rotate_left
    ·intro w'; go_simp; with_reducible rfl
    rotate_left
    ·simp only [Act.put, sA, sB, sC, i64_w, i32_w]; rfl
    refine take_ (i := 2) (N := some 25) (v := ?_) (a' := ?_) #[true, true, true, true, false, false, true, false, true, false, false, false, false] rfl rfl (by kernel_rfl) (fun _ _ _ h => h) (Or.inl ⟨by rfl, ?_⟩) hHeld ?_ ?_
    rotate_left
    ·rintro w' ⟨s0, s1, s2, s3, s4, s5, s6, s7⟩
     go_simp; with_reducible rfl
    rotate_left
    ·simp only [Act.put, sA, sB, sC, i64_w, i32_w]; rfl
    refine pure_ (i := 4) (N := some 27) (v := ?_) (a' := ?_) #[true, true, true, true, true, false, true, false, true, false, false, false, false] rfl rfl (by kernel_rfl) (fun _ _ _ h => h) (Or.inl ⟨by rfl, ?_⟩) ?_ ?_
    rotate_left
    ·intro w'; go_simp; with_reducible rfl
    rotate_left
    ·simp only [Act.put, sA, sB, sC, i64_w, i32_w]; rfl
    refine take_ (i := 5) (N := some 28) (v := ?_) (a' := ?_) #[true, true, true, true, true, true, true, false, true, false, false, false, false] rfl rfl (by kernel_rfl) (fun _ _ _ h => h) (Or.inl ⟨by rfl, ?_⟩) hHeld ?_ ?_
    rotate_left
    ·rintro w' ⟨s0, s1, s2, s3, s4, s5, s6, s7⟩
     go_simp; with_reducible rfl
    rotate_left
    ·simp only [Act.put, sA, sB, sC, i64_w, i32_w]; rfl
    refine take_ (i := 7) (N := some 30) (v := ?_) (a' := ?_) #[true, true, true, true, true, true, true, true, true, false, false, false, false] rfl rfl (by kernel_rfl) (fun _ _ _ h => h) (Or.inl ⟨by rfl, ?_⟩) hHeld ?_ ?_
    rotate_left
    ·rintro w' ⟨s0, s1, s2, s3, s4, s5, s6, s7⟩
     go_simp; with_reducible rfl
    rotate_left
    ·simp only [Act.put, sA, sB, sC, i64_w, i32_w]; rfl
    refine pure_ (i := 9) (N := some 32) (v := ?_) (a' := ?_) #[true, true, true, true, true, true, true, true, true, true, false, false, false] rfl rfl (by kernel_rfl) (fun _ _ _ h => h) (Or.inl ⟨by rfl, ?_⟩) ?_ ?_
    rotate_left
    ·intro w'; go_simp; with_reducible rfl
    rotate_left
    ·simp only [Act.put, sA, sB, sC, i64_w, i32_w]; rfl
    refine take_ (i := 10) (N := some 33) (v := ?_) (a' := ?_) #[true, true, true, true, true, true, true, true, true, true, true, false, false] rfl rfl (by kernel_rfl) (fun _ _ _ h => h) (Or.inl ⟨by rfl, ?_⟩) hHeld ?_ ?_
    rotate_left
    ·rintro w' ⟨s0, s1, s2, s3, s4, s5, s6, s7⟩
     go_simp; with_reducible rfl
    rotate_left
    ·simp only [Act.put, sA, sB, sC, i64_w, i32_w]; rfl
    refine one_ (i := 11) (N := some 34) #[true, true, true, true, true, true, true, true, true, true, true, true, false] rfl rfl (by kernel_rfl) (by decide) (fun K hK => ?_)
    refine goes_ Try.func30 (by kernel_rfl) rfl #[.agg #[.int .i64 x0, .int .i64 x1, .string x2, .slice B3 x3_.length d3, .slice B4 x4_.length d4]] (by rfl) rfl rfl (by simp only [List.map_toArray, List.map_cons, List.map_nil]; rfl) ?_
    with_reducible refine (CA.out wr.drew (below_drew HB.out)).mono ?_
    rintro e w3 ⟨v3, rfl, ha3, hb3⟩
    refine ⟨_, rfl, ?_⟩
    have HB3 := aM hb3
    have HA3 := aM ha3
    have HX3 := aM ((hb3.block _ (cb_lt (show wr.drew.heap[w.heap.size]? = _ from HX.out))).trans (show wr.drew.heap[w.heap.size]? = _ from HX.out))
    clear ha3
    refine hK.out _ _ ⟨pw_cell_below hb3 hHeld.1, pw_cell_below hb3 hHeld.2.1, pw_cell_below hb3 hHeld.2.2.1, pw_cell_below hb3 hHeld.2.2.2.1, pw_cell_below hb3 hHeld.2.2.2.2.1, pw_cell_below hb3 hHeld.2.2.2.2.2.1, pw_cell_below hb3 hHeld.2.2.2.2.2.2.1, pw_cell_below hb3 hHeld.2.2.2.2.2.2.2⟩ (fun hHeld => ?_)
    clear hK K
    refine norm_ (a' := ?_) ?_ ?_
    rotate_left
    ·show Act.put _ (some 34) _ = _
     simp only [Act.put, sA, sB, sC, i64_w, i32_w]; rfl
    refine last_ (i := 12) (N := none) #[true, true, true, true, true, true, true, true, true, true, true, true, true] rfl rfl (by kernel_rfl) (by decide) (fun K hK => ?_)
    obtain ⟨zs, hzs⟩ := HM.out
    have hlen := hzs.length
    refine store_mapE_step (enc := (id : Value → Value)) (y := v3) akey_u amap_u rfl rfl _ _ _ rfl rfl ((hzs.drew.move HB3.out).hm) (by rw [hlen]; unfold maxLen; omega) rfl HKZ.out rfl ?_
    intro w4 hm4 hg4
    have HM4 := aM (hzs.drew.put HB3.out HA3.out (lb key) hm4 hg4)
    have HG4 := aM hg4
    clear hm4 hg4 hzs hlen
    refine hK.out _ _ ?_
    clear hK K
    refine done_ (by kernel_rfl) ?_
    go_wp2
    go_roundw
    case rel =>
     refine ⟨i + 1, by go_num, by omega, by omega, ⟨⟨_, by rw [HF.out]; exact HM4.out⟩⟩, ⟨?_⟩, ⟨?_⟩⟩
     ·exact pw_below_grown (hb_then (below_drew HB.out) HB3.out) _ (hb_then (below_drew HB.out) HB3.out).size HG4.out (fun k hk => by injection hk with hk; omega)
     ·exact (HG4.out.block _ (cb_lt HX3.out) (fun e => by injection e with e; omega)).trans HX3.out
    case measure => simp [intOf]; omega
   ·have d1 : decide ((i : Int) < (ks.length : Int)) = true := decide_eq_true (by omega)
    have d2 : decide ((i : Int) < (vs.length : Int)) = false := decide_eq_false (by omega)
    have HTK := aM (show (pairsOf ks vs).take i = pairsOf ks vs from List.take_of_length_le (by rw [pairsOf_length]; omega))
    go_wp2
    go_ret
    obtain ⟨zs, hzs⟩ := HM.out
    rw [HTK.out] at hzs
    exact ⟨_, rfl, hzs.done.mono (fun k hk => ⟨by have := hk.1; omega, hk.2⟩), HB.out⟩
  ·have d1 : decide ((i : Int) < (ks.length : Int)) = false := decide_eq_false (by omega)
   have HTK := aM (show (pairsOf ks vs).take i = pairsOf ks vs from List.take_of_length_le (by rw [pairsOf_length]; omega))
   go_wp2
   go_ret
   obtain ⟨zs, hzs⟩ := HM.out
   rw [HTK.out] at hzs
   exact ⟨_, rfl, hzs.done.mono (fun k hk => ⟨by have := hk.1; omega, hk.2⟩), HB.out⟩
end Go.Proofs.Ytaembebbaejfiaa.Tr
namespace Go.Proofs.Ytaembebbaejfiaa.Tr
open Go.RowKit Go.Proofs.YtaembebbaejfiaaW.PrintWords Go.Proofs.YtaembebbaejfiaaW.PrintLast Go.Proofs.Ytaembebbaejfiaa.Str Go.Proofs.Ytaembebbaejfiaa.Kit Go.Proofs.Ytaembebbaejfiaa.MapV Go.Proofs.Ytaembebbaejfiaa.Frame Go.Proofs.Ytaembebbaejfiaa.PS
set_option linter.unusedVariables false
set_option linter.unusedSimpArgs false
theorem info_any : (Try.prog.info? 20).map (fun i => (i.zero, i.size, i.bytes)) = some (some .nilIface, 1, 16) := by kernel_rfl
def noEn : En := (.nilIface, .null, fun _ => False)
structure ListAt (wr : World) (b n : Nat) (zs : List En) : Prop where
 hr : kAny.R 20 wr 0 (fun _ => True) (.slice (some ⟨b, 0, none⟩) n n) (zs.map (fun z => z.1))
 hz : ∀ z, z ∈ zs → AR wr z.1 z.2.1 z.2.2
 hd : zs.Pairwise En.far
 hF : ∀ z, z ∈ zs → ∀ k, z.2.2 k → b < k ∧ k < wr.heap.size
theorem ListAt.length {wr : World} {b n : Nat} {zs : List En} (h : ListAt wr b n zs) : zs.length = n := by
 have := (Kd.R_reads' h.hr).1
 rw [List.length_map] at this
 exact this.symm
theorem ListAt.lt {wr : World} {b n : Nat} {zs : List En} (h : ListAt wr b n zs) : b < wr.heap.size := ((Kd.R_bound h.hr).1 b (by simp [Value.ownBlock])).2.2.1
theorem ListAt.move {wr w1 : World} {b n : Nat} {zs : List En} (h : ListAt wr b n zs) (hb : Below wr.heap.size wr w1) : ListAt w1 b n zs :=
 ⟨Kd.R_below h.hr hb, fun z hz => (h.hz z hz).move (fun k hk => hb.block k (h.hF z hz k hk).2), h.hd, fun z hz k hk => ⟨(h.hF z hz k hk).1, Nat.lt_of_lt_of_le (h.hF z hz k hk).2 hb.size⟩⟩
theorem set_pair {R : En → En → Prop} (hs : ∀ a b, R a b → R b a) {x : En} : ∀ {zs : List En} (i : Nat), zs.Pairwise R → (∀ z ∈ zs, R x z) → (zs.set i x).Pairwise R
 | [], _, h, _ => h
 | y :: r, 0, h, hx => List.pairwise_cons.2 ⟨fun z hz => hx z (by simp [hz]), (List.pairwise_cons.1 h).2⟩
 | y :: r, i + 1, h, hx => by
  obtain ⟨h1, h2⟩ := List.pairwise_cons.1 h
  rw [List.set_cons_succ]
  refine List.pairwise_cons.2 ⟨fun z hz => ?_, set_pair hs i h2 (fun z hz => hx z (by simp [hz]))⟩
  rcases List.mem_or_eq_of_mem_set hz with hz | rfl
  ·exact h1 z hz
  ·exact hs _ _ (hx y (by simp))
theorem ListAt.put {W w3 : World} {b n : Nat} {zs : List En} (h : ListAt W b n zs) (hb3 : Below W.heap.size W w3) {v : Value} {y : Y} (hA : AR w3 v y (fun k => W.heap.size ≤ k ∧ k < w3.heap.size)) (i : Nat) (hi : i < n) :
  ListAt (w3.setCell ⟨b, i, none⟩ v) b n (zs.set i (v, y, fun k => W.heap.size ≤ k ∧ k < w3.heap.size)) := by
 have hlt := h.lt
 have h3 := h.move hb3
 have hsz : (w3.setCell ⟨b, i, none⟩ v).heap.size = w3.heap.size := by simp
 have hg : w3.grownBy (w3.setCell ⟨b, i, none⟩ v) (some b) := grown_setCell w3 b i v
 have mv : ∀ {v' y F}, AR w3 v' y F → (∀ k, F k → b < k ∧ k < w3.heap.size) → AR (w3.setCell ⟨b, i, none⟩ v) v' y F := fun hA hF => hA.move (fun k hk => hg.block k (hF k hk).2 (fun e => by injection e with e; have := (hF k hk).1; omega))
 refine ⟨?_, fun z hz => ?_, ?_, fun z hz k hk => ?_⟩
 ·rw [List.map_set]
  exact (kAny_put h3.hr i hi v hA.one).2.2
 ·rcases List.mem_or_eq_of_mem_set hz with hz | rfl
  ·exact mv (h3.hz z hz) (h3.hF z hz)
  ·exact mv hA (fun k hk => ⟨by omega, hk.2⟩)
 ·refine set_pair (fun a b hab k hk hk2 => hab k hk2 hk) i h.hd (fun z hz k hk hk2 => ?_)
  have h1 := (h.hF z hz k hk2).2
  have h2 : W.heap.size ≤ k := hk.1
  omega
 ·rw [hsz]
  rcases List.mem_or_eq_of_mem_set hz with hz | rfl
  ·exact h3.hF z hz k hk
  ·have h2 : W.heap.size ≤ k := hk.1
   exact ⟨by omega, hk.2⟩
theorem ListAt.done {wr : World} {b n : Nat} {zs : List En} {l : List Y} (h : ListAt wr b n zs) (hl : zs.map (fun z => z.2.1) = l) : AR wr (.iface 58 (.slice (some ⟨b, 0, none⟩) n n)) (.list l) (fun k => b ≤ k ∧ k < wr.heap.size) :=
 .list _ zs l _ hl.symm h.hr h.hz h.hd (fun b' hb' => by
  have : b = b' := by simpa [Value.ownBlock] using hb'
  subst this
  exact ⟨⟨Nat.le_refl _, h.lt⟩, fun z hz hk => by have := (h.hF z hz b hk).1; omega⟩) (fun z hz k hk => ⟨Nat.le_of_lt (h.hF z hz k hk).1, (h.hF z hz k hk).2⟩)
theorem ListAt.made (w : World) (n : Nat) (hn : n ≤ 1759218604400) : ListAt (w.alloc (.cells (madeCells #[.nilIface] n) 20)) w.heap.size n (List.replicate n noEn) := by
 refine ⟨?_, fun z hz => ?_, ?_, fun z hz k hk => ?_⟩
 ·have e : (List.replicate n noEn).map (fun z => z.1) = List.replicate n Value.nilIface := by rw [List.map_replicate]; rfl
  rw [e]
  refine ⟨fun _ _ => trivial, List.replicate n Value.nilIface, ⟨by simp [held], .inr ⟨w.heap.size, n, madeCells #[.nilIface] n, by simp, Nat.zero_le _, cb_new _ _, by simp, by unfold maxLen; omega, by simp [held, size_madeCells], ?_⟩⟩, by simp [held], fun j p hp => ?_⟩
  ·show (madeCells #[.nilIface] n).toList.take ((List.replicate n Value.nilIface).length * 1) = List.replicate n Value.nilIface
   rw [List.length_replicate, Nat.mul_one]
   apply List.ext_getElem?
   intro j
   by_cases hj : j < n
   ·rw [List.getElem?_take_of_lt hj, Array.getElem?_toList]
    simp [madeCells, hj, Nat.mod_one]
   ·rw [List.getElem?_take_eq_none (by omega), List.getElem?_eq_none (by simp; omega)]
  ·obtain ⟨hj, rfl⟩ := List.getElem?_eq_some_iff.1 hp
   have hj' : j < n := by simpa using hj
   show ((List.replicate n Value.nilIface).drop (j * 1)).take 1 = [(List.replicate n Value.nilIface)[j]] ∧ _
   rw [List.getElem_replicate, Nat.mul_one, List.drop_replicate, List.take_replicate, show min 1 (n - j) = 1 by omega]
   exact ⟨rfl, rfl⟩
 ·rw [List.eq_of_mem_replicate hz]
  exact .null _
 ·exact List.pairwise_replicate.2 (.inr (fun k hk => hk.elim))
 ·rw [List.eq_of_mem_replicate hz] at hk
  exact hk.elim
def saidTo (l : List Y) (i n : Nat) : List Y := l.take i ++ List.replicate (n - i) .null
theorem saidTo_set (l : List Y) (i n : Nat) (hi : i < n) (hl : l.length = n) : (saidTo l i n).set i (l[i]'(by omega)) = saidTo l (i + 1) n := by
 unfold saidTo
 have h1 : (l.take i).length = i := by rw [List.length_take]; omega
 rw [List.set_append_right _ _ (by omega), h1, Nat.sub_self]
 obtain ⟨m, hm⟩ : ∃ m, n - i = m + 1 := ⟨n - i - 1, by omega⟩
 rw [hm, List.replicate_succ, List.set_cons_zero, List.take_succ_eq_append_getElem (by omega), show n - (i + 1) = m by omega, List.append_assoc]
 rfl
set_option maxHeartbeats 6400000 in
set_option maxRecDepth 100000 in
theorem toAny_list (nm : Int) (t : BA) (ks : List BA) (vs : List VI) (hvl : vs.length ≤ 1759218604400) (hch : ∀ v, v ∈ vs → ToAnyAt v) (A3 A4 : Option Addr) (c3 c4 : Nat) (w : World) (hv : kI.C w A4 vs.length vs) :
  Calls Try.prog 30 #[.agg #[.int .i64 4, .int .i64 nm, .string t, .slice A3 ks.length c3, .slice A4 vs.length c4]] w (Made w (.list (anyL vs))) := by
 have HC := aM hch
 have HV := aM hv
 have hmk := fun W => run_make_row' (P := Try.prog) 58 20 .nilIface 16 Try.underlying58 info_any rfl .i64 .i64 vs.length (by omega) (by omega) W
 have hbx := below_alloc (Below.refl w.heap.size w) (.cells #[.int .i64 4, .int .i64 nm, .string t, .slice A3 ks.length c3, .slice A4 vs.length c4] 36)
 have HB0 := aM (below_alloc hbx (.cells (madeCells #[.nilIface] vs.length) 20))
 have HX0 := aM (show ((w.alloc (.cells #[.int .i64 4, .int .i64 nm, .string t, .slice A3 ks.length c3, .slice A4 vs.length c4] 36)).alloc (.cells (madeCells #[.nilIface] vs.length) 20)).heap[w.heap.size]? = some (.cells #[.int .i64 4, .int .i64 nm, .string t, .slice A3 ks.length c3, .slice A4 vs.length c4] 36 (0, 0)) from blk_alloc (cb_new _ _) _)
 have hm0 := ListAt.made (w.alloc (.cells #[.int .i64 4, .int .i64 nm, .string t, .slice A3 ks.length c3, .slice A4 vs.length c4] 36)) vs.length hvl
 rw [World.size_alloc] at hm0
 have HM0 := aM hm0
 have HT0 := aM (show (List.replicate vs.length noEn).map (fun z => z.2.1) = saidTo (anyL vs) 0 vs.length from by rw [List.map_replicate]; rfl)
 have hc : ∀ W : World, W = W := fun _ => rfl
 clear hch hv hbx hm0 hc
 go_enter Try.func30, Try.ntmps30
 go_wp2
 go_loopw [32, 4] (fun v32 v4 wr => ∃ i : Nat, v32 = .int .i64 i ∧ i ≤ vs.length ∧ Aside0 (∃ zs, ListAt wr (w.heap.size + 1) vs.length zs ∧ zs.map (fun z => z.2.1) = saidTo (anyL vs) i vs.length) ∧ Aside0 (Below w.heap.size w wr) ∧ Aside0 (wr.heap[w.heap.size]? = some (.cells #[.int .i64 4, .int .i64 nm, .string t, .slice A3 ks.length c3, .slice A4 vs.length c4] 36 (0, 0)))) (fun v32 _ _ => vs.length - (intOf v32).toNat)
 case atStart => exact ⟨0, rfl, by omega, ⟨_, HM0.out, HT0.out⟩, HB0, HX0⟩
 case round =>
  clear HM0 HB0 HX0 HT0
  obtain ⟨i, rfl, hiv, HM, HB, HX⟩ := hrel
  have x4 := cb_cell (i := 4) HX.out rfl
  have q0 : (0 : Int) ≤ (i : Int) := by omega
  by_cases hlv : i < vs.length
  ·have q2 : (i : Int) < (vs.length : Int) := by omega
   obtain ⟨vb, vo, rfl, hvb, hvc⟩ := kI_at HV.out (by omega)
   obtain ⟨B3, d3, B4, d4, e0, e1, e2, e3, e4, l3, g3, l4, g4⟩ := hvc i hlv
   have HCH := aM (HC.out vs[i] (List.getElem_mem hlv))
   have HG := aM (And.intro l3 (And.intro g3 (And.intro l4 g4)))
   have y0 := pw_cell_below HB.out e0
   have y1 := pw_cell_below HB.out e1
   have y2 := pw_cell_below HB.out e2
   have y3 := pw_cell_below HB.out e3
   have y4 := pw_cell_below HB.out e4
   have CA := aM (fun (W : World) (hb : Below w.heap.size w W) => HCH.out B3 B4 d3 d4 W HG.out.1 (Kd.C_below HG.out.2.1 hb) HG.out.2.2.1 (Kd.C_below HG.out.2.2.2 hb))
   have HST := aM (saidTo_set (anyL vs) i vs.length hlv (anyL_length vs))
   have HGE := aM (show (anyL vs)[i]'(by rw [anyL_length]; exact hlv) = anyOf vs[i] by simp [anyL_map])
   clear hvc e0 e1 e2 e3 e4 l3 g3 l4 g4 HCH HG
   generalize vs[i] = v at y0 y1 y2 y3 y4 HGE CA
   obtain ⟨x0, x1, x2, x3_, x4_⟩ := v
   generalize anyOf ⟨x0, x1, x2, x3_, x4_⟩ = yv at CA HGE
   go_wp2_with fail
   refine (CA.out wr HB.out).mono ?_
   rintro e w3 ⟨v3, rfl, ha3, hb3⟩
   have HB3 := aM hb3
   have HA3 := aM ha3
   have HX3 := aM ((hb3.block _ (cb_lt HX.out)).trans HX.out)
   obtain ⟨zs, hzs, hsaid⟩ := HM.out
   have HZS := aM hzs
   have HSD := aM hsaid
   have hzt := kAny_put (hzs.move hb3).hr i hlv v3 ha3.one
   have hst : (storeCells ⟨w.heap.size + 1, i, none⟩ [v3]).run Try.prog w3 = .ok () (w3.setCell ⟨w.heap.size + 1, i, none⟩ v3) := by
    have := run_storeCells_cells (P := Try.prog) (w.heap.size + 1) i [v3] 0 w3 (fun j hj => by
     have : j = 0 := by simpa using hj
     subst this
     exact hzt.1) (fun j hj => by
     have : j = 0 := by simpa using hj
     subst this
     exact hzt.2.1) (fun u hu => by
     have : u = v3 := by simpa using hu
     rw [this]
     exact ha3.one)
    simpa [World.setCells] using this
   clear hb3 ha3 hzs hsaid hzt
   go_wp2
   rw [hst]
   go_wp2
   go_roundw
   case rel =>
    have hp := HZS.out.put HB3.out HA3.out i hlv
    refine ⟨i + 1, by go_num, by omega, ⟨⟨_, hp, ?_⟩⟩, ⟨?_⟩, ⟨?_⟩⟩
    ·rw [List.map_set, HSD.out, ← HST.out, HGE.out]
    ·exact (hb_then HB.out HB3.out).setCell (by show w.heap.size ≤ w.heap.size + 1; omega) _
    ·exact (Below.heap_setCell w3 ⟨w.heap.size + 1, i, none⟩ v3 _ (by show w.heap.size ≠ w.heap.size + 1; omega)).trans HX3.out
   case measure => simp [intOf]; omega
  ·have HTK := aM (show saidTo (anyL vs) i vs.length = anyL vs by
    unfold saidTo
    rw [List.take_of_length_le (by rw [anyL_length]; omega), show vs.length - i = 0 by omega]
    simp)
   go_wp2
   go_ret
   obtain ⟨zs, hzs, hsaid⟩ := HM.out
   rw [HTK.out] at hsaid
   exact ⟨_, rfl, (hzs.done hsaid).mono (fun k hk => ⟨by have := hk.1; omega, hk.2⟩), HB.out⟩
set_option maxHeartbeats 800000 in
theorem toAny_bool (nm : Int) (t : BA) (ks : List BA) (vs : List VI) (A3 A4 : Option Addr) (c3 c4 : Nat) (w : World) :
  Calls Try.prog 30 #[.agg #[.int .i64 1, .int .i64 nm, .string t, .slice A3 ks.length c3, .slice A4 vs.length c4]] w (Made w (.bool (nm != 0))) := by
 have HB := aM (below_alloc (Below.refl w.heap.size w) (.cells #[.int .i64 1, .int .i64 nm, .string t, .slice A3 ks.length c3, .slice A4 vs.length c4] 36))
 go_enter Try.func30, Try.ntmps30
 go_wp2
 go_ret
 exact ⟨_, rfl, .bool _ _, HB.out⟩
set_option maxHeartbeats 800000 in
theorem toAny_int (nm : Int) (t : BA) (ks : List BA) (vs : List VI) (A3 A4 : Option Addr) (c3 c4 : Nat) (w : World) :
  Calls Try.prog 30 #[.agg #[.int .i64 2, .int .i64 nm, .string t, .slice A3 ks.length c3, .slice A4 vs.length c4]] w (Made w (.int nm)) := by
 have HB := aM (below_alloc (Below.refl w.heap.size w) (.cells #[.int .i64 2, .int .i64 nm, .string t, .slice A3 ks.length c3, .slice A4 vs.length c4] 36))
 go_enter Try.func30, Try.ntmps30
 go_wp2
 go_ret
 exact ⟨_, rfl, .int _ _, HB.out⟩
set_option maxHeartbeats 800000 in
theorem toAny_text (nm : Int) (t : BA) (ks : List BA) (vs : List VI) (A3 A4 : Option Addr) (c3 c4 : Nat) (w : World) :
  Calls Try.prog 30 #[.agg #[.int .i64 3, .int .i64 nm, .string t, .slice A3 ks.length c3, .slice A4 vs.length c4]] w (Made w (.text t)) := by
 have HB := aM (below_alloc (Below.refl w.heap.size w) (.cells #[.int .i64 3, .int .i64 nm, .string t, .slice A3 ks.length c3, .slice A4 vs.length c4] 36))
 go_enter Try.func30, Try.ntmps30
 go_wp2
 go_ret
 exact ⟨_, rfl, .text _ _, HB.out⟩
set_option maxHeartbeats 800000 in
theorem toAny_other (kd nm : Int) (t : BA) (ks : List BA) (vs : List VI) (A3 A4 : Option Addr) (c3 c4 : Nat) (w : World) (h1 : (kd == 1) = false) (h2 : (kd == 2) = false) (h3 : (kd == 3) = false) (h4 : (kd == 4) = false) (h5 : (kd == 5) = false) :
  Calls Try.prog 30 #[.agg #[.int .i64 kd, .int .i64 nm, .string t, .slice A3 ks.length c3, .slice A4 vs.length c4]] w (Made w .null) := by
 have HB := aM (below_alloc (Below.refl w.heap.size w) (.cells #[.int .i64 kd, .int .i64 nm, .string t, .slice A3 ks.length c3, .slice A4 vs.length c4] 36))
 go_enter Try.func30, Try.ntmps30
 go_wp2
 go_ret
 exact ⟨_, rfl, .null _, HB.out⟩
set_option maxHeartbeats 1600000 in
theorem toAny_map (nm : Int) (t : BA) (ks : List BA) (vs : List VI) (hks : ∀ s, s ∈ ks → s.size ≤ maxLen) (hkl : ks.length ≤ 8796093022000) (hvl : vs.length ≤ 1759218604400) (hch : ∀ v, v ∈ vs → ToAnyAt v) (A3 A4 : Option Addr) (c3 c4 : Nat) (w : World) (hk : Kd.string.C w A3 ks.length ks) (hv : kI.C w A4 vs.length vs) :
  Calls Try.prog 30 #[.agg #[.int .i64 5, .int .i64 nm, .string t, .slice A3 ks.length c3, .slice A4 vs.length c4]] w (Made w (.map (fitM (pairsOf ks vs)))) := by
 have hb := below_alloc (Below.refl w.heap.size w) (.cells #[.int .i64 5, .int .i64 nm, .string t, .slice A3 ks.length c3, .slice A4 vs.length c4] 36)
 have HB := aM hb
 have CM := aM (toMap_of 5 nm t ks vs hks hkl hvl hch A3 A4 c3 c4 (w.alloc (.cells #[.int .i64 5, .int .i64 nm, .string t, .slice A3 ks.length c3, .slice A4 vs.length c4] 36)) (Kd.C_below hk hb) (Kd.C_below hv hb))
 clear hb hks hch hk hv
 go_enter Try.func30, Try.ntmps30
 go_wp2_with fail
 refine CM.out.mono ?_
 rintro e w1 ⟨b, rfl, ha, hb⟩
 have HA := aM ha
 have HB1 := aM (hb_then HB.out hb)
 clear ha hb CM
 go_wp2
 go_ret
 exact ⟨_, rfl, HA.out.mono (fun k hk => ⟨by have h1 := hk.1; rw [World.size_alloc] at h1; omega, hk.2⟩), HB1.out⟩
theorem anyOf_list (n : Int) (t : BA) (ks : List BA) (vs : List VI) : anyOf ⟨4, n, t, ks, vs⟩ = .list (anyL vs) := by simp [anyOf]
theorem anyOf_map (n : Int) (t : BA) (ks : List BA) (vs : List VI) : anyOf ⟨5, n, t, ks, vs⟩ = .map (fitM (pairsOf ks vs)) := by simp [anyOf, pairsOf]
theorem toAny : ∀ x : VI, Small x → ToAnyAt x := by
 intro x hx
 induction hx with
 | mk x hks hkl hvl hv ih =>
  obtain ⟨kd, nm, t, ks, vs⟩ := x
  intro A3 A4 c3 c4 w h3 hk h4 hv
  by_cases h1 : kd = 1
  ·subst h1
   have e : anyOf ⟨1, nm, t, ks, vs⟩ = .bool (nm != 0) := by simp [anyOf]
   rw [e]
   exact toAny_bool nm t ks vs A3 A4 c3 c4 w
  by_cases h2 : kd = 2
  ·subst h2
   have e : anyOf ⟨2, nm, t, ks, vs⟩ = .int nm := by simp [anyOf]
   rw [e]
   exact toAny_int nm t ks vs A3 A4 c3 c4 w
  by_cases h3 : kd = 3
  ·subst h3
   have e : anyOf ⟨3, nm, t, ks, vs⟩ = .text t := by simp [anyOf]
   rw [e]
   exact toAny_text nm t ks vs A3 A4 c3 c4 w
  by_cases h4 : kd = 4
  ·subst h4
   rw [anyOf_list]
   exact toAny_list nm t ks vs hvl ih A3 A4 c3 c4 w hv
  by_cases h5 : kd = 5
  ·subst h5
   rw [anyOf_map]
   exact toAny_map nm t ks vs hks hkl hvl ih A3 A4 c3 c4 w hk hv
  ·have e : anyOf ⟨kd, nm, t, ks, vs⟩ = .null := by simp [anyOf, h1, h2, h3, h4, h5]
   rw [e]
   exact toAny_other kd nm t ks vs A3 A4 c3 c4 w (by simpa using h1) (by simpa using h2) (by simpa using h3) (by simpa using h4) (by simpa using h5)
theorem Small.of {x v : VI} (h : Small x) (hv : v ∈ x.f4) : Small v := by
 cases h with
 | mk _ _ _ _ h => exact h v hv
end Go.Proofs.Ytaembebbaejfiaa.Tr
namespace Go.Proofs.Ytaembebbaejfiaa.Mount
open Go.RowKit Go.Proofs.YtaembebbaejfiaaW.PrintWords Go.Proofs.Ytaembebbaejfiaa.Str Go.Proofs.Ytaembebbaejfiaa.Kit Go.Proofs.Ytaembebbaejfiaa.Frame
set_option linter.unusedVariables false
set_option linter.unusedSimpArgs false
theorem join_C {A : Option Addr} {c : Nat} {xs : List ByteArray} (sep : ByteArray) (w : World) (h : Kd.string.C w A xs.length xs) (hc : xs.length ≤ c)
  (hN : xs.length ≤ 140737488355328) (hlen : (Lib.join (xs.map lb) (lb sep)).length ≤ 140737488355328) :
  Calls Try.prog 52 #[.slice A xs.length c, .string sep] w fun e w' => e = .returned (.string ⟨(Lib.join (xs.map lb) (lb sep)).toArray⟩) ∧ Below w.heap.size w w' := by
 rcases Nat.eq_zero_or_pos xs.length with h0 | h0
 ·obtain rfl := List.eq_nil_of_length_eq_zero h0
  exact (Try.strings_Join_none A c sep w).mono fun e w' ⟨he, hw⟩ => ⟨he, hw ▸ Below.refl _ _⟩
 ·obtain ⟨bk, off, rfl, hbk, hcell⟩ := strs_open h h0
  exact Try.strings_Join bk off c xs sep w (fun j x hx => by
   obtain ⟨hj, rfl⟩ := List.getElem?_eq_some_iff.1 hx
   exact hcell j hj) hbk hN hc hlen
def newPath (xs : List ByteArray) : ByteArray := ⟨(Lib.join (xs.map lb) [46]).toArray⟩
set_option maxHeartbeats 400000 in
theorem tree_NewPath {A : Option Addr} {c : Nat} {xs : List ByteArray} (w : World) (h : Kd.string.C w A xs.length xs) (hc : xs.length ≤ c)
  (hN : xs.length ≤ 140737488355328) (hlen : (newPath xs).size ≤ 140737488355328) :
  Calls Try.prog 45 #[.slice A xs.length c] w fun e w' => e = .returned (.string (newPath xs)) ∧ Below w.heap.size w w' := by
 have H := aM h
 have HC := aM hc
 have HN := aM hN
 have HL := aM hlen
 clear h hc hN hlen
 go_enter Try.func45, Try.ntmps45
 go_wp2_with fail
 refine (join_C ⟨#[46]⟩ w H.out HC.out HN.out (by have := HL.out; rw [← lb_length, newPath, lb_mk] at this; exact this)).mono ?_
 rintro e w1 ⟨rfl, hb⟩
 have HB := aM hb
 clear hb
 go_wp2
 go_ret
 exact ⟨rfl, HB.out⟩
set_option maxHeartbeats 400000 in
theorem implAt (w : World) : Calls Try.prog 31 #[] w fun e w' => ∃ p, e = .returned (.string p) ∧ Below w.heap.size w w' := by
 have HC := aM (show Kd.string.C (w.alloc (.cells #[.string ⟨#[97, 116]⟩] 9)) (some ⟨w.heap.size, 0, none⟩) [(⟨#[97, 116]⟩ : ByteArray)].length [⟨#[97, 116]⟩] from strs_lit w 9 [(⟨#[97, 116]⟩ : ByteArray)] (by decide))
 go_enter Try.func31, Try.ntmps31
 go_wp2_with fail
 refine (tree_NewPath (c := 1) (xs := [(⟨#[97, 116]⟩ : ByteArray)]) _ HC.out (Nat.le_refl _) (by simp) (by decide)).mono ?_
 rintro e w1 ⟨rfl, hb⟩
 have HB := aM (hb_then ((Below.refl _ w).alloc (Nat.le_refl _) _) hb)
 clear hb
 go_wp2
 go_ret
 exact ⟨_, rfl, HB.out⟩
end Go.Proofs.Ytaembebbaejfiaa.Mount
namespace Go.Proofs.Ytaembebbaejfiaa.Tr
open Go.RowKit Go.Proofs.YtaembebbaejfiaaW.PrintWords Go.Proofs.Ytaembebbaejfiaa.Str Go.Proofs.Ytaembebbaejfiaa.Kit Go.Proofs.Ytaembebbaejfiaa.MapV Go.Proofs.Ytaembebbaejfiaa.Frame Go.Proofs.Ytaembebbaejfiaa.PS
set_option linter.unusedVariables false
set_option linter.unusedSimpArgs false
inductive Norm : Y → Prop
 | null : Norm .null
 | bool (b) : Norm (.bool b)
 | int (n) : Norm (.int n)
 | text (s) : Norm (.text s)
 | list (l : List Y) (h : ∀ y, y ∈ l → Norm y) : Norm (.list l)
 | map (m : List (Bs × Y)) (hr : Rises m) (h : ∀ p, p ∈ m → Norm p.2) : Norm (.map m)
theorem mput_last {α : Type} {f : List (Bs × α)} {k : Bs} {v : α} (h : Rises (f ++ [(k, v)])) : mput f k v = f ++ [(k, v)] := by
 have hr : Rises f := h.sublist (List.sublist_append_left _ _)
 have hl : ∀ p ∈ f, p.1 < k := fun p hp => (List.pairwise_append.1 h).2.2 p hp (k, v) (by simp)
 refine rises_ext (mput_rises hr _ _) h (fun q => ?_)
 rw [mget_mput]
 by_cases hq : k = q
 ·subst hq
  rw [if_pos rfl]
  exact (mget_of_mem h (by simp)).symm
 ·rw [if_neg hq]
  cases hg : mget f q with
  | none =>
   cases hg2 : mget (f ++ [(k, v)]) q with
   | none => rfl
   | some u =>
    have := mget_some hg2
    rcases List.mem_append.1 this with h1 | h1
    ·exact absurd rfl (mget_none hg _ h1)
    ·simp at h1
     exact absurd h1.1.symm hq
  | some u => exact (mget_of_mem h (by simp [mget_some hg])).symm
theorem fitM_rises_aux {α : Type} : ∀ (l f : List (Bs × α)), Rises (f ++ l) → l.foldl (fun f p => mput f p.1 p.2) f = f ++ l
 | [], f, _ => by simp
 | (k, v) :: r, f, h => by
  have e : f ++ (k, v) :: r = (f ++ [(k, v)]) ++ r := by simp
  have h2 : mput f k v = f ++ [(k, v)] := mput_last (h.sublist (by rw [e]; exact List.sublist_append_left _ _))
  rw [List.foldl_cons]
  show List.foldl _ (mput f k v) r = _
  rw [h2, fitM_rises_aux r _ (by rw [← e]; exact h), e]
theorem fitM_of_rises {α : Type} {m : List (Bs × α)} (h : Rises m) : fitM m = m := fitM_rises_aux m [] (by simpa using h)
theorem back {y : Y} (h : Norm y) : anyOf (valOf y) = y := by
 induction h with
 | null => simp [valOf, anyOf]
 | bool b => cases b <;> simp [valOf, anyOf]
 | int n => simp [valOf, anyOf]
 | text s => simp [valOf, anyOf]
 | list l h ih =>
  simp only [valOf, anyOf]
  rw [if_neg (by decide), if_neg (by decide), if_neg (by decide), if_pos trivial, anyL_map, valL_map, List.map_map]
  exact congrArg Y.list ((List.map_congr_left (fun y hy => ih y hy)).trans (List.map_id l))
 | map m hr h ih =>
  simp only [valOf, anyOf]
  rw [if_neg (by decide), if_neg (by decide), if_neg (by decide), if_neg (by decide), if_pos trivial, anyL_map, valM_map, List.map_map, List.map_map]
  have e1 : m.map (lb ∘ fun p => (⟨p.1.toArray⟩ : BA)) = m.map (fun p => p.1) := List.map_congr_left (fun p _ => lb_mk p.1)
  have e2 : m.map (anyOf ∘ fun p => valOf p.2) = m.map (fun p => p.2) := List.map_congr_left (fun p hp => ih p hp)
  rw [e1, e2, List.zip_map']
  have e3 : m.map (fun p => (p.1, p.2)) = m := (List.map_congr_left (fun p _ => rfl)).trans (List.map_id m)
  rw [e3, fitM_of_rises hr]
theorem small_of {y : Y} (h : FitsY y) : Small (valOf y) := by
 induction h with
 | null => simp only [valOf]; exact .mk _ (fun s hs => by simp at hs) (by simp) (by simp) (fun v hv => by simp at hv)
 | bool b => simp only [valOf]; exact .mk _ (fun s hs => by simp at hs) (by simp) (by simp) (fun v hv => by simp at hv)
 | int n => simp only [valOf]; exact .mk _ (fun s hs => by simp at hs) (by simp) (by simp) (fun v hv => by simp at hv)
 | text s => simp only [valOf]; exact .mk _ (fun s hs => by simp at hs) (by simp) (by simp) (fun v hv => by simp at hv)
 | list l hl h ih =>
  simp only [valOf]
  rw [valL_map]
  exact .mk _ (fun s hs => by simp at hs) (by simp) (by simpa using hl) (fun v hv => by obtain ⟨y, hy, rfl⟩ := List.mem_map.1 hv; exact ih y hy)
 | map m hl hk h ih =>
  simp only [valOf]
  rw [valM_map]
  refine .mk _ (fun s hs => ?_) ?_ (by simpa using hl) (fun v hv => by obtain ⟨p, hp, rfl⟩ := List.mem_map.1 hv; exact ih p hp)
  ·obtain ⟨p, hp, rfl⟩ := List.mem_map.1 hs
   have := hk p hp
   simpa [ByteArray.size] using this
  ·show (m.map _).length ≤ _
   rw [List.length_map]
   omega
end Go.Proofs.Ytaembebbaejfiaa.Tr
namespace Go.Proofs.Ytaembebbaejfiaa.Tr
open Go.RowKit Go.Proofs.YtaembebbaejfiaaW.PrintWords Go.Proofs.YtaembebbaejfiaaW.PrintLast Go.Proofs.Ytaembebbaejfiaa.Str Go.Proofs.Ytaembebbaejfiaa.Kit Go.Proofs.Ytaembebbaejfiaa.MapV Go.Proofs.Ytaembebbaejfiaa.Frame Go.Proofs.Ytaembebbaejfiaa.PS
set_option linter.unusedVariables false
set_option linter.unusedSimpArgs false
theorem told_at {fn : Func} {p q : Tmp} (hr : fn.results = #[.cell p 36, .tmp q]) {tmps : Array Value} {W : World} {b n3 c3 n4 c4 : Nat} {k n : Int} {t : BA} {A3 A4 : Option Addr} (hp : tmps.getD p undef = .pointer (some ⟨b, 0, none⟩)) (h3 : tmps.getD q undef = .bool true) (hb : W.heap[b]? = some (.cells #[.int .i64 k, .int .i64 n, .string t, .slice A3 n3 c3, .slice A4 n4 c4] 36 (0, 0))) :
  (results fn tmps).run Try.prog W = .ok (.tuple #[.agg #[.int .i64 k, .int .i64 n, .string t, .slice A3 n3 c3, .slice A4 n4 c4], .bool true]) W := by
 have := results_ct (P := Try.prog) hr tmps W b 36 _ (0, 0) _ hp hb Try.underlying36 rfl ival_size
 rw [h3] at this
 exact this
set_option maxHeartbeats 800000 in
theorem impl_value {v : Value} {y : Y} {F : Nat → Prop} (w : World) (hy : FitsY y) (ha : AR w v y F) : Calls Try.prog 28 #[v, .nilIface] w (Told w (valOf y)) := by
 have h0 := aM (cb_new w (.cells #[.int .i64 0, .int .i64 0, .string ⟨#[]⟩, .slice none 0 0, .slice none 0 0] 36))
 have HB := aM (below_alloc (Below.refl w.heap.size w) (.cells #[.int .i64 0, .int .i64 0, .string ⟨#[]⟩, .slice none 0 0, .slice none 0 0] 36))
 have CM := aM (from_any hy v _ (w.alloc (.cells #[.int .i64 0, .int .i64 0, .string ⟨#[]⟩, .slice none 0 0, .slice none 0 0] 36)) (ha.keep HB.out))
 clear ha
 generalize valOf y = x at CM
 obtain ⟨x0, x1, x2, x3, x4⟩ := x
 go_enter Try.func28, Try.ntmps28
 go_wp2_with fail
 refine CM.out.mono ?_
 rintro e w3 ⟨v3, v4, rfl, hv3, hv4, hb3⟩
 obtain ⟨A3, c3, rfl⟩ := Kd.R_slice hv3
 obtain ⟨A4, c4, rfl⟩ := Kd.R_slice hv4
 have h1 := (hb3.block _ (cb_lt h0.out)).trans h0.out
 have hg := grown_setRow w3 w.heap.size #[.int .i64 x0, .int .i64 x1, .string x2, .slice A3 x3.length c3, .slice A4 x4.length c4]
 have HX := aM (setRow_heap _ w.heap.size _ #[.int .i64 x0, .int .i64 x1, .string x2, .slice A3 x3.length c3, .slice A4 x4.length c4] _ _ h1)
 have hb := hb_then HB.out hb3
 have HB8 := aM (pw_below_grown hb (some w.heap.size) hb.size hg (fun k hk => by have := Option.some.inj hk; omega))
 have hbase := HB.out.size
 have hlt := cb_lt h0.out
 have H3 := aM (Kd.R_lower (base' := w.heap.size) (Kd.R_mono (ok' := fun _ => True) (Kd.R_move (Kd.R_bound hv3) (fun k hk => hg.block k hk.2.2.1 (fun e => by have h2 := Option.some.inj e; have h3 := hk.2.1; omega))) (fun _ _ => trivial)) hbase)
 have H4 := aM (Kd.R_lower (base' := w.heap.size) (Kd.R_mono (ok' := fun _ => True) (Kd.R_move (Kd.R_bound hv4) (fun k hk => hg.block k hk.2.2.1 (fun e => by have h2 := Option.some.inj e; have h3 := hk.2.1; omega))) (fun _ _ => trivial)) hbase)
 clear hv3 hv4 hb3 hg hb hbase hlt HB h0 CM
 go_wp2_with (refine store_ival (.tmp 4) (.tmp 11) rfl rfl rfl rfl h1 ?_)
 exact bodyPost_ret (v := .tuple #[.agg #[.int .i64 x0, .int .i64 x1, .string x2, .slice A3 x3.length c3, .slice A4 x4.length c4], .bool true]) (told_at rfl rfl rfl HX.out) rfl ⟨.slice A3 x3.length c3, .slice A4 x4.length c4, rfl, H3.out, H4.out, HB8.out⟩
def TransB (B : Nat) (w : World) (y : Y) (e : Ending) (w' : World) : Prop := ∃ v F, e = .returned (.tuple #[v, .nilIface]) ∧ AR w' v y F ∧ Below B w w'
set_option maxHeartbeats 800000 in
theorem trans_door {y : Y} (B : Nat) (v pv : Value) (ig : Bool) (w : World) (h : Calls Try.prog 47 #[v, pv, .bool ig] w (TransB B w y)) :
  Calls Try.prog 33 #[v, pv, .bool ig] w (TransB B w y) := by
 have CN := aM h
 clear h
 go_enter Try.func33, Try.ntmps33
 go_wp2_with fail
 refine CN.out.mono ?_
 rintro e w1 ⟨u, F, rfl, ha, hb⟩
 have HA := aM ha
 have HB := aM hb
 clear ha hb
 go_wp2
 go_ret2
 exact ⟨_, _, rfl, HA.out, HB.out⟩
set_option maxHeartbeats 1600000 in
theorem impl_trans (x : VI) (hx : Small x) (y : Y) (hfy : FitsY y) (ig : Bool) (hf : ∀ (B : Nat) (W : World) (v : Value) (pv : BA) (F : Nat → Prop), B ≤ W.heap.size → (∀ k, F k → B ≤ k) → AR W v (anyOf x) F → Calls Try.prog 47 #[v, .string pv, .bool ig] W (TransB B W y))
  (A3 A4 : Option Addr) (c3 c4 : Nat) (w : World) (l3 : x.f3.length ≤ c3) (hk : Kd.string.C w A3 x.f3.length x.f3) (l4 : x.f4.length ≤ c4) (hv : kI.C w A4 x.f4.length x.f4) :
  Calls Try.prog 12 #[.agg #[.int .i64 x.f0, .int .i64 x.f1, .string x.f2, .slice A3 x.f3.length c3, .slice A4 x.f4.length c4], .bool ig] w (Told w (valOf y)) := by
 have hb1 := below_alloc (Below.refl w.heap.size w) (.cells #[.int .i64 x.f0, .int .i64 x.f1, .string x.f2, .slice A3 x.f3.length c3, .slice A4 x.f4.length c4] 36)
 have hb2 := below_alloc hb1 (.cells #[.int .i64 0, .int .i64 0, .string ⟨#[]⟩, .slice none 0 0, .slice none 0 0] 36)
 have HB := aM hb2
 have h0 := cb_new (w.alloc (.cells #[.int .i64 x.f0, .int .i64 x.f1, .string x.f2, .slice A3 x.f3.length c3, .slice A4 x.f4.length c4] 36)) (.cells #[.int .i64 0, .int .i64 0, .string ⟨#[]⟩, .slice none 0 0, .slice none 0 0] 36)
 rw [World.size_alloc] at h0
 have H0 := aM h0
 have hxb : ((w.alloc (.cells #[.int .i64 x.f0, .int .i64 x.f1, .string x.f2, .slice A3 x.f3.length c3, .slice A4 x.f4.length c4] 36)).alloc (.cells #[.int .i64 0, .int .i64 0, .string ⟨#[]⟩, .slice none 0 0, .slice none 0 0] 36)).heap[w.heap.size]? = some (.cells #[.int .i64 x.f0, .int .i64 x.f1, .string x.f2, .slice A3 x.f3.length c3, .slice A4 x.f4.length c4] 36 (0, 0)) := blk_alloc (cb_new _ _) _
 have CA := aM (toAny x hx A3 A4 c3 c4 ((w.alloc (.cells #[.int .i64 x.f0, .int .i64 x.f1, .string x.f2, .slice A3 x.f3.length c3, .slice A4 x.f4.length c4] 36)).alloc (.cells #[.int .i64 0, .int .i64 0, .string ⟨#[]⟩, .slice none 0 0, .slice none 0 0] 36)) l3 (Kd.C_below hk hb2) l4 (Kd.C_below hv hb2))
 have HFN := aM hf
 have HFY := aM hfy
 clear hb1 hb2 h0 hk hv l3 l4 hf hfy hx
 generalize anyOf x = ax at CA HFN
 obtain ⟨x0, x1, x2, x3, x4⟩ := x
 obtain ⟨yv, hy⟩ : ∃ yv, valOf y = yv := ⟨_, rfl⟩
 rw [hy]
 obtain ⟨y0, y1, y2, y3, y4⟩ := yv
 have HV := aM hy
 clear hy
 go_enter Try.func12, Try.ntmps12
 go_wp2_with (refine load_ival (.tmp 2) rfl rfl rfl hxb ?_)
 refine CA.out.mono ?_
 rintro e w1 ⟨v, rfl, ha, hb⟩
 rw [World.size_alloc, World.size_alloc] at ha
 have hsz1 := hb.size
 rw [World.size_alloc, World.size_alloc] at hsz1
 have HA1 := aM ha
 have HB1 := aM (hb_then HB.out hb)
 have H1 := aM ((hb.block _ (cb_lt H0.out)).trans H0.out)
 clear ha hb CA hxb H0
 go_wp2_with fail
 refine (Mount.implAt w1).mono ?_
 rintro e w2 ⟨p, rfl, hb⟩
 have HA2 := aM (HA1.out.keep hb)
 have hsz2 := hb.size
 have HSZ := aM (show w.heap.size + 1 + 1 ≤ w2.heap.size by omega)
 have HB2 := aM (hb_then HB1.out hb)
 have H2 := aM ((hb.block _ (cb_lt H1.out)).trans H1.out)
 clear hb HA1 HB1 H1 hsz1 hsz2
 go_wp2_with fail
 refine (trans_door (w.heap.size + 1 + 1) _ _ ig w2 (HFN.out (w.heap.size + 1 + 1) w2 _ p _ HSZ.out (fun k hk => hk.1.1) HA2.out)).mono ?_
 rintro e w3 ⟨v3, F3, rfl, ha, hb⟩
 have HA3 := aM ha
 have HB3 := aM (HB2.out.trans (hb.mono (by omega)))
 have H3 := aM ((hb.block _ (by omega)).trans H2.out)
 clear ha hb HA2 HB2 H2
 have cv := impl_value w3 HFY.out HA3.out
 rw [HV.out] at cv
 have CV := aM cv
 clear cv
 go_wp2_with fail
 refine CV.out.mono ?_
 rintro e w4 ⟨u3, u4, rfl, hv3, hv4, hb4⟩
 obtain ⟨E3, d3, rfl⟩ := Kd.R_slice hv3
 obtain ⟨E4, d4, rfl⟩ := Kd.R_slice hv4
 have h1 := (hb4.block _ (cb_lt H3.out)).trans H3.out
 have hg := grown_setRow w4 (w.heap.size + 1) #[.int .i64 y0, .int .i64 y1, .string y2, .slice E3 y3.length d3, .slice E4 y4.length d4]
 have HX := aM (setRow_heap _ (w.heap.size + 1) _ #[.int .i64 y0, .int .i64 y1, .string y2, .slice E3 y3.length d3, .slice E4 y4.length d4] _ _ h1)
 have hb := hb_then HB3.out hb4
 have HB8 := aM (pw_below_grown hb (some (w.heap.size + 1)) hb.size hg (fun k hk => by have := Option.some.inj hk; omega))
 have hbase := HB3.out.size
 have hlt := cb_lt H3.out
 have G3 := aM (Kd.R_lower (base' := w.heap.size) (Kd.R_mono (ok' := fun _ => True) (Kd.R_move (Kd.R_bound hv3) (fun k hk => hg.block k hk.2.2.1 (fun e => by have h2 := Option.some.inj e; have h3 := hk.2.1; omega))) (fun _ _ => trivial)) hbase)
 have G4 := aM (Kd.R_lower (base' := w.heap.size) (Kd.R_mono (ok' := fun _ => True) (Kd.R_move (Kd.R_bound hv4) (fun k hk => hg.block k hk.2.2.1 (fun e => by have h2 := Option.some.inj e; have h3 := hk.2.1; omega))) (fun _ _ => trivial)) hbase)
 clear hv3 hv4 hb4 hg hb hbase hlt HB3 H3 CV HA3
 go_wp2_with (refine store_ival (.tmp 4) (.tmp 14) rfl rfl rfl rfl h1 ?_)
 exact bodyPost_ret (v := .tuple #[.agg #[.int .i64 y0, .int .i64 y1, .string y2, .slice E3 y3.length d3, .slice E4 y4.length d4], .bool true]) (told_at rfl rfl rfl HX.out) rfl ⟨.slice E3 y3.length d3, .slice E4 y4.length d4, rfl, G3.out, G4.out, HB8.out⟩
end Go.Proofs.Ytaembebbaejfiaa.Tr
