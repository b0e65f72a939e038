/- Parts of the proof, laid together: Str, MapV, Kit, Rowstr, Buf, Frame, Place, Q0, Held, MapStep, FitPlain, Any, FromAny, FromList, Shelf, SortStr, Flat, SortOwn, FromMap, FromAll, Back, QSpecPlace. -/
import Derived.Test.YtmpmekliaicecaaDoorO1
import Derived.Maps.RangeWalk
import Derived.Maps.OwnOps
import Derived.Sort.KeysCollected
import Derived.Sort.Walk0
import Derived.Test.YtmpmekliaicecaaDoorProg
import Derived.Test.YtmpmekliaicecaaDoorO2
import Derived.BigQuiet
import Derived.Deep.QuietTactic
import Derived.Laws.Cover1
import Derived.Below
import Derived.Deep.Draws
import Derived.Deep.AppendLies
import Derived.Maps.AppendAt
import Derived.OwnWalk
import Derived.Laws.BytesArg
import Derived.Laws.MakeOwn
import Derived.Laws.OwnMore
import Derived.Deep.OwnRows
import Derived.Tactics
import Derived.Lib.ConvBytes
import Derived.Laws.Slices
import Derived.WalkKit
import Derived.KernelRfl
import Derived.RowKit3
import Derived.Deep.LoopGhost
import Derived.WideLaws
import Derived.Deep.DeepCutAuto
import Derived.Deep.CutBlock
import Derived.Deep.RegionHeld3
import Derived.Laws.Rows
import Derived.Lib.AppendStr
import Derived.ArgAppend
import Derived.Laws.IdiomCopy
import Derived.OrdersHeld
import Derived.Laws.BitsLemmas
import Derived.RowKit
import Derived.Deep.MidRow
import Derived.Shelf.Strings.Builder1
import Derived.Shelf.Strings.Builder2
import Derived.Shelf.Strings.OnBuilder
import Derived.Shelf.Small.Utf8
import Derived.Shelf.Small.Bits
import Derived.Shelf.Strings.BuilderF
import Derived.Shelf.Strings.BuilderK
import Derived.Shelf.Strings.BuilderRune
import Derived.Shelf.Strings.Builder2Cap
import Derived.Shelf.Strconv.Itoa0
import Derived.Shelf.Sort.Plain
import Derived.Shelf.Unicode.Latin
import Derived.Shelf.Unicode.Decode
import Derived.Shelf.Unicode.DecodeSlow
import Derived.Shelf.Unicode.DecodeAny
import Derived.Shelf.Unicode.CaseLookup
import Derived.Shelf.Unicode.CaseConvert
import Derived.Shelf.Unicode.CaseTo
import Derived.Shelf.Unicode.CaseLaid
import Derived.Shelf.Strings.MapAny
import Derived.Shelf.Strings.CaseAny
import Derived.Shelf.Slices.In.SortNone
import Derived.Shelf.Slices.In.SortNone2
import Derived.Sort.OwnSorted
import Derived.Shelf.SlSortFuncK.WholeK
import Derived.Shelf.GgSortFunc.Tiny
set_option linter.unusedVariables false
set_option linter.unusedSimpArgs false
namespace Go.Proofs.YtmpmekliaicecaaDoor.Str
open Go.RowKit Go.Proofs.YtmpmekliaicecaaDoorW.PrintWords
abbrev Bs := List UInt8
abbrev lb (s : ByteArray) : Bs := s.data.toList
theorem yk (s : ByteArray) : (lb s).length = s.size := by rw [Array.length_toList]; rfl
theorem lb_inj {s t : ByteArray} (h : lb s = lb t) : s = t := by
 cases s; cases t
 simp only [lb] at h; rw [Array.toList_inj.1 h]
theorem lb_extract (s : ByteArray) (a b : Nat) : lb (s.extract a b) = ((lb s).take b).drop a := by
 simp [lb, List.extract_eq_drop_take', ByteArray.data_extract]
theorem lb_mk (l : Bs) : lb ⟨l.toArray⟩ = l := by simp [lb]
theorem mk_lb (s : ByteArray) : (⟨(lb s).toArray⟩ : ByteArray) = s := by simp [lb]
theorem xa (s : ByteArray) : s.toList = lb s := ByteArray.toList_eq s
theorem w64 {i : Int} (h0 : -4611686018427387904 ≤ i) (h1 : i ≤ 4611686018427387904) : wrap64 i = i := by
 unfold wrap64; omega
def find (sub : Bs) : Bs → Option Nat
 | [] => if sub = [] then some 0 else none
 | c :: t => if sub.isPrefixOf (c :: t) then some 0 else (find sub t).map (· + 1)
def findI (sub s : Bs) : Int := match find sub s with
 | some i => (i : Int)
 | none => -1
theorem find_short (sub : Bs) : ∀ (s : Bs), s.length < sub.length → find sub s = none
 | [], h => by
  have : sub ≠ [] := by rintro rfl; simp at h
  simp [find, this]
 | c :: t, h => by
  have h1 : sub.isPrefixOf (c :: t) = false := by
   rw [Bool.eq_false_iff]; intro hp; have := (List.isPrefixOf_iff_prefix.1 hp).length_le
   omega
  simp only [List.length_cons] at h; rw [find, h1, find_short sub t (by omega)]
  simp
theorem find_eq (sub s : Bs) : find sub s = if sub.isPrefixOf s then some 0 else match s with
 | [] => none
 | _ :: t => (find sub t).map (· + 1) := by
 cases s with
 | nil =>
  cases sub with
  | nil => simp [find]
  | cons a b => simp [find]
 | cons c t => rw [find]
theorem prefix_iff (sub s : Bs) : sub.isPrefixOf s = true ↔ sub.length ≤ s.length ∧ s.take sub.length = sub := by
 rw [List.isPrefixOf_iff_prefix]; constructor
 ·intro h; exact ⟨h.length_le, (List.prefix_iff_eq_take.1 h).symm⟩
 ·intro ⟨_, h⟩; exact List.prefix_iff_eq_take.2 h.symm
theorem find_some {sub s : Bs} {i : Nat} (h : find sub s = some i) : i + sub.length ≤ s.length ∧ (s.drop i).take sub.length = sub := by
 induction s generalizing i with
 | nil =>
  by_cases e : sub = []
  ·simp [find, e] at h
   subst h e
   simp
  ·simp [find, e] at h
 | cons c t ih =>
  rw [find] at h
  by_cases hp : sub.isPrefixOf (c :: t) = true
  ·rw [if_pos hp] at h
   simp at h
   subst h; obtain ⟨h1, h2⟩ := (prefix_iff _ _).1 hp; exact ⟨by omega, by simpa using h2⟩
  ·rw [if_neg hp] at h; obtain ⟨j, hj, rfl⟩ := Option.map_eq_some_iff.1 h; obtain ⟨h1, h2⟩ := ih hj; exact ⟨by simp; omega, by simpa using h2⟩
def split (c : UInt8) : Bs → List Bs
 | [] => [[]]
 | x :: t => if x = c then [] :: split c t else match split c t with
  | [] => [[x]]
  | h :: r => (x :: h) :: r
def At (sub s : Bs) (j : Nat) : Prop := j ≤ s.length ∧ find sub s = (find sub (s.drop j)).map (· + j)
theorem At.start (sub s : Bs) : At sub s 0 := ⟨by omega, by simp⟩
theorem At.hit {sub s : Bs} {j : Nat} (h : At sub s j) (hm : j + sub.length ≤ s.length) (e : (s.drop j).take sub.length = sub) : findI sub s = j := by
 have hp : sub.isPrefixOf (s.drop j) = true := (prefix_iff _ _).2 ⟨by rw [List.length_drop]; omega, e⟩; have h2 := h.2; rw [find_eq sub (s.drop j), if_pos hp] at h2
 simp [findI, h2]
theorem At.next {sub s : Bs} {j : Nat} (h : At sub s j) (hm : j + sub.length ≤ s.length) (e : ¬ (s.drop j).take sub.length = sub) : At sub s (j + 1) := by
 have hp : ¬ sub.isPrefixOf (s.drop j) = true := fun hp => e ((prefix_iff _ _).1 hp).2
 have hlt : j < s.length := by
  rcases Nat.lt_or_ge j s.length with h' | h'
  ·exact h'
  ·exfalso
   apply e
   have : sub = [] := List.eq_nil_of_length_eq_zero (by omega)
   simp [this]
 refine ⟨hlt, ?_⟩; have h2 := h.2; rw [find_eq sub (s.drop j), if_neg hp, List.drop_eq_getElem_cons hlt] at h2; rw [h2]; simp only [Option.map_map]
 congr 1
 funext x
 simp
 omega
theorem At.miss {sub s : Bs} {j : Nat} (h : At sub s j) (hm : s.length < j + sub.length) : findI sub s = -1 := by
 have h2 := h.2; rw [find_short sub (s.drop j) (by rw [List.length_drop]; have := h.1; omega)] at h2
 simp [findI, h2]
theorem lb_piece (s : ByteArray) (j m : Nat) : lb (s.extract j (j + m)) = ((lb s).drop j).take m := by
 rw [lb_extract, List.drop_take]
 congr 1
 omega
end Go.Proofs.YtmpmekliaicecaaDoor.Str
namespace Go.Proofs.YtmpmekliaicecaaDoor.MapV
open Go.RowKit Go.Proofs.YtmpmekliaicecaaDoorW.PrintWords Go.Proofs.YtmpmekliaicecaaDoor.Str Go.Maps
open Go.WideElems (Fit rd rg pl rd_val rd_key)
section
variable {α β : Type}
def mget (f : List (Bs × α)) (k : Bs) : Option α := (f.find? fun p => p.1 == k).map (·.2)
def mins (x : Bs × α) : List (Bs × α) → List (Bs × α)
 | [] => [x]
 | y :: r => if x.1 < y.1 then x :: y :: r else y :: mins x r
def mdel (f : List (Bs × α)) (k : Bs) : List (Bs × α) := f.filter fun p => !(p.1 == k)
def mput (f : List (Bs × α)) (k : Bs) (v : α) : List (Bs × α) := mins (k, v) (mdel f k)
def Rises (f : List (Bs × α)) : Prop := f.Pairwise fun p q => p.1 < q.1
theorem lt_irrefl (a : Bs) : ¬ a < a := List.lt_irrefl a
theorem lt_trans {a b c : Bs} (h : a < b) (k : b < c) : a < c := List.lt_trans h k
theorem lt_total (a b : Bs) : a < b ∨ a = b ∨ b < a := by
 by_cases h : a < b
 ·exact .inl h
 ·by_cases k : b < a
  ·exact .inr (.inr k)
  ·exact .inr (.inl (List.le_antisymm k h))
theorem lt_ne {a b : Bs} (h : a < b) : a ≠ b := fun e => lt_irrefl a (by rw [← e] at h; exact h)
theorem mins_mem {x p : Bs × α} : ∀ {f : List (Bs × α)}, p ∈ mins x f ↔ p = x ∨ p ∈ f
 | [] => by simp [mins]
 | y :: r => by
  rw [mins]
  split
  ·simp
  ·rw [List.mem_cons, mins_mem, List.mem_cons]; constructor
   ·rintro (h | h | h)
    ·exact .inr (.inl h)
    ·exact .inl h
    ·exact .inr (.inr h)
   ·rintro (h | h | h)
    ·exact .inr (.inl h)
    ·exact .inl h
    ·exact .inr (.inr h)
theorem mins_length (x : Bs × α) : ∀ f : List (Bs × α), (mins x f).length = f.length + 1
 | [] => rfl
 | y :: r => by
  rw [mins]
  split
  ·rfl
  ·simp [mins_length x r]
theorem mput_length (f : List (Bs × α)) (k : Bs) (v : α) : (mput f k v).length ≤ f.length + 1 := by
 rw [mput, mins_length]; have := List.length_filter_le (fun p : Bs × α => !(p.1 == k)) f
 unfold mdel
 omega
theorem mins_rises {x : Bs × α} : ∀ {f : List (Bs × α)}, Rises f → (∀ p ∈ f, p.1 ≠ x.1) → Rises (mins x f)
 | [], _, _ => by simp [mins, Rises]
 | y :: r, h, hn => by
  obtain ⟨h1, h2⟩ := List.pairwise_cons.1 h; rw [mins]
  split
  ·rename_i hb
   refine List.pairwise_cons.2 ⟨fun q hq => ?_, h⟩
   rcases List.mem_cons.1 hq with rfl | hq
   ·exact hb
   ·exact lt_trans hb (h1 q hq)
  ·rename_i hb
   refine List.pairwise_cons.2 ⟨fun q hq => ?_, mins_rises h2 (fun p hp => hn p (by simp [hp]))⟩
   rcases mins_mem.1 hq with rfl | hq
   ·rcases lt_total y.1 q.1 with e | e | e
    ·exact e
    ·exact absurd e (hn y (by simp))
    ·exact absurd e hb
   ·exact h1 q hq
theorem mdel_rises {f : List (Bs × α)} (h : Rises f) (k : Bs) : Rises (mdel f k) := h.filter _
theorem mput_rises {f : List (Bs × α)} (h : Rises f) (k : Bs) (v : α) : Rises (mput f k v) :=
 mins_rises (mdel_rises h k) (fun p hp => by
  have := (List.mem_filter.1 hp).2
  simpa using this)
theorem mget_mins_same {f : List (Bs × α)} {k : Bs} {v : α} : (∀ p ∈ f, p.1 ≠ k) → mget (mins (k, v) f) k = some v := by
 induction f with
 | nil => intro _; simp [mins, mget]
 | cons y r ih =>
  intro h; rw [mins]
  split
  ·simp [mget]
  ·have hy : (y.1 == k) = false := by simpa using h y (by simp)
   have := ih (fun p hp => h p (by simp [hp]))
   unfold mget at this ⊢
   rw [List.find?_cons, hy]; exact this
theorem mget_mins_other {f : List (Bs × α)} {k k' : Bs} {v : α} (hk : k ≠ k') : mget (mins (k, v) f) k' = mget f k' := by
 have hkk : (k == k') = false := by simpa using hk
 induction f with
 | nil => simp [mins, mget, hk]
 | cons y r ih =>
  rw [mins]
  split
  ·unfold mget; rw [List.find?_cons]; simp only [hkk]
  ·unfold mget at ih ⊢
   rw [List.find?_cons, List.find?_cons]
   cases y.1 == k'
   ·exact ih
   ·rfl
theorem mget_mdel_other {f : List (Bs × α)} {k k' : Bs} (hk : k ≠ k') : mget (mdel f k) k' = mget f k' := by
 unfold mget mdel
 induction f with
 | nil => rfl
 | cons y r ih =>
  by_cases e : y.1 = k
  ·have h1 : (y.1 == k) = true := by simpa using e
   have h2 : (y.1 == k') = false := by rw [e]; simpa using hk
   rw [List.filter_cons, h1, List.find?_cons, h2]
   simpa using ih
  ·have h1 : (y.1 == k) = false := by simpa using e
   rw [List.filter_cons, h1]; simp only [Bool.not_false, if_true, List.find?_cons]
   cases y.1 == k'
   ·exact ih
   ·rfl
theorem mget_mput (f : List (Bs × α)) (k k' : Bs) (v : α) : mget (mput f k v) k' = if k = k' then some v else mget f k' := by
 unfold mput
 by_cases h : k = k'
 ·subst h; rw [if_pos rfl]; exact mget_mins_same (fun p hp => by have := (List.mem_filter.1 hp).2; simpa using this)
 ·rw [if_neg h, mget_mins_other h, mget_mdel_other h]
theorem mget_some {f : List (Bs × α)} {k : Bs} {v : α} (h : mget f k = some v) : (k, v) ∈ f := by
 unfold mget at h
 obtain ⟨p, hp, rfl⟩ := Option.map_eq_some_iff.1 h; have h1 := List.find?_some hp; have h2 := List.mem_of_find?_eq_some hp
 have : p.1 = k := by simpa using h1
 subst this; exact h2
theorem mget_none {f : List (Bs × α)} {k : Bs} (h : mget f k = none) : ∀ p ∈ f, p.1 ≠ k := by
 intro p hp
 have h1 : f.find? (fun p => p.1 == k) = none := by simpa [mget] using h
 simpa using List.find?_eq_none.1 h1 p hp
theorem xt {f : List (Bs × α)} (hr : Rises f) {k : Bs} {v : α} (h : (k, v) ∈ f) : mget f k = some v := by
 induction f with
 | nil => simp at h
 | cons y r ih =>
  obtain ⟨h1, h2⟩ := List.pairwise_cons.1 hr
  rcases List.mem_cons.1 h with h | h
  ·subst h; simp [mget]
  ·have hy : (y.1 == k) = false := by simpa using lt_ne (h1 _ h)
   unfold mget at ih ⊢
   rw [List.find?_cons, hy]; exact ih h2 h
theorem rises_ext : ∀ {f g : List (Bs × α)}, Rises f → Rises g → (∀ k, mget f k = mget g k) → f = g := by
 have key : ∀ {f g : List (Bs × α)}, Rises f → Rises g → (∀ k, mget f k = mget g k) → ∀ p ∈ f, p ∈ g := by
  intro f g hf hg h p hp; have := xt hf (k := p.1) (v := p.2) hp; rw [h] at this; exact mget_some this
 intro f
 induction f with
 | nil =>
  intro g hf hg h
  cases g with
  | nil => rfl
  | cons y r =>
   have := key hg hf (fun k => (h k).symm) y (by simp)
   simp at this
 | cons x f ih =>
  intro g hf hg h
  cases g with
  | nil =>
   have := key hf hg h x (by simp)
   simp at this
  | cons y g =>
   obtain ⟨x1, x2⟩ := List.pairwise_cons.1 hf; obtain ⟨y1, y2⟩ := List.pairwise_cons.1 hg
   have hxy : x = y := by
    have a := key hf hg h x (by simp); have b := key hg hf (fun k => (h k).symm) y (by simp)
    rcases List.mem_cons.1 a with a | a
    ·exact a
    ·rcases List.mem_cons.1 b with b | b
     ·exact b.symm
     ·exact absurd (lt_trans (x1 _ b) (y1 _ a)) (lt_irrefl _)
   subst hxy; refine congrArg _ (ih x2 y2 (fun k => ?_)); have hk := h k
   unfold mget at hk ⊢
   rw [List.find?_cons, List.find?_cons] at hk
   by_cases e : x.1 = k
   ·have n1 : f.find? (fun p => p.1 == k) = none := List.find?_eq_none.2 (fun p hp => by simpa [← e] using (lt_ne (x1 p hp)).symm); have n2 : g.find? (fun p => p.1 == k) = none := List.find?_eq_none.2 (fun p hp => by simpa [← e] using (lt_ne (y1 p hp)).symm); rw [n1, n2]
   ·have : (x.1 == k) = false := by simpa using e
    rw [this] at hk; exact hk
theorem rises_take {f : List (Bs × α)} (hf : f.Pairwise fun p q => p.1 ≠ q.1) {k : Bs} {v : α} (h : (k, v) ∈ f) : f.Perm ((k, v) :: mdel f k) := by
 induction f with
 | nil => simp at h
 | cons y r ih =>
  obtain ⟨h1, h2⟩ := List.pairwise_cons.1 hf
  rcases List.mem_cons.1 h with h | h
  ·subst h
   have : mdel ((k, v) :: r) k = r := by
    unfold mdel
    rw [List.filter_cons]; simp only [beq_self_eq_true, Bool.not_true]; exact List.filter_eq_self.2 (fun p hp => by simpa using (h1 p hp).symm)
   rw [this]
  ·have hy : (y.1 == k) = false := by simpa using h1 _ h
   have : mdel (y :: r) k = y :: mdel r k := by
    unfold mdel
    rw [List.filter_cons, hy]; rfl
   rw [this]; exact ((ih h2 h).cons y).trans (List.Perm.swap _ _ _)
theorem mins_map (g : α → β) (x : Bs × α) : ∀ f : List (Bs × α), mins (x.1, g x.2) (f.map fun p => (p.1, g p.2)) = (mins x f).map fun p => (p.1, g p.2)
 | [] => rfl
 | y :: r => by
  rw [List.map_cons, mins, mins]
  split
  ·rfl
  ·rw [mins_map g x r]; rfl
theorem mput_map (g : α → β) (f : List (Bs × α)) (k : Bs) (v : α) : mput (f.map fun p => (p.1, g p.2)) k (g v) = (mput f k v).map fun p => (p.1, g p.2) := by
 unfold mput
 rw [← mins_map g (k, v)]; refine congrArg _ ?_
 unfold mdel
 rw [List.filter_map]; rfl
end
theorem before_lt : ∀ a b : Bs, bytesBefore a b = decide (a < b)
 | [], [] => by decide
 | [], _ :: _ => by simp [bytesBefore]
 | _ :: _, [] => by simp [bytesBefore]
 | a :: r, b :: s => by
  rw [bytesBefore, before_lt r s]; have : (a :: r < b :: s) ↔ a < b ∨ (a = b ∧ r < s) := List.cons_lt_cons_iff
  by_cases h1 : a < b
  ·simp [this, h1]
  ·by_cases h2 : a = b
   ·simp [this, h1, h2]
   ·simp [this, h1, h2]
def heldR (v : Value) : Option (DataW Value × List MemPlace) := some (.held v, [])
section
variable {α : Type} (enc : α → Value)
def ent (p : Bs × α) : Lit × DataW Value := (.string p.1, .held (enc p.2))
theorem ent_put (f : List (Bs × α)) (k : Bs) (v : α) : (DataW.map (f.map (ent enc))).put (.string k) (.held (enc v)) = .map ((mput f k v).map (ent enc)) := by
 have ins : ∀ g : List (Bs × α), DataW.insert (Lit.string k, DataW.held (enc v)) (g.map (ent enc)) = (mins (k, v) g).map (ent enc) := by
  intro g
  induction g with
  | nil => rfl
  | cons y r ih =>
   rw [List.map_cons, DataW.insert, mins]; have : (Lit.string k).before (ent enc y).1 = decide (k < y.1) := before_lt k y.1; rw [this]
   by_cases h : k < y.1
   ·simp [h, ent]
   ·simp [h, ih]
 unfold DataW.put mput
 rw [← ins]; refine congrArg (fun x => DataW.map (DataW.insert _ x)) ?_
 unfold mdel
 rw [List.filter_map]; rfl
theorem ent_at (f : List (Bs × α)) (k : Bs) (zd : DataW Value) : (DataW.map (f.map (ent enc))).atKey (.string k) zd = match mget f k with
  | some v => .held (enc v)
  | none => zd := by
 unfold DataW.atKey mget
 simp only [List.find?_map]
 have : ((fun p : Lit × DataW Value => p.1.sameKey (.string k)) ∘ ent enc) = fun p : Bs × α => p.1 == k := rfl
 rw [this]
 cases f.find? (fun p => p.1 == k) <;> rfl
theorem ent_has (f : List (Bs × α)) (k : Bs) : Maps.has (DataW.map (f.map (ent enc))) (.string k) = (mget f k).isSome := by
 unfold mget
 rw [Maps.has_eq, List.any_map]
 have : ((fun p : Lit × DataW Value => p.1.sameKey (.string k)) ∘ ent enc) = fun p : Bs × α => p.1 == k := rfl
 rw [this]; rw [Option.isSome_map, Bool.eq_iff_iff, List.any_eq_true, List.find?_isSome]
end
def MapE (P : Program) (k : TypeId) {α : Type} (enc : α → Value) (w : World) (b : Nat) (f : List (Bs × α)) : Prop := w.ownsMap P k heldR b f.length (.map (f.map (ent enc)))
section
variable {P : Program} {k : TypeId} {α : Type} {enc : α → Value} {w w1 : World} {b : Nat} {f : List (Bs × α)}
theorem owns_norm {n : Nat} {l : List (Lit × DataW Value)} (h : w.ownsMap P k heldR b n (.map l)) : w.ownsMap P k heldR b l.length (.map l) := by
 obtain ⟨es, clock, hb, F, hs, hD⟩ := h; refine ⟨es, clock, hb, F, ?_, hD⟩
 injection hD with hD
 rw [hD, length_sorted]
 simp
theorem MapE.of {n : Nat} (h : w.ownsMap P k heldR b n (.map (f.map (ent enc)))) : MapE P k enc w b f := by
 have := owns_norm h; rw [List.length_map] at this; exact this
theorem MapE.lt (h : MapE P k enc w b f) : b < w.heap.size := World.ownsMap.lt h
theorem MapE.grown (h : MapE P k enc w b f) {row : Option Nat} (hg : w.grownBy w1 row) (hn : some b ≠ row) : MapE P k enc w1 b f := World.ownsMap.kept h hg hn
theorem MapE.below (h : MapE P k enc w b f) (hb : Below w.heap.size w w1) : MapE P k enc w1 b f := h.grown (grown_of_below hb none) (by simp)
theorem MapE.move (h : MapE P k enc w b f) (hm : w1.heap[b]? = w.heap[b]?) : MapE P k enc w1 b f := by
 obtain ⟨es, clock, hb, F, r⟩ := h; exact ⟨es, clock, hm.trans hb, F, r⟩
theorem MapE.made (P : Program) (k : TypeId) (enc : α → Value) (w : World) : MapE P k enc (w.alloc (.map #[] 0)) w.heap.size [] := World.ownsMap_made w P k heldR
theorem MapE.rises (K : Keyed P k) (h : MapE P k enc w b f) : Rises f := by
 obtain ⟨es, clock, hb, F, hs, hD⟩ := h
 injection hD with hD
 have h1 := Maps.sorted_sorted K.one (es.toList.map (rg P k heldR)) (fun p hp => by
  obtain ⟨x, hx, rfl⟩ := List.mem_map.1 hp; obtain ⟨y, hy⟩ := F.reads x hx; rw [Go.WideElems.rg_of hy]
  exact ⟨_, rd_key hy⟩) (Maps.fit_apart K F)
 rw [← hD, List.pairwise_map] at h1
 exact h1.imp (fun {p q} hh => by
  have : bytesBefore p.1 q.1 = true := hh; rw [before_lt] at this
  exact of_decide_eq_true this)
theorem MapE.key_le (hk : P.underlying k = some .string) (h : MapE P k enc w b f) : ∀ p ∈ f, p.1.length ≤ maxLen := by
 intro p hp; refine strKeys_le h hk p.1 ?_
 show p.1 ∈ (f.map (ent enc)).map fun p => strOf p.1
 rw [List.map_map]; exact List.mem_map.2 ⟨p, hp, rfl⟩
open Go.WideMaps in
theorem keyOf_s (hk : P.underlying k = some .string) {s : ByteArray} (hs : s.size ≤ maxLen) : keyOf P k (.string s) = some (.string (lb s)) := keyOf_string_mk hk hs
end
section
variable {P : Program} {k e t : TypeId} {α : Type} {enc : α → Value} {w : World} {b : Nat} {f : List (Bs × α)}
variable {ops : Array Oper} {rest : List Oper} {o : Oper} {a : Act} {Q : Exit → Act → World → Prop}
theorem run_look_mapE (hk : P.underlying k = some .string) (ht : P.underlying t = some (.map k e)) {z : Value} (hz : (zeroValue e).run P w = .ok z w) (h : MapE P k enc w b f) {s : ByteArray} (hs : s.size ≤ maxLen) :
  (Instr.lookup t (.map (some b)) (.string s) false).run P w = .ok (((mget f (lb s)).map enc).getD z) w := by
 obtain ⟨v, ps, hrun, hv⟩ := World.ownsMap.lookup h (string_keyed hk) ht hz (zd := .held z) (zp := []) rfl (keyOf_s hk hs); rw [ent_at] at hv
 have : v = ((mget f (lb s)).map enc).getD z := by
  cases hf : mget f (lb s) with
  | none => rw [hf] at hv; simp [heldR] at hv; simpa using hv.1
  | some y => rw [hf] at hv; simp [heldR] at hv; simpa using hv.1
 rw [← this]; exact hrun
def Ranges (P : Program) (k : TypeId) {α : Type} (enc : α → Value) (w : World) (b r : Nat) (f left : List (Bs × α)) : Prop :=
 ∃ lf cnt, w.ranges P k heldR b r f.length (.map (f.map (ent enc))) lf cnt ∧ left = f.filter fun p => lf (.string p.1)
theorem Ranges.owns {r : Nat} {left : List (Bs × α)} (h : Ranges P k enc w b r f left) : MapE P k enc w b f := by
 obtain ⟨lf, cnt, h, _⟩ := h; exact h.owns
theorem Ranges.lt {r : Nat} {left : List (Bs × α)} (h : Ranges P k enc w b r f left) : r < w.heap.size := by
 obtain ⟨lf, cnt, h, _⟩ := h; exact h.lt
theorem Ranges.ne {r : Nat} {left : List (Bs × α)} (h : Ranges P k enc w b r f left) : r ≠ b := by
 obtain ⟨lf, cnt, h, _⟩ := h; exact h.ne
theorem Ranges.kept {w' : World} {r : Nat} {left : List (Bs × α)} (h : Ranges P k enc w b r f left) {row : Option Nat} (hg : w.grownBy w' row) (h1 : some b ≠ row) (h2 : some r ≠ row) : Ranges P k enc w' b r f left := by
 obtain ⟨lf, cnt, h, e⟩ := h; exact ⟨lf, cnt, h.kept hg h1 h2, e⟩
theorem Ranges.below {w' : World} {r : Nat} {left : List (Bs × α)} (h : Ranges P k enc w b r f left) (hb : Below w.heap.size w w') : Ranges P k enc w' b r f left := h.kept (grown_of_below hb none) (by simp) (by simp)
theorem Ranges.sub {r : Nat} {left : List (Bs × α)} (h : Ranges P k enc w b r f left) : left.Sublist f := by
 obtain ⟨lf, cnt, h, e⟩ := h; rw [e]; exact List.filter_sublist
theorem range_mapE (hk : P.underlying k = some .string) (ht : P.underlying t = some (.map k e)) (hg : o.guard = none) (m : Operand) (hop : o.op = Op.range t m) (hm : a.eval m = .map (some b)) (h : MapE P k enc w b f)
  (hK : ∀ w', Ranges P k enc w' b w.heap.size f f → w.grownBy w' none → w'.heap.size = w.heap.size + 1 → wpList P ops Q rest (a.put o.dst (.pointer (some ⟨w.heap.size, 0, none⟩))) w') : wpList P ops Q (o :: rest) a w :=
 wpList_range_own w hg m t hop k e (string_keyed hk) ht heldR b f.length _ hm h (fun w' h1 h2 h3 => hK w' ⟨_, _, h1, by
  refine (List.filter_eq_self.2 (fun p hp => ?_)).symm; rw [ent_has]
  cases hf : mget f p.1 with
  | none => exact absurd rfl (mget_none hf p hp)
  | some _ => rfl⟩ h2 h3)
theorem next_mapE (hk : P.underlying k = some .string) (hg : o.guard = none) (it : Operand) (hop : o.op = Op.next it false) {r : Nat} {left : List (Bs × α)} (hit : a.eval it = .pointer (some ⟨r, 0, none⟩)) (h : Ranges P k enc w b r f left)
  (hDone : left = [] → wpList P ops Q rest (a.put o.dst (.tuple #[.bool false])) w)
  (hMore : ∀ (x : Bs) (c : α) (w' : World), (x, c) ∈ left → x.length ≤ maxLen → Ranges P k enc w' b r f (mdel left x) → w'.rangeLeft b r < w.rangeLeft b r → w.grownBy w' (some r) → w'.heap.size = w.heap.size →
   (Instr.entry (.pointer (some ⟨r, 0, none⟩))).run P w' = .ok (.tuple #[.string ⟨x.toArray⟩, enc c]) w' → wpList P ops Q rest (a.put o.dst (.tuple #[.bool true, .string ⟨x.toArray⟩, enc c])) w') : wpList P ops Q (o :: rest) a w := by
 obtain ⟨lf, cnt, h, hl⟩ := h; refine wpList_next_ranges w hg it hop k (string_keyed hk) heldR (encStr : List UInt8 → Value) (id : Value → Value) (fun key kl hkk => by obtain ⟨x, hx, _⟩ := Maps.keyOf_str hk hkk; exact ⟨x, hx⟩) (fun v y _ => ⟨v, rfl⟩) b r f.length _ lf cnt hit h (fun h0 hd => hDone ?_) ?_
 ·rw [hl]; exact List.filter_eq_nil_iff.2 (fun p _ => by rw [hd]; simp)
 ·intro x v kl yv w2 cnt2 hkey hlk hv hat hrg2 hlt hg2 hs2 hen; obtain ⟨x', ex, rfl, hxl⟩ := Maps.keyOf_str hk hkey; obtain rfl : x = x' := encStr_inj ex
  have hy : yv.1 = .held v := by
   have : heldR v = some yv := hv
   unfold heldR at this
   injection this with this
   rw [← this]
  obtain ⟨c, hc⟩ : ∃ c, mget f x = some c := by
   have h1 := hat .nil; rw [ent_at] at h1
   cases hf : mget f x with
   | some c => exact ⟨c, rfl⟩
   | none => rw [hf, hy] at h1; cases h1
  obtain rfl : v = enc c := by
   have h1 := hat .nil; rw [ent_at, hc, hy] at h1
   injection h1 with h1
   exact h1.symm
  have hm1 := h.left_eq; have hm2 := hrg2.left_eq; refine hMore x c w2 ?_ hxl ⟨_, _, hrg2, ?_⟩ (by omega) hg2 hs2 hen
  ·rw [hl]; exact List.mem_filter.2 ⟨mget_some hc, hlk⟩
  ·rw [hl]
   unfold mdel
   rw [List.filter_filter]
   congr 1
   funext p
   rw [Bool.and_comm]; rfl
theorem next_mapA (hk : P.underlying k = some .string) (hg : o.guard = none) (it : Operand) (hop : o.op = Op.next it false) {r : Nat} {left : List (Bs × α)} (hit : a.eval it = .pointer (some ⟨r, 0, none⟩)) (h : Ranges P k enc w b r f left)
  (hDone : Aside0 (left = []) → wpList P ops Q rest (a.put o.dst (.tuple #[.bool false])) w)
  (hMore : ∀ (x : ByteArray) (c : α) (w' : World), Aside0 ((lb x, c) ∈ left ∧ x.size ≤ maxLen ∧ Ranges P k enc w' b r f (mdel left (lb x)) ∧ w'.rangeLeft b r < w.rangeLeft b r ∧ w.grownBy w' (some r) ∧ w'.heap.size = w.heap.size) →
   (Instr.entry (.pointer (some ⟨r, 0, none⟩))).run P w' = .ok (.tuple #[.string x, enc c]) w' → wpList P ops Q rest (a.put o.dst (.tuple #[.bool true, .string x, enc c])) w') : wpList P ops Q (o :: rest) a w :=
 next_mapE hk hg it hop hit h (fun hd => hDone ⟨hd⟩) (fun x c w' h1 h2 h3 h4 h5 h6 h7 => hMore ⟨x.toArray⟩ c w' ⟨by rw [lb_mk]; exact h1, h2, by rw [lb_mk]; exact h3, h4, h5, h6⟩ h7)
end
end Go.Proofs.YtmpmekliaicecaaDoor.MapV
namespace Go.Proofs.YtmpmekliaicecaaDoor.Kit
open Go.RowKit Go.Proofs.YtmpmekliaicecaaDoorW.PrintWords Go.Proofs.YtmpmekliaicecaaDoor.Str
theorem yq {w w1 w2 : World} (h : Below w.heap.size w w1) (k : Below w1.heap.size w1 w2) : Below w.heap.size w w2 := xi h h.size k
section
variable {P : Program} {ops : Array Oper} {rest : List Oper} {o : Oper} {a : Act} {Q : Exit → Act → World → Prop} {α : Type}
end
theorem run_make_cap {P : Program} (t e : TypeId) (z : Value) (sz bytes : Nat) (ht : P.underlying t = some (.slice e)) (hinfo : (P.info? e).map (fun i => (i.zero, i.size, i.bytes)) = some (some z, sz, bytes))
  (n : Nat) (hn : bytes * n ≤ 281474976710656) (hn2 : n ≤ 9223372036854775807) :
  ∀ W : World, (Instr.makeSlice t (.int .i64 0) (.int .i64 (n : Int))).run P W = .ok (.slice (some ⟨W.heap.size, 0, none⟩) 0 n) (W.alloc (.cells (madeCells z.cells (n * sz)) e)) := by
 intro W; obtain ⟨i, hi, hzz⟩ := Option.map_eq_some_iff.1 hinfo; simp only [Prod.mk.injEq] at hzz; obtain ⟨hz, hs, hb⟩ := hzz
 have hb' : (i.bytes : Int) * (n : Int) ≤ 281474976710656 := by
  have h : ((i.bytes * n : Nat) : Int) ≤ 281474976710656 := by rw [hb]; omega
  rwa [Int.natCast_mul] at h
 have hr := run_make (P := P) W t e i z ht hi hz .i64 .i64 0 n (by omega) (by omega) hb' (by omega); simp only [Int.toNat_natCast, Int.toNat_zero, hs] at hr; exact hr
theorem own_made_cap {α : Type} (d : Kd α) (W : World) (base : Nat) (e : TypeId) (z : Array Value) (n : Nat) (hb : base ≤ W.heap.size) (hn : n ≤ 9223372036854775807) :
  d.R e (W.alloc (.cells (madeCells z (n * d.sz)) e)) base (fun _ => True) (.slice (some ⟨W.heap.size, 0, none⟩) 0 n) [] := by
 refine ⟨fun _ _ => trivial, [], ⟨by simp, .inr ⟨W.heap.size, n, madeCells z (n * d.sz), rfl, hb, ?_, Nat.zero_le _, by unfold maxLen; omega, size_madeCells _ _, by simp⟩⟩, Reps.none _ _⟩; exact (heap_alloc_new W _)
theorem yn : (Tryd.prog.info? 9).map (fun i => (i.zero, i.size, i.bytes)) = some (some (.string ⟨#[]⟩), 1, 16) := by kernel_rfl
section
variable {ops : Array Oper} {rest : List Oper} {o : Oper} {a : Act} {Q : Exit → Act → World → Prop}
theorem own_empty {α : Type} (d : Kd α) {w : World} {base : Nat} {e : TypeId} {ok : Nat → Prop} (hb : base ≤ w.heap.size) (hok : ok w.heap.size) : d.R e (w.alloc (.cells #[] e)) base ok (.slice (some ⟨w.heap.size, 0, none⟩) 0 0) [] := by
 refine ⟨fun k hk => ?_, [], ⟨by simp, .inr ⟨w.heap.size, 0, #[], rfl, hb, heap_alloc_new w _, Nat.le_refl _, by unfold maxLen; omega, by simp, by simp⟩⟩, Reps.none _ _⟩
 have : w.heap.size = k := by simpa [Value.ownBlock] using hk
 subst this; exact hok
end
theorem strs_open {w : World} {A : Option Addr} {xs : List ByteArray} (h : Kd.string.C w A xs.length xs) (h0 : 0 < xs.length) :
  ∃ bk off, A = some ⟨bk, off, none⟩ ∧ bk < w.heap.size ∧ ∀ (j : Nat) (hj : j < xs.length), w.cell? ⟨bk, off + j, none⟩ = some (.string xs[j]) := by
 obtain ⟨hl, hm, hc⟩ := h; obtain ⟨ad, rfl, hcc⟩ := hc h0
 have cell : ∀ (j : Nat) (hj : j < xs.length), w.cell? (ad.add j) = some (.string xs[j]) := by
  intro j hj; obtain ⟨c, hcl, hr, hcell⟩ := hcc j xs[j] (List.getElem?_eq_getElem hj); have hr' : c = [Value.string xs[j]] := hr; subst hr'; have := hcell 0 _ rfl
  simpa [Kd.string, Kd.scalar] using this
 obtain ⟨bk, off, spot⟩ := ad
 have hspot : spot = none := by
  have h1 := cell 0 h0
  cases hs : spot with
  | none => rfl
  | some sp =>
   exfalso
   subst hs
   simp [World.cell?, Addr.add] at h1
   split at h1 <;> simp at h1
 subst hspot
 have add : ∀ j : Nat, (⟨bk, off, none⟩ : Addr).add j = ⟨bk, off + j, none⟩ := by intro j; unfold Addr.add; split <;> simp_all
 refine ⟨bk, off, rfl, ?_, fun j hj => by rw [← add]; exact cell j hj⟩; have h1 := cell 0 h0; rw [add] at h1; exact World.block_lt_of_cell? w _ h1
def bulk (xs : List ByteArray) : Nat := (xs.map fun x => x.size + 1).sum
def bnums (l : Bs) : List Int := l.map fun b => (b.toNat : Int)
theorem bnums_append (l m : Bs) : bnums (l ++ m) = bnums l ++ bnums m := by simp [bnums]
theorem xo (l : Bs) : (bnums l).length = l.length := by simp [bnums]
theorem str_bnums (l : Bs) : strOfNums (bnums l) = ⟨l.toArray⟩ := by
 apply lb_inj
 rw [lb_mk, lb, strOfNums_data, bnums, List.map_map]
 conv => rhs; rw [← List.map_id l]
 refine List.map_congr_left fun x _ => ?_
 simp
def Buf (w : World) (base : Nat) (v : Value) (l : Bs) : Prop := w.ownsRow base 5 1 v l.length (nums .u8 (bnums l))
theorem Buf.nil (w : World) (base : Nat) : Buf w base (.slice none 0 0) [] := own_nil _ _ _ _
theorem Buf.below {w w' : World} {base : Nat} {v : Value} {l : Bs} (h : Buf w base v l) (hb : Below w.heap.size w w') : Buf w' base v l := pw_own_below h hb
theorem Buf.slice {w : World} {base : Nat} {v : Value} {l : Bs} (h : Buf w base v l) : ∃ A c, v = .slice A l.length c := own_slice h
theorem info_byte : (Tryd.prog.info? 5).map (fun i => (i.zero, i.size, i.bytes)) = some (some (.int .u8 0), 1, 1) := by kernel_rfl
theorem Buf.string {w : World} {base : Nat} {v : Value} {l : Bs} (h : Buf w base v l) : (convert 64 9 v).run Tryd.prog w = .ok (.string ⟨l.toArray⟩) w := by
 rw [← str_bnums]; exact own_string Tryd.underlying64 Tryd.underlying5 Tryd.underlying9 h
section
variable {ops : Array Oper} {rest : List Oper} {o : Oper} {a : Act} {Q : Exit → Act → World → Prop}
theorem append_bufS {w0 W : World} (s x : Operand) (hgd : o.guard = none) (ho : o.op = .call { callee := .builtin .append, args := #[s, x], argTypes := #[64, 9] })
  {v : Value} {l : Bs} {y : ByteArray} (hs : a.eval s = v) (hx : a.eval x = .string y) (HO : Buf W w0.heap.size v l) (HB : Below w0.heap.size w0 W) (hl : l.length + y.size ≤ 140737488355328)
  (h : ∀ v1 w1, Buf w1 w0.heap.size v1 (l ++ lb y) → Below w0.heap.size w0 w1 → W.grownBy w1 v.ownBlock → wpList Tryd.prog ops Q rest (a.put o.dst v1) w1) :
  wpList Tryd.prog ops Q (o :: rest) a W := by
 refine print_append_str (w0 := w0) w0.heap.size hgd s x 64 9 5 ho Tryd.underlying64 Tryd.underlying9 info_byte v (bnums l) y hs hx (by rw [xo]; exact HO) HB HB.size (by rw [xo]; exact hl) ?_; intro v1 w1 hown hb hg; refine h v1 w1 ?_ hb hg
 unfold Buf
 rw [bnums_append]; have e : bnums (lb y) = bytesOf y := rfl; rw [e]
 have e2 : (l ++ lb y).length = (bnums l ++ bytesOf y).length := by rw [List.length_append, List.length_append, xo, bytesOf_length, yk]
 rw [e2]; exact hown
theorem append_bufB {w0 W : World} (s x : Operand) (hgd : o.guard = none) (ho : o.op = .call { callee := .builtin .append, args := #[s, x], argTypes := #[64, 64] })
  {v : Value} {l : Bs} {n : Int} (b : UInt8) (hn : n = (b.toNat : Int)) (hs : a.eval s = v) (hx : a.eval x = .slice (some ⟨W.heap.size, 0, none⟩) 1 1) (HO : Buf W w0.heap.size v l) (HB : Below w0.heap.size w0 W) (hl : l.length + 1 ≤ 140737488355328)
  (h : ∀ v1 w1, Buf w1 w0.heap.size v1 (l ++ [b]) → Below w0.heap.size w0 w1 → W.grownBy w1 v.ownBlock → wpList Tryd.prog ops Q rest (a.put o.dst v1) w1) :
  wpList Tryd.prog ops Q (o :: rest) a (W.alloc (.cells #[.int .u8 n] 5)) := by
 subst hn; refine print_append_num (w0 := w0) w0.heap.size hgd s x 64 5 .u8 1 ho Tryd.underlying64 info_byte (by decide) v (bnums l) b.toNat hs hx (by rw [xo]; exact HO) HB HB.size (by rw [xo]; omega) ?_; intro v1 w1 hown hb hg _; refine h v1 w1 ?_ hb hg
 unfold Buf
 rw [bnums_append]
 have e2 : (l ++ [b]).length = (bnums l ++ [(b.toNat : Int)]).length := by rw [List.length_append, List.length_append, xo]; rfl
 rw [e2]; exact hown
end
end Go.Proofs.YtmpmekliaicecaaDoor.Kit
namespace Go.Proofs.YtmpmekliaicecaaDoor.Frame
open Go.RowKit Go.Proofs.YtmpmekliaicecaaDoorW.PrintWords Go.Proofs.YtmpmekliaicecaaDoor.Str Go.Proofs.YtmpmekliaicecaaDoor.Kit
structure Turns (F : Nat → Prop) (w w' : World) : Prop where
 os : w'.os = w.os
 tape : w'.tape = w.tape
 output : w'.output = w.output
 size : w.heap.size ≤ w'.heap.size
 block : ∀ k, k < w.heap.size → ¬ F k → w'.heap[k]? = w.heap[k]?
theorem Turns.refl (F : Nat → Prop) (w : World) : Turns F w w := ⟨rfl, rfl, rfl, Nat.le_refl _, fun _ _ _ => rfl⟩
theorem Turns.mono {F G : Nat → Prop} {w w' : World} (h : Turns F w w') (hs : ∀ k, k < w.heap.size → F k → G k) : Turns G w w' :=
 ⟨h.os, h.tape, h.output, h.size, fun k hk hg => h.block k hk (fun hf => hg (hs k hk hf))⟩
theorem Turns.trans {F G : Nat → Prop} {a b c : World} (h : Turns F a b) (k : Turns G b c) (hs : ∀ j, j < a.heap.size → G j → F j) : Turns F a c :=
 ⟨k.os.trans h.os, k.tape.trans h.tape, k.output.trans h.output, Nat.le_trans h.size k.size, fun i hi hn => (k.block i (Nat.lt_of_lt_of_le hi h.size) (fun hg => hn (hs i hi hg))).trans (h.block i hi hn)⟩
theorem Turns.of_below {F : Nat → Prop} {w w' : World} (h : Below w.heap.size w w') : Turns F w w' := ⟨h.os, h.tape, h.output, h.size, fun k hk _ => h.block k hk⟩
theorem Turns.below {F : Nat → Prop} {w0 w w' : World} (h : Turns F w w') (hb : Below w0.heap.size w0 w) (hf : ∀ k, k < w0.heap.size → ¬ F k) : Below w0.heap.size w0 w' :=
 ⟨h.os.trans hb.os, h.tape.trans hb.tape, h.output.trans hb.output, Nat.le_trans hb.size h.size, fun k hk => (h.block k (Nat.lt_of_lt_of_le hk hb.size) (hf k hk)).trans (hb.block k hk)⟩
theorem Turns.setCell (w : World) (b i : Nat) (v : Value) : Turns (fun k => k = b) w (w.setCell ⟨b, i, none⟩ v) :=
 ⟨rfl, rfl, rfl, by simp, fun k _ hn => Go.heap_setCell_other w _ k v hn⟩
theorem Turns.alloc (F : Nat → Prop) (w : World) (o : Obj) : Turns F w (w.alloc o) :=
 Turns.of_below ((Below.refl _ w).alloc (Nat.le_refl _) o)
theorem zr {w : World} {b i : Nat} {cs : Array Value} {t : TypeId} {v : Value} (h : w.heap[b]? = some (.cells cs t (0, 0))) (hi : cs[i]? = some v) : w.cell? ⟨b, i, none⟩ = some v := by
 simp [World.cell?, h, hi]
theorem xh {w : World} {b i : Nat} {cs : Array Value} {t : TypeId} (h : w.heap[b]? = some (.cells cs t (0, 0))) : w.frozen? ⟨b, i, none⟩ = false := by
 simp [World.frozen?, h]
theorem cb_set {w : World} {b i : Nat} {cs : Array Value} {t : TypeId} (h : w.heap[b]? = some (.cells cs t (0, 0))) (v : Value) : (w.setCell ⟨b, i, none⟩ v).heap[b]? = some (.cells (cs.setIfInBounds i v) t (0, 0)) :=
 Go.heap_setCell_same w b i cs t v h
theorem yx (w : World) (x : Obj) : (w.alloc x).heap[w.heap.size]? = some x := by
 show (w.heap.push x)[w.heap.size]? = _
 simp
theorem yb {w : World} {k : Nat} {o : Obj} (h : w.heap[k]? = some o) : k < w.heap.size := (Array.getElem?_eq_some_iff.1 h).1
end Go.Proofs.YtmpmekliaicecaaDoor.Frame
namespace Go.Proofs.YtmpmekliaicecaaDoor.Val
open Go.RowKit Go.Proofs.YtmpmekliaicecaaDoorW.PrintWords Go.Proofs.YtmpmekliaicecaaDoorW.PrintLast Go.Proofs.YtmpmekliaicecaaDoor.Str Go.Proofs.YtmpmekliaicecaaDoor.Kit Go.Proofs.YtmpmekliaicecaaDoor.Frame Go.Proofs.YtmpmekliaicecaaDoor.MapV
def placeI (ks : List ByteArray) (k : ByteArray) : Nat := (ks.takeWhile fun x => decide (lb x < lb k)).length
def placeB (ks : List ByteArray) (k : ByteArray) : Bool := match ks[placeI ks k]? with | some x => x.toList == k.toList | none => false
theorem placeI_hit {k : ByteArray} : ∀ {ks : List ByteArray} {i : Nat}, (∀ (j : Nat) (hj : j < ks.length), j < i → lb ks[j] < lb k) → ∀ hi : i < ks.length, ¬ lb ks[i] < lb k → placeI ks k = i
 | [], _, _, hi, _ => by simp at hi
 | x :: r, 0, _, _, hn => by
  have : ¬ lb x < lb k := hn
  unfold placeI
  rw [List.takeWhile_cons_of_neg (by simpa using this)]; rfl
 | x :: r, i + 1, ha, hi, hn => by
  have h0 : lb x < lb k := ha 0 (by simp) (by omega); have ih := placeI_hit (k := k) (ks := r) (i := i) (fun j hj hji => by have := ha (j + 1) (by simpa using hj) (by omega); simpa using this) (by simpa using hi) (by simpa using hn)
  unfold placeI at ih ⊢
  rw [List.takeWhile_cons_of_pos (by simpa using h0), List.length_cons, ih]
theorem placeI_end {k : ByteArray} {ks : List ByteArray} (ha : ∀ (j : Nat) (hj : j < ks.length), lb ks[j] < lb k) : placeI ks k = ks.length := by
 unfold placeI
 induction ks with
 | nil => rfl
 | cons x r ih =>
  have h0 : lb x < lb k := ha 0 (by simp); rw [List.takeWhile_cons_of_pos (by simpa using h0), List.length_cons, ih (fun j hj => by have := ha (j + 1) (by simpa using hj); simpa using this), List.length_cons]
set_option maxHeartbeats 1600000 in
set_option maxRecDepth 100000 in
theorem place (kd nm : Int) (t : ByteArray) {A3 A4 : Option Addr} {c3 n4 c4 : Nat} (ks : List ByteArray) (k : ByteArray) (w : World) (h : Kd.string.C w A3 ks.length ks) (hn : ks.length ≤ 17592186044416) :
  Calls Tryd.prog 22 #[.agg #[.int .i64 kd, .int .i64 nm, .string t, .slice A3 ks.length c3, .slice A4 n4 c4], .string k] w fun e w' => e = .returned (.tuple #[.int .i64 (placeI ks k), .bool (placeB ks k)]) ∧ Below w.heap.size w w' := by
 have H := aM h; have HX := aM (yx w (.cells #[.int .i64 kd, .int .i64 nm, .string t, .slice A3 ks.length c3, .slice A4 n4 c4] 25)); have HB := aM ((Below.refl _ w).alloc (Nat.le_refl _) (.cells #[.int .i64 kd, .int .i64 nm, .string t, .slice A3 ks.length c3, .slice A4 n4 c4] 25)); clear h
 go_enter Tryd.func22, Tryd.ntmps22
 go_wp2
 go_loopw [6] (fun v wr => ∃ i : Nat, v = .int .i64 i ∧ i ≤ ks.length ∧ Aside0 (∀ (j : Nat) (hj : j < ks.length), j < i → lb ks[j] < lb k) ∧ Aside0 (wr.heap[w.heap.size]? = some (.cells #[.int .i64 kd, .int .i64 nm, .string t, .slice A3 ks.length c3, .slice A4 n4 c4] 25 (0, 0))) ∧ Aside0 (Below w.heap.size w wr)) (fun v _ => ks.length - (intOf v).toNat)
 case atStart => exact ⟨0, rfl, by omega, ⟨fun j _ h => absurd h (Nat.not_lt_zero _)⟩, HX, HB⟩
 case round =>
  clear HX HB; obtain ⟨i, rfl, hi, HN, HX, HB⟩ := hrel; have x3 : wr.cell? ⟨w.heap.size, 3, none⟩ = some (.slice A3 ks.length c3) := zr (i := 3) HX.out rfl
  by_cases hlt : i < ks.length
  ·obtain ⟨b0, o0, rfl, hb0, hc0⟩ := strs_open (Kd.C_below H.out HB.out) (by omega); have g0 := hc0 i hlt
   have q0 : (0 : Int) ≤ (i : Int) := by omega
   have q1 : (i : Int) < (ks.length : Int) := by omega
   have HA := aM (show lb ks[i] < lb k → ∀ (j : Nat) (hj : j < ks.length), j < i + 1 → lb ks[j] < lb k from fun h j hj hji => by
    by_cases hj' : j < i
    ·exact HN.out j hj hj'
    ·have : j = i := by omega
     subst this; exact h)
   have HP := aM (show ¬ lb ks[i] < lb k → placeI ks k = i ∧ placeB ks k = (ks[i].toList == k.toList) from fun h => by
    have h1 := placeI_hit HN.out hlt h; refine ⟨h1, ?_⟩
    unfold placeB
    rw [h1, List.getElem?_eq_getElem hlt])
   have hless : Op.bytesLess ks[i].toList k.toList = decide (lb ks[i] < lb k) := by rw [bytesLess_eq, xa, xa]
   clear hc0
   by_cases hl : lb ks[i] < lb k
   ·rw [decide_eq_true hl] at hless; have Y := aM (HA.out hl); clear HA HP hl; generalize ks[i] = x at g0 hless
    go_wp2
    go_roundw
    case rel => exact ⟨i + 1, by go_num, by omega, Y, HX, HB⟩
    case measure => simp [intOf]; omega
   ·rw [decide_eq_false hl] at hless; have Y := aM (HP.out hl); clear HA HP hl; generalize ks[i] = x at g0 hless Y
    go_wp2_with fail
    go_quiet (fail)
    go_wp2
    go_ret2
    exact ⟨by rw [Y.out.1, Y.out.2]; rfl, ze HB.out nq⟩
  ·have Y := aM (placeI_end (k := k) (ks := ks) (fun j hj => HN.out j hj (by omega)))
   have Z := aM (show placeB ks k = false by
    unfold placeB
    rw [Y.out, List.getElem?_eq_none (Nat.le_refl _)])
   go_wp2
   go_ret2
   exact ⟨by rw [Y.out, Z.out]; rfl, HB.out⟩
end Go.Proofs.YtmpmekliaicecaaDoor.Val
namespace Go.Proofs.YtmpmekliaicecaaDoor.PS
open Go.RowKit Go.Proofs.YtmpmekliaicecaaDoorW.PrintWords Go.Proofs.YtmpmekliaicecaaDoorW.PrintLast Go.Proofs.YtmpmekliaicecaaDoorW.PrintMore
attribute [local go_sem] xg xe xn xm yz yy xf xd 
def errW : Option Int → Value
 | none => .nilIface
 | some c => .iface 0 (.int .i64 c)
theorem zv : errW none = .nilIface := rfl
theorem zu (c : Int) : errW (some c) = .iface 0 (.int .i64 c) := rfl
theorem info9 : (Tryd.prog.info? 9).map (fun i => (i.zero, i.size, i.bytes)) = some (some (.string ⟨#[]⟩), 1, 16) := by kernel_rfl
theorem yw : (Tryd.prog.info? 25).map (fun i => (i.zero, i.size, i.bytes)) = some (some (.agg #[(.int .i64 0), (.int .i64 0), (.string ⟨#[]⟩), (.slice none 0 0), (.slice none 0 0)]), 5, 80) := by kernel_rfl
theorem info33 : (Tryd.prog.info? 33).map (fun i => (i.zero, i.size, i.bytes)) = some (some (.agg #[(.int .i64 0), (.int .i64 0), (.string ⟨#[]⟩), (.slice none 0 0), (.slice none 0 0)]), 5, 80) := by kernel_rfl
structure S25 where
 f0 : Int
 f1 : Int
 f2 : ByteArray
 f3 : (List ByteArray)
 f4 : (List S25)
def z25 : S25 := ⟨(0 : Int), (0 : Int), (⟨#[]⟩ : ByteArray), ([] : List ByteArray), ([] : List S25)⟩
def F25 (d : Kd S25) : Kd S25 := Kd.iso (Kd.pair (Kd.int .i64) (Kd.pair (Kd.int .i64) (Kd.pair Kd.string (Kd.pair (Kd.slice 9 Kd.string) (Kd.slice 25 d))))) (fun x : S25 => (x.f0, x.f1, x.f2, x.f3, x.f4))
theorem mono25 : Kd.Mono F25 := Kd.mono_iso _ (Kd.mono_pair (Kd.mono_const _) (Kd.mono_pair (Kd.mono_const _) (Kd.mono_pair (Kd.mono_const _) (Kd.mono_pair (Kd.mono_const _) (Kd.mono_slice 25 Kd.mono_id)))))
theorem sub25 : Kd.Sub F25 [9, 25] := Kd.sub_iso _ (Kd.sub_pair (Kd.sub_const _ (by decide)) (Kd.sub_pair (Kd.sub_const _ (by decide)) (Kd.sub_pair (Kd.sub_const _ (by decide)) (Kd.sub_pair (Kd.sub_const _ (by decide)) (Kd.sub_slice 25 (by decide) Kd.sub_id)))))
theorem sz25 : ∀ n, (Kd.upto F25 5 [9, 25] n).sz = 5 := Kd.upto_sz (fun _ => rfl)
def k25 : Kd S25 := Kd.fix F25 5 [9, 25] sz25 (Kd.upto_E sub25)
theorem k25_open {w : World} {x : S25} {cs : List Value} (h : k25.K w x cs) : ∃ A3 c3 A4 c4, cs = [.int .i64 x.f0, .int .i64 x.f1, .string x.f2, .slice A3 x.f3.length c3, .slice A4 x.f4.length c4] ∧ x.f3.length ≤ c3 ∧ Kd.string.C w A3 x.f3.length x.f3 ∧ x.f4.length ≤ c4 ∧ k25.C w A4 x.f4.length x.f4 := by
 obtain ⟨n, h⟩ := h
 cases n with
 | zero => exact h.elim
 | succ n =>
  obtain ⟨_, _, rfl, rfl, ⟨_, _, rfl, rfl, ⟨_, _, rfl, rfl, ⟨_, _, rfl, ⟨A3, c3, rfl, l3, g3⟩, ⟨A4, c4, rfl, l4, g4⟩⟩⟩⟩⟩ := h; exact ⟨A3, c3, A4, c4, rfl, l3, g3, l4, Kd.fix_C g4⟩
theorem k25_mk (w : World) (x : S25) {A3 : Option Addr} {c3 : Nat} (l3 : x.f3.length ≤ c3) (g3 : Kd.string.C w A3 x.f3.length x.f3) {A4 : Option Addr} {c4 : Nat} (l4 : x.f4.length ≤ c4) (g4 : k25.C w A4 x.f4.length x.f4) : k25.K w x [.int .i64 x.f0, .int .i64 x.f1, .string x.f2, .slice A3 x.f3.length c3, .slice A4 x.f4.length c4] := by
 obtain ⟨n4, q4⟩ := Kd.fix_C_back mono25 g4; have r4 := Kd.upto_C_le mono25 sz25 (show n4 ≤ n4 by omega) q4; exact ⟨n4 + 1, ⟨[.int .i64 x.f0], [.int .i64 x.f1, .string x.f2, .slice A3 x.f3.length c3, .slice A4 x.f4.length c4], rfl, rfl, ⟨[.int .i64 x.f1], [.string x.f2, .slice A3 x.f3.length c3, .slice A4 x.f4.length c4], rfl, rfl, ⟨[.string x.f2], [.slice A3 x.f3.length c3, .slice A4 x.f4.length c4], rfl, rfl, ⟨[.slice A3 x.f3.length c3], [.slice A4 x.f4.length c4], rfl, ⟨A3, c3, rfl, l3, g3⟩, ⟨A4, c4, rfl, l4, r4⟩⟩⟩⟩⟩⟩
theorem k25_mkM (w : World) (base : Nat) (ok : Nat → Prop) (x : S25) {v3 : Value} (g3 : Kd.string.R 9 w base ok v3 x.f3) {v4 : Value} (g4 : k25.R 25 w base ok v4 x.f4) : k25.M w base ok x [.int .i64 x.f0, .int .i64 x.f1, .string x.f2, v3, v4] := by
 obtain ⟨n4, q4⟩ := Kd.fix_R_back mono25 g4; have r4 := Kd.upto_R_le mono25 sz25 (show n4 ≤ n4 by omega) q4; exact ⟨n4 + 1, ⟨[.int .i64 x.f0], [.int .i64 x.f1, .string x.f2, v3, v4], rfl, rfl, ⟨[.int .i64 x.f1], [.string x.f2, v3, v4], rfl, rfl, ⟨[.string x.f2], [v3, v4], rfl, rfl, ⟨[v3], [v4], rfl, ⟨v3, rfl, g3⟩, ⟨v4, rfl, r4⟩⟩⟩⟩⟩⟩
theorem k25_mkF (W : World) (ok : Nat → Prop) (x : S25) {A3 : Option Addr} {c3 : Nat} (l3 : x.f3.length ≤ c3) (g3 : Kd.F Kd.string W ok A3 x.f3.length x.f3) {A4 : Option Addr} {c4 : Nat} (l4 : x.f4.length ≤ c4) (g4 : Kd.F k25 W ok A4 x.f4.length x.f4) : Kd.FK k25 W ok x [.int .i64 x.f0, .int .i64 x.f1, .string x.f2, .slice A3 x.f3.length c3, .slice A4 x.f4.length c4] := fun W2 hW => k25_mk W2 x l3 (g3 W2 hW) l4 (g4 W2 hW)
def rd_T25 (xs : List S25) (i : Int) : S25 := xs.getD i.toNat z25
theorem at_T25 {w : World} {A : Option Addr} {n : Nat} {xs : List S25} (h : Kd.C k25 w A n xs) (i : Int) (h0 : 0 ≤ i) (h1 : i < n) : ∃ ad A3 c3 A4 c4, A = some ad ∧ w.cell? (ad.add (i.toNat * 5)) = some (.int .i64 (rd_T25 xs i).f0) ∧ w.cell? ⟨(ad.add (i.toNat * 5)).block, (ad.add (i.toNat * 5)).off + 1, none⟩ = some (.int .i64 (rd_T25 xs i).f1) ∧ w.cell? ⟨(ad.add (i.toNat * 5)).block, (ad.add (i.toNat * 5)).off + 2, none⟩ = some (.string (rd_T25 xs i).f2) ∧ w.cell? ⟨(ad.add (i.toNat * 5)).block, (ad.add (i.toNat * 5)).off + 3, none⟩ = some (.slice A3 (rd_T25 xs i).f3.length c3) ∧ w.cell? ⟨(ad.add (i.toNat * 5)).block, (ad.add (i.toNat * 5)).off + 4, none⟩ = some (.slice A4 (rd_T25 xs i).f4.length c4) ∧ (rd_T25 xs i).f3.length ≤ c3 ∧ Kd.string.C w A3 (rd_T25 xs i).f3.length (rd_T25 xs i).f3 ∧ (rd_T25 xs i).f4.length ≤ c4 ∧ k25.C w A4 (rd_T25 xs i).f4.length (rd_T25 xs i).f4 := by
 obtain ⟨ad, c, e, _, hK, hc0⟩ := Kd.C_get h z25 i h0 h1; have hc : ∀ j u, c[j]? = some u → w.cell? (ad.add (i.toNat * 5 + j)) = some u := hc0; obtain ⟨A3, c3, A4, c4, rfl, l3, g3, l4, g4⟩ := k25_open hK; exact ⟨ad, A3, c3, A4, c4, e, hc 0 _ rfl, by rw [← xv _ _ 1 (by omega)]; exact hc 1 _ rfl, by rw [← xv _ _ 2 (by omega)]; exact hc 2 _ rfl, by rw [← xv _ _ 3 (by omega)]; exact hc 3 _ rfl, by rw [← xv _ _ 4 (by omega)]; exact hc 4 _ rfl, l3, g3, l4, g4⟩
structure S33 where
 f0 : Int
 f1 : Int
 f2 : ByteArray
 f3 : (List ByteArray)
 f4 : (List S33)
def z33 : S33 := ⟨(0 : Int), (0 : Int), (⟨#[]⟩ : ByteArray), ([] : List ByteArray), ([] : List S33)⟩
def F33 (d : Kd S33) : Kd S33 := Kd.iso (Kd.pair (Kd.int .i64) (Kd.pair (Kd.int .i64) (Kd.pair Kd.string (Kd.pair (Kd.slice 9 Kd.string) (Kd.slice 33 d))))) (fun x : S33 => (x.f0, x.f1, x.f2, x.f3, x.f4))
theorem mono33 : Kd.Mono F33 := Kd.mono_iso _ (Kd.mono_pair (Kd.mono_const _) (Kd.mono_pair (Kd.mono_const _) (Kd.mono_pair (Kd.mono_const _) (Kd.mono_pair (Kd.mono_const _) (Kd.mono_slice 33 Kd.mono_id)))))
theorem sub33 : Kd.Sub F33 [9, 33] := Kd.sub_iso _ (Kd.sub_pair (Kd.sub_const _ (by decide)) (Kd.sub_pair (Kd.sub_const _ (by decide)) (Kd.sub_pair (Kd.sub_const _ (by decide)) (Kd.sub_pair (Kd.sub_const _ (by decide)) (Kd.sub_slice 33 (by decide) Kd.sub_id)))))
theorem sz33 : ∀ n, (Kd.upto F33 5 [9, 33] n).sz = 5 := Kd.upto_sz (fun _ => rfl)
def k33 : Kd S33 := Kd.fix F33 5 [9, 33] sz33 (Kd.upto_E sub33)
theorem k33_open {w : World} {x : S33} {cs : List Value} (h : k33.K w x cs) : ∃ A3 c3 A4 c4, cs = [.int .i64 x.f0, .int .i64 x.f1, .string x.f2, .slice A3 x.f3.length c3, .slice A4 x.f4.length c4] ∧ x.f3.length ≤ c3 ∧ Kd.string.C w A3 x.f3.length x.f3 ∧ x.f4.length ≤ c4 ∧ k33.C w A4 x.f4.length x.f4 := by
 obtain ⟨n, h⟩ := h
 cases n with
 | zero => exact h.elim
 | succ n =>
  obtain ⟨_, _, rfl, rfl, ⟨_, _, rfl, rfl, ⟨_, _, rfl, rfl, ⟨_, _, rfl, ⟨A3, c3, rfl, l3, g3⟩, ⟨A4, c4, rfl, l4, g4⟩⟩⟩⟩⟩ := h; exact ⟨A3, c3, A4, c4, rfl, l3, g3, l4, Kd.fix_C g4⟩
theorem k33_mkM (w : World) (base : Nat) (ok : Nat → Prop) (x : S33) {v3 : Value} (g3 : Kd.string.R 9 w base ok v3 x.f3) {v4 : Value} (g4 : k33.R 33 w base ok v4 x.f4) : k33.M w base ok x [.int .i64 x.f0, .int .i64 x.f1, .string x.f2, v3, v4] := by
 obtain ⟨n4, q4⟩ := Kd.fix_R_back mono33 g4; have r4 := Kd.upto_R_le mono33 sz33 (show n4 ≤ n4 by omega) q4; exact ⟨n4 + 1, ⟨[.int .i64 x.f0], [.int .i64 x.f1, .string x.f2, v3, v4], rfl, rfl, ⟨[.int .i64 x.f1], [.string x.f2, v3, v4], rfl, rfl, ⟨[.string x.f2], [v3, v4], rfl, rfl, ⟨[v3], [v4], rfl, ⟨v3, rfl, g3⟩, ⟨v4, rfl, r4⟩⟩⟩⟩⟩⟩
def rd_T33 (xs : List S33) (i : Int) : S33 := xs.getD i.toNat z33
theorem at_T33 {w : World} {A : Option Addr} {n : Nat} {xs : List S33} (h : Kd.C k33 w A n xs) (i : Int) (h0 : 0 ≤ i) (h1 : i < n) : ∃ ad A3 c3 A4 c4, A = some ad ∧ w.cell? (ad.add (i.toNat * 5)) = some (.int .i64 (rd_T33 xs i).f0) ∧ w.cell? ⟨(ad.add (i.toNat * 5)).block, (ad.add (i.toNat * 5)).off + 1, none⟩ = some (.int .i64 (rd_T33 xs i).f1) ∧ w.cell? ⟨(ad.add (i.toNat * 5)).block, (ad.add (i.toNat * 5)).off + 2, none⟩ = some (.string (rd_T33 xs i).f2) ∧ w.cell? ⟨(ad.add (i.toNat * 5)).block, (ad.add (i.toNat * 5)).off + 3, none⟩ = some (.slice A3 (rd_T33 xs i).f3.length c3) ∧ w.cell? ⟨(ad.add (i.toNat * 5)).block, (ad.add (i.toNat * 5)).off + 4, none⟩ = some (.slice A4 (rd_T33 xs i).f4.length c4) ∧ (rd_T33 xs i).f3.length ≤ c3 ∧ Kd.string.C w A3 (rd_T33 xs i).f3.length (rd_T33 xs i).f3 ∧ (rd_T33 xs i).f4.length ≤ c4 ∧ k33.C w A4 (rd_T33 xs i).f4.length (rd_T33 xs i).f4 := by
 obtain ⟨ad, c, e, _, hK, hc0⟩ := Kd.C_get h z33 i h0 h1; have hc : ∀ j u, c[j]? = some u → w.cell? (ad.add (i.toNat * 5 + j)) = some u := hc0; obtain ⟨A3, c3, A4, c4, rfl, l3, g3, l4, g4⟩ := k33_open hK; exact ⟨ad, A3, c3, A4, c4, e, hc 0 _ rfl, by rw [← xv _ _ 1 (by omega)]; exact hc 1 _ rfl, by rw [← xv _ _ 2 (by omega)]; exact hc 2 _ rfl, by rw [← xv _ _ 3 (by omega)]; exact hc 3 _ rfl, by rw [← xv _ _ 4 (by omega)]; exact hc 4 _ rfl, l3, g3, l4, g4⟩
end Go.Proofs.YtmpmekliaicecaaDoor.PS
namespace Go.Proofs.YtmpmekliaicecaaDoor.Tr
open Go.RowKit Go.Proofs.YtmpmekliaicecaaDoorW.PrintWords Go.Proofs.YtmpmekliaicecaaDoorW.PrintLast Go.Proofs.YtmpmekliaicecaaDoor.Str Go.Proofs.YtmpmekliaicecaaDoor.Kit Go.Proofs.YtmpmekliaicecaaDoor.MapV Go.Proofs.YtmpmekliaicecaaDoor.Frame Go.Proofs.YtmpmekliaicecaaDoor.PS
abbrev BA := ByteArray
abbrev VI := S33
abbrev VS := S25
abbrev kI : Kd VI := k33
abbrev kS : Kd VS := k25
def held {α : Type} (sz : Nat) (Pf : α → List Value → Prop) (h5 : ∀ {x cs}, Pf x cs → cs.length = sz) (h1 : ∀ {x cs}, Pf x cs → ∀ u ∈ cs, u.oneCell' = true) : Kd α where
 sz := sz
 E := []
 K := fun _ x cs => Pf x cs
 M := fun _ _ _ x cs => Pf x cs
 K_len := h5
 K_one := h1
 K_below := fun _ h => h
 K_of_M := fun h => h
 M_mono := fun _ h => h
 M_bound := fun h => h
 M_move := fun _ h => h
 M_lower := fun _ h => h
def zerosV : Array Value := #[.int .i64 0, .int .i64 0, .string ⟨#[]⟩, .slice none 0 0, .slice none 0 0]
def Has {α : Type} (d : Kd α) (e : Nat) (W0 w : World) (v : Value) (xs : List α) (b : Nat) : Prop := d.R e w W0.heap.size (fun _ => True) v xs ∧ v.ownBlock = some b ∧ b < w.heap.size ∧ W0.heap.size ≤ b
def HasZ (W0 w : World) (g : Nat) : Prop := w.heap[g]? = some (.cells zerosV 25 (0, 0)) ∧ W0.heap.size ≤ g
section
variable {α : Type} {d : Kd α} {e : Nat} {W0 w w1 : World} {v : Value} {xs ys : List α} {b b' g : Nat}
theorem Has.new (hB : Below W0.heap.size W0 w) : Has d e W0 (w.alloc (.cells #[] e)) (.slice (some ⟨w.heap.size, 0, none⟩) 0 0) [] w.heap.size :=
 ⟨own_empty d hB.size trivial, rfl, by rw [World.size_alloc]; omega, hB.size⟩
theorem HasZ.new (hB : Below W0.heap.size W0 w) : HasZ W0 (w.alloc (.cells zerosV 25)) w.heap.size := ⟨yx _ _, hB.size⟩
theorem Has.alloc (h : Has d e W0 w v xs b) (o : Obj) : Has d e W0 (w.alloc o) v xs b := ⟨Kd.R_alloc h.1 o, h.2.1, by rw [World.size_alloc]; have := h.2.2.1; omega, h.2.2.2⟩
theorem HasZ.alloc (h : HasZ W0 w g) (o : Obj) : HasZ W0 (w.alloc o) g := ⟨((zb (Below.refl _ w) o).block _ (yb h.1)).trans h.1, h.2⟩
theorem Has.ne_new (h : Has d e W0 w v xs b) : b ≠ w.heap.size := by have := h.2.2.1; omega
theorem HasZ.ne_new (h : HasZ W0 w g) : g ≠ w.heap.size := by have := yb h.1; omega
theorem Has.grown (hk : ∀ (w : World) (base : Nat) (ok ok' : Nat → Prop) x cs, d.M w base ok x cs → d.M w base ok' x cs) (h : Has d e W0 w v xs b) (hg : w.grownBy w1 (some b')) (hn : b ≠ b') : Has d e W0 w1 v xs b := by
 obtain ⟨⟨h0, inner, ho, hr⟩, hb, hlt, hle⟩ := h
 have h2 : d.R e w W0.heap.size (fun k => k = b) v xs := ⟨fun k hk => by rw [hb] at hk; injection hk with hk; exact hk.symm, inner, ho, hr.imp_ (fun x cs hx => hk _ _ _ _ x cs hx)⟩
 have h3 := Kd.R_grown h2 hg (fun k hk => by rw [hk]; exact fun e => hn (Option.some.inj e)); exact ⟨Kd.R_mono h3 (fun _ _ => trivial), hb, by have := hg.size; omega, hle⟩
theorem HasZ.grown (h : HasZ W0 w g) (hg : w.grownBy w1 (some b')) (hn : g ≠ b') : HasZ W0 w1 g := ⟨(hg.block _ (yb h.1) (fun e => hn (Option.some.inj e))).trans h.1, h.2⟩
theorem Has.grew (h : Has d e W0 w v xs b) {v1 : Value} (h1 : d.R e w1 W0.heap.size (fun _ => True) v1 ys) (hg : w.grownBy w1 v.ownBlock) (hat : v1.ownBlock = v.ownBlock ∨ ∃ b, v1.ownBlock = some b ∧ w.heap.size ≤ b) :
  ∃ b1, Has d e W0 w1 v1 ys b1 ∧ (b1 = b ∨ w.heap.size ≤ b1) := by
 rcases hat with hat | ⟨b1, hat, hle⟩
 ·exact ⟨b, ⟨h1, hat.trans h.2.1, by have := hg.size; have := h.2.2.1; omega, h.2.2.2⟩, .inl rfl⟩
 ·have hlt := (Kd.R_bound h1).1 b1 hat; exact ⟨b1, ⟨h1, hat, hlt.2.2.1, hlt.2.1⟩, .inr hle⟩
end
section
variable {P : Program} {ops : Array Oper} {o : Oper} {a : Act} {Q : Exit → Act → World → Prop} {Kc : Act → World → Prop} {w : World}
theorem store_row_step (hw : Region.wanted o (yielded ops a.tmps) = true) (hN : o.dst = none) (ty : TypeId) (x y : Operand) (ho : o.op = .store ty x y) (g : Nat) (cells : Array Value) (hx : a.eval x = .pointer (some ⟨g, 0, none⟩)) (hy : a.eval y = .agg cells)
  (t : TypeId) (old : Array Value) (hg : w.heap[g]? = some (.cells old t (0, 0))) (hi : (P.info? ty).map (·.size) = some cells.size) (hold : old.size = cells.size) (h1 : cells.all (·.oneCell') = true)
  (h : Kc a (w.setRow g cells)) : if Region.wanted o (yielded ops a.tmps) = true then Oper.wp P o a w Kc Q else Kc (a.put none undef) w := by
 rw [if_pos hw]; refine wp_store_row ty x y ho g cells hx hy t old hg hi hold h1 ?_; rw [hN]; exact h
theorem yj (w : World) (g : Nat) (cs : Array Value) : w.grownBy (w.setRow g cs) (some g) := ⟨rfl, rfl, rfl, by simp, fun k _ hn => setRow_other w g k cs (fun e => hn (by rw [e]))⟩
end
theorem val_size : (Tryd.prog.info? 25).map (fun i => i.size) = some 5 := by kernel_rfl
theorem val_one (k n : Int) (t : ByteArray) (A3 A4 : Option Addr) (n3 c3 n4 c4 : Nat) : (#[Value.int .i64 k, Value.int .i64 n, Value.string t, Value.slice A3 n3 c3, Value.slice A4 n4 c4] : Array Value).all (fun v => v.oneCell') = true :=
 all_oneCell_toArray (cs := [Value.int .i64 k, Value.int .i64 n, Value.string t, Value.slice A3 n3 c3, Value.slice A4 n4 c4]) (fun v hv => by simp at hv; rcases hv with rfl | rfl | rfl | rfl | rfl <;> rfl)
theorem Has.below {α : Type} {d : Kd α} {e : Nat} {W0 w w1 : World} {v : Value} {xs : List α} {b : Nat} (h : Has d e W0 w v xs b) (hb : Below w.heap.size w w1) : Has d e W0 w1 v xs b := ⟨Kd.R_below h.1 hb, h.2.1, Nat.lt_of_lt_of_le h.2.2.1 hb.size, h.2.2.2⟩
theorem Has.slice {α : Type} {d : Kd α} {e : Nat} {W0 w : World} {v : Value} {xs : List α} {b : Nat} (h : Has d e W0 w v xs b) : ∃ c, v = .slice (some ⟨b, 0, none⟩) xs.length c := by
 obtain ⟨⟨_, inner, ho, _⟩, hb, _⟩ := h
 rcases ho.2 with ⟨rfl, _⟩ | ⟨g', cap, cur, rfl, _⟩
 ·simp [Value.ownBlock] at hb
 ·have : g' = b := by simpa [Value.ownBlock] using hb
  subst this; exact ⟨cap, rfl⟩
theorem one_str (w : World) (base : Nat) (e : TypeId) (hb : base ≤ w.heap.size) (p : ByteArray) : Kd.string.R e (w.alloc (.cells #[.string p] e)) base (fun _ => True) (.slice (some ⟨w.heap.size, 0, none⟩) 1 1) [p] := by
 refine ⟨fun _ _ => trivial, [.string p], ⟨rfl, .inr ⟨w.heap.size, 1, _, rfl, hb, yx _ _, Nat.le_refl _, by unfold maxLen; omega, rfl, rfl⟩⟩, rfl, fun j q hq => ?_⟩
 have hj : j = 0 := by
  have := (List.getElem?_eq_some_iff.1 hq).1
  simp at this
  exact this
 subst hj
 injection hq with hq
 subst hq; rfl
theorem yd {a b b1 S : Nat} (hn : a ≠ b) (hl : a < S) (h : b1 = b ∨ S ≤ b1) : a ≠ b1 := by
 rcases h with rfl | h
 ·exact hn
 ·omega
theorem zz (w : World) (g j : Nat) (u : Value) : w.grownBy (w.setCell ⟨g, j, none⟩ u) (some g) := ⟨rfl, rfl, rfl, by simp, fun k _ hn => Below.heap_setCell w ⟨g, j, none⟩ u k (fun e => hn (by rw [e]))⟩
section
variable {ops : Array Oper} {rest : List Oper} {o : Oper} {a : Act} {Q : Exit → Act → World → Prop}
theorem load_val {w : World} {b : Nat} {k n : Int} {t : ByteArray} {A3 A4 : Option Addr} {n3 c3 n4 c4 : Nat} (x : Operand) (hgd : o.guard = none) (ho : o.op = .load 25 x) (hx : a.eval x = .pointer (some ⟨b, 0, none⟩)) (hb : w.heap[b]? = some (.cells #[.int .i64 k, .int .i64 n, .string t, .slice A3 n3 c3, .slice A4 n4 c4] 25 (0, 0)))
  (h : wpList Tryd.prog ops Q rest (a.put o.dst (.agg #[.int .i64 k, .int .i64 n, .string t, .slice A3 n3 c3, .slice A4 n4 c4])) w) : wpList Tryd.prog ops Q (o :: rest) a w :=
 wpList_load_row hgd _ x ho b hx _ _ _ _ hb Tryd.underlying25 rfl val_size h
theorem xr {w : World} {b : Nat} {k n : Int} {t : ByteArray} {A3 A4 : Option Addr} {n3 c3 n4 c4 : Nat} {k' n' : Int} {t' : ByteArray} {A3' A4' : Option Addr} {n3' c3' n4' c4' : Nat} (x y : Operand) (hgd : o.guard = none) (ho : o.op = .store 25 x y) (hx : a.eval x = .pointer (some ⟨b, 0, none⟩)) (hy : a.eval y = .agg #[.int .i64 k, .int .i64 n, .string t, .slice A3 n3 c3, .slice A4 n4 c4]) (hb : w.heap[b]? = some (.cells #[.int .i64 k', .int .i64 n', .string t', .slice A3' n3' c3', .slice A4' n4' c4'] 25 (0, 0)))
  (h : wpList Tryd.prog ops Q rest (a.put o.dst undef) (w.setRow b #[.int .i64 k, .int .i64 n, .string t, .slice A3 n3 c3, .slice A4 n4 c4])) : wpList Tryd.prog ops Q (o :: rest) a w :=
 wpList_store_row hgd _ x y ho b _ hx hy _ _ hb val_size rfl (val_one _ _ _ _ _ _ _ _ _) h
end
theorem val_result {fn : Func} {p : Tmp} (hr : fn.results = #[.cell p 25]) {tmps : Array Value} {w : World} {b : Nat} {k n : Int} {t : ByteArray} {A3 A4 : Option Addr} {n3 c3 n4 c4 : Nat} (hp : tmps.getD p undef = .pointer (some ⟨b, 0, none⟩)) (hb : w.heap[b]? = some (.cells #[.int .i64 k, .int .i64 n, .string t, .slice A3 n3 c3, .slice A4 n4 c4] 25 (0, 0))) :
  (results fn tmps).run Tryd.prog w = .ok (.agg #[.int .i64 k, .int .i64 n, .string t, .slice A3 n3 c3, .slice A4 n4 c4]) w :=
 results_cell_row hr tmps w b _ _ _ _ hp hb Tryd.underlying25 rfl val_size
theorem ival_size : (Tryd.prog.info? 33).map (fun i => i.size) = some 5 := by kernel_rfl
section
variable {ops : Array Oper} {rest : List Oper} {o : Oper} {a : Act} {Q : Exit → Act → World → Prop}
theorem load_ival {w : World} {b : Nat} {k n : Int} {t : ByteArray} {A3 A4 : Option Addr} {n3 c3 n4 c4 : Nat} (x : Operand) (hgd : o.guard = none) (ho : o.op = .load 33 x) (hx : a.eval x = .pointer (some ⟨b, 0, none⟩)) (hb : w.heap[b]? = some (.cells #[.int .i64 k, .int .i64 n, .string t, .slice A3 n3 c3, .slice A4 n4 c4] 33 (0, 0)))
  (h : wpList Tryd.prog ops Q rest (a.put o.dst (.agg #[.int .i64 k, .int .i64 n, .string t, .slice A3 n3 c3, .slice A4 n4 c4])) w) : wpList Tryd.prog ops Q (o :: rest) a w :=
 wpList_load_row hgd _ x ho b hx _ _ _ _ hb Tryd.underlying33 rfl ival_size h
theorem yt {w : World} {b : Nat} {k n : Int} {t : ByteArray} {A3 A4 : Option Addr} {n3 c3 n4 c4 : Nat} {k' n' : Int} {t' : ByteArray} {A3' A4' : Option Addr} {n3' c3' n4' c4' : Nat} (x y : Operand) (hgd : o.guard = none) (ho : o.op = .store 33 x y) (hx : a.eval x = .pointer (some ⟨b, 0, none⟩)) (hy : a.eval y = .agg #[.int .i64 k, .int .i64 n, .string t, .slice A3 n3 c3, .slice A4 n4 c4]) (hb : w.heap[b]? = some (.cells #[.int .i64 k', .int .i64 n', .string t', .slice A3' n3' c3', .slice A4' n4' c4'] 33 (0, 0)))
  (h : wpList Tryd.prog ops Q rest (a.put o.dst undef) (w.setRow b #[.int .i64 k, .int .i64 n, .string t, .slice A3 n3 c3, .slice A4 n4 c4])) : wpList Tryd.prog ops Q (o :: rest) a w :=
 wpList_store_row hgd _ x y ho b _ hx hy _ _ hb ival_size rfl (val_one _ _ _ _ _ _ _ _ _) h
end
theorem ival_result {fn : Func} {p : Tmp} (hr : fn.results = #[.cell p 33]) {tmps : Array Value} {w : World} {b : Nat} {k n : Int} {t : ByteArray} {A3 A4 : Option Addr} {n3 c3 n4 c4 : Nat} (hp : tmps.getD p undef = .pointer (some ⟨b, 0, none⟩)) (hb : w.heap[b]? = some (.cells #[.int .i64 k, .int .i64 n, .string t, .slice A3 n3 c3, .slice A4 n4 c4] 33 (0, 0))) :
  (results fn tmps).run Tryd.prog w = .ok (.agg #[.int .i64 k, .int .i64 n, .string t, .slice A3 n3 c3, .slice A4 n4 c4]) w :=
 results_cell_row hr tmps w b _ _ _ _ hp hb Tryd.underlying33 rfl ival_size
section
variable {α : Type} {sz : Nat} {Pf : α → List Value → Prop} {h5 : ∀ {x cs}, Pf x cs → cs.length = sz} {h1 : ∀ {x cs}, Pf x cs → ∀ u ∈ cs, u.oneCell' = true}
theorem one_held (w : World) (base : Nat) (e : TypeId) (hb : base ≤ w.heap.size) (x : α) {cs : List Value} (hx : Pf x cs) : (held sz Pf h5 h1).R e (w.alloc (.cells cs.toArray e)) base (fun _ => True) (.slice (some ⟨w.heap.size, 0, none⟩) 1 1) [x] := by
 have hl : cs.length = sz := h5 hx; refine ⟨fun _ _ => trivial, cs, ⟨by rw [hl]; simp [held], .inr ⟨w.heap.size, 1, _, rfl, hb, yx _ _, Nat.le_refl _, by unfold maxLen; omega, by simp [hl, held], by simp [held]; exact List.take_of_length_le (show cs.length ≤ sz by omega)⟩⟩, by rw [hl]; simp [held], fun j q hq => ?_⟩
 have hj : j = 0 := by
  have := (List.getElem?_eq_some_iff.1 hq).1
  simp at this
  exact this
 subst hj
 injection hq with hq
 subst hq
 show Pf x ((cs.drop (0 * sz)).take sz)
 rw [Nat.zero_mul, List.drop_zero, List.take_of_length_le (by rw [hl]; exact Nat.le_refl _)]; exact hx
theorem held_put {e : Nat} {W : World} {base : Nat} {ok : Nat → Prop} {g n cap : Nat} {xs : List α} (h : (held sz Pf h5 h1).R e W base ok (.slice (some ⟨g, 0, none⟩) n cap) xs) (i : Nat) (hi : i < n) (x : α) {cs : List Value} (hx : Pf x cs) :
  W.there g (i * sz) cs.length ∧ (held sz Pf h5 h1).R e (W.setCells g (i * sz) cs) base ok (.slice (some ⟨g, 0, none⟩) n cap) (xs.set i x) ∧ W.grownBy (W.setCells g (i * sz) cs) (some g) := by
 obtain ⟨c, hcl, hcM, hcc, hcf⟩ := Kd.R_elem h x (i : Int) (by omega) (by omega); have hl : cs.length = sz := h5 hx
 have ht : (i : Int).toNat = i := by simp
 refine ⟨fun j hj => ?_, ?_⟩
 ·have hjc : j < c.length := by rw [hcl]; show j < sz; omega
  have h2 := hcc j _ (List.getElem?_eq_getElem hjc); have h3 := hcf j; rw [ht] at h2 h3; exact ⟨by rw [show W.cell? ⟨g, i * sz + j, none⟩ = _ from h2]; rfl, h3⟩
 ·have h4 := Kd.R_seg (okp := fun _ => False) h (i : Int) (by omega) (by omega) (seg := cs) (j := 0) (x' := x) hcl hcc (by show 0 + cs.length ≤ sz; omega) (show Pf x (c.take 0 ++ cs ++ c.drop (0 + cs.length)) by
   rw [List.drop_eq_nil_of_le (by rw [hcl, hl]; show sz ≤ 0 + sz; omega), List.append_nil, List.take_zero, List.nil_append]
   exact hx) (fun _ hf => hf.elim)
  rw [ht] at h4; exact h4
theorem R_held {d : Kd α} {e : Nat} {w : World} {base : Nat} {ok ok' : Nat → Prop} {v : Value} {xs : List α} (hsz : d.sz = sz) (hPf : ∀ x cs, Pf x cs → d.M w base (fun k => ok' k ∧ some k ≠ v.ownBlock) x cs) (hok : ∀ k, v.ownBlock = some k → ok' k) (h : (held sz Pf h5 h1).R e w base ok v xs) : d.R e w base ok' v xs := by
 obtain ⟨h0, inner, ho, hr⟩ := h; refine ⟨hok, inner, ?_, ?_⟩
 ·rw [hsz]; exact ho
 ·rw [hsz]; exact hr.imp_ (fun x cs hp => hPf x cs hp)
end
theorem kI_at {w : World} {A : Option Addr} {xs : List S33} (h : kI.C w A xs.length xs) (h0 : 0 < xs.length) :
  ∃ bk off, A = some ⟨bk, off, none⟩ ∧ bk < w.heap.size ∧ ∀ (j : Nat) (hj : j < xs.length), ∃ A3 c3 A4 c4, w.cell? ⟨bk, off + j * 5, none⟩ = some (.int .i64 xs[j].f0) ∧ w.cell? ⟨bk, off + j * 5 + 1, none⟩ = some (.int .i64 xs[j].f1) ∧ w.cell? ⟨bk, off + j * 5 + 2, none⟩ = some (.string xs[j].f2) ∧ w.cell? ⟨bk, off + j * 5 + 3, none⟩ = some (.slice A3 xs[j].f3.length c3) ∧ w.cell? ⟨bk, off + j * 5 + 4, none⟩ = some (.slice A4 xs[j].f4.length c4) ∧ xs[j].f3.length ≤ c3 ∧ Kd.string.C w A3 xs[j].f3.length xs[j].f3 ∧ xs[j].f4.length ≤ c4 ∧ kI.C w A4 xs[j].f4.length xs[j].f4 := by
 obtain ⟨hl, hm, hc⟩ := h; obtain ⟨ad, rfl, hcc⟩ := hc h0
 have cell : ∀ (j : Nat) (hj : j < xs.length), ∃ A3 c3 A4 c4, (∀ i u, ([.int .i64 xs[j].f0, .int .i64 xs[j].f1, .string xs[j].f2, .slice A3 xs[j].f3.length c3, .slice A4 xs[j].f4.length c4] : List Value)[i]? = some u → w.cell? (ad.add (j * 5 + i)) = some u) ∧ xs[j].f3.length ≤ c3 ∧ Kd.string.C w A3 xs[j].f3.length xs[j].f3 ∧ xs[j].f4.length ≤ c4 ∧ kI.C w A4 xs[j].f4.length xs[j].f4 := by
  intro j hj; obtain ⟨c, hcl, hr, hcell⟩ := hcc j xs[j] (List.getElem?_eq_getElem hj); obtain ⟨A3, c3, A4, c4, rfl, l3, g3, l4, g4⟩ := k33_open hr; exact ⟨A3, c3, A4, c4, hcell, l3, g3, l4, g4⟩
 obtain ⟨_, _, _, _, hx, _⟩ := cell 0 h0; have c0 := hx 0 _ rfl; rw [Nat.zero_mul, Nat.zero_add] at c0; obtain ⟨bk, off, spot⟩ := ad
 have hspot : spot = none := by
  cases hs : spot with
  | none => rfl
  | some sp =>
   exfalso
   subst hs
   simp [World.cell?, Addr.add] at c0
   split at c0 <;> simp at c0
 subst hspot
 have add : ∀ j : Nat, (⟨bk, off, none⟩ : Addr).add j = ⟨bk, off + j, none⟩ := by intro j; unfold Addr.add; split <;> simp_all
 refine ⟨bk, off, rfl, ?_, fun j hj => ?_⟩
 ·rw [add] at c0; exact World.block_lt_of_cell? w _ c0
 ·obtain ⟨A3, c3, A4, c4, hcell, l3, g3, l4, g4⟩ := cell j hj
  have e : ∀ i u, ([.int .i64 xs[j].f0, .int .i64 xs[j].f1, .string xs[j].f2, .slice A3 xs[j].f3.length c3, .slice A4 xs[j].f4.length c4] : List Value)[i]? = some u → w.cell? ⟨bk, off + j * 5 + i, none⟩ = some u := fun i u hu => by
   have := hcell i u hu; rw [add, ← Nat.add_assoc] at this; exact this
  exact ⟨A3, c3, A4, c4, e 0 _ rfl, e 1 _ rfl, e 2 _ rfl, e 3 _ rfl, e 4 _ rfl, l3, g3, l4, g4⟩
end Go.Proofs.YtmpmekliaicecaaDoor.Tr
namespace Go.Proofs.YtmpmekliaicecaaDoor.MapV
open Go.RowKit Go.Proofs.YtmpmekliaicecaaDoorW.PrintWords Go.Proofs.YtmpmekliaicecaaDoorW.PrintLast Go.Proofs.YtmpmekliaicecaaDoor.Str
section
variable {P : Program} {k e t : TypeId} {α : Type} {enc : α → Value} {w : World} {b : Nat} {f : List (Bs × α)}
variable {ops : Array Oper} {o : Oper} {a : Act} {Q : Exit → Act → World → Prop} {Kc : Act → World → Prop}
theorem store_mapE_step (hk : P.underlying k = some .string) (ht : P.underlying t = some (.map k e)) (hw : Region.wanted o (yielded ops a.tmps) = true) (hN : o.dst = none) (m x v : Operand) (hop : o.op = Op.mapUpdate t m x v)
  (hm : a.eval m = .map (some b)) (h : MapE P k enc w b f) (hn : f.length < maxLen) {s : ByteArray} {y : α} (hx : a.eval x = .string s) (hs : s.size ≤ maxLen) (hv : a.eval v = enc y)
  (hK : ∀ w', MapE P k enc w' b (mput f (lb s) y) → w.grownBy w' (some b) → Kc a w') : if Region.wanted o (yielded ops a.tmps) = true then Oper.wp P o a w Kc Q else Kc (a.put none undef) w := by
 obtain ⟨w', hrun, r1, r2⟩ := World.ownsMap.update h (Go.Maps.string_keyed hk) ht hn (keyOf_s hk hs) (val := enc y) (d := .held (enc y)) (ps := []) rfl; refine skip_ (w1 := w') hw hN ?_ (hK w' (MapE.of (by rw [ent_put] at r1; exact r1)) r2)
 simp [execOp, hop, hm, hx, hv, hrun, Result.andThen]
end
theorem run_makeHint {P : Program} {t k e : TypeId} (hu : P.underlying t = some (.map k e)) (i : IntKind) (n : Int) (w : World) : (Instr.makeMap t (some (.int i n))).run P w = .ok (.map (some w.heap.size)) (w.alloc (.map #[] 0)) := by
 simp [Instr.makeMap, run_underlying hu, asInt, asIntOf, Result.andThen]
end Go.Proofs.YtmpmekliaicecaaDoor.MapV
namespace Go.Proofs.YtmpmekliaicecaaDoor.MapV
open Go.RowKit Go.Proofs.YtmpmekliaicecaaDoorW.PrintWords Go.Proofs.YtmpmekliaicecaaDoor.Str
section
variable {α : Type} {key : Bs} {v : α}
theorem lt_asymm {a b : Bs} (h : a < b) : ¬ b < a := fun k => lt_irrefl a (lt_trans h k)
theorem mdel_id {f : List (Bs × α)} (h : ∀ p ∈ f, p.1 ≠ key) : mdel f key = f := List.filter_eq_self.2 (fun p hp => by simpa using h p hp)
theorem mput_lt {y : Bs × α} {r : List (Bs × α)} (h : y.1 < key) : mput (y :: r) key v = y :: mput r key v := by
 have hy : (y.1 == key) = false := by simpa using lt_ne h
 unfold mput
 have : mdel (y :: r) key = y :: mdel r key := by
  unfold mdel
  rw [List.filter_cons, hy]; rfl
 rw [this, mins, if_neg (lt_asymm h)]
theorem mput_eq {y : Bs × α} {r : List (Bs × α)} (h : y.1 = key) (hr : ∀ p ∈ r, key < p.1) : mput (y :: r) key v = (key, v) :: r := by
 have hy : (y.1 == key) = true := by simpa using h
 unfold mput
 have : mdel (y :: r) key = r := by
  unfold mdel
  rw [List.filter_cons, hy]; exact mdel_id (fun p hp => (lt_ne (hr p hp)).symm)
 rw [this]
 cases r with
 | nil => rfl
 | cons z t => rw [mins, if_pos (hr z (by simp))]
theorem mput_gt {f : List (Bs × α)} (hr : ∀ p ∈ f, key < p.1) : mput f key v = (key, v) :: f := by
 unfold mput
 rw [mdel_id (fun p hp => (lt_ne (hr p hp)).symm)]
 cases f with
 | nil => rfl
 | cons z t => rw [mins, if_pos (hr z (by simp))]
theorem mput_ins : ∀ (k : Nat) {f : List (Bs × α)}, Rises f → (∀ (j : Nat) (h : j < f.length), j < k → f[j].1 < key) → k ≤ f.length → (∀ (h : k < f.length), key < f[k].1) → mput f key v = f.take k ++ (key, v) :: f.drop k
 | 0, f, hf, _, _, hg => by
  rw [mput_gt]
  ·rfl
  ·cases f with
   | nil => simp
   | cons y r =>
    have hy : key < y.1 := hg (by simp); obtain ⟨h1, _⟩ := List.pairwise_cons.1 hf; intro p hp
    rcases List.mem_cons.1 hp with rfl | hp
    ·exact hy
    ·exact lt_trans hy (h1 p hp)
 | k + 1, [], _, _, h, _ => by simp at h
 | k + 1, y :: r, hf, hl, h, hg => by
  obtain ⟨_, h2⟩ := List.pairwise_cons.1 hf; have hy : y.1 < key := hl 0 (by simp) (by omega); rw [mput_lt hy, mput_ins k h2 (fun j hj hk => by have := hl (j + 1) (by simp; omega) (by omega); simpa using this) (by simpa using h) (fun hk => by have := hg (by simpa using hk); simpa using this)]; rfl
def fitM (l : List (Bs × α)) : List (Bs × α) := l.foldl (fun f p => mput f p.1 p.2) []
theorem fitM_snoc (l : List (Bs × α)) (p : Bs × α) : fitM (l ++ [p]) = mput (fitM l) p.1 p.2 := by simp [fitM]
theorem fold_rises (l : List (Bs × α)) : ∀ {f : List (Bs × α)}, Rises f → Rises (l.foldl (fun f p => mput f p.1 p.2) f) := by
 induction l with
 | nil => intro f h; exact h
 | cons p r ih => intro f h; exact ih (mput_rises h _ _)
theorem fitM_rises (l : List (Bs × α)) : Rises (fitM l) := fold_rises l List.Pairwise.nil
theorem fold_length (l : List (Bs × α)) : ∀ (f : List (Bs × α)), (l.foldl (fun f p => mput f p.1 p.2) f).length ≤ f.length + l.length := by
 induction l with
 | nil => intro f; simp
 | cons p r ih =>
  intro f; have h1 := ih (mput f p.1 p.2); have h2 := mput_length f p.1 p.2; simp only [List.foldl_cons, List.length_cons]
  omega
theorem fitM_length (l : List (Bs × α)) : (fitM l).length ≤ l.length := by
 have := fold_length l []
 simpa [fitM] using this
end
end Go.Proofs.YtmpmekliaicecaaDoor.MapV
namespace Go.Proofs.YtmpmekliaicecaaDoor.Tr
open Go.RowKit Go.Proofs.YtmpmekliaicecaaDoorW.PrintWords Go.Proofs.YtmpmekliaicecaaDoorW.PrintLast Go.Proofs.YtmpmekliaicecaaDoor.Str Go.Proofs.YtmpmekliaicecaaDoor.Kit Go.Proofs.YtmpmekliaicecaaDoor.MapV Go.Proofs.YtmpmekliaicecaaDoor.Frame Go.Proofs.YtmpmekliaicecaaDoor.PS
inductive Y where
 | null : Y
 | bool (b : Bool) : Y
 | int (n : Int) : Y
 | text (s : BA) : Y
 | list (l : List Y) : Y
 | map (m : List (Bs × Y)) : Y
def PA (x : Value) (cs : List Value) : Prop := cs = [x] ∧ x.oneCell' = true
theorem PA5 {x : Value} {cs : List Value} (h : PA x cs) : cs.length = 1 := by rw [h.1]; rfl
theorem PA1 {x : Value} {cs : List Value} (h : PA x cs) : ∀ u ∈ cs, u.oneCell' = true := by
 intro u hu; rw [h.1] at hu
 simp at hu
 rw [hu]; exact h.2
abbrev kAny : Kd Value := held 1 PA PA5 PA1
theorem kAny_put {e : Nat} {W : World} {base : Nat} {ok : Nat → Prop} {g n cap : Nat} {xs : List Value} (h : kAny.R e W base ok (.slice (some ⟨g, 0, none⟩) n cap) xs) (i : Nat) (hi : i < n) (x : Value) (hx : x.oneCell' = true) :
  (W.cell? ⟨g, i, none⟩).isSome = true ∧ W.frozen? ⟨g, i, none⟩ = false ∧ kAny.R e (W.setCell ⟨g, i, none⟩ x) base ok (.slice (some ⟨g, 0, none⟩) n cap) (xs.set i x) := by
 have h1 := held_put (h5 := PA5) (h1 := PA1) h i hi x (cs := [x]) ⟨rfl, hx⟩
 have e : W.setCells g (i * 1) [x] = W.setCell ⟨g, i, none⟩ x := by simp [World.setCells]
 rw [e] at h1; have h2 := h1.1 0 (by simp); rw [Nat.mul_one, Nat.add_zero] at h2; exact ⟨h2.1, h2.2, h1.2.1⟩
theorem akey_u : Tryd.prog.underlying 9 = some .string := Tryd.underlying9
theorem amap_u : Tryd.prog.underlying 45 = some (.map 9 20) := Tryd.underlying45
abbrev MapA (w : World) (b : Nat) (f : List (Bs × Value)) : Prop := MapE Tryd.prog 9 id w b f
abbrev En := Value × Y × (Nat → Prop)
def En.far (a b : En) : Prop := ∀ k, a.2.2 k → ¬ b.2.2 k
inductive AR (w : World) : Value → Y → (Nat → Prop) → Prop
 | null (F) : AR w .nilIface .null F
 | bool (b F) : AR w (.iface 4 (.bool b)) (.bool b) F
 | int (n F) : AR w (.iface 3 (.int .i64 n)) (.int n) F
 | text (s F) : AR w (.iface 9 (.string s)) (.text s) F
 | list (v : Value) (zs : List En) (ys : List Y) (F : Nat → Prop) (hy : ys = zs.map (fun z => z.2.1)) (hr : kAny.R 20 w 0 (fun _ => True) v (zs.map (fun z => z.1))) (hz : ∀ z, z ∈ zs → AR w z.1 z.2.1 z.2.2)
   (hd : zs.Pairwise En.far) (hb : ∀ b, v.ownBlock = some b → F b ∧ ∀ z, z ∈ zs → ¬ z.2.2 b) (hF : ∀ z, z ∈ zs → ∀ k, z.2.2 k → F k) : AR w (.iface 58 v) (.list ys) F
 | map (b : Nat) (zs : List (Bs × En)) (ys : List (Bs × Y)) (F : Nat → Prop) (hy : ys = zs.map (fun z => (z.1, z.2.2.1))) (hm : MapA w b (zs.map (fun z => (z.1, z.2.1)))) (hz : ∀ z, z ∈ zs → AR w z.2.1 z.2.2.1 z.2.2.2)
   (hd : zs.Pairwise (fun a b => En.far a.2 b.2)) (hb : F b ∧ ∀ z, z ∈ zs → ¬ z.2.2.2 b) (hF : ∀ z, z ∈ zs → ∀ k, z.2.2.2 k → F k) : AR w (.iface 45 (.map (some b))) (.map ys) F
theorem AR.mono {w : World} {v : Value} {y : Y} {F G : Nat → Prop} (h : AR w v y F) (hFG : ∀ k, F k → G k) : AR w v y G := by
 cases h with
 | null => exact .null _
 | bool => exact .bool _ _
 | int => exact .int _ _
 | text => exact .text _ _
 | list v zs ys _ hy hr hz hd hb hF => exact .list v zs ys G hy hr hz hd (fun b h => ⟨hFG _ (hb b h).1, (hb b h).2⟩) (fun z h k hk => hFG _ (hF z h k hk))
 | map b zs ys _ hy hm hz hd hb hF => exact .map b zs ys G hy hm hz hd ⟨hFG _ hb.1, hb.2⟩ (fun z h k hk => hFG _ (hF z h k hk))
theorem kAny_move {e : Nat} {w w1 : World} {base : Nat} {ok : Nat → Prop} {v : Value} {xs : List Value} (h : kAny.R e w base ok v xs) (hm : ∀ k, v.ownBlock = some k → w1.heap[k]? = w.heap[k]?) : kAny.R e w1 base ok v xs := by
 obtain ⟨h0, inner, ho, hr⟩ := h; exact ⟨h0, inner, own_move ho hm, hr⟩
theorem AR.move {w w1 : World} {v : Value} {y : Y} {F : Nat → Prop} (h : AR w v y F) (hm : ∀ k, F k → w1.heap[k]? = w.heap[k]?) : AR w1 v y F := by
 induction h with
 | null => exact .null _
 | bool => exact .bool _ _
 | int => exact .int _ _
 | text => exact .text _ _
 | list v zs ys F hy hr hz hd hb hF ih =>
  exact .list v zs ys F hy (kAny_move hr (fun k hk => hm k (hb k hk).1)) (fun z h => ih z h (fun k hk => hm k (hF z h k hk))) hd hb hF
 | map b zs ys F hy hmm hz hd hb hF ih =>
  exact .map b zs ys F hy (hmm.move (hm b hb.1)) (fun z h => ih z h (fun k hk => hm k (hF z h k hk))) hd hb hF
theorem AR.tight {w : World} {v : Value} {y : Y} {F : Nat → Prop} (h : AR w v y F) : AR w v y (fun k => F k ∧ k < w.heap.size) := by
 induction h with
 | null => exact .null _
 | bool => exact .bool _ _
 | int => exact .int _ _
 | text => exact .text _ _
 | list v zs ys F hy hr hz hd hb hF ih =>
  let g : En → En := fun z => (z.1, z.2.1, fun k => z.2.2 k ∧ k < w.heap.size)
  refine .list v (zs.map g) ys _ (by rw [hy, List.map_map]; rfl) (by rw [List.map_map]; exact hr) (fun z h => ?_) (hd.map g (fun a b hab k hk hk2 => hab k hk.1 hk2.1)) (fun b hbb => ⟨⟨(hb b hbb).1, (Kd.R_bound hr).1 b hbb |>.2.2.1⟩, fun z h => ?_⟩) (fun z h k hk => ?_)
  ·obtain ⟨z0, h0, rfl⟩ := List.mem_map.1 h; exact ih z0 h0
  ·obtain ⟨z0, h0, rfl⟩ := List.mem_map.1 h
   exact fun hk => (hb b hbb).2 z0 h0 hk.1
  ·obtain ⟨z0, h0, rfl⟩ := List.mem_map.1 h; exact ⟨hF z0 h0 k hk.1, hk.2⟩
 | map b zs ys F hy hmm hz hd hb hF ih =>
  let g : Bs × En → Bs × En := fun z => (z.1, z.2.1, z.2.2.1, fun k => z.2.2.2 k ∧ k < w.heap.size)
  refine .map b (zs.map g) ys _ (by rw [hy, List.map_map]; rfl) (by rw [List.map_map]; exact hmm) (fun z h => ?_) (hd.map g (fun a b hab k hk hk2 => hab k hk.1 hk2.1)) ⟨⟨hb.1, hmm.lt⟩, fun z h => ?_⟩ (fun z h k hk => ?_)
  ·obtain ⟨z0, h0, rfl⟩ := List.mem_map.1 h; exact ih z0 h0
  ·obtain ⟨z0, h0, rfl⟩ := List.mem_map.1 h
   exact fun hk => hb.2 z0 h0 hk.1
  ·obtain ⟨z0, h0, rfl⟩ := List.mem_map.1 h; exact ⟨hF z0 h0 k hk.1, hk.2⟩
theorem AR.keep {w w1 : World} {v : Value} {y : Y} {F : Nat → Prop} (h : AR w v y F) (hb : Below w.heap.size w w1) : AR w1 v y (fun k => F k ∧ k < w.heap.size) := h.tight.move (fun k hk => hb.block k hk.2)
theorem AR.one {w : World} {v : Value} {y : Y} {F : Nat → Prop} (h : AR w v y F) : v.oneCell' = true := by cases h <;> rfl
section
variable {α β : Type}
theorem mput_mem {f : List (Bs × α)} {k : Bs} {v : α} {p : Bs × α} (h : p ∈ mput f k v) : p = (k, v) ∨ p ∈ f := by
 unfold mput at h
 rcases mins_mem.1 h with h | h
 ·exact .inl h
 ·exact .inr (List.mem_filter.1 h).1
theorem mins_pair {R : Bs × α → Bs × α → Prop} (hs : ∀ a b, R a b → R b a) {x : Bs × α} : ∀ {f : List (Bs × α)}, f.Pairwise R → (∀ p ∈ f, R x p) → (mins x f).Pairwise R
 | [], _, _ => by simp [mins]
 | y :: r, h, hx => by
  obtain ⟨h1, h2⟩ := List.pairwise_cons.1 h; rw [mins]
  split
  ·exact List.pairwise_cons.2 ⟨hx, h⟩
  ·refine List.pairwise_cons.2 ⟨fun p hp => ?_, mins_pair hs h2 (fun p hp => hx p (by simp [hp]))⟩
   rcases mins_mem.1 hp with rfl | hp
   ·exact hs _ _ (hx y (by simp))
   ·exact h1 p hp
theorem mput_pair {R : Bs × α → Bs × α → Prop} (hs : ∀ a b, R a b → R b a) {f : List (Bs × α)} {k : Bs} {v : α} (h : f.Pairwise R) (hx : ∀ p ∈ f, R (k, v) p) : (mput f k v).Pairwise R :=
 mins_pair hs (h.sublist List.filter_sublist) (fun p hp => hx p (List.mem_filter.1 hp).1)
theorem mins_map (g : α → β) (x : Bs × α) : ∀ f : List (Bs × α), (mins x f).map (fun p => (p.1, g p.2)) = mins (x.1, g x.2) (f.map (fun p => (p.1, g p.2)))
 | [] => rfl
 | y :: r => by
  rw [mins, List.map_cons, mins]
  by_cases h : x.1 < y.1
  ·rw [if_pos h, if_pos h]; rfl
  ·rw [if_neg h, if_neg h, List.map_cons, mins_map g x r]
theorem mput_map (g : α → β) (f : List (Bs × α)) (k : Bs) (v : α) : (mput f k v).map (fun p => (p.1, g p.2)) = mput (f.map (fun p => (p.1, g p.2))) k (g v) := by
 unfold mput
 rw [mins_map]
 congr 1
 unfold mdel
 rw [List.filter_map]; rfl
end
mutual
def anyOf : VI → Y
 | ⟨k, n, t, ks, vs⟩ => if k = 1 then .bool (n != 0) else if k = 2 then .int n else if k = 3 then .text t else if k = 4 then .list (anyL vs) else if k = 5 then .map (fitM ((ks.map lb).zip (anyL vs))) else .null
def anyL : List VI → List Y
 | [] => []
 | v :: r => anyOf v :: anyL r
end
theorem xj : ∀ vs, anyL vs = vs.map anyOf
 | [] => by simp [anyL]
 | v :: r => by simp [anyL, xj r]
inductive Small : VI → Prop
 | mk (x : VI) (hk : ∀ s, s ∈ x.f3 → s.size ≤ maxLen) (hkl : x.f3.length ≤ 8796093022000) (hvl : x.f4.length ≤ 1759218604400) (hv : ∀ v, v ∈ x.f4 → Small v) : Small x
def pairsOf (ks : List BA) (vs : List VI) : List (Bs × Y) := (ks.map lb).zip (anyL vs)
def mapOf (x : VI) : List (Bs × Y) := fitM (pairsOf x.f3 x.f4)
theorem xu (vs : List VI) : (anyL vs).length = vs.length := by rw [xj, List.length_map]
theorem pairsOf_length (ks : List BA) (vs : List VI) : (pairsOf ks vs).length = min ks.length vs.length := by
 unfold pairsOf
 rw [List.length_zip, List.length_map, xu]
theorem pairsOf_get {ks : List BA} {vs : List VI} {i : Nat} (hk : i < ks.length) (hv : i < vs.length) : (pairsOf ks vs).take (i + 1) = (pairsOf ks vs).take i ++ [(lb ks[i], anyOf vs[i])] := by
 have hl : i < ((ks.map lb).zip (anyL vs)).length := by rw [List.length_zip, List.length_map, xu]; omega
 show ((ks.map lb).zip (anyL vs)).take (i + 1) = ((ks.map lb).zip (anyL vs)).take i ++ [(lb ks[i], anyOf vs[i])]
 rw [List.take_succ_eq_append_getElem hl, List.getElem_zip]
 simp [xj]
def Made (w : World) (y : Y) (e : Ending) (w' : World) : Prop := ∃ v, e = .returned v ∧ AR w' v y (fun k => w.heap.size ≤ k ∧ k < w'.heap.size) ∧ Below w.heap.size w w'
structure MapAt (wr : World) (b : Nat) (zs : List (Bs × En)) (m : List (Bs × Y)) : Prop where
 hm : MapA wr b (zs.map (fun z => (z.1, z.2.1)))
 hz : ∀ z, z ∈ zs → AR wr z.2.1 z.2.2.1 z.2.2.2
 hd : zs.Pairwise (fun a b => En.far a.2 b.2)
 hF : ∀ z, z ∈ zs → ∀ k, z.2.2.2 k → b < k ∧ k < wr.heap.size
 hy : zs.map (fun z => (z.1, z.2.2.1)) = m
theorem MapAt.made (w : World) : MapAt (w.alloc (.map #[] 0)) w.heap.size [] [] := ⟨MapE.made Tryd.prog 9 (id : Value → Value) w, fun z h => by simp at h, List.Pairwise.nil, fun z h => by simp at h, rfl⟩
theorem MapAt.lt {wr : World} {b : Nat} {zs : List (Bs × En)} {m : List (Bs × Y)} (h : MapAt wr b zs m) : b < wr.heap.size := h.hm.lt
theorem MapAt.move {wr w1 : World} {b : Nat} {zs : List (Bs × En)} {m : List (Bs × Y)} (h : MapAt wr b zs m) (hb : Below wr.heap.size wr w1) : MapAt w1 b zs m :=
 ⟨h.hm.below hb, fun z hz => (h.hz z hz).move (fun k hk => hb.block k (h.hF z hz k hk).2), h.hd, fun z hz k hk => ⟨(h.hF z hz k hk).1, Nat.lt_of_lt_of_le (h.hF z hz k hk).2 hb.size⟩, h.hy⟩
theorem MapAt.drew {wr : World} {b : Nat} {zs : List (Bs × En)} {m : List (Bs × Y)} (h : MapAt wr b zs m) : MapAt wr.drew b zs m := h.move (yf (Below.refl _ _))
theorem MapAt.put {W w3 w4 : World} {b : Nat} {zs : List (Bs × En)} {m : List (Bs × Y)} (h : MapAt W b zs m) (hb3 : Below W.heap.size W w3) {v : Value} {y : Y} (hA : AR w3 v y (fun k => W.heap.size ≤ k ∧ k < w3.heap.size)) (key : Bs)
  (hm4 : MapA w4 b (mput (zs.map (fun z => (z.1, z.2.1))) key v)) (hg : w3.grownBy w4 (some b)) : MapAt w4 b (mput zs key (v, y, fun k => W.heap.size ≤ k ∧ k < w3.heap.size)) (mput m key y) := by
 have hlt := h.lt
 have mv : ∀ {v y F}, AR w3 v y F → (∀ k, F k → b < k ∧ k < w3.heap.size) → AR w4 v y F := fun hA hF => hA.move (fun k hk => hg.block k (hF k hk).2 (fun e => by injection e with e; have := (hF k hk).1; omega))
 have h3 := h.move hb3; refine ⟨?_, fun z hz => ?_, ?_, fun z hz k hk => ?_, ?_⟩
 ·rw [mput_map (fun e : En => e.1)]; exact hm4
 ·rcases mput_mem hz with rfl | hz
  ·exact mv hA (fun k hk => ⟨by omega, hk.2⟩)
  ·exact mv (h3.hz z hz) (h3.hF z hz)
 ·refine mput_pair (fun a b hab k hk hk2 => hab k hk2 hk) h.hd (fun p hp k hk hk2 => ?_); have h1 := (h.hF p hp k hk2).2; have h2 : W.heap.size ≤ k := hk.1
  omega
 ·rcases mput_mem hz with rfl | hz
  ·have h2 : W.heap.size ≤ k := hk.1; have h3 : k < w3.heap.size := hk.2; have := hg.size; exact ⟨by omega, by omega⟩
  ·have h5 := h3.hF z hz k hk; have := hg.size; exact ⟨h5.1, by omega⟩
 ·rw [mput_map (fun e : En => e.2.1), ← h.hy]
theorem MapAt.done {wr : World} {b : Nat} {zs : List (Bs × En)} {m : List (Bs × Y)} (h : MapAt wr b zs m) : AR wr (.iface 45 (.map (some b))) (.map m) (fun k => b ≤ k ∧ k < wr.heap.size) :=
 .map b zs m _ h.hy.symm h.hm h.hz h.hd ⟨⟨Nat.le_refl _, h.lt⟩, fun z hz hk => by have := (h.hF z hz b hk).1; omega⟩ (fun z hz k hk => ⟨Nat.le_of_lt (h.hF z hz k hk).1, (h.hF z hz k hk).2⟩)
theorem MapAt.length {wr : World} {b : Nat} {zs : List (Bs × En)} {m : List (Bs × Y)} (h : MapAt wr b zs m) : (zs.map (fun z => (z.1, z.2.1))).length = m.length := by rw [← h.hy, List.length_map, List.length_map]
mutual
def valOf : Y → VI
 | .null => ⟨0, 0, ⟨#[]⟩, [], []⟩
 | .bool b => ⟨1, if b then 1 else 0, ⟨#[]⟩, [], []⟩
 | .int n => ⟨2, n, ⟨#[]⟩, [], []⟩
 | .text s => ⟨3, 0, s, [], []⟩
 | .list l => ⟨4, 0, ⟨#[]⟩, [], valL l⟩
 | .map m => ⟨5, 0, ⟨#[]⟩, m.map (fun p => ⟨p.1.toArray⟩), valM m⟩
def valL : List Y → List VI
 | [] => []
 | y :: r => valOf y :: valL r
def valM : List (Bs × Y) → List VI
 | [] => []
 | p :: r => valP p :: valM r
def valP : Bs × Y → VI
 | (_, y) => valOf y
end
theorem valL_map : ∀ l, valL l = l.map valOf
 | [] => by simp [valL]
 | y :: r => by simp [valL, valL_map r]
theorem valM_map : ∀ m, valM m = m.map (fun p => valOf p.2)
 | [] => by simp [valM]
 | (k, y) :: r => by simp [valM, valP, valM_map r]
def Told (w : World) (x : VI) (e : Ending) (w' : World) : Prop := ∃ v3 v4, e = .returned (.tuple #[.agg #[.int .i64 x.f0, .int .i64 x.f1, .string x.f2, v3, v4], .bool true]) ∧ Kd.string.R 9 w' w.heap.size (fun _ => True) v3 x.f3 ∧ kI.R 33 w' w.heap.size (fun _ => True) v4 x.f4 ∧ Below w.heap.size w w'
def zI : Array Value := #[.int .i64 0, .int .i64 0, .string ⟨#[]⟩, .slice none 0 0, .slice none 0 0]
section
theorem t_bool (v : Value) (w : World) : (Instr.typeAssert (.iface 4 v) 20 4 true).run Tryd.prog w = .ok (.tuple #[v, .bool true]) w := by kernel_rfl
theorem t_int_bool (v : Value) (w : World) : (Instr.typeAssert (.iface 3 v) 20 4 true).run Tryd.prog w = .ok (.tuple #[.bool false, .bool false]) w := by kernel_rfl
theorem t_int (v : Value) (w : World) : (Instr.typeAssert (.iface 3 v) 20 3 true).run Tryd.prog w = .ok (.tuple #[v, .bool true]) w := by kernel_rfl
theorem t_str_bool (v : Value) (w : World) : (Instr.typeAssert (.iface 9 v) 20 4 true).run Tryd.prog w = .ok (.tuple #[.bool false, .bool false]) w := by kernel_rfl
theorem t_str_int (v : Value) (w : World) : (Instr.typeAssert (.iface 9 v) 20 3 true).run Tryd.prog w = .ok (.tuple #[.int .i64 0, .bool false]) w := by kernel_rfl
theorem t_str_i64 (v : Value) (w : World) : (Instr.typeAssert (.iface 9 v) 20 2 true).run Tryd.prog w = .ok (.tuple #[.int .i64 0, .bool false]) w := by kernel_rfl
theorem t_str_u64 (v : Value) (w : World) : (Instr.typeAssert (.iface 9 v) 20 57 true).run Tryd.prog w = .ok (.tuple #[.int .u64 0, .bool false]) w := by kernel_rfl
theorem t_str (v : Value) (w : World) : (Instr.typeAssert (.iface 9 v) 20 9 true).run Tryd.prog w = .ok (.tuple #[v, .bool true]) w := by kernel_rfl
end
theorem told_leaf {fn : Func} (hr : fn.results = #[.cell 2 33, .tmp 3]) {tmps : Array Value} {w W : World} {k n : Int} {t : BA} (hp : tmps.getD 2 undef = .pointer (some ⟨w.heap.size, 0, none⟩)) (h3 : tmps.getD 3 undef = .bool true) (hb : W.heap[w.heap.size]? = some (.cells #[.int .i64 k, .int .i64 n, .string t, .slice none 0 0, .slice none 0 0] 33 (0, 0))) :
  (results fn tmps).run Tryd.prog W = .ok (.tuple #[.agg #[.int .i64 k, .int .i64 n, .string t, .slice none 0 0, .slice none 0 0], .bool true]) W := by
 have := results_ct (P := Tryd.prog) hr tmps W w.heap.size 33 _ (0, 0) _ hp hb Tryd.underlying33 rfl ival_size; rw [h3] at this; exact this
set_option maxHeartbeats 800000 in
theorem from_null (w : World) : Calls Tryd.prog 25 #[.nilIface] w (Told w (valOf .null)) := by
 have h0 := yx w (.cells #[.int .i64 0, .int .i64 0, .string ⟨#[]⟩, .slice none 0 0, .slice none 0 0] 33); have HB := aM (zb (Below.refl w.heap.size w) (.cells #[.int .i64 0, .int .i64 0, .string ⟨#[]⟩, .slice none 0 0, .slice none 0 0] 33))
 go_enter Tryd.func25, Tryd.ntmps25
 go_wp2_with (refine yt (.tmp 2) (.tmp 18) rfl rfl rfl rfl h0 ?_)
 have h1 := setRow_heap _ w.heap.size _ #[.int .i64 0, .int .i64 0, .string ⟨#[]⟩, .slice none 0 0, .slice none 0 0] _ _ h0; have hB := zm HB.out (some w.heap.size) HB.out.size (yj _ w.heap.size #[.int .i64 0, .int .i64 0, .string ⟨#[]⟩, .slice none 0 0, .slice none 0 0]) (fun k hk => by injection hk with hk; have h2 : w.heap.size = k := hk; omega); exact bodyPost_ret (v := .tuple #[.agg #[.int .i64 0, .int .i64 0, .string ⟨#[]⟩, .slice none 0 0, .slice none 0 0], .bool true]) (told_leaf rfl rfl rfl h1) rfl ⟨.slice none 0 0, .slice none 0 0, by simp [valOf], by simp only [valOf]; exact Kd.R_nil _ _ _ _ _, by simp only [valOf]; exact Kd.R_nil _ _ _ _ _, hB⟩
set_option maxHeartbeats 800000 in
theorem from_btrue (w : World) : Calls Tryd.prog 25 #[(.iface 4 (.bool true))] w (Told w (valOf (.bool true))) := by
 have f0 := t_bool; have h0 := yx w (.cells #[.int .i64 0, .int .i64 0, .string ⟨#[]⟩, .slice none 0 0, .slice none 0 0] 33); have HB := aM (zb (Below.refl w.heap.size w) (.cells #[.int .i64 0, .int .i64 0, .string ⟨#[]⟩, .slice none 0 0, .slice none 0 0] 33))
 go_enter Tryd.func25, Tryd.ntmps25
 go_wp2_with (refine yt (.tmp 2) (.tmp 23) rfl rfl rfl rfl h0 ?_)
 have h1 := setRow_heap _ w.heap.size _ #[.int .i64 1, .int .i64 1, .string ⟨#[]⟩, .slice none 0 0, .slice none 0 0] _ _ h0; have hB := zm HB.out (some w.heap.size) HB.out.size (yj _ w.heap.size #[.int .i64 1, .int .i64 1, .string ⟨#[]⟩, .slice none 0 0, .slice none 0 0]) (fun k hk => by injection hk with hk; have h2 : w.heap.size = k := hk; omega); exact bodyPost_ret (v := .tuple #[.agg #[.int .i64 1, .int .i64 1, .string ⟨#[]⟩, .slice none 0 0, .slice none 0 0], .bool true]) (told_leaf rfl rfl rfl h1) rfl ⟨.slice none 0 0, .slice none 0 0, by simp [valOf], by simp only [valOf]; exact Kd.R_nil _ _ _ _ _, by simp only [valOf]; exact Kd.R_nil _ _ _ _ _, hB⟩
set_option maxHeartbeats 800000 in
theorem from_bfalse (w : World) : Calls Tryd.prog 25 #[(.iface 4 (.bool false))] w (Told w (valOf (.bool false))) := by
 have f0 := t_bool; have h0 := yx w (.cells #[.int .i64 0, .int .i64 0, .string ⟨#[]⟩, .slice none 0 0, .slice none 0 0] 33); have HB := aM (zb (Below.refl w.heap.size w) (.cells #[.int .i64 0, .int .i64 0, .string ⟨#[]⟩, .slice none 0 0, .slice none 0 0] 33))
 go_enter Tryd.func25, Tryd.ntmps25
 go_wp2_with (refine yt (.tmp 2) (.tmp 24) rfl rfl rfl rfl h0 ?_)
 have h1 := setRow_heap _ w.heap.size _ #[.int .i64 1, .int .i64 0, .string ⟨#[]⟩, .slice none 0 0, .slice none 0 0] _ _ h0; have hB := zm HB.out (some w.heap.size) HB.out.size (yj _ w.heap.size #[.int .i64 1, .int .i64 0, .string ⟨#[]⟩, .slice none 0 0, .slice none 0 0]) (fun k hk => by injection hk with hk; have h2 : w.heap.size = k := hk; omega); exact bodyPost_ret (v := .tuple #[.agg #[.int .i64 1, .int .i64 0, .string ⟨#[]⟩, .slice none 0 0, .slice none 0 0], .bool true]) (told_leaf rfl rfl rfl h1) rfl ⟨.slice none 0 0, .slice none 0 0, by simp [valOf], by simp only [valOf]; exact Kd.R_nil _ _ _ _ _, by simp only [valOf]; exact Kd.R_nil _ _ _ _ _, hB⟩
set_option maxHeartbeats 800000 in
theorem from_int (n : Int) (w : World) : Calls Tryd.prog 25 #[(.iface 3 (.int .i64 n))] w (Told w (valOf (.int n))) := by
 have f0 := t_int_bool; have f1 := t_int; have h0 := yx w (.cells #[.int .i64 0, .int .i64 0, .string ⟨#[]⟩, .slice none 0 0, .slice none 0 0] 33); have HB := aM (zb (Below.refl w.heap.size w) (.cells #[.int .i64 0, .int .i64 0, .string ⟨#[]⟩, .slice none 0 0, .slice none 0 0] 33))
 go_enter Tryd.func25, Tryd.ntmps25
 go_wp2_with (refine yt (.tmp 2) (.tmp 29) rfl rfl rfl rfl h0 ?_)
 have h1 := setRow_heap _ w.heap.size _ #[.int .i64 2, .int .i64 n, .string ⟨#[]⟩, .slice none 0 0, .slice none 0 0] _ _ h0; have hB := zm HB.out (some w.heap.size) HB.out.size (yj _ w.heap.size #[.int .i64 2, .int .i64 n, .string ⟨#[]⟩, .slice none 0 0, .slice none 0 0]) (fun k hk => by injection hk with hk; have h2 : w.heap.size = k := hk; omega); exact bodyPost_ret (v := .tuple #[.agg #[.int .i64 2, .int .i64 n, .string ⟨#[]⟩, .slice none 0 0, .slice none 0 0], .bool true]) (told_leaf rfl rfl rfl h1) rfl ⟨.slice none 0 0, .slice none 0 0, by simp [valOf], by simp only [valOf]; exact Kd.R_nil _ _ _ _ _, by simp only [valOf]; exact Kd.R_nil _ _ _ _ _, hB⟩
set_option maxHeartbeats 800000 in
theorem from_text (s : BA) (w : World) : Calls Tryd.prog 25 #[(.iface 9 (.string s))] w (Told w (valOf (.text s))) := by
 have f0 := t_str_bool; have f1 := t_str_int; have f2 := t_str_i64; have f3 := t_str_u64; have f4 := t_str; have h0 := yx w (.cells #[.int .i64 0, .int .i64 0, .string ⟨#[]⟩, .slice none 0 0, .slice none 0 0] 33); have HB := aM (zb (Below.refl w.heap.size w) (.cells #[.int .i64 0, .int .i64 0, .string ⟨#[]⟩, .slice none 0 0, .slice none 0 0] 33))
 go_enter Tryd.func25, Tryd.ntmps25
 go_wp2_with (refine yt (.tmp 2) (.tmp 45) rfl rfl rfl rfl h0 ?_)
 have h1 := setRow_heap _ w.heap.size _ #[.int .i64 3, .int .i64 0, .string s, .slice none 0 0, .slice none 0 0] _ _ h0; have hB := zm HB.out (some w.heap.size) HB.out.size (yj _ w.heap.size #[.int .i64 3, .int .i64 0, .string s, .slice none 0 0, .slice none 0 0]) (fun k hk => by injection hk with hk; have h2 : w.heap.size = k := hk; omega); exact bodyPost_ret (v := .tuple #[.agg #[.int .i64 3, .int .i64 0, .string s, .slice none 0 0, .slice none 0 0], .bool true]) (told_leaf rfl rfl rfl h1) rfl ⟨.slice none 0 0, .slice none 0 0, by simp [valOf], by simp only [valOf]; exact Kd.R_nil _ _ _ _ _, by simp only [valOf]; exact Kd.R_nil _ _ _ _ _, hB⟩
theorem kAny_at {w : World} {A : Option Addr} {xs : List Value} (h : kAny.C w A xs.length xs) (h0 : 0 < xs.length) :
  ∃ bk off, A = some ⟨bk, off, none⟩ ∧ bk < w.heap.size ∧ ∀ (j : Nat) (hj : j < xs.length), w.cell? ⟨bk, off + j, none⟩ = some xs[j] := by
 obtain ⟨hl, hm, hc⟩ := h; obtain ⟨ad, rfl, hcc⟩ := hc h0
 have cell : ∀ (j : Nat) (hj : j < xs.length), w.cell? (ad.add j) = some xs[j] := by
  intro j hj; obtain ⟨c, hcl, hr, hcell⟩ := hcc j xs[j] (List.getElem?_eq_getElem hj); have hr' : c = [xs[j]] := hr.1; subst hr'; have := hcell 0 _ rfl; rw [show j * kAny.sz + 0 = j from by show j * 1 + 0 = j; omega] at this; exact this
 have c0 := cell 0 h0; obtain ⟨bk, off, spot⟩ := ad
 have hspot : spot = none := by
  cases hs : spot with
  | none => rfl
  | some sp =>
   exfalso
   subst hs
   simp [World.cell?, Addr.add] at c0
   split at c0 <;> simp at c0
 subst hspot
 have add : ∀ j : Nat, (⟨bk, off, none⟩ : Addr).add j = ⟨bk, off + j, none⟩ := by intro j; unfold Addr.add; split <;> simp_all
 refine ⟨bk, off, rfl, ?_, fun j hj => (add j) ▸ cell j hj⟩; rw [add] at c0
 by_cases hb : bk < w.heap.size
 ·exact hb
 ·simp [World.cell?, Array.getElem?_eq_none (Nat.le_of_not_lt hb)] at c0
def FromAt (y : Y) : Prop := ∀ (v : Value) (F : Nat → Prop) (w : World), AR w v y F → Calls Tryd.prog 25 #[v] w (Told w (valOf y))
theorem t_lst_bool (v : Value) (w : World) : (Instr.typeAssert (.iface 58 v) 20 4 true).run Tryd.prog w = .ok (.tuple #[.bool false, .bool false]) w := by kernel_rfl
theorem t_lst_int (v : Value) (w : World) : (Instr.typeAssert (.iface 58 v) 20 3 true).run Tryd.prog w = .ok (.tuple #[.int .i64 0, .bool false]) w := by kernel_rfl
theorem t_lst_i64 (v : Value) (w : World) : (Instr.typeAssert (.iface 58 v) 20 2 true).run Tryd.prog w = .ok (.tuple #[.int .i64 0, .bool false]) w := by kernel_rfl
theorem t_lst_u64 (v : Value) (w : World) : (Instr.typeAssert (.iface 58 v) 20 57 true).run Tryd.prog w = .ok (.tuple #[.int .u64 0, .bool false]) w := by kernel_rfl
theorem t_lst_str (v : Value) (w : World) : (Instr.typeAssert (.iface 58 v) 20 9 true).run Tryd.prog w = .ok (.tuple #[.string ⟨#[]⟩, .bool false]) w := by kernel_rfl
theorem t_lst (v : Value) (w : World) : (Instr.typeAssert (.iface 58 v) 20 58 true).run Tryd.prog w = .ok (.tuple #[v, .bool true]) w := by kernel_rfl
theorem info_iv : (Tryd.prog.info? 33).map (fun i => (i.zero, i.size, i.bytes)) = some (some (.agg #[.int .i64 0, .int .i64 0, .string ⟨#[]⟩, .slice none 0 0, .slice none 0 0]), 5, 80) := by kernel_rfl
theorem told_row {fn : Func} (hr : fn.results = #[.cell 2 33, .tmp 3]) {tmps : Array Value} {W : World} {b n3 c3 n4 c4 : Nat} {k n : Int} {t : BA} {A3 A4 : Option Addr} (hp : tmps.getD 2 undef = .pointer (some ⟨b, 0, none⟩)) (h3 : tmps.getD 3 undef = .bool true) (hb : W.heap[b]? = some (.cells #[.int .i64 k, .int .i64 n, .string t, .slice A3 n3 c3, .slice A4 n4 c4] 33 (0, 0))) :
  (results fn tmps).run Tryd.prog W = .ok (.tuple #[.agg #[.int .i64 k, .int .i64 n, .string t, .slice A3 n3 c3, .slice A4 n4 c4], .bool true]) W := by
 have := results_ct (P := Tryd.prog) hr tmps W b 33 _ (0, 0) _ hp hb Tryd.underlying33 rfl ival_size; rw [h3] at this; exact this
set_option maxHeartbeats 6400000 in
set_option maxRecDepth 100000 in
theorem from_list (zs : List En) (A : Option Addr) (c : Nat) (w : World) (hn : zs.length ≤ 1759218604400) (hC : kAny.C w A zs.length (zs.map (fun z => z.1))) (hz : ∀ z, z ∈ zs → AR w z.1 z.2.1 z.2.2) (hch : ∀ z, z ∈ zs → FromAt z.2.1) :
  Calls Tryd.prog 25 #[.iface 58 (.slice A zs.length c)] w (Told w (valOf (.list (zs.map (fun z => z.2.1))))) := by
 have f0 := t_lst_bool; have f1 := t_lst_int; have f2 := t_lst_i64; have f3 := t_lst_u64; have f4 := t_lst_str; have f5 := t_lst; have HC := aM hC; have HZ := aM hz; have HCH := aM hch; have hb0 := zb (Below.refl w.heap.size w) (.cells #[.int .i64 0, .int .i64 0, .string ⟨#[]⟩, .slice none 0 0, .slice none 0 0] 33); have HB0 := aM (zb hb0 (.cells #[.int .i64 0, .int .i64 0, .string ⟨#[]⟩, .slice none 0 0, .slice none 0 0] 33)); have HZ0 := aM (show ((w.alloc (.cells #[.int .i64 0, .int .i64 0, .string ⟨#[]⟩, .slice none 0 0, .slice none 0 0] 33)).alloc (.cells #[.int .i64 0, .int .i64 0, .string ⟨#[]⟩, .slice none 0 0, .slice none 0 0] 33)).heap[w.heap.size]? = some (.cells zI 33 (0, 0)) from zc (yx _ _) _); have h1 := yx (w.alloc (.cells #[.int .i64 0, .int .i64 0, .string ⟨#[]⟩, .slice none 0 0, .slice none 0 0] 33)) (.cells #[.int .i64 0, .int .i64 0, .string ⟨#[]⟩, .slice none 0 0, .slice none 0 0] 33); rw [World.size_alloc] at h1; clear hC hz hch hb0
 go_enter Tryd.func25, Tryd.ntmps25
 go_wp2_with (refine yt (.tmp 11) (.tmp 49) rfl rfl rfl rfl h1 ?_)
 have HX1 := aM (setRow_heap _ (w.heap.size + 1) _ #[.int .i64 4, .int .i64 0, .string ⟨#[]⟩, .slice none 0 0, .slice none 0 0] _ _ h1); have hg := yj ((w.alloc (.cells #[.int .i64 0, .int .i64 0, .string ⟨#[]⟩, .slice none 0 0, .slice none 0 0] 33)).alloc (.cells #[.int .i64 0, .int .i64 0, .string ⟨#[]⟩, .slice none 0 0, .slice none 0 0] 33)) (w.heap.size + 1) #[.int .i64 4, .int .i64 0, .string ⟨#[]⟩, .slice none 0 0, .slice none 0 0]; have HB1 := aM (zm HB0.out (some (w.heap.size + 1)) HB0.out.size hg (fun k hk => by injection hk with hk; have h2 : w.heap.size + 1 = k := hk; omega)); have HZ1 := aM ((hg.block w.heap.size (yb HZ0.out) (fun e => by injection e with e; omega)).trans HZ0.out); clear hg h1 HB0 HZ0
 go_loopw [52, 12, 13, 14] (fun v52 v12 v13 v14 wr => ∃ (i : Nat) (A2 : Option Addr) (c2 : Nat), v52 = .int .i64 i ∧ i ≤ zs.length ∧ Aside0 (wr.heap[w.heap.size + 1]? = some (.cells #[.int .i64 4, .int .i64 0, .string ⟨#[]⟩, .slice none 0 0, .slice A2 i c2] 33 (0, 0))) ∧ Aside0 (kI.R 33 wr (w.heap.size + 2) (fun _ => True) (.slice A2 i c2) ((zs.take i).map (fun z => valOf z.2.1))) ∧ Aside0 (Below w.heap.size w wr) ∧ Aside0 (wr.heap[w.heap.size]? = some (.cells zI 33 (0, 0)))) (fun v52 _ _ _ _ => zs.length - (intOf v52).toNat)
 case atStart => exact ⟨0, none, 0, rfl, by omega, HX1, ⟨Kd.R_nil _ _ _ _ _⟩, HB1, HZ1⟩
 case round =>
  clear HX1 HB1 HZ1; obtain ⟨i, A2, c2, rfl, hiv, HX, HR, HB, HZ0⟩ := hrel
  have q0 : (0 : Int) ≤ (i : Int) := by omega
  by_cases hlv : i < zs.length
  ·have q2 : (i : Int) < (zs.length : Int) := by omega
   have hl0 : (zs.map (fun z => z.1)).length = zs.length := List.length_map ..; obtain ⟨vb, vo, rfl, hvb, hvc⟩ := kAny_at (A := A) (xs := zs.map (fun z => z.1)) (by rw [hl0]; exact HC.out) (by omega)
   have e0 : w.cell? ⟨vb, vo + i, none⟩ = some (zs[i]'hlv).1 := by
    have h := hvc i (by omega); rw [List.getElem_map] at h; exact h
   have y0 := zk HB.out e0; have CA := aM (fun (W : World) (hb : Below w.heap.size w W) => HCH.out zs[i] (List.getElem_mem hlv) zs[i].1 _ W ((HZ.out zs[i] (List.getElem_mem hlv)).keep hb)); clear hvc e0 hl0
   go_wp2_with fail
   refine (CA.out wr HB.out).mono ?_; rintro e w3 ⟨v3, v4, rfl, hv3, hv4, hb3⟩; have HXE := aM (show (zs.take (i + 1)).map (fun z => valOf z.2.1) = (zs.take i).map (fun z => valOf z.2.1) ++ [valOf (zs[i]'hlv).2.1] by rw [List.take_succ_eq_append_getElem hlv, List.map_append]; rfl); generalize valOf (zs[i]'hlv).2.1 = x at hv3 hv4 HXE; obtain ⟨x0, x1, x2, x3, x4⟩ := x; obtain ⟨A3, c3, rfl⟩ := Kd.R_slice hv3; obtain ⟨A4, c4, rfl⟩ := Kd.R_slice hv4; have hW := zb hb3 (.cells #[.int .i64 0, .int .i64 0, .string ⟨#[]⟩, .slice none 0 0, .slice none 0 0] 33); have h5 := yx w3 (.cells #[.int .i64 0, .int .i64 0, .string ⟨#[]⟩, .slice none 0 0, .slice none 0 0] 33); have hg5 := yj (w3.alloc (.cells #[.int .i64 0, .int .i64 0, .string ⟨#[]⟩, .slice none 0 0, .slice none 0 0] 33)) w3.heap.size #[.int .i64 x0, .int .i64 x1, .string x2, .slice A3 x3.length c3, .slice A4 x4.length c4]; have hb5 := zm hW (some w3.heap.size) hW.size hg5 (fun k hk => by injection hk with hk; have := hb3.size; omega); have h6 := setRow_heap _ w3.heap.size _ #[.int .i64 x0, .int .i64 x1, .string x2, .slice A3 x3.length c3, .slice A4 x4.length c4] _ _ h5
   have hm5 : ∀ k, k < w3.heap.size → ((w3.alloc (.cells #[.int .i64 0, .int .i64 0, .string ⟨#[]⟩, .slice none 0 0, .slice none 0 0] 33)).setRow w3.heap.size #[.int .i64 x0, .int .i64 x1, .string x2, .slice A3 x3.length c3, .slice A4 x4.length c4]).heap[k]? = w3.heap[k]? := fun k hk => (hg5.block k (by rw [World.size_alloc]; omega) (fun e => by injection e with e; omega)).trans ((zb (Below.refl w3.heap.size w3) _).block k hk)
   have HX5 := aM ((hb5.block _ (yb HX.out)).trans HX.out); have x4_ := zr (i := 4) HX5.out rfl; have HZ5 := aM ((hb5.block _ (yb HZ0.out)).trans HZ0.out); have HR5 := aM (Kd.R_below HR.out hb5); have HB5 := aM (yq HB.out hb5)
   have HM := aM (k33_mkM ((w3.alloc (.cells #[.int .i64 0, .int .i64 0, .string ⟨#[]⟩, .slice none 0 0, .slice none 0 0] 33)).setRow w3.heap.size #[.int .i64 x0, .int .i64 x1, .string x2, .slice A3 x3.length c3, .slice A4 x4.length c4]) (w.heap.size + 2) (fun k => wr.heap.size ≤ k ∧ k < w3.heap.size) ⟨x0, x1, x2, x3, x4⟩
    (Kd.R_lower (Kd.R_move (Kd.R_mono (ok' := fun k => wr.heap.size ≤ k ∧ k < w3.heap.size) (Kd.R_bound hv3) (fun k hk => ⟨hk.2.1, hk.2.2.1⟩)) (fun k hk => hm5 k hk.2)) (by have := yb HX.out; omega))
    (Kd.R_lower (Kd.R_move (Kd.R_mono (ok' := fun k => wr.heap.size ≤ k ∧ k < w3.heap.size) (Kd.R_bound hv4) (fun k hk => ⟨hk.2.1, hk.2.2.1⟩)) (fun k hk => hm5 k hk.2)) (by have := yb HX.out; omega)))
   have HOK := aM (show ∀ k, wr.heap.size ≤ k ∧ k < w3.heap.size → True ∧ some k ≠ (Value.slice A2 i c2).ownBlock from fun k hk => ⟨trivial, fun e => by have := ((Kd.R_bound HR.out).1 k e.symm).2.2.1; omega⟩); have hsz := yb HX5.out; clear hv3 hv4 hW hg5 hb5 hm5 HX HR HB HZ0
   go_wp2_with (first | (refine yt (.tmp 13) (.tmp 61) rfl rfl rfl rfl h5 ?_; generalize (w3.alloc (.cells #[.int .i64 0, .int .i64 0, .string ⟨#[]⟩, .slice none 0 0, .slice none 0 0] 33)).setRow w3.heap.size #[.int .i64 x0, .int .i64 x1, .string x2, .slice A3 x3.length c3, .slice A4 x4.length c4] = W5 at h6 x4_ HX5 HZ5 HR5 HB5 HM hsz ⊢; clear h5) | refine load_ival (.tmp 13) rfl rfl rfl h6 ?_ | refine Kd.R_append kI (w0 := W5) (w.heap.size + 2) rfl (.tmp 67) (.tmp 69) 31 33 (.agg #[.int .i64 0, .int .i64 0, .string ⟨#[]⟩, .slice none 0 0, .slice none 0 0]) 80 rfl Tryd.underlying31 info_iv rfl (show 0 < 5 by decide) (by decide) (.slice A2 i c2) ((zs.take i).map (fun z => valOf z.2.1)) ⟨x0, x1, x2, x3, x4⟩ _ (fun _ => True) _ rfl rfl HM.out HOK.out (fun _ _ => trivial) HR5.out (Below.refl _ _) (by omega) (by rw [List.length_map, List.length_take]; omega) ?_)
   intro v1 w6 ho hb6 hg6 hat; rw [← List.map_take, ← HXE.out] at ho
   have hlen : ((zs.take (i + 1)).map (fun z => valOf z.2.1)).length = i + 1 := by rw [List.length_map, List.length_take]; omega
   obtain ⟨A5, c5, rfl⟩ := Kd.R_slice ho; rw [hlen] at ho hat ⊢; have hB6 := zm HB5.out (Value.slice A2 i c2).ownBlock HB5.out.size hg6 (fun k hk => by have := Kd.R_base HR5.out k hk; omega); have hX6 := (hb6.block (w.heap.size + 1) (by omega)).trans HX5.out; have hZ6 := (hb6.block w.heap.size (by omega)).trans HZ5.out; have HX7 := aM (cb_set hX6 (i := 4) (.slice A5 (i + 1) c5)); have hg7 := zz w6 (w.heap.size + 1) 4 (.slice A5 (i + 1) c5); have HB7 := aM (zm hB6 (some (w.heap.size + 1)) hB6.size hg7 (fun k hk => by injection hk with hk; omega)); have HZ7 := aM ((hg7.block w.heap.size (yb hZ6) (fun e => by injection e with e; omega)).trans hZ6); have HR7 := aM (Kd.R_mono (ok' := fun _ => True) (Kd.R_move (Kd.R_bound ho) (fun k hk => hg7.block k hk.2.2.1 (fun e => by have h2 := Option.some.inj e; have h3 := hk.2.1; omega))) (fun _ _ => trivial)); have y4 := zr (i := 4) hX6 rfl; have y5 := xh (i := 4) hX6; clear ho hat hlen hB6 hX6 hZ6 hb6 hg6 hg7 HX5 HZ5 HR5 HB5 HM HOK HXE CA x4_ h6 hsz
   go_wp2
   go_roundw
   case rel => exact ⟨i + 1, A5, c5, by go_num, by omega, HX7, HR7, HB7, HZ7⟩
   case measure => simp [intOf]; omega
  ·have hin : i = zs.length := by omega
   subst hin; have hg8 := yj wr w.heap.size #[.int .i64 4, .int .i64 0, .string ⟨#[]⟩, .slice none 0 0, .slice A2 zs.length c2]; have HX8 := aM (setRow_heap _ w.heap.size _ #[.int .i64 4, .int .i64 0, .string ⟨#[]⟩, .slice none 0 0, .slice A2 zs.length c2] _ _ HZ0.out); have HB8 := aM (zm HB.out (some w.heap.size) HB.out.size hg8 (fun k hk => by injection hk with hk; omega)); have hR := HR.out; rw [List.take_length] at hR; have HR8 := aM (Kd.R_lower (base' := w.heap.size) (Kd.R_mono (ok' := fun _ => True) (Kd.R_move (Kd.R_bound hR) (fun k hk => hg8.block k hk.2.2.1 (fun e => by have h2 := Option.some.inj e; have h3 := hk.2.1; omega))) (fun _ _ => trivial)) (by omega)); have h11 := HX.out; have h2 := HZ0.out; clear hR hg8
   go_wp2_with (first | refine load_ival (.tmp 11) rfl rfl rfl h11 ?_ | refine yt (.tmp 2) (.tmp 73) rfl rfl rfl rfl h2 ?_)
   exact bodyPost_ret (v := .tuple #[.agg #[.int .i64 4, .int .i64 0, .string ⟨#[]⟩, .slice none 0 0, .slice A2 zs.length c2], .bool true]) (told_row rfl rfl rfl HX8.out) rfl ⟨.slice none 0 0, .slice A2 zs.length c2, by simp [valOf], by simp only [valOf]; exact Kd.R_nil _ _ _ _ _, by simp only [valOf]; rw [valL_map, List.map_map]; exact HR8.out, HB8.out⟩
end Go.Proofs.YtmpmekliaicecaaDoor.Tr
namespace Go.Proofs
open Go.Shelf
def Tryd.lays159_ren : Go.Shelf.Ren := ⟨fun | 159 => 29 | 165 => 37 | 166 => 38 | 167 => 39 | 169 => 40 | 230 => 41 | 204 => 42 | 240 => 48 | 241 => 49 | 197 => 50 | 118 => 51 | 168 => 52 | 270 => 53 | 262 => 54 | 276 => 68 | 277 => 69 | 260 => 70 | 242 => 71 | 313 => 72 | 278 => 80 | 274 => 81 | 275 => 82 | n => n, fun | 9 => 9 | 4 => 4 | 3 => 3 | 5 => 5 | 72 => 66 | 0 => 0 | 76 => 70 | 75 => 69 | 107 => 75 | 70 => 63 | 20 => 20 | 37 => 64 | 127 => 83 | 21 => 21 | 105 => 84 | 164 => 103 | 162 => 109 | 203 => 107 | 119 => 118 | 46 => 79 | 139 => 121 | 138 => 120 | 51 => 99 | 160 => 122 | 208 => 131 | 206 => 129 | 80 => 73 | n => n, fun | 13 => 0 | 3 => 2 | 4 => 3 | n => n⟩
theorem Tryd.lays159 : Go.Proofs.Lays.n159 Tryd.prog Tryd.lays159_ren := {
 mixed := by kernel_rfl
 f118 := Tryd.func51.trans (congrArg some (by kernel_rfl))
 f159 := Tryd.func29.trans (congrArg some (by kernel_rfl))
 f165 := Tryd.func37.trans (congrArg some (by kernel_rfl))
 f166 := Tryd.func38.trans (congrArg some (by kernel_rfl))
 f167 := Tryd.func39.trans (congrArg some (by kernel_rfl))
 f168 := Tryd.func52.trans (congrArg some (by kernel_rfl))
 f169 := Tryd.func40.trans (congrArg some (by kernel_rfl))
 f197 := Tryd.func50.trans (congrArg some (by kernel_rfl))
 f204 := Tryd.func42.trans (congrArg some (by kernel_rfl))
 f230 := Tryd.func41.trans (congrArg some (by kernel_rfl))
 f240 := Tryd.func48.trans (congrArg some (by kernel_rfl))
 f241 := Tryd.func49.trans (congrArg some (by kernel_rfl))
 f242 := Tryd.func71.trans (congrArg some (by kernel_rfl))
 f260 := Tryd.func70.trans (congrArg some (by kernel_rfl))
 f262 := Tryd.func54.trans (congrArg some (by kernel_rfl))
 f270 := Tryd.func53.trans (congrArg some (by kernel_rfl))
 f274 := Tryd.func81.trans (congrArg some (by kernel_rfl))
 f275 := Tryd.func82.trans (congrArg some (by kernel_rfl))
 f276 := Tryd.func68.trans (congrArg some (by kernel_rfl))
 f277 := Tryd.func69.trans (congrArg some (by kernel_rfl))
 f278 := Tryd.func80.trans (congrArg some (by kernel_rfl))
 f313 := Tryd.func72.trans (congrArg some (by kernel_rfl))
 t0 := Tryd.underlying0
 a0 := Tryd.isAgg0
 z0 := Tryd.sizeOf0
 v0 := Tryd.zeroValue0
 t3 := Tryd.underlying3
 a3 := Tryd.isAgg3
 z3 := Tryd.sizeOf3
 v3 := Tryd.zeroValue3
 t4 := Tryd.underlying4
 a4 := Tryd.isAgg4
 z4 := Tryd.sizeOf4
 v4 := Tryd.zeroValue4
 t5 := Tryd.underlying5
 a5 := Tryd.isAgg5
 z5 := Tryd.sizeOf5
 v5 := Tryd.zeroValue5
 t9 := Tryd.underlying9
 a9 := Tryd.isAgg9
 z9 := Tryd.sizeOf9
 v9 := Tryd.zeroValue9
 t20 := Tryd.underlying20
 a20 := Tryd.isAgg20
 z20 := Tryd.sizeOf20
 v20 := Tryd.zeroValue20
 t21 := Tryd.underlying21
 a21 := Tryd.isAgg21
 z21 := Tryd.sizeOf21
 v21 := Tryd.zeroValue21
 t37 := Tryd.underlying64
 a37 := Tryd.isAgg64
 z37 := Tryd.sizeOf64
 v37 := Tryd.zeroValue64
 t46 := Tryd.underlying79
 a46 := Tryd.isAgg79
 z46 := Tryd.sizeOf79
 v46 := Tryd.zeroValue79
 t51 := Tryd.underlying99
 a51 := Tryd.isAgg99
 z51 := Tryd.sizeOf99
 v51 := Tryd.zeroValue99
 t70 := Tryd.underlying63
 a70 := Tryd.isAgg63
 z70 := Tryd.sizeOf63
 v70 := Tryd.zeroValue63
 t72 := Tryd.underlying66
 a72 := Tryd.isAgg66
 z72 := Tryd.sizeOf66
 v72 := Tryd.zeroValue66
 t75 := Tryd.underlying69
 a75 := Tryd.isAgg69
 z75 := Tryd.sizeOf69
 v75 := Tryd.zeroValue69
 t76 := Tryd.underlying70
 a76 := Tryd.isAgg70
 z76 := Tryd.sizeOf70
 v76 := Tryd.zeroValue70
 t105 := Tryd.underlying84
 a105 := Tryd.isAgg84
 z105 := Tryd.sizeOf84
 v105 := Tryd.zeroValue84
 t107 := Tryd.underlying75
 a107 := Tryd.isAgg75
 z107 := Tryd.sizeOf75
 v107 := Tryd.zeroValue75
 t119 := Tryd.underlying118
 a119 := Tryd.isAgg118
 z119 := Tryd.sizeOf118
 t127 := Tryd.underlying83
 a127 := Tryd.isAgg83
 z127 := Tryd.sizeOf83
 v127 := Tryd.zeroValue83
 t138 := Tryd.underlying120
 a138 := Tryd.isAgg120
 z138 := Tryd.sizeOf120
 v138 := Tryd.zeroValue120
 t139 := Tryd.underlying121
 a139 := Tryd.isAgg121
 z139 := Tryd.sizeOf121
 v139 := Tryd.zeroValue121
 t160 := Tryd.underlying122
 a160 := Tryd.isAgg122
 z160 := Tryd.sizeOf122
 v160 := Tryd.zeroValue122
 t162 := Tryd.underlying109
 a162 := Tryd.isAgg109
 z162 := Tryd.sizeOf109
 v162 := Tryd.zeroValue109
 t164 := Tryd.underlying103
 a164 := Tryd.isAgg103
 z164 := Tryd.sizeOf103
 v164 := Tryd.zeroValue103
 t203 := Tryd.underlying107
 a203 := Tryd.isAgg107
 z203 := Tryd.sizeOf107
 v203 := Tryd.zeroValue107
 t206 := Tryd.underlying129
 a206 := Tryd.isAgg129
 z206 := Tryd.sizeOf129
 v206 := Tryd.zeroValue129
 t208 := Tryd.underlying131
 a208 := Tryd.isAgg131
 z208 := Tryd.sizeOf131
 v208 := Tryd.zeroValue131
 g3 := by kernel_rfl
 g4 := by kernel_rfl
 g13 := by kernel_rfl }
theorem Tryd.Builder_Extra_159 : Builder.Extra Tryd.prog Tryd.lays159_ren := {
 sizeBuilder := by kernel_rfl
 liesBuilder := by kernel_rfl
 t5 := Tryd.underlying5
 a5 := Tryd.isAgg5
 z5 := Tryd.sizeOf5
 v5 := Tryd.zeroValue5
 infoByte := by kernel_rfl
 cellsByte := by kernel_rfl
 sizeByte := by kernel_rfl
 neB5 := by decide }
def Tryd.lays156_ren : Go.Shelf.Ren := ⟨fun | 156 => 36 | 165 => 37 | 166 => 38 | 169 => 40 | 240 => 48 | 241 => 49 | 276 => 68 | 277 => 69 | n => n, fun | 31 => 22 | 9 => 9 | 3 => 3 | 4 => 4 | 0 => 0 | 20 => 20 | 72 => 66 | 76 => 70 | 70 => 63 | 37 => 64 | 75 => 69 | 127 => 83 | 164 => 103 | 5 => 5 | 80 => 73 | n => n, fun | n => n⟩
theorem Tryd.lays156 : Go.Proofs.Lays.n156 Tryd.prog Tryd.lays156_ren := {
 mixed := by kernel_rfl
 f156 := Tryd.func36.trans (congrArg some (by kernel_rfl))
 f165 := Tryd.func37.trans (congrArg some (by kernel_rfl))
 f166 := Tryd.func38.trans (congrArg some (by kernel_rfl))
 f169 := Tryd.func40.trans (congrArg some (by kernel_rfl))
 f240 := Tryd.func48.trans (congrArg some (by kernel_rfl))
 f241 := Tryd.func49.trans (congrArg some (by kernel_rfl))
 f276 := Tryd.func68.trans (congrArg some (by kernel_rfl))
 f277 := Tryd.func69.trans (congrArg some (by kernel_rfl))
 t0 := Tryd.underlying0
 a0 := Tryd.isAgg0
 z0 := Tryd.sizeOf0
 v0 := Tryd.zeroValue0
 t3 := Tryd.underlying3
 a3 := Tryd.isAgg3
 z3 := Tryd.sizeOf3
 v3 := Tryd.zeroValue3
 t4 := Tryd.underlying4
 a4 := Tryd.isAgg4
 z4 := Tryd.sizeOf4
 v4 := Tryd.zeroValue4
 t9 := Tryd.underlying9
 a9 := Tryd.isAgg9
 z9 := Tryd.sizeOf9
 v9 := Tryd.zeroValue9
 t20 := Tryd.underlying20
 a20 := Tryd.isAgg20
 z20 := Tryd.sizeOf20
 v20 := Tryd.zeroValue20
 t31 := Tryd.underlying22
 a31 := Tryd.isAgg22
 z31 := Tryd.sizeOf22
 v31 := Tryd.zeroValue22
 t37 := Tryd.underlying64
 a37 := Tryd.isAgg64
 z37 := Tryd.sizeOf64
 v37 := Tryd.zeroValue64
 t70 := Tryd.underlying63
 a70 := Tryd.isAgg63
 z70 := Tryd.sizeOf63
 v70 := Tryd.zeroValue63
 t72 := Tryd.underlying66
 a72 := Tryd.isAgg66
 z72 := Tryd.sizeOf66
 v72 := Tryd.zeroValue66
 t75 := Tryd.underlying69
 a75 := Tryd.isAgg69
 z75 := Tryd.sizeOf69
 v75 := Tryd.zeroValue69
 t76 := Tryd.underlying70
 a76 := Tryd.isAgg70
 z76 := Tryd.sizeOf70
 v76 := Tryd.zeroValue70
 t127 := Tryd.underlying83
 a127 := Tryd.isAgg83
 z127 := Tryd.sizeOf83
 v127 := Tryd.zeroValue83
 t164 := Tryd.underlying103
 a164 := Tryd.isAgg103
 z164 := Tryd.sizeOf103
 v164 := Tryd.zeroValue103 }
theorem Tryd.Builder_Extra_156 : Builder.Extra Tryd.prog Tryd.lays156_ren := {
 sizeBuilder := by kernel_rfl
 liesBuilder := by kernel_rfl
 t5 := Tryd.underlying5
 a5 := Tryd.isAgg5
 z5 := Tryd.sizeOf5
 v5 := Tryd.zeroValue5
 infoByte := by kernel_rfl
 cellsByte := by kernel_rfl
 sizeByte := by kernel_rfl
 neB5 := by decide }
open Go.RowKit in
theorem Tryd.strings_Join_none (a : Option Addr) (c : Nat) (sep : ByteArray) (w : World) :
  Calls Tryd.prog 36 #[.slice a 0 c, .string sep] w fun e w' => e = .returned (.string ⟨#[]⟩) ∧ w' = w := Any.strings_Join_none Tryd.lays156 Tryd.Builder_Extra_156 a c sep w
def Tryd.lays192_ren : Go.Shelf.Ren := ⟨fun | 192 => 24 | 190 => 32 | 125 => 45 | 258 => 44 | 128 => 64 | 129 => 65 | 302 => 55 | 303 => 56 | 304 => 57 | 305 => 58 | 306 => 59 | 307 => 60 | 308 => 61 | 309 => 62 | 310 => 63 | 333 => 73 | 329 => 74 | 330 => 75 | 334 => 76 | 335 => 77 | 336 => 78 | 344 => 83 | n => n, fun | 31 => 22 | 0 => 0 | 9 => 9 | 3 => 3 | 46 => 79 | 51 => 99 | 53 => 57 | 4 => 4 | 183 => 92 | 182 => 91 | 131 => 48 | 5 => 5 | 218 => 110 | 222 => 114 | 228 => 125 | 229 => 126 | n => n, fun | n => n⟩
theorem Tryd.lays192 : Go.Proofs.Lays.n192 Tryd.prog Tryd.lays192_ren := {
 mixed := by kernel_rfl
 f125 := Tryd.func45.trans (congrArg some (by kernel_rfl))
 f128 := Tryd.func64.trans (congrArg some (by kernel_rfl))
 f129 := Tryd.func65.trans (congrArg some (by kernel_rfl))
 f190 := Tryd.func32.trans (congrArg some (by kernel_rfl))
 f192 := Tryd.func24.trans (congrArg some (by kernel_rfl))
 f258 := Tryd.func44.trans (congrArg some (by kernel_rfl))
 f302 := Tryd.func55.trans (congrArg some (by kernel_rfl))
 f303 := Tryd.func56.trans (congrArg some (by kernel_rfl))
 f304 := Tryd.func57.trans (congrArg some (by kernel_rfl))
 f305 := Tryd.func58.trans (congrArg some (by kernel_rfl))
 f306 := Tryd.func59.trans (congrArg some (by kernel_rfl))
 f307 := Tryd.func60.trans (congrArg some (by kernel_rfl))
 f308 := Tryd.func61.trans (congrArg some (by kernel_rfl))
 f309 := Tryd.func62.trans (congrArg some (by kernel_rfl))
 f310 := Tryd.func63.trans (congrArg some (by kernel_rfl))
 f329 := Tryd.func74.trans (congrArg some (by kernel_rfl))
 f330 := Tryd.func75.trans (congrArg some (by kernel_rfl))
 f333 := Tryd.func73.trans (congrArg some (by kernel_rfl))
 f334 := Tryd.func76.trans (congrArg some (by kernel_rfl))
 f335 := Tryd.func77.trans (congrArg some (by kernel_rfl))
 f336 := Tryd.func78.trans (congrArg some (by kernel_rfl))
 f344 := Tryd.func83.trans (congrArg some (by kernel_rfl))
 t0 := Tryd.underlying0
 a0 := Tryd.isAgg0
 z0 := Tryd.sizeOf0
 v0 := Tryd.zeroValue0
 t3 := Tryd.underlying3
 a3 := Tryd.isAgg3
 z3 := Tryd.sizeOf3
 v3 := Tryd.zeroValue3
 t4 := Tryd.underlying4
 a4 := Tryd.isAgg4
 z4 := Tryd.sizeOf4
 v4 := Tryd.zeroValue4
 t5 := Tryd.underlying5
 a5 := Tryd.isAgg5
 z5 := Tryd.sizeOf5
 v5 := Tryd.zeroValue5
 t9 := Tryd.underlying9
 a9 := Tryd.isAgg9
 z9 := Tryd.sizeOf9
 v9 := Tryd.zeroValue9
 t31 := Tryd.underlying22
 a31 := Tryd.isAgg22
 z31 := Tryd.sizeOf22
 v31 := Tryd.zeroValue22
 t46 := Tryd.underlying79
 a46 := Tryd.isAgg79
 z46 := Tryd.sizeOf79
 v46 := Tryd.zeroValue79
 t51 := Tryd.underlying99
 a51 := Tryd.isAgg99
 z51 := Tryd.sizeOf99
 v51 := Tryd.zeroValue99
 t53 := Tryd.underlying57
 a53 := Tryd.isAgg57
 z53 := Tryd.sizeOf57
 v53 := Tryd.zeroValue57
 t131 := Tryd.underlying48
 a131 := Tryd.isAgg48
 z131 := Tryd.sizeOf48
 v131 := Tryd.zeroValue48
 t182 := Tryd.underlying91
 a182 := Tryd.isAgg91
 z182 := Tryd.sizeOf91
 v182 := Tryd.zeroValue91
 t183 := Tryd.underlying92
 a183 := Tryd.isAgg92
 z183 := Tryd.sizeOf92
 v183 := Tryd.zeroValue92
 t218 := Tryd.underlying110
 a218 := Tryd.isAgg110
 z218 := Tryd.sizeOf110
 v218 := Tryd.zeroValue110
 t222 := Tryd.underlying114
 a222 := Tryd.isAgg114
 z222 := Tryd.sizeOf114
 v222 := Tryd.zeroValue114
 t228 := Tryd.underlying125
 a228 := Tryd.isAgg125
 z228 := Tryd.sizeOf125
 v228 := Tryd.zeroValue125
 t229 := Tryd.underlying126
 a229 := Tryd.isAgg126
 z229 := Tryd.sizeOf126
 v229 := Tryd.zeroValue126 }
open Go.Sort Go.RowKit in
theorem Tryd.sort_Strings (blk off cap : Nat) (ss : List (List UInt8)) (w : World) (hH : Holds encStr w blk off ss.toArray) (hblk : blk < w.heap.size) (hsz : ss.length < 4611686018427387904) :
  Calls Tryd.prog 24 #[.slice (some ⟨blk, off, none⟩) ss.length cap] w fun e w' =>
   e = .returned (.tuple #[]) ∧ ∃ n os, w' = grow (putRow encStr (Sort.ahead w n) blk off (ss.mergeSort fun x y => decide (x ≤ y)).toArray) os := Any.sort_Strings Tryd.lays192 blk off cap ss w hH hblk hsz
def Tryd.lays204_ren : Go.Shelf.Ren := ⟨fun | 204 => 42 | 262 => 54 | 313 => 72 | 274 => 81 | 275 => 82 | n => n, fun | 21 => 21 | 4 => 4 | 3 => 3 | 162 => 109 | 203 => 107 | 160 => 122 | 46 => 79 | 0 => 0 | 208 => 131 | 51 => 99 | 206 => 129 | n => n, fun | 13 => 0 | n => n⟩
theorem Tryd.lays204 : Go.Proofs.Lays.n204 Tryd.prog Tryd.lays204_ren := {
 mixed := by kernel_rfl
 f204 := Tryd.func42.trans (congrArg some (by kernel_rfl))
 f262 := Tryd.func54.trans (congrArg some (by kernel_rfl))
 f274 := Tryd.func81.trans (congrArg some (by kernel_rfl))
 f275 := Tryd.func82.trans (congrArg some (by kernel_rfl))
 f313 := Tryd.func72.trans (congrArg some (by kernel_rfl))
 t0 := Tryd.underlying0
 a0 := Tryd.isAgg0
 z0 := Tryd.sizeOf0
 v0 := Tryd.zeroValue0
 t3 := Tryd.underlying3
 a3 := Tryd.isAgg3
 z3 := Tryd.sizeOf3
 v3 := Tryd.zeroValue3
 t4 := Tryd.underlying4
 a4 := Tryd.isAgg4
 z4 := Tryd.sizeOf4
 v4 := Tryd.zeroValue4
 t21 := Tryd.underlying21
 a21 := Tryd.isAgg21
 z21 := Tryd.sizeOf21
 v21 := Tryd.zeroValue21
 t46 := Tryd.underlying79
 a46 := Tryd.isAgg79
 z46 := Tryd.sizeOf79
 v46 := Tryd.zeroValue79
 t51 := Tryd.underlying99
 a51 := Tryd.isAgg99
 z51 := Tryd.sizeOf99
 v51 := Tryd.zeroValue99
 t160 := Tryd.underlying122
 a160 := Tryd.isAgg122
 z160 := Tryd.sizeOf122
 v160 := Tryd.zeroValue122
 t162 := Tryd.underlying109
 a162 := Tryd.isAgg109
 z162 := Tryd.sizeOf109
 v162 := Tryd.zeroValue109
 t203 := Tryd.underlying107
 a203 := Tryd.isAgg107
 z203 := Tryd.sizeOf107
 v203 := Tryd.zeroValue107
 t206 := Tryd.underlying129
 a206 := Tryd.isAgg129
 z206 := Tryd.sizeOf129
 v206 := Tryd.zeroValue129
 t208 := Tryd.underlying131
 a208 := Tryd.isAgg131
 z208 := Tryd.sizeOf131
 v208 := Tryd.zeroValue131
 g13 := by kernel_rfl }
def Tryd.lays197_ren : Go.Shelf.Ren := ⟨fun | 197 => 50 | 260 => 70 | n => n, fun | 9 => 9 | 21 => 21 | 3 => 3 | 4 => 4 | 5 => 5 | 105 => 84 | 119 => 118 | 0 => 0 | 46 => 79 | 139 => 121 | 138 => 120 | n => n, fun | 3 => 2 | 4 => 3 | n => n⟩
theorem Tryd.lays197 : Go.Proofs.Lays.n197 Tryd.prog Tryd.lays197_ren := {
 mixed := by kernel_rfl
 f197 := Tryd.func50.trans (congrArg some (by kernel_rfl))
 f260 := Tryd.func70.trans (congrArg some (by kernel_rfl))
 t0 := Tryd.underlying0
 a0 := Tryd.isAgg0
 z0 := Tryd.sizeOf0
 v0 := Tryd.zeroValue0
 t3 := Tryd.underlying3
 a3 := Tryd.isAgg3
 z3 := Tryd.sizeOf3
 v3 := Tryd.zeroValue3
 t4 := Tryd.underlying4
 a4 := Tryd.isAgg4
 z4 := Tryd.sizeOf4
 v4 := Tryd.zeroValue4
 t5 := Tryd.underlying5
 a5 := Tryd.isAgg5
 z5 := Tryd.sizeOf5
 v5 := Tryd.zeroValue5
 t9 := Tryd.underlying9
 a9 := Tryd.isAgg9
 z9 := Tryd.sizeOf9
 v9 := Tryd.zeroValue9
 t21 := Tryd.underlying21
 a21 := Tryd.isAgg21
 z21 := Tryd.sizeOf21
 v21 := Tryd.zeroValue21
 t46 := Tryd.underlying79
 a46 := Tryd.isAgg79
 z46 := Tryd.sizeOf79
 v46 := Tryd.zeroValue79
 t105 := Tryd.underlying84
 a105 := Tryd.isAgg84
 z105 := Tryd.sizeOf84
 v105 := Tryd.zeroValue84
 t119 := Tryd.underlying118
 a119 := Tryd.isAgg118
 z119 := Tryd.sizeOf118
 t138 := Tryd.underlying120
 a138 := Tryd.isAgg120
 z138 := Tryd.sizeOf120
 v138 := Tryd.zeroValue120
 t139 := Tryd.underlying121
 a139 := Tryd.isAgg121
 z139 := Tryd.sizeOf121
 v139 := Tryd.zeroValue121
 g3 := by kernel_rfl
 g4 := by kernel_rfl }
def Tryd.lays260_ren : Go.Shelf.Ren := ⟨fun | 260 => 70 | n => n, fun | 9 => 9 | 21 => 21 | 3 => 3 | 4 => 4 | 5 => 5 | 119 => 118 | 0 => 0 | 46 => 79 | 139 => 121 | 138 => 120 | n => n, fun | 3 => 2 | 4 => 3 | n => n⟩
theorem Tryd.lays260 : Go.Proofs.Lays.n260 Tryd.prog Tryd.lays260_ren := {
 mixed := by kernel_rfl
 f260 := Tryd.func70.trans (congrArg some (by kernel_rfl))
 t0 := Tryd.underlying0
 a0 := Tryd.isAgg0
 z0 := Tryd.sizeOf0
 v0 := Tryd.zeroValue0
 t3 := Tryd.underlying3
 a3 := Tryd.isAgg3
 z3 := Tryd.sizeOf3
 v3 := Tryd.zeroValue3
 t4 := Tryd.underlying4
 a4 := Tryd.isAgg4
 z4 := Tryd.sizeOf4
 v4 := Tryd.zeroValue4
 t5 := Tryd.underlying5
 a5 := Tryd.isAgg5
 z5 := Tryd.sizeOf5
 v5 := Tryd.zeroValue5
 t9 := Tryd.underlying9
 a9 := Tryd.isAgg9
 z9 := Tryd.sizeOf9
 v9 := Tryd.zeroValue9
 t21 := Tryd.underlying21
 a21 := Tryd.isAgg21
 z21 := Tryd.sizeOf21
 v21 := Tryd.zeroValue21
 t46 := Tryd.underlying79
 a46 := Tryd.isAgg79
 z46 := Tryd.sizeOf79
 v46 := Tryd.zeroValue79
 t119 := Tryd.underlying118
 a119 := Tryd.isAgg118
 z119 := Tryd.sizeOf118
 t138 := Tryd.underlying120
 a138 := Tryd.isAgg120
 z138 := Tryd.sizeOf120
 v138 := Tryd.zeroValue120
 t139 := Tryd.underlying121
 a139 := Tryd.isAgg121
 z139 := Tryd.sizeOf121
 v139 := Tryd.zeroValue121
 g3 := by kernel_rfl
 g4 := by kernel_rfl }
open Go.RowKit Go.Lib in
theorem Tryd.utf8_decodeRuneInStringSlow (s : ByteArray) (w : World) (hT : Lib.Utf8Tabs 2 3 w) :
  Calls Tryd.prog 70 #[.string s] w fun e w' => e = .returned (.tuple #[.int .i32 (Lib.decodeGo s).1, .int .i64 (Lib.decodeGo s).2]) ∧ Below w.heap.size w w' := Any.utf8_decodeRuneInStringSlow Tryd.lays260 s w hT
open Go.RowKit Go.Lib in
theorem Tryd.utf8_DecodeRuneInString (s : ByteArray) (w : World) (hT : Lib.Utf8Tabs 2 3 w) :
  Calls Tryd.prog 50 #[.string s] w fun e w' => e = .returned (.tuple #[.int .i32 (Lib.decodeGo s).1, .int .i64 (Lib.decodeGo s).2]) ∧ Below w.heap.size w w' := Any.utf8_DecodeRuneInString Tryd.lays197 s w hT
open Go.RowKit Go.Lib in
theorem Tryd.strings_ToLower_any (s : ByteArray) (w : World) (hs : s.size < 35184372088832) (hV : CaseVar 0 caseA w) (hT : Lib.Utf8Tabs 2 3 w) :
  Calls Tryd.prog 29 #[.string s] w fun e w' => e = .returned (.string ⟨(Lib.toLowerD s.data.toList).toArray⟩) ∧ Below w.heap.size w w' := Any.strings_ToLower_any Tryd.lays159 Tryd.Builder_Extra_159 s w hs hV hT
open Go.RowKit Go.Sort in
theorem Tryd.sort_Strings_none (p : Option Addr) (cap : Nat) (w : World) :
  Calls Tryd.prog 24 #[.slice p 0 cap] w fun e w' => e = .returned (.tuple #[]) ∧ w' = w := Any.sort_Strings_none Tryd.lays192 p cap w
end Go.Proofs
namespace Go.Proofs.YtmpmekliaicecaaDoor.Flat
open Go.RowKit Go.Proofs.YtmpmekliaicecaaDoorW.PrintWords Go.Proofs.YtmpmekliaicecaaDoor.Str Go.Sort
def flat {α : Type} (enc : α → List Value) (k : Nat) (hk : ∀ x, (enc x).length = k) (h1 : ∀ x, ∀ u ∈ enc x, u.oneCell' = true) : Kd α where
 sz := k
 E := []
 K := fun _ x cs => cs = enc x
 M := fun _ _ _ x cs => cs = enc x
 K_len := fun h => by rw [h]; exact hk _
 K_one := fun h u hu => by rw [h] at hu; exact h1 _ u hu
 K_below := fun _ h => h
 K_of_M := fun h => h
 M_mono := fun _ h => h
 M_bound := fun h => h
 M_move := fun _ h => h
 M_lower := fun _ h => h
section
variable {α : Type} {enc : α → List Value} {k : Nat} {hk : ∀ x, (enc x).length = k} {h1 : ∀ x, ∀ u ∈ enc x, u.oneCell' = true}
theorem reps_flat (hk : ∀ x, (enc x).length = k) : ∀ (xs : List α) (cs : List Value), Reps (fun x cs => cs = enc x) k xs cs → cs = xs.flatMap enc
 | [], cs, h => by
  have := h.1
  simp at this
  exact this
 | x :: r, cs, h => by
  have h0 := h.2 0 x rfl; simp only [Nat.zero_mul, List.drop_zero] at h0
  have hr : Reps (fun x cs => cs = enc x) k r (cs.drop k) := by
   refine ⟨by rw [List.length_drop, h.1, List.length_cons, Nat.add_mul, Nat.one_mul]; omega, fun j p hp => ?_⟩; have := h.2 (j + 1) p (by simpa using hp); rw [List.drop_drop, show k + j * k = (j + 1) * k by rw [Nat.add_mul, Nat.one_mul, Nat.add_comm]]; exact this
  have ih := reps_flat hk r _ hr; rw [List.flatMap_cons, ← h0, ← ih, List.take_append_drop]
theorem flat_reps (hk : ∀ x, (enc x).length = k) (xs : List α) : Reps (fun x cs => cs = enc x) k xs (xs.flatMap enc) := by
 have go : ∀ (r l : List α), Reps (fun x cs => cs = enc x) k l (l.flatMap enc) → Reps (fun x cs => cs = enc x) k (l ++ r) ((l ++ r).flatMap enc) := by
  intro r
  induction r with
  | nil => intro l h; simpa using h
  | cons p r ih =>
   intro l h
   have := ih (l ++ [p]) (by
    rw [List.flatMap_append]
    have : [p].flatMap enc = enc p := by simp
    rw [this]
    exact Reps.snoc h rfl (hk p))
   simpa using this
 exact go xs [] (Reps.none _ _)
theorem R_flat {e : Nat} {w : World} {base : Nat} {ok : Nat → Prop} {v : Value} {xs : List α} :
  (flat enc k hk h1).R e w base ok v xs ↔ (∀ b, v.ownBlock = some b → ok b) ∧ w.ownsRow base e k v xs.length (xs.flatMap enc) := by
 constructor
 ·rintro ⟨h0, inner, ho, hr⟩; have := reps_flat hk _ _ hr; subst this; exact ⟨h0, ho⟩
 ·rintro ⟨h0, ho⟩; exact ⟨h0, _, ho, flat_reps hk xs⟩
end
end Go.Proofs.YtmpmekliaicecaaDoor.Flat
namespace Go.Proofs.YtmpmekliaicecaaDoor.Tr
open Go.RowKit Go.Proofs.YtmpmekliaicecaaDoorW.PrintWords Go.Proofs.YtmpmekliaicecaaDoorW.PrintLast Go.Proofs.YtmpmekliaicecaaDoor.Str Go.Proofs.YtmpmekliaicecaaDoor.Kit Go.Proofs.YtmpmekliaicecaaDoor.Flat Go.Proofs.YtmpmekliaicecaaDoor.MapV Go.Proofs.YtmpmekliaicecaaDoor.Frame Go.Sort
def Srt (ys : List BA) : Prop := ys.Pairwise fun x y => ¬ lb y < lb x
theorem srt_unique {xs ys : List BA} (hx : Srt xs) (hy : Srt ys) (hp : xs.Perm ys) : xs = ys := by
 refine List.Perm.eq_of_pairwise (le := fun x y => ¬ lb y < lb x) (fun a b _ _ h1 h2 => ?_) hx hy hp
 rcases lt_total (lb a) (lb b) with e | e | e
 ·exact absurd e h2
 ·exact lb_inj e
 ·exact absurd e h1
theorem fm_map (f : BA → Value) : ∀ xs : List BA, (xs.flatMap fun x => [f x]) = xs.map f
 | [] => rfl
 | x :: r => by rw [List.flatMap_cons, fm_map f r]; rfl
theorem enc_lb (ys : List BA) : (ys.map lb).map encStr = ys.map Value.string := by
 rw [List.map_map]; exact List.map_congr_left (fun y _ => by show Value.string ⟨(lb y).toArray⟩ = _; rw [mk_lb])
def ofL (l : List (List UInt8)) : List BA := l.map fun b => ⟨b.toArray⟩
theorem ofL_enc (l : List (List UInt8)) : (ofL l).map Value.string = l.map encStr := by unfold ofL; rw [List.map_map]; rfl
theorem ofL_lb (ys : List BA) : ofL (ys.map lb) = ys := by
 unfold ofL
 rw [List.map_map]; exact (List.map_congr_left (fun y _ => mk_lb y)).trans (List.map_id ys)
theorem ofL_srt {l : List (List UInt8)} (h : l.Pairwise fun x y => decide (x ≤ y) = true) : Srt (ofL l) := by
 unfold Srt ofL
 rw [List.pairwise_map]; refine h.imp (fun {x y} hxy => ?_); rw [lb_mk, lb_mk]; exact List.not_lt.2 (of_decide_eq_true hxy)
set_option maxHeartbeats 800000 in
theorem sort_own {base g n c : Nat} {ys : List BA} (w : World) (h : Kd.string.R 9 w base (fun _ => True) (.slice (some ⟨g, 0, none⟩) n c) ys) (hn : ys.length ≤ 1759218604400) :
  Calls Tryd.prog 24 #[.slice (some ⟨g, 0, none⟩) n c] w fun e w' => e = .returned (.tuple #[]) ∧ ∃ zs, Kd.string.R 9 w' base (fun _ => True) (.slice (some ⟨g, 0, none⟩) n c) zs ∧ zs.Perm ys ∧ Srt zs ∧ w.grownBy w' (some g) := by
 have h' : (flat (fun x : BA => [Value.string x]) 1 (fun _ => rfl) (fun x u hu => by rw [List.mem_singleton.1 hu]; rfl)).R 9 w base (fun _ => True) (.slice (some ⟨g, 0, none⟩) n c) ys := h
 rcases (R_flat.1 h').2.2 with ⟨hv, _⟩ | ⟨g', cap, cur, hv, hgb, hblk, hle, hcap, hcsz, htk⟩
 ·cases hv
 injection hv with e1 e2 e3
 injection e1 with e1
 injection e1 with e1
 subst e1 e2 e3; rw [fm_map, Nat.mul_one, ← enc_lb] at htk; have hL : (ys.map lb).length = ys.length := List.length_map _; have hH := holds_of_block (ss := ys.map lb) hblk (by rw [hL]; exact htk); have CS := Any.sort_Strings Tryd.lays192 g 0 c (ys.map lb) w hH (yb hblk) (by rw [hL]; omega); rw [hL] at CS; refine CS.mono ?_; rintro e w1 ⟨rfl, m, os, rfl⟩
 have hls : ((ys.map lb).mergeSort fun x y => decide (x ≤ y)).length = (ys.map lb).length := by rw [List.length_mergeSort]
 have HO := ownsRow_sorted (n := m) (os := os) hls hgb hblk (by rw [hL]; exact hle) hcap hcsz; have HG := grownBy_sorted (w := w) (g := g) (n := m) (os := os) ((ys.map lb).mergeSort fun x y => decide (x ≤ y)).toArray; refine ⟨rfl, ofL ((ys.map lb).mergeSort fun x y => decide (x ≤ y)), ?_, ?_, ?_, HG⟩
 ·refine (show (flat (fun x : BA => [Value.string x]) 1 (fun _ => rfl) (fun x u hu => by rw [List.mem_singleton.1 hu]; rfl)).R 9 _ base (fun _ => True) (.slice (some ⟨g, 0, none⟩) ys.length c) (ofL ((ys.map lb).mergeSort fun x y => decide (x ≤ y))) from R_flat.2 ⟨fun _ _ => trivial, ?_⟩)
  have hl2 : (ofL ((ys.map lb).mergeSort fun x y => decide (x ≤ y))).length = ys.length := by unfold ofL; rw [List.length_map, hls, hL]
  rw [fm_map, ofL_enc, hl2]; have := HO; rw [hL] at this; exact this
 ·have := (List.mergeSort_perm (ys.map lb) (fun x y => decide (x ≤ y))).map (fun b : List UInt8 => (⟨b.toArray⟩ : BA)); have e : (ys.map lb).map (fun b : List UInt8 => (⟨b.toArray⟩ : BA)) = ys := ofL_lb ys; rw [e] at this; exact this
 ·refine ofL_srt (List.pairwise_mergeSort (fun a b c h1 h2 => ?_) (fun a b => ?_) _)
  ·exact decide_eq_true (List.le_trans (of_decide_eq_true h1) (of_decide_eq_true h2))
  ·rcases List.le_total a b with h | h
   ·simp [h]
   ·simp [h]
end Go.Proofs.YtmpmekliaicecaaDoor.Tr
namespace Go.Proofs.YtmpmekliaicecaaDoor.Tr
open Go.RowKit Go.Proofs.YtmpmekliaicecaaDoorW.PrintWords Go.Proofs.YtmpmekliaicecaaDoorW.PrintLast Go.Proofs.YtmpmekliaicecaaDoor.Str Go.Proofs.YtmpmekliaicecaaDoor.Kit Go.Proofs.YtmpmekliaicecaaDoor.Flat Go.Proofs.YtmpmekliaicecaaDoor.MapV Go.Proofs.YtmpmekliaicecaaDoor.Frame Go.Proofs.YtmpmekliaicecaaDoor.PS
theorem sort_any {base : Nat} {v : Value} {ys : List BA} (w : World) (h : Kd.string.R 9 w base (fun _ => True) v ys) (hn : ys.length ≤ 1759218604400) :
  Calls Tryd.prog 24 #[v] w fun e w' => e = .returned (.tuple #[]) ∧ ∃ zs, Kd.string.R 9 w' base (fun _ => True) v zs ∧ zs.Perm ys ∧ Srt zs ∧ w.grownBy w' v.ownBlock := by
 obtain ⟨A, c, rfl⟩ := Kd.R_slice h
 rcases Kd.R_base2 h with hb | ⟨k, hk, _⟩
 ·have h0 : ys = [] := by
   obtain ⟨_, inner, ho, hr⟩ := h
   rcases ho.2 with ⟨hv, hi⟩ | ⟨g, cap, cur, hv, _⟩
   ·injection hv with _ e2 _
    exact List.length_eq_zero_iff.1 e2
   ·rw [hv] at hb
    simp [Value.ownBlock] at hb
  subst h0; refine (Any.sort_Strings_none Tryd.lays192 A c w).mono ?_; rintro e w' ⟨rfl, rfl⟩; exact ⟨rfl, [], h, List.Perm.refl _, List.Pairwise.nil, ⟨rfl, rfl, rfl, Nat.le_refl _, fun _ _ _ => rfl⟩⟩
 ·obtain ⟨g, rfl⟩ : ∃ g, A = some ⟨g, 0, none⟩ := by
   obtain ⟨_, inner, ho, hr⟩ := h
   rcases ho.2 with ⟨hv, hi⟩ | ⟨g, cap, cur, hv, _⟩
   ·rw [hv] at hk
    simp [Value.ownBlock] at hk
   ·injection hv with e1 _ _
    exact ⟨g, e1⟩
  exact sort_own w h hn
theorem left_same' {w w' : World} {b r : Nat} (hb : w'.heap[b]? = w.heap[b]?) (hr : w'.heap[r]? = w.heap[r]?) : w'.rangeLeft b r = w.rangeLeft b r := by
 unfold World.rangeLeft
 rw [hb, hr]
theorem str_own {e : TypeId} {w : World} {base : Nat} {ok : Nat → Prop} {v : Value} {xs : List BA} (h : Kd.string.R e w base ok v xs) : Kd.string.R e w base (fun k => v.ownBlock = some k) v xs := by
 have h' : (flat (fun x : BA => [Value.string x]) 1 (fun _ => rfl) (fun x u hu => by rw [List.mem_singleton.1 hu]; rfl)).R e w base ok v xs := h; exact (show (flat (fun x : BA => [Value.string x]) 1 (fun _ => rfl) (fun x u hu => by rw [List.mem_singleton.1 hu]; rfl)).R e w base (fun k => v.ownBlock = some k) v xs from R_flat.2 ⟨fun b hb => hb, (R_flat.1 h').2⟩)
def kOf (l : List (Bs × Value)) : List BA := l.map (fun p => ⟨p.1.toArray⟩)
theorem kOf_length (l : List (Bs × Value)) : (kOf l).length = l.length := List.length_map ..
theorem kOf_srt {f : List (Bs × Value)} (h : Rises f) : Srt (kOf f) := by
 unfold Srt kOf
 rw [List.pairwise_map]; refine List.Pairwise.imp (fun {x y} hxy => ?_) h; rw [lb_mk, lb_mk]
 exact fun h2 => Std.lt_irrefl (Std.lt_trans hxy h2)
set_option maxHeartbeats 6400000 in
set_option maxRecDepth 100000 in
theorem from_map (zs : List (Bs × En)) (b : Nat) (w : World) (hn : zs.length ≤ 1759218604400) (hm : MapA w b (zs.map (fun z => (z.1, z.2.1)))) (hz : ∀ z, z ∈ zs → ∃ F, AR w z.2.1 z.2.2.1 F) (hch : ∀ z, z ∈ zs → FromAt z.2.2.1) :
  Calls Tryd.prog 19 #[.map (some b)] w (Told w (valOf (.map (zs.map (fun z => (z.1, z.2.2.1)))))) := by
 have HK := aM (MapE.key_le akey_u hm); have HRS := aM (MapE.rises (Go.Maps.string_keyed akey_u) hm); have HFL := aM (show (zs.map (fun z => (z.1, z.2.1))).length = zs.length from List.length_map ..); have HM := aM hm; have HZ := aM hz; have HCH := aM hch; have hbl := hm.lt; have HF := aM (show zs.map (fun z => (z.1, z.2.1)) = zs.map (fun z => (z.1, z.2.1)) from rfl); generalize hf : zs.map (fun z => (z.1, z.2.1)) = f at HK HRS HFL HM HF; clear HF; have HF := aM hf; clear hf hm hz hch; have hb0 := zb (Below.refl w.heap.size w) (.cells #[.int .i64 0, .int .i64 0, .string ⟨#[]⟩, .slice none 0 0, .slice none 0 0] 33); have hB0 := zb hb0 (.cells #[.int .i64 0, .int .i64 0, .string ⟨#[]⟩, .slice none 0 0, .slice none 0 0] 33); have hZ0 : ((w.alloc (.cells #[.int .i64 0, .int .i64 0, .string ⟨#[]⟩, .slice none 0 0, .slice none 0 0] 33)).alloc (.cells #[.int .i64 0, .int .i64 0, .string ⟨#[]⟩, .slice none 0 0, .slice none 0 0] 33)).heap[w.heap.size]? = some (.cells zI 33 (0, 0)) := zc (yx _ _) _; have h1 := yx (w.alloc (.cells #[.int .i64 0, .int .i64 0, .string ⟨#[]⟩, .slice none 0 0, .slice none 0 0] 33)) (.cells #[.int .i64 0, .int .i64 0, .string ⟨#[]⟩, .slice none 0 0, .slice none 0 0] 33); rw [World.size_alloc] at h1; have hg := yj ((w.alloc (.cells #[.int .i64 0, .int .i64 0, .string ⟨#[]⟩, .slice none 0 0, .slice none 0 0] 33)).alloc (.cells #[.int .i64 0, .int .i64 0, .string ⟨#[]⟩, .slice none 0 0, .slice none 0 0] 33)) (w.heap.size + 1) #[.int .i64 5, .int .i64 0, .string ⟨#[]⟩, .slice none 0 0, .slice none 0 0]; have HX1 := aM (setRow_heap _ (w.heap.size + 1) _ #[.int .i64 5, .int .i64 0, .string ⟨#[]⟩, .slice none 0 0, .slice none 0 0] _ _ h1); have HB1 := aM (zm hB0 (some (w.heap.size + 1)) hB0.size hg (fun k hk => by injection hk with hk; have h2 : w.heap.size + 1 = k := hk; omega)); have HZ1 := aM ((hg.block w.heap.size (yb hZ0) (fun e => by injection e with e; omega)).trans hZ0); have HM1 := aM (HM.out.below HB1.out)
 have hs1 : (((w.alloc (.cells #[.int .i64 0, .int .i64 0, .string ⟨#[]⟩, .slice none 0 0, .slice none 0 0] 33)).alloc (.cells #[.int .i64 0, .int .i64 0, .string ⟨#[]⟩, .slice none 0 0, .slice none 0 0] 33)).setRow (w.heap.size + 1) #[.int .i64 5, .int .i64 0, .string ⟨#[]⟩, .slice none 0 0, .slice none 0 0]).heap.size = w.heap.size + 2 := by simp [World.setRow]
 clear hb0 hB0 hZ0 hg
 go_enter Tryd.func19, Tryd.ntmps19
 go_wp2_with (first | (refine yt (.tmp 4) (.tmp 10) rfl rfl rfl rfl h1 ?_; generalize ((w.alloc (.cells #[.int .i64 0, .int .i64 0, .string ⟨#[]⟩, .slice none 0 0, .slice none 0 0] 33)).alloc (.cells #[.int .i64 0, .int .i64 0, .string ⟨#[]⟩, .slice none 0 0, .slice none 0 0] 33)).setRow (w.heap.size + 1) #[.int .i64 5, .int .i64 0, .string ⟨#[]⟩, .slice none 0 0, .slice none 0 0] = W1 at HX1 HB1 HZ1 HM1 hs1 ⊢; clear h1) | (at_range; refine range_mapE akey_u amap_u rfl _ rfl rfl HM1.out ?_; intro w0 hrg0 hg0 hs0; rw [hs1] at hrg0 hs0; have HR0 := aM hrg0; have HG0 := aM hg0; have HS0 := aM hs0; clear hrg0 hg0 hs0))
 go_frame
 rw [hs1]; have HX0 := aM ((HG0.out.block (w.heap.size + 1) (by omega) (by simp)).trans HX1.out); have HZ0 := aM ((HG0.out.block w.heap.size (by omega) (by simp)).trans HZ1.out); have HB0 := aM (zm HB1.out none HB1.out.size HG0.out (fun k hk => by cases hk)); have hs0 := HS0.out; clear HG0 HX1 HZ1 HB1 HM1 HS0
 go_loopw [5] (fun v5 wr => ∃ (dn lf : List (Bs × Value)) (A0 : Option Addr) (c0 : Nat), Aside0 (Ranges Tryd.prog 9 id wr b (w.heap.size + 2) f lf) ∧ Aside0 (wr.heap[w.heap.size + 1]? = some (.cells #[.int .i64 5, .int .i64 0, .string ⟨#[]⟩, .slice A0 dn.length c0, .slice none 0 0] 33 (0, 0))) ∧ Aside0 (Kd.string.R 9 wr (w.heap.size + 3) (fun _ => True) (.slice A0 dn.length c0) (kOf dn)) ∧ Aside0 ((dn ++ lf).Perm f) ∧ Aside0 (Below w.heap.size w wr) ∧ Aside0 (wr.heap[w.heap.size]? = some (.cells zI 33 (0, 0))) ∧ w.heap.size + 3 ≤ wr.heap.size) (fun _ wr => wr.rangeLeft b (w.heap.size + 2))
 case atStart => exact ⟨[], f, none, 0, HR0, HX0, ⟨Kd.R_nil _ _ _ _ _⟩, ⟨List.Perm.refl _⟩, HB0, HZ0, by omega⟩
 case round =>
  clear HR0 HX0 HB0 HZ0 hs0; obtain ⟨dn, lf, A0, c0, HR, HX, HV, HP, HB, HZ0, hsz⟩ := hrel; have hcell : wr.cell? ⟨w.heap.size + 1, 3, none⟩ = some (.slice A0 dn.length c0) := zr (i := 3) HX.out rfl
  have hlen : dn.length + lf.length = zs.length := by rw [← HFL.out, ← HP.out.length_eq, List.length_append]
  have HL := aM hlen; clear hlen
  go_wp2_with (first | (at_next; refine next_mapA akey_u rfl _ rfl rfl HR.out (fun hd => ?_) (fun x c w2 hx hen => ?_); rotate_left; (have HX2 := aM (show w2.heap[w.heap.size + 1]? = some (.cells #[.int .i64 5, .int .i64 0, .string ⟨#[]⟩, .slice A0 dn.length c0, .slice none 0 0] 33 (0, 0)) from (hx.out.2.2.2.2.1.block _ (yb HX.out) (by simp)).trans HX.out)); (have hc2 : w2.cell? ⟨w.heap.size + 1, 3, none⟩ = some (.slice A0 dn.length c0) := zr (i := 3) HX2.out rfl); (have HV2 := aM (Kd.R_mono (ok' := fun _ => True) (Kd.R_grown (Kd.R_bound HV.out) hx.out.2.2.2.2.1 (fun k hk e => by have h2 := Option.some.inj e; have h3 := hk.2.1; omega)) (fun _ _ => trivial))); (have HB2 := aM (zm HB.out (some (w.heap.size + 2)) HB.out.size hx.out.2.2.2.2.1 (fun k hk => by injection hk with hk; omega))); (have hsz2 : w.heap.size + 3 ≤ w2.heap.size := by have := hx.out.2.2.2.2.2; omega); (have hfit : ((kOf dn).length + 1) * 16 ≤ 140737488355328 := by rw [kOf_length]; have := HL.out; omega); rotate_right) | (at_builtin; refine Kd.R_append Kd.string (w0 := w2) (w.heap.size + 3) rfl (.tmp 18) (.tmp 20) 22 9 (.string ⟨#[]⟩) 16 rfl Tryd.underlying22 yn rfl (show 0 < 1 by decide) (by decide) (.slice A0 dn.length c0) (kOf dn) x [.string x] (fun _ => True) (fun _ => False) rfl rfl rfl (fun _ h => h.elim) (fun _ _ => trivial) HV2.out (Below.refl _ _) hsz2 hfit ?_; intro v1 w3 ho hb3 hg3 hat; obtain ⟨A1, c1, rfl⟩ := Kd.R_slice ho; have HV3 := aM ho; have HB3 := aM hb3; have HG3 := aM hg3; clear ho hb3 hg3 hat; have HX3 := aM ((HB3.out.block (w.heap.size + 1) (by omega)).trans HX2.out); have hc3 : w3.cell? ⟨w.heap.size + 1, 3, none⟩ = some (.slice A0 dn.length c0) := zr (i := 3) HX3.out rfl; have hf3 := xh (i := 3) HX3.out))
  ·-- all have come: they are sorted; then a value each
   have hpf : dn.Perm f := by have := HP.out; rw [hd.out, List.append_nil] at this; exact this
   have hdl : dn.length = zs.length := by rw [← HFL.out]; exact hpf.length_eq
   have HPK := aM (show (kOf dn).Perm (kOf f) from hpf.map _); rw [hdl] at HX HV ⊢; clear hpf hd hcell HL HP HR hdl; refine (sort_any wr HV.out (by rw [HPK.out.length_eq, kOf_length, HFL.out]; exact hn)).mono ?_; rintro e w5 ⟨rfl, ys, hys, hpm, hsr, hg5⟩; obtain rfl : ys = kOf f := srt_unique hsr (kOf_srt HRS.out) (hpm.trans HPK.out)
   have hown : ∀ k, (Value.slice A0 zs.length c0).ownBlock = some k → w.heap.size + 3 ≤ k ∧ k < wr.heap.size := fun k hk => ⟨((Kd.R_bound HV.out).1 k hk).2.1, ((Kd.R_bound HV.out).1 k hk).2.2.1⟩
   have hHX5 := (hg5.block (w.heap.size + 1) (by omega) (fun e => by have := hown _ e.symm; omega)).trans HX.out; have HX5 := aM hHX5; have HZ5 := aM ((hg5.block w.heap.size (by omega) (fun e => by have := hown _ e.symm; omega)).trans HZ0.out); have HB5 := aM (zm HB.out _ HB.out.size hg5 (fun k hk => by have := hown k hk; omega)); have HV5 := aM hys; have hc5 : w5.cell? ⟨w.heap.size + 1, 3, none⟩ = some (.slice A0 zs.length c0) := zr (i := 3) hHX5 rfl; clear hys hpm hsr hown hHX5 HX HZ0 HB HV HPK hg5
   go_wp2
   go_loopw [29, 7, 8, 9] (fun v29 v7 v8 v9 wq => ∃ (i : Nat) (A2 : Option Addr) (c2 : Nat), v29 = .int .i64 i ∧ i ≤ zs.length ∧ Aside0 (wq.heap[w.heap.size + 1]? = some (.cells #[.int .i64 5, .int .i64 0, .string ⟨#[]⟩, .slice A0 zs.length c0, .slice A2 i c2] 33 (0, 0))) ∧ Aside0 (Kd.string.R 9 wq (w.heap.size + 3) (fun _ => True) (.slice A0 zs.length c0) (kOf f)) ∧ Aside0 (kI.R 33 wq (w.heap.size + 3) (fun k => some k ≠ (Value.slice A0 zs.length c0).ownBlock) (.slice A2 i c2) ((zs.take i).map (fun z => valOf z.2.2.1))) ∧ Aside0 (Below w.heap.size w wq) ∧ Aside0 (wq.heap[w.heap.size]? = some (.cells zI 33 (0, 0)))) (fun v29 _ _ _ _ => zs.length - (intOf v29).toNat)
   case atStart => exact ⟨0, none, 0, rfl, by omega, HX5, HV5, ⟨Kd.R_nil _ _ _ _ _⟩, HB5, HZ5⟩
   case round =>
    clear HX5 HV5 HB5 HZ5 hc5; obtain ⟨i, A2, c2, rfl, hiv, HX, HV, HR, HB, HZ0⟩ := hrel
    have q0 : (0 : Int) ≤ (i : Int) := by omega
    have hown : ∀ k, (Value.slice A0 zs.length c0).ownBlock = some k → w.heap.size + 3 ≤ k ∧ k < wr.heap.size := fun k hk => ⟨((Kd.R_bound HV.out).1 k hk).2.1, ((Kd.R_bound HV.out).1 k hk).2.2.1⟩
    by_cases hlv : i < zs.length
    ·have q2 : (i : Int) < (zs.length : Int) := by omega
     have hkl : (kOf f).length = zs.length := by rw [kOf_length, HFL.out]
     obtain ⟨hn0, hnc, hC⟩ := Kd.R_reads' HV.out; obtain ⟨kb, ko, rfl, hkb, hkc⟩ := strs_open hC (by omega); have hf1 : (zs[i]'hlv).1 = (zs[i]'hlv).1 := rfl
     have hfm : ((zs[i]'hlv).1, (zs[i]'hlv).2.1) ∈ f := by rw [← HF.out]; exact List.mem_map.2 ⟨zs[i]'hlv, List.getElem_mem hlv, rfl⟩
     have e0 : wr.cell? ⟨kb, ko + i, none⟩ = some (.string ⟨(zs[i]'hlv).1.toArray⟩) := by
      have h := hkc i (by omega)
      have h2 : (kOf f)[i]'(by omega) = ⟨(zs[i]'hlv).1.toArray⟩ := by
       have : f[i]'(by rw [HFL.out]; exact hlv) = ((zs[i]'hlv).1, (zs[i]'hlv).2.1) := by simp [← HF.out]
       unfold kOf
       rw [List.getElem_map, this]
      rw [h2] at h; exact h
     have hks : (⟨(zs[i]'hlv).1.toArray⟩ : BA).size ≤ maxLen := by have := HK.out _ hfm; simpa [ByteArray.size] using this
     have hlk := run_look_mapE (s := ⟨(zs[i]'hlv).1.toArray⟩) akey_u amap_u (Tryd.zeroValue20 wr) (HM.out.below HB.out) hks; rw [lb_mk, xt HRS.out hfm] at hlk; have CA := aM (show ∀ (W : World) (hb : Below w.heap.size w W), Calls Tryd.prog 25 #[(zs[i]'hlv).2.1] W (Told W (valOf (zs[i]'hlv).2.2.1)) from fun W hb => by obtain ⟨F, hF⟩ := HZ.out zs[i] (List.getElem_mem hlv); exact HCH.out zs[i] (List.getElem_mem hlv) zs[i].2.1 _ W (hF.keep hb)); clear hkl hn0 hnc hC hkc hf1 hfm hks
     go_wp2_with fail
     refine (CA.out wr HB.out).mono ?_; rintro e w3 ⟨v3, v4, rfl, hv3, hv4, hb3⟩; have HXE := aM (show (zs.take (i + 1)).map (fun z => valOf z.2.2.1) = ((zs.take i).map (fun z => valOf z.2.2.1)) ++ [valOf (zs[i]'hlv).2.2.1] by rw [List.take_succ_eq_append_getElem hlv, List.map_append]; rfl); generalize valOf (zs[i]'hlv).2.2.1 = x at hv3 hv4 HXE; obtain ⟨x0, x1, x2, x3, x4⟩ := x; obtain ⟨A3, c3, rfl⟩ := Kd.R_slice hv3; obtain ⟨A4, c4, rfl⟩ := Kd.R_slice hv4; have hW := zb hb3 (.cells #[.int .i64 0, .int .i64 0, .string ⟨#[]⟩, .slice none 0 0, .slice none 0 0] 33); have h5 := yx w3 (.cells #[.int .i64 0, .int .i64 0, .string ⟨#[]⟩, .slice none 0 0, .slice none 0 0] 33); have hg5 := yj (w3.alloc (.cells #[.int .i64 0, .int .i64 0, .string ⟨#[]⟩, .slice none 0 0, .slice none 0 0] 33)) w3.heap.size #[.int .i64 x0, .int .i64 x1, .string x2, .slice A3 x3.length c3, .slice A4 x4.length c4]; have hb5 := zm hW (some w3.heap.size) hW.size hg5 (fun k hk => by injection hk with hk; have := hb3.size; omega); have h6 := setRow_heap _ w3.heap.size _ #[.int .i64 x0, .int .i64 x1, .string x2, .slice A3 x3.length c3, .slice A4 x4.length c4] _ _ h5
     have hm5 : ∀ k, k < w3.heap.size → ((w3.alloc (.cells #[.int .i64 0, .int .i64 0, .string ⟨#[]⟩, .slice none 0 0, .slice none 0 0] 33)).setRow w3.heap.size #[.int .i64 x0, .int .i64 x1, .string x2, .slice A3 x3.length c3, .slice A4 x4.length c4]).heap[k]? = w3.heap[k]? := fun k hk => (hg5.block k (by rw [World.size_alloc]; omega) (fun e => by injection e with e; omega)).trans ((zb (Below.refl w3.heap.size w3) _).block k hk)
     have hwr := (yb HX.out)
     have hwr2 : w.heap.size + 3 ≤ wr.heap.size := by have := hown kb rfl; omega
     have HX5 := aM ((hb5.block _ (yb HX.out)).trans HX.out); have x4_ := zr (i := 4) HX5.out rfl; have HZ5 := aM ((hb5.block _ (yb HZ0.out)).trans HZ0.out); have HV5 := aM (Kd.R_below HV.out hb5); have HR5 := aM (Kd.R_below HR.out hb5); have HB5 := aM (yq HB.out hb5)
     have HM5 := aM (k33_mkM ((w3.alloc (.cells #[.int .i64 0, .int .i64 0, .string ⟨#[]⟩, .slice none 0 0, .slice none 0 0] 33)).setRow w3.heap.size #[.int .i64 x0, .int .i64 x1, .string x2, .slice A3 x3.length c3, .slice A4 x4.length c4]) (w.heap.size + 3) (fun k => wr.heap.size ≤ k ∧ k < w3.heap.size) ⟨x0, x1, x2, x3, x4⟩
      (Kd.R_lower (Kd.R_move (Kd.R_mono (ok' := (fun k => wr.heap.size ≤ k ∧ k < w3.heap.size)) (Kd.R_bound hv3) (fun k hk => ⟨hk.2.1, hk.2.2.1⟩)) (fun k hk => hm5 k hk.2)) hwr2)
      (Kd.R_lower (Kd.R_move (Kd.R_mono (ok' := (fun k => wr.heap.size ≤ k ∧ k < w3.heap.size)) (Kd.R_bound hv4) (fun k hk => ⟨hk.2.1, hk.2.2.1⟩)) (fun k hk => hm5 k hk.2)) hwr2))
     have HOK := aM (show ∀ k, wr.heap.size ≤ k ∧ k < w3.heap.size → (some k ≠ (Value.slice (some ⟨kb, ko, none⟩) zs.length c0).ownBlock) ∧ some k ≠ (Value.slice A2 i c2).ownBlock from fun k hk => ⟨fun e => by have := hown k e.symm; omega, fun e => by have := ((Kd.R_bound HR.out).1 k e.symm).2.2.1; omega⟩); have hsz : w.heap.size + 3 ≤ ((w3.alloc (.cells #[.int .i64 0, .int .i64 0, .string ⟨#[]⟩, .slice none 0 0, .slice none 0 0] 33)).setRow w3.heap.size #[.int .i64 x0, .int .i64 x1, .string x2, .slice A3 x3.length c3, .slice A4 x4.length c4]).heap.size := Nat.le_trans hwr2 hb5.size
     have hfr : ∀ k, ((w3.alloc (.cells #[.int .i64 0, .int .i64 0, .string ⟨#[]⟩, .slice none 0 0, .slice none 0 0] 33)).setRow w3.heap.size #[.int .i64 x0, .int .i64 x1, .string x2, .slice A3 x3.length c3, .slice A4 x4.length c4]).heap.size ≤ k → some k ≠ (Value.slice (some ⟨kb, ko, none⟩) zs.length c0).ownBlock := fun k hk e => by have h1 := hown k e.symm; have h2 := hb5.size; omega
     have HFR := aM hfr
     have hlow : ∀ k, (Value.slice (some ⟨kb, ko, none⟩) zs.length c0).ownBlock = some k → w.heap.size + 3 ≤ k := fun k hk => (hown k hk).1
     clear hv3 hv4 hW hg5 hb5 hm5 HX HV HR HB HZ0 hwr hwr2 hown hfr
     go_wp2_with (first | (refine yt (.tmp 8) (.tmp 38) rfl rfl rfl rfl h5 ?_; generalize (w3.alloc (.cells #[.int .i64 0, .int .i64 0, .string ⟨#[]⟩, .slice none 0 0, .slice none 0 0] 33)).setRow w3.heap.size #[.int .i64 x0, .int .i64 x1, .string x2, .slice A3 x3.length c3, .slice A4 x4.length c4] = W5 at h6 x4_ HX5 HZ5 HV5 HR5 HB5 HM5 HFR hsz ⊢; clear h5) | refine load_ival (.tmp 8) rfl rfl rfl h6 ?_ | refine Kd.R_append kI (w0 := W5) (w.heap.size + 3) rfl (.tmp 44) (.tmp 46) 31 33 (.agg #[.int .i64 0, .int .i64 0, .string ⟨#[]⟩, .slice none 0 0, .slice none 0 0]) 80 rfl Tryd.underlying31 info_iv rfl (show 0 < 5 by decide) (by decide) (.slice A2 i c2) ((zs.take i).map (fun z => valOf z.2.2.1)) ⟨x0, x1, x2, x3, x4⟩ _ (fun k => some k ≠ (Value.slice (some ⟨kb, ko, none⟩) zs.length c0).ownBlock) _ rfl rfl HM5.out HOK.out HFR.out HR5.out (Below.refl _ _) hsz (by rw [List.length_map, List.length_take]; omega) ?_)
     intro v1 w6 ho hb6 hg6 hat; rw [← List.map_take, ← HXE.out] at ho
     have hlen : ((zs.take (i + 1)).map (fun z => valOf z.2.2.1)).length = i + 1 := by rw [List.length_map, List.length_take]; omega
     obtain ⟨A5, c5, rfl⟩ := Kd.R_slice ho; rw [hlen] at ho hat ⊢; have hB6 := zm HB5.out (Value.slice A2 i c2).ownBlock HB5.out.size hg6 (fun k hk => by have := Kd.R_base HR5.out k hk; omega); have hX6 := (hb6.block (w.heap.size + 1) (by omega)).trans HX5.out; have hZ6 := (hb6.block w.heap.size (by omega)).trans HZ5.out; have hV6 := Kd.R_mono (ok' := fun _ => True) (Kd.R_grown (str_own HV5.out) hg6 (fun k hk e => HR5.out.1 k e.symm hk.symm)) (fun _ _ => trivial); have HX7 := aM (cb_set hX6 (i := 4) (.slice A5 (i + 1) c5)); have hg7 := zz w6 (w.heap.size + 1) 4 (.slice A5 (i + 1) c5); have HB7 := aM (zm hB6 (some (w.heap.size + 1)) hB6.size hg7 (fun k hk => by injection hk with hk; omega)); have HZ7 := aM ((hg7.block w.heap.size (yb hZ6) (fun e => by injection e with e; omega)).trans hZ6); have HV7 := aM (Kd.R_mono (ok' := fun _ => True) (Kd.R_grown (Kd.R_bound hV6) hg7 (fun k hk e => by have h2 := Option.some.inj e; have h3 := hk.2.1; omega)) (fun _ _ => trivial)); have HR7 := aM (Kd.R_mono (ok' := fun k => some k ≠ (Value.slice (some ⟨kb, ko, none⟩) zs.length c0).ownBlock) (Kd.R_move (Kd.R_bound ho) (fun k hk => hg7.block k hk.2.2.1 (fun e => by have h2 := Option.some.inj e; have h3 := hk.2.1; omega))) (fun _ hk => hk.1)); have y4 := zr (i := 4) hX6 rfl; have y5 := xh (i := 4) hX6; clear ho hat hlen hB6 hX6 hZ6 hV6 hb6 hg6 hg7 HX5 HZ5 HV5 HR5 HB5 HM5 HOK HXE CA x4_ h6 hsz HFR
     go_wp2
     go_roundw
     case rel => exact ⟨i + 1, A5, c5, by go_num, by omega, HX7, HV7, HR7, HB7, HZ7⟩
     case measure => simp [intOf]; omega
    ·have hin : i = zs.length := by omega
     subst hin; have hg8 := yj wr w.heap.size #[.int .i64 5, .int .i64 0, .string ⟨#[]⟩, .slice A0 zs.length c0, .slice A2 zs.length c2]; have HX8 := aM (setRow_heap _ w.heap.size _ #[.int .i64 5, .int .i64 0, .string ⟨#[]⟩, .slice A0 zs.length c0, .slice A2 zs.length c2] _ _ HZ0.out); have HB8 := aM (zm HB.out (some w.heap.size) HB.out.size hg8 (fun k hk => by injection hk with hk; omega)); have hR := HR.out; rw [List.take_length] at hR; have HR8 := aM (Kd.R_lower (base' := w.heap.size) (Kd.R_mono (ok' := fun _ => True) (Kd.R_move (Kd.R_bound hR) (fun k hk => hg8.block k hk.2.2.1 (fun e => by have h2 := Option.some.inj e; have h3 := hk.2.1; omega))) (fun _ _ => trivial)) (by omega))
     have hKO : kOf f = (zs.map (fun z => (z.1, z.2.2.1))).map (fun p => (⟨p.1.toArray⟩ : BA)) := by rw [← HF.out]; unfold kOf; rw [List.map_map, List.map_map]; rfl
     have HV8 := aM (Kd.R_lower (base' := w.heap.size) (Kd.R_mono (ok' := fun _ => True) (Kd.R_move (Kd.R_bound HV.out) (fun k hk => hg8.block k hk.2.2.1 (fun e => by have h2 := Option.some.inj e; have h3 := hk.2.1; omega))) (fun _ _ => trivial)) (by omega)); rw [hKO] at HV8; have h11 := HX.out; have h2 := HZ0.out; clear hR hg8 hown hKO
     go_wp2_with (first | refine load_ival (.tmp 4) rfl rfl rfl h11 ?_ | refine yt (.tmp 2) (.tmp 50) rfl rfl rfl rfl h2 ?_)
     exact bodyPost_ret (v := .tuple #[.agg #[.int .i64 5, .int .i64 0, .string ⟨#[]⟩, .slice A0 zs.length c0, .slice A2 zs.length c2], .bool true]) (told_row rfl rfl rfl HX8.out) rfl ⟨.slice A0 zs.length c0, .slice A2 zs.length c2, by simp [valOf], by simp only [valOf]; exact HV8.out, by simp only [valOf]; rw [valM_map, List.map_map]; exact HR8.out, HB8.out⟩
  ·-- a key more
   have hl : (kOf dn).length + 1 = (dn ++ [(lb x, c)]).length := by rw [kOf_length, List.length_append, List.length_singleton]
   have hk : kOf dn ++ [x] = kOf (dn ++ [(lb x, c)]) := by unfold kOf; rw [List.map_append]; simp
   have hown : ∀ k, (Value.slice A0 dn.length c0).ownBlock = some k → w.heap.size + 3 ≤ k := fun k hk => ((Kd.R_bound HV2.out).1 k hk).2.1
   have nb : ∀ j, j < w.heap.size + 3 → some j ≠ (Value.slice A0 dn.length c0).ownBlock := fun j hj e => by have := hown j e.symm; omega
   rw [hk] at HV3; rw [hl]; rw [show (kOf (dn ++ [(lb x, c)])).length = (dn ++ [(lb x, c)]).length from kOf_length _] at HV3; have hg7 := zz w3 (w.heap.size + 1) 3 (.slice A1 (dn ++ [(lb x, c)]).length c1); have HG7 := aM hg7; have hHB3 : Below w.heap.size w w3 := zm HB2.out _ HB2.out.size HG3.out (fun k hk => by have := hown k hk; omega); have hpm : lf.Perm ((lb x, c) :: mdel lf (lb x)) := rises_take ((HRS.out.sublist HR.out.sub).imp (fun {p q} h => lt_ne h)) hx.out.1; clear hl hk
   go_roundw
   case rel =>
    refine ⟨dn ++ [(lb x, c)], mdel lf (lb x), A1, c1, ⟨?_⟩, ⟨cb_set HX3.out _⟩, ⟨?_⟩, ⟨?_⟩, ⟨?_⟩, ⟨?_⟩, ?_⟩
    ·exact (hx.out.2.2.1.kept HG3.out (nb _ (by omega)) (nb _ (by omega))).kept hg7 (fun e => by have := Option.some.inj e; omega) (fun e => by have := Option.some.inj e; omega)
    ·exact Kd.R_mono (Kd.R_grown (Kd.R_bound HV3.out) hg7 (fun k hk e => by have h2 := Option.some.inj e; have h3 := hk.2.1; omega)) (fun _ _ => trivial)
    ·rw [List.append_assoc]; exact ((hpm.symm).append_left dn).trans HP.out
    ·exact zm hHB3 (some (w.heap.size + 1)) hHB3.size hg7 (fun k hk => by have := Option.some.inj hk; omega)
    ·exact (hg7.block w.heap.size (by have := HG3.out.size; omega) (fun e => by have := Option.some.inj e; omega)).trans ((HB3.out.block w.heap.size (by omega)).trans ((hx.out.2.2.2.2.1.block w.heap.size (by omega) (fun e => by have := Option.some.inj e; omega)).trans HZ0.out))
    ·have h1 := hg7.size; have h2 := HG3.out.size; omega
   case measure =>
    have e1 := left_same' (b := b) (r := w.heap.size + 2) (w := w2) (w' := w3.setCell ⟨w.heap.size + 1, 3, none⟩ (.slice A1 (dn ++ [(lb x, c)]).length c1)) ?_ ?_
    ·rw [e1]; exact hx.out.2.2.2.1
    ·rw [hg7.block b (by have := hHB3.size; omega) (fun e => by have := Option.some.inj e; omega), HG3.out.block b (by omega) (nb _ (by omega))]
    ·rw [hg7.block _ (by have := HG3.out.size; omega) (fun e => by have := Option.some.inj e; omega), HG3.out.block _ (by omega) (nb _ (by omega))]
end Go.Proofs.YtmpmekliaicecaaDoor.Tr
namespace Go.Proofs.YtmpmekliaicecaaDoor.Tr
open Go.RowKit Go.Proofs.YtmpmekliaicecaaDoorW.PrintWords Go.Proofs.YtmpmekliaicecaaDoorW.PrintLast Go.Proofs.YtmpmekliaicecaaDoor.Str Go.Proofs.YtmpmekliaicecaaDoor.Kit Go.Proofs.YtmpmekliaicecaaDoor.MapV Go.Proofs.YtmpmekliaicecaaDoor.Frame Go.Proofs.YtmpmekliaicecaaDoor.PS
theorem t_map_bool (v : Value) (w : World) : (Instr.typeAssert (.iface 45 v) 20 4 true).run Tryd.prog w = .ok (.tuple #[.bool false, .bool false]) w := by kernel_rfl
theorem t_map_int (v : Value) (w : World) : (Instr.typeAssert (.iface 45 v) 20 3 true).run Tryd.prog w = .ok (.tuple #[.int .i64 0, .bool false]) w := by kernel_rfl
theorem t_map_i64 (v : Value) (w : World) : (Instr.typeAssert (.iface 45 v) 20 2 true).run Tryd.prog w = .ok (.tuple #[.int .i64 0, .bool false]) w := by kernel_rfl
theorem t_map_u64 (v : Value) (w : World) : (Instr.typeAssert (.iface 45 v) 20 57 true).run Tryd.prog w = .ok (.tuple #[.int .u64 0, .bool false]) w := by kernel_rfl
theorem t_map_str (v : Value) (w : World) : (Instr.typeAssert (.iface 45 v) 20 9 true).run Tryd.prog w = .ok (.tuple #[.string ⟨#[]⟩, .bool false]) w := by kernel_rfl
theorem t_map_lst (v : Value) (w : World) : (Instr.typeAssert (.iface 45 v) 20 58 true).run Tryd.prog w = .ok (.tuple #[.slice none 0 0, .bool false]) w := by kernel_rfl
theorem t_map_map (v : Value) (w : World) : (Instr.typeAssert (.iface 45 v) 20 45 true).run Tryd.prog w = .ok (.tuple #[v, .bool true]) w := by kernel_rfl
inductive FitsY : Y → Prop
 | null : FitsY .null
 | bool (b) : FitsY (.bool b)
 | int (n) : FitsY (.int n)
 | text (s) : FitsY (.text s)
 | list (l : List Y) (hl : l.length ≤ 1759218604400) (h : ∀ y, y ∈ l → FitsY y) : FitsY (.list l)
 | map (m : List (Bs × Y)) (hl : m.length ≤ 1759218604400) (hk : ∀ p, p ∈ m → p.1.length ≤ maxLen) (h : ∀ p, p ∈ m → FitsY p.2) : FitsY (.map m)
set_option maxHeartbeats 1600000 in
theorem from_amap (b : Nat) (w : World) (y : Y) (hm : ∀ W, Below w.heap.size w W → Calls Tryd.prog 19 #[.map (some b)] W (Told W (valOf y))) :
  Calls Tryd.prog 25 #[.iface 45 (.map (some b))] w (Told w (valOf y)) := by
 have f0 := t_map_bool; have f1 := t_map_int; have f2 := t_map_i64; have f3 := t_map_u64; have f4 := t_map_str; have f5 := t_map_lst; have f6 := t_map_map; have h0 := aM (yx w (.cells #[.int .i64 0, .int .i64 0, .string ⟨#[]⟩, .slice none 0 0, .slice none 0 0] 33)); have HB := aM (zb (Below.refl w.heap.size w) (.cells #[.int .i64 0, .int .i64 0, .string ⟨#[]⟩, .slice none 0 0, .slice none 0 0] 33)); have CM := aM (hm _ HB.out); clear hm; generalize valOf y = x at CM; obtain ⟨x0, x1, x2, x3, x4⟩ := x
 go_enter Tryd.func25, Tryd.ntmps25
 go_wp2_with fail
 refine CM.out.mono ?_; rintro e w3 ⟨v3, v4, rfl, hv3, hv4, hb3⟩; obtain ⟨A3, c3, rfl⟩ := Kd.R_slice hv3; obtain ⟨A4, c4, rfl⟩ := Kd.R_slice hv4; have h1 := (hb3.block _ (yb h0.out)).trans h0.out; have hg := yj w3 w.heap.size #[.int .i64 x0, .int .i64 x1, .string x2, .slice A3 x3.length c3, .slice A4 x4.length c4]; have HX := aM (setRow_heap _ w.heap.size _ #[.int .i64 x0, .int .i64 x1, .string x2, .slice A3 x3.length c3, .slice A4 x4.length c4] _ _ h1); have hb := yq HB.out hb3; have HB8 := aM (zm hb (some w.heap.size) hb.size hg (fun k hk => by have := Option.some.inj hk; omega)); have hbase := HB.out.size; have hlt := yb h0.out; have H3 := aM (Kd.R_lower (base' := w.heap.size) (Kd.R_mono (ok' := fun _ => True) (Kd.R_move (Kd.R_bound hv3) (fun k hk => hg.block k hk.2.2.1 (fun e => by have h2 := Option.some.inj e; have h3 := hk.2.1; omega))) (fun _ _ => trivial)) hbase); have H4 := aM (Kd.R_lower (base' := w.heap.size) (Kd.R_mono (ok' := fun _ => True) (Kd.R_move (Kd.R_bound hv4) (fun k hk => hg.block k hk.2.2.1 (fun e => by have h2 := Option.some.inj e; have h3 := hk.2.1; omega))) (fun _ _ => trivial)) hbase); clear hv3 hv4 hb3 hg hb hbase hlt HB h0 CM
 go_wp2_with (refine yt (.tmp 2) (.tmp 79) rfl rfl rfl rfl h1 ?_)
 exact bodyPost_ret (v := .tuple #[.agg #[.int .i64 x0, .int .i64 x1, .string x2, .slice A3 x3.length c3, .slice A4 x4.length c4], .bool true]) (told_row rfl rfl rfl HX.out) rfl ⟨.slice A3 x3.length c3, .slice A4 x4.length c4, rfl, H3.out, H4.out, HB8.out⟩
theorem from_any {y : Y} (h : FitsY y) : FromAt y := by
 induction h with
 | null => intro v F w ha; cases ha; exact from_null w
 | bool b =>
  intro v F w ha
  cases ha
  cases b
  ·exact from_bfalse w
  ·exact from_btrue w
 | int n => intro v F w ha; cases ha; exact from_int n w
 | text s => intro v F w ha; cases ha; exact from_text s w
 | list l hl h ih =>
  intro v F w ha
  cases ha with
  | list v zs _ _ hy hr hz hd hb hF =>
   subst hy; obtain ⟨A, c, rfl⟩ := Kd.R_slice hr; obtain ⟨hn, hc, hC⟩ := Kd.R_reads' hr; rw [List.length_map] at hC hl ⊢; exact from_list zs A c w hl hC hz (fun z hzz => ih z.2.1 (List.mem_map.2 ⟨z, hzz, rfl⟩))
 | map m hl hk h ih =>
  intro v F w ha
  cases ha with
  | map b zs _ _ hy hm hz hd hb hF =>
   subst hy; rw [List.length_map] at hl; exact from_amap b w _ (fun W hb => from_map zs b W hl (hm.below hb) (fun z hzz => ⟨_, (hz z hzz).keep hb⟩) (fun z hzz => ih (z.1, z.2.2.1) (List.mem_map.2 ⟨z, hzz, rfl⟩)))
end Go.Proofs.YtmpmekliaicecaaDoor.Tr
namespace Go.Proofs.YtmpmekliaicecaaDoor.Tr
open Go.RowKit Go.Proofs.YtmpmekliaicecaaDoorW.PrintWords Go.Proofs.YtmpmekliaicecaaDoor.Str Go.Proofs.YtmpmekliaicecaaDoor.Kit Go.Proofs.YtmpmekliaicecaaDoor.MapV Go.Proofs.YtmpmekliaicecaaDoor.Frame Go.Proofs.YtmpmekliaicecaaDoor.PS
theorem fold_mem {α : Type} : ∀ (l f : List (Bs × α)) (p : Bs × α), p ∈ l.foldl (fun f p => mput f p.1 p.2) f → p ∈ f ∨ p ∈ l
 | [], f, p, h => .inl h
 | q :: r, f, p, h => by
  rcases fold_mem r (mput f q.1 q.2) p h with h | h
  ·rcases mput_mem h with rfl | h
   ·exact .inr (by simp)
   ·exact .inl h
  ·exact .inr (by simp [h])
theorem fitM_mem {α : Type} {l : List (Bs × α)} {p : Bs × α} (h : p ∈ fitM l) : p ∈ l := by
 rcases fold_mem l [] p h with h | h
 ·simp at h
 ·exact h
inductive Norm : Y → Prop
 | null : Norm .null
 | bool (b) : Norm (.bool b)
 | int (n) : Norm (.int n)
 | text (s) : Norm (.text s)
 | list (l : List Y) (h : ∀ y, y ∈ l → Norm y) : Norm (.list l)
 | map (m : List (Bs × Y)) (hr : Rises m) (h : ∀ p, p ∈ m → Norm p.2) : Norm (.map m)
theorem mput_last {α : Type} {f : List (Bs × α)} {k : Bs} {v : α} (h : Rises (f ++ [(k, v)])) : mput f k v = f ++ [(k, v)] := by
 have hr : Rises f := h.sublist (List.sublist_append_left _ _)
 have hl : ∀ p ∈ f, p.1 < k := fun p hp => (List.pairwise_append.1 h).2.2 p hp (k, v) (by simp)
 refine rises_ext (mput_rises hr _ _) h (fun q => ?_); rw [mget_mput]
 by_cases hq : k = q
 ·subst hq; rw [if_pos rfl]; exact (xt h (by simp)).symm
 ·rw [if_neg hq]
  cases hg : mget f q with
  | none =>
   cases hg2 : mget (f ++ [(k, v)]) q with
   | none => rfl
   | some u =>
    have := mget_some hg2
    rcases List.mem_append.1 this with h1 | h1
    ·exact absurd rfl (mget_none hg _ h1)
    ·simp at h1
     exact absurd h1.1.symm hq
  | some u => exact (xt h (by simp [mget_some hg])).symm
theorem fitM_rises_aux {α : Type} : ∀ (l f : List (Bs × α)), Rises (f ++ l) → l.foldl (fun f p => mput f p.1 p.2) f = f ++ l
 | [], f, _ => by simp
 | (k, v) :: r, f, h => by
  have e : f ++ (k, v) :: r = (f ++ [(k, v)]) ++ r := by simp
  have h2 : mput f k v = f ++ [(k, v)] := mput_last (h.sublist (by rw [e]; exact List.sublist_append_left _ _)); rw [List.foldl_cons]
  show List.foldl _ (mput f k v) r = _
  rw [h2, fitM_rises_aux r _ (by rw [← e]; exact h), e]
theorem fitM_of_rises {α : Type} {m : List (Bs × α)} (h : Rises m) : fitM m = m := fitM_rises_aux m [] (by simpa using h)
theorem back {y : Y} (h : Norm y) : anyOf (valOf y) = y := by
 induction h with
 | null => simp [valOf, anyOf]
 | bool b => cases b <;> simp [valOf, anyOf]
 | int n => simp [valOf, anyOf]
 | text s => simp [valOf, anyOf]
 | list l h ih =>
  simp only [valOf, anyOf]; rw [if_neg (by decide), if_neg (by decide), if_neg (by decide), if_pos trivial, xj, valL_map, List.map_map]; exact congrArg Y.list ((List.map_congr_left (fun y hy => ih y hy)).trans (List.map_id l))
 | map m hr h ih =>
  simp only [valOf, anyOf]; rw [if_neg (by decide), if_neg (by decide), if_neg (by decide), if_neg (by decide), if_pos trivial, xj, valM_map, List.map_map, List.map_map]; have e1 : m.map (lb ∘ fun p => (⟨p.1.toArray⟩ : BA)) = m.map (fun p => p.1) := List.map_congr_left (fun p _ => lb_mk p.1); have e2 : m.map (anyOf ∘ fun p => valOf p.2) = m.map (fun p => p.2) := List.map_congr_left (fun p hp => ih p hp); rw [e1, e2, List.zip_map']; have e3 : m.map (fun p => (p.1, p.2)) = m := (List.map_congr_left (fun p _ => rfl)).trans (List.map_id m); rw [e3, fitM_of_rises hr]
theorem pairs_mem {ks : List BA} {vs : List VI} {p : Bs × Y} (h : p ∈ pairsOf ks vs) : ∃ v, v ∈ vs ∧ p.2 = anyOf v := by
 have h2 : p.2 ∈ anyL vs := (List.of_mem_zip (show (p.1, p.2) ∈ (ks.map lb).zip (anyL vs) from h)).2; rw [xj] at h2; obtain ⟨v, hv, he⟩ := List.mem_map.1 h2; exact ⟨v, hv, he.symm⟩
theorem small_fits {x : VI} (h : Small x) : FitsY (anyOf x) ∧ Norm (anyOf x) := by
 induction h with
 | mk x hk hkl hvl hv ih =>
  obtain ⟨k, n, t, ks, vs⟩ := x
  by_cases h1 : k = 1
  ·subst h1; simp only [anyOf]; exact ⟨.bool _, .bool _⟩
  by_cases h2 : k = 2
  ·subst h2; simp only [anyOf]; exact ⟨.int _, .int _⟩
  by_cases h3 : k = 3
  ·subst h3; simp only [anyOf]; exact ⟨.text _, .text _⟩
  by_cases h4 : k = 4
  ·subst h4
   have e : anyOf ⟨4, n, t, ks, vs⟩ = .list (anyL vs) := by simp [anyOf]
   rw [e, xj]; exact ⟨.list _ (by rw [List.length_map]; exact hvl) (fun y hy => by obtain ⟨v, hvv, rfl⟩ := List.mem_map.1 hy; exact (ih v hvv).1), .list _ (fun y hy => by obtain ⟨v, hvv, rfl⟩ := List.mem_map.1 hy; exact (ih v hvv).2)⟩
  by_cases h5 : k = 5
  ·subst h5
   have e : anyOf ⟨5, n, t, ks, vs⟩ = .map (fitM (pairsOf ks vs)) := by simp [anyOf, pairsOf]
   rw [e]; refine ⟨.map _ ?_ (fun p hp => ?_) (fun p hp => ?_), .map _ (fitM_rises _) (fun p hp => ?_)⟩
   ·have := fitM_length (pairsOf ks vs); rw [pairsOf_length] at this; have h6 : vs.length ≤ 1759218604400 := hvl
    omega
   ·have hz : p.1 ∈ ks.map lb := (List.of_mem_zip (show (p.1, p.2) ∈ (ks.map lb).zip (anyL vs) from fitM_mem hp)).1; obtain ⟨s, hs, he⟩ := List.mem_map.1 hz; rw [← he, yk]; exact hk s hs
   ·obtain ⟨v, hvv, he⟩ := pairs_mem (fitM_mem hp); rw [he]; exact (ih v hvv).1
   ·obtain ⟨v, hvv, he⟩ := pairs_mem (fitM_mem hp); rw [he]; exact (ih v hvv).2
  ·have e : anyOf ⟨k, n, t, ks, vs⟩ = .null := by simp [anyOf, h1, h2, h3, h4, h5]
   rw [e]; exact ⟨.null, .null⟩
end Go.Proofs.YtmpmekliaicecaaDoor.Tr
namespace Go.Proofs.YtmpmekliaicecaaDoor.PS
open Go.RowKit Go.Proofs.YtmpmekliaicecaaDoorW.PrintWords Go.Proofs.YtmpmekliaicecaaDoorW.PrintLast Go.Proofs.YtmpmekliaicecaaDoorW.PrintMore
attribute [local go_sem] xg xe xn xm yz yy xf xd 
end Go.Proofs.YtmpmekliaicecaaDoor.PS
