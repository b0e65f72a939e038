/- Parts of the proof, laid together: MapV, Rowstr, Buf, Frame, PairKit, SubTo, FitPlain, MergePlain, SubFit, SubFits, SubLook, SubGroups, SubRepl, Shelf, QTemplateZzIndex, QTemplateZzContains, QTemplateZzSplitTwo, QTemplatePartition. -/
import Derived.Test.YtkhkmhbledigpaaGreatDoorSi3
import Derived.Maps.RangeWalk
import Derived.Maps.OwnOps
import Derived.Sort.KeysCollected
import Derived.Sort.Walk0
import Derived.Test.YtkhkmhbledigpaaGreatDoorSi1
import Derived.Test.YtkhkmhbledigpaaGreatDoorSi2
import Derived.Shelf.Small.Bits
import Derived.Shelf.Strconv.Itoa0
import Derived.Ground.GgsProg
import Derived.Shelf.GgSortFunc.Insertion
import Derived.Shelf.GgSortFunc.Small
import Derived.Shelf.GgSortFunc.InsertionK
import Derived.Shelf.GgSortFunc.SmallK
import Derived.Shelf.GgSortFunc.Tiny
import Derived.Shelf.GgSortFunc.Compose
import Derived.Shelf.GgSortFunc.LotD
import Derived.Shelf.SlSortFunc.Xorshift
import Derived.Shelf.SlSortFuncK.ComposeK
import Derived.Shelf.SlSortFuncK.SiftDownK
import Derived.Shelf.SlSortFuncK.HeapSortK
import Derived.Shelf.SlSortFuncK.PartialInsertionK
import Derived.Shelf.SlSortFuncK.LotDK
import Derived.Shelf.SlSortFuncK.PivotK
import Derived.Shelf.SlSortFuncK.PartitionK
import Derived.Shelf.SlSortFuncK.PdqK
import Derived.Shelf.SlSortFuncK.WholeK
import Derived.Test.YtkhkmhbledigpaaGreatDoorProg
namespace Go.Proofs.YtkhkmhbledigpaaGreatDoor.MapV
open Go.RowKit Go.Proofs.YtkhkmhbledigpaaGreatDoorW.PrintWords Go.Proofs.YtkhkmhbledigpaaGreatDoor.Str Go.Maps
open Go.WideElems (Fit rd rg pl rd_val rd_key)
set_option linter.unusedVariables false
set_option linter.unusedSimpArgs false
section
variable {α β : Type}
def mget (f : List (Bs × α)) (k : Bs) : Option α := (f.find? fun p => p.1 == k).map (·.2)
def mins (x : Bs × α) : List (Bs × α) → List (Bs × α)
 | [] => [x]
 | y :: r => if x.1 < y.1 then x :: y :: r else y :: mins x r
def mdel (f : List (Bs × α)) (k : Bs) : List (Bs × α) := f.filter fun p => !(p.1 == k)
def mput (f : List (Bs × α)) (k : Bs) (v : α) : List (Bs × α) := mins (k, v) (mdel f k)
def Rises (f : List (Bs × α)) : Prop := f.Pairwise fun p q => p.1 < q.1
theorem lt_irrefl (a : Bs) : ¬ a < a := List.lt_irrefl a
theorem lt_trans {a b c : Bs} (h : a < b) (k : b < c) : a < c := List.lt_trans h k
theorem lt_ne {a b : Bs} (h : a < b) : a ≠ b := fun e => lt_irrefl a (by rw [← e] at h; exact h)
theorem mins_length (x : Bs × α) : ∀ f : List (Bs × α), (mins x f).length = f.length + 1
 | [] => rfl
 | y :: r => by
  rw [mins]
  split
  ·rfl
  ·simp [mins_length x r]
theorem mput_length (f : List (Bs × α)) (k : Bs) (v : α) : (mput f k v).length ≤ f.length + 1 := by
 rw [mput, mins_length]
 have := List.length_filter_le (fun p : Bs × α => !(p.1 == k)) f
 unfold mdel
 omega
theorem mget_mins_same {f : List (Bs × α)} {k : Bs} {v : α} : (∀ p ∈ f, p.1 ≠ k) → mget (mins (k, v) f) k = some v := by
 induction f with
 | nil => intro _; simp [mins, mget]
 | cons y r ih =>
  intro h
  rw [mins]
  split
  ·simp [mget]
  ·have hy : (y.1 == k) = false := by simpa using h y (by simp)
   have := ih (fun p hp => h p (by simp [hp]))
   unfold mget at this ⊢
   rw [List.find?_cons, hy]
   exact this
theorem mget_mins_other {f : List (Bs × α)} {k k' : Bs} {v : α} (hk : k ≠ k') : mget (mins (k, v) f) k' = mget f k' := by
 have hkk : (k == k') = false := by simpa using hk
 induction f with
 | nil => simp [mins, mget, hk]
 | cons y r ih =>
  rw [mins]
  split
  ·unfold mget; rw [List.find?_cons]; simp only [hkk]
  ·unfold mget at ih ⊢
   rw [List.find?_cons, List.find?_cons]
   cases y.1 == k'
   ·exact ih
   ·rfl
theorem mget_mdel_other {f : List (Bs × α)} {k k' : Bs} (hk : k ≠ k') : mget (mdel f k) k' = mget f k' := by
 unfold mget mdel
 induction f with
 | nil => rfl
 | cons y r ih =>
  by_cases e : y.1 = k
  ·have h1 : (y.1 == k) = true := by simpa using e
   have h2 : (y.1 == k') = false := by rw [e]; simpa using hk
   rw [List.filter_cons, h1, List.find?_cons, h2]
   simpa using ih
  ·have h1 : (y.1 == k) = false := by simpa using e
   rw [List.filter_cons, h1]
   simp only [Bool.not_false, if_true, List.find?_cons]
   cases y.1 == k'
   ·exact ih
   ·rfl
theorem mget_mput (f : List (Bs × α)) (k k' : Bs) (v : α) : mget (mput f k v) k' = if k = k' then some v else mget f k' := by
 unfold mput
 by_cases h : k = k'
 ·subst h
  rw [if_pos rfl]
  exact mget_mins_same (fun p hp => by have := (List.mem_filter.1 hp).2; simpa using this)
 ·rw [if_neg h, mget_mins_other h, mget_mdel_other h]
end
theorem before_lt : ∀ a b : Bs, bytesBefore a b = decide (a < b)
 | [], [] => by decide
 | [], _ :: _ => by simp [bytesBefore]
 | _ :: _, [] => by simp [bytesBefore]
 | a :: r, b :: s => by
  rw [bytesBefore, before_lt r s]
  have : (a :: r < b :: s) ↔ a < b ∨ (a = b ∧ r < s) := List.cons_lt_cons_iff
  by_cases h1 : a < b
  ·simp [this, h1]
  ·by_cases h2 : a = b
   ·simp [this, h1, h2]
   ·simp [this, h1, h2]
def heldR (v : Value) : Option (DataW Value × List MemPlace) := some (.held v, [])
section
variable {α : Type} (enc : α → Value)
def ent (p : Bs × α) : Lit × DataW Value := (.string p.1, .held (enc p.2))
theorem ent_put (f : List (Bs × α)) (k : Bs) (v : α) : (DataW.map (f.map (ent enc))).put (.string k) (.held (enc v)) = .map ((mput f k v).map (ent enc)) := by
 have ins : ∀ g : List (Bs × α), DataW.insert (Lit.string k, DataW.held (enc v)) (g.map (ent enc)) = (mins (k, v) g).map (ent enc) := by
  intro g
  induction g with
  | nil => rfl
  | cons y r ih =>
   rw [List.map_cons, DataW.insert, mins]
   have : (Lit.string k).before (ent enc y).1 = decide (k < y.1) := before_lt k y.1
   rw [this]
   by_cases h : k < y.1
   ·simp [h, ent]
   ·simp [h, ih]
 unfold DataW.put mput
 rw [← ins]
 refine congrArg (fun x => DataW.map (DataW.insert _ x)) ?_
 unfold mdel
 rw [List.filter_map]
 rfl
theorem ent_at (f : List (Bs × α)) (k : Bs) (zd : DataW Value) : (DataW.map (f.map (ent enc))).atKey (.string k) zd = match mget f k with
  | some v => .held (enc v)
  | none => zd := by
 unfold DataW.atKey mget
 simp only [List.find?_map]
 have : ((fun p : Lit × DataW Value => p.1.sameKey (.string k)) ∘ ent enc) = fun p : Bs × α => p.1 == k := rfl
 rw [this]
 cases f.find? (fun p => p.1 == k) <;> rfl
theorem ent_has (f : List (Bs × α)) (k : Bs) : Maps.has (DataW.map (f.map (ent enc))) (.string k) = (mget f k).isSome := by
 unfold mget
 rw [Maps.has_eq, List.any_map]
 have : ((fun p : Lit × DataW Value => p.1.sameKey (.string k)) ∘ ent enc) = fun p : Bs × α => p.1 == k := rfl
 rw [this]
 rw [Option.isSome_map, Bool.eq_iff_iff, List.any_eq_true, List.find?_isSome]
end
def MapE (P : Program) (k : TypeId) {α : Type} (enc : α → Value) (w : World) (b : Nat) (f : List (Bs × α)) : Prop := w.ownsMap P k heldR b f.length (.map (f.map (ent enc)))
section
variable {P : Program} {k : TypeId} {α : Type} {enc : α → Value} {w w1 : World} {b : Nat} {f : List (Bs × α)}
theorem owns_norm {n : Nat} {l : List (Lit × DataW Value)} (h : w.ownsMap P k heldR b n (.map l)) : w.ownsMap P k heldR b l.length (.map l) := by
 obtain ⟨es, clock, hb, F, hs, hD⟩ := h
 refine ⟨es, clock, hb, F, ?_, hD⟩
 injection hD with hD
 rw [hD, length_sorted]
 simp
theorem MapE.of {n : Nat} (h : w.ownsMap P k heldR b n (.map (f.map (ent enc)))) : MapE P k enc w b f := by
 have := owns_norm h
 rw [List.length_map] at this
 exact this
theorem MapE.lt (h : MapE P k enc w b f) : b < w.heap.size := World.ownsMap.lt h
theorem MapE.grown (h : MapE P k enc w b f) {row : Option Nat} (hg : w.grownBy w1 row) (hn : some b ≠ row) : MapE P k enc w1 b f := World.ownsMap.kept h hg hn
theorem MapE.below (h : MapE P k enc w b f) (hb : Below w.heap.size w w1) : MapE P k enc w1 b f := h.grown (grown_of_below hb none) (by simp)
theorem MapE.move (h : MapE P k enc w b f) (hm : w1.heap[b]? = w.heap[b]?) : MapE P k enc w1 b f := by
 obtain ⟨es, clock, hb, F, r⟩ := h
 exact ⟨es, clock, hm.trans hb, F, r⟩
theorem MapE.made (P : Program) (k : TypeId) (enc : α → Value) (w : World) : MapE P k enc (w.alloc (.map #[] 0)) w.heap.size [] := World.ownsMap_made w P k heldR
open Go.WideMaps in
theorem keyOf_s (hk : P.underlying k = some .string) {s : ByteArray} (hs : s.size ≤ maxLen) : keyOf P k (.string s) = some (.string (lb s)) := keyOf_string_mk hk hs
end
section
variable {P : Program} {k e t : TypeId} {α : Type} {enc : α → Value} {w : World} {b : Nat} {f : List (Bs × α)}
variable {ops : Array Oper} {rest : List Oper} {o : Oper} {a : Act} {Q : Exit → Act → World → Prop}
theorem store_mapE (hk : P.underlying k = some .string) (ht : P.underlying t = some (.map k e)) (hg : o.guard = none) (m x v : Operand) (hop : o.op = Op.mapUpdate t m x v)
  (hm : a.eval m = .map (some b)) (h : MapE P k enc w b f) (hn : f.length < maxLen) {s : ByteArray} {y : α} (hx : a.eval x = .string s) (hs : s.size ≤ maxLen) (hv : a.eval v = enc y)
  (hK : ∀ w', MapE P k enc w' b (mput f (lb s) y) → w.grownBy w' (some b) → wpList P ops Q rest (a.put o.dst undef) w') : wpList P ops Q (o :: rest) a w :=
 wpList_mapUpdate_own w hg m x v t hop k e (string_keyed hk) ht heldR b f.length _ hm h hn _ _ _ hx hv (keyOf_s hk hs) _ [] rfl (fun w' h1 h2 => hK w' (MapE.of (by rw [ent_put] at h1; exact h1)) h2)
theorem run_look_mapE (hk : P.underlying k = some .string) (ht : P.underlying t = some (.map k e)) {z : Value} (hz : (zeroValue e).run P w = .ok z w) (h : MapE P k enc w b f) {s : ByteArray} (hs : s.size ≤ maxLen) :
  (Instr.lookup t (.map (some b)) (.string s) false).run P w = .ok (((mget f (lb s)).map enc).getD z) w := by
 obtain ⟨v, ps, hrun, hv⟩ := World.ownsMap.lookup h (string_keyed hk) ht hz (zd := .held z) (zp := []) rfl (keyOf_s hk hs)
 rw [ent_at] at hv
 have : v = ((mget f (lb s)).map enc).getD z := by
  cases hf : mget f (lb s) with
  | none => rw [hf] at hv; simp [heldR] at hv; simpa using hv.1
  | some y => rw [hf] at hv; simp [heldR] at hv; simpa using hv.1
 rw [← this]
 exact hrun
theorem run_look_ok_mapE (hk : P.underlying k = some .string) (ht : P.underlying t = some (.map k e)) {z : Value} (hz : (zeroValue e).run P w = .ok z w) (h : MapE P k enc w b f) {s : ByteArray} (hs : s.size ≤ maxLen) :
  (Instr.lookup t (.map (some b)) (.string s) true).run P w = .ok (.tuple #[((mget f (lb s)).map enc).getD z, .bool (mget f (lb s)).isSome]) w := by
 obtain ⟨v, ps, hrun, hv⟩ := World.ownsMap.look_ok h (string_keyed hk) ht hz (zd := .held z) (zp := []) rfl (keyOf_s hk hs)
 rw [ent_at] at hv
 rw [ent_has] at hrun
 have : v = ((mget f (lb s)).map enc).getD z := by
  cases hf : mget f (lb s) with
  | none => rw [hf] at hv; simp [heldR] at hv; simpa using hv.1
  | some y => rw [hf] at hv; simp [heldR] at hv; simpa using hv.1
 rw [← this]
 exact hrun
end
end Go.Proofs.YtkhkmhbledigpaaGreatDoor.MapV
namespace Go.Proofs.YtkhkmhbledigpaaGreatDoor.Kit
open Go.RowKit Go.Proofs.YtkhkmhbledigpaaGreatDoorW.PrintWords Go.Proofs.YtkhkmhbledigpaaGreatDoor.Str
set_option linter.unusedVariables false
set_option linter.unusedSimpArgs false
theorem strs_open {w : World} {A : Option Addr} {xs : List ByteArray} (h : Kd.string.C w A xs.length xs) (h0 : 0 < xs.length) :
  ∃ bk off, A = some ⟨bk, off, none⟩ ∧ bk < w.heap.size ∧ ∀ (j : Nat) (hj : j < xs.length), w.cell? ⟨bk, off + j, none⟩ = some (.string xs[j]) := by
 obtain ⟨hl, hm, hc⟩ := h
 obtain ⟨ad, rfl, hcc⟩ := hc h0
 have cell : ∀ (j : Nat) (hj : j < xs.length), w.cell? (ad.add j) = some (.string xs[j]) := by
  intro j hj
  obtain ⟨c, hcl, hr, hcell⟩ := hcc j xs[j] (List.getElem?_eq_getElem hj)
  have hr' : c = [Value.string xs[j]] := hr
  subst hr'
  have := hcell 0 _ rfl
  simpa [Kd.string, Kd.scalar] using this
 obtain ⟨bk, off, spot⟩ := ad
 have hspot : spot = none := by
  have h1 := cell 0 h0
  cases hs : spot with
  | none => rfl
  | some sp =>
   exfalso
   subst hs
   simp [World.cell?, Addr.add] at h1
   split at h1 <;> simp at h1
 subst hspot
 have add : ∀ j : Nat, (⟨bk, off, none⟩ : Addr).add j = ⟨bk, off + j, none⟩ := by intro j; unfold Addr.add; split <;> simp_all
 refine ⟨bk, off, rfl, ?_, fun j hj => by rw [← add]; exact cell j hj⟩
 have h1 := cell 0 h0
 rw [add] at h1
 exact World.block_lt_of_cell? w _ h1
theorem strs_mk {w : World} {b o : Nat} {xs : List ByteArray} (hm : xs.length ≤ 9223372036854775807) (hc : ∀ (j : Nat) (hj : j < xs.length), w.cell? ⟨b, o + j, none⟩ = some (.string xs[j])) : Kd.string.C w (some ⟨b, o, none⟩) xs.length xs := by
 refine ⟨rfl, hm, fun _ => ⟨_, rfl, fun j p hp => ?_⟩⟩
 obtain ⟨hj, rfl⟩ := List.getElem?_eq_some_iff.1 hp
 refine ⟨[.string xs[j]], rfl, rfl, fun i u hu => ?_⟩
 have hi : i < 1 := (List.getElem?_eq_some_iff.1 hu).1
 obtain rfl : i = 0 := by omega
 have hu' : Value.string xs[j] = u := by simpa using hu
 subst hu'
 have add : (⟨b, o, none⟩ : Addr).add (j * Kd.string.sz + 0) = ⟨b, o + j, none⟩ := by
  have : j * Kd.string.sz + 0 = j := by simp [Kd.string, Kd.scalar]
  rw [this]; unfold Addr.add; split <;> simp_all
 rw [add]
 exact hc j hj
theorem strs_lit (w : World) (e : TypeId) (xs : List ByteArray) (hm : xs.length ≤ 9223372036854775807) : Kd.string.C (w.alloc (.cells (xs.map Value.string).toArray e)) (some ⟨w.heap.size, 0, none⟩) xs.length xs := by
 refine strs_mk hm fun j hj => ?_
 have := World.cell?_alloc_new w (xs.map Value.string).toArray e j
 rw [Nat.zero_add]
 rw [this]
 simp [hj]
end Go.Proofs.YtkhkmhbledigpaaGreatDoor.Kit
namespace Go.Proofs.YtkhkmhbledigpaaGreatDoor.Kit
open Go.RowKit Go.Proofs.YtkhkmhbledigpaaGreatDoorW.PrintWords Go.Proofs.YtkhkmhbledigpaaGreatDoor.Str
set_option linter.unusedVariables false
set_option linter.unusedSimpArgs false
def bnums (l : Bs) : List Int := l.map fun b => (b.toNat : Int)
theorem bnums_append (l m : Bs) : bnums (l ++ m) = bnums l ++ bnums m := by simp [bnums]
theorem bnums_length (l : Bs) : (bnums l).length = l.length := by simp [bnums]
theorem str_bnums (l : Bs) : strOfNums (bnums l) = ⟨l.toArray⟩ := by
 apply lb_inj
 rw [lb_mk, lb, strOfNums_data, bnums, List.map_map]
 conv => rhs; rw [← List.map_id l]
 refine List.map_congr_left fun x _ => ?_
 simp
def Buf (w : World) (base : Nat) (v : Value) (l : Bs) : Prop := w.ownsRow base 5 1 v l.length (nums .u8 (bnums l))
theorem Buf.nil (w : World) (base : Nat) : Buf w base (.slice none 0 0) [] := own_nil _ _ _ _
theorem Buf.below {w w' : World} {base : Nat} {v : Value} {l : Bs} (h : Buf w base v l) (hb : Below w.heap.size w w') : Buf w' base v l := pw_own_below h hb
theorem Buf.slice {w : World} {base : Nat} {v : Value} {l : Bs} (h : Buf w base v l) : ∃ A c, v = .slice A l.length c := own_slice h
theorem info_byte : (Tryz.prog.info? 5).map (fun i => (i.zero, i.size, i.bytes)) = some (some (.int .u8 0), 1, 1) := by kernel_rfl
theorem Buf.string {w : World} {base : Nat} {v : Value} {l : Bs} (h : Buf w base v l) : (convert 50 9 v).run Tryz.prog w = .ok (.string ⟨l.toArray⟩) w := by
 rw [← str_bnums]
 exact own_string Tryz.underlying50 Tryz.underlying5 Tryz.underlying9 h
section
variable {ops : Array Oper} {rest : List Oper} {o : Oper} {a : Act} {Q : Exit → Act → World → Prop}
theorem append_bufS {w0 W : World} (s x : Operand) (hgd : o.guard = none) (ho : o.op = .call { callee := .builtin .append, args := #[s, x], argTypes := #[50, 9] })
  {v : Value} {l : Bs} {y : ByteArray} (hs : a.eval s = v) (hx : a.eval x = .string y) (HO : Buf W w0.heap.size v l) (HB : Below w0.heap.size w0 W) (hl : l.length + y.size ≤ 140737488355328)
  (h : ∀ v1 w1, Buf w1 w0.heap.size v1 (l ++ lb y) → Below w0.heap.size w0 w1 → W.grownBy w1 v.ownBlock → wpList Tryz.prog ops Q rest (a.put o.dst v1) w1) :
  wpList Tryz.prog ops Q (o :: rest) a W := by
 refine print_append_str (w0 := w0) w0.heap.size hgd s x 50 9 5 ho Tryz.underlying50 Tryz.underlying9 info_byte v (bnums l) y hs hx (by rw [bnums_length]; exact HO) HB HB.size (by rw [bnums_length]; exact hl) ?_
 intro v1 w1 hown hb hg
 refine h v1 w1 ?_ hb hg
 unfold Buf
 rw [bnums_append]
 have e : bnums (lb y) = bytesOf y := rfl
 rw [e]
 have e2 : (l ++ lb y).length = (bnums l ++ bytesOf y).length := by rw [List.length_append, List.length_append, bnums_length, bytesOf_length, lb_length]
 rw [e2]
 exact hown
theorem append_bufB {w0 W : World} (s x : Operand) (hgd : o.guard = none) (ho : o.op = .call { callee := .builtin .append, args := #[s, x], argTypes := #[50, 50] })
  {v : Value} {l : Bs} {n : Int} (b : UInt8) (hn : n = (b.toNat : Int)) (hs : a.eval s = v) (hx : a.eval x = .slice (some ⟨W.heap.size, 0, none⟩) 1 1) (HO : Buf W w0.heap.size v l) (HB : Below w0.heap.size w0 W) (hl : l.length + 1 ≤ 140737488355328)
  (h : ∀ v1 w1, Buf w1 w0.heap.size v1 (l ++ [b]) → Below w0.heap.size w0 w1 → W.grownBy w1 v.ownBlock → wpList Tryz.prog ops Q rest (a.put o.dst v1) w1) :
  wpList Tryz.prog ops Q (o :: rest) a (W.alloc (.cells #[.int .u8 n] 5)) := by
 subst hn
 refine print_append_num (w0 := w0) w0.heap.size hgd s x 50 5 .u8 1 ho Tryz.underlying50 info_byte (by decide) v (bnums l) b.toNat hs hx (by rw [bnums_length]; exact HO) HB HB.size (by rw [bnums_length]; omega) ?_
 intro v1 w1 hown hb hg _
 refine h v1 w1 ?_ hb hg
 unfold Buf
 rw [bnums_append]
 have e2 : (l ++ [b]).length = (bnums l ++ [(b.toNat : Int)]).length := by rw [List.length_append, List.length_append, bnums_length]; rfl
 rw [e2]
 exact hown
end
end Go.Proofs.YtkhkmhbledigpaaGreatDoor.Kit
namespace Go.Proofs.YtkhkmhbledigpaaGreatDoor.Frame
open Go.RowKit Go.Proofs.YtkhkmhbledigpaaGreatDoorW.PrintWords Go.Proofs.YtkhkmhbledigpaaGreatDoor.Str Go.Proofs.YtkhkmhbledigpaaGreatDoor.Kit
set_option linter.unusedVariables false
set_option linter.unusedSimpArgs false
structure Turns (F : Nat → Prop) (w w' : World) : Prop where
 os : w'.os = w.os
 tape : w'.tape = w.tape
 output : w'.output = w.output
 size : w.heap.size ≤ w'.heap.size
 block : ∀ k, k < w.heap.size → ¬ F k → w'.heap[k]? = w.heap[k]?
theorem Turns.refl (F : Nat → Prop) (w : World) : Turns F w w := ⟨rfl, rfl, rfl, Nat.le_refl _, fun _ _ _ => rfl⟩
theorem Turns.mono {F G : Nat → Prop} {w w' : World} (h : Turns F w w') (hs : ∀ k, k < w.heap.size → F k → G k) : Turns G w w' :=
 ⟨h.os, h.tape, h.output, h.size, fun k hk hg => h.block k hk (fun hf => hg (hs k hk hf))⟩
theorem Turns.trans {F G : Nat → Prop} {a b c : World} (h : Turns F a b) (k : Turns G b c) (hs : ∀ j, j < a.heap.size → G j → F j) : Turns F a c :=
 ⟨k.os.trans h.os, k.tape.trans h.tape, k.output.trans h.output, Nat.le_trans h.size k.size, fun i hi hn => (k.block i (Nat.lt_of_lt_of_le hi h.size) (fun hg => hn (hs i hi hg))).trans (h.block i hi hn)⟩
theorem Turns.of_below {F : Nat → Prop} {w w' : World} (h : Below w.heap.size w w') : Turns F w w' := ⟨h.os, h.tape, h.output, h.size, fun k hk _ => h.block k hk⟩
theorem Turns.below {F : Nat → Prop} {w0 w w' : World} (h : Turns F w w') (hb : Below w0.heap.size w0 w) (hf : ∀ k, k < w0.heap.size → ¬ F k) : Below w0.heap.size w0 w' :=
 ⟨h.os.trans hb.os, h.tape.trans hb.tape, h.output.trans hb.output, Nat.le_trans hb.size h.size, fun k hk => (h.block k (Nat.lt_of_lt_of_le hk hb.size) (hf k hk)).trans (hb.block k hk)⟩
theorem Turns.setCell (w : World) (b i : Nat) (v : Value) : Turns (fun k => k = b) w (w.setCell ⟨b, i, none⟩ v) :=
 ⟨rfl, rfl, rfl, by simp, fun k _ hn => Go.heap_setCell_other w _ k v hn⟩
theorem Turns.alloc (F : Nat → Prop) (w : World) (o : Obj) : Turns F w (w.alloc o) :=
 Turns.of_below ((Below.refl _ w).alloc (Nat.le_refl _) o)
theorem cb_cell {w : World} {b i : Nat} {cs : Array Value} {t : TypeId} {v : Value} (h : w.heap[b]? = some (.cells cs t (0, 0))) (hi : cs[i]? = some v) : w.cell? ⟨b, i, none⟩ = some v := by
 simp [World.cell?, h, hi]
theorem cb_frozen {w : World} {b i : Nat} {cs : Array Value} {t : TypeId} (h : w.heap[b]? = some (.cells cs t (0, 0))) : w.frozen? ⟨b, i, none⟩ = false := by
 simp [World.frozen?, h]
theorem cb_set {w : World} {b i : Nat} {cs : Array Value} {t : TypeId} (h : w.heap[b]? = some (.cells cs t (0, 0))) (v : Value) : (w.setCell ⟨b, i, none⟩ v).heap[b]? = some (.cells (cs.setIfInBounds i v) t (0, 0)) :=
 Go.heap_setCell_same w b i cs t v h
theorem cb_alloc {w : World} {k : Nat} {o : Obj} (h : w.heap[k]? = some o) (x : Obj) : (w.alloc x).heap[k]? = some o :=
 ((Below.refl w.heap.size w).alloc (Nat.le_refl _) x).block k (Array.getElem?_eq_some_iff.1 h).1 |>.trans h
theorem cb_new (w : World) (x : Obj) : (w.alloc x).heap[w.heap.size]? = some x := by
 show (w.heap.push x)[w.heap.size]? = _
 simp
theorem cb_lt {w : World} {k : Nat} {o : Obj} (h : w.heap[k]? = some o) : k < w.heap.size := (Array.getElem?_eq_some_iff.1 h).1
end Go.Proofs.YtkhkmhbledigpaaGreatDoor.Frame
namespace Go.Proofs.YtkhkmhbledigpaaGreatDoor.Maps
open Go.RowKit Go.Proofs.YtkhkmhbledigpaaGreatDoorW.PrintWords Go.Proofs.YtkhkmhbledigpaaGreatDoorW.PrintLast Go.Proofs.YtkhkmhbledigpaaGreatDoor.Str Go.Proofs.YtkhkmhbledigpaaGreatDoor.Kit Go.Proofs.YtkhkmhbledigpaaGreatDoor.Flat Go.Proofs.YtkhkmhbledigpaaGreatDoor.MapV Go.Proofs.YtkhkmhbledigpaaGreatDoor.Frame Go.Sort Go.Lib
set_option linter.unusedVariables false
set_option linter.unusedSimpArgs false
abbrev BA := ByteArray
def encP (x : BA × BA) : List Value := [.string x.1, .string x.2]
theorem encP_len (x : BA × BA) : (encP x).length = 2 := rfl
theorem encP_one (x : BA × BA) : ∀ u ∈ encP x, u.oneCell' = true := by
 intro u hu
 simp [encP] at hu
 rcases hu with rfl | rfl <;> rfl
def kp : Kd (BA × BA) := flat encP 2 encP_len encP_one
def toP (f : List (Bs × BA)) : List (BA × BA) := f.map fun p => (⟨p.1.toArray⟩, p.2)
theorem toP_length (f : List (Bs × BA)) : (toP f).length = f.length := List.length_map _
def ofP (l : List (BA × BA)) : List (Bs × BA) := l.map fun p => (lb p.1, p.2)
theorem ofP_toP (f : List (Bs × BA)) : ofP (toP f) = f := by
 unfold ofP toP
 rw [List.map_map]
 conv => rhs; rw [← List.map_id f]
 refine List.map_congr_left (fun p _ => ?_)
 simp [lb]
instance : Inhabited (BA × BA) := ⟨(⟨#[]⟩, ⟨#[]⟩)⟩
theorem key_u : Tryz.prog.underlying 9 = some .string := Tryz.underlying9
theorem map_u : Tryz.prog.underlying 72 = some (.map 9 9) := Tryz.underlying72
abbrev MapS (w : World) (b : Nat) (f : List (Bs × BA)) : Prop := MapE Tryz.prog 9 Value.string w b f
section
variable {ops : Array Oper} {rest : List Oper} {o : Oper} {a : Act} {Q : Exit → Act → World → Prop}
end
theorem kp_open {w : World} {A : Option Addr} {xs : List (BA × BA)} (h : kp.C w A xs.length xs) (h0 : 0 < xs.length) :
  ∃ bk off, A = some ⟨bk, off, none⟩ ∧ bk < w.heap.size ∧ ∀ (j : Nat) (hj : j < xs.length), w.cell? ⟨bk, off + j * 2, none⟩ = some (.string xs[j].1) ∧ w.cell? ⟨bk, off + j * 2 + 1, none⟩ = some (.string xs[j].2) := by
 obtain ⟨bk, off, rfl, hb, hc⟩ := flat_open h h0 (by decide)
 refine ⟨bk, off, rfl, hb, fun j hj => ⟨hc j hj 0 _ rfl, ?_⟩⟩
 have := hc j hj 1 _ rfl
 rw [← Nat.add_assoc] at this
 exact this
theorem cell_grown {w w' : World} {row : Option Nat} {p : Addr} {x : Value} (hg : w.grownBy w' row) (hc : w.cell? p = some x) (hn : some p.block ≠ row) : w'.cell? p = some x := by
 have hb := hg.block p.block (World.block_lt_of_cell? w p hc) hn
 unfold World.cell? at hc ⊢
 rw [hb]
 exact hc
section
variable {ops : Array Oper} {o : Oper} {a : Act} {Q : Exit → Act → World → Prop} {Kc : Act → World → Prop}
end
end Go.Proofs.YtkhkmhbledigpaaGreatDoor.Maps
namespace Go.Proofs.YtkhkmhbledigpaaGreatDoor.Maps
open Go.RowKit Go.Proofs.YtkhkmhbledigpaaGreatDoorW.PrintWords Go.Proofs.YtkhkmhbledigpaaGreatDoorW.PrintLast Go.Proofs.YtkhkmhbledigpaaGreatDoor.Str Go.Proofs.YtkhkmhbledigpaaGreatDoor.Kit Go.Proofs.YtkhkmhbledigpaaGreatDoor.Flat Go.Proofs.YtkhkmhbledigpaaGreatDoor.MapV Go.Proofs.YtkhkmhbledigpaaGreatDoor.Frame
set_option linter.unusedVariables false
set_option linter.unusedSimpArgs false
end Go.Proofs.YtkhkmhbledigpaaGreatDoor.Maps
namespace Go.Proofs.YtkhkmhbledigpaaGreatDoor.MapV
open Go.RowKit Go.Proofs.YtkhkmhbledigpaaGreatDoorW.PrintWords Go.Proofs.YtkhkmhbledigpaaGreatDoor.Str
set_option linter.unusedVariables false
set_option linter.unusedSimpArgs false
section
variable {α : Type} {key : Bs} {v : α}
theorem lt_asymm {a b : Bs} (h : a < b) : ¬ b < a := fun k => lt_irrefl a (lt_trans h k)
theorem mdel_id {f : List (Bs × α)} (h : ∀ p ∈ f, p.1 ≠ key) : mdel f key = f := List.filter_eq_self.2 (fun p hp => by simpa using h p hp)
theorem mput_lt {y : Bs × α} {r : List (Bs × α)} (h : y.1 < key) : mput (y :: r) key v = y :: mput r key v := by
 have hy : (y.1 == key) = false := by simpa using lt_ne h
 unfold mput
 have : mdel (y :: r) key = y :: mdel r key := by
  unfold mdel
  rw [List.filter_cons, hy]
  rfl
 rw [this, mins, if_neg (lt_asymm h)]
theorem mput_gt {f : List (Bs × α)} (hr : ∀ p ∈ f, key < p.1) : mput f key v = (key, v) :: f := by
 unfold mput
 rw [mdel_id (fun p hp => (lt_ne (hr p hp)).symm)]
 cases f with
 | nil => rfl
 | cons z t => rw [mins, if_pos (hr z (by simp))]
theorem mput_ins : ∀ (k : Nat) {f : List (Bs × α)}, Rises f → (∀ (j : Nat) (h : j < f.length), j < k → f[j].1 < key) → k ≤ f.length → (∀ (h : k < f.length), key < f[k].1) → mput f key v = f.take k ++ (key, v) :: f.drop k
 | 0, f, hf, _, _, hg => by
  rw [mput_gt]
  ·rfl
  ·cases f with
   | nil => simp
   | cons y r =>
    have hy : key < y.1 := hg (by simp)
    obtain ⟨h1, _⟩ := List.pairwise_cons.1 hf
    intro p hp
    rcases List.mem_cons.1 hp with rfl | hp
    ·exact hy
    ·exact lt_trans hy (h1 p hp)
 | k + 1, [], _, _, h, _ => by simp at h
 | k + 1, y :: r, hf, hl, h, hg => by
  obtain ⟨_, h2⟩ := List.pairwise_cons.1 hf
  have hy : y.1 < key := hl 0 (by simp) (by omega)
  rw [mput_lt hy, mput_ins k h2 (fun j hj hk => by have := hl (j + 1) (by simp; omega) (by omega); simpa using this) (by simpa using h) (fun hk => by have := hg (by simpa using hk); simpa using this)]
  rfl
def fitM (l : List (Bs × α)) : List (Bs × α) := l.foldl (fun f p => mput f p.1 p.2) []
theorem fitM_snoc (l : List (Bs × α)) (p : Bs × α) : fitM (l ++ [p]) = mput (fitM l) p.1 p.2 := by simp [fitM]
theorem fold_length (l : List (Bs × α)) : ∀ (f : List (Bs × α)), (l.foldl (fun f p => mput f p.1 p.2) f).length ≤ f.length + l.length := by
 induction l with
 | nil => intro f; simp
 | cons p r ih =>
  intro f
  have h1 := ih (mput f p.1 p.2)
  have h2 := mput_length f p.1 p.2
  simp only [List.foldl_cons, List.length_cons]
  omega
theorem fitM_length (l : List (Bs × α)) : (fitM l).length ≤ l.length := by
 have := fold_length l []
 simpa [fitM] using this
end
end Go.Proofs.YtkhkmhbledigpaaGreatDoor.MapV
namespace Go.Proofs.YtkhkmhbledigpaaGreatDoor.MapV
open Go.RowKit Go.Proofs.YtkhkmhbledigpaaGreatDoorW.PrintWords Go.Proofs.YtkhkmhbledigpaaGreatDoor.Str
set_option linter.unusedVariables false
set_option linter.unusedSimpArgs false
section
variable {α : Type}
theorem fold_snoc : ∀ (g f : List (Bs × α)), Rises (f ++ g) → g.foldl (fun f p => mput f p.1 p.2) f = f ++ g
 | [], f, _ => by simp
 | p :: r, f, h => by
  have h1 := List.pairwise_append.1 h
  have hp : mput f p.1 p.2 = f ++ [p] := by
   rw [mput_ins f.length h1.1 (fun j hj _ => h1.2.2 _ (List.getElem_mem hj) p (by simp)) (Nat.le_refl _) (fun h => absurd h (Nat.lt_irrefl _))]
   simp
  rw [List.foldl_cons, hp, fold_snoc r (f ++ [p]) (by simpa using h)]
  simp
theorem fitM_id {f : List (Bs × α)} (h : Rises f) : fitM f = f := by
 have := fold_snoc f [] (by simpa using h)
 simpa [fitM] using this
end
end Go.Proofs.YtkhkmhbledigpaaGreatDoor.MapV
namespace Go.Proofs.YtkhkmhbledigpaaGreatDoor.Maps
open Go.RowKit Go.Proofs.YtkhkmhbledigpaaGreatDoorW.PrintWords Go.Proofs.YtkhkmhbledigpaaGreatDoorW.PrintLast Go.Proofs.YtkhkmhbledigpaaGreatDoor.Str Go.Proofs.YtkhkmhbledigpaaGreatDoor.Kit Go.Proofs.YtkhkmhbledigpaaGreatDoor.Flat Go.Proofs.YtkhkmhbledigpaaGreatDoor.MapV Go.Proofs.YtkhkmhbledigpaaGreatDoor.Frame
set_option linter.unusedVariables false
set_option linter.unusedSimpArgs false
theorem own_one (w : World) (base : Nat) (e : TypeId) (hb : base ≤ w.heap.size) (ok : Nat → Prop) (hok : ok w.heap.size) (p q : BA) : kp.R e (w.alloc (.cells #[.string p, .string q] e)) base ok (.slice (some ⟨w.heap.size, 0, none⟩) 1 1) [(p, q)] := by
 refine R_flat.2 ⟨fun b hbb => ?_, rfl, .inr ⟨w.heap.size, 1, _, rfl, hb, cb_new _ _, Nat.le_refl _, by unfold maxLen; omega, rfl, rfl⟩⟩
 have : w.heap.size = b := by simpa [Value.ownBlock] using hbb
 subst this; exact hok
theorem kp_none (w : World) (A : Option Addr) : kp.C w A 0 [] := ⟨rfl, by omega, fun h => absurd h (Nat.lt_irrefl 0)⟩
end Go.Proofs.YtkhkmhbledigpaaGreatDoor.Maps
namespace Go.Proofs.YtkhkmhbledigpaaGreatDoor.Maps
open Go.RowKit Go.Proofs.YtkhkmhbledigpaaGreatDoorW.PrintWords Go.Proofs.YtkhkmhbledigpaaGreatDoorW.PrintLast Go.Proofs.YtkhkmhbledigpaaGreatDoor.Str Go.Proofs.YtkhkmhbledigpaaGreatDoor.Kit Go.Proofs.YtkhkmhbledigpaaGreatDoor.Flat Go.Proofs.YtkhkmhbledigpaaGreatDoor.MapV Go.Proofs.YtkhkmhbledigpaaGreatDoor.Frame
set_option linter.unusedVariables false
set_option linter.unusedSimpArgs false
def fits1 (p : ByteArray × ByteArray) : Prop := p.1.size ≤ 2147483647 ∧ p.2.size ≤ 2147483647
instance (p : ByteArray × ByteArray) : Decidable (fits1 p) := by unfold fits1; infer_instance
def fitsP (l : List (ByteArray × ByteArray)) : Prop := l.length ≤ 2147483647 ∧ ∀ p ∈ l, fits1 p
instance (l : List (ByteArray × ByteArray)) : Decidable (fitsP l) := by unfold fitsP; infer_instance
end Go.Proofs.YtkhkmhbledigpaaGreatDoor.Maps
namespace Go.Proofs.YtkhkmhbledigpaaGreatDoor.Maps
open Go.RowKit Go.Proofs.YtkhkmhbledigpaaGreatDoorW.PrintWords Go.Proofs.YtkhkmhbledigpaaGreatDoorW.PrintLast Go.Proofs.YtkhkmhbledigpaaGreatDoor.Str Go.Proofs.YtkhkmhbledigpaaGreatDoor.Kit Go.Proofs.YtkhkmhbledigpaaGreatDoor.Flat Go.Proofs.YtkhkmhbledigpaaGreatDoor.MapV Go.Proofs.YtkhkmhbledigpaaGreatDoor.Frame
set_option linter.unusedVariables false
set_option linter.unusedSimpArgs false
theorem run_makeHint {P : Program} {t k e : TypeId} (hu : P.underlying t = some (.map k e)) (i : IntKind) (n : Int) (w : World) : (Instr.makeMap t (some (.int i n))).run P w = .ok (.map (some w.heap.size)) (w.alloc (.map #[] 0)) := by
 simp [Instr.makeMap, run_underlying hu, asInt, asIntOf, Result.andThen]
set_option maxHeartbeats 1600000 in
theorem pairs {A : Option Addr} {c : Nat} (l : List (BA × BA)) (w : World) (h : kp.C w A l.length l) (hn : l.length ≤ 17179869184) (hl : ∀ p ∈ l, p.1.size ≤ 4294967296) :
  Calls Tryz.prog 41 #[.slice A l.length c] w fun e w' => e = .returned (.map (some w.heap.size)) ∧ MapS w' w.heap.size (fitM (ofP l)) ∧ Below w.heap.size w w' := by
 have H := aM h
 have HL := aM hl
 clear h hl
 have hmm := fun (n : Int) (w : World) => run_makeHint (P := Tryz.prog) Tryz.underlying72 .i64 n w
 have HM0 := aM (MapE.made Tryz.prog 9 Value.string w)
 have HB0 := aM ((Below.refl _ w).alloc (Nat.le_refl _) (.map #[] 0))
 go_enter Tryz.func41, Tryz.ntmps41
 go_wp2
 go_loopw [11] (fun v11 wr => ∃ i : Nat, v11 = .int .i64 i ∧ i ≤ l.length ∧ Aside0 (MapS wr w.heap.size (fitM (ofP (l.take i)))) ∧ Aside0 (Below w.heap.size w wr)) (fun v11 _ => l.length - (intOf v11).toNat)
 case atStart => exact ⟨0, rfl, by omega, HM0, HB0⟩
 case round =>
  clear HM0 HB0
  obtain ⟨i, rfl, hi, HM, HB⟩ := hrel
  by_cases hlt : i < l.length
  ·obtain ⟨b0, o0, rfl, hb0, hc0⟩ := kp_open H.out (by omega)
   obtain ⟨g0, g1⟩ := hc0 i hlt
   replace g0 := pw_cell_below HB.out g0
   replace g1 := pw_cell_below HB.out g1
   have q0 : (0 : Int) ≤ (i : Int) := by omega
   have q1 : (i : Int) < (l.length : Int) := by omega
   have hsz := HL.out l[i] (List.getElem_mem hlt)
   have HST := aM (show fitM (ofP (l.take (i + 1))) = mput (fitM (ofP (l.take i))) (lb l[i].1) l[i].2 by
    rw [List.take_succ_eq_append_getElem hlt]
    unfold ofP
    rw [List.map_append, List.map_cons, List.map_nil, fitM_snoc])
   have hml : (fitM (ofP (l.take i))).length < maxLen := by
    have h1 := fitM_length (ofP (l.take i))
    simp only [ofP, List.length_map, List.length_take] at h1
    unfold maxLen
    simp only [ofP]
    omega
   generalize l[i].1 = p at g0 hsz HST
   generalize l[i].2 = q at g1 HST
   have hks : p.size ≤ maxLen := by unfold maxLen; omega
   clear hc0 hsz
   have HB1 := aM (below_alloc HB.out (.cells #[.string p, .string q] 43))
   have HM1 := aM (HM.out.below ((Below.refl _ wr).alloc (Nat.le_refl _) (.cells #[.string p, .string q] 43)))
   have k0 : (wr.alloc (.cells #[.string p, .string q] 43)).cell? ⟨wr.heap.size, 0, none⟩ = some (.string p) := cb_cell (i := 0) (cb_new _ _) rfl
   have k1 : (wr.alloc (.cells #[.string p, .string q] 43)).cell? ⟨wr.heap.size, 1, none⟩ = some (.string q) := cb_cell (i := 1) (cb_new _ _) rfl
   go_wp2_with (at_mapUpdate; refine store_mapE key_u Tryz.underlying72 rfl _ _ _ rfl rfl HM1.out hml rfl hks rfl ?_; intro w2 hm2 hg2; have HM2 := aM hm2; have HG2 := aM hg2; clear hm2 hg2)
   go_roundw
   case rel => exact ⟨i + 1, by go_num, by omega, ⟨by rw [HST.out]; exact HM2.out⟩, ⟨pw_below_grown HB1.out _ HB1.out.size HG2.out (fun k hk => by injection hk with hk; omega)⟩⟩
   case measure => simp [intOf]; omega
  ·have hall := HM.out
   rw [List.take_of_length_le (by omega)] at hall
   have HALL := aM hall
   clear hall HM
   go_wp2
   go_ret
   exact ⟨rfl, HALL.out, HB.out⟩
def lookT (g : List (Bs × BA)) (n : BA) : Ending := .returned (.tuple #[.string ((mget g (lb n)).getD ⟨#[]⟩), .bool (mget g (lb n)).isSome])
def Small (f : List (Bs × BA)) : Prop := ∀ p ∈ f, p.1.length ≤ 4294967296
theorem small_toP {f : List (Bs × BA)} (h : Small f) : ∀ p ∈ toP f, p.1.size ≤ 4294967296 := by
 intro p hp
 unfold toP at hp
 obtain ⟨q, hq, rfl⟩ := List.mem_map.1 hp
 have := h q hq
 rw [← lb_length, lb_mk]
 exact this
structure Ok (N : Nat) (f : List (Bs × BA)) : Prop where
 r : Rises f
 s : Small f
 l : f.length ≤ N
theorem Ok.nil : Ok 0 [] := ⟨List.Pairwise.nil, fun p hp => by simp at hp, by simp⟩
theorem Ok.len {N : Nat} {f : List (Bs × BA)} (h : Ok N f) (hN : N ≤ 17179869184) : (toP f).length ≤ 17179869184 := by rw [toP_length]; have := h.l; omega
set_option maxHeartbeats 800000 in
theorem lookFn {g : List (Bs × BA)} {cb mb : Nat} (k : BA) (w : World) (hc : w.cell? ⟨cb, 0, none⟩ = some (.map (some mb))) (hm : MapS w mb g) (hk : k.size ≤ maxLen) :
  Calls Tryz.prog 42 #[.string k, .pointer (some ⟨cb, 0, none⟩)] w fun e w' => e = lookT g k ∧ w' = w := by
 have hlk := run_look_ok_mapE key_u Tryz.underlying72 (Tryz.zeroValue9 w) hm hk
 unfold lookT
 rcases hmg : mget g (lb k) with _ | v
 ·rw [hmg] at hlk
  simp only [Option.map_none, Option.getD_none, Option.isSome_none] at hlk
  clear hm hmg
  go_enter Tryz.func42, Tryz.ntmps42
  go_wp2
  go_ret2
  exact ⟨rfl, rfl⟩
 ·rw [hmg] at hlk
  simp only [Option.map_some, Option.getD_some, Option.isSome_some] at hlk
  clear hm hmg
  go_enter Tryz.func42, Tryz.ntmps42
  go_wp2
  go_ret2
  exact ⟨rfl, rfl⟩
set_option maxHeartbeats 800000 in
theorem look {A : Option Addr} {c N : Nat} {f : List (Bs × BA)} (hf : Ok N f) (hN : N ≤ 17179869184) (w : World) (h : kp.C w A (toP f).length (toP f)) :
  Calls Tryz.prog 28 #[.slice A (toP f).length c] w fun e w' => ∃ cb mb, e = .returned (.func (.func 42) #[] #[.pointer (some ⟨cb, 0, none⟩)]) ∧ w'.cell? ⟨cb, 0, none⟩ = some (.map (some mb)) ∧ MapS w' mb f ∧ w.heap.size ≤ mb ∧ Below w.heap.size w w' := by
 have cl := pairs (c := c) (toP f) w h (hf.len hN) (small_toP hf.s)
 rw [ofP_toP, fitM_id hf.r] at cl
 have CL := aM cl
 have hmf : ∀ (fn : Fn) (first cap : Array Value) (w : World), (Instr.makeFunc fn first cap).run Tryz.prog w = .ok (.func fn first cap) w := fun _ _ _ _ => rfl
 clear cl h hf
 go_enter Tryz.func28, Tryz.ntmps28
 go_wp2_with fail
 refine CL.out.mono ?_
 rintro e w1 ⟨rfl, hm1, hb1⟩
 have HB1 := aM hb1
 have HM1 := aM hm1
 clear hm1 hb1 CL
 go_wp2
 go_ret
 exact ⟨_, _, rfl, cb_cell (i := 0) (cb_new _ _) rfl, HM1.out.below ((Below.refl _ w1).alloc (Nat.le_refl _) _), Nat.le_refl _, HB1.out.alloc HB1.out.size _⟩
end Go.Proofs.YtkhkmhbledigpaaGreatDoor.Maps
namespace Go.Proofs.YtkhkmhbledigpaaGreatDoor.Tr
open Go.RowKit Go.Proofs.YtkhkmhbledigpaaGreatDoorW.PrintWords Go.Proofs.YtkhkmhbledigpaaGreatDoorW.PrintLast Go.Proofs.YtkhkmhbledigpaaGreatDoor.Str Go.Proofs.YtkhkmhbledigpaaGreatDoor.Kit Go.Proofs.YtkhkmhbledigpaaGreatDoor.MapV Go.Proofs.YtkhkmhbledigpaaGreatDoor.Frame Go.Proofs.YtkhkmhbledigpaaGreatDoor.PS
open Go.Proofs.YtkhkmhbledigpaaGreatDoor.Maps (MapS key_u map_u)
set_option linter.unusedVariables false
set_option linter.unusedSimpArgs false
def nEsc : BA := ⟨#[101, 115, 99, 97, 112, 101, 100]⟩
def nNamed : BA := ⟨#[110, 97, 109, 101, 100]⟩
def nBraced : BA := ⟨#[98, 114, 97, 99, 101, 100]⟩
def nInvalid : BA := ⟨#[105, 110, 118, 97, 108, 105, 100]⟩
def grNames : List BA := [nEsc, nNamed, nBraced, E0, nInvalid]
def grPairs (ms : List BA) : List (Bs × BA) := (grNames.map lb).zip (ms.drop 1)
theorem SubexpNames (w : World) : Calls Tryz.prog 92 #[.agg #[]] w fun e w' => e = .returned (.slice (some ⟨w.heap.size + 1, 0, none⟩) 6 6) ∧ Kd.string.C w' (some ⟨w.heap.size + 1, 0, none⟩) 6 (E0 :: grNames) ∧ Below w.heap.size w w' := by
 have HB := aM (below_alloc (below_alloc (Below.refl w.heap.size w) (.cells #[] 71)) (.cells ((E0 :: grNames).map Value.string).toArray 9))
 have HC := aM (strs_lit (w.alloc (.cells #[] 71)) 9 (E0 :: grNames) (by decide))
 go_enter Tryz.func92, Tryz.ntmps92
 go_wp2
 go_ret
 have hc := HC.out
 rw [World.size_alloc] at hc
 exact ⟨rfl, hc, HB.out⟩
theorem tail_reads {w : World} {b n : Nat} {x : BA} {xs : List BA} (h : Kd.string.C w (some ⟨b, 0, none⟩) n (x :: xs)) (hn : n = xs.length + 1) : ∀ (j : Nat) (hj : j < xs.length), w.cell? ⟨b, 1 + j, none⟩ = some (.string xs[j]) := by
 intro j hj
 subst hn
 obtain ⟨b1, o1, e1, _, hc⟩ := strs_open (xs := x :: xs) h (by simp)
 injection e1 with e1
 injection e1 with e1 e2
 subst e1 e2
 have := hc (j + 1) (by simp; omega)
 rw [show 0 + (j + 1) = 1 + j by omega] at this
 exact this
theorem gr_take (ms : List BA) (h6 : ms.length = 6) (i : Nat) (hi : i < 5) : fitM ((grPairs ms).take (i + 1)) = mput (fitM ((grPairs ms).take i)) (lb (grNames[i]'hi)) (ms[i + 1]'(by omega)) := by
 have hl : i < (grPairs ms).length := by unfold grPairs; rw [List.length_zip, List.length_map, List.length_drop]; simp [grNames]; omega
 have he : (grPairs ms)[i] = (lb (grNames[i]'hi), ms[i + 1]'(by omega)) := by
  have e1 : (ms.drop 1)[i]'(by rw [List.length_drop]; omega) = ms[i + 1]'(by omega) := by simp only [List.getElem_drop, Nat.add_comm 1 i]
  have e2 : (grNames.map lb)[i]'(by rw [List.length_map]; exact hi) = lb (grNames[i]'hi) := List.getElem_map ..
  have e3 := @List.getElem_zip _ _ (grNames.map lb) (ms.drop 1) i hl
  rw [e1, e2] at e3
  exact e3
 rw [List.take_succ_eq_append_getElem hl, he]
 exact fitM_snoc _ _
theorem gr_get (ms : List BA) (h6 : ms.length = 6) : mget (fitM (grPairs ms)) (lb nEsc) = some (ms[1]'(by omega)) ∧ mget (fitM (grPairs ms)) (lb nNamed) = some (ms[2]'(by omega)) ∧ mget (fitM (grPairs ms)) (lb nBraced) = some (ms[3]'(by omega)) := by
 match ms, h6 with
 | [a, b, c, d, e, f], _ =>
  have h : fitM (grPairs [a, b, c, d, e, f]) = mput (mput (mput (mput (mput [] (lb nEsc) b) (lb nNamed) c) (lb nBraced) d) (lb E0) e) (lb nInvalid) f := rfl
  rw [h]
  refine ⟨?_, ?_, ?_⟩
  ·rw [mget_mput, if_neg (by decide), mget_mput, if_neg (by decide), mget_mput, if_neg (by decide), mget_mput, if_neg (by decide), mget_mput, if_pos rfl]; rfl
  ·rw [mget_mput, if_neg (by decide), mget_mput, if_neg (by decide), mget_mput, if_neg (by decide), mget_mput, if_pos rfl]; rfl
  ·rw [mget_mput, if_neg (by decide), mget_mput, if_neg (by decide), mget_mput, if_pos rfl]; rfl
theorem gr_size : ∀ (j : Nat) (hj : j < 5), (grNames[j]'hj).size ≤ maxLen := by
 intro j hj
 have : ∀ s, s ∈ grNames → s.size ≤ maxLen := by
  intro s hs
  simp [grNames] at hs
  unfold maxLen
  rcases hs with rfl | rfl | rfl | rfl | rfl <;> decide
 exact this _ (List.getElem_mem hj)
set_option maxHeartbeats 1600000 in
theorem matchGroups (ms : List BA) (h6 : ms.length = 6) (A : Option Addr) (c : Nat) (w : World) (h : Kd.string.C w A 6 ms) :
  Calls Tryz.prog 84 #[.slice A 6 c, .agg #[]] w fun e w' => ∃ b, e = .returned (.map (some b)) ∧ MapS w' b (fitM (grPairs ms)) ∧ Below w.heap.size w w' := by
 obtain ⟨ab, ao, rfl, hab, hac⟩ := strs_open (xs := ms) (by rw [h6]; exact h) (by omega)
 have hac := aM hac
 clear h
 have hmm := @run_makeMap Tryz.prog
 have hb1 := below_alloc (below_alloc (Below.refl w.heap.size w) (.cells #[] 71)) (.map #[] 0)
 have HB1 := aM hb1
 have HM1 := aM (MapE.made Tryz.prog 9 Value.string (w.alloc (.cells #[] 71)))
 have CN := aM (SubexpNames ((w.alloc (.cells #[] 71)).alloc (.map #[] 0)))
 clear hb1
 go_enter Tryz.func84, Tryz.ntmps84
 go_wp2_with fail
 refine CN.out.mono ?_
 rintro e w1 ⟨rfl, hcn, hb⟩
 have HN := aM (tail_reads hcn rfl)
 have HM2 := aM (HM1.out.below hb)
 have HB2 := aM (hb_then HB1.out hb)
 have hst := aM hcn
 clear hb HB1 HM1 CN hcn
 have hB2 := HB2.out
 have hmlt : w.heap.size + 1 ≠ w.heap.size := by omega
 go_wp2
 rw [World.size_alloc] at HM2
 have HN := aM (show ∀ (j : Nat) (hj : j < grNames.length), w1.cell? ⟨w.heap.size + 1 + 1 + 1, 1 + j, none⟩ = some (.string grNames[j]) from fun j hj => by have := HN.out j hj; rw [World.size_alloc, World.size_alloc] at this; exact this)
 clear hst hB2
 go_loopw [13, 6, 7] (fun v13 v6 v7 wr => ∃ i : Nat, v13 = .int .i64 i ∧ i ≤ 5 ∧ Aside0 (MapS wr (w.heap.size + 1) (fitM ((grPairs ms).take i))) ∧ Aside0 (w1.grownBy wr (some (w.heap.size + 1)))) (fun v13 _ _ _ => 5 - (intOf v13).toNat)
 case atStart => exact ⟨0, rfl, by omega, HM2, ⟨World.grownBy.refl _ _⟩⟩
 case round =>
  clear HM2
  obtain ⟨i, rfl, hi, HM, HG⟩ := hrel
  by_cases hlt : i < 5
  ·have q0 : (0 : Int) ≤ (i : Int) := by omega
   have q1 : (i : Int) < 5 := by omega
   have q2 : (0 : Int) ≤ (i : Int) + 1 := by omega
   have q3 : (i : Int) + 1 < 6 := by omega
   have q4 : ((i : Int) + 1).toNat = i + 1 := by omega
   have q5 : decide ((i : Int) < 5) = true := decide_eq_true q1
   have n0 := cell_grown HG.out (HN.out i hlt) (fun e => absurd (Option.some.inj e) (by show ¬ (w.heap.size + 1 + 1 + 1 = w.heap.size + 1); omega))
   have hsz6 : i + 1 < ms.length := by omega
   have n1 := cell_grown HG.out (pw_cell_below HB2.out (hac.out (i + 1) hsz6)) (fun e => absurd (Option.some.inj e) (by show ¬ (ab = w.heap.size + 1); omega))
   have HT := aM (gr_take ms h6 i hlt)
   have hks := gr_size i hlt
   have hml : (fitM ((grPairs ms).take i)).length < maxLen := by
    have h1 := fitM_length ((grPairs ms).take i)
    rw [List.length_take] at h1
    unfold maxLen
    omega
   have hmm2 := HM.out
   generalize grNames[i] = key at n0 HT hks
   generalize ms[i + 1] = m at n1 HT
   go_wp2_with (at_mapUpdate; refine store_mapE key_u Tryz.underlying72 rfl _ _ _ rfl rfl hmm2 hml rfl hks rfl ?_; intro w2 hm2 hg2; have HM2 := aM hm2; have HG2 := aM hg2; clear hm2 hg2)
   go_roundw
   case rel => exact ⟨i + 1, by go_num, by omega, ⟨by rw [HT.out]; exact HM2.out⟩, ⟨HG.out.andThen HG2.out (fun j e => .inr e)⟩⟩
   case measure => simp [intOf]; omega
  ·have q5 : decide ((i : Int) < 5) = false := decide_eq_false (by omega)
   have HL := aM (show (grPairs ms).take i = grPairs ms from List.take_of_length_le (by unfold grPairs; rw [List.length_zip, List.length_drop]; omega))
   go_wp2
   go_ret
   exact ⟨_, rfl, by have := HM.out; rw [HL.out] at this; exact this, pw_below_grown HB2.out _ HB2.out.size HG.out (fun k hk => by injection hk with hk; omega)⟩
theorem FindStringSubmatch (s : BA) (ms : List BA) (n : Int) (h0 : 0 < s.size) (hs : s.size < 4611686018427387904) (h : Ends (fun r => r = (ms, n, true)) (fun k => template_zzAt.f k s ((0 : Nat) : Int))) (w : World) :
  Calls Tryz.prog 83 #[.agg #[], .string s] w fun e w' => ∃ A c, e = .returned (.slice A ms.length c) ∧ Kd.string.C w' A ms.length ms ∧ Below w.heap.size w w' := by
 obtain ⟨k, hk⟩ := h.ev.rounds
 have hb1 := below_alloc (Below.refl w.heap.size w) (.cells #[] 71)
 have HB1 := aM hb1
 have CA := aM (template_zzAt.calls k s 0 ms n true (w.alloc (.cells #[] 71)) hk)
 have hd : decide ((0 : Int) < (s.size : Int)) = true := decide_eq_true (by omega)
 clear hb1 hk h
 go_enter Tryz.func83, Tryz.ntmps83
 go_wp2
 refine wp_loop_rounds 1 ?_
 rw [rounds_succ]
 go_wp2_with fail
 refine CA.out.mono ?_
 rintro e w1 ⟨v, rfl, hr, hb⟩
 have HB2 := aM (hb_then HB1.out hb)
 obtain ⟨A, c, rfl, l, g⟩ := Kd.R_reads hr
 have HG := aM g
 clear hb CA hr g
 go_wp2
 go_ret
 exact ⟨A, c, rfl, HG.out, HB2.out⟩
end Go.Proofs.YtkhkmhbledigpaaGreatDoor.Tr
namespace Go.Proofs.YtkhkmhbledigpaaGreatDoor.Tr
open Go.RowKit Go.Proofs.YtkhkmhbledigpaaGreatDoorW.PrintWords Go.Proofs.YtkhkmhbledigpaaGreatDoorW.PrintLast Go.Proofs.YtkhkmhbledigpaaGreatDoor.Str Go.Proofs.YtkhkmhbledigpaaGreatDoor.Kit Go.Proofs.YtkhkmhbledigpaaGreatDoor.MapV Go.Proofs.YtkhkmhbledigpaaGreatDoor.Frame Go.Proofs.YtkhkmhbledigpaaGreatDoor.PS
open Go.Proofs.YtkhkmhbledigpaaGreatDoor.Maps (MapS key_u map_u lookFn lookT)
set_option linter.unusedVariables false
set_option linter.unusedSimpArgs false
section
variable {P : Program} {ops : Array Oper} {Q : Exit → Act → World → Prop}
theorem goesV_ (c : Operand) (cap : Array Value) {oi : Oper} {N : Option Tmp} {a : Act} {w : World} {K : Act → World → Prop} {f : FuncId} {fn : Func} {xs : Array Operand} {ts : Array TypeId} (hf : P.funcs[f]? = some fn) (hname : (fn.name == "runtime.NumGoroutine") = false) (hb : fn.body.isSome = true) (args : Array Value)
  (hw : Region.wanted oi (yielded ops a.tmps) = true) (hN : oi.dst = N) (hop : oi.op = .call { callee := .value c, args := xs, argTypes := ts }) (hv : a.eval c = .func (.func f) #[] cap) (hargs : xs.map a.eval ++ cap = args)
  (h : Calls P f args w fun e w' => ∃ v, e = .returned v ∧ K (a.put N v) w') : if Region.wanted oi (yielded ops a.tmps) = true then Oper.wp P oi a w K Q else K (a.put N undef) w := by
 refine call_ f args hw hN ?_ h
 have he := enters_ hf hname hb args w
 unfold execOp
 simp [hop, resolve, Deferred.ofValue, invoke, hv, hargs, he]
end
inductive Rw (P : BA → BA → Prop) (s : BA) : Nat → Bs → Prop
 | done (i : Nat) (h : s.size ≤ i) : Rw P s i []
 | byte (i : Nat) (c : UInt8) (out : Bs) (h : At s i c) (hn : Ends (fun r => r = (([] : List BA), (0 : Int), false)) (fun k => template_zzAt.f k s (i : Int))) (k : Rw P s (i + 1) out) : Rw P s i (c :: out)
 | hit (i n : Nat) (m r : BA) (ms : List BA) (out : Bs) (hi : i < s.size) (hn : i < n) (hns : n ≤ s.size) (h : Ends (fun r => r = (m :: ms, (n : Int), true)) (fun k => template_zzAt.f k s (i : Int))) (hp : P m r) (k : Rw P s n out) : Rw P s i (lb r ++ out)
theorem Rw.mono {P Q : BA → BA → Prop} {s : BA} {i : Nat} {out : Bs} (h : Rw P s i out) (hq : ∀ m r, P m r → Q m r) : Rw Q s i out := by
 induction h with
 | done i h => exact .done i h
 | byte i c out h hn _ ih => exact .byte i c out h hn ih
 | hit i n m r ms out hi hn hns h hp _ ih => exact .hit i n m r ms out hi hn hns h (hq m r hp) ih
theorem At.num {s : BA} {i : Nat} {c : UInt8} (h : At s i c) : ((s[i]'h.lt).toNat : Int) = (c.toNat : Int) := by
 have h1 := (List.getElem?_eq_some_iff.1 h).2
 have h2 : s[i]'h.lt = (lb s)[i]'(by rw [lb_length]; exact h.lt) := rfl
 rw [h2, h1]
def EnvAt (w : World) (cb : Nat) (g : List (Bs × BA)) : Prop := ∃ mb, w.cell? ⟨cb, 0, none⟩ = some (.map (some mb)) ∧ MapS w mb g
theorem EnvAt.below {w w1 : World} {cb : Nat} {g : List (Bs × BA)} (h : EnvAt w cb g) (hb : Below w.heap.size w w1) : EnvAt w1 cb g := by
 obtain ⟨mb, h1, h2⟩ := h
 exact ⟨mb, pw_cell_below hb h1, h2.below hb⟩
abbrev envF (cb : Nat) : Value := .func (.func 42) #[] #[.pointer (some ⟨cb, 0, none⟩)]
def CfgAt (w : World) (b : Nat) : Prop := w.heap[b]? = some (.cells #[.nilFunc, .func (.func 66) #[] #[], .bool true] 106 (0, 0))
theorem CfgAt.below {w w1 : World} {b : Nat} (h : CfgAt w b) (hb : Below w.heap.size w w1) : CfgAt w1 b := (hb.block _ (cb_lt h)).trans h
structure CloAt (w : World) (pb eb tb rb cb b : Nat) (s : BA) : Prop where
 p : w.cell? ⟨pb, 0, none⟩ = some (.pointer (some ⟨b, 0, none⟩))
 e : w.cell? ⟨eb, 0, none⟩ = some (envF cb)
 t : w.cell? ⟨tb, 0, none⟩ = some (.string s)
 r : w.cell? ⟨rb, 0, none⟩ = some .nilIface
 c : CfgAt w b
theorem CloAt.below {w w1 : World} {pb eb tb rb cb b : Nat} {s : BA} (h : CloAt w pb eb tb rb cb b s) (hb : Below w.heap.size w w1) : CloAt w1 pb eb tb rb cb b s :=
 ⟨pw_cell_below hb h.p, pw_cell_below hb h.e, pw_cell_below hb h.t, pw_cell_below hb h.r, h.c.below hb⟩
def Repl (P : BA → BA → Prop) (g : List (Bs × BA)) : Prop := ∀ m r, P m r → ∀ (w : World) (cb b : Nat), EnvAt w cb g → CfgAt w b →
 Calls Tryz.prog 66 #[.string m, envF cb, .pointer (some ⟨b, 0, none⟩)] w fun e w' => e = .returned (.tuple #[.string r, .nilIface]) ∧ Below w.heap.size w w'
set_option maxHeartbeats 1600000 in
set_option maxRecDepth 100000 in
theorem closure {P : BA → BA → Prop} {g : List (Bs × BA)} (hP : Repl P g) (m r : BA) (hp : P m r) (w : World) (pb eb tb rb cb b : Nat) (s : BA) (hE : EnvAt w cb g) (hC : CloAt w pb eb tb rb cb b s) :
  Calls Tryz.prog 68 #[.string m, .pointer (some ⟨pb, 0, none⟩), .pointer (some ⟨eb, 0, none⟩), .pointer (some ⟨tb, 0, none⟩), .pointer (some ⟨rb, 0, none⟩)] w fun e w' => e = .returned (.string r) ∧ Below w.heap.size w w' := by
 have HR := aM (fun W (h1 : EnvAt W cb g) (h2 : CfgAt W b) => hP m r hp W cb b h1 h2)
 have HE := aM hE
 have HC := aM hC
 have e0 := hC.p
 have e1 := hC.e
 have e2 : w.cell? ⟨b, 1, none⟩ = some (.func (.func 66) #[] #[]) := cb_cell (i := 1) hC.c rfl
 clear hE hC hP hp
 go_enter Tryz.func68, Tryz.ntmps68
 go_wp2_with fail
 have HCL := aM (HR.out w.drew (HE.out.below (below_drew (Below.refl _ _))) (HC.out.c.below (below_drew (Below.refl _ _))))
 refine start_ (n := 13) (S := fun w' => w'.cell? ⟨pb, 0, none⟩ = some (.pointer (some ⟨b, 0, none⟩)) ∧ w'.cell? ⟨eb, 0, none⟩ = some (envF cb) ∧ w'.cell? ⟨b, 1, none⟩ = some (.func (.func 66) #[] #[])) (ds := [7]) #[false, false, false, false, false, false, false, false, false, false, false, false, false] (by kernel_rfl) rfl rfl ⟨e0, e1, e2⟩ (fun hHeld => ?_)
 refine pure_ (i := 4) (N := some 15) (v := ?_) (a' := ?_) #[false, false, false, false, true, false, false, false, false, false, false, false, false] rfl rfl (by kernel_rfl) (fun _ _ _ h => h) (Or.inl ⟨by rfl, ?_⟩) ?_ ?_
 rotate_left
 ·intro w'; go_simp; with_reducible rfl
 rotate_left
 ·simp only [Act.put, sA, sB, sC, i64_w, i32_w]; rfl
 refine take_ (i := 0) (N := some 11) (v := ?_) (a' := ?_) #[true, false, false, false, true, false, false, false, false, false, false, false, false] rfl rfl (by kernel_rfl) (fun _ _ _ h => h) (Or.inl ⟨by rfl, ?_⟩) hHeld ?_ ?_
 rotate_left
 ·rintro w' ⟨s0, s1, s2⟩
  go_simp; with_reducible rfl
 rotate_left
 ·simp only [Act.put, sA, sB, sC, i64_w, i32_w]; rfl
 refine pure_ (i := 1) (N := some 12) (v := ?_) (a' := ?_) #[true, true, false, false, true, false, false, false, false, false, false, false, false] rfl rfl (by kernel_rfl) (fun _ _ _ h => h) (Or.inl ⟨by rfl, ?_⟩) ?_ ?_
 rotate_left
 ·intro w'; go_simp; with_reducible rfl
 rotate_left
 ·simp only [Act.put, sA, sB, sC, i64_w, i32_w]; rfl
 refine pure_ (i := 2) (N := some 13) (v := ?_) (a' := ?_) #[true, true, true, false, true, false, false, false, false, false, false, false, false] rfl rfl (by kernel_rfl) (fun _ _ _ h => h) (Or.inl ⟨by rfl, ?_⟩) ?_ ?_
 rotate_left
 ·intro w'; go_simp; with_reducible rfl
 rotate_left
 ·simp only [Act.put, sA, sB, sC, i64_w, i32_w]; rfl
 refine take_ (i := 3) (N := some 14) (v := ?_) (a' := ?_) #[true, true, true, true, true, false, false, false, false, false, false, false, false] rfl rfl (by kernel_rfl) (fun _ _ _ h => h) (Or.inl ⟨by rfl, ?_⟩) hHeld ?_ ?_
 rotate_left
 ·rintro w' ⟨s0, s1, s2⟩
  go_simp; with_reducible rfl
 rotate_left
 ·simp only [Act.put, sA, sB, sC, i64_w, i32_w]; rfl
 refine take_ (i := 5) (N := some 16) (v := ?_) (a' := ?_) #[true, true, true, true, true, true, false, false, false, false, false, false, false] rfl rfl (by kernel_rfl) (fun _ _ _ h => h) (Or.inl ⟨by rfl, ?_⟩) hHeld ?_ ?_
 rotate_left
 ·rintro w' ⟨s0, s1, s2⟩
  go_simp; with_reducible rfl
 rotate_left
 ·simp only [Act.put, sA, sB, sC, i64_w, i32_w]; rfl
 refine take_ (i := 6) (N := some 17) (v := ?_) (a' := ?_) #[true, true, true, true, true, true, true, false, false, false, false, false, false] rfl rfl (by kernel_rfl) (fun _ _ _ h => h) (Or.inl ⟨by rfl, ?_⟩) hHeld ?_ ?_
 rotate_left
 ·rintro w' ⟨s0, s1, s2⟩
  go_simp; with_reducible rfl
 rotate_left
 ·simp only [Act.put, sA, sB, sC, i64_w, i32_w]; rfl
 refine last_ (i := 7) (N := some 18) #[true, true, true, true, true, true, true, true, false, false, false, false, false] rfl rfl (by kernel_rfl) (by decide) (fun K hK => ?_)
 refine goesV_ (.tmp 14) #[] Tryz.func66 (by kernel_rfl) rfl #[.string m, envF cb, .pointer (some ⟨b, 0, none⟩)] (by rfl) rfl rfl rfl (by simp only [List.map_toArray, List.map_cons, List.map_nil, Array.append_empty]; rfl) ?_
 with_reducible refine (HCL.out).mono ?_
 rintro e w4 ⟨rfl, hb⟩
 refine ⟨_, rfl, ?_⟩
 refine hK.out _ _ ?_
 clear hK K
 refine norm_ (a' := ?_) ?_ ?_
 rotate_left
 ·show Act.put _ (some 18) _ = _
  simp only [Act.put, sA, sB, sC, i64_w, i32_w]; rfl
 refine pure_ (i := 8) (N := some 10) (v := ?_) (a' := ?_) #[true, true, true, true, true, true, true, true, true, false, false, false, false] rfl rfl (by kernel_rfl) (fun _ _ _ h => h) (Or.inl ⟨by rfl, ?_⟩) ?_ ?_
 rotate_left
 ·intro w'; go_simp; with_reducible rfl
 rotate_left
 ·simp only [Act.put, sA, sB, sC, i64_w, i32_w]; rfl
 refine pure_ (i := 9) (N := some 19) (v := ?_) (a' := ?_) #[true, true, true, true, true, true, true, true, true, true, false, false, false] rfl rfl (by kernel_rfl) (fun _ _ _ h => h) (Or.inl ⟨by rfl, ?_⟩) ?_ ?_
 rotate_left
 ·intro w'; go_simp; with_reducible rfl
 rotate_left
 ·simp only [Act.put, sA, sB, sC, i64_w, i32_w]; rfl
 refine pure_ (i := 10) (N := some 20) (v := ?_) (a' := ?_) #[true, true, true, true, true, true, true, true, true, true, true, false, false] rfl rfl (by kernel_rfl) (fun _ _ _ h => h) (Or.inl ⟨by rfl, ?_⟩) ?_ ?_
 rotate_left
 ·intro w'; go_simp; with_reducible rfl
 rotate_left
 ·simp only [Act.put, sA, sB, sC, i64_w, i32_w]; rfl
 refine pure_ (i := 11) (N := some 7) (v := ?_) (a' := ?_) #[true, true, true, true, true, true, true, true, true, true, true, true, false] rfl rfl (by kernel_rfl) (fun _ _ _ h => h) (Or.inl ⟨by rfl, ?_⟩) ?_ ?_
 rotate_left
 ·intro w'; go_simp; with_reducible rfl
 rotate_left
 ·simp only [Act.put, sA, sB, sC, i64_w, i32_w]; rfl
 refine pure_ (i := 12) (N := some 8) (v := ?_) (a' := ?_) #[true, true, true, true, true, true, true, true, true, true, true, true, true] rfl rfl (by kernel_rfl) (fun _ _ _ h => h) (Or.inl ⟨by rfl, ?_⟩) ?_ ?_
 rotate_left
 ·intro w'; go_simp; with_reducible rfl
 rotate_left
 ·simp only [Act.put, sA, sB, sC, i64_w, i32_w]; rfl
 refine done_ (by kernel_rfl) ?_
 have HB4 := aM (hb_then (below_drew (Below.refl _ w)) hb)
 clear hb HCL
 go_wp2
 go_ret
 exact ⟨rfl, HB4.out⟩
def RwTo (P : BA → BA → Prop) (s : BA) (out : Bs) (i : Nat) (l : Bs) : Prop := ∃ rest, Rw P s i rest ∧ l ++ rest = out
theorem rw_end {P : BA → BA → Prop} {s : BA} {i : Nat} {out : Bs} (h : Rw P s i out) (hi : s.size ≤ i) : out = [] := by
 cases h with
 | done => rfl
 | byte _ _ _ h _ _ => have := h.lt; omega
 | hit _ _ _ _ _ _ h _ _ _ _ _ => omega
set_option maxHeartbeats 3200000 in
set_option maxRecDepth 100000 in
theorem ReplaceAll {P : BA → BA → Prop} {g : List (Bs × BA)} (hP : Repl P g) (s : BA) (out : Bs) (hs : s.size < 140737488355328) (ho : out.length ≤ 140737488355328) (hrw : Rw P s 0 out) (w : World) (pb eb tb rb cb b : Nat) (t : BA) (hE : EnvAt w cb g) (hC : CloAt w pb eb tb rb cb b t) :
  Calls Tryz.prog 67 #[.agg #[], .string s, .func (.func 68) #[] #[.pointer (some ⟨pb, 0, none⟩), .pointer (some ⟨eb, 0, none⟩), .pointer (some ⟨tb, 0, none⟩), .pointer (some ⟨rb, 0, none⟩)]] w fun e w' => e = .returned (.string ⟨out.toArray⟩) ∧ Below w.heap.size w w' := by
 have HB0 := aM (below_alloc (Below.refl w.heap.size w) (.cells #[] 71))
 have HRW := aM hrw
 have HE := aM hE
 have HC := aM hC
 have HP := aM hP
 have HO := aM ho
 clear hrw hE hC hP ho
 go_enter Tryz.func67, Tryz.ntmps67
 go_wp2
 go_loopw [7, 8, 9, 10, 11] (fun v7 v8 v9 v10 v11 wr => ∃ (i : Nat) (l : Bs), v8 = .int .i64 i ∧ i ≤ 4611686018427387904 ∧ Aside0 (RwTo P s out i l) ∧ Aside0 (Buf wr w.heap.size v7 l) ∧ Aside0 (Below w.heap.size w wr)) (fun _ v8 _ _ _ _ => s.size - (intOf v8).toNat)
 case atStart => exact ⟨0, [], rfl, by omega, ⟨out, HRW.out, rfl⟩, ⟨Buf.nil _ _⟩, HB0⟩
 case round =>
  clear HRW HB0
  obtain ⟨i, l, rfl, hi, HT, HO1, HB⟩ := hrel
  obtain ⟨rest, hrest, hl⟩ := HT.out
  by_cases hlt : i < s.size
  ·have q1 : (i : Int) < (s.size : Int) := by omega
   have q0 : (0 : Int) ≤ (i : Int) := by omega
   have q5 : decide ((i : Int) < (s.size : Int)) = true := decide_eq_true q1
   have HLO := aM (show l.length + rest.length ≤ 140737488355328 by have := HO.out; rw [← hl, List.length_append] at this; exact this)
   cases hrest with
   | done _ h => exact absurd h (Nat.not_le.2 hlt)
   | byte _ c rest' hat hn hk =>
    obtain ⟨k, hkk⟩ := hn.ev.rounds
    have CA := aM (template_zzAt.calls k s i [] 0 false wr hkk)
    have HAT := aM hat
    have HN := aM (show RwTo P s out (i + 1) (l ++ [c]) from ⟨rest', hk, by rw [← hl]; simp⟩)
    have HLL := aM (show l.length + 1 ≤ 140737488355328 by have := HLO.out; rw [List.length_cons] at this; omega)
    clear hkk hn hk hl HT hat HLO
    go_wp2_with fail
    refine CA.out.mono ?_
    rintro e w1 ⟨v, rfl, hr, hb⟩
    have HB1 := aM (hb_then HB.out hb)
    have HO2 := aM (HO1.out.below hb)
    obtain ⟨A9, c9, rfl⟩ := Kd.R_slice hr
    have hbt := HAT.out.bt
    clear hb CA hr
    go_wp2_with (at_builtin; refine append_bufB (.tmp 25) (.tmp 29) rfl rfl c (by first | done | exact HAT.out.num) rfl rfl HO2.out HB1.out HLL.out ?_; intro v1 w2 ho hb hg; have HO3 := aM ho; have HB3 := aM hb; clear ho hb hg)
    go_roundw
    case rel => exact ⟨i + 1, l ++ [c], by go_num, by omega, HN, HO3, HB3⟩
    case measure => simp [intOf]; omega
   | hit _ n m r ms rest' hil hin hns hz hp hk =>
    obtain ⟨k, hkk⟩ := hz.ev.rounds
    have CA := aM (template_zzAt.calls k s i (m :: ms) n true wr hkk)
    have CC := aM (fun W (h1 : EnvAt W cb g) (h2 : CloAt W pb eb tb rb cb b t) => closure HP.out m r hp W pb eb tb rb cb b t h1 h2)
    have HN := aM (show RwTo P s out n (l ++ lb r) from ⟨rest', hk, by rw [← hl]; simp⟩)
    have HLL := aM (show l.length + r.size ≤ 140737488355328 by have := HLO.out; rw [List.length_append, lb_length] at this; omega)
    have HNN := aM (show n ≤ 4611686018427387904 by omega)
    clear hkk hz hk hl HT HLO hp
    go_wp2_with fail
    refine CA.out.mono ?_
    rintro e w1 ⟨v, rfl, hr, hb⟩
    have HB1 := aM (hb_then HB.out hb)
    have HO2 := aM (HO1.out.below hb)
    obtain ⟨A9, c9, rfl, l9, g9⟩ := Kd.R_reads hr
    obtain ⟨b9, o9, rfl, hb9, hc9⟩ := strs_open g9 (by simp)
    have e9 : w1.cell? ⟨b9, o9, none⟩ = some (.string m) := hc9 0 (by simp)
    have hbw := hb_then (below_alloc (Below.refl w.heap.size w) (.cells #[] 71)) (Below.refl _ _)
    have CCL := aM (CC.out w1 (HE.out.below HB1.out) (HC.out.below HB1.out))
    have HG9 := aM (show (0 : Int) < ((m :: ms).length : Int) by rw [List.length_cons]; omega)
    have hg9 := HG9.out
    clear hb CA hr CC hbw hc9 g9
    go_wp2_with fail
    refine CCL.out.mono ?_
    rintro e w2 ⟨rfl, hb⟩
    have HB2 := aM (hb_then HB1.out hb)
    have HO3 := aM (HO2.out.below hb)
    clear hb CCL
    go_wp2_with (at_builtin; refine append_bufS (.tmp 33) (.tmp 38) rfl rfl rfl rfl HO3.out HB2.out HLL.out ?_; intro v1 w3 ho hb hg; have HO4 := aM ho; have HB4 := aM hb; clear ho hb hg)
    go_roundw
    case rel => exact ⟨n, l ++ lb r, rfl, HNN.out, HN, HO4, HB4⟩
    case measure => simp [intOf]; omega
  ·have q5 : decide ((i : Int) < (s.size : Int)) = false := decide_eq_false (by omega)
   have hre := rw_end hrest (by omega)
   rw [hre, List.append_nil] at hl
   subst hl
   have hcv := HO1.out.string
   obtain ⟨A7, c7, rfl⟩ := HO1.out.slice
   go_wp2
   go_ret
   exact ⟨rfl, HB.out⟩
theorem byte_cfg {w : World} {b : Nat} {cs : Array Value} (h : w.heap[b]? = some (.cells cs 106 (0, 0))) : (byteOf ⟨b, 0, none⟩).run Tryz.prog w = .ok 0 w := by
 have hv : (viewAt b).run Tryz.prog w = .ok none w := by
  unfold viewAt
  simp [World.shape?, h]
 have hs : w.shape? b = some (106, cs.size) := by simp [World.shape?, h]
 have hc : Tryz.prog.cellsOf 106 = 3 := by kernel_rfl
 have hd : byteOfCell Tryz.prog Tryz.prog.depth 106 0 = some 0 := by kernel_rfl
 unfold byteOf noView
 simp [hv, hs, hc, hd, Result.andThen]
theorem part_cfg {w : World} {b : Nat} {cs : Array Value} (h : w.heap[b]? = some (.cells cs 106 (0, 0))) : (partAt ⟨b, 0, none⟩ 0 0).run Tryz.prog w = .ok ⟨b, 0, none⟩ w := by
 unfold partAt
 simp [byte_cfg h, Result.andThen]
theorem withPattern1 (b tb : Nat) (w : World) (h : CfgAt w b) : Calls Tryz.prog 64 #[.pointer (some ⟨b, 0, none⟩), .pointer (some ⟨tb, 0, none⟩)] w fun e w' => e = .returned (.tuple #[]) ∧ w' = w := by
 have hpa := part_cfg h
 clear h
 go_enter Tryz.func64, Tryz.ntmps64
 go_wp2
 go_end0
 exact ⟨rfl, rfl⟩
theorem withPattern (w : World) : Calls Tryz.prog 51 #[.agg #[]] w fun e w' => e = .returned (.func (.func 64) #[] #[.pointer (some ⟨w.heap.size, 0, none⟩)]) ∧ w' = w.alloc (.cells #[] 71) := by
 have hmf : ∀ (fn : Fn) (first cap : Array Value) (w : World), (Instr.makeFunc fn first cap).run Tryz.prog w = .ok (.func fn first cap) w := fun _ _ _ _ => rfl
 go_enter Tryz.func51, Tryz.ntmps51
 go_wp2
 go_ret
 exact ⟨rfl, rfl⟩
set_option maxHeartbeats 3200000 in
set_option maxRecDepth 100000 in
theorem SubstWith {P : BA → BA → Prop} {g : List (Bs × BA)} (hP : Repl P g) (s : BA) (out : Bs) (hs : s.size < 140737488355328) (ho : out.length ≤ 140737488355328) (hrw : Rw P s 0 out) (w : World) (cb tb : Nat) (hE : EnvAt w cb g) (ob : Nat) (hO : w.cell? ⟨ob, 0, none⟩ = some (.func (.func 64) #[] #[.pointer (some ⟨tb, 0, none⟩)])) :
  Calls Tryz.prog 53 #[.string s, envF cb, .slice (some ⟨ob, 0, none⟩) 1 1] w fun e w' => e = .returned (.tuple #[.string ⟨out.toArray⟩, .nilIface]) ∧ Below w.heap.size w w' := by
 have HE := aM hE
 have HRW := aM hrw
 have HP := aM hP
 have HO := aM hO
 clear hrw hP hE hO
 have hmf : ∀ (fn : Fn) (first cap : Array Value) (w : World), (Instr.makeFunc fn first cap).run Tryz.prog w = .ok (.func fn first cap) w := fun _ _ _ _ => rfl
 have hfd : Array.foldl (fun (cs : Array Value) (x : Value × Nat) => cs.setIfInBounds x.snd x.fst) #[Value.nilFunc, Value.nilFunc, Value.bool false] ((#[] : Array Value).zipIdx) 0 0 = #[Value.nilFunc, Value.nilFunc, Value.bool false] := rfl
 go_enter Tryz.func53, Tryz.ntmps53
 go_wp2
 obtain ⟨w1, hw1⟩ : ∃ w1, ((((w.alloc (.cells #[.string s] 9)).alloc (.cells #[envF cb] 68)).alloc (.cells #[.nilIface] 55)).alloc (.cells #[.nilFunc, .func (.func 66) #[] #[], .bool true] 106)).alloc (.cells #[.pointer (some ⟨w.heap.size + 1 + 1 + 1, 0, none⟩)] 102) = w1 := ⟨_, rfl⟩
 rw [hw1]
 have hbw : Below w.heap.size w w1 := by rw [← hw1]; exact below_alloc (below_alloc (below_alloc (below_alloc (below_alloc (Below.refl w.heap.size w) _) _) _) _) _
 have HB := aM hbw
 have HC := aM (show CloAt w1 (w.heap.size + 1 + 1 + 1 + 1) (w.heap.size + 1) w.heap.size (w.heap.size + 1 + 1) cb (w.heap.size + 1 + 1 + 1) s from by
  rw [← hw1]
  have n0 := cb_new w (.cells #[.string s] 9)
  have n1 := cb_new (w.alloc (.cells #[.string s] 9)) (.cells #[envF cb] 68)
  have n2 := cb_new ((w.alloc (.cells #[.string s] 9)).alloc (.cells #[envF cb] 68)) (.cells #[.nilIface] 55)
  have n3 := cb_new (((w.alloc (.cells #[.string s] 9)).alloc (.cells #[envF cb] 68)).alloc (.cells #[.nilIface] 55)) (.cells #[.nilFunc, .func (.func 66) #[] #[], .bool true] 106)
  have n4 := cb_new ((((w.alloc (.cells #[.string s] 9)).alloc (.cells #[envF cb] 68)).alloc (.cells #[.nilIface] 55)).alloc (.cells #[.nilFunc, .func (.func 66) #[] #[], .bool true] 106)) (.cells #[.pointer (some ⟨w.heap.size + 1 + 1 + 1, 0, none⟩)] 102)
  simp only [World.size_alloc] at n1 n2 n3 n4
  exact ⟨cb_cell (i := 0) n4 rfl, cb_cell (i := 0) (cb_alloc (cb_alloc (cb_alloc n1 _) _) _) rfl, cb_cell (i := 0) (cb_alloc (cb_alloc (cb_alloc (cb_alloc n0 _) _) _) _) rfl, cb_cell (i := 0) (cb_alloc (cb_alloc n2 _) _) rfl, cb_alloc n3 _⟩)
 have HE1 := aM (HE.out.below hbw)
 have hob := pw_cell_below hbw HO.out
 have CW := aM (withPattern1 _ tb w1 HC.out.c)
 have hpb := HC.out.p
 clear hw1 hbw HE HO
 go_loopw [18, 11] (fun v18 v11 wr => wr = w1 ∧ (v18 = .int .i64 0 ∨ v18 = .int .i64 1)) (fun v18 _ _ => 1 - (intOf v18).toNat)
 case atStart => exact ⟨rfl, .inl rfl⟩
 case round =>
  obtain ⟨rfl, h18⟩ := hrel
  rcases h18 with rfl | rfl
  ·go_wp2_with fail
   refine CW.out.mono ?_
   rintro e w2 ⟨rfl, rfl⟩
   go_wp2
   go_roundw
   case rel => exact ⟨trivial, .inr rfl⟩
   case measure => simp [intOf]
  ·clear CW
   have HRA := aM (ReplaceAll HP.out s out hs ho HRW.out wr.drew (w.heap.size + 1 + 1 + 1 + 1) (w.heap.size + 1) w.heap.size (w.heap.size + 1 + 1) cb (w.heap.size + 1 + 1 + 1) s (HE1.out.below (below_drew (Below.refl _ _))) (HC.out.below (below_drew (Below.refl _ _))))
   have e1 := HC.out.t
   have e2 := part_cfg (w := wr.drew) HC.out.c
   have er := aM HC.out.r
   clear hob
   go_wp2_with fail
   refine start_ (n := 8) (S := fun w' => w'.cell? ⟨w.heap.size + 1 + 1 + 1 + 1, 0, none⟩ = some (.pointer (some ⟨w.heap.size + 1 + 1 + 1, 0, none⟩)) ∧ w'.cell? ⟨w.heap.size, 0, none⟩ = some (.string s) ∧ (partAt ⟨w.heap.size + 1 + 1 + 1, 0, none⟩ 0 0).run Tryz.prog w' = .ok ⟨w.heap.size + 1 + 1 + 1, 0, none⟩ w') (ds := [6]) #[false, false, false, false, false, false, false, false] (by kernel_rfl) rfl rfl ⟨hpb, e1, e2⟩ (fun hHeld => ?_)
   refine pure_ (i := 5) (N := some 31) (v := ?_) (a' := ?_) #[false, false, false, false, false, true, false, false] rfl rfl (by kernel_rfl) (fun _ _ _ h => h) (Or.inl ⟨by rfl, ?_⟩) ?_ ?_
   rotate_left
   ·intro w'; go_simp; with_reducible rfl
   rotate_left
   ·simp only [Act.put, sA, sB, sC, i64_w, i32_w]; rfl
   refine take_ (i := 0) (N := some 26) (v := ?_) (a' := ?_) #[true, false, false, false, false, true, false, false] rfl rfl (by kernel_rfl) (fun _ _ _ h => h) (Or.inl ⟨by rfl, ?_⟩) hHeld ?_ ?_
   rotate_left
   ·rintro w' ⟨s0, s1, s2⟩
    go_simp; with_reducible rfl
   rotate_left
   ·simp only [Act.put, sA, sB, sC, i64_w, i32_w]; rfl
   refine pure_ (i := 1) (N := some 27) (v := ?_) (a' := ?_) #[true, true, false, false, false, true, false, false] rfl rfl (by kernel_rfl) (fun _ _ _ h => h) (Or.inl ⟨by rfl, ?_⟩) ?_ ?_
   rotate_left
   ·intro w'; go_simp; with_reducible rfl
   rotate_left
   ·simp only [Act.put, sA, sB, sC, i64_w, i32_w]; rfl
   refine take_ (i := 2) (N := some 28) (v := ?_) (a' := ?_) #[true, true, true, false, false, true, false, false] rfl rfl (by kernel_rfl) (fun _ _ _ h => h) (Or.inl ⟨by rfl, ?_⟩) hHeld ?_ ?_
   rotate_left
   ·rintro w' ⟨s0, s1, s2⟩
    go_simp; with_reducible rfl
   rotate_left
   ·simp only [Act.put, sA, sB, sC, i64_w, i32_w]; rfl
   refine take_ (i := 3) (N := some 29) (v := ?_) (a' := ?_) #[true, true, true, true, false, true, false, false] rfl rfl (by kernel_rfl) (fun _ _ _ h => h) (Or.inl ⟨by rfl, ?_⟩) hHeld ?_ ?_
   rotate_left
   ·rintro w' ⟨s0, s1, s2⟩
    go_simp; with_reducible rfl
   rotate_left
   ·simp only [Act.put, sA, sB, sC, i64_w, i32_w]; rfl
   refine take_ (i := 4) (N := some 30) (v := ?_) (a' := ?_) #[true, true, true, true, true, true, false, false] rfl rfl (by kernel_rfl) (fun _ _ _ h => h) (Or.inl ⟨by rfl, ?_⟩) hHeld ?_ ?_
   rotate_left
   ·rintro w' ⟨s0, s1, s2⟩
    go_simp; with_reducible rfl
   rotate_left
   ·simp only [Act.put, sA, sB, sC, i64_w, i32_w]; rfl
   refine last_ (i := 6) (N := some 32) #[true, true, true, true, true, true, true, false] rfl rfl (by kernel_rfl) (by decide) (fun K hK => ?_)
   refine goes_ Tryz.func67 (by kernel_rfl) rfl #[.agg #[], .string s, .func (.func 68) #[] #[.pointer (some ⟨w.heap.size + 1 + 1 + 1 + 1, 0, none⟩), .pointer (some ⟨w.heap.size + 1, 0, none⟩), .pointer (some ⟨w.heap.size, 0, none⟩), .pointer (some ⟨w.heap.size + 1 + 1, 0, none⟩)]] (by rfl) rfl rfl (by simp only [List.map_toArray, List.map_cons, List.map_nil]; rfl) ?_
   with_reducible refine (HRA.out).mono ?_
   rintro e w4 ⟨rfl, hb⟩
   refine ⟨_, rfl, ?_⟩
   refine hK.out _ _ ?_
   clear hK K
   refine norm_ (a' := ?_) ?_ ?_
   rotate_left
   ·show Act.put _ (some 32) _ = _
    simp only [Act.put, sA, sB, sC, i64_w, i32_w]; rfl
   refine pure_ (i := 7) (N := some 12) (v := ?_) (a' := ?_) #[true, true, true, true, true, true, true, true] rfl rfl (by kernel_rfl) (fun _ _ _ h => h) (Or.inl ⟨by rfl, ?_⟩) ?_ ?_
   rotate_left
   ·intro w'; go_simp; with_reducible rfl
   rotate_left
   ·simp only [Act.put, sA, sB, sC, i64_w, i32_w]; rfl
   refine done_ (by kernel_rfl) ?_
   have HB4 := aM (hb_then HB.out (hb_then (below_drew (Below.refl _ wr)) hb))
   have e5 := pw_cell_below hb er.out
   clear hb HRA hpb e1 e2
   go_wp2
   go_quiet (fail)
   go_wp2
   go_ret2
   exact ⟨rfl, pw_below_drewN HB4.out _⟩
set_option maxHeartbeats 1600000 in
set_option maxRecDepth 100000 in
theorem SubstituteWith {P : BA → BA → Prop} {g : List (Bs × BA)} (hP : Repl P g) (s : BA) (out : Bs) (hs : s.size < 140737488355328) (ho : out.length ≤ 140737488355328) (hrw : Rw P s 0 out) (w : World) (cb : Nat) (hE : EnvAt w cb g) :
  Calls Tryz.prog 40 #[.string s, envF cb, .agg #[], .slice none 0 0] w fun e w' => e = .returned (.tuple #[.string ⟨out.toArray⟩, .nilIface]) ∧ Below w.heap.size w w' := by
 have CP := aM (withPattern (w.alloc (.cells #[] 71)))
 have CS := aM (fun W tb ob (h1 : EnvAt W cb g) (h2 : W.cell? ⟨ob, 0, none⟩ = some (.func (.func 64) #[] #[.pointer (some ⟨tb, 0, none⟩)])) => SubstWith hP s out hs ho hrw W cb tb h1 ob h2)
 have HE := aM hE
 clear hP hrw hE
 go_enter Tryz.func40, Tryz.ntmps40
 go_wp2_with fail
 refine CP.out.mono ?_
 rintro e w1 ⟨rfl, rfl⟩
 obtain ⟨w2, hw2⟩ : ∃ w2, ((w.alloc (.cells #[] 71)).alloc (.cells #[] 71)) = w2 := ⟨_, rfl⟩
 have hbw : Below w.heap.size w w2 := by rw [← hw2]; exact below_alloc (below_alloc (Below.refl w.heap.size w) _) _
 have HB := aM (below_alloc hbw (.cells #[.func (.func 64) #[] #[.pointer (some ⟨w.heap.size + 1, 0, none⟩)]] 84))
 have CS1 := aM (CS.out (w2.alloc (.cells #[.func (.func 64) #[] #[.pointer (some ⟨w.heap.size + 1, 0, none⟩)]] 84)) (w.heap.size + 1) w2.heap.size (HE.out.below HB.out) (cb_cell (i := 0) (cb_new w2 _) rfl))
 clear CS CP HE hbw
 rw [hw2]
 have HS2 := aM (show w2.heap.size = w.heap.size + 1 + 1 by rw [← hw2]; simp [World.size_alloc])
 clear hw2
 go_wp2_with fail
 refine CS1.out.mono ?_
 rintro e w3 ⟨rfl, hb⟩
 have HB3 := aM (hb_then HB.out hb)
 clear hb CS1
 go_wp2
 go_ret2
 exact ⟨rfl, HB3.out⟩
theorem Substitute {P : BA → BA → Prop} {g : List (Bs × BA)} (hP : Repl P g) (s : BA) (out : Bs) (hs : s.size < 140737488355328) (ho : out.length ≤ 140737488355328) (hrw : Rw P s 0 out) (w : World) (cb : Nat) (hE : EnvAt w cb g) :
  Calls Tryz.prog 27 #[.string s, envF cb] w fun e w' => e = .returned (.tuple #[.string ⟨out.toArray⟩, .nilIface]) ∧ Below w.heap.size w w' := by
 have CS := aM (SubstituteWith hP s out hs ho hrw w cb hE)
 clear hP hrw hE
 go_enter Tryz.func27, Tryz.ntmps27
 go_wp2_with fail
 refine CS.out.mono ?_
 rintro e w3 ⟨rfl, hb⟩
 have HB3 := aM hb
 clear hb CS
 go_wp2
 go_ret2
 exact ⟨rfl, HB3.out⟩
end Go.Proofs.YtkhkmhbledigpaaGreatDoor.Tr
namespace Go.Proofs
open Go.Shelf
def Tryz.laysGg6_ren : Go.Shelf.Ren := ⟨fun | 6 => 90 | 10 => 54 | 11 => 94 | 12 => 95 | 13 => 96 | 14 => 97 | 24 => 107 | 25 => 108 | 26 => 109 | 27 => 110 | 28 => 111 | 29 => 112 | 30 => 113 | 31 => 114 | 32 => 115 | 33 => 116 | 34 => 117 | 35 => 118 | 36 => 119 | 37 => 120 | 38 => 121 | 39 => 122 | n => n, fun | 20 => 20 | 26 => 144 | 35 => 93 | 0 => 0 | 37 => 146 | 3 => 3 | 41 => 150 | 44 => 153 | 49 => 155 | 51 => 157 | 4 => 4 | 54 => 160 | 53 => 159 | 58 => 66 | 5 => 5 | 9 => 9 | 60 => 165 | 64 => 169 | 66 => 171 | 67 => 172 | 17 => 17 | 32 => 90 | 33 => 91 | 82 => 187 | 12 => 12 | 75 => 181 | 76 => 98 | 77 => 182 | 78 => 183 | 79 => 184 | 80 => 185 | n => n, fun | n => n⟩
theorem Tryz.laysGg6 : Go.Proofs.LaysGg.n6 Tryz.prog Tryz.laysGg6_ren := {
 mixed := by kernel_rfl
 f6 := Tryz.func90.trans (congrArg some (by kernel_rfl))
 f10 := Tryz.func54.trans (congrArg some (by kernel_rfl))
 f11 := Tryz.func94.trans (congrArg some (by kernel_rfl))
 f12 := Tryz.func95.trans (congrArg some (by kernel_rfl))
 f13 := Tryz.func96.trans (congrArg some (by kernel_rfl))
 f14 := Tryz.func97.trans (congrArg some (by kernel_rfl))
 f24 := Tryz.func107.trans (congrArg some (by kernel_rfl))
 f25 := Tryz.func108.trans (congrArg some (by kernel_rfl))
 f26 := Tryz.func109.trans (congrArg some (by kernel_rfl))
 f27 := Tryz.func110.trans (congrArg some (by kernel_rfl))
 f28 := Tryz.func111.trans (congrArg some (by kernel_rfl))
 f29 := Tryz.func112.trans (congrArg some (by kernel_rfl))
 f30 := Tryz.func113.trans (congrArg some (by kernel_rfl))
 f31 := Tryz.func114.trans (congrArg some (by kernel_rfl))
 f32 := Tryz.func115.trans (congrArg some (by kernel_rfl))
 f33 := Tryz.func116.trans (congrArg some (by kernel_rfl))
 f34 := Tryz.func117.trans (congrArg some (by kernel_rfl))
 f35 := Tryz.func118.trans (congrArg some (by kernel_rfl))
 f36 := Tryz.func119.trans (congrArg some (by kernel_rfl))
 f37 := Tryz.func120.trans (congrArg some (by kernel_rfl))
 f38 := Tryz.func121.trans (congrArg some (by kernel_rfl))
 f39 := Tryz.func122.trans (congrArg some (by kernel_rfl))
 t0 := Tryz.underlying0
 a0 := Tryz.isAgg0
 z0 := Tryz.sizeOf0
 v0 := Tryz.zeroValue0
 i0 := by kernel_rfl
 t3 := Tryz.underlying3
 a3 := Tryz.isAgg3
 z3 := Tryz.sizeOf3
 v3 := Tryz.zeroValue3
 i3 := by kernel_rfl
 t4 := Tryz.underlying4
 a4 := Tryz.isAgg4
 z4 := Tryz.sizeOf4
 v4 := Tryz.zeroValue4
 i4 := by kernel_rfl
 t5 := Tryz.underlying5
 a5 := Tryz.isAgg5
 z5 := Tryz.sizeOf5
 v5 := Tryz.zeroValue5
 i5 := by kernel_rfl
 t9 := Tryz.underlying9
 a9 := Tryz.isAgg9
 z9 := Tryz.sizeOf9
 v9 := Tryz.zeroValue9
 i9 := by kernel_rfl
 t12 := Tryz.underlying12
 a12 := Tryz.isAgg12
 z12 := Tryz.sizeOf12
 v12 := Tryz.zeroValue12
 i12 := by kernel_rfl
 t17 := Tryz.underlying17
 a17 := Tryz.isAgg17
 z17 := Tryz.sizeOf17
 v17 := Tryz.zeroValue17
 i17 := by kernel_rfl
 t20 := Tryz.underlying20
 a20 := Tryz.isAgg20
 z20 := Tryz.sizeOf20
 v20 := Tryz.zeroValue20
 i20 := by kernel_rfl
 t26 := Tryz.underlying144
 a26 := Tryz.isAgg144
 z26 := Tryz.sizeOf144
 v26 := Tryz.zeroValue144
 i26 := by kernel_rfl
 t32 := Tryz.underlying90
 a32 := Tryz.isAgg90
 z32 := Tryz.sizeOf90
 v32 := Tryz.zeroValue90
 i32 := by kernel_rfl
 t33 := Tryz.underlying91
 a33 := Tryz.isAgg91
 z33 := Tryz.sizeOf91
 v33 := Tryz.zeroValue91
 i33 := by kernel_rfl
 t35 := Tryz.underlying93
 a35 := Tryz.isAgg93
 z35 := Tryz.sizeOf93
 v35 := Tryz.zeroValue93
 i35 := by kernel_rfl
 t37 := Tryz.underlying146
 a37 := Tryz.isAgg146
 z37 := Tryz.sizeOf146
 v37 := Tryz.zeroValue146
 i37 := by kernel_rfl
 t41 := Tryz.underlying150
 a41 := Tryz.isAgg150
 z41 := Tryz.sizeOf150
 v41 := Tryz.zeroValue150
 i41 := by kernel_rfl
 t44 := Tryz.underlying153
 a44 := Tryz.isAgg153
 z44 := Tryz.sizeOf153
 v44 := Tryz.zeroValue153
 i44 := by kernel_rfl
 t49 := Tryz.underlying155
 a49 := Tryz.isAgg155
 z49 := Tryz.sizeOf155
 v49 := Tryz.zeroValue155
 i49 := by kernel_rfl
 t51 := Tryz.underlying157
 a51 := Tryz.isAgg157
 z51 := Tryz.sizeOf157
 v51 := Tryz.zeroValue157
 i51 := by kernel_rfl
 t53 := Tryz.underlying159
 a53 := Tryz.isAgg159
 z53 := Tryz.sizeOf159
 v53 := Tryz.zeroValue159
 i53 := by kernel_rfl
 t54 := Tryz.underlying160
 a54 := Tryz.isAgg160
 z54 := Tryz.sizeOf160
 v54 := Tryz.zeroValue160
 i54 := by kernel_rfl
 t58 := Tryz.underlying66
 a58 := Tryz.isAgg66
 z58 := Tryz.sizeOf66
 v58 := Tryz.zeroValue66
 i58 := by kernel_rfl
 t60 := Tryz.underlying165
 a60 := Tryz.isAgg165
 z60 := Tryz.sizeOf165
 v60 := Tryz.zeroValue165
 i60 := by kernel_rfl
 t64 := Tryz.underlying169
 a64 := Tryz.isAgg169
 z64 := Tryz.sizeOf169
 v64 := Tryz.zeroValue169
 i64 := by kernel_rfl
 t66 := Tryz.underlying171
 a66 := Tryz.isAgg171
 z66 := Tryz.sizeOf171
 v66 := Tryz.zeroValue171
 i66 := by kernel_rfl
 t67 := Tryz.underlying172
 a67 := Tryz.isAgg172
 z67 := Tryz.sizeOf172
 v67 := Tryz.zeroValue172
 i67 := by kernel_rfl
 t75 := Tryz.underlying181
 a75 := Tryz.isAgg181
 z75 := Tryz.sizeOf181
 v75 := Tryz.zeroValue181
 i75 := by kernel_rfl
 t76 := Tryz.underlying98
 a76 := Tryz.isAgg98
 z76 := Tryz.sizeOf98
 v76 := Tryz.zeroValue98
 i76 := by kernel_rfl
 t77 := Tryz.underlying182
 a77 := Tryz.isAgg182
 z77 := Tryz.sizeOf182
 v77 := Tryz.zeroValue182
 i77 := by kernel_rfl
 t78 := Tryz.underlying183
 a78 := Tryz.isAgg183
 z78 := Tryz.sizeOf183
 v78 := Tryz.zeroValue183
 i78 := by kernel_rfl
 t79 := Tryz.underlying184
 a79 := Tryz.isAgg184
 z79 := Tryz.sizeOf184
 v79 := Tryz.zeroValue184
 i79 := by kernel_rfl
 t80 := Tryz.underlying185
 a80 := Tryz.isAgg185
 z80 := Tryz.sizeOf185
 v80 := Tryz.zeroValue185
 i80 := by kernel_rfl
 t82 := Tryz.underlying187
 a82 := Tryz.isAgg187
 z82 := Tryz.sizeOf187
 v82 := Tryz.zeroValue187
 i82 := by kernel_rfl }
end Go.Proofs
namespace Go.Proofs.YtkhkmhbledigpaaGreatDoor.PS
open Go.RowKit Go.Proofs.YtkhkmhbledigpaaGreatDoorW.PrintWords Go.Proofs.YtkhkmhbledigpaaGreatDoorW.PrintLast Go.Proofs.YtkhkmhbledigpaaGreatDoorW.PrintMore
attribute [local go_sem] max2_int min2_int max_two min_two max_three min_three max_four min_four 
set_option linter.unusedVariables false
set_option linter.unusedSimpArgs false
def template_zzIndex.l0 : Nat → ByteArray → ByteArray → Int → Option (Int)
 | 0, _, _, _ => none
 | k + 1, x0, x1, x5 => if (wrap64 (x5 + (x1.size : Int))) ≤ (x0.size : Int) then (if 0 ≤ x5 then (if x5 ≤ (wrap64 (x5 + (x1.size : Int))) then (if (x0.extract (x5 : Int).toNat ((wrap64 (x5 + (x1.size : Int))) : Int).toNat).toList = x1.toList then (some x5) else (template_zzIndex.l0 k x0 x1 (wrap64 (x5 + 1)))) else (none)) else (none)) else (some (-1))
def template_zzIndex.f (k : Nat) (a0 : ByteArray) (a1 : ByteArray) : Option (Int) := template_zzIndex.l0 k a0 a1 0
set_option maxHeartbeats 8000000 in
set_option maxRecDepth 100000 in
theorem template_zzIndex.calls (k : Nat) (a0 : ByteArray) (a1 : ByteArray) (r : Int) (w : World) (h : template_zzIndex.f k a0 a1 = some r) :
  Calls Tryz.prog 88 #[.string a0, .string a1] w fun e w' => e = .returned (.int .i64 r) ∧ Drawn0 w w' := by
 have H : (template_zzIndex.l0 k a0 a1 0) = some r := h
 clear h
 have H' := aM H
 clear H
 go_enter Tryz.func88, Tryz.ntmps88
 go_wp2
 go_loopg [5] k (fun kq v5 w' => ∃ (x5_1 : Int), v5 = .int .i64 x5_1 ∧ Aside0 (template_zzIndex.l0 kq a0 a1 x5_1 = some r) ∧ Aside0 (kq ≤ k) ∧ Drawn0 w w')
 case atStart => exact ⟨(0), (by first | rfl | (simp; done) | (simp [*]; done)), H', ⟨Nat.le_refl _⟩, by repeat (first | exact Drawn0.refl _ | apply Drawn0.step)⟩
 case round =>
  clear H'
  try clear p2
  obtain ⟨x5_1, rfl, HA, HK1, ⟨m1, rfl⟩⟩ := hrel
  cases gk with
  | zero => exact absurd HA.out (by simp [template_zzIndex.l0])
  | succ k1 =>
   have H := HA.out
   clear HA
   simp only [template_zzIndex.l0] at H
   by_cases c3 : (wrap64 (x5_1 + (a1.size : Int))) ≤ (a0.size : Int)
   ·rw [if_pos c3] at H
    have c3b0 : decide ((wrap64 (x5_1 + (a1.size : Int))) ≤ (a0.size : Int)) = true := decide_eq_true c3
    clear c3
    by_cases c4 : 0 ≤ x5_1
    ·rw [if_pos c4] at H
     have c4b0 := eq_true c4
     have c4b1 : decide (0 ≤ x5_1) = true := decide_eq_true c4
     clear c4
     by_cases c5 : x5_1 ≤ (wrap64 (x5_1 + (a1.size : Int)))
     ·rw [if_pos c5] at H
      have c5b0 := eq_true c5
      have c5b1 : decide (x5_1 ≤ (wrap64 (x5_1 + (a1.size : Int)))) = true := decide_eq_true c5
      have c6b0 := eq_true (of_decide_eq_true (by first | (with_reducible assumption) | assumption) : (wrap64 (x5_1 + (a1.size : Int))) ≤ (a0.size : Int))
      by_cases c7 : (a0.extract (x5_1 : Int).toNat ((wrap64 (x5_1 + (a1.size : Int))) : Int).toNat).toList = a1.toList
      ·rw [if_pos c7] at H
       have c7b0 : ((a0.extract (x5_1 : Int).toNat ((wrap64 (x5_1 + (a1.size : Int))) : Int).toNat).toList == a1.toList) = true := beq_iff_eq.mpr c7
       have c7b1 : ((a0.extract (x5_1 : Int).toNat ((wrap64 (x5_1 + (a1.size : Int))) : Int).toNat).toList != a1.toList) = false := bne_eq_false_iff_eq.mpr c7
       clear c7
       obtain rfl := Option.some.inj H
       go_wp2
       go_ret
       exact ⟨by first | rfl | (simp; done) | (simp [*]; done), by repeat (first | exact Drawn0.refl _ | apply Drawn0.step)⟩
      ·rw [if_neg c7] at H
       have c7b0 : ((a0.extract (x5_1 : Int).toNat ((wrap64 (x5_1 + (a1.size : Int))) : Int).toNat).toList == a1.toList) = false := beq_eq_false_iff_ne.mpr c7
       have c7b1 : ((a0.extract (x5_1 : Int).toNat ((wrap64 (x5_1 + (a1.size : Int))) : Int).toNat).toList != a1.toList) = true := bne_iff_ne.mpr c7
       have H' := aM H
       clear H
       go_wp2
       go_roundg k1
       case measure => have := HK1.out; omega
       case rel => exact ⟨(wrap64 (x5_1 + 1)), (by first | rfl | (simp; done) | (simp [*]; done)), H', ⟨by have := HK1.out; omega⟩, by repeat (first | exact Drawn0.refl _ | apply Drawn0.step)⟩
     ·rw [if_neg c5] at H
      exact absurd H (by simp)
    ·rw [if_neg c4] at H
     exact absurd H (by simp)
   ·rw [if_neg c3] at H
    have c3b0 : decide ((wrap64 (x5_1 + (a1.size : Int))) ≤ (a0.size : Int)) = false := decide_eq_false c3
    clear c3
    obtain rfl := Option.some.inj H
    go_wp2
    go_ret
    exact ⟨by first | rfl | (simp; done) | (simp [*]; done), by repeat (first | exact Drawn0.refl _ | apply Drawn0.step)⟩
end Go.Proofs.YtkhkmhbledigpaaGreatDoor.PS
namespace Go.Proofs.YtkhkmhbledigpaaGreatDoor.PS
open Go.RowKit Go.Proofs.YtkhkmhbledigpaaGreatDoorW.PrintWords Go.Proofs.YtkhkmhbledigpaaGreatDoorW.PrintLast Go.Proofs.YtkhkmhbledigpaaGreatDoorW.PrintMore
attribute [local go_sem] max2_int min2_int max_two min_two max_three min_three max_four min_four 
set_option linter.unusedVariables false
set_option linter.unusedSimpArgs false
def template_zzContains.f (k : Nat) (a0 : ByteArray) (a1 : ByteArray) : Option (Bool) := (template_zzIndex.f k a0 a1).bind fun t125 => (some (decide (t125 ≥ 0)))
set_option maxHeartbeats 8000000 in
set_option maxRecDepth 100000 in
theorem template_zzContains.calls (k : Nat) (a0 : ByteArray) (a1 : ByteArray) (r : Bool) (w : World) (h : template_zzContains.f k a0 a1 = some r) :
  Calls Tryz.prog 79 #[.string a0, .string a1] w fun e w' => e = .returned (.bool r) ∧ Drawn0 w w' := by
 have H : ((template_zzIndex.f k a0 a1).bind fun t125 => (some (decide (t125 ≥ 0)))) = some r := h
 clear h
 replace H := Option.bind_eq_some_iff.mp H
 obtain ⟨t125, A30, H⟩ := H
 replace H : (some (decide (t125 ≥ 0))) = some r := H
 have A3 := aM A30
 clear A30
 obtain rfl := Option.some.inj H
 go_enter Tryz.func79, Tryz.ntmps79
 go_wp2_with (first | ((with_reducible refine gate_callee (f := 88) rfl ?_); refine goesL_ (some 7) rfl rfl Tryz.func88 (by kernel_rfl) rfl #[.string a0, .string a1] rfl (by (try simp only [List.map_toArray, List.map_cons, List.map_nil]); first | done | rfl | (simp only [List.length_drop, List.length_take]; rfl)) ?_; (with_reducible refine (template_zzIndex.calls k a0 a1 t125 _ A3.out).mono ?_); rintro e w' ⟨rfl, ⟨nd, rfl⟩⟩; refine ⟨_, rfl, ?_⟩))
 go_ret
 exact ⟨by first | rfl | (simp; done) | (simp [*]; done), by repeat (first | exact Drawn0.refl _ | apply Drawn0.step)⟩
end Go.Proofs.YtkhkmhbledigpaaGreatDoor.PS
namespace Go.Proofs.YtkhkmhbledigpaaGreatDoor.PS
open Go.RowKit Go.Proofs.YtkhkmhbledigpaaGreatDoorW.PrintWords Go.Proofs.YtkhkmhbledigpaaGreatDoorW.PrintLast Go.Proofs.YtkhkmhbledigpaaGreatDoorW.PrintMore
attribute [local go_sem] max2_int min2_int max_two min_two max_three min_three max_four min_four 
set_option linter.unusedVariables false
set_option linter.unusedSimpArgs false
def template_zzSplitTwo.f (k : Nat) (a0 : ByteArray) (a1 : ByteArray) : Option (List ByteArray) := (template_zzIndex.f k a0 a1).bind fun t126 => (if 0 ≤ t126 then (if t126 ≤ (a0.size : Int) then (if 0 ≤ (wrap64 (t126 + (a1.size : Int))) then (if (wrap64 (t126 + (a1.size : Int))) ≤ (a0.size : Int) then (some (([a0.extract 0 (t126 : Int).toNat, a0.extract ((wrap64 (t126 + (a1.size : Int))) : Int).toNat a0.size] : List ByteArray))) else (none)) else (none)) else (none)) else (none))
def template_zzSplitTwo.T2 : Bool × List (List Nat × List Nat) := (true, [([], []), ([], []), ([0, 1], [0, 1]), ([], []), ([], []), ([], []), ([5], [5]), ([4, 6], [4, 6]), ([3, 7], [3, 7]), ([2, 8], [2, 8]), ([9, 0, 1, 2, 3, 4, 5, 6, 7, 8, 9], [9])])
def template_zzSplitTwo.B2 : List Nat := [0, 0, 3, 0, 0, 0, 32, 112, 248, 511, 1023]
theorem template_zzSplitTwo.tab2 : rtab .any (opsOf Tryz.f89 2) = template_zzSplitTwo.T2 := by kernel_rfl
theorem template_zzSplitTwo.bits2 : waitsOk template_zzSplitTwo.T2.2 template_zzSplitTwo.B2 = true := by kernel_rfl
set_option maxHeartbeats 8000000 in
set_option maxRecDepth 100000 in
theorem template_zzSplitTwo.calls (k : Nat) (a0 : ByteArray) (a1 : ByteArray) (r : List ByteArray) (w : World) (h : template_zzSplitTwo.f k a0 a1 = some r) :
  Calls Tryz.prog 89 #[.string a0, .string a1] w fun e w' => ∃ v0_ : Value, e = .returned (v0_) ∧ Kd.R Kd.string 9 w' w.heap.size (fun _ => True) v0_ r ∧ Below w.heap.size w w' := by
 have HB := aM (Below.refl w.heap.size w)
 have H : ((template_zzIndex.f k a0 a1).bind fun t126 => (if 0 ≤ t126 then (if t126 ≤ (a0.size : Int) then (if 0 ≤ (wrap64 (t126 + (a1.size : Int))) then (if (wrap64 (t126 + (a1.size : Int))) ≤ (a0.size : Int) then (some (([a0.extract 0 (t126 : Int).toNat, a0.extract ((wrap64 (t126 + (a1.size : Int))) : Int).toNat a0.size] : List ByteArray))) else (none)) else (none)) else (none)) else (none))) = some r := h
 clear h
 replace H := Option.bind_eq_some_iff.mp H
 obtain ⟨t126, A30, H⟩ := H
 replace H : (if 0 ≤ t126 then (if t126 ≤ (a0.size : Int) then (if 0 ≤ (wrap64 (t126 + (a1.size : Int))) then (if (wrap64 (t126 + (a1.size : Int))) ≤ (a0.size : Int) then (some (([a0.extract 0 (t126 : Int).toNat, a0.extract ((wrap64 (t126 + (a1.size : Int))) : Int).toNat a0.size] : List ByteArray))) else (none)) else (none)) else (none)) else (none)) = some r := H
 have A3 := aM A30
 clear A30
 by_cases c4 : 0 ≤ t126
 ·rw [if_pos c4] at H
  have c4b0 := eq_true c4
  have c4b1 : decide (0 ≤ t126) = true := decide_eq_true c4
  clear c4
  by_cases c5 : t126 ≤ (a0.size : Int)
  ·rw [if_pos c5] at H
   have c5b0 := eq_true c5
   have c5b1 : decide (t126 ≤ (a0.size : Int)) = true := decide_eq_true c5
   clear c5
   obtain ⟨ji6, hji6⟩ : ∃ j_ : Int, (wrap64 (t126 + (a1.size : Int))) = j_ := ⟨_, rfl⟩
   replace H : (if 0 ≤ (ji6) then (if (ji6) ≤ (a0.size : Int) then (some (([a0.extract 0 (t126 : Int).toNat, a0.extract ((ji6) : Int).toNat a0.size] : List ByteArray))) else (none)) else (none)) = some r := by first | (rw [hji6] at H; exact H) | (simp only [hji6] at H ⊢; exact H)
   (try rw [hji6] at A3)
   have hji6w : (IntKind.i64.wrap (t126 + (a1.size : Int))) = ji6 := (i64_w _).trans hji6
   by_cases c7 : 0 ≤ (ji6)
   ·rw [if_pos c7] at H
    have c7b0 := eq_true c7
    have c7b1 : decide (0 ≤ (ji6)) = true := decide_eq_true c7
    clear c7
    by_cases c8 : (ji6) ≤ (a0.size : Int)
    ·rw [if_pos c8] at H
     have c8b0 := eq_true c8
     have c8b1 : decide ((ji6) ≤ (a0.size : Int)) = true := decide_eq_true c8
     clear c8
     obtain ⟨y127, hy127⟩ : ∃ y_ : List ByteArray, y_ = (([a0.extract 0 (t126 : Int).toNat, a0.extract ((ji6) : Int).toNat a0.size] : List ByteArray)) := ⟨_, rfl⟩
     replace H : (some y127) = some r := by first | (rw [hy127]; with_reducible exact H) | (have H2_ := (Option.bind_some _ _).symm.trans H; rw [hy127]; with_reducible exact H2_) | (have H2_ := (Option.bind_some _ _).symm.trans H; with_reducible exact H2_) | with_reducible exact H | (rw [hy127]; exact H) | exact H
     have Ny127 := aM hy127
     clear hy127
     obtain rfl := Option.some.inj H
     go_enter Tryz.func89, Tryz.ntmps89
     try go_wp2_with (first | ((with_reducible refine gate_callee (f := 88) rfl ?_); refine goesL_ (some 8) rfl rfl Tryz.func88 (by kernel_rfl) rfl #[.string a0, .string a1] rfl (by (try simp only [List.map_toArray, List.map_cons, List.map_nil]); first | done | rfl | (simp only [List.length_drop, List.length_take]; rfl)) ?_; (with_reducible refine (template_zzIndex.calls k a0 a1 t126 _ A3.out).mono ?_); rintro e w' ⟨rfl, ⟨nd, rfl⟩⟩; refine ⟨_, rfl, ?_⟩))
     have n0_ := aM (below_drew1 (pw_below_drewN HB.out nd))
     clear HB; have HB := n0_; clear n0_
     refine start_ (n := 11) (S := fun w' => True) (ds := []) #[false, false, false, false, false, false, false, false, false, false, false] (by kernel_rfl) rfl rfl trivial (fun hHeld => ?_); refine with_tabW template_zzSplitTwo.tab2 template_zzSplitTwo.bits2 (fun HT_ HW_ => ?_)
     generalize (w.drewN nd).drew = w9 at HB hHeld ⊢
     refine pure_ (i := 0) (N := some 9) (v := ?_) (a' := ?_) #[true, false, false, false, false, false, false, false, false, false, false] rfl rfl (any_of HT_.out (by kernel_rfl)) (fun _ _ _ h => h) (Or.inl ⟨by rfl, ?_⟩) ?_ ?_
     rotate_left
     ·intro w'; go_simp; with_reducible rfl
     rotate_left
     ·simp only [Act.put, sA, sB, sC, i64_w, i32_w]; rfl
     refine pure_ (i := 1) (N := some 10) (v := ?_) (a' := ?_) #[true, true, false, false, false, false, false, false, false, false, false] rfl rfl (any_of HT_.out (by kernel_rfl)) (fun _ _ _ h => h) (Or.inl ⟨by rfl, ?_⟩) ?_ ?_
     rotate_left
     ·intro w'; go_simp; with_reducible rfl
     rotate_left
     ·simp only [Act.put, sA, sB, sC, i64_w, i32_w]; rfl
     refine pure_ (i := 2) (N := some 11) (v := ?_) (a' := ?_) #[true, true, true, false, false, false, false, false, false, false, false] rfl rfl (any_of HT_.out (by kernel_rfl)) (fun _ _ _ h => h) (Or.inl ⟨by rfl, ?_⟩) ?_ ?_
     rotate_left
     ·intro w'; go_simp; with_reducible rfl
     rotate_left
     ·simp only [Act.put, sA, sB, sC, i64_w, i32_w]; rfl
     refine pure_ (i := 3) (N := some 12) (v := ?_) (a' := ?_) #[true, true, true, true, false, false, false, false, false, false, false] rfl rfl (any_of HT_.out (by kernel_rfl)) (fun _ _ _ h => h) (Or.inl ⟨by rfl, ?_⟩) ?_ ?_
     rotate_left
     ·intro w'; go_simp; with_reducible rfl
     rotate_left
     ·simp only [Act.put, sA, sB, sC, i64_w, i32_w]; rfl
     refine pure_ (i := 4) (N := some 13) (v := ?_) (a' := ?_) #[true, true, true, true, true, false, false, false, false, false, false] rfl rfl (any_of HT_.out (by kernel_rfl)) (fun _ _ _ h => h) (Or.inl ⟨by rfl, ?_⟩) ?_ ?_
     rotate_left
     ·intro w'; go_simp; with_reducible rfl
     rotate_left
     ·simp only [Act.put, sA, sB, sC, i64_w, i32_w]; rfl
     refine pure_ (i := 5) (N := some 14) (v := ?_) (a' := ?_) #[true, true, true, true, true, true, false, false, false, false, false] rfl rfl (any_of HT_.out (by kernel_rfl)) (fun _ _ _ h => h) (Or.inl ⟨by rfl, ?_⟩) ?_ ?_
     rotate_left
     ·intro w'; go_simp; with_reducible rfl
     rotate_left
     ·simp only [Act.put, sA, sB, sC, i64_w, i32_w]; rfl
     refine pure_ (i := 6) (N := some 15) (v := ?_) (a' := ?_) #[true, true, true, true, true, true, true, false, false, false, false] rfl rfl (any_of HT_.out (by kernel_rfl)) (fun _ _ _ h => h) (Or.inl ⟨by rfl, ?_⟩) ?_ ?_
     rotate_left
     ·intro w'; go_simp; with_reducible rfl
     rotate_left
     ·simp only [Act.put, sA, sB, sC, i64_w, i32_w]; rfl
     refine pure_ (i := 7) (N := some 16) (v := ?_) (a' := ?_) #[true, true, true, true, true, true, true, true, false, false, false] rfl rfl (any_of HT_.out (by kernel_rfl)) (fun _ _ _ h => h) (Or.inl ⟨by rfl, ?_⟩) ?_ ?_
     rotate_left
     ·intro w'; go_simp; with_reducible rfl
     rotate_left
     ·simp only [Act.put, sA, sB, sC, i64_w, i32_w]; rfl
     refine pure_ (i := 8) (N := some 17) (v := ?_) (a' := ?_) #[true, true, true, true, true, true, true, true, true, false, false] rfl rfl (any_of HT_.out (by kernel_rfl)) (fun _ _ _ h => h) (Or.inl ⟨by rfl, ?_⟩) ?_ ?_
     rotate_left
     ·intro w'; go_simp; with_reducible rfl
     rotate_left
     ·simp only [Act.put, sA, sB, sC, i64_w, i32_w]; rfl
     refine one_ (i := 9) (N := some 18) #[true, true, true, true, true, true, true, true, true, true, false] rfl rfl (one_of HT_.out (by kernel_rfl)) (by decide) (fun K hK => ?_)
     refine Kd.R_lit_step Kd.string _ 9 ?hg (N := 18) ?hd (xs := ([a0.extract 0 (t126 : Int).toNat, a0.extract ((ji6) : Int).toNat a0.size] : List ByteArray)) (inner := [.string (a0.extract 0 (t126 : Int).toNat), .string (a0.extract ((ji6) : Int).toNat a0.size)]) (ok := fun _ => True) (okp := fun _ => True) ?hr ?hp (fun _ hk => hk) trivial (Below.refl _ _) (Nat.le_refl _) (by simp) ?_; (case hd => rfl); (case hg => rfl); (case hr => first | (go_simp; done) | (go_simp; rfl)); (case hp => exact (Reps.one (show Kd.M Kd.string _ _ _ (a0.extract 0 (t126 : Int).toNat) [.string (a0.extract 0 (t126 : Int).toNat)] from rfl) (Reps.one (show Kd.M Kd.string _ _ _ (a0.extract ((ji6) : Int).toNat a0.size) [.string (a0.extract ((ji6) : Int).toNat a0.size)] from rfl) (Reps.none _ _))))
     intro v128 w10 ho11 hb hg_ hnew_; clear hg_ hnew_
     (first | rw [← Ny127.out] at ho11 | (simp only [Int.reduceToNat] at ho11; rw [← Ny127.out] at ho11))
     have n0_ := aM (Kd.R_lower ho11 (below_size (by repeat (first | (with_reducible first | exact HB.out | apply below_alloc | apply pw_below_drewN | apply below_drew1) | exact HB.out))))
     have n1_ := aM (below_step (by repeat (first | (with_reducible first | exact HB.out | apply below_alloc | apply pw_below_drewN | apply below_drew1) | exact HB.out)) hb)
     clear HB; have HO129 := n0_; have HB := n1_; clear n0_ n1_ hb ho11
     refine hK.out _ _ trivial (fun hHeld => ?_)
     clear hK K
     refine norm_ (a' := ?_) ?_ ?_
     rotate_left
     ·show Act.put _ (some 18) _ = _
      simp only [Act.put, sA, sB, sC, i64_w, i32_w]; rfl
     refine pure_ (i := 10) (N := some 4) (v := ?_) (a' := ?_) #[true, true, true, true, true, true, true, true, true, true, true] rfl rfl (any_of HT_.out (by kernel_rfl)) (fun _ _ _ h => h) (Or.inl ⟨by rfl, ?_⟩) ?_ ?_
     rotate_left
     ·intro w'; go_simp; with_reducible rfl
     rotate_left
     ·simp only [Act.put, sA, sB, sC, i64_w, i32_w]; rfl
     refine done_ (done_of HT_.out (by kernel_rfl)) ?_
     try go_wp2
     go_ret
     exact ⟨_, by first | rfl | (simp [errW_none, errW_some] <;> rfl) | (simp only [← hji6]; first | rfl | (simp [errW_none, errW_some] <;> rfl)) | (simp [*, errW_none, errW_some] <;> rfl), by (with_reducible repeat (first | apply Kd.R_alloc | apply Kd.R_drewN | apply Kd.R_drew)); exact HO129.out, by repeat (first | (with_reducible first | exact HB.out | apply below_alloc | apply pw_below_drewN | apply below_drew1) | exact HB.out)⟩
    ·rw [if_neg c8] at H
     exact absurd H (by simp)
   ·rw [if_neg c7] at H
    exact absurd H (by simp)
  ·rw [if_neg c5] at H
   exact absurd H (by simp)
 ·rw [if_neg c4] at H
  exact absurd H (by simp)
end Go.Proofs.YtkhkmhbledigpaaGreatDoor.PS
namespace Go.Proofs.YtkhkmhbledigpaaGreatDoor.PS
open Go.RowKit Go.Proofs.YtkhkmhbledigpaaGreatDoorW.PrintWords Go.Proofs.YtkhkmhbledigpaaGreatDoorW.PrintLast Go.Proofs.YtkhkmhbledigpaaGreatDoorW.PrintMore
attribute [local go_sem] max2_int min2_int max_two min_two max_three min_three max_four min_four 
set_option linter.unusedVariables false
set_option linter.unusedSimpArgs false
def template_partition.f (k : Nat) (a0 : ByteArray) (a1 : ByteArray) : Option (ByteArray × ByteArray) := (template_zzContains.f k a0 a1).bind fun t130 => (if t130 = true then ((template_zzSplitTwo.f k a0 a1).bind fun t131 => (if 0 < (t131.length : Int) then (if 1 < (t131.length : Int) then (some (rdOf ByteArray.empty t131 0, rdOf ByteArray.empty t131 1)) else (none)) else (none))) else (some (a0, (⟨#[]⟩ : ByteArray))))
set_option maxHeartbeats 8000000 in
set_option maxRecDepth 100000 in
theorem template_partition.calls (k : Nat) (a0 : ByteArray) (a1 : ByteArray) (r1 : ByteArray) (r2 : ByteArray) (w : World) (h : template_partition.f k a0 a1 = some (r1, r2)) :
  Calls Tryz.prog 80 #[.string a0, .string a1] w fun e w' => e = .returned (.tuple #[.string r1, .string r2]) ∧ Below w.heap.size w w' := by
 have HB := aM (Below.refl w.heap.size w)
 have H : ((template_zzContains.f k a0 a1).bind fun t130 => (if t130 = true then ((template_zzSplitTwo.f k a0 a1).bind fun t131 => (if 0 < (t131.length : Int) then (if 1 < (t131.length : Int) then (some (rdOf ByteArray.empty t131 0, rdOf ByteArray.empty t131 1)) else (none)) else (none))) else (some (a0, (⟨#[]⟩ : ByteArray))))) = some (r1, r2) := h
 clear h
 replace H := Option.bind_eq_some_iff.mp H
 obtain ⟨t130, A30, H⟩ := H
 replace H : (if t130 = true then ((template_zzSplitTwo.f k a0 a1).bind fun t131 => (if 0 < (t131.length : Int) then (if 1 < (t131.length : Int) then (some (rdOf ByteArray.empty t131 0, rdOf ByteArray.empty t131 1)) else (none)) else (none))) else (some (a0, (⟨#[]⟩ : ByteArray)))) = some (r1, r2) := H
 have A3 := aM A30
 clear A30
 by_cases c4 : t130 = true
 ·subst c4
  have H1 : ((template_zzSplitTwo.f k a0 a1).bind fun t131 => (if 0 < (t131.length : Int) then (if 1 < (t131.length : Int) then (some (rdOf ByteArray.empty t131 0, rdOf ByteArray.empty t131 1)) else (none)) else (none))) = some (r1, r2) := by rw [if_pos rfl] at H; exact H
  clear H
  have H := H1
  clear H1
  replace H := Option.bind_eq_some_iff.mp H
  obtain ⟨t131, A50, H⟩ := H
  replace H : (if 0 < (t131.length : Int) then (if 1 < (t131.length : Int) then (some (rdOf ByteArray.empty t131 0, rdOf ByteArray.empty t131 1)) else (none)) else (none)) = some (r1, r2) := H
  have A5 := aM A50
  clear A50
  by_cases c6 : 0 < (t131.length : Int)
  ·rw [if_pos c6] at H
   have c6b0 : decide (0 < (t131.length : Int)) = true := decide_eq_true c6
   have c6b1 : decide (0 < t131.length) = true := decide_eq_true (by omega)
   clear c6
   by_cases c7 : 1 < (t131.length : Int)
   ·rw [if_pos c7] at H
    have c7b0 : decide (1 < (t131.length : Int)) = true := decide_eq_true c7
    have c7b1 : decide (1 < t131.length) = true := decide_eq_true (by omega)
    clear c7
    simp only [Option.some.injEq, Prod.mk.injEq] at H
    obtain ⟨rfl, rfl⟩ := H
    go_enter Tryz.func80, Tryz.ntmps80
    go_wp2_with (first | (go_at_call 79; (with_reducible refine (template_zzContains.calls k a0 a1 true _ A3.out).mono ?_); rintro e w' ⟨rfl, ⟨nd, rfl⟩⟩; (try first | exact ⟨rfl, _, World.drewN_drewN _ _ _⟩ | exact ⟨rfl, _, Eq.trans (World.drewN_drewN _ _ _) (congrArg (World.drewN _) (Nat.add_assoc _ _ _))⟩)) | (go_at_call 89; (with_reducible refine (template_zzSplitTwo.calls k a0 a1 t131 _ A5.out).mono ?_); rintro e w8 ⟨v132, rfl, ho0, hb⟩; have n0_ := aM (Kd.R_lower ho0 (below_size (by repeat (first | (with_reducible first | exact HB.out | apply below_alloc | apply pw_below_drewN | apply below_drew1) | exact HB.out)))); have n1_ := aM (below_step (by repeat (first | (with_reducible first | exact HB.out | apply below_alloc | apply pw_below_drewN | apply below_drew1) | exact HB.out)) hb); clear HB; have HO133 := n0_; have HB := n1_; clear n0_ n1_; (try clear hb); (try clear hb2); (try clear hk); (try clear hi); (try clear ho0); obtain ⟨Ao9, co9, eo9⟩ := Kd.R_slice HO133.out; subst eo9; have p134 : 0 ≤ (0 : Int) := (by omega); have q134 : 0 < (t131.length : Int) := of_decide_eq_true (by first | (with_reducible assumption) | assumption); obtain ⟨ad134, e134, hx134_0⟩ := Kd.at_string (Kd.R_reads' HO133.out).2.2 0 p134 q134; cases e134; have qi134 : (0 < t131.length) = True := eq_true (by omega); (try rw [show ((0 : Int)).toNat = 0 from rfl] at hx134_0); (try rw [Addr.add_zero'] at hx134_0); replace p134 := eq_true p134; replace q134 := eq_true q134; have p135 : 0 ≤ (1 : Int) := (by omega); have q135 : 1 < (t131.length : Int) := of_decide_eq_true (by first | (with_reducible assumption) | assumption); obtain ⟨ad135, e135, hx135_0⟩ := Kd.at_string (Kd.R_reads' HO133.out).2.2 1 p135 q135; obtain rfl : ad134 = ad135 := (by injection e135); (try simp only [show (1 : Int).toNat = 1 from rfl, Nat.reduceMul, Nat.reduceEqDiff, Go.Addr.add, ↓reduceIte] at hx135_0); have qi135 : (1 < t131.length) = True := eq_true (by omega); (try rw [show ((1 : Int)).toNat = 1 from rfl] at hx135_0); replace p135 := eq_true p135; replace q135 := eq_true q135))
    repeat (go_quiet (first | (go_at_call 79; (with_reducible refine (template_zzContains.calls k a0 a1 true _ A3.out).mono ?_); rintro e w' ⟨rfl, ⟨nd, rfl⟩⟩; (try first | exact ⟨rfl, _, World.drewN_drewN _ _ _⟩ | exact ⟨rfl, _, Eq.trans (World.drewN_drewN _ _ _) (congrArg (World.drewN _) (Nat.add_assoc _ _ _))⟩)) | (go_at_call 89; (with_reducible refine (template_zzSplitTwo.calls k a0 a1 t131 _ A5.out).mono ?_); rintro e w8 ⟨v132, rfl, ho0, hb⟩; have n0_ := aM (Kd.R_lower ho0 (below_size (by repeat (first | (with_reducible first | exact HB.out | apply below_alloc | apply pw_below_drewN | apply below_drew1) | exact HB.out)))); have n1_ := aM (below_step (by repeat (first | (with_reducible first | exact HB.out | apply below_alloc | apply pw_below_drewN | apply below_drew1) | exact HB.out)) hb); clear HB; have HO133 := n0_; have HB := n1_; clear n0_ n1_; (try clear hb); (try clear hb2); (try clear hk); (try clear hi); (try clear ho0); obtain ⟨Ao9, co9, eo9⟩ := Kd.R_slice HO133.out; subst eo9; have p134 : 0 ≤ (0 : Int) := (by omega); have q134 : 0 < (t131.length : Int) := of_decide_eq_true (by first | (with_reducible assumption) | assumption); obtain ⟨ad134, e134, hx134_0⟩ := Kd.at_string (Kd.R_reads' HO133.out).2.2 0 p134 q134; cases e134; have qi134 : (0 < t131.length) = True := eq_true (by omega); (try rw [show ((0 : Int)).toNat = 0 from rfl] at hx134_0); (try rw [Addr.add_zero'] at hx134_0); replace p134 := eq_true p134; replace q134 := eq_true q134; have p135 : 0 ≤ (1 : Int) := (by omega); have q135 : 1 < (t131.length : Int) := of_decide_eq_true (by first | (with_reducible assumption) | assumption); obtain ⟨ad135, e135, hx135_0⟩ := Kd.at_string (Kd.R_reads' HO133.out).2.2 1 p135 q135; obtain rfl : ad134 = ad135 := (by injection e135); (try simp only [show (1 : Int).toNat = 1 from rfl, Nat.reduceMul, Nat.reduceEqDiff, Go.Addr.add, ↓reduceIte] at hx135_0); have qi135 : (1 < t131.length) = True := eq_true (by omega); (try rw [show ((1 : Int)).toNat = 1 from rfl] at hx135_0); replace p135 := eq_true p135; replace q135 := eq_true q135)); try go_wp2_with (first | (go_at_call 79; (with_reducible refine (template_zzContains.calls k a0 a1 true _ A3.out).mono ?_); rintro e w' ⟨rfl, ⟨nd, rfl⟩⟩; (try first | exact ⟨rfl, _, World.drewN_drewN _ _ _⟩ | exact ⟨rfl, _, Eq.trans (World.drewN_drewN _ _ _) (congrArg (World.drewN _) (Nat.add_assoc _ _ _))⟩)) | (go_at_call 89; (with_reducible refine (template_zzSplitTwo.calls k a0 a1 t131 _ A5.out).mono ?_); rintro e w8 ⟨v132, rfl, ho0, hb⟩; have n0_ := aM (Kd.R_lower ho0 (below_size (by repeat (first | (with_reducible first | exact HB.out | apply below_alloc | apply pw_below_drewN | apply below_drew1) | exact HB.out)))); have n1_ := aM (below_step (by repeat (first | (with_reducible first | exact HB.out | apply below_alloc | apply pw_below_drewN | apply below_drew1) | exact HB.out)) hb); clear HB; have HO133 := n0_; have HB := n1_; clear n0_ n1_; (try clear hb); (try clear hb2); (try clear hk); (try clear hi); (try clear ho0); obtain ⟨Ao9, co9, eo9⟩ := Kd.R_slice HO133.out; subst eo9; have p134 : 0 ≤ (0 : Int) := (by omega); have q134 : 0 < (t131.length : Int) := of_decide_eq_true (by first | (with_reducible assumption) | assumption); obtain ⟨ad134, e134, hx134_0⟩ := Kd.at_string (Kd.R_reads' HO133.out).2.2 0 p134 q134; cases e134; have qi134 : (0 < t131.length) = True := eq_true (by omega); (try rw [show ((0 : Int)).toNat = 0 from rfl] at hx134_0); (try rw [Addr.add_zero'] at hx134_0); replace p134 := eq_true p134; replace q134 := eq_true q134; have p135 : 0 ≤ (1 : Int) := (by omega); have q135 : 1 < (t131.length : Int) := of_decide_eq_true (by first | (with_reducible assumption) | assumption); obtain ⟨ad135, e135, hx135_0⟩ := Kd.at_string (Kd.R_reads' HO133.out).2.2 1 p135 q135; obtain rfl : ad134 = ad135 := (by injection e135); (try simp only [show (1 : Int).toNat = 1 from rfl, Nat.reduceMul, Nat.reduceEqDiff, Go.Addr.add, ↓reduceIte] at hx135_0); have qi135 : (1 < t131.length) = True := eq_true (by omega); (try rw [show ((1 : Int)).toNat = 1 from rfl] at hx135_0); replace p135 := eq_true p135; replace q135 := eq_true q135)))
    go_ret2
    exact ⟨by first | rfl | (simp [errW_none, errW_some] <;> rfl) | (simp [*, errW_none, errW_some] <;> rfl), by repeat (first | (with_reducible first | exact HB.out | apply below_alloc | apply pw_below_drewN | apply below_drew1) | exact HB.out)⟩
   ·rw [if_neg c7] at H
    exact absurd H (by simp)
  ·rw [if_neg c6] at H
   exact absurd H (by simp)
 ·replace c4 := Bool.eq_false_iff.mpr c4
  subst c4
  have H1 : (some (a0, (⟨#[]⟩ : ByteArray))) = some (r1, r2) := by rw [if_neg (show ¬ (false = true) by decide)] at H; exact H
  clear H
  have H := H1
  clear H1
  simp only [Option.some.injEq, Prod.mk.injEq] at H
  obtain ⟨rfl, rfl⟩ := H
  go_enter Tryz.func80, Tryz.ntmps80
  go_wp2_with (first | (go_at_call 79; (with_reducible refine (template_zzContains.calls k a0 a1 false _ A3.out).mono ?_); rintro e w' ⟨rfl, ⟨nd, rfl⟩⟩; (try first | exact ⟨rfl, _, World.drewN_drewN _ _ _⟩ | exact ⟨rfl, _, Eq.trans (World.drewN_drewN _ _ _) (congrArg (World.drewN _) (Nat.add_assoc _ _ _))⟩)))
  repeat (go_quiet (first | (go_at_call 79; (with_reducible refine (template_zzContains.calls k a0 a1 false _ A3.out).mono ?_); rintro e w' ⟨rfl, ⟨nd, rfl⟩⟩; (try first | exact ⟨rfl, _, World.drewN_drewN _ _ _⟩ | exact ⟨rfl, _, Eq.trans (World.drewN_drewN _ _ _) (congrArg (World.drewN _) (Nat.add_assoc _ _ _))⟩))); try go_wp2_with (first | (go_at_call 79; (with_reducible refine (template_zzContains.calls k a0 a1 false _ A3.out).mono ?_); rintro e w' ⟨rfl, ⟨nd, rfl⟩⟩; (try first | exact ⟨rfl, _, World.drewN_drewN _ _ _⟩ | exact ⟨rfl, _, Eq.trans (World.drewN_drewN _ _ _) (congrArg (World.drewN _) (Nat.add_assoc _ _ _))⟩))))
  go_ret2
  exact ⟨by first | rfl | (simp [errW_none, errW_some] <;> rfl) | (simp [*, errW_none, errW_some] <;> rfl), by repeat (first | (with_reducible first | exact HB.out | apply below_alloc | apply pw_below_drewN | apply below_drew1) | exact HB.out)⟩
end Go.Proofs.YtkhkmhbledigpaaGreatDoor.PS
