/- Maps keyed by strings, of values of any make, read as lists of pairs that rise by their keys. -/
import Derived.Test.YtaembebbaejfiaaDoorStr
import Derived.Maps.RangeWalk
import Derived.Maps.OwnOps
import Derived.Sort.KeysCollected
import Derived.Sort.Walk0
namespace Go.Proofs.YtaembebbaejfiaaDoor.MapV
open Go.RowKit Go.Proofs.YtaembebbaejfiaaDoorW.PrintWords Go.Proofs.YtaembebbaejfiaaDoor.Str Go.Maps
open Go.WideElems (Fit rd rg pl rd_val rd_key)
set_option linter.unusedVariables false
set_option linter.unusedSimpArgs false

/-! ### 1. Lists of pairs -/
section
variable {α β : Type}
/-- the value at a key -/
def mget (f : List (Bs × α)) (k : Bs) : Option α := (f.find? fun p => p.1 == k).map (·.2)
/-- a pair put in its place -/
def mins (x : Bs × α) : List (Bs × α) → List (Bs × α)
  | [] => [x]
  | y :: r => if x.1 < y.1 then x :: y :: r else y :: mins x r
def mdel (f : List (Bs × α)) (k : Bs) : List (Bs × α) := f.filter fun p => !(p.1 == k)
def mput (f : List (Bs × α)) (k : Bs) (v : α) : List (Bs × α) := mins (k, v) (mdel f k)
/-- keys rise -/
def Rises (f : List (Bs × α)) : Prop := f.Pairwise fun p q => p.1 < q.1
theorem lt_irrefl (a : Bs) : ¬ a < a := List.lt_irrefl a
theorem lt_trans {a b c : Bs} (h : a < b) (k : b < c) : a < c := List.lt_trans h k
theorem lt_total (a b : Bs) : a < b ∨ a = b ∨ b < a := by
  by_cases h : a < b
  · exact .inl h
  · by_cases k : b < a
    · exact .inr (.inr k)
    · exact .inr (.inl (List.le_antisymm k h))
theorem lt_ne {a b : Bs} (h : a < b) : a ≠ b := fun e => lt_irrefl a (by rw [← e] at h; exact h)
theorem mins_mem {x p : Bs × α} : ∀ {f : List (Bs × α)}, p ∈ mins x f ↔ p = x ∨ p ∈ f
  | [] => by simp [mins]
  | y :: r => by
    rw [mins]
    split
    · simp
    · rw [List.mem_cons, mins_mem, List.mem_cons]
      constructor
      · rintro (h | h | h)
        · exact .inr (.inl h)
        · exact .inl h
        · exact .inr (.inr h)
      · rintro (h | h | h)
        · exact .inr (.inl h)
        · exact .inl h
        · exact .inr (.inr h)
theorem mins_length (x : Bs × α) : ∀ f : List (Bs × α), (mins x f).length = f.length + 1
  | [] => rfl
  | y :: r => by
    rw [mins]
    split
    · rfl
    · simp [mins_length x r]
theorem mput_length (f : List (Bs × α)) (k : Bs) (v : α) : (mput f k v).length ≤ f.length + 1 := by
  rw [mput, mins_length]
  have := List.length_filter_le (fun p : Bs × α => !(p.1 == k)) f
  unfold mdel
  omega
theorem mins_rises {x : Bs × α} : ∀ {f : List (Bs × α)}, Rises f → (∀ p ∈ f, p.1 ≠ x.1) → Rises (mins x f)
  | [], _, _ => by simp [mins, Rises]
  | y :: r, h, hn => by
    obtain ⟨h1, h2⟩ := List.pairwise_cons.1 h
    rw [mins]
    split
    · rename_i hb
      refine List.pairwise_cons.2 ⟨fun q hq => ?_, h⟩
      rcases List.mem_cons.1 hq with rfl | hq
      · exact hb
      · exact lt_trans hb (h1 q hq)
    · rename_i hb
      refine List.pairwise_cons.2 ⟨fun q hq => ?_, mins_rises h2 (fun p hp => hn p (by simp [hp]))⟩
      rcases mins_mem.1 hq with rfl | hq
      · rcases lt_total y.1 q.1 with e | e | e
        · exact e
        · exact absurd e (hn y (by simp))
        · exact absurd e hb
      · exact h1 q hq
theorem mdel_rises {f : List (Bs × α)} (h : Rises f) (k : Bs) : Rises (mdel f k) := h.filter _
theorem mput_rises {f : List (Bs × α)} (h : Rises f) (k : Bs) (v : α) : Rises (mput f k v) :=
  mins_rises (mdel_rises h k) (fun p hp => by
    have := (List.mem_filter.1 hp).2
    simpa using this)
theorem mget_mins_same {f : List (Bs × α)} {k : Bs} {v : α} : (∀ p ∈ f, p.1 ≠ k) → mget (mins (k, v) f) k = some v := by
  induction f with
  | nil => intro _; simp [mins, mget]
  | cons y r ih =>
    intro h
    rw [mins]
    split
    · simp [mget]
    · have hy : (y.1 == k) = false := by simpa using h y (by simp)
      have := ih (fun p hp => h p (by simp [hp]))
      unfold mget at this ⊢
      rw [List.find?_cons, hy]
      exact this
theorem mget_mins_other {f : List (Bs × α)} {k k' : Bs} {v : α} (hk : k ≠ k') : mget (mins (k, v) f) k' = mget f k' := by
  have hkk : (k == k') = false := by simpa using hk
  induction f with
  | nil => simp [mins, mget, hk]
  | cons y r ih =>
    rw [mins]
    split
    · unfold mget; rw [List.find?_cons]; simp only [hkk]
    · unfold mget at ih ⊢
      rw [List.find?_cons, List.find?_cons]
      cases y.1 == k'
      · exact ih
      · rfl
theorem mget_mdel_other {f : List (Bs × α)} {k k' : Bs} (hk : k ≠ k') : mget (mdel f k) k' = mget f k' := by
  unfold mget mdel
  induction f with
  | nil => rfl
  | cons y r ih =>
    by_cases e : y.1 = k
    · have h1 : (y.1 == k) = true := by simpa using e
      have h2 : (y.1 == k') = false := by rw [e]; simpa using hk
      rw [List.filter_cons, h1, List.find?_cons, h2]
      simpa using ih
    · have h1 : (y.1 == k) = false := by simpa using e
      rw [List.filter_cons, h1]
      simp only [Bool.not_false, if_true, List.find?_cons]
      cases y.1 == k'
      · exact ih
      · rfl
theorem mget_mdel_same {f : List (Bs × α)} {k : Bs} : mget (mdel f k) k = none := by
  unfold mget mdel
  rw [List.find?_eq_none.2 (fun p hp => by have := (List.mem_filter.1 hp).2; simpa using this)]
  rfl
theorem mget_mput (f : List (Bs × α)) (k k' : Bs) (v : α) : mget (mput f k v) k' = if k = k' then some v else mget f k' := by
  unfold mput
  by_cases h : k = k'
  · subst h
    rw [if_pos rfl]
    exact mget_mins_same (fun p hp => by have := (List.mem_filter.1 hp).2; simpa using this)
  · rw [if_neg h, mget_mins_other h, mget_mdel_other h]
theorem mget_some {f : List (Bs × α)} {k : Bs} {v : α} (h : mget f k = some v) : (k, v) ∈ f := by
  unfold mget at h
  obtain ⟨p, hp, rfl⟩ := Option.map_eq_some_iff.1 h
  have h1 := List.find?_some hp
  have h2 := List.mem_of_find?_eq_some hp
  have : p.1 = k := by simpa using h1
  subst this
  exact h2
theorem mget_none {f : List (Bs × α)} {k : Bs} (h : mget f k = none) : ∀ p ∈ f, p.1 ≠ k := by
  intro p hp
  have h1 : f.find? (fun p => p.1 == k) = none := by simpa [mget] using h
  simpa using List.find?_eq_none.1 h1 p hp
theorem mget_of_mem {f : List (Bs × α)} (hr : Rises f) {k : Bs} {v : α} (h : (k, v) ∈ f) : mget f k = some v := by
  induction f with
  | nil => simp at h
  | cons y r ih =>
    obtain ⟨h1, h2⟩ := List.pairwise_cons.1 hr
    rcases List.mem_cons.1 h with h | h
    · subst h; simp [mget]
    · have hy : (y.1 == k) = false := by simpa using lt_ne (h1 _ h)
      unfold mget at ih ⊢
      rw [List.find?_cons, hy]
      exact ih h2 h
/-- two rising lists that tell the same are one -/
theorem rises_ext : ∀ {f g : List (Bs × α)}, Rises f → Rises g → (∀ k, mget f k = mget g k) → f = g := by
  have key : ∀ {f g : List (Bs × α)}, Rises f → Rises g → (∀ k, mget f k = mget g k) → ∀ p ∈ f, p ∈ g := by
    intro f g hf hg h p hp
    have := mget_of_mem hf (k := p.1) (v := p.2) hp
    rw [h] at this
    exact mget_some this
  intro f
  induction f with
  | nil =>
    intro g hf hg h
    cases g with
    | nil => rfl
    | cons y r =>
      have := key hg hf (fun k => (h k).symm) y (by simp)
      simp at this
  | cons x f ih =>
    intro g hf hg h
    cases g with
    | nil =>
      have := key hf hg h x (by simp)
      simp at this
    | cons y g =>
      obtain ⟨x1, x2⟩ := List.pairwise_cons.1 hf
      obtain ⟨y1, y2⟩ := List.pairwise_cons.1 hg
      have hxy : x = y := by
        have a := key hf hg h x (by simp)
        have b := key hg hf (fun k => (h k).symm) y (by simp)
        rcases List.mem_cons.1 a with a | a
        · exact a
        · rcases List.mem_cons.1 b with b | b
          · exact b.symm
          · exact absurd (lt_trans (x1 _ b) (y1 _ a)) (lt_irrefl _)
      subst hxy
      refine congrArg _ (ih x2 y2 (fun k => ?_))
      have hk := h k
      unfold mget at hk ⊢
      rw [List.find?_cons, List.find?_cons] at hk
      by_cases e : x.1 = k
      · have n1 : f.find? (fun p => p.1 == k) = none := List.find?_eq_none.2 (fun p hp => by simpa [← e] using (lt_ne (x1 p hp)).symm)
        have n2 : g.find? (fun p => p.1 == k) = none := List.find?_eq_none.2 (fun p hp => by simpa [← e] using (lt_ne (y1 p hp)).symm)
        rw [n1, n2]
      · have : (x.1 == k) = false := by simpa using e
        rw [this] at hk
        exact hk
/-- what is sorted of a rising list is that list -/
theorem rises_perm {f g : List (Bs × α)} (hf : Rises f) (hp : g.Perm f) (hs : g.Pairwise fun p q => ¬ q.1 < p.1) : g = f := by
  refine List.Perm.eq_of_pairwise (le := fun p q => ¬ q.1 < p.1) (fun a b ha hb h1 h2 => ?_) hs (hf.imp (fun {a b} h k => lt_irrefl _ (lt_trans h k))) hp
  have hk : a.1 = b.1 := by
    rcases lt_total a.1 b.1 with e | e | e
    · exact absurd e h2
    · exact e
    · exact absurd e h1
  have ha' : (a.1, a.2) ∈ f := hp.mem_iff.1 ha
  have h3 := mget_of_mem hf ha'
  have h4 := mget_of_mem hf (k := b.1) (v := b.2) hb
  rw [hk, h4] at h3
  exact Prod.ext hk (by simpa using h3.symm)
/-- one pair taken out -/
theorem rises_take {f : List (Bs × α)} (hf : f.Pairwise fun p q => p.1 ≠ q.1) {k : Bs} {v : α} (h : (k, v) ∈ f) : f.Perm ((k, v) :: mdel f k) := by
  induction f with
  | nil => simp at h
  | cons y r ih =>
    obtain ⟨h1, h2⟩ := List.pairwise_cons.1 hf
    rcases List.mem_cons.1 h with h | h
    · subst h
      have : mdel ((k, v) :: r) k = r := by
        unfold mdel
        rw [List.filter_cons]
        simp only [beq_self_eq_true, Bool.not_true]
        exact List.filter_eq_self.2 (fun p hp => by simpa using (h1 p hp).symm)
      rw [this]
    · have hy : (y.1 == k) = false := by simpa using h1 _ h
      have : mdel (y :: r) k = y :: mdel r k := by
        unfold mdel
        rw [List.filter_cons, hy]
        rfl
      rw [this]
      exact ((ih h2 h).cons y).trans (List.Perm.swap _ _ _)
theorem mins_map (g : α → β) (x : Bs × α) : ∀ f : List (Bs × α), mins (x.1, g x.2) (f.map fun p => (p.1, g p.2)) = (mins x f).map fun p => (p.1, g p.2)
  | [] => rfl
  | y :: r => by
    rw [List.map_cons, mins, mins]
    split
    · rfl
    · rw [mins_map g x r]; rfl
theorem mput_map (g : α → β) (f : List (Bs × α)) (k : Bs) (v : α) : mput (f.map fun p => (p.1, g p.2)) k (g v) = (mput f k v).map fun p => (p.1, g p.2) := by
  unfold mput
  rw [← mins_map g (k, v)]
  refine congrArg _ ?_
  unfold mdel
  rw [List.filter_map]
  rfl
end

/-! ### 2. A map's block -/
theorem before_lt : ∀ a b : Bs, bytesBefore a b = decide (a < b)
  | [], [] => by decide
  | [], _ :: _ => by simp [bytesBefore]
  | _ :: _, [] => by simp [bytesBefore]
  | a :: r, b :: s => by
    rw [bytesBefore, before_lt r s]
    have : (a :: r < b :: s) ↔ a < b ∨ (a = b ∧ r < s) := List.cons_lt_cons_iff
    by_cases h1 : a < b
    · simp [this, h1]
    · by_cases h2 : a = b
      · simp [this, h1, h2]
      · simp [this, h1, h2]
def heldR (v : Value) : Option (DataW Value × List MemPlace) := some (.held v, [])
section
variable {α : Type} (enc : α → Value)
def ent (p : Bs × α) : Lit × DataW Value := (.string p.1, .held (enc p.2))
theorem ent_put (f : List (Bs × α)) (k : Bs) (v : α) : (DataW.map (f.map (ent enc))).put (.string k) (.held (enc v)) = .map ((mput f k v).map (ent enc)) := by
  have ins : ∀ g : List (Bs × α), DataW.insert (Lit.string k, DataW.held (enc v)) (g.map (ent enc)) = (mins (k, v) g).map (ent enc) := by
    intro g
    induction g with
    | nil => rfl
    | cons y r ih =>
      rw [List.map_cons, DataW.insert, mins]
      have : (Lit.string k).before (ent enc y).1 = decide (k < y.1) := before_lt k y.1
      rw [this]
      by_cases h : k < y.1
      · simp [h, ent]
      · simp [h, ih]
  unfold DataW.put mput
  rw [← ins]
  refine congrArg (fun x => DataW.map (DataW.insert _ x)) ?_
  unfold mdel
  rw [List.filter_map]
  rfl
theorem ent_del (f : List (Bs × α)) (k : Bs) : (DataW.map (f.map (ent enc))).del (.string k) = .map ((mdel f k).map (ent enc)) := by
  show DataW.map ((f.map (ent enc)).filter fun p => !p.1.sameKey (.string k)) = _
  unfold mdel
  rw [List.filter_map]
  rfl
theorem ent_at (f : List (Bs × α)) (k : Bs) (zd : DataW Value) : (DataW.map (f.map (ent enc))).atKey (.string k) zd = match mget f k with
    | some v => .held (enc v)
    | none => zd := by
  unfold DataW.atKey mget
  simp only [List.find?_map]
  have : ((fun p : Lit × DataW Value => p.1.sameKey (.string k)) ∘ ent enc) = fun p : Bs × α => p.1 == k := rfl
  rw [this]
  cases f.find? (fun p => p.1 == k) <;> rfl
theorem ent_has (f : List (Bs × α)) (k : Bs) : Maps.has (DataW.map (f.map (ent enc))) (.string k) = (mget f k).isSome := by
  unfold mget
  rw [Maps.has_eq, List.any_map]
  have : ((fun p : Lit × DataW Value => p.1.sameKey (.string k)) ∘ ent enc) = fun p : Bs × α => p.1 == k := rfl
  rw [this]
  rw [Option.isSome_map, Bool.eq_iff_iff, List.any_eq_true, List.find?_isSome]
end

/-- block b is a map that reads as f -/
def MapE (P : Program) (k : TypeId) {α : Type} (enc : α → Value) (w : World) (b : Nat) (f : List (Bs × α)) : Prop := w.ownsMap P k heldR b f.length (.map (f.map (ent enc)))
section
variable {P : Program} {k : TypeId} {α : Type} {enc : α → Value} {w w1 : World} {b : Nat} {f : List (Bs × α)}
theorem owns_norm {n : Nat} {l : List (Lit × DataW Value)} (h : w.ownsMap P k heldR b n (.map l)) : w.ownsMap P k heldR b l.length (.map l) := by
  obtain ⟨es, clock, hb, F, hs, hD⟩ := h
  refine ⟨es, clock, hb, F, ?_, hD⟩
  injection hD with hD
  rw [hD, length_sorted]
  simp
theorem MapE.of {n : Nat} (h : w.ownsMap P k heldR b n (.map (f.map (ent enc)))) : MapE P k enc w b f := by
  have := owns_norm h
  rw [List.length_map] at this
  exact this
theorem MapE.lt (h : MapE P k enc w b f) : b < w.heap.size := World.ownsMap.lt h
theorem MapE.grown (h : MapE P k enc w b f) {row : Option Nat} (hg : w.grownBy w1 row) (hn : some b ≠ row) : MapE P k enc w1 b f := World.ownsMap.kept h hg hn
theorem MapE.below (h : MapE P k enc w b f) (hb : Below w.heap.size w w1) : MapE P k enc w1 b f := h.grown (grown_of_below hb none) (by simp)
theorem MapE.move (h : MapE P k enc w b f) (hm : w1.heap[b]? = w.heap[b]?) : MapE P k enc w1 b f := by
  obtain ⟨es, clock, hb, F, r⟩ := h
  exact ⟨es, clock, hm.trans hb, F, r⟩
theorem MapE.made (P : Program) (k : TypeId) (enc : α → Value) (w : World) : MapE P k enc (w.alloc (.map #[] 0)) w.heap.size [] := World.ownsMap_made w P k heldR
theorem MapE.rises (K : Keyed P k) (h : MapE P k enc w b f) : Rises f := by
  obtain ⟨es, clock, hb, F, hs, hD⟩ := h
  injection hD with hD
  have h1 := Maps.sorted_sorted K.one (es.toList.map (rg P k heldR)) (fun p hp => by
    obtain ⟨x, hx, rfl⟩ := List.mem_map.1 hp
    obtain ⟨y, hy⟩ := F.reads x hx
    rw [Go.WideElems.rg_of hy]
    exact ⟨_, rd_key hy⟩) (Maps.fit_apart K F)
  rw [← hD, List.pairwise_map] at h1
  exact h1.imp (fun {p q} hh => by
    have : bytesBefore p.1 q.1 = true := hh
    rw [before_lt] at this
    exact of_decide_eq_true this)
theorem MapE.key_le (hk : P.underlying k = some .string) (h : MapE P k enc w b f) : ∀ p ∈ f, p.1.length ≤ maxLen := by
  intro p hp
  refine strKeys_le h hk p.1 ?_
  show p.1 ∈ (f.map (ent enc)).map fun p => strOf p.1
  rw [List.map_map]
  exact List.mem_map.2 ⟨p, hp, rfl⟩
open Go.WideMaps in
theorem keyOf_s (hk : P.underlying k = some .string) {s : ByteArray} (hs : s.size ≤ maxLen) : keyOf P k (.string s) = some (.string (lb s)) := keyOf_string_mk hk hs
end

/-! ### 3. At the operations -/
section
variable {P : Program} {k e t : TypeId} {α : Type} {enc : α → Value} {w : World} {b : Nat} {f : List (Bs × α)}
variable {ops : Array Oper} {rest : List Oper} {o : Oper} {a : Act} {Q : Exit → Act → World → Prop}
theorem store_mapE (hk : P.underlying k = some .string) (ht : P.underlying t = some (.map k e)) (hg : o.guard = none) (m x v : Operand) (hop : o.op = Op.mapUpdate t m x v)
    (hm : a.eval m = .map (some b)) (h : MapE P k enc w b f) (hn : f.length < maxLen) {s : ByteArray} {y : α} (hx : a.eval x = .string s) (hs : s.size ≤ maxLen) (hv : a.eval v = enc y)
    (hK : ∀ w', MapE P k enc w' b (mput f (lb s) y) → w.grownBy w' (some b) → wpList P ops Q rest (a.put o.dst undef) w') : wpList P ops Q (o :: rest) a w :=
  wpList_mapUpdate_own w hg m x v t hop k e (string_keyed hk) ht heldR b f.length _ hm h hn _ _ _ hx hv (keyOf_s hk hs) _ [] rfl (fun w' h1 h2 => hK w' (MapE.of (by rw [ent_put] at h1; exact h1)) h2)
theorem look_mapE (hk : P.underlying k = some .string) (ht : P.underlying t = some (.map k e)) (hg : o.guard = none) (m x : Operand) (hop : o.op = Op.lookup t m x true) {z : Value} (hz : (zeroValue e).run P w = .ok z w)
    (hm : a.eval m = .map (some b)) (h : MapE P k enc w b f) {s : ByteArray} (hx : a.eval x = .string s) (hs : s.size ≤ maxLen)
    (hK : wpList P ops Q rest (a.put o.dst (.tuple #[((mget f (lb s)).map enc).getD z, .bool (mget f (lb s)).isSome])) w) : wpList P ops Q (o :: rest) a w :=
  wpList_lookup_own_ok w hg m x t hop k e (string_keyed hk) ht heldR hz (.held z) [] rfl b f.length _ hm h _ _ hx (keyOf_s hk hs) (fun v ps hv => by
    rw [ent_at] at hv
    rw [ent_has]
    have : v = ((mget f (lb s)).map enc).getD z := by
      cases hf : mget f (lb s) with
      | none => rw [hf] at hv; simp [heldR] at hv; simpa using hv.1
      | some y => rw [hf] at hv; simp [heldR] at hv; simpa using hv.1
    rw [this]
    exact hK)
theorem run_look_mapE (hk : P.underlying k = some .string) (ht : P.underlying t = some (.map k e)) {z : Value} (hz : (zeroValue e).run P w = .ok z w) (h : MapE P k enc w b f) {s : ByteArray} (hs : s.size ≤ maxLen) :
    (Instr.lookup t (.map (some b)) (.string s) false).run P w = .ok (((mget f (lb s)).map enc).getD z) w := by
  obtain ⟨v, ps, hrun, hv⟩ := World.ownsMap.lookup h (string_keyed hk) ht hz (zd := .held z) (zp := []) rfl (keyOf_s hk hs)
  rw [ent_at] at hv
  have : v = ((mget f (lb s)).map enc).getD z := by
    cases hf : mget f (lb s) with
    | none => rw [hf] at hv; simp [heldR] at hv; simpa using hv.1
    | some y => rw [hf] at hv; simp [heldR] at hv; simpa using hv.1
  rw [← this]
  exact hrun
theorem run_look_ok_mapE (hk : P.underlying k = some .string) (ht : P.underlying t = some (.map k e)) {z : Value} (hz : (zeroValue e).run P w = .ok z w) (h : MapE P k enc w b f) {s : ByteArray} (hs : s.size ≤ maxLen) :
    (Instr.lookup t (.map (some b)) (.string s) true).run P w = .ok (.tuple #[((mget f (lb s)).map enc).getD z, .bool (mget f (lb s)).isSome]) w := by
  obtain ⟨v, ps, hrun, hv⟩ := World.ownsMap.look_ok h (string_keyed hk) ht hz (zd := .held z) (zp := []) rfl (keyOf_s hk hs)
  rw [ent_at] at hv
  rw [ent_has] at hrun
  have : v = ((mget f (lb s)).map enc).getD z := by
    cases hf : mget f (lb s) with
    | none => rw [hf] at hv; simp [heldR] at hv; simpa using hv.1
    | some y => rw [hf] at hv; simp [heldR] at hv; simpa using hv.1
  rw [← this]
  exact hrun
theorem len_mapE (ht : P.underlying t = some (.map k e)) (hg : o.guard = none) (m : Operand) (hop : o.op = Op.call { callee := Callee.builtin Builtin.len, args := #[m], argTypes := #[t] })
    (hm : a.eval m = .map (some b)) (h : MapE P k enc w b f) (hK : wpList P ops Q rest (a.put o.dst (.int .i64 (f.length : Int))) w) : wpList P ops Q (o :: rest) a w :=
  wpList_len_own w hg m t hop k e ht heldR b f.length _ hm h (by rw [Maps.size_eq, List.length_map]; exact hK)
theorem del_mapE (hk : P.underlying k = some .string) (ht : P.underlying t = some (.map k e)) (hg : o.guard = none) (m x : Operand) (hop : o.op = Op.call { callee := Callee.builtin Builtin.delete, args := #[m, x], argTypes := #[t, k] })
    (hm : a.eval m = .map (some b)) (h : MapE P k enc w b f) {s : ByteArray} (hx : a.eval x = .string s) (hs : s.size ≤ maxLen)
    (hK : ∀ w', MapE P k enc w' b (mdel f (lb s)) → w.grownBy w' (some b) → wpList P ops Q rest (a.put o.dst (.tuple #[])) w') : wpList P ops Q (o :: rest) a w :=
  wpList_delete_own w hg m x t k hop e (string_keyed hk) ht heldR b f.length _ hm h _ _ hx (keyOf_s hk hs) (fun w' h1 h2 => hK w' (MapE.of (by rw [ent_del] at h1; exact h1)) h2.grown)

/-- a loop over a map under way: what is still to come -/
def Ranges (P : Program) (k : TypeId) {α : Type} (enc : α → Value) (w : World) (b r : Nat) (f left : List (Bs × α)) : Prop :=
  ∃ lf cnt, w.ranges P k heldR b r f.length (.map (f.map (ent enc))) lf cnt ∧ left = f.filter fun p => lf (.string p.1)
theorem Ranges.owns {r : Nat} {left : List (Bs × α)} (h : Ranges P k enc w b r f left) : MapE P k enc w b f := by
  obtain ⟨lf, cnt, h, _⟩ := h
  exact h.owns
theorem Ranges.lt {r : Nat} {left : List (Bs × α)} (h : Ranges P k enc w b r f left) : r < w.heap.size := by
  obtain ⟨lf, cnt, h, _⟩ := h
  exact h.lt
theorem Ranges.ne {r : Nat} {left : List (Bs × α)} (h : Ranges P k enc w b r f left) : r ≠ b := by
  obtain ⟨lf, cnt, h, _⟩ := h
  exact h.ne
theorem Ranges.kept {w' : World} {r : Nat} {left : List (Bs × α)} (h : Ranges P k enc w b r f left) {row : Option Nat} (hg : w.grownBy w' row) (h1 : some b ≠ row) (h2 : some r ≠ row) : Ranges P k enc w' b r f left := by
  obtain ⟨lf, cnt, h, e⟩ := h
  exact ⟨lf, cnt, h.kept hg h1 h2, e⟩
theorem Ranges.below {w' : World} {r : Nat} {left : List (Bs × α)} (h : Ranges P k enc w b r f left) (hb : Below w.heap.size w w') : Ranges P k enc w' b r f left := h.kept (grown_of_below hb none) (by simp) (by simp)
theorem Ranges.sub {r : Nat} {left : List (Bs × α)} (h : Ranges P k enc w b r f left) : left.Sublist f := by
  obtain ⟨lf, cnt, h, e⟩ := h
  rw [e]
  exact List.filter_sublist
theorem range_mapE (hk : P.underlying k = some .string) (ht : P.underlying t = some (.map k e)) (hg : o.guard = none) (m : Operand) (hop : o.op = Op.range t m) (hm : a.eval m = .map (some b)) (h : MapE P k enc w b f)
    (hK : ∀ w', Ranges P k enc w' b w.heap.size f f → w.grownBy w' none → w'.heap.size = w.heap.size + 1 → wpList P ops Q rest (a.put o.dst (.pointer (some ⟨w.heap.size, 0, none⟩))) w') : wpList P ops Q (o :: rest) a w :=
  wpList_range_own w hg m t hop k e (string_keyed hk) ht heldR b f.length _ hm h (fun w' h1 h2 h3 => hK w' ⟨_, _, h1, by
    refine (List.filter_eq_self.2 (fun p hp => ?_)).symm
    rw [ent_has]
    cases hf : mget f p.1 with
    | none => exact absurd rfl (mget_none hf p hp)
    | some _ => rfl⟩ h2 h3)
theorem next_mapE (hk : P.underlying k = some .string) (hg : o.guard = none) (it : Operand) (hop : o.op = Op.next it false) {r : Nat} {left : List (Bs × α)} (hit : a.eval it = .pointer (some ⟨r, 0, none⟩)) (h : Ranges P k enc w b r f left)
    (hDone : left = [] → wpList P ops Q rest (a.put o.dst (.tuple #[.bool false])) w)
    (hMore : ∀ (x : Bs) (c : α) (w' : World), (x, c) ∈ left → x.length ≤ maxLen → Ranges P k enc w' b r f (mdel left x) → w'.rangeLeft b r < w.rangeLeft b r → w.grownBy w' (some r) → w'.heap.size = w.heap.size →
      (Instr.entry (.pointer (some ⟨r, 0, none⟩))).run P w' = .ok (.tuple #[.string ⟨x.toArray⟩, enc c]) w' → wpList P ops Q rest (a.put o.dst (.tuple #[.bool true, .string ⟨x.toArray⟩, enc c])) w') : wpList P ops Q (o :: rest) a w := by
  obtain ⟨lf, cnt, h, hl⟩ := h
  refine wpList_next_ranges w hg it hop k (string_keyed hk) heldR (encStr : List UInt8 → Value) (id : Value → Value) (fun key kl hkk => by obtain ⟨x, hx, _⟩ := Maps.keyOf_str hk hkk; exact ⟨x, hx⟩) (fun v y _ => ⟨v, rfl⟩) b r f.length _ lf cnt hit h (fun h0 hd => hDone ?_) ?_
  · rw [hl]
    exact List.filter_eq_nil_iff.2 (fun p _ => by rw [hd]; simp)
  · intro x v kl yv w2 cnt2 hkey hlk hv hat hrg2 hlt hg2 hs2 hen
    obtain ⟨x', ex, rfl, hxl⟩ := Maps.keyOf_str hk hkey
    obtain rfl : x = x' := encStr_inj ex
    have hy : yv.1 = .held v := by
      have : heldR v = some yv := hv
      unfold heldR at this
      injection this with this
      rw [← this]
    obtain ⟨c, hc⟩ : ∃ c, mget f x = some c := by
      have h1 := hat .nil
      rw [ent_at] at h1
      cases hf : mget f x with
      | some c => exact ⟨c, rfl⟩
      | none => rw [hf, hy] at h1; cases h1
    obtain rfl : v = enc c := by
      have h1 := hat .nil
      rw [ent_at, hc, hy] at h1
      injection h1 with h1
      exact h1.symm
    have hm1 := h.left_eq
    have hm2 := hrg2.left_eq
    refine hMore x c w2 ?_ hxl ⟨_, _, hrg2, ?_⟩ (by omega) hg2 hs2 hen
    · rw [hl]
      exact List.mem_filter.2 ⟨mget_some hc, hlk⟩
    · rw [hl]
      unfold mdel
      rw [List.filter_filter]
      congr 1
      funext p
      rw [Bool.and_comm]
      rfl
/-- the step, what comes hidden -/
theorem next_mapA (hk : P.underlying k = some .string) (hg : o.guard = none) (it : Operand) (hop : o.op = Op.next it false) {r : Nat} {left : List (Bs × α)} (hit : a.eval it = .pointer (some ⟨r, 0, none⟩)) (h : Ranges P k enc w b r f left)
    (hDone : Aside0 (left = []) → wpList P ops Q rest (a.put o.dst (.tuple #[.bool false])) w)
    (hMore : ∀ (x : ByteArray) (c : α) (w' : World), Aside0 ((lb x, c) ∈ left ∧ x.size ≤ maxLen ∧ Ranges P k enc w' b r f (mdel left (lb x)) ∧ w'.rangeLeft b r < w.rangeLeft b r ∧ w.grownBy w' (some r) ∧ w'.heap.size = w.heap.size) →
      (Instr.entry (.pointer (some ⟨r, 0, none⟩))).run P w' = .ok (.tuple #[.string x, enc c]) w' → wpList P ops Q rest (a.put o.dst (.tuple #[.bool true, .string x, enc c])) w') : wpList P ops Q (o :: rest) a w :=
  next_mapE hk hg it hop hit h (fun hd => hDone ⟨hd⟩) (fun x c w' h1 h2 h3 h4 h5 h6 h7 => hMore ⟨x.toArray⟩ c w' ⟨by rw [lb_mk]; exact h1, h2, by rw [lb_mk]; exact h3, h4, h5, h6⟩ h7)
end
end Go.Proofs.YtaembebbaejfiaaDoor.MapV
