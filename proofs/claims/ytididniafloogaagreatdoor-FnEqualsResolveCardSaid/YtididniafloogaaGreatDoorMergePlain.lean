/- Two rising lists merged. -/
import Derived.Test.YtididniafloogaaGreatDoorFitPlain
namespace Go.Proofs.YtididniafloogaaGreatDoor.MapV
open Go.RowKit Go.Proofs.YtididniafloogaaGreatDoorW.PrintWords Go.Proofs.YtididniafloogaaGreatDoor.Str
set_option linter.unusedVariables false
set_option linter.unusedSimpArgs false
section
variable {α : Type}
theorem mget_cons (y : Bs × α) (r : List (Bs × α)) (k : Bs) : mget (y :: r) k = if y.1 = k then some y.2 else mget r k := by
  by_cases h : y.1 = k
  · rw [if_pos h]; simp [mget, h]
  · rw [if_neg h]; simp [mget, h]
theorem mget_absent {f : List (Bs × α)} {k : Bs} (h : ∀ p ∈ f, p.1 ≠ k) : mget f k = none := by
  cases hm : mget f k with
  | none => rfl
  | some v => exact absurd rfl (h _ (mget_some hm))
theorem fold_snoc : ∀ (g f : List (Bs × α)), Rises (f ++ g) → g.foldl (fun f p => mput f p.1 p.2) f = f ++ g
  | [], f, _ => by simp
  | p :: r, f, h => by
    have h1 := List.pairwise_append.1 h
    have hp : mput f p.1 p.2 = f ++ [p] := by
      rw [mput_ins f.length h1.1 (fun j hj _ => h1.2.2 _ (List.getElem_mem hj) p (by simp)) (Nat.le_refl _) (fun h => absurd h (Nat.lt_irrefl _))]
      simp
    rw [List.foldl_cons, hp, fold_snoc r (f ++ [p]) (by simpa using h)]
    simp
theorem fitM_id {f : List (Bs × α)} (h : Rises f) : fitM f = f := by
  have := fold_snoc f [] (by simpa using h)
  simpa [fitM] using this
theorem mget_fold : ∀ (f g : List (Bs × α)) (k : Bs), Rises f → mget (f.foldl (fun f p => mput f p.1 p.2) g) k = (mget f k).or (mget g k)
  | [], g, k, _ => by simp [mget]
  | p :: r, g, k, h => by
    obtain ⟨h1, h2⟩ := List.pairwise_cons.1 h
    rw [List.foldl_cons, mget_fold r _ k h2, mget_cons, mget_mput]
    by_cases e : p.1 = k
    · rw [if_pos e, if_pos e, mget_absent (fun q hq => by rw [← e]; exact (lt_ne (h1 q hq)).symm)]
      rfl
    · rw [if_neg e, if_neg e]
/-- what the first one has, and of the second one the rest -/
def mergeM (f g : List (Bs × α)) : List (Bs × α) := f.foldl (fun f p => mput f p.1 p.2) g
theorem mergeM_rises {f g : List (Bs × α)} (h : Rises g) : Rises (mergeM f g) := fold_rises f h
theorem mget_merge {f g : List (Bs × α)} (h : Rises f) (k : Bs) : mget (mergeM f g) k = (mget f k).or (mget g k) := mget_fold f g k h
theorem mergeM_length (f g : List (Bs × α)) : (mergeM f g).length ≤ g.length + f.length := fold_length f g
theorem mergeM_assoc {f g h : List (Bs × α)} (hf : Rises f) (hg : Rises g) (hh : Rises h) : mergeM (mergeM f g) h = mergeM f (mergeM g h) := by
  refine rises_ext (mergeM_rises hh) (mergeM_rises (mergeM_rises hh)) (fun k => ?_)
  rw [mget_merge (mergeM_rises hg), mget_merge hf, mget_merge hf, mget_merge hg, Option.or_assoc]
theorem mergeM_self {f : List (Bs × α)} (hf : Rises f) : mergeM f f = f := by
  refine rises_ext (mergeM_rises hf) hf (fun k => ?_)
  rw [mget_merge hf, Option.or_self]
theorem mergeM_nil {f : List (Bs × α)} (hf : Rises f) : mergeM f [] = f := fitM_id hf
/-- a merge under way: f, and of g what is not to come any more -/
def Merging (f g left cur : List (Bs × α)) : Prop := Rises cur ∧ cur.length + left.length ≤ f.length + g.length ∧ ∀ k, mget cur k = (mget f k).or (if ∃ p ∈ left, p.1 = k then none else mget g k)
theorem Merging.start {f g : List (Bs × α)} (hf : Rises f) : Merging f g g f := by
  refine ⟨hf, by omega, fun k => ?_⟩
  by_cases h : ∃ p ∈ g, p.1 = k
  · rw [if_pos h, Option.or_none]
  · rw [if_neg h, mget_absent (f := g) (fun p hp e => h ⟨p, hp, e⟩), Option.or_none]
theorem mdel_has {left : List (Bs × α)} {x k : Bs} : (∃ p ∈ mdel left x, p.1 = k) ↔ (∃ p ∈ left, p.1 = k) ∧ k ≠ x := by
  unfold mdel
  constructor
  · rintro ⟨p, hp, rfl⟩
    have := List.mem_filter.1 hp
    exact ⟨⟨p, this.1, rfl⟩, by simpa using this.2⟩
  · rintro ⟨⟨p, hp, rfl⟩, h⟩
    exact ⟨p, List.mem_filter.2 ⟨hp, by simpa using h⟩, rfl⟩
theorem mdel_lt {left : List (Bs × α)} {x : Bs} {v : α} (h : (x, v) ∈ left) : (mdel left x).length + 1 ≤ left.length := by
  have h1 : (mdel left x).length < left.length := by
    unfold mdel
    exact List.length_filter_lt_length_iff_exists.2 ⟨(x, v), h, by simp⟩
  omega
theorem Merging.skip {f g left cur : List (Bs × α)} {x : Bs} {v : α} (hm : Merging f g left cur) (hg : Rises g) (hs : ∀ p ∈ left, p ∈ g) (hx : (x, v) ∈ left) (hc : (mget cur x).isSome) : Merging f g (mdel left x) cur := by
  obtain ⟨h1, h2, h3⟩ := hm
  refine ⟨h1, by have := mdel_lt hx; omega, fun k => ?_⟩
  rw [h3 k]
  by_cases e : k = x
  · subst e
    rw [if_pos ⟨_, hx, rfl⟩, if_neg (fun h => (mdel_has.1 h).2 rfl)]
    rw [h3 k, if_pos ⟨_, hx, rfl⟩, Option.or_none] at hc
    obtain ⟨y, hy⟩ := Option.isSome_iff_exists.1 hc
    rw [hy]
    rfl
  · by_cases hl : ∃ p ∈ left, p.1 = k
    · rw [if_pos hl, if_pos (mdel_has.2 ⟨hl, e⟩)]
    · rw [if_neg hl, if_neg (fun h => hl (mdel_has.1 h).1)]
theorem Merging.put {f g left cur : List (Bs × α)} {x : Bs} {v : α} (hm : Merging f g left cur) (hg : Rises g) (hs : ∀ p ∈ left, p ∈ g) (hx : (x, v) ∈ left) (hc : (mget cur x).isSome = false) : Merging f g (mdel left x) (mput cur x v) := by
  obtain ⟨h1, h2, h3⟩ := hm
  refine ⟨mput_rises h1 _ _, by have := mdel_lt hx; have := mput_length cur x v; omega, fun k => ?_⟩
  rw [mget_mput]
  by_cases e : x = k
  · subst e
    rw [if_pos rfl, if_neg (fun h => (mdel_has.1 h).2 rfl)]
    rw [h3 x, if_pos ⟨_, hx, rfl⟩, Option.or_none] at hc
    have hn : mget f x = none := by simpa using hc
    rw [hn, mget_of_mem hg (hs _ hx)]
    rfl
  · rw [if_neg e, h3 k]
    by_cases hl : ∃ p ∈ left, p.1 = k
    · rw [if_pos hl, if_pos (mdel_has.2 ⟨hl, fun h => e h.symm⟩)]
    · rw [if_neg hl, if_neg (fun h => hl (mdel_has.1 h).1)]
theorem Merging.done {f g cur : List (Bs × α)} (hf : Rises f) (hg : Rises g) (hm : Merging f g [] cur) : cur = mergeM f g := by
  refine rises_ext hm.1 (mergeM_rises hg) (fun k => ?_)
  rw [hm.2.2 k, mget_merge hf]
  simp
end
end Go.Proofs.YtididniafloogaaGreatDoor.MapV
