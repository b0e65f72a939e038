/- Rows of elements of several cells that lead to no memory: pairs of strings and the like. What a sort leaves of such a row. -/
import Derived.Test.YtididniafloogaaGreatDoorKit
import Derived.Sort.OwnSorted
import Derived.Shelf.SlSortFuncK.WholeK
import Derived.Shelf.GgSortFunc.Tiny
namespace Go.Proofs.YtididniafloogaaGreatDoor.Flat
open Go.RowKit Go.Proofs.YtididniafloogaaGreatDoorW.PrintWords Go.Proofs.YtididniafloogaaGreatDoor.Str Go.Sort
set_option linter.unusedVariables false
set_option linter.unusedSimpArgs false

/-- an element is its cells -/
def flat {α : Type} (enc : α → List Value) (k : Nat) (hk : ∀ x, (enc x).length = k) (h1 : ∀ x, ∀ u ∈ enc x, u.oneCell' = true) : Kd α where
  sz := k
  E := []
  K := fun _ x cs => cs = enc x
  M := fun _ _ _ x cs => cs = enc x
  K_len := fun h => by rw [h]; exact hk _
  K_one := fun h u hu => by rw [h] at hu; exact h1 _ u hu
  K_below := fun _ h => h
  K_of_M := fun h => h
  M_mono := fun _ h => h
  M_bound := fun h => h
  M_move := fun _ h => h
  M_lower := fun _ h => h
section
variable {α : Type} {enc : α → List Value} {k : Nat} {hk : ∀ x, (enc x).length = k} {h1 : ∀ x, ∀ u ∈ enc x, u.oneCell' = true}
theorem flat_length (hk : ∀ x, (enc x).length = k) : ∀ xs : List α, (xs.flatMap enc).length = xs.length * k
  | [] => by simp
  | x :: r => by rw [List.flatMap_cons, List.length_append, hk, flat_length hk r, List.length_cons, Nat.add_mul, Nat.one_mul, Nat.add_comm]
theorem reps_flat (hk : ∀ x, (enc x).length = k) : ∀ (xs : List α) (cs : List Value), Reps (fun x cs => cs = enc x) k xs cs → cs = xs.flatMap enc
  | [], cs, h => by
    have := h.1
    simp at this
    exact this
  | x :: r, cs, h => by
    have h0 := h.2 0 x rfl
    simp only [Nat.zero_mul, List.drop_zero] at h0
    have hr : Reps (fun x cs => cs = enc x) k r (cs.drop k) := by
      refine ⟨by rw [List.length_drop, h.1, List.length_cons, Nat.add_mul, Nat.one_mul]; omega, fun j p hp => ?_⟩
      have := h.2 (j + 1) p (by simpa using hp)
      rw [List.drop_drop, show k + j * k = (j + 1) * k by rw [Nat.add_mul, Nat.one_mul, Nat.add_comm]]
      exact this
    have ih := reps_flat hk r _ hr
    rw [List.flatMap_cons, ← h0, ← ih, List.take_append_drop]
theorem flat_reps (hk : ∀ x, (enc x).length = k) (xs : List α) : Reps (fun x cs => cs = enc x) k xs (xs.flatMap enc) := by
  have go : ∀ (r l : List α), Reps (fun x cs => cs = enc x) k l (l.flatMap enc) → Reps (fun x cs => cs = enc x) k (l ++ r) ((l ++ r).flatMap enc) := by
    intro r
    induction r with
    | nil => intro l h; simpa using h
    | cons p r ih =>
      intro l h
      have := ih (l ++ [p]) (by
        rw [List.flatMap_append]
        have : [p].flatMap enc = enc p := by simp
        rw [this]
        exact Reps.snoc h rfl (hk p))
      simpa using this
  exact go xs [] (Reps.none _ _)
theorem R_flat {e : Nat} {w : World} {base : Nat} {ok : Nat → Prop} {v : Value} {xs : List α} :
    (flat enc k hk h1).R e w base ok v xs ↔ (∀ b, v.ownBlock = some b → ok b) ∧ w.ownsRow base e k v xs.length (xs.flatMap enc) := by
  constructor
  · rintro ⟨h0, inner, ho, hr⟩
    have := reps_flat hk _ _ hr
    subst this
    exact ⟨h0, ho⟩
  · rintro ⟨h0, ho⟩
    exact ⟨h0, _, ho, flat_reps hk xs⟩
/-- a row that is read: its cells -/
theorem flat_open {w : World} {A : Option Addr} {xs : List α} (h : (flat enc k hk h1).C w A xs.length xs) (h0 : 0 < xs.length) (hk0 : 0 < k) :
    ∃ bk off, A = some ⟨bk, off, none⟩ ∧ bk < w.heap.size ∧ ∀ (j : Nat) (hj : j < xs.length) (i : Nat) (u : Value), (enc xs[j])[i]? = some u → w.cell? ⟨bk, off + (j * k + i), none⟩ = some u := by
  obtain ⟨hl, hm, hc⟩ := h
  obtain ⟨ad, rfl, hcc⟩ := hc h0
  have cell : ∀ (j : Nat) (hj : j < xs.length) (i : Nat) (u : Value), (enc xs[j])[i]? = some u → w.cell? (ad.add (j * k + i)) = some u := by
    intro j hj i u hu
    obtain ⟨c, hcl, hr, hcell⟩ := hcc j xs[j] (List.getElem?_eq_getElem hj)
    have hr' : c = enc xs[j] := hr
    subst hr'
    exact hcell i u hu
  have hl0 : 0 < (enc xs[0]).length := by rw [hk]; exact hk0
  have c0 := cell 0 h0 0 _ (List.getElem?_eq_getElem hl0)
  rw [Nat.zero_mul, Nat.zero_add] at c0
  obtain ⟨bk, off, spot⟩ := ad
  have hspot : spot = none := by
    cases hs : spot with
    | none => rfl
    | some sp =>
      exfalso
      subst hs
      simp [World.cell?, Addr.add] at c0
      split at c0 <;> simp at c0
  subst hspot
  have add : ∀ j : Nat, (⟨bk, off, none⟩ : Addr).add j = ⟨bk, off + j, none⟩ := by intro j; unfold Addr.add; split <;> simp_all
  refine ⟨bk, off, rfl, ?_, fun j hj i u hu => by rw [← add]; exact cell j hj i u hu⟩
  rw [add] at c0
  exact World.block_lt_of_cell? w _ c0
theorem flat_mk {w : World} {b o : Nat} {xs : List α} (hm : xs.length ≤ 9223372036854775807) (hc : ∀ (j : Nat) (hj : j < xs.length) (i : Nat) (u : Value), (enc xs[j])[i]? = some u → w.cell? ⟨b, o + (j * k + i), none⟩ = some u) : (flat enc k hk h1).C w (some ⟨b, o, none⟩) xs.length xs := by
  refine ⟨rfl, hm, fun _ => ⟨_, rfl, fun j p hp => ?_⟩⟩
  obtain ⟨hj, rfl⟩ := List.getElem?_eq_some_iff.1 hp
  refine ⟨enc xs[j], hk _, rfl, fun i u hu => ?_⟩
  have add : ∀ j : Nat, (⟨b, o, none⟩ : Addr).add j = ⟨b, o + j, none⟩ := by intro j; unfold Addr.add; split <;> simp_all
  rw [add]
  exact hc j hj i u hu

/-! ### what a sort leaves -/
theorem flatK_list [Inhabited α] (hk : ∀ x, (enc x).length = k) (d : Array α) : (flatK enc k d).toList = d.toList.flatMap enc := by
  apply List.ext_getElem?
  intro t
  by_cases ht : t < d.size * k
  · have hk0 : 0 < k := Nat.pos_of_ne_zero (by rintro rfl; simp at ht)
    have hj : t / k < d.size := Nat.div_lt_of_lt_mul (by rw [Nat.mul_comm]; exact ht)
    have e1 : (flatK enc k d).toList[t]? = some ((enc d[t / k]!)[t % k]!) := by
      rw [Array.getElem?_toList, Array.getElem?_eq_getElem (by simpa using ht)]
      have := get_flatK enc k d t ht
      rw [getElem!_pos _ t (by simpa using ht)] at this
      rw [this]
    have h2 := (flat_reps hk d.toList).2 (t / k) (d.toList[t / k]'(by simpa using hj)) (List.getElem?_eq_getElem (by simpa using hj))
    have hm := Nat.mod_lt t hk0
    have e3 : ((d.toList.flatMap enc).drop (t / k * k)).take k = enc (d.toList[t / k]'(by simpa using hj)) := h2
    have e4 : (d.toList.flatMap enc)[t]? = (enc (d.toList[t / k]'(by simpa using hj)))[t % k]? := by
      rw [← e3, List.getElem?_take_of_lt hm, List.getElem?_drop]
      congr 1
      have := Nat.div_add_mod t k
      rw [Nat.mul_comm] at this
      omega
    rw [e1, e4]
    have hd : d[t / k]! = d.toList[t / k]'(by simpa using hj) := by rw [getElem!_pos d _ hj]; simp
    rw [← hd]
    have hl : t % k < (enc d[t / k]!).length := by rw [hk]; exact hm
    rw [List.getElem?_eq_getElem hl]
    simp [hl]
  · rw [List.getElem?_eq_none (by simpa using Nat.not_lt.1 ht), List.getElem?_eq_none (by rw [flat_length hk]; simpa using Nat.not_lt.1 ht)]
theorem take_putCells_id (cur F : Array Value) (h : F.size ≤ cur.size) : (putCells id 0 F cur).toList.take F.size = F.toList := by
  apply List.ext_getElem?
  intro j
  by_cases hj : j < F.size
  · rw [List.getElem?_take_of_lt hj, Array.getElem?_toList]
    simp [putCells, hj, show j < cur.size by omega]
  · rw [List.getElem?_take_eq_none (by omega), List.getElem?_eq_none (by simp; omega)]
theorem holdsK_of_own [Inhabited α] (hk : ∀ x, (enc x).length = k) {w : World} {base g cap : Nat} {e : TypeId} {xs : List α} (h : w.ownsRow base e k (.slice (some ⟨g, 0, none⟩) xs.length cap) xs.length (xs.flatMap enc)) : HoldsK enc k w g 0 xs.toArray := by
  rcases h.2 with ⟨h0, _⟩ | ⟨g', cap', cur, hv, hg, hb, hn, hcap, hsz, htk⟩
  · cases h0
  cases hv
  intro j hj
  rw [size_flatK] at hj
  have hjl : j < (xs.flatMap enc).length := by rw [flat_length hk]; simpa using hj
  have hcj : cur.toList[j]? = some ((xs.flatMap enc)[j]) := by
    have : (cur.toList.take (xs.length * k))[j]? = some ((xs.flatMap enc)[j]) := by rw [htk]; exact List.getElem?_eq_getElem hjl
    rw [List.getElem?_take_of_lt (by simpa using hj)] at this
    exact this
  refine ⟨?_, by simp [World.frozen?, hb]⟩
  rw [cell_of_row w g (0 + j) cur e (0, 0) hb, Nat.zero_add, ← Array.getElem?_toList, hcj]
  have hf : (flatK enc k xs.toArray)[j]! = (xs.flatMap enc)[j] := by
    have hl := flatK_list (enc := enc) (k := k) hk xs.toArray
    have hj' : j < (flatK enc k xs.toArray).size := by simpa using hj
    rw [getElem!_pos _ j hj']
    have : (flatK enc k xs.toArray).toList[j]'(by simpa using hj) = (flatK enc k xs.toArray)[j] := by simp
    rw [← this]
    simp only [hl]
  rw [hf]
  rfl
theorem own_sortedK [Inhabited α] (hk : ∀ x, (enc x).length = k) {w : World} {base g cap m : Nat} {e : TypeId} {xs ys : List α} {os : Array Obj} (h : w.ownsRow base e k (.slice (some ⟨g, 0, none⟩) xs.length cap) xs.length (xs.flatMap enc)) (hl : ys.length = xs.length) :
    (grow (putRowK enc k (Sort.ahead w m) g 0 ys.toArray) os).ownsRow base e k (.slice (some ⟨g, 0, none⟩) xs.length cap) xs.length (ys.flatMap enc) := by
  rcases h.2 with ⟨h0, _⟩ | ⟨g', cap', cur, hv, hg, hb, hn, hcap, hsz, htk⟩
  · cases h0
  cases hv
  have hlt : g < w.heap.size := (Array.getElem?_eq_some_iff.1 hb).1
  have hb' : (grow (putRowK enc k (Sort.ahead w m) g 0 ys.toArray) os).heap[g]? = some (.cells (putCells id 0 (flatK enc k ys.toArray) cur) e (0, 0)) := by
    rw [heap_grow_old _ _ (by rw [size_putRowK]; simpa using hlt)]
    simp [putRowK, putRow, mapBlock, Sort.ahead, Array.getElem?_modify, hb, onCells]
  have hle : xs.length * k ≤ cap * k := Nat.mul_le_mul_right _ hn
  refine ⟨by rw [flat_length hk, hl], .inr ⟨g, cap, _, rfl, hg, hb', hn, hcap, by simp [putCells, hsz], ?_⟩⟩
  have := take_putCells_id cur (flatK enc k ys.toArray) (by simp [hl, hsz]; exact hle)
  rw [size_flatK] at this
  simp only [List.size_toArray, hl] at this
  rw [this, flatK_list hk]
theorem grown_sortedK [Inhabited α] {w : World} {g m : Nat} {ys : Array α} {os : Array Obj} (hg : g < w.heap.size) : w.grownBy (grow (putRowK enc k (Sort.ahead w m) g 0 ys) os) (some g) := by
  refine ⟨rfl, rfl, rfl, ?_, fun i hi hne => ?_⟩
  · have : (putRowK enc k (Sort.ahead w m) g 0 ys).heap.size = w.heap.size := by rw [size_putRowK]; rfl
    simp [grow]
    omega
  · rw [heap_grow_old _ _ (by rw [size_putRowK]; exact hi)]
    have : ¬ g = i := fun e => hne (by rw [e])
    simp [putRowK, putRow, mapBlock, Sort.ahead, Array.getElem?_modify, this]
theorem grown_grow (w : World) (os : Array Obj) : Below w.heap.size w (grow w os) := ⟨rfl, rfl, rfl, by simp [grow], fun i hi => heap_grow_old _ _ hi⟩
end
end Go.Proofs.YtididniafloogaaGreatDoor.Flat
