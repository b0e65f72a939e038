/- Rows of strings: opened and made. -/
import Derived.Test.YtaembebbaejfiaaDoorKit
namespace Go.Proofs.YtaembebbaejfiaaDoor.Kit
open Go.RowKit Go.Proofs.YtaembebbaejfiaaDoorW.PrintWords Go.Proofs.YtaembebbaejfiaaDoor.Str
set_option linter.unusedVariables false
set_option linter.unusedSimpArgs false

/-- a row of strings that is read: its cells -/
theorem strs_open {w : World} {A : Option Addr} {xs : List ByteArray} (h : Kd.string.C w A xs.length xs) (h0 : 0 < xs.length) :
    ∃ bk off, A = some ⟨bk, off, none⟩ ∧ bk < w.heap.size ∧ ∀ (j : Nat) (hj : j < xs.length), w.cell? ⟨bk, off + j, none⟩ = some (.string xs[j]) := by
  obtain ⟨hl, hm, hc⟩ := h
  obtain ⟨ad, rfl, hcc⟩ := hc h0
  have cell : ∀ (j : Nat) (hj : j < xs.length), w.cell? (ad.add j) = some (.string xs[j]) := by
    intro j hj
    obtain ⟨c, hcl, hr, hcell⟩ := hcc j xs[j] (List.getElem?_eq_getElem hj)
    have hr' : c = [Value.string xs[j]] := hr
    subst hr'
    have := hcell 0 _ rfl
    simpa [Kd.string, Kd.scalar] using this
  obtain ⟨bk, off, spot⟩ := ad
  have hspot : spot = none := by
    have h1 := cell 0 h0
    cases hs : spot with
    | none => rfl
    | some sp =>
      exfalso
      subst hs
      simp [World.cell?, Addr.add] at h1
      split at h1 <;> simp at h1
  subst hspot
  have add : ∀ j : Nat, (⟨bk, off, none⟩ : Addr).add j = ⟨bk, off + j, none⟩ := by intro j; unfold Addr.add; split <;> simp_all
  refine ⟨bk, off, rfl, ?_, fun j hj => by rw [← add]; exact cell j hj⟩
  have h1 := cell 0 h0
  rw [add] at h1
  exact World.block_lt_of_cell? w _ h1

/-- a row of strings, by its cells -/
theorem strs_mk {w : World} {b o : Nat} {xs : List ByteArray} (hm : xs.length ≤ 9223372036854775807) (hc : ∀ (j : Nat) (hj : j < xs.length), w.cell? ⟨b, o + j, none⟩ = some (.string xs[j])) : Kd.string.C w (some ⟨b, o, none⟩) xs.length xs := by
  refine ⟨rfl, hm, fun _ => ⟨_, rfl, fun j p hp => ?_⟩⟩
  obtain ⟨hj, rfl⟩ := List.getElem?_eq_some_iff.1 hp
  refine ⟨[.string xs[j]], rfl, rfl, fun i u hu => ?_⟩
  have hi : i < 1 := (List.getElem?_eq_some_iff.1 hu).1
  obtain rfl : i = 0 := by omega
  have hu' : Value.string xs[j] = u := by simpa using hu
  subst hu'
  have add : (⟨b, o, none⟩ : Addr).add (j * Kd.string.sz + 0) = ⟨b, o + j, none⟩ := by
    have : j * Kd.string.sz + 0 = j := by simp [Kd.string, Kd.scalar]
    rw [this]; unfold Addr.add; split <;> simp_all
  rw [add]
  exact hc j hj
/-- a literal of strings -/
theorem strs_lit (w : World) (e : TypeId) (xs : List ByteArray) (hm : xs.length ≤ 9223372036854775807) : Kd.string.C (w.alloc (.cells (xs.map Value.string).toArray e)) (some ⟨w.heap.size, 0, none⟩) xs.length xs := by
  refine strs_mk hm fun j hj => ?_
  have := World.cell?_alloc_new w (xs.map Value.string).toArray e j
  rw [Nat.zero_add]
  rw [this]
  simp [hj]

/-- how many bytes and strings a row holds -/
def bulk (xs : List ByteArray) : Nat := (xs.map fun x => x.size + 1).sum
theorem bulk_take (xs : List ByteArray) : ∀ j, bulk (xs.take j) ≤ bulk xs := by
  induction xs with
  | nil => intro j; simp
  | cons a r ih =>
    intro j
    cases j with
    | zero => simp [bulk]
    | succ j => have := ih j; simp only [bulk, List.take_succ_cons, List.map_cons, List.sum_cons] at this ⊢; omega
theorem bulk_at {xs : List ByteArray} {x : ByteArray} (h : x ∈ xs) : x.size + 1 ≤ bulk xs := by
  induction xs with
  | nil => simp at h
  | cons a r ih =>
    simp only [bulk, List.map_cons, List.sum_cons]
    rcases List.mem_cons.1 h with h | h
    · subst h; omega
    · have := ih h; unfold bulk at this; omega
theorem bulk_length (xs : List ByteArray) : xs.length ≤ bulk xs := by
  induction xs with
  | nil => simp
  | cons a r ih => simp only [bulk, List.map_cons, List.sum_cons, List.length_cons] at ih ⊢; omega

end Go.Proofs.YtaembebbaejfiaaDoor.Kit
