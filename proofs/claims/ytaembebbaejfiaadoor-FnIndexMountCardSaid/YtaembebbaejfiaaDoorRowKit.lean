/- The arguments of a law, read: rows of strings. -/
import Derived.Test.YtaembebbaejfiaaDoorRowstr
import Derived.Test.YtaembebbaejfiaaDoorRows
import Derived.ProofKit
import Derived.OpenShut
import Derived.ShutString
import Derived.ChangeOld
import Derived.Below
import Derived.SizedLaws
import Derived.SliceStrings
namespace Go.Proofs.YtaembebbaejfiaaDoor.RowKit
open Go.RowKit Go.ChangeShapes Go.WideShapes Go.ChangeAt Go.Proofs.YtaembebbaejfiaaDoorW.PrintWords Go.Proofs.YtaembebbaejfiaaDoor.Str Go.Proofs.YtaembebbaejfiaaDoor.Kit
set_option linter.unusedVariables false
set_option linter.unusedSimpArgs false

/-- a row of strings that came in -/
theorem strs_arg {H : Type} {enc : TypeId × Value → H} {P : Program} {W : World} {base : Nat} {spare : Nat → Bool} {held : Bool} {t e : TypeId} {a : Option Addr} {len cap : Nat} {d : DataW H} {ps : List MemPlace}
    (ht : P.underlying t = some (.slice e)) (he : P.underlying e = some .string) (hc : P.cellsOf e = 1) (h : DataW.Trod enc P W base spare held t (.slice a len cap) d ps) :
    ∃ xs : List ByteArray, xs.length = len ∧ len ≤ cap ∧ Kd.string.C W a xs.length xs ∧ ((d = .nil ∧ xs = []) ∨ ∃ rest, d = .slice (strs xs) rest) := by
  obtain ⟨fuel, hf⟩ := h
  rcases open_strings ht he hc hf with ⟨hcs, hx⟩ | ⟨ad, l, c, ss, hcs, _, hl, hm, hss, hx, hcell, hws⟩
  · simp [Value.cells] at hcs
    obtain ⟨rfl, rfl, rfl⟩ := hcs
    simp only [Prod.mk.injEq] at hx
    exact ⟨[], rfl, by omega, ⟨rfl, by simp, fun h => absurd h (by simp)⟩, .inl ⟨hx.1, rfl⟩⟩
  · simp [Value.cells] at hcs
    obtain ⟨rfl, rfl, rfl⟩ := hcs
    simp only [Prod.mk.injEq] at hx
    have hlen : len ≤ ss.length := by rw [hss]; split <;> omega
    have hl2 : (ss.take len).length = len := by rw [List.length_take]; omega
    refine ⟨ss.take len, hl2, hl, ⟨rfl, by unfold maxLen at hm; omega, fun _ => ⟨ad, rfl, fun j p hp => ?_⟩⟩, .inr ⟨_, hx.1⟩⟩
    obtain ⟨hj, rfl⟩ := List.getElem?_eq_some_iff.1 hp
    refine ⟨[.string (ss.take len)[j]], rfl, rfl, fun i u hu => ?_⟩
    have hi : i < 1 := (List.getElem?_eq_some_iff.1 hu).1
    obtain rfl : i = 0 := by omega
    have hu' : Value.string (ss.take len)[j] = u := by simpa using hu
    subst hu'
    have : j * Kd.string.sz + 0 = j := by simp [Kd.string, Kd.scalar]
    rw [this, hcell j (by rw [hl2] at hj; omega)]
    rw [hl2] at hj
    simp [List.getD_eq_getElem?_getD, List.getElem?_eq_getElem (show j < ss.length by omega)]

theorem bulkAll_le {H : Type} {d : DataW H} {l : List (DataW H)} (h : d ∈ l) : Rows.uptoBulk d ≤ Rows.uptoBulkAll l := by
  induction l with
  | nil => cases h
  | cons x r ih =>
    simp only [Rows.uptoBulkAll]
    rcases List.mem_cons.1 h with e | e
    · subst e; omega
    · have := ih e; omega
theorem bulk_of {H : Type} (xs : List ByteArray) : Rows.uptoBulkAll (strs xs : List (DataW H)) = bulk xs := by
  induction xs with
  | nil => rfl
  | cons a r ih =>
    simp only [strs, List.map_cons, Rows.uptoBulkAll, Rows.uptoBulk] at ih ⊢
    rw [ih]
    show (lb a).length + 1 + bulk r = bulk (a :: r)
    rw [lb_length]
    simp [bulk]
theorem bulk_strs {H : Type} {l : List (DataW H)} {d : DataW H} {xs : List ByteArray} (h : Rows.uptoBulkAll l ≤ 1048576) (hm : d ∈ l) (hd : (d = .nil ∧ xs = []) ∨ ∃ rest, d = .slice (strs xs) rest) : bulk xs ≤ 1048576 := by
  rcases hd with ⟨_, rfl⟩ | ⟨rest, rfl⟩
  · simp [bulk]
  · have h1 := bulkAll_le hm
    simp only [Rows.uptoBulk] at h1
    rw [bulk_of] at h1
    omega
end Go.Proofs.YtaembebbaejfiaaDoor.RowKit
