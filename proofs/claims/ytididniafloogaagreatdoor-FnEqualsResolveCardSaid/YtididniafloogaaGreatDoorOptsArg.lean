/- The arguments of a law, read: rows of names that may have values. -/
import Derived.Test.YtididniafloogaaGreatDoorPairsArg
import Derived.Test.YtididniafloogaaGreatDoorOptAll
import Derived.Deep.Strs
namespace Go.Proofs.YtididniafloogaaGreatDoor.RowKit
open Go.RowKit Go.ChangeShapes Go.WideShapes Go.ChangeAt Go.Proofs.YtididniafloogaaGreatDoorW.PrintWords Go.Proofs.YtididniafloogaaGreatDoor.Str Go.Proofs.YtididniafloogaaGreatDoor.Kit Go.Proofs.YtididniafloogaaGreatDoor.Maps
set_option linter.unusedVariables false
set_option linter.unusedSimpArgs false
theorem rows_of3 {W : World} {ad : Addr} : ∀ (len : Nat), (∀ i, i < len → ∃ p : KO, W.cell? (ad.add (i * 3)) = some (.string p.1) ∧ W.cell? (ad.add (i * 3 + 1)) = some (.string p.2.1) ∧ W.cell? (ad.add (i * 3 + 2)) = some (.bool p.2.2)) →
    ∃ xs : List KO, xs.length = len ∧ ∀ (i : Nat) (hi : i < xs.length), W.cell? (ad.add (i * 3)) = some (.string xs[i].1) ∧ W.cell? (ad.add (i * 3 + 1)) = some (.string xs[i].2.1) ∧ W.cell? (ad.add (i * 3 + 2)) = some (.bool xs[i].2.2)
  | 0, _ => ⟨[], rfl, fun i hi => absurd hi (by simp)⟩
  | m + 1, each => by
    obtain ⟨xs, hx, hg⟩ := rows_of3 m (fun i hi => each i (by omega))
    obtain ⟨p, hp⟩ := each m (by omega)
    refine ⟨xs ++ [p], by simp [hx], fun i hi => ?_⟩
    by_cases h : i < xs.length
    · rw [List.getElem_append_left h]; exact hg i h
    · have : i = m := by simp at hi; omega
      subst this
      subst hx
      simpa using hp
/-- a row of names with values that came in -/
theorem opts_arg {H : Type} {enc : TypeId × Value → H} {P : Program} {W : World} {base : Nat} {spare : Nat → Bool} {held : Bool} {t e : TypeId} {f0 f1 f2 : Field} {a : Option Addr} {len cap : Nat} {d : DataW H} {ps : List MemPlace}
    (ht : P.underlying t = some (.slice e)) (he : P.underlying e = some (.struct #[f0, f1, f2])) (h0 : P.underlying f0.type = some .string) (h1 : P.underlying f1.type = some .string) (h2 : P.underlying f2.type = some .bool)
    (c0 : P.cellsOf f0.type = 1) (c1 : P.cellsOf f1.type = 1) (c2 : P.cellsOf f2.type = 1) (o0 : f0.offset = 0) (o1 : f1.offset = 1) (o2 : f2.offset = 2)
    (hc : P.cellsOf e = 3) (h : DataW.Trod enc P W base spare held t (.slice a len cap) d ps) :
    ∃ xs : List KO, xs.length = len ∧ len ≤ cap ∧ ko.C W a xs.length xs := by
  obtain ⟨fuel, hf⟩ := h
  rcases DataW.trod_slice ht hf with ⟨hcs, hx⟩ | ⟨ad, l, c, elems, rest, n, _, hcs, _, hb, hl, hm, hlen, hel, _, _⟩
  · simp [Value.cells] at hcs
    obtain ⟨rfl, rfl, rfl⟩ := hcs
    exact ⟨[], rfl, by omega, ⟨rfl, by simp, fun h => absurd h (by simp)⟩⟩
  · simp [Value.cells] at hcs
    obtain ⟨rfl, rfl, rfl⟩ := hcs
    have each : ∀ i, i < len → ∃ p : KO, W.cell? (ad.add (i * 3)) = some (.string p.1) ∧ W.cell? (ad.add (i * 3 + 1)) = some (.string p.2.1) ∧ W.cell? (ad.add (i * 3 + 2)) = some (.bool p.2.2) := by
      intro i hi
      have h3 := hel i hi
      rw [List.getElem?_eq_getElem (by omega), hc, Option.bind_eq_some_iff] at h3
      obtain ⟨cs, h3, h4⟩ := h3
      obtain ⟨y0, y1, y2, m, _, hcl, t0, t1, t2⟩ := Go.Deep.trod_struct3 he h4
      obtain ⟨s0, e0, _⟩ := DataW.trod_string h0 t0
      obtain ⟨s1, e1, _⟩ := DataW.trod_string h1 t1
      obtain ⟨s2, e2, _⟩ := DataW.trod_bool h2 t2
      rw [c0, o0] at e0
      rw [c1, o1] at e1
      rw [c2, o2] at e2
      obtain ⟨_, _, h5⟩ := World.cells?_some h3
      have g0 := h5 0 (by omega)
      have g1 := h5 1 (by omega)
      have g2 := h5 2 (by omega)
      have hcs0 : cs[0]? = some (.string s0) := by
        have := congrArg (fun l => l[0]?) e0
        simpa using this
      have hcs1 : cs[1]? = some (.string s1) := by
        have := congrArg (fun l => l[0]?) e1
        simpa using this
      have hcs2 : cs[2]? = some (.bool s2) := by
        have := congrArg (fun l => l[0]?) e2
        simpa using this
      rw [hcs0] at g0
      rw [hcs1] at g1
      rw [hcs2] at g2
      exact ⟨(s0, s1, s2), by rw [add_add] at g0; exact g0, by rw [add_add] at g1; exact g1, by rw [add_add] at g2; exact g2⟩
    have hxs := rows_of3 len each
    obtain ⟨xs, hx, hg⟩ := hxs
    refine ⟨xs, hx, hl, ⟨rfl, by unfold maxLen at hm; omega, fun _ => ⟨ad, rfl, fun j p hp => ?_⟩⟩⟩
    obtain ⟨hj, rfl⟩ := List.getElem?_eq_some_iff.1 hp
    refine ⟨encO xs[j], rfl, rfl, fun i u hu => ?_⟩
    have hi : i < 3 := (List.getElem?_eq_some_iff.1 hu).1
    have hi' : i = 0 ∨ i = 1 ∨ i = 2 := by omega
    show W.cell? (ad.add (j * 3 + i)) = some u
    rcases hi' with rfl | rfl | rfl
    · rw [Nat.add_zero, (hg j hj).1]; exact hu
    · rw [(hg j hj).2.1]; exact hu
    · rw [(hg j hj).2.2]; exact hu
end Go.Proofs.YtididniafloogaaGreatDoor.RowKit
