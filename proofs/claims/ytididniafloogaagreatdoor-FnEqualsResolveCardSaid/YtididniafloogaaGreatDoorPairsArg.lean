/- The arguments of a law, read: rows of pairs. -/
import Derived.Test.YtididniafloogaaGreatDoorRowKit
import Derived.Test.YtididniafloogaaGreatDoorPairsFn
namespace Go.Proofs.YtididniafloogaaGreatDoor.RowKit
open Go.RowKit Go.ChangeShapes Go.WideShapes Go.ChangeAt Go.Proofs.YtididniafloogaaGreatDoorW.PrintWords Go.Proofs.YtididniafloogaaGreatDoor.Str Go.Proofs.YtididniafloogaaGreatDoor.Kit Go.Proofs.YtididniafloogaaGreatDoor.Maps
set_option linter.unusedVariables false
set_option linter.unusedSimpArgs false
theorem add_add (a : Addr) (i j : Nat) : (a.add i).add j = a.add (i + j) := by
  unfold Addr.add
  by_cases h : i = 0
  · subst h; simp
  · by_cases k : j = 0
    · subst k; simp
    · simp [h, k, Nat.add_assoc]
theorem rows_of {W : World} {ad : Addr} : ∀ (len : Nat), (∀ i, i < len → ∃ p : ByteArray × ByteArray, W.cell? (ad.add (i * 2)) = some (.string p.1) ∧ W.cell? (ad.add (i * 2 + 1)) = some (.string p.2)) →
    ∃ xs : List (ByteArray × ByteArray), xs.length = len ∧ ∀ (i : Nat) (hi : i < xs.length), W.cell? (ad.add (i * 2)) = some (.string xs[i].1) ∧ W.cell? (ad.add (i * 2 + 1)) = some (.string xs[i].2)
  | 0, _ => ⟨[], rfl, fun i hi => absurd hi (by simp)⟩
  | m + 1, each => by
    obtain ⟨xs, hx, hg⟩ := rows_of m (fun i hi => each i (by omega))
    obtain ⟨p, hp⟩ := each m (by omega)
    refine ⟨xs ++ [p], by simp [hx], fun i hi => ?_⟩
    by_cases h : i < xs.length
    · rw [List.getElem_append_left h]; exact hg i h
    · have : i = m := by simp at hi; omega
      subst this
      subst hx
      simpa using hp
/-- a row of pairs of strings that came in -/
theorem pairs_arg {H : Type} {enc : TypeId × Value → H} {P : Program} {W : World} {base : Nat} {spare : Nat → Bool} {held : Bool} {t e : TypeId} {f0 f1 : Field} {a : Option Addr} {len cap : Nat} {d : DataW H} {ps : List MemPlace}
    (ht : P.underlying t = some (.slice e)) (he : P.underlying e = some (.struct #[f0, f1])) (h0 : P.underlying f0.type = some .string) (h1 : P.underlying f1.type = some .string)
    (c0 : P.cellsOf f0.type = 1) (c1 : P.cellsOf f1.type = 1) (o0 : f0.offset = 0) (o1 : f1.offset = 1)
    (hc : P.cellsOf e = 2) (h : DataW.Trod enc P W base spare held t (.slice a len cap) d ps) :
    ∃ xs : List (ByteArray × ByteArray), xs.length = len ∧ len ≤ cap ∧ kp.C W a xs.length xs := by
  obtain ⟨fuel, hf⟩ := h
  rcases DataW.trod_slice ht hf with ⟨hcs, hx⟩ | ⟨ad, l, c, elems, rest, n, _, hcs, _, hb, hl, hm, hlen, hel, _, _⟩
  · simp [Value.cells] at hcs
    obtain ⟨rfl, rfl, rfl⟩ := hcs
    exact ⟨[], rfl, by omega, ⟨rfl, by simp, fun h => absurd h (by simp)⟩⟩
  · simp [Value.cells] at hcs
    obtain ⟨rfl, rfl, rfl⟩ := hcs
    have each : ∀ i, i < len → ∃ p : ByteArray × ByteArray, W.cell? (ad.add (i * 2)) = some (.string p.1) ∧ W.cell? (ad.add (i * 2 + 1)) = some (.string p.2) := by
      intro i hi
      have h2 := hel i hi
      rw [List.getElem?_eq_getElem (by omega), hc, Option.bind_eq_some_iff] at h2
      obtain ⟨cs, h3, h4⟩ := h2
      obtain ⟨y0, y1, m, _, hcl, t0, t1⟩ := trod_struct2 he h4
      obtain ⟨s0, e0, _⟩ := DataW.trod_string h0 t0
      obtain ⟨s1, e1, _⟩ := DataW.trod_string h1 t1
      rw [c0, o0] at e0
      rw [c1, o1] at e1
      obtain ⟨_, _, h5⟩ := World.cells?_some h3
      have g0 := h5 0 (by omega)
      have g1 := h5 1 (by omega)
      have hcs0 : cs[0]? = some (.string s0) := by
        have := congrArg (fun l => l[0]?) e0
        simpa using this
      have hcs1 : cs[1]? = some (.string s1) := by
        have := congrArg (fun l => l[0]?) e1
        simpa using this
      rw [hcs0] at g0
      rw [hcs1] at g1
      exact ⟨(s0, s1), by rw [add_add] at g0; exact g0, by rw [add_add] at g1; exact g1⟩
    have hxs := rows_of len each
    obtain ⟨xs, hx, hg⟩ := hxs
    refine ⟨xs, hx, hl, ⟨rfl, by unfold maxLen at hm; omega, fun _ => ⟨ad, rfl, fun j p hp => ?_⟩⟩⟩
    obtain ⟨hj, rfl⟩ := List.getElem?_eq_some_iff.1 hp
    refine ⟨encP xs[j], rfl, rfl, fun i u hu => ?_⟩
    have hi : i < 2 := (List.getElem?_eq_some_iff.1 hu).1
    have hi' : i = 0 ∨ i = 1 := by omega
    show W.cell? (ad.add (j * 2 + i)) = some u
    rcases hi' with rfl | rfl
    · rw [Nat.add_zero, (hg j hj).1]; exact hu
    · rw [(hg j hj).2]; exact hu
end Go.Proofs.YtididniafloogaaGreatDoor.RowKit
