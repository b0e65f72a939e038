/- Package tree: Parts, NewPath, Matches; the thin package over them. -/
import Derived.Test.YtecehldjeppjiaaIndex
import Derived.Test.YtecehldjeppjiaaRowstr
import Derived.Test.YtecehldjeppjiaaShelf
namespace Go.Proofs.Ytecehldjeppjiaa.Tree
open Go.RowKit Go.Proofs.YtecehldjeppjiaaW.PrintWords Go.Proofs.Ytecehldjeppjiaa.Str Go.Proofs.Ytecehldjeppjiaa.Kit Go.Proofs.Ytecehldjeppjiaa.Index
set_option linter.unusedVariables false
set_option linter.unusedSimpArgs false

/-- strings.Join of a row that is read -/
theorem join_C {A : Option Addr} {c : Nat} {xs : List ByteArray} (sep : ByteArray) (w : World) (h : Kd.string.C w A xs.length xs) (hc : xs.length ≤ c)
    (hN : xs.length ≤ 140737488355328) (hlen : (Lib.join (xs.map lb) (lb sep)).length ≤ 140737488355328) :
    Calls Try.prog 35 #[.slice A xs.length c, .string sep] w fun e w' => e = .returned (.string ⟨(Lib.join (xs.map lb) (lb sep)).toArray⟩) ∧ Below w.heap.size w w' := by
  rcases Nat.eq_zero_or_pos xs.length with h0 | h0
  · obtain rfl := List.eq_nil_of_length_eq_zero h0
    exact (Try.strings_Join_none A c sep w).mono fun e w' ⟨he, hw⟩ => ⟨he, hw ▸ Below.refl _ _⟩
  · obtain ⟨bk, off, rfl, hbk, hcell⟩ := strs_open h h0
    exact Try.strings_Join bk off c xs sep w (fun j x hx => by
      obtain ⟨hj, rfl⟩ := List.getElem?_eq_some_iff.1 hx
      exact hcell j hj) hbk hN hc hlen

set_option maxHeartbeats 400000 in
theorem Path_Parts (s : ByteArray) (w : World) (hs : s.size ≤ 4398046511104) :
    Calls Try.prog 23 #[.string s] w fun e w' => ∃ v, e = .returned v ∧ Kd.R Kd.string 9 w' w.heap.size (fun _ => True) v (parts 46 s) ∧ Below w.heap.size w w' := by
  go_enter Try.func23, Try.ntmps23
  go_wp2_with fail
  refine (tree_zzSplit s 46 w hs).mono ?_
  rintro e w1 ⟨v, rfl, hr, hb⟩
  have HR := Aside0.mk hr
  have HB := Aside0.mk hb
  clear hr hb
  go_wp2
  go_ret
  exact ⟨_, rfl, HR.out, HB.out⟩

set_option maxHeartbeats 400000 in
theorem impl_Parts (s : ByteArray) (w : World) (hs : s.size ≤ 4398046511104) :
    Calls Try.prog 12 #[.string s] w fun e w' => ∃ v, e = .returned v ∧ Kd.R Kd.string 9 w' w.heap.size (fun _ => True) v (parts 46 s) ∧ Below w.heap.size w w' := by
  go_enter Try.func12, Try.ntmps12
  go_wp2_with fail
  refine (Path_Parts s w hs).mono ?_
  rintro e w1 ⟨v, rfl, hr, hb⟩
  have HR := Aside0.mk hr
  have HB := Aside0.mk hb
  clear hr hb
  go_wp2
  go_ret
  exact ⟨_, rfl, HR.out, HB.out⟩

/-- what NewPath makes of its items -/
def newPath (xs : List ByteArray) : ByteArray := ⟨(Lib.join (xs.map lb) [46]).toArray⟩

set_option maxHeartbeats 400000 in
theorem tree_NewPath {A : Option Addr} {c : Nat} {xs : List ByteArray} (w : World) (h : Kd.string.C w A xs.length xs) (hc : xs.length ≤ c)
    (hN : xs.length ≤ 140737488355328) (hlen : (newPath xs).size ≤ 140737488355328) :
    Calls Try.prog 24 #[.slice A xs.length c] w fun e w' => e = .returned (.string (newPath xs)) ∧ Below w.heap.size w w' := by
  have H := Aside0.mk h
  have HC := Aside0.mk hc
  have HN := Aside0.mk hN
  have HL := Aside0.mk hlen
  clear h hc hN hlen
  go_enter Try.func24, Try.ntmps24
  go_wp2_with fail
  refine (join_C ⟨#[46]⟩ w H.out HC.out HN.out (by have := HL.out; rw [← lb_length, newPath, lb_mk] at this; exact this)).mono ?_
  rintro e w1 ⟨rfl, hb⟩
  have HB := Aside0.mk hb
  clear hb
  go_wp2
  go_ret
  exact ⟨rfl, HB.out⟩

set_option maxHeartbeats 400000 in
theorem impl_NewPath {A : Option Addr} {c : Nat} {xs : List ByteArray} (w : World) (h : Kd.string.C w A xs.length xs) (hc : xs.length ≤ c)
    (hN : xs.length ≤ 140737488355328) (hlen : (newPath xs).size ≤ 140737488355328) :
    Calls Try.prog 14 #[.slice A xs.length c] w fun e w' => e = .returned (.string (newPath xs)) ∧ Below w.heap.size w w' := by
  have H := Aside0.mk h
  have HC := Aside0.mk hc
  have HN := Aside0.mk hN
  have HL := Aside0.mk hlen
  clear h hc hN hlen
  go_enter Try.func14, Try.ntmps14
  go_wp2_with fail
  refine (tree_NewPath w H.out HC.out HN.out HL.out).mono ?_
  rintro e w1 ⟨rfl, hb⟩
  have HB := Aside0.mk hb
  clear hb
  go_wp2
  go_ret
  exact ⟨rfl, HB.out⟩
end Go.Proofs.Ytecehldjeppjiaa.Tree
