/- tree.NewPath; impl.at, impl.index. -/
import Derived.Test.YtaembebbaejfiaaDoorFrame
import Derived.Test.YtaembebbaejfiaaDoorShelf
namespace Go.Proofs.YtaembebbaejfiaaDoor.Mount
open Go.RowKit Go.Proofs.YtaembebbaejfiaaDoorW.PrintWords Go.Proofs.YtaembebbaejfiaaDoor.Str Go.Proofs.YtaembebbaejfiaaDoor.Kit Go.Proofs.YtaembebbaejfiaaDoor.Frame
set_option linter.unusedVariables false
set_option linter.unusedSimpArgs false
/-- strings.Join of a row that is read -/
theorem join_C {A : Option Addr} {c : Nat} {xs : List ByteArray} (sep : ByteArray) (w : World) (h : Kd.string.C w A xs.length xs) (hc : xs.length ≤ c)
    (hN : xs.length ≤ 140737488355328) (hlen : (Lib.join (xs.map lb) (lb sep)).length ≤ 140737488355328) :
    Calls Tryd.prog 64 #[.slice A xs.length c, .string sep] w fun e w' => e = .returned (.string ⟨(Lib.join (xs.map lb) (lb sep)).toArray⟩) ∧ Below w.heap.size w w' := by
  rcases Nat.eq_zero_or_pos xs.length with h0 | h0
  · obtain rfl := List.eq_nil_of_length_eq_zero h0
    exact (Tryd.strings_Join_none A c sep w).mono fun e w' ⟨he, hw⟩ => ⟨he, hw ▸ Below.refl _ _⟩
  · obtain ⟨bk, off, rfl, hbk, hcell⟩ := strs_open h h0
    exact Tryd.strings_Join bk off c xs sep w (fun j x hx => by
      obtain ⟨hj, rfl⟩ := List.getElem?_eq_some_iff.1 hx
      exact hcell j hj) hbk hN hc hlen

/-- what NewPath makes of its items -/
def newPath (xs : List ByteArray) : ByteArray := ⟨(Lib.join (xs.map lb) [46]).toArray⟩

set_option maxHeartbeats 400000 in
theorem tree_NewPath {A : Option Addr} {c : Nat} {xs : List ByteArray} (w : World) (h : Kd.string.C w A xs.length xs) (hc : xs.length ≤ c)
    (hN : xs.length ≤ 140737488355328) (hlen : (newPath xs).size ≤ 140737488355328) :
    Calls Tryd.prog 51 #[.slice A xs.length c] w fun e w' => e = .returned (.string (newPath xs)) ∧ Below w.heap.size w w' := by
  have H := Aside0.mk h
  have HC := Aside0.mk hc
  have HN := Aside0.mk hN
  have HL := Aside0.mk hlen
  clear h hc hN hlen
  go_enter Tryd.func51, Tryd.ntmps51
  go_wp2_with fail
  refine (join_C ⟨#[46]⟩ w H.out HC.out HN.out (by have := HL.out; rw [← lb_length, newPath, lb_mk] at this; exact this)).mono ?_
  rintro e w1 ⟨rfl, hb⟩
  have HB := Aside0.mk hb
  clear hb
  go_wp2
  go_ret
  exact ⟨rfl, HB.out⟩

set_option maxHeartbeats 400000 in
theorem implAt (w : World) : Calls Tryd.prog 30 #[] w fun e w' => ∃ p, e = .returned (.string p) ∧ Below w.heap.size w w' := by
  have HC := Aside0.mk (show Kd.string.C (w.alloc (.cells #[.string ⟨#[97, 116]⟩] 9)) (some ⟨w.heap.size, 0, none⟩) [(⟨#[97, 116]⟩ : ByteArray)].length [⟨#[97, 116]⟩] from strs_lit w 9 [(⟨#[97, 116]⟩ : ByteArray)] (by decide))
  go_enter Tryd.func30, Tryd.ntmps30
  go_wp2_with fail
  refine (tree_NewPath (c := 1) (xs := [(⟨#[97, 116]⟩ : ByteArray)]) _ HC.out (Nat.le_refl _) (by simp) (by decide)).mono ?_
  rintro e w1 ⟨rfl, hb⟩
  have HB := Aside0.mk (hb_then ((Below.refl _ w).alloc (Nat.le_refl _) _) hb)
  clear hb
  go_wp2
  go_ret
  exact ⟨_, rfl, HB.out⟩
set_option maxHeartbeats 400000 in
theorem implIndex (s : ByteArray) (w : World) : Calls Tryd.prog 27 #[.string s, .nilIface] w fun e w' => e = .returned (.tuple #[.string s, .bool true]) ∧ w' = w := by
  go_enter Tryd.func27, Tryd.ntmps27
  go_wp2
  go_ret2
  exact ⟨rfl, rfl⟩
end Go.Proofs.YtaembebbaejfiaaDoor.Mount
