/- impl.rising: sort.Strings on a row of one's own. -/
import Derived.Test.YtididniafloogaaGreatDoorSortStr
import Derived.Test.YtididniafloogaaGreatDoorAsList
import Derived.Sort.OwnSorted
namespace Go.Proofs.YtididniafloogaaGreatDoor.Maps
open Go.RowKit Go.Proofs.YtididniafloogaaGreatDoorW.PrintWords Go.Proofs.YtididniafloogaaGreatDoorW.PrintLast Go.Proofs.YtididniafloogaaGreatDoor.Str Go.Proofs.YtididniafloogaaGreatDoor.Kit Go.Proofs.YtididniafloogaaGreatDoor.Index Go.Proofs.YtididniafloogaaGreatDoor.Flat Go.Proofs.YtididniafloogaaGreatDoor.MapV Go.Proofs.YtididniafloogaaGreatDoor.Frame Go.Sort
set_option linter.unusedVariables false
set_option linter.unusedSimpArgs false
theorem fm_map (f : BA → Value) : ∀ xs : List BA, (xs.flatMap fun x => [f x]) = xs.map f
  | [] => rfl
  | x :: r => by rw [List.flatMap_cons, fm_map f r]; rfl
theorem enc_lb (ys : List BA) : (ys.map lb).map encStr = ys.map Value.string := by
  rw [List.map_map]
  exact List.map_congr_left (fun y _ => by show Value.string ⟨(lb y).toArray⟩ = _; rw [mk_lb])
def ofL (l : List (List UInt8)) : List BA := l.map fun b => ⟨b.toArray⟩
theorem ofL_enc (l : List (List UInt8)) : (ofL l).map Value.string = l.map encStr := by unfold ofL; rw [List.map_map]; rfl
theorem ofL_lb (ys : List BA) : ofL (ys.map lb) = ys := by
  unfold ofL
  rw [List.map_map]
  exact (List.map_congr_left (fun y _ => mk_lb y)).trans (List.map_id ys)
theorem ofL_srt {l : List (List UInt8)} (h : l.Pairwise fun x y => decide (x ≤ y) = true) : Srt (ofL l) := by
  unfold Srt ofL
  rw [List.pairwise_map]
  refine h.imp (fun {x y} hxy => ?_)
  rw [lb_mk, lb_mk]
  exact List.not_lt.2 (of_decide_eq_true hxy)
set_option maxHeartbeats 800000 in
set_option maxRecDepth 100000 in
theorem rising {base g n c : Nat} {ys : List BA} (w : World) (h : Kd.string.R 9 w base (fun _ => True) (.slice (some ⟨g, 0, none⟩) n c) ys) (hn : ys.length ≤ 17179869184) :
    Calls Tryz.prog 74 #[.slice (some ⟨g, 0, none⟩) n c] w fun e w' => ∃ zs, e = .returned (.slice (some ⟨g, 0, none⟩) n c) ∧ Kd.string.R 9 w' base (fun _ => True) (.slice (some ⟨g, 0, none⟩) n c) zs ∧ zs.Perm ys ∧ Srt zs ∧ w.grownBy w' (some g) := by
  have h' : (flat (fun x : BA => [Value.string x]) 1 (fun _ => rfl) (fun x u hu => by rw [List.mem_singleton.1 hu]; rfl)).R 9 w base (fun _ => True) (.slice (some ⟨g, 0, none⟩) n c) ys := h
  rcases (R_flat.1 h').2.2 with ⟨hv, _⟩ | ⟨g', cap, cur, hv, hgb, hblk, hle, hcap, hcsz, htk⟩
  · cases hv
  injection hv with e1 e2 e3
  injection e1 with e1
  injection e1 with e1
  subst e1 e2 e3
  rw [fm_map, Nat.mul_one, ← enc_lb] at htk
  have hL : (ys.map lb).length = ys.length := List.length_map _
  have hH := holds_of_block (ss := ys.map lb) hblk (by rw [hL]; exact htk)
  have CS := Aside0.mk (Any.sort_Strings Tryz.lays192 g 0 c (ys.map lb) w hH (cb_lt hblk) (by rw [hL]; omega))
  rw [hL] at CS
  have HB := Aside0.mk (And.intro hgb (And.intro hblk (And.intro hle (And.intro hcap hcsz))))
  clear h h' hgb hblk hle hcap hcsz htk hH
  go_enter Tryz.func74, Tryz.ntmps74
  go_wp2_with fail
  refine CS.out.mono ?_
  rintro e w1 ⟨rfl, m, os, rfl⟩
  have hls : ((ys.map lb).mergeSort fun x y => decide (x ≤ y)).length = (ys.map lb).length := by rw [List.length_mergeSort]
  have HO := Aside0.mk (ownsRow_sorted (n := m) (os := os) hls HB.out.1 HB.out.2.1 (by rw [hL]; exact HB.out.2.2.1) HB.out.2.2.2.1 HB.out.2.2.2.2)
  have HG := Aside0.mk (grownBy_sorted (w := w) (g := g) (n := m) (os := os) ((ys.map lb).mergeSort fun x y => decide (x ≤ y)).toArray)
  generalize grow (putRow encStr (Sort.ahead w m) g 0 ((ys.map lb).mergeSort fun x y => decide (x ≤ y)).toArray) os = W5 at *
  go_wp2
  go_ret
  refine ⟨ofL ((ys.map lb).mergeSort fun x y => decide (x ≤ y)), rfl, ?_, ?_, ?_, HG.out⟩
  · refine (show (flat (fun x : BA => [Value.string x]) 1 (fun _ => rfl) (fun x u hu => by rw [List.mem_singleton.1 hu]; rfl)).R 9 W5 base (fun _ => True) (.slice (some ⟨g, 0, none⟩) ys.length c) (ofL ((ys.map lb).mergeSort fun x y => decide (x ≤ y))) from R_flat.2 ⟨fun _ _ => trivial, ?_⟩)
    have hl2 : (ofL ((ys.map lb).mergeSort fun x y => decide (x ≤ y))).length = ys.length := by unfold ofL; rw [List.length_map, hls, hL]
    rw [fm_map, ofL_enc, hl2]
    have := HO.out
    rw [hL] at this
    exact this
  · have := (List.mergeSort_perm (ys.map lb) (fun x y => decide (x ≤ y))).map (fun b : List UInt8 => (⟨b.toArray⟩ : BA))
    have e : (ys.map lb).map (fun b : List UInt8 => (⟨b.toArray⟩ : BA)) = ys := ofL_lb ys
    rw [e] at this
    exact this
  · refine ofL_srt (List.pairwise_mergeSort (fun a b c h1 h2 => ?_) (fun a b => ?_) _)
    · exact decide_eq_true (List.le_trans (of_decide_eq_true h1) (of_decide_eq_true h2))
    · rcases List.le_total a b with h | h
      · simp [h]
      · simp [h]
end Go.Proofs.YtididniafloogaaGreatDoor.Maps
