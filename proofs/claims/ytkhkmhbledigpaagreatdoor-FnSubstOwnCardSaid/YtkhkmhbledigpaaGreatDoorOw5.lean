/- Parts of the proof, laid together: SubSort, SubPick, SubOps, SubBraced, SubImpl, QLawsSubstBare, QSpecSubstPlain, QSpecSubstLetter, QLawsZzFits2, SubBare, SubName, LawSubPlain, LawSubOwn, RowKit, DTabsOwn. -/
import Derived.Test.YtkhkmhbledigpaaGreatDoorOw4
import Derived.Test.YtkhkmhbledigpaaGreatDoorOw3
import Derived.Test.YtkhkmhbledigpaaGreatDoorRows
import Derived.ProofKit
import Derived.OpenShut
import Derived.ShutString
import Derived.ChangeOld
import Derived.Below
import Derived.SizedLaws
import Derived.SliceStrings
import Derived.Test.YtkhkmhbledigpaaGreatDoorCards
import Derived.PinnedBridge
namespace Go.Proofs.YtkhkmhbledigpaaGreatDoor.Tr
open Go.RowKit Go.Proofs.YtkhkmhbledigpaaGreatDoorW.PrintWords Go.Proofs.YtkhkmhbledigpaaGreatDoorW.PrintLast Go.Proofs.YtkhkmhbledigpaaGreatDoor.Str Go.Proofs.YtkhkmhbledigpaaGreatDoor.Kit Go.Proofs.YtkhkmhbledigpaaGreatDoor.MapV Go.Proofs.YtkhkmhbledigpaaGreatDoor.Frame Go.Proofs.YtkhkmhbledigpaaGreatDoor.PS Go.Proofs.YtkhkmhbledigpaaGreatDoor.Flat Go.Sort Go.Lib
set_option linter.unusedVariables false
set_option linter.unusedSimpArgs false
def idx (t s : BA) : Int := findI (lb s) (lb t)
theorem ends_index_l (t s : BA) (ht : t.size < 2305843009213693952) (hs : s.size < 2305843009213693952) : ∀ (d j : Nat), j + d = t.size + 1 → Str.At (lb s) (lb t) j → Ends (fun r => r = idx t s) (fun k => template_zzIndex.l0 k t s (j : Int)) := by
 intro d
 induction d with
 | zero =>
  intro j hj hA
  have := hA.1
  rw [lb_length] at this
  omega
 | succ d ih =>
  intro j hj hA
  have hjl := hA.1
  rw [lb_length] at hjl
  refine Ends.step (fun k => by simp only [template_zzIndex.l0]; rfl) ?_
  rw [wrapN j s.size (by omega), wrap1 j (by omega)]
  by_cases hlt : j + s.size ≤ t.size
  ·refine Ends.yes (by omega) (Ends.yes (by omega) (Ends.yes (by omega) (Ends.ite (fun e => ?_) (fun e => ?_))))
   ·have e' : (t.extract j (j + s.size)).toList = s.toList := e
    exact Ends.now (hA.hit (by rw [lb_length, lb_length]; exact hlt) (by rw [lb_length, ← lb_piece, ← toList_lb, ← toList_lb]; exact e')).symm
   ·have e' : ¬ (t.extract j (j + s.size)).toList = s.toList := e
    exact ih (j + 1) (by omega) (hA.next (by rw [lb_length, lb_length]; exact hlt) (by rw [lb_length, ← lb_piece, ← toList_lb, ← toList_lb]; exact e'))
  ·exact Ends.no (by omega) (Ends.now (hA.miss (by rw [lb_length, lb_length]; omega)).symm)
theorem ends_index (t s : BA) (ht : t.size < 2305843009213693952) (hs : s.size < 2305843009213693952) : Ends (fun r => r = idx t s) (fun k => template_zzIndex.f k t s) := ends_index_l t s ht hs (t.size + 1) 0 (by omega) (Str.At.start _ _)
theorem zzIndex_c (t s : BA) (ht : t.size < 2305843009213693952) (hs : s.size < 2305843009213693952) (w : World) : Calls Tryz.prog 88 #[.string t, .string s] w fun e w' => e = .returned (.int .i64 (idx t s)) ∧ Drawn0 w w' := by
 obtain ⟨k, hk⟩ := (ends_index t s ht hs).ev.rounds
 exact template_zzIndex.calls k t s _ w hk
def encT (x : BA × Nat) : List Value := [.string x.1, .func (.func x.2) #[] #[]]
theorem encT_one (x : BA × Nat) : ∀ u ∈ encT x, u.oneCell' = true := by
 intro u hu
 simp [encT] at hu
 rcases hu with rfl | rfl <;> rfl
instance : Inhabited (BA × Nat) := ⟨(⟨#[]⟩, 0)⟩
def ltT (t : BA) (x y : BA × Nat) : Bool := decide (0 ≤ idx t x.1) && (decide (idx t y.1 < 0) || decide (idx t x.1 < idx t y.1))
theorem ltT_iff (t : BA) (x y : BA × Nat) : ltT t x y = true ↔ 0 ≤ idx t x.1 ∧ (idx t y.1 < 0 ∨ idx t x.1 < idx t y.1) := by simp [ltT]
theorem swo_ltT (t : BA) : SWO (ltT t) where
 irrefl x := by
  rw [Bool.eq_false_iff]
  intro h
  have := (ltT_iff t x x).1 h
  omega
 trans x y z h1 h2 := by
  have a := (ltT_iff t x y).1 h1
  have b := (ltT_iff t y z).1 h2
  exact (ltT_iff t x z).2 (by omega)
 ntrans x y z h1 h2 := by
  rw [Bool.eq_false_iff] at *
  intro h
  have a := (ltT_iff t x z).1 h
  have b : ¬ (0 ≤ idx t x.1 ∧ (idx t y.1 < 0 ∨ idx t x.1 < idx t y.1)) := fun k => h1 ((ltT_iff t x y).2 k)
  have c : ¬ (0 ≤ idx t y.1 ∧ (idx t z.1 < 0 ∨ idx t y.1 < idx t z.1)) := fun k => h2 ((ltT_iff t y z).2 k)
  omega
noncomputable def opsT : TypeInfo := (Tryz.prog.info? 142).get (by kernel_rfl)
noncomputable def opT : TypeInfo := (Tryz.prog.info? 141).get (by kernel_rfl)
theorem opT_k (n : Nat) (h2 : 2 ≤ n) : Lib.swapperK n opT 25 = 9 := by
 have a : opT.hasPointers = true := by kernel_rfl
 have b : opT.bytes = 24 := by kernel_rfl
 have c : (n == 0) = false := by simp; omega
 have d : (n == 1) = false := by simp; omega
 simp [Lib.swapperK, a, b, c, d]
set_option maxHeartbeats 2000000 in
set_option maxRecDepth 100000 in
theorem ops_less (t : BA) (ht : t.size < 2305843009213693952) (blk off c tb sb size : Nat) (W : World) (G : Nat → BA) (hG : ∀ i, i < size → (G i).size < 2305843009213693952) (h0 : W.cell? ⟨tb, 0, none⟩ = some (.string t)) (hs : W.cell? ⟨sb, 0, none⟩ = some (.slice (some ⟨blk, off, none⟩) size c))
  (hc : ∀ i, i < size → W.cell? ⟨blk, off + i * 2, none⟩ = some (.string (G i))) (i j : Nat) (hi : i < size) (hj : j < size) (_hsz : size < 4611686018427387904) :
  Calls Tryz.prog 91 #[.int .i64 i, .int .i64 j, .pointer (some ⟨tb, 0, none⟩), .pointer (some ⟨sb, 0, none⟩)] W fun e w' => e = .returned (.bool (ltT t (G i, 0) (G j, 0))) ∧ ∃ q, w' = W.drewN q := by
 have ci := hc i hi
 have cj := hc j hj
 have qi : (i : Int) < (size : Int) := by omega
 have qj : (j : Int) < (size : Int) := by omega
 have CI := aM (fun W => zzIndex_c t (G i) ht (hG i hi) W)
 have CJ := aM (fun W => zzIndex_c t (G j) ht (hG j hj) W)
 have HR := aM (show ∀ a b : Int, a = idx t (G i) → b = idx t (G j) → ltT t (G i, 0) (G j, 0) = (decide (0 ≤ a) && (decide (b < 0) || decide (a < b))) from fun a b ha hb => by rw [ha, hb]; rfl)
 clear hG hc
 go_enter Tryz.func91, Tryz.ntmps91
 go_wp2_with fail
 refine start_ (n := 8) (S := fun w' => w'.cell? ⟨tb, 0, none⟩ = some (.string t) ∧ w'.cell? ⟨sb, 0, none⟩ = some (.slice (some ⟨blk, off, none⟩) size c) ∧ w'.cell? ⟨blk, off + i * 2, none⟩ = some (.string (G i))) (ds := [6]) #[false, false, false, false, false, false, false, false] (by kernel_rfl) rfl rfl ⟨h0, hs, ci⟩ (fun hHeld => ?_)
 refine pure_ (i := 2) (N := some 11) (v := ?_) (a' := ?_) #[false, false, true, false, false, false, false, false] rfl rfl (by kernel_rfl) (fun _ _ _ h => h) (Or.inl ⟨by rfl, ?_⟩) ?_ ?_
 rotate_left
 ·intro w'; go_simp; with_reducible rfl
 rotate_left
 ·simp only [Act.put, sA, sB, sC, i64_w, i32_w]; rfl
 refine take_ (i := 0) (N := some 9) (v := ?_) (a' := ?_) #[true, false, true, false, false, false, false, false] rfl rfl (by kernel_rfl) (fun _ _ _ h => h) (Or.inl ⟨by rfl, ?_⟩) hHeld ?_ ?_
 rotate_left
 ·rintro w' ⟨s0, s1, s2⟩
  go_simp; with_reducible rfl
 rotate_left
 ·simp only [Act.put, sA, sB, sC, i64_w, i32_w]; rfl
 refine take_ (i := 1) (N := some 10) (v := ?_) (a' := ?_) #[true, true, true, false, false, false, false, false] rfl rfl (by kernel_rfl) (fun _ _ _ h => h) (Or.inl ⟨by rfl, ?_⟩) hHeld ?_ ?_
 rotate_left
 ·rintro w' ⟨s0, s1, s2⟩
  go_simp; with_reducible rfl
 rotate_left
 ·simp only [Act.put, sA, sB, sC, i64_w, i32_w]; rfl
 refine pure_ (i := 3) (N := some 12) (v := ?_) (a' := ?_) #[true, true, true, true, false, false, false, false] rfl rfl (by kernel_rfl) (fun _ _ _ h => h) (Or.inl ⟨by rfl, ?_⟩) ?_ ?_
 rotate_left
 ·intro w'; go_simp; with_reducible rfl
 rotate_left
 ·simp only [Act.put, sA, sB, sC, i64_w, i32_w]; rfl
 refine pure_ (i := 4) (N := some 13) (v := ?_) (a' := ?_) #[true, true, true, true, true, false, false, false] rfl rfl (by kernel_rfl) (fun _ _ _ h => h) (Or.inl ⟨by rfl, ?_⟩) ?_ ?_
 rotate_left
 ·intro w'; go_simp; with_reducible rfl
 rotate_left
 ·simp only [Act.put, sA, sB, sC, i64_w, i32_w]; rfl
 refine take_ (i := 5) (N := some 14) (v := ?_) (a' := ?_) #[true, true, true, true, true, true, false, false] rfl rfl (by kernel_rfl) (fun _ _ _ h => h) (Or.inl ⟨by rfl, ?_⟩) hHeld ?_ ?_
 rotate_left
 ·rintro w' ⟨s0, s1, s2⟩
  go_simp; with_reducible rfl
 rotate_left
 ·simp only [Act.put, sA, sB, sC, i64_w, i32_w]; rfl
 refine last_ (i := 6) (N := some 15) #[true, true, true, true, true, true, true, false] rfl rfl (by kernel_rfl) (by decide) (fun K hK => ?_)
 refine goes_ Tryz.func88 (by kernel_rfl) rfl #[.string t, .string (G i)] (by rfl) rfl rfl (by simp only [List.map_toArray, List.map_cons, List.map_nil]; rfl) ?_
 with_reducible refine (CI.out _).mono ?_
 rintro e w4 ⟨rfl, ⟨nd, rfl⟩⟩
 refine ⟨_, rfl, ?_⟩
 refine hK.out _ _ ?_
 clear hK K
 refine norm_ (a' := ?_) ?_ ?_
 rotate_left
 ·show Act.put _ (some 15) _ = _
  simp only [Act.put, sA, sB, sC, i64_w, i32_w]; rfl
 refine pure_ (i := 7) (N := some 7) (v := ?_) (a' := ?_) #[true, true, true, true, true, true, true, true] rfl rfl (by kernel_rfl) (fun _ _ _ h => h) (Or.inl ⟨by rfl, ?_⟩) ?_ ?_
 rotate_left
 ·intro w'; go_simp; with_reducible rfl
 rotate_left
 ·simp only [Act.put, sA, sB, sC, i64_w, i32_w]; rfl
 refine done_ (by kernel_rfl) ?_
 have hbd := hb_then (below_drew (Below.refl _ W)) (Drawn0.below (⟨⟨nd, rfl⟩⟩ : Drawn0 W.drew (W.drew.drewN nd)))
 have h02 := pw_cell_below hbd h0
 have hs2 := pw_cell_below hbd hs
 have cj2 := pw_cell_below hbd cj
 clear CI
 generalize hW2 : W.drew.drewN nd = W2 at h02 hs2 cj2 ⊢
 have HW2 := aM hW2
 clear hW2 hbd h0 hs ci cj
 go_wp2_with fail
 refine start_ (n := 8) (S := fun w' => w'.cell? ⟨tb, 0, none⟩ = some (.string t) ∧ w'.cell? ⟨sb, 0, none⟩ = some (.slice (some ⟨blk, off, none⟩) size c) ∧ w'.cell? ⟨blk, off + j * 2, none⟩ = some (.string (G j))) (ds := [6]) #[false, false, false, false, false, false, false, false] (by kernel_rfl) rfl rfl ⟨h02, hs2, cj2⟩ (fun hHeld => ?_)
 refine pure_ (i := 2) (N := some 18) (v := ?_) (a' := ?_) #[false, false, true, false, false, false, false, false] rfl rfl (by kernel_rfl) (fun _ _ _ h => h) (Or.inl ⟨by rfl, ?_⟩) ?_ ?_
 rotate_left
 ·intro w'; go_simp; with_reducible rfl
 rotate_left
 ·simp only [Act.put, sA, sB, sC, i64_w, i32_w]; rfl
 refine take_ (i := 0) (N := some 16) (v := ?_) (a' := ?_) #[true, false, true, false, false, false, false, false] rfl rfl (by kernel_rfl) (fun _ _ _ h => h) (Or.inl ⟨by rfl, ?_⟩) hHeld ?_ ?_
 rotate_left
 ·rintro w' ⟨s0, s1, s2⟩
  go_simp; with_reducible rfl
 rotate_left
 ·simp only [Act.put, sA, sB, sC, i64_w, i32_w]; rfl
 refine take_ (i := 1) (N := some 17) (v := ?_) (a' := ?_) #[true, true, true, false, false, false, false, false] rfl rfl (by kernel_rfl) (fun _ _ _ h => h) (Or.inl ⟨by rfl, ?_⟩) hHeld ?_ ?_
 rotate_left
 ·rintro w' ⟨s0, s1, s2⟩
  go_simp; with_reducible rfl
 rotate_left
 ·simp only [Act.put, sA, sB, sC, i64_w, i32_w]; rfl
 refine pure_ (i := 3) (N := some 19) (v := ?_) (a' := ?_) #[true, true, true, true, false, false, false, false] rfl rfl (by kernel_rfl) (fun _ _ _ h => h) (Or.inl ⟨by rfl, ?_⟩) ?_ ?_
 rotate_left
 ·intro w'; go_simp; with_reducible rfl
 rotate_left
 ·simp only [Act.put, sA, sB, sC, i64_w, i32_w]; rfl
 refine pure_ (i := 4) (N := some 20) (v := ?_) (a' := ?_) #[true, true, true, true, true, false, false, false] rfl rfl (by kernel_rfl) (fun _ _ _ h => h) (Or.inl ⟨by rfl, ?_⟩) ?_ ?_
 rotate_left
 ·intro w'; go_simp; with_reducible rfl
 rotate_left
 ·simp only [Act.put, sA, sB, sC, i64_w, i32_w]; rfl
 refine take_ (i := 5) (N := some 21) (v := ?_) (a' := ?_) #[true, true, true, true, true, true, false, false] rfl rfl (by kernel_rfl) (fun _ _ _ h => h) (Or.inl ⟨by rfl, ?_⟩) hHeld ?_ ?_
 rotate_left
 ·rintro w' ⟨s0, s1, s2⟩
  go_simp; with_reducible rfl
 rotate_left
 ·simp only [Act.put, sA, sB, sC, i64_w, i32_w]; rfl
 refine last_ (i := 6) (N := some 22) #[true, true, true, true, true, true, true, false] rfl rfl (by kernel_rfl) (by decide) (fun K hK => ?_)
 refine goes_ Tryz.func88 (by kernel_rfl) rfl #[.string t, .string (G j)] (by rfl) rfl rfl (by simp only [List.map_toArray, List.map_cons, List.map_nil]; rfl) ?_
 with_reducible refine (CJ.out _).mono ?_
 rintro e w5 ⟨rfl, ⟨nd2, rfl⟩⟩
 refine ⟨_, rfl, ?_⟩
 refine hK.out _ _ ?_
 clear hK K
 refine norm_ (a' := ?_) ?_ ?_
 rotate_left
 ·show Act.put _ (some 22) _ = _
  simp only [Act.put, sA, sB, sC, i64_w, i32_w]; rfl
 refine pure_ (i := 7) (N := some 8) (v := ?_) (a' := ?_) #[true, true, true, true, true, true, true, true] rfl rfl (by kernel_rfl) (fun _ _ _ h => h) (Or.inl ⟨by rfl, ?_⟩) ?_ ?_
 rotate_left
 ·intro w'; go_simp; with_reducible rfl
 rotate_left
 ·simp only [Act.put, sA, sB, sC, i64_w, i32_w]; rfl
 refine done_ (by kernel_rfl) ?_
 have hr := HR.out _ _ rfl rfl
 have HR2 := aM hr
 clear hr HR
 generalize idx t (G i) = a at HR2 ⊢
 generalize idx t (G j) = b at HR2 ⊢
 clear CJ h02 hs2 cj2
 have HWN := aM (show ∃ q, W2.drewN (1 + nd2) = W.drewN q from by
  have e1 : W.drew.drewN nd = W.drewN (1 + nd) := by simp
  have e2 : (W.drewN (1 + nd)).drewN (1 + nd2) = W.drewN (1 + nd + (1 + nd2)) := by simp
  exact ⟨1 + nd + (1 + nd2), by rw [← HW2.out, e1, e2]⟩)
 by_cases ha : a < 0
 ·have d1 : decide (a < 0) = true := decide_eq_true ha
  have e1 : ltT t (G i, 0) (G j, 0) = false := by rw [HR2.out, decide_eq_false (by omega)]; rfl
  have HE := aM e1
  clear e1 ha
  go_wp2
  go_ret
  exact ⟨by rw [HE.out]; rfl, HWN.out⟩
 ·have d1 : decide (a < 0) = false := decide_eq_false ha
  by_cases hb : b < 0
  ·have d2 : decide (b < 0) = true := decide_eq_true hb
   have HE := aM (show ltT t (G i, 0) (G j, 0) = true by rw [HR2.out, decide_eq_true (by omega), d2]; rfl)
   clear ha hb
   go_wp2
   go_ret
   exact ⟨by rw [HE.out]; rfl, HWN.out⟩
  ·have d2 : decide (b < 0) = false := decide_eq_false hb
   have HE := aM (show ltT t (G i, 0) (G j, 0) = decide (a < b) by rw [HR2.out, decide_eq_true (by omega), d2]; simp)
   clear ha hb
   go_wp2
   go_ret
   exact ⟨by rw [HE.out]; rfl, HWN.out⟩
end Go.Proofs.YtkhkmhbledigpaaGreatDoor.Tr
namespace Go.Proofs.YtkhkmhbledigpaaGreatDoor.Tr
open Go.RowKit Go.Proofs.YtkhkmhbledigpaaGreatDoorW.PrintWords Go.Proofs.YtkhkmhbledigpaaGreatDoorW.PrintLast Go.Proofs.YtkhkmhbledigpaaGreatDoor.Str Go.Proofs.YtkhkmhbledigpaaGreatDoor.Kit Go.Proofs.YtkhkmhbledigpaaGreatDoor.MapV Go.Proofs.YtkhkmhbledigpaaGreatDoor.Frame Go.Proofs.YtkhkmhbledigpaaGreatDoor.PS Go.Proofs.YtkhkmhbledigpaaGreatDoor.Flat Go.Sort Go.Lib
set_option linter.unusedVariables false
set_option linter.unusedSimpArgs false
def opsL : List (BA × Nat) := [(⟨#[58, 63]⟩, 63), (⟨#[63]⟩, 62), (⟨#[58, 45]⟩, 59), (⟨#[45]⟩, 58), (⟨#[58, 43]⟩, 61), (⟨#[43]⟩, 60)]
def opAt (i : Fin 6) : BA × Nat := opsL[i.val]'(by have := i.isLt; show i.val < 6; exact this)
theorem op_small (i : Fin 6) : (opAt i).1.size < 2305843009213693952 := by
 revert i
 decide
def encF (i : Fin 6) : List Value := encT (opAt i)
theorem encF_len (x : Fin 6) : (encF x).length = 2 := rfl
theorem encF_one (x : Fin 6) : ∀ u ∈ encF x, u.oneCell' = true := encT_one (opAt x)
def ltF (t : BA) (i j : Fin 6) : Bool := ltT t (opAt i) (opAt j)
theorem swo_ltF (t : BA) : SWO (ltF t) where
 irrefl x := (swo_ltT t).irrefl _
 trans x y z h1 h2 := (swo_ltT t).trans _ _ _ h1 h2
 ntrans x y z h1 h2 := (swo_ltT t).ntrans _ _ _ h1 h2
def six : Array (Fin 6) := #[0, 1, 2, 3, 4, 5]
abbrev opsCells : Array Value := #[.string ⟨#[58, 63]⟩, .func (.func 63) #[] #[], .string ⟨#[63]⟩, .func (.func 62) #[] #[], .string ⟨#[58, 45]⟩, .func (.func 59) #[] #[], .string ⟨#[45]⟩, .func (.func 58) #[] #[], .string ⟨#[58, 43]⟩, .func (.func 61) #[] #[], .string ⟨#[43]⟩, .func (.func 60) #[] #[]]
set_option maxRecDepth 100000 in
theorem ops_sort (t : BA) (ht : t.size < 2305843009213693952) (blk c tb sb : Nat) (w : World) (hH : HoldsK encF 2 w blk 0 six) (hblk : blk < w.heap.size)
  (h0 : w.cell? ⟨tb, 0, none⟩ = some (.string t)) (ht1 : tb < w.heap.size) (ht2 : tb ≠ blk) (hBs : w.cell? ⟨sb, 0, none⟩ = some (.slice (some ⟨blk, 0, none⟩) 6 c)) (hB1 : sb < w.heap.size) (hB2 : sb ≠ blk) :
  Calls Tryz.prog 90 #[.iface 142 (.slice (some ⟨blk, 0, none⟩) 6 c), .func (.func 91) #[] #[.pointer (some ⟨tb, 0, none⟩), .pointer (some ⟨sb, 0, none⟩)]] w fun e w' =>
   e = .returned (.tuple #[]) ∧ ∃ d' n os, PermIn 0 6 six d' ∧ SortedIn (ltF t) 0 6 d' ∧ w' = grow (putRowK encF 2 (Sort.ahead w n) blk 0 d') os := by
 have hless : LessReadsK Tryz.prog 91 #[.pointer (some ⟨tb, 0, none⟩), .pointer (some ⟨sb, 0, none⟩)] encF 2 (ltF t) blk 0 6 w := by
  intro m os dk hs i j hi hj
  have e : sortWorldK encF 2 w blk 0 m dk os = putRowK encF 2 (grow (Sort.ahead w m) os) blk 0 dk := by
   unfold sortWorldK; rw [putRowK_grow _ _ (Sort.ahead w m) _ blk 0 _ hblk]
  have hHg : HoldsK encF 2 (grow (Sort.ahead w m) os) blk 0 six := holdsK_grow _ _ _ _ blk 0 six hblk (holdsK_ahead _ _ _ _ _ _ _ hH)
  refine ops_less t ht blk 0 c tb sb 6 _ (fun t => (opAt dk[t]!).1) (fun i hi => op_small _) ?_ ?_ (fun t ht => ?_) i j hi hj (by omega)
  ·rw [e, cell?_putRowK_other _ _ _ blk 0 dk _ (by exact ht2), cell?_grow _ _ _ (by exact ht1)]; exact h0
  ·rw [e, cell?_putRowK_other _ _ _ blk 0 dk _ (by exact hB2), cell?_grow _ _ _ (by exact hB1)]; exact hBs
  ·rw [e]; exact ((holdsK_putRowK _ _ _ blk 0 six dk hHg hs).cell (i := t) (c := 0) (by omega) (by omega)).1
 exact Any.sort_Slice_cells_sorted Tryz.laysGg6 142 141 opsT opT (by kernel_rfl) (by kernel_rfl) (by kernel_rfl) (by kernel_rfl) 25 (fun _ => by kernel_rfl) encF 2 encF_len (by kernel_rfl) (fun _ => by kernel_rfl)
  encF_one (ltF t) (swo_ltF t) 91 _
  (enters_of Tryz.func91 (by kernel_rfl) rfl) blk 0 c six (by decide) (by decide) 106 (by rw [opT_k _ (by decide)]; kernel_rfl) false
  (fun args W => run_callFunc_extern Tryz.func106 (by kernel_rfl) (by kernel_rfl) (by kernel_rfl) (e := Extern.ReflectliteSwapper.swap false) (by kernel_rfl) args W) w hless hH hblk
theorem six_holds (w : World) : HoldsK encF 2 (w.alloc (.cells opsCells 141)) w.heap.size 0 six := by
 have hown : (w.alloc (.cells opsCells 141)).ownsRow w.heap.size 141 2 (.slice (some ⟨w.heap.size, 0, none⟩) six.toList.length 6) six.toList.length (six.toList.flatMap encF) := by
  refine ⟨rfl, .inr ⟨w.heap.size, 6, opsCells, rfl, Nat.le_refl _, cb_new w _, by decide, by unfold maxLen; decide, rfl, rfl⟩⟩
 have := holdsK_of_own encF_len hown
 exact this
theorem holdsK_alloc_ {w : World} {b : Nat} {o : Obj} (h : HoldsK encF 2 w b 0 six) : HoldsK encF 2 (w.alloc o) b 0 six := by
 intro j hj
 obtain ⟨h1, h2⟩ := h j hj
 have hl := World.block_lt_of_cell? w _ h1
 exact ⟨(World.cell?_alloc_lt _ _ _ hl).trans h1, (World.frozen?_alloc_old _ _ _ (Nat.ne_of_lt hl)).trans h2⟩
set_option maxHeartbeats 1600000 in
set_option maxRecDepth 100000 in
theorem getSubst (t : BA) (ht : t.size < 2305843009213693952) (w : World) :
  Calls Tryz.prog 81 #[.string t] w fun e w' => ∃ k : Fin 6, e = .returned (.tuple #[.string (opAt k).1, .func (.func (opAt k).2) #[] #[]]) ∧ (∀ j : Fin 6, ltF t j k = false) ∧ Below w.heap.size w w' := by
 have hmf : ∀ (fn : Fn) (first cap : Array Value) (w : World), (Instr.makeFunc fn first cap).run Tryz.prog w = .ok (.func fn first cap) w := fun _ _ _ _ => rfl
 have hH := six_holds (w.alloc (.cells #[.string t] 9))
 rw [World.size_alloc] at hH
 have hb1 := below_alloc (below_alloc (below_alloc (Below.refl w.heap.size w) (.cells #[.string t] 9)) (.cells opsCells 141)) (.cells #[.slice (some ⟨w.heap.size + 1, 0, none⟩) 6 6] 142)
 have HB := aM hb1
 have hc1 := cb_new ((w.alloc (.cells #[.string t] 9)).alloc (.cells opsCells 141)) (.cells #[.slice (some ⟨w.heap.size + 1, 0, none⟩) 6 6] 142)
 simp only [World.size_alloc] at hc1
 have HS := aM (ops_sort t ht (w.heap.size + 1) 6 w.heap.size (w.heap.size + 1 + 1) (((w.alloc (.cells #[.string t] 9)).alloc (.cells opsCells 141)).alloc (.cells #[.slice (some ⟨w.heap.size + 1, 0, none⟩) 6 6] 142)) (holdsK_alloc_ hH) (by simp only [World.size_alloc]; omega) (cb_cell (i := 0) (cb_alloc (cb_alloc (cb_new w _) _) _) rfl) (by simp only [World.size_alloc]; omega) (by omega) (cb_cell (i := 0) hc1 rfl) (by simp only [World.size_alloc]; omega) (by omega))
 have HC1 := aM hc1
 clear hb1 hc1
 go_enter Tryz.func81, Tryz.ntmps81
 go_wp2_with fail
 generalize hw1 : ((w.alloc (.cells #[.string t] 9)).alloc (.cells opsCells 141)).alloc (.cells #[.slice (some ⟨w.heap.size + 1, 0, none⟩) 6 6] 142) = w1 at HS HB HC1 hH ⊢
 refine HS.out.mono ?_
 rintro e w2 ⟨rfl, d', n, os, hp, hso, rfl⟩
 have hl1 : w.heap.size + 1 < w1.heap.size := by have := cb_lt HC1.out; omega
 have hds : d'.size = 6 := hp.1
 have hgr := grown_sortedK (enc := encF) (k := 2) (m := n) (ys := d') (os := os) hl1
 have hk1 : HoldsK encF 2 (putRowK encF 2 (Sort.ahead w1 n) (w.heap.size + 1) 0 d') (w.heap.size + 1) 0 d' := holdsK_putRowK _ _ _ _ 0 six d' (holdsK_ahead _ _ _ _ _ _ _ (by rw [← hw1]; exact holdsK_alloc_ hH)) hds
 have hk2 := holdsK_grow _ _ _ os (w.heap.size + 1) 0 d' (by rw [size_putRowK]; exact hl1) hk1
 generalize grow (putRowK encF 2 (Sort.ahead w1 n) (w.heap.size + 1) 0 d') os = w2 at hgr hk2 ⊢
 have hmin : ∀ j : Fin 6, ltF t j d'[0]! = false := by
  intro j
  have hm : j ∈ d'.toList := by
   have h3 := hp.2.2
   have e1 : d'.extract 0 6 = d' := by
    have e0 : d'.extract 0 d'.size = d' := by simp
    rw [hds] at e0
    exact e0
   rw [e1] at h3
   refine h3.symm.subset ?_
   show j ∈ ([0, 1, 2, 3, 4, 5] : List (Fin 6))
   revert j
   decide
  obtain ⟨m, hm, hj⟩ := List.getElem_of_mem hm
  have hm' : m < d'.size := by simpa using hm
  have hj' : d'[m]! = j := by rw [getElem!_pos d' m hm']; simpa using hj
  rcases Nat.eq_zero_or_pos m with rfl | h0
  ·rw [hj']
   exact (swo_ltF t).irrefl j
  ·rw [← hj']
   exact hso 0 m (Nat.zero_le _) h0 (by omega)
 have c0 := (hk2.cell (i := 0) (c := 0) (by omega) (by omega)).1
 have c1 := (hk2.cell (i := 0) (c := 1) (by omega) (by omega)).1
 generalize d'[0]! = k at hmin c0 c1
 have c0' : w2.cell? ⟨w.heap.size + 1, 0, none⟩ = some (.string (opAt k).1) := c0
 have c1' : w2.cell? ⟨w.heap.size + 1, 1, none⟩ = some (.func (.func (opAt k).2) #[] #[]) := c1
 have c2 : w2.cell? ⟨w.heap.size + 1 + 1, 0, none⟩ = some (.slice (some ⟨w.heap.size + 1, 0, none⟩) 6 6) := cb_cell (i := 0) ((hgr.block _ (cb_lt HC1.out) (by simp)).trans HC1.out) rfl
 have HB2 := aM (pw_below_grown HB.out _ HB.out.size hgr (fun k hk => by injection hk with hk; omega))
 have HMIN := aM hmin
 obtain ⟨sg, hsg⟩ : ∃ sg, (opAt k).1 = sg := ⟨_, rfl⟩
 obtain ⟨fn, hfn⟩ : ∃ fn, (opAt k).2 = fn := ⟨_, rfl⟩
 rw [hsg] at c0'
 rw [hfn] at c1'
 have HSF := aM (And.intro hsg hfn)
 clear hsg hfn c0 c1 hk1 hk2 hgr hp hso hds hmin hl1 HS HC1 hH hw1
 go_wp2
 go_quiet (fail)
 go_wp2
 go_ret2
 exact ⟨k, by rw [HSF.out.1, HSF.out.2]; rfl, HMIN.out, pw_below_drewN HB2.out _⟩
end Go.Proofs.YtkhkmhbledigpaaGreatDoor.Tr
namespace Go.Proofs.YtkhkmhbledigpaaGreatDoor.Tr
open Go.RowKit Go.Proofs.YtkhkmhbledigpaaGreatDoorW.PrintWords Go.Proofs.YtkhkmhbledigpaaGreatDoorW.PrintLast Go.Proofs.YtkhkmhbledigpaaGreatDoor.Str Go.Proofs.YtkhkmhbledigpaaGreatDoor.Kit Go.Proofs.YtkhkmhbledigpaaGreatDoor.MapV Go.Proofs.YtkhkmhbledigpaaGreatDoor.Frame Go.Proofs.YtkhkmhbledigpaaGreatDoor.PS
set_option linter.unusedVariables false
set_option linter.unusedSimpArgs false
theorem ends_contains (t s : BA) (ht : t.size < 2305843009213693952) (hs : s.size < 2305843009213693952) : Ends (fun r => r = decide (idx t s ≥ 0)) (fun k => template_zzContains.f k t s) := by
 unfold template_zzContains.f
 refine Ends.bind (ends_index t s ht hs) (fun r hr => ?_)
 subst hr
 exact Ends.now rfl
theorem contains_c (t s : BA) (b : Bool) (hb : decide (idx t s ≥ 0) = b) (ht : t.size < 2305843009213693952) (hs : s.size < 2305843009213693952) (w : World) : Calls Tryz.prog 79 #[.string t, .string s] w fun e w' => e = .returned (.bool b) ∧ Drawn0 w w' := by
 subst hb
 obtain ⟨k, hk⟩ := (ends_contains t s ht hs).ev.rounds
 exact template_zzContains.calls k t s _ w hk
abbrev notUsed : Value := .tuple #[.string ⟨#[]⟩, .bool false, .nilIface]
theorem absence_no (t : BA) (ht : t.size < 2305843009213693952) (b : Bool) (hn : idx t (if b then ⟨#[58, 45]⟩ else ⟨#[45]⟩) < 0) (ev : Value) (w : World) :
  Calls Tryz.prog 72 #[.string t, ev, .bool b] w fun e w' => e = .returned notUsed ∧ Drawn0 w w' := by
 have CC := aM (fun W => contains_c t (if b then ⟨#[58, 45]⟩ else ⟨#[45]⟩) false (decide_eq_false (by omega)) ht (by cases b <;> decide) W)
 clear hn
 go_enter Tryz.func72, Tryz.ntmps72
 cases b
 all_goals
  go_wp2_with fail
  refine (CC.out _).mono ?_
  rintro e w1 ⟨rfl, ⟨nd, rfl⟩⟩
  go_wp2
  go_ret3
  exact ⟨rfl, ⟨⟨nd, rfl⟩⟩⟩
theorem presence_no (t : BA) (ht : t.size < 2305843009213693952) (b : Bool) (hn : idx t (if b then ⟨#[58, 43]⟩ else ⟨#[43]⟩) < 0) (ev : Value) (w : World) :
  Calls Tryz.prog 73 #[.string t, ev, .bool b] w fun e w' => e = .returned notUsed ∧ Drawn0 w w' := by
 have CC := aM (fun W => contains_c t (if b then ⟨#[58, 43]⟩ else ⟨#[43]⟩) false (decide_eq_false (by omega)) ht (by cases b <;> decide) W)
 clear hn
 go_enter Tryz.func73, Tryz.ntmps73
 cases b
 all_goals
  go_wp2_with fail
  refine (CC.out _).mono ?_
  rintro e w1 ⟨rfl, ⟨nd, rfl⟩⟩
  go_wp2
  go_ret3
  exact ⟨rfl, ⟨⟨nd, rfl⟩⟩⟩
theorem required_no (t sg : BA) (ht : t.size < 2305843009213693952) (hs : sg.size < 2305843009213693952) (hn : idx t sg < 0) (ev fv : Value) (w : World) :
  Calls Tryz.prog 74 #[.string t, ev, .string sg, fv] w fun e w' => e = .returned notUsed ∧ Drawn0 w w' := by
 have CC := aM (fun W => contains_c t sg false (decide_eq_false (by omega)) ht hs W)
 clear hn
 go_enter Tryz.func74, Tryz.ntmps74
 go_wp2_with fail
 refine (CC.out _).mono ?_
 rintro e w1 ⟨rfl, ⟨nd, rfl⟩⟩
 go_wp2
 go_ret3
 exact ⟨rfl, ⟨⟨nd, rfl⟩⟩⟩
theorem no0 (t : BA) (ht : t.size < 2305843009213693952) (hn : idx t ⟨#[58, 63]⟩ < 0) (ev : Value) (w : World) :
  Calls Tryz.prog 63 #[.string t, ev] w fun e w' => e = .returned notUsed ∧ Drawn0 w w' := by
 have CC := aM (fun W => required_no t ⟨#[58, 63]⟩ ht (by decide) hn ev (.func (.func 76) #[] #[]) W)
 clear hn
 go_enter Tryz.func63, Tryz.ntmps63
 go_wp2_with fail
 refine (CC.out _).mono ?_
 rintro e w1 ⟨rfl, ⟨nd, rfl⟩⟩
 go_wp2
 go_ret3
 exact ⟨rfl, ⟨⟨nd, rfl⟩⟩⟩
theorem no1 (t : BA) (ht : t.size < 2305843009213693952) (hn : idx t ⟨#[63]⟩ < 0) (ev : Value) (w : World) :
  Calls Tryz.prog 62 #[.string t, ev] w fun e w' => e = .returned notUsed ∧ Drawn0 w w' := by
 have CC := aM (fun W => required_no t ⟨#[63]⟩ ht (by decide) hn ev (.func (.func 75) #[] #[]) W)
 clear hn
 go_enter Tryz.func62, Tryz.ntmps62
 go_wp2_with fail
 refine (CC.out _).mono ?_
 rintro e w1 ⟨rfl, ⟨nd, rfl⟩⟩
 go_wp2
 go_ret3
 exact ⟨rfl, ⟨⟨nd, rfl⟩⟩⟩
theorem no2 (t : BA) (ht : t.size < 2305843009213693952) (hn : idx t ⟨#[58, 45]⟩ < 0) (ev : Value) (w : World) :
  Calls Tryz.prog 59 #[.string t, ev] w fun e w' => e = .returned notUsed ∧ Drawn0 w w' := by
 have CC := aM (fun W => absence_no t ht true hn ev W)
 clear hn
 go_enter Tryz.func59, Tryz.ntmps59
 go_wp2_with fail
 refine (CC.out _).mono ?_
 rintro e w1 ⟨rfl, ⟨nd, rfl⟩⟩
 go_wp2
 go_ret3
 exact ⟨rfl, ⟨⟨nd, rfl⟩⟩⟩
theorem no3 (t : BA) (ht : t.size < 2305843009213693952) (hn : idx t ⟨#[45]⟩ < 0) (ev : Value) (w : World) :
  Calls Tryz.prog 58 #[.string t, ev] w fun e w' => e = .returned notUsed ∧ Drawn0 w w' := by
 have CC := aM (fun W => absence_no t ht false hn ev W)
 clear hn
 go_enter Tryz.func58, Tryz.ntmps58
 go_wp2_with fail
 refine (CC.out _).mono ?_
 rintro e w1 ⟨rfl, ⟨nd, rfl⟩⟩
 go_wp2
 go_ret3
 exact ⟨rfl, ⟨⟨nd, rfl⟩⟩⟩
theorem no4 (t : BA) (ht : t.size < 2305843009213693952) (hn : idx t ⟨#[58, 43]⟩ < 0) (ev : Value) (w : World) :
  Calls Tryz.prog 61 #[.string t, ev] w fun e w' => e = .returned notUsed ∧ Drawn0 w w' := by
 have CC := aM (fun W => presence_no t ht true hn ev W)
 clear hn
 go_enter Tryz.func61, Tryz.ntmps61
 go_wp2_with fail
 refine (CC.out _).mono ?_
 rintro e w1 ⟨rfl, ⟨nd, rfl⟩⟩
 go_wp2
 go_ret3
 exact ⟨rfl, ⟨⟨nd, rfl⟩⟩⟩
theorem no5 (t : BA) (ht : t.size < 2305843009213693952) (hn : idx t ⟨#[43]⟩ < 0) (ev : Value) (w : World) :
  Calls Tryz.prog 60 #[.string t, ev] w fun e w' => e = .returned notUsed ∧ Drawn0 w w' := by
 have CC := aM (fun W => presence_no t ht false hn ev W)
 clear hn
 go_enter Tryz.func60, Tryz.ntmps60
 go_wp2_with fail
 refine (CC.out _).mono ?_
 rintro e w1 ⟨rfl, ⟨nd, rfl⟩⟩
 go_wp2
 go_ret3
 exact ⟨rfl, ⟨⟨nd, rfl⟩⟩⟩
theorem op_no (t : BA) (ht : t.size < 2305843009213693952) (k : Fin 6) (hn : idx t (opAt k).1 < 0) (ev : Value) (w : World) :
  Calls Tryz.prog (opAt k).2 #[.string t, ev] w fun e w' => e = .returned notUsed ∧ Drawn0 w w' := by
 match k, hn with
 | ⟨0, _⟩, hn => exact no0 t ht hn ev w
 | ⟨1, _⟩, hn => exact no1 t ht hn ev w
 | ⟨2, _⟩, hn => exact no2 t ht hn ev w
 | ⟨3, _⟩, hn => exact no3 t ht hn ev w
 | ⟨4, _⟩, hn => exact no4 t ht hn ev w
 | ⟨5, _⟩, hn => exact no5 t ht hn ev w
 | ⟨n + 6, h⟩, _ => exact absurd h (by omega)
theorem op_enters (k : Fin 6) (args : Array Value) (w : World) : (callFunc (opAt k).2 args).run Tryz.prog w = .ok (.enter (opAt k).2 args) w := by
 match k with
 | ⟨0, _⟩ => exact enters_ Tryz.func63 (by kernel_rfl) rfl args w
 | ⟨1, _⟩ => exact enters_ Tryz.func62 (by kernel_rfl) rfl args w
 | ⟨2, _⟩ => exact enters_ Tryz.func59 (by kernel_rfl) rfl args w
 | ⟨3, _⟩ => exact enters_ Tryz.func58 (by kernel_rfl) rfl args w
 | ⟨4, _⟩ => exact enters_ Tryz.func61 (by kernel_rfl) rfl args w
 | ⟨5, _⟩ => exact enters_ Tryz.func60 (by kernel_rfl) rfl args w
 | ⟨n + 6, h⟩ => exact absurd h (by omega)
section
variable {P : Program} {ops : Array Oper} {Q : Exit → Act → World → Prop}
theorem goesVL_ (c : Operand) (cap : Array Value) {rest : List Oper} {oi : Oper} {a : Act} {w : World} (N : Option Tmp) (hd : oi.dst = N) (hg : oi.guard = none) {f : FuncId} {xs : Array Operand} {ts : Array TypeId} (args : Array Value) (he : (callFunc f args).run P w = .ok (.enter f args) w)
  (hop : oi.op = .call { callee := .value c, args := xs, argTypes := ts }) (hv : a.eval c = .func (.func f) #[] cap) (hargs : xs.map a.eval ++ cap = args)
  (h : Calls P f args w fun e w' => ∃ v, e = .returned v ∧ wpList P ops Q rest (a.put N v) w') : wpList P ops Q (oi :: rest) a w := by
 refine wpList_plain hg fun K hK => ?_
 have hrun : (execOp a.eval oi).run P w = .ok (.enter f args) w := by
  unfold execOp
  simp [hop, resolve, Deferred.ofValue, invoke, hv, hargs, he]
 unfold Oper.wp
 rw [hrun, Oper.upon_enter]
 refine h.mono fun e w'' hh => ?_
 obtain ⟨v, rfl, hk⟩ := hh
 subst hd
 exact hK _ _ hk
end
theorem sign_head (k : Fin 6) : ∃ c r, lb (opAt k).1 = c :: r ∧ (c = 58 ∨ c = 63 ∨ c = 45 ∨ c = 43) := by
 match k with
 | ⟨0, _⟩ => exact ⟨_, _, rfl, by decide⟩
 | ⟨1, _⟩ => exact ⟨_, _, rfl, by decide⟩
 | ⟨2, _⟩ => exact ⟨_, _, rfl, by decide⟩
 | ⟨3, _⟩ => exact ⟨_, _, rfl, by decide⟩
 | ⟨4, _⟩ => exact ⟨_, _, rfl, by decide⟩
 | ⟨5, _⟩ => exact ⟨_, _, rfl, by decide⟩
 | ⟨n + 6, h⟩ => exact absurd h (by omega)
theorem isCon_sign {c : UInt8} (h : isCon c.toNat = true) : ¬ (c = 58 ∨ c = 63 ∨ c = 45 ∨ c = 43) := by
 rintro (rfl | rfl | rfl | rfl) <;> exact absurd h (by decide)
theorem idx_none {t s : BA} (h : ∀ i, find (lb s) (lb t) ≠ some i) : idx t s < 0 := by
 unfold idx findI
 cases hf : find (lb s) (lb t) with
 | none => decide
 | some i => exact absurd hf (h i)
theorem no_sign (t : BA) (k : Fin 6) (h : ∀ c, c ∈ lb t → ¬ (c = 58 ∨ c = 63 ∨ c = 45 ∨ c = 43)) : idx t (opAt k).1 < 0 := by
 refine idx_none (fun i hf => ?_)
 obtain ⟨c, r, hc, hcc⟩ := sign_head k
 obtain ⟨h1, h2⟩ := find_some hf
 rw [hc] at h1 h2
 have hl : i < (lb t).length := by rw [List.length_cons] at h1; omega
 rw [List.drop_eq_getElem_cons hl, List.length_cons, List.take_succ_cons] at h2
 injection h2 with h3 _
 exact h _ (List.getElem_mem hl) (h3 ▸ hcc)
theorem name_no_sign (n : Bs) (hn : IsName n) (k : Fin 6) : idx (mk n) (opAt k).1 < 0 := no_sign _ k (fun c hc => isCon_sign (hn.con c (by rwa [lb_mk'] at hc)))
end Go.Proofs.YtkhkmhbledigpaaGreatDoor.Tr
namespace Go.Proofs.YtkhkmhbledigpaaGreatDoor.Tr
open Go.RowKit Go.Proofs.YtkhkmhbledigpaaGreatDoorW.PrintWords Go.Proofs.YtkhkmhbledigpaaGreatDoorW.PrintLast Go.Proofs.YtkhkmhbledigpaaGreatDoor.Str Go.Proofs.YtkhkmhbledigpaaGreatDoor.Kit Go.Proofs.YtkhkmhbledigpaaGreatDoor.MapV Go.Proofs.YtkhkmhbledigpaaGreatDoor.Frame Go.Proofs.YtkhkmhbledigpaaGreatDoor.PS
open Go.Proofs.YtkhkmhbledigpaaGreatDoor.Maps (MapS key_u map_u lookFn lookT)
set_option linter.unusedVariables false
set_option linter.unusedSimpArgs false
theorem ends_close_l (s : BA) (hs : s.size < 4611686018427387904) (p : Nat) (hp : At s p 125) (hno : ∀ j, 3 ≤ j → j < p → ∃ c, At s j c ∧ c ≠ 123 ∧ c ≠ 125) : ∀ (d j : Nat), 3 ≤ j → j + d = p → Ends (fun r => r = (p : Int)) (fun k => template_getFirstBraceClosingIndex.l0 k s 1 (j : Int)) := by
 intro d
 induction d with
 | zero =>
  intro j h3 hj
  obtain rfl : j = p := by omega
  have hlt := hp.lt
  refine Ends.step (fun k => by simp only [template_getFirstBraceClosingIndex.l0]; rfl) ?_
  rw [hp.bt]
  exact Ends.yes (by omega) (Ends.yes (by omega) (Ends.yes (by decide) (Ends.yes (by unfold wrap64; omega) (Ends.now rfl))))
 | succ d ih =>
  intro j h3 hj
  obtain ⟨c, hc, h1, h2⟩ := hno j h3 (by omega)
  have hlt := hc.lt
  have n1 : ¬ ((c.toNat : Int)) = 123 := fun e => h1 (UInt8.toNat_inj.1 (by show c.toNat = 123; omega))
  have n2 : ¬ ((c.toNat : Int)) = 125 := fun e => h2 (UInt8.toNat_inj.1 (by show c.toNat = 125; omega))
  refine Ends.step (fun k => by simp only [template_getFirstBraceClosingIndex.l0]; rfl) ?_
  rw [hc.bt, wrap1 j (by omega)]
  exact Ends.yes (by omega) (Ends.yes (by omega) (Ends.no n2 (Ends.no n1 (ih (j + 1) (by omega) (by omega)))))
theorem ends_close (b : Bs) (hb : b ≠ []) (hno : ∀ c, c ∈ b → c ≠ 123 ∧ c ≠ 125) (hl : b.length < 2305843009213693952) : Ends (fun r => r = ((b.length + 2 : Nat) : Int)) (fun k => template_getFirstBraceClosingIndex.f k (mk ([36, 123] ++ b ++ [125]))) := by
 have hlb : lb (mk ([36, 123] ++ b ++ [125])) = [36, 123] ++ b ++ [125] := lb_mk' _
 have hsz : (mk ([36, 123] ++ b ++ [125])).size = b.length + 3 := by rw [mk_size]; simp
 have hpos := List.length_pos_iff.2 hb
 have h0 : At (mk ([36, 123] ++ b ++ [125])) 0 36 := At.of (p := []) (q := 123 :: (b ++ [125])) (by rw [hlb]; simp) rfl
 have h1 : At (mk ([36, 123] ++ b ++ [125])) 1 123 := At.of (p := [36]) (q := b ++ [125]) (by rw [hlb]; simp) rfl
 have h2 : At (mk ([36, 123] ++ b ++ [125])) (b.length + 2) 125 := At.of (p := [36, 123] ++ b) (q := []) (by rw [hlb]) (by simp)
 unfold template_getFirstBraceClosingIndex.f
 refine Ends.step (fun k => by simp only [template_getFirstBraceClosingIndex.l0]; rfl) ?_
 have hb0 := h0.bt
 have hb1 := h1.bt
 rw [show ((0 : Nat) : Int) = 0 from rfl] at hb0
 rw [show ((1 : Nat) : Int) = 1 from rfl] at hb1
 rw [hb0, show wrap64 ((0 : Int) + 1) = 1 by unfold wrap64; omega]
 refine Ends.yes (by omega) (Ends.yes (by omega) (Ends.no (by decide) (Ends.no (by decide) ?_)))
 refine Ends.step (fun k => by simp only [template_getFirstBraceClosingIndex.l0]; rfl) ?_
 rw [hb1, show wrap64 (wrap64 ((1 : Int) + 1) + 1) = ((3 : Nat) : Int) by unfold wrap64; omega, show wrap64 ((0 : Int) + 1) = 1 by unfold wrap64; omega]
 refine Ends.yes (by omega) (Ends.yes (by omega) (Ends.no (by decide) (Ends.yes (by decide) ?_)))
 refine ends_close_l _ (by omega) (b.length + 2) h2 (fun j h3 hj => ?_) (b.length - 1) 3 (by omega) (by omega)
 have hj2 : j - 2 < b.length := by omega
 refine ⟨b[j - 2], ?_, hno _ (List.getElem_mem hj2)⟩
 unfold At
 rw [hlb, List.append_assoc, List.getElem?_append_right (by simp; omega), List.getElem?_append_left (by simp; omega)]
 simp [hj2]
def valOf (g : List (Bs × BA)) (n : Bs) : BA := (mget g n).getD ⟨#[]⟩
set_option maxHeartbeats 3200000 in
set_option maxRecDepth 100000 in
theorem applied_braced (n : Bs) (hn : IsName n) (hl : n.length ≤ 4294967296) (g : List (Bs × BA)) (w : World) (cb b : Nat) (hE : EnvAt w cb g) (hC : CfgAt w b) :
  Calls Tryz.prog 77 #[.string (mk ([36, 123] ++ n ++ [125])), envF cb, .pointer (some ⟨b, 0, none⟩)] w fun e w' => ∃ u, e = .returned (.tuple #[.string (valOf g n), .bool u, .nilIface]) ∧ Below w.heap.size w w' := by
 have hsz : (mk ([36, 123] ++ n ++ [125])).size = n.length + 3 := by rw [mk_size]; simp
 have hlb : lb (mk ([36, 123] ++ n ++ [125])) = [36, 123] ++ n ++ [125] := lb_mk' _
 have CG := aM (fun W => getSubst (mk ([36, 123] ++ n ++ [125])) (by omega) W)
 obtain ⟨kc, hkc⟩ := (ends_close n hn.ne (fun c hc => ⟨fun e => absurd (hn.con c hc) (by rw [e]; decide), fun e => absurd (hn.con c hc) (by rw [e]; decide)⟩) (by omega)).ev.rounds
 have CB := aM (fun W => template_getFirstBraceClosingIndex.calls kc _ _ W hkc)
 have CF := aM (fun W => FindStringSubmatch (mk ([36, 123] ++ n ++ [125])) [mk ([36, 123] ++ n ++ [125]), E0, E0, mk n, E0, E0] ((n.length + 3 : Nat) : Int) (by omega) (by omega) (by
  have := ends_at_braced (mk ([36, 123] ++ n ++ [125])) (by omega) [] n [] hn (by rw [hlb]; simp)
  simpa using this) W)
 clear hkc
 have hx1 : (mk ([36, 123] ++ n ++ [125])).extract (n.length + 2 + 1) (mk ([36, 123] ++ n ++ [125])).size = E0 := by
  refine lb_inj ?_
  rw [lb_extract, List.drop_eq_nil_of_le]
  ·rfl
  ·rw [List.length_take, lb_length]; omega
 have hx2 : (mk ([36, 123] ++ n ++ [125])).extract 0 (n.length + 2 + 1) = mk ([36, 123] ++ n ++ [125]) := by
  refine lb_inj ?_
  rw [lb_extract, List.take_of_length_le (by rw [lb_length]; omega), List.drop_zero]
 generalize mk ([36, 123] ++ n ++ [125]) = m at hsz CG CB CF hx1 hx2 ⊢
 obtain ⟨c, hcn⟩ : ∃ c, n.length + 2 = c := ⟨_, rfl⟩
 rw [hcn] at CB hx1 hx2
 have HSZ := aM (show c + 1 = m.size ∧ c ≤ 4294967298 by omega)
 clear hlb hsz hcn
 have hpa := part_cfg hC
 have hb1 := below_alloc (Below.refl w.heap.size w) (.cells #[] 71)
 have hsf : (w.alloc (.cells #[] 71)).cell? ⟨b, 0, none⟩ = some .nilFunc := pw_cell_below hb1 (cb_cell (i := 0) hC rfl)
 have HB1 := aM hb1
 have HE := aM hE
 have HC := aM hC
 clear hE hC hb1
 have hbf : ∀ w : World, (binOp BinOp.eql 88 .nilFunc .nilFunc).run Tryz.prog w = .ok (.bool true) w := fun _ => by kernel_rfl
 go_enter Tryz.func77, Tryz.ntmps77
 go_wp2_with fail
 refine (CG.out _).mono ?_
 rintro e w1 ⟨k, rfl, hmin, hb⟩
 have HB2 := aM (hb_then HB1.out hb)
 clear hb hmin CG HB1 hpa hsf
 go_wp2_with fail
 refine (CB.out _).mono ?_
 rintro e w2 ⟨rfl, ⟨nd, rfl⟩⟩
 have HB3 := aM (hb_then HB2.out (Drawn0.below (⟨⟨nd, rfl⟩⟩ : Drawn0 w1 (w1.drewN nd))))
 clear HB2 CB
 have q1 : (-1 : Int) < (c : Int) := by omega
 have q2 : (0 : Int) ≤ (c : Int) + 1 := by omega
 have q3 : (c : Int) + 1 ≤ (m.size : Int) := by have := HSZ.out; omega
 have q4 : ((c : Int) + 1).toNat = c + 1 := by omega
 have q5 : decide ((-1 : Int) < (c : Int)) = true := decide_eq_true q1
 have hcl : c ≤ 4294967298 := HSZ.out.2
 go_wp2_with fail
 refine (CF.out _).mono ?_
 rintro e w3 ⟨A, cc, rfl, hC3, hb⟩
 have HB4 := aM (hb_then HB3.out hb)
 have CM := aM (matchGroups [m, E0, E0, mk n, E0, E0] rfl A cc w3 hC3)
 have HGET := aM (gr_get [m, E0, E0, mk n, E0, E0] rfl)
 clear hb CF hC3 HB3 q1 q2 q3 q4 q5 hcl
 go_wp2_with fail
 refine CM.out.mono ?_
 rintro e w4 ⟨mb, rfl, hM, hb⟩
 have HB5 := aM (hb_then HB4.out hb)
 have hl1 := run_look_mapE key_u Tryz.underlying72 (Tryz.zeroValue9 w4) hM (s := nEsc) (by unfold maxLen; decide)
 have hl2 := run_look_mapE key_u Tryz.underlying72 (Tryz.zeroValue9 w4) hM (s := nNamed) (by unfold maxLen; decide)
 have hl3 := run_look_mapE key_u Tryz.underlying72 (Tryz.zeroValue9 w4) hM (s := nBraced) (by unfold maxLen; decide)
 rw [HGET.out.1] at hl1
 rw [HGET.out.2.1] at hl2
 rw [HGET.out.2.2] at hl3
 obtain ⟨x, hx⟩ : ∃ x, mk n = x := ⟨_, rfl⟩
 have hk1 : (Instr.lookup 72 (.map (some mb)) (.string ⟨#[101, 115, 99, 97, 112, 101, 100]⟩) false).run Tryz.prog w4 = .ok (.string ⟨#[]⟩) w4 := hl1
 have hk2 : (Instr.lookup 72 (.map (some mb)) (.string ⟨#[110, 97, 109, 101, 100]⟩) false).run Tryz.prog w4 = .ok (.string ⟨#[]⟩) w4 := hl2
 have hk3 : (Instr.lookup 72 (.map (some mb)) (.string ⟨#[98, 114, 97, 99, 101, 100]⟩) false).run Tryz.prog w4 = .ok (.string x) w4 := by rw [← hx]; exact hl3
 have hxl : lb x = n := by rw [← hx]; exact lb_mk' n
 have hxs : x.size ≤ 4294967296 := by rw [← lb_length, hxl]; exact hl
 have HNO := aM (fun W => op_no x (by omega) k (by rw [← hx]; exact name_no_sign n hn k) (envF cb) W)
 have hx0 : ¬ x.toList = [] := by rw [toList_lb, hxl]; exact hn.ne
 have hq1 : (x.toList == []) = false := beq_eq_false_iff_ne.2 hx0
 have HX := aM (And.intro hxl hxs)
 clear hb CM hM hl1 hl2 hl3 HGET HB4 hx hxl hxs hx0
 go_wp2_with (refine goesVL_ (.tmp 76) #[] (some 79) rfl rfl #[.string x, envF cb] (op_enters k _ _) rfl rfl (by simp only [List.map_toArray, List.map_cons, List.map_nil, Array.append_empty]; rfl) ?_; refine (HNO.out _).mono ?_; rintro e w5 ⟨rfl, ⟨nd2, rfl⟩⟩; refine ⟨_, rfl, ?_⟩)
 have hbd := hb_then HB5.out (Drawn0.below (⟨⟨nd2, rfl⟩⟩ : Drawn0 w4 (w4.drewN nd2)))
 have HB6 := aM hbd
 obtain ⟨mb2, hE1, hE2⟩ := HE.out.below hbd
 have CL := aM (lookFn x (w4.drewN nd2) hE1 hE2 (by have := HX.out.2; unfold maxLen; omega))
 clear hbd HE HNO hE1 hE2 hk1 hk2 hk3 HB5
 refine CL.out.mono ?_
 rintro e w6 ⟨rfl, rfl⟩
 unfold lookT
 rw [HX.out.1]
 go_wp2
 go_ret3
 exact ⟨_, rfl, HB6.out⟩
set_option maxHeartbeats 1600000 in
set_option maxRecDepth 100000 in
theorem repl_of_applied (m r : BA) (g : List (Bs × BA)) (h : ∀ (w : World) (cb b : Nat), EnvAt w cb g → CfgAt w b →
  Calls Tryz.prog 77 #[.string m, envF cb, .pointer (some ⟨b, 0, none⟩)] w fun e w' => ∃ u, e = .returned (.tuple #[.string r, .bool u, .nilIface]) ∧ Below w.heap.size w w') (w : World) (cb b : Nat) (hE : EnvAt w cb g) (hC : CfgAt w b) :
  Calls Tryz.prog 66 #[.string m, envF cb, .pointer (some ⟨b, 0, none⟩)] w fun e w' => e = .returned (.tuple #[.string r, .nilIface]) ∧ Below w.heap.size w w' := by
 have CA := aM (h w cb b hE hC)
 clear h hE hC
 go_enter Tryz.func66, Tryz.ntmps66
 go_wp2_with fail
 refine CA.out.mono ?_
 rintro e w1 ⟨u, rfl, hb⟩
 have HB1 := aM hb
 clear hb CA
 go_wp2
 go_ret2
 exact ⟨rfl, HB1.out⟩
def Braced (g : List (Bs × BA)) (m r : BA) : Prop := ∃ n : Bs, IsName n ∧ n.length ≤ 4294967296 ∧ m = mk ([36, 123] ++ n ++ [125]) ∧ r = valOf g n
theorem repl_braced (g : List (Bs × BA)) : Repl (Braced g) g := by
 rintro m r ⟨n, hn, hl, rfl, rfl⟩ w cb b hE hC
 exact repl_of_applied _ _ g (fun w cb b h1 h2 => applied_braced n hn hl g w cb b h1 h2) w cb b hE hC
end Go.Proofs.YtkhkmhbledigpaaGreatDoor.Tr
namespace Go.Proofs.YtkhkmhbledigpaaGreatDoor.Tr
open Go.RowKit Go.Proofs.YtkhkmhbledigpaaGreatDoorW.PrintWords Go.Proofs.YtkhkmhbledigpaaGreatDoorW.PrintLast Go.Proofs.YtkhkmhbledigpaaGreatDoor.Str Go.Proofs.YtkhkmhbledigpaaGreatDoor.Kit Go.Proofs.YtkhkmhbledigpaaGreatDoor.MapV Go.Proofs.YtkhkmhbledigpaaGreatDoor.Frame Go.Proofs.YtkhkmhbledigpaaGreatDoor.PS
open Go.Proofs.YtkhkmhbledigpaaGreatDoor.Maps (MapS key_u map_u lookFn lookT kp toP Ok encP ofP)
set_option linter.unusedVariables false
set_option linter.unusedSimpArgs false
theorem rw_plain {P : BA → BA → Prop} (s : BA) (hs : s.size < 4611686018427387904) : ∀ (m p q : Bs) (out : Bs), 36 ∉ m → lb s = p ++ m ++ q → Rw P s (p.length + m.length) out → Rw P s p.length (m ++ out)
 | [], p, q, out, _, _, h => by simpa using h
 | c :: m, p, q, out, hm, hl, h => by
  have h1 : At s p.length c := At.of (p := p) (q := m ++ q) (by rw [hl]; simp) rfl
  have hc : c ≠ 36 := fun e => hm (by rw [e]; exact List.mem_cons_self)
  have ih := rw_plain s hs m (p ++ [c]) q out (fun hh => hm (List.mem_cons_of_mem _ hh)) (by rw [hl]; simp) (by
   rw [show (p ++ [c]).length + m.length = p.length + (c :: m).length by simp; omega]
   exact h)
  refine .byte p.length c (m ++ out) h1 (ends_at_none s hs p.length c h1 hc) ?_
  rw [show p.length + 1 = (p ++ [c]).length by simp]
  exact ih
theorem rw_braced {g : List (Bs × BA)} (s : BA) (hs : s.size < 4611686018427387904) (p n q out : Bs) (hn : IsName n) (hl : n.length ≤ 4294967296) (h : lb s = p ++ ([36, 123] ++ n ++ [125]) ++ q) (k : Rw (Braced g) s (p.length + (n.length + 3)) out) :
  Rw (Braced g) s p.length (lb (valOf g n) ++ out) := by
 have hsz : s.size = p.length + (n.length + 3) + q.length := by rw [← lb_length, h]; simp; omega
 exact .hit p.length (p.length + (n.length + 3)) (mk ([36, 123] ++ n ++ [125])) (valOf g n) [E0, E0, mk n, E0, E0] out (by omega) (by omega) (by omega) (ends_at_braced s hs p n q hn h) ⟨n, hn, hl, rfl, rfl⟩ k
theorem rw_stop {P : BA → BA → Prop} (s : BA) (i : Nat) (h : s.size = i) : Rw P s i [] := .done i (by omega)
set_option maxHeartbeats 1600000 in
set_option maxRecDepth 100000 in
theorem implSubst {P : BA → BA → Prop} {g : List (Bs × BA)} (hP : Repl P g) (s : BA) (out : Bs) (hs : s.size < 140737488355328) (ho : out.length ≤ 140737488355328) (hrw : Rw P s 0 out) {N : Nat} (hg : Ok N g) (hN : N ≤ 17179869184) (A : Option Addr) (c : Nat) (w : World) (h : kp.C w A (toP g).length (toP g)) :
  Calls Tryz.prog 15 #[.string s, .slice A (toP g).length c] w fun e w' => e = .returned (.tuple #[.string ⟨out.toArray⟩, .int .i64 0]) ∧ Below w.heap.size w w' := by
 have CL := aM (Go.Proofs.YtkhkmhbledigpaaGreatDoor.Maps.look (c := c) hg hN w h)
 have CS := aM (fun W cb (hE : EnvAt W cb g) => Substitute hP s out hs ho hrw W cb hE)
 clear hP hrw hg h
 go_enter Tryz.func15, Tryz.ntmps15
 go_wp2_with fail
 refine CL.out.mono ?_
 rintro e w1 ⟨cb, mb, rfl, h1, h2, _, hb⟩
 have HB1 := aM hb
 have CS1 := aM (CS.out w1 cb ⟨mb, h1, h2⟩)
 clear hb CL CS h1 h2
 go_wp2_with fail
 refine CS1.out.mono ?_
 rintro e w2 ⟨rfl, hb⟩
 have HB2 := aM (hb_then HB1.out hb)
 clear hb CS1
 go_wp2
 go_ret2
 exact ⟨rfl, HB2.out⟩
theorem one_lit (w : World) (e : TypeId) (p q : BA) : kp.C (w.alloc (.cells #[.string p, .string q] e)) (some ⟨w.heap.size, 0, none⟩) 1 [(p, q)] := by
 obtain ⟨A, c, e1, _, hC⟩ := Kd.R_reads (Go.Proofs.YtkhkmhbledigpaaGreatDoor.Maps.own_one w w.heap.size e (Nat.le_refl _) (fun _ => True) trivial p q)
 injection e1 with e1
 subst e1
 exact hC
def nA : Bs := [65]
theorem nA_name : IsName nA := ⟨by decide, by intro c hc; simp [nA] at hc; rw [← hc]; decide, by intro c hc; simp [nA] at hc; rw [hc]; decide⟩
def livesG : List (Bs × BA) := [(nA, ⟨#[98]⟩)]
theorem livesOk : Ok 1 livesG := ⟨by unfold livesG Rises; simp, by intro p hp; simp [livesG] at hp; rw [hp]; decide, by decide⟩
theorem lives_rw : Rw (Braced livesG) (⟨#[97, 36, 123, 65, 125]⟩ : BA) 0 [97, 98] := by
 have h := rw_braced (g := livesG) (⟨#[97, 36, 123, 65, 125]⟩ : BA) (by decide) [97] nA [] [] nA_name (by decide) rfl (rw_stop _ _ rfl)
 exact rw_plain (P := Braced livesG) (⟨#[97, 36, 123, 65, 125]⟩ : BA) (by decide) [97] [] [36, 123, 65, 125] [98] (by decide) rfl h
set_option maxHeartbeats 1600000 in
set_option maxRecDepth 100000 in
theorem substLives (w : World) : Calls Tryz.prog 14 #[] w fun e w' => e = .returned (.bool true) ∧ Below w.heap.size w w' := by
 have CS := aM (fun W A c (h : kp.C W A (toP livesG).length (toP livesG)) => implSubst (repl_braced livesG) (⟨#[97, 36, 123, 65, 125]⟩ : BA) [97, 98] (by decide) (by decide) lives_rw livesOk (by decide) A c W h)
 have HB1 := aM (below_alloc (Below.refl w.heap.size w) (.cells #[.string ⟨#[65]⟩, .string ⟨#[98]⟩] 43))
 have hC : kp.C (w.alloc (.cells #[.string ⟨#[65]⟩, .string ⟨#[98]⟩] 43)) (some ⟨w.heap.size, 0, none⟩) 1 (toP livesG) := one_lit w _ _ _
 have CS1 := aM (CS.out _ _ 1 hC)
 clear CS hC
 go_enter Tryz.func14, Tryz.ntmps14
 go_wp2_with fail
 refine CS1.out.mono ?_
 rintro e w1 ⟨rfl, hb⟩
 have HB2 := aM (hb_then HB1.out hb)
 clear hb CS1
 go_wp2
 go_ret
 exact ⟨rfl, HB2.out⟩
end Go.Proofs.YtkhkmhbledigpaaGreatDoor.Tr
namespace Go.Proofs.YtkhkmhbledigpaaGreatDoor.PS
open Go.RowKit Go.Proofs.YtkhkmhbledigpaaGreatDoorW.PrintWords Go.Proofs.YtkhkmhbledigpaaGreatDoorW.PrintLast Go.Proofs.YtkhkmhbledigpaaGreatDoorW.PrintMore
attribute [local go_sem] max2_int min2_int max_two min_two max_three min_three max_four min_four 
set_option linter.unusedVariables false
set_option linter.unusedSimpArgs false
def laws_substBare.l0 : Nat → ByteArray → List Int → Int → Option (ByteArray)
 | 0, _, _, _ => none
 | k + 1, x0, x3, x4 => if x4 < (x0.size : Int) then (if 0 ≤ x4 then (if (bt x0 x4) = 36 then (laws_substBare.l0 k x0 x3 (wrap64 (x4 + 1))) else (if x3.length < 140737488355328 then (laws_substBare.l0 k x0 (x3 ++ [bt x0 x4]) (wrap64 (x4 + 1))) else (none))) else (none)) else (some (strOfNums x3))
def laws_substBare.f (k : Nat) (a0 : ByteArray) : Option (ByteArray) := laws_substBare.l0 k a0 ([] : List Int) 0
set_option maxHeartbeats 8000000 in
set_option maxRecDepth 100000 in
theorem laws_substBare.calls (k : Nat) (a0 : ByteArray) (r : ByteArray) (w : World) (h : laws_substBare.f k a0 = some r) :
  Calls Tryz.prog 20 #[.string a0] w fun e w' => e = .returned (.string r) ∧ Below w.heap.size w w' := by
 have HB := aM (Below.refl w.heap.size w)
 have H : (laws_substBare.l0 k a0 ([] : List Int) 0) = some r := h
 clear h
 have H' := aM H
 clear H
 go_enter Tryz.func20, Tryz.ntmps20
 go_wp2
 go_loopg [3, 4] k (fun kq v3 v4 w' => ∃ (x3_1 : List Int) (x4_1 : Int), v4 = .int .i64 x4_1 ∧ Aside0 (laws_substBare.l0 kq a0 x3_1 x4_1 = some r) ∧ Aside0 (kq ≤ k) ∧ Aside0 (Kd.R (Kd.int .u8) 5 w' w.heap.size (fun _ => True) v3 x3_1) ∧ Aside0 (Below w.heap.size w w'))
 case atStart => exact ⟨(([] : List Int)), (0), (by first | rfl | (simp; done) | (simp [*]; done)), H', ⟨Nat.le_refl _⟩, ⟨by first | exact Kd.R_nil _ _ _ _ _ | exact Kd.N_nil _ _ _ _ _ | exact Kd.V_nil _ _ _ _ _ | exact Kd.Q_nil _ _ _ _ _ | exact Kd.S_nil _ _ _ _ _⟩, ⟨by repeat (first | (with_reducible first | exact HB.out | apply below_alloc | apply pw_below_drewN | apply below_drew1) | exact HB.out)⟩⟩
 case round =>
  clear H'
  obtain ⟨x3_1, x4_1, rfl, HA, HK1, HO_3, HB⟩ := hrel
  cases gk with
  | zero => exact absurd HA.out (by simp [laws_substBare.l0])
  | succ k1 =>
   have H := HA.out
   clear HA
   simp only [laws_substBare.l0] at H
   by_cases c2 : x4_1 < (a0.size : Int)
   ·rw [if_pos c2] at H
    have c2b0 : decide (x4_1 < (a0.size : Int)) = true := decide_eq_true c2
    clear c2
    by_cases c3 : 0 ≤ x4_1
    ·rw [if_pos c3] at H
     have c3b0 : decide (0 ≤ x4_1) = true := decide_eq_true c3
     clear c3
     by_cases c5 : (bt a0 x4_1) = 36
     ·rw [if_pos c5] at H
      have c5b0 : ((bt a0 x4_1) == 36) = true := beq_iff_eq.mpr c5
      have c5b1 : ((bt a0 x4_1) != 36) = false := bne_eq_false_iff_eq.mpr c5
      clear c5
      have H' := aM H
      clear H
      have p4 : 0 ≤ (x4_1 : Int) := of_decide_eq_true (by first | (with_reducible assumption) | assumption)
      have q4 : x4_1 < (a0.size : Int) := of_decide_eq_true (by first | (with_reducible assumption) | assumption)
      have hx4 := bt_at a0 x4_1
      replace p4 := eq_true p4
      replace q4 := eq_true q4
      go_wp2
      go_roundg k1
      case measure => have := HK1.out; omega
      case rel => exact ⟨(x3_1), (wrap64 (x4_1 + 1)), (by first | rfl | (simp; done) | (simp [*]; done)), H', ⟨by have := HK1.out; omega⟩, ⟨by (with_reducible repeat (first | apply Kd.R_alloc | apply Kd.R_drewN | apply Kd.R_drew)); exact HO_3.out⟩, ⟨by repeat (first | (with_reducible first | exact HB.out | apply below_alloc | apply pw_below_drewN | apply below_drew1) | exact HB.out)⟩⟩
     ·rw [if_neg c5] at H
      have c5b0 : ((bt a0 x4_1) == 36) = false := beq_eq_false_iff_ne.mpr c5
      have c5b1 : ((bt a0 x4_1) != 36) = true := bne_iff_ne.mpr c5
      by_cases c7 : x3_1.length < 140737488355328
      ·rw [if_pos c7] at H
       have LMc7 := aM c7
       clear c7
       obtain ⟨y154, hy154⟩ : ∃ y_ : List Int, y_ = (x3_1 ++ [bt a0 x4_1]) := ⟨_, rfl⟩
       replace H : (laws_substBare.l0 k1 a0 y154 (wrap64 (x4_1 + 1))) = some r := by first | (rw [hy154]; with_reducible exact H) | (have H2_ := (Option.bind_some _ _).symm.trans H; rw [hy154]; with_reducible exact H2_) | (have H2_ := (Option.bind_some _ _).symm.trans H; with_reducible exact H2_) | with_reducible exact H | (rw [hy154]; exact H) | exact H
       have Ny154 := aM hy154
       clear hy154
       have H' := aM H
       clear H
       have p4 : 0 ≤ (x4_1 : Int) := of_decide_eq_true (by first | (with_reducible assumption) | assumption)
       have q4 : x4_1 < (a0.size : Int) := of_decide_eq_true (by first | (with_reducible assumption) | assumption)
       have hx4 := bt_at a0 x4_1
       replace p4 := eq_true p4
       replace q4 := eq_true q4
       have p6 : 0 ≤ (x4_1 : Int) := of_decide_eq_true (by first | (with_reducible assumption) | assumption)
       have q6 : x4_1 < (a0.size : Int) := of_decide_eq_true (by first | (with_reducible assumption) | assumption)
       have hx6 := bt_at a0 x4_1
       replace p6 := eq_true p6
       replace q6 := eq_true q6
       go_wp2_with (first | ((with_reducible refine gate_builtin (b := .append) (xs := #[.tmp 15, .tmp 19]) rfl ?_); at_builtin; refine Kd.R_append (Kd.int .u8) (w0 := w) w.heap.size rfl (.tmp 15) (.tmp 19) 50 5 (.int .u8 0) 1 rfl Tryz.underlying50 info5 rfl (by decide) (by omega) u3 x3_1 (bt a0 x4_1) [.int .u8 (bt a0 x4_1)] (fun _ => True) (fun _ => False) rfl rfl ?aP (fun _ hk => hk.elim) ?aF ?aO ?aB ?aS ?aL ?_; (case aP => exact rfl); (case aB => exact (by repeat (first | (with_reducible first | exact HB.out | apply below_alloc | apply pw_below_drewN | apply below_drew1) | exact HB.out))); (case aF => exact (fun _ _ => trivial)); (case aO => exact (by (with_reducible repeat (first | apply Kd.R_alloc | apply Kd.R_drewN | apply Kd.R_drew)); exact HO_3.out)); (case aS => exact (below_size (by repeat (first | (with_reducible first | exact HB.out | apply below_alloc | apply pw_below_drewN | apply below_drew1) | exact HB.out)))); (case aL => have := LMc7.out; omega); intro v155 w8 ho hb hg hat; rw [← Ny154.out] at ho; have n0_ := aM (hb); have n1_ := aM (ho); clear HB; clear HO_3; have HB := n0_; have HO156 := n1_; clear n0_ n1_; clear ho hb hg hat))
       go_roundg k1
       case measure => have := HK1.out; omega
       case rel => exact ⟨(y154), (wrap64 (x4_1 + 1)), (by first | rfl | (simp; done) | (simp [*]; done)), H', ⟨by have := HK1.out; omega⟩, ⟨by (with_reducible repeat (first | apply Kd.R_alloc | apply Kd.R_drewN | apply Kd.R_drew)); exact HO156.out⟩, ⟨by repeat (first | (with_reducible first | exact HB.out | apply below_alloc | apply pw_below_drewN | apply below_drew1) | exact HB.out)⟩⟩
      ·rw [if_neg c7] at H
       exact absurd H (by simp)
    ·rw [if_neg c3] at H
     exact absurd H (by simp)
   ·rw [if_neg c2] at H
    have c2b0 : decide (x4_1 < (a0.size : Int)) = false := decide_eq_false c2
    clear c2
    obtain rfl := Option.some.inj H
    have hcv9 := own_string (P := Tryz.prog) Tryz.underlying50 Tryz.underlying5 Tryz.underlying9 (Kd.own_of_R HO_3.out)
    go_wp2
    go_ret
    exact ⟨by first | rfl | (simp [errW_none, errW_some] <;> rfl) | (simp [*, errW_none, errW_some] <;> rfl), by repeat (first | (with_reducible first | exact HB.out | apply below_alloc | apply pw_below_drewN | apply below_drew1) | exact HB.out)⟩
end Go.Proofs.YtkhkmhbledigpaaGreatDoor.PS
namespace Go.Proofs.YtkhkmhbledigpaaGreatDoor.PS
open Go.RowKit Go.Proofs.YtkhkmhbledigpaaGreatDoorW.PrintWords Go.Proofs.YtkhkmhbledigpaaGreatDoorW.PrintLast Go.Proofs.YtkhkmhbledigpaaGreatDoorW.PrintMore
attribute [local go_sem] max2_int min2_int max_two min_two max_three min_three max_four min_four 
set_option linter.unusedVariables false
set_option linter.unusedSimpArgs false
end Go.Proofs.YtkhkmhbledigpaaGreatDoor.PS
namespace Go.Proofs.YtkhkmhbledigpaaGreatDoor.PS
open Go.RowKit Go.Proofs.YtkhkmhbledigpaaGreatDoorW.PrintWords Go.Proofs.YtkhkmhbledigpaaGreatDoorW.PrintLast Go.Proofs.YtkhkmhbledigpaaGreatDoorW.PrintMore
attribute [local go_sem] max2_int min2_int max_two min_two max_three min_three max_four min_four 
set_option linter.unusedVariables false
set_option linter.unusedSimpArgs false
def spec_substLetter.f (a0 : Int) : Option (Bool) := if a0 = 95 then (some true) else (if a0 ≥ 97 then (if a0 ≤ 122 then (some true) else (if a0 ≥ 65 then (some (decide (a0 ≤ 90))) else (some false))) else (if a0 ≥ 65 then (some (decide (a0 ≤ 90))) else (some false)))
set_option maxHeartbeats 8000000 in
set_option maxRecDepth 100000 in
theorem spec_substLetter.calls (a0 : Int) (r : Bool) (w : World) (h : spec_substLetter.f a0 = some r) :
  Calls Tryz.prog 25 #[.int .u8 a0] w fun e w' => e = .returned (.bool r) ∧ Drawn0 w w' := by
 have H : (if a0 = 95 then (some true) else (if a0 ≥ 97 then (if a0 ≤ 122 then (some true) else (if a0 ≥ 65 then (some (decide (a0 ≤ 90))) else (some false))) else (if a0 ≥ 65 then (some (decide (a0 ≤ 90))) else (some false)))) = some r := h
 clear h
 by_cases c2 : a0 = 95
 ·rw [if_pos c2] at H
  have c2b0 : (a0 == 95) = true := beq_iff_eq.mpr c2
  have c2b1 : (a0 != 95) = false := bne_eq_false_iff_eq.mpr c2
  clear c2
  obtain rfl := Option.some.inj H
  go_enter Tryz.func25, Tryz.ntmps25
  go_wp2
  go_ret
  exact ⟨by first | rfl | (simp; done) | (simp [*]; done), by repeat (first | exact Drawn0.refl _ | apply Drawn0.step)⟩
 ·rw [if_neg c2] at H
  have c2b0 : (a0 == 95) = false := beq_eq_false_iff_ne.mpr c2
  have c2b1 : (a0 != 95) = true := bne_iff_ne.mpr c2
  by_cases c3 : a0 ≥ 97
  ·rw [if_pos c3] at H
   have c3b0 : decide (97 ≤ a0) = true := decide_eq_true c3
   clear c3
   by_cases c4 : a0 ≤ 122
   ·rw [if_pos c4] at H
    have c4b0 : decide (a0 ≤ 122) = true := decide_eq_true c4
    clear c4
    obtain rfl := Option.some.inj H
    go_enter Tryz.func25, Tryz.ntmps25
    go_wp2
    go_ret
    exact ⟨by first | rfl | (simp; done) | (simp [*]; done), by repeat (first | exact Drawn0.refl _ | apply Drawn0.step)⟩
   ·rw [if_neg c4] at H
    have c4b0 : decide (a0 ≤ 122) = false := decide_eq_false c4
    clear c4
    by_cases c5 : a0 ≥ 65
    ·rw [if_pos c5] at H
     have c5b0 : decide (65 ≤ a0) = true := decide_eq_true c5
     clear c5
     obtain rfl := Option.some.inj H
     go_enter Tryz.func25, Tryz.ntmps25
     go_wp2
     go_ret
     exact ⟨by first | rfl | (simp; done) | (simp [*]; done), by repeat (first | exact Drawn0.refl _ | apply Drawn0.step)⟩
    ·rw [if_neg c5] at H
     have c5b0 : decide (65 ≤ a0) = false := decide_eq_false c5
     clear c5
     obtain rfl := Option.some.inj H
     go_enter Tryz.func25, Tryz.ntmps25
     go_wp2
     go_ret
     exact ⟨by first | rfl | (simp; done) | (simp [*]; done), by repeat (first | exact Drawn0.refl _ | apply Drawn0.step)⟩
  ·rw [if_neg c3] at H
   have c3b0 : decide (97 ≤ a0) = false := decide_eq_false c3
   clear c3
   by_cases c6 : a0 ≥ 65
   ·rw [if_pos c6] at H
    have c6b0 : decide (65 ≤ a0) = true := decide_eq_true c6
    clear c6
    obtain rfl := Option.some.inj H
    go_enter Tryz.func25, Tryz.ntmps25
    go_wp2
    go_ret
    exact ⟨by first | rfl | (simp; done) | (simp [*]; done), by repeat (first | exact Drawn0.refl _ | apply Drawn0.step)⟩
   ·rw [if_neg c6] at H
    have c6b0 : decide (65 ≤ a0) = false := decide_eq_false c6
    clear c6
    obtain rfl := Option.some.inj H
    go_enter Tryz.func25, Tryz.ntmps25
    go_wp2
    go_ret
    exact ⟨by first | rfl | (simp; done) | (simp [*]; done), by repeat (first | exact Drawn0.refl _ | apply Drawn0.step)⟩
end Go.Proofs.YtkhkmhbledigpaaGreatDoor.PS
namespace Go.Proofs.YtkhkmhbledigpaaGreatDoor.PS
open Go.RowKit Go.Proofs.YtkhkmhbledigpaaGreatDoorW.PrintWords Go.Proofs.YtkhkmhbledigpaaGreatDoorW.PrintLast Go.Proofs.YtkhkmhbledigpaaGreatDoorW.PrintMore
attribute [local go_sem] max2_int min2_int max_two min_two max_three min_three max_four min_four 
set_option linter.unusedVariables false
set_option linter.unusedSimpArgs false
def laws_zzFits2.l0 : Nat → List ByteArray → Int → Int → Option (Bool)
 | 0, _, _, _ => none
 | k + 1, x8, x9, x10 => if x10 < x9 then (if 0 ≤ x10 then (if x10 < (x8.length : Int) then (if ((rdOf ByteArray.empty x8 x10).size : Int) > 2147483647 then (some false) else (laws_zzFits2.l0 k x8 x9 (wrap64 (x10 + 1)))) else (none)) else (none)) else (some true)
def laws_zzFits2.f (k : Nat) (l0 : List ByteArray) : Option (Bool) := if (l0.length : Int) > 2147483647 then (some false) else (laws_zzFits2.l0 k l0 (l0.length : Int) 0)
set_option maxHeartbeats 8000000 in
set_option maxRecDepth 100000 in
theorem laws_zzFits2.calls (k : Nat) (A0 : Option Addr) (c0 : Nat) (l0 : List ByteArray) (r : Bool) (w : World) (hr0 : Kd.C Kd.string w A0 l0.length l0) (hc0 : l0.length ≤ c0) (h : laws_zzFits2.f k l0 = some r) :
  Calls Tryz.prog 19 #[.slice A0 l0.length c0] w fun e w' => e = .returned (.bool r) ∧ Drawn0 w w' := by
 have HR0 := aM hr0
 have HC0 := aM hc0
 clear hr0 hc0
 have H : (if (l0.length : Int) > 2147483647 then (some false) else (laws_zzFits2.l0 k l0 (l0.length : Int) 0)) = some r := h
 clear h
 by_cases c2 : (l0.length : Int) > 2147483647
 ·rw [if_pos c2] at H
  have c2b0 : decide (2147483647 < (l0.length : Int)) = true := decide_eq_true c2
  have c2b1 : decide (2147483647 < l0.length) = true := decide_eq_true (by omega)
  clear c2
  obtain rfl := Option.some.inj H
  go_enter Tryz.func19, Tryz.ntmps19
  go_wp2
  go_ret
  exact ⟨by first | rfl | (simp; done) | (simp [*]; done), by repeat (first | exact Drawn0.refl _ | apply Drawn0.step)⟩
 ·rw [if_neg c2] at H
  have c2b0 : decide (2147483647 < (l0.length : Int)) = false := decide_eq_false c2
  have c2b1 : decide (2147483647 < l0.length) = false := decide_eq_false (by omega)
  clear c2
  have H' := aM H
  clear H
  go_enter Tryz.func19, Tryz.ntmps19
  go_wp2
  go_loopg [10] k (fun kq v10 w' => ∃ (x10_1 : Int), v10 = .int .i64 x10_1 ∧ Aside0 (laws_zzFits2.l0 kq l0 (l0.length : Int) x10_1 = some r) ∧ Aside0 (kq ≤ k) ∧ Drawn0 w w')
  case atStart => exact ⟨(0), (by first | rfl | (simp; done) | (simp [*]; done)), H', ⟨Nat.le_refl _⟩, by repeat (first | exact Drawn0.refl _ | apply Drawn0.step)⟩
  case round =>
   clear H'
   try clear c1
   try clear c2
   try clear c2b0
   try clear c2b1
   try clear p2
   obtain ⟨x10_1, rfl, HA, HK1, ⟨m1, rfl⟩⟩ := hrel
   cases gk with
   | zero => exact absurd HA.out (by simp [laws_zzFits2.l0])
   | succ k1 =>
    have H := HA.out
    clear HA
    simp only [laws_zzFits2.l0] at H
    by_cases c3 : x10_1 < (l0.length : Int)
    ·rw [if_pos c3] at H
     have c3b0 : decide (x10_1 < (l0.length : Int)) = true := decide_eq_true c3
     clear c3
     by_cases c4 : 0 ≤ x10_1
     ·rw [if_pos c4] at H
      have c4b0 : decide (0 ≤ x10_1) = true := decide_eq_true c4
      clear c4
      by_cases c5 : x10_1 < (l0.length : Int)
      ·rw [if_pos c5] at H
       have c5b0 : decide (x10_1 < (l0.length : Int)) = true := decide_eq_true c5
       clear c5
       by_cases c6 : ((rdOf ByteArray.empty l0 x10_1).size : Int) > 2147483647
       ·rw [if_pos c6] at H
        have c6b0 : decide (2147483647 < ((rdOf ByteArray.empty l0 x10_1).size : Int)) = true := decide_eq_true c6
        have c6b1 : decide (2147483647 < (rdOf ByteArray.empty l0 x10_1).size) = true := decide_eq_true (by omega)
        clear c6
        obtain rfl := Option.some.inj H
        have p161 : 0 ≤ (x10_1 : Int) := of_decide_eq_true (by first | (with_reducible assumption) | assumption)
        have q161 : x10_1 < (l0.length : Int) := of_decide_eq_true (by first | (with_reducible assumption) | assumption)
        obtain ⟨ad161, e161, hx161_0⟩ := Kd.at_string HR0.out x10_1 p161 q161
        cases e161
        replace p161 := eq_true p161
        replace q161 := eq_true q161
        go_wp2
        go_ret
        exact ⟨by first | rfl | (simp; done) | (simp [*]; done), by repeat (first | exact Drawn0.refl _ | apply Drawn0.step)⟩
       ·rw [if_neg c6] at H
        have c6b0 : decide (2147483647 < ((rdOf ByteArray.empty l0 x10_1).size : Int)) = false := decide_eq_false c6
        have c6b1 : decide (2147483647 < (rdOf ByteArray.empty l0 x10_1).size) = false := decide_eq_false (by omega)
        clear c6
        have H' := aM H
        clear H
        have p161 : 0 ≤ (x10_1 : Int) := of_decide_eq_true (by first | (with_reducible assumption) | assumption)
        have q161 : x10_1 < (l0.length : Int) := of_decide_eq_true (by first | (with_reducible assumption) | assumption)
        obtain ⟨ad161, e161, hx161_0⟩ := Kd.at_string HR0.out x10_1 p161 q161
        cases e161
        replace p161 := eq_true p161
        replace q161 := eq_true q161
        go_wp2
        go_roundg k1
        case measure => have := HK1.out; omega
        case rel => exact ⟨(wrap64 (x10_1 + 1)), (by first | rfl | (simp; done) | (simp [*]; done)), H', ⟨by have := HK1.out; omega⟩, by repeat (first | exact Drawn0.refl _ | apply Drawn0.step)⟩
      ·rw [if_neg c5] at H
       exact absurd H (by simp)
     ·rw [if_neg c4] at H
      exact absurd H (by simp)
    ·rw [if_neg c3] at H
     have c3b0 : decide (x10_1 < (l0.length : Int)) = false := decide_eq_false c3
     clear c3
     obtain rfl := Option.some.inj H
     go_wp2
     go_ret
     exact ⟨by first | rfl | (simp; done) | (simp [*]; done), by repeat (first | exact Drawn0.refl _ | apply Drawn0.step)⟩
end Go.Proofs.YtkhkmhbledigpaaGreatDoor.PS
namespace Go.Proofs.YtkhkmhbledigpaaGreatDoor.Tr
open Go.RowKit Go.Proofs.YtkhkmhbledigpaaGreatDoorW.PrintWords Go.Proofs.YtkhkmhbledigpaaGreatDoorW.PrintLast Go.Proofs.YtkhkmhbledigpaaGreatDoor.Str Go.Proofs.YtkhkmhbledigpaaGreatDoor.Kit Go.Proofs.YtkhkmhbledigpaaGreatDoor.MapV Go.Proofs.YtkhkmhbledigpaaGreatDoor.Frame Go.Proofs.YtkhkmhbledigpaaGreatDoor.PS
set_option linter.unusedVariables false
set_option linter.unusedSimpArgs false
theorem filter_step (s : BA) (f : UInt8 → Bool) (i : Nat) (h : i < (lb s).length) : ((lb s).drop i).filter f = (if f (lb s)[i] then [(lb s)[i]] else []) ++ ((lb s).drop (i + 1)).filter f := by
 rw [List.drop_eq_getElem_cons h, List.filter_cons]
 split <;> rfl
theorem at_get (s : BA) (i : Nat) (h : i < (lb s).length) : At s i (lb s)[i] := by
 unfold At
 exact List.getElem?_eq_getElem h
theorem byte_ne {c : UInt8} (n : Nat) (hn : n < 256) (h : ¬ (c.toNat : Int) = (n : Int)) : c ≠ UInt8.ofNat n := fun e => h (by
 rw [e, UInt8.toNat_ofNat']
 omega)
def keepB (c : UInt8) : Bool := c != 36
theorem ends_bare_l (s : BA) (hs : s.size < 140737488355328) : ∀ (d i : Nat) (l : Bs), i + d = s.size → l.length ≤ i → Ends (fun r => r = mk (l ++ ((lb s).drop i).filter keepB)) (fun k => laws_substBare.l0 k s (bnums l) (i : Int)) := by
 intro d
 induction d with
 | zero =>
  intro i l hi hl
  refine Ends.step (fun k => by simp only [laws_substBare.l0]; rfl) ?_
  refine Ends.no (by omega) (Ends.now ?_)
  rw [str_bnums, List.drop_eq_nil_of_le (by rw [lb_length]; omega)]
  simp [mk]
 | succ d ih =>
  intro i l hi hl
  have hlt : i < (lb s).length := by rw [lb_length]; omega
  have hbt := (at_get s i hlt).bt
  have hf := filter_step s keepB i hlt
  refine Ends.step (fun k => by simp only [laws_substBare.l0]; rfl) ?_
  rw [hbt, wrap1 i (by omega), hf]
  generalize (lb s)[i] = c
  refine Ends.yes (by omega) (Ends.yes (by omega) (Ends.ite (fun h36 => ?_) (fun h36 => ?_)))
  ·have hc : keepB c = false := by
    have : c = 36 := UInt8.toNat_inj.1 (by show c.toNat = 36; omega)
    rw [this]; rfl
   rw [hc]
   exact ih (i + 1) l (by omega) (by omega)
  ·have hc : keepB c = true := bne_iff_ne.2 (byte_ne 36 (by decide) h36)
   rw [hc]
   refine Ends.yes (by rw [bnums_length]; omega) ?_
   have h := ih (i + 1) (l ++ [c]) (by omega) (by simp; omega)
   rw [bnums_append, List.append_assoc] at h
   exact h
theorem ends_bare (s : BA) (hs : s.size < 140737488355328) : Ends (fun r => r = mk ((lb s).filter keepB)) (fun k => laws_substBare.f k s) := ends_bare_l s hs s.size 0 [] (by omega) (by simp)
theorem bare_c (s : BA) (hs : s.size < 140737488355328) (w : World) : Calls Tryz.prog 20 #[.string s] w fun e w' => e = .returned (.string (mk ((lb s).filter keepB))) ∧ Below w.heap.size w w' := by
 obtain ⟨k, hk⟩ := (ends_bare s hs).ev.rounds
 exact laws_substBare.calls k s _ w hk
theorem bare_no (s : BA) : 36 ∉ lb (mk ((lb s).filter keepB)) := by
 rw [lb_mk']
 intro h
 have := (List.mem_filter.1 h).2
 exact absurd this (by decide)
theorem filter_size (s : BA) (f : UInt8 → Bool) : (mk ((lb s).filter f)).size ≤ s.size := by
 rw [mk_size, ← lb_length]
 exact List.length_filter_le _ _
theorem ends_fits2_l (l : List BA) (hl : l.length ≤ 2147483647) : ∀ (d i : Nat), i + d = l.length → (∀ (j : Nat) (h : j < l.length), j < i → l[j].size ≤ 2147483647) → Ends (fun r => r = true → ∀ s, s ∈ l → s.size ≤ 2147483647) (fun k => laws_zzFits2.l0 k l (l.length : Int) (i : Int)) := by
 intro d
 induction d with
 | zero =>
  intro i hi ha
  refine Ends.step (fun k => by simp only [laws_zzFits2.l0]; rfl) ?_
  refine Ends.no (by omega) (Ends.now (fun _ s hs => ?_))
  obtain ⟨j, hj, rfl⟩ := List.getElem_of_mem hs
  exact ha j hj (by omega)
 | succ d ih =>
  intro i hi ha
  have hlt : i < l.length := by omega
  have hr : rdOf ByteArray.empty l (i : Int) = l[i] := by
   unfold rdOf
   simp [hlt]
  refine Ends.step (fun k => by simp only [laws_zzFits2.l0]; rfl) ?_
  rw [hr, wrap1 i (by omega)]
  refine Ends.yes (by omega) (Ends.yes (by omega) (Ends.yes (by omega) (Ends.ite (fun h => Ends.now (fun e => by cases e)) (fun h => ih (i + 1) (by omega) (fun j hj hji => ?_)))))
  by_cases e : j = i
  ·subst e; omega
  ·exact ha j hj (by omega)
theorem fits2_c (A : Option Addr) (c : Nat) (l : List BA) (w : World) (hC : Kd.string.C w A l.length l) (hc : l.length ≤ c) : ∃ b : Bool, (b = true → l.length ≤ 2147483647 ∧ ∀ s, s ∈ l → s.size ≤ 2147483647) ∧ Calls Tryz.prog 19 #[.slice A l.length c] w fun e w' => e = .returned (.bool b) ∧ Drawn0 w w' := by
 have h : Ends (fun r => r = true → l.length ≤ 2147483647 ∧ ∀ s, s ∈ l → s.size ≤ 2147483647) (fun k => laws_zzFits2.f k l) := by
  unfold laws_zzFits2.f
  refine Ends.ite (fun _ => Ends.now (fun e => by cases e)) (fun hn => ?_)
  exact (ends_fits2_l l (by omega) l.length 0 (by omega) (fun j _ h => absurd h (by omega))).mono (fun r hr e => ⟨by omega, hr e⟩)
 obtain ⟨b, hb, hp⟩ := h
 obtain ⟨k, hk⟩ := hb.rounds
 exact ⟨b, hp, laws_zzFits2.calls k A c l b w hC hc hk⟩
end Go.Proofs.YtkhkmhbledigpaaGreatDoor.Tr
namespace Go.Proofs.YtkhkmhbledigpaaGreatDoor.Tr
open Go.RowKit Go.Proofs.YtkhkmhbledigpaaGreatDoorW.PrintWords Go.Proofs.YtkhkmhbledigpaaGreatDoorW.PrintLast Go.Proofs.YtkhkmhbledigpaaGreatDoor.Str Go.Proofs.YtkhkmhbledigpaaGreatDoor.Kit Go.Proofs.YtkhkmhbledigpaaGreatDoor.MapV Go.Proofs.YtkhkmhbledigpaaGreatDoor.Frame Go.Proofs.YtkhkmhbledigpaaGreatDoor.PS
set_option linter.unusedVariables false
set_option linter.unusedSimpArgs false
theorem letter_is (c : UInt8) : spec_substLetter.f (c.toNat : Int) = some (isLet c.toNat) := by
 unfold spec_substLetter.f
 rcases hl : isLet c.toNat with _ | _
 ·have hn := isLet_no hl
  rw [if_neg (by omega)]
  split
  ·rw [if_neg (by omega)]
   split
   ·rw [decide_eq_false (by omega)]
   ·rfl
  ·split
   ·rw [decide_eq_false (by omega)]
   ·rfl
 ·have hy := (isLet_iff _).1 hl
  split
  ·rfl
  ·split
   ·split
    ·rfl
    ·split
     ·rw [decide_eq_true (by omega)]
     ·exfalso; omega
   ·split
    ·rw [decide_eq_true (by omega)]
    ·exfalso; omega
theorem buf_cells {w : World} {base : Nat} {A : Option Addr} {n c : Nat} {l : Bs} (h : Buf w base (.slice A n c) l) (h0 : 0 < l.length) : ∃ g, A = some ⟨g, 0, none⟩ ∧ n = l.length ∧ l.length ≤ c ∧ ∀ (i : Nat) (hi : i < l.length), w.cell? ⟨g, i, none⟩ = some (.int .u8 (l[i].toNat : Int)) := by
 obtain ⟨h1, h2⟩ := h
 rcases h2 with ⟨hv, hn⟩ | ⟨g, cap, cur, hv, hg, hb, hle, hm, hsz, htk⟩
 ·exfalso
  omega
 ·injection hv with e1 e2 e3
  subst e1 e2 e3
  refine ⟨g, rfl, rfl, hle, fun i hi => ?_⟩
  have hc : cur[i]? = some (.int .u8 (l[i].toNat : Int)) := by
   have h3 : (cur.toList.take (l.length * 1))[i]? = some (.int .u8 (l[i].toNat : Int)) := by
    rw [htk]
    simp [nums, bnums, hi]
   rw [List.getElem?_take_of_lt (by omega)] at h3
   rw [← Array.getElem?_toList]
   exact h3
  exact cb_cell hb hc
theorem buf_slice {w : World} {base : Nat} {v : Value} {l : Bs} (h : Buf w base v l) (n : Nat) (hn : l.length = n) : ∃ A c, v = .slice A n c := by
 subst hn
 exact h.slice
theorem cut_string {w : World} {g cap : Nat} (b : UInt8) (r : Bs) (hc : ∀ (i : Nat) (hi : i < (b :: r).length), w.cell? ⟨g, i, none⟩ = some (.int .u8 ((b :: r)[i].toNat : Int))) : (convert 50 9 (.slice (some ⟨g, 1, none⟩) r.length cap)).run Tryz.prog w = .ok (.string (mk r)) w := by
 have h := run_convert_bytes_arg (P := Tryz.prog) w 50 5 Tryz.underlying50 Tryz.underlying5 g 1 r.length cap (bnums r) (bnums_length r) (fun i hi => ?_) 9 Tryz.underlying9
 ·rw [str_bnums] at h
  exact h
 ·have h := hc (i + 1) (by simp; omega)
  rw [Nat.add_comm 1 i, h]
  simp [bnums, hi]
def conC (c : UInt8) : Bool := isCon c.toNat
def nameOf (s : BA) : Bs := match (lb s).filter conC with
 | [] => [95]
 | c :: r => if isLet c.toNat then c :: r else 95 :: c :: r
theorem nameOf_is (s : BA) : IsName (nameOf s) := by
 have hf : ∀ c, c ∈ (lb s).filter conC → isCon c.toNat = true := fun c hc => (List.mem_filter.1 hc).2
 unfold nameOf
 split
 ·exact ⟨by simp, fun c hc => by simp at hc; rw [← hc]; decide, fun c hc => by simp at hc; rw [hc]; decide⟩
 ·rename_i c r he
  rw [he] at hf
  split
  ·rename_i hl
   exact ⟨by simp, fun x hx => by simp at hx; rw [← hx]; exact hl, hf⟩
  ·exact ⟨by simp, fun x hx => by simp at hx; rw [← hx]; decide, fun x hx => by
    rcases List.mem_cons.1 hx with rfl | hx
    ·decide
    ·exact hf x hx⟩
theorem nameOf_size (s : BA) : (nameOf s).length ≤ s.size + 1 := by
 have h := List.length_filter_le conC (lb s)
 rw [lb_length] at h
 unfold nameOf
 split
 ·simp
 ·rename_i c r he
  rw [he] at h
  split <;> simp at h ⊢ <;> omega
set_option maxHeartbeats 3200000 in
set_option maxRecDepth 100000 in
theorem substName (s : BA) (hs : s.size < 70368744177664) (w : World) : Calls Tryz.prog 11 #[.string s] w fun e w' => e = .returned (.string (mk (nameOf s))) ∧ Below w.heap.size w w' := by
 have hb0 := below_alloc (Below.refl w.heap.size w) (.cells #[.int .u8 95] 5)
 have HB0 := aM hb0
 have HO0 := aM (show Buf (w.alloc (.cells #[.int .u8 95] 5)) w.heap.size (.slice (some ⟨w.heap.size, 0, none⟩) 1 1) [95] from
  ⟨rfl, .inr ⟨w.heap.size, 1, _, rfl, Nat.le_refl _, cb_new _ _, Nat.le_refl _, by unfold maxLen; omega, rfl, rfl⟩⟩)
 clear hb0
 go_enter Tryz.func11, Tryz.ntmps11
 go_wp2
 go_loopw [3, 4] (fun v3 v4 wr => ∃ i : Nat, v4 = .int .i64 i ∧ i ≤ s.size ∧ Aside0 (Buf wr w.heap.size v3 (95 :: ((lb s).take i).filter conC)) ∧ Aside0 (Below w.heap.size w wr)) (fun _ v4 _ => s.size - (intOf v4).toNat)
 case atStart => exact ⟨0, rfl, by omega, HO0, HB0⟩
 case round =>
  clear HO0 HB0
  obtain ⟨i, rfl, hi, HO, HB⟩ := hrel
  by_cases hlt : i < s.size
  ·have q1 : (i : Int) < (s.size : Int) := by omega
   have q0 : (0 : Int) ≤ (i : Int) := by omega
   have q5 : decide ((i : Int) < (s.size : Int)) = true := decide_eq_true q1
   have hll : i < (lb s).length := by rw [lb_length]; exact hlt
   have hat := at_get s i hll
   have HTK := aM (show ((lb s).take (i + 1)).filter conC = ((lb s).take i).filter conC ++ (if conC (lb s)[i] then [(lb s)[i]] else []) by
    rw [List.take_succ_eq_append_getElem hll, List.filter_append]
    congr 1
    simp only [List.filter_cons, List.filter_nil])
   have HLN := aM (show (95 :: ((lb s).take i).filter conC : Bs).length + 1 ≤ 140737488355328 by
    have := List.length_filter_le conC ((lb s).take i)
    rw [List.length_take] at this
    simp only [List.length_cons]
    omega)
   generalize (lb s)[i] = c at hat HTK
   have HAT := aM hat
   have CL := aM (fun W => spec_substLetter.calls (c.toNat : Int) (isLet c.toNat) W (letter_is c))
   have hnum : ((s[i]'hlt).toNat : Int) = (c.toNat : Int) := hat.num
   clear hat
   go_wp2_with fail
   refine (CL.out _).mono ?_
   rintro e w1 ⟨rfl, ⟨nd, rfl⟩⟩
   have HB1 := aM (hb_then HB.out (Drawn0.below (⟨⟨nd, rfl⟩⟩ : Drawn0 wr (wr.drewN nd))))
   have HO1 := aM (HO.out.below (Drawn0.below (⟨⟨nd, rfl⟩⟩ : Drawn0 wr (wr.drewN nd))))
   have HCC := aM (isCon_iff c.toNat)
   clear CL
   rcases hl : isLet c.toNat with _ | _
   ·by_cases h48 : 48 ≤ c.toNat
    ·have d1 : decide ((48 : Int) ≤ (c.toNat : Int)) = true := decide_eq_true (by omega)
     by_cases h57 : c.toNat ≤ 57
     ·have d2 : decide ((c.toNat : Int) ≤ 57) = true := decide_eq_true (by omega)
      have HK := aM (show 95 :: ((lb s).take (i + 1)).filter conC = (95 :: ((lb s).take i).filter conC) ++ [c] by
       rw [HTK.out, show conC c = true from HCC.out.2 (.inr ⟨h48, h57⟩)]; simp)
      clear HTK HCC h48 h57
      go_wp2_with (at_builtin; refine append_bufB (.tmp 28) (.tmp 32) rfl rfl c (by first | rfl | exact HAT.out.num) rfl rfl HO1.out HB1.out HLN.out ?_; intro v1 w2 ho hb hg; have HO3 := aM ho; have HB3 := aM hb; clear ho hb hg)
      go_roundw
      case rel => exact ⟨i + 1, by go_num, by omega, ⟨by rw [HK.out]; exact HO3.out⟩, HB3⟩
      case measure => simp [intOf]; omega
     ·have d2 : decide ((c.toNat : Int) ≤ 57) = false := decide_eq_false (by omega)
      have HK := aM (show ((lb s).take (i + 1)).filter conC = ((lb s).take i).filter conC by
       have : conC c = false := by
        rcases h : conC c with _ | _
        ·rfl
        ·rcases HCC.out.1 h with h | h
         ·rw [hl] at h; cases h
         ·omega
       rw [HTK.out, this]; simp)
      clear HTK HCC h48 h57
      go_wp2
      go_roundw
      case rel => exact ⟨i + 1, by go_num, by omega, ⟨by rw [HK.out]; exact HO1.out⟩, HB1⟩
      case measure => simp [intOf]; omega
    ·have d1 : decide ((48 : Int) ≤ (c.toNat : Int)) = false := decide_eq_false (by omega)
     have HK := aM (show ((lb s).take (i + 1)).filter conC = ((lb s).take i).filter conC by
      have : conC c = false := by
       rcases h : conC c with _ | _
       ·rfl
       ·rcases HCC.out.1 h with h | h
        ·rw [hl] at h; cases h
        ·omega
      rw [HTK.out, this]; simp)
     clear HTK HCC h48
     go_wp2
     go_roundw
     case rel => exact ⟨i + 1, by go_num, by omega, ⟨by rw [HK.out]; exact HO1.out⟩, HB1⟩
     case measure => simp [intOf]; omega
   ·have HK := aM (show 95 :: ((lb s).take (i + 1)).filter conC = (95 :: ((lb s).take i).filter conC) ++ [c] by
     rw [HTK.out, show conC c = true from HCC.out.2 (.inl hl)]; simp)
    clear HTK HCC
    go_wp2_with (at_builtin; refine append_bufB (.tmp 28) (.tmp 32) rfl rfl c (by first | rfl | exact HAT.out.num) rfl rfl HO1.out HB1.out HLN.out ?_; intro v1 w2 ho hb hg; have HO3 := aM ho; have HB3 := aM hb; clear ho hb hg)
    go_roundw
    case rel => exact ⟨i + 1, by go_num, by omega, ⟨by rw [HK.out]; exact HO3.out⟩, HB3⟩
    case measure => simp [intOf]; omega
  ·have q5 : decide ((i : Int) < (s.size : Int)) = false := decide_eq_false (by omega)
   have hall := HO.out
   rw [List.take_of_length_le (by rw [lb_length]; omega)] at hall
   have HNM := aM (show nameOf s = match (lb s).filter conC with
    | [] => [95]
    | c :: r => if isLet c.toNat then c :: r else 95 :: c :: r from rfl)
   clear HO
   rcases hfl : (lb s).filter conC with _ | ⟨c, r⟩
   ·rw [hfl] at hall HNM
    have hcv := hall.string
    obtain ⟨A3, c3, rfl⟩ := buf_slice hall 1 rfl
    clear hall hfl
    go_wp2
    go_ret
    exact ⟨by rw [HNM.out]; rfl, HB.out⟩
   ·have hrl : r.length + 1 ≤ s.size := by
     have := List.length_filter_le conC (lb s)
     rw [hfl, lb_length] at this
     simpa using this
    rw [hfl] at hall HNM
    obtain ⟨A3, c3, rfl⟩ := buf_slice hall (r.length + 2) (by simp)
    obtain ⟨g, rfl, _, hcp, hcs⟩ := buf_cells hall (by simp)
    have hc1 : wr.cell? ⟨g, 1, none⟩ = some (.int .u8 (c.toNat : Int)) := hcs 1 (by simp)
    have hdb := fun nd => Drawn0.below (⟨⟨nd, rfl⟩⟩ : Drawn0 wr (wr.drewN nd))
    have hcv : ∀ nd, (convert 50 9 (.slice (some ⟨g, 0, none⟩) (r.length + 2) c3)).run Tryz.prog (wr.drewN nd) = .ok (.string (mk (95 :: c :: r))) (wr.drewN nd) := fun nd => (hall.below (hdb nd)).string
    have hcut : ∀ nd, (convert 50 9 (.slice (some ⟨g, 1, none⟩) (r.length + 1) (c3 - 1))).run Tryz.prog (wr.drewN nd) = .ok (.string (mk (c :: r))) (wr.drewN nd) := fun nd => cut_string (cap := c3 - 1) 95 (c :: r) (fun i hi => pw_cell_below (hdb nd) (hcs i hi))
    have hcp2 : r.length + 2 ≤ c3 := by simpa using hcp
    have CL := aM (fun W => spec_substLetter.calls (c.toNat : Int) (isLet c.toNat) W (letter_is c))
    have q6 : decide ((1 : Int) < ((r.length + 2 : Nat) : Int)) = true := decide_eq_true (by omega)
    have q7 : (1 : Int) < ((r.length + 2 : Nat) : Int) := by omega
    have HCV := aM hcv
    have HCT := aM hcut
    obtain ⟨nn, hnn⟩ : ∃ nn, r.length + 2 = nn := ⟨_, rfl⟩
    have hn2 : r.length + 1 = nn - 1 := by omega
    rw [hnn] at HCV q6 q7 hcp2 ⊢
    rw [hn2] at HCT
    have hn3 : 2 ≤ nn := by omega
    have hn4 : nn ≤ 70368744177666 := by omega
    clear hall hfl hcp hcs hcv hcut hrl hnn hn2 hdb
    go_wp2_with fail
    refine (CL.out _).mono ?_
    rintro e w1 ⟨rfl, ⟨nd, rfl⟩⟩
    have HB1 := aM (pw_below_drewN HB.out nd)
    have hcv := HCV.out nd
    have hct := HCT.out nd
    clear CL HCV HCT
    rcases hl : isLet c.toNat with _ | _
    ·rw [hl] at HNM
     go_wp2
     go_ret
     exact ⟨by rw [HNM.out]; rfl, HB1.out⟩
    ·rw [hl] at HNM
     have q8 : (1 : Int) ≤ (nn : Int) := by omega
     go_wp2
     go_ret
     exact ⟨by rw [HNM.out]; rfl, HB1.out⟩
end Go.Proofs.YtkhkmhbledigpaaGreatDoor.Tr
namespace Go.Proofs.YtkhkmhbledigpaaGreatDoor.Tr
open Go.RowKit Go.Proofs.YtkhkmhbledigpaaGreatDoorW.PrintWords Go.Proofs.YtkhkmhbledigpaaGreatDoorW.PrintLast Go.Proofs.YtkhkmhbledigpaaGreatDoor.Str Go.Proofs.YtkhkmhbledigpaaGreatDoor.Kit Go.Proofs.YtkhkmhbledigpaaGreatDoor.MapV Go.Proofs.YtkhkmhbledigpaaGreatDoor.Frame Go.Proofs.YtkhkmhbledigpaaGreatDoor.PS
open Go.Proofs.YtkhkmhbledigpaaGreatDoor.Maps (MapS key_u map_u lookFn lookT kp toP Ok encP ofP fitsP)
set_option linter.unusedVariables false
set_option linter.unusedSimpArgs false
end Go.Proofs.YtkhkmhbledigpaaGreatDoor.Tr
namespace Go.Proofs.YtkhkmhbledigpaaGreatDoor.Tr
open Go.RowKit Go.Proofs.YtkhkmhbledigpaaGreatDoorW.PrintWords Go.Proofs.YtkhkmhbledigpaaGreatDoorW.PrintLast Go.Proofs.YtkhkmhbledigpaaGreatDoor.Str Go.Proofs.YtkhkmhbledigpaaGreatDoor.Kit Go.Proofs.YtkhkmhbledigpaaGreatDoor.MapV Go.Proofs.YtkhkmhbledigpaaGreatDoor.Frame Go.Proofs.YtkhkmhbledigpaaGreatDoor.PS
open Go.Proofs.YtkhkmhbledigpaaGreatDoor.Maps (MapS key_u map_u lookFn lookT kp toP Ok encP ofP fitsP append_pair info_spair)
set_option linter.unusedVariables false
set_option linter.unusedSimpArgs false
def refOf (n : Bs) : Bs := [36, 123] ++ n ++ [125]
inductive Segs (K : Bs → Prop) : Bs → Prop
 | nil : Segs K []
 | plain (t m : Bs) (h : Segs K t) (hm : 36 ∉ m) : Segs K (t ++ m)
 | ref (t n : Bs) (h : Segs K t) (hn : IsName n) (hl : n.length ≤ 4294967296) (hk : K n) : Segs K (t ++ refOf n)
theorem Segs.mono {K L : Bs → Prop} {t : Bs} (h : Segs K t) (hkl : ∀ n, K n → L n) : Segs L t := by
 induction h with
 | nil => exact .nil
 | plain t m _ hm ih => exact .plain t m ih hm
 | ref t n _ hn hl hk ih => exact .ref t n ih hn hl (hkl n hk)
theorem segs_rw (g : List (Bs × BA)) (s : BA) (hs : s.size < 4611686018427387904) (K : Bs → Prop) (hK : ∀ n, K n → lb (valOf g n) = refOf n) {t : Bs} (h : Segs K t) : ∀ (q out : Bs), lb s = t ++ q → Rw (Braced g) s t.length out → Rw (Braced g) s 0 (t ++ out) := by
 induction h with
 | nil => intro q out _ hr; simpa using hr
 | plain t m _ hm ih =>
  intro q out hl hr
  have h1 := rw_plain (P := Braced g) s hs m t q out hm hl (by rw [List.length_append] at hr; exact hr)
  have h2 := ih (m ++ q) (m ++ out) (by rw [hl]; simp) h1
  rw [List.append_assoc]
  exact h2
 | ref t n _ hn hnl hk ih =>
  intro q out hl hr
  have h1 := rw_braced (g := g) s hs t n q out hn hnl hl (by
   have e : (t ++ refOf n).length = t.length + (n.length + 3) := by simp [refOf]
   rw [e] at hr
   exact hr)
  rw [hK n hk] at h1
  have h2 := ih (refOf n ++ q) (refOf n ++ out) (by rw [hl]; simp) h1
  rw [List.append_assoc]
  exact h2
theorem fold_get (F : Bs → BA) (k : Bs) : ∀ (l f : List (Bs × BA)), (∀ p, p ∈ l → p.2 = F p.1) → (mget f k = some (F k) ∨ ∃ p, p ∈ l ∧ p.1 = k) → mget (l.foldl (fun f p => mput f p.1 p.2) f) k = some (F k)
 | [], f, _, h => by
  rcases h with h | ⟨p, hp, _⟩
  ·exact h
  ·cases hp
 | p :: r, f, hF, h => by
  refine fold_get F k r _ (fun q hq => hF q (List.mem_cons_of_mem _ hq)) ?_
  rw [mget_mput]
  by_cases e : p.1 = k
  ·left
   rw [if_pos e, hF p List.mem_cons_self, e]
  ·rw [if_neg e]
   rcases h with h | ⟨q, hq, hqk⟩
   ·exact .inl h
   ·rcases List.mem_cons.1 hq with rfl | hq
    ·exact absurd hqk e
    ·exact .inr ⟨q, hq, hqk⟩
def OwnE (E : List (BA × BA)) : Prop := ∀ p, p ∈ E → p.2 = mk (refOf (lb p.1)) ∧ p.1.size ≤ 2147483648
theorem own_val {E : List (BA × BA)} (h : OwnE E) {n : Bs} (hn : ∃ p, p ∈ E ∧ lb p.1 = n) : lb (valOf (fitM (ofP E)) n) = refOf n := by
 have hg : mget (fitM (ofP E)) n = some (mk (refOf n)) := by
  refine fold_get (fun k => mk (refOf k)) n (ofP E) [] (fun q hq => ?_) (.inr ?_)
  ·unfold ofP at hq
   obtain ⟨p, hp, rfl⟩ := List.mem_map.1 hq
   exact (h p hp).1
  ·obtain ⟨p, hp, e⟩ := hn
   exact ⟨(lb p.1, p.2), List.mem_map.2 ⟨p, hp, rfl⟩, e⟩
 unfold valOf
 rw [hg]
 exact lb_mk' _
structure Own (t : BA) (E : List (BA × BA)) (i : Nat) : Prop where
 segs : Segs (fun n => ∃ p, p ∈ E ∧ lb p.1 = n) (lb t)
 own : OwnE E
 size : t.size ≤ i * 4294967298
 len : E.length ≤ i
theorem Own.start : Own ⟨#[]⟩ [] 0 := ⟨.nil, (fun p h => by cases h), by decide, by decide⟩
theorem Own.plain {t b : BA} {E : List (BA × BA)} {i : Nat} (h : Own t E i) (hb : 36 ∉ lb b) (hs : b.size ≤ 2147483647) : Own (t ++ b) E (i + 1) :=
 ⟨by rw [lb_append]; exact .plain _ _ h.segs hb, h.own, by have := h.size; rw [ByteArray.size_append]; omega, by have := h.len; omega⟩
theorem ref_size (n : BA) : ((⟨#[36, 123]⟩ : BA) ++ n ++ ⟨#[125]⟩).size = n.size + 3 := by
 have e1 : (⟨#[36, 123]⟩ : BA).size = 2 := rfl
 have e2 : (⟨#[125]⟩ : BA).size = 1 := rfl
 simp only [ByteArray.size_append]
 omega
theorem lb_ref (n : BA) : lb ((⟨#[36, 123]⟩ : BA) ++ n ++ ⟨#[125]⟩) = refOf (lb n) := by simp [lb_append, lb, refOf]
theorem Own.named {t b n : BA} {E : List (BA × BA)} {i : Nat} (h : Own t E i) (hb : 36 ∉ lb b) (hs : b.size ≤ 2147483647) (hn : IsName (lb n)) (hns : n.size ≤ 2147483648) :
  Own (t ++ b ++ ((⟨#[36, 123]⟩ : BA) ++ n ++ ⟨#[125]⟩)) (E ++ [(n, (⟨#[36, 123]⟩ : BA) ++ n ++ ⟨#[125]⟩)]) (i + 1) := by
 refine ⟨?_, fun p hp => ?_, ?_, ?_⟩
 ·rw [lb_append, lb_append, lb_ref]
  refine .ref _ _ ((Segs.plain _ _ h.segs hb).mono (fun m hm => ?_)) hn (by rw [lb_length]; omega) ⟨_, List.mem_append_right _ List.mem_cons_self, rfl⟩
  obtain ⟨p, hp, e⟩ := hm
  exact ⟨p, List.mem_append_left _ hp, e⟩
 ·rcases List.mem_append.1 hp with hp | hp
  ·exact h.own p hp
  ·rw [List.mem_singleton.1 hp]
   exact ⟨eq_mk (lb_ref n), hns⟩
 ·have := h.size
  rw [ByteArray.size_append, ByteArray.size_append, ref_size]
  omega
 ·have := h.len
  rw [List.length_append]
  simp
  omega
theorem Own.done {t : BA} {E : List (BA × BA)} {i : Nat} (h : Own t E i) (hi : i ≤ 300) : t.size < 140737488355328 ∧ E.length ≤ 300 ∧ Ok 300 (fitM (ofP E)) ∧ Rw (Braced (fitM (ofP E))) t 0 (lb t) := by
 have h1 := h.size
 have h2 := h.len
 refine ⟨by omega, by omega, ⟨fitM_rises _, Go.Proofs.YtkhkmhbledigpaaGreatDoor.Maps.small_fit (fun p hp => Nat.le_trans (h.own p hp).2 (by decide)), ?_⟩, ?_⟩
 ·have h3 := fitM_length (ofP E)
  simp only [ofP, List.length_map] at h3 ⊢
  omega
 ·have h4 := segs_rw (fitM (ofP E)) t (by omega) _ (fun n hn => own_val h.own hn) h.segs [] [] (by simp) (rw_stop t _ (by rw [lb_length]))
  simpa using h4
set_option maxHeartbeats 6400000 in
set_option maxRecDepth 100000 in
theorem lawOwn (A B : Option Addr) (c d : Nat) (ps ns : List BA) (w : World) (hP : Kd.string.C w A ps.length ps) (hc : ps.length ≤ c) (hN : Kd.string.C w B ns.length ns) (hd : ns.length ≤ d) :
  Calls Tryz.prog 4 #[.slice A ps.length c, .slice B ns.length d] w fun e w' => e = .returned (.bool true) ∧ Below w.heap.size w w' := by
 obtain ⟨b1, hb1, C1⟩ := fits2_c A c ps w hP hc
 have C1 := aM C1
 have C2 := aM (fun (nd : Nat) => fits2_c B d ns (w.drewN nd) (Kd.C_below hN (Drawn0.below (⟨⟨nd, rfl⟩⟩ : Drawn0 w (w.drewN nd)))) hd)
 have HP := aM hP
 have HN := aM hN
 have HF1 := aM hb1
 clear hP hN hc hd hb1
 go_enter Tryz.func4, Tryz.ntmps4
 go_wp2_with fail
 refine C1.out.mono ?_
 rintro e w1 ⟨rfl, ⟨nd, rfl⟩⟩
 clear C1
 cases b1
 ·go_wp2
  go_ret
  exact ⟨rfl, pw_below_drewN (Below.refl _ _) _⟩
 obtain ⟨b2, hb2, C3⟩ := C2.out nd
 have C3 := aM C3
 have HF2 := aM hb2
 clear C2 hb2
 go_wp2_with fail
 refine C3.out.mono ?_
 rintro e w2 ⟨rfl, ⟨nd2, rfl⟩⟩
 clear C3
 have HB2 := aM (pw_below_drewN (pw_below_drewN (Below.refl w.heap.size w) nd) nd2)
 have hnorm : (w.drewN nd).drewN nd2 = w.drewN (nd + nd2) := by simp
 cases b2
 ·go_wp2
  go_ret
  exact ⟨rfl, pw_below_drewN (Below.refl _ _) _⟩
 have HS1 := aM (HF1.out (by trivial))
 have HS2 := aM (HF2.out (by trivial))
 rw [hnorm] at HB2
 clear HF1 HF2 hnorm
 go_wp2
 go_loopw [5, 6, 7, 8] (fun v5 v6 v7 v8 wr => ∃ (i : Nat) (t : BA) (E : List (BA × BA)), v5 = .string t ∧ v7 = .int .i64 i ∧ i ≤ 300 ∧ Aside0 (i ≤ ps.length) ∧ Aside0 (Own t E i) ∧ Aside0 (kp.R 40 wr w.heap.size (fun _ => True) v6 E) ∧ Aside0 (Below w.heap.size w wr)) (fun _ _ v7 _ _ => 300 - (intOf v7).toNat)
 case atStart => exact ⟨0, _, [], rfl, rfl, by omega, ⟨Nat.zero_le _⟩, ⟨Own.start⟩, ⟨Kd.R_nil _ _ _ _ _⟩, HB2⟩
 case round =>
  clear HB2
  obtain ⟨i, t, E, rfl, rfl, hi, HI, HO, HE, HB⟩ := hrel
  by_cases hlt : i < ps.length ∧ i < 300
  ·obtain ⟨hlp, hl3⟩ := hlt
   have d1 : decide ((i : Int) < (ps.length : Int)) = true := decide_eq_true (by omega)
   have d2 : decide ((i : Int) < 300) = true := decide_eq_true (by omega)
   have q0 : (0 : Int) ≤ (i : Int) := by omega
   have q1 : (i : Int) < (ps.length : Int) := by omega
   obtain ⟨pb, po, rfl, hpb, hpc⟩ := strs_open HP.out (by omega)
   have e1 := pw_cell_below HB.out (hpc i hlp)
   have hsz := HS1.out.2 _ (List.getElem_mem hlp)
   generalize ps[i] = piece at e1 hsz
   have CB := aM (fun W => bare_c piece (by omega) W)
   have HBN := aM (And.intro (bare_no piece) (Nat.le_trans (filter_size piece keepB) hsz))
   generalize mk ((lb piece).filter keepB) = b at CB HBN
   have HTS := aM (show t.size ≤ 1288490189400 by have := HO.out.size; omega)
   clear hpc hsz
   go_wp2_with fail
   refine (CB.out wr).mono ?_
   rintro e w4 ⟨rfl, hb⟩
   have HB4 := aM (hb_then HB.out hb)
   have HE4 := aM (Kd.R_below HE.out hb)
   have z1 := HTS.out
   have z2 := HBN.out.2
   clear hb CB HB HE
   by_cases hln : i < ns.length
   ·have d3 : decide ((i : Int) < (ns.length : Int)) = true := decide_eq_true (by omega)
    have q2 : (i : Int) < (ns.length : Int) := by omega
    obtain ⟨nb, no, rfl, hnb, hnc⟩ := strs_open HN.out (by omega)
    have e2 := pw_cell_below HB4.out (hnc i hln)
    have hsz := HS2.out.2 _ (List.getElem_mem hln)
    generalize ns[i] = name at e2 hsz
    have CN := aM (fun W => substName name (by omega) W)
    have HNN := aM (And.intro (show IsName (lb (mk (nameOf name))) by rw [lb_mk']; exact nameOf_is name) (show (mk (nameOf name)).size ≤ 2147483648 by have := nameOf_size name; rw [mk_size]; omega))
    generalize mk (nameOf name) = n at CN HNN
    clear hnc hsz
    go_wp2_with fail
    refine (CN.out w4).mono ?_
    rintro e w5 ⟨rfl, hb⟩
    have HB5 := aM (hb_then HB4.out hb)
    have HE5 := aM (Kd.R_below HE4.out hb)
    have z3 := HNN.out.2
    clear hb CN HB4 HE4
    obtain ⟨A6, c6, rfl⟩ := Kd.R_slice HE5.out
    have HEL := aM (show E.length < 4398046511103 by have := HO.out.len; omega)
    have HON := aM (HO.out.named HBN.out.1 HBN.out.2 HNN.out.1 HNN.out.2)
    go_wp2_with (at_builtin; refine append_pair (w0 := w) (ok := fun _ => True) (fun _ _ => trivial) 22 40 Tryz.underlying22 info_spair (.tmp 50) (.tmp 56) rfl rfl rfl rfl HE5.out HB5.out HEL.out ?_; intro v1 w6 ho hb hg; have HE6 := aM ho; have HB6 := aM hb; clear ho hb hg)
    go_roundw
    case rel => exact ⟨i + 1, _, _, rfl, by go_num, by omega, ⟨by omega⟩, HON, HE6, HB6⟩
    case measure => simp [intOf]; omega
   ·have d3 : decide ((i : Int) < (ns.length : Int)) = false := decide_eq_false (by omega)
    have HON := aM (HO.out.plain HBN.out.1 HBN.out.2)
    go_wp2
    go_roundw
    case rel => exact ⟨i + 1, _, _, rfl, by go_num, by omega, ⟨by omega⟩, HON, HE4, HB4⟩
    case measure => simp [intOf]; omega
  ·have HD := aM (HO.out.done hi)
   have hcase : (decide ((300 : Int) < (ps.length : Int)) = true ∧ i = 300) ∨ (decide ((i : Int) < (ps.length : Int)) = false ∧ ¬ i < ps.length) := by
    by_cases h1 : i < ps.length
    ·exact .inl ⟨decide_eq_true (by omega), by omega⟩
    ·exact .inr ⟨decide_eq_false (by omega), h1⟩
   have HI3 := aM hi
   obtain ⟨A6, c6, hv6, l6, g6⟩ := Kd.R_reads HE.out
   subst hv6
   have CF := aM (Go.Proofs.YtkhkmhbledigpaaGreatDoor.Maps.FitPairs (c := c6) E wr g6 (by have := HD.out.2.1; omega))
   have HOK := aM HD.out.2.2.1
   have HRW := aM HD.out.2.2.2
   have HTS := aM HD.out.1
   generalize fitM (ofP E) = f at CF HOK HRW
   have hx : ∀ (A : Option Addr) (c : Nat) (W : World) (h : kp.C W A (toP f).length (toP f)), Calls Tryz.prog 15 #[.string t, .slice A (toP f).length c] W fun e w' => e = .returned (.tuple #[.string t, .int .i64 0]) ∧ Below W.heap.size W w' := fun A c W h => by
    have hx := implSubst (repl_braced f) t (lb t) HTS.out (by rw [lb_length]; have := HTS.out; omega) HRW.out HOK.out (by decide) A c W h
    rw [mk_lb] at hx
    exact hx
   have CX := aM hx
   clear hx HD g6 HE hlt hi
   rcases hcase with ⟨hd1, rfl⟩ | ⟨hd1, hn1⟩
   all_goals
    go_wp2_with fail
    refine CF.out.mono ?_
    rintro e w3 ⟨v, rfl, hr, hb⟩
    have HB3 := aM (hb_then HB.out hb)
    obtain ⟨A3, c3, rfl, l3, g3⟩ := Kd.R_reads hr
    have CT := aM (Go.Proofs.YtkhkmhbledigpaaGreatDoor.Maps.pairsTo (c := c3) (toP f) w3 g3 (HOK.out.len (by decide)))
    clear hb CF hr g3 HB
    go_wp2_with fail
    refine CT.out.mono ?_
    rintro e w4 ⟨v, rfl, hr, hb⟩
    have HB4 := aM (hb_then HB3.out hb)
    obtain ⟨A4, c4, rfl, l4, g4⟩ := Kd.R_reads hr
    have CI := aM (CX.out A4 c4 w4 g4)
    clear hb CT hr g4 HB3 CX
    go_wp2_with fail
    refine CI.out.mono ?_
    rintro e w5 ⟨rfl, hb⟩
    have HB5 := aM (hb_then HB4.out hb)
    have CL := aM (substLives w5)
    have he : (t.toList == t.toList) = true := beq_self_eq_true _
    clear hb CI HB4
    go_wp2_with fail
    refine CL.out.mono ?_
    rintro e w6 ⟨rfl, hb⟩
    have HB6 := aM (hb_then HB5.out hb)
    clear hb CL
    go_wp2
    go_ret
    exact ⟨rfl, HB6.out⟩
theorem lawOwnRow (A : Option Addr) (c : Nat) (ps : List BA) (B : Option Addr) (d : Nat) (ns : List BA) (w : World) (hP : Kd.string.C w A ps.length ps) (hc : ps.length ≤ c) (hN : Kd.string.C w B ns.length ns) (hd : ns.length ≤ d) (hT : True) :
  Calls Tryz.prog 4 #[.slice A ps.length c, .slice B ns.length d] w fun e w' => e = .returned (.bool true) ∧ Below w.heap.size w w' := lawOwn A B c d ps ns w hP hc hN hd
end Go.Proofs.YtkhkmhbledigpaaGreatDoor.Tr
namespace Go.Proofs.YtkhkmhbledigpaaGreatDoor.RowKit
open Go.RowKit Go.ChangeShapes Go.WideShapes Go.ChangeAt Go.Proofs.YtkhkmhbledigpaaGreatDoorW.PrintWords Go.Proofs.YtkhkmhbledigpaaGreatDoor.Str Go.Proofs.YtkhkmhbledigpaaGreatDoor.Kit
set_option linter.unusedVariables false
set_option linter.unusedSimpArgs false
theorem strs_arg {H : Type} {enc : TypeId × Value → H} {P : Program} {W : World} {base : Nat} {spare : Nat → Bool} {held : Bool} {t e : TypeId} {a : Option Addr} {len cap : Nat} {d : DataW H} {ps : List MemPlace}
  (ht : P.underlying t = some (.slice e)) (he : P.underlying e = some .string) (hc : P.cellsOf e = 1) (h : DataW.Trod enc P W base spare held t (.slice a len cap) d ps) :
  ∃ xs : List ByteArray, xs.length = len ∧ len ≤ cap ∧ Kd.string.C W a xs.length xs ∧ ((d = .nil ∧ xs = []) ∨ ∃ rest, d = .slice (strs xs) rest) := by
 obtain ⟨fuel, hf⟩ := h
 rcases open_strings ht he hc hf with ⟨hcs, hx⟩ | ⟨ad, l, c, ss, hcs, _, hl, hm, hss, hx, hcell, hws⟩
 ·simp [Value.cells] at hcs
  obtain ⟨rfl, rfl, rfl⟩ := hcs
  simp only [Prod.mk.injEq] at hx
  exact ⟨[], rfl, by omega, ⟨rfl, by simp, fun h => absurd h (by simp)⟩, .inl ⟨hx.1, rfl⟩⟩
 ·simp [Value.cells] at hcs
  obtain ⟨rfl, rfl, rfl⟩ := hcs
  simp only [Prod.mk.injEq] at hx
  have hlen : len ≤ ss.length := by rw [hss]; split <;> omega
  have hl2 : (ss.take len).length = len := by rw [List.length_take]; omega
  refine ⟨ss.take len, hl2, hl, ⟨rfl, by unfold maxLen at hm; omega, fun _ => ⟨ad, rfl, fun j p hp => ?_⟩⟩, .inr ⟨_, hx.1⟩⟩
  obtain ⟨hj, rfl⟩ := List.getElem?_eq_some_iff.1 hp
  refine ⟨[.string (ss.take len)[j]], rfl, rfl, fun i u hu => ?_⟩
  have hi : i < 1 := (List.getElem?_eq_some_iff.1 hu).1
  obtain rfl : i = 0 := by omega
  have hu' : Value.string (ss.take len)[j] = u := by simpa using hu
  subst hu'
  have : j * Kd.string.sz + 0 = j := by simp [Kd.string, Kd.scalar]
  rw [this, hcell j (by rw [hl2] at hj; omega)]
  rw [hl2] at hj
  simp [List.getD_eq_getElem?_getD, List.getElem?_eq_getElem (show j < ss.length by omega)]
end Go.Proofs.YtkhkmhbledigpaaGreatDoor.RowKit
namespace Go.Proofs.YtkhkmhbledigpaaGreatDoor.DTabsFnSubstOwn
set_option linter.unusedVariables false
open Go.RowKit Go.Lib
theorem any {W : World} (hL : laidMetH Tryz.prog Rows.fnSubstOwnRow.laid W) : True := trivial
end Go.Proofs.YtkhkmhbledigpaaGreatDoor.DTabsFnSubstOwn
