/- Parts of the proof, laid together: SubSort, SubPick, SubOps, SubBraced, SubImpl, QLawsSubstBare, QSpecSubstPlain, QSpecSubstLetter, QLawsZzFits2, SubBare, SubName, LawSubPlain, SubWord, SubHit, SubForm, AsFact, AsErr, SubFail, SubOpImpl, SubWords, SubSigns, QLawsSubstPlainest, SubPlainest. -/
import Derived.Test.YtkhkmhbledigpaaGreatDoorSi4
import Derived.Test.YtkhkmhbledigpaaGreatDoorSi3
import Derived.LaidEql
import Derived.Stop.Asserts
namespace Go.Proofs.YtkhkmhbledigpaaGreatDoor.Tr
open Go.RowKit Go.Proofs.YtkhkmhbledigpaaGreatDoorW.PrintWords Go.Proofs.YtkhkmhbledigpaaGreatDoorW.PrintLast Go.Proofs.YtkhkmhbledigpaaGreatDoor.Str Go.Proofs.YtkhkmhbledigpaaGreatDoor.Kit Go.Proofs.YtkhkmhbledigpaaGreatDoor.MapV Go.Proofs.YtkhkmhbledigpaaGreatDoor.Frame Go.Proofs.YtkhkmhbledigpaaGreatDoor.PS Go.Proofs.YtkhkmhbledigpaaGreatDoor.Flat Go.Sort Go.Lib
set_option linter.unusedVariables false
set_option linter.unusedSimpArgs false
def idx (t s : BA) : Int := findI (lb s) (lb t)
theorem ends_index_l (t s : BA) (ht : t.size < 2305843009213693952) (hs : s.size < 2305843009213693952) : ∀ (d j : Nat), j + d = t.size + 1 → Str.At (lb s) (lb t) j → Ends (fun r => r = idx t s) (fun k => template_zzIndex.l0 k t s (j : Int)) := by
 intro d
 induction d with
 | zero =>
  intro j hj hA
  have := hA.1
  rw [lb_length] at this
  omega
 | succ d ih =>
  intro j hj hA
  have hjl := hA.1
  rw [lb_length] at hjl
  refine Ends.step (fun k => by simp only [template_zzIndex.l0]; rfl) ?_
  rw [wrapN j s.size (by omega), wrap1 j (by omega)]
  by_cases hlt : j + s.size ≤ t.size
  ·refine Ends.yes (by omega) (Ends.yes (by omega) (Ends.yes (by omega) (Ends.ite (fun e => ?_) (fun e => ?_))))
   ·have e' : (t.extract j (j + s.size)).toList = s.toList := e
    exact Ends.now (hA.hit (by rw [lb_length, lb_length]; exact hlt) (by rw [lb_length, ← lb_piece, ← toList_lb, ← toList_lb]; exact e')).symm
   ·have e' : ¬ (t.extract j (j + s.size)).toList = s.toList := e
    exact ih (j + 1) (by omega) (hA.next (by rw [lb_length, lb_length]; exact hlt) (by rw [lb_length, ← lb_piece, ← toList_lb, ← toList_lb]; exact e'))
  ·exact Ends.no (by omega) (Ends.now (hA.miss (by rw [lb_length, lb_length]; omega)).symm)
theorem ends_index (t s : BA) (ht : t.size < 2305843009213693952) (hs : s.size < 2305843009213693952) : Ends (fun r => r = idx t s) (fun k => template_zzIndex.f k t s) := ends_index_l t s ht hs (t.size + 1) 0 (by omega) (Str.At.start _ _)
theorem zzIndex_c (t s : BA) (ht : t.size < 2305843009213693952) (hs : s.size < 2305843009213693952) (w : World) : Calls Tryz.prog 88 #[.string t, .string s] w fun e w' => e = .returned (.int .i64 (idx t s)) ∧ Drawn0 w w' := by
 obtain ⟨k, hk⟩ := (ends_index t s ht hs).ev.rounds
 exact template_zzIndex.calls k t s _ w hk
def encT (x : BA × Nat) : List Value := [.string x.1, .func (.func x.2) #[] #[]]
theorem encT_one (x : BA × Nat) : ∀ u ∈ encT x, u.oneCell' = true := by
 intro u hu
 simp [encT] at hu
 rcases hu with rfl | rfl <;> rfl
instance : Inhabited (BA × Nat) := ⟨(⟨#[]⟩, 0)⟩
def ltT (t : BA) (x y : BA × Nat) : Bool := decide (0 ≤ idx t x.1) && (decide (idx t y.1 < 0) || decide (idx t x.1 < idx t y.1))
theorem ltT_iff (t : BA) (x y : BA × Nat) : ltT t x y = true ↔ 0 ≤ idx t x.1 ∧ (idx t y.1 < 0 ∨ idx t x.1 < idx t y.1) := by simp [ltT]
theorem swo_ltT (t : BA) : SWO (ltT t) where
 irrefl x := by
  rw [Bool.eq_false_iff]
  intro h
  have := (ltT_iff t x x).1 h
  omega
 trans x y z h1 h2 := by
  have a := (ltT_iff t x y).1 h1
  have b := (ltT_iff t y z).1 h2
  exact (ltT_iff t x z).2 (by omega)
 ntrans x y z h1 h2 := by
  rw [Bool.eq_false_iff] at *
  intro h
  have a := (ltT_iff t x z).1 h
  have b : ¬ (0 ≤ idx t x.1 ∧ (idx t y.1 < 0 ∨ idx t x.1 < idx t y.1)) := fun k => h1 ((ltT_iff t x y).2 k)
  have c : ¬ (0 ≤ idx t y.1 ∧ (idx t z.1 < 0 ∨ idx t y.1 < idx t z.1)) := fun k => h2 ((ltT_iff t y z).2 k)
  omega
noncomputable def opsT : TypeInfo := (Tryz.prog.info? 142).get (by kernel_rfl)
noncomputable def opT : TypeInfo := (Tryz.prog.info? 141).get (by kernel_rfl)
theorem opT_k (n : Nat) (h2 : 2 ≤ n) : Lib.swapperK n opT 25 = 9 := by
 have a : opT.hasPointers = true := by kernel_rfl
 have b : opT.bytes = 24 := by kernel_rfl
 have c : (n == 0) = false := by simp; omega
 have d : (n == 1) = false := by simp; omega
 simp [Lib.swapperK, a, b, c, d]
set_option maxHeartbeats 2000000 in
set_option maxRecDepth 100000 in
theorem ops_less (t : BA) (ht : t.size < 2305843009213693952) (blk off c tb sb size : Nat) (W : World) (G : Nat → BA) (hG : ∀ i, i < size → (G i).size < 2305843009213693952) (h0 : W.cell? ⟨tb, 0, none⟩ = some (.string t)) (hs : W.cell? ⟨sb, 0, none⟩ = some (.slice (some ⟨blk, off, none⟩) size c))
  (hc : ∀ i, i < size → W.cell? ⟨blk, off + i * 2, none⟩ = some (.string (G i))) (i j : Nat) (hi : i < size) (hj : j < size) (_hsz : size < 4611686018427387904) :
  Calls Tryz.prog 91 #[.int .i64 i, .int .i64 j, .pointer (some ⟨tb, 0, none⟩), .pointer (some ⟨sb, 0, none⟩)] W fun e w' => e = .returned (.bool (ltT t (G i, 0) (G j, 0))) ∧ ∃ q, w' = W.drewN q := by
 have ci := hc i hi
 have cj := hc j hj
 have qi : (i : Int) < (size : Int) := by omega
 have qj : (j : Int) < (size : Int) := by omega
 have CI := aM (fun W => zzIndex_c t (G i) ht (hG i hi) W)
 have CJ := aM (fun W => zzIndex_c t (G j) ht (hG j hj) W)
 have HR := aM (show ∀ a b : Int, a = idx t (G i) → b = idx t (G j) → ltT t (G i, 0) (G j, 0) = (decide (0 ≤ a) && (decide (b < 0) || decide (a < b))) from fun a b ha hb => by rw [ha, hb]; rfl)
 clear hG hc
 go_enter Tryz.func91, Tryz.ntmps91
 go_wp2_with fail
 refine start_ (n := 8) (S := fun w' => w'.cell? ⟨tb, 0, none⟩ = some (.string t) ∧ w'.cell? ⟨sb, 0, none⟩ = some (.slice (some ⟨blk, off, none⟩) size c) ∧ w'.cell? ⟨blk, off + i * 2, none⟩ = some (.string (G i))) (ds := [6]) #[false, false, false, false, false, false, false, false] (by kernel_rfl) rfl rfl ⟨h0, hs, ci⟩ (fun hHeld => ?_)
 refine pure_ (i := 2) (N := some 11) (v := ?_) (a' := ?_) #[false, false, true, false, false, false, false, false] rfl rfl (by kernel_rfl) (fun _ _ _ h => h) (Or.inl ⟨by rfl, ?_⟩) ?_ ?_
 rotate_left
 ·intro w'; go_simp; with_reducible rfl
 rotate_left
 ·simp only [Act.put, sA, sB, sC, i64_w, i32_w]; rfl
 refine take_ (i := 0) (N := some 9) (v := ?_) (a' := ?_) #[true, false, true, false, false, false, false, false] rfl rfl (by kernel_rfl) (fun _ _ _ h => h) (Or.inl ⟨by rfl, ?_⟩) hHeld ?_ ?_
 rotate_left
 ·rintro w' ⟨s0, s1, s2⟩
  go_simp; with_reducible rfl
 rotate_left
 ·simp only [Act.put, sA, sB, sC, i64_w, i32_w]; rfl
 refine take_ (i := 1) (N := some 10) (v := ?_) (a' := ?_) #[true, true, true, false, false, false, false, false] rfl rfl (by kernel_rfl) (fun _ _ _ h => h) (Or.inl ⟨by rfl, ?_⟩) hHeld ?_ ?_
 rotate_left
 ·rintro w' ⟨s0, s1, s2⟩
  go_simp; with_reducible rfl
 rotate_left
 ·simp only [Act.put, sA, sB, sC, i64_w, i32_w]; rfl
 refine pure_ (i := 3) (N := some 12) (v := ?_) (a' := ?_) #[true, true, true, true, false, false, false, false] rfl rfl (by kernel_rfl) (fun _ _ _ h => h) (Or.inl ⟨by rfl, ?_⟩) ?_ ?_
 rotate_left
 ·intro w'; go_simp; with_reducible rfl
 rotate_left
 ·simp only [Act.put, sA, sB, sC, i64_w, i32_w]; rfl
 refine pure_ (i := 4) (N := some 13) (v := ?_) (a' := ?_) #[true, true, true, true, true, false, false, false] rfl rfl (by kernel_rfl) (fun _ _ _ h => h) (Or.inl ⟨by rfl, ?_⟩) ?_ ?_
 rotate_left
 ·intro w'; go_simp; with_reducible rfl
 rotate_left
 ·simp only [Act.put, sA, sB, sC, i64_w, i32_w]; rfl
 refine take_ (i := 5) (N := some 14) (v := ?_) (a' := ?_) #[true, true, true, true, true, true, false, false] rfl rfl (by kernel_rfl) (fun _ _ _ h => h) (Or.inl ⟨by rfl, ?_⟩) hHeld ?_ ?_
 rotate_left
 ·rintro w' ⟨s0, s1, s2⟩
  go_simp; with_reducible rfl
 rotate_left
 ·simp only [Act.put, sA, sB, sC, i64_w, i32_w]; rfl
 refine last_ (i := 6) (N := some 15) #[true, true, true, true, true, true, true, false] rfl rfl (by kernel_rfl) (by decide) (fun K hK => ?_)
 refine goes_ Tryz.func88 (by kernel_rfl) rfl #[.string t, .string (G i)] (by rfl) rfl rfl (by simp only [List.map_toArray, List.map_cons, List.map_nil]; rfl) ?_
 with_reducible refine (CI.out _).mono ?_
 rintro e w4 ⟨rfl, ⟨nd, rfl⟩⟩
 refine ⟨_, rfl, ?_⟩
 refine hK.out _ _ ?_
 clear hK K
 refine norm_ (a' := ?_) ?_ ?_
 rotate_left
 ·show Act.put _ (some 15) _ = _
  simp only [Act.put, sA, sB, sC, i64_w, i32_w]; rfl
 refine pure_ (i := 7) (N := some 7) (v := ?_) (a' := ?_) #[true, true, true, true, true, true, true, true] rfl rfl (by kernel_rfl) (fun _ _ _ h => h) (Or.inl ⟨by rfl, ?_⟩) ?_ ?_
 rotate_left
 ·intro w'; go_simp; with_reducible rfl
 rotate_left
 ·simp only [Act.put, sA, sB, sC, i64_w, i32_w]; rfl
 refine done_ (by kernel_rfl) ?_
 have hbd := hb_then (below_drew (Below.refl _ W)) (Drawn0.below (⟨⟨nd, rfl⟩⟩ : Drawn0 W.drew (W.drew.drewN nd)))
 have h02 := pw_cell_below hbd h0
 have hs2 := pw_cell_below hbd hs
 have cj2 := pw_cell_below hbd cj
 clear CI
 generalize hW2 : W.drew.drewN nd = W2 at h02 hs2 cj2 ⊢
 have HW2 := aM hW2
 clear hW2 hbd h0 hs ci cj
 go_wp2_with fail
 refine start_ (n := 8) (S := fun w' => w'.cell? ⟨tb, 0, none⟩ = some (.string t) ∧ w'.cell? ⟨sb, 0, none⟩ = some (.slice (some ⟨blk, off, none⟩) size c) ∧ w'.cell? ⟨blk, off + j * 2, none⟩ = some (.string (G j))) (ds := [6]) #[false, false, false, false, false, false, false, false] (by kernel_rfl) rfl rfl ⟨h02, hs2, cj2⟩ (fun hHeld => ?_)
 refine pure_ (i := 2) (N := some 18) (v := ?_) (a' := ?_) #[false, false, true, false, false, false, false, false] rfl rfl (by kernel_rfl) (fun _ _ _ h => h) (Or.inl ⟨by rfl, ?_⟩) ?_ ?_
 rotate_left
 ·intro w'; go_simp; with_reducible rfl
 rotate_left
 ·simp only [Act.put, sA, sB, sC, i64_w, i32_w]; rfl
 refine take_ (i := 0) (N := some 16) (v := ?_) (a' := ?_) #[true, false, true, false, false, false, false, false] rfl rfl (by kernel_rfl) (fun _ _ _ h => h) (Or.inl ⟨by rfl, ?_⟩) hHeld ?_ ?_
 rotate_left
 ·rintro w' ⟨s0, s1, s2⟩
  go_simp; with_reducible rfl
 rotate_left
 ·simp only [Act.put, sA, sB, sC, i64_w, i32_w]; rfl
 refine take_ (i := 1) (N := some 17) (v := ?_) (a' := ?_) #[true, true, true, false, false, false, false, false] rfl rfl (by kernel_rfl) (fun _ _ _ h => h) (Or.inl ⟨by rfl, ?_⟩) hHeld ?_ ?_
 rotate_left
 ·rintro w' ⟨s0, s1, s2⟩
  go_simp; with_reducible rfl
 rotate_left
 ·simp only [Act.put, sA, sB, sC, i64_w, i32_w]; rfl
 refine pure_ (i := 3) (N := some 19) (v := ?_) (a' := ?_) #[true, true, true, true, false, false, false, false] rfl rfl (by kernel_rfl) (fun _ _ _ h => h) (Or.inl ⟨by rfl, ?_⟩) ?_ ?_
 rotate_left
 ·intro w'; go_simp; with_reducible rfl
 rotate_left
 ·simp only [Act.put, sA, sB, sC, i64_w, i32_w]; rfl
 refine pure_ (i := 4) (N := some 20) (v := ?_) (a' := ?_) #[true, true, true, true, true, false, false, false] rfl rfl (by kernel_rfl) (fun _ _ _ h => h) (Or.inl ⟨by rfl, ?_⟩) ?_ ?_
 rotate_left
 ·intro w'; go_simp; with_reducible rfl
 rotate_left
 ·simp only [Act.put, sA, sB, sC, i64_w, i32_w]; rfl
 refine take_ (i := 5) (N := some 21) (v := ?_) (a' := ?_) #[true, true, true, true, true, true, false, false] rfl rfl (by kernel_rfl) (fun _ _ _ h => h) (Or.inl ⟨by rfl, ?_⟩) hHeld ?_ ?_
 rotate_left
 ·rintro w' ⟨s0, s1, s2⟩
  go_simp; with_reducible rfl
 rotate_left
 ·simp only [Act.put, sA, sB, sC, i64_w, i32_w]; rfl
 refine last_ (i := 6) (N := some 22) #[true, true, true, true, true, true, true, false] rfl rfl (by kernel_rfl) (by decide) (fun K hK => ?_)
 refine goes_ Tryz.func88 (by kernel_rfl) rfl #[.string t, .string (G j)] (by rfl) rfl rfl (by simp only [List.map_toArray, List.map_cons, List.map_nil]; rfl) ?_
 with_reducible refine (CJ.out _).mono ?_
 rintro e w5 ⟨rfl, ⟨nd2, rfl⟩⟩
 refine ⟨_, rfl, ?_⟩
 refine hK.out _ _ ?_
 clear hK K
 refine norm_ (a' := ?_) ?_ ?_
 rotate_left
 ·show Act.put _ (some 22) _ = _
  simp only [Act.put, sA, sB, sC, i64_w, i32_w]; rfl
 refine pure_ (i := 7) (N := some 8) (v := ?_) (a' := ?_) #[true, true, true, true, true, true, true, true] rfl rfl (by kernel_rfl) (fun _ _ _ h => h) (Or.inl ⟨by rfl, ?_⟩) ?_ ?_
 rotate_left
 ·intro w'; go_simp; with_reducible rfl
 rotate_left
 ·simp only [Act.put, sA, sB, sC, i64_w, i32_w]; rfl
 refine done_ (by kernel_rfl) ?_
 have hr := HR.out _ _ rfl rfl
 have HR2 := aM hr
 clear hr HR
 generalize idx t (G i) = a at HR2 ⊢
 generalize idx t (G j) = b at HR2 ⊢
 clear CJ h02 hs2 cj2
 have HWN := aM (show ∃ q, W2.drewN (1 + nd2) = W.drewN q from by
  have e1 : W.drew.drewN nd = W.drewN (1 + nd) := by simp
  have e2 : (W.drewN (1 + nd)).drewN (1 + nd2) = W.drewN (1 + nd + (1 + nd2)) := by simp
  exact ⟨1 + nd + (1 + nd2), by rw [← HW2.out, e1, e2]⟩)
 by_cases ha : a < 0
 ·have d1 : decide (a < 0) = true := decide_eq_true ha
  have e1 : ltT t (G i, 0) (G j, 0) = false := by rw [HR2.out, decide_eq_false (by omega)]; rfl
  have HE := aM e1
  clear e1 ha
  go_wp2
  go_ret
  exact ⟨by rw [HE.out]; rfl, HWN.out⟩
 ·have d1 : decide (a < 0) = false := decide_eq_false ha
  by_cases hb : b < 0
  ·have d2 : decide (b < 0) = true := decide_eq_true hb
   have HE := aM (show ltT t (G i, 0) (G j, 0) = true by rw [HR2.out, decide_eq_true (by omega), d2]; rfl)
   clear ha hb
   go_wp2
   go_ret
   exact ⟨by rw [HE.out]; rfl, HWN.out⟩
  ·have d2 : decide (b < 0) = false := decide_eq_false hb
   have HE := aM (show ltT t (G i, 0) (G j, 0) = decide (a < b) by rw [HR2.out, decide_eq_true (by omega), d2]; simp)
   clear ha hb
   go_wp2
   go_ret
   exact ⟨by rw [HE.out]; rfl, HWN.out⟩
end Go.Proofs.YtkhkmhbledigpaaGreatDoor.Tr
namespace Go.Proofs.YtkhkmhbledigpaaGreatDoor.Tr
open Go.RowKit Go.Proofs.YtkhkmhbledigpaaGreatDoorW.PrintWords Go.Proofs.YtkhkmhbledigpaaGreatDoorW.PrintLast Go.Proofs.YtkhkmhbledigpaaGreatDoor.Str Go.Proofs.YtkhkmhbledigpaaGreatDoor.Kit Go.Proofs.YtkhkmhbledigpaaGreatDoor.MapV Go.Proofs.YtkhkmhbledigpaaGreatDoor.Frame Go.Proofs.YtkhkmhbledigpaaGreatDoor.PS Go.Proofs.YtkhkmhbledigpaaGreatDoor.Flat Go.Sort Go.Lib
set_option linter.unusedVariables false
set_option linter.unusedSimpArgs false
def opsL : List (BA × Nat) := [(⟨#[58, 63]⟩, 63), (⟨#[63]⟩, 62), (⟨#[58, 45]⟩, 59), (⟨#[45]⟩, 58), (⟨#[58, 43]⟩, 61), (⟨#[43]⟩, 60)]
def opAt (i : Fin 6) : BA × Nat := opsL[i.val]'(by have := i.isLt; show i.val < 6; exact this)
theorem op_small (i : Fin 6) : (opAt i).1.size < 2305843009213693952 := by
 revert i
 decide
def encF (i : Fin 6) : List Value := encT (opAt i)
theorem encF_len (x : Fin 6) : (encF x).length = 2 := rfl
theorem encF_one (x : Fin 6) : ∀ u ∈ encF x, u.oneCell' = true := encT_one (opAt x)
def ltF (t : BA) (i j : Fin 6) : Bool := ltT t (opAt i) (opAt j)
theorem swo_ltF (t : BA) : SWO (ltF t) where
 irrefl x := (swo_ltT t).irrefl _
 trans x y z h1 h2 := (swo_ltT t).trans _ _ _ h1 h2
 ntrans x y z h1 h2 := (swo_ltT t).ntrans _ _ _ h1 h2
def six : Array (Fin 6) := #[0, 1, 2, 3, 4, 5]
abbrev opsCells : Array Value := #[.string ⟨#[58, 63]⟩, .func (.func 63) #[] #[], .string ⟨#[63]⟩, .func (.func 62) #[] #[], .string ⟨#[58, 45]⟩, .func (.func 59) #[] #[], .string ⟨#[45]⟩, .func (.func 58) #[] #[], .string ⟨#[58, 43]⟩, .func (.func 61) #[] #[], .string ⟨#[43]⟩, .func (.func 60) #[] #[]]
set_option maxRecDepth 100000 in
theorem ops_sort (t : BA) (ht : t.size < 2305843009213693952) (blk c tb sb : Nat) (w : World) (hH : HoldsK encF 2 w blk 0 six) (hblk : blk < w.heap.size)
  (h0 : w.cell? ⟨tb, 0, none⟩ = some (.string t)) (ht1 : tb < w.heap.size) (ht2 : tb ≠ blk) (hBs : w.cell? ⟨sb, 0, none⟩ = some (.slice (some ⟨blk, 0, none⟩) 6 c)) (hB1 : sb < w.heap.size) (hB2 : sb ≠ blk) :
  Calls Tryz.prog 90 #[.iface 142 (.slice (some ⟨blk, 0, none⟩) 6 c), .func (.func 91) #[] #[.pointer (some ⟨tb, 0, none⟩), .pointer (some ⟨sb, 0, none⟩)]] w fun e w' =>
   e = .returned (.tuple #[]) ∧ ∃ d' n os, PermIn 0 6 six d' ∧ SortedIn (ltF t) 0 6 d' ∧ w' = grow (putRowK encF 2 (Sort.ahead w n) blk 0 d') os := by
 have hless : LessReadsK Tryz.prog 91 #[.pointer (some ⟨tb, 0, none⟩), .pointer (some ⟨sb, 0, none⟩)] encF 2 (ltF t) blk 0 6 w := by
  intro m os dk hs i j hi hj
  have e : sortWorldK encF 2 w blk 0 m dk os = putRowK encF 2 (grow (Sort.ahead w m) os) blk 0 dk := by
   unfold sortWorldK; rw [putRowK_grow _ _ (Sort.ahead w m) _ blk 0 _ hblk]
  have hHg : HoldsK encF 2 (grow (Sort.ahead w m) os) blk 0 six := holdsK_grow _ _ _ _ blk 0 six hblk (holdsK_ahead _ _ _ _ _ _ _ hH)
  refine ops_less t ht blk 0 c tb sb 6 _ (fun t => (opAt dk[t]!).1) (fun i hi => op_small _) ?_ ?_ (fun t ht => ?_) i j hi hj (by omega)
  ·rw [e, cell?_putRowK_other _ _ _ blk 0 dk _ (by exact ht2), cell?_grow _ _ _ (by exact ht1)]; exact h0
  ·rw [e, cell?_putRowK_other _ _ _ blk 0 dk _ (by exact hB2), cell?_grow _ _ _ (by exact hB1)]; exact hBs
  ·rw [e]; exact ((holdsK_putRowK _ _ _ blk 0 six dk hHg hs).cell (i := t) (c := 0) (by omega) (by omega)).1
 exact Any.sort_Slice_cells_sorted Tryz.laysGg6 142 141 opsT opT (by kernel_rfl) (by kernel_rfl) (by kernel_rfl) (by kernel_rfl) 25 (fun _ => by kernel_rfl) encF 2 encF_len (by kernel_rfl) (fun _ => by kernel_rfl)
  encF_one (ltF t) (swo_ltF t) 91 _
  (enters_of Tryz.func91 (by kernel_rfl) rfl) blk 0 c six (by decide) (by decide) 106 (by rw [opT_k _ (by decide)]; kernel_rfl) false
  (fun args W => run_callFunc_extern Tryz.func106 (by kernel_rfl) (by kernel_rfl) (by kernel_rfl) (e := Extern.ReflectliteSwapper.swap false) (by kernel_rfl) args W) w hless hH hblk
theorem six_holds (w : World) : HoldsK encF 2 (w.alloc (.cells opsCells 141)) w.heap.size 0 six := by
 have hown : (w.alloc (.cells opsCells 141)).ownsRow w.heap.size 141 2 (.slice (some ⟨w.heap.size, 0, none⟩) six.toList.length 6) six.toList.length (six.toList.flatMap encF) := by
  refine ⟨rfl, .inr ⟨w.heap.size, 6, opsCells, rfl, Nat.le_refl _, cb_new w _, by decide, by unfold maxLen; decide, rfl, rfl⟩⟩
 have := holdsK_of_own encF_len hown
 exact this
theorem holdsK_alloc_ {w : World} {b : Nat} {o : Obj} (h : HoldsK encF 2 w b 0 six) : HoldsK encF 2 (w.alloc o) b 0 six := by
 intro j hj
 obtain ⟨h1, h2⟩ := h j hj
 have hl := World.block_lt_of_cell? w _ h1
 exact ⟨(World.cell?_alloc_lt _ _ _ hl).trans h1, (World.frozen?_alloc_old _ _ _ (Nat.ne_of_lt hl)).trans h2⟩
set_option maxHeartbeats 1600000 in
set_option maxRecDepth 100000 in
theorem getSubst (t : BA) (ht : t.size < 2305843009213693952) (w : World) :
  Calls Tryz.prog 81 #[.string t] w fun e w' => ∃ k : Fin 6, e = .returned (.tuple #[.string (opAt k).1, .func (.func (opAt k).2) #[] #[]]) ∧ (∀ j : Fin 6, ltF t j k = false) ∧ Below w.heap.size w w' := by
 have hmf : ∀ (fn : Fn) (first cap : Array Value) (w : World), (Instr.makeFunc fn first cap).run Tryz.prog w = .ok (.func fn first cap) w := fun _ _ _ _ => rfl
 have hH := six_holds (w.alloc (.cells #[.string t] 9))
 rw [World.size_alloc] at hH
 have hb1 := below_alloc (below_alloc (below_alloc (Below.refl w.heap.size w) (.cells #[.string t] 9)) (.cells opsCells 141)) (.cells #[.slice (some ⟨w.heap.size + 1, 0, none⟩) 6 6] 142)
 have HB := aM hb1
 have hc1 := cb_new ((w.alloc (.cells #[.string t] 9)).alloc (.cells opsCells 141)) (.cells #[.slice (some ⟨w.heap.size + 1, 0, none⟩) 6 6] 142)
 simp only [World.size_alloc] at hc1
 have HS := aM (ops_sort t ht (w.heap.size + 1) 6 w.heap.size (w.heap.size + 1 + 1) (((w.alloc (.cells #[.string t] 9)).alloc (.cells opsCells 141)).alloc (.cells #[.slice (some ⟨w.heap.size + 1, 0, none⟩) 6 6] 142)) (holdsK_alloc_ hH) (by simp only [World.size_alloc]; omega) (cb_cell (i := 0) (cb_alloc (cb_alloc (cb_new w _) _) _) rfl) (by simp only [World.size_alloc]; omega) (by omega) (cb_cell (i := 0) hc1 rfl) (by simp only [World.size_alloc]; omega) (by omega))
 have HC1 := aM hc1
 clear hb1 hc1
 go_enter Tryz.func81, Tryz.ntmps81
 go_wp2_with fail
 generalize hw1 : ((w.alloc (.cells #[.string t] 9)).alloc (.cells opsCells 141)).alloc (.cells #[.slice (some ⟨w.heap.size + 1, 0, none⟩) 6 6] 142) = w1 at HS HB HC1 hH ⊢
 refine HS.out.mono ?_
 rintro e w2 ⟨rfl, d', n, os, hp, hso, rfl⟩
 have hl1 : w.heap.size + 1 < w1.heap.size := by have := cb_lt HC1.out; omega
 have hds : d'.size = 6 := hp.1
 have hgr := grown_sortedK (enc := encF) (k := 2) (m := n) (ys := d') (os := os) hl1
 have hk1 : HoldsK encF 2 (putRowK encF 2 (Sort.ahead w1 n) (w.heap.size + 1) 0 d') (w.heap.size + 1) 0 d' := holdsK_putRowK _ _ _ _ 0 six d' (holdsK_ahead _ _ _ _ _ _ _ (by rw [← hw1]; exact holdsK_alloc_ hH)) hds
 have hk2 := holdsK_grow _ _ _ os (w.heap.size + 1) 0 d' (by rw [size_putRowK]; exact hl1) hk1
 generalize grow (putRowK encF 2 (Sort.ahead w1 n) (w.heap.size + 1) 0 d') os = w2 at hgr hk2 ⊢
 have hmin : ∀ j : Fin 6, ltF t j d'[0]! = false := by
  intro j
  have hm : j ∈ d'.toList := by
   have h3 := hp.2.2
   have e1 : d'.extract 0 6 = d' := by
    have e0 : d'.extract 0 d'.size = d' := by simp
    rw [hds] at e0
    exact e0
   rw [e1] at h3
   refine h3.symm.subset ?_
   show j ∈ ([0, 1, 2, 3, 4, 5] : List (Fin 6))
   revert j
   decide
  obtain ⟨m, hm, hj⟩ := List.getElem_of_mem hm
  have hm' : m < d'.size := by simpa using hm
  have hj' : d'[m]! = j := by rw [getElem!_pos d' m hm']; simpa using hj
  rcases Nat.eq_zero_or_pos m with rfl | h0
  ·rw [hj']
   exact (swo_ltF t).irrefl j
  ·rw [← hj']
   exact hso 0 m (Nat.zero_le _) h0 (by omega)
 have c0 := (hk2.cell (i := 0) (c := 0) (by omega) (by omega)).1
 have c1 := (hk2.cell (i := 0) (c := 1) (by omega) (by omega)).1
 generalize d'[0]! = k at hmin c0 c1
 have c0' : w2.cell? ⟨w.heap.size + 1, 0, none⟩ = some (.string (opAt k).1) := c0
 have c1' : w2.cell? ⟨w.heap.size + 1, 1, none⟩ = some (.func (.func (opAt k).2) #[] #[]) := c1
 have c2 : w2.cell? ⟨w.heap.size + 1 + 1, 0, none⟩ = some (.slice (some ⟨w.heap.size + 1, 0, none⟩) 6 6) := cb_cell (i := 0) ((hgr.block _ (cb_lt HC1.out) (by simp)).trans HC1.out) rfl
 have HB2 := aM (pw_below_grown HB.out _ HB.out.size hgr (fun k hk => by injection hk with hk; omega))
 have HMIN := aM hmin
 obtain ⟨sg, hsg⟩ : ∃ sg, (opAt k).1 = sg := ⟨_, rfl⟩
 obtain ⟨fn, hfn⟩ : ∃ fn, (opAt k).2 = fn := ⟨_, rfl⟩
 rw [hsg] at c0'
 rw [hfn] at c1'
 have HSF := aM (And.intro hsg hfn)
 clear hsg hfn c0 c1 hk1 hk2 hgr hp hso hds hmin hl1 HS HC1 hH hw1
 go_wp2
 go_quiet (fail)
 go_wp2
 go_ret2
 exact ⟨k, by rw [HSF.out.1, HSF.out.2]; rfl, HMIN.out, pw_below_drewN HB2.out _⟩
end Go.Proofs.YtkhkmhbledigpaaGreatDoor.Tr
namespace Go.Proofs.YtkhkmhbledigpaaGreatDoor.Tr
open Go.RowKit Go.Proofs.YtkhkmhbledigpaaGreatDoorW.PrintWords Go.Proofs.YtkhkmhbledigpaaGreatDoorW.PrintLast Go.Proofs.YtkhkmhbledigpaaGreatDoor.Str Go.Proofs.YtkhkmhbledigpaaGreatDoor.Kit Go.Proofs.YtkhkmhbledigpaaGreatDoor.MapV Go.Proofs.YtkhkmhbledigpaaGreatDoor.Frame Go.Proofs.YtkhkmhbledigpaaGreatDoor.PS
set_option linter.unusedVariables false
set_option linter.unusedSimpArgs false
theorem ends_contains (t s : BA) (ht : t.size < 2305843009213693952) (hs : s.size < 2305843009213693952) : Ends (fun r => r = decide (idx t s ≥ 0)) (fun k => template_zzContains.f k t s) := by
 unfold template_zzContains.f
 refine Ends.bind (ends_index t s ht hs) (fun r hr => ?_)
 subst hr
 exact Ends.now rfl
theorem contains_c (t s : BA) (b : Bool) (hb : decide (idx t s ≥ 0) = b) (ht : t.size < 2305843009213693952) (hs : s.size < 2305843009213693952) (w : World) : Calls Tryz.prog 79 #[.string t, .string s] w fun e w' => e = .returned (.bool b) ∧ Drawn0 w w' := by
 subst hb
 obtain ⟨k, hk⟩ := (ends_contains t s ht hs).ev.rounds
 exact template_zzContains.calls k t s _ w hk
abbrev notUsed : Value := .tuple #[.string ⟨#[]⟩, .bool false, .nilIface]
theorem absence_no (t : BA) (ht : t.size < 2305843009213693952) (b : Bool) (hn : idx t (if b then ⟨#[58, 45]⟩ else ⟨#[45]⟩) < 0) (ev : Value) (w : World) :
  Calls Tryz.prog 72 #[.string t, ev, .bool b] w fun e w' => e = .returned notUsed ∧ Drawn0 w w' := by
 have CC := aM (fun W => contains_c t (if b then ⟨#[58, 45]⟩ else ⟨#[45]⟩) false (decide_eq_false (by omega)) ht (by cases b <;> decide) W)
 clear hn
 go_enter Tryz.func72, Tryz.ntmps72
 cases b
 all_goals
  go_wp2_with fail
  refine (CC.out _).mono ?_
  rintro e w1 ⟨rfl, ⟨nd, rfl⟩⟩
  go_wp2
  go_ret3
  exact ⟨rfl, ⟨⟨nd, rfl⟩⟩⟩
theorem presence_no (t : BA) (ht : t.size < 2305843009213693952) (b : Bool) (hn : idx t (if b then ⟨#[58, 43]⟩ else ⟨#[43]⟩) < 0) (ev : Value) (w : World) :
  Calls Tryz.prog 73 #[.string t, ev, .bool b] w fun e w' => e = .returned notUsed ∧ Drawn0 w w' := by
 have CC := aM (fun W => contains_c t (if b then ⟨#[58, 43]⟩ else ⟨#[43]⟩) false (decide_eq_false (by omega)) ht (by cases b <;> decide) W)
 clear hn
 go_enter Tryz.func73, Tryz.ntmps73
 cases b
 all_goals
  go_wp2_with fail
  refine (CC.out _).mono ?_
  rintro e w1 ⟨rfl, ⟨nd, rfl⟩⟩
  go_wp2
  go_ret3
  exact ⟨rfl, ⟨⟨nd, rfl⟩⟩⟩
theorem required_no (t sg : BA) (ht : t.size < 2305843009213693952) (hs : sg.size < 2305843009213693952) (hn : idx t sg < 0) (ev fv : Value) (w : World) :
  Calls Tryz.prog 74 #[.string t, ev, .string sg, fv] w fun e w' => e = .returned notUsed ∧ Drawn0 w w' := by
 have CC := aM (fun W => contains_c t sg false (decide_eq_false (by omega)) ht hs W)
 clear hn
 go_enter Tryz.func74, Tryz.ntmps74
 go_wp2_with fail
 refine (CC.out _).mono ?_
 rintro e w1 ⟨rfl, ⟨nd, rfl⟩⟩
 go_wp2
 go_ret3
 exact ⟨rfl, ⟨⟨nd, rfl⟩⟩⟩
theorem no0 (t : BA) (ht : t.size < 2305843009213693952) (hn : idx t ⟨#[58, 63]⟩ < 0) (ev : Value) (w : World) :
  Calls Tryz.prog 63 #[.string t, ev] w fun e w' => e = .returned notUsed ∧ Drawn0 w w' := by
 have CC := aM (fun W => required_no t ⟨#[58, 63]⟩ ht (by decide) hn ev (.func (.func 76) #[] #[]) W)
 clear hn
 go_enter Tryz.func63, Tryz.ntmps63
 go_wp2_with fail
 refine (CC.out _).mono ?_
 rintro e w1 ⟨rfl, ⟨nd, rfl⟩⟩
 go_wp2
 go_ret3
 exact ⟨rfl, ⟨⟨nd, rfl⟩⟩⟩
theorem no1 (t : BA) (ht : t.size < 2305843009213693952) (hn : idx t ⟨#[63]⟩ < 0) (ev : Value) (w : World) :
  Calls Tryz.prog 62 #[.string t, ev] w fun e w' => e = .returned notUsed ∧ Drawn0 w w' := by
 have CC := aM (fun W => required_no t ⟨#[63]⟩ ht (by decide) hn ev (.func (.func 75) #[] #[]) W)
 clear hn
 go_enter Tryz.func62, Tryz.ntmps62
 go_wp2_with fail
 refine (CC.out _).mono ?_
 rintro e w1 ⟨rfl, ⟨nd, rfl⟩⟩
 go_wp2
 go_ret3
 exact ⟨rfl, ⟨⟨nd, rfl⟩⟩⟩
theorem no2 (t : BA) (ht : t.size < 2305843009213693952) (hn : idx t ⟨#[58, 45]⟩ < 0) (ev : Value) (w : World) :
  Calls Tryz.prog 59 #[.string t, ev] w fun e w' => e = .returned notUsed ∧ Drawn0 w w' := by
 have CC := aM (fun W => absence_no t ht true hn ev W)
 clear hn
 go_enter Tryz.func59, Tryz.ntmps59
 go_wp2_with fail
 refine (CC.out _).mono ?_
 rintro e w1 ⟨rfl, ⟨nd, rfl⟩⟩
 go_wp2
 go_ret3
 exact ⟨rfl, ⟨⟨nd, rfl⟩⟩⟩
theorem no3 (t : BA) (ht : t.size < 2305843009213693952) (hn : idx t ⟨#[45]⟩ < 0) (ev : Value) (w : World) :
  Calls Tryz.prog 58 #[.string t, ev] w fun e w' => e = .returned notUsed ∧ Drawn0 w w' := by
 have CC := aM (fun W => absence_no t ht false hn ev W)
 clear hn
 go_enter Tryz.func58, Tryz.ntmps58
 go_wp2_with fail
 refine (CC.out _).mono ?_
 rintro e w1 ⟨rfl, ⟨nd, rfl⟩⟩
 go_wp2
 go_ret3
 exact ⟨rfl, ⟨⟨nd, rfl⟩⟩⟩
theorem no4 (t : BA) (ht : t.size < 2305843009213693952) (hn : idx t ⟨#[58, 43]⟩ < 0) (ev : Value) (w : World) :
  Calls Tryz.prog 61 #[.string t, ev] w fun e w' => e = .returned notUsed ∧ Drawn0 w w' := by
 have CC := aM (fun W => presence_no t ht true hn ev W)
 clear hn
 go_enter Tryz.func61, Tryz.ntmps61
 go_wp2_with fail
 refine (CC.out _).mono ?_
 rintro e w1 ⟨rfl, ⟨nd, rfl⟩⟩
 go_wp2
 go_ret3
 exact ⟨rfl, ⟨⟨nd, rfl⟩⟩⟩
theorem no5 (t : BA) (ht : t.size < 2305843009213693952) (hn : idx t ⟨#[43]⟩ < 0) (ev : Value) (w : World) :
  Calls Tryz.prog 60 #[.string t, ev] w fun e w' => e = .returned notUsed ∧ Drawn0 w w' := by
 have CC := aM (fun W => presence_no t ht false hn ev W)
 clear hn
 go_enter Tryz.func60, Tryz.ntmps60
 go_wp2_with fail
 refine (CC.out _).mono ?_
 rintro e w1 ⟨rfl, ⟨nd, rfl⟩⟩
 go_wp2
 go_ret3
 exact ⟨rfl, ⟨⟨nd, rfl⟩⟩⟩
theorem op_no (t : BA) (ht : t.size < 2305843009213693952) (k : Fin 6) (hn : idx t (opAt k).1 < 0) (ev : Value) (w : World) :
  Calls Tryz.prog (opAt k).2 #[.string t, ev] w fun e w' => e = .returned notUsed ∧ Drawn0 w w' := by
 match k, hn with
 | ⟨0, _⟩, hn => exact no0 t ht hn ev w
 | ⟨1, _⟩, hn => exact no1 t ht hn ev w
 | ⟨2, _⟩, hn => exact no2 t ht hn ev w
 | ⟨3, _⟩, hn => exact no3 t ht hn ev w
 | ⟨4, _⟩, hn => exact no4 t ht hn ev w
 | ⟨5, _⟩, hn => exact no5 t ht hn ev w
 | ⟨n + 6, h⟩, _ => exact absurd h (by omega)
theorem op_enters (k : Fin 6) (args : Array Value) (w : World) : (callFunc (opAt k).2 args).run Tryz.prog w = .ok (.enter (opAt k).2 args) w := by
 match k with
 | ⟨0, _⟩ => exact enters_ Tryz.func63 (by kernel_rfl) rfl args w
 | ⟨1, _⟩ => exact enters_ Tryz.func62 (by kernel_rfl) rfl args w
 | ⟨2, _⟩ => exact enters_ Tryz.func59 (by kernel_rfl) rfl args w
 | ⟨3, _⟩ => exact enters_ Tryz.func58 (by kernel_rfl) rfl args w
 | ⟨4, _⟩ => exact enters_ Tryz.func61 (by kernel_rfl) rfl args w
 | ⟨5, _⟩ => exact enters_ Tryz.func60 (by kernel_rfl) rfl args w
 | ⟨n + 6, h⟩ => exact absurd h (by omega)
section
variable {P : Program} {ops : Array Oper} {Q : Exit → Act → World → Prop}
theorem goesVL_ (c : Operand) (cap : Array Value) {rest : List Oper} {oi : Oper} {a : Act} {w : World} (N : Option Tmp) (hd : oi.dst = N) (hg : oi.guard = none) {f : FuncId} {xs : Array Operand} {ts : Array TypeId} (args : Array Value) (he : (callFunc f args).run P w = .ok (.enter f args) w)
  (hop : oi.op = .call { callee := .value c, args := xs, argTypes := ts }) (hv : a.eval c = .func (.func f) #[] cap) (hargs : xs.map a.eval ++ cap = args)
  (h : Calls P f args w fun e w' => ∃ v, e = .returned v ∧ wpList P ops Q rest (a.put N v) w') : wpList P ops Q (oi :: rest) a w := by
 refine wpList_plain hg fun K hK => ?_
 have hrun : (execOp a.eval oi).run P w = .ok (.enter f args) w := by
  unfold execOp
  simp [hop, resolve, Deferred.ofValue, invoke, hv, hargs, he]
 unfold Oper.wp
 rw [hrun, Oper.upon_enter]
 refine h.mono fun e w'' hh => ?_
 obtain ⟨v, rfl, hk⟩ := hh
 subst hd
 exact hK _ _ hk
end
theorem sign_head (k : Fin 6) : ∃ c r, lb (opAt k).1 = c :: r ∧ (c = 58 ∨ c = 63 ∨ c = 45 ∨ c = 43) := by
 match k with
 | ⟨0, _⟩ => exact ⟨_, _, rfl, by decide⟩
 | ⟨1, _⟩ => exact ⟨_, _, rfl, by decide⟩
 | ⟨2, _⟩ => exact ⟨_, _, rfl, by decide⟩
 | ⟨3, _⟩ => exact ⟨_, _, rfl, by decide⟩
 | ⟨4, _⟩ => exact ⟨_, _, rfl, by decide⟩
 | ⟨5, _⟩ => exact ⟨_, _, rfl, by decide⟩
 | ⟨n + 6, h⟩ => exact absurd h (by omega)
theorem isCon_sign {c : UInt8} (h : isCon c.toNat = true) : ¬ (c = 58 ∨ c = 63 ∨ c = 45 ∨ c = 43) := by
 rintro (rfl | rfl | rfl | rfl) <;> exact absurd h (by decide)
theorem idx_none {t s : BA} (h : ∀ i, find (lb s) (lb t) ≠ some i) : idx t s < 0 := by
 unfold idx findI
 cases hf : find (lb s) (lb t) with
 | none => decide
 | some i => exact absurd hf (h i)
theorem no_sign (t : BA) (k : Fin 6) (h : ∀ c, c ∈ lb t → ¬ (c = 58 ∨ c = 63 ∨ c = 45 ∨ c = 43)) : idx t (opAt k).1 < 0 := by
 refine idx_none (fun i hf => ?_)
 obtain ⟨c, r, hc, hcc⟩ := sign_head k
 obtain ⟨h1, h2⟩ := find_some hf
 rw [hc] at h1 h2
 have hl : i < (lb t).length := by rw [List.length_cons] at h1; omega
 rw [List.drop_eq_getElem_cons hl, List.length_cons, List.take_succ_cons] at h2
 injection h2 with h3 _
 exact h _ (List.getElem_mem hl) (h3 ▸ hcc)
theorem name_no_sign (n : Bs) (hn : IsName n) (k : Fin 6) : idx (mk n) (opAt k).1 < 0 := no_sign _ k (fun c hc => isCon_sign (hn.con c (by rwa [lb_mk'] at hc)))
end Go.Proofs.YtkhkmhbledigpaaGreatDoor.Tr
namespace Go.Proofs.YtkhkmhbledigpaaGreatDoor.Tr
open Go.RowKit Go.Proofs.YtkhkmhbledigpaaGreatDoorW.PrintWords Go.Proofs.YtkhkmhbledigpaaGreatDoorW.PrintLast Go.Proofs.YtkhkmhbledigpaaGreatDoor.Str Go.Proofs.YtkhkmhbledigpaaGreatDoor.Kit Go.Proofs.YtkhkmhbledigpaaGreatDoor.MapV Go.Proofs.YtkhkmhbledigpaaGreatDoor.Frame Go.Proofs.YtkhkmhbledigpaaGreatDoor.PS
open Go.Proofs.YtkhkmhbledigpaaGreatDoor.Maps (MapS key_u map_u lookFn lookT)
set_option linter.unusedVariables false
set_option linter.unusedSimpArgs false
theorem ends_close_l (s : BA) (hs : s.size < 4611686018427387904) (p : Nat) (hp : At s p 125) (hno : ∀ j, 3 ≤ j → j < p → ∃ c, At s j c ∧ c ≠ 123 ∧ c ≠ 125) : ∀ (d j : Nat), 3 ≤ j → j + d = p → Ends (fun r => r = (p : Int)) (fun k => template_getFirstBraceClosingIndex.l0 k s 1 (j : Int)) := by
 intro d
 induction d with
 | zero =>
  intro j h3 hj
  obtain rfl : j = p := by omega
  have hlt := hp.lt
  refine Ends.step (fun k => by simp only [template_getFirstBraceClosingIndex.l0]; rfl) ?_
  rw [hp.bt]
  exact Ends.yes (by omega) (Ends.yes (by omega) (Ends.yes (by decide) (Ends.yes (by unfold wrap64; omega) (Ends.now rfl))))
 | succ d ih =>
  intro j h3 hj
  obtain ⟨c, hc, h1, h2⟩ := hno j h3 (by omega)
  have hlt := hc.lt
  have n1 : ¬ ((c.toNat : Int)) = 123 := fun e => h1 (UInt8.toNat_inj.1 (by show c.toNat = 123; omega))
  have n2 : ¬ ((c.toNat : Int)) = 125 := fun e => h2 (UInt8.toNat_inj.1 (by show c.toNat = 125; omega))
  refine Ends.step (fun k => by simp only [template_getFirstBraceClosingIndex.l0]; rfl) ?_
  rw [hc.bt, wrap1 j (by omega)]
  exact Ends.yes (by omega) (Ends.yes (by omega) (Ends.no n2 (Ends.no n1 (ih (j + 1) (by omega) (by omega)))))
theorem ends_close (b : Bs) (hb : b ≠ []) (hno : ∀ c, c ∈ b → c ≠ 123 ∧ c ≠ 125) (hl : b.length < 2305843009213693952) : Ends (fun r => r = ((b.length + 2 : Nat) : Int)) (fun k => template_getFirstBraceClosingIndex.f k (mk ([36, 123] ++ b ++ [125]))) := by
 have hlb : lb (mk ([36, 123] ++ b ++ [125])) = [36, 123] ++ b ++ [125] := lb_mk' _
 have hsz : (mk ([36, 123] ++ b ++ [125])).size = b.length + 3 := by rw [mk_size]; simp
 have hpos := List.length_pos_iff.2 hb
 have h0 : At (mk ([36, 123] ++ b ++ [125])) 0 36 := At.of (p := []) (q := 123 :: (b ++ [125])) (by rw [hlb]; simp) rfl
 have h1 : At (mk ([36, 123] ++ b ++ [125])) 1 123 := At.of (p := [36]) (q := b ++ [125]) (by rw [hlb]; simp) rfl
 have h2 : At (mk ([36, 123] ++ b ++ [125])) (b.length + 2) 125 := At.of (p := [36, 123] ++ b) (q := []) (by rw [hlb]) (by simp)
 unfold template_getFirstBraceClosingIndex.f
 refine Ends.step (fun k => by simp only [template_getFirstBraceClosingIndex.l0]; rfl) ?_
 have hb0 := h0.bt
 have hb1 := h1.bt
 rw [show ((0 : Nat) : Int) = 0 from rfl] at hb0
 rw [show ((1 : Nat) : Int) = 1 from rfl] at hb1
 rw [hb0, show wrap64 ((0 : Int) + 1) = 1 by unfold wrap64; omega]
 refine Ends.yes (by omega) (Ends.yes (by omega) (Ends.no (by decide) (Ends.no (by decide) ?_)))
 refine Ends.step (fun k => by simp only [template_getFirstBraceClosingIndex.l0]; rfl) ?_
 rw [hb1, show wrap64 (wrap64 ((1 : Int) + 1) + 1) = ((3 : Nat) : Int) by unfold wrap64; omega, show wrap64 ((0 : Int) + 1) = 1 by unfold wrap64; omega]
 refine Ends.yes (by omega) (Ends.yes (by omega) (Ends.no (by decide) (Ends.yes (by decide) ?_)))
 refine ends_close_l _ (by omega) (b.length + 2) h2 (fun j h3 hj => ?_) (b.length - 1) 3 (by omega) (by omega)
 have hj2 : j - 2 < b.length := by omega
 refine ⟨b[j - 2], ?_, hno _ (List.getElem_mem hj2)⟩
 unfold At
 rw [hlb, List.append_assoc, List.getElem?_append_right (by simp; omega), List.getElem?_append_left (by simp; omega)]
 simp [hj2]
def valOf (g : List (Bs × BA)) (n : Bs) : BA := (mget g n).getD ⟨#[]⟩
set_option maxHeartbeats 3200000 in
set_option maxRecDepth 100000 in
theorem applied_braced (n : Bs) (hn : IsName n) (hl : n.length ≤ 4294967296) (g : List (Bs × BA)) (w : World) (cb b : Nat) (hE : EnvAt w cb g) (hC : CfgAt w b) :
  Calls Tryz.prog 77 #[.string (mk ([36, 123] ++ n ++ [125])), envF cb, .pointer (some ⟨b, 0, none⟩)] w fun e w' => ∃ u, e = .returned (.tuple #[.string (valOf g n), .bool u, .nilIface]) ∧ Below w.heap.size w w' := by
 have hsz : (mk ([36, 123] ++ n ++ [125])).size = n.length + 3 := by rw [mk_size]; simp
 have hlb : lb (mk ([36, 123] ++ n ++ [125])) = [36, 123] ++ n ++ [125] := lb_mk' _
 have CG := aM (fun W => getSubst (mk ([36, 123] ++ n ++ [125])) (by omega) W)
 obtain ⟨kc, hkc⟩ := (ends_close n hn.ne (fun c hc => ⟨fun e => absurd (hn.con c hc) (by rw [e]; decide), fun e => absurd (hn.con c hc) (by rw [e]; decide)⟩) (by omega)).ev.rounds
 have CB := aM (fun W => template_getFirstBraceClosingIndex.calls kc _ _ W hkc)
 have CF := aM (fun W => FindStringSubmatch (mk ([36, 123] ++ n ++ [125])) [mk ([36, 123] ++ n ++ [125]), E0, E0, mk n, E0, E0] ((n.length + 3 : Nat) : Int) (by omega) (by omega) (by
  have := ends_at_braced (mk ([36, 123] ++ n ++ [125])) (by omega) [] n [] hn (by rw [hlb]; simp)
  simpa using this) W)
 clear hkc
 have hx1 : (mk ([36, 123] ++ n ++ [125])).extract (n.length + 2 + 1) (mk ([36, 123] ++ n ++ [125])).size = E0 := by
  refine lb_inj ?_
  rw [lb_extract, List.drop_eq_nil_of_le]
  ·rfl
  ·rw [List.length_take, lb_length]; omega
 have hx2 : (mk ([36, 123] ++ n ++ [125])).extract 0 (n.length + 2 + 1) = mk ([36, 123] ++ n ++ [125]) := by
  refine lb_inj ?_
  rw [lb_extract, List.take_of_length_le (by rw [lb_length]; omega), List.drop_zero]
 generalize mk ([36, 123] ++ n ++ [125]) = m at hsz CG CB CF hx1 hx2 ⊢
 obtain ⟨c, hcn⟩ : ∃ c, n.length + 2 = c := ⟨_, rfl⟩
 rw [hcn] at CB hx1 hx2
 have HSZ := aM (show c + 1 = m.size ∧ c ≤ 4294967298 by omega)
 clear hlb hsz hcn
 have hpa := part_cfg hC
 have hb1 := below_alloc (Below.refl w.heap.size w) (.cells #[] 71)
 have hsf : (w.alloc (.cells #[] 71)).cell? ⟨b, 0, none⟩ = some .nilFunc := pw_cell_below hb1 (cb_cell (i := 0) hC rfl)
 have HB1 := aM hb1
 have HE := aM hE
 have HC := aM hC
 clear hE hC hb1
 have hbf : ∀ w : World, (binOp BinOp.eql 88 .nilFunc .nilFunc).run Tryz.prog w = .ok (.bool true) w := fun _ => by kernel_rfl
 go_enter Tryz.func77, Tryz.ntmps77
 go_wp2_with fail
 refine (CG.out _).mono ?_
 rintro e w1 ⟨k, rfl, hmin, hb⟩
 have HB2 := aM (hb_then HB1.out hb)
 clear hb hmin CG HB1 hpa hsf
 go_wp2_with fail
 refine (CB.out _).mono ?_
 rintro e w2 ⟨rfl, ⟨nd, rfl⟩⟩
 have HB3 := aM (hb_then HB2.out (Drawn0.below (⟨⟨nd, rfl⟩⟩ : Drawn0 w1 (w1.drewN nd))))
 clear HB2 CB
 have q1 : (-1 : Int) < (c : Int) := by omega
 have q2 : (0 : Int) ≤ (c : Int) + 1 := by omega
 have q3 : (c : Int) + 1 ≤ (m.size : Int) := by have := HSZ.out; omega
 have q4 : ((c : Int) + 1).toNat = c + 1 := by omega
 have q5 : decide ((-1 : Int) < (c : Int)) = true := decide_eq_true q1
 have hcl : c ≤ 4294967298 := HSZ.out.2
 go_wp2_with fail
 refine (CF.out _).mono ?_
 rintro e w3 ⟨A, cc, rfl, hC3, hb⟩
 have HB4 := aM (hb_then HB3.out hb)
 have CM := aM (matchGroups [m, E0, E0, mk n, E0, E0] rfl A cc w3 hC3)
 have HGET := aM (gr_get [m, E0, E0, mk n, E0, E0] rfl)
 clear hb CF hC3 HB3 q1 q2 q3 q4 q5 hcl
 go_wp2_with fail
 refine CM.out.mono ?_
 rintro e w4 ⟨mb, rfl, hM, hb⟩
 have HB5 := aM (hb_then HB4.out hb)
 have hl1 := run_look_mapE key_u Tryz.underlying72 (Tryz.zeroValue9 w4) hM (s := nEsc) (by unfold maxLen; decide)
 have hl2 := run_look_mapE key_u Tryz.underlying72 (Tryz.zeroValue9 w4) hM (s := nNamed) (by unfold maxLen; decide)
 have hl3 := run_look_mapE key_u Tryz.underlying72 (Tryz.zeroValue9 w4) hM (s := nBraced) (by unfold maxLen; decide)
 rw [HGET.out.1] at hl1
 rw [HGET.out.2.1] at hl2
 rw [HGET.out.2.2] at hl3
 obtain ⟨x, hx⟩ : ∃ x, mk n = x := ⟨_, rfl⟩
 have hk1 : (Instr.lookup 72 (.map (some mb)) (.string ⟨#[101, 115, 99, 97, 112, 101, 100]⟩) false).run Tryz.prog w4 = .ok (.string ⟨#[]⟩) w4 := hl1
 have hk2 : (Instr.lookup 72 (.map (some mb)) (.string ⟨#[110, 97, 109, 101, 100]⟩) false).run Tryz.prog w4 = .ok (.string ⟨#[]⟩) w4 := hl2
 have hk3 : (Instr.lookup 72 (.map (some mb)) (.string ⟨#[98, 114, 97, 99, 101, 100]⟩) false).run Tryz.prog w4 = .ok (.string x) w4 := by rw [← hx]; exact hl3
 have hxl : lb x = n := by rw [← hx]; exact lb_mk' n
 have hxs : x.size ≤ 4294967296 := by rw [← lb_length, hxl]; exact hl
 have HNO := aM (fun W => op_no x (by omega) k (by rw [← hx]; exact name_no_sign n hn k) (envF cb) W)
 have hx0 : ¬ x.toList = [] := by rw [toList_lb, hxl]; exact hn.ne
 have hq1 : (x.toList == []) = false := beq_eq_false_iff_ne.2 hx0
 have HX := aM (And.intro hxl hxs)
 clear hb CM hM hl1 hl2 hl3 HGET HB4 hx hxl hxs hx0
 go_wp2_with (refine goesVL_ (.tmp 76) #[] (some 79) rfl rfl #[.string x, envF cb] (op_enters k _ _) rfl rfl (by simp only [List.map_toArray, List.map_cons, List.map_nil, Array.append_empty]; rfl) ?_; refine (HNO.out _).mono ?_; rintro e w5 ⟨rfl, ⟨nd2, rfl⟩⟩; refine ⟨_, rfl, ?_⟩)
 have hbd := hb_then HB5.out (Drawn0.below (⟨⟨nd2, rfl⟩⟩ : Drawn0 w4 (w4.drewN nd2)))
 have HB6 := aM hbd
 obtain ⟨mb2, hE1, hE2⟩ := HE.out.below hbd
 have CL := aM (lookFn x (w4.drewN nd2) hE1 hE2 (by have := HX.out.2; unfold maxLen; omega))
 clear hbd HE HNO hE1 hE2 hk1 hk2 hk3 HB5
 refine CL.out.mono ?_
 rintro e w6 ⟨rfl, rfl⟩
 unfold lookT
 rw [HX.out.1]
 go_wp2
 go_ret3
 exact ⟨_, rfl, HB6.out⟩
set_option maxHeartbeats 1600000 in
set_option maxRecDepth 100000 in
theorem repl_of_applied (m r : BA) (g : List (Bs × BA)) (h : ∀ (w : World) (cb b : Nat), EnvAt w cb g → CfgAt w b →
  Calls Tryz.prog 77 #[.string m, envF cb, .pointer (some ⟨b, 0, none⟩)] w fun e w' => ∃ u, e = .returned (.tuple #[.string r, .bool u, .nilIface]) ∧ Below w.heap.size w w') (w : World) (cb b : Nat) (hE : EnvAt w cb g) (hC : CfgAt w b) :
  Calls Tryz.prog 66 #[.string m, envF cb, .pointer (some ⟨b, 0, none⟩)] w fun e w' => e = .returned (.tuple #[.string r, .nilIface]) ∧ Below w.heap.size w w' := by
 have CA := aM (h w cb b hE hC)
 clear h hE hC
 go_enter Tryz.func66, Tryz.ntmps66
 go_wp2_with fail
 refine CA.out.mono ?_
 rintro e w1 ⟨u, rfl, hb⟩
 have HB1 := aM hb
 clear hb CA
 go_wp2
 go_ret2
 exact ⟨rfl, HB1.out⟩
def Braced (g : List (Bs × BA)) (m r : BA) : Prop := ∃ n : Bs, IsName n ∧ n.length ≤ 4294967296 ∧ m = mk ([36, 123] ++ n ++ [125]) ∧ r = valOf g n
theorem repl_braced (g : List (Bs × BA)) : Repl (Braced g) g := by
 rintro m r ⟨n, hn, hl, rfl, rfl⟩ w cb b hE hC
 exact repl_of_applied _ _ g (fun w cb b h1 h2 => applied_braced n hn hl g w cb b h1 h2) w cb b hE hC
end Go.Proofs.YtkhkmhbledigpaaGreatDoor.Tr
namespace Go.Proofs.YtkhkmhbledigpaaGreatDoor.Tr
open Go.RowKit Go.Proofs.YtkhkmhbledigpaaGreatDoorW.PrintWords Go.Proofs.YtkhkmhbledigpaaGreatDoorW.PrintLast Go.Proofs.YtkhkmhbledigpaaGreatDoor.Str Go.Proofs.YtkhkmhbledigpaaGreatDoor.Kit Go.Proofs.YtkhkmhbledigpaaGreatDoor.MapV Go.Proofs.YtkhkmhbledigpaaGreatDoor.Frame Go.Proofs.YtkhkmhbledigpaaGreatDoor.PS
open Go.Proofs.YtkhkmhbledigpaaGreatDoor.Maps (MapS key_u map_u lookFn lookT kp toP Ok encP ofP)
set_option linter.unusedVariables false
set_option linter.unusedSimpArgs false
theorem rw_plain {P : BA → BA → Prop} (s : BA) (hs : s.size < 4611686018427387904) : ∀ (m p q : Bs) (out : Bs), 36 ∉ m → lb s = p ++ m ++ q → Rw P s (p.length + m.length) out → Rw P s p.length (m ++ out)
 | [], p, q, out, _, _, h => by simpa using h
 | c :: m, p, q, out, hm, hl, h => by
  have h1 : At s p.length c := At.of (p := p) (q := m ++ q) (by rw [hl]; simp) rfl
  have hc : c ≠ 36 := fun e => hm (by rw [e]; exact List.mem_cons_self)
  have ih := rw_plain s hs m (p ++ [c]) q out (fun hh => hm (List.mem_cons_of_mem _ hh)) (by rw [hl]; simp) (by
   rw [show (p ++ [c]).length + m.length = p.length + (c :: m).length by simp; omega]
   exact h)
  refine .byte p.length c (m ++ out) h1 (ends_at_none s hs p.length c h1 hc) ?_
  rw [show p.length + 1 = (p ++ [c]).length by simp]
  exact ih
theorem rw_braced {g : List (Bs × BA)} (s : BA) (hs : s.size < 4611686018427387904) (p n q out : Bs) (hn : IsName n) (hl : n.length ≤ 4294967296) (h : lb s = p ++ ([36, 123] ++ n ++ [125]) ++ q) (k : Rw (Braced g) s (p.length + (n.length + 3)) out) :
  Rw (Braced g) s p.length (lb (valOf g n) ++ out) := by
 have hsz : s.size = p.length + (n.length + 3) + q.length := by rw [← lb_length, h]; simp; omega
 exact .hit p.length (p.length + (n.length + 3)) (mk ([36, 123] ++ n ++ [125])) (valOf g n) [E0, E0, mk n, E0, E0] out (by omega) (by omega) (by omega) (ends_at_braced s hs p n q hn h) ⟨n, hn, hl, rfl, rfl⟩ k
theorem rw_stop {P : BA → BA → Prop} (s : BA) (i : Nat) (h : s.size = i) : Rw P s i [] := .done i (by omega)
set_option maxHeartbeats 1600000 in
set_option maxRecDepth 100000 in
theorem implSubst {P : BA → BA → Prop} {g : List (Bs × BA)} (hP : Repl P g) (s : BA) (out : Bs) (hs : s.size < 140737488355328) (ho : out.length ≤ 140737488355328) (hrw : Rw P s 0 out) {N : Nat} (hg : Ok N g) (hN : N ≤ 17179869184) (A : Option Addr) (c : Nat) (w : World) (h : kp.C w A (toP g).length (toP g)) :
  Calls Tryz.prog 15 #[.string s, .slice A (toP g).length c] w fun e w' => e = .returned (.tuple #[.string ⟨out.toArray⟩, .int .i64 0]) ∧ Below w.heap.size w w' := by
 have CL := aM (Go.Proofs.YtkhkmhbledigpaaGreatDoor.Maps.look (c := c) hg hN w h)
 have CS := aM (fun W cb (hE : EnvAt W cb g) => Substitute hP s out hs ho hrw W cb hE)
 clear hP hrw hg h
 go_enter Tryz.func15, Tryz.ntmps15
 go_wp2_with fail
 refine CL.out.mono ?_
 rintro e w1 ⟨cb, mb, rfl, h1, h2, _, hb⟩
 have HB1 := aM hb
 have CS1 := aM (CS.out w1 cb ⟨mb, h1, h2⟩)
 clear hb CL CS h1 h2
 go_wp2_with fail
 refine CS1.out.mono ?_
 rintro e w2 ⟨rfl, hb⟩
 have HB2 := aM (hb_then HB1.out hb)
 clear hb CS1
 go_wp2
 go_ret2
 exact ⟨rfl, HB2.out⟩
theorem one_lit (w : World) (e : TypeId) (p q : BA) : kp.C (w.alloc (.cells #[.string p, .string q] e)) (some ⟨w.heap.size, 0, none⟩) 1 [(p, q)] := by
 obtain ⟨A, c, e1, _, hC⟩ := Kd.R_reads (Go.Proofs.YtkhkmhbledigpaaGreatDoor.Maps.own_one w w.heap.size e (Nat.le_refl _) (fun _ => True) trivial p q)
 injection e1 with e1
 subst e1
 exact hC
def nA : Bs := [65]
theorem nA_name : IsName nA := ⟨by decide, by intro c hc; simp [nA] at hc; rw [← hc]; decide, by intro c hc; simp [nA] at hc; rw [hc]; decide⟩
def livesG : List (Bs × BA) := [(nA, ⟨#[98]⟩)]
theorem livesOk : Ok 1 livesG := ⟨by unfold livesG Rises; simp, by intro p hp; simp [livesG] at hp; rw [hp]; decide, by decide⟩
theorem lives_rw : Rw (Braced livesG) (⟨#[97, 36, 123, 65, 125]⟩ : BA) 0 [97, 98] := by
 have h := rw_braced (g := livesG) (⟨#[97, 36, 123, 65, 125]⟩ : BA) (by decide) [97] nA [] [] nA_name (by decide) rfl (rw_stop _ _ rfl)
 exact rw_plain (P := Braced livesG) (⟨#[97, 36, 123, 65, 125]⟩ : BA) (by decide) [97] [] [36, 123, 65, 125] [98] (by decide) rfl h
set_option maxHeartbeats 1600000 in
set_option maxRecDepth 100000 in
theorem substLives (w : World) : Calls Tryz.prog 14 #[] w fun e w' => e = .returned (.bool true) ∧ Below w.heap.size w w' := by
 have CS := aM (fun W A c (h : kp.C W A (toP livesG).length (toP livesG)) => implSubst (repl_braced livesG) (⟨#[97, 36, 123, 65, 125]⟩ : BA) [97, 98] (by decide) (by decide) lives_rw livesOk (by decide) A c W h)
 have HB1 := aM (below_alloc (Below.refl w.heap.size w) (.cells #[.string ⟨#[65]⟩, .string ⟨#[98]⟩] 43))
 have hC : kp.C (w.alloc (.cells #[.string ⟨#[65]⟩, .string ⟨#[98]⟩] 43)) (some ⟨w.heap.size, 0, none⟩) 1 (toP livesG) := one_lit w _ _ _
 have CS1 := aM (CS.out _ _ 1 hC)
 clear CS hC
 go_enter Tryz.func14, Tryz.ntmps14
 go_wp2_with fail
 refine CS1.out.mono ?_
 rintro e w1 ⟨rfl, hb⟩
 have HB2 := aM (hb_then HB1.out hb)
 clear hb CS1
 go_wp2
 go_ret
 exact ⟨rfl, HB2.out⟩
end Go.Proofs.YtkhkmhbledigpaaGreatDoor.Tr
namespace Go.Proofs.YtkhkmhbledigpaaGreatDoor.PS
open Go.RowKit Go.Proofs.YtkhkmhbledigpaaGreatDoorW.PrintWords Go.Proofs.YtkhkmhbledigpaaGreatDoorW.PrintLast Go.Proofs.YtkhkmhbledigpaaGreatDoorW.PrintMore
attribute [local go_sem] max2_int min2_int max_two min_two max_three min_three max_four min_four 
set_option linter.unusedVariables false
set_option linter.unusedSimpArgs false
end Go.Proofs.YtkhkmhbledigpaaGreatDoor.PS
namespace Go.Proofs.YtkhkmhbledigpaaGreatDoor.PS
open Go.RowKit Go.Proofs.YtkhkmhbledigpaaGreatDoorW.PrintWords Go.Proofs.YtkhkmhbledigpaaGreatDoorW.PrintLast Go.Proofs.YtkhkmhbledigpaaGreatDoorW.PrintMore
attribute [local go_sem] max2_int min2_int max_two min_two max_three min_three max_four min_four 
set_option linter.unusedVariables false
set_option linter.unusedSimpArgs false
def spec_SubstPlain.l0 : Nat → ByteArray → List Int → Int → Option (ByteArray)
 | 0, _, _, _ => none
 | k + 1, x0, x3, x4 => if x4 < (x0.size : Int) then (if 0 ≤ x4 then (if (bt x0 x4) = 36 then (spec_SubstPlain.l0 k x0 x3 (wrap64 (x4 + 1))) else (if (bt x0 x4) = 123 then (spec_SubstPlain.l0 k x0 x3 (wrap64 (x4 + 1))) else (if (bt x0 x4) = 125 then (spec_SubstPlain.l0 k x0 x3 (wrap64 (x4 + 1))) else (if (bt x0 x4) = 10 then (spec_SubstPlain.l0 k x0 x3 (wrap64 (x4 + 1))) else (if x3.length < 140737488355328 then (spec_SubstPlain.l0 k x0 (x3 ++ [bt x0 x4]) (wrap64 (x4 + 1))) else (none)))))) else (none)) else (some (strOfNums x3))
def spec_SubstPlain.f (k : Nat) (a0 : ByteArray) : Option (ByteArray) := spec_SubstPlain.l0 k a0 ([] : List Int) 0
set_option maxHeartbeats 8000000 in
set_option maxRecDepth 100000 in
theorem spec_SubstPlain.calls (k : Nat) (a0 : ByteArray) (r : ByteArray) (w : World) (h : spec_SubstPlain.f k a0 = some r) :
  Calls Tryz.prog 21 #[.string a0] w fun e w' => e = .returned (.string r) ∧ Below w.heap.size w w' := by
 have HB := aM (Below.refl w.heap.size w)
 have H : (spec_SubstPlain.l0 k a0 ([] : List Int) 0) = some r := h
 clear h
 have H' := aM H
 clear H
 go_enter Tryz.func21, Tryz.ntmps21
 go_wp2
 go_loopg [3, 4] k (fun kq v3 v4 w' => ∃ (x3_1 : List Int) (x4_1 : Int), v4 = .int .i64 x4_1 ∧ Aside0 (spec_SubstPlain.l0 kq a0 x3_1 x4_1 = some r) ∧ Aside0 (kq ≤ k) ∧ Aside0 (Kd.R (Kd.int .u8) 5 w' w.heap.size (fun _ => True) v3 x3_1) ∧ Aside0 (Below w.heap.size w w'))
 case atStart => exact ⟨(([] : List Int)), (0), (by first | rfl | (simp; done) | (simp [*]; done)), H', ⟨Nat.le_refl _⟩, ⟨by first | exact Kd.R_nil _ _ _ _ _ | exact Kd.N_nil _ _ _ _ _ | exact Kd.V_nil _ _ _ _ _ | exact Kd.Q_nil _ _ _ _ _ | exact Kd.S_nil _ _ _ _ _⟩, ⟨by repeat (first | (with_reducible first | exact HB.out | apply below_alloc | apply pw_below_drewN | apply below_drew1) | exact HB.out)⟩⟩
 case round =>
  clear H'
  obtain ⟨x3_1, x4_1, rfl, HA, HK1, HO_3, HB⟩ := hrel
  cases gk with
  | zero => exact absurd HA.out (by simp [spec_SubstPlain.l0])
  | succ k1 =>
   have H := HA.out
   clear HA
   simp only [spec_SubstPlain.l0] at H
   by_cases c2 : x4_1 < (a0.size : Int)
   ·rw [if_pos c2] at H
    have c2b0 : decide (x4_1 < (a0.size : Int)) = true := decide_eq_true c2
    clear c2
    by_cases c3 : 0 ≤ x4_1
    ·rw [if_pos c3] at H
     have c3b0 : decide (0 ≤ x4_1) = true := decide_eq_true c3
     clear c3
     by_cases c5 : (bt a0 x4_1) = 36
     ·rw [if_pos c5] at H
      have c5b0 : ((bt a0 x4_1) == 36) = true := beq_iff_eq.mpr c5
      have c5b1 : ((bt a0 x4_1) != 36) = false := bne_eq_false_iff_eq.mpr c5
      clear c5
      have H' := aM H
      clear H
      have p4 : 0 ≤ (x4_1 : Int) := of_decide_eq_true (by first | (with_reducible assumption) | assumption)
      have q4 : x4_1 < (a0.size : Int) := of_decide_eq_true (by first | (with_reducible assumption) | assumption)
      have hx4 := bt_at a0 x4_1
      replace p4 := eq_true p4
      replace q4 := eq_true q4
      go_wp2
      go_roundg k1
      case measure => have := HK1.out; omega
      case rel => exact ⟨(x3_1), (wrap64 (x4_1 + 1)), (by first | rfl | (simp; done) | (simp [*]; done)), H', ⟨by have := HK1.out; omega⟩, ⟨by (with_reducible repeat (first | apply Kd.R_alloc | apply Kd.R_drewN | apply Kd.R_drew)); exact HO_3.out⟩, ⟨by repeat (first | (with_reducible first | exact HB.out | apply below_alloc | apply pw_below_drewN | apply below_drew1) | exact HB.out)⟩⟩
     ·rw [if_neg c5] at H
      have c5b0 : ((bt a0 x4_1) == 36) = false := beq_eq_false_iff_ne.mpr c5
      have c5b1 : ((bt a0 x4_1) != 36) = true := bne_iff_ne.mpr c5
      by_cases c7 : (bt a0 x4_1) = 123
      ·rw [if_pos c7] at H
       have c7b0 : ((bt a0 x4_1) == 123) = true := beq_iff_eq.mpr c7
       have c7b1 : ((bt a0 x4_1) != 123) = false := bne_eq_false_iff_eq.mpr c7
       clear c7
       have H' := aM H
       clear H
       have p4 : 0 ≤ (x4_1 : Int) := of_decide_eq_true (by first | (with_reducible assumption) | assumption)
       have q4 : x4_1 < (a0.size : Int) := of_decide_eq_true (by first | (with_reducible assumption) | assumption)
       have hx4 := bt_at a0 x4_1
       replace p4 := eq_true p4
       replace q4 := eq_true q4
       have p6 : 0 ≤ (x4_1 : Int) := of_decide_eq_true (by first | (with_reducible assumption) | assumption)
       have q6 : x4_1 < (a0.size : Int) := of_decide_eq_true (by first | (with_reducible assumption) | assumption)
       have hx6 := bt_at a0 x4_1
       replace p6 := eq_true p6
       replace q6 := eq_true q6
       go_wp2
       go_roundg k1
       case measure => have := HK1.out; omega
       case rel => exact ⟨(x3_1), (wrap64 (x4_1 + 1)), (by first | rfl | (simp; done) | (simp [*]; done)), H', ⟨by have := HK1.out; omega⟩, ⟨by (with_reducible repeat (first | apply Kd.R_alloc | apply Kd.R_drewN | apply Kd.R_drew)); exact HO_3.out⟩, ⟨by repeat (first | (with_reducible first | exact HB.out | apply below_alloc | apply pw_below_drewN | apply below_drew1) | exact HB.out)⟩⟩
      ·rw [if_neg c7] at H
       have c7b0 : ((bt a0 x4_1) == 123) = false := beq_eq_false_iff_ne.mpr c7
       have c7b1 : ((bt a0 x4_1) != 123) = true := bne_iff_ne.mpr c7
       by_cases c9 : (bt a0 x4_1) = 125
       ·rw [if_pos c9] at H
        have c9b0 : ((bt a0 x4_1) == 125) = true := beq_iff_eq.mpr c9
        have c9b1 : ((bt a0 x4_1) != 125) = false := bne_eq_false_iff_eq.mpr c9
        clear c9
        have H' := aM H
        clear H
        have p4 : 0 ≤ (x4_1 : Int) := of_decide_eq_true (by first | (with_reducible assumption) | assumption)
        have q4 : x4_1 < (a0.size : Int) := of_decide_eq_true (by first | (with_reducible assumption) | assumption)
        have hx4 := bt_at a0 x4_1
        replace p4 := eq_true p4
        replace q4 := eq_true q4
        have p6 : 0 ≤ (x4_1 : Int) := of_decide_eq_true (by first | (with_reducible assumption) | assumption)
        have q6 : x4_1 < (a0.size : Int) := of_decide_eq_true (by first | (with_reducible assumption) | assumption)
        have hx6 := bt_at a0 x4_1
        replace p6 := eq_true p6
        replace q6 := eq_true q6
        have p8 : 0 ≤ (x4_1 : Int) := of_decide_eq_true (by first | (with_reducible assumption) | assumption)
        have q8 : x4_1 < (a0.size : Int) := of_decide_eq_true (by first | (with_reducible assumption) | assumption)
        have hx8 := bt_at a0 x4_1
        replace p8 := eq_true p8
        replace q8 := eq_true q8
        go_wp2
        go_roundg k1
        case measure => have := HK1.out; omega
        case rel => exact ⟨(x3_1), (wrap64 (x4_1 + 1)), (by first | rfl | (simp; done) | (simp [*]; done)), H', ⟨by have := HK1.out; omega⟩, ⟨by (with_reducible repeat (first | apply Kd.R_alloc | apply Kd.R_drewN | apply Kd.R_drew)); exact HO_3.out⟩, ⟨by repeat (first | (with_reducible first | exact HB.out | apply below_alloc | apply pw_below_drewN | apply below_drew1) | exact HB.out)⟩⟩
       ·rw [if_neg c9] at H
        have c9b0 : ((bt a0 x4_1) == 125) = false := beq_eq_false_iff_ne.mpr c9
        have c9b1 : ((bt a0 x4_1) != 125) = true := bne_iff_ne.mpr c9
        by_cases c11 : (bt a0 x4_1) = 10
        ·rw [if_pos c11] at H
         have c11b0 : ((bt a0 x4_1) == 10) = true := beq_iff_eq.mpr c11
         have c11b1 : ((bt a0 x4_1) != 10) = false := bne_eq_false_iff_eq.mpr c11
         clear c11
         have H' := aM H
         clear H
         have p4 : 0 ≤ (x4_1 : Int) := of_decide_eq_true (by first | (with_reducible assumption) | assumption)
         have q4 : x4_1 < (a0.size : Int) := of_decide_eq_true (by first | (with_reducible assumption) | assumption)
         have hx4 := bt_at a0 x4_1
         replace p4 := eq_true p4
         replace q4 := eq_true q4
         have p6 : 0 ≤ (x4_1 : Int) := of_decide_eq_true (by first | (with_reducible assumption) | assumption)
         have q6 : x4_1 < (a0.size : Int) := of_decide_eq_true (by first | (with_reducible assumption) | assumption)
         have hx6 := bt_at a0 x4_1
         replace p6 := eq_true p6
         replace q6 := eq_true q6
         have p8 : 0 ≤ (x4_1 : Int) := of_decide_eq_true (by first | (with_reducible assumption) | assumption)
         have q8 : x4_1 < (a0.size : Int) := of_decide_eq_true (by first | (with_reducible assumption) | assumption)
         have hx8 := bt_at a0 x4_1
         replace p8 := eq_true p8
         replace q8 := eq_true q8
         have p10 : 0 ≤ (x4_1 : Int) := of_decide_eq_true (by first | (with_reducible assumption) | assumption)
         have q10 : x4_1 < (a0.size : Int) := of_decide_eq_true (by first | (with_reducible assumption) | assumption)
         have hx10 := bt_at a0 x4_1
         replace p10 := eq_true p10
         replace q10 := eq_true q10
         go_wp2
         go_roundg k1
         case measure => have := HK1.out; omega
         case rel => exact ⟨(x3_1), (wrap64 (x4_1 + 1)), (by first | rfl | (simp; done) | (simp [*]; done)), H', ⟨by have := HK1.out; omega⟩, ⟨by (with_reducible repeat (first | apply Kd.R_alloc | apply Kd.R_drewN | apply Kd.R_drew)); exact HO_3.out⟩, ⟨by repeat (first | (with_reducible first | exact HB.out | apply below_alloc | apply pw_below_drewN | apply below_drew1) | exact HB.out)⟩⟩
        ·rw [if_neg c11] at H
         have c11b0 : ((bt a0 x4_1) == 10) = false := beq_eq_false_iff_ne.mpr c11
         have c11b1 : ((bt a0 x4_1) != 10) = true := bne_iff_ne.mpr c11
         by_cases c13 : x3_1.length < 140737488355328
         ·rw [if_pos c13] at H
          have LMc13 := aM c13
          clear c13
          obtain ⟨y151, hy151⟩ : ∃ y_ : List Int, y_ = (x3_1 ++ [bt a0 x4_1]) := ⟨_, rfl⟩
          replace H : (spec_SubstPlain.l0 k1 a0 y151 (wrap64 (x4_1 + 1))) = some r := by first | (rw [hy151]; with_reducible exact H) | (have H2_ := (Option.bind_some _ _).symm.trans H; rw [hy151]; with_reducible exact H2_) | (have H2_ := (Option.bind_some _ _).symm.trans H; with_reducible exact H2_) | with_reducible exact H | (rw [hy151]; exact H) | exact H
          have Ny151 := aM hy151
          clear hy151
          have H' := aM H
          clear H
          have p4 : 0 ≤ (x4_1 : Int) := of_decide_eq_true (by first | (with_reducible assumption) | assumption)
          have q4 : x4_1 < (a0.size : Int) := of_decide_eq_true (by first | (with_reducible assumption) | assumption)
          have hx4 := bt_at a0 x4_1
          replace p4 := eq_true p4
          replace q4 := eq_true q4
          have p6 : 0 ≤ (x4_1 : Int) := of_decide_eq_true (by first | (with_reducible assumption) | assumption)
          have q6 : x4_1 < (a0.size : Int) := of_decide_eq_true (by first | (with_reducible assumption) | assumption)
          have hx6 := bt_at a0 x4_1
          replace p6 := eq_true p6
          replace q6 := eq_true q6
          have p8 : 0 ≤ (x4_1 : Int) := of_decide_eq_true (by first | (with_reducible assumption) | assumption)
          have q8 : x4_1 < (a0.size : Int) := of_decide_eq_true (by first | (with_reducible assumption) | assumption)
          have hx8 := bt_at a0 x4_1
          replace p8 := eq_true p8
          replace q8 := eq_true q8
          have p10 : 0 ≤ (x4_1 : Int) := of_decide_eq_true (by first | (with_reducible assumption) | assumption)
          have q10 : x4_1 < (a0.size : Int) := of_decide_eq_true (by first | (with_reducible assumption) | assumption)
          have hx10 := bt_at a0 x4_1
          replace p10 := eq_true p10
          replace q10 := eq_true q10
          have p12 : 0 ≤ (x4_1 : Int) := of_decide_eq_true (by first | (with_reducible assumption) | assumption)
          have q12 : x4_1 < (a0.size : Int) := of_decide_eq_true (by first | (with_reducible assumption) | assumption)
          have hx12 := bt_at a0 x4_1
          replace p12 := eq_true p12
          replace q12 := eq_true q12
          go_wp2_with (first | ((with_reducible refine gate_builtin (b := .append) (xs := #[.tmp 33, .tmp 37]) rfl ?_); at_builtin; refine Kd.R_append (Kd.int .u8) (w0 := w) w.heap.size rfl (.tmp 33) (.tmp 37) 50 5 (.int .u8 0) 1 rfl Tryz.underlying50 info5 rfl (by decide) (by omega) u3 x3_1 (bt a0 x4_1) [.int .u8 (bt a0 x4_1)] (fun _ => True) (fun _ => False) rfl rfl ?aP (fun _ hk => hk.elim) ?aF ?aO ?aB ?aS ?aL ?_; (case aP => exact rfl); (case aB => exact (by repeat (first | (with_reducible first | exact HB.out | apply below_alloc | apply pw_below_drewN | apply below_drew1) | exact HB.out))); (case aF => exact (fun _ _ => trivial)); (case aO => exact (by (with_reducible repeat (first | apply Kd.R_alloc | apply Kd.R_drewN | apply Kd.R_drew)); exact HO_3.out)); (case aS => exact (below_size (by repeat (first | (with_reducible first | exact HB.out | apply below_alloc | apply pw_below_drewN | apply below_drew1) | exact HB.out)))); (case aL => have := LMc13.out; omega); intro v152 w14 ho hb hg hat; rw [← Ny151.out] at ho; have n0_ := aM (hb); have n1_ := aM (ho); clear HB; clear HO_3; have HB := n0_; have HO153 := n1_; clear n0_ n1_; clear ho hb hg hat))
          go_roundg k1
          case measure => have := HK1.out; omega
          case rel => exact ⟨(y151), (wrap64 (x4_1 + 1)), (by first | rfl | (simp; done) | (simp [*]; done)), H', ⟨by have := HK1.out; omega⟩, ⟨by (with_reducible repeat (first | apply Kd.R_alloc | apply Kd.R_drewN | apply Kd.R_drew)); exact HO153.out⟩, ⟨by repeat (first | (with_reducible first | exact HB.out | apply below_alloc | apply pw_below_drewN | apply below_drew1) | exact HB.out)⟩⟩
         ·rw [if_neg c13] at H
          exact absurd H (by simp)
    ·rw [if_neg c3] at H
     exact absurd H (by simp)
   ·rw [if_neg c2] at H
    have c2b0 : decide (x4_1 < (a0.size : Int)) = false := decide_eq_false c2
    clear c2
    obtain rfl := Option.some.inj H
    have hcv15 := own_string (P := Tryz.prog) Tryz.underlying50 Tryz.underlying5 Tryz.underlying9 (Kd.own_of_R HO_3.out)
    go_wp2
    go_ret
    exact ⟨by first | rfl | (simp [errW_none, errW_some] <;> rfl) | (simp [*, errW_none, errW_some] <;> rfl), by repeat (first | (with_reducible first | exact HB.out | apply below_alloc | apply pw_below_drewN | apply below_drew1) | exact HB.out)⟩
end Go.Proofs.YtkhkmhbledigpaaGreatDoor.PS
namespace Go.Proofs.YtkhkmhbledigpaaGreatDoor.PS
open Go.RowKit Go.Proofs.YtkhkmhbledigpaaGreatDoorW.PrintWords Go.Proofs.YtkhkmhbledigpaaGreatDoorW.PrintLast Go.Proofs.YtkhkmhbledigpaaGreatDoorW.PrintMore
attribute [local go_sem] max2_int min2_int max_two min_two max_three min_three max_four min_four 
set_option linter.unusedVariables false
set_option linter.unusedSimpArgs false
def spec_substLetter.f (a0 : Int) : Option (Bool) := if a0 = 95 then (some true) else (if a0 ≥ 97 then (if a0 ≤ 122 then (some true) else (if a0 ≥ 65 then (some (decide (a0 ≤ 90))) else (some false))) else (if a0 ≥ 65 then (some (decide (a0 ≤ 90))) else (some false)))
set_option maxHeartbeats 8000000 in
set_option maxRecDepth 100000 in
theorem spec_substLetter.calls (a0 : Int) (r : Bool) (w : World) (h : spec_substLetter.f a0 = some r) :
  Calls Tryz.prog 25 #[.int .u8 a0] w fun e w' => e = .returned (.bool r) ∧ Drawn0 w w' := by
 have H : (if a0 = 95 then (some true) else (if a0 ≥ 97 then (if a0 ≤ 122 then (some true) else (if a0 ≥ 65 then (some (decide (a0 ≤ 90))) else (some false))) else (if a0 ≥ 65 then (some (decide (a0 ≤ 90))) else (some false)))) = some r := h
 clear h
 by_cases c2 : a0 = 95
 ·rw [if_pos c2] at H
  have c2b0 : (a0 == 95) = true := beq_iff_eq.mpr c2
  have c2b1 : (a0 != 95) = false := bne_eq_false_iff_eq.mpr c2
  clear c2
  obtain rfl := Option.some.inj H
  go_enter Tryz.func25, Tryz.ntmps25
  go_wp2
  go_ret
  exact ⟨by first | rfl | (simp; done) | (simp [*]; done), by repeat (first | exact Drawn0.refl _ | apply Drawn0.step)⟩
 ·rw [if_neg c2] at H
  have c2b0 : (a0 == 95) = false := beq_eq_false_iff_ne.mpr c2
  have c2b1 : (a0 != 95) = true := bne_iff_ne.mpr c2
  by_cases c3 : a0 ≥ 97
  ·rw [if_pos c3] at H
   have c3b0 : decide (97 ≤ a0) = true := decide_eq_true c3
   clear c3
   by_cases c4 : a0 ≤ 122
   ·rw [if_pos c4] at H
    have c4b0 : decide (a0 ≤ 122) = true := decide_eq_true c4
    clear c4
    obtain rfl := Option.some.inj H
    go_enter Tryz.func25, Tryz.ntmps25
    go_wp2
    go_ret
    exact ⟨by first | rfl | (simp; done) | (simp [*]; done), by repeat (first | exact Drawn0.refl _ | apply Drawn0.step)⟩
   ·rw [if_neg c4] at H
    have c4b0 : decide (a0 ≤ 122) = false := decide_eq_false c4
    clear c4
    by_cases c5 : a0 ≥ 65
    ·rw [if_pos c5] at H
     have c5b0 : decide (65 ≤ a0) = true := decide_eq_true c5
     clear c5
     obtain rfl := Option.some.inj H
     go_enter Tryz.func25, Tryz.ntmps25
     go_wp2
     go_ret
     exact ⟨by first | rfl | (simp; done) | (simp [*]; done), by repeat (first | exact Drawn0.refl _ | apply Drawn0.step)⟩
    ·rw [if_neg c5] at H
     have c5b0 : decide (65 ≤ a0) = false := decide_eq_false c5
     clear c5
     obtain rfl := Option.some.inj H
     go_enter Tryz.func25, Tryz.ntmps25
     go_wp2
     go_ret
     exact ⟨by first | rfl | (simp; done) | (simp [*]; done), by repeat (first | exact Drawn0.refl _ | apply Drawn0.step)⟩
  ·rw [if_neg c3] at H
   have c3b0 : decide (97 ≤ a0) = false := decide_eq_false c3
   clear c3
   by_cases c6 : a0 ≥ 65
   ·rw [if_pos c6] at H
    have c6b0 : decide (65 ≤ a0) = true := decide_eq_true c6
    clear c6
    obtain rfl := Option.some.inj H
    go_enter Tryz.func25, Tryz.ntmps25
    go_wp2
    go_ret
    exact ⟨by first | rfl | (simp; done) | (simp [*]; done), by repeat (first | exact Drawn0.refl _ | apply Drawn0.step)⟩
   ·rw [if_neg c6] at H
    have c6b0 : decide (65 ≤ a0) = false := decide_eq_false c6
    clear c6
    obtain rfl := Option.some.inj H
    go_enter Tryz.func25, Tryz.ntmps25
    go_wp2
    go_ret
    exact ⟨by first | rfl | (simp; done) | (simp [*]; done), by repeat (first | exact Drawn0.refl _ | apply Drawn0.step)⟩
end Go.Proofs.YtkhkmhbledigpaaGreatDoor.PS
namespace Go.Proofs.YtkhkmhbledigpaaGreatDoor.PS
open Go.RowKit Go.Proofs.YtkhkmhbledigpaaGreatDoorW.PrintWords Go.Proofs.YtkhkmhbledigpaaGreatDoorW.PrintLast Go.Proofs.YtkhkmhbledigpaaGreatDoorW.PrintMore
attribute [local go_sem] max2_int min2_int max_two min_two max_three min_three max_four min_four 
set_option linter.unusedVariables false
set_option linter.unusedSimpArgs false
end Go.Proofs.YtkhkmhbledigpaaGreatDoor.PS
namespace Go.Proofs.YtkhkmhbledigpaaGreatDoor.Tr
open Go.RowKit Go.Proofs.YtkhkmhbledigpaaGreatDoorW.PrintWords Go.Proofs.YtkhkmhbledigpaaGreatDoorW.PrintLast Go.Proofs.YtkhkmhbledigpaaGreatDoor.Str Go.Proofs.YtkhkmhbledigpaaGreatDoor.Kit Go.Proofs.YtkhkmhbledigpaaGreatDoor.MapV Go.Proofs.YtkhkmhbledigpaaGreatDoor.Frame Go.Proofs.YtkhkmhbledigpaaGreatDoor.PS
set_option linter.unusedVariables false
set_option linter.unusedSimpArgs false
theorem filter_step (s : BA) (f : UInt8 → Bool) (i : Nat) (h : i < (lb s).length) : ((lb s).drop i).filter f = (if f (lb s)[i] then [(lb s)[i]] else []) ++ ((lb s).drop (i + 1)).filter f := by
 rw [List.drop_eq_getElem_cons h, List.filter_cons]
 split <;> rfl
theorem at_get (s : BA) (i : Nat) (h : i < (lb s).length) : At s i (lb s)[i] := by
 unfold At
 exact List.getElem?_eq_getElem h
theorem byte_ne {c : UInt8} (n : Nat) (hn : n < 256) (h : ¬ (c.toNat : Int) = (n : Int)) : c ≠ UInt8.ofNat n := fun e => h (by
 rw [e, UInt8.toNat_ofNat']
 omega)
def keepP (c : UInt8) : Bool := c != 36 && c != 123 && c != 125 && c != 10
theorem ends_plain_l (s : BA) (hs : s.size < 140737488355328) : ∀ (d i : Nat) (l : Bs), i + d = s.size → l.length ≤ i → Ends (fun r => r = mk (l ++ ((lb s).drop i).filter keepP)) (fun k => spec_SubstPlain.l0 k s (bnums l) (i : Int)) := by
 intro d
 induction d with
 | zero =>
  intro i l hi hl
  refine Ends.step (fun k => by simp only [spec_SubstPlain.l0]; rfl) ?_
  refine Ends.no (by omega) (Ends.now ?_)
  rw [str_bnums, List.drop_eq_nil_of_le (by rw [lb_length]; omega)]
  simp [mk]
 | succ d ih =>
  intro i l hi hl
  have hlt : i < (lb s).length := by rw [lb_length]; omega
  have hbt := (at_get s i hlt).bt
  have hf := filter_step s keepP i hlt
  have hno := ih (i + 1) l (by omega) (by omega)
  refine Ends.step (fun k => by simp only [spec_SubstPlain.l0]; rfl) ?_
  rw [hbt, wrap1 i (by omega), hf]
  generalize (lb s)[i] = c
  have no : ∀ n : Nat, n < 256 → keepP (UInt8.ofNat n) = false → (c.toNat : Int) = (n : Int) → keepP c = false := fun n hn h e => by
   have : c = UInt8.ofNat n := UInt8.toNat_inj.1 (by rw [UInt8.toNat_ofNat']; omega)
   rw [this]; exact h
  refine Ends.yes (by omega) (Ends.yes (by omega) (Ends.ite (fun h1 => ?_) (fun h1 => Ends.ite (fun h2 => ?_) (fun h2 => Ends.ite (fun h3 => ?_) (fun h3 => Ends.ite (fun h4 => ?_) (fun h4 => ?_))))))
  ·rw [no 36 (by decide) (by decide) h1]; exact hno
  ·rw [no 123 (by decide) (by decide) h2]; exact hno
  ·rw [no 125 (by decide) (by decide) h3]; exact hno
  ·rw [no 10 (by decide) (by decide) h4]; exact hno
  ·have hc : keepP c = true := by
    unfold keepP
    have a1 : (c != 36) = true := bne_iff_ne.2 (byte_ne 36 (by decide) h1)
    have a2 : (c != 123) = true := bne_iff_ne.2 (byte_ne 123 (by decide) h2)
    have a3 : (c != 125) = true := bne_iff_ne.2 (byte_ne 125 (by decide) h3)
    have a4 : (c != 10) = true := bne_iff_ne.2 (byte_ne 10 (by decide) h4)
    rw [a1, a2, a3, a4]
    rfl
   rw [hc]
   refine Ends.yes (by rw [bnums_length]; omega) ?_
   have h := ih (i + 1) (l ++ [c]) (by omega) (by simp; omega)
   rw [bnums_append, List.append_assoc] at h
   exact h
theorem ends_plain (s : BA) (hs : s.size < 140737488355328) : Ends (fun r => r = mk ((lb s).filter keepP)) (fun k => spec_SubstPlain.f k s) := ends_plain_l s hs s.size 0 [] (by omega) (by simp)
end Go.Proofs.YtkhkmhbledigpaaGreatDoor.Tr
namespace Go.Proofs.YtkhkmhbledigpaaGreatDoor.Tr
open Go.RowKit Go.Proofs.YtkhkmhbledigpaaGreatDoorW.PrintWords Go.Proofs.YtkhkmhbledigpaaGreatDoorW.PrintLast Go.Proofs.YtkhkmhbledigpaaGreatDoor.Str Go.Proofs.YtkhkmhbledigpaaGreatDoor.Kit Go.Proofs.YtkhkmhbledigpaaGreatDoor.MapV Go.Proofs.YtkhkmhbledigpaaGreatDoor.Frame Go.Proofs.YtkhkmhbledigpaaGreatDoor.PS
set_option linter.unusedVariables false
set_option linter.unusedSimpArgs false
theorem letter_is (c : UInt8) : spec_substLetter.f (c.toNat : Int) = some (isLet c.toNat) := by
 unfold spec_substLetter.f
 rcases hl : isLet c.toNat with _ | _
 ·have hn := isLet_no hl
  rw [if_neg (by omega)]
  split
  ·rw [if_neg (by omega)]
   split
   ·rw [decide_eq_false (by omega)]
   ·rfl
  ·split
   ·rw [decide_eq_false (by omega)]
   ·rfl
 ·have hy := (isLet_iff _).1 hl
  split
  ·rfl
  ·split
   ·split
    ·rfl
    ·split
     ·rw [decide_eq_true (by omega)]
     ·exfalso; omega
   ·split
    ·rw [decide_eq_true (by omega)]
    ·exfalso; omega
theorem buf_cells {w : World} {base : Nat} {A : Option Addr} {n c : Nat} {l : Bs} (h : Buf w base (.slice A n c) l) (h0 : 0 < l.length) : ∃ g, A = some ⟨g, 0, none⟩ ∧ n = l.length ∧ l.length ≤ c ∧ ∀ (i : Nat) (hi : i < l.length), w.cell? ⟨g, i, none⟩ = some (.int .u8 (l[i].toNat : Int)) := by
 obtain ⟨h1, h2⟩ := h
 rcases h2 with ⟨hv, hn⟩ | ⟨g, cap, cur, hv, hg, hb, hle, hm, hsz, htk⟩
 ·exfalso
  omega
 ·injection hv with e1 e2 e3
  subst e1 e2 e3
  refine ⟨g, rfl, rfl, hle, fun i hi => ?_⟩
  have hc : cur[i]? = some (.int .u8 (l[i].toNat : Int)) := by
   have h3 : (cur.toList.take (l.length * 1))[i]? = some (.int .u8 (l[i].toNat : Int)) := by
    rw [htk]
    simp [nums, bnums, hi]
   rw [List.getElem?_take_of_lt (by omega)] at h3
   rw [← Array.getElem?_toList]
   exact h3
  exact cb_cell hb hc
theorem buf_slice {w : World} {base : Nat} {v : Value} {l : Bs} (h : Buf w base v l) (n : Nat) (hn : l.length = n) : ∃ A c, v = .slice A n c := by
 subst hn
 exact h.slice
theorem cut_string {w : World} {g cap : Nat} (b : UInt8) (r : Bs) (hc : ∀ (i : Nat) (hi : i < (b :: r).length), w.cell? ⟨g, i, none⟩ = some (.int .u8 ((b :: r)[i].toNat : Int))) : (convert 50 9 (.slice (some ⟨g, 1, none⟩) r.length cap)).run Tryz.prog w = .ok (.string (mk r)) w := by
 have h := run_convert_bytes_arg (P := Tryz.prog) w 50 5 Tryz.underlying50 Tryz.underlying5 g 1 r.length cap (bnums r) (bnums_length r) (fun i hi => ?_) 9 Tryz.underlying9
 ·rw [str_bnums] at h
  exact h
 ·have h := hc (i + 1) (by simp; omega)
  rw [Nat.add_comm 1 i, h]
  simp [bnums, hi]
def conC (c : UInt8) : Bool := isCon c.toNat
def nameOf (s : BA) : Bs := match (lb s).filter conC with
 | [] => [95]
 | c :: r => if isLet c.toNat then c :: r else 95 :: c :: r
theorem nameOf_is (s : BA) : IsName (nameOf s) := by
 have hf : ∀ c, c ∈ (lb s).filter conC → isCon c.toNat = true := fun c hc => (List.mem_filter.1 hc).2
 unfold nameOf
 split
 ·exact ⟨by simp, fun c hc => by simp at hc; rw [← hc]; decide, fun c hc => by simp at hc; rw [hc]; decide⟩
 ·rename_i c r he
  rw [he] at hf
  split
  ·rename_i hl
   exact ⟨by simp, fun x hx => by simp at hx; rw [← hx]; exact hl, hf⟩
  ·exact ⟨by simp, fun x hx => by simp at hx; rw [← hx]; decide, fun x hx => by
    rcases List.mem_cons.1 hx with rfl | hx
    ·decide
    ·exact hf x hx⟩
theorem nameOf_size (s : BA) : (nameOf s).length ≤ s.size + 1 := by
 have h := List.length_filter_le conC (lb s)
 rw [lb_length] at h
 unfold nameOf
 split
 ·simp
 ·rename_i c r he
  rw [he] at h
  split <;> simp at h ⊢ <;> omega
set_option maxHeartbeats 3200000 in
set_option maxRecDepth 100000 in
theorem substName (s : BA) (hs : s.size < 70368744177664) (w : World) : Calls Tryz.prog 11 #[.string s] w fun e w' => e = .returned (.string (mk (nameOf s))) ∧ Below w.heap.size w w' := by
 have hb0 := below_alloc (Below.refl w.heap.size w) (.cells #[.int .u8 95] 5)
 have HB0 := aM hb0
 have HO0 := aM (show Buf (w.alloc (.cells #[.int .u8 95] 5)) w.heap.size (.slice (some ⟨w.heap.size, 0, none⟩) 1 1) [95] from
  ⟨rfl, .inr ⟨w.heap.size, 1, _, rfl, Nat.le_refl _, cb_new _ _, Nat.le_refl _, by unfold maxLen; omega, rfl, rfl⟩⟩)
 clear hb0
 go_enter Tryz.func11, Tryz.ntmps11
 go_wp2
 go_loopw [3, 4] (fun v3 v4 wr => ∃ i : Nat, v4 = .int .i64 i ∧ i ≤ s.size ∧ Aside0 (Buf wr w.heap.size v3 (95 :: ((lb s).take i).filter conC)) ∧ Aside0 (Below w.heap.size w wr)) (fun _ v4 _ => s.size - (intOf v4).toNat)
 case atStart => exact ⟨0, rfl, by omega, HO0, HB0⟩
 case round =>
  clear HO0 HB0
  obtain ⟨i, rfl, hi, HO, HB⟩ := hrel
  by_cases hlt : i < s.size
  ·have q1 : (i : Int) < (s.size : Int) := by omega
   have q0 : (0 : Int) ≤ (i : Int) := by omega
   have q5 : decide ((i : Int) < (s.size : Int)) = true := decide_eq_true q1
   have hll : i < (lb s).length := by rw [lb_length]; exact hlt
   have hat := at_get s i hll
   have HTK := aM (show ((lb s).take (i + 1)).filter conC = ((lb s).take i).filter conC ++ (if conC (lb s)[i] then [(lb s)[i]] else []) by
    rw [List.take_succ_eq_append_getElem hll, List.filter_append]
    congr 1
    simp only [List.filter_cons, List.filter_nil])
   have HLN := aM (show (95 :: ((lb s).take i).filter conC : Bs).length + 1 ≤ 140737488355328 by
    have := List.length_filter_le conC ((lb s).take i)
    rw [List.length_take] at this
    simp only [List.length_cons]
    omega)
   generalize (lb s)[i] = c at hat HTK
   have HAT := aM hat
   have CL := aM (fun W => spec_substLetter.calls (c.toNat : Int) (isLet c.toNat) W (letter_is c))
   have hnum : ((s[i]'hlt).toNat : Int) = (c.toNat : Int) := hat.num
   clear hat
   go_wp2_with fail
   refine (CL.out _).mono ?_
   rintro e w1 ⟨rfl, ⟨nd, rfl⟩⟩
   have HB1 := aM (hb_then HB.out (Drawn0.below (⟨⟨nd, rfl⟩⟩ : Drawn0 wr (wr.drewN nd))))
   have HO1 := aM (HO.out.below (Drawn0.below (⟨⟨nd, rfl⟩⟩ : Drawn0 wr (wr.drewN nd))))
   have HCC := aM (isCon_iff c.toNat)
   clear CL
   rcases hl : isLet c.toNat with _ | _
   ·by_cases h48 : 48 ≤ c.toNat
    ·have d1 : decide ((48 : Int) ≤ (c.toNat : Int)) = true := decide_eq_true (by omega)
     by_cases h57 : c.toNat ≤ 57
     ·have d2 : decide ((c.toNat : Int) ≤ 57) = true := decide_eq_true (by omega)
      have HK := aM (show 95 :: ((lb s).take (i + 1)).filter conC = (95 :: ((lb s).take i).filter conC) ++ [c] by
       rw [HTK.out, show conC c = true from HCC.out.2 (.inr ⟨h48, h57⟩)]; simp)
      clear HTK HCC h48 h57
      go_wp2_with (at_builtin; refine append_bufB (.tmp 28) (.tmp 32) rfl rfl c (by first | rfl | exact HAT.out.num) rfl rfl HO1.out HB1.out HLN.out ?_; intro v1 w2 ho hb hg; have HO3 := aM ho; have HB3 := aM hb; clear ho hb hg)
      go_roundw
      case rel => exact ⟨i + 1, by go_num, by omega, ⟨by rw [HK.out]; exact HO3.out⟩, HB3⟩
      case measure => simp [intOf]; omega
     ·have d2 : decide ((c.toNat : Int) ≤ 57) = false := decide_eq_false (by omega)
      have HK := aM (show ((lb s).take (i + 1)).filter conC = ((lb s).take i).filter conC by
       have : conC c = false := by
        rcases h : conC c with _ | _
        ·rfl
        ·rcases HCC.out.1 h with h | h
         ·rw [hl] at h; cases h
         ·omega
       rw [HTK.out, this]; simp)
      clear HTK HCC h48 h57
      go_wp2
      go_roundw
      case rel => exact ⟨i + 1, by go_num, by omega, ⟨by rw [HK.out]; exact HO1.out⟩, HB1⟩
      case measure => simp [intOf]; omega
    ·have d1 : decide ((48 : Int) ≤ (c.toNat : Int)) = false := decide_eq_false (by omega)
     have HK := aM (show ((lb s).take (i + 1)).filter conC = ((lb s).take i).filter conC by
      have : conC c = false := by
       rcases h : conC c with _ | _
       ·rfl
       ·rcases HCC.out.1 h with h | h
        ·rw [hl] at h; cases h
        ·omega
      rw [HTK.out, this]; simp)
     clear HTK HCC h48
     go_wp2
     go_roundw
     case rel => exact ⟨i + 1, by go_num, by omega, ⟨by rw [HK.out]; exact HO1.out⟩, HB1⟩
     case measure => simp [intOf]; omega
   ·have HK := aM (show 95 :: ((lb s).take (i + 1)).filter conC = (95 :: ((lb s).take i).filter conC) ++ [c] by
     rw [HTK.out, show conC c = true from HCC.out.2 (.inl hl)]; simp)
    clear HTK HCC
    go_wp2_with (at_builtin; refine append_bufB (.tmp 28) (.tmp 32) rfl rfl c (by first | rfl | exact HAT.out.num) rfl rfl HO1.out HB1.out HLN.out ?_; intro v1 w2 ho hb hg; have HO3 := aM ho; have HB3 := aM hb; clear ho hb hg)
    go_roundw
    case rel => exact ⟨i + 1, by go_num, by omega, ⟨by rw [HK.out]; exact HO3.out⟩, HB3⟩
    case measure => simp [intOf]; omega
  ·have q5 : decide ((i : Int) < (s.size : Int)) = false := decide_eq_false (by omega)
   have hall := HO.out
   rw [List.take_of_length_le (by rw [lb_length]; omega)] at hall
   have HNM := aM (show nameOf s = match (lb s).filter conC with
    | [] => [95]
    | c :: r => if isLet c.toNat then c :: r else 95 :: c :: r from rfl)
   clear HO
   rcases hfl : (lb s).filter conC with _ | ⟨c, r⟩
   ·rw [hfl] at hall HNM
    have hcv := hall.string
    obtain ⟨A3, c3, rfl⟩ := buf_slice hall 1 rfl
    clear hall hfl
    go_wp2
    go_ret
    exact ⟨by rw [HNM.out]; rfl, HB.out⟩
   ·have hrl : r.length + 1 ≤ s.size := by
     have := List.length_filter_le conC (lb s)
     rw [hfl, lb_length] at this
     simpa using this
    rw [hfl] at hall HNM
    obtain ⟨A3, c3, rfl⟩ := buf_slice hall (r.length + 2) (by simp)
    obtain ⟨g, rfl, _, hcp, hcs⟩ := buf_cells hall (by simp)
    have hc1 : wr.cell? ⟨g, 1, none⟩ = some (.int .u8 (c.toNat : Int)) := hcs 1 (by simp)
    have hdb := fun nd => Drawn0.below (⟨⟨nd, rfl⟩⟩ : Drawn0 wr (wr.drewN nd))
    have hcv : ∀ nd, (convert 50 9 (.slice (some ⟨g, 0, none⟩) (r.length + 2) c3)).run Tryz.prog (wr.drewN nd) = .ok (.string (mk (95 :: c :: r))) (wr.drewN nd) := fun nd => (hall.below (hdb nd)).string
    have hcut : ∀ nd, (convert 50 9 (.slice (some ⟨g, 1, none⟩) (r.length + 1) (c3 - 1))).run Tryz.prog (wr.drewN nd) = .ok (.string (mk (c :: r))) (wr.drewN nd) := fun nd => cut_string (cap := c3 - 1) 95 (c :: r) (fun i hi => pw_cell_below (hdb nd) (hcs i hi))
    have hcp2 : r.length + 2 ≤ c3 := by simpa using hcp
    have CL := aM (fun W => spec_substLetter.calls (c.toNat : Int) (isLet c.toNat) W (letter_is c))
    have q6 : decide ((1 : Int) < ((r.length + 2 : Nat) : Int)) = true := decide_eq_true (by omega)
    have q7 : (1 : Int) < ((r.length + 2 : Nat) : Int) := by omega
    have HCV := aM hcv
    have HCT := aM hcut
    obtain ⟨nn, hnn⟩ : ∃ nn, r.length + 2 = nn := ⟨_, rfl⟩
    have hn2 : r.length + 1 = nn - 1 := by omega
    rw [hnn] at HCV q6 q7 hcp2 ⊢
    rw [hn2] at HCT
    have hn3 : 2 ≤ nn := by omega
    have hn4 : nn ≤ 70368744177666 := by omega
    clear hall hfl hcp hcs hcv hcut hrl hnn hn2 hdb
    go_wp2_with fail
    refine (CL.out _).mono ?_
    rintro e w1 ⟨rfl, ⟨nd, rfl⟩⟩
    have HB1 := aM (pw_below_drewN HB.out nd)
    have hcv := HCV.out nd
    have hct := HCT.out nd
    clear CL HCV HCT
    rcases hl : isLet c.toNat with _ | _
    ·rw [hl] at HNM
     go_wp2
     go_ret
     exact ⟨by rw [HNM.out]; rfl, HB1.out⟩
    ·rw [hl] at HNM
     have q8 : (1 : Int) ≤ (nn : Int) := by omega
     go_wp2
     go_ret
     exact ⟨by rw [HNM.out]; rfl, HB1.out⟩
end Go.Proofs.YtkhkmhbledigpaaGreatDoor.Tr
namespace Go.Proofs.YtkhkmhbledigpaaGreatDoor.Tr
open Go.RowKit Go.Proofs.YtkhkmhbledigpaaGreatDoorW.PrintWords Go.Proofs.YtkhkmhbledigpaaGreatDoorW.PrintLast Go.Proofs.YtkhkmhbledigpaaGreatDoor.Str Go.Proofs.YtkhkmhbledigpaaGreatDoor.Kit Go.Proofs.YtkhkmhbledigpaaGreatDoor.MapV Go.Proofs.YtkhkmhbledigpaaGreatDoor.Frame Go.Proofs.YtkhkmhbledigpaaGreatDoor.PS
open Go.Proofs.YtkhkmhbledigpaaGreatDoor.Maps (MapS key_u map_u lookFn lookT kp toP Ok encP ofP fitsP)
set_option linter.unusedVariables false
set_option linter.unusedSimpArgs false
end Go.Proofs.YtkhkmhbledigpaaGreatDoor.Tr
namespace Go.Proofs.YtkhkmhbledigpaaGreatDoor.Tr
open Go.RowKit Go.Proofs.YtkhkmhbledigpaaGreatDoorW.PrintWords Go.Proofs.YtkhkmhbledigpaaGreatDoorW.PrintLast Go.Proofs.YtkhkmhbledigpaaGreatDoor.Str Go.Proofs.YtkhkmhbledigpaaGreatDoor.Kit Go.Proofs.YtkhkmhbledigpaaGreatDoor.MapV Go.Proofs.YtkhkmhbledigpaaGreatDoor.Frame Go.Proofs.YtkhkmhbledigpaaGreatDoor.PS
set_option linter.unusedVariables false
set_option linter.unusedSimpArgs false
def sgn (k : Fin 6) : Bs := lb (opAt k).1
def isSg (c : UInt8) : Prop := c = 58 ∨ c = 63 ∨ c = 45 ∨ c = 43
def IsWord (wd : Bs) : Prop := ∀ c, c ∈ wd → c ≠ 36 ∧ c ≠ 123 ∧ c ≠ 125 ∧ c ≠ 10
theorem sgn_cases (k : Fin 6) : (∃ c, sgn k = [c] ∧ (c = 63 ∨ c = 45 ∨ c = 43)) ∨ (∃ c, sgn k = [58, c] ∧ (c = 63 ∨ c = 45 ∨ c = 43)) := by
 match k with
 | ⟨0, _⟩ => exact .inr ⟨63, rfl, by decide⟩
 | ⟨1, _⟩ => exact .inl ⟨63, rfl, by decide⟩
 | ⟨2, _⟩ => exact .inr ⟨45, rfl, by decide⟩
 | ⟨3, _⟩ => exact .inl ⟨45, rfl, by decide⟩
 | ⟨4, _⟩ => exact .inr ⟨43, rfl, by decide⟩
 | ⟨5, _⟩ => exact .inl ⟨43, rfl, by decide⟩
 | ⟨n + 6, h⟩ => exact absurd h (by omega)
theorem sgn_plain (k : Fin 6) : ∀ c, c ∈ sgn k → c ≠ 36 ∧ c ≠ 123 ∧ c ≠ 125 ∧ c ≠ 10 := by
 intro c hc
 rcases sgn_cases k with ⟨d, hk, hd⟩ | ⟨d, hk, hd⟩ <;> rw [hk] at hc <;> simp at hc
 ·subst hc; rcases hd with rfl | rfl | rfl <;> decide
 ·rcases hc with rfl | rfl
  ·decide
  ·rcases hd with rfl | rfl | rfl <;> decide
theorem sgn_len (k : Fin 6) : 1 ≤ (sgn k).length ∧ (sgn k).length ≤ 2 := by
 rcases sgn_cases k with ⟨d, hk, hd⟩ | ⟨d, hk, hd⟩ <;> rw [hk] <;> simp
theorem ends_operator (s : BA) (hs : s.size < 4611686018427387904) (p q : Bs) (k : Fin 6) (h : lb s = p ++ sgn k ++ q) : Ends (fun r => r = ((p.length + (sgn k).length : Nat) : Int)) (fun j => template_zzOperator.f j s (p.length : Int)) := by
 have hsz : s.size = p.length + (sgn k).length + q.length := by rw [← lb_length, h]; simp; omega
 unfold template_zzOperator.f
 rcases sgn_cases k with ⟨c, hk, hc⟩ | ⟨c, hk, hc⟩
 ·rw [hk] at h hsz ⊢
  rw [List.length_singleton] at hsz ⊢
  have h0 : At s p.length c := At.of (p := p) (q := q) (by rw [h]; simp) rfl
  have hb := h0.bt
  have hne : ((c.toNat : Int) == 58) = false := by rcases hc with rfl | rfl | rfl <;> decide
  rw [hb, hne]
  refine Ends.yes (by omega) (Ends.yes (by omega) ?_)
  refine Ends.step (fun k => by simp only [template_zzOperator.j0]; rfl) ?_
  rw [hb, wrap1 p.length (by omega)]
  refine Ends.no (by simp) (Ends.yes (by omega) (Ends.yes (by omega) ?_))
  rcases hc with rfl | rfl | rfl
  ·exact Ends.no (by decide) (Ends.no (by decide) (Ends.yes (by decide) (Ends.now rfl)))
  ·exact Ends.yes (by decide) (Ends.now rfl)
  ·exact Ends.no (by decide) (Ends.yes (by decide) (Ends.now rfl))
 ·rw [hk] at h hsz ⊢
  have e2 : ([58, c] : Bs).length = 2 := rfl
  rw [e2] at hsz ⊢
  have h0 : At s p.length 58 := At.of (p := p) (q := c :: q) (by rw [h]; simp) rfl
  have h1 : At s (p.length + 1) c := At.of (p := p ++ [58]) (q := q) (by rw [h]; simp) (by simp)
  have hb := h0.bt
  have hb1 := h1.bt
  have hne : ((((58 : UInt8).toNat : Int)) == 58) = true := by decide
  rw [hb, hne]
  refine Ends.yes (by omega) (Ends.yes (by omega) ?_)
  refine Ends.step (fun k => by simp only [template_zzOperator.j0]; rfl) ?_
  rw [wrap1 p.length (by omega), hb1, wrap1 (p.length + 1) (by omega)]
  refine Ends.yes (by simp) (Ends.yes (by omega) (Ends.yes (by omega) ?_))
  rcases hc with rfl | rfl | rfl
  ·exact Ends.no (by decide) (Ends.no (by decide) (Ends.yes (by decide) (Ends.now rfl)))
  ·exact Ends.yes (by decide) (Ends.now rfl)
  ·exact Ends.no (by decide) (Ends.yes (by decide) (Ends.now rfl))
theorem ends_last_l (s : BA) (hs : s.size < 4611686018427387904) (e : Nat) (he : At s e 125) (hse : s.size = e + 1) (i : Nat) (hno : ∀ j, i ≤ j → j < e → ∃ c, At s j c ∧ c ≠ 125 ∧ c ≠ 10) : ∀ (d j : Nat) (x : Int), i ≤ j → j + d = e → Ends (fun r => r = (e : Int)) (fun k => template_zzLast.l0 k s (j : Int) x) := by
 intro d
 induction d with
 | zero =>
  intro j x h3 hj
  obtain rfl : j = e := by omega
  have n1 : ((((125 : UInt8).toNat : Int)) != 10) = true := by decide
  refine Ends.step (fun k => by simp only [template_zzLast.l0]; rfl) ?_
  rw [he.bt, n1]
  refine Ends.yes (by omega) (Ends.yes (by omega) ?_)
  refine Ends.step (fun k => by simp only [template_zzLast.j1]; rfl) ?_
  rw [he.bt, wrap1 j (by omega)]
  refine Ends.yes (by simp) (Ends.yes (by omega) (Ends.yes (by omega) (Ends.yes (by decide) ?_)))
  refine Ends.step (fun k => by simp only [template_zzLast.l0]; rfl) ?_
  refine Ends.no (by omega) ?_
  refine Ends.step (fun k => by simp only [template_zzLast.j1]; rfl) ?_
  exact Ends.no (by simp) (Ends.now rfl)
 | succ d ih =>
  intro j x h3 hj
  obtain ⟨c, hc, h1, h2⟩ := hno j h3 (by omega)
  have hlt := hc.lt
  have n1 : ¬ ((c.toNat : Int)) = 125 := fun e => h1 (UInt8.toNat_inj.1 (by show c.toNat = 125; omega))
  have n2 : ((c.toNat : Int) != 10) = true := bne_iff_ne.2 (fun e => h2 (UInt8.toNat_inj.1 (by show c.toNat = 10; omega)))
  refine Ends.step (fun k => by simp only [template_zzLast.l0]; rfl) ?_
  rw [hc.bt, n2]
  refine Ends.yes (by omega) (Ends.yes (by omega) ?_)
  refine Ends.step (fun k => by simp only [template_zzLast.j1]; rfl) ?_
  rw [hc.bt, wrap1 j (by omega)]
  exact Ends.yes (by simp) (Ends.yes (by omega) (Ends.yes (by omega) (Ends.no n1 (ih (j + 1) x (by omega) (by omega)))))
def body (n : Bs) (k : Fin 6) (wd : Bs) : Bs := n ++ sgn k ++ wd
theorem body_len (n : Bs) (k : Fin 6) (wd : Bs) : (body n k wd).length = n.length + (sgn k).length + wd.length := by unfold body; simp; omega
theorem body_ne (n : Bs) (k : Fin 6) (wd : Bs) : body n k wd ≠ [] := by
 intro e
 have := body_len n k wd
 rw [e] at this
 have := (sgn_len k).1
 simp at *
 omega
theorem name_plain {n : Bs} (hn : IsName n) {c : UInt8} (hc : c ∈ n) : c ≠ 36 ∧ c ≠ 123 ∧ c ≠ 125 ∧ c ≠ 10 := by
 have := hn.con c hc
 refine ⟨?_, ?_, ?_, ?_⟩ <;> (rintro rfl; exact absurd this (by decide))
theorem body_plain {n : Bs} (hn : IsName n) (k : Fin 6) {wd : Bs} (hw : IsWord wd) : ∀ c, c ∈ body n k wd → c ≠ 36 ∧ c ≠ 123 ∧ c ≠ 125 ∧ c ≠ 10 := by
 intro c hc
 unfold body at hc
 simp only [List.mem_append] at hc
 rcases hc with (hc | hc) | hc
 ·exact name_plain hn hc
 ·exact sgn_plain k c hc
 ·exact hw c hc
theorem ends_at_op (s : BA) (hs : s.size < 4611686018427387904) (p n wd : Bs) (k : Fin 6) (hn : IsName n) (hw : IsWord wd) (h : lb s = p ++ ([36, 123] ++ body n k wd ++ [125])) :
  Ends (fun r => r = ([mk ([36, 123] ++ body n k wd ++ [125]), E0, E0, mk (body n k wd), mk wd, E0], ((p.length + ((body n k wd).length + 3) : Nat) : Int), true)) (fun k => template_zzAt.f k s (p.length : Int)) := by
 have hbl := body_len n k wd
 have hsg := sgn_len k
 have hsz : s.size = p.length + ((body n k wd).length + 3) := by rw [← lb_length, h]; simp
 have h0 : At s p.length 36 := At.of (p := p) (q := 123 :: (body n k wd ++ [125])) (by rw [h]; simp) rfl
 have h1 : At s (p.length + 1) 123 := At.of (p := p ++ [36]) (q := body n k wd ++ [125]) (by rw [h]; simp) (by simp)
 have hsplit : lb s = (p ++ [36, 123]) ++ n ++ (sgn k ++ (wd ++ [125])) := by rw [h]; simp [body]
 have hlen : (p ++ [36, 123]).length = p.length + 2 := by simp
 have hlen2 : (p ++ [36, 123] ++ n).length = p.length + 2 + n.length := by rw [List.length_append, hlen]
 have hlen3 : (p ++ [36, 123] ++ n ++ sgn k).length = p.length + 2 + n.length + (sgn k).length := by rw [List.length_append, hlen2]
 obtain ⟨na, nb⟩ := name_at hsplit hn
 rw [hlen] at na nb
 obtain ⟨c, r, hcr, hcs⟩ := sign_head k
 have hcr' : sgn k = c :: r := hcr
 have hc7 : c.toNat < 128 ∧ isCon c.toNat = false ∧ ((c.toNat : Int) == 125) = false := by rcases hcs with rfl | rfl | rfl | rfl <;> decide
 have hstop : Stops s (p.length + 2 + n.length) := by
  have := stops_at (s := s) (p := p ++ [36, 123] ++ n) (q := r ++ (wd ++ [125])) (c := c) (by rw [hsplit, hcr']; simp) hc7.1 hc7.2.1
  rw [hlen2] at this
  exact this
 have h2 : At s (p.length + 2 + n.length) c := At.of (p := p ++ [36, 123] ++ n) (q := r ++ (wd ++ [125])) (by rw [hsplit, hcr']; simp) hlen2.symm
 have h3 : At s (p.length + 2 + n.length + (sgn k).length + wd.length) 125 := At.of (p := p ++ [36, 123] ++ n ++ sgn k ++ wd) (q := []) (by rw [hsplit]; simp) (by rw [List.length_append, hlen3])
 have hop := ends_operator s hs (p ++ [36, 123] ++ n) (wd ++ [125]) k (by rw [hsplit]; simp)
 rw [hlen2] at hop
 have hla := ends_last_l s hs _ h3 (by omega) (p.length + 2 + n.length + (sgn k).length) (fun j hj1 hj2 => by
  have hj3 : j - (p.length + 2 + n.length + (sgn k).length) < wd.length := by omega
  refine ⟨wd[j - (p.length + 2 + n.length + (sgn k).length)], ?_, (hw _ (List.getElem_mem hj3)).2.2⟩
  unfold At
  rw [hsplit, ← List.append_assoc, ← List.append_assoc, List.append_assoc (p ++ [36, 123] ++ n ++ sgn k), List.getElem?_append_right (by rw [hlen3]; omega), hlen3, List.getElem?_append_left hj3, List.getElem?_eq_getElem hj3]) wd.length (p.length + 2 + n.length + (sgn k).length) (-1) (Nat.le_refl _) rfl
 unfold template_zzAt.f
 have e0 : ((((36 : UInt8).toNat : Int)) != 36) = false := by decide
 rw [wrap1 p.length (by omega), h0.bt, e0]
 refine Ends.no (by omega) (Ends.yes (by omega) (Ends.yes (by omega) ?_))
 refine Ends.step (fun k => by simp only [template_zzAt.j0]; rfl) ?_
 have hb1 := h1.bt
 rw [wrap1 p.length (by omega), wrap2 p.length (by omega), hb1]
 refine Ends.no (by simp) (Ends.yes (by omega) (Ends.yes (by omega) (Ends.no (by decide) ?_)))
 refine Ends.bind (ends_noname s (p.length + 1) 123 h1 (by decide) (by decide)) (fun r hr => ?_)
 subst hr
 refine Ends.no (by omega) (Ends.yes (by decide) ?_)
 refine Ends.bind (ends_name s hs (p.length + 2) n.length hn.pos na nb hstop) (fun r hr => ?_)
 subst hr
 have hpos := hn.pos
 rw [h2.bt, hc7.2.2]
 refine Ends.yes (by omega) (Ends.yes (by omega) (Ends.yes (by omega) ?_))
 refine Ends.step (fun k => by simp only [template_zzAt.j1]; rfl) ?_
 refine Ends.no (by simp) (Ends.bind hop (fun r hr => ?_))
 subst hr
 rw [wrap2 p.length (by omega), decide_eq_true (show ((p.length + 2 + n.length + (sgn k).length : Nat) : Int) > 0 by omega)]
 refine Ends.yes (by omega) ?_
 refine Ends.step (fun k => by simp only [template_zzAt.j2]; rfl) ?_
 refine Ends.yes (by simp) (Ends.bind hla (fun r hr => ?_))
 subst hr
 rw [wrap1 (p.length + 2 + n.length + (sgn k).length + wd.length) (by omega), wrap2 p.length (by omega)]
 refine Ends.yes (by omega) (Ends.yes (by omega) (Ends.yes (by omega) (Ends.yes (by omega) (Ends.yes (by omega) (Ends.yes (by omega) (Ends.yes (by omega) (Ends.yes (by omega) (Ends.yes (by omega) (Ends.now ?_)))))))))
 have x1 : s.extract (p.length : Int).toNat ((p.length + 2 + n.length + (sgn k).length + wd.length + 1 : Nat) : Int).toNat = mk ([36, 123] ++ body n k wd ++ [125]) := ext_mid (p := p) (q := []) (by rw [h]; simp) _ _ (by omega) (by simp; omega)
 have x2 : s.extract ((p.length + 2 : Nat) : Int).toNat ((p.length + 2 + n.length + (sgn k).length + wd.length : Nat) : Int).toNat = mk (body n k wd) := ext_mid (p := p ++ [36, 123]) (q := [125]) (by rw [h]; simp) _ _ (by rw [hlen]; omega) (by rw [hlen]; omega)
 have x3 : s.extract ((p.length + 2 + n.length + (sgn k).length : Nat) : Int).toNat ((p.length + 2 + n.length + (sgn k).length + wd.length : Nat) : Int).toNat = mk wd := ext_mid (p := p ++ [36, 123] ++ n ++ sgn k) (q := [125]) (by rw [hsplit]; simp) _ _ (by rw [hlen3]; omega) (by rw [hlen3]; omega)
 rw [x1, x2, x3]
 refine Prod.ext rfl (Prod.ext ?_ rfl)
 show ((p.length + 2 + n.length + (sgn k).length + wd.length + 1 : Nat) : Int) = ((p.length + ((body n k wd).length + 3) : Nat) : Int)
 omega
theorem find_at (d : UInt8) (r q : Bs) : ∀ p : Bs, d ∉ p → find (d :: r) (p ++ ((d :: r) ++ q)) = some p.length
 | [], _ => by
  have h1 : (d :: r).isPrefixOf (d :: r ++ q) = true := by rw [List.isPrefixOf_iff_prefix]; exact List.prefix_append _ _
  rw [List.nil_append, find_eq, if_pos h1]
  rfl
 | c :: p, h => by
  have hn : ¬ (d :: r).isPrefixOf (c :: (p ++ ((d :: r) ++ q))) = true := by
   intro e
   rw [List.isPrefixOf_iff_prefix, List.cons_prefix_cons] at e
   exact h (by rw [e.1]; exact List.mem_cons_self)
  rw [List.cons_append, find, if_neg hn, find_at d r q p (fun m => h (List.mem_cons_of_mem _ m))]
  rfl
theorem find_sgn (t : BA) (k : Fin 6) (p q : Bs) (h : lb t = p ++ sgn k ++ q) (hp : ∀ c, c ∈ p → ¬ isSg c) : find (sgn k) (lb t) = some p.length := by
 obtain ⟨c, r, hcr, hcs⟩ := sign_head k
 have hcr' : sgn k = c :: r := hcr
 rw [h, hcr', List.append_assoc]
 exact find_at c r q p (fun m => hp c m hcs)
theorem idx_at (t : BA) (k : Fin 6) (p q : Bs) (h : lb t = p ++ sgn k ++ q) (hp : ∀ c, c ∈ p → ¬ isSg c) : idx t (opAt k).1 = p.length := by
 have hf : find (lb (opAt k).1) (lb t) = some p.length := find_sgn t k p q h hp
 unfold idx findI
 rw [hf]
theorem find_ge (t : BA) (k : Fin 6) (p q : Bs) (h : lb t = p ++ q) (hp : ∀ c, c ∈ p → ¬ isSg c) (i : Nat) (hf : find (sgn k) (lb t) = some i) : p.length ≤ i := by
 by_cases hh : p.length ≤ i
 ·exact hh
 obtain ⟨c, r, hcr, hcs⟩ := sign_head k
 have hcr' : sgn k = c :: r := hcr
 obtain ⟨h1, h2⟩ := find_some hf
 rw [hcr'] at h1 h2
 have hl : i < (lb t).length := by rw [List.length_cons] at h1; omega
 rw [List.drop_eq_getElem_cons hl, List.length_cons, List.take_succ_cons] at h2
 injection h2 with h3 _
 have hi : i < p.length := by omega
 have h4 : (lb t)[i] = p[i] := by
  have : (lb t)[i]? = some p[i] := by rw [h, List.getElem?_append_left hi, List.getElem?_eq_getElem hi]
  exact (List.getElem?_eq_some_iff.1 this).2
 exact absurd hcs (hp c (by rw [← h3, h4]; exact List.getElem_mem hi))
theorem sgn_apart : ∀ k k0 : Fin 6, k0 = k ∨ ∃ i : Fin 2, i.val < (sgn k).length ∧ i.val < (sgn k0).length ∧ (sgn k)[i.val]? ≠ (sgn k0)[i.val]? := by decide
theorem pick (t : BA) (k k0 : Fin 6) (p q : Bs) (h : lb t = p ++ sgn k ++ q) (hp : ∀ c, c ∈ p → ¬ isSg c) (hm : ltF t k k0 = false) : k0 = k := by
 have e1 := idx_at t k p q h hp
 have hn : ¬ (0 ≤ idx t (opAt k).1 ∧ (idx t (opAt k0).1 < 0 ∨ idx t (opAt k).1 < idx t (opAt k0).1)) := fun x => by
  have := (ltT_iff t (opAt k) (opAt k0)).2 x
  unfold ltF at hm
  rw [this] at hm
  cases hm
 rw [e1] at hn
 have hf : find (sgn k0) (lb t) = some p.length := by
  cases hf : find (sgn k0) (lb t) with
  | none =>
   refine absurd ⟨by omega, .inl ?_⟩ hn
   unfold idx findI
   rw [show find (lb (opAt k0).1) (lb t) = none from hf]
   decide
  | some i =>
   have h1 := find_ge t k0 p (sgn k ++ q) (by rw [h]; simp) hp i hf
   have h2 : idx t (opAt k0).1 = i := by
    unfold idx findI
    rw [show find (lb (opAt k0).1) (lb t) = some i from hf]
   rw [h2] at hn
   congr 1
   omega
 obtain ⟨h1, h2⟩ := find_some hf
 rw [h, List.append_assoc, List.drop_left] at h2
 rcases sgn_apart k k0 with e | ⟨i, hi1, hi2, hne⟩
 ·exact e
 ·refine absurd ?_ hne
  have h3 : (sgn k0)[i.val]? = ((sgn k ++ q).take (sgn k0).length)[i.val]? := by rw [h2]
  rw [h3, List.getElem?_take_of_lt hi2, List.getElem?_append_left hi1]
end Go.Proofs.YtkhkmhbledigpaaGreatDoor.Tr
namespace Go.Proofs.YtkhkmhbledigpaaGreatDoor.Tr
open Go.RowKit Go.Proofs.YtkhkmhbledigpaaGreatDoorW.PrintWords Go.Proofs.YtkhkmhbledigpaaGreatDoorW.PrintLast Go.Proofs.YtkhkmhbledigpaaGreatDoor.Str Go.Proofs.YtkhkmhbledigpaaGreatDoor.Kit Go.Proofs.YtkhkmhbledigpaaGreatDoor.MapV Go.Proofs.YtkhkmhbledigpaaGreatDoor.Frame Go.Proofs.YtkhkmhbledigpaaGreatDoor.PS
open Go.Proofs.YtkhkmhbledigpaaGreatDoor.Maps (MapS key_u map_u lookFn lookT)
set_option linter.unusedVariables false
set_option linter.unusedSimpArgs false
theorem ends_partition (n wd : Bs) (hn : IsName n) (k : Fin 6) (hl : (body n k wd).length < 1152921504606846976) : Ends (fun r => r = (mk n, mk wd)) (fun j => template_partition.f j (mk (body n k wd)) (opAt k).1) := by
 have hb := body_len n k wd
 have hts : (mk (body n k wd)).size = (body n k wd).length := mk_size _
 have hss : (opAt k).1.size = (sgn k).length := by unfold sgn; rw [lb_length]
 have hs2 := sgn_len k
 have hsplit : lb (mk (body n k wd)) = n ++ sgn k ++ wd := lb_mk' _
 have hi : idx (mk (body n k wd)) (opAt k).1 = n.length := idx_at _ k n wd hsplit (fun c hc => isCon_sign (hn.con c hc))
 have hsp : Ends (fun r => r = [mk n, mk wd]) (fun j => template_zzSplitTwo.f j (mk (body n k wd)) (opAt k).1) := by
  unfold template_zzSplitTwo.f
  refine Ends.bind (ends_index _ _ (by omega) (by omega)) (fun r hr => ?_)
  rw [hi] at hr
  subst hr
  rw [wrapN n.length (opAt k).1.size (by omega)]
  refine Ends.yes (by omega) (Ends.yes (by omega) (Ends.yes (by omega) (Ends.yes (by omega) (Ends.now ?_))))
  have x1 : (mk (body n k wd)).extract 0 (n.length : Int).toNat = mk n := ext_mid (p := []) (q := sgn k ++ wd) (by rw [hsplit]; simp) _ _ rfl (by simp)
  have x2 : (mk (body n k wd)).extract ((n.length + (opAt k).1.size : Nat) : Int).toNat (mk (body n k wd)).size = mk wd := ext_mid (p := n ++ sgn k) (q := []) (by rw [hsplit]; simp) _ _ (by rw [List.length_append]; omega) (by rw [List.length_append]; omega)
  rw [x1, x2]
 unfold template_partition.f
 refine Ends.bind (ends_contains _ _ (by omega) (by omega)) (fun r hr => ?_)
 rw [hi, decide_eq_true (show ((n.length : Nat) : Int) ≥ 0 by omega)] at hr
 subst hr
 refine Ends.yes rfl (Ends.bind hsp (fun r hr => ?_))
 subst hr
 exact Ends.yes (by simp) (Ends.yes (by simp) (Ends.now rfl))
structure Form (t nm wv sg : BA) (g : List (Bs × BA)) : Prop where
 cc : ∀ W, Calls Tryz.prog 79 #[.string t, .string sg] W fun e w' => e = .returned (.bool true) ∧ Drawn0 W w'
 cp : ∀ W, Calls Tryz.prog 80 #[.string t, .string sg] W fun e w' => e = .returned (.tuple #[.string nm, .string wv]) ∧ Below W.heap.size W w'
 cs : ∀ W cb, EnvAt W cb g → Calls Tryz.prog 27 #[.string wv, envF cb] W fun e w' => e = .returned (.tuple #[.string wv, .nilIface]) ∧ Below W.heap.size W w'
 cl : ∀ W cb, EnvAt W cb g → Calls Tryz.prog 42 #[.string nm, .pointer (some ⟨cb, 0, none⟩)] W fun e w' => e = lookT g nm ∧ w' = W
theorem form_of (n wd : Bs) (hn : IsName n) (hw : IsWord wd) (k : Fin 6) (hl : (body n k wd).length < 140737488355328) (hnl : n.length ≤ 4294967296) (g : List (Bs × BA)) : Form (mk (body n k wd)) (mk n) (mk wd) (opAt k).1 g where
 cc W := by
  have hi : idx (mk (body n k wd)) (opAt k).1 = n.length := idx_at _ k n wd (lb_mk' _) (fun c hc => isCon_sign (hn.con c hc))
  refine contains_c _ _ true (decide_eq_true (by rw [hi]; omega)) (by rw [mk_size]; omega) (op_small k) W
 cp W := by
  obtain ⟨j, hj⟩ := (ends_partition n wd hn k (by omega)).ev.rounds
  exact template_partition.calls j _ _ _ _ W hj
 cs W cb hE := by
  have hb := body_len n k wd
  have h36 : 36 ∉ lb (mk wd) := by rw [lb_mk']; intro h; exact (hw _ h).1 rfl
  have hr : Rw (fun _ _ => False) (mk wd) 0 (lb (mk wd)) := by
   have h := rw_plain (P := fun _ _ => False) (mk wd) (by rw [mk_size]; omega) (lb (mk wd)) [] [] [] h36 (by simp) (rw_stop _ _ (by simp [lb_length]))
   simpa using h
  have := Substitute (P := fun _ _ => False) (g := g) (fun m r h => h.elim) (mk wd) (lb (mk wd)) (by rw [mk_size]; omega) (by rw [lb_mk']; omega) hr W cb hE
  have e : (⟨(lb (mk wd)).toArray⟩ : BA) = mk wd := by rw [lb_mk']; rfl
  rw [e] at this
  exact this
 cl W cb hE := by
  obtain ⟨mb, h1, h2⟩ := hE
  exact lookFn (mk n) W h1 h2 (by rw [mk_size]; unfold maxLen; omega)
def Told (r : Option BA) (e : Ending) : Prop := match r with
 | some r => e = .returned (.tuple #[.string r, .bool true, .nilIface])
 | none => ∃ blk, e = .returned (.tuple #[.string ⟨#[]⟩, .bool true, .iface 75 (.pointer (some ⟨blk, 0, none⟩))])
def away (b : Bool) (v : Option BA) : Bool := match v with
 | none => true
 | some v => b && (v.toList == [])
def val0 (v : Option BA) : BA := v.getD ⟨#[]⟩
set_option maxHeartbeats 1600000 in
theorem absence_hit (t nm wv : BA) (b : Bool) (g : List (Bs × BA)) (F : Form t nm wv (if b then ⟨#[58, 45]⟩ else ⟨#[45]⟩) g) (R : Option BA) (hR : R = some (if away b (mget g (lb nm)) then wv else val0 (mget g (lb nm)))) (w : World) (cb : Nat) (hE : EnvAt w cb g) :
  Calls Tryz.prog 72 #[.string t, envF cb, .bool b] w fun e w' => Told R e ∧ Below w.heap.size w w' := by
 have HF := aM F
 have HE := aM hE
 have HR := aM hR
 clear F hE hR
 go_enter Tryz.func72, Tryz.ntmps72
 cases b
 ·go_wp2_with fail
  refine (HF.out.cc _).mono ?_
  rintro e w1 ⟨rfl, ⟨nd, rfl⟩⟩
  have HB1 := aM (Drawn0.below (⟨⟨nd, rfl⟩⟩ : Drawn0 w (w.drewN nd)))
  go_wp2_with fail
  refine (HF.out.cp _).mono ?_
  rintro e w2 ⟨rfl, hb⟩
  have HB2 := aM (hb_then HB1.out hb)
  clear hb HB1
  have HE2 := aM (HE.out.below HB2.out)
  go_wp2_with fail
  refine (HF.out.cl w2 cb HE2.out).mono ?_
  rintro e w3 ⟨rfl, rfl⟩
  unfold lookT
  have CS := aM (HF.out.cs w3 cb HE2.out)
  clear HF HE
  generalize mget g (lb nm) = mv at HR ⊢
  rcases mv with _ | v
  ·simp only [Option.getD_none, Option.isSome_none]
   have hr := aM (show R = some wv by rw [HR.out]; simp [away, val0])
   clear HR
   go_wp2_with fail
   refine CS.out.mono ?_
   rintro e w4 ⟨rfl, hb⟩
   have HB4 := aM (hb_then HB2.out hb)
   clear hb CS
   go_wp2
   go_ret3
   exact ⟨by rw [hr.out]; rfl, HB4.out⟩
  rcases hv : (v.toList == []) with _ | _
  ·simp only [Option.getD_some, Option.isSome_some]
   have hr := aM (show R = some v by rw [HR.out]; simp [away, val0, hv])
   clear HR CS
   go_wp2
   go_ret3
   exact ⟨by rw [hr.out]; rfl, HB2.out⟩
  ·simp only [Option.getD_some, Option.isSome_some]
   have hr := aM (show R = some v by rw [HR.out]; simp [away, val0, hv])
   clear HR CS
   go_wp2
   go_ret3
   exact ⟨by rw [hr.out]; rfl, HB2.out⟩
 ·go_wp2_with fail
  refine (HF.out.cc _).mono ?_
  rintro e w1 ⟨rfl, ⟨nd, rfl⟩⟩
  have HB1 := aM (Drawn0.below (⟨⟨nd, rfl⟩⟩ : Drawn0 w (w.drewN nd)))
  go_wp2_with fail
  refine (HF.out.cp _).mono ?_
  rintro e w2 ⟨rfl, hb⟩
  have HB2 := aM (hb_then HB1.out hb)
  clear hb HB1
  have HE2 := aM (HE.out.below HB2.out)
  go_wp2_with fail
  refine (HF.out.cl w2 cb HE2.out).mono ?_
  rintro e w3 ⟨rfl, rfl⟩
  unfold lookT
  have CS := aM (HF.out.cs w3 cb HE2.out)
  clear HF HE
  generalize mget g (lb nm) = mv at HR ⊢
  rcases mv with _ | v
  ·simp only [Option.getD_none, Option.isSome_none]
   have hr := aM (show R = some wv by rw [HR.out]; simp [away, val0])
   clear HR
   go_wp2_with fail
   refine CS.out.mono ?_
   rintro e w4 ⟨rfl, hb⟩
   have HB4 := aM (hb_then HB2.out hb)
   clear hb CS
   go_wp2
   go_ret3
   exact ⟨by rw [hr.out]; rfl, HB4.out⟩
  rcases hv : (v.toList == []) with _ | _
  ·simp only [Option.getD_some, Option.isSome_some]
   have hr := aM (show R = some v by rw [HR.out]; simp [away, val0, hv])
   clear HR CS
   go_wp2
   go_ret3
   exact ⟨by rw [hr.out]; rfl, HB2.out⟩
  ·simp only [Option.getD_some, Option.isSome_some]
   have hr := aM (show R = some wv by rw [HR.out]; simp [away, val0, hv])
   clear HR
   go_wp2_with fail
   refine CS.out.mono ?_
   rintro e w4 ⟨rfl, hb⟩
   have HB4 := aM (hb_then HB2.out hb)
   clear hb CS
   go_wp2
   go_ret3
   exact ⟨by rw [hr.out]; rfl, HB4.out⟩
set_option maxHeartbeats 1600000 in
theorem presence_hit (t nm wv : BA) (b : Bool) (g : List (Bs × BA)) (F : Form t nm wv (if b then ⟨#[58, 43]⟩ else ⟨#[43]⟩) g) (R : Option BA) (hR : R = some (if away b (mget g (lb nm)) then val0 (mget g (lb nm)) else wv)) (w : World) (cb : Nat) (hE : EnvAt w cb g) :
  Calls Tryz.prog 73 #[.string t, envF cb, .bool b] w fun e w' => Told R e ∧ Below w.heap.size w w' := by
 have HF := aM F
 have HE := aM hE
 have HR := aM hR
 clear F hE hR
 go_enter Tryz.func73, Tryz.ntmps73
 cases b
 ·go_wp2_with fail
  refine (HF.out.cc _).mono ?_
  rintro e w1 ⟨rfl, ⟨nd, rfl⟩⟩
  have HB1 := aM (Drawn0.below (⟨⟨nd, rfl⟩⟩ : Drawn0 w (w.drewN nd)))
  go_wp2_with fail
  refine (HF.out.cp _).mono ?_
  rintro e w2 ⟨rfl, hb⟩
  have HB2 := aM (hb_then HB1.out hb)
  clear hb HB1
  have HE2 := aM (HE.out.below HB2.out)
  go_wp2_with fail
  refine (HF.out.cl w2 cb HE2.out).mono ?_
  rintro e w3 ⟨rfl, rfl⟩
  unfold lookT
  have CS := aM (HF.out.cs w3 cb HE2.out)
  clear HF HE
  generalize mget g (lb nm) = mv at HR ⊢
  rcases mv with _ | v
  ·simp only [Option.getD_none, Option.isSome_none]
   have hr := aM (show R = some (⟨#[]⟩ : BA) by rw [HR.out]; simp [away, val0])
   clear HR CS
   go_wp2
   go_ret3
   exact ⟨by rw [hr.out]; rfl, HB2.out⟩
  rcases hv : (v.toList == []) with _ | _
  ·simp only [Option.getD_some, Option.isSome_some]
   have hr := aM (show R = some wv by rw [HR.out]; simp [away, val0, hv])
   clear HR
   go_wp2_with fail
   refine CS.out.mono ?_
   rintro e w4 ⟨rfl, hb⟩
   have HB4 := aM (hb_then HB2.out hb)
   clear hb CS
   go_wp2
   go_ret3
   exact ⟨by rw [hr.out]; rfl, HB4.out⟩
  ·simp only [Option.getD_some, Option.isSome_some]
   have hr := aM (show R = some wv by rw [HR.out]; simp [away, val0, hv])
   clear HR
   go_wp2_with fail
   refine CS.out.mono ?_
   rintro e w4 ⟨rfl, hb⟩
   have HB4 := aM (hb_then HB2.out hb)
   clear hb CS
   go_wp2
   go_ret3
   exact ⟨by rw [hr.out]; rfl, HB4.out⟩
 ·go_wp2_with fail
  refine (HF.out.cc _).mono ?_
  rintro e w1 ⟨rfl, ⟨nd, rfl⟩⟩
  have HB1 := aM (Drawn0.below (⟨⟨nd, rfl⟩⟩ : Drawn0 w (w.drewN nd)))
  go_wp2_with fail
  refine (HF.out.cp _).mono ?_
  rintro e w2 ⟨rfl, hb⟩
  have HB2 := aM (hb_then HB1.out hb)
  clear hb HB1
  have HE2 := aM (HE.out.below HB2.out)
  go_wp2_with fail
  refine (HF.out.cl w2 cb HE2.out).mono ?_
  rintro e w3 ⟨rfl, rfl⟩
  unfold lookT
  have CS := aM (HF.out.cs w3 cb HE2.out)
  clear HF HE
  generalize mget g (lb nm) = mv at HR ⊢
  rcases mv with _ | v
  ·simp only [Option.getD_none, Option.isSome_none]
   have hr := aM (show R = some (⟨#[]⟩ : BA) by rw [HR.out]; simp [away, val0])
   clear HR CS
   go_wp2
   go_ret3
   exact ⟨by rw [hr.out]; rfl, HB2.out⟩
  rcases hv : (v.toList == []) with _ | _
  ·simp only [Option.getD_some, Option.isSome_some]
   have hr := aM (show R = some wv by rw [HR.out]; simp [away, val0, hv])
   clear HR
   go_wp2_with fail
   refine CS.out.mono ?_
   rintro e w4 ⟨rfl, hb⟩
   have HB4 := aM (hb_then HB2.out hb)
   clear hb CS
   go_wp2
   go_ret3
   exact ⟨by rw [hr.out]; rfl, HB4.out⟩
  ·simp only [Option.getD_some, Option.isSome_some]
   have hr := aM (show R = some v by rw [HR.out]; simp [away, val0, hv])
   clear HR CS
   go_wp2
   go_ret3
   exact ⟨by rw [hr.out]; rfl, HB2.out⟩
section
variable {P : Program} {ops : Array Oper} {Q : Exit → Act → World → Prop}
theorem goesVW_ (c : Operand) (cap : Array Value) {rest : List Oper} {oi : Oper} {a : Act} {w : World} (N : Option Tmp) (hd : oi.dst = N) (hwt : Region.wanted oi (yielded ops a.tmps) = true) {f : FuncId} {xs : Array Operand} {ts : Array TypeId} (args : Array Value) (he : (callFunc f args).run P w = .ok (.enter f args) w)
  (hop : oi.op = .call { callee := .value c, args := xs, argTypes := ts }) (hv : a.eval c = .func (.func f) #[] cap) (hargs : xs.map a.eval ++ cap = args)
  (h : Calls P f args w fun e w' => ∃ v, e = .returned v ∧ wpList P ops Q rest (a.put N v) w') : wpList P ops Q (oi :: rest) a w := by
 refine wpList_step fun K hK => ?_
 rw [if_pos hwt]
 have hrun : (execOp a.eval oi).run P w = .ok (.enter f args) w := by
  unfold execOp
  simp [hop, resolve, Deferred.ofValue, invoke, hv, hargs, he]
 unfold Oper.wp
 rw [hrun, Oper.upon_enter]
 refine h.mono fun e w'' hh => ?_
 obtain ⟨v, rfl, hk⟩ := hh
 subst hd
 exact hK _ _ hk
end
theorem valid_any (v : BA) (w : World) : Calls Tryz.prog 75 #[.string v] w fun e w' => e = .returned (.bool true) ∧ w' = w := by
 go_enter Tryz.func75, Tryz.ntmps75
 go_wp2
 go_ret
 exact ⟨rfl, rfl⟩
theorem valid_full (v : BA) (w : World) : Calls Tryz.prog 76 #[.string v] w fun e w' => e = .returned (.bool (!(v.toList == []))) ∧ w' = w := by
 rcases hv : (v.toList == []) with _ | _
 all_goals
  go_enter Tryz.func76, Tryz.ntmps76
  go_wp2
  go_ret
  exact ⟨rfl, rfl⟩
def validF (b : Bool) : Nat := if b then 76 else 75
theorem valid_b (b : Bool) (v : BA) (w : World) : Calls Tryz.prog (validF b) #[.string v] w fun e w' => e = .returned (.bool (!(away b (some v)))) ∧ w' = w := by
 cases b
 ·exact valid_any v w
 ·have := valid_full v w
  have e : (away true (some v)) = (v.toList == []) := by simp only [away, Bool.true_and]
  rw [e]
  exact this
theorem valid_enters (b : Bool) (args : Array Value) (w : World) : (callFunc (validF b) args).run Tryz.prog w = .ok (.enter (validF b) args) w := by
 cases b
 ·exact enters_ Tryz.func75 (by kernel_rfl) rfl args w
 ·exact enters_ Tryz.func76 (by kernel_rfl) rfl args w
set_option maxHeartbeats 1600000 in
theorem required_hit (t nm wv sg : BA) (b : Bool) (g : List (Bs × BA)) (F : Form t nm wv sg g) (R : Option BA) (hR : R = if away b (mget g (lb nm)) then none else some (val0 (mget g (lb nm)))) (w : World) (cb : Nat) (hE : EnvAt w cb g) :
  Calls Tryz.prog 74 #[.string t, envF cb, .string sg, .func (.func (validF b)) #[] #[]] w fun e w' => Told R e ∧ Below w.heap.size w w' := by
 have HF := aM F
 have HE := aM hE
 have HR := aM hR
 clear F hE hR
 go_enter Tryz.func74, Tryz.ntmps74
 go_wp2_with fail
 refine (HF.out.cc _).mono ?_
 rintro e w1 ⟨rfl, ⟨nd, rfl⟩⟩
 have HB1 := aM (Drawn0.below (⟨⟨nd, rfl⟩⟩ : Drawn0 w (w.drewN nd)))
 go_wp2_with fail
 refine (HF.out.cp _).mono ?_
 rintro e w2 ⟨rfl, hb⟩
 have HB2 := aM (hb_then HB1.out hb)
 clear hb HB1
 have HE2 := aM (HE.out.below HB2.out)
 go_wp2_with fail
 refine (HF.out.cl w2 cb HE2.out).mono ?_
 rintro e w3 ⟨rfl, rfl⟩
 unfold lookT
 have CS := aM (HF.out.cs w3 cb HE2.out)
 clear HF HE
 generalize mget g (lb nm) = mv at HR ⊢
 rcases mv with _ | v
 ·simp only [Option.getD_none, Option.isSome_none]
  have hr := aM (show R = none by rw [HR.out]; simp [away])
  clear HR
  go_wp2_with fail
  refine CS.out.mono ?_
  rintro e w4 ⟨rfl, hb⟩
  have HB4 := aM (hb_then HB2.out hb)
  clear hb CS
  go_wp2
  go_ret3
  exact ⟨by rw [hr.out]; exact ⟨_, rfl⟩, below_alloc HB4.out _⟩
 ·simp only [Option.getD_some, Option.isSome_some]
  have HV := aM (valid_b b v w3)
  have HS := aM (show R = if away b (some v) then none else some v by rw [HR.out]; rfl)
  clear HR
  generalize away b (some v) = aw at HV HS
  cases aw
  ·go_wp2_with (refine goesVW_ (.tmp 36) #[] (some 38) rfl (by rfl) #[.string v] (valid_enters b _ _) rfl rfl (by simp only [List.map_toArray, List.map_cons, List.map_nil, Array.append_empty]; rfl) ?_; refine HV.out.mono ?_; rintro e w5 ⟨rfl, rfl⟩; refine ⟨_, rfl, ?_⟩)
   go_ret3
   exact ⟨by rw [HS.out]; rfl, HB2.out⟩
  ·go_wp2_with (refine goesVW_ (.tmp 36) #[] (some 38) rfl (by rfl) #[.string v] (valid_enters b _ _) rfl rfl (by simp only [List.map_toArray, List.map_cons, List.map_nil, Array.append_empty]; rfl) ?_; refine HV.out.mono ?_; rintro e w5 ⟨rfl, rfl⟩; refine ⟨_, rfl, ?_⟩)
   refine CS.out.mono ?_
   rintro e w4 ⟨rfl, hb⟩
   have HB4 := aM (hb_then HB2.out hb)
   clear hb CS
   go_wp2
   go_ret3
   exact ⟨by rw [HS.out]; exact ⟨_, rfl⟩, below_alloc HB4.out _⟩
def opRes (k : Fin 6) (v : Option BA) (wv : BA) : Option BA := match k with
 | ⟨0, _⟩ => if away true v then none else some (val0 v)
 | ⟨1, _⟩ => if away false v then none else some (val0 v)
 | ⟨2, _⟩ => some (if away true v then wv else val0 v)
 | ⟨3, _⟩ => some (if away false v then wv else val0 v)
 | ⟨4, _⟩ => some (if away true v then val0 v else wv)
 | ⟨_, _⟩ => some (if away false v then val0 v else wv)
theorem hit0 (t nm wv : BA) (g : List (Bs × BA)) (F : Form t nm wv ⟨#[58, 63]⟩ g) (R : Option BA) (hR : R = opRes ⟨0, by decide⟩ (mget g (lb nm)) wv) (w : World) (cb : Nat) (hE : EnvAt w cb g) :
  Calls Tryz.prog 63 #[.string t, envF cb] w fun e w' => Told R e ∧ Below w.heap.size w w' := by
 have CC := aM (required_hit t nm wv ⟨#[58, 63]⟩ true g F R hR w cb hE)
 clear hE F hR
 go_enter Tryz.func63, Tryz.ntmps63
 go_wp2_with fail
 refine CC.out.mono ?_
 rintro e w1 ⟨ht, hb⟩
 have HB := aM hb
 clear hb CC
 rcases R with _ | r
 ·obtain ⟨blk, rfl⟩ := ht
  go_wp2
  go_ret3
  exact ⟨⟨_, rfl⟩, HB.out⟩
 ·obtain rfl := (show e = _ from ht)
  go_wp2
  go_ret3
  exact ⟨rfl, HB.out⟩
theorem hit1 (t nm wv : BA) (g : List (Bs × BA)) (F : Form t nm wv ⟨#[63]⟩ g) (R : Option BA) (hR : R = opRes ⟨1, by decide⟩ (mget g (lb nm)) wv) (w : World) (cb : Nat) (hE : EnvAt w cb g) :
  Calls Tryz.prog 62 #[.string t, envF cb] w fun e w' => Told R e ∧ Below w.heap.size w w' := by
 have CC := aM (required_hit t nm wv ⟨#[63]⟩ false g F R hR w cb hE)
 clear hE F hR
 go_enter Tryz.func62, Tryz.ntmps62
 go_wp2_with fail
 refine CC.out.mono ?_
 rintro e w1 ⟨ht, hb⟩
 have HB := aM hb
 clear hb CC
 rcases R with _ | r
 ·obtain ⟨blk, rfl⟩ := ht
  go_wp2
  go_ret3
  exact ⟨⟨_, rfl⟩, HB.out⟩
 ·obtain rfl := (show e = _ from ht)
  go_wp2
  go_ret3
  exact ⟨rfl, HB.out⟩
theorem hit2 (t nm wv : BA) (g : List (Bs × BA)) (F : Form t nm wv ⟨#[58, 45]⟩ g) (R : Option BA) (hR : R = opRes ⟨2, by decide⟩ (mget g (lb nm)) wv) (w : World) (cb : Nat) (hE : EnvAt w cb g) :
  Calls Tryz.prog 59 #[.string t, envF cb] w fun e w' => Told R e ∧ Below w.heap.size w w' := by
 have CC := aM (absence_hit t nm wv true g F R hR w cb hE)
 clear hE F hR
 go_enter Tryz.func59, Tryz.ntmps59
 go_wp2_with fail
 refine CC.out.mono ?_
 rintro e w1 ⟨ht, hb⟩
 have HB := aM hb
 clear hb CC
 rcases R with _ | r
 ·obtain ⟨blk, rfl⟩ := ht
  go_wp2
  go_ret3
  exact ⟨⟨_, rfl⟩, HB.out⟩
 ·obtain rfl := (show e = _ from ht)
  go_wp2
  go_ret3
  exact ⟨rfl, HB.out⟩
theorem hit3 (t nm wv : BA) (g : List (Bs × BA)) (F : Form t nm wv ⟨#[45]⟩ g) (R : Option BA) (hR : R = opRes ⟨3, by decide⟩ (mget g (lb nm)) wv) (w : World) (cb : Nat) (hE : EnvAt w cb g) :
  Calls Tryz.prog 58 #[.string t, envF cb] w fun e w' => Told R e ∧ Below w.heap.size w w' := by
 have CC := aM (absence_hit t nm wv false g F R hR w cb hE)
 clear hE F hR
 go_enter Tryz.func58, Tryz.ntmps58
 go_wp2_with fail
 refine CC.out.mono ?_
 rintro e w1 ⟨ht, hb⟩
 have HB := aM hb
 clear hb CC
 rcases R with _ | r
 ·obtain ⟨blk, rfl⟩ := ht
  go_wp2
  go_ret3
  exact ⟨⟨_, rfl⟩, HB.out⟩
 ·obtain rfl := (show e = _ from ht)
  go_wp2
  go_ret3
  exact ⟨rfl, HB.out⟩
theorem hit4 (t nm wv : BA) (g : List (Bs × BA)) (F : Form t nm wv ⟨#[58, 43]⟩ g) (R : Option BA) (hR : R = opRes ⟨4, by decide⟩ (mget g (lb nm)) wv) (w : World) (cb : Nat) (hE : EnvAt w cb g) :
  Calls Tryz.prog 61 #[.string t, envF cb] w fun e w' => Told R e ∧ Below w.heap.size w w' := by
 have CC := aM (presence_hit t nm wv true g F R hR w cb hE)
 clear hE F hR
 go_enter Tryz.func61, Tryz.ntmps61
 go_wp2_with fail
 refine CC.out.mono ?_
 rintro e w1 ⟨ht, hb⟩
 have HB := aM hb
 clear hb CC
 rcases R with _ | r
 ·obtain ⟨blk, rfl⟩ := ht
  go_wp2
  go_ret3
  exact ⟨⟨_, rfl⟩, HB.out⟩
 ·obtain rfl := (show e = _ from ht)
  go_wp2
  go_ret3
  exact ⟨rfl, HB.out⟩
theorem hit5 (t nm wv : BA) (g : List (Bs × BA)) (F : Form t nm wv ⟨#[43]⟩ g) (R : Option BA) (hR : R = opRes ⟨5, by decide⟩ (mget g (lb nm)) wv) (w : World) (cb : Nat) (hE : EnvAt w cb g) :
  Calls Tryz.prog 60 #[.string t, envF cb] w fun e w' => Told R e ∧ Below w.heap.size w w' := by
 have CC := aM (presence_hit t nm wv false g F R hR w cb hE)
 clear hE F hR
 go_enter Tryz.func60, Tryz.ntmps60
 go_wp2_with fail
 refine CC.out.mono ?_
 rintro e w1 ⟨ht, hb⟩
 have HB := aM hb
 clear hb CC
 rcases R with _ | r
 ·obtain ⟨blk, rfl⟩ := ht
  go_wp2
  go_ret3
  exact ⟨⟨_, rfl⟩, HB.out⟩
 ·obtain rfl := (show e = _ from ht)
  go_wp2
  go_ret3
  exact ⟨rfl, HB.out⟩
theorem op_hit (t nm wv : BA) (k : Fin 6) (g : List (Bs × BA)) (F : Form t nm wv (opAt k).1 g) (R : Option BA) (hR : R = opRes k (mget g (lb nm)) wv) (w : World) (cb : Nat) (hE : EnvAt w cb g) :
  Calls Tryz.prog (opAt k).2 #[.string t, envF cb] w fun e w' => Told R e ∧ Below w.heap.size w w' := by
 match k, F, hR with
 | ⟨0, _⟩, F, hR => exact hit0 t nm wv g F R hR w cb hE
 | ⟨1, _⟩, F, hR => exact hit1 t nm wv g F R hR w cb hE
 | ⟨2, _⟩, F, hR => exact hit2 t nm wv g F R hR w cb hE
 | ⟨3, _⟩, F, hR => exact hit3 t nm wv g F R hR w cb hE
 | ⟨4, _⟩, F, hR => exact hit4 t nm wv g F R hR w cb hE
 | ⟨5, _⟩, F, hR => exact hit5 t nm wv g F R hR w cb hE
 | ⟨n + 6, h⟩, _, _ => exact absurd h (by omega)
end Go.Proofs.YtkhkmhbledigpaaGreatDoor.Tr
namespace Go.Proofs.YtkhkmhbledigpaaGreatDoor.Tr
open Go.RowKit Go.Proofs.YtkhkmhbledigpaaGreatDoorW.PrintWords Go.Proofs.YtkhkmhbledigpaaGreatDoorW.PrintLast Go.Proofs.YtkhkmhbledigpaaGreatDoor.Str Go.Proofs.YtkhkmhbledigpaaGreatDoor.Kit Go.Proofs.YtkhkmhbledigpaaGreatDoor.MapV Go.Proofs.YtkhkmhbledigpaaGreatDoor.Frame Go.Proofs.YtkhkmhbledigpaaGreatDoor.PS
open Go.Proofs.YtkhkmhbledigpaaGreatDoor.Maps (MapS key_u map_u lookFn lookT)
set_option linter.unusedVariables false
set_option linter.unusedSimpArgs false
def AppTold (r : Option BA) (e : Ending) : Prop := match r with
 | some r => e = .returned (.tuple #[.string r, .bool true, .nilIface])
 | none => ∃ blk, e = .returned (.tuple #[.string ⟨#[]⟩, .bool false, .iface 75 (.pointer (some ⟨blk, 0, none⟩))])
set_option maxHeartbeats 3200000 in
set_option maxRecDepth 100000 in
theorem applied_op (n wd : Bs) (hn : IsName n) (hl : n.length ≤ 4294967296) (hw : IsWord wd) (kk : Fin 6) (hbl : (body n kk wd).length ≤ 70368744177664) (g : List (Bs × BA)) (R : Option BA) (hR : R = opRes kk (mget g n) (mk wd)) (hRs : ∀ r, R = some r → r.size ≤ 9223372036854775807) (w : World) (cb b : Nat) (hE : EnvAt w cb g) (hC : CfgAt w b) :
  Calls Tryz.prog 77 #[.string (mk ([36, 123] ++ body n kk wd ++ [125])), envF cb, .pointer (some ⟨b, 0, none⟩)] w fun e w' => AppTold R e ∧ Below w.heap.size w w' := by
 have HPICK := aM (fun (k0 : Fin 6) (hm : ∀ j : Fin 6, ltF (mk ([36, 123] ++ body n kk wd ++ [125])) j k0 = false) => pick (mk ([36, 123] ++ body n kk wd ++ [125])) kk k0 ([36, 123] ++ n) (wd ++ [125]) (by rw [lb_mk']; simp [body]) (fun c hc => by
  simp only [List.mem_append] at hc
  rcases hc with hc | hc
  ·simp at hc; rcases hc with rfl | rfl <;> (unfold isSg; decide)
  ·exact isCon_sign (hn.con c hc)) (hm kk))
 have HFO := aM (form_of n wd hn hw kk (by omega) hl g)
 have hRR : R = opRes kk (mget g (lb (mk n))) (mk wd) := by rw [lb_mk']; exact hR
 have HRR := aM hRR
 have HRS := aM hRs
 clear hR hRR hRs
 have hsz : (mk ([36, 123] ++ body n kk wd ++ [125])).size = (body n kk wd).length + 3 := by rw [mk_size]; simp
 have hlb : lb (mk ([36, 123] ++ body n kk wd ++ [125])) = [36, 123] ++ body n kk wd ++ [125] := lb_mk' _
 have CG := aM (fun W => getSubst (mk ([36, 123] ++ body n kk wd ++ [125])) (by omega) W)
 obtain ⟨kc, hkc⟩ := (ends_close (body n kk wd) (body_ne n kk wd) (fun c hc => ⟨(body_plain hn kk hw c hc).2.1, (body_plain hn kk hw c hc).2.2.1⟩) (by omega)).ev.rounds
 have CB := aM (fun W => template_getFirstBraceClosingIndex.calls kc _ _ W hkc)
 have CF := aM (fun W => FindStringSubmatch (mk ([36, 123] ++ body n kk wd ++ [125])) [mk ([36, 123] ++ body n kk wd ++ [125]), E0, E0, mk (body n kk wd), mk wd, E0] (((body n kk wd).length + 3 : Nat) : Int) (by omega) (by omega) (by
  have := ends_at_op (mk ([36, 123] ++ body n kk wd ++ [125])) (by omega) [] n wd kk hn hw (by rw [hlb]; simp)
  simpa using this) W)
 clear hkc
 have hx1 : (mk ([36, 123] ++ body n kk wd ++ [125])).extract ((body n kk wd).length + 2 + 1) (mk ([36, 123] ++ body n kk wd ++ [125])).size = E0 := by
  refine lb_inj ?_
  rw [lb_extract, List.drop_eq_nil_of_le]
  ·rfl
  ·rw [List.length_take, lb_length]; omega
 have hx2 : (mk ([36, 123] ++ body n kk wd ++ [125])).extract 0 ((body n kk wd).length + 2 + 1) = mk ([36, 123] ++ body n kk wd ++ [125]) := by
  refine lb_inj ?_
  rw [lb_extract, List.take_of_length_le (by rw [lb_length]; omega), List.drop_zero]
 generalize mk ([36, 123] ++ body n kk wd ++ [125]) = m at hsz CG CB CF hx1 hx2 HPICK ⊢
 obtain ⟨c, hcn⟩ : ∃ c, (body n kk wd).length + 2 = c := ⟨_, rfl⟩
 rw [hcn] at CB hx1 hx2
 have HSZ := aM (show c + 1 = m.size ∧ c ≤ 70368744177666 by omega)
 clear hlb hsz hcn
 have hpa := part_cfg hC
 have hb1 := below_alloc (Below.refl w.heap.size w) (.cells #[] 71)
 have hsf : (w.alloc (.cells #[] 71)).cell? ⟨b, 0, none⟩ = some .nilFunc := pw_cell_below hb1 (cb_cell (i := 0) hC rfl)
 have HB1 := aM hb1
 have HE := aM hE
 have HC := aM hC
 clear hE hC hb1
 have hbf : ∀ w : World, (binOp BinOp.eql 88 .nilFunc .nilFunc).run Tryz.prog w = .ok (.bool true) w := fun _ => by kernel_rfl
 go_enter Tryz.func77, Tryz.ntmps77
 go_wp2_with fail
 refine (CG.out _).mono ?_
 rintro e w1 ⟨k, rfl, hmin, hb⟩
 obtain rfl : kk = k := (HPICK.out k hmin).symm
 have HB2 := aM (hb_then HB1.out hb)
 clear hb hmin CG HB1 hpa hsf HPICK
 go_wp2_with fail
 refine (CB.out _).mono ?_
 rintro e w2 ⟨rfl, ⟨nd, rfl⟩⟩
 have HB3 := aM (hb_then HB2.out (Drawn0.below (⟨⟨nd, rfl⟩⟩ : Drawn0 w1 (w1.drewN nd))))
 clear HB2 CB
 have q1 : (-1 : Int) < (c : Int) := by omega
 have q2 : (0 : Int) ≤ (c : Int) + 1 := by omega
 have q3 : (c : Int) + 1 ≤ (m.size : Int) := by have := HSZ.out; omega
 have q4 : ((c : Int) + 1).toNat = c + 1 := by omega
 have q5 : decide ((-1 : Int) < (c : Int)) = true := decide_eq_true q1
 have hcl : c ≤ 70368744177666 := HSZ.out.2
 go_wp2_with fail
 refine (CF.out _).mono ?_
 rintro e w3 ⟨A, cc, rfl, hC3, hb⟩
 have HB4 := aM (hb_then HB3.out hb)
 have CM := aM (matchGroups [m, E0, E0, mk (body n kk wd), mk wd, E0] rfl A cc w3 hC3)
 have HGET := aM (gr_get [m, E0, E0, mk (body n kk wd), mk wd, E0] rfl)
 clear hb CF hC3 HB3 q1 q2 q3 q4 q5 hcl
 go_wp2_with fail
 refine CM.out.mono ?_
 rintro e w4 ⟨mb, rfl, hM, hb⟩
 have HB5 := aM (hb_then HB4.out hb)
 have hl1 := run_look_mapE key_u Tryz.underlying72 (Tryz.zeroValue9 w4) hM (s := nEsc) (by unfold maxLen; decide)
 have hl2 := run_look_mapE key_u Tryz.underlying72 (Tryz.zeroValue9 w4) hM (s := nNamed) (by unfold maxLen; decide)
 have hl3 := run_look_mapE key_u Tryz.underlying72 (Tryz.zeroValue9 w4) hM (s := nBraced) (by unfold maxLen; decide)
 rw [HGET.out.1] at hl1
 rw [HGET.out.2.1] at hl2
 rw [HGET.out.2.2] at hl3
 have HOP := aM (fun W (hE : EnvAt W cb g) => op_hit (mk (body n kk wd)) (mk n) (mk wd) kk g HFO.out R HRR.out W cb hE)
 obtain ⟨x, hx⟩ : ∃ x, mk (body n kk wd) = x := ⟨_, rfl⟩
 have hk1 : (Instr.lookup 72 (.map (some mb)) (.string ⟨#[101, 115, 99, 97, 112, 101, 100]⟩) false).run Tryz.prog w4 = .ok (.string ⟨#[]⟩) w4 := hl1
 have hk2 : (Instr.lookup 72 (.map (some mb)) (.string ⟨#[110, 97, 109, 101, 100]⟩) false).run Tryz.prog w4 = .ok (.string ⟨#[]⟩) w4 := hl2
 have hk3 : (Instr.lookup 72 (.map (some mb)) (.string ⟨#[98, 114, 97, 99, 101, 100]⟩) false).run Tryz.prog w4 = .ok (.string x) w4 := by rw [← hx]; exact hl3
 have hx0 : ¬ x.toList = [] := by rw [← hx, toList_lb, lb_mk']; exact body_ne n kk wd
 have hq1 : (x.toList == []) = false := beq_eq_false_iff_ne.2 hx0
 rw [hx] at HOP
 have HE4 := aM (HE.out.below HB5.out)
 clear hb CM hM hl1 hl2 hl3 HGET HB4 hx hx0 HFO HRR HE
 have hcase : (Aside0 (R = none)) ∨ ∃ r, Aside0 (R = some r) := by
  cases R with
  | none => exact .inl ⟨rfl⟩
  | some r => exact .inr ⟨r, ⟨rfl⟩⟩
 rcases hcase with hcase | ⟨r, hcase⟩
 ·go_wp2_with (refine goesVL_ (.tmp 76) #[] (some 79) rfl rfl #[.string x, envF cb] (op_enters kk _ _) rfl rfl (by simp only [List.map_toArray, List.map_cons, List.map_nil, Array.append_empty]; rfl) ?_; refine (HOP.out _ HE4.out).mono ?_; rintro e w5 ⟨ht, hb⟩; have HB6 := aM (hb_then HB5.out hb); have HE6 := aM (HE4.out.below hb); clear hb HB5 HE4 HOP; rw [hcase.out] at ht; obtain ⟨blk, rfl⟩ := ht; refine ⟨_, rfl, ?_⟩)
  go_ret3
  exact ⟨by rw [hcase.out]; exact ⟨_, rfl⟩, HB6.out⟩
 ·go_wp2_with (refine goesVL_ (.tmp 76) #[] (some 79) rfl rfl #[.string x, envF cb] (op_enters kk _ _) rfl rfl (by simp only [List.map_toArray, List.map_cons, List.map_nil, Array.append_empty]; rfl) ?_; refine (HOP.out _ HE4.out).mono ?_; rintro e w5 ⟨ht, hb⟩; have HB6 := aM (hb_then HB5.out hb); have HE6 := aM (HE4.out.below hb); clear hb HB5 HE4 HOP; rw [hcase.out] at ht; obtain rfl := (show e = _ from ht); refine ⟨_, rfl, ?_⟩)
  have CW := aM (SubstituteWith (P := fun _ _ => False) (g := g) (fun m r h => h.elim) E0 [] (by decide) (by decide) (.done 0 (by decide)) w5 cb HE6.out)
  refine CW.out.mono ?_
  rintro e w6 ⟨rfl, hb⟩
  have HB7 := aM (hb_then HB6.out hb)
  clear hb CW HE6 HB6
  have hrr : r ++ (⟨(List.toArray [])⟩ : BA) = r := lb_inj (by rw [lb_append]; simp [lb])
  have hrs : ¬ 9223372036854775807 < r.size := by have := HRS.out r hcase.out; omega
  go_wp2
  go_ret3
  exact ⟨by rw [hcase.out]; rfl, HB7.out⟩
def RepTold (r : Option BA) (e : Ending) : Prop := match r with
 | some r => e = .returned (.tuple #[.string r, .nilIface])
 | none => ∃ blk, e = .returned (.tuple #[.string ⟨#[]⟩, .iface 75 (.pointer (some ⟨blk, 0, none⟩))])
set_option maxHeartbeats 1600000 in
set_option maxRecDepth 100000 in
theorem repl_op (n wd : Bs) (hn : IsName n) (hl : n.length ≤ 4294967296) (hw : IsWord wd) (kk : Fin 6) (hbl : (body n kk wd).length ≤ 70368744177664) (g : List (Bs × BA)) (R : Option BA) (hR : R = opRes kk (mget g n) (mk wd)) (hRs : ∀ r, R = some r → r.size ≤ 9223372036854775807) (w : World) (cb b : Nat) (hE : EnvAt w cb g) (hC : CfgAt w b) :
  Calls Tryz.prog 66 #[.string (mk ([36, 123] ++ body n kk wd ++ [125])), envF cb, .pointer (some ⟨b, 0, none⟩)] w fun e w' => RepTold R e ∧ Below w.heap.size w w' := by
 have CA := aM (applied_op n wd hn hl hw kk hbl g R hR hRs w cb b hE hC)
 generalize mk ([36, 123] ++ body n kk wd ++ [125]) = m at CA ⊢
 have hcase : (Aside0 (R = none)) ∨ ∃ r, Aside0 (R = some r) := by
  cases R with
  | none => exact .inl ⟨rfl⟩
  | some r => exact .inr ⟨r, ⟨rfl⟩⟩
 clear hE hC hR hRs hbl
 go_enter Tryz.func66, Tryz.ntmps66
 go_wp2_with fail
 refine CA.out.mono ?_
 rintro e w1 ⟨ht, hb⟩
 have HB1 := aM hb
 clear hb CA
 rcases hcase with hcase | ⟨r, hcase⟩
 ·rw [hcase.out] at ht
  obtain ⟨blk, rfl⟩ := ht
  go_wp2
  go_ret2
  exact ⟨by rw [hcase.out]; exact ⟨_, rfl⟩, HB1.out⟩
 ·rw [hcase.out] at ht
  obtain rfl := (show e = _ from ht)
  go_wp2
  go_ret2
  exact ⟨by rw [hcase.out]; rfl, HB1.out⟩
end Go.Proofs.YtkhkmhbledigpaaGreatDoor.Tr
namespace Go.Proofs.YtkhkmhbledigpaaGreatDoor.Tr
open Go.RowKit Go.Proofs.YtkhkmhbledigpaaGreatDoor.Kit Go.Proofs.YtkhkmhbledigpaaGreatDoor.Frame
open Go.Extern.Stop Go.Stop Go.Extern
set_option linter.unusedVariables false
set_option linter.unusedSimpArgs false
theorem as_rlm (z : Sem Value) (f : TypeId → Addr → Nat → Nat → Sem Value) (v : Value) :
  ReflectliteValue.method z f #[v] = (do match ← ReflectliteValue.parts v with | none => z | some (t, a, fl) => f t a fl (fl % 32)) := rfl
theorem as_rls (v x : Value) : ReflectliteValue.set #[v, x] = (do
  let (some (dst, a, fl), some (src, b, _)) := (← ReflectliteValue.parts v, ← ReflectliteValue.parts x)
   | unsupported (.noEntry "extern/(internal/reflectlite.Value).Set.zeroValue")
  if fl / ReflectliteValue.flagAddr % 2 == 0 then unsupported (.noEntry "extern/(internal/reflectlite.Value).Set.unaddressable")
  let val ← loadVar src b
  if ← Rtype.directlyAssignable dst src then storeVar dst a val
  else if ← Rtype.implements dst src then
   if (← Rtype.kind src) == 20 then
    match val with
    | .nilIface => unsupported (.noEntry "extern/reflectlite: a nil value of one interface type handed on as a value of another")
    | _ => storeVar dst a val
   else storeVar dst a (.iface src val)
  else panicString ("reflectlite.Set: value of type " ++ (← Rtype.spelt src) ++ " is not assignable to type " ++ (← Rtype.spelt dst))
  pure (.tuple #[])) := rfl
theorem as_mKind (h : Value) (w : World) : (Go.method 302 111 (.agg #[h]) "Kind").run Tryz.prog w = .ok (137, h) w := by kernel_rfl
theorem as_mElem (h : Value) (w : World) : (Go.method 302 111 (.agg #[h]) "Elem").run Tryz.prog w = .ok (148, .agg #[h]) w := by kernel_rfl
theorem as_mImplements (h : Value) (w : World) : (Go.method 302 111 (.agg #[h]) "Implements").run Tryz.prog w = .ok (149, .agg #[h]) w := by kernel_rfl
theorem as_mAssignableTo (h : Value) (w : World) : (Go.method 302 111 (.agg #[h]) "AssignableTo").run Tryz.prog w = .ok (146, .agg #[h]) w := by kernel_rfl
theorem as_typeOf (v : Value) (w : World) : (ReflectliteType.typeOf #[.iface 75 v]).run Tryz.prog w = .ok (.iface 111 (.agg #[.pointer (some ⟨2, 75, none⟩)])) w := by kernel_rfl
theorem as_valueOfI (t : Addr) (w : World) : (ReflectliteValue.unpack (.iface 77 (.pointer (some t)))).run Tryz.prog w = .ok (.agg #[.pointer (some ⟨2, 77, none⟩), .pointer (some ⟨w.heap.size, 0, none⟩), .int .u64 150]) (w.alloc (.cells #[.pointer (some t)] 77)) := by kernel_rfl
theorem as_typeI (a : Addr) (w : World) : (ReflectliteValue.methodAny (ReflectliteValue.valueError "reflectlite.Value.Type" 0) (fun t _ _ _ => ReflectliteType.toType t) #[.agg #[.pointer (some ⟨2, 77, none⟩), .pointer (some a), .int .u64 150]]).run Tryz.prog w = .ok (.iface 111 (.agg #[.pointer (some ⟨2, 77, none⟩)])) w := by kernel_rfl
theorem as_kind2I (w : World) : ((ReflectliteType.abiMethod fun t => (fun a : Nat => Value.int IntKind.u8 (a : Int)) <$> Rtype.kind t) #[.pointer (some ⟨2, 77, none⟩)]).run Tryz.prog w = .ok (.int .u8 22) w := by kernel_rfl
theorem as_kind1I (w : World) : ((ReflectliteType.abiMethod fun t => (fun a : Nat => Value.int IntKind.u8 (a : Int)) <$> Rtype.kind t) #[.pointer (some ⟨2, 74, none⟩)]).run Tryz.prog w = .ok (.int .u8 22) w := by kernel_rfl
theorem as_parts2I (a : Addr) (w : World) : (ReflectliteValue.parts (.agg #[.pointer (some ⟨2, 77, none⟩), .pointer (some a), .int .u64 150])).run Tryz.prog w = .ok (some (77, a, 150)) w := by kernel_rfl
theorem as_under2I : Tryz.prog.underlying 77 = some (.pointer 74) := by kernel_rfl
theorem as_isNilI (a p : Addr) (W : World) (ha : W.cell? a = some (.pointer (some p))) :
  (ReflectliteValue.method (ReflectliteValue.valueError "reflectlite.Value.IsNil" 0) ReflectliteValue.isNil #[.agg #[.pointer (some ⟨2, 77, none⟩), .pointer (some a), .int .u64 150]]).run Tryz.prog W = .ok (.bool false) W := by
 rw [as_rlm]
 simp only [Sem.run_bind, as_parts2I, Result.andThen]
 simp [ReflectliteValue.isNil, loadVar, isAgg, underlying, as_under2I, ha, Result.andThen]
theorem as_elem2I (w : World) : (ReflectliteType.method ReflectliteType.elem #[.agg #[.pointer (some ⟨2, 77, none⟩)]]).run Tryz.prog w = .ok (.iface 111 (.agg #[.pointer (some ⟨2, 74, none⟩)])) w := by kernel_rfl
theorem as_implementsI (w : World) : (ReflectliteType.relation "Implements" ReflectliteType.implements_ #[.agg #[.pointer (some ⟨2, 74, none⟩)], .iface 111 (.agg #[.pointer (some ⟨2, 55, none⟩)])]).run Tryz.prog w = .ok (.bool true) w := by kernel_rfl
theorem as_valueOfM (t : Addr) (w : World) : (ReflectliteValue.unpack (.iface 78 (.pointer (some t)))).run Tryz.prog w = .ok (.agg #[.pointer (some ⟨2, 78, none⟩), .pointer (some ⟨w.heap.size, 0, none⟩), .int .u64 150]) (w.alloc (.cells #[.pointer (some t)] 78)) := by kernel_rfl
theorem as_typeM (a : Addr) (w : World) : (ReflectliteValue.methodAny (ReflectliteValue.valueError "reflectlite.Value.Type" 0) (fun t _ _ _ => ReflectliteType.toType t) #[.agg #[.pointer (some ⟨2, 78, none⟩), .pointer (some a), .int .u64 150]]).run Tryz.prog w = .ok (.iface 111 (.agg #[.pointer (some ⟨2, 78, none⟩)])) w := by kernel_rfl
theorem as_kind2M (w : World) : ((ReflectliteType.abiMethod fun t => (fun a : Nat => Value.int IntKind.u8 (a : Int)) <$> Rtype.kind t) #[.pointer (some ⟨2, 78, none⟩)]).run Tryz.prog w = .ok (.int .u8 22) w := by kernel_rfl
theorem as_kind1M (w : World) : ((ReflectliteType.abiMethod fun t => (fun a : Nat => Value.int IntKind.u8 (a : Int)) <$> Rtype.kind t) #[.pointer (some ⟨2, 75, none⟩)]).run Tryz.prog w = .ok (.int .u8 22) w := by kernel_rfl
theorem as_parts2M (a : Addr) (w : World) : (ReflectliteValue.parts (.agg #[.pointer (some ⟨2, 78, none⟩), .pointer (some a), .int .u64 150])).run Tryz.prog w = .ok (some (78, a, 150)) w := by kernel_rfl
theorem as_under2M : Tryz.prog.underlying 78 = some (.pointer 75) := by kernel_rfl
theorem as_isNilM (a p : Addr) (W : World) (ha : W.cell? a = some (.pointer (some p))) :
  (ReflectliteValue.method (ReflectliteValue.valueError "reflectlite.Value.IsNil" 0) ReflectliteValue.isNil #[.agg #[.pointer (some ⟨2, 78, none⟩), .pointer (some a), .int .u64 150]]).run Tryz.prog W = .ok (.bool false) W := by
 rw [as_rlm]
 simp only [Sem.run_bind, as_parts2M, Result.andThen]
 simp [ReflectliteValue.isNil, loadVar, isAgg, underlying, as_under2M, ha, Result.andThen]
theorem as_elem2M (w : World) : (ReflectliteType.method ReflectliteType.elem #[.agg #[.pointer (some ⟨2, 78, none⟩)]]).run Tryz.prog w = .ok (.iface 111 (.agg #[.pointer (some ⟨2, 75, none⟩)])) w := by kernel_rfl
theorem as_implementsM (w : World) : (ReflectliteType.relation "Implements" ReflectliteType.implements_ #[.agg #[.pointer (some ⟨2, 75, none⟩)], .iface 111 (.agg #[.pointer (some ⟨2, 55, none⟩)])]).run Tryz.prog w = .ok (.bool true) w := by kernel_rfl
theorem as_assignableI (w : World) : (ReflectliteType.relation "AssignableTo" ReflectliteType.assignableTo #[.agg #[.pointer (some ⟨2, 75, none⟩)], .iface 111 (.agg #[.pointer (some ⟨2, 74, none⟩)])]).run Tryz.prog w = .ok (.bool false) w := by kernel_rfl
theorem as_assignableM (w : World) : (ReflectliteType.relation "AssignableTo" ReflectliteType.assignableTo #[.agg #[.pointer (some ⟨2, 75, none⟩)], .iface 111 (.agg #[.pointer (some ⟨2, 75, none⟩)])]).run Tryz.prog w = .ok (.bool true) w := by kernel_rfl
theorem as_valueOf1 (e : Addr) (w : World) : (ReflectliteValue.unpack (.iface 75 (.pointer (some e)))).run Tryz.prog w = .ok (.agg #[.pointer (some ⟨2, 75, none⟩), .pointer (some ⟨w.heap.size, 0, none⟩), .int .u64 150]) (w.alloc (.cells #[.pointer (some e)] 75)) := by kernel_rfl
theorem as_elemOf (w : World) : (Rtype.elem? 78).run Tryz.prog w = .ok (some 75) w := by kernel_rfl
theorem as_mk (p : Addr) (w : World) : (ReflectliteValue.mk 75 p ReflectliteValue.flagAddr).run Tryz.prog w = .ok (.agg #[.pointer (some ⟨2, 75, none⟩), .pointer (some p), .int .u64 406]) w := by kernel_rfl
theorem as_elemV (a p : Addr) (W : World) (ha : W.cell? a = some (.pointer (some p))) :
  (ReflectliteValue.method (ReflectliteValue.valueError "reflectlite.Value.Elem" 0) ReflectliteValue.elem #[.agg #[.pointer (some ⟨2, 78, none⟩), .pointer (some a), .int .u64 150]]).run Tryz.prog W = .ok (.agg #[.pointer (some ⟨2, 75, none⟩), .pointer (some p), .int .u64 406]) W := by
 rw [as_rlm]
 simp only [Sem.run_bind, as_parts2M, Result.andThen]
 simp [ReflectliteValue.elem, loadVar, isAgg, underlying, as_under2M, ha, Result.andThen, as_elemOf, as_mk]
theorem as_parts1a (a : Addr) (w : World) : (ReflectliteValue.parts (.agg #[.pointer (some ⟨2, 75, none⟩), .pointer (some a), .int .u64 406])).run Tryz.prog w = .ok (some (75, a, 406)) w := by kernel_rfl
theorem as_parts1 (a : Addr) (w : World) : (ReflectliteValue.parts (.agg #[.pointer (some ⟨2, 75, none⟩), .pointer (some a), .int .u64 150])).run Tryz.prog w = .ok (some (75, a, 150)) w := by kernel_rfl
theorem as_direct (w : World) : (Rtype.directlyAssignable 75 75).run Tryz.prog w = .ok true w := by kernel_rfl
theorem as_under1 : Tryz.prog.underlying 75 = some (.pointer 133) := by kernel_rfl
theorem as_set (ta b e : Addr) (old : Value) (W : World) (hb : W.cell? b = some (.pointer (some e))) (ht : W.cell? ta = some old) (hf : W.frozen? ta = false) :
  (ReflectliteValue.set #[.agg #[.pointer (some ⟨2, 75, none⟩), .pointer (some ta), .int .u64 406], .agg #[.pointer (some ⟨2, 75, none⟩), .pointer (some b), .int .u64 150]]).run Tryz.prog W
   = .ok (.tuple #[]) (W.setCell ta (.pointer (some e))) := by
 rw [as_rls]
 simp only [Sem.run_bind, as_parts1a, as_parts1, Result.andThen]
 simp [ReflectliteValue.flagAddr, loadVar, isAgg, underlying, as_under1, hb, Result.andThen, as_direct, storeVar, Value.cells, storeCells, Addr.add]
 rw [run_store Tryz.prog W ta _ _ (by rfl)]
 simp [ht, hf]
theorem as_no116 (v : Value) (w : World) : (Instr.typeAssert (.iface 75 v) 55 116 true).run Tryz.prog w = .ok (.tuple #[.nilIface, .bool false]) w := run_typeAssert_lacksB Tryz.underlying116 (by kernel_rfl) (by kernel_rfl) v 55 w
theorem as_no119 (v : Value) (w : World) : (Instr.typeAssert (.iface 75 v) 55 119 true).run Tryz.prog w = .ok (.tuple #[.nilIface, .bool false]) w := run_typeAssert_lacksB Tryz.underlying119 (by kernel_rfl) (by kernel_rfl) v 55 w
theorem as_no121 (v : Value) (w : World) : (Instr.typeAssert (.iface 75 v) 55 121 true).run Tryz.prog w = .ok (.tuple #[.nilIface, .bool false]) w := run_typeAssert_lacksB Tryz.underlying121 (by kernel_rfl) (by kernel_rfl) v 55 w
end Go.Proofs.YtkhkmhbledigpaaGreatDoor.Tr
namespace Go.Proofs.YtkhkmhbledigpaaGreatDoor.Tr
open Go.RowKit Go.Proofs.YtkhkmhbledigpaaGreatDoorW.PrintWords Go.Proofs.YtkhkmhbledigpaaGreatDoorW.PrintLast Go.Proofs.YtkhkmhbledigpaaGreatDoor.Str Go.Proofs.YtkhkmhbledigpaaGreatDoor.Kit Go.Proofs.YtkhkmhbledigpaaGreatDoor.MapV Go.Proofs.YtkhkmhbledigpaaGreatDoor.Frame Go.Proofs.YtkhkmhbledigpaaGreatDoor.PS
open Go.Extern.Stop Go.Stop Go.Extern
set_option linter.unusedVariables false
set_option linter.unusedSimpArgs false
theorem as_miss (e t a : Addr) (w : World) : Calls Tryz.prog 57 #[.iface 75 (.pointer (some e)), .iface 77 (.pointer (some t)), .agg #[.pointer (some ⟨2, 77, none⟩), .pointer (some a), .int .u64 150], .iface 111 (.agg #[.pointer (some ⟨2, 74, none⟩)])] w fun ev w' => ev = .returned (.bool false) ∧ Below w.heap.size w w' := by
 have h10 := @run_callFunc_extern Tryz.prog 69 _ ReflectliteType.typeOf Tryz.func69 (by kernel_rfl) (by kernel_rfl) (by kernel_rfl) (by kernel_rfl)
 have h35 := @run_callFunc_extern Tryz.prog 146 _ (ReflectliteType.relation "AssignableTo" ReflectliteType.assignableTo) Tryz.func146 (by kernel_rfl) (by kernel_rfl) (by kernel_rfl) (by kernel_rfl)
 have tO := as_typeOf
 have mA := as_mAssignableTo
 have aI := as_assignableI
 have n1 := as_no116
 have n2 := as_no119
 have n3 := as_no121
 go_enter Tryz.func57, Tryz.ntmps57
 go_wp2
 refine wp_loop_rounds 1 ?_
 rw [rounds_succ]
 go_wp2
 go_ret
 exact ⟨rfl, below_alloc (Below.refl _ _) _⟩
theorem as_hit (e a : Addr) (tb : Nat) (old : Value) (w : World) (ha : w.cell? a = some (.pointer (some ⟨tb, 0, none⟩))) (ht0 : w.cell? ⟨tb, 0, none⟩ = some old) (hf0 : w.frozen? ⟨tb, 0, none⟩ = false) : Calls Tryz.prog 57 #[.iface 75 (.pointer (some e)), .iface 78 (.pointer (some ⟨tb, 0, none⟩)), .agg #[.pointer (some ⟨2, 78, none⟩), .pointer (some a), .int .u64 150], .iface 111 (.agg #[.pointer (some ⟨2, 75, none⟩)])] w fun ev w' => ev = .returned (.bool true) ∧ Turns (fun k => k = tb) w w' := by
 have h54 := @run_callFunc_extern Tryz.prog 54 _ (fun args => ReflectliteValue.unpack (args.getD 0 (.tuple #[]))) Tryz.func54 (by kernel_rfl) (by kernel_rfl) (by kernel_rfl) (by kernel_rfl)
 have h10 := @run_callFunc_extern Tryz.prog 69 _ ReflectliteType.typeOf Tryz.func69 (by kernel_rfl) (by kernel_rfl) (by kernel_rfl) (by kernel_rfl)
 have h35 := @run_callFunc_extern Tryz.prog 146 _ (ReflectliteType.relation "AssignableTo" ReflectliteType.assignableTo) Tryz.func146 (by kernel_rfl) (by kernel_rfl) (by kernel_rfl) (by kernel_rfl)
 have h70 := @run_callFunc_extern Tryz.prog 70 _ (ReflectliteValue.method (ReflectliteValue.valueError "reflectlite.Value.Elem" 0) ReflectliteValue.elem) Tryz.func70 (by kernel_rfl) (by kernel_rfl) (by kernel_rfl) (by kernel_rfl)
 have h71 := @run_callFunc_extern Tryz.prog 71 _ ReflectliteValue.set Tryz.func71 (by kernel_rfl) (by kernel_rfl) (by kernel_rfl) (by kernel_rfl)
 have tO := as_typeOf
 have mA := as_mAssignableTo
 have aM := as_assignableM
 have v1 := as_valueOf1
 have hal : a.block < w.heap.size := World.block_lt_of_cell? w _ ha
 have htl : tb < w.heap.size := World.block_lt_of_cell? w _ ht0
 have el := as_elemV a ⟨tb, 0, none⟩ (w.alloc (.cells #[.pointer (some ⟨2, 78, none⟩), .pointer (some a), .int .u64 150] 93)) (by rw [World.cell?_alloc_lt _ _ a hal]; exact ha)
 have st := as_set ⟨tb, 0, none⟩ ⟨w.heap.size + 1, 0, none⟩ e old ((w.alloc (.cells #[.pointer (some ⟨2, 78, none⟩), .pointer (some a), .int .u64 150] 93)).alloc (.cells #[.pointer (some e)] 75))
  (by rw [World.cell?_alloc_at _ _ _ _ (by simp)]; rfl)
  (by rw [World.cell?_alloc_lt _ _ ⟨tb, 0, none⟩ (by simp; omega), World.cell?_alloc_lt _ _ ⟨tb, 0, none⟩ htl]; exact ht0)
  (by rw [World.frozen?_alloc_old _ _ ⟨tb, 0, none⟩ (by simp; omega), World.frozen?_alloc_old _ _ ⟨tb, 0, none⟩ (Nat.ne_of_lt htl)]; exact hf0)
 go_enter Tryz.func57, Tryz.ntmps57
 go_wp2
 refine wp_loop_rounds 1 ?_
 rw [rounds_succ]
 go_wp2
 go_ret
 refine ⟨rfl, ?_⟩
 exact ((Turns.setCell _ _ _ _).trans (Turns.alloc _ _ _) (fun _ _ h => h)).trans (Turns.alloc _ _ _) (fun _ _ h => h)
abbrev ErrAt (w : World) : Prop := w.cell? ⟨1, 0, none⟩ = some (.iface 111 (.agg #[.pointer (some ⟨2, 55, none⟩)]))
set_option maxHeartbeats 4000000 in
set_option maxRecDepth 100000 in
theorem As_miss (e : Addr) (tb : Nat) (old : Value) (w : World) (hg : ErrAt w) (ht0 : w.cell? ⟨tb, 0, none⟩ = some old) (hf0 : w.frozen? ⟨tb, 0, none⟩ = false) :
  Calls Tryz.prog 43 #[.iface 75 (.pointer (some e)), .iface 77 (.pointer (some ⟨tb, 0, none⟩))] w fun ev w' => ev = .returned (.bool false) ∧ Below w.heap.size w w' := by
 have h54 := @run_callFunc_extern Tryz.prog 54 _ (fun args => ReflectliteValue.unpack (args.getD 0 (.tuple #[]))) Tryz.func54 (by kernel_rfl) (by kernel_rfl) (by kernel_rfl) (by kernel_rfl)
 have h55 := @run_callFunc_extern Tryz.prog 55 _ (ReflectliteValue.methodAny (ReflectliteValue.valueError "reflectlite.Value.Type" 0) (fun t _ _ _ => ReflectliteType.toType t)) Tryz.func55 (by kernel_rfl) (by kernel_rfl) (by kernel_rfl) (by kernel_rfl)
 have h56 := @run_callFunc_extern Tryz.prog 56 _ (ReflectliteValue.method (ReflectliteValue.valueError "reflectlite.Value.IsNil" 0) ReflectliteValue.isNil) Tryz.func56 (by kernel_rfl) (by kernel_rfl) (by kernel_rfl) (by kernel_rfl)
 have h137 := @run_callFunc_extern Tryz.prog 137 _ (ReflectliteType.abiMethod fun t => do pure (.int .u8 (← Rtype.kind t))) Tryz.func137 (by kernel_rfl) (by kernel_rfl) (by kernel_rfl) (by kernel_rfl)
 have h148 := @run_callFunc_extern Tryz.prog 148 _ (ReflectliteType.method ReflectliteType.elem) Tryz.func148 (by kernel_rfl) (by kernel_rfl) (by kernel_rfl) (by kernel_rfl)
 have h149 := @run_callFunc_extern Tryz.prog 149 _ (ReflectliteType.relation "Implements" ReflectliteType.implements_) Tryz.func149 (by kernel_rfl) (by kernel_rfl) (by kernel_rfl) (by kernel_rfl)
 have f6 := as_valueOfI
 have f7 := as_typeI
 have mK := as_mKind
 have mE := as_mElem
 have mI := as_mImplements
 have k2 := as_kind2I
 have k1 := as_kind1I
 have e2 := as_elem2I
 have i1 := as_implementsI
 have hlt : 1 < w.heap.size := World.block_lt_of_cell? w _ hg
 have htl : tb < w.heap.size := World.block_lt_of_cell? w _ ht0
 have n8 := as_isNilI ⟨w.heap.size, 0, none⟩ ⟨tb, 0, none⟩ ((w.alloc (.cells #[.pointer (some ⟨tb, 0, none⟩)] 77)).alloc (.cells #[.pointer (some ⟨2, 77, none⟩), .pointer (some ⟨w.heap.size, 0, none⟩), .int .u64 150] 93)) (by simp)
 have hg2 : ((w.alloc (.cells #[.pointer (some ⟨tb, 0, none⟩)] 77)).alloc (.cells #[.pointer (some ⟨2, 77, none⟩), .pointer (some ⟨w.heap.size, 0, none⟩), .int .u64 150] 93)).cell? ⟨1, 0, none⟩ = some (.iface 111 (.agg #[.pointer (some ⟨2, 55, none⟩)])) := by
  rw [World.cell?_alloc_lt _ _ ⟨1, 0, none⟩ (by simp; omega), World.cell?_alloc_lt _ _ ⟨1, 0, none⟩ hlt]; exact hg
 clear hg ht0 hf0
 go_enter Tryz.func43, Tryz.ntmps43
 go_wp2_with fail
 refine (as_miss e ⟨tb, 0, none⟩ ⟨w.heap.size, 0, none⟩ _).mono ?_
 rintro ev w1 ⟨rfl, hb⟩
 have HB := aM (hb_then (below_alloc (below_alloc (Below.refl w.heap.size w) _) _) hb)
 clear hb
 go_wp2
 go_ret
 exact ⟨rfl, HB.out⟩
set_option maxHeartbeats 4000000 in
set_option maxRecDepth 100000 in
theorem As_hit (e : Addr) (tb : Nat) (old : Value) (w : World) (hg : ErrAt w) (ht0 : w.cell? ⟨tb, 0, none⟩ = some old) (hf0 : w.frozen? ⟨tb, 0, none⟩ = false) :
  Calls Tryz.prog 43 #[.iface 75 (.pointer (some e)), .iface 78 (.pointer (some ⟨tb, 0, none⟩))] w fun ev w' => ev = .returned (.bool true) ∧ Turns (fun k => k = tb) w w' := by
 have h54 := @run_callFunc_extern Tryz.prog 54 _ (fun args => ReflectliteValue.unpack (args.getD 0 (.tuple #[]))) Tryz.func54 (by kernel_rfl) (by kernel_rfl) (by kernel_rfl) (by kernel_rfl)
 have h55 := @run_callFunc_extern Tryz.prog 55 _ (ReflectliteValue.methodAny (ReflectliteValue.valueError "reflectlite.Value.Type" 0) (fun t _ _ _ => ReflectliteType.toType t)) Tryz.func55 (by kernel_rfl) (by kernel_rfl) (by kernel_rfl) (by kernel_rfl)
 have h56 := @run_callFunc_extern Tryz.prog 56 _ (ReflectliteValue.method (ReflectliteValue.valueError "reflectlite.Value.IsNil" 0) ReflectliteValue.isNil) Tryz.func56 (by kernel_rfl) (by kernel_rfl) (by kernel_rfl) (by kernel_rfl)
 have h137 := @run_callFunc_extern Tryz.prog 137 _ (ReflectliteType.abiMethod fun t => do pure (.int .u8 (← Rtype.kind t))) Tryz.func137 (by kernel_rfl) (by kernel_rfl) (by kernel_rfl) (by kernel_rfl)
 have h148 := @run_callFunc_extern Tryz.prog 148 _ (ReflectliteType.method ReflectliteType.elem) Tryz.func148 (by kernel_rfl) (by kernel_rfl) (by kernel_rfl) (by kernel_rfl)
 have h149 := @run_callFunc_extern Tryz.prog 149 _ (ReflectliteType.relation "Implements" ReflectliteType.implements_) Tryz.func149 (by kernel_rfl) (by kernel_rfl) (by kernel_rfl) (by kernel_rfl)
 have f6 := as_valueOfM
 have f7 := as_typeM
 have mK := as_mKind
 have mE := as_mElem
 have mI := as_mImplements
 have k2 := as_kind2M
 have k1 := as_kind1M
 have e2 := as_elem2M
 have i1 := as_implementsM
 have hlt : 1 < w.heap.size := World.block_lt_of_cell? w _ hg
 have htl : tb < w.heap.size := World.block_lt_of_cell? w _ ht0
 have n8 := as_isNilM ⟨w.heap.size, 0, none⟩ ⟨tb, 0, none⟩ ((w.alloc (.cells #[.pointer (some ⟨tb, 0, none⟩)] 78)).alloc (.cells #[.pointer (some ⟨2, 78, none⟩), .pointer (some ⟨w.heap.size, 0, none⟩), .int .u64 150] 93)) (by simp)
 have hg2 : ((w.alloc (.cells #[.pointer (some ⟨tb, 0, none⟩)] 78)).alloc (.cells #[.pointer (some ⟨2, 78, none⟩), .pointer (some ⟨w.heap.size, 0, none⟩), .int .u64 150] 93)).cell? ⟨1, 0, none⟩ = some (.iface 111 (.agg #[.pointer (some ⟨2, 55, none⟩)])) := by
  rw [World.cell?_alloc_lt _ _ ⟨1, 0, none⟩ (by simp; omega), World.cell?_alloc_lt _ _ ⟨1, 0, none⟩ hlt]; exact hg
 have CA := aM (as_hit e ⟨w.heap.size, 0, none⟩ tb old ((w.alloc (.cells #[.pointer (some ⟨tb, 0, none⟩)] 78)).alloc (.cells #[.pointer (some ⟨2, 78, none⟩), .pointer (some ⟨w.heap.size, 0, none⟩), .int .u64 150] 93)) (by rw [World.cell?_alloc_lt _ _ ⟨w.heap.size, 0, none⟩ (by simp)]; simp)
  (by rw [World.cell?_alloc_lt _ _ ⟨tb, 0, none⟩ (by simp; omega), World.cell?_alloc_lt _ _ ⟨tb, 0, none⟩ htl]; exact ht0)
  (by rw [World.frozen?_alloc_old _ _ ⟨tb, 0, none⟩ (by simp; omega), World.frozen?_alloc_old _ _ ⟨tb, 0, none⟩ (Nat.ne_of_lt htl)]; exact hf0))
 clear hg ht0 hf0
 go_enter Tryz.func43, Tryz.ntmps43
 go_wp2_with fail
 refine CA.out.mono ?_
 rintro ev w1 ⟨rfl, hb⟩
 have HB := aM (((Turns.alloc (fun k => k = tb) w _).trans (Turns.alloc _ _ _) (fun _ _ h => h)).trans hb (fun _ _ h => h))
 clear hb CA
 go_wp2
 go_ret
 exact ⟨rfl, HB.out⟩
end Go.Proofs.YtkhkmhbledigpaaGreatDoor.Tr
namespace Go.Proofs.YtkhkmhbledigpaaGreatDoor.Tr
open Go.RowKit Go.Proofs.YtkhkmhbledigpaaGreatDoorW.PrintWords Go.Proofs.YtkhkmhbledigpaaGreatDoorW.PrintLast Go.Proofs.YtkhkmhbledigpaaGreatDoor.Str Go.Proofs.YtkhkmhbledigpaaGreatDoor.Kit Go.Proofs.YtkhkmhbledigpaaGreatDoor.MapV Go.Proofs.YtkhkmhbledigpaaGreatDoor.Frame Go.Proofs.YtkhkmhbledigpaaGreatDoor.PS
open Go.Proofs.YtkhkmhbledigpaaGreatDoor.Maps (MapS key_u map_u lookFn lookT kp toP Ok encP ofP)
set_option linter.unusedVariables false
set_option linter.unusedSimpArgs false
abbrev missV (blk : Nat) : Value := .iface 75 (.pointer (some ⟨blk, 0, none⟩))
set_option maxHeartbeats 1600000 in
set_option maxRecDepth 100000 in
theorem class_missing (blk : Nat) (w : World) (hg : ErrAt w) : Calls Tryz.prog 29 #[missV blk] w fun e w' => e = .returned (.int .i64 2) ∧ Below w.heap.size w w' := by
 have hb0 := below_alloc (below_alloc (Below.refl w.heap.size w) (.cells #[.pointer none] 74)) (.cells #[.pointer none] 75)
 have n1 := cb_new w (.cells #[.pointer none] 74)
 have n2 := cb_new (w.alloc (.cells #[.pointer none] 74)) (.cells #[.pointer none] 75)
 rw [World.size_alloc] at n2
 have n1' := cb_alloc n1 (.cells #[.pointer none] 75)
 have hg2 := pw_cell_below hb0 hg
 have HB := aM hb0
 have HG := aM hg2
 have N1 := aM n1'
 have N2 := aM n2
 clear hb0 hg hg2 n1 n2 n1'
 go_enter Tryz.func29, Tryz.ntmps29
 go_wp2_with fail
 generalize (w.alloc (.cells #[.pointer none] 74)).alloc (.cells #[.pointer none] 75) = w2 at HB HG N1 N2 ⊢
 refine (As_miss ⟨blk, 0, none⟩ w.heap.size (.pointer none) w2 HG.out (cb_cell (i := 0) N1.out rfl) (cb_frozen N1.out)).mono ?_
 rintro e w3 ⟨rfl, hb⟩
 have HB3 := aM (hb_then HB.out hb)
 have HG3 := aM (show ErrAt w3 from pw_cell_below hb HG.out)
 have N3 := aM ((hb.block _ (cb_lt N2.out)).trans N2.out)
 clear hb HB HG N1 N2
 go_wp2_with fail
 refine (As_hit ⟨blk, 0, none⟩ (w.heap.size + 1) (.pointer none) w3 HG3.out (cb_cell (i := 0) N3.out rfl) (cb_frozen N3.out)).mono ?_
 rintro e w4 ⟨rfl, ht⟩
 have HB4 := aM (ht.below HB3.out (fun k hk h => by omega))
 clear ht HB3 HG3 N3
 go_wp2
 go_ret
 exact ⟨rfl, HB4.out⟩
set_option maxHeartbeats 1600000 in
set_option maxRecDepth 100000 in
theorem closure_fail (m : BA) (w : World) (pb eb tb rb cb b : Nat) (s : BA) {g : List (Bs × BA)} (hE : EnvAt w cb g) (hC : CloAt w pb eb tb rb cb b s) (hr : w.heap[rb]? = some (.cells #[.nilIface] 55 (0, 0))) (hg : ErrAt w)
  (hR : ∀ W, EnvAt W cb g → CfgAt W b → Calls Tryz.prog 66 #[.string m, envF cb, .pointer (some ⟨b, 0, none⟩)] W fun e w' => RepTold none e ∧ Below W.heap.size W w') :
  Calls Tryz.prog 68 #[.string m, .pointer (some ⟨pb, 0, none⟩), .pointer (some ⟨eb, 0, none⟩), .pointer (some ⟨tb, 0, none⟩), .pointer (some ⟨rb, 0, none⟩)] w fun e w' => e = .returned (.string ⟨#[]⟩) ∧ Turns (fun k => k = rb) w w' ∧ ∃ blk, w'.cell? ⟨rb, 0, none⟩ = some (missV blk) := by
 have HR := aM hR
 have HE := aM hE
 have HC := aM hC
 have HRB := aM hr
 have HG := aM hg
 have e0 := hC.p
 have e1 := hC.e
 have e2 : w.cell? ⟨b, 1, none⟩ = some (.func (.func 66) #[] #[]) := cb_cell (i := 1) hC.c rfl
 clear hE hC hR hr hg
 go_enter Tryz.func68, Tryz.ntmps68
 go_wp2_with fail
 have HCL := aM (HR.out w.drew (HE.out.below (below_drew (Below.refl _ _))) (HC.out.c.below (below_drew (Below.refl _ _))))
 refine start_ (n := 13) (S := fun w' => w'.cell? ⟨pb, 0, none⟩ = some (.pointer (some ⟨b, 0, none⟩)) ∧ w'.cell? ⟨eb, 0, none⟩ = some (envF cb) ∧ w'.cell? ⟨b, 1, none⟩ = some (.func (.func 66) #[] #[])) (ds := [7]) #[false, false, false, false, false, false, false, false, false, false, false, false, false] (by kernel_rfl) rfl rfl ⟨e0, e1, e2⟩ (fun hHeld => ?_)
 refine pure_ (i := 4) (N := some 15) (v := ?_) (a' := ?_) #[false, false, false, false, true, false, false, false, false, false, false, false, false] rfl rfl (by kernel_rfl) (fun _ _ _ h => h) (Or.inl ⟨by rfl, ?_⟩) ?_ ?_
 rotate_left
 ·intro w'; go_simp; with_reducible rfl
 rotate_left
 ·simp only [Act.put, sA, sB, sC, i64_w, i32_w]; rfl
 refine take_ (i := 0) (N := some 11) (v := ?_) (a' := ?_) #[true, false, false, false, true, false, false, false, false, false, false, false, false] rfl rfl (by kernel_rfl) (fun _ _ _ h => h) (Or.inl ⟨by rfl, ?_⟩) hHeld ?_ ?_
 rotate_left
 ·rintro w' ⟨s0, s1, s2⟩
  go_simp; with_reducible rfl
 rotate_left
 ·simp only [Act.put, sA, sB, sC, i64_w, i32_w]; rfl
 refine pure_ (i := 1) (N := some 12) (v := ?_) (a' := ?_) #[true, true, false, false, true, false, false, false, false, false, false, false, false] rfl rfl (by kernel_rfl) (fun _ _ _ h => h) (Or.inl ⟨by rfl, ?_⟩) ?_ ?_
 rotate_left
 ·intro w'; go_simp; with_reducible rfl
 rotate_left
 ·simp only [Act.put, sA, sB, sC, i64_w, i32_w]; rfl
 refine pure_ (i := 2) (N := some 13) (v := ?_) (a' := ?_) #[true, true, true, false, true, false, false, false, false, false, false, false, false] rfl rfl (by kernel_rfl) (fun _ _ _ h => h) (Or.inl ⟨by rfl, ?_⟩) ?_ ?_
 rotate_left
 ·intro w'; go_simp; with_reducible rfl
 rotate_left
 ·simp only [Act.put, sA, sB, sC, i64_w, i32_w]; rfl
 refine take_ (i := 3) (N := some 14) (v := ?_) (a' := ?_) #[true, true, true, true, true, false, false, false, false, false, false, false, false] rfl rfl (by kernel_rfl) (fun _ _ _ h => h) (Or.inl ⟨by rfl, ?_⟩) hHeld ?_ ?_
 rotate_left
 ·rintro w' ⟨s0, s1, s2⟩
  go_simp; with_reducible rfl
 rotate_left
 ·simp only [Act.put, sA, sB, sC, i64_w, i32_w]; rfl
 refine take_ (i := 5) (N := some 16) (v := ?_) (a' := ?_) #[true, true, true, true, true, true, false, false, false, false, false, false, false] rfl rfl (by kernel_rfl) (fun _ _ _ h => h) (Or.inl ⟨by rfl, ?_⟩) hHeld ?_ ?_
 rotate_left
 ·rintro w' ⟨s0, s1, s2⟩
  go_simp; with_reducible rfl
 rotate_left
 ·simp only [Act.put, sA, sB, sC, i64_w, i32_w]; rfl
 refine take_ (i := 6) (N := some 17) (v := ?_) (a' := ?_) #[true, true, true, true, true, true, true, false, false, false, false, false, false] rfl rfl (by kernel_rfl) (fun _ _ _ h => h) (Or.inl ⟨by rfl, ?_⟩) hHeld ?_ ?_
 rotate_left
 ·rintro w' ⟨s0, s1, s2⟩
  go_simp; with_reducible rfl
 rotate_left
 ·simp only [Act.put, sA, sB, sC, i64_w, i32_w]; rfl
 refine last_ (i := 7) (N := some 18) #[true, true, true, true, true, true, true, true, false, false, false, false, false] rfl rfl (by kernel_rfl) (by decide) (fun K hK => ?_)
 refine goesV_ (.tmp 14) #[] Tryz.func66 (by kernel_rfl) rfl #[.string m, envF cb, .pointer (some ⟨b, 0, none⟩)] (by rfl) rfl rfl rfl (by simp only [List.map_toArray, List.map_cons, List.map_nil, Array.append_empty]; rfl) ?_
 with_reducible refine (HCL.out).mono ?_
 rintro e w4 ⟨⟨blk, rfl⟩, hb⟩
 refine ⟨_, rfl, ?_⟩
 refine hK.out _ _ ?_
 clear hK K
 refine norm_ (a' := ?_) ?_ ?_
 rotate_left
 ·show Act.put _ (some 18) _ = _
  simp only [Act.put, sA, sB, sC, i64_w, i32_w]; rfl
 refine pure_ (i := 8) (N := some 10) (v := ?_) (a' := ?_) #[true, true, true, true, true, true, true, true, true, false, false, false, false] rfl rfl (by kernel_rfl) (fun _ _ _ h => h) (Or.inl ⟨by rfl, ?_⟩) ?_ ?_
 rotate_left
 ·intro w'; go_simp; with_reducible rfl
 rotate_left
 ·simp only [Act.put, sA, sB, sC, i64_w, i32_w]; rfl
 refine pure_ (i := 9) (N := some 19) (v := ?_) (a' := ?_) #[true, true, true, true, true, true, true, true, true, true, false, false, false] rfl rfl (by kernel_rfl) (fun _ _ _ h => h) (Or.inl ⟨by rfl, ?_⟩) ?_ ?_
 rotate_left
 ·intro w'; go_simp; with_reducible rfl
 rotate_left
 ·simp only [Act.put, sA, sB, sC, i64_w, i32_w]; rfl
 refine pure_ (i := 10) (N := some 20) (v := ?_) (a' := ?_) #[true, true, true, true, true, true, true, true, true, true, true, false, false] rfl rfl (by kernel_rfl) (fun _ _ _ h => h) (Or.inl ⟨by rfl, ?_⟩) ?_ ?_
 rotate_left
 ·intro w'; go_simp; with_reducible rfl
 rotate_left
 ·simp only [Act.put, sA, sB, sC, i64_w, i32_w]; rfl
 refine pure_ (i := 11) (N := some 7) (v := ?_) (a' := ?_) #[true, true, true, true, true, true, true, true, true, true, true, true, false] rfl rfl (by kernel_rfl) (fun _ _ _ h => h) (Or.inl ⟨by rfl, ?_⟩) ?_ ?_
 rotate_left
 ·intro w'; go_simp; with_reducible rfl
 rotate_left
 ·simp only [Act.put, sA, sB, sC, i64_w, i32_w]; rfl
 refine pure_ (i := 12) (N := some 8) (v := ?_) (a' := ?_) #[true, true, true, true, true, true, true, true, true, true, true, true, true] rfl rfl (by kernel_rfl) (fun _ _ _ h => h) (Or.inl ⟨by rfl, ?_⟩) ?_ ?_
 rotate_left
 ·intro w'; go_simp; with_reducible rfl
 rotate_left
 ·simp only [Act.put, sA, sB, sC, i64_w, i32_w]; rfl
 refine done_ (by kernel_rfl) ?_
 have hb4 := hb_then (below_drew (Below.refl _ w)) hb
 have HB4 := aM hb4
 have HG4 := aM (show ErrAt w4 from pw_cell_below hb4 HG.out)
 have HRB4 := aM ((hb4.block _ (cb_lt HRB.out)).trans HRB.out)
 clear hb hb4 HCL HR HE HC HG HRB e0 e1 e2
 have n1 := cb_new w4 (.cells #[.pointer none] 74)
 have N1 := aM n1
 have HB5 := aM (below_alloc HB4.out (.cells #[.pointer none] 74))
 have HG5 := aM (show ErrAt (w4.alloc (.cells #[.pointer none] 74)) from pw_cell_below (below_alloc (Below.refl _ w4) _) HG4.out)
 have HRB5 := aM (cb_alloc HRB4.out (.cells #[.pointer none] 74))
 clear n1 HB4 HG4 HRB4
 go_wp2_with fail
 generalize w4.alloc (.cells #[.pointer none] 74) = w5 at HB5 HG5 HRB5 N1 ⊢
 refine (As_miss ⟨blk, 0, none⟩ w4.heap.size (.pointer none) w5 HG5.out (cb_cell (i := 0) N1.out rfl) (cb_frozen N1.out)).mono ?_
 rintro e w6 ⟨rfl, hb⟩
 have HB6 := aM (hb_then HB5.out hb)
 have HRB6 := aM ((hb.block _ (cb_lt HRB5.out)).trans HRB5.out)
 have c6 := cb_cell (i := 0) HRB6.out rfl
 have f6 : w6.frozen? ⟨rb, 0, none⟩ = false := cb_frozen HRB6.out
 clear hb HB5 HG5 HRB5 N1
 go_wp2
 go_ret
 exact ⟨rfl, (Turns.of_below HB6.out).trans (Turns.setCell _ _ _ _) (fun _ _ h => h), blk, cb_cell (i := 0) (cb_set HRB6.out _) rfl⟩
def FailsAt (m : BA) (g : List (Bs × BA)) : Prop := ∀ (b cb : Nat) (W : World), EnvAt W cb g → CfgAt W b → Calls Tryz.prog 66 #[.string m, envF cb, .pointer (some ⟨b, 0, none⟩)] W fun e w' => RepTold none e ∧ Below W.heap.size W w'
theorem turns_then {F : Nat → Prop} {w w1 w2 : World} (h : Turns F w w1) (hb : Below w1.heap.size w1 w2) : Turns F w w2 := h.trans (Turns.of_below hb) (fun _ _ h => h)
set_option maxHeartbeats 3200000 in
set_option maxRecDepth 100000 in
theorem ReplaceAll_fail (m : BA) (ms : List BA) (hs : m.size < 140737488355328) (h0 : 0 < m.size) (hat : Ends (fun r => r = (m :: ms, (m.size : Int), true)) (fun k => template_zzAt.f k m 0)) {g : List (Bs × BA)} (hF : FailsAt m g) (w : World) (pb eb tb rb cb b : Nat) (t : BA) (hE : EnvAt w cb g) (hC : CloAt w pb eb tb rb cb b t) (hr : w.heap[rb]? = some (.cells #[.nilIface] 55 (0, 0))) (hg : ErrAt w) :
  Calls Tryz.prog 67 #[.agg #[], .string m, .func (.func 68) #[] #[.pointer (some ⟨pb, 0, none⟩), .pointer (some ⟨eb, 0, none⟩), .pointer (some ⟨tb, 0, none⟩), .pointer (some ⟨rb, 0, none⟩)]] w fun e w' => e = .returned (.string ⟨#[]⟩) ∧ Turns (fun k => k = rb) w w' ∧ ∃ blk, w'.cell? ⟨rb, 0, none⟩ = some (missV blk) := by
 have HB0 := aM (below_alloc (Below.refl w.heap.size w) (.cells #[] 71))
 obtain ⟨k, hkk⟩ := hat.ev.rounds
 have CA := aM (fun W => template_zzAt.calls k m 0 (m :: ms) m.size true W hkk)
 have CC := aM (fun W (h1 : EnvAt W cb g) (h2 : CloAt W pb eb tb rb cb b t) (h3 : W.heap[rb]? = some (.cells #[.nilIface] 55 (0, 0))) (h4 : ErrAt W) => closure_fail m W pb eb tb rb cb b t h1 h2 h3 h4 (fun W h1 h2 => hF b cb W h1 h2))
 have HE := aM hE
 have HC := aM hC
 have HRB := aM hr
 have HG := aM hg
 clear hE hC hr hg hkk hat hF
 go_enter Tryz.func67, Tryz.ntmps67
 go_wp2
 go_loopw [7, 8, 9, 10, 11] (fun v7 v8 v9 v10 v11 wr => (v7 = .slice none 0 0 ∧ v8 = .int .i64 0 ∧ Aside0 (Below w.heap.size w wr)) ∨ (v8 = .int .i64 m.size ∧ Aside0 (∃ base, Buf wr base v7 []) ∧ Aside0 (Turns (fun k => k = rb) w wr) ∧ Aside0 (∃ blk, wr.cell? ⟨rb, 0, none⟩ = some (missV blk)))) (fun _ v8 _ _ _ _ => m.size - (intOf v8).toNat)
 case atStart => exact .inl ⟨rfl, rfl, HB0⟩
 case round =>
  clear HB0
  rcases hrel with ⟨rfl, rfl, HB⟩ | ⟨rfl, HO, HT, HK⟩
  ·have q1 : (0 : Int) < (m.size : Int) := by omega
   have q5 : decide ((0 : Int) < (m.size : Int)) = true := decide_eq_true q1
   go_wp2_with fail
   refine (CA.out _).mono ?_
   rintro e w1 ⟨v, rfl, hrr, hb⟩
   have HB1 := aM (hb_then HB.out hb)
   obtain ⟨A9, c9, rfl, l9, g9⟩ := Kd.R_reads hrr
   obtain ⟨b9, o9, rfl, hb9, hc9⟩ := strs_open g9 (by simp)
   have e9 : w1.cell? ⟨b9, o9, none⟩ = some (.string m) := hc9 0 (by simp)
   have CCL := aM (CC.out w1 (HE.out.below HB1.out) (HC.out.below HB1.out) ((HB1.out.block _ (cb_lt HRB.out)).trans HRB.out) (pw_cell_below HB1.out HG.out))
   have HG9 := aM (show (0 : Int) < ((m :: ms).length : Int) by rw [List.length_cons]; omega)
   have hg9 := HG9.out
   clear hb CA hrr CC hc9 g9 HB
   go_wp2_with fail
   refine CCL.out.mono ?_
   rintro e w2 ⟨rfl, ht, hk⟩
   have HT2 := aM ((Turns.of_below (F := fun k => k = rb) HB1.out).trans ht (fun _ _ h => h))
   have HK2 := aM hk
   clear ht hk CCL
   go_wp2_with (at_builtin; refine append_bufS (w0 := w2) (.tmp 33) (.tmp 38) rfl rfl rfl rfl (Buf.nil _ _) (Below.refl _ _) (by decide) ?_; intro v1 w3 ho hb hg; have HO4 := aM ho; have HB4 := aM hb; clear ho hb hg)
   go_roundw
   case rel => exact .inr ⟨rfl, ⟨⟨_, HO4.out⟩⟩, ⟨turns_then HT2.out HB4.out⟩, ⟨HK2.out.imp fun blk h => pw_cell_below HB4.out h⟩⟩
   case measure => simp [intOf]; omega
  ·have q5 : decide ((m.size : Int) < (m.size : Int)) = false := decide_eq_false (by omega)
   have q6 : ¬ (m.size : Int) < (m.size : Int) := by omega
   obtain ⟨base, ho⟩ := HO.out
   have hcv := ho.string
   obtain ⟨A7, c7, rfl⟩ := ho.slice
   clear ho
   rw [List.length_nil] at hcv
   have hcv2 : (convert 50 9 (.slice A7 0 c7)).run Tryz.prog wr = .ok (.string ⟨#[]⟩) wr := hcv
   clear hcv
   try rw [List.length_nil]
   go_wp2
   go_ret
   exact ⟨rfl, HT.out, HK.out⟩
structure FailsAll (s : BA) (g : List (Bs × BA)) : Prop where
 pos : 0 < s.size
 at_ : ∃ ms, Ends (fun r => r = (s :: ms, (s.size : Int), true)) (fun k => template_zzAt.f k s 0)
 fail : FailsAt s g
theorem FailsAll.replaceAll {s : BA} {g : List (Bs × BA)} (h : FailsAll s g) (hs : s.size < 140737488355328) (w : World) (pb eb tb rb cb b : Nat) (t : BA) (hE : EnvAt w cb g) (hC : CloAt w pb eb tb rb cb b t) (hr : w.heap[rb]? = some (.cells #[.nilIface] 55 (0, 0))) (hg : ErrAt w) :
  Calls Tryz.prog 67 #[.agg #[], .string s, .func (.func 68) #[] #[.pointer (some ⟨pb, 0, none⟩), .pointer (some ⟨eb, 0, none⟩), .pointer (some ⟨tb, 0, none⟩), .pointer (some ⟨rb, 0, none⟩)]] w fun e w' => e = .returned (.string ⟨#[]⟩) ∧ Turns (fun k => k = rb) w w' ∧ ∃ blk, w'.cell? ⟨rb, 0, none⟩ = some (missV blk) := by
 obtain ⟨ms, hat⟩ := h.at_
 exact ReplaceAll_fail s ms hs h.pos hat h.fail w pb eb tb rb cb b t hE hC hr hg
set_option maxHeartbeats 3200000 in
set_option maxRecDepth 100000 in
theorem SubstWith_fail {g : List (Bs × BA)} (s : BA) (hs : s.size < 140737488355328) (hX : FailsAll s g) (w : World) (cb tb : Nat) (hE : EnvAt w cb g) (hg : ErrAt w) (ob : Nat) (hO : w.cell? ⟨ob, 0, none⟩ = some (.func (.func 64) #[] #[.pointer (some ⟨tb, 0, none⟩)])) :
  Calls Tryz.prog 53 #[.string s, envF cb, .slice (some ⟨ob, 0, none⟩) 1 1] w fun e w' => (∃ blk, e = .returned (.tuple #[.string ⟨#[]⟩, missV blk])) ∧ Below w.heap.size w w' := by
 have HE := aM hE
 have HX := aM hX
 have HG := aM hg
 have HO := aM hO
 clear hX hE hO hg
 have hmf : ∀ (fn : Fn) (first cap : Array Value) (w : World), (Instr.makeFunc fn first cap).run Tryz.prog w = .ok (.func fn first cap) w := fun _ _ _ _ => rfl
 have hfd : Array.foldl (fun (cs : Array Value) (x : Value × Nat) => cs.setIfInBounds x.snd x.fst) #[Value.nilFunc, Value.nilFunc, Value.bool false] ((#[] : Array Value).zipIdx) 0 0 = #[Value.nilFunc, Value.nilFunc, Value.bool false] := rfl
 go_enter Tryz.func53, Tryz.ntmps53
 go_wp2
 obtain ⟨w1, hw1⟩ : ∃ w1, ((((w.alloc (.cells #[.string s] 9)).alloc (.cells #[envF cb] 68)).alloc (.cells #[.nilIface] 55)).alloc (.cells #[.nilFunc, .func (.func 66) #[] #[], .bool true] 106)).alloc (.cells #[.pointer (some ⟨w.heap.size + 1 + 1 + 1, 0, none⟩)] 102) = w1 := ⟨_, rfl⟩
 rw [hw1]
 have hbw : Below w.heap.size w w1 := by rw [← hw1]; exact below_alloc (below_alloc (below_alloc (below_alloc (below_alloc (Below.refl w.heap.size w) _) _) _) _) _
 have HB := aM hbw
 have HG1 := aM (show ErrAt w1 from pw_cell_below hbw HG.out)
 have HRB := aM (show w1.heap[w.heap.size + 1 + 1]? = some (.cells #[.nilIface] 55 (0, 0)) from by
  rw [← hw1]
  have n2 := cb_new ((w.alloc (.cells #[.string s] 9)).alloc (.cells #[envF cb] 68)) (.cells #[.nilIface] 55)
  simp only [World.size_alloc] at n2
  exact cb_alloc (cb_alloc n2 _) _)
 have HC := aM (show CloAt w1 (w.heap.size + 1 + 1 + 1 + 1) (w.heap.size + 1) w.heap.size (w.heap.size + 1 + 1) cb (w.heap.size + 1 + 1 + 1) s from by
  rw [← hw1]
  have n0 := cb_new w (.cells #[.string s] 9)
  have n1 := cb_new (w.alloc (.cells #[.string s] 9)) (.cells #[envF cb] 68)
  have n2 := cb_new ((w.alloc (.cells #[.string s] 9)).alloc (.cells #[envF cb] 68)) (.cells #[.nilIface] 55)
  have n3 := cb_new (((w.alloc (.cells #[.string s] 9)).alloc (.cells #[envF cb] 68)).alloc (.cells #[.nilIface] 55)) (.cells #[.nilFunc, .func (.func 66) #[] #[], .bool true] 106)
  have n4 := cb_new ((((w.alloc (.cells #[.string s] 9)).alloc (.cells #[envF cb] 68)).alloc (.cells #[.nilIface] 55)).alloc (.cells #[.nilFunc, .func (.func 66) #[] #[], .bool true] 106)) (.cells #[.pointer (some ⟨w.heap.size + 1 + 1 + 1, 0, none⟩)] 102)
  simp only [World.size_alloc] at n1 n2 n3 n4
  exact ⟨cb_cell (i := 0) n4 rfl, cb_cell (i := 0) (cb_alloc (cb_alloc (cb_alloc n1 _) _) _) rfl, cb_cell (i := 0) (cb_alloc (cb_alloc (cb_alloc (cb_alloc n0 _) _) _) _) rfl, cb_cell (i := 0) (cb_alloc (cb_alloc n2 _) _) rfl, cb_alloc n3 _⟩)
 have HE1 := aM (HE.out.below hbw)
 have hob := pw_cell_below hbw HO.out
 have CW := aM (withPattern1 _ tb w1 HC.out.c)
 have hpb := HC.out.p
 clear hw1 hbw HE HO HG
 go_loopw [18, 11] (fun v18 v11 wr => wr = w1 ∧ (v18 = .int .i64 0 ∨ v18 = .int .i64 1)) (fun v18 _ _ => 1 - (intOf v18).toNat)
 case atStart => exact ⟨rfl, .inl rfl⟩
 case round =>
  obtain ⟨rfl, h18⟩ := hrel
  rcases h18 with rfl | rfl
  ·go_wp2_with fail
   refine CW.out.mono ?_
   rintro e w2 ⟨rfl, rfl⟩
   go_wp2
   go_roundw
   case rel => exact ⟨trivial, .inr rfl⟩
   case measure => simp [intOf]
  ·clear CW
   have HRA := aM (HX.out.replaceAll hs wr.drew (w.heap.size + 1 + 1 + 1 + 1) (w.heap.size + 1) w.heap.size (w.heap.size + 1 + 1) cb (w.heap.size + 1 + 1 + 1) s (HE1.out.below (below_drew (Below.refl _ _))) (HC.out.below (below_drew (Below.refl _ _))) (((below_drew (Below.refl _ wr)).block _ (cb_lt HRB.out)).trans HRB.out) (pw_cell_below (below_drew (Below.refl _ wr)) HG1.out))
   have e1 := HC.out.t
   have e2 := part_cfg (w := wr.drew) HC.out.c
   clear hob
   go_wp2_with fail
   refine start_ (n := 8) (S := fun w' => w'.cell? ⟨w.heap.size + 1 + 1 + 1 + 1, 0, none⟩ = some (.pointer (some ⟨w.heap.size + 1 + 1 + 1, 0, none⟩)) ∧ w'.cell? ⟨w.heap.size, 0, none⟩ = some (.string s) ∧ (partAt ⟨w.heap.size + 1 + 1 + 1, 0, none⟩ 0 0).run Tryz.prog w' = .ok ⟨w.heap.size + 1 + 1 + 1, 0, none⟩ w') (ds := [6]) #[false, false, false, false, false, false, false, false] (by kernel_rfl) rfl rfl ⟨hpb, e1, e2⟩ (fun hHeld => ?_)
   refine pure_ (i := 5) (N := some 31) (v := ?_) (a' := ?_) #[false, false, false, false, false, true, false, false] rfl rfl (by kernel_rfl) (fun _ _ _ h => h) (Or.inl ⟨by rfl, ?_⟩) ?_ ?_
   rotate_left
   ·intro w'; go_simp; with_reducible rfl
   rotate_left
   ·simp only [Act.put, sA, sB, sC, i64_w, i32_w]; rfl
   refine take_ (i := 0) (N := some 26) (v := ?_) (a' := ?_) #[true, false, false, false, false, true, false, false] rfl rfl (by kernel_rfl) (fun _ _ _ h => h) (Or.inl ⟨by rfl, ?_⟩) hHeld ?_ ?_
   rotate_left
   ·rintro w' ⟨s0, s1, s2⟩
    go_simp; with_reducible rfl
   rotate_left
   ·simp only [Act.put, sA, sB, sC, i64_w, i32_w]; rfl
   refine pure_ (i := 1) (N := some 27) (v := ?_) (a' := ?_) #[true, true, false, false, false, true, false, false] rfl rfl (by kernel_rfl) (fun _ _ _ h => h) (Or.inl ⟨by rfl, ?_⟩) ?_ ?_
   rotate_left
   ·intro w'; go_simp; with_reducible rfl
   rotate_left
   ·simp only [Act.put, sA, sB, sC, i64_w, i32_w]; rfl
   refine take_ (i := 2) (N := some 28) (v := ?_) (a' := ?_) #[true, true, true, false, false, true, false, false] rfl rfl (by kernel_rfl) (fun _ _ _ h => h) (Or.inl ⟨by rfl, ?_⟩) hHeld ?_ ?_
   rotate_left
   ·rintro w' ⟨s0, s1, s2⟩
    go_simp; with_reducible rfl
   rotate_left
   ·simp only [Act.put, sA, sB, sC, i64_w, i32_w]; rfl
   refine take_ (i := 3) (N := some 29) (v := ?_) (a' := ?_) #[true, true, true, true, false, true, false, false] rfl rfl (by kernel_rfl) (fun _ _ _ h => h) (Or.inl ⟨by rfl, ?_⟩) hHeld ?_ ?_
   rotate_left
   ·rintro w' ⟨s0, s1, s2⟩
    go_simp; with_reducible rfl
   rotate_left
   ·simp only [Act.put, sA, sB, sC, i64_w, i32_w]; rfl
   refine take_ (i := 4) (N := some 30) (v := ?_) (a' := ?_) #[true, true, true, true, true, true, false, false] rfl rfl (by kernel_rfl) (fun _ _ _ h => h) (Or.inl ⟨by rfl, ?_⟩) hHeld ?_ ?_
   rotate_left
   ·rintro w' ⟨s0, s1, s2⟩
    go_simp; with_reducible rfl
   rotate_left
   ·simp only [Act.put, sA, sB, sC, i64_w, i32_w]; rfl
   refine last_ (i := 6) (N := some 32) #[true, true, true, true, true, true, true, false] rfl rfl (by kernel_rfl) (by decide) (fun K hK => ?_)
   refine goes_ Tryz.func67 (by kernel_rfl) rfl #[.agg #[], .string s, .func (.func 68) #[] #[.pointer (some ⟨w.heap.size + 1 + 1 + 1 + 1, 0, none⟩), .pointer (some ⟨w.heap.size + 1, 0, none⟩), .pointer (some ⟨w.heap.size, 0, none⟩), .pointer (some ⟨w.heap.size + 1 + 1, 0, none⟩)]] (by rfl) rfl rfl (by simp only [List.map_toArray, List.map_cons, List.map_nil]; rfl) ?_
   with_reducible refine (HRA.out).mono ?_
   rintro e w4 ⟨rfl, ht, blk, e5⟩
   refine ⟨_, rfl, ?_⟩
   refine hK.out _ _ ?_
   clear hK K
   refine norm_ (a' := ?_) ?_ ?_
   rotate_left
   ·show Act.put _ (some 32) _ = _
    simp only [Act.put, sA, sB, sC, i64_w, i32_w]; rfl
   refine pure_ (i := 7) (N := some 12) (v := ?_) (a' := ?_) #[true, true, true, true, true, true, true, true] rfl rfl (by kernel_rfl) (fun _ _ _ h => h) (Or.inl ⟨by rfl, ?_⟩) ?_ ?_
   rotate_left
   ·intro w'; go_simp; with_reducible rfl
   rotate_left
   ·simp only [Act.put, sA, sB, sC, i64_w, i32_w]; rfl
   refine done_ (by kernel_rfl) ?_
   have HB4 := aM (ht.below (hb_then HB.out (below_drew (Below.refl _ wr))) (fun k hk h => by omega))
   clear ht HRA hpb e1 e2
   go_wp2
   go_quiet (fail)
   go_wp2
   go_ret2
   exact ⟨⟨_, rfl⟩, pw_below_drewN HB4.out _⟩
set_option maxHeartbeats 1600000 in
set_option maxRecDepth 100000 in
theorem SubstituteWith_fail {g : List (Bs × BA)} (s : BA) (hs : s.size < 140737488355328) (hX : FailsAll s g) (w : World) (cb : Nat) (hE : EnvAt w cb g) (hg : ErrAt w) :
  Calls Tryz.prog 40 #[.string s, envF cb, .agg #[], .slice none 0 0] w fun e w' => (∃ blk, e = .returned (.tuple #[.string ⟨#[]⟩, missV blk])) ∧ Below w.heap.size w w' := by
 have CP := aM (withPattern (w.alloc (.cells #[] 71)))
 have CS := aM (fun W tb ob (h1 : EnvAt W cb g) (h3 : ErrAt W) (h2 : W.cell? ⟨ob, 0, none⟩ = some (.func (.func 64) #[] #[.pointer (some ⟨tb, 0, none⟩)])) => SubstWith_fail s hs hX W cb tb h1 h3 ob h2)
 have HE := aM hE
 have HG := aM hg
 clear hX hE hg
 go_enter Tryz.func40, Tryz.ntmps40
 go_wp2_with fail
 refine CP.out.mono ?_
 rintro e w1 ⟨rfl, rfl⟩
 obtain ⟨w2, hw2⟩ : ∃ w2, ((w.alloc (.cells #[] 71)).alloc (.cells #[] 71)) = w2 := ⟨_, rfl⟩
 have hbw : Below w.heap.size w w2 := by rw [← hw2]; exact below_alloc (below_alloc (Below.refl w.heap.size w) _) _
 have HB := aM (below_alloc hbw (.cells #[.func (.func 64) #[] #[.pointer (some ⟨w.heap.size + 1, 0, none⟩)]] 84))
 have CS1 := aM (CS.out (w2.alloc (.cells #[.func (.func 64) #[] #[.pointer (some ⟨w.heap.size + 1, 0, none⟩)]] 84)) (w.heap.size + 1) w2.heap.size (HE.out.below HB.out) (pw_cell_below HB.out HG.out) (cb_cell (i := 0) (cb_new w2 _) rfl))
 clear CS CP HE hbw
 rw [hw2]
 have HS2 := aM (show w2.heap.size = w.heap.size + 1 + 1 by rw [← hw2]; simp [World.size_alloc])
 clear hw2
 go_wp2_with fail
 refine CS1.out.mono ?_
 rintro e w3 ⟨⟨blk, rfl⟩, hb⟩
 have HB3 := aM (hb_then HB.out hb)
 clear hb CS1
 go_wp2
 go_ret2
 exact ⟨⟨_, rfl⟩, HB3.out⟩
theorem Substitute_fail {g : List (Bs × BA)} (s : BA) (hs : s.size < 140737488355328) (hX : FailsAll s g) (w : World) (cb : Nat) (hE : EnvAt w cb g) (hg : ErrAt w) :
  Calls Tryz.prog 27 #[.string s, envF cb] w fun e w' => (∃ blk, e = .returned (.tuple #[.string ⟨#[]⟩, missV blk])) ∧ Below w.heap.size w w' := by
 have CS := aM (SubstituteWith_fail s hs hX w cb hE hg)
 clear hX hE hg
 go_enter Tryz.func27, Tryz.ntmps27
 go_wp2_with fail
 refine CS.out.mono ?_
 rintro e w3 ⟨⟨blk, rfl⟩, hb⟩
 have HB3 := aM hb
 clear hb CS
 go_wp2
 go_ret2
 exact ⟨⟨_, rfl⟩, HB3.out⟩
set_option maxHeartbeats 1600000 in
set_option maxRecDepth 100000 in
theorem implSubst_fail {g : List (Bs × BA)} (s : BA) (hs : s.size < 140737488355328) (hX : FailsAll s g) {N : Nat} (hok : Ok N g) (hN : N ≤ 17179869184) (A : Option Addr) (c : Nat) (w : World) (h : kp.C w A (toP g).length (toP g)) (hg : ErrAt w) :
  Calls Tryz.prog 15 #[.string s, .slice A (toP g).length c] w fun e w' => e = .returned (.tuple #[.string ⟨#[]⟩, .int .i64 2]) ∧ Below w.heap.size w w' := by
 have CL := aM (Go.Proofs.YtkhkmhbledigpaaGreatDoor.Maps.look (c := c) hok hN w h)
 have CS := aM (fun W cb (hE : EnvAt W cb g) (h2 : ErrAt W) => Substitute_fail s hs hX W cb hE h2)
 have HG := aM hg
 clear hX hok h hg
 go_enter Tryz.func15, Tryz.ntmps15
 go_wp2_with fail
 refine CL.out.mono ?_
 rintro e w1 ⟨cb, mb, rfl, h1, h2, _, hb⟩
 have HB1 := aM hb
 have CS1 := aM (CS.out w1 cb ⟨mb, h1, h2⟩ (pw_cell_below hb HG.out))
 clear hb CL CS h1 h2
 go_wp2_with fail
 refine CS1.out.mono ?_
 rintro e w2 ⟨⟨blk, rfl⟩, hb⟩
 have HB2 := aM (hb_then HB1.out hb)
 have CC := aM (class_missing blk w2 (pw_cell_below HB2.out HG.out))
 clear hb CS1
 go_wp2_with fail
 refine CC.out.mono ?_
 rintro e w3 ⟨rfl, hb⟩
 have HB3 := aM (hb_then HB2.out hb)
 clear hb CC
 go_wp2
 go_ret2
 exact ⟨rfl, HB3.out⟩
end Go.Proofs.YtkhkmhbledigpaaGreatDoor.Tr
namespace Go.Proofs.YtkhkmhbledigpaaGreatDoor.Tr
open Go.RowKit Go.Proofs.YtkhkmhbledigpaaGreatDoorW.PrintWords Go.Proofs.YtkhkmhbledigpaaGreatDoorW.PrintLast Go.Proofs.YtkhkmhbledigpaaGreatDoor.Str Go.Proofs.YtkhkmhbledigpaaGreatDoor.Kit Go.Proofs.YtkhkmhbledigpaaGreatDoor.MapV Go.Proofs.YtkhkmhbledigpaaGreatDoor.Frame Go.Proofs.YtkhkmhbledigpaaGreatDoor.PS
open Go.Proofs.YtkhkmhbledigpaaGreatDoor.Maps (MapS key_u map_u lookFn lookT kp toP Ok encP ofP)
set_option linter.unusedVariables false
set_option linter.unusedSimpArgs false
def opRef (n : Bs) (k : Fin 6) (wd : Bs) : BA := mk ([36, 123] ++ body n k wd ++ [125])
def implTold (R : Option BA) (e : Ending) : Prop := match R with
 | some r => e = .returned (.tuple #[.string r, .int .i64 0])
 | none => e = .returned (.tuple #[.string ⟨#[]⟩, .int .i64 2])
theorem opRef_size (n : Bs) (k : Fin 6) (wd : Bs) : (opRef n k wd).size = (body n k wd).length + 3 := by unfold opRef; rw [mk_size]; simp
theorem at_opRef (n wd : Bs) (hn : IsName n) (hw : IsWord wd) (k : Fin 6) (hbl : (body n k wd).length ≤ 70368744177664) : Ends (fun r => r = (opRef n k wd :: [E0, E0, mk (body n k wd), mk wd, E0], ((opRef n k wd).size : Int), true)) (fun j => template_zzAt.f j (opRef n k wd) 0) := by
 have h := ends_at_op (opRef n k wd) (by rw [opRef_size]; omega) [] n wd k hn hw (by unfold opRef; rw [lb_mk']; rfl)
 rw [opRef_size]
 simp only [List.length_nil, Nat.zero_add] at h
 exact h
theorem implOp (n wd : Bs) (hn : IsName n) (hl : n.length ≤ 4294967296) (hw : IsWord wd) (k : Fin 6) (hbl : (body n k wd).length ≤ 70368744177664) (g : List (Bs × BA)) (R : Option BA) (hR : R = opRes k (mget g n) (mk wd)) (hRs : ∀ r, R = some r → r.size ≤ 140737488355328) {N : Nat} (hok : Ok N g) (hN : N ≤ 17179869184) (A : Option Addr) (c : Nat) (w : World) (h : kp.C w A (toP g).length (toP g)) (hg : ErrAt w) :
  Calls Tryz.prog 15 #[.string (opRef n k wd), .slice A (toP g).length c] w fun e w' => implTold R e ∧ Below w.heap.size w w' := by
 have hsz := opRef_size n k wd
 have hrep : ∀ (b cb : Nat) (W : World), EnvAt W cb g → CfgAt W b → Calls Tryz.prog 66 #[.string (opRef n k wd), envF cb, .pointer (some ⟨b, 0, none⟩)] W fun e w' => RepTold R e ∧ Below W.heap.size W w' := fun b cb W h1 h2 => repl_op n wd hn hl hw k hbl g R hR (fun r hr => by have := hRs r hr; omega) W cb b h1 h2
 have hat := at_opRef n wd hn hw k hbl
 clear hR
 generalize opRef n k wd = m at hsz hrep hat ⊢
 rcases R with _ | r
 ·have hX : FailsAll m g := ⟨by omega, ⟨_, hat⟩, fun b cb W h1 h2 => hrep b cb W h1 h2⟩
  exact implSubst_fail m (by omega) hX hok hN A c w h hg
 ·have hP : Repl (fun a b => a = m ∧ b = r) g := by
   rintro a b ⟨rfl, rfl⟩ W cb b' h1 h2
   exact hrep b' cb W h1 h2
  have hrs := hRs r rfl
  have hrw : Rw (fun a b => a = m ∧ b = r) m 0 (lb r) := by
   have := Rw.hit (P := fun a b => a = m ∧ b = r) (s := m) 0 m.size m r _ [] (by omega) (by omega) (Nat.le_refl _) hat ⟨rfl, rfl⟩ (.done m.size (Nat.le_refl _))
   simpa using this
  have := implSubst hP m (lb r) (by omega) (by rw [lb_length]; exact hrs) hrw hok hN A c w h
  have e : (⟨(lb r).toArray⟩ : BA) = r := by
   refine lb_inj ?_
   exact lb_mk' _
  rw [e] at this
  exact this
end Go.Proofs.YtkhkmhbledigpaaGreatDoor.Tr
namespace Go.Proofs.YtkhkmhbledigpaaGreatDoor.Tr
open Go.RowKit Go.Proofs.YtkhkmhbledigpaaGreatDoorW.PrintWords Go.Proofs.YtkhkmhbledigpaaGreatDoorW.PrintLast Go.Proofs.YtkhkmhbledigpaaGreatDoor.Str Go.Proofs.YtkhkmhbledigpaaGreatDoor.Kit Go.Proofs.YtkhkmhbledigpaaGreatDoor.MapV Go.Proofs.YtkhkmhbledigpaaGreatDoor.Frame Go.Proofs.YtkhkmhbledigpaaGreatDoor.PS
open Go.Proofs.YtkhkmhbledigpaaGreatDoor.Maps (MapS key_u map_u lookFn lookT kp toP Ok encP ofP fitsP)
set_option linter.unusedVariables false
set_option linter.unusedSimpArgs false
def wordT (n wd sg : BA) : BA := ⟨#[36, 123]⟩ ++ n ++ sg ++ wd ++ ⟨#[125]⟩
theorem wordT_is (n wd : BA) (k : Fin 6) : wordT n wd (opAt k).1 = opRef (lb n) k (lb wd) := by
 refine lb_inj ?_
 unfold wordT opRef body sgn
 rw [lb_mk']
 simp [lb_append, lb]
structure Words (n wd v : BA) (k : Fin 6) : Prop where
 hn : IsName (lb n)
 ns : n.size ≤ 2147483648
 hw : IsWord (lb wd)
 ws : wd.size ≤ 2147483647
 vs : v.size ≤ 2147483647
theorem Words.body {n wd v : BA} {k : Fin 6} (h : Words n wd v k) : (body (lb n) k (lb wd)).length ≤ 70368744177664 := by
 have := body_len (lb n) k (lb wd)
 have := sgn_len k
 have := h.ns
 have := h.ws
 simp only [lb_length] at *
 omega
theorem Words.one {n wd v : BA} {k : Fin 6} (h : Words n wd v k) (x : BA) (hx : x.size ≤ 2147483647) (R : Option BA) (hR : R = opRes k (some x) wd) (w : World) (A : Option Addr) (c : Nat) (hA : kp.C w A 1 [(n, x)]) (hg : ErrAt w) :
  Calls Tryz.prog 15 #[.string (wordT n wd (opAt k).1), .slice A 1 c] w fun e w' => implTold R e ∧ Below w.heap.size w w' := by
 rw [wordT_is]
 have hv : ∀ r, R = some r → r.size ≤ 140737488355328 := by
  intro r hr
  have hws := h.ws
  rw [hR] at hr
  have e0 : r = x ∨ r = wd := by
   unfold opRes val0 at hr
   split at hr <;> (first | (split at hr <;> simp at hr) | skip) <;> first | exact .inl (by simpa using hr.symm) | exact .inr (by simpa using hr.symm) | (simp at hr; split at hr <;> first | exact .inl hr.symm | exact .inr hr.symm)
  rcases e0 with rfl | rfl <;> omega
 have hmk : Tr.mk (lb wd) = wd := lb_inj (lb_mk' _)
 exact implOp (lb n) (lb wd) h.hn (by rw [lb_length]; have := h.ns; omega) h.hw k h.body [(lb n, x)] R (by rw [hR, hmk]; congr 1; simp [mget]) hv (N := 1)
  ⟨by unfold MapV.Rises; simp, by intro p hp; simp at hp; rw [hp]; show (lb n).length ≤ _; rw [lb_length]; have := h.ns; omega, by simp⟩ (by decide) A c w (by
   have e : toP [(lb n, x)] = [(n, x)] := by simp [toP, lb]
   rw [e]; exact hA) hg
theorem Words.none {n wd v : BA} {k : Fin 6} (h : Words n wd v k) (R : Option BA) (hR : R = opRes k Option.none wd) (w : World) (A : Option Addr) (c : Nat) (hg : ErrAt w) :
  Calls Tryz.prog 15 #[.string (wordT n wd (opAt k).1), .slice A 0 c] w fun e w' => implTold R e ∧ Below w.heap.size w w' := by
 rw [wordT_is]
 have hv : ∀ r, R = some r → r.size ≤ 140737488355328 := by
  intro r hr
  have hws := h.ws
  rw [hR] at hr
  have e0 : r = ⟨#[]⟩ ∨ r = wd := by
   unfold opRes val0 at hr
   split at hr <;> simp [away] at hr <;> first | exact .inl hr.symm | exact .inr hr.symm
  rcases e0 with rfl | rfl
  ·decide
  ·omega
 have hmk : Tr.mk (lb wd) = wd := lb_inj (lb_mk' _)
 exact implOp (lb n) (lb wd) h.hn (by rw [lb_length]; have := h.ns; omega) h.hw k h.body [] R (by rw [hR, hmk]; rfl) hv Go.Proofs.YtkhkmhbledigpaaGreatDoor.Maps.Ok.nil (by decide) A c w (Go.Proofs.YtkhkmhbledigpaaGreatDoor.Maps.kp_none w A) hg
end Go.Proofs.YtkhkmhbledigpaaGreatDoor.Tr
namespace Go.Proofs.YtkhkmhbledigpaaGreatDoor.Tr
open Go.RowKit Go.Proofs.YtkhkmhbledigpaaGreatDoorW.PrintWords Go.Proofs.YtkhkmhbledigpaaGreatDoorW.PrintLast Go.Proofs.YtkhkmhbledigpaaGreatDoor.Str Go.Proofs.YtkhkmhbledigpaaGreatDoor.Kit Go.Proofs.YtkhkmhbledigpaaGreatDoor.MapV Go.Proofs.YtkhkmhbledigpaaGreatDoor.Frame Go.Proofs.YtkhkmhbledigpaaGreatDoor.PS
open Go.Proofs.YtkhkmhbledigpaaGreatDoor.Maps (MapS key_u map_u lookFn lookT kp toP Ok encP ofP fitsP)
set_option linter.unusedVariables false
set_option linter.unusedSimpArgs false
def Told3 (R : Option (BA × Bool)) (e : Ending) : Prop := match R with
 | some (r, u) => e = .returned (.tuple #[.string r, .bool u, .nilIface])
 | none => ∃ blk, e = .returned (.tuple #[.string ⟨#[]⟩, .bool true, missV blk])
def Sign3 (R : Option (BA × Bool)) (e : Ending) : Prop := match R with
 | some (r, u) => e = .returned (.tuple #[.string r, .bool u, .int .i64 0])
 | none => e = .returned (.tuple #[.string ⟨#[]⟩, .bool false, .int .i64 2])
theorem case3 (R : Option (BA × Bool)) : Aside0 (R = none) ∨ ∃ r u, Aside0 (R = some (r, u)) := by
 rcases R with _ | ⟨r, u⟩
 ·exact .inl ⟨rfl⟩
 ·exact .inr ⟨r, u, ⟨rfl⟩⟩
def OpTells (f : Nat) (t : BA) (g : List (Bs × BA)) (R : Option (BA × Bool)) : Prop := ∀ W cb, EnvAt W cb g → Calls Tryz.prog f #[.string t, envF cb] W fun e w' => Told3 R e ∧ Below W.heap.size W w'
theorem tells_hit {n wd v : BA} {k : Fin 6} (h : Words n wd v k) (g : List (Bs × BA)) (R : Option BA) (hR : R = opRes k (mget g (lb n)) wd) : OpTells (opAt k).2 (mk (body (lb n) k (lb wd))) g (R.map (·, true)) := by
 intro W cb hE
 have hF := form_of (lb n) (lb wd) h.hn h.hw k (by have := h.body; omega) (by rw [lb_length]; have := h.ns; omega) g
 have hmk : Tr.mk (lb wd) = wd := lb_inj (lb_mk' _)
 have hmn : Tr.mk (lb n) = n := lb_inj (lb_mk' _)
 rw [hmk, hmn] at hF
 refine (op_hit _ n wd k g hF R hR W cb hE).mono ?_
 rintro e w' ⟨ht, hb⟩
 refine ⟨?_, hb⟩
 rcases R with _ | r
 ·exact ht
 ·exact ht
theorem tells_no {n : BA} (hn : IsName (lb n)) (hns : n.size ≤ 2147483648) (k : Fin 6) (g : List (Bs × BA)) : OpTells (opAt k).2 n g (some (⟨#[]⟩, false)) := by
 intro W cb hE
 have hmn : Tr.mk (lb n) = n := lb_inj (lb_mk' _)
 have hno := name_no_sign (lb n) hn k
 rw [hmn] at hno
 refine (op_no n (by omega) k hno (envF cb) W).mono ?_
 rintro e w' ⟨rfl, hd⟩
 exact ⟨rfl, Drawn0.below hd⟩
set_option maxHeartbeats 1600000 in
theorem operator_some (r : BA) (u : Bool) (w : World) : Calls Tryz.prog 44 #[.string r, .bool u, .nilIface] w fun e w' => e = .returned (.tuple #[.string r, .bool u, .int .i64 0]) ∧ Below w.heap.size w w' := by
 go_enter Tryz.func44, Tryz.ntmps44
 go_wp2
 go_ret3
 exact ⟨rfl, Below.refl _ _⟩
set_option maxHeartbeats 1600000 in
theorem operator_none (blk : Nat) (u : Bool) (w : World) (hg : ErrAt w) : Calls Tryz.prog 44 #[.string ⟨#[]⟩, .bool u, missV blk] w fun e w' => e = .returned (.tuple #[.string ⟨#[]⟩, .bool false, .int .i64 2]) ∧ Below w.heap.size w w' := by
 have CC := aM (class_missing blk w hg)
 clear hg
 go_enter Tryz.func44, Tryz.ntmps44
 go_wp2_with fail
 refine CC.out.mono ?_
 rintro e w1 ⟨rfl, hb⟩
 have HB := aM hb
 clear hb CC
 go_wp2
 go_ret3
 exact ⟨rfl, HB.out⟩
set_option maxHeartbeats 1600000 in
theorem doorDefault {t : BA} {g : List (Bs × BA)} {R : Option (BA × Bool)} (hT : OpTells 58 t g R) : OpTells 45 t g R := by
 intro W cb hE
 have CC := aM (hT W cb hE)
 have hcase := case3 R
 clear hT hE
 go_enter Tryz.func45, Tryz.ntmps45
 go_wp2_with fail
 refine CC.out.mono ?_
 rintro e w1 ⟨ht, hb⟩
 have HB := aM hb
 clear hb CC
 rcases hcase with hc | ⟨r, u, hc⟩
 ·rw [hc.out] at ht
  obtain ⟨blk, rfl⟩ := ht
  go_wp2
  go_ret3
  exact ⟨by rw [hc.out]; exact ⟨_, rfl⟩, HB.out⟩
 ·rw [hc.out] at ht
  obtain rfl := (show e = _ from ht)
  go_wp2
  go_ret3
  exact ⟨by rw [hc.out]; rfl, HB.out⟩
set_option maxHeartbeats 1600000 in
theorem implDefault {t : BA} {g : List (Bs × BA)} {R : Option (BA × Bool)} (hT : OpTells 58 t g R) {N : Nat} (hok : Ok N g) (hN : N ≤ 17179869184) (A : Option Addr) (c : Nat) (w : World) (h : kp.C w A (toP g).length (toP g)) (hg : ErrAt w) :
  Calls Tryz.prog 30 #[.string t, .slice A (toP g).length c] w fun e w' => Sign3 R e ∧ Below w.heap.size w w' := by
 have CL := aM (Go.Proofs.YtkhkmhbledigpaaGreatDoor.Maps.look (c := c) hok hN w h)
 have CD := aM (doorDefault hT)
 have HG := aM hg
 have hcase := case3 R
 clear hT hok h hg
 go_enter Tryz.func30, Tryz.ntmps30
 go_wp2_with fail
 refine CL.out.mono ?_
 rintro e w1 ⟨cb, mb, rfl, h1, h2, _, hb⟩
 have HB1 := aM hb
 have CD1 := aM (CD.out w1 cb ⟨mb, h1, h2⟩)
 clear hb CL CD h1 h2
 go_wp2_with fail
 refine CD1.out.mono ?_
 rintro e w2 ⟨ht, hb⟩
 have HB2 := aM (hb_then HB1.out hb)
 clear hb CD1
 rcases hcase with hc | ⟨r, u, hc⟩
 ·rw [hc.out] at ht
  obtain ⟨blk, rfl⟩ := ht
  have CO := aM (operator_none blk true w2 (pw_cell_below HB2.out HG.out))
  go_wp2_with fail
  refine CO.out.mono ?_
  rintro e w3 ⟨rfl, hb⟩
  have HB3 := aM (hb_then HB2.out hb)
  clear hb CO
  go_wp2
  go_ret3
  exact ⟨by rw [hc.out]; rfl, HB3.out⟩
 ·rw [hc.out] at ht
  obtain rfl := (show e = _ from ht)
  have CO := aM (operator_some r u w2)
  go_wp2_with fail
  refine CO.out.mono ?_
  rintro e w3 ⟨rfl, hb⟩
  have HB3 := aM (hb_then HB2.out hb)
  clear hb CO
  go_wp2
  go_ret3
  exact ⟨by rw [hc.out]; rfl, HB3.out⟩
set_option maxHeartbeats 1600000 in
theorem doorDefaultFilled {t : BA} {g : List (Bs × BA)} {R : Option (BA × Bool)} (hT : OpTells 59 t g R) : OpTells 46 t g R := by
 intro W cb hE
 have CC := aM (hT W cb hE)
 have hcase := case3 R
 clear hT hE
 go_enter Tryz.func46, Tryz.ntmps46
 go_wp2_with fail
 refine CC.out.mono ?_
 rintro e w1 ⟨ht, hb⟩
 have HB := aM hb
 clear hb CC
 rcases hcase with hc | ⟨r, u, hc⟩
 ·rw [hc.out] at ht
  obtain ⟨blk, rfl⟩ := ht
  go_wp2
  go_ret3
  exact ⟨by rw [hc.out]; exact ⟨_, rfl⟩, HB.out⟩
 ·rw [hc.out] at ht
  obtain rfl := (show e = _ from ht)
  go_wp2
  go_ret3
  exact ⟨by rw [hc.out]; rfl, HB.out⟩
set_option maxHeartbeats 1600000 in
theorem implDefaultFilled {t : BA} {g : List (Bs × BA)} {R : Option (BA × Bool)} (hT : OpTells 59 t g R) {N : Nat} (hok : Ok N g) (hN : N ≤ 17179869184) (A : Option Addr) (c : Nat) (w : World) (h : kp.C w A (toP g).length (toP g)) (hg : ErrAt w) :
  Calls Tryz.prog 31 #[.string t, .slice A (toP g).length c] w fun e w' => Sign3 R e ∧ Below w.heap.size w w' := by
 have CL := aM (Go.Proofs.YtkhkmhbledigpaaGreatDoor.Maps.look (c := c) hok hN w h)
 have CD := aM (doorDefaultFilled hT)
 have HG := aM hg
 have hcase := case3 R
 clear hT hok h hg
 go_enter Tryz.func31, Tryz.ntmps31
 go_wp2_with fail
 refine CL.out.mono ?_
 rintro e w1 ⟨cb, mb, rfl, h1, h2, _, hb⟩
 have HB1 := aM hb
 have CD1 := aM (CD.out w1 cb ⟨mb, h1, h2⟩)
 clear hb CL CD h1 h2
 go_wp2_with fail
 refine CD1.out.mono ?_
 rintro e w2 ⟨ht, hb⟩
 have HB2 := aM (hb_then HB1.out hb)
 clear hb CD1
 rcases hcase with hc | ⟨r, u, hc⟩
 ·rw [hc.out] at ht
  obtain ⟨blk, rfl⟩ := ht
  have CO := aM (operator_none blk true w2 (pw_cell_below HB2.out HG.out))
  go_wp2_with fail
  refine CO.out.mono ?_
  rintro e w3 ⟨rfl, hb⟩
  have HB3 := aM (hb_then HB2.out hb)
  clear hb CO
  go_wp2
  go_ret3
  exact ⟨by rw [hc.out]; rfl, HB3.out⟩
 ·rw [hc.out] at ht
  obtain rfl := (show e = _ from ht)
  have CO := aM (operator_some r u w2)
  go_wp2_with fail
  refine CO.out.mono ?_
  rintro e w3 ⟨rfl, hb⟩
  have HB3 := aM (hb_then HB2.out hb)
  clear hb CO
  go_wp2
  go_ret3
  exact ⟨by rw [hc.out]; rfl, HB3.out⟩
set_option maxHeartbeats 1600000 in
theorem doorPresent {t : BA} {g : List (Bs × BA)} {R : Option (BA × Bool)} (hT : OpTells 60 t g R) : OpTells 47 t g R := by
 intro W cb hE
 have CC := aM (hT W cb hE)
 have hcase := case3 R
 clear hT hE
 go_enter Tryz.func47, Tryz.ntmps47
 go_wp2_with fail
 refine CC.out.mono ?_
 rintro e w1 ⟨ht, hb⟩
 have HB := aM hb
 clear hb CC
 rcases hcase with hc | ⟨r, u, hc⟩
 ·rw [hc.out] at ht
  obtain ⟨blk, rfl⟩ := ht
  go_wp2
  go_ret3
  exact ⟨by rw [hc.out]; exact ⟨_, rfl⟩, HB.out⟩
 ·rw [hc.out] at ht
  obtain rfl := (show e = _ from ht)
  go_wp2
  go_ret3
  exact ⟨by rw [hc.out]; rfl, HB.out⟩
set_option maxHeartbeats 1600000 in
theorem implPresent {t : BA} {g : List (Bs × BA)} {R : Option (BA × Bool)} (hT : OpTells 60 t g R) {N : Nat} (hok : Ok N g) (hN : N ≤ 17179869184) (A : Option Addr) (c : Nat) (w : World) (h : kp.C w A (toP g).length (toP g)) (hg : ErrAt w) :
  Calls Tryz.prog 32 #[.string t, .slice A (toP g).length c] w fun e w' => Sign3 R e ∧ Below w.heap.size w w' := by
 have CL := aM (Go.Proofs.YtkhkmhbledigpaaGreatDoor.Maps.look (c := c) hok hN w h)
 have CD := aM (doorPresent hT)
 have HG := aM hg
 have hcase := case3 R
 clear hT hok h hg
 go_enter Tryz.func32, Tryz.ntmps32
 go_wp2_with fail
 refine CL.out.mono ?_
 rintro e w1 ⟨cb, mb, rfl, h1, h2, _, hb⟩
 have HB1 := aM hb
 have CD1 := aM (CD.out w1 cb ⟨mb, h1, h2⟩)
 clear hb CL CD h1 h2
 go_wp2_with fail
 refine CD1.out.mono ?_
 rintro e w2 ⟨ht, hb⟩
 have HB2 := aM (hb_then HB1.out hb)
 clear hb CD1
 rcases hcase with hc | ⟨r, u, hc⟩
 ·rw [hc.out] at ht
  obtain ⟨blk, rfl⟩ := ht
  have CO := aM (operator_none blk true w2 (pw_cell_below HB2.out HG.out))
  go_wp2_with fail
  refine CO.out.mono ?_
  rintro e w3 ⟨rfl, hb⟩
  have HB3 := aM (hb_then HB2.out hb)
  clear hb CO
  go_wp2
  go_ret3
  exact ⟨by rw [hc.out]; rfl, HB3.out⟩
 ·rw [hc.out] at ht
  obtain rfl := (show e = _ from ht)
  have CO := aM (operator_some r u w2)
  go_wp2_with fail
  refine CO.out.mono ?_
  rintro e w3 ⟨rfl, hb⟩
  have HB3 := aM (hb_then HB2.out hb)
  clear hb CO
  go_wp2
  go_ret3
  exact ⟨by rw [hc.out]; rfl, HB3.out⟩
set_option maxHeartbeats 1600000 in
theorem doorPresentFilled {t : BA} {g : List (Bs × BA)} {R : Option (BA × Bool)} (hT : OpTells 61 t g R) : OpTells 48 t g R := by
 intro W cb hE
 have CC := aM (hT W cb hE)
 have hcase := case3 R
 clear hT hE
 go_enter Tryz.func48, Tryz.ntmps48
 go_wp2_with fail
 refine CC.out.mono ?_
 rintro e w1 ⟨ht, hb⟩
 have HB := aM hb
 clear hb CC
 rcases hcase with hc | ⟨r, u, hc⟩
 ·rw [hc.out] at ht
  obtain ⟨blk, rfl⟩ := ht
  go_wp2
  go_ret3
  exact ⟨by rw [hc.out]; exact ⟨_, rfl⟩, HB.out⟩
 ·rw [hc.out] at ht
  obtain rfl := (show e = _ from ht)
  go_wp2
  go_ret3
  exact ⟨by rw [hc.out]; rfl, HB.out⟩
set_option maxHeartbeats 1600000 in
theorem implPresentFilled {t : BA} {g : List (Bs × BA)} {R : Option (BA × Bool)} (hT : OpTells 61 t g R) {N : Nat} (hok : Ok N g) (hN : N ≤ 17179869184) (A : Option Addr) (c : Nat) (w : World) (h : kp.C w A (toP g).length (toP g)) (hg : ErrAt w) :
  Calls Tryz.prog 33 #[.string t, .slice A (toP g).length c] w fun e w' => Sign3 R e ∧ Below w.heap.size w w' := by
 have CL := aM (Go.Proofs.YtkhkmhbledigpaaGreatDoor.Maps.look (c := c) hok hN w h)
 have CD := aM (doorPresentFilled hT)
 have HG := aM hg
 have hcase := case3 R
 clear hT hok h hg
 go_enter Tryz.func33, Tryz.ntmps33
 go_wp2_with fail
 refine CL.out.mono ?_
 rintro e w1 ⟨cb, mb, rfl, h1, h2, _, hb⟩
 have HB1 := aM hb
 have CD1 := aM (CD.out w1 cb ⟨mb, h1, h2⟩)
 clear hb CL CD h1 h2
 go_wp2_with fail
 refine CD1.out.mono ?_
 rintro e w2 ⟨ht, hb⟩
 have HB2 := aM (hb_then HB1.out hb)
 clear hb CD1
 rcases hcase with hc | ⟨r, u, hc⟩
 ·rw [hc.out] at ht
  obtain ⟨blk, rfl⟩ := ht
  have CO := aM (operator_none blk true w2 (pw_cell_below HB2.out HG.out))
  go_wp2_with fail
  refine CO.out.mono ?_
  rintro e w3 ⟨rfl, hb⟩
  have HB3 := aM (hb_then HB2.out hb)
  clear hb CO
  go_wp2
  go_ret3
  exact ⟨by rw [hc.out]; rfl, HB3.out⟩
 ·rw [hc.out] at ht
  obtain rfl := (show e = _ from ht)
  have CO := aM (operator_some r u w2)
  go_wp2_with fail
  refine CO.out.mono ?_
  rintro e w3 ⟨rfl, hb⟩
  have HB3 := aM (hb_then HB2.out hb)
  clear hb CO
  go_wp2
  go_ret3
  exact ⟨by rw [hc.out]; rfl, HB3.out⟩
set_option maxHeartbeats 1600000 in
theorem doorRequired {t : BA} {g : List (Bs × BA)} {R : Option (BA × Bool)} (hT : OpTells 62 t g R) : OpTells 49 t g R := by
 intro W cb hE
 have CC := aM (hT W cb hE)
 have hcase := case3 R
 clear hT hE
 go_enter Tryz.func49, Tryz.ntmps49
 go_wp2_with fail
 refine CC.out.mono ?_
 rintro e w1 ⟨ht, hb⟩
 have HB := aM hb
 clear hb CC
 rcases hcase with hc | ⟨r, u, hc⟩
 ·rw [hc.out] at ht
  obtain ⟨blk, rfl⟩ := ht
  go_wp2
  go_ret3
  exact ⟨by rw [hc.out]; exact ⟨_, rfl⟩, HB.out⟩
 ·rw [hc.out] at ht
  obtain rfl := (show e = _ from ht)
  go_wp2
  go_ret3
  exact ⟨by rw [hc.out]; rfl, HB.out⟩
set_option maxHeartbeats 1600000 in
theorem implRequired {t : BA} {g : List (Bs × BA)} {R : Option (BA × Bool)} (hT : OpTells 62 t g R) {N : Nat} (hok : Ok N g) (hN : N ≤ 17179869184) (A : Option Addr) (c : Nat) (w : World) (h : kp.C w A (toP g).length (toP g)) (hg : ErrAt w) :
  Calls Tryz.prog 34 #[.string t, .slice A (toP g).length c] w fun e w' => Sign3 R e ∧ Below w.heap.size w w' := by
 have CL := aM (Go.Proofs.YtkhkmhbledigpaaGreatDoor.Maps.look (c := c) hok hN w h)
 have CD := aM (doorRequired hT)
 have HG := aM hg
 have hcase := case3 R
 clear hT hok h hg
 go_enter Tryz.func34, Tryz.ntmps34
 go_wp2_with fail
 refine CL.out.mono ?_
 rintro e w1 ⟨cb, mb, rfl, h1, h2, _, hb⟩
 have HB1 := aM hb
 have CD1 := aM (CD.out w1 cb ⟨mb, h1, h2⟩)
 clear hb CL CD h1 h2
 go_wp2_with fail
 refine CD1.out.mono ?_
 rintro e w2 ⟨ht, hb⟩
 have HB2 := aM (hb_then HB1.out hb)
 clear hb CD1
 rcases hcase with hc | ⟨r, u, hc⟩
 ·rw [hc.out] at ht
  obtain ⟨blk, rfl⟩ := ht
  have CO := aM (operator_none blk true w2 (pw_cell_below HB2.out HG.out))
  go_wp2_with fail
  refine CO.out.mono ?_
  rintro e w3 ⟨rfl, hb⟩
  have HB3 := aM (hb_then HB2.out hb)
  clear hb CO
  go_wp2
  go_ret3
  exact ⟨by rw [hc.out]; rfl, HB3.out⟩
 ·rw [hc.out] at ht
  obtain rfl := (show e = _ from ht)
  have CO := aM (operator_some r u w2)
  go_wp2_with fail
  refine CO.out.mono ?_
  rintro e w3 ⟨rfl, hb⟩
  have HB3 := aM (hb_then HB2.out hb)
  clear hb CO
  go_wp2
  go_ret3
  exact ⟨by rw [hc.out]; rfl, HB3.out⟩
set_option maxHeartbeats 1600000 in
theorem doorRequiredFilled {t : BA} {g : List (Bs × BA)} {R : Option (BA × Bool)} (hT : OpTells 63 t g R) : OpTells 50 t g R := by
 intro W cb hE
 have CC := aM (hT W cb hE)
 have hcase := case3 R
 clear hT hE
 go_enter Tryz.func50, Tryz.ntmps50
 go_wp2_with fail
 refine CC.out.mono ?_
 rintro e w1 ⟨ht, hb⟩
 have HB := aM hb
 clear hb CC
 rcases hcase with hc | ⟨r, u, hc⟩
 ·rw [hc.out] at ht
  obtain ⟨blk, rfl⟩ := ht
  go_wp2
  go_ret3
  exact ⟨by rw [hc.out]; exact ⟨_, rfl⟩, HB.out⟩
 ·rw [hc.out] at ht
  obtain rfl := (show e = _ from ht)
  go_wp2
  go_ret3
  exact ⟨by rw [hc.out]; rfl, HB.out⟩
set_option maxHeartbeats 1600000 in
theorem implRequiredFilled {t : BA} {g : List (Bs × BA)} {R : Option (BA × Bool)} (hT : OpTells 63 t g R) {N : Nat} (hok : Ok N g) (hN : N ≤ 17179869184) (A : Option Addr) (c : Nat) (w : World) (h : kp.C w A (toP g).length (toP g)) (hg : ErrAt w) :
  Calls Tryz.prog 35 #[.string t, .slice A (toP g).length c] w fun e w' => Sign3 R e ∧ Below w.heap.size w w' := by
 have CL := aM (Go.Proofs.YtkhkmhbledigpaaGreatDoor.Maps.look (c := c) hok hN w h)
 have CD := aM (doorRequiredFilled hT)
 have HG := aM hg
 have hcase := case3 R
 clear hT hok h hg
 go_enter Tryz.func35, Tryz.ntmps35
 go_wp2_with fail
 refine CL.out.mono ?_
 rintro e w1 ⟨cb, mb, rfl, h1, h2, _, hb⟩
 have HB1 := aM hb
 have CD1 := aM (CD.out w1 cb ⟨mb, h1, h2⟩)
 clear hb CL CD h1 h2
 go_wp2_with fail
 refine CD1.out.mono ?_
 rintro e w2 ⟨ht, hb⟩
 have HB2 := aM (hb_then HB1.out hb)
 clear hb CD1
 rcases hcase with hc | ⟨r, u, hc⟩
 ·rw [hc.out] at ht
  obtain ⟨blk, rfl⟩ := ht
  have CO := aM (operator_none blk true w2 (pw_cell_below HB2.out HG.out))
  go_wp2_with fail
  refine CO.out.mono ?_
  rintro e w3 ⟨rfl, hb⟩
  have HB3 := aM (hb_then HB2.out hb)
  clear hb CO
  go_wp2
  go_ret3
  exact ⟨by rw [hc.out]; rfl, HB3.out⟩
 ·rw [hc.out] at ht
  obtain rfl := (show e = _ from ht)
  have CO := aM (operator_some r u w2)
  go_wp2_with fail
  refine CO.out.mono ?_
  rintro e w3 ⟨rfl, hb⟩
  have HB3 := aM (hb_then HB2.out hb)
  clear hb CO
  go_wp2
  go_ret3
  exact ⟨by rw [hc.out]; rfl, HB3.out⟩
set_option maxHeartbeats 1600000 in
theorem sign0 {t : BA} {g : List (Bs × BA)} {R : Option (BA × Bool)} (hT : OpTells 58 t g R) {N : Nat} (hok : Ok N g) (hN : N ≤ 17179869184) (A : Option Addr) (c : Nat) (w : World) (h : kp.C w A (toP g).length (toP g)) (hg : ErrAt w) :
  Calls Tryz.prog 23 #[.int .i64 0, .string t, .slice A (toP g).length c] w fun e w' => Sign3 R e ∧ Below w.heap.size w w' := by
 have CI := aM (implDefault hT hok hN A c w h hg)
 have hcase := case3 R
 clear hT hok h hg
 go_enter Tryz.func23, Tryz.ntmps23
 go_wp2_with fail
 refine CI.out.mono ?_
 rintro e w1 ⟨ht, hb⟩
 have HB1 := aM hb
 clear hb CI
 rcases hcase with hc | ⟨r, u, hc⟩
 all_goals
  rw [hc.out] at ht
  obtain rfl := (show e = _ from ht)
  go_wp2
  go_ret3
  exact ⟨by rw [hc.out]; rfl, HB1.out⟩
set_option maxHeartbeats 1600000 in
theorem sign1 {t : BA} {g : List (Bs × BA)} {R : Option (BA × Bool)} (hT : OpTells 59 t g R) {N : Nat} (hok : Ok N g) (hN : N ≤ 17179869184) (A : Option Addr) (c : Nat) (w : World) (h : kp.C w A (toP g).length (toP g)) (hg : ErrAt w) :
  Calls Tryz.prog 23 #[.int .i64 1, .string t, .slice A (toP g).length c] w fun e w' => Sign3 R e ∧ Below w.heap.size w w' := by
 have CI := aM (implDefaultFilled hT hok hN A c w h hg)
 have hcase := case3 R
 clear hT hok h hg
 go_enter Tryz.func23, Tryz.ntmps23
 go_wp2_with fail
 refine CI.out.mono ?_
 rintro e w1 ⟨ht, hb⟩
 have HB1 := aM hb
 clear hb CI
 rcases hcase with hc | ⟨r, u, hc⟩
 all_goals
  rw [hc.out] at ht
  obtain rfl := (show e = _ from ht)
  go_wp2
  go_ret3
  exact ⟨by rw [hc.out]; rfl, HB1.out⟩
set_option maxHeartbeats 1600000 in
theorem sign2 {t : BA} {g : List (Bs × BA)} {R : Option (BA × Bool)} (hT : OpTells 60 t g R) {N : Nat} (hok : Ok N g) (hN : N ≤ 17179869184) (A : Option Addr) (c : Nat) (w : World) (h : kp.C w A (toP g).length (toP g)) (hg : ErrAt w) :
  Calls Tryz.prog 23 #[.int .i64 2, .string t, .slice A (toP g).length c] w fun e w' => Sign3 R e ∧ Below w.heap.size w w' := by
 have CI := aM (implPresent hT hok hN A c w h hg)
 have hcase := case3 R
 clear hT hok h hg
 go_enter Tryz.func23, Tryz.ntmps23
 go_wp2_with fail
 refine CI.out.mono ?_
 rintro e w1 ⟨ht, hb⟩
 have HB1 := aM hb
 clear hb CI
 rcases hcase with hc | ⟨r, u, hc⟩
 all_goals
  rw [hc.out] at ht
  obtain rfl := (show e = _ from ht)
  go_wp2
  go_ret3
  exact ⟨by rw [hc.out]; rfl, HB1.out⟩
set_option maxHeartbeats 1600000 in
theorem sign3 {t : BA} {g : List (Bs × BA)} {R : Option (BA × Bool)} (hT : OpTells 61 t g R) {N : Nat} (hok : Ok N g) (hN : N ≤ 17179869184) (A : Option Addr) (c : Nat) (w : World) (h : kp.C w A (toP g).length (toP g)) (hg : ErrAt w) :
  Calls Tryz.prog 23 #[.int .i64 3, .string t, .slice A (toP g).length c] w fun e w' => Sign3 R e ∧ Below w.heap.size w w' := by
 have CI := aM (implPresentFilled hT hok hN A c w h hg)
 have hcase := case3 R
 clear hT hok h hg
 go_enter Tryz.func23, Tryz.ntmps23
 go_wp2_with fail
 refine CI.out.mono ?_
 rintro e w1 ⟨ht, hb⟩
 have HB1 := aM hb
 clear hb CI
 rcases hcase with hc | ⟨r, u, hc⟩
 all_goals
  rw [hc.out] at ht
  obtain rfl := (show e = _ from ht)
  go_wp2
  go_ret3
  exact ⟨by rw [hc.out]; rfl, HB1.out⟩
set_option maxHeartbeats 1600000 in
theorem sign4 {t : BA} {g : List (Bs × BA)} {R : Option (BA × Bool)} (hT : OpTells 62 t g R) {N : Nat} (hok : Ok N g) (hN : N ≤ 17179869184) (A : Option Addr) (c : Nat) (w : World) (h : kp.C w A (toP g).length (toP g)) (hg : ErrAt w) :
  Calls Tryz.prog 23 #[.int .i64 4, .string t, .slice A (toP g).length c] w fun e w' => Sign3 R e ∧ Below w.heap.size w w' := by
 have CI := aM (implRequired hT hok hN A c w h hg)
 have hcase := case3 R
 clear hT hok h hg
 go_enter Tryz.func23, Tryz.ntmps23
 go_wp2_with fail
 refine CI.out.mono ?_
 rintro e w1 ⟨ht, hb⟩
 have HB1 := aM hb
 clear hb CI
 rcases hcase with hc | ⟨r, u, hc⟩
 all_goals
  rw [hc.out] at ht
  obtain rfl := (show e = _ from ht)
  go_wp2
  go_ret3
  exact ⟨by rw [hc.out]; rfl, HB1.out⟩
set_option maxHeartbeats 1600000 in
theorem sign5 {t : BA} {g : List (Bs × BA)} {R : Option (BA × Bool)} (hT : OpTells 63 t g R) {N : Nat} (hok : Ok N g) (hN : N ≤ 17179869184) (A : Option Addr) (c : Nat) (w : World) (h : kp.C w A (toP g).length (toP g)) (hg : ErrAt w) :
  Calls Tryz.prog 23 #[.int .i64 5, .string t, .slice A (toP g).length c] w fun e w' => Sign3 R e ∧ Below w.heap.size w w' := by
 have CI := aM (implRequiredFilled hT hok hN A c w h hg)
 have hcase := case3 R
 clear hT hok h hg
 go_enter Tryz.func23, Tryz.ntmps23
 go_wp2_with fail
 refine CI.out.mono ?_
 rintro e w1 ⟨ht, hb⟩
 have HB1 := aM hb
 clear hb CI
 rcases hcase with hc | ⟨r, u, hc⟩
 all_goals
  rw [hc.out] at ht
  obtain rfl := (show e = _ from ht)
  go_wp2
  go_ret3
  exact ⟨by rw [hc.out]; rfl, HB1.out⟩
end Go.Proofs.YtkhkmhbledigpaaGreatDoor.Tr
namespace Go.Proofs.YtkhkmhbledigpaaGreatDoor.PS
open Go.RowKit Go.Proofs.YtkhkmhbledigpaaGreatDoorW.PrintWords Go.Proofs.YtkhkmhbledigpaaGreatDoorW.PrintLast Go.Proofs.YtkhkmhbledigpaaGreatDoorW.PrintMore
attribute [local go_sem] max2_int min2_int max_two min_two max_three min_three max_four min_four 
set_option linter.unusedVariables false
set_option linter.unusedSimpArgs false
def laws_substPlainest.l0 : Nat → ByteArray → List Int → Int → Option (ByteArray)
 | 0, _, _, _ => none
 | k + 1, x0, x3, x4 => if x4 < (x0.size : Int) then (if 0 ≤ x4 then (if (bt x0 x4) = 45 then (laws_substPlainest.l0 k x0 x3 (wrap64 (x4 + 1))) else (if (bt x0 x4) = 43 then (laws_substPlainest.l0 k x0 x3 (wrap64 (x4 + 1))) else (if (bt x0 x4) = 63 then (laws_substPlainest.l0 k x0 x3 (wrap64 (x4 + 1))) else (if (bt x0 x4) = 58 then (laws_substPlainest.l0 k x0 x3 (wrap64 (x4 + 1))) else (if x3.length < 140737488355328 then (laws_substPlainest.l0 k x0 (x3 ++ [bt x0 x4]) (wrap64 (x4 + 1))) else (none)))))) else (none)) else ((spec_SubstPlain.f k (strOfNums x3)).bind fun t160 => (some t160))
def laws_substPlainest.f (k : Nat) (a0 : ByteArray) : Option (ByteArray) := laws_substPlainest.l0 k a0 ([] : List Int) 0
set_option maxHeartbeats 8000000 in
set_option maxRecDepth 100000 in
theorem laws_substPlainest.calls (k : Nat) (a0 : ByteArray) (r : ByteArray) (w : World) (h : laws_substPlainest.f k a0 = some r) :
  Calls Tryz.prog 22 #[.string a0] w fun e w' => e = .returned (.string r) ∧ Below w.heap.size w w' := by
 have HB := aM (Below.refl w.heap.size w)
 have H : (laws_substPlainest.l0 k a0 ([] : List Int) 0) = some r := h
 clear h
 have H' := aM H
 clear H
 go_enter Tryz.func22, Tryz.ntmps22
 go_wp2
 go_loopg [3, 4] k (fun kq v3 v4 w' => ∃ (x3_1 : List Int) (x4_1 : Int), v4 = .int .i64 x4_1 ∧ Aside0 (laws_substPlainest.l0 kq a0 x3_1 x4_1 = some r) ∧ Aside0 (kq ≤ k) ∧ Aside0 (Kd.R (Kd.int .u8) 5 w' w.heap.size (fun _ => True) v3 x3_1) ∧ Aside0 (Below w.heap.size w w'))
 case atStart => exact ⟨(([] : List Int)), (0), (by first | rfl | (simp; done) | (simp [*]; done)), H', ⟨Nat.le_refl _⟩, ⟨by first | exact Kd.R_nil _ _ _ _ _ | exact Kd.N_nil _ _ _ _ _ | exact Kd.V_nil _ _ _ _ _ | exact Kd.Q_nil _ _ _ _ _ | exact Kd.S_nil _ _ _ _ _⟩, ⟨by repeat (first | (with_reducible first | exact HB.out | apply below_alloc | apply pw_below_drewN | apply below_drew1) | exact HB.out)⟩⟩
 case round =>
  clear H'
  obtain ⟨x3_1, x4_1, rfl, HA, HK1, HO_3, HB⟩ := hrel
  cases gk with
  | zero => exact absurd HA.out (by simp [laws_substPlainest.l0])
  | succ k1 =>
   have H := HA.out
   clear HA
   simp only [laws_substPlainest.l0] at H
   by_cases c2 : x4_1 < (a0.size : Int)
   ·rw [if_pos c2] at H
    have c2b0 : decide (x4_1 < (a0.size : Int)) = true := decide_eq_true c2
    clear c2
    by_cases c3 : 0 ≤ x4_1
    ·rw [if_pos c3] at H
     have c3b0 : decide (0 ≤ x4_1) = true := decide_eq_true c3
     clear c3
     by_cases c5 : (bt a0 x4_1) = 45
     ·rw [if_pos c5] at H
      have c5b0 : ((bt a0 x4_1) == 45) = true := beq_iff_eq.mpr c5
      have c5b1 : ((bt a0 x4_1) != 45) = false := bne_eq_false_iff_eq.mpr c5
      clear c5
      have H' := aM H
      clear H
      have p4 : 0 ≤ (x4_1 : Int) := of_decide_eq_true (by first | (with_reducible assumption) | assumption)
      have q4 : x4_1 < (a0.size : Int) := of_decide_eq_true (by first | (with_reducible assumption) | assumption)
      have hx4 := bt_at a0 x4_1
      replace p4 := eq_true p4
      replace q4 := eq_true q4
      go_wp2
      go_roundg k1
      case measure => have := HK1.out; omega
      case rel => exact ⟨(x3_1), (wrap64 (x4_1 + 1)), (by first | rfl | (simp; done) | (simp [*]; done)), H', ⟨by have := HK1.out; omega⟩, ⟨by (with_reducible repeat (first | apply Kd.R_alloc | apply Kd.R_drewN | apply Kd.R_drew)); exact HO_3.out⟩, ⟨by repeat (first | (with_reducible first | exact HB.out | apply below_alloc | apply pw_below_drewN | apply below_drew1) | exact HB.out)⟩⟩
     ·rw [if_neg c5] at H
      have c5b0 : ((bt a0 x4_1) == 45) = false := beq_eq_false_iff_ne.mpr c5
      have c5b1 : ((bt a0 x4_1) != 45) = true := bne_iff_ne.mpr c5
      by_cases c7 : (bt a0 x4_1) = 43
      ·rw [if_pos c7] at H
       have c7b0 : ((bt a0 x4_1) == 43) = true := beq_iff_eq.mpr c7
       have c7b1 : ((bt a0 x4_1) != 43) = false := bne_eq_false_iff_eq.mpr c7
       clear c7
       have H' := aM H
       clear H
       have p4 : 0 ≤ (x4_1 : Int) := of_decide_eq_true (by first | (with_reducible assumption) | assumption)
       have q4 : x4_1 < (a0.size : Int) := of_decide_eq_true (by first | (with_reducible assumption) | assumption)
       have hx4 := bt_at a0 x4_1
       replace p4 := eq_true p4
       replace q4 := eq_true q4
       have p6 : 0 ≤ (x4_1 : Int) := of_decide_eq_true (by first | (with_reducible assumption) | assumption)
       have q6 : x4_1 < (a0.size : Int) := of_decide_eq_true (by first | (with_reducible assumption) | assumption)
       have hx6 := bt_at a0 x4_1
       replace p6 := eq_true p6
       replace q6 := eq_true q6
       go_wp2
       go_roundg k1
       case measure => have := HK1.out; omega
       case rel => exact ⟨(x3_1), (wrap64 (x4_1 + 1)), (by first | rfl | (simp; done) | (simp [*]; done)), H', ⟨by have := HK1.out; omega⟩, ⟨by (with_reducible repeat (first | apply Kd.R_alloc | apply Kd.R_drewN | apply Kd.R_drew)); exact HO_3.out⟩, ⟨by repeat (first | (with_reducible first | exact HB.out | apply below_alloc | apply pw_below_drewN | apply below_drew1) | exact HB.out)⟩⟩
      ·rw [if_neg c7] at H
       have c7b0 : ((bt a0 x4_1) == 43) = false := beq_eq_false_iff_ne.mpr c7
       have c7b1 : ((bt a0 x4_1) != 43) = true := bne_iff_ne.mpr c7
       by_cases c9 : (bt a0 x4_1) = 63
       ·rw [if_pos c9] at H
        have c9b0 : ((bt a0 x4_1) == 63) = true := beq_iff_eq.mpr c9
        have c9b1 : ((bt a0 x4_1) != 63) = false := bne_eq_false_iff_eq.mpr c9
        clear c9
        have H' := aM H
        clear H
        have p4 : 0 ≤ (x4_1 : Int) := of_decide_eq_true (by first | (with_reducible assumption) | assumption)
        have q4 : x4_1 < (a0.size : Int) := of_decide_eq_true (by first | (with_reducible assumption) | assumption)
        have hx4 := bt_at a0 x4_1
        replace p4 := eq_true p4
        replace q4 := eq_true q4
        have p6 : 0 ≤ (x4_1 : Int) := of_decide_eq_true (by first | (with_reducible assumption) | assumption)
        have q6 : x4_1 < (a0.size : Int) := of_decide_eq_true (by first | (with_reducible assumption) | assumption)
        have hx6 := bt_at a0 x4_1
        replace p6 := eq_true p6
        replace q6 := eq_true q6
        have p8 : 0 ≤ (x4_1 : Int) := of_decide_eq_true (by first | (with_reducible assumption) | assumption)
        have q8 : x4_1 < (a0.size : Int) := of_decide_eq_true (by first | (with_reducible assumption) | assumption)
        have hx8 := bt_at a0 x4_1
        replace p8 := eq_true p8
        replace q8 := eq_true q8
        go_wp2
        go_roundg k1
        case measure => have := HK1.out; omega
        case rel => exact ⟨(x3_1), (wrap64 (x4_1 + 1)), (by first | rfl | (simp; done) | (simp [*]; done)), H', ⟨by have := HK1.out; omega⟩, ⟨by (with_reducible repeat (first | apply Kd.R_alloc | apply Kd.R_drewN | apply Kd.R_drew)); exact HO_3.out⟩, ⟨by repeat (first | (with_reducible first | exact HB.out | apply below_alloc | apply pw_below_drewN | apply below_drew1) | exact HB.out)⟩⟩
       ·rw [if_neg c9] at H
        have c9b0 : ((bt a0 x4_1) == 63) = false := beq_eq_false_iff_ne.mpr c9
        have c9b1 : ((bt a0 x4_1) != 63) = true := bne_iff_ne.mpr c9
        by_cases c11 : (bt a0 x4_1) = 58
        ·rw [if_pos c11] at H
         have c11b0 : ((bt a0 x4_1) == 58) = true := beq_iff_eq.mpr c11
         have c11b1 : ((bt a0 x4_1) != 58) = false := bne_eq_false_iff_eq.mpr c11
         clear c11
         have H' := aM H
         clear H
         have p4 : 0 ≤ (x4_1 : Int) := of_decide_eq_true (by first | (with_reducible assumption) | assumption)
         have q4 : x4_1 < (a0.size : Int) := of_decide_eq_true (by first | (with_reducible assumption) | assumption)
         have hx4 := bt_at a0 x4_1
         replace p4 := eq_true p4
         replace q4 := eq_true q4
         have p6 : 0 ≤ (x4_1 : Int) := of_decide_eq_true (by first | (with_reducible assumption) | assumption)
         have q6 : x4_1 < (a0.size : Int) := of_decide_eq_true (by first | (with_reducible assumption) | assumption)
         have hx6 := bt_at a0 x4_1
         replace p6 := eq_true p6
         replace q6 := eq_true q6
         have p8 : 0 ≤ (x4_1 : Int) := of_decide_eq_true (by first | (with_reducible assumption) | assumption)
         have q8 : x4_1 < (a0.size : Int) := of_decide_eq_true (by first | (with_reducible assumption) | assumption)
         have hx8 := bt_at a0 x4_1
         replace p8 := eq_true p8
         replace q8 := eq_true q8
         have p10 : 0 ≤ (x4_1 : Int) := of_decide_eq_true (by first | (with_reducible assumption) | assumption)
         have q10 : x4_1 < (a0.size : Int) := of_decide_eq_true (by first | (with_reducible assumption) | assumption)
         have hx10 := bt_at a0 x4_1
         replace p10 := eq_true p10
         replace q10 := eq_true q10
         go_wp2
         go_roundg k1
         case measure => have := HK1.out; omega
         case rel => exact ⟨(x3_1), (wrap64 (x4_1 + 1)), (by first | rfl | (simp; done) | (simp [*]; done)), H', ⟨by have := HK1.out; omega⟩, ⟨by (with_reducible repeat (first | apply Kd.R_alloc | apply Kd.R_drewN | apply Kd.R_drew)); exact HO_3.out⟩, ⟨by repeat (first | (with_reducible first | exact HB.out | apply below_alloc | apply pw_below_drewN | apply below_drew1) | exact HB.out)⟩⟩
        ·rw [if_neg c11] at H
         have c11b0 : ((bt a0 x4_1) == 58) = false := beq_eq_false_iff_ne.mpr c11
         have c11b1 : ((bt a0 x4_1) != 58) = true := bne_iff_ne.mpr c11
         by_cases c13 : x3_1.length < 140737488355328
         ·rw [if_pos c13] at H
          have LMc13 := aM c13
          clear c13
          obtain ⟨y157, hy157⟩ : ∃ y_ : List Int, y_ = (x3_1 ++ [bt a0 x4_1]) := ⟨_, rfl⟩
          replace H : (laws_substPlainest.l0 k1 a0 y157 (wrap64 (x4_1 + 1))) = some r := by first | (rw [hy157]; with_reducible exact H) | (have H2_ := (Option.bind_some _ _).symm.trans H; rw [hy157]; with_reducible exact H2_) | (have H2_ := (Option.bind_some _ _).symm.trans H; with_reducible exact H2_) | with_reducible exact H | (rw [hy157]; exact H) | exact H
          have Ny157 := aM hy157
          clear hy157
          have H' := aM H
          clear H
          have p4 : 0 ≤ (x4_1 : Int) := of_decide_eq_true (by first | (with_reducible assumption) | assumption)
          have q4 : x4_1 < (a0.size : Int) := of_decide_eq_true (by first | (with_reducible assumption) | assumption)
          have hx4 := bt_at a0 x4_1
          replace p4 := eq_true p4
          replace q4 := eq_true q4
          have p6 : 0 ≤ (x4_1 : Int) := of_decide_eq_true (by first | (with_reducible assumption) | assumption)
          have q6 : x4_1 < (a0.size : Int) := of_decide_eq_true (by first | (with_reducible assumption) | assumption)
          have hx6 := bt_at a0 x4_1
          replace p6 := eq_true p6
          replace q6 := eq_true q6
          have p8 : 0 ≤ (x4_1 : Int) := of_decide_eq_true (by first | (with_reducible assumption) | assumption)
          have q8 : x4_1 < (a0.size : Int) := of_decide_eq_true (by first | (with_reducible assumption) | assumption)
          have hx8 := bt_at a0 x4_1
          replace p8 := eq_true p8
          replace q8 := eq_true q8
          have p10 : 0 ≤ (x4_1 : Int) := of_decide_eq_true (by first | (with_reducible assumption) | assumption)
          have q10 : x4_1 < (a0.size : Int) := of_decide_eq_true (by first | (with_reducible assumption) | assumption)
          have hx10 := bt_at a0 x4_1
          replace p10 := eq_true p10
          replace q10 := eq_true q10
          have p12 : 0 ≤ (x4_1 : Int) := of_decide_eq_true (by first | (with_reducible assumption) | assumption)
          have q12 : x4_1 < (a0.size : Int) := of_decide_eq_true (by first | (with_reducible assumption) | assumption)
          have hx12 := bt_at a0 x4_1
          replace p12 := eq_true p12
          replace q12 := eq_true q12
          go_wp2_with (first | ((with_reducible refine gate_builtin (b := .append) (xs := #[.tmp 33, .tmp 37]) rfl ?_); at_builtin; refine Kd.R_append (Kd.int .u8) (w0 := w) w.heap.size rfl (.tmp 33) (.tmp 37) 50 5 (.int .u8 0) 1 rfl Tryz.underlying50 info5 rfl (by decide) (by omega) u3 x3_1 (bt a0 x4_1) [.int .u8 (bt a0 x4_1)] (fun _ => True) (fun _ => False) rfl rfl ?aP (fun _ hk => hk.elim) ?aF ?aO ?aB ?aS ?aL ?_; (case aP => exact rfl); (case aB => exact (by repeat (first | (with_reducible first | exact HB.out | apply below_alloc | apply pw_below_drewN | apply below_drew1) | exact HB.out))); (case aF => exact (fun _ _ => trivial)); (case aO => exact (by (with_reducible repeat (first | apply Kd.R_alloc | apply Kd.R_drewN | apply Kd.R_drew)); exact HO_3.out)); (case aS => exact (below_size (by repeat (first | (with_reducible first | exact HB.out | apply below_alloc | apply pw_below_drewN | apply below_drew1) | exact HB.out)))); (case aL => have := LMc13.out; omega); intro v158 w14 ho hb hg hat; rw [← Ny157.out] at ho; have n0_ := aM (hb); have n1_ := aM (ho); clear HB; clear HO_3; have HB := n0_; have HO159 := n1_; clear n0_ n1_; clear ho hb hg hat))
          go_roundg k1
          case measure => have := HK1.out; omega
          case rel => exact ⟨(y157), (wrap64 (x4_1 + 1)), (by first | rfl | (simp; done) | (simp [*]; done)), H', ⟨by have := HK1.out; omega⟩, ⟨by (with_reducible repeat (first | apply Kd.R_alloc | apply Kd.R_drewN | apply Kd.R_drew)); exact HO159.out⟩, ⟨by repeat (first | (with_reducible first | exact HB.out | apply below_alloc | apply pw_below_drewN | apply below_drew1) | exact HB.out)⟩⟩
         ·rw [if_neg c13] at H
          exact absurd H (by simp)
    ·rw [if_neg c3] at H
     exact absurd H (by simp)
   ·rw [if_neg c2] at H
    have c2b0 : decide (x4_1 < (a0.size : Int)) = false := decide_eq_false c2
    clear c2
    replace H := Option.bind_eq_some_iff.mp H
    obtain ⟨t160, A150, H⟩ := H
    replace H : (some t160) = some r := H
    have A15 := aM A150
    clear A150
    obtain rfl := Option.some.inj H
    have hcv16 := own_string (P := Tryz.prog) Tryz.underlying50 Tryz.underlying5 Tryz.underlying9 (Kd.own_of_R HO_3.out)
    go_wp2_with (first | ((with_reducible refine gate_callee (f := 21) rfl ?_); refine goesL_ (some 41) rfl rfl Tryz.func21 (by kernel_rfl) rfl #[.string (strOfNums x3_1)] rfl (by (try simp only [List.map_toArray, List.map_cons, List.map_nil]); first | done | rfl | (simp only [List.length_drop, List.length_take]; rfl)) ?_; (with_reducible refine (spec_SubstPlain.calls k1 (strOfNums x3_1) t160 _ A15.out).mono ?_); rintro e w17 ⟨rfl, hb⟩; refine ⟨_, rfl, ?_⟩; have n0_ := aM (Kd.R_below (by (with_reducible repeat (first | apply Kd.R_alloc | apply Kd.R_drewN | apply Kd.R_drew)); exact HO_3.out) hb); have n1_ := aM (below_step (by repeat (first | (with_reducible first | exact HB.out | apply below_alloc | apply pw_below_drewN | apply below_drew1) | exact HB.out)) hb); clear HO_3; clear HB; have HO_3 := n0_; have HB := n1_; clear n0_ n1_; (try clear hb); (try clear hb2); (try clear hk); (try clear hi)))
    go_ret
    exact ⟨by first | rfl | (simp [errW_none, errW_some] <;> rfl) | (simp [*, errW_none, errW_some] <;> rfl), by repeat (first | (with_reducible first | exact HB.out | apply below_alloc | apply pw_below_drewN | apply below_drew1) | exact HB.out)⟩
end Go.Proofs.YtkhkmhbledigpaaGreatDoor.PS
namespace Go.Proofs.YtkhkmhbledigpaaGreatDoor.Tr
open Go.RowKit Go.Proofs.YtkhkmhbledigpaaGreatDoorW.PrintWords Go.Proofs.YtkhkmhbledigpaaGreatDoorW.PrintLast Go.Proofs.YtkhkmhbledigpaaGreatDoor.Str Go.Proofs.YtkhkmhbledigpaaGreatDoor.Kit Go.Proofs.YtkhkmhbledigpaaGreatDoor.MapV Go.Proofs.YtkhkmhbledigpaaGreatDoor.Frame Go.Proofs.YtkhkmhbledigpaaGreatDoor.PS
set_option linter.unusedVariables false
set_option linter.unusedSimpArgs false
def keepS (c : UInt8) : Bool := c != 45 && c != 43 && c != 63 && c != 58
def plainest (s : BA) : BA := mk (((lb s).filter keepS).filter keepP)
theorem ends_plainest_l (s : BA) (hs : s.size < 140737488355328) : ∀ (d i : Nat) (l : Bs), i + d = s.size → l.length ≤ i → Ends (fun r => r = mk ((l ++ ((lb s).drop i).filter keepS).filter keepP)) (fun k => laws_substPlainest.l0 k s (bnums l) (i : Int)) := by
 intro d
 induction d with
 | zero =>
  intro i l hi hl
  refine Ends.step (fun k => by simp only [laws_substPlainest.l0]; rfl) ?_
  rw [str_bnums, List.drop_eq_nil_of_le (by rw [lb_length]; omega)]
  refine Ends.no (by omega) (Ends.bind (ends_plain (mk l) (by rw [mk_size]; omega)) (fun r hr => ?_))
  subst hr
  refine Ends.now ?_
  rw [lb_mk']
  simp
 | succ d ih =>
  intro i l hi hl
  have hlt : i < (lb s).length := by rw [lb_length]; omega
  have hbt := (at_get s i hlt).bt
  have hf := filter_step s keepS i hlt
  have hno := ih (i + 1) l (by omega) (by omega)
  refine Ends.step (fun k => by simp only [laws_substPlainest.l0]; rfl) ?_
  rw [hbt, wrap1 i (by omega), hf]
  generalize (lb s)[i] = c
  have no : ∀ n : Nat, n < 256 → keepS (UInt8.ofNat n) = false → (c.toNat : Int) = (n : Int) → keepS c = false := fun n hn h e => by
   have : c = UInt8.ofNat n := UInt8.toNat_inj.1 (by rw [UInt8.toNat_ofNat']; omega)
   rw [this]; exact h
  refine Ends.yes (by omega) (Ends.yes (by omega) (Ends.ite (fun h1 => ?_) (fun h1 => Ends.ite (fun h2 => ?_) (fun h2 => Ends.ite (fun h3 => ?_) (fun h3 => Ends.ite (fun h4 => ?_) (fun h4 => ?_))))))
  ·rw [no 45 (by decide) (by decide) h1]; exact hno
  ·rw [no 43 (by decide) (by decide) h2]; exact hno
  ·rw [no 63 (by decide) (by decide) h3]; exact hno
  ·rw [no 58 (by decide) (by decide) h4]; exact hno
  ·have hc : keepS c = true := by
    unfold keepS
    have a1 : (c != 45) = true := bne_iff_ne.2 (byte_ne 45 (by decide) h1)
    have a2 : (c != 43) = true := bne_iff_ne.2 (byte_ne 43 (by decide) h2)
    have a3 : (c != 63) = true := bne_iff_ne.2 (byte_ne 63 (by decide) h3)
    have a4 : (c != 58) = true := bne_iff_ne.2 (byte_ne 58 (by decide) h4)
    rw [a1, a2, a3, a4]
    rfl
   rw [hc]
   refine Ends.yes (by rw [bnums_length]; omega) ?_
   have h := ih (i + 1) (l ++ [c]) (by omega) (by simp; omega)
   rw [bnums_append, List.append_assoc] at h
   exact h
theorem ends_plainest (s : BA) (hs : s.size < 140737488355328) : Ends (fun r => r = plainest s) (fun k => laws_substPlainest.f k s) := ends_plainest_l s hs s.size 0 [] (by omega) (by simp)
theorem plainest_c (s : BA) (hs : s.size < 140737488355328) (w : World) : Calls Tryz.prog 22 #[.string s] w fun e w' => e = .returned (.string (plainest s)) ∧ Below w.heap.size w w' := by
 obtain ⟨k, hk⟩ := (ends_plainest s hs).ev.rounds
 exact laws_substPlainest.calls k s _ w hk
theorem plainest_size (s : BA) : (plainest s).size ≤ s.size := by
 unfold plainest
 rw [mk_size, ← lb_length]
 exact Nat.le_trans (List.length_filter_le _ _) (List.length_filter_le _ _)
end Go.Proofs.YtkhkmhbledigpaaGreatDoor.Tr
