/- impl.told: the pairs of a map, sorted by their keys. -/
import Derived.Test.YtididniafloogaaGreatDoorFlat
import Derived.Test.YtididniafloogaaGreatDoorMapV
import Derived.Test.YtididniafloogaaGreatDoorShelf
import Derived.Test.YtididniafloogaaGreatDoorRowstr
namespace Go.Proofs.YtididniafloogaaGreatDoor.Maps
open Go.RowKit Go.Proofs.YtididniafloogaaGreatDoorW.PrintWords Go.Proofs.YtididniafloogaaGreatDoor.Str Go.Proofs.YtididniafloogaaGreatDoor.Kit Go.Proofs.YtididniafloogaaGreatDoor.Flat Go.Proofs.YtididniafloogaaGreatDoor.MapV Go.Sort Go.Lib
set_option linter.unusedVariables false
set_option linter.unusedSimpArgs false

abbrev BA := ByteArray
/-- a pair's cells -/
def encP (x : BA × BA) : List Value := [.string x.1, .string x.2]
theorem encP_len (x : BA × BA) : (encP x).length = 2 := rfl
theorem encP_one (x : BA × BA) : ∀ u ∈ encP x, u.oneCell' = true := by
  intro u hu
  simp [encP] at hu
  rcases hu with rfl | rfl <;> rfl
def kp : Kd (BA × BA) := flat encP 2 encP_len encP_one
/-- pairs by their bytes, as strings -/
def toP (f : List (Bs × BA)) : List (BA × BA) := f.map fun p => (⟨p.1.toArray⟩, p.2)
theorem toP_length (f : List (Bs × BA)) : (toP f).length = f.length := List.length_map _
def ofP (l : List (BA × BA)) : List (Bs × BA) := l.map fun p => (lb p.1, p.2)
theorem ofP_toP (f : List (Bs × BA)) : ofP (toP f) = f := by
  unfold ofP toP
  rw [List.map_map]
  conv => rhs; rw [← List.map_id f]
  refine List.map_congr_left (fun p _ => ?_)
  simp [lb]
theorem toP_ofP (l : List (BA × BA)) : toP (ofP l) = l := by
  unfold ofP toP
  rw [List.map_map]
  conv => rhs; rw [← List.map_id l]
  refine List.map_congr_left (fun p _ => ?_)
  simp [lb]
/-- by the keys -/
def ltP (x y : BA × BA) : Bool := Op.bytesLess x.1.toList y.1.toList
theorem ltP_eq (x y : BA × BA) : ltP x y = decide (lb x.1 < lb y.1) := by
  unfold ltP
  rw [bytesLess_eq, toList_lb, toList_lb]
theorem swo_ltP : SWO ltP where
  irrefl x := by rw [ltP_eq]; exact decide_eq_false (lt_irrefl _)
  trans x y z h1 h2 := by
    rw [ltP_eq] at *
    exact decide_eq_true (lt_trans (of_decide_eq_true h1) (of_decide_eq_true h2))
  ntrans x y z h1 h2 := by
    rw [ltP_eq] at *
    refine decide_eq_false (fun h => ?_)
    have n1 := of_decide_eq_false h1
    have n2 := of_decide_eq_false h2
    rcases lt_total (lb x.1) (lb y.1) with e | e | e
    · exact n1 e
    · rw [e] at h; exact n2 h
    · exact n2 (lt_trans e h)
instance : Inhabited (BA × BA) := ⟨(⟨#[]⟩, ⟨#[]⟩)⟩

noncomputable def pairsT : TypeInfo := (Tryz.prog.info? 27).get (by kernel_rfl)
noncomputable def pairT : TypeInfo := (Tryz.prog.info? 74).get (by kernel_rfl)
theorem pairT_k (n : Nat) (h2 : 2 ≤ n) : Lib.swapperK n pairT 25 = 9 := by
  have a : pairT.hasPointers = true := by kernel_rfl
  have b : pairT.bytes = 32 := by kernel_rfl
  have c : (n == 0) = false := by simp; omega
  have d : (n == 1) = false := by simp; omega
  simp [Lib.swapperK, a, b, c, d]

set_option maxHeartbeats 2000000 in
/-- the comparison that told hands to the sort -/
theorem told_less (blk off c Bs size : Nat) (W : World) (G : Nat → BA) (hs : W.cell? ⟨Bs, 0, none⟩ = some (.slice (some ⟨blk, off, none⟩) size c))
    (hc : ∀ t, t < size → W.cell? ⟨blk, off + t * 2, none⟩ = some (.string (G t))) (i j : Nat) (hi : i < size) (hj : j < size) (_hsz : size < 4611686018427387904) :
    Calls Tryz.prog 80 #[.int .i64 i, .int .i64 j, .pointer (some ⟨Bs, 0, none⟩)] W fun e w' => e = .returned (.bool (Op.bytesLess (G i).toList (G j).toList)) ∧ ∃ q, w' = W.drewN q := by
  have ci := hc i hi
  have cj := hc j hj
  go_enter Tryz.func80, Tryz.ntmps80
  go_wp2
  go_quiet (fail)
  go_wp2
  go_ret
  exact ⟨rfl, nq, rfl⟩
set_option maxRecDepth 100000 in
theorem told_sort (blk off c Bs : Nat) (d : Array (BA × BA)) (h2 : 2 ≤ d.size) (hsz : d.size < 4611686018427387904) (w : World) (hH : HoldsK encP 2 w blk off d) (hblk : blk < w.heap.size)
    (hBs : w.cell? ⟨Bs, 0, none⟩ = some (.slice (some ⟨blk, off, none⟩) d.size c)) (hB1 : Bs < w.heap.size) (hB2 : Bs ≠ blk) :
    Calls Tryz.prog 70 #[.iface 27 (.slice (some ⟨blk, off, none⟩) d.size c), .func (.func 80) #[] #[.pointer (some ⟨Bs, 0, none⟩)]] w fun e w' =>
      e = .returned (.tuple #[]) ∧ ∃ d' n os, PermIn 0 d.size d d' ∧ SortedIn ltP 0 d.size d' ∧ w' = grow (putRowK encP 2 (Sort.ahead w n) blk off d') os := by
  have hless : LessReadsK Tryz.prog 80 #[.pointer (some ⟨Bs, 0, none⟩)] encP 2 ltP blk off d.size w := by
    intro m os dk hs i j hi hj
    have e : sortWorldK encP 2 w blk off m dk os = putRowK encP 2 (grow (Sort.ahead w m) os) blk off dk := by
      unfold sortWorldK; rw [putRowK_grow _ _ (Sort.ahead w m) _ blk off _ hblk]
    have hHg : HoldsK encP 2 (grow (Sort.ahead w m) os) blk off d := holdsK_grow _ _ _ _ blk off d hblk (holdsK_ahead _ _ _ _ _ _ _ hH)
    refine told_less blk off c Bs d.size _ (fun t => dk[t]!.1) ?_ (fun t ht => ?_) i j hi hj (by omega)
    · rw [e, cell?_putRowK_other _ _ _ blk off dk _ (by exact hB2), cell?_grow _ _ _ (by exact hB1)]; exact hBs
    · rw [e]; exact ((holdsK_putRowK _ _ _ blk off d dk hHg hs).cell (i := t) (c := 0) (by omega) (by omega)).1
  exact Any.sort_Slice_cells_sorted Tryz.laysGg6 27 74 pairsT pairT (by kernel_rfl) (by kernel_rfl) (by kernel_rfl) (by kernel_rfl) 25 (fun _ => by kernel_rfl) encP 2 encP_len (by kernel_rfl) (fun _ => by kernel_rfl)
    encP_one ltP swo_ltP 80 _
    (enters_of Tryz.func80 (by kernel_rfl) rfl) blk off c d h2 hsz 120 (by rw [pairT_k _ h2]; kernel_rfl) false
    (fun args W => run_callFunc_extern Tryz.func120 (by kernel_rfl) (by kernel_rfl) (by kernel_rfl) (e := Extern.ReflectliteSwapper.swap false) (by kernel_rfl) args W) w hless hH hblk
set_option maxRecDepth 100000 in
theorem told_sort1 (p : Option Addr) (n c : Nat) (h1 : n ≤ 1) (lb : Array Value) (w : World) :
    Calls Tryz.prog 70 #[.iface 27 (.slice p n c), .func (.func 80) #[] lb] w fun e w' => e = .returned (.tuple #[]) ∧ ∃ os, w' = grow w os := by
  have h : ∃ f, Tryz.prog.funcs.findIdx? (·.name == "internal/reflectlite" ++ ".Swapper$" ++ toString (Lib.swapperK n pairT 25)) = some f := by
    rcases Nat.eq_zero_or_pos n with rfl | hn
    · exact ⟨112, by kernel_rfl⟩
    · obtain rfl : n = 1 := by omega
      exact ⟨113, by kernel_rfl⟩
  obtain ⟨f, hf⟩ := h
  exact Any.sort_Slice_tiny Tryz.laysGg6 27 74 pairsT pairT (by kernel_rfl) (by kernel_rfl) (by kernel_rfl) (by kernel_rfl) 25 (fun _ => by kernel_rfl) p n c h1 f hf (.func 80) #[] lb w
end Go.Proofs.YtididniafloogaaGreatDoor.Maps
