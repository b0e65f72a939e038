/- Parts of the proof, laid vq: Shelf, SortStr, Flat, SortOwn, FromMap, FromAll, Back, ToMap, ToAny, ImplValue, MergeRep, MergeAt, QSpecPlace, QSpecGet, QSpecHas, QSpecSayIn, QLawsZzFits2, QLawsZzFits1. -/
import Derived.Shelf.Small.Bits
import Derived.Shelf.Small.Wraps
import Derived.Shelf.Strconv.Itoa0
import Derived.Shelf.Strconv.Itoa1
import Derived.Shelf.LaysM
import Derived.Shelf.Strconv.Itoa2
import Derived.Shelf.Strconv.Itoa3
import Derived.Shelf.Sort.Plain
import Derived.Shelf.Slices.In.SortNone
import Derived.Shelf.Slices.In.SortNone2
import Derived.Test.YtnmhjndjfblebaaGreatDoorProg
import Derived.Test.YtnmhjndjfblebaaGreatDoorY3
import Derived.Sort.OwnSorted
import Derived.Shelf.SlSortFuncK.WholeK
import Derived.Shelf.GgSortFunc.Tiny
import Derived.Laws.IdiomCopy
set_option linter.unusedVariables false
set_option linter.unusedSimpArgs false
namespace Go.Proofs
open Go.Shelf
def Tryz.lays192_ren : Go.Shelf.Ren := ⟨fun | 192 => 71 | 190 => 84 | 125 => 97 | 258 => 96 | 128 => 112 | 129 => 113 | 302 => 103 | 303 => 104 | 304 => 105 | 305 => 106 | 306 => 107 | 307 => 108 | 308 => 109 | 309 => 110 | 310 => 111 | 333 => 124 | 329 => 125 | 330 => 126 | 334 => 127 | 335 => 128 | 336 => 101 | 344 => 136 | n => n,fun | 31 => 22 | 0 => 0 | 9 => 9 | 3 => 3 | 46 => 121 | 51 => 133 | 53 => 77 | 4 => 4 | 183 => 126 | 182 => 125 | 131 => 53 | 5 => 5 | 218 => 141 | 222 => 145 | 228 => 153 | 229 => 154 | n => n,fun | n => n⟩
theorem Tryz.lays192 : Go.Proofs.Lays.n192 Tryz.prog Tryz.lays192_ren := {
 mixed := by kernel_rfl
 f125 := Tryz.func97.trans (congrArg some (by kernel_rfl))
 f128 := Tryz.func112.trans (congrArg some (by kernel_rfl))
 f129 := Tryz.func113.trans (congrArg some (by kernel_rfl))
 f190 := Tryz.func84.trans (congrArg some (by kernel_rfl))
 f192 := Tryz.func71.trans (congrArg some (by kernel_rfl))
 f258 := Tryz.func96.trans (congrArg some (by kernel_rfl))
 f302 := Tryz.func103.trans (congrArg some (by kernel_rfl))
 f303 := Tryz.func104.trans (congrArg some (by kernel_rfl))
 f304 := Tryz.func105.trans (congrArg some (by kernel_rfl))
 f305 := Tryz.func106.trans (congrArg some (by kernel_rfl))
 f306 := Tryz.func107.trans (congrArg some (by kernel_rfl))
 f307 := Tryz.func108.trans (congrArg some (by kernel_rfl))
 f308 := Tryz.func109.trans (congrArg some (by kernel_rfl))
 f309 := Tryz.func110.trans (congrArg some (by kernel_rfl))
 f310 := Tryz.func111.trans (congrArg some (by kernel_rfl))
 f329 := Tryz.func125.trans (congrArg some (by kernel_rfl))
 f330 := Tryz.func126.trans (congrArg some (by kernel_rfl))
 f333 := Tryz.func124.trans (congrArg some (by kernel_rfl))
 f334 := Tryz.func127.trans (congrArg some (by kernel_rfl))
 f335 := Tryz.func128.trans (congrArg some (by kernel_rfl))
 f336 := Tryz.func101.trans (congrArg some (by kernel_rfl))
 f344 := Tryz.func136.trans (congrArg some (by kernel_rfl))
 t0 := Tryz.underlying0
 a0 := Tryz.isAgg0
 z0 := Tryz.sizeOf0
 v0 := Tryz.zeroValue0
 t3 := Tryz.underlying3
 a3 := Tryz.isAgg3
 z3 := Tryz.sizeOf3
 v3 := Tryz.zeroValue3
 t4 := Tryz.underlying4
 a4 := Tryz.isAgg4
 z4 := Tryz.sizeOf4
 v4 := Tryz.zeroValue4
 t5 := Tryz.underlying5
 a5 := Tryz.isAgg5
 z5 := Tryz.sizeOf5
 v5 := Tryz.zeroValue5
 t9 := Tryz.underlying9
 a9 := Tryz.isAgg9
 z9 := Tryz.sizeOf9
 v9 := Tryz.zeroValue9
 t31 := Tryz.underlying22
 a31 := Tryz.isAgg22
 z31 := Tryz.sizeOf22
 v31 := Tryz.zeroValue22
 t46 := Tryz.underlying121
 a46 := Tryz.isAgg121
 z46 := Tryz.sizeOf121
 v46 := Tryz.zeroValue121
 t51 := Tryz.underlying133
 a51 := Tryz.isAgg133
 z51 := Tryz.sizeOf133
 v51 := Tryz.zeroValue133
 t53 := Tryz.underlying77
 a53 := Tryz.isAgg77
 z53 := Tryz.sizeOf77
 v53 := Tryz.zeroValue77
 t131 := Tryz.underlying53
 a131 := Tryz.isAgg53
 z131 := Tryz.sizeOf53
 v131 := Tryz.zeroValue53
 t182 := Tryz.underlying125
 a182 := Tryz.isAgg125
 z182 := Tryz.sizeOf125
 v182 := Tryz.zeroValue125
 t183 := Tryz.underlying126
 a183 := Tryz.isAgg126
 z183 := Tryz.sizeOf126
 v183 := Tryz.zeroValue126
 t218 := Tryz.underlying141
 a218 := Tryz.isAgg141
 z218 := Tryz.sizeOf141
 v218 := Tryz.zeroValue141
 t222 := Tryz.underlying145
 a222 := Tryz.isAgg145
 z222 := Tryz.sizeOf145
 v222 := Tryz.zeroValue145
 t228 := Tryz.underlying153
 a228 := Tryz.isAgg153
 z228 := Tryz.sizeOf153
 v228 := Tryz.zeroValue153
 t229 := Tryz.underlying154
 a229 := Tryz.isAgg154
 z229 := Tryz.sizeOf154
 v229 := Tryz.zeroValue154 }
open Go.Sort Go.RowKit in
theorem Tryz.sort_Strings (blk off cap : Nat) (ss : List (List UInt8)) (w : World) (hH : Holds encStr w blk off ss.toArray) (hblk : blk < w.heap.size) (hsz : ss.length < 4611686018427387904) :
  Calls Tryz.prog 71 #[.slice (some ⟨blk,off,none⟩) ss.length cap] w fun e w' =>
   e = .returned (.tuple #[]) ∧ ∃ n os,w' = grow (putRow encStr (Sort.ahead w n) blk off (ss.mergeSort fun x y => decide (x ≤ y)).toArray) os := Any.sort_Strings Tryz.lays192 blk off cap ss w hH hblk hsz
open Go.RowKit Go.Sort in
theorem Tryz.sort_Strings_none (p : Option Addr) (cap : Nat) (w : World) :
  Calls Tryz.prog 71 #[.slice p 0 cap] w fun e w' => e = .returned (.tuple #[]) ∧ w' = w := Any.sort_Strings_none Tryz.lays192 p cap w
end Go.Proofs
namespace Go.Proofs.YtnmhjndjfblebaaGreatDoor.Flat
open Go.RowKit Go.Proofs.YtnmhjndjfblebaaGreatDoorW.PrintWords Go.Proofs.YtnmhjndjfblebaaGreatDoor.Str Go.Sort
def flat {α : Type} (enc : α → List Value) (k : Nat) (hk : ∀ x,(enc x).length = k) (h1 : ∀ x, ∀ u ∈ enc x,u.oneCell' = true) : Kd α where
 sz := k
 E := []
 K := fun _ x cs => cs = enc x
 M := fun _ _ _ x cs => cs = enc x
 K_len := fun h => by rw [h]; exact hk _
 K_one := fun h u hu => by rw [h] at hu; exact h1 _ u hu
 K_below := fun _ h => h
 K_of_M := fun h => h
 M_mono := fun _ h => h
 M_bound := fun h => h
 M_move := fun _ h => h
 M_lower := fun _ h => h
section
variable {α : Type} {enc : α → List Value} {k : Nat} {hk : ∀ x,(enc x).length = k} {h1 : ∀ x, ∀ u ∈ enc x,u.oneCell' = true}
theorem reps_flat (hk : ∀ x,(enc x).length = k) : ∀ (xs : List α) (cs : List Value),Reps (fun x cs => cs = enc x) k xs cs → cs = xs.flatMap enc
 | [],cs,h => by
  have := h.1
  simp at this
  exact this
 | x :: r,cs,h => by
  have h0 := h.2 0 x rfl; simp only [Nat.zero_mul,List.drop_zero] at h0
  have hr : Reps (fun x cs => cs = enc x) k r (cs.drop k) := by
   refine ⟨by rw [List.length_drop,h.1,List.length_cons,Nat.add_mul,Nat.one_mul]; omega,fun j p hp => ?_⟩; have := h.2 (j + 1) p (by simpa using hp); rw [List.drop_drop,show k + j * k = (j + 1) * k by rw [Nat.add_mul,Nat.one_mul,Nat.add_comm]]; exact this
  have ih := reps_flat hk r _ hr; rw [List.flatMap_cons, ← h0, ← ih,List.take_append_drop]
theorem flat_reps (hk : ∀ x,(enc x).length = k) (xs : List α) : Reps (fun x cs => cs = enc x) k xs (xs.flatMap enc) := by
 have go : ∀ (r l : List α),Reps (fun x cs => cs = enc x) k l (l.flatMap enc) → Reps (fun x cs => cs = enc x) k (l ++ r) ((l ++ r).flatMap enc) := by
  intro r
  induction r with
  | nil => intro l h; simpa using h
  | cons p r ih =>
   intro l h
   have := ih (l ++ [p]) (by
    rw [List.flatMap_append]
    have : [p].flatMap enc = enc p := by simp
    rw [this]
    exact Reps.snoc h rfl (hk p))
   simpa using this
 exact go xs [] (Reps.none _ _)
theorem R_flat {e : Nat} {w : World} {base : Nat} {ok : Nat → Prop} {v : Value} {xs : List α} :
  (flat enc k hk h1).R e w base ok v xs ↔ (∀ b,v.ownBlock = some b → ok b) ∧ w.ownsRow base e k v xs.length (xs.flatMap enc) := by
 constructor
 ·rintro ⟨h0,inner,ho,hr⟩; have := reps_flat hk _ _ hr; subst this; exact ⟨h0,ho⟩
 ·rintro ⟨h0,ho⟩; exact ⟨h0, _,ho,flat_reps hk xs⟩
end
end Go.Proofs.YtnmhjndjfblebaaGreatDoor.Flat
namespace Go.Proofs.YtnmhjndjfblebaaGreatDoor.Tr
open Go.RowKit Go.Proofs.YtnmhjndjfblebaaGreatDoorW.PrintWords Go.Proofs.YtnmhjndjfblebaaGreatDoorW.PrintLast Go.Proofs.YtnmhjndjfblebaaGreatDoor.Str Go.Proofs.YtnmhjndjfblebaaGreatDoor.Kit Go.Proofs.YtnmhjndjfblebaaGreatDoor.Flat Go.Proofs.YtnmhjndjfblebaaGreatDoor.MapV Go.Proofs.YtnmhjndjfblebaaGreatDoor.Frame Go.Sort
def Srt (ys : List BA) : Prop := ys.Pairwise fun x y => ¬ lb y < lb x
theorem srt_unique {xs ys : List BA} (hx : Srt xs) (hy : Srt ys) (hp : xs.Perm ys) : xs = ys := by
 refine List.Perm.eq_of_pairwise (le := fun x y => ¬ lb y < lb x) (fun a b _ _ h1 h2 => ?_) hx hy hp
 rcases lt_total (lb a) (lb b) with e | e | e
 ·exact absurd e h2
 ·exact lb_inj e
 ·exact absurd e h1
theorem fm_map (f : BA → Value) : ∀ xs : List BA,(xs.flatMap fun x => [f x]) = xs.map f
 | [] => rfl
 | x :: r => by rw [List.flatMap_cons,fm_map f r]; rfl
theorem enc_lb (ys : List BA) : (ys.map lb).map encStr = ys.map Value.string := by
 rw [List.map_map]; exact List.map_congr_left (fun y _ => by show Value.string ⟨(lb y).toArray⟩ = _; rw [mk_lb])
def ofL (l : List (List UInt8)) : List BA := l.map fun b => ⟨b.toArray⟩
theorem ofL_enc (l : List (List UInt8)) : (ofL l).map Value.string = l.map encStr := by unfold ofL; rw [List.map_map]; rfl
theorem ofL_lb (ys : List BA) : ofL (ys.map lb) = ys := by
 unfold ofL
 rw [List.map_map]; exact (List.map_congr_left (fun y _ => mk_lb y)).trans (List.map_id ys)
theorem ofL_srt {l : List (List UInt8)} (h : l.Pairwise fun x y => decide (x ≤ y) = true) : Srt (ofL l) := by
 unfold Srt ofL
 rw [List.pairwise_map]; refine h.imp (fun {x y} hxy => ?_); rw [lb_mk,lb_mk]; exact List.not_lt.2 (of_decide_eq_true hxy)
set_option maxHeartbeats 800000 in
theorem sort_own {base g n c : Nat} {ys : List BA} (w : World) (h : Kd.string.R 9 w base (fun _ => True) (.slice (some ⟨g,0,none⟩) n c) ys) (hn : ys.length ≤ 1759218604400) :
  Calls Tryz.prog 71 #[.slice (some ⟨g,0,none⟩) n c] w fun e w' => e = .returned (.tuple #[]) ∧ ∃ zs,Kd.string.R 9 w' base (fun _ => True) (.slice (some ⟨g,0,none⟩) n c) zs ∧ zs.Perm ys ∧ Srt zs ∧ w.grownBy w' (some g) := by
 have h' : (flat (fun x : BA => [Value.string x]) 1 (fun _ => rfl) (fun x u hu => by rw [List.mem_singleton.1 hu]; rfl)).R 9 w base (fun _ => True) (.slice (some ⟨g,0,none⟩) n c) ys := h
 rcases (R_flat.1 h').2.2 with ⟨hv, _⟩ | ⟨g', cap,cur,hv,hgb,hblk,hle,hcap,hcsz,htk⟩
 ·cases hv
 injection hv with e1 e2 e3
 injection e1 with e1
 injection e1 with e1
 subst e1 e2 e3; rw [fm_map,Nat.mul_one, ← enc_lb] at htk; have hL : (ys.map lb).length = ys.length := List.length_map _; have hH := holds_of_block (ss := ys.map lb) hblk (by rw [hL]; exact htk); have CS := Any.sort_Strings Tryz.lays192 g 0 c (ys.map lb) w hH (zn hblk) (by rw [hL]; omega); rw [hL] at CS; refine CS.mono ?_; rintro e w1 ⟨rfl,m,os,rfl⟩
 have hls : ((ys.map lb).mergeSort fun x y => decide (x ≤ y)).length = (ys.map lb).length := by rw [List.length_mergeSort]
 have HO := ownsRow_sorted (n := m) (os := os) hls hgb hblk (by rw [hL]; exact hle) hcap hcsz; have HG := grownBy_sorted (w := w) (g := g) (n := m) (os := os) ((ys.map lb).mergeSort fun x y => decide (x ≤ y)).toArray; refine ⟨rfl,ofL ((ys.map lb).mergeSort fun x y => decide (x ≤ y)), ?_, ?_, ?_,HG⟩
 ·refine (show (flat (fun x : BA => [Value.string x]) 1 (fun _ => rfl) (fun x u hu => by rw [List.mem_singleton.1 hu]; rfl)).R 9 _ base (fun _ => True) (.slice (some ⟨g,0,none⟩) ys.length c) (ofL ((ys.map lb).mergeSort fun x y => decide (x ≤ y))) from R_flat.2 ⟨fun _ _ => trivial, ?_⟩)
  have hl2 : (ofL ((ys.map lb).mergeSort fun x y => decide (x ≤ y))).length = ys.length := by unfold ofL; rw [List.length_map,hls,hL]
  rw [fm_map,ofL_enc,hl2]; have := HO; rw [hL] at this; exact this
 ·have := (List.mergeSort_perm (ys.map lb) (fun x y => decide (x ≤ y))).map (fun b : List UInt8 => (⟨b.toArray⟩ : BA)); have e : (ys.map lb).map (fun b : List UInt8 => (⟨b.toArray⟩ : BA)) = ys := ofL_lb ys; rw [e] at this; exact this
 ·refine ofL_srt (List.pairwise_mergeSort (fun a b c h1 h2 => ?_) (fun a b => ?_) _)
  ·exact decide_eq_true (List.le_trans (of_decide_eq_true h1) (of_decide_eq_true h2))
  ·rcases List.le_total a b with h | h
   ·simp [h]
   ·simp [h]
end Go.Proofs.YtnmhjndjfblebaaGreatDoor.Tr
namespace Go.Proofs.YtnmhjndjfblebaaGreatDoor.Tr
open Go.RowKit Go.Proofs.YtnmhjndjfblebaaGreatDoorW.PrintWords Go.Proofs.YtnmhjndjfblebaaGreatDoorW.PrintLast Go.Proofs.YtnmhjndjfblebaaGreatDoor.Str Go.Proofs.YtnmhjndjfblebaaGreatDoor.Kit Go.Proofs.YtnmhjndjfblebaaGreatDoor.Flat Go.Proofs.YtnmhjndjfblebaaGreatDoor.MapV Go.Proofs.YtnmhjndjfblebaaGreatDoor.Frame Go.Proofs.YtnmhjndjfblebaaGreatDoor.PS
theorem sort_any {base : Nat} {v : Value} {ys : List BA} (w : World) (h : Kd.string.R 9 w base (fun _ => True) v ys) (hn : ys.length ≤ 1759218604400) :
  Calls Tryz.prog 71 #[v] w fun e w' => e = .returned (.tuple #[]) ∧ ∃ zs,Kd.string.R 9 w' base (fun _ => True) v zs ∧ zs.Perm ys ∧ Srt zs ∧ w.grownBy w' v.ownBlock := by
 obtain ⟨A,c,rfl⟩ := Kd.R_slice h
 rcases Kd.R_base2 h with hb | ⟨k,hk, _⟩
 ·have h0 : ys = [] := by
   obtain ⟨_,inner,ho,hr⟩ := h
   rcases ho.2 with ⟨hv,hi⟩ | ⟨g,cap,cur,hv, _⟩
   ·injection hv with _ e2 _
    exact List.length_eq_zero_iff.1 e2
   ·rw [hv] at hb
    simp [Value.ownBlock] at hb
  subst h0; refine (Any.sort_Strings_none Tryz.lays192 A c w).mono ?_; rintro e w' ⟨rfl,rfl⟩; exact ⟨rfl, [],h,List.Perm.refl _,List.Pairwise.nil,⟨rfl,rfl,rfl,Nat.le_refl _,fun _ _ _ => rfl⟩⟩
 ·obtain ⟨g,rfl⟩ : ∃ g,A = some ⟨g,0,none⟩ := by
   obtain ⟨_,inner,ho,hr⟩ := h
   rcases ho.2 with ⟨hv,hi⟩ | ⟨g,cap,cur,hv, _⟩
   ·rw [hv] at hk
    simp [Value.ownBlock] at hk
   ·injection hv with e1 _ _
    exact ⟨g,e1⟩
  exact sort_own w h hn
theorem left_same' {w w' : World} {b r : Nat} (hb : w'.heap[b]? = w.heap[b]?) (hr : w'.heap[r]? = w.heap[r]?) : w'.rangeLeft b r = w.rangeLeft b r := by
 unfold World.rangeLeft
 rw [hb,hr]
theorem str_own {e : TypeId} {w : World} {base : Nat} {ok : Nat → Prop} {v : Value} {xs : List BA} (h : Kd.string.R e w base ok v xs) : Kd.string.R e w base (fun k => v.ownBlock = some k) v xs := by
 have h' : (flat (fun x : BA => [Value.string x]) 1 (fun _ => rfl) (fun x u hu => by rw [List.mem_singleton.1 hu]; rfl)).R e w base ok v xs := h; exact (show (flat (fun x : BA => [Value.string x]) 1 (fun _ => rfl) (fun x u hu => by rw [List.mem_singleton.1 hu]; rfl)).R e w base (fun k => v.ownBlock = some k) v xs from R_flat.2 ⟨fun b hb => hb,(R_flat.1 h').2⟩)
def kOf (l : List (Bs × Value)) : List BA := l.map (fun p => ⟨p.1.toArray⟩)
theorem kOf_length (l : List (Bs × Value)) : (kOf l).length = l.length := List.length_map ..
theorem kOf_srt {f : List (Bs × Value)} (h : Rises f) : Srt (kOf f) := by
 unfold Srt kOf
 rw [List.pairwise_map]; refine List.Pairwise.imp (fun {x y} hxy => ?_) h; rw [lb_mk,lb_mk]
 exact fun h2 => Std.lt_irrefl (Std.lt_trans hxy h2)
set_option maxHeartbeats 6400000 in
set_option maxRecDepth 100000 in
theorem from_map (zs : List (Bs × En)) (b : Nat) (w : World) (hn : zs.length ≤ 1759218604400) (hm : MapA w b (zs.map (fun z => (z.1,z.2.1)))) (hz : ∀ z,z ∈ zs → ∃ F,AR w z.2.1 z.2.2.1 F) (hch : ∀ z,z ∈ zs → FromAt z.2.2.1) :
  Calls Tryz.prog 54 #[.map (some b)] w (Told w (valOf (.map (zs.map (fun z => (z.1,z.2.2.1)))))) := by
 have HK := aM (MapE.key_le akey_u hm); have HRS := aM (MapE.rises (Go.Maps.string_keyed akey_u) hm); have HFL := aM (show (zs.map (fun z => (z.1,z.2.1))).length = zs.length from List.length_map ..); have HM := aM hm; have HZ := aM hz; have HCH := aM hch; have hbl := hm.lt; have HF := aM (show zs.map (fun z => (z.1,z.2.1)) = zs.map (fun z => (z.1,z.2.1)) from rfl); generalize hf : zs.map (fun z => (z.1,z.2.1)) = f at HK HRS HFL HM HF; clear HF; have HF := aM hf; clear hf hm hz hch; have hb0 := zb (Below.refl w.heap.size w) (.cells #[.int .i64 0, .int .i64 0, .string ⟨#[]⟩, .slice none 0 0, .slice none 0 0] 31); have hB0 := zb hb0 (.cells #[.int .i64 0, .int .i64 0, .string ⟨#[]⟩, .slice none 0 0, .slice none 0 0] 31); have hZ0 : ((w.alloc (.cells #[.int .i64 0, .int .i64 0, .string ⟨#[]⟩, .slice none 0 0, .slice none 0 0] 31)).alloc (.cells #[.int .i64 0, .int .i64 0, .string ⟨#[]⟩, .slice none 0 0, .slice none 0 0] 31)).heap[w.heap.size]? = some (.cells zI 31 (0,0)) := ze (yw _ _) _; have h1 := yw (w.alloc (.cells #[.int .i64 0, .int .i64 0, .string ⟨#[]⟩, .slice none 0 0, .slice none 0 0] 31)) (.cells #[.int .i64 0, .int .i64 0, .string ⟨#[]⟩, .slice none 0 0, .slice none 0 0] 31); rw [World.size_alloc] at h1; have hg := yi ((w.alloc (.cells #[.int .i64 0, .int .i64 0, .string ⟨#[]⟩, .slice none 0 0, .slice none 0 0] 31)).alloc (.cells #[.int .i64 0, .int .i64 0, .string ⟨#[]⟩, .slice none 0 0, .slice none 0 0] 31)) (w.heap.size + 1) #[.int .i64 5, .int .i64 0, .string ⟨#[]⟩, .slice none 0 0, .slice none 0 0]; have HX1 := aM (setRow_heap _ (w.heap.size + 1) _ #[.int .i64 5, .int .i64 0, .string ⟨#[]⟩, .slice none 0 0, .slice none 0 0] _ _ h1); have HB1 := aM (zt hB0 (some (w.heap.size + 1)) hB0.size hg (fun k hk => by injection hk with hk; have h2 : w.heap.size + 1 = k := hk; omega)); have HZ1 := aM ((hg.block w.heap.size (zn hZ0) (fun e => by injection e with e; omega)).trans hZ0); have HM1 := aM (HM.out.below HB1.out)
 have hs1 : (((w.alloc (.cells #[.int .i64 0, .int .i64 0, .string ⟨#[]⟩, .slice none 0 0, .slice none 0 0] 31)).alloc (.cells #[.int .i64 0, .int .i64 0, .string ⟨#[]⟩, .slice none 0 0, .slice none 0 0] 31)).setRow (w.heap.size + 1) #[.int .i64 5, .int .i64 0, .string ⟨#[]⟩, .slice none 0 0, .slice none 0 0]).heap.size = w.heap.size + 2 := by simp [World.setRow]
 clear hb0 hB0 hZ0 hg
 go_enter Tryz.func54,Tryz.ntmps54
 go_wp2_with (first | (refine xo (.tmp 4) (.tmp 10) rfl rfl rfl rfl h1 ?_; generalize ((w.alloc (.cells #[.int .i64 0, .int .i64 0, .string ⟨#[]⟩, .slice none 0 0, .slice none 0 0] 31)).alloc (.cells #[.int .i64 0, .int .i64 0, .string ⟨#[]⟩, .slice none 0 0, .slice none 0 0] 31)).setRow (w.heap.size + 1) #[.int .i64 5, .int .i64 0, .string ⟨#[]⟩, .slice none 0 0, .slice none 0 0] = W1 at HX1 HB1 HZ1 HM1 hs1 ⊢; clear h1) | (at_range; refine range_mapE akey_u amap_u rfl _ rfl rfl HM1.out ?_; intro w0 hrg0 hg0 hs0; rw [hs1] at hrg0 hs0; have HR0 := aM hrg0; have HG0 := aM hg0; have HS0 := aM hs0; clear hrg0 hg0 hs0))
 go_frame
 rw [hs1]; have HX0 := aM ((HG0.out.block (w.heap.size + 1) (by omega) (by simp)).trans HX1.out); have HZ0 := aM ((HG0.out.block w.heap.size (by omega) (by simp)).trans HZ1.out); have HB0 := aM (zt HB1.out none HB1.out.size HG0.out (fun k hk => by cases hk)); have hs0 := HS0.out; clear HG0 HX1 HZ1 HB1 HM1 HS0
 go_loopw [5] (fun v5 wr => ∃ (dn lf : List (Bs × Value)) (A0 : Option Addr) (c0 : Nat),Aside0 (Ranges Tryz.prog 9 id wr b (w.heap.size + 2) f lf) ∧ Aside0 (wr.heap[w.heap.size + 1]? = some (.cells #[.int .i64 5, .int .i64 0, .string ⟨#[]⟩, .slice A0 dn.length c0, .slice none 0 0] 31 (0,0))) ∧ Aside0 (Kd.string.R 9 wr (w.heap.size + 3) (fun _ => True) (.slice A0 dn.length c0) (kOf dn)) ∧ Aside0 ((dn ++ lf).Perm f) ∧ Aside0 (Below w.heap.size w wr) ∧ Aside0 (wr.heap[w.heap.size]? = some (.cells zI 31 (0,0))) ∧ w.heap.size + 3 ≤ wr.heap.size) (fun _ wr => wr.rangeLeft b (w.heap.size + 2))
 case atStart => exact ⟨[],f,none,0,HR0,HX0,⟨Kd.R_nil _ _ _ _ _⟩,⟨List.Perm.refl _⟩,HB0,HZ0,by omega⟩
 case round =>
  clear HR0 HX0 HB0 HZ0 hs0; obtain ⟨dn,lf,A0,c0,HR,HX,HV,HP,HB,HZ0,hsz⟩ := hrel; have hcell : wr.cell? ⟨w.heap.size + 1,3,none⟩ = some (.slice A0 dn.length c0) := zu (i := 3) HX.out rfl
  have hlen : dn.length + lf.length = zs.length := by rw [← HFL.out, ← HP.out.length_eq,List.length_append]
  have HL := aM hlen; clear hlen
  go_wp2_with (first | (at_next; refine next_mapA akey_u rfl _ rfl rfl HR.out (fun hd => ?_) (fun x c w2 hx hen => ?_); rotate_left; (have HX2 := aM (show w2.heap[w.heap.size + 1]? = some (.cells #[.int .i64 5, .int .i64 0, .string ⟨#[]⟩, .slice A0 dn.length c0, .slice none 0 0] 31 (0,0)) from (hx.out.2.2.2.2.1.block _ (zn HX.out) (by simp)).trans HX.out)); (have hc2 : w2.cell? ⟨w.heap.size + 1,3,none⟩ = some (.slice A0 dn.length c0) := zu (i := 3) HX2.out rfl); (have HV2 := aM (Kd.R_mono (ok' := fun _ => True) (Kd.R_grown (Kd.R_bound HV.out) hx.out.2.2.2.2.1 (fun k hk e => by have h2 := Option.some.inj e; have h3 := hk.2.1; omega)) (fun _ _ => trivial))); (have HB2 := aM (zt HB.out (some (w.heap.size + 2)) HB.out.size hx.out.2.2.2.2.1 (fun k hk => by injection hk with hk; omega))); (have hsz2 : w.heap.size + 3 ≤ w2.heap.size := by have := hx.out.2.2.2.2.2; omega); (have hfit : ((kOf dn).length + 1) * 16 ≤ 140737488355328 := by rw [kOf_length]; have := HL.out; omega); rotate_right) | (at_builtin; refine Kd.R_append Kd.string (w0 := w2) (w.heap.size + 3) rfl (.tmp 18) (.tmp 20) 22 9 (.string ⟨#[]⟩) 16 rfl Tryz.underlying22 yy rfl (show 0 < 1 by decide) (by decide) (.slice A0 dn.length c0) (kOf dn) x [.string x] (fun _ => True) (fun _ => False) rfl rfl rfl (fun _ h => h.elim) (fun _ _ => trivial) HV2.out (Below.refl _ _) hsz2 hfit ?_; intro v1 w3 ho hb3 hg3 hat; obtain ⟨A1,c1,rfl⟩ := Kd.R_slice ho; have HV3 := aM ho; have HB3 := aM hb3; have HG3 := aM hg3; clear ho hb3 hg3 hat; have HX3 := aM ((HB3.out.block (w.heap.size + 1) (by omega)).trans HX2.out); have hc3 : w3.cell? ⟨w.heap.size + 1,3,none⟩ = some (.slice A0 dn.length c0) := zu (i := 3) HX3.out rfl; have hf3 := vk (i := 3) HX3.out))
  ·-- all have come: they are sorted; then a value each
   have hpf : dn.Perm f := by have := HP.out; rw [hd.out,List.append_nil] at this; exact this
   have hdl : dn.length = zs.length := by rw [← HFL.out]; exact hpf.length_eq
   have HPK := aM (show (kOf dn).Perm (kOf f) from hpf.map _); rw [hdl] at HX HV ⊢; clear hpf hd hcell HL HP HR hdl; refine (sort_any wr HV.out (by rw [HPK.out.length_eq,kOf_length,HFL.out]; exact hn)).mono ?_; rintro e w5 ⟨rfl,ys,hys,hpm,hsr,hg5⟩; obtain rfl : ys = kOf f := srt_unique hsr (kOf_srt HRS.out) (hpm.trans HPK.out)
   have hown : ∀ k,(Value.slice A0 zs.length c0).ownBlock = some k → w.heap.size + 3 ≤ k ∧ k < wr.heap.size := fun k hk => ⟨((Kd.R_bound HV.out).1 k hk).2.1,((Kd.R_bound HV.out).1 k hk).2.2.1⟩
   have hHX5 := (hg5.block (w.heap.size + 1) (by omega) (fun e => by have := hown _ e.symm; omega)).trans HX.out; have HX5 := aM hHX5; have HZ5 := aM ((hg5.block w.heap.size (by omega) (fun e => by have := hown _ e.symm; omega)).trans HZ0.out); have HB5 := aM (zt HB.out _ HB.out.size hg5 (fun k hk => by have := hown k hk; omega)); have HV5 := aM hys; have hc5 : w5.cell? ⟨w.heap.size + 1,3,none⟩ = some (.slice A0 zs.length c0) := zu (i := 3) hHX5 rfl; clear hys hpm hsr hown hHX5 HX HZ0 HB HV HPK hg5
   go_wp2
   go_loopw [29,7,8,9] (fun v29 v7 v8 v9 wq => ∃ (i : Nat) (A2 : Option Addr) (c2 : Nat),v29 = .int .i64 i ∧ i ≤ zs.length ∧ Aside0 (wq.heap[w.heap.size + 1]? = some (.cells #[.int .i64 5, .int .i64 0, .string ⟨#[]⟩, .slice A0 zs.length c0, .slice A2 i c2] 31 (0,0))) ∧ Aside0 (Kd.string.R 9 wq (w.heap.size + 3) (fun _ => True) (.slice A0 zs.length c0) (kOf f)) ∧ Aside0 (kI.R 31 wq (w.heap.size + 3) (fun k => some k ≠ (Value.slice A0 zs.length c0).ownBlock) (.slice A2 i c2) ((zs.take i).map (fun z => valOf z.2.2.1))) ∧ Aside0 (Below w.heap.size w wq) ∧ Aside0 (wq.heap[w.heap.size]? = some (.cells zI 31 (0,0)))) (fun v29 _ _ _ _ => zs.length - (intOf v29).toNat)
   case atStart => exact ⟨0,none,0,rfl,by omega,HX5,HV5,⟨Kd.R_nil _ _ _ _ _⟩,HB5,HZ5⟩
   case round =>
    clear HX5 HV5 HB5 HZ5 hc5; obtain ⟨i,A2,c2,rfl,hiv,HX,HV,HR,HB,HZ0⟩ := hrel
    have q0 : (0 : Int) ≤ (i : Int) := by omega
    have hown : ∀ k,(Value.slice A0 zs.length c0).ownBlock = some k → w.heap.size + 3 ≤ k ∧ k < wr.heap.size := fun k hk => ⟨((Kd.R_bound HV.out).1 k hk).2.1,((Kd.R_bound HV.out).1 k hk).2.2.1⟩
    by_cases hlv : i < zs.length
    ·have q2 : (i : Int) < (zs.length : Int) := by omega
     have hkl : (kOf f).length = zs.length := by rw [kOf_length,HFL.out]
     obtain ⟨hn0,hnc,hC⟩ := Kd.R_reads' HV.out; obtain ⟨kb,ko,rfl,hkb,hkc⟩ := strs_open hC (by omega); have hf1 : (zs[i]'hlv).1 = (zs[i]'hlv).1 := rfl
     have hfm : ((zs[i]'hlv).1,(zs[i]'hlv).2.1) ∈ f := by rw [← HF.out]; exact List.mem_map.2 ⟨zs[i]'hlv,List.getElem_mem hlv,rfl⟩
     have e0 : wr.cell? ⟨kb,ko + i,none⟩ = some (.string ⟨(zs[i]'hlv).1.toArray⟩) := by
      have h := hkc i (by omega)
      have h2 : (kOf f)[i]'(by omega) = ⟨(zs[i]'hlv).1.toArray⟩ := by
       have : f[i]'(by rw [HFL.out]; exact hlv) = ((zs[i]'hlv).1,(zs[i]'hlv).2.1) := by simp [← HF.out]
       unfold kOf
       rw [List.getElem_map,this]
      rw [h2] at h; exact h
     have hks : (⟨(zs[i]'hlv).1.toArray⟩ : BA).size ≤ maxLen := by have := HK.out _ hfm; simpa [ByteArray.size] using this
     have hlk := run_look_mapE (s := ⟨(zs[i]'hlv).1.toArray⟩) akey_u amap_u (Tryz.zeroValue20 wr) (HM.out.below HB.out) hks; rw [lb_mk,mget_of_mem HRS.out hfm] at hlk; have CA := aM (show ∀ (W : World) (hb : Below w.heap.size w W),Calls Tryz.prog 38 #[(zs[i]'hlv).2.1] W (Told W (valOf (zs[i]'hlv).2.2.1)) from fun W hb => by obtain ⟨F,hF⟩ := HZ.out zs[i] (List.getElem_mem hlv); exact HCH.out zs[i] (List.getElem_mem hlv) zs[i].2.1 _ W (hF.keep hb)); clear hkl hn0 hnc hC hkc hf1 hfm hks
     go_wp2_with fail
     refine (CA.out wr HB.out).mono ?_; rintro e w3 ⟨v3,v4,rfl,hv3,hv4,hb3⟩; have HXE := aM (show (zs.take (i + 1)).map (fun z => valOf z.2.2.1) = ((zs.take i).map (fun z => valOf z.2.2.1)) ++ [valOf (zs[i]'hlv).2.2.1] by rw [List.take_succ_eq_append_getElem hlv,List.map_append]; rfl); generalize valOf (zs[i]'hlv).2.2.1 = x at hv3 hv4 HXE; obtain ⟨x0,x1,x2,x3,x4⟩ := x; obtain ⟨A3,c3,rfl⟩ := Kd.R_slice hv3; obtain ⟨A4,c4,rfl⟩ := Kd.R_slice hv4; have hW := zb hb3 (.cells #[.int .i64 0, .int .i64 0, .string ⟨#[]⟩, .slice none 0 0, .slice none 0 0] 31); have h5 := yw w3 (.cells #[.int .i64 0, .int .i64 0, .string ⟨#[]⟩, .slice none 0 0, .slice none 0 0] 31); have hg5 := yi (w3.alloc (.cells #[.int .i64 0, .int .i64 0, .string ⟨#[]⟩, .slice none 0 0, .slice none 0 0] 31)) w3.heap.size #[.int .i64 x0, .int .i64 x1, .string x2, .slice A3 x3.length c3, .slice A4 x4.length c4]; have hb5 := zt hW (some w3.heap.size) hW.size hg5 (fun k hk => by injection hk with hk; have := hb3.size; omega); have h6 := setRow_heap _ w3.heap.size _ #[.int .i64 x0, .int .i64 x1, .string x2, .slice A3 x3.length c3, .slice A4 x4.length c4] _ _ h5
     have hm5 : ∀ k,k < w3.heap.size → ((w3.alloc (.cells #[.int .i64 0, .int .i64 0, .string ⟨#[]⟩, .slice none 0 0, .slice none 0 0] 31)).setRow w3.heap.size #[.int .i64 x0, .int .i64 x1, .string x2, .slice A3 x3.length c3, .slice A4 x4.length c4]).heap[k]? = w3.heap[k]? := fun k hk => (hg5.block k (by rw [World.size_alloc]; omega) (fun e => by injection e with e; omega)).trans ((zb (Below.refl w3.heap.size w3) _).block k hk)
     have hwr := (zn HX.out)
     have hwr2 : w.heap.size + 3 ≤ wr.heap.size := by have := hown kb rfl; omega
     have HX5 := aM ((hb5.block _ (zn HX.out)).trans HX.out); have x4_ := zu (i := 4) HX5.out rfl; have HZ5 := aM ((hb5.block _ (zn HZ0.out)).trans HZ0.out); have HV5 := aM (Kd.R_below HV.out hb5); have HR5 := aM (Kd.R_below HR.out hb5); have HB5 := aM (zm HB.out hb5)
     have HM5 := aM (k31_mkM ((w3.alloc (.cells #[.int .i64 0, .int .i64 0, .string ⟨#[]⟩, .slice none 0 0, .slice none 0 0] 31)).setRow w3.heap.size #[.int .i64 x0, .int .i64 x1, .string x2, .slice A3 x3.length c3, .slice A4 x4.length c4]) (w.heap.size + 3) (fun k => wr.heap.size ≤ k ∧ k < w3.heap.size) ⟨x0,x1,x2,x3,x4⟩
      (Kd.R_lower (Kd.R_move (Kd.R_mono (ok' := (fun k => wr.heap.size ≤ k ∧ k < w3.heap.size)) (Kd.R_bound hv3) (fun k hk => ⟨hk.2.1,hk.2.2.1⟩)) (fun k hk => hm5 k hk.2)) hwr2)
      (Kd.R_lower (Kd.R_move (Kd.R_mono (ok' := (fun k => wr.heap.size ≤ k ∧ k < w3.heap.size)) (Kd.R_bound hv4) (fun k hk => ⟨hk.2.1,hk.2.2.1⟩)) (fun k hk => hm5 k hk.2)) hwr2))
     have HOK := aM (show ∀ k,wr.heap.size ≤ k ∧ k < w3.heap.size → (some k ≠ (Value.slice (some ⟨kb,ko,none⟩) zs.length c0).ownBlock) ∧ some k ≠ (Value.slice A2 i c2).ownBlock from fun k hk => ⟨fun e => by have := hown k e.symm; omega,fun e => by have := ((Kd.R_bound HR.out).1 k e.symm).2.2.1; omega⟩); have hsz : w.heap.size + 3 ≤ ((w3.alloc (.cells #[.int .i64 0, .int .i64 0, .string ⟨#[]⟩, .slice none 0 0, .slice none 0 0] 31)).setRow w3.heap.size #[.int .i64 x0, .int .i64 x1, .string x2, .slice A3 x3.length c3, .slice A4 x4.length c4]).heap.size := Nat.le_trans hwr2 hb5.size
     have hfr : ∀ k,((w3.alloc (.cells #[.int .i64 0, .int .i64 0, .string ⟨#[]⟩, .slice none 0 0, .slice none 0 0] 31)).setRow w3.heap.size #[.int .i64 x0, .int .i64 x1, .string x2, .slice A3 x3.length c3, .slice A4 x4.length c4]).heap.size ≤ k → some k ≠ (Value.slice (some ⟨kb,ko,none⟩) zs.length c0).ownBlock := fun k hk e => by have h1 := hown k e.symm; have h2 := hb5.size; omega
     have HFR := aM hfr
     have hlow : ∀ k,(Value.slice (some ⟨kb,ko,none⟩) zs.length c0).ownBlock = some k → w.heap.size + 3 ≤ k := fun k hk => (hown k hk).1
     clear hv3 hv4 hW hg5 hb5 hm5 HX HV HR HB HZ0 hwr hwr2 hown hfr
     go_wp2_with (first | (refine xo (.tmp 8) (.tmp 38) rfl rfl rfl rfl h5 ?_; generalize (w3.alloc (.cells #[.int .i64 0, .int .i64 0, .string ⟨#[]⟩, .slice none 0 0, .slice none 0 0] 31)).setRow w3.heap.size #[.int .i64 x0, .int .i64 x1, .string x2, .slice A3 x3.length c3, .slice A4 x4.length c4] = W5 at h6 x4_ HX5 HZ5 HV5 HR5 HB5 HM5 HFR hsz ⊢; clear h5) | refine load_ival (.tmp 8) rfl rfl rfl h6 ?_ | refine Kd.R_append kI (w0 := W5) (w.heap.size + 3) rfl (.tmp 44) (.tmp 46) 29 31 (.agg #[.int .i64 0, .int .i64 0, .string ⟨#[]⟩, .slice none 0 0, .slice none 0 0]) 80 rfl Tryz.underlying29 info_iv rfl (show 0 < 5 by decide) (by decide) (.slice A2 i c2) ((zs.take i).map (fun z => valOf z.2.2.1)) ⟨x0,x1,x2,x3,x4⟩ _ (fun k => some k ≠ (Value.slice (some ⟨kb,ko,none⟩) zs.length c0).ownBlock) _ rfl rfl HM5.out HOK.out HFR.out HR5.out (Below.refl _ _) hsz (by rw [List.length_map,List.length_take]; omega) ?_)
     intro v1 w6 ho hb6 hg6 hat; rw [← List.map_take, ← HXE.out] at ho
     have hlen : ((zs.take (i + 1)).map (fun z => valOf z.2.2.1)).length = i + 1 := by rw [List.length_map,List.length_take]; omega
     obtain ⟨A5,c5,rfl⟩ := Kd.R_slice ho; rw [hlen] at ho hat ⊢; have hB6 := zt HB5.out (Value.slice A2 i c2).ownBlock HB5.out.size hg6 (fun k hk => by have := Kd.R_base HR5.out k hk; omega); have hX6 := (hb6.block (w.heap.size + 1) (by omega)).trans HX5.out; have hZ6 := (hb6.block w.heap.size (by omega)).trans HZ5.out; have hV6 := Kd.R_mono (ok' := fun _ => True) (Kd.R_grown (str_own HV5.out) hg6 (fun k hk e => HR5.out.1 k e.symm hk.symm)) (fun _ _ => trivial); have HX7 := aM (cb_set hX6 (i := 4) (.slice A5 (i + 1) c5)); have hg7 := yj w6 (w.heap.size + 1) 4 (.slice A5 (i + 1) c5); have HB7 := aM (zt hB6 (some (w.heap.size + 1)) hB6.size hg7 (fun k hk => by injection hk with hk; omega)); have HZ7 := aM ((hg7.block w.heap.size (zn hZ6) (fun e => by injection e with e; omega)).trans hZ6); have HV7 := aM (Kd.R_mono (ok' := fun _ => True) (Kd.R_grown (Kd.R_bound hV6) hg7 (fun k hk e => by have h2 := Option.some.inj e; have h3 := hk.2.1; omega)) (fun _ _ => trivial)); have HR7 := aM (Kd.R_mono (ok' := fun k => some k ≠ (Value.slice (some ⟨kb,ko,none⟩) zs.length c0).ownBlock) (Kd.R_move (Kd.R_bound ho) (fun k hk => hg7.block k hk.2.2.1 (fun e => by have h2 := Option.some.inj e; have h3 := hk.2.1; omega))) (fun _ hk => hk.1)); have y4 := zu (i := 4) hX6 rfl; have y5 := vk (i := 4) hX6; clear ho hat hlen hB6 hX6 hZ6 hV6 hb6 hg6 hg7 HX5 HZ5 HV5 HR5 HB5 HM5 HOK HXE CA x4_ h6 hsz HFR
     go_wp2
     go_roundw
     case rel => exact ⟨i + 1,A5,c5,by go_num,by omega,HX7,HV7,HR7,HB7,HZ7⟩
     case measure => simp [intOf]; omega
    ·have hin : i = zs.length := by omega
     subst hin; have hg8 := yi wr w.heap.size #[.int .i64 5, .int .i64 0, .string ⟨#[]⟩, .slice A0 zs.length c0, .slice A2 zs.length c2]; have HX8 := aM (setRow_heap _ w.heap.size _ #[.int .i64 5, .int .i64 0, .string ⟨#[]⟩, .slice A0 zs.length c0, .slice A2 zs.length c2] _ _ HZ0.out); have HB8 := aM (zt HB.out (some w.heap.size) HB.out.size hg8 (fun k hk => by injection hk with hk; omega)); have hR := HR.out; rw [List.take_length] at hR; have HR8 := aM (Kd.R_lower (base' := w.heap.size) (Kd.R_mono (ok' := fun _ => True) (Kd.R_move (Kd.R_bound hR) (fun k hk => hg8.block k hk.2.2.1 (fun e => by have h2 := Option.some.inj e; have h3 := hk.2.1; omega))) (fun _ _ => trivial)) (by omega))
     have hKO : kOf f = (zs.map (fun z => (z.1,z.2.2.1))).map (fun p => (⟨p.1.toArray⟩ : BA)) := by rw [← HF.out]; unfold kOf; rw [List.map_map,List.map_map]; rfl
     have HV8 := aM (Kd.R_lower (base' := w.heap.size) (Kd.R_mono (ok' := fun _ => True) (Kd.R_move (Kd.R_bound HV.out) (fun k hk => hg8.block k hk.2.2.1 (fun e => by have h2 := Option.some.inj e; have h3 := hk.2.1; omega))) (fun _ _ => trivial)) (by omega)); rw [hKO] at HV8; have h11 := HX.out; have h2 := HZ0.out; clear hR hg8 hown hKO
     go_wp2_with (first | refine load_ival (.tmp 4) rfl rfl rfl h11 ?_ | refine xo (.tmp 2) (.tmp 50) rfl rfl rfl rfl h2 ?_)
     exact bodyPost_ret (v := .tuple #[.agg #[.int .i64 5, .int .i64 0, .string ⟨#[]⟩, .slice A0 zs.length c0, .slice A2 zs.length c2], .bool true]) (told_row rfl rfl rfl HX8.out) rfl ⟨.slice A0 zs.length c0, .slice A2 zs.length c2,by simp [valOf],by simp only [valOf]; exact HV8.out,by simp only [valOf]; rw [valM_map,List.map_map]; exact HR8.out,HB8.out⟩
  ·-- a key more
   have hl : (kOf dn).length + 1 = (dn ++ [(lb x,c)]).length := by rw [kOf_length,List.length_append,List.length_singleton]
   have hk : kOf dn ++ [x] = kOf (dn ++ [(lb x,c)]) := by unfold kOf; rw [List.map_append]; simp
   have hown : ∀ k,(Value.slice A0 dn.length c0).ownBlock = some k → w.heap.size + 3 ≤ k := fun k hk => ((Kd.R_bound HV2.out).1 k hk).2.1
   have nb : ∀ j,j < w.heap.size + 3 → some j ≠ (Value.slice A0 dn.length c0).ownBlock := fun j hj e => by have := hown j e.symm; omega
   rw [hk] at HV3; rw [hl]; rw [show (kOf (dn ++ [(lb x,c)])).length = (dn ++ [(lb x,c)]).length from kOf_length _] at HV3; have hg7 := yj w3 (w.heap.size + 1) 3 (.slice A1 (dn ++ [(lb x,c)]).length c1); have HG7 := aM hg7; have hHB3 : Below w.heap.size w w3 := zt HB2.out _ HB2.out.size HG3.out (fun k hk => by have := hown k hk; omega); have hpm : lf.Perm ((lb x,c) :: mdel lf (lb x)) := rises_take ((HRS.out.sublist HR.out.sub).imp (fun {p q} h => lt_ne h)) hx.out.1; clear hl hk
   go_roundw
   case rel =>
    refine ⟨dn ++ [(lb x,c)],mdel lf (lb x),A1,c1,⟨?_⟩,⟨cb_set HX3.out _⟩,⟨?_⟩,⟨?_⟩,⟨?_⟩,⟨?_⟩, ?_⟩
    ·exact (hx.out.2.2.1.kept HG3.out (nb _ (by omega)) (nb _ (by omega))).kept hg7 (fun e => by have := Option.some.inj e; omega) (fun e => by have := Option.some.inj e; omega)
    ·exact Kd.R_mono (Kd.R_grown (Kd.R_bound HV3.out) hg7 (fun k hk e => by have h2 := Option.some.inj e; have h3 := hk.2.1; omega)) (fun _ _ => trivial)
    ·rw [List.append_assoc]; exact ((hpm.symm).append_left dn).trans HP.out
    ·exact zt hHB3 (some (w.heap.size + 1)) hHB3.size hg7 (fun k hk => by have := Option.some.inj hk; omega)
    ·exact (hg7.block w.heap.size (by have := HG3.out.size; omega) (fun e => by have := Option.some.inj e; omega)).trans ((HB3.out.block w.heap.size (by omega)).trans ((hx.out.2.2.2.2.1.block w.heap.size (by omega) (fun e => by have := Option.some.inj e; omega)).trans HZ0.out))
    ·have h1 := hg7.size; have h2 := HG3.out.size; omega
   case measure =>
    have e1 := left_same' (b := b) (r := w.heap.size + 2) (w := w2) (w' := w3.setCell ⟨w.heap.size + 1,3,none⟩ (.slice A1 (dn ++ [(lb x,c)]).length c1)) ?_ ?_
    ·rw [e1]; exact hx.out.2.2.2.1
    ·rw [hg7.block b (by have := hHB3.size; omega) (fun e => by have := Option.some.inj e; omega),HG3.out.block b (by omega) (nb _ (by omega))]
    ·rw [hg7.block _ (by have := HG3.out.size; omega) (fun e => by have := Option.some.inj e; omega),HG3.out.block _ (by omega) (nb _ (by omega))]
end Go.Proofs.YtnmhjndjfblebaaGreatDoor.Tr
namespace Go.Proofs.YtnmhjndjfblebaaGreatDoor.Tr
open Go.RowKit Go.Proofs.YtnmhjndjfblebaaGreatDoorW.PrintWords Go.Proofs.YtnmhjndjfblebaaGreatDoorW.PrintLast Go.Proofs.YtnmhjndjfblebaaGreatDoor.Str Go.Proofs.YtnmhjndjfblebaaGreatDoor.Kit Go.Proofs.YtnmhjndjfblebaaGreatDoor.MapV Go.Proofs.YtnmhjndjfblebaaGreatDoor.Frame Go.Proofs.YtnmhjndjfblebaaGreatDoor.PS
theorem t_map_bool (v : Value) (w : World) : (Instr.typeAssert (.iface 62 v) 20 4 true).run Tryz.prog w = .ok (.tuple #[.bool false, .bool false]) w := by kernel_rfl
theorem t_map_int (v : Value) (w : World) : (Instr.typeAssert (.iface 62 v) 20 3 true).run Tryz.prog w = .ok (.tuple #[.int .i64 0, .bool false]) w := by kernel_rfl
theorem t_map_i64 (v : Value) (w : World) : (Instr.typeAssert (.iface 62 v) 20 2 true).run Tryz.prog w = .ok (.tuple #[.int .i64 0, .bool false]) w := by kernel_rfl
theorem t_map_u64 (v : Value) (w : World) : (Instr.typeAssert (.iface 62 v) 20 77 true).run Tryz.prog w = .ok (.tuple #[.int .u64 0, .bool false]) w := by kernel_rfl
theorem t_map_str (v : Value) (w : World) : (Instr.typeAssert (.iface 62 v) 20 9 true).run Tryz.prog w = .ok (.tuple #[.string ⟨#[]⟩, .bool false]) w := by kernel_rfl
theorem t_map_lst (v : Value) (w : World) : (Instr.typeAssert (.iface 62 v) 20 44 true).run Tryz.prog w = .ok (.tuple #[.slice none 0 0, .bool false]) w := by kernel_rfl
theorem t_map_map (v : Value) (w : World) : (Instr.typeAssert (.iface 62 v) 20 62 true).run Tryz.prog w = .ok (.tuple #[v, .bool true]) w := by kernel_rfl
inductive FitsY : Y → Prop
 | null : FitsY .null
 | bool (b) : FitsY (.bool b)
 | int (n) : FitsY (.int n)
 | text (s) : FitsY (.text s)
 | list (l : List Y) (hl : l.length ≤ 1759218604400) (h : ∀ y,y ∈ l → FitsY y) : FitsY (.list l)
 | map (m : List (Bs × Y)) (hl : m.length ≤ 1759218604400) (hk : ∀ p,p ∈ m → p.1.length ≤ maxLen) (h : ∀ p,p ∈ m → FitsY p.2) : FitsY (.map m)
set_option maxHeartbeats 1600000 in
theorem from_amap (b : Nat) (w : World) (y : Y) (hm : ∀ W,Below w.heap.size w W → Calls Tryz.prog 54 #[.map (some b)] W (Told W (valOf y))) :
  Calls Tryz.prog 38 #[.iface 62 (.map (some b))] w (Told w (valOf y)) := by
 have f0 := t_map_bool; have f1 := t_map_int; have f2 := t_map_i64; have f3 := t_map_u64; have f4 := t_map_str; have f5 := t_map_lst; have f6 := t_map_map; have h0 := aM (yw w (.cells #[.int .i64 0, .int .i64 0, .string ⟨#[]⟩, .slice none 0 0, .slice none 0 0] 31)); have HB := aM (zb (Below.refl w.heap.size w) (.cells #[.int .i64 0, .int .i64 0, .string ⟨#[]⟩, .slice none 0 0, .slice none 0 0] 31)); have CM := aM (hm _ HB.out); clear hm; generalize valOf y = x at CM; obtain ⟨x0,x1,x2,x3,x4⟩ := x
 go_enter Tryz.func38,Tryz.ntmps38
 go_wp2_with fail
 refine CM.out.mono ?_; rintro e w3 ⟨v3,v4,rfl,hv3,hv4,hb3⟩; obtain ⟨A3,c3,rfl⟩ := Kd.R_slice hv3; obtain ⟨A4,c4,rfl⟩ := Kd.R_slice hv4; have h1 := (hb3.block _ (zn h0.out)).trans h0.out; have hg := yi w3 w.heap.size #[.int .i64 x0, .int .i64 x1, .string x2, .slice A3 x3.length c3, .slice A4 x4.length c4]; have HX := aM (setRow_heap _ w.heap.size _ #[.int .i64 x0, .int .i64 x1, .string x2, .slice A3 x3.length c3, .slice A4 x4.length c4] _ _ h1); have hb := zm HB.out hb3; have HB8 := aM (zt hb (some w.heap.size) hb.size hg (fun k hk => by have := Option.some.inj hk; omega)); have hbase := HB.out.size; have hlt := zn h0.out; have H3 := aM (Kd.R_lower (base' := w.heap.size) (Kd.R_mono (ok' := fun _ => True) (Kd.R_move (Kd.R_bound hv3) (fun k hk => hg.block k hk.2.2.1 (fun e => by have h2 := Option.some.inj e; have h3 := hk.2.1; omega))) (fun _ _ => trivial)) hbase); have H4 := aM (Kd.R_lower (base' := w.heap.size) (Kd.R_mono (ok' := fun _ => True) (Kd.R_move (Kd.R_bound hv4) (fun k hk => hg.block k hk.2.2.1 (fun e => by have h2 := Option.some.inj e; have h3 := hk.2.1; omega))) (fun _ _ => trivial)) hbase); clear hv3 hv4 hb3 hg hb hbase hlt HB h0 CM
 go_wp2_with (refine xo (.tmp 2) (.tmp 79) rfl rfl rfl rfl h1 ?_)
 exact bodyPost_ret (v := .tuple #[.agg #[.int .i64 x0, .int .i64 x1, .string x2, .slice A3 x3.length c3, .slice A4 x4.length c4], .bool true]) (told_row rfl rfl rfl HX.out) rfl ⟨.slice A3 x3.length c3, .slice A4 x4.length c4,rfl,H3.out,H4.out,HB8.out⟩
theorem from_any {y : Y} (h : FitsY y) : FromAt y := by
 induction h with
 | null => intro v F w ha; cases ha; exact from_null w
 | bool b =>
  intro v F w ha
  cases ha
  cases b
  ·exact from_bfalse w
  ·exact from_btrue w
 | int n => intro v F w ha; cases ha; exact from_int n w
 | text s => intro v F w ha; cases ha; exact from_text s w
 | list l hl h ih =>
  intro v F w ha
  cases ha with
  | list v zs _ _ hy hr hz hd hb hF =>
   subst hy; obtain ⟨A,c,rfl⟩ := Kd.R_slice hr; obtain ⟨hn,hc,hC⟩ := Kd.R_reads' hr; rw [List.length_map] at hC hl ⊢; exact from_list zs A c w hl hC hz (fun z hzz => ih z.2.1 (List.mem_map.2 ⟨z,hzz,rfl⟩))
 | map m hl hk h ih =>
  intro v F w ha
  cases ha with
  | map b zs _ _ hy hm hz hd hb hF =>
   subst hy; rw [List.length_map] at hl; exact from_amap b w _ (fun W hb => from_map zs b W hl (hm.below hb) (fun z hzz => ⟨_,(hz z hzz).keep hb⟩) (fun z hzz => ih (z.1,z.2.2.1) (List.mem_map.2 ⟨z,hzz,rfl⟩)))
end Go.Proofs.YtnmhjndjfblebaaGreatDoor.Tr
namespace Go.Proofs.YtnmhjndjfblebaaGreatDoor.Tr
open Go.RowKit Go.Proofs.YtnmhjndjfblebaaGreatDoorW.PrintWords Go.Proofs.YtnmhjndjfblebaaGreatDoor.Str Go.Proofs.YtnmhjndjfblebaaGreatDoor.Kit Go.Proofs.YtnmhjndjfblebaaGreatDoor.MapV Go.Proofs.YtnmhjndjfblebaaGreatDoor.Frame Go.Proofs.YtnmhjndjfblebaaGreatDoor.PS
theorem fold_mem {α : Type} : ∀ (l f : List (Bs × α)) (p : Bs × α),p ∈ l.foldl (fun f p => mput f p.1 p.2) f → p ∈ f ∨ p ∈ l
 | [],f,p,h => .inl h
 | q :: r,f,p,h => by
  rcases fold_mem r (mput f q.1 q.2) p h with h | h
  ·rcases mput_mem h with rfl | h
   ·exact .inr (by simp)
   ·exact .inl h
  ·exact .inr (by simp [h])
theorem fitM_mem {α : Type} {l : List (Bs × α)} {p : Bs × α} (h : p ∈ fitM l) : p ∈ l := by
 rcases fold_mem l [] p h with h | h
 ·simp at h
 ·exact h
inductive Norm : Y → Prop
 | null : Norm .null
 | bool (b) : Norm (.bool b)
 | int (n) : Norm (.int n)
 | text (s) : Norm (.text s)
 | list (l : List Y) (h : ∀ y,y ∈ l → Norm y) : Norm (.list l)
 | map (m : List (Bs × Y)) (hr : Rises m) (h : ∀ p,p ∈ m → Norm p.2) : Norm (.map m)
theorem mput_last {α : Type} {f : List (Bs × α)} {k : Bs} {v : α} (h : Rises (f ++ [(k,v)])) : mput f k v = f ++ [(k,v)] := by
 have hr : Rises f := h.sublist (List.sublist_append_left _ _)
 have hl : ∀ p ∈ f,p.1 < k := fun p hp => (List.pairwise_append.1 h).2.2 p hp (k,v) (by simp)
 refine rises_ext (mput_rises hr _ _) h (fun q => ?_); rw [mget_mput]
 by_cases hq : k = q
 ·subst hq; rw [if_pos rfl]; exact (mget_of_mem h (by simp)).symm
 ·rw [if_neg hq]
  cases hg : mget f q with
  | none =>
   cases hg2 : mget (f ++ [(k,v)]) q with
   | none => rfl
   | some u =>
    have := mget_some hg2
    rcases List.mem_append.1 this with h1 | h1
    ·exact absurd rfl (mget_none hg _ h1)
    ·simp at h1
     exact absurd h1.1.symm hq
  | some u => exact (mget_of_mem h (by simp [mget_some hg])).symm
theorem fitM_rises_aux {α : Type} : ∀ (l f : List (Bs × α)),Rises (f ++ l) → l.foldl (fun f p => mput f p.1 p.2) f = f ++ l
 | [],f, _ => by simp
 | (k,v) :: r,f,h => by
  have e : f ++ (k,v) :: r = (f ++ [(k,v)]) ++ r := by simp
  have h2 : mput f k v = f ++ [(k,v)] := mput_last (h.sublist (by rw [e]; exact List.sublist_append_left _ _)); rw [List.foldl_cons]
  show List.foldl _ (mput f k v) r = _
  rw [h2,fitM_rises_aux r _ (by rw [← e]; exact h),e]
theorem fitM_of_rises {α : Type} {m : List (Bs × α)} (h : Rises m) : fitM m = m := fitM_rises_aux m [] (by simpa using h)
theorem back {y : Y} (h : Norm y) : anyOf (valOf y) = y := by
 induction h with
 | null => simp [valOf,anyOf]
 | bool b => cases b <;> simp [valOf,anyOf]
 | int n => simp [valOf,anyOf]
 | text s => simp [valOf,anyOf]
 | list l h ih =>
  simp only [valOf,anyOf]; rw [if_neg (by decide),if_neg (by decide),if_neg (by decide),if_pos trivial,vu,valL_map,List.map_map]; exact congrArg Y.list ((List.map_congr_left (fun y hy => ih y hy)).trans (List.map_id l))
 | map m hr h ih =>
  simp only [valOf,anyOf]; rw [if_neg (by decide),if_neg (by decide),if_neg (by decide),if_neg (by decide),if_pos trivial,vu,valM_map,List.map_map,List.map_map]; have e1 : m.map (lb ∘ fun p => (⟨p.1.toArray⟩ : BA)) = m.map (fun p => p.1) := List.map_congr_left (fun p _ => lb_mk p.1); have e2 : m.map (anyOf ∘ fun p => valOf p.2) = m.map (fun p => p.2) := List.map_congr_left (fun p hp => ih p hp); rw [e1,e2,List.zip_map']; have e3 : m.map (fun p => (p.1,p.2)) = m := (List.map_congr_left (fun p _ => rfl)).trans (List.map_id m); rw [e3,fitM_of_rises hr]
theorem pairs_mem {ks : List BA} {vs : List VI} {p : Bs × Y} (h : p ∈ pairsOf ks vs) : ∃ v,v ∈ vs ∧ p.2 = anyOf v := by
 have h2 : p.2 ∈ anyL vs := (List.of_mem_zip (show (p.1,p.2) ∈ (ks.map lb).zip (anyL vs) from h)).2; rw [vu] at h2; obtain ⟨v,hv,he⟩ := List.mem_map.1 h2; exact ⟨v,hv,he.symm⟩
theorem small_fits {x : VI} (h : Small x) : FitsY (anyOf x) ∧ Norm (anyOf x) := by
 induction h with
 | mk x hk hkl hvl hv ih =>
  obtain ⟨k,n,t,ks,vs⟩ := x
  by_cases h1 : k = 1
  ·subst h1; simp only [anyOf]; exact ⟨.bool _, .bool _⟩
  by_cases h2 : k = 2
  ·subst h2; simp only [anyOf]; exact ⟨.int _, .int _⟩
  by_cases h3 : k = 3
  ·subst h3; simp only [anyOf]; exact ⟨.text _, .text _⟩
  by_cases h4 : k = 4
  ·subst h4
   have e : anyOf ⟨4,n,t,ks,vs⟩ = .list (anyL vs) := by simp [anyOf]
   rw [e,vu]; exact ⟨.list _ (by rw [List.length_map]; exact hvl) (fun y hy => by obtain ⟨v,hvv,rfl⟩ := List.mem_map.1 hy; exact (ih v hvv).1), .list _ (fun y hy => by obtain ⟨v,hvv,rfl⟩ := List.mem_map.1 hy; exact (ih v hvv).2)⟩
  by_cases h5 : k = 5
  ·subst h5
   have e : anyOf ⟨5,n,t,ks,vs⟩ = .map (fitM (pairsOf ks vs)) := by simp [anyOf,pairsOf]
   rw [e]; refine ⟨.map _ ?_ (fun p hp => ?_) (fun p hp => ?_), .map _ (fitM_rises _) (fun p hp => ?_)⟩
   ·have := fitM_length (pairsOf ks vs); rw [pairsOf_length] at this; have h6 : vs.length ≤ 1759218604400 := hvl
    omega
   ·have hz : p.1 ∈ ks.map lb := (List.of_mem_zip (show (p.1,p.2) ∈ (ks.map lb).zip (anyL vs) from fitM_mem hp)).1; obtain ⟨s,hs,he⟩ := List.mem_map.1 hz; rw [← he,xw]; exact hk s hs
   ·obtain ⟨v,hvv,he⟩ := pairs_mem (fitM_mem hp); rw [he]; exact (ih v hvv).1
   ·obtain ⟨v,hvv,he⟩ := pairs_mem (fitM_mem hp); rw [he]; exact (ih v hvv).2
  ·have e : anyOf ⟨k,n,t,ks,vs⟩ = .null := by simp [anyOf,h1,h2,h3,h4,h5]
   rw [e]; exact ⟨.null, .null⟩
end Go.Proofs.YtnmhjndjfblebaaGreatDoor.Tr
namespace Go.Proofs.YtnmhjndjfblebaaGreatDoor.Tr
open Go.RowKit Go.Proofs.YtnmhjndjfblebaaGreatDoorW.PrintWords Go.Proofs.YtnmhjndjfblebaaGreatDoorW.PrintLast Go.Proofs.YtnmhjndjfblebaaGreatDoor.Str Go.Proofs.YtnmhjndjfblebaaGreatDoor.Kit Go.Proofs.YtnmhjndjfblebaaGreatDoor.MapV Go.Proofs.YtnmhjndjfblebaaGreatDoor.Frame Go.Proofs.YtnmhjndjfblebaaGreatDoor.PS
def ToAnyAt (x : VI) : Prop := ∀ (A3 A4 : Option Addr) (c3 c4 : Nat) (w : World),x.f3.length ≤ c3 → Kd.string.C w A3 x.f3.length x.f3 → x.f4.length ≤ c4 → kI.C w A4 x.f4.length x.f4 →
  Calls Tryz.prog 21 #[.agg #[.int .i64 x.f0, .int .i64 x.f1, .string x.f2, .slice A3 x.f3.length c3, .slice A4 x.f4.length c4]] w (Made w (anyOf x))
set_option maxHeartbeats 6400000 in
set_option maxRecDepth 100000 in
theorem toMap_of (kd nm : Int) (t : BA) (ks : List BA) (vs : List VI) (hks : ∀ s,s ∈ ks → s.size ≤ maxLen) (hkl : ks.length ≤ 8796093022000) (hvl : vs.length ≤ 1759218604400) (hch : ∀ v,v ∈ vs → ToAnyAt v) (A3 A4 : Option Addr) (c3 c4 : Nat) (w : World) (hk : Kd.string.C w A3 ks.length ks) (hv : kI.C w A4 vs.length vs) :
  Calls Tryz.prog 43 #[.agg #[.int .i64 kd, .int .i64 nm, .string t, .slice A3 ks.length c3, .slice A4 vs.length c4]] w fun e w' => ∃ b,e = .returned (.map (some b)) ∧ AR w' (.iface 62 (.map (some b))) (.map (fitM (pairsOf ks vs))) (fun k => w.heap.size ≤ k ∧ k < w'.heap.size) ∧ Below w.heap.size w w' := by
 have HC := aM hch; have HK := aM hk; have HV := aM hv; have HKS := aM hks
 have hmm := fun (n : Int) (w : World) => run_makeHint (P := Tryz.prog) amap_u .i64 n w
 have hbx := zb (Below.refl w.heap.size w) (.cells #[.int .i64 kd, .int .i64 nm, .string t, .slice A3 ks.length c3, .slice A4 vs.length c4] 31); have HB0 := aM (zb hbx (.map #[] 0)); have HX0 := aM (show ((w.alloc (.cells #[.int .i64 kd, .int .i64 nm, .string t, .slice A3 ks.length c3, .slice A4 vs.length c4] 31)).alloc (.map #[] 0)).heap[w.heap.size]? = some (.cells #[.int .i64 kd, .int .i64 nm, .string t, .slice A3 ks.length c3, .slice A4 vs.length c4] 31 (0,0)) from ze (yw _ _) _); have hm0 := MapAt.made (w.alloc (.cells #[.int .i64 kd, .int .i64 nm, .string t, .slice A3 ks.length c3, .slice A4 vs.length c4] 31)); rw [World.size_alloc] at hm0; have HM0 := aM hm0; have HT0 := aM (show fitM ((pairsOf ks vs).take 0) = [] from rfl); clear hch hk hv hks hbx hm0
 go_enter Tryz.func43,Tryz.ntmps43
 go_wp2
 go_loopw [4] (fun v4 wr => ∃ i : Nat,v4 = .int .i64 i ∧ i ≤ ks.length ∧ i ≤ vs.length ∧ Aside0 (∃ zs,MapAt wr (w.heap.size + 1) zs (fitM ((pairsOf ks vs).take i))) ∧ Aside0 (Below w.heap.size w wr) ∧ Aside0 (wr.heap[w.heap.size]? = some (.cells #[.int .i64 kd, .int .i64 nm, .string t, .slice A3 ks.length c3, .slice A4 vs.length c4] 31 (0,0)))) (fun v4 _ => ks.length - (intOf v4).toNat)
 case atStart => exact ⟨0,rfl,by omega,by omega,⟨[],HM0.out⟩,HB0,HX0⟩
 case round =>
  clear HM0 HB0 HX0 HT0; obtain ⟨i,rfl,hik,hiv,HM,HB,HX⟩ := hrel; have x3 := zu (i := 3) HX.out rfl; have x4 := zu (i := 4) HX.out rfl
  have q0 : (0 : Int) ≤ (i : Int) := by omega
  by_cases hlk : i < ks.length
  ·by_cases hlv : i < vs.length
   ·have q1 : (i : Int) < (ks.length : Int) := by omega
    have q2 : (i : Int) < (vs.length : Int) := by omega
    have d1 : decide ((i : Int) < (ks.length : Int)) = true := decide_eq_true q1; have d2 : decide ((i : Int) < (vs.length : Int)) = true := decide_eq_true q2; obtain ⟨kb,ko,rfl,hkb,hkc⟩ := strs_open HK.out (by omega); obtain ⟨vb,vo,rfl,hvb,hvc⟩ := kI_at HV.out (by omega); have k0 := hkc i hlk; obtain ⟨B3,d3,B4,d4,e0,e1,e2,e3,e4,l3,g3,l4,g4⟩ := hvc i hlv; have HCH := aM (HC.out vs[i] (List.getElem_mem hlv)); have HKZ := aM (HKS.out ks[i] (List.getElem_mem hlk)); have HTK := aM (pairsOf_get hlk hlv); have HG := aM (And.intro l3 (And.intro g3 (And.intro l4 g4))); have n0 : wr.drew.cell? ⟨kb,ko + i,none⟩ = some (.string ks[i]) := zf HB.out k0; have y0 : wr.drew.cell? ⟨vb,vo + i * 5,none⟩ = some (.int .i64 vs[i].f0) := zf HB.out e0; have y1 : wr.drew.cell? ⟨vb,vo + i * 5 + 1,none⟩ = some (.int .i64 vs[i].f1) := zf HB.out e1; have y2 : wr.drew.cell? ⟨vb,vo + i * 5 + 2,none⟩ = some (.string vs[i].f2) := zf HB.out e2; have y3 : wr.drew.cell? ⟨vb,vo + i * 5 + 3,none⟩ = some (.slice B3 vs[i].f3.length d3) := zf HB.out e3; have y4 : wr.drew.cell? ⟨vb,vo + i * 5 + 4,none⟩ = some (.slice B4 vs[i].f4.length d4) := zf HB.out e4; have z3 : wr.drew.cell? ⟨w.heap.size,3,none⟩ = some (.slice (some ⟨kb,ko,none⟩) ks.length c3) := x3; have z4 : wr.drew.cell? ⟨w.heap.size,4,none⟩ = some (.slice (some ⟨vb,vo,none⟩) vs.length c4) := x4; have CA := aM (fun (W : World) (hb : Below w.heap.size w W) => HCH.out B3 B4 d3 d4 W HG.out.1 (Kd.C_below HG.out.2.1 hb) HG.out.2.2.1 (Kd.C_below HG.out.2.2.2 hb)); clear hkc hvc k0 e0 e1 e2 e3 e4 l3 g3 l4 g4 HCH HG; generalize ks[i] = key at n0 HTK HKZ; generalize vs[i] = v at y0 y1 y2 y3 y4 HTK CA; obtain ⟨x0,x1,x2,x3_,x4_⟩ := v
    obtain ⟨f,hf⟩ : ∃ f,fitM ((pairsOf ks vs).take i) = f := ⟨_,rfl⟩
    have HF := aM (show fitM ((pairsOf ks vs).take (i + 1)) = mput f (lb key) (anyOf ⟨x0,x1,x2,x3_,x4_⟩) by rw [HTK.out,fitM_snoc,hf])
    have hfl : f.length ≤ i := by
     rw [← hf]; exact Nat.le_trans (fitM_length _) (List.length_take_le _ _)
    rw [hf] at HM; clear hf HTK; generalize anyOf ⟨x0,x1,x2,x3_,x4_⟩ = yv at CA HF
    go_wp2_with fail
    refine xm (n := 13) (S := fun w' => w'.cell? ⟨w.heap.size,3,none⟩ = some (.slice (some ⟨kb,ko,none⟩) ks.length c3) ∧ w'.cell? ⟨w.heap.size,4,none⟩ = some (.slice (some ⟨vb,vo,none⟩) vs.length c4) ∧ w'.cell? ⟨kb,ko + i,none⟩ = some (.string key) ∧ w'.cell? ⟨vb,vo + i * 5,none⟩ = some (.int .i64 x0) ∧ w'.cell? ⟨vb,vo + i * 5 + 1,none⟩ = some (.int .i64 x1) ∧ w'.cell? ⟨vb,vo + i * 5 + 2,none⟩ = some (.string x2) ∧ w'.cell? ⟨vb,vo + i * 5 + 3,none⟩ = some (.slice B3 x3_.length d3) ∧ w'.cell? ⟨vb,vo + i * 5 + 4,none⟩ = some (.slice B4 x4_.length d4)) (ds := [12]) (bZ 13 0) (by kernel_rfl) rfl rfl ⟨z3,z4,n0,y0,y1,y2,y3,y4⟩ (fun hHeld => ?_); refine pU 0 (some 23) (bZ 13 1) rfl (by kernel_rfl) ?_; refine pU 1 (some 24) (bZ 13 3) rfl (by kernel_rfl) ?_; refine pU 3 (some 26) (bZ 13 11) rfl (by kernel_rfl) ?_; refine pU 6 (some 29) (bZ 13 75) rfl (by kernel_rfl) ?_; refine pU 8 (some 31) (bZ 13 331) rfl (by kernel_rfl) ?_; refine tU 2 (some 25) (bZ 13 335) rfl (by kernel_rfl) (Or.inl ⟨by rfl,by rintro w' ⟨s0,s1,s2,s3,s4,s5,s6,s7⟩; go_simp; with_reducible rfl⟩) hHeld ?_; refine pU 4 (some 27) (bZ 13 351) rfl (by kernel_rfl) ?_; refine tU 5 (some 28) (bZ 13 383) rfl (by kernel_rfl) (Or.inl ⟨by rfl,by rintro w' ⟨s0,s1,s2,s3,s4,s5,s6,s7⟩; go_simp; with_reducible rfl⟩) hHeld ?_; refine tU 7 (some 30) (bZ 13 511) rfl (by kernel_rfl) (Or.inl ⟨by rfl,by rintro w' ⟨s0,s1,s2,s3,s4,s5,s6,s7⟩; go_simp; with_reducible rfl⟩) hHeld ?_; refine pU 9 (some 32) (bZ 13 1023) rfl (by kernel_rfl) ?_; refine tU 10 (some 33) (bZ 13 2047) rfl (by kernel_rfl) (Or.inl ⟨by rfl,by rintro w' ⟨s0,s1,s2,s3,s4,s5,s6,s7⟩; go_simp; with_reducible rfl⟩) hHeld ?_; refine one_ (i := 11) (N := some 34) (bZ 13 4095) rfl rfl (by kernel_rfl) (by decide) (fun K hK => ?_); refine xc Tryz.func21 (by kernel_rfl) rfl #[.agg #[.int .i64 x0, .int .i64 x1, .string x2, .slice B3 x3_.length d3, .slice B4 x4_.length d4]] (by rfl) rfl rfl (by simp only [List.map_toArray,List.map_cons,List.map_nil]; rfl) ?_
    with_reducible refine (CA.out wr.drew (yh HB.out)).mono ?_
    rintro e w3 ⟨v3,rfl,ha3,hb3⟩; refine ⟨_,rfl, ?_⟩; have HB3 := aM hb3; have HA3 := aM ha3; have HX3 := aM ((hb3.block _ (zn (show wr.drew.heap[w.heap.size]? = _ from HX.out))).trans (show wr.drew.heap[w.heap.size]? = _ from HX.out)); clear ha3; refine hK.out _ _ ⟨zf hb3 hHeld.1,zf hb3 hHeld.2.1,zf hb3 hHeld.2.2.1,zf hb3 hHeld.2.2.2.1,zf hb3 hHeld.2.2.2.2.1,zf hb3 hHeld.2.2.2.2.2.1,zf hb3 hHeld.2.2.2.2.2.2.1,zf hb3 hHeld.2.2.2.2.2.2.2⟩ (fun hHeld => ?_); clear hK K; refine zr (a' := ?_) ?_ ?_; rotate_left
    ·show Act.put _ (some 34) _ = _
     simp only [Act.put,sA,sB,sC,yf,yg]; rfl
    refine xn (i := 12) (N := none) (bZ 13 8191) rfl rfl (by kernel_rfl) (by decide) (fun K hK => ?_); obtain ⟨zs,hzs⟩ := HM.out; have hlen := hzs.length; refine store_mapE_step (enc := (id : Value → Value)) (y := v3) akey_u amap_u rfl rfl _ _ _ rfl rfl ((hzs.drew.move HB3.out).hm) (by rw [hlen]; unfold maxLen; omega) rfl HKZ.out rfl ?_; intro w4 hm4 hg4; have HM4 := aM (hzs.drew.put HB3.out HA3.out (lb key) hm4 hg4); have HG4 := aM hg4; clear hm4 hg4 hzs hlen; refine hK.out _ _ ?_; clear hK K; refine xy (by kernel_rfl) ?_
    go_wp2
    go_roundw
    case rel =>
     refine ⟨i + 1,by go_num,by omega,by omega,⟨⟨_,by rw [HF.out]; exact HM4.out⟩⟩,⟨?_⟩,⟨?_⟩⟩
     ·exact zt (zm (yh HB.out) HB3.out) _ (zm (yh HB.out) HB3.out).size HG4.out (fun k hk => by injection hk with hk; omega)
     ·exact (HG4.out.block _ (zn HX3.out) (fun e => by injection e with e; omega)).trans HX3.out
    case measure => simp [intOf]; omega
   ·have d1 : decide ((i : Int) < (ks.length : Int)) = true := decide_eq_true (by omega); have d2 : decide ((i : Int) < (vs.length : Int)) = false := decide_eq_false (by omega); have HTK := aM (show (pairsOf ks vs).take i = pairsOf ks vs from List.take_of_length_le (by rw [pairsOf_length]; omega))
    go_wp2
    go_ret
    obtain ⟨zs,hzs⟩ := HM.out; rw [HTK.out] at hzs; exact ⟨_,rfl,hzs.done.mono (fun k hk => ⟨by have := hk.1; omega,hk.2⟩),HB.out⟩
  ·have d1 : decide ((i : Int) < (ks.length : Int)) = false := decide_eq_false (by omega); have HTK := aM (show (pairsOf ks vs).take i = pairsOf ks vs from List.take_of_length_le (by rw [pairsOf_length]; omega))
   go_wp2
   go_ret
   obtain ⟨zs,hzs⟩ := HM.out; rw [HTK.out] at hzs; exact ⟨_,rfl,hzs.done.mono (fun k hk => ⟨by have := hk.1; omega,hk.2⟩),HB.out⟩
theorem info_any : (Tryz.prog.info? 20).map (fun i => (i.zero,i.size,i.bytes)) = some (some .nilIface,1,16) := by kernel_rfl
def noEn : En := (.nilIface, .null,fun _ => False)
structure ListAt (wr : World) (b n : Nat) (zs : List En) : Prop where
 hr : kAny.R 20 wr 0 (fun _ => True) (.slice (some ⟨b,0,none⟩) n n) (zs.map (fun z => z.1))
 hz : ∀ z,z ∈ zs → AR wr z.1 z.2.1 z.2.2
 hd : zs.Pairwise En.far
 hF : ∀ z,z ∈ zs → ∀ k,z.2.2 k → b < k ∧ k < wr.heap.size
theorem ListAt.length {wr : World} {b n : Nat} {zs : List En} (h : ListAt wr b n zs) : zs.length = n := by
 have := (Kd.R_reads' h.hr).1; rw [List.length_map] at this; exact this.symm
theorem ListAt.lt {wr : World} {b n : Nat} {zs : List En} (h : ListAt wr b n zs) : b < wr.heap.size := ((Kd.R_bound h.hr).1 b (by simp [Value.ownBlock])).2.2.1
theorem ListAt.move {wr w1 : World} {b n : Nat} {zs : List En} (h : ListAt wr b n zs) (hb : Below wr.heap.size wr w1) : ListAt w1 b n zs :=
 ⟨Kd.R_below h.hr hb,fun z hz => (h.hz z hz).move (fun k hk => hb.block k (h.hF z hz k hk).2),h.hd,fun z hz k hk => ⟨(h.hF z hz k hk).1,Nat.lt_of_lt_of_le (h.hF z hz k hk).2 hb.size⟩⟩
theorem set_pair {R : En → En → Prop} (hs : ∀ a b,R a b → R b a) {x : En} : ∀ {zs : List En} (i : Nat),zs.Pairwise R → (∀ z ∈ zs,R x z) → (zs.set i x).Pairwise R
 | [], _,h, _ => h
 | y :: r,0,h,hx => List.pairwise_cons.2 ⟨fun z hz => hx z (by simp [hz]),(List.pairwise_cons.1 h).2⟩
 | y :: r,i + 1,h,hx => by
  obtain ⟨h1,h2⟩ := List.pairwise_cons.1 h; rw [List.set_cons_succ]; refine List.pairwise_cons.2 ⟨fun z hz => ?_,set_pair hs i h2 (fun z hz => hx z (by simp [hz]))⟩
  rcases List.mem_or_eq_of_mem_set hz with hz | rfl
  ·exact h1 z hz
  ·exact hs _ _ (hx y (by simp))
theorem ListAt.put {W w3 : World} {b n : Nat} {zs : List En} (h : ListAt W b n zs) (hb3 : Below W.heap.size W w3) {v : Value} {y : Y} (hA : AR w3 v y (fun k => W.heap.size ≤ k ∧ k < w3.heap.size)) (i : Nat) (hi : i < n) :
  ListAt (w3.setCell ⟨b,i,none⟩ v) b n (zs.set i (v,y,fun k => W.heap.size ≤ k ∧ k < w3.heap.size)) := by
 have hlt := h.lt; have h3 := h.move hb3
 have hsz : (w3.setCell ⟨b,i,none⟩ v).heap.size = w3.heap.size := by simp
 have hg : w3.grownBy (w3.setCell ⟨b,i,none⟩ v) (some b) := yj w3 b i v
 have mv : ∀ {v' y F}, AR w3 v' y F → (∀ k,F k → b < k ∧ k < w3.heap.size) → AR (w3.setCell ⟨b,i,none⟩ v) v' y F := fun hA hF => hA.move (fun k hk => hg.block k (hF k hk).2 (fun e => by injection e with e; have := (hF k hk).1; omega))
 refine ⟨?_,fun z hz => ?_, ?_,fun z hz k hk => ?_⟩
 ·rw [List.map_set]; exact (kAny_put h3.hr i hi v hA.one).2.2
 ·rcases List.mem_or_eq_of_mem_set hz with hz | rfl
  ·exact mv (h3.hz z hz) (h3.hF z hz)
  ·exact mv hA (fun k hk => ⟨by omega,hk.2⟩)
 ·refine set_pair (fun a b hab k hk hk2 => hab k hk2 hk) i h.hd (fun z hz k hk hk2 => ?_); have h1 := (h.hF z hz k hk2).2; have h2 : W.heap.size ≤ k := hk.1
  omega
 ·rw [hsz]
  rcases List.mem_or_eq_of_mem_set hz with hz | rfl
  ·exact h3.hF z hz k hk
  ·have h2 : W.heap.size ≤ k := hk.1; exact ⟨by omega,hk.2⟩
theorem ListAt.done {wr : World} {b n : Nat} {zs : List En} {l : List Y} (h : ListAt wr b n zs) (hl : zs.map (fun z => z.2.1) = l) : AR wr (.iface 44 (.slice (some ⟨b,0,none⟩) n n)) (.list l) (fun k => b ≤ k ∧ k < wr.heap.size) :=
 .list _ zs l _ hl.symm h.hr h.hz h.hd (fun b' hb' => by
  have : b = b' := by simpa [Value.ownBlock] using hb'
  subst this
  exact ⟨⟨Nat.le_refl _,h.lt⟩,fun z hz hk => by have := (h.hF z hz b hk).1; omega⟩) (fun z hz k hk => ⟨Nat.le_of_lt (h.hF z hz k hk).1,(h.hF z hz k hk).2⟩)
theorem ListAt.made (w : World) (n : Nat) (hn : n ≤ 1759218604400) : ListAt (w.alloc (.cells (madeCells #[.nilIface] n) 20)) w.heap.size n (List.replicate n noEn) := by
 refine ⟨?_,fun z hz => ?_, ?_,fun z hz k hk => ?_⟩
 ·have e : (List.replicate n noEn).map (fun z => z.1) = List.replicate n Value.nilIface := by rw [List.map_replicate]; rfl
  rw [e]; refine ⟨fun _ _ => trivial,List.replicate n Value.nilIface,⟨by simp [held], .inr ⟨w.heap.size,n,madeCells #[.nilIface] n,by simp,Nat.zero_le _,yw _ _,by simp,by unfold maxLen; omega,by simp [held,size_madeCells], ?_⟩⟩,by simp [held],fun j p hp => ?_⟩
  ·show (madeCells #[.nilIface] n).toList.take ((List.replicate n Value.nilIface).length * 1) = List.replicate n Value.nilIface
   rw [List.length_replicate,Nat.mul_one]
   apply List.ext_getElem?
   intro j
   by_cases hj : j < n
   ·rw [List.getElem?_take_of_lt hj,Array.getElem?_toList]
    simp [madeCells,hj,Nat.mod_one]
   ·rw [List.getElem?_take_eq_none (by omega),List.getElem?_eq_none (by simp; omega)]
  ·obtain ⟨hj,rfl⟩ := List.getElem?_eq_some_iff.1 hp
   have hj' : j < n := by simpa using hj
   show ((List.replicate n Value.nilIface).drop (j * 1)).take 1 = [(List.replicate n Value.nilIface)[j]] ∧ _
   rw [List.getElem_replicate,Nat.mul_one,List.drop_replicate,List.take_replicate,show min 1 (n - j) = 1 by omega]; exact ⟨rfl,rfl⟩
 ·rw [List.eq_of_mem_replicate hz]; exact .null _
 ·exact List.pairwise_replicate.2 (.inr (fun k hk => hk.elim))
 ·rw [List.eq_of_mem_replicate hz] at hk; exact hk.elim
def saidTo (l : List Y) (i n : Nat) : List Y := l.take i ++ List.replicate (n - i) .null
theorem saidTo_set (l : List Y) (i n : Nat) (hi : i < n) (hl : l.length = n) : (saidTo l i n).set i (l[i]'(by omega)) = saidTo l (i + 1) n := by
 unfold saidTo
 have h1 : (l.take i).length = i := by rw [List.length_take]; omega
 rw [List.set_append_right _ _ (by omega),h1,Nat.sub_self]
 obtain ⟨m,hm⟩ : ∃ m,n - i = m + 1 := ⟨n - i - 1,by omega⟩
 rw [hm,List.replicate_succ,List.set_cons_zero,List.take_succ_eq_append_getElem (by omega),show n - (i + 1) = m by omega,List.append_assoc]; rfl
set_option maxHeartbeats 6400000 in
set_option maxRecDepth 100000 in
theorem toAny_list (nm : Int) (t : BA) (ks : List BA) (vs : List VI) (hvl : vs.length ≤ 1759218604400) (hch : ∀ v,v ∈ vs → ToAnyAt v) (A3 A4 : Option Addr) (c3 c4 : Nat) (w : World) (hv : kI.C w A4 vs.length vs) :
  Calls Tryz.prog 21 #[.agg #[.int .i64 4, .int .i64 nm, .string t, .slice A3 ks.length c3, .slice A4 vs.length c4]] w (Made w (.list (anyL vs))) := by
 have HC := aM hch; have HV := aM hv
 have hmk := fun W => run_make_row' (P := Tryz.prog) 44 20 .nilIface 16 Tryz.underlying44 info_any rfl .i64 .i64 vs.length (by omega) (by omega) W
 have hbx := zb (Below.refl w.heap.size w) (.cells #[.int .i64 4, .int .i64 nm, .string t, .slice A3 ks.length c3, .slice A4 vs.length c4] 31); have HB0 := aM (zb hbx (.cells (madeCells #[.nilIface] vs.length) 20)); have HX0 := aM (show ((w.alloc (.cells #[.int .i64 4, .int .i64 nm, .string t, .slice A3 ks.length c3, .slice A4 vs.length c4] 31)).alloc (.cells (madeCells #[.nilIface] vs.length) 20)).heap[w.heap.size]? = some (.cells #[.int .i64 4, .int .i64 nm, .string t, .slice A3 ks.length c3, .slice A4 vs.length c4] 31 (0,0)) from ze (yw _ _) _); have hm0 := ListAt.made (w.alloc (.cells #[.int .i64 4, .int .i64 nm, .string t, .slice A3 ks.length c3, .slice A4 vs.length c4] 31)) vs.length hvl; rw [World.size_alloc] at hm0; have HM0 := aM hm0; have HT0 := aM (show (List.replicate vs.length noEn).map (fun z => z.2.1) = saidTo (anyL vs) 0 vs.length from by rw [List.map_replicate]; rfl)
 have hc : ∀ W : World,W = W := fun _ => rfl
 clear hch hv hbx hm0 hc
 go_enter Tryz.func21,Tryz.ntmps21
 go_wp2
 go_loopw [32,4] (fun v32 v4 wr => ∃ i : Nat,v32 = .int .i64 i ∧ i ≤ vs.length ∧ Aside0 (∃ zs,ListAt wr (w.heap.size + 1) vs.length zs ∧ zs.map (fun z => z.2.1) = saidTo (anyL vs) i vs.length) ∧ Aside0 (Below w.heap.size w wr) ∧ Aside0 (wr.heap[w.heap.size]? = some (.cells #[.int .i64 4, .int .i64 nm, .string t, .slice A3 ks.length c3, .slice A4 vs.length c4] 31 (0,0)))) (fun v32 _ _ => vs.length - (intOf v32).toNat)
 case atStart => exact ⟨0,rfl,by omega,⟨_,HM0.out,HT0.out⟩,HB0,HX0⟩
 case round =>
  clear HM0 HB0 HX0 HT0; obtain ⟨i,rfl,hiv,HM,HB,HX⟩ := hrel; have x4 := zu (i := 4) HX.out rfl
  have q0 : (0 : Int) ≤ (i : Int) := by omega
  by_cases hlv : i < vs.length
  ·have q2 : (i : Int) < (vs.length : Int) := by omega
   obtain ⟨vb,vo,rfl,hvb,hvc⟩ := kI_at HV.out (by omega); obtain ⟨B3,d3,B4,d4,e0,e1,e2,e3,e4,l3,g3,l4,g4⟩ := hvc i hlv; have HCH := aM (HC.out vs[i] (List.getElem_mem hlv)); have HG := aM (And.intro l3 (And.intro g3 (And.intro l4 g4))); have y0 := zf HB.out e0; have y1 := zf HB.out e1; have y2 := zf HB.out e2; have y3 := zf HB.out e3; have y4 := zf HB.out e4; have CA := aM (fun (W : World) (hb : Below w.heap.size w W) => HCH.out B3 B4 d3 d4 W HG.out.1 (Kd.C_below HG.out.2.1 hb) HG.out.2.2.1 (Kd.C_below HG.out.2.2.2 hb)); have HST := aM (saidTo_set (anyL vs) i vs.length hlv (vy vs)); have HGE := aM (show (anyL vs)[i]'(by rw [vy]; exact hlv) = anyOf vs[i] by simp [vu]); clear hvc e0 e1 e2 e3 e4 l3 g3 l4 g4 HCH HG; generalize vs[i] = v at y0 y1 y2 y3 y4 HGE CA; obtain ⟨x0,x1,x2,x3_,x4_⟩ := v; generalize anyOf ⟨x0,x1,x2,x3_,x4_⟩ = yv at CA HGE
   go_wp2_with fail
   refine (CA.out wr HB.out).mono ?_; rintro e w3 ⟨v3,rfl,ha3,hb3⟩; have HB3 := aM hb3; have HA3 := aM ha3; have HX3 := aM ((hb3.block _ (zn HX.out)).trans HX.out); obtain ⟨zs,hzs,hsaid⟩ := HM.out; have HZS := aM hzs; have HSD := aM hsaid; have hzt := kAny_put (hzs.move hb3).hr i hlv v3 ha3.one
   have hst : (storeCells ⟨w.heap.size + 1,i,none⟩ [v3]).run Tryz.prog w3 = .ok () (w3.setCell ⟨w.heap.size + 1,i,none⟩ v3) := by
    have := run_storeCells_cells (P := Tryz.prog) (w.heap.size + 1) i [v3] 0 w3 (fun j hj => by
     have : j = 0 := by simpa using hj
     subst this
     exact hzt.1) (fun j hj => by
     have : j = 0 := by simpa using hj
     subst this
     exact hzt.2.1) (fun u hu => by
     have : u = v3 := by simpa using hu
     rw [this]
     exact ha3.one)
    simpa [World.setCells] using this
   clear hb3 ha3 hzs hsaid hzt
   go_wp2
   rw [hst]
   go_wp2
   go_roundw
   case rel =>
    have hp := HZS.out.put HB3.out HA3.out i hlv; refine ⟨i + 1,by go_num,by omega,⟨⟨_,hp, ?_⟩⟩,⟨?_⟩,⟨?_⟩⟩
    ·rw [List.map_set,HSD.out, ← HST.out,HGE.out]
    ·exact (zm HB.out HB3.out).setCell (by show w.heap.size ≤ w.heap.size + 1; omega) _
    ·exact (Below.heap_setCell w3 ⟨w.heap.size + 1,i,none⟩ v3 _ (by show w.heap.size ≠ w.heap.size + 1; omega)).trans HX3.out
   case measure => simp [intOf]; omega
  ·have HTK := aM (show saidTo (anyL vs) i vs.length = anyL vs by
    unfold saidTo
    rw [List.take_of_length_le (by rw [vy]; omega),show vs.length - i = 0 by omega]
    simp)
   go_wp2
   go_ret
   obtain ⟨zs,hzs,hsaid⟩ := HM.out; rw [HTK.out] at hsaid; exact ⟨_,rfl,(hzs.done hsaid).mono (fun k hk => ⟨by have := hk.1; omega,hk.2⟩),HB.out⟩
set_option maxHeartbeats 800000 in
theorem toAny_bool (nm : Int) (t : BA) (ks : List BA) (vs : List VI) (A3 A4 : Option Addr) (c3 c4 : Nat) (w : World) :
  Calls Tryz.prog 21 #[.agg #[.int .i64 1, .int .i64 nm, .string t, .slice A3 ks.length c3, .slice A4 vs.length c4]] w (Made w (.bool (nm != 0))) := by
 have HB := aM (zb (Below.refl w.heap.size w) (.cells #[.int .i64 1, .int .i64 nm, .string t, .slice A3 ks.length c3, .slice A4 vs.length c4] 31))
 go_enter Tryz.func21,Tryz.ntmps21
 go_wp2
 go_ret
 exact ⟨_,rfl, .bool _ _,HB.out⟩
set_option maxHeartbeats 800000 in
theorem toAny_int (nm : Int) (t : BA) (ks : List BA) (vs : List VI) (A3 A4 : Option Addr) (c3 c4 : Nat) (w : World) :
  Calls Tryz.prog 21 #[.agg #[.int .i64 2, .int .i64 nm, .string t, .slice A3 ks.length c3, .slice A4 vs.length c4]] w (Made w (.int nm)) := by
 have HB := aM (zb (Below.refl w.heap.size w) (.cells #[.int .i64 2, .int .i64 nm, .string t, .slice A3 ks.length c3, .slice A4 vs.length c4] 31))
 go_enter Tryz.func21,Tryz.ntmps21
 go_wp2
 go_ret
 exact ⟨_,rfl, .int _ _,HB.out⟩
set_option maxHeartbeats 800000 in
theorem toAny_text (nm : Int) (t : BA) (ks : List BA) (vs : List VI) (A3 A4 : Option Addr) (c3 c4 : Nat) (w : World) :
  Calls Tryz.prog 21 #[.agg #[.int .i64 3, .int .i64 nm, .string t, .slice A3 ks.length c3, .slice A4 vs.length c4]] w (Made w (.text t)) := by
 have HB := aM (zb (Below.refl w.heap.size w) (.cells #[.int .i64 3, .int .i64 nm, .string t, .slice A3 ks.length c3, .slice A4 vs.length c4] 31))
 go_enter Tryz.func21,Tryz.ntmps21
 go_wp2
 go_ret
 exact ⟨_,rfl, .text _ _,HB.out⟩
set_option maxHeartbeats 800000 in
theorem toAny_other (kd nm : Int) (t : BA) (ks : List BA) (vs : List VI) (A3 A4 : Option Addr) (c3 c4 : Nat) (w : World) (h1 : (kd == 1) = false) (h2 : (kd == 2) = false) (h3 : (kd == 3) = false) (h4 : (kd == 4) = false) (h5 : (kd == 5) = false) :
  Calls Tryz.prog 21 #[.agg #[.int .i64 kd, .int .i64 nm, .string t, .slice A3 ks.length c3, .slice A4 vs.length c4]] w (Made w .null) := by
 have HB := aM (zb (Below.refl w.heap.size w) (.cells #[.int .i64 kd, .int .i64 nm, .string t, .slice A3 ks.length c3, .slice A4 vs.length c4] 31))
 go_enter Tryz.func21,Tryz.ntmps21
 go_wp2
 go_ret
 exact ⟨_,rfl, .null _,HB.out⟩
set_option maxHeartbeats 1600000 in
theorem toAny_map (nm : Int) (t : BA) (ks : List BA) (vs : List VI) (hks : ∀ s,s ∈ ks → s.size ≤ maxLen) (hkl : ks.length ≤ 8796093022000) (hvl : vs.length ≤ 1759218604400) (hch : ∀ v,v ∈ vs → ToAnyAt v) (A3 A4 : Option Addr) (c3 c4 : Nat) (w : World) (hk : Kd.string.C w A3 ks.length ks) (hv : kI.C w A4 vs.length vs) :
  Calls Tryz.prog 21 #[.agg #[.int .i64 5, .int .i64 nm, .string t, .slice A3 ks.length c3, .slice A4 vs.length c4]] w (Made w (.map (fitM (pairsOf ks vs)))) := by
 have hb := zb (Below.refl w.heap.size w) (.cells #[.int .i64 5, .int .i64 nm, .string t, .slice A3 ks.length c3, .slice A4 vs.length c4] 31); have HB := aM hb; have CM := aM (toMap_of 5 nm t ks vs hks hkl hvl hch A3 A4 c3 c4 (w.alloc (.cells #[.int .i64 5, .int .i64 nm, .string t, .slice A3 ks.length c3, .slice A4 vs.length c4] 31)) (Kd.C_below hk hb) (Kd.C_below hv hb)); clear hb hks hch hk hv
 go_enter Tryz.func21,Tryz.ntmps21
 go_wp2_with fail
 refine CM.out.mono ?_; rintro e w1 ⟨b,rfl,ha,hb⟩; have HA := aM ha; have HB1 := aM (zm HB.out hb); clear ha hb CM
 go_wp2
 go_ret
 exact ⟨_,rfl,HA.out.mono (fun k hk => ⟨by have h1 := hk.1; rw [World.size_alloc] at h1; omega,hk.2⟩),HB1.out⟩
theorem anyOf_list (n : Int) (t : BA) (ks : List BA) (vs : List VI) : anyOf ⟨4,n,t,ks,vs⟩ = .list (anyL vs) := by simp [anyOf]
theorem anyOf_map (n : Int) (t : BA) (ks : List BA) (vs : List VI) : anyOf ⟨5,n,t,ks,vs⟩ = .map (fitM (pairsOf ks vs)) := by simp [anyOf,pairsOf]
theorem toAny : ∀ x : VI,Small x → ToAnyAt x := by
 intro x hx
 induction hx with
 | mk x hks hkl hvl hv ih =>
  obtain ⟨kd,nm,t,ks,vs⟩ := x; intro A3 A4 c3 c4 w h3 hk h4 hv
  by_cases h1 : kd = 1
  ·subst h1
   have e : anyOf ⟨1,nm,t,ks,vs⟩ = .bool (nm != 0) := by simp [anyOf]
   rw [e]; exact toAny_bool nm t ks vs A3 A4 c3 c4 w
  by_cases h2 : kd = 2
  ·subst h2
   have e : anyOf ⟨2,nm,t,ks,vs⟩ = .int nm := by simp [anyOf]
   rw [e]; exact toAny_int nm t ks vs A3 A4 c3 c4 w
  by_cases h3 : kd = 3
  ·subst h3
   have e : anyOf ⟨3,nm,t,ks,vs⟩ = .text t := by simp [anyOf]
   rw [e]; exact toAny_text nm t ks vs A3 A4 c3 c4 w
  by_cases h4 : kd = 4
  ·subst h4; rw [anyOf_list]; exact toAny_list nm t ks vs hvl ih A3 A4 c3 c4 w hv
  by_cases h5 : kd = 5
  ·subst h5; rw [anyOf_map]; exact toAny_map nm t ks vs hks hkl hvl ih A3 A4 c3 c4 w hk hv
  ·have e : anyOf ⟨kd,nm,t,ks,vs⟩ = .null := by simp [anyOf,h1,h2,h3,h4,h5]
   rw [e]; exact toAny_other kd nm t ks vs A3 A4 c3 c4 w (by simpa using h1) (by simpa using h2) (by simpa using h3) (by simpa using h4) (by simpa using h5)
theorem Small.of {x v : VI} (h : Small x) (hv : v ∈ x.f4) : Small v := by
 cases h with
 | mk _ _ _ _ h => exact h v hv
theorem told_at {fn : Func} {p q : Tmp} (hr : fn.results = #[.cell p 31, .tmp q]) {tmps : Array Value} {W : World} {b n3 c3 n4 c4 : Nat} {k n : Int} {t : BA} {A3 A4 : Option Addr} (hp : tmps.getD p undef = .pointer (some ⟨b,0,none⟩)) (h3 : tmps.getD q undef = .bool true) (hb : W.heap[b]? = some (.cells #[.int .i64 k, .int .i64 n, .string t, .slice A3 n3 c3, .slice A4 n4 c4] 31 (0,0))) :
  (results fn tmps).run Tryz.prog W = .ok (.tuple #[.agg #[.int .i64 k, .int .i64 n, .string t, .slice A3 n3 c3, .slice A4 n4 c4], .bool true]) W := by
 have := results_ct (P := Tryz.prog) hr tmps W b 31 _ (0,0) _ hp hb Tryz.underlying31 rfl vx; rw [h3] at this; exact this
set_option maxHeartbeats 800000 in
theorem impl_value {v : Value} {y : Y} {F : Nat → Prop} (w : World) (hy : FitsY y) (ha : AR w v y F) : Calls Tryz.prog 19 #[v, .nilIface] w (Told w (valOf y)) := by
 have h0 := aM (yw w (.cells #[.int .i64 0, .int .i64 0, .string ⟨#[]⟩, .slice none 0 0, .slice none 0 0] 31)); have HB := aM (zb (Below.refl w.heap.size w) (.cells #[.int .i64 0, .int .i64 0, .string ⟨#[]⟩, .slice none 0 0, .slice none 0 0] 31)); have CM := aM (from_any hy v _ (w.alloc (.cells #[.int .i64 0, .int .i64 0, .string ⟨#[]⟩, .slice none 0 0, .slice none 0 0] 31)) (ha.keep HB.out)); clear ha; generalize valOf y = x at CM; obtain ⟨x0,x1,x2,x3,x4⟩ := x
 go_enter Tryz.func19,Tryz.ntmps19
 go_wp2_with fail
 refine CM.out.mono ?_; rintro e w3 ⟨v3,v4,rfl,hv3,hv4,hb3⟩; obtain ⟨A3,c3,rfl⟩ := Kd.R_slice hv3; obtain ⟨A4,c4,rfl⟩ := Kd.R_slice hv4; have h1 := (hb3.block _ (zn h0.out)).trans h0.out; have hg := yi w3 w.heap.size #[.int .i64 x0, .int .i64 x1, .string x2, .slice A3 x3.length c3, .slice A4 x4.length c4]; have HX := aM (setRow_heap _ w.heap.size _ #[.int .i64 x0, .int .i64 x1, .string x2, .slice A3 x3.length c3, .slice A4 x4.length c4] _ _ h1); have hb := zm HB.out hb3; have HB8 := aM (zt hb (some w.heap.size) hb.size hg (fun k hk => by have := Option.some.inj hk; omega)); have hbase := HB.out.size; have hlt := zn h0.out; have H3 := aM (Kd.R_lower (base' := w.heap.size) (Kd.R_mono (ok' := fun _ => True) (Kd.R_move (Kd.R_bound hv3) (fun k hk => hg.block k hk.2.2.1 (fun e => by have h2 := Option.some.inj e; have h3 := hk.2.1; omega))) (fun _ _ => trivial)) hbase); have H4 := aM (Kd.R_lower (base' := w.heap.size) (Kd.R_mono (ok' := fun _ => True) (Kd.R_move (Kd.R_bound hv4) (fun k hk => hg.block k hk.2.2.1 (fun e => by have h2 := Option.some.inj e; have h3 := hk.2.1; omega))) (fun _ _ => trivial)) hbase); clear hv3 hv4 hb3 hg hb hbase hlt HB h0 CM
 go_wp2_with (refine xo (.tmp 4) (.tmp 11) rfl rfl rfl rfl h1 ?_)
 exact bodyPost_ret (v := .tuple #[.agg #[.int .i64 x0, .int .i64 x1, .string x2, .slice A3 x3.length c3, .slice A4 x4.length c4], .bool true]) (told_at rfl rfl rfl HX.out) rfl ⟨.slice A3 x3.length c3, .slice A4 x4.length c4,rfl,H3.out,H4.out,HB8.out⟩
end Go.Proofs.YtnmhjndjfblebaaGreatDoor.Tr
namespace Go.Proofs.YtnmhjndjfblebaaGreatDoor.Tr
open Go.RowKit Go.Proofs.YtnmhjndjfblebaaGreatDoorW.PrintWords Go.Proofs.YtnmhjndjfblebaaGreatDoorW.PrintLast Go.Proofs.YtnmhjndjfblebaaGreatDoor.Str Go.Proofs.YtnmhjndjfblebaaGreatDoor.Kit Go.Proofs.YtnmhjndjfblebaaGreatDoor.MapV Go.Proofs.YtnmhjndjfblebaaGreatDoor.Frame Go.Proofs.YtnmhjndjfblebaaGreatDoor.PS
open Go.Proofs.YtnmhjndjfblebaaGreatDoor.Index (tree_zzIndex)
theorem any_zero (w : World) : (zeroValue 20).run Tryz.prog w = .ok .nilIface w := by kernel_rfl
theorem lbi {s t : BA} (h : lb s = lb t) : s = t := by
 cases s with | mk a => cases t with | mk b =>
 cases a with | mk a => cases b with | mk b =>
 simp only [lb] at h; rw [h]
theorem ranges_move {α : Type} {P : Program} {k : TypeId} {enc : α → Value} {w w' : World} {b r : Nat} {f left : List (Bs × α)} (h : Ranges P k enc w b r f left) (h1 : w'.heap[b]? = w.heap[b]?) (h2 : w'.heap[r]? = w.heap[r]?) : Ranges P k enc w' b r f left := by
 obtain ⟨lf,cnt,⟨es,clock,since,seen,c0,a1,a2,a3,a4,a5,rest⟩,e⟩ := h; exact ⟨lf,cnt,⟨es,clock,since,seen,c0,h1.trans a1,a2,a3,a4,h2.trans a5,rest⟩,e⟩
theorem left_same {w w' : World} {b r : Nat} (hb : w'.heap[b]? = w.heap[b]?) (hr : w'.heap[r]? = w.heap[r]?) : w'.rangeLeft b r = w.rangeLeft b r := by
 unfold World.rangeLeft
 rw [hb,hr]
theorem mput_one (k : Bs) (a r : Value) : mput [(k,a)] k r = [(k,r)] := by simp [mput,mins,mdel]
theorem turns_obj {F : Nat → Prop} {w w' : World} (h : Turns F w w') (k : Nat) (hk : k < w.heap.size) (hn : ¬ F k) : w'.heap[k]? = w.heap[k]? := by
 obtain ⟨o,ho⟩ : ∃ o,w.heap[k]? = some o := ⟨_,Array.getElem?_eq_getElem hk⟩
 exact (h.obj ho hn).trans ho.symm
set_option maxHeartbeats 800000 in
theorem replace_none (k r : BA) (w : World) (hn : findI [46] (lb k) = -1) (hs : k.size ≤ 4398046511104) : Calls Tryz.prog 83 #[.string k, .string ⟨#[46]⟩, .string r] w fun e w' => e = .returned (.string k) ∧ Below w.heap.size w w' := by
 have Hfi := aM hn; have HS := aM hs; clear hn
 go_enter Tryz.func83,Tryz.ntmps83
 go_wp2
 go_loopw [0,7,10] (fun v0 v7 v10 wr => v0 = .string k ∧ v7 = .slice none 0 0 ∧ wr = w) (fun _ _ _ _ => 0)
 case atStart => exact ⟨rfl,rfl,rfl⟩
 case round =>
  obtain ⟨rfl,rfl,rfl⟩ := hrel
  go_wp2_with fail
  refine (tree_zzIndex k ⟨#[46]⟩ _ (by omega) (by show 1 ≤ _; omega)).mono ?_; rintro e w1 ⟨rfl,hd⟩; rw [show lb ⟨#[46]⟩ = [46] from rfl,Hfi.out]; have HB1 := aM hd.below; clear hd
  go_wp2_with (at_builtin; refine append_bufS _ _ rfl rfl rfl rfl (Buf.nil _ _) HB1.out (by simp; omega) ?_; intro v1 w2 ho hb hg; have HB2 := aM hb; have hst := ho.string; rw [List.nil_append,show (⟨(lb k).toArray⟩ : BA) = k by simp [lb]] at hst; clear ho hg hb)
  go_ret
  exact ⟨rfl,HB2.out⟩
set_option maxHeartbeats 800000 in
theorem path_nextG (p k : BA) (w : World) (hp0 : (p.toList == []) = false) (hp1 : (p == ⟨#[]⟩) = false) (hp : p.size ≤ 1000) (hn : findI [46] (lb k) = -1) (hs : k.size ≤ 4398046511104) : Calls Tryz.prog 66 #[.string p, .string k] w fun e w' => e = .returned (.string (p ++ ⟨#[46]⟩ ++ k)) ∧ Below w.heap.size w w' := by
 have z1 : ¬ 9223372036854775807 < ByteArray.size p + 1 := by omega
 have z2 : ¬ 9223372036854775807 < ByteArray.size p + 1 + ByteArray.size k := by omega
 have CR := aM (fun r W => replace_none k r W hn hs); clear hn hs hp
 go_enter Tryz.func66,Tryz.ntmps66
 go_wp2_with fail
 refine (CR.out _ w).mono ?_; rintro e w1 ⟨rfl,hb⟩; have HB := aM hb; clear hb
 go_wp2
 go_ret
 exact ⟨rfl,HB.out⟩
set_option maxHeartbeats 3200000 in
set_option maxRecDepth 100000 in
theorem mm_one (b b' : Nat) (k p np : BA) (e1 o1 : Value) (w : World) (h : MapA w b [(lb k,e1)]) (h' : MapA w b' [(lb k,o1)]) (hb : b ≠ b') (G : Nat → Prop) (hGb : ¬ G b) (hGb' : ¬ G b') (hGl : ∀ j,G j → j < w.heap.size)
  (hnext : ∀ W,Calls Tryz.prog 66 #[.string p, .string k] W fun e W' => e = .returned (.string np) ∧ Below W.heap.size W W')
  (R : World → Value → Prop) (hR : ∀ W v,R W v → v.oneCell' = true) (hRm : ∀ W W' v,R W v → W.grownBy W' (some b) → R W' v)
  (hy : ∀ W,Below w.heap.size w W → Calls Tryz.prog 20 #[e1,o1, .string np] W fun e W' => ∃ r,e = .returned (.tuple #[r, .nilIface]) ∧ R W' r ∧ Turns G W W') :
  Calls Tryz.prog 41 #[.map (some b), .map (some b'), .string p] w fun e w' => e = .returned (.tuple #[.map (some b), .nilIface]) ∧ ∃ r,MapA w' b [(lb k,r)] ∧ R w' r ∧ Turns (fun j => G j ∨ j = b) w w' := by
 have HM := aM h; have HM' := aM h'; have hbl := h.lt; have hbl' := h'.lt; have HGG := aM (And.intro hGb (And.intro hGb' hGl)); have HN := aM hnext; have HRR := aM (And.intro hR hRm); have HY := aM hy; clear h h' hGb hGb' hGl hnext hR hRm hy
 go_enter Tryz.func41,Tryz.ntmps41
 go_wp2_with (at_range; refine range_mapE (enc := (id : Value → Value)) akey_u amap_u rfl _ rfl rfl HM'.out ?_; intro w0 hrg0 hg0 hs0; have HR0 := aM hrg0; have HG0 := aM hg0; have HS0 := aM hs0; clear hrg0 hg0 hs0)
 go_frame
 have HM0 := aM (HM.out.grown HG0.out (by simp)); have HB0 := aM (zt (Below.refl _ w) none (Nat.le_refl _) HG0.out (fun k hk => by cases hk)); clear HM HM' HG0
 go_loopw [8,9,10,11] (fun v8 v9 v10 v11 wr => ∃ (lf : List (Bs × Value)),Aside0 (Ranges Tryz.prog 9 (id : Value → Value) wr b' w.heap.size [(lb k,o1)] lf) ∧ ((Aside0 (lf = [(lb k,o1)]) ∧ Aside0 (MapA wr b [(lb k,e1)]) ∧ Aside0 (Below w.heap.size w wr)) ∨ (Aside0 (lf = []) ∧ Aside0 (∃ r,MapA wr b [(lb k,r)] ∧ R wr r ∧ Turns (fun j => G j ∨ j = b) w wr)))) (fun _ _ _ _ wr => wr.rangeLeft b' w.heap.size)
 case atStart => exact ⟨_,HR0, .inl ⟨⟨rfl⟩,HM0,HB0⟩⟩
 case round =>
  clear HR0 HM0 HB0 HS0; obtain ⟨lf,HR,⟨HL,HM,HB⟩ | ⟨HL,HF⟩⟩ := hrel
  ·have hrl := HR.out.lt
   go_wp2_with (first | (at_next; refine next_mapA (enc := (id : Value → Value)) akey_u rfl _ rfl rfl HR.out (fun hd => absurd (hd.out.symm.trans HL.out) (by simp)) (fun x c w2 hx hen => ?_); (obtain ⟨hxk,hxc⟩ : x = k ∧ c = o1 := (by have hm := hx.out.1; rw [HL.out] at hm; have hm2 := List.mem_singleton.1 hm; injection hm2 with h1 h2; exact ⟨lbi h1,h2⟩)); subst hxk; subst hxc; (have hks := hx.out.2.1); (have HM2 := aM (HM.out.grown hx.out.2.2.2.2.1 (fun e => by injection e with e; omega))); (have hlk := run_look_ok_mapE akey_u amap_u (any_zero w2) HM2.out hks); (rw [show mget [(lb x,e1)] (lb x) = some e1 by simp [mget]] at hlk); (simp only [Option.map_some,Option.getD_some,Option.isSome_some,id] at hlk)))
   refine (HN.out w2).mono ?_; rintro e w3 ⟨rfl,hb3⟩; have hb2 : Below w.heap.size w w2 := zt HB.out (some w.heap.size) HB.out.size hx.out.2.2.2.2.1 (fun j hj => by have := Option.some.inj hj; omega); have HB3 := aM (zm hb2 hb3); have HM3 := aM (HM2.out.below hb3); have HR3 := aM (Ranges.below hx.out.2.2.1 hb3); have hl3 := left_same (b := b') (r := w.heap.size) (hb3.block b' (by have := hb2.size; omega)) (hb3.block w.heap.size (by have := hx.out.2.2.2.2.2; omega)); have HL3 := aM (show w3.rangeLeft b' w.heap.size < wr.rangeLeft b' w.heap.size by rw [hl3]; exact hx.out.2.2.2.1)
   have hs3 : wr.heap.size ≤ w3.heap.size := by have := hb3.size; have := hx.out.2.2.2.2.2; omega
   clear hb2 hb3 hl3 HM2 hlk HM HB HR
   go_wp2_with fail
   refine (HY.out w3 HB3.out).mono ?_; rintro e w4 ⟨r,rfl,hRr,hT⟩; have HT4 := aM hT; have HM4 := aM (HM3.out.move (turns_obj hT b (by omega) HGG.out.1)); have HR4 := aM (ranges_move HR3.out (turns_obj hT b' (by omega) HGG.out.2.1) (turns_obj hT w.heap.size (by omega) (fun h => absurd (HGG.out.2.2 _ h) (Nat.lt_irrefl _)))); have hl4 := left_same (b := b') (r := w.heap.size) (turns_obj hT b' (by omega) HGG.out.2.1) (turns_obj hT w.heap.size (by omega) (fun h => absurd (HGG.out.2.2 _ h) (Nat.lt_irrefl _))); have HL4 := aM (show w4.rangeLeft b' w.heap.size < wr.rangeLeft b' w.heap.size by rw [hl4]; exact HL3.out); have HR0 := aM hRr; have ho := HRR.out.1 _ _ hRr; have hs4 := hT.size
   have hml : ([(lb x,e1)] : List (Bs × Value)).length < maxLen := by simp only [List.length_singleton]; unfold maxLen; omega
   clear hT hRr hl4 HR3 HM3 HL3
   go_wp2_with (at_mapUpdate; refine store_mapE (enc := (id : Value → Value)) (y := r) akey_u amap_u rfl _ _ _ rfl rfl HM4.out hml rfl hks rfl ?_; intro w5 hm5 hg5; have HM5 := aM hm5; have HG5 := aM hg5; clear hm5 hg5)
   simp only [Act.put]
   go_roundw
   case rel =>
    refine ⟨_,⟨Ranges.kept HR4.out HG5.out (fun e => hb (Option.some.inj e).symm) (fun e => by injection e with e; omega)⟩, .inr ⟨⟨by rw [HL.out]; simp [mdel]⟩,⟨r, ?_,HRR.out.2 _ _ _ HR0.out HG5.out, ?_⟩⟩⟩
    ·have := HM5.out; rw [mput_one] at this; exact this
    ·exact ((Turns.of_below (F := fun j => G j ∨ j = b) HB3.out).trans HT4.out (fun j hj hg => .inl hg)).trans (Turns.of_grown HG5.out) (fun j hj hg => .inr (Option.some.inj hg))
   case measure =>
    have e1 := left_same (b := b') (r := w.heap.size) (w := w4) (w' := w5) (HG5.out.block b' (by omega) (fun e => hb (Option.some.inj e).symm)) (HG5.out.block _ (by omega) (fun e => by injection e with e; omega)); rw [e1]; exact HL4.out
  ·go_wp2_with (at_next; refine next_mapA (enc := (id : Value → Value)) akey_u rfl _ rfl rfl HR.out (fun hd => ?_) (fun x c w2 hx hen => absurd hx.out.1 (by rw [HL.out]; simp)))
   go_ret2
   exact ⟨rfl,HF.out⟩
end Go.Proofs.YtnmhjndjfblebaaGreatDoor.Tr
namespace Go.Proofs.YtnmhjndjfblebaaGreatDoor.Tr
open Go.RowKit Go.Proofs.YtnmhjndjfblebaaGreatDoorW.PrintWords Go.Proofs.YtnmhjndjfblebaaGreatDoorW.PrintLast Go.Proofs.YtnmhjndjfblebaaGreatDoor.Str Go.Proofs.YtnmhjndjfblebaaGreatDoor.Kit Go.Proofs.YtnmhjndjfblebaaGreatDoor.MapV Go.Proofs.YtnmhjndjfblebaaGreatDoor.Frame Go.Proofs.YtnmhjndjfblebaaGreatDoor.PS
def NoRule (p : BA) : Prop := ∀ W,Calls Tryz.prog 39 #[.string p] W fun e W' => e = .returned (.tuple #[.nilFunc, .bool false]) ∧ Below W.heap.size W W'
def Replaces (p : BA) : Prop := ∀ W,Calls Tryz.prog 39 #[.string p] W fun e W' => e = .returned (.tuple #[.func (.func 60) #[] #[], .bool true]) ∧ Below W.heap.size W W'
theorem override_calls (e o pv : Value) (w : World) : Calls Tryz.prog 60 #[e,o,pv] w fun e' w' => e' = .returned (.tuple #[o, .nilIface]) ∧ w = w' := by
 go_enter Tryz.func60,Tryz.ntmps60
 go_wp2
 go_ret2
 exact ⟨rfl,rfl⟩
set_option maxHeartbeats 1600000 in
theorem yaml_over (p : BA) (hp : Replaces p) (e o : Value) (w : World) : Calls Tryz.prog 20 #[e,o, .string p] w fun e' w' => e' = .returned (.tuple #[o, .nilIface]) ∧ Below w.heap.size w w' := by
 have CP := aM (hp w); clear hp
 go_enter Tryz.func20,Tryz.ntmps20
 go_wp2_with fail
 refine CP.out.mono ?_; rintro e1 w1 ⟨rfl,hb⟩; have HB := aM hb; clear hb CP
 go_wp2_with fail
 refine (override_calls e o (.string p) w1).mono ?_; rintro e1 w2 ⟨rfl,rfl⟩
 go_wp2
 go_ret2
 exact ⟨rfl,HB.out⟩
set_option maxHeartbeats 1600000 in
theorem yaml_map (p : BA) (hp : NoRule p) (b b' : Nat) (w : World) (Q : World → World → Prop) (hm : ∀ W,Below w.heap.size w W → Calls Tryz.prog 41 #[.map (some b), .map (some b'), .string p] W fun e w' => e = .returned (.tuple #[.map (some b), .nilIface]) ∧ Q W w') :
  Calls Tryz.prog 20 #[.iface 62 (.map (some b)), .iface 62 (.map (some b')), .string p] w fun e w' => e = .returned (.tuple #[.iface 62 (.map (some b)), .nilIface]) ∧ ∃ W,Below w.heap.size w W ∧ Q W w' := by
 have f1 := t_map_map; have HM := aM hm; have CP := aM (hp w); clear hm hp
 go_enter Tryz.func20,Tryz.ntmps20
 go_wp2_with fail
 refine CP.out.mono ?_; rintro e w1 ⟨rfl,hb⟩; have CM := aM (HM.out w1 hb); have HB := aM hb; clear hb HM CP
 go_wp2_with fail
 refine CM.out.mono ?_; rintro e w2 ⟨rfl,hq⟩; have HQ := aM hq; clear hq CM
 go_wp2
 go_ret2
 exact ⟨rfl,w1,HB.out,HQ.out⟩
theorem ar_one {w : World} {b : Nat} {k : Bs} {r : Value} {y : Y} {G : Nat → Prop} (hm : MapA w b [(k,r)]) (hr : AR w r y G) (hb : ¬ G b) : AR w (.iface 62 (.map (some b))) (.map [(k,y)]) (fun j => j = b ∨ G j) :=
 .map b [(k,(r,y,G))] _ _ rfl hm (fun z hz => by rw [List.mem_singleton] at hz; subst hz; exact hr) (List.pairwise_singleton _ _) ⟨.inl rfl,fun z hz => by rw [List.mem_singleton] at hz; subst hz; exact hb⟩ (fun z hz j hj => by rw [List.mem_singleton] at hz; subst hz; exact .inr hj)
theorem one_ar {w : World} {v : Value} {k : Bs} {y : Y} {F : Nat → Prop} (h : AR w v (.map [(k,y)]) F) : ∃ b r G,v = .iface 62 (.map (some b)) ∧ MapA w b [(k,r)] ∧ AR w r y G ∧ F b ∧ ¬ G b ∧ ∀ j,G j → F j := by
 generalize hy : Y.map [(k,y)] = u at h
 cases h with
 | map b zs ys _ hys hm hz hd hb hF =>
  injection hy with hy
  subst hy
  cases zs with
  | nil => cases hys
  | cons z zs =>
   cases zs with
   | cons _ _ => simp at hys
   | nil =>
    obtain ⟨k', r,y', G⟩ := z; simp only [List.map_cons,List.map_nil,List.cons.injEq,Prod.mk.injEq,and_true] at hys; obtain ⟨rfl,rfl⟩ := hys; have hz0 := List.mem_singleton.2 (rfl : (k,(r,y,G)) = (k,(r,y,G))); exact ⟨b,r,G,rfl,hm,hz _ hz0,hb.1,hb.2 _ hz0,hF _ hz0⟩
 | _ => cases hy
def MergedOne (v : World) (F G : Nat → Prop) (k : Bs) (yo : Y) (e : Ending) (w' : World) : Prop := ∃ r,e = .returned (.tuple #[r, .nilIface]) ∧ AR w' r (.map [(k,yo)]) (fun j => F j ∨ G j) ∧ Turns F v w'
theorem merge_down (p np k : BA) (hp : NoRule p) (hnext : ∀ W,Calls Tryz.prog 66 #[.string p, .string k] W fun e W' => e = .returned (.string np) ∧ Below W.heap.size W W')
  (v : World) (e o : Value) (ye yo : Y) (F G : Nat → Prop) (he : AR v e (.map [(lb k,ye)]) F) (ho : AR v o (.map [(lb k,yo)]) G) (hF : ∀ j,F j → j < v.heap.size) (hG : ∀ j,G j → j < v.heap.size) (hd : ∀ j,F j → ¬ G j)
  (hrec : ∀ (W : World) (e1 o1 : Value) (F1 G1 : Nat → Prop),Below v.heap.size v W → AR W e1 ye F1 → AR W o1 yo G1 → (∀ j,F1 j → F j) → (∀ j,G1 j → G j) → Calls Tryz.prog 20 #[e1,o1, .string np] W fun e' W' => ∃ r,e' = .returned (.tuple #[r, .nilIface]) ∧ AR W' r yo (fun j => F1 j ∨ G1 j) ∧ Turns F1 W W') :
  Calls Tryz.prog 20 #[e,o, .string p] v (MergedOne v F G (lb k) yo) := by
 obtain ⟨b,e1,F1,rfl,m1,r1,hb,hnb,hF1⟩ := one_ar he; obtain ⟨b', o1,G1,rfl,m2,r2,hb', hnb', hG1⟩ := one_ar ho
 have hbb : b ≠ b' := fun h => hd b hb (h ▸ hb')
 refine (yaml_map p hp b b' v (fun W w' => ∃ r,MapA w' b [(lb k,r)] ∧ (AR w' r yo (fun j => F1 j ∨ G1 j) ∧ W.heap.size ≤ w'.heap.size) ∧ Turns (fun j => F1 j ∨ j = b) W w') (fun W hW => mm_one b b' k p np e1 o1 W (m1.below hW) (m2.below hW) hbb F1 hnb (fun h => hd b' (hF1 _ h) hb') (fun j hj => Nat.lt_of_lt_of_le (hF j (hF1 j hj)) hW.size) hnext (fun w' r => AR w' r yo (fun j => F1 j ∨ G1 j) ∧ W.heap.size ≤ w'.heap.size) (fun _ _ h => h.1.one) (fun U U' r h hg => ?_) (fun U hU => ?_))).mono ?_
 ·refine ⟨h.1.move (fun j hj => hg.block j (Nat.lt_of_lt_of_le (Nat.lt_of_lt_of_le (hj.elim (fun q => hF j (hF1 j q)) (fun q => hG j (hG1 j q))) hW.size) h.2) (fun eq => ?_)),Nat.le_trans h.2 hg.size⟩
  injection eq with eq
  subst eq; exact hj.elim hnb (fun q => hd j hb (hG1 j q))
 ·have hvU : Below v.heap.size v U := hW.trans (hU.mono hW.size); exact (hrec U e1 o1 F1 G1 hvU (r1.move (fun j hj => hvU.block j (hF j (hF1 j hj)))) (r2.move (fun j hj => hvU.block j (hG j (hG1 j hj)))) hF1 hG1).mono (fun e' W' ⟨r,h1,h2,h3⟩ => ⟨r,h1,⟨h2,Nat.le_trans hU.size h3.size⟩,h3⟩)
 ·rintro e' w' ⟨rfl,W,hW,r,hm,⟨hr, _⟩,hT⟩; refine ⟨_,rfl,(ar_one hm hr (fun h => h.elim hnb (fun q => hd b hb (hG1 b q)))).mono (fun j hj => ?_),(Turns.of_below (F := F) hW).trans hT (fun j _ hj => hj.elim (hF1 j) (fun h => h ▸ hb))⟩
  rcases hj with rfl | hj
  ·exact .inl hb
  ·exact hj.elim (fun q => .inl (hF1 j q)) (fun q => .inr (hG1 j q))
theorem down_over (np : BA) (hp : Replaces np) (W : World) (e1 o1 : Value) (F1 G1 : Nat → Prop) (yo : Y) (h : AR W o1 yo G1) (hG : ∀ j,G1 j → j < W.heap.size) : Calls Tryz.prog 20 #[e1,o1, .string np] W fun e' W' => ∃ r,e' = .returned (.tuple #[r, .nilIface]) ∧ AR W' r yo (fun j => F1 j ∨ G1 j) ∧ Turns F1 W W' :=
 (yaml_over np hp e1 o1 W).mono (fun e' W' ⟨h1,h2⟩ => ⟨o1,h1,(h.move (fun j hj => h2.block j (hG j hj))).mono (fun j hj => .inr hj),Turns.of_below h2⟩)
end Go.Proofs.YtnmhjndjfblebaaGreatDoor.Tr
namespace Go.Proofs.YtnmhjndjfblebaaGreatDoor.PS
open Go.RowKit Go.Proofs.YtnmhjndjfblebaaGreatDoorW.PrintWords Go.Proofs.YtnmhjndjfblebaaGreatDoorW.PrintLast Go.Proofs.YtnmhjndjfblebaaGreatDoorW.PrintMore
attribute [local go_sem] xl xj xv xu xe xd xk xi 
attribute [local go_sem] xl xj xv xu xe xd xk xi 
attribute [local go_sem] xl xj xv xu xe xd xk xi 
attribute [local go_sem] xl xj xv xu xe xd xk xi 
def spec_sayIn.l0 : Nat → ByteArray → List ByteArray → Int → Option (Bool)
 | 0, _, _, _ => none
 | k + 1,x0,x1,x5 => if x5 < (x1.length : Int) then (if 0 ≤ x5 then (if (rdOf ByteArray.empty x1 x5).toList = x0.toList then (some true) else (spec_sayIn.l0 k x0 x1 (wrap64 (x5 + 1)))) else (none)) else (some false)
def spec_sayIn.f (k : Nat) (a0 : ByteArray) (l1 : List ByteArray) : Option (Bool) := spec_sayIn.l0 k a0 l1 0
set_option maxHeartbeats 8000000 in
set_option maxRecDepth 100000 in
theorem spec_sayIn.calls (k : Nat) (a0 : ByteArray) (A1 : Option Addr) (c1 : Nat) (l1 : List ByteArray) (r : Bool) (w : World) (hr1 : Kd.C Kd.string w A1 l1.length l1) (hc1 : l1.length ≤ c1) (h : spec_sayIn.f k a0 l1 = some r) :
  Calls Tryz.prog 23 #[.string a0, .slice A1 l1.length c1] w fun e w' => e = .returned (.bool r) ∧ Drawn0 w w' := by
 have HR1 := aM hr1; have HC1 := aM hc1; clear hr1 hc1; have H : (spec_sayIn.l0 k a0 l1 0) = some r := h; clear h; have H' := aM H; clear H
 go_enter Tryz.func23,Tryz.ntmps23
 go_wp2
 go_loopg [5] k (fun kq v5 w' => ∃ (x5_1 : Int),v5 = .int .i64 x5_1 ∧ Aside0 (spec_sayIn.l0 kq a0 l1 x5_1 = some r) ∧ Aside0 (kq ≤ k) ∧ Drawn0 w w')
 case atStart => exact ⟨(0),(by first | rfl | (simp; done) | (simp [*]; done)),H', ⟨Nat.le_refl _⟩,by repeat (first | exact Drawn0.refl _ | apply Drawn0.step)⟩
 case round =>
  clear H'
  try clear c1
  try clear c2
  try clear p2
  obtain ⟨x5_1,rfl,HA,HK1,⟨m1,rfl⟩⟩ := hrel
  cases gk with
  | zero => exact absurd HA.out (by simp [spec_sayIn.l0])
  | succ k1 =>
   have H := HA.out; clear HA; simp only [spec_sayIn.l0] at H
   by_cases c3 : x5_1 < (l1.length : Int)
   ·rw [if_pos c3] at H; have c3b0 : decide (x5_1 < (l1.length : Int)) = true := decide_eq_true c3; clear c3
    by_cases c4 : 0 ≤ x5_1
    ·rw [if_pos c4] at H; have c4b0 : decide (0 ≤ x5_1) = true := decide_eq_true c4; clear c4
     by_cases c5 : (rdOf ByteArray.empty l1 x5_1).toList = a0.toList
     ·rw [if_pos c5] at H; have c5b0 : ((rdOf ByteArray.empty l1 x5_1).toList == a0.toList) = true := beq_iff_eq.mpr c5; have c5b1 : ((rdOf ByteArray.empty l1 x5_1).toList != a0.toList) = false := bne_eq_false_iff_eq.mpr c5; clear c5; obtain rfl := Option.some.inj H; have p209 : 0 ≤ (x5_1 : Int) := of_decide_eq_true (by first | (with_reducible assumption) | assumption); have q209 : x5_1 < (l1.length : Int) := of_decide_eq_true (by first | (with_reducible assumption) | assumption); obtain ⟨ad209,e209,hx209_0⟩ := Kd.at_string HR1.out x5_1 p209 q209
      cases e209
      replace p209 := eq_true p209; replace q209 := eq_true q209
      go_wp2
      go_ret
      exact ⟨by first | rfl | (simp; done) | (simp [*]; done),by repeat (first | exact Drawn0.refl _ | apply Drawn0.step)⟩
     ·rw [if_neg c5] at H; have c5b0 : ((rdOf ByteArray.empty l1 x5_1).toList == a0.toList) = false := beq_eq_false_iff_ne.mpr c5; have c5b1 : ((rdOf ByteArray.empty l1 x5_1).toList != a0.toList) = true := bne_iff_ne.mpr c5; have H' := aM H; clear H; have p209 : 0 ≤ (x5_1 : Int) := of_decide_eq_true (by first | (with_reducible assumption) | assumption); have q209 : x5_1 < (l1.length : Int) := of_decide_eq_true (by first | (with_reducible assumption) | assumption); obtain ⟨ad209,e209,hx209_0⟩ := Kd.at_string HR1.out x5_1 p209 q209
      cases e209
      replace p209 := eq_true p209; replace q209 := eq_true q209
      go_wp2
      go_roundg k1
      case measure => have := HK1.out; omega
      case rel => exact ⟨(wrap64 (x5_1 + 1)),(by first | rfl | (simp; done) | (simp [*]; done)),H', ⟨by have := HK1.out; omega⟩,by repeat (first | exact Drawn0.refl _ | apply Drawn0.step)⟩
    ·rw [if_neg c4] at H; exact absurd H (by simp)
   ·rw [if_neg c3] at H; have c3b0 : decide (x5_1 < (l1.length : Int)) = false := decide_eq_false c3; clear c3; obtain rfl := Option.some.inj H
    go_wp2
    go_ret
    exact ⟨by first | rfl | (simp; done) | (simp [*]; done),by repeat (first | exact Drawn0.refl _ | apply Drawn0.step)⟩
attribute [local go_sem] xl xj xv xu xe xd xk xi 
def laws_zzFits2.l0 : Nat → List ByteArray → Int → Int → Option (Bool)
 | 0, _, _, _ => none
 | k + 1,x8,x9,x10 => if x10 < x9 then (if 0 ≤ x10 then (if x10 < (x8.length : Int) then (if ((rdOf ByteArray.empty x8 x10).size : Int) > 2147483647 then (some false) else (laws_zzFits2.l0 k x8 x9 (wrap64 (x10 + 1)))) else (none)) else (none)) else (some true)
def laws_zzFits2.f (k : Nat) (l0 : List ByteArray) : Option (Bool) := if (l0.length : Int) > 2147483647 then (some false) else (laws_zzFits2.l0 k l0 (l0.length : Int) 0)
set_option maxHeartbeats 8000000 in
set_option maxRecDepth 100000 in
theorem laws_zzFits2.calls (k : Nat) (A0 : Option Addr) (c0 : Nat) (l0 : List ByteArray) (r : Bool) (w : World) (hr0 : Kd.C Kd.string w A0 l0.length l0) (hc0 : l0.length ≤ c0) (h : laws_zzFits2.f k l0 = some r) :
  Calls Tryz.prog 12 #[.slice A0 l0.length c0] w fun e w' => e = .returned (.bool r) ∧ Drawn0 w w' := by
 have HR0 := aM hr0; have HC0 := aM hc0; clear hr0 hc0; have H : (if (l0.length : Int) > 2147483647 then (some false) else (laws_zzFits2.l0 k l0 (l0.length : Int) 0)) = some r := h; clear h
 by_cases c2 : (l0.length : Int) > 2147483647
 ·rw [if_pos c2] at H; have c2b0 : decide (2147483647 < (l0.length : Int)) = true := decide_eq_true c2; have c2b1 : decide (2147483647 < l0.length) = true := decide_eq_true (by omega); clear c2; obtain rfl := Option.some.inj H
  go_enter Tryz.func12,Tryz.ntmps12
  go_wp2
  go_ret
  exact ⟨by first | rfl | (simp; done) | (simp [*]; done),by repeat (first | exact Drawn0.refl _ | apply Drawn0.step)⟩
 ·rw [if_neg c2] at H; have c2b0 : decide (2147483647 < (l0.length : Int)) = false := decide_eq_false c2; have c2b1 : decide (2147483647 < l0.length) = false := decide_eq_false (by omega); clear c2; have H' := aM H; clear H
  go_enter Tryz.func12,Tryz.ntmps12
  go_wp2
  go_loopg [10] k (fun kq v10 w' => ∃ (x10_1 : Int),v10 = .int .i64 x10_1 ∧ Aside0 (laws_zzFits2.l0 kq l0 (l0.length : Int) x10_1 = some r) ∧ Aside0 (kq ≤ k) ∧ Drawn0 w w')
  case atStart => exact ⟨(0),(by first | rfl | (simp; done) | (simp [*]; done)),H', ⟨Nat.le_refl _⟩,by repeat (first | exact Drawn0.refl _ | apply Drawn0.step)⟩
  case round =>
   clear H'
   try clear c1
   try clear c2
   try clear c2b0
   try clear c2b1
   try clear p2
   obtain ⟨x10_1,rfl,HA,HK1,⟨m1,rfl⟩⟩ := hrel
   cases gk with
   | zero => exact absurd HA.out (by simp [laws_zzFits2.l0])
   | succ k1 =>
    have H := HA.out; clear HA; simp only [laws_zzFits2.l0] at H
    by_cases c3 : x10_1 < (l0.length : Int)
    ·rw [if_pos c3] at H; have c3b0 : decide (x10_1 < (l0.length : Int)) = true := decide_eq_true c3; clear c3
     by_cases c4 : 0 ≤ x10_1
     ·rw [if_pos c4] at H; have c4b0 : decide (0 ≤ x10_1) = true := decide_eq_true c4; clear c4
      by_cases c5 : x10_1 < (l0.length : Int)
      ·rw [if_pos c5] at H; have c5b0 : decide (x10_1 < (l0.length : Int)) = true := decide_eq_true c5; clear c5
       by_cases c6 : ((rdOf ByteArray.empty l0 x10_1).size : Int) > 2147483647
       ·rw [if_pos c6] at H; have c6b0 : decide (2147483647 < ((rdOf ByteArray.empty l0 x10_1).size : Int)) = true := decide_eq_true c6; have c6b1 : decide (2147483647 < (rdOf ByteArray.empty l0 x10_1).size) = true := decide_eq_true (by omega); clear c6; obtain rfl := Option.some.inj H; have p101 : 0 ≤ (x10_1 : Int) := of_decide_eq_true (by first | (with_reducible assumption) | assumption); have q101 : x10_1 < (l0.length : Int) := of_decide_eq_true (by first | (with_reducible assumption) | assumption); obtain ⟨ad101,e101,hx101_0⟩ := Kd.at_string HR0.out x10_1 p101 q101
        cases e101
        replace p101 := eq_true p101; replace q101 := eq_true q101
        go_wp2
        go_ret
        exact ⟨by first | rfl | (simp; done) | (simp [*]; done),by repeat (first | exact Drawn0.refl _ | apply Drawn0.step)⟩
       ·rw [if_neg c6] at H; have c6b0 : decide (2147483647 < ((rdOf ByteArray.empty l0 x10_1).size : Int)) = false := decide_eq_false c6; have c6b1 : decide (2147483647 < (rdOf ByteArray.empty l0 x10_1).size) = false := decide_eq_false (by omega); clear c6; have H' := aM H; clear H; have p101 : 0 ≤ (x10_1 : Int) := of_decide_eq_true (by first | (with_reducible assumption) | assumption); have q101 : x10_1 < (l0.length : Int) := of_decide_eq_true (by first | (with_reducible assumption) | assumption); obtain ⟨ad101,e101,hx101_0⟩ := Kd.at_string HR0.out x10_1 p101 q101
        cases e101
        replace p101 := eq_true p101; replace q101 := eq_true q101
        go_wp2
        go_roundg k1
        case measure => have := HK1.out; omega
        case rel => exact ⟨(wrap64 (x10_1 + 1)),(by first | rfl | (simp; done) | (simp [*]; done)),H', ⟨by have := HK1.out; omega⟩,by repeat (first | exact Drawn0.refl _ | apply Drawn0.step)⟩
      ·rw [if_neg c5] at H; exact absurd H (by simp)
     ·rw [if_neg c4] at H; exact absurd H (by simp)
    ·rw [if_neg c3] at H; have c3b0 : decide (x10_1 < (l0.length : Int)) = false := decide_eq_false c3; clear c3; obtain rfl := Option.some.inj H
     go_wp2
     go_ret
     exact ⟨by first | rfl | (simp; done) | (simp [*]; done),by repeat (first | exact Drawn0.refl _ | apply Drawn0.step)⟩
attribute [local go_sem] xl xj xv xu xe xd xk xi 
def laws_zzFits1.f (k : Nat) (a0_0 : Int) (a0_1 : Int) (a0_2 : ByteArray) (l0_3 : List ByteArray) (l0_4 : List (S25)) : Option (Bool) := if (a0_2.size : Int) > 2147483647 then (some false) else ((laws_zzFits2.f k l0_3).bind fun t103 => (if t103 = true then (if (l0_4.length : Int) > 2147483647 then (some false) else (some true)) else (some false)))
set_option maxHeartbeats 8000000 in
set_option maxRecDepth 100000 in
theorem laws_zzFits1.calls (k : Nat) (a0_0 : Int) (a0_1 : Int) (a0_2 : ByteArray) (A0_3 : Option Addr) (c0_3 : Nat) (l0_3 : List ByteArray) (A0_4 : Option Addr) (c0_4 : Nat) (l0_4 : List (S25)) (r : Bool) (w : World) (hr0_3 : Kd.C Kd.string w A0_3 l0_3.length l0_3) (hc0_3 : l0_3.length ≤ c0_3) (hr0_4 : Kd.C k25 w A0_4 l0_4.length l0_4) (hc0_4 : l0_4.length ≤ c0_4) (h : laws_zzFits1.f k a0_0 a0_1 a0_2 l0_3 l0_4 = some r) :
  Calls Tryz.prog 4 #[.agg #[.int .i64 a0_0, .int .i64 a0_1, .string a0_2, .slice A0_3 l0_3.length c0_3, .slice A0_4 l0_4.length c0_4]] w fun e w' => e = .returned (.bool r) ∧ Below w.heap.size w w' := by
 have hu25 := Tryz.underlying25; have HR0_3 := aM hr0_3; have HC0_3 := aM hc0_3; clear hr0_3 hc0_3; have HR0_4 := aM hr0_4; have HC0_4 := aM hc0_4; clear hr0_4 hc0_4; have HB := aM (Below.refl w.heap.size w); have H : (if (a0_2.size : Int) > 2147483647 then (some false) else ((laws_zzFits2.f k l0_3).bind fun t103 => (if t103 = true then (if (l0_4.length : Int) > 2147483647 then (some false) else (some true)) else (some false)))) = some r := h; clear h
 by_cases c2 : (a0_2.size : Int) > 2147483647
 ·rw [if_pos c2] at H; have c2b0 : decide (2147483647 < (a0_2.size : Int)) = true := decide_eq_true c2; have c2b1 : decide (2147483647 < a0_2.size) = true := decide_eq_true (by omega); clear c2; obtain rfl := Option.some.inj H
  go_enter Tryz.func4,Tryz.ntmps4
  go_wp2_with (first | ((with_reducible refine yq (N := 1) rfl ?_); refine yp ?hg (N := 1) ?hd (cs := #[.int .i64 a0_0, .int .i64 a0_1, .string a0_2, .slice A0_3 l0_3.length c0_3, .slice A0_4 l0_4.length c0_4]) (t := 25) ?hr ?_; (case hd => rfl); (case hg => rfl); (case hr => first | (go_simp; done) | (go_simp; rfl)); intro gb102 hg w3 hbox hb; have n0_ := aM (zv (by repeat (first | (with_reducible first | exact HB.out | apply zb | apply zc | apply zl) | exact HB.out)) hb); have n1_ := aM (hbox); have n2_ := aM ((by rw [hg]; exact (zo (by repeat (first | (with_reducible first | exact HB.out | apply zb | apply zc | apply zl) | exact HB.out))) : w.heap.size ≤ gb102)); have n3_ := aM ((by rw [hg]; exact (zo (by repeat (first | (with_reducible first | exact HB.out | apply zb | apply zc | apply zl) | exact HB.out))) : w.heap.size ≤ gb102)); clear HB; have HB := n0_; have BK102 := n1_; have GW102 := n2_; have GE102 := n3_; clear n0_ n1_ n2_ n3_; clear hb hbox hg; have hcz4_0 : w3.cell? ⟨gb102,0,none⟩ = some (.int .i64 a0_0) := (za BK102.out 0).trans rfl; have hcz4_1 : w3.cell? ⟨gb102,1,none⟩ = some (.int .i64 a0_1) := (za BK102.out 1).trans rfl; have hcz4_2 : w3.cell? ⟨gb102,2,none⟩ = some (.string a0_2) := (za BK102.out 2).trans rfl; have hcz4_3 : w3.cell? ⟨gb102,3,none⟩ = some (.slice A0_3 l0_3.length c0_3) := (za BK102.out 3).trans rfl; have hcz4_4 : w3.cell? ⟨gb102,4,none⟩ = some (.slice A0_4 l0_4.length c0_4) := (za BK102.out 4).trans rfl; have hfz4_0 := zh BK102.out 0; have hfz4_1 := zh BK102.out 1; have hfz4_2 := zh BK102.out 2; have hfz4_3 := zh BK102.out 3; have hfz4_4 := zh BK102.out 4))
  go_ret
  exact ⟨by first | rfl | (simp [zz,zw] <;> rfl) | (simp [*, zz,zw] <;> rfl),by repeat (first | (with_reducible first | exact HB.out | apply zb | apply zc | apply zl | refine zj ?_ GE102.out) | exact HB.out)⟩
 ·rw [if_neg c2] at H; have c2b0 : decide (2147483647 < (a0_2.size : Int)) = false := decide_eq_false c2; have c2b1 : decide (2147483647 < a0_2.size) = false := decide_eq_false (by omega); clear c2; replace H := Option.bind_eq_some_iff.mp H; obtain ⟨t103,A50,H⟩ := H; replace H : (if t103 = true then (if (l0_4.length : Int) > 2147483647 then (some false) else (some true)) else (some false)) = some r := H; have A5 := aM A50; clear A50
  by_cases c6 : t103 = true
  ·subst c6
   have H1 : (if (l0_4.length : Int) > 2147483647 then (some false) else (some true)) = some r := by rw [if_pos rfl] at H; exact H
   clear H; have H := H1; clear H1
   by_cases c7 : (l0_4.length : Int) > 2147483647
   ·rw [if_pos c7] at H; have c7b0 : decide (2147483647 < (l0_4.length : Int)) = true := decide_eq_true c7; have c7b1 : decide (2147483647 < l0_4.length) = true := decide_eq_true (by omega); clear c7; obtain rfl := Option.some.inj H
    go_enter Tryz.func4,Tryz.ntmps4
    go_wp2_with (first | ((with_reducible refine yq (N := 1) rfl ?_); refine yp ?hg (N := 1) ?hd (cs := #[.int .i64 a0_0, .int .i64 a0_1, .string a0_2, .slice A0_3 l0_3.length c0_3, .slice A0_4 l0_4.length c0_4]) (t := 25) ?hr ?_; (case hd => rfl); (case hg => rfl); (case hr => first | (go_simp; done) | (go_simp; rfl)); intro gb102 hg w8 hbox hb; have n0_ := aM (zv (by repeat (first | (with_reducible first | exact HB.out | apply zb | apply zc | apply zl) | exact HB.out)) hb); have n1_ := aM (hbox); have n2_ := aM ((by rw [hg]; exact (zo (by repeat (first | (with_reducible first | exact HB.out | apply zb | apply zc | apply zl) | exact HB.out))) : w.heap.size ≤ gb102)); have n3_ := aM ((by rw [hg]; exact (zo (by repeat (first | (with_reducible first | exact HB.out | apply zb | apply zc | apply zl) | exact HB.out))) : w.heap.size ≤ gb102)); clear HB; have HB := n0_; have BK102 := n1_; have GW102 := n2_; have GE102 := n3_; clear n0_ n1_ n2_ n3_; clear hb hbox hg; have hcz9_0 : w8.cell? ⟨gb102,0,none⟩ = some (.int .i64 a0_0) := (za BK102.out 0).trans rfl; have hcz9_1 : w8.cell? ⟨gb102,1,none⟩ = some (.int .i64 a0_1) := (za BK102.out 1).trans rfl; have hcz9_2 : w8.cell? ⟨gb102,2,none⟩ = some (.string a0_2) := (za BK102.out 2).trans rfl; have hcz9_3 : w8.cell? ⟨gb102,3,none⟩ = some (.slice A0_3 l0_3.length c0_3) := (za BK102.out 3).trans rfl; have hcz9_4 : w8.cell? ⟨gb102,4,none⟩ = some (.slice A0_4 l0_4.length c0_4) := (za BK102.out 4).trans rfl; have hfz9_0 := zh BK102.out 0; have hfz9_1 := zh BK102.out 1; have hfz9_2 := zh BK102.out 2; have hfz9_3 := zh BK102.out 3; have hfz9_4 := zh BK102.out 4) | ((with_reducible refine xx (f := 12) rfl ?_); refine goesL_ (some 9) rfl rfl Tryz.func12 (by kernel_rfl) rfl #[.slice A0_3 l0_3.length c0_3] rfl (by (try simp only [List.map_toArray,List.map_cons,List.map_nil]); first | done | rfl | (simp only [List.length_drop,List.length_take]; rfl)) ?_; (with_reducible refine (laws_zzFits2.calls k _ _ l0_3 true _ ?side1 ?side2 A5.out).mono ?_); (case side1 => repeat (first | exact (Kd.C_below HR0_3.out HB.out) | (with_reducible refine Kd.C_alloc ?_ _) | (with_reducible refine Kd.C_drewN ?_ _) | (with_reducible refine Kd.C_drew ?_))); (case side2 => exact HC0_3.out); rintro e w' ⟨rfl,⟨nd,rfl⟩⟩; refine ⟨_,rfl, ?_⟩))
    go_ret
    exact ⟨by first | rfl | (simp [zz,zw] <;> rfl) | (simp [*, zz,zw] <;> rfl),by repeat (first | (with_reducible first | exact HB.out | apply zb | apply zc | apply zl | refine zj ?_ GE102.out) | exact HB.out)⟩
   ·rw [if_neg c7] at H; have c7b0 : decide (2147483647 < (l0_4.length : Int)) = false := decide_eq_false c7; have c7b1 : decide (2147483647 < l0_4.length) = false := decide_eq_false (by omega); clear c7; obtain rfl := Option.some.inj H
    go_enter Tryz.func4,Tryz.ntmps4
    go_wp2_with (first | ((with_reducible refine yq (N := 1) rfl ?_); refine yp ?hg (N := 1) ?hd (cs := #[.int .i64 a0_0, .int .i64 a0_1, .string a0_2, .slice A0_3 l0_3.length c0_3, .slice A0_4 l0_4.length c0_4]) (t := 25) ?hr ?_; (case hd => rfl); (case hg => rfl); (case hr => first | (go_simp; done) | (go_simp; rfl)); intro gb102 hg w10 hbox hb; have n0_ := aM (zv (by repeat (first | (with_reducible first | exact HB.out | apply zb | apply zc | apply zl) | exact HB.out)) hb); have n1_ := aM (hbox); have n2_ := aM ((by rw [hg]; exact (zo (by repeat (first | (with_reducible first | exact HB.out | apply zb | apply zc | apply zl) | exact HB.out))) : w.heap.size ≤ gb102)); have n3_ := aM ((by rw [hg]; exact (zo (by repeat (first | (with_reducible first | exact HB.out | apply zb | apply zc | apply zl) | exact HB.out))) : w.heap.size ≤ gb102)); clear HB; have HB := n0_; have BK102 := n1_; have GW102 := n2_; have GE102 := n3_; clear n0_ n1_ n2_ n3_; clear hb hbox hg; have hcz11_0 : w10.cell? ⟨gb102,0,none⟩ = some (.int .i64 a0_0) := (za BK102.out 0).trans rfl; have hcz11_1 : w10.cell? ⟨gb102,1,none⟩ = some (.int .i64 a0_1) := (za BK102.out 1).trans rfl; have hcz11_2 : w10.cell? ⟨gb102,2,none⟩ = some (.string a0_2) := (za BK102.out 2).trans rfl; have hcz11_3 : w10.cell? ⟨gb102,3,none⟩ = some (.slice A0_3 l0_3.length c0_3) := (za BK102.out 3).trans rfl; have hcz11_4 : w10.cell? ⟨gb102,4,none⟩ = some (.slice A0_4 l0_4.length c0_4) := (za BK102.out 4).trans rfl; have hfz11_0 := zh BK102.out 0; have hfz11_1 := zh BK102.out 1; have hfz11_2 := zh BK102.out 2; have hfz11_3 := zh BK102.out 3; have hfz11_4 := zh BK102.out 4) | ((with_reducible refine xx (f := 12) rfl ?_); refine goesL_ (some 9) rfl rfl Tryz.func12 (by kernel_rfl) rfl #[.slice A0_3 l0_3.length c0_3] rfl (by (try simp only [List.map_toArray,List.map_cons,List.map_nil]); first | done | rfl | (simp only [List.length_drop,List.length_take]; rfl)) ?_; (with_reducible refine (laws_zzFits2.calls k _ _ l0_3 true _ ?side1 ?side2 A5.out).mono ?_); (case side1 => repeat (first | exact (Kd.C_below HR0_3.out HB.out) | (with_reducible refine Kd.C_alloc ?_ _) | (with_reducible refine Kd.C_drewN ?_ _) | (with_reducible refine Kd.C_drew ?_))); (case side2 => exact HC0_3.out); rintro e w' ⟨rfl,⟨nd,rfl⟩⟩; refine ⟨_,rfl, ?_⟩))
    go_ret
    exact ⟨by first | rfl | (simp [zz,zw] <;> rfl) | (simp [*, zz,zw] <;> rfl),by repeat (first | (with_reducible first | exact HB.out | apply zb | apply zc | apply zl | refine zj ?_ GE102.out) | exact HB.out)⟩
  ·replace c6 := Bool.eq_false_iff.mpr c6; subst c6
   have H1 : (some false) = some r := by rw [if_neg (show ¬ (false = true) by decide)] at H; exact H
   clear H; have H := H1; clear H1; obtain rfl := Option.some.inj H
   go_enter Tryz.func4,Tryz.ntmps4
   go_wp2_with (first | ((with_reducible refine yq (N := 1) rfl ?_); refine yp ?hg (N := 1) ?hd (cs := #[.int .i64 a0_0, .int .i64 a0_1, .string a0_2, .slice A0_3 l0_3.length c0_3, .slice A0_4 l0_4.length c0_4]) (t := 25) ?hr ?_; (case hd => rfl); (case hg => rfl); (case hr => first | (go_simp; done) | (go_simp; rfl)); intro gb102 hg w12 hbox hb; have n0_ := aM (zv (by repeat (first | (with_reducible first | exact HB.out | apply zb | apply zc | apply zl) | exact HB.out)) hb); have n1_ := aM (hbox); have n2_ := aM ((by rw [hg]; exact (zo (by repeat (first | (with_reducible first | exact HB.out | apply zb | apply zc | apply zl) | exact HB.out))) : w.heap.size ≤ gb102)); have n3_ := aM ((by rw [hg]; exact (zo (by repeat (first | (with_reducible first | exact HB.out | apply zb | apply zc | apply zl) | exact HB.out))) : w.heap.size ≤ gb102)); clear HB; have HB := n0_; have BK102 := n1_; have GW102 := n2_; have GE102 := n3_; clear n0_ n1_ n2_ n3_; clear hb hbox hg; have hcz13_0 : w12.cell? ⟨gb102,0,none⟩ = some (.int .i64 a0_0) := (za BK102.out 0).trans rfl; have hcz13_1 : w12.cell? ⟨gb102,1,none⟩ = some (.int .i64 a0_1) := (za BK102.out 1).trans rfl; have hcz13_2 : w12.cell? ⟨gb102,2,none⟩ = some (.string a0_2) := (za BK102.out 2).trans rfl; have hcz13_3 : w12.cell? ⟨gb102,3,none⟩ = some (.slice A0_3 l0_3.length c0_3) := (za BK102.out 3).trans rfl; have hcz13_4 : w12.cell? ⟨gb102,4,none⟩ = some (.slice A0_4 l0_4.length c0_4) := (za BK102.out 4).trans rfl; have hfz13_0 := zh BK102.out 0; have hfz13_1 := zh BK102.out 1; have hfz13_2 := zh BK102.out 2; have hfz13_3 := zh BK102.out 3; have hfz13_4 := zh BK102.out 4) | ((with_reducible refine xx (f := 12) rfl ?_); refine goesL_ (some 9) rfl rfl Tryz.func12 (by kernel_rfl) rfl #[.slice A0_3 l0_3.length c0_3] rfl (by (try simp only [List.map_toArray,List.map_cons,List.map_nil]); first | done | rfl | (simp only [List.length_drop,List.length_take]; rfl)) ?_; (with_reducible refine (laws_zzFits2.calls k _ _ l0_3 false _ ?side1 ?side2 A5.out).mono ?_); (case side1 => repeat (first | exact (Kd.C_below HR0_3.out HB.out) | (with_reducible refine Kd.C_alloc ?_ _) | (with_reducible refine Kd.C_drewN ?_ _) | (with_reducible refine Kd.C_drew ?_))); (case side2 => exact HC0_3.out); rintro e w' ⟨rfl,⟨nd,rfl⟩⟩; refine ⟨_,rfl, ?_⟩))
   go_ret
   exact ⟨by first | rfl | (simp [zz,zw] <;> rfl) | (simp [*, zz,zw] <;> rfl),by repeat (first | (with_reducible first | exact HB.out | apply zb | apply zc | apply zl | refine zj ?_ GE102.out) | exact HB.out)⟩
end Go.Proofs.YtnmhjndjfblebaaGreatDoor.PS
