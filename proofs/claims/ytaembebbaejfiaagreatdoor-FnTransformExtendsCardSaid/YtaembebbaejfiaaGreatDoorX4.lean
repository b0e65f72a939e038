/- Parts of the proof, laid together: ToAny, AtPath, Back, Index, PathM, TransNone, RangeSetA, TransLeaf, ImplTransK, TransOne, QSpecPlace, QSpecGet, QSpecHas, QSpecSayIn, QLawsZzFits2, QLawsZzFits1. -/
import Derived.Test.YtaembebbaejfiaaGreatDoorX3
import Derived.Laws.IdiomCopy
import Derived.Test.YtaembebbaejfiaaGreatDoorX1
namespace Go.Proofs.YtaembebbaejfiaaGreatDoor.Tr
open Go.RowKit Go.Proofs.YtaembebbaejfiaaGreatDoorW.PrintWords Go.Proofs.YtaembebbaejfiaaGreatDoorW.PrintLast Go.Proofs.YtaembebbaejfiaaGreatDoor.Str Go.Proofs.YtaembebbaejfiaaGreatDoor.Kit Go.Proofs.YtaembebbaejfiaaGreatDoor.MapV Go.Proofs.YtaembebbaejfiaaGreatDoor.Frame Go.Proofs.YtaembebbaejfiaaGreatDoor.PS
set_option linter.unusedVariables false
set_option linter.unusedSimpArgs false
theorem info_any : (Tryz.prog.info? 20).map (fun i => (i.zero, i.size, i.bytes)) = some (some .nilIface, 1, 16) := by kernel_rfl
def noEn : En := (.nilIface, .null, fun _ => False)
structure ListAt (wr : World) (b n : Nat) (zs : List En) : Prop where
 hr : kAny.R 20 wr 0 (fun _ => True) (.slice (some ⟨b, 0, none⟩) n n) (zs.map (fun z => z.1))
 hz : ∀ z, z ∈ zs → AR wr z.1 z.2.1 z.2.2
 hd : zs.Pairwise En.far
 hF : ∀ z, z ∈ zs → ∀ k, z.2.2 k → b < k ∧ k < wr.heap.size
theorem ListAt.length {wr : World} {b n : Nat} {zs : List En} (h : ListAt wr b n zs) : zs.length = n := by
 have := (Kd.R_reads' h.hr).1
 rw [List.length_map] at this
 exact this.symm
theorem ListAt.lt {wr : World} {b n : Nat} {zs : List En} (h : ListAt wr b n zs) : b < wr.heap.size := ((Kd.R_bound h.hr).1 b (by simp [Value.ownBlock])).2.2.1
theorem ListAt.move {wr w1 : World} {b n : Nat} {zs : List En} (h : ListAt wr b n zs) (hb : Below wr.heap.size wr w1) : ListAt w1 b n zs :=
 ⟨Kd.R_below h.hr hb, fun z hz => (h.hz z hz).move (fun k hk => hb.block k (h.hF z hz k hk).2), h.hd, fun z hz k hk => ⟨(h.hF z hz k hk).1, Nat.lt_of_lt_of_le (h.hF z hz k hk).2 hb.size⟩⟩
theorem set_pair {R : En → En → Prop} (hs : ∀ a b, R a b → R b a) {x : En} : ∀ {zs : List En} (i : Nat), zs.Pairwise R → (∀ z ∈ zs, R x z) → (zs.set i x).Pairwise R
 | [], _, h, _ => h
 | y :: r, 0, h, hx => List.pairwise_cons.2 ⟨fun z hz => hx z (by simp [hz]), (List.pairwise_cons.1 h).2⟩
 | y :: r, i + 1, h, hx => by
  obtain ⟨h1, h2⟩ := List.pairwise_cons.1 h
  rw [List.set_cons_succ]
  refine List.pairwise_cons.2 ⟨fun z hz => ?_, set_pair hs i h2 (fun z hz => hx z (by simp [hz]))⟩
  rcases List.mem_or_eq_of_mem_set hz with hz | rfl
  ·exact h1 z hz
  ·exact hs _ _ (hx y (by simp))
theorem ListAt.put {W w3 : World} {b n : Nat} {zs : List En} (h : ListAt W b n zs) (hb3 : Below W.heap.size W w3) {v : Value} {y : Y} (hA : AR w3 v y (fun k => W.heap.size ≤ k ∧ k < w3.heap.size)) (i : Nat) (hi : i < n) :
  ListAt (w3.setCell ⟨b, i, none⟩ v) b n (zs.set i (v, y, fun k => W.heap.size ≤ k ∧ k < w3.heap.size)) := by
 have hlt := h.lt
 have h3 := h.move hb3
 have hsz : (w3.setCell ⟨b, i, none⟩ v).heap.size = w3.heap.size := by simp
 have hg : w3.grownBy (w3.setCell ⟨b, i, none⟩ v) (some b) := grown_setCell w3 b i v
 have mv : ∀ {v' y F}, AR w3 v' y F → (∀ k, F k → b < k ∧ k < w3.heap.size) → AR (w3.setCell ⟨b, i, none⟩ v) v' y F := fun hA hF => hA.move (fun k hk => hg.block k (hF k hk).2 (fun e => by injection e with e; have := (hF k hk).1; omega))
 refine ⟨?_, fun z hz => ?_, ?_, fun z hz k hk => ?_⟩
 ·rw [List.map_set]
  exact (kAny_put h3.hr i hi v hA.one).2.2
 ·rcases List.mem_or_eq_of_mem_set hz with hz | rfl
  ·exact mv (h3.hz z hz) (h3.hF z hz)
  ·exact mv hA (fun k hk => ⟨by omega, hk.2⟩)
 ·refine set_pair (fun a b hab k hk hk2 => hab k hk2 hk) i h.hd (fun z hz k hk hk2 => ?_)
  have h1 := (h.hF z hz k hk2).2
  have h2 : W.heap.size ≤ k := hk.1
  omega
 ·rw [hsz]
  rcases List.mem_or_eq_of_mem_set hz with hz | rfl
  ·exact h3.hF z hz k hk
  ·have h2 : W.heap.size ≤ k := hk.1
   exact ⟨by omega, hk.2⟩
theorem ListAt.done {wr : World} {b n : Nat} {zs : List En} {l : List Y} (h : ListAt wr b n zs) (hl : zs.map (fun z => z.2.1) = l) : AR wr (.iface 58 (.slice (some ⟨b, 0, none⟩) n n)) (.list l) (fun k => b ≤ k ∧ k < wr.heap.size) :=
 .list _ zs l _ hl.symm h.hr h.hz h.hd (fun b' hb' => by
  have : b = b' := by simpa [Value.ownBlock] using hb'
  subst this
  exact ⟨⟨Nat.le_refl _, h.lt⟩, fun z hz hk => by have := (h.hF z hz b hk).1; omega⟩) (fun z hz k hk => ⟨Nat.le_of_lt (h.hF z hz k hk).1, (h.hF z hz k hk).2⟩)
theorem ListAt.made (w : World) (n : Nat) (hn : n ≤ 1759218604400) : ListAt (w.alloc (.cells (madeCells #[.nilIface] n) 20)) w.heap.size n (List.replicate n noEn) := by
 refine ⟨?_, fun z hz => ?_, ?_, fun z hz k hk => ?_⟩
 ·have e : (List.replicate n noEn).map (fun z => z.1) = List.replicate n Value.nilIface := by rw [List.map_replicate]; rfl
  rw [e]
  refine ⟨fun _ _ => trivial, List.replicate n Value.nilIface, ⟨by simp [held], .inr ⟨w.heap.size, n, madeCells #[.nilIface] n, by simp, Nat.zero_le _, cb_new _ _, by simp, by unfold maxLen; omega, by simp [held, size_madeCells], ?_⟩⟩, by simp [held], fun j p hp => ?_⟩
  ·show (madeCells #[.nilIface] n).toList.take ((List.replicate n Value.nilIface).length * 1) = List.replicate n Value.nilIface
   rw [List.length_replicate, Nat.mul_one]
   apply List.ext_getElem?
   intro j
   by_cases hj : j < n
   ·rw [List.getElem?_take_of_lt hj, Array.getElem?_toList]
    simp [madeCells, hj, Nat.mod_one]
   ·rw [List.getElem?_take_eq_none (by omega), List.getElem?_eq_none (by simp; omega)]
  ·obtain ⟨hj, rfl⟩ := List.getElem?_eq_some_iff.1 hp
   have hj' : j < n := by simpa using hj
   show ((List.replicate n Value.nilIface).drop (j * 1)).take 1 = [(List.replicate n Value.nilIface)[j]] ∧ _
   rw [List.getElem_replicate, Nat.mul_one, List.drop_replicate, List.take_replicate, show min 1 (n - j) = 1 by omega]
   exact ⟨rfl, rfl⟩
 ·rw [List.eq_of_mem_replicate hz]
  exact .null _
 ·exact List.pairwise_replicate.2 (.inr (fun k hk => hk.elim))
 ·rw [List.eq_of_mem_replicate hz] at hk
  exact hk.elim
def saidTo (l : List Y) (i n : Nat) : List Y := l.take i ++ List.replicate (n - i) .null
theorem saidTo_set (l : List Y) (i n : Nat) (hi : i < n) (hl : l.length = n) : (saidTo l i n).set i (l[i]'(by omega)) = saidTo l (i + 1) n := by
 unfold saidTo
 have h1 : (l.take i).length = i := by rw [List.length_take]; omega
 rw [List.set_append_right _ _ (by omega), h1, Nat.sub_self]
 obtain ⟨m, hm⟩ : ∃ m, n - i = m + 1 := ⟨n - i - 1, by omega⟩
 rw [hm, List.replicate_succ, List.set_cons_zero, List.take_succ_eq_append_getElem (by omega), show n - (i + 1) = m by omega, List.append_assoc]
 rfl
set_option maxHeartbeats 6400000 in
set_option maxRecDepth 100000 in
theorem toAny_list (nm : Int) (t : BA) (ks : List BA) (vs : List VI) (hvl : vs.length ≤ 1759218604400) (hch : ∀ v, v ∈ vs → ToAnyAt v) (A3 A4 : Option Addr) (c3 c4 : Nat) (w : World) (hv : kI.C w A4 vs.length vs) :
  Calls Tryz.prog 26 #[.agg #[.int .i64 4, .int .i64 nm, .string t, .slice A3 ks.length c3, .slice A4 vs.length c4]] w (Made w (.list (anyL vs))) := by
 have HC := aM hch
 have HV := aM hv
 have hmk := fun W => run_make_row' (P := Tryz.prog) 58 20 .nilIface 16 Tryz.underlying58 info_any rfl .i64 .i64 vs.length (by omega) (by omega) W
 have hbx := below_alloc (Below.refl w.heap.size w) (.cells #[.int .i64 4, .int .i64 nm, .string t, .slice A3 ks.length c3, .slice A4 vs.length c4] 45)
 have HB0 := aM (below_alloc hbx (.cells (madeCells #[.nilIface] vs.length) 20))
 have HX0 := aM (show ((w.alloc (.cells #[.int .i64 4, .int .i64 nm, .string t, .slice A3 ks.length c3, .slice A4 vs.length c4] 45)).alloc (.cells (madeCells #[.nilIface] vs.length) 20)).heap[w.heap.size]? = some (.cells #[.int .i64 4, .int .i64 nm, .string t, .slice A3 ks.length c3, .slice A4 vs.length c4] 45 (0, 0)) from blk_alloc (cb_new _ _) _)
 have hm0 := ListAt.made (w.alloc (.cells #[.int .i64 4, .int .i64 nm, .string t, .slice A3 ks.length c3, .slice A4 vs.length c4] 45)) vs.length hvl
 rw [World.size_alloc] at hm0
 have HM0 := aM hm0
 have HT0 := aM (show (List.replicate vs.length noEn).map (fun z => z.2.1) = saidTo (anyL vs) 0 vs.length from by rw [List.map_replicate]; rfl)
 have hc : ∀ W : World, W = W := fun _ => rfl
 clear hch hv hbx hm0 hc
 go_enter Tryz.func26, Tryz.ntmps26
 go_wp2
 go_loopw [32, 4] (fun v32 v4 wr => ∃ i : Nat, v32 = .int .i64 i ∧ i ≤ vs.length ∧ Aside0 (∃ zs, ListAt wr (w.heap.size + 1) vs.length zs ∧ zs.map (fun z => z.2.1) = saidTo (anyL vs) i vs.length) ∧ Aside0 (Below w.heap.size w wr) ∧ Aside0 (wr.heap[w.heap.size]? = some (.cells #[.int .i64 4, .int .i64 nm, .string t, .slice A3 ks.length c3, .slice A4 vs.length c4] 45 (0, 0)))) (fun v32 _ _ => vs.length - (intOf v32).toNat)
 case atStart => exact ⟨0, rfl, by omega, ⟨_, HM0.out, HT0.out⟩, HB0, HX0⟩
 case round =>
  clear HM0 HB0 HX0 HT0
  obtain ⟨i, rfl, hiv, HM, HB, HX⟩ := hrel
  have x4 := cb_cell (i := 4) HX.out rfl
  have q0 : (0 : Int) ≤ (i : Int) := by omega
  by_cases hlv : i < vs.length
  ·have q2 : (i : Int) < (vs.length : Int) := by omega
   obtain ⟨vb, vo, rfl, hvb, hvc⟩ := kI_at HV.out (by omega)
   obtain ⟨B3, d3, B4, d4, e0, e1, e2, e3, e4, l3, g3, l4, g4⟩ := hvc i hlv
   have HCH := aM (HC.out vs[i] (List.getElem_mem hlv))
   have HG := aM (And.intro l3 (And.intro g3 (And.intro l4 g4)))
   have y0 := pw_cell_below HB.out e0
   have y1 := pw_cell_below HB.out e1
   have y2 := pw_cell_below HB.out e2
   have y3 := pw_cell_below HB.out e3
   have y4 := pw_cell_below HB.out e4
   have CA := aM (fun (W : World) (hb : Below w.heap.size w W) => HCH.out B3 B4 d3 d4 W HG.out.1 (Kd.C_below HG.out.2.1 hb) HG.out.2.2.1 (Kd.C_below HG.out.2.2.2 hb))
   have HST := aM (saidTo_set (anyL vs) i vs.length hlv (anyL_length vs))
   have HGE := aM (show (anyL vs)[i]'(by rw [anyL_length]; exact hlv) = anyOf vs[i] by simp [anyL_map])
   clear hvc e0 e1 e2 e3 e4 l3 g3 l4 g4 HCH HG
   generalize vs[i] = v at y0 y1 y2 y3 y4 HGE CA
   obtain ⟨x0, x1, x2, x3_, x4_⟩ := v
   generalize anyOf ⟨x0, x1, x2, x3_, x4_⟩ = yv at CA HGE
   go_wp2_with fail
   refine (CA.out wr HB.out).mono ?_
   rintro e w3 ⟨v3, rfl, ha3, hb3⟩
   have HB3 := aM hb3
   have HA3 := aM ha3
   have HX3 := aM ((hb3.block _ (cb_lt HX.out)).trans HX.out)
   obtain ⟨zs, hzs, hsaid⟩ := HM.out
   have HZS := aM hzs
   have HSD := aM hsaid
   have hzt := kAny_put (hzs.move hb3).hr i hlv v3 ha3.one
   have hst : (storeCells ⟨w.heap.size + 1, i, none⟩ [v3]).run Tryz.prog w3 = .ok () (w3.setCell ⟨w.heap.size + 1, i, none⟩ v3) := by
    have := run_storeCells_cells (P := Tryz.prog) (w.heap.size + 1) i [v3] 0 w3 (fun j hj => by
     have : j = 0 := by simpa using hj
     subst this
     exact hzt.1) (fun j hj => by
     have : j = 0 := by simpa using hj
     subst this
     exact hzt.2.1) (fun u hu => by
     have : u = v3 := by simpa using hu
     rw [this]
     exact ha3.one)
    simpa [World.setCells] using this
   clear hb3 ha3 hzs hsaid hzt
   go_wp2
   rw [hst]
   go_wp2
   go_roundw
   case rel =>
    have hp := HZS.out.put HB3.out HA3.out i hlv
    refine ⟨i + 1, by go_num, by omega, ⟨⟨_, hp, ?_⟩⟩, ⟨?_⟩, ⟨?_⟩⟩
    ·rw [List.map_set, HSD.out, ← HST.out, HGE.out]
    ·exact (hb_then HB.out HB3.out).setCell (by show w.heap.size ≤ w.heap.size + 1; omega) _
    ·exact (Below.heap_setCell w3 ⟨w.heap.size + 1, i, none⟩ v3 _ (by show w.heap.size ≠ w.heap.size + 1; omega)).trans HX3.out
   case measure => simp [intOf]; omega
  ·have HTK := aM (show saidTo (anyL vs) i vs.length = anyL vs by
    unfold saidTo
    rw [List.take_of_length_le (by rw [anyL_length]; omega), show vs.length - i = 0 by omega]
    simp)
   go_wp2
   go_ret
   obtain ⟨zs, hzs, hsaid⟩ := HM.out
   rw [HTK.out] at hsaid
   exact ⟨_, rfl, (hzs.done hsaid).mono (fun k hk => ⟨by have := hk.1; omega, hk.2⟩), HB.out⟩
set_option maxHeartbeats 800000 in
theorem toAny_bool (nm : Int) (t : BA) (ks : List BA) (vs : List VI) (A3 A4 : Option Addr) (c3 c4 : Nat) (w : World) :
  Calls Tryz.prog 26 #[.agg #[.int .i64 1, .int .i64 nm, .string t, .slice A3 ks.length c3, .slice A4 vs.length c4]] w (Made w (.bool (nm != 0))) := by
 have HB := aM (below_alloc (Below.refl w.heap.size w) (.cells #[.int .i64 1, .int .i64 nm, .string t, .slice A3 ks.length c3, .slice A4 vs.length c4] 45))
 go_enter Tryz.func26, Tryz.ntmps26
 go_wp2
 go_ret
 exact ⟨_, rfl, .bool _ _, HB.out⟩
set_option maxHeartbeats 800000 in
theorem toAny_int (nm : Int) (t : BA) (ks : List BA) (vs : List VI) (A3 A4 : Option Addr) (c3 c4 : Nat) (w : World) :
  Calls Tryz.prog 26 #[.agg #[.int .i64 2, .int .i64 nm, .string t, .slice A3 ks.length c3, .slice A4 vs.length c4]] w (Made w (.int nm)) := by
 have HB := aM (below_alloc (Below.refl w.heap.size w) (.cells #[.int .i64 2, .int .i64 nm, .string t, .slice A3 ks.length c3, .slice A4 vs.length c4] 45))
 go_enter Tryz.func26, Tryz.ntmps26
 go_wp2
 go_ret
 exact ⟨_, rfl, .int _ _, HB.out⟩
set_option maxHeartbeats 800000 in
theorem toAny_text (nm : Int) (t : BA) (ks : List BA) (vs : List VI) (A3 A4 : Option Addr) (c3 c4 : Nat) (w : World) :
  Calls Tryz.prog 26 #[.agg #[.int .i64 3, .int .i64 nm, .string t, .slice A3 ks.length c3, .slice A4 vs.length c4]] w (Made w (.text t)) := by
 have HB := aM (below_alloc (Below.refl w.heap.size w) (.cells #[.int .i64 3, .int .i64 nm, .string t, .slice A3 ks.length c3, .slice A4 vs.length c4] 45))
 go_enter Tryz.func26, Tryz.ntmps26
 go_wp2
 go_ret
 exact ⟨_, rfl, .text _ _, HB.out⟩
set_option maxHeartbeats 800000 in
theorem toAny_other (kd nm : Int) (t : BA) (ks : List BA) (vs : List VI) (A3 A4 : Option Addr) (c3 c4 : Nat) (w : World) (h1 : (kd == 1) = false) (h2 : (kd == 2) = false) (h3 : (kd == 3) = false) (h4 : (kd == 4) = false) (h5 : (kd == 5) = false) :
  Calls Tryz.prog 26 #[.agg #[.int .i64 kd, .int .i64 nm, .string t, .slice A3 ks.length c3, .slice A4 vs.length c4]] w (Made w .null) := by
 have HB := aM (below_alloc (Below.refl w.heap.size w) (.cells #[.int .i64 kd, .int .i64 nm, .string t, .slice A3 ks.length c3, .slice A4 vs.length c4] 45))
 go_enter Tryz.func26, Tryz.ntmps26
 go_wp2
 go_ret
 exact ⟨_, rfl, .null _, HB.out⟩
set_option maxHeartbeats 1600000 in
theorem toAny_map (nm : Int) (t : BA) (ks : List BA) (vs : List VI) (hks : ∀ s, s ∈ ks → s.size ≤ maxLen) (hkl : ks.length ≤ 8796093022000) (hvl : vs.length ≤ 1759218604400) (hch : ∀ v, v ∈ vs → ToAnyAt v) (A3 A4 : Option Addr) (c3 c4 : Nat) (w : World) (hk : Kd.string.C w A3 ks.length ks) (hv : kI.C w A4 vs.length vs) :
  Calls Tryz.prog 26 #[.agg #[.int .i64 5, .int .i64 nm, .string t, .slice A3 ks.length c3, .slice A4 vs.length c4]] w (Made w (.map (fitM (pairsOf ks vs)))) := by
 have hb := below_alloc (Below.refl w.heap.size w) (.cells #[.int .i64 5, .int .i64 nm, .string t, .slice A3 ks.length c3, .slice A4 vs.length c4] 45)
 have HB := aM hb
 have CM := aM (toMap_of 5 nm t ks vs hks hkl hvl hch A3 A4 c3 c4 (w.alloc (.cells #[.int .i64 5, .int .i64 nm, .string t, .slice A3 ks.length c3, .slice A4 vs.length c4] 45)) (Kd.C_below hk hb) (Kd.C_below hv hb))
 clear hb hks hch hk hv
 go_enter Tryz.func26, Tryz.ntmps26
 go_wp2_with fail
 refine CM.out.mono ?_
 rintro e w1 ⟨b, rfl, ha, hb⟩
 have HA := aM ha
 have HB1 := aM (hb_then HB.out hb)
 clear ha hb CM
 go_wp2
 go_ret
 exact ⟨_, rfl, HA.out.mono (fun k hk => ⟨by have h1 := hk.1; rw [World.size_alloc] at h1; omega, hk.2⟩), HB1.out⟩
theorem anyOf_list (n : Int) (t : BA) (ks : List BA) (vs : List VI) : anyOf ⟨4, n, t, ks, vs⟩ = .list (anyL vs) := by simp [anyOf]
theorem anyOf_map (n : Int) (t : BA) (ks : List BA) (vs : List VI) : anyOf ⟨5, n, t, ks, vs⟩ = .map (fitM (pairsOf ks vs)) := by simp [anyOf, pairsOf]
theorem toAny : ∀ x : VI, Small x → ToAnyAt x := by
 intro x hx
 induction hx with
 | mk x hks hkl hvl hv ih =>
  obtain ⟨kd, nm, t, ks, vs⟩ := x
  intro A3 A4 c3 c4 w h3 hk h4 hv
  by_cases h1 : kd = 1
  ·subst h1
   have e : anyOf ⟨1, nm, t, ks, vs⟩ = .bool (nm != 0) := by simp [anyOf]
   rw [e]
   exact toAny_bool nm t ks vs A3 A4 c3 c4 w
  by_cases h2 : kd = 2
  ·subst h2
   have e : anyOf ⟨2, nm, t, ks, vs⟩ = .int nm := by simp [anyOf]
   rw [e]
   exact toAny_int nm t ks vs A3 A4 c3 c4 w
  by_cases h3 : kd = 3
  ·subst h3
   have e : anyOf ⟨3, nm, t, ks, vs⟩ = .text t := by simp [anyOf]
   rw [e]
   exact toAny_text nm t ks vs A3 A4 c3 c4 w
  by_cases h4 : kd = 4
  ·subst h4
   rw [anyOf_list]
   exact toAny_list nm t ks vs hvl ih A3 A4 c3 c4 w hv
  by_cases h5 : kd = 5
  ·subst h5
   rw [anyOf_map]
   exact toAny_map nm t ks vs hks hkl hvl ih A3 A4 c3 c4 w hk hv
  ·have e : anyOf ⟨kd, nm, t, ks, vs⟩ = .null := by simp [anyOf, h1, h2, h3, h4, h5]
   rw [e]
   exact toAny_other kd nm t ks vs A3 A4 c3 c4 w (by simpa using h1) (by simpa using h2) (by simpa using h3) (by simpa using h4) (by simpa using h5)
theorem Small.of {x v : VI} (h : Small x) (hv : v ∈ x.f4) : Small v := by
 cases h with
 | mk _ _ _ _ h => exact h v hv
end Go.Proofs.YtaembebbaejfiaaGreatDoor.Tr
namespace Go.Proofs.YtaembebbaejfiaaGreatDoor.Mount
open Go.RowKit Go.Proofs.YtaembebbaejfiaaGreatDoorW.PrintWords Go.Proofs.YtaembebbaejfiaaGreatDoor.Str Go.Proofs.YtaembebbaejfiaaGreatDoor.Kit Go.Proofs.YtaembebbaejfiaaGreatDoor.Frame
set_option linter.unusedVariables false
set_option linter.unusedSimpArgs false
theorem join_C {A : Option Addr} {c : Nat} {xs : List ByteArray} (sep : ByteArray) (w : World) (h : Kd.string.C w A xs.length xs) (hc : xs.length ≤ c)
  (hN : xs.length ≤ 140737488355328) (hlen : (Lib.join (xs.map lb) (lb sep)).length ≤ 140737488355328) :
  Calls Tryz.prog 63 #[.slice A xs.length c, .string sep] w fun e w' => e = .returned (.string ⟨(Lib.join (xs.map lb) (lb sep)).toArray⟩) ∧ Below w.heap.size w w' := by
 rcases Nat.eq_zero_or_pos xs.length with h0 | h0
 ·obtain rfl := List.eq_nil_of_length_eq_zero h0
  exact (Tryz.strings_Join_none A c sep w).mono fun e w' ⟨he, hw⟩ => ⟨he, hw ▸ Below.refl _ _⟩
 ·obtain ⟨bk, off, rfl, hbk, hcell⟩ := strs_open h h0
  exact Tryz.strings_Join bk off c xs sep w (fun j x hx => by
   obtain ⟨hj, rfl⟩ := List.getElem?_eq_some_iff.1 hx
   exact hcell j hj) hbk hN hc hlen
def newPath (xs : List ByteArray) : ByteArray := ⟨(Lib.join (xs.map lb) [46]).toArray⟩
set_option maxHeartbeats 400000 in
theorem tree_NewPath {A : Option Addr} {c : Nat} {xs : List ByteArray} (w : World) (h : Kd.string.C w A xs.length xs) (hc : xs.length ≤ c)
  (hN : xs.length ≤ 140737488355328) (hlen : (newPath xs).size ≤ 140737488355328) :
  Calls Tryz.prog 49 #[.slice A xs.length c] w fun e w' => e = .returned (.string (newPath xs)) ∧ Below w.heap.size w w' := by
 have H := aM h
 have HC := aM hc
 have HN := aM hN
 have HL := aM hlen
 clear h hc hN hlen
 go_enter Tryz.func49, Tryz.ntmps49
 go_wp2_with fail
 refine (join_C ⟨#[46]⟩ w H.out HC.out HN.out (by have := HL.out; rw [← lb_length, newPath, lb_mk] at this; exact this)).mono ?_
 rintro e w1 ⟨rfl, hb⟩
 have HB := aM hb
 clear hb
 go_wp2
 go_ret
 exact ⟨rfl, HB.out⟩
end Go.Proofs.YtaembebbaejfiaaGreatDoor.Mount
namespace Go.Proofs.YtaembebbaejfiaaGreatDoor.Tr
open Go.RowKit Go.Proofs.YtaembebbaejfiaaGreatDoorW.PrintWords Go.Proofs.YtaembebbaejfiaaGreatDoor.Str Go.Proofs.YtaembebbaejfiaaGreatDoor.Kit Go.Proofs.YtaembebbaejfiaaGreatDoor.MapV Go.Proofs.YtaembebbaejfiaaGreatDoor.Frame Go.Proofs.YtaembebbaejfiaaGreatDoor.PS
set_option linter.unusedVariables false
set_option linter.unusedSimpArgs false
inductive Norm : Y → Prop
 | null : Norm .null
 | bool (b) : Norm (.bool b)
 | int (n) : Norm (.int n)
 | text (s) : Norm (.text s)
 | list (l : List Y) (h : ∀ y, y ∈ l → Norm y) : Norm (.list l)
 | map (m : List (Bs × Y)) (hr : Rises m) (h : ∀ p, p ∈ m → Norm p.2) : Norm (.map m)
theorem mput_last {α : Type} {f : List (Bs × α)} {k : Bs} {v : α} (h : Rises (f ++ [(k, v)])) : mput f k v = f ++ [(k, v)] := by
 have hr : Rises f := h.sublist (List.sublist_append_left _ _)
 have hl : ∀ p ∈ f, p.1 < k := fun p hp => (List.pairwise_append.1 h).2.2 p hp (k, v) (by simp)
 refine rises_ext (mput_rises hr _ _) h (fun q => ?_)
 rw [mget_mput]
 by_cases hq : k = q
 ·subst hq
  rw [if_pos rfl]
  exact (mget_of_mem h (by simp)).symm
 ·rw [if_neg hq]
  cases hg : mget f q with
  | none =>
   cases hg2 : mget (f ++ [(k, v)]) q with
   | none => rfl
   | some u =>
    have := mget_some hg2
    rcases List.mem_append.1 this with h1 | h1
    ·exact absurd rfl (mget_none hg _ h1)
    ·simp at h1
     exact absurd h1.1.symm hq
  | some u => exact (mget_of_mem h (by simp [mget_some hg])).symm
theorem fitM_rises_aux {α : Type} : ∀ (l f : List (Bs × α)), Rises (f ++ l) → l.foldl (fun f p => mput f p.1 p.2) f = f ++ l
 | [], f, _ => by simp
 | (k, v) :: r, f, h => by
  have e : f ++ (k, v) :: r = (f ++ [(k, v)]) ++ r := by simp
  have h2 : mput f k v = f ++ [(k, v)] := mput_last (h.sublist (by rw [e]; exact List.sublist_append_left _ _))
  rw [List.foldl_cons]
  show List.foldl _ (mput f k v) r = _
  rw [h2, fitM_rises_aux r _ (by rw [← e]; exact h), e]
theorem fitM_of_rises {α : Type} {m : List (Bs × α)} (h : Rises m) : fitM m = m := fitM_rises_aux m [] (by simpa using h)
theorem back {y : Y} (h : Norm y) : anyOf (valOf y) = y := by
 induction h with
 | null => simp [valOf, anyOf]
 | bool b => cases b <;> simp [valOf, anyOf]
 | int n => simp [valOf, anyOf]
 | text s => simp [valOf, anyOf]
 | list l h ih =>
  simp only [valOf, anyOf]
  rw [if_neg (by decide), if_neg (by decide), if_neg (by decide), if_pos trivial, anyL_map, valL_map, List.map_map]
  exact congrArg Y.list ((List.map_congr_left (fun y hy => ih y hy)).trans (List.map_id l))
 | map m hr h ih =>
  simp only [valOf, anyOf]
  rw [if_neg (by decide), if_neg (by decide), if_neg (by decide), if_neg (by decide), if_pos trivial, anyL_map, valM_map, List.map_map, List.map_map]
  have e1 : m.map (lb ∘ fun p => (⟨p.1.toArray⟩ : BA)) = m.map (fun p => p.1) := List.map_congr_left (fun p _ => lb_mk p.1)
  have e2 : m.map (anyOf ∘ fun p => valOf p.2) = m.map (fun p => p.2) := List.map_congr_left (fun p hp => ih p hp)
  rw [e1, e2, List.zip_map']
  have e3 : m.map (fun p => (p.1, p.2)) = m := (List.map_congr_left (fun p _ => rfl)).trans (List.map_id m)
  rw [e3, fitM_of_rises hr]
end Go.Proofs.YtaembebbaejfiaaGreatDoor.Tr
namespace Go.Proofs.YtaembebbaejfiaaGreatDoor.Index
open Go.RowKit Go.Proofs.YtaembebbaejfiaaGreatDoorW.PrintWords Go.Proofs.YtaembebbaejfiaaGreatDoor.Str Go.Proofs.YtaembebbaejfiaaGreatDoor.Kit
set_option linter.unusedVariables false
set_option linter.unusedSimpArgs false
set_option maxHeartbeats 400000 in
theorem tree_zzIndex (s sub : ByteArray) (w : World) (hs : s.size ≤ 281474976710656) (hb : sub.size ≤ 281474976710656) :
  Calls Tryz.prog 97 #[.string s, .string sub] w fun e w' => e = .returned (.int .i64 (findI (lb sub) (lb s))) ∧ Drawn0 w w' := by
 go_enter Tryz.func97, Tryz.ntmps97
 go_wp2
 go_loopw [5] (fun v5 wr => ∃ j : Nat, v5 = .int .i64 j ∧ j ≤ s.size ∧ Aside0 (At (lb sub) (lb s) j) ∧ Drawn0 w wr) (fun v5 _ => s.size + 1 - (intOf v5).toNat)
 case atStart => exact ⟨0, rfl, by omega, ⟨At.start _ _⟩, Drawn0.refl _⟩
 case round =>
  obtain ⟨j, rfl, hj, HA, HD⟩ := hrel
  by_cases hlt : (j : Int) + (sub.size : Int) ≤ (s.size : Int)
  ·have hm : j + sub.size ≤ s.size := by omega
   have q1 : (j : Int) ≤ (j : Int) + (sub.size : Int) := by omega
   have q0 : (0 : Int) ≤ (j : Int) := by omega
   by_cases e : (s.extract j (j + sub.size)).toList = sub.toList
   ·have e1 : ((s.extract j (j + sub.size)).toList == sub.toList) = true := beq_iff_eq.mpr e
    have hit := HA.out.hit (by rw [lb_length, lb_length]; exact hm) (by rw [lb_length, ← lb_piece, ← toList_lb, ← toList_lb]; exact e)
    have Hit := aM hit
    clear e hit
    go_wp2
    go_ret
    exact ⟨by rw [Hit.out]; rfl, by repeat (first | exact HD | apply Drawn0.step)⟩
   ·have e1 : ((s.extract j (j + sub.size)).toList == sub.toList) = false := beq_eq_false_iff_ne.mpr e
    have nxt := HA.out.next (by rw [lb_length, lb_length]; exact hm) (by rw [lb_length, ← lb_piece, ← toList_lb, ← toList_lb]; exact e)
    have hj1 : j + 1 ≤ s.size := by have := nxt.1; rw [lb_length] at this; exact this
    have Nxt := aM nxt
    clear e nxt
    go_wp2
    go_roundw
    case rel => exact ⟨j + 1, by go_num, by omega, Nxt, by repeat (first | exact HD | apply Drawn0.step)⟩
    case measure => simp [intOf]; omega
  ·have miss := HA.out.miss (by rw [lb_length, lb_length]; omega)
   have Miss := aM miss
   have d : decide ((j : Int) + (sub.size : Int) ≤ (s.size : Int)) = false := decide_eq_false hlt
   clear miss hlt
   go_wp2
   go_ret
   exact ⟨by rw [Miss.out]; rfl, by repeat (first | exact HD | apply Drawn0.step)⟩
end Go.Proofs.YtaembebbaejfiaaGreatDoor.Index
namespace Go.Proofs.YtaembebbaejfiaaGreatDoor.Index
open Go.RowKit Go.Proofs.YtaembebbaejfiaaGreatDoorW.PrintWords Go.Proofs.YtaembebbaejfiaaGreatDoor.Str Go.Proofs.YtaembebbaejfiaaGreatDoor.Kit
set_option linter.unusedVariables false
set_option linter.unusedSimpArgs false
def parts (c : UInt8) (s : ByteArray) : List ByteArray := (split c (lb s)).map fun p => ⟨p.toArray⟩
def Cutting (c : UInt8) (s : ByteArray) (out : List ByteArray) (r : ByteArray) : Prop := parts c s = out ++ parts c r ∧ out.length + r.size ≤ s.size
theorem Cutting.start (c : UInt8) (s : ByteArray) : Cutting c s [] s := ⟨rfl, by simp⟩
theorem Cutting.next {c : UInt8} {s r : ByteArray} {out : List ByteArray} {i : Nat} (h : Cutting c s out r) (hf : find [c] (lb r) = some i) (hi : i + 1 ≤ r.size) :
  Cutting c s (out ++ [r.extract 0 i]) (r.extract (i + 1) r.size) := by
 obtain ⟨h1, h2⟩ := h
 have e : parts c r = r.extract 0 i :: parts c (r.extract (i + 1) r.size) := by
  unfold parts
  rw [split_some hf, List.map_cons]
  congr 1
  ·apply lb_inj
   rw [lb_mk, lb_extract, List.drop_zero]
  ·rw [lb_extract]
   congr 2
   rw [← lb_length, List.take_length]
 refine ⟨by rw [h1, e]; simp, ?_⟩
 rw [ByteArray.size_extract, List.length_append, List.length_singleton]
 omega
theorem Cutting.last {c : UInt8} {s r : ByteArray} {out : List ByteArray} (h : Cutting c s out r) (hf : find [c] (lb r) = none) : parts c s = out ++ [r] := by
 rw [h.1]
 congr 1
 unfold parts
 rw [split_none hf, List.map_cons, List.map_nil, mk_lb]
set_option maxHeartbeats 400000 in
theorem tree_zzSplit (s : ByteArray) (c : UInt8) (w : World) (hs : s.size ≤ 4398046511104) :
  Calls Tryz.prog 122 #[.string s, .string ⟨#[c]⟩] w fun e w' => ∃ v, e = .returned v ∧ Kd.R Kd.string 9 w' w.heap.size (fun _ => True) v (parts c s) ∧ Below w.heap.size w w' := by
 have HB := aM (Below.refl w.heap.size w)
 go_enter Tryz.func122, Tryz.ntmps122
 go_wp2
 go_loopw [0, 5, 8] (fun v0 v5 v8 wr => ∃ (r : ByteArray) (out : List ByteArray), v0 = .string r ∧ r.size ≤ 4398046511104 ∧ Aside0 (Cutting c s out r) ∧ Aside0 (Kd.R Kd.string 9 wr w.heap.size (fun _ => True) v5 out) ∧ Aside0 (Below w.heap.size w wr)) (fun v0 _ _ _ => match v0 with | .string r => r.size | _ => 0)
 case atStart => exact ⟨s, [], rfl, hs, ⟨Cutting.start c s⟩, ⟨Kd.R_nil _ _ _ _ _⟩, HB⟩
 case round =>
  clear HB
  obtain ⟨r, out, rfl, hr, HCut, HO, HB⟩ := hrel
  cases hf : find [c] (lb r) with
  | none =>
   have Hf := aM hf
   have hfi : findI [c] (lb r) = -1 := by rw [findI, hf]
   have Hfi := aM hfi
   clear hf hfi
   go_wp2_with fail
   refine (tree_zzIndex r ⟨#[c]⟩ _ (by omega) (by show 1 ≤ _; omega)).mono ?_
   rintro e w1 ⟨rfl, hd⟩
   rw [show lb ⟨#[c]⟩ = [c] from rfl, Hfi.out]
   have HB1 := aM (hb_then HB.out hd.below)
   have HO1 := aM (Kd.R_below HO.out hd.below)
   have hl : out.length < 8796093022207 := by have := HCut.out.2; omega
   clear hd HB HO
   go_wp2_with (at_builtin; refine append_str _ _ rfl rfl rfl rfl HO1.out HB1.out hl ?_; intro v1 w2 ho hb hg)
   go_ret
   exact ⟨_, rfl, by rw [HCut.out.last Hf.out]; exact ho, hb⟩
  | some i =>
   have hfi : findI [c] (lb r) = i := by rw [findI, hf]
   have hi := (find_some hf).1
   rw [lb_length] at hi
   have hi2 : i + 1 ≤ r.size := hi
   have hcut := HCut.out.next hf hi2
   have hcs := hcut.2
   rw [List.length_append, List.length_singleton] at hcs
   have HCut2 := aM hcut
   have Hfi := aM hfi
   have hl : out.length < 8796093022207 := by omega
   clear hf hfi hcut hi hcs
   go_wp2_with fail
   refine (tree_zzIndex r ⟨#[c]⟩ _ (by omega) (by show 1 ≤ _; omega)).mono ?_
   rintro e w1 ⟨rfl, hd⟩
   rw [show lb ⟨#[c]⟩ = [c] from rfl, Hfi.out]
   have HB1 := aM (hb_then HB.out hd.below)
   have HO1 := aM (Kd.R_below HO.out hd.below)
   clear hd HB HO
   have q0 : (0 : Int) ≤ (i : Int) := by omega
   have q1 : (i : Int) ≤ (r.size : Int) := by omega
   have q2 : ((i : Int) + 1) ≤ (r.size : Int) := by omega
   go_wp2_with (at_builtin; refine append_str _ _ rfl rfl rfl rfl HO1.out HB1.out hl ?_; intro v1 w2 ho hb hg; have HO2 := aM ho; have HB2 := aM hb; clear ho hb hg)
   go_roundw
   case rel => exact ⟨_, _, rfl, by rw [ByteArray.size_extract]; omega, HCut2, HO2, HB2⟩
   case measure => simp; omega
end Go.Proofs.YtaembebbaejfiaaGreatDoor.Index
namespace Go.Proofs.YtaembebbaejfiaaGreatDoor.Tree
open Go.RowKit Go.Proofs.YtaembebbaejfiaaGreatDoorW.PrintWords Go.Proofs.YtaembebbaejfiaaGreatDoor.Str Go.Proofs.YtaembebbaejfiaaGreatDoor.Kit Go.Proofs.YtaembebbaejfiaaGreatDoor.Index
set_option linter.unusedVariables false
set_option linter.unusedSimpArgs false
set_option maxHeartbeats 400000 in
theorem Path_Parts (s : ByteArray) (w : World) (hs : s.size ≤ 4398046511104) :
  Calls Tryz.prog 111 #[.string s] w fun e w' => ∃ v, e = .returned v ∧ Kd.R Kd.string 9 w' w.heap.size (fun _ => True) v (parts 46 s) ∧ Below w.heap.size w w' := by
 go_enter Tryz.func111, Tryz.ntmps111
 go_wp2_with fail
 refine (tree_zzSplit s 46 w hs).mono ?_
 rintro e w1 ⟨v, rfl, hr, hb⟩
 have HR := aM hr
 have HB := aM hb
 clear hr hb
 go_wp2
 go_ret
 exact ⟨_, rfl, HR.out, HB.out⟩
def takes (p x : ByteArray) : Bool := lb p == [42] || lb p == lb x
def matchB : List ByteArray → List ByteArray → Bool
 | p :: ps, x :: xs => takes p x && matchB ps xs
 | _, [] => true
 | [], _ :: _ => false
def Matching (ps xs : List ByteArray) (j : Nat) : Prop := matchB ps xs = matchB (ps.drop j) (xs.drop j)
theorem Matching.start (ps xs : List ByteArray) : Matching ps xs 0 := by simp [Matching]
theorem Matching.next {ps xs : List ByteArray} {j : Nat} (h : Matching ps xs j) (hp : j < ps.length) (hx : j < xs.length) (ht : takes ps[j] xs[j] = true) : Matching ps xs (j + 1) := by
 unfold Matching at *
 rw [h, List.drop_eq_getElem_cons hp, List.drop_eq_getElem_cons hx, matchB, ht, Bool.true_and]
theorem Matching.fail {ps xs : List ByteArray} {j : Nat} (h : Matching ps xs j) (hp : j < ps.length) (hx : j < xs.length) (ht : takes ps[j] xs[j] = false) : matchB ps xs = false := by
 unfold Matching at *
 rw [h, List.drop_eq_getElem_cons hp, List.drop_eq_getElem_cons hx, matchB, ht, Bool.false_and]
theorem Matching.done {ps xs : List ByteArray} {j : Nat} (h : Matching ps xs j) (hx : xs.length ≤ j) : matchB ps xs = true := by
 unfold Matching at *
 rw [h, List.drop_of_length_le hx]
 cases ps.drop j <;> rfl
def pathMatches (p pattern : ByteArray) : Bool := (parts 46 pattern).length == (parts 46 p).length && matchB (parts 46 pattern) (parts 46 p)
theorem parts_length (c : UInt8) (s : ByteArray) : (parts c s).length ≤ s.size + 1 := by
 rw [parts, List.length_map, ← lb_length]
 exact split_length c (lb s)
set_option maxHeartbeats 800000 in
theorem Path_Matches (p pattern : ByteArray) (w : World) (hp : p.size ≤ 4398046511104) (hq : pattern.size ≤ 4398046511104) :
  Calls Tryz.prog 79 #[.string p, .string pattern] w fun e w' => e = .returned (.bool (pathMatches p pattern)) ∧ Below w.heap.size w w' := by
 have l1 := parts_length 46 pattern
 have l2 := parts_length 46 p
 unfold pathMatches
 generalize hps : parts 46 pattern = ps at *
 generalize hxs : parts 46 p = xs at *
 have HPS := aM hps
 have HXS := aM hxs
 clear hps hxs
 go_enter Tryz.func79, Tryz.ntmps79
 go_wp2_with fail
 refine (Path_Parts pattern w hq).mono ?_
 rintro e w1 ⟨v1, rfl, hr1, hb1⟩
 rw [HPS.out] at hr1
 have HB1 := aM hb1
 have HR1 := aM hr1
 clear hr1 hb1
 go_wp2_with fail
 refine (Path_Parts p w1 hp).mono ?_
 rintro e w2 ⟨v2, rfl, hr2, hb2⟩
 rw [HXS.out] at hr2
 obtain ⟨A1, c1, rfl, hc1, hC1⟩ := Kd.R_reads (Kd.R_below HR1.out hb2)
 obtain ⟨A2, c2, rfl, hc2, hC2⟩ := Kd.R_reads hr2
 have HB := aM (hb_then HB1.out hb2)
 clear hr2 hb2 HR1 HB1
 by_cases hl : ps.length = xs.length
 ·have e1 : ((ps.length : Int) == (xs.length : Int)) = true := beq_iff_eq.mpr (by omega)
  have e2 : ((ps.length : Int) != (xs.length : Int)) = false := bne_eq_false_iff_eq.mpr (by omega)
  have H0 := aM hC1
  have H1 := aM hC2
  have HL := aM hl
  have hle : ps.length ≤ xs.length := by omega
  have hge : xs.length ≤ ps.length := by omega
  clear hl hC1 hC2
  go_wp2
  go_loopw [20] (fun v20 wr => ∃ j : Nat, v20 = .int .i64 j ∧ j ≤ xs.length ∧ Aside0 (Matching ps xs j) ∧ Drawn0 w2 wr) (fun v20 _ => xs.length - (intOf v20).toNat)
  case atStart => exact ⟨0, rfl, by omega, ⟨Matching.start ps xs⟩, Drawn0.refl _⟩
  case round =>
   obtain ⟨j, rfl, hj, HM, ⟨nd, rfl⟩⟩ := hrel
   by_cases hlt : j < xs.length
   ·obtain ⟨b0, o0, rfl, hb0, hc0⟩ := strs_open H0.out (by omega)
    obtain ⟨b1, o1, rfl, hb1, hc1⟩ := strs_open H1.out (by omega)
    have g0 := hc0 j (by omega)
    have g1 := hc1 j hlt
    have hlt2 : j < ps.length := by omega
    clear hc0 hc1
    cases ht : takes ps[j] xs[j] with
    | true =>
     have nxt := aM (HM.out.next hlt2 hlt ht)
     by_cases hstar : ps[j].toList = [42]
     ·have e1 : (ps[j].toList == [42]) = true := beq_iff_eq.mpr hstar
      clear ht hstar
      go_wp2
      go_roundw
      case rel => exact ⟨j + 1, by go_num, by omega, nxt, by repeat (first | exact Drawn0.refl _ | apply Drawn0.step)⟩
      case measure => simp [intOf]; omega
     ·have e1 : (ps[j].toList == [42]) = false := beq_eq_false_iff_ne.mpr hstar
      have e2 : (ps[j].toList == xs[j].toList) = true := by
       simp only [takes, Bool.or_eq_true, beq_iff_eq] at ht
       rw [beq_iff_eq, toList_lb, toList_lb]
       rw [toList_lb] at hstar
       exact ht.resolve_left hstar
      clear ht hstar
      go_wp2
      go_roundw
      case rel => exact ⟨j + 1, by go_num, by omega, nxt, by repeat (first | exact Drawn0.refl _ | apply Drawn0.step)⟩
      case measure => simp [intOf]; omega
    | false =>
     have fl := aM (HM.out.fail hlt2 hlt ht)
     simp only [takes, Bool.or_eq_false_iff] at ht
     have e1 : (ps[j].toList == [42]) = false := by rw [toList_lb]; exact ht.1
     have e2 : (ps[j].toList == xs[j].toList) = false := by rw [toList_lb, toList_lb]; exact ht.2
     clear ht
     go_wp2
     go_ret
     exact ⟨by rw [fl.out, Bool.and_false]; rfl, hb_then HB.out (Drawn0.below ⟨⟨nd, rfl⟩⟩)⟩
   ·have dn := aM (HM.out.done (by omega))
    go_wp2
    go_ret
    exact ⟨by rw [dn.out, HL.out, beq_self_eq_true]; rfl, hb_then HB.out (Drawn0.below ⟨⟨nd, rfl⟩⟩)⟩
 ·have e1 : ((ps.length : Int) == (xs.length : Int)) = false := beq_eq_false_iff_ne.mpr (by omega)
  have e2 : ((ps.length : Int) != (xs.length : Int)) = true := bne_iff_ne.mpr (by omega)
  have e3 := aM (show (ps.length == xs.length) = false from beq_eq_false_iff_ne.mpr hl)
  clear hl
  go_wp2
  go_ret
  exact ⟨by rw [e3.out]; rfl, HB.out⟩
theorem no_match {p pattern : ByteArray} (h : pathMatches p pattern = false) (w : World) (hp : p.size ≤ 4398046511104) (hq : pattern.size ≤ 4398046511104) :
  Calls Tryz.prog 79 #[.string p, .string pattern] w fun e w' => e = .returned (.bool false) ∧ Below w.heap.size w w' := by
 have := Path_Matches p pattern w hp hq
 rw [h] at this
 exact this
end Go.Proofs.YtaembebbaejfiaaGreatDoor.Tree
namespace Go.Proofs.YtaembebbaejfiaaGreatDoor.Tree
open Go.RowKit Go.Proofs.YtaembebbaejfiaaGreatDoorW.PrintWords Go.Proofs.YtaembebbaejfiaaGreatDoorW.PrintLast Go.Proofs.YtaembebbaejfiaaGreatDoor.Str Go.Proofs.YtaembebbaejfiaaGreatDoor.Kit Go.Proofs.YtaembebbaejfiaaGreatDoor.Frame
set_option linter.unusedVariables false
set_option linter.unusedSimpArgs false
def NoneT (p : ByteArray) : Prop := pathMatches p ⟨#[115, 101, 114, 118, 105, 99, 101, 115, 46, 42, 46, 101, 110, 118, 95, 102, 105, 108, 101]⟩ = false ∧ pathMatches p ⟨#[115, 101, 114, 118, 105, 99, 101, 115, 46, 42, 46, 108, 97, 98, 101, 108, 95, 102, 105, 108, 101]⟩ = false ∧ pathMatches p ⟨#[115, 101, 114, 118, 105, 99, 101, 115, 46, 42, 46, 103, 112, 117, 115]⟩ = false ∧ pathMatches p ⟨#[115, 101, 114, 118, 105, 99, 101, 115, 46, 42, 46, 110, 101, 116, 119, 111, 114, 107, 115]⟩ = false ∧ pathMatches p ⟨#[115, 101, 114, 118, 105, 99, 101, 115, 46, 42, 46, 109, 111, 100, 101, 108, 115]⟩ = false ∧ pathMatches p ⟨#[115, 101, 114, 118, 105, 99, 101, 115, 46, 42, 46, 118, 111, 108, 117, 109, 101, 115, 46, 42]⟩ = false ∧ pathMatches p ⟨#[115, 101, 114, 118, 105, 99, 101, 115, 46, 42, 46, 100, 110, 115]⟩ = false ∧ pathMatches p ⟨#[115, 101, 114, 118, 105, 99, 101, 115, 46, 42, 46, 100, 101, 118, 105, 99, 101, 115, 46, 42]⟩ = false ∧ pathMatches p ⟨#[115, 101, 114, 118, 105, 99, 101, 115, 46, 42, 46, 115, 101, 99, 114, 101, 116, 115, 46, 42]⟩ = false ∧ pathMatches p ⟨#[115, 101, 114, 118, 105, 99, 101, 115, 46, 42, 46, 99, 111, 110, 102, 105, 103, 115, 46, 42]⟩ = false ∧ pathMatches p ⟨#[115, 101, 114, 118, 105, 99, 101, 115, 46, 42, 46, 117, 108, 105, 109, 105, 116, 115, 46, 42]⟩ = false ∧ pathMatches p ⟨#[106, 111, 98, 115, 46, 42, 46, 101, 110, 118, 95, 102, 105, 108, 101]⟩ = false ∧ pathMatches p ⟨#[106, 111, 98, 115, 46, 42, 46, 108, 97, 98, 101, 108, 95, 102, 105, 108, 101]⟩ = false ∧ pathMatches p ⟨#[106, 111, 98, 115, 46, 42, 46, 103, 112, 117, 115]⟩ = false ∧ pathMatches p ⟨#[106, 111, 98, 115, 46, 42, 46, 110, 101, 116, 119, 111, 114, 107, 115]⟩ = false ∧ pathMatches p ⟨#[106, 111, 98, 115, 46, 42, 46, 109, 111, 100, 101, 108, 115]⟩ = false ∧ pathMatches p ⟨#[106, 111, 98, 115, 46, 42, 46, 118, 111, 108, 117, 109, 101, 115, 46, 42]⟩ = false ∧ pathMatches p ⟨#[106, 111, 98, 115, 46, 42, 46, 100, 110, 115]⟩ = false ∧ pathMatches p ⟨#[106, 111, 98, 115, 46, 42, 46, 100, 101, 118, 105, 99, 101, 115, 46, 42]⟩ = false ∧ pathMatches p ⟨#[106, 111, 98, 115, 46, 42, 46, 115, 101, 99, 114, 101, 116, 115, 46, 42]⟩ = false ∧ pathMatches p ⟨#[106, 111, 98, 115, 46, 42, 46, 99, 111, 110, 102, 105, 103, 115, 46, 42]⟩ = false ∧ pathMatches p ⟨#[106, 111, 98, 115, 46, 42, 46, 117, 108, 105, 109, 105, 116, 115, 46, 42]⟩ = false ∧ pathMatches p ⟨#[115, 101, 114, 118, 105, 99, 101, 115, 46, 42, 46, 112, 114, 101, 95, 115, 116, 97, 114, 116, 46, 42, 46, 101, 110, 118, 95, 102, 105, 108, 101]⟩ = false ∧ pathMatches p ⟨#[115, 101, 114, 118, 105, 99, 101, 115, 46, 42, 46, 112, 114, 101, 95, 115, 116, 97, 114, 116, 46, 42, 46, 108, 97, 98, 101, 108, 95, 102, 105, 108, 101]⟩ = false ∧ pathMatches p ⟨#[115, 101, 114, 118, 105, 99, 101, 115, 46, 42, 46, 112, 114, 101, 95, 115, 116, 97, 114, 116, 46, 42, 46, 103, 112, 117, 115]⟩ = false ∧ pathMatches p ⟨#[115, 101, 114, 118, 105, 99, 101, 115, 46, 42, 46, 112, 114, 101, 95, 115, 116, 97, 114, 116, 46, 42, 46, 110, 101, 116, 119, 111, 114, 107, 115]⟩ = false ∧ pathMatches p ⟨#[115, 101, 114, 118, 105, 99, 101, 115, 46, 42, 46, 112, 114, 101, 95, 115, 116, 97, 114, 116, 46, 42, 46, 109, 111, 100, 101, 108, 115]⟩ = false ∧ pathMatches p ⟨#[115, 101, 114, 118, 105, 99, 101, 115, 46, 42, 46, 112, 114, 101, 95, 115, 116, 97, 114, 116, 46, 42, 46, 118, 111, 108, 117, 109, 101, 115, 46, 42]⟩ = false ∧ pathMatches p ⟨#[115, 101, 114, 118, 105, 99, 101, 115, 46, 42, 46, 112, 114, 101, 95, 115, 116, 97, 114, 116, 46, 42, 46, 100, 110, 115]⟩ = false ∧ pathMatches p ⟨#[115, 101, 114, 118, 105, 99, 101, 115, 46, 42, 46, 112, 114, 101, 95, 115, 116, 97, 114, 116, 46, 42, 46, 100, 101, 118, 105, 99, 101, 115, 46, 42]⟩ = false ∧ pathMatches p ⟨#[115, 101, 114, 118, 105, 99, 101, 115, 46, 42, 46, 112, 114, 101, 95, 115, 116, 97, 114, 116, 46, 42, 46, 115, 101, 99, 114, 101, 116, 115, 46, 42]⟩ = false ∧ pathMatches p ⟨#[115, 101, 114, 118, 105, 99, 101, 115, 46, 42, 46, 112, 114, 101, 95, 115, 116, 97, 114, 116, 46, 42, 46, 99, 111, 110, 102, 105, 103, 115, 46, 42]⟩ = false ∧ pathMatches p ⟨#[115, 101, 114, 118, 105, 99, 101, 115, 46, 42, 46, 112, 114, 101, 95, 115, 116, 97, 114, 116, 46, 42, 46, 117, 108, 105, 109, 105, 116, 115, 46, 42]⟩ = false ∧ pathMatches p ⟨#[115, 101, 114, 118, 105, 99, 101, 115, 46, 42]⟩ = false ∧ pathMatches p ⟨#[115, 101, 114, 118, 105, 99, 101, 115, 46, 42, 46, 98, 117, 105, 108, 100, 46, 115, 101, 99, 114, 101, 116, 115, 46, 42]⟩ = false ∧ pathMatches p ⟨#[115, 101, 114, 118, 105, 99, 101, 115, 46, 42, 46, 98, 117, 105, 108, 100, 46, 112, 114, 111, 118, 101, 110, 97, 110, 99, 101]⟩ = false ∧ pathMatches p ⟨#[115, 101, 114, 118, 105, 99, 101, 115, 46, 42, 46, 98, 117, 105, 108, 100, 46, 115, 98, 111, 109]⟩ = false ∧ pathMatches p ⟨#[115, 101, 114, 118, 105, 99, 101, 115, 46, 42, 46, 98, 117, 105, 108, 100, 46, 97, 100, 100, 105, 116, 105, 111, 110, 97, 108, 95, 99, 111, 110, 116, 101, 120, 116, 115]⟩ = false ∧ pathMatches p ⟨#[115, 101, 114, 118, 105, 99, 101, 115, 46, 42, 46, 100, 101, 112, 101, 110, 100, 115, 95, 111, 110]⟩ = false ∧ pathMatches p ⟨#[115, 101, 114, 118, 105, 99, 101, 115, 46, 42, 46, 101, 120, 116, 101, 110, 100, 115]⟩ = false ∧ pathMatches p ⟨#[115, 101, 114, 118, 105, 99, 101, 115, 46, 42, 46, 112, 111, 114, 116, 115]⟩ = false ∧ pathMatches p ⟨#[115, 101, 114, 118, 105, 99, 101, 115, 46, 42, 46, 98, 117, 105, 108, 100]⟩ = false ∧ pathMatches p ⟨#[115, 101, 114, 118, 105, 99, 101, 115, 46, 42, 46, 98, 117, 105, 108, 100, 46, 115, 115, 104]⟩ = false ∧ pathMatches p ⟨#[115, 101, 114, 118, 105, 99, 101, 115, 46, 42, 46, 98, 117, 105, 108, 100, 46, 117, 108, 105, 109, 105, 116, 115, 46, 42]⟩ = false ∧ pathMatches p ⟨#[106, 111, 98, 115, 46, 42]⟩ = false ∧ pathMatches p ⟨#[106, 111, 98, 115, 46, 42, 46, 98, 117, 105, 108, 100, 46, 115, 101, 99, 114, 101, 116, 115, 46, 42]⟩ = false ∧ pathMatches p ⟨#[106, 111, 98, 115, 46, 42, 46, 98, 117, 105, 108, 100, 46, 112, 114, 111, 118, 101, 110, 97, 110, 99, 101]⟩ = false ∧ pathMatches p ⟨#[106, 111, 98, 115, 46, 42, 46, 98, 117, 105, 108, 100, 46, 115, 98, 111, 109]⟩ = false ∧ pathMatches p ⟨#[106, 111, 98, 115, 46, 42, 46, 98, 117, 105, 108, 100, 46, 97, 100, 100, 105, 116, 105, 111, 110, 97, 108, 95, 99, 111, 110, 116, 101, 120, 116, 115]⟩ = false ∧ pathMatches p ⟨#[106, 111, 98, 115, 46, 42, 46, 100, 101, 112, 101, 110, 100, 115, 95, 111, 110]⟩ = false ∧ pathMatches p ⟨#[106, 111, 98, 115, 46, 42, 46, 101, 120, 116, 101, 110, 100, 115]⟩ = false ∧ pathMatches p ⟨#[106, 111, 98, 115, 46, 42, 46, 112, 111, 114, 116, 115]⟩ = false ∧ pathMatches p ⟨#[106, 111, 98, 115, 46, 42, 46, 98, 117, 105, 108, 100]⟩ = false ∧ pathMatches p ⟨#[106, 111, 98, 115, 46, 42, 46, 98, 117, 105, 108, 100, 46, 115, 115, 104]⟩ = false ∧ pathMatches p ⟨#[106, 111, 98, 115, 46, 42, 46, 98, 117, 105, 108, 100, 46, 117, 108, 105, 109, 105, 116, 115, 46, 42]⟩ = false ∧ pathMatches p ⟨#[106, 111, 98, 115, 46, 42, 46, 116, 114, 105, 103, 103, 101, 114, 115, 46, 115, 99, 104, 101, 100, 117, 108, 101, 46, 42]⟩ = false ∧ pathMatches p ⟨#[115, 101, 114, 118, 105, 99, 101, 115, 46, 42, 46, 100, 101, 118, 101, 108, 111, 112, 46, 119, 97, 116, 99, 104, 46, 42, 46, 105, 103, 110, 111, 114, 101]⟩ = false ∧ pathMatches p ⟨#[115, 101, 114, 118, 105, 99, 101, 115, 46, 42, 46, 100, 101, 118, 101, 108, 111, 112, 46, 119, 97, 116, 99, 104, 46, 42, 46, 105, 110, 99, 108, 117, 100, 101]⟩ = false ∧ pathMatches p ⟨#[118, 111, 108, 117, 109, 101, 115, 46, 42]⟩ = false ∧ pathMatches p ⟨#[110, 101, 116, 119, 111, 114, 107, 115, 46, 42]⟩ = false ∧ pathMatches p ⟨#[115, 101, 99, 114, 101, 116, 115, 46, 42]⟩ = false ∧ pathMatches p ⟨#[99, 111, 110, 102, 105, 103, 115, 46, 42]⟩ = false ∧ pathMatches p ⟨#[105, 110, 99, 108, 117, 100, 101, 46, 42]⟩ = false ∧ p.size ≤ 4398046511104
set_option maxHeartbeats 12800000 in
set_option maxRecDepth 100000 in
theorem transformer_none (p : ByteArray) (h : NoneT p) (w : World) : Calls Tryz.prog 72 #[.string p] w fun e w' => e = .returned (.tuple #[.nilFunc, .bool false]) ∧ Below w.heap.size w w' := by
 obtain ⟨m0, m1, m2, m3, m4, m5, m6, m7, m8, m9, m10, m11, m12, m13, m14, m15, m16, m17, m18, m19, m20, m21, m22, m23, m24, m25, m26, m27, m28, m29, m30, m31, m32, m33, m34, m35, m36, m37, m38, m39, m40, m41, m42, m43, m44, m45, m46, m47, m48, m49, m50, m51, m52, m53, m54, m55, m56, m57, m58, m59, m60, m61, m62, hp⟩ := h
 have HP := aM hp
 clear hp
 replace m0 := aM m0
 replace m1 := aM m1
 replace m2 := aM m2
 replace m3 := aM m3
 replace m4 := aM m4
 replace m5 := aM m5
 replace m6 := aM m6
 replace m7 := aM m7
 replace m8 := aM m8
 replace m9 := aM m9
 replace m10 := aM m10
 replace m11 := aM m11
 replace m12 := aM m12
 replace m13 := aM m13
 replace m14 := aM m14
 replace m15 := aM m15
 replace m16 := aM m16
 replace m17 := aM m17
 replace m18 := aM m18
 replace m19 := aM m19
 replace m20 := aM m20
 replace m21 := aM m21
 replace m22 := aM m22
 replace m23 := aM m23
 replace m24 := aM m24
 replace m25 := aM m25
 replace m26 := aM m26
 replace m27 := aM m27
 replace m28 := aM m28
 replace m29 := aM m29
 replace m30 := aM m30
 replace m31 := aM m31
 replace m32 := aM m32
 replace m33 := aM m33
 replace m34 := aM m34
 replace m35 := aM m35
 replace m36 := aM m36
 replace m37 := aM m37
 replace m38 := aM m38
 replace m39 := aM m39
 replace m40 := aM m40
 replace m41 := aM m41
 replace m42 := aM m42
 replace m43 := aM m43
 replace m44 := aM m44
 replace m45 := aM m45
 replace m46 := aM m46
 replace m47 := aM m47
 replace m48 := aM m48
 replace m49 := aM m49
 replace m50 := aM m50
 replace m51 := aM m51
 replace m52 := aM m52
 replace m53 := aM m53
 replace m54 := aM m54
 replace m55 := aM m55
 replace m56 := aM m56
 replace m57 := aM m57
 replace m58 := aM m58
 replace m59 := aM m59
 replace m60 := aM m60
 replace m61 := aM m61
 replace m62 := aM m62
 have HA := aM (cb_new w (.cells #[.string ⟨#[115, 101, 114, 118, 105, 99, 101, 115, 46, 42]⟩, .string ⟨#[106, 111, 98, 115, 46, 42]⟩, .string ⟨#[115, 101, 114, 118, 105, 99, 101, 115, 46, 42, 46, 112, 114, 101, 95, 115, 116, 97, 114, 116, 46, 42]⟩] 56))
 have HB := aM (below_alloc (Below.refl w.heap.size w) (.cells #[.string ⟨#[115, 101, 114, 118, 105, 99, 101, 115, 46, 42]⟩, .string ⟨#[106, 111, 98, 115, 46, 42]⟩, .string ⟨#[115, 101, 114, 118, 105, 99, 101, 115, 46, 42, 46, 112, 114, 101, 95, 115, 116, 97, 114, 116, 46, 42]⟩] 56))
 go_enter Tryz.func72, Tryz.ntmps72
 go_wp2
 generalize hW : w.alloc _ = W at HA HB ⊢
 clear hW
 go_loopw [10, 5] (fun v10 v5 wr => (v10 = .int .i64 0 ∨ v10 = .int .i64 1 ∨ v10 = .int .i64 2 ∨ v10 = .int .i64 3) ∧ Aside0 (wr.heap[w.heap.size]? = some (.cells #[.string ⟨#[115, 101, 114, 118, 105, 99, 101, 115, 46, 42]⟩, .string ⟨#[106, 111, 98, 115, 46, 42]⟩, .string ⟨#[115, 101, 114, 118, 105, 99, 101, 115, 46, 42, 46, 112, 114, 101, 95, 115, 116, 97, 114, 116, 46, 42]⟩] 56 (0, 0))) ∧ Aside0 (Below w.heap.size w wr)) (fun v10 v5 wr => (3 - intOf v10).toNat)
 case atStart => exact ⟨.inl rfl, HA, HB⟩
 case round =>
  clear HA HB
  obtain ⟨hi, HA, HB⟩ := hrel
  have c0 := cb_cell (i := 0) HA.out (v := .string ⟨#[115, 101, 114, 118, 105, 99, 101, 115, 46, 42]⟩) rfl
  have c1 := cb_cell (i := 1) HA.out (v := .string ⟨#[106, 111, 98, 115, 46, 42]⟩) rfl
  have c2 := cb_cell (i := 2) HA.out (v := .string ⟨#[115, 101, 114, 118, 105, 99, 101, 115, 46, 42, 46, 112, 114, 101, 95, 115, 116, 97, 114, 116, 46, 42]⟩) rfl
  rcases hi with rfl | rfl | rfl | rfl
  ·skip
   go_wp2_with fail
   refine (no_match m0.out _ HP.out (by decide)).mono ?_
   rintro e v0 ⟨rfl, hb⟩
   replace HB := aM (hb_then HB.out hb)
   replace HA := aM ((hb.block _ (cb_lt HA.out)).trans HA.out)
   clear hb m0 c0 c1 c2
   go_wp2_with fail
   refine (no_match m1.out _ HP.out (by decide)).mono ?_
   rintro e v1 ⟨rfl, hb⟩
   replace HB := aM (hb_then HB.out hb)
   replace HA := aM ((hb.block _ (cb_lt HA.out)).trans HA.out)
   clear hb m1
   go_wp2_with fail
   refine (no_match m2.out _ HP.out (by decide)).mono ?_
   rintro e v2 ⟨rfl, hb⟩
   replace HB := aM (hb_then HB.out hb)
   replace HA := aM ((hb.block _ (cb_lt HA.out)).trans HA.out)
   clear hb m2
   go_wp2_with fail
   refine (no_match m3.out _ HP.out (by decide)).mono ?_
   rintro e v3 ⟨rfl, hb⟩
   replace HB := aM (hb_then HB.out hb)
   replace HA := aM ((hb.block _ (cb_lt HA.out)).trans HA.out)
   clear hb m3
   go_wp2_with fail
   refine (no_match m4.out _ HP.out (by decide)).mono ?_
   rintro e v4 ⟨rfl, hb⟩
   replace HB := aM (hb_then HB.out hb)
   replace HA := aM ((hb.block _ (cb_lt HA.out)).trans HA.out)
   clear hb m4
   go_wp2_with fail
   refine (no_match m5.out _ HP.out (by decide)).mono ?_
   rintro e v5 ⟨rfl, hb⟩
   replace HB := aM (hb_then HB.out hb)
   replace HA := aM ((hb.block _ (cb_lt HA.out)).trans HA.out)
   clear hb m5
   go_wp2_with fail
   refine (no_match m6.out _ HP.out (by decide)).mono ?_
   rintro e v6 ⟨rfl, hb⟩
   replace HB := aM (hb_then HB.out hb)
   replace HA := aM ((hb.block _ (cb_lt HA.out)).trans HA.out)
   clear hb m6
   go_wp2_with fail
   refine (no_match m7.out _ HP.out (by decide)).mono ?_
   rintro e v7 ⟨rfl, hb⟩
   replace HB := aM (hb_then HB.out hb)
   replace HA := aM ((hb.block _ (cb_lt HA.out)).trans HA.out)
   clear hb m7
   go_wp2_with fail
   refine (no_match m8.out _ HP.out (by decide)).mono ?_
   rintro e v8 ⟨rfl, hb⟩
   replace HB := aM (hb_then HB.out hb)
   replace HA := aM ((hb.block _ (cb_lt HA.out)).trans HA.out)
   clear hb m8
   go_wp2_with fail
   refine (no_match m9.out _ HP.out (by decide)).mono ?_
   rintro e v9 ⟨rfl, hb⟩
   replace HB := aM (hb_then HB.out hb)
   replace HA := aM ((hb.block _ (cb_lt HA.out)).trans HA.out)
   clear hb m9
   go_wp2_with fail
   refine (no_match m10.out _ HP.out (by decide)).mono ?_
   rintro e v10 ⟨rfl, hb⟩
   replace HB := aM (hb_then HB.out hb)
   replace HA := aM ((hb.block _ (cb_lt HA.out)).trans HA.out)
   clear hb m10
   go_wp2
   go_roundw
   case rel => exact ⟨.inr (.inl rfl), HA, HB⟩
   case measure => simp [intOf]
  ·skip
   go_wp2_with fail
   refine (no_match m11.out _ HP.out (by decide)).mono ?_
   rintro e v11 ⟨rfl, hb⟩
   replace HB := aM (hb_then HB.out hb)
   replace HA := aM ((hb.block _ (cb_lt HA.out)).trans HA.out)
   clear hb m11 c0 c1 c2
   go_wp2_with fail
   refine (no_match m12.out _ HP.out (by decide)).mono ?_
   rintro e v12 ⟨rfl, hb⟩
   replace HB := aM (hb_then HB.out hb)
   replace HA := aM ((hb.block _ (cb_lt HA.out)).trans HA.out)
   clear hb m12
   go_wp2_with fail
   refine (no_match m13.out _ HP.out (by decide)).mono ?_
   rintro e v13 ⟨rfl, hb⟩
   replace HB := aM (hb_then HB.out hb)
   replace HA := aM ((hb.block _ (cb_lt HA.out)).trans HA.out)
   clear hb m13
   go_wp2_with fail
   refine (no_match m14.out _ HP.out (by decide)).mono ?_
   rintro e v14 ⟨rfl, hb⟩
   replace HB := aM (hb_then HB.out hb)
   replace HA := aM ((hb.block _ (cb_lt HA.out)).trans HA.out)
   clear hb m14
   go_wp2_with fail
   refine (no_match m15.out _ HP.out (by decide)).mono ?_
   rintro e v15 ⟨rfl, hb⟩
   replace HB := aM (hb_then HB.out hb)
   replace HA := aM ((hb.block _ (cb_lt HA.out)).trans HA.out)
   clear hb m15
   go_wp2_with fail
   refine (no_match m16.out _ HP.out (by decide)).mono ?_
   rintro e v16 ⟨rfl, hb⟩
   replace HB := aM (hb_then HB.out hb)
   replace HA := aM ((hb.block _ (cb_lt HA.out)).trans HA.out)
   clear hb m16
   go_wp2_with fail
   refine (no_match m17.out _ HP.out (by decide)).mono ?_
   rintro e v17 ⟨rfl, hb⟩
   replace HB := aM (hb_then HB.out hb)
   replace HA := aM ((hb.block _ (cb_lt HA.out)).trans HA.out)
   clear hb m17
   go_wp2_with fail
   refine (no_match m18.out _ HP.out (by decide)).mono ?_
   rintro e v18 ⟨rfl, hb⟩
   replace HB := aM (hb_then HB.out hb)
   replace HA := aM ((hb.block _ (cb_lt HA.out)).trans HA.out)
   clear hb m18
   go_wp2_with fail
   refine (no_match m19.out _ HP.out (by decide)).mono ?_
   rintro e v19 ⟨rfl, hb⟩
   replace HB := aM (hb_then HB.out hb)
   replace HA := aM ((hb.block _ (cb_lt HA.out)).trans HA.out)
   clear hb m19
   go_wp2_with fail
   refine (no_match m20.out _ HP.out (by decide)).mono ?_
   rintro e v20 ⟨rfl, hb⟩
   replace HB := aM (hb_then HB.out hb)
   replace HA := aM ((hb.block _ (cb_lt HA.out)).trans HA.out)
   clear hb m20
   go_wp2_with fail
   refine (no_match m21.out _ HP.out (by decide)).mono ?_
   rintro e v21 ⟨rfl, hb⟩
   replace HB := aM (hb_then HB.out hb)
   replace HA := aM ((hb.block _ (cb_lt HA.out)).trans HA.out)
   clear hb m21
   go_wp2
   go_roundw
   case rel => exact ⟨.inr (.inr (.inl rfl)), HA, HB⟩
   case measure => simp [intOf]
  ·skip
   go_wp2_with fail
   refine (no_match m22.out _ HP.out (by decide)).mono ?_
   rintro e v22 ⟨rfl, hb⟩
   replace HB := aM (hb_then HB.out hb)
   replace HA := aM ((hb.block _ (cb_lt HA.out)).trans HA.out)
   clear hb m22 c0 c1 c2
   go_wp2_with fail
   refine (no_match m23.out _ HP.out (by decide)).mono ?_
   rintro e v23 ⟨rfl, hb⟩
   replace HB := aM (hb_then HB.out hb)
   replace HA := aM ((hb.block _ (cb_lt HA.out)).trans HA.out)
   clear hb m23
   go_wp2_with fail
   refine (no_match m24.out _ HP.out (by decide)).mono ?_
   rintro e v24 ⟨rfl, hb⟩
   replace HB := aM (hb_then HB.out hb)
   replace HA := aM ((hb.block _ (cb_lt HA.out)).trans HA.out)
   clear hb m24
   go_wp2_with fail
   refine (no_match m25.out _ HP.out (by decide)).mono ?_
   rintro e v25 ⟨rfl, hb⟩
   replace HB := aM (hb_then HB.out hb)
   replace HA := aM ((hb.block _ (cb_lt HA.out)).trans HA.out)
   clear hb m25
   go_wp2_with fail
   refine (no_match m26.out _ HP.out (by decide)).mono ?_
   rintro e v26 ⟨rfl, hb⟩
   replace HB := aM (hb_then HB.out hb)
   replace HA := aM ((hb.block _ (cb_lt HA.out)).trans HA.out)
   clear hb m26
   go_wp2_with fail
   refine (no_match m27.out _ HP.out (by decide)).mono ?_
   rintro e v27 ⟨rfl, hb⟩
   replace HB := aM (hb_then HB.out hb)
   replace HA := aM ((hb.block _ (cb_lt HA.out)).trans HA.out)
   clear hb m27
   go_wp2_with fail
   refine (no_match m28.out _ HP.out (by decide)).mono ?_
   rintro e v28 ⟨rfl, hb⟩
   replace HB := aM (hb_then HB.out hb)
   replace HA := aM ((hb.block _ (cb_lt HA.out)).trans HA.out)
   clear hb m28
   go_wp2_with fail
   refine (no_match m29.out _ HP.out (by decide)).mono ?_
   rintro e v29 ⟨rfl, hb⟩
   replace HB := aM (hb_then HB.out hb)
   replace HA := aM ((hb.block _ (cb_lt HA.out)).trans HA.out)
   clear hb m29
   go_wp2_with fail
   refine (no_match m30.out _ HP.out (by decide)).mono ?_
   rintro e v30 ⟨rfl, hb⟩
   replace HB := aM (hb_then HB.out hb)
   replace HA := aM ((hb.block _ (cb_lt HA.out)).trans HA.out)
   clear hb m30
   go_wp2_with fail
   refine (no_match m31.out _ HP.out (by decide)).mono ?_
   rintro e v31 ⟨rfl, hb⟩
   replace HB := aM (hb_then HB.out hb)
   replace HA := aM ((hb.block _ (cb_lt HA.out)).trans HA.out)
   clear hb m31
   go_wp2_with fail
   refine (no_match m32.out _ HP.out (by decide)).mono ?_
   rintro e v32 ⟨rfl, hb⟩
   replace HB := aM (hb_then HB.out hb)
   replace HA := aM ((hb.block _ (cb_lt HA.out)).trans HA.out)
   clear hb m32
   go_wp2
   go_roundw
   case rel => exact ⟨.inr (.inr (.inr (rfl))), HA, HB⟩
   case measure => simp [intOf]
  ·skip; clear c0 c1 c2
   have HA := aM (cb_new wr (.cells #[.string ⟨#[115, 101, 114, 118, 105, 99, 101, 115]⟩, .string ⟨#[106, 111, 98, 115]⟩] 56))
   replace HB := aM (below_alloc HB.out (.cells #[.string ⟨#[115, 101, 114, 118, 105, 99, 101, 115]⟩, .string ⟨#[106, 111, 98, 115]⟩] 56))
   go_wp2
   obtain ⟨b, hb⟩ : ∃ b, wr.heap.size = b := ⟨_, rfl⟩
   rw [hb] at HA
   rw [hb]
   clear hb
   generalize wr.alloc _ = W at HA HB ⊢
   go_loopw [61, 7] (fun v61 v7 wr => (v61 = .int .i64 0 ∨ v61 = .int .i64 1 ∨ v61 = .int .i64 2) ∧ Aside0 (wr.heap[b]? = some (.cells #[.string ⟨#[115, 101, 114, 118, 105, 99, 101, 115]⟩, .string ⟨#[106, 111, 98, 115]⟩] 56 (0, 0))) ∧ Aside0 (Below w.heap.size w wr)) (fun v61 v7 wr => (2 - intOf v61).toNat)
   case atStart => exact ⟨.inl rfl, HA, HB⟩
   case round =>
    clear HA HB
    obtain ⟨hi, HA, HB⟩ := hrel
    have c0 := cb_cell (i := 0) HA.out (v := .string ⟨#[115, 101, 114, 118, 105, 99, 101, 115]⟩) rfl
    have c1 := cb_cell (i := 1) HA.out (v := .string ⟨#[106, 111, 98, 115]⟩) rfl
    rcases hi with rfl | rfl | rfl
    ·skip
     go_wp2_with fail
     refine (no_match m33.out _ HP.out (by decide)).mono ?_
     rintro e v33 ⟨rfl, hb⟩
     replace HB := aM (hb_then HB.out hb)
     replace HA := aM ((hb.block _ (cb_lt HA.out)).trans HA.out)
     clear hb m33 c0 c1
     go_wp2_with fail
     refine (no_match m34.out _ HP.out (by decide)).mono ?_
     rintro e v34 ⟨rfl, hb⟩
     replace HB := aM (hb_then HB.out hb)
     replace HA := aM ((hb.block _ (cb_lt HA.out)).trans HA.out)
     clear hb m34
     go_wp2_with fail
     refine (no_match m35.out _ HP.out (by decide)).mono ?_
     rintro e v35 ⟨rfl, hb⟩
     replace HB := aM (hb_then HB.out hb)
     replace HA := aM ((hb.block _ (cb_lt HA.out)).trans HA.out)
     clear hb m35
     go_wp2_with fail
     refine (no_match m36.out _ HP.out (by decide)).mono ?_
     rintro e v36 ⟨rfl, hb⟩
     replace HB := aM (hb_then HB.out hb)
     replace HA := aM ((hb.block _ (cb_lt HA.out)).trans HA.out)
     clear hb m36
     go_wp2_with fail
     refine (no_match m37.out _ HP.out (by decide)).mono ?_
     rintro e v37 ⟨rfl, hb⟩
     replace HB := aM (hb_then HB.out hb)
     replace HA := aM ((hb.block _ (cb_lt HA.out)).trans HA.out)
     clear hb m37
     go_wp2_with fail
     refine (no_match m38.out _ HP.out (by decide)).mono ?_
     rintro e v38 ⟨rfl, hb⟩
     replace HB := aM (hb_then HB.out hb)
     replace HA := aM ((hb.block _ (cb_lt HA.out)).trans HA.out)
     clear hb m38
     go_wp2_with fail
     refine (no_match m39.out _ HP.out (by decide)).mono ?_
     rintro e v39 ⟨rfl, hb⟩
     replace HB := aM (hb_then HB.out hb)
     replace HA := aM ((hb.block _ (cb_lt HA.out)).trans HA.out)
     clear hb m39
     go_wp2_with fail
     refine (no_match m40.out _ HP.out (by decide)).mono ?_
     rintro e v40 ⟨rfl, hb⟩
     replace HB := aM (hb_then HB.out hb)
     replace HA := aM ((hb.block _ (cb_lt HA.out)).trans HA.out)
     clear hb m40
     go_wp2_with fail
     refine (no_match m41.out _ HP.out (by decide)).mono ?_
     rintro e v41 ⟨rfl, hb⟩
     replace HB := aM (hb_then HB.out hb)
     replace HA := aM ((hb.block _ (cb_lt HA.out)).trans HA.out)
     clear hb m41
     go_wp2_with fail
     refine (no_match m42.out _ HP.out (by decide)).mono ?_
     rintro e v42 ⟨rfl, hb⟩
     replace HB := aM (hb_then HB.out hb)
     replace HA := aM ((hb.block _ (cb_lt HA.out)).trans HA.out)
     clear hb m42
     go_wp2_with fail
     refine (no_match m43.out _ HP.out (by decide)).mono ?_
     rintro e v43 ⟨rfl, hb⟩
     replace HB := aM (hb_then HB.out hb)
     replace HA := aM ((hb.block _ (cb_lt HA.out)).trans HA.out)
     clear hb m43
     go_wp2
     go_roundw
     case rel => exact ⟨.inr (.inl rfl), HA, HB⟩
     case measure => simp [intOf]
    ·skip
     go_wp2_with fail
     refine (no_match m44.out _ HP.out (by decide)).mono ?_
     rintro e v44 ⟨rfl, hb⟩
     replace HB := aM (hb_then HB.out hb)
     replace HA := aM ((hb.block _ (cb_lt HA.out)).trans HA.out)
     clear hb m44 c0 c1
     go_wp2_with fail
     refine (no_match m45.out _ HP.out (by decide)).mono ?_
     rintro e v45 ⟨rfl, hb⟩
     replace HB := aM (hb_then HB.out hb)
     replace HA := aM ((hb.block _ (cb_lt HA.out)).trans HA.out)
     clear hb m45
     go_wp2_with fail
     refine (no_match m46.out _ HP.out (by decide)).mono ?_
     rintro e v46 ⟨rfl, hb⟩
     replace HB := aM (hb_then HB.out hb)
     replace HA := aM ((hb.block _ (cb_lt HA.out)).trans HA.out)
     clear hb m46
     go_wp2_with fail
     refine (no_match m47.out _ HP.out (by decide)).mono ?_
     rintro e v47 ⟨rfl, hb⟩
     replace HB := aM (hb_then HB.out hb)
     replace HA := aM ((hb.block _ (cb_lt HA.out)).trans HA.out)
     clear hb m47
     go_wp2_with fail
     refine (no_match m48.out _ HP.out (by decide)).mono ?_
     rintro e v48 ⟨rfl, hb⟩
     replace HB := aM (hb_then HB.out hb)
     replace HA := aM ((hb.block _ (cb_lt HA.out)).trans HA.out)
     clear hb m48
     go_wp2_with fail
     refine (no_match m49.out _ HP.out (by decide)).mono ?_
     rintro e v49 ⟨rfl, hb⟩
     replace HB := aM (hb_then HB.out hb)
     replace HA := aM ((hb.block _ (cb_lt HA.out)).trans HA.out)
     clear hb m49
     go_wp2_with fail
     refine (no_match m50.out _ HP.out (by decide)).mono ?_
     rintro e v50 ⟨rfl, hb⟩
     replace HB := aM (hb_then HB.out hb)
     replace HA := aM ((hb.block _ (cb_lt HA.out)).trans HA.out)
     clear hb m50
     go_wp2_with fail
     refine (no_match m51.out _ HP.out (by decide)).mono ?_
     rintro e v51 ⟨rfl, hb⟩
     replace HB := aM (hb_then HB.out hb)
     replace HA := aM ((hb.block _ (cb_lt HA.out)).trans HA.out)
     clear hb m51
     go_wp2_with fail
     refine (no_match m52.out _ HP.out (by decide)).mono ?_
     rintro e v52 ⟨rfl, hb⟩
     replace HB := aM (hb_then HB.out hb)
     replace HA := aM ((hb.block _ (cb_lt HA.out)).trans HA.out)
     clear hb m52
     go_wp2_with fail
     refine (no_match m53.out _ HP.out (by decide)).mono ?_
     rintro e v53 ⟨rfl, hb⟩
     replace HB := aM (hb_then HB.out hb)
     replace HA := aM ((hb.block _ (cb_lt HA.out)).trans HA.out)
     clear hb m53
     go_wp2_with fail
     refine (no_match m54.out _ HP.out (by decide)).mono ?_
     rintro e v54 ⟨rfl, hb⟩
     replace HB := aM (hb_then HB.out hb)
     replace HA := aM ((hb.block _ (cb_lt HA.out)).trans HA.out)
     clear hb m54
     go_wp2
     go_roundw
     case rel => exact ⟨.inr (.inr (rfl)), HA, HB⟩
     case measure => simp [intOf]
    ·skip; clear c0 c1
     go_wp2_with fail
     refine (no_match m55.out _ HP.out (by decide)).mono ?_
     rintro e v55 ⟨rfl, hb⟩
     replace HB := aM (hb_then HB.out hb)
     replace HA := aM ((hb.block _ (cb_lt HA.out)).trans HA.out)
     clear hb m55
     go_wp2_with fail
     refine (no_match m56.out _ HP.out (by decide)).mono ?_
     rintro e v56 ⟨rfl, hb⟩
     replace HB := aM (hb_then HB.out hb)
     replace HA := aM ((hb.block _ (cb_lt HA.out)).trans HA.out)
     clear hb m56
     go_wp2_with fail
     refine (no_match m57.out _ HP.out (by decide)).mono ?_
     rintro e v57 ⟨rfl, hb⟩
     replace HB := aM (hb_then HB.out hb)
     replace HA := aM ((hb.block _ (cb_lt HA.out)).trans HA.out)
     clear hb m57
     go_wp2_with fail
     refine (no_match m58.out _ HP.out (by decide)).mono ?_
     rintro e v58 ⟨rfl, hb⟩
     replace HB := aM (hb_then HB.out hb)
     replace HA := aM ((hb.block _ (cb_lt HA.out)).trans HA.out)
     clear hb m58
     go_wp2_with fail
     refine (no_match m59.out _ HP.out (by decide)).mono ?_
     rintro e v59 ⟨rfl, hb⟩
     replace HB := aM (hb_then HB.out hb)
     replace HA := aM ((hb.block _ (cb_lt HA.out)).trans HA.out)
     clear hb m59
     go_wp2_with fail
     refine (no_match m60.out _ HP.out (by decide)).mono ?_
     rintro e v60 ⟨rfl, hb⟩
     replace HB := aM (hb_then HB.out hb)
     replace HA := aM ((hb.block _ (cb_lt HA.out)).trans HA.out)
     clear hb m60
     go_wp2_with fail
     refine (no_match m61.out _ HP.out (by decide)).mono ?_
     rintro e v61 ⟨rfl, hb⟩
     replace HB := aM (hb_then HB.out hb)
     replace HA := aM ((hb.block _ (cb_lt HA.out)).trans HA.out)
     clear hb m61
     go_wp2_with fail
     refine (no_match m62.out _ HP.out (by decide)).mono ?_
     rintro e v62 ⟨rfl, hb⟩
     replace HB := aM (hb_then HB.out hb)
     replace HA := aM ((hb.block _ (cb_lt HA.out)).trans HA.out)
     clear hb m62
     go_wp2
     go_ret2
     exact ⟨rfl, HB.out⟩
end Go.Proofs.YtaembebbaejfiaaGreatDoor.Tree
namespace Go.Proofs.YtaembebbaejfiaaGreatDoor.MapV
open Go.RowKit Go.Proofs.YtaembebbaejfiaaGreatDoorW.PrintWords Go.Proofs.YtaembebbaejfiaaGreatDoorW.PrintLast Go.Proofs.YtaembebbaejfiaaGreatDoor.Str Go.ChangeMaps Go.MapKept Go.WideShapes Go.Maps
open Go.WideElems (Fit rd rg pl rd_key rd_val rg_of other_key rd_mk)
set_option linter.unusedVariables false
set_option linter.unusedSimpArgs false
theorem leftOf_length (es : Array MapEntry) (seen : Array Nat) : (leftOf es seen).size = (es.toList.filter fun e => !seen.contains e.born).length := by
 unfold leftOf
 rw [← Array.toList_filter, Array.length_toList]
theorem filter_born (seen : Array Nat) : ∀ l l' : List MapEntry, l.map (·.born) = l'.map (·.born) → (l.filter fun e => !seen.contains e.born).length = (l'.filter fun e => !seen.contains e.born).length
 | [], [], _ => rfl
 | [], y :: r, h => by simp at h
 | x :: r, [], h => by simp at h
 | x :: r, y :: s, h => by
  simp only [List.map_cons, List.cons.injEq] at h
  have ih := filter_born seen r s h.2
  rw [List.filter_cons, List.filter_cons, h.1]
  split <;> simp only [List.length_cons, ih]
theorem ranges_set {H : Type} {P : Program} {k t e : TypeId} {R : Value → Option (DataW H × List MemPlace)} {w : World} {b r n : Nat} {D : DataW H} {left : Lit → Bool} {cnt : Nat}
  (h : w.ranges P k R b r n D left cnt) (K : Keyed P k) (ht : P.underlying t = some (.map k e)) (hn : n < maxLen) {key val : Value} {kl : Lit} {d : DataW H} {ps : List MemPlace}
  (hkey : keyOf P k key = some kl) (hv : R val = some (d, ps)) (hhas : Maps.has D kl = true) :
  ∃ w', (Instr.mapUpdate t (.map (some b)) key val).run P w = .ok () w' ∧ w'.ranges P k R b r n (D.put kl d) left cnt ∧ w.grownBy w' (some b) := by
 have hne := h.ne
 obtain ⟨es, clock, since, seen, c0, hb, F, hs, rfl, hr, hold, rfl, hl1, hl2, hsc, hsk⟩ := h
 obtain ⟨es', clock', hrun, F', hput, _⟩ := Maps.fit_store (R' := R) K ht hb F (Nat.lt_of_le_of_lt hs hn) (fun _ _ _ _ hz => hz) hkey hv
 rcases K.find w hkey es.toList F.keys with ⟨h1, h2⟩ | ⟨j, e0, h1, h2, h3⟩
 ·exfalso
  obtain ⟨p, hp, hpk⟩ := List.any_eq_true.1 hhas
  obtain ⟨x, hx, rfl⟩ := List.mem_map.1 (mem_sorted.1 hp)
  obtain ⟨y, hy⟩ := F.reads x hx
  have e1 := WideAt.sameKey_eq hpk
  rw [rg_of hy] at e1
  exact h2 x hx (K.inj (e1 ▸ rd_key hy) hkey)
 have hj : es[j]? = some e0 := by simpa using h2
 have hjl : j < es.toList.length := (List.getElem?_eq_some_iff.1 h2).1
 have hlist : (es.modify j (fun e' => { e' with key := key, val := val })).toList = es.toList.set j { e0 with key := key, val := val } := by rw [Array.toList_modify, modify_eq_set _ _ _ _ h2]
 have hrun2 : (Instr.mapUpdate t (.map (some b)) key val).run P w = .ok () (setBlock w b (.map (es.modify j (fun e' => { e' with key := key, val := val })) clock)) := by
  simp [Instr.mapUpdate, run_underlying ht, MapKept.run_getObj_map hb, K.check w false hkey, h1, hj, h3, K.stays w hkey, MapKept.run_setObj_map _ hb, Result.andThen, setBlock]
 have hsame : (some (Obj.map es' clock') : Option Obj) = some (.map (es.modify j (fun e' => { e' with key := key, val := val })) clock) := by
  have e1 : setBlock w b (.map es' clock') = setBlock w b (.map (es.modify j (fun e' => { e' with key := key, val := val })) clock) := by
   have := hrun.symm.trans hrun2
   injection this
  rw [← heap_setBlock_same hb (Obj.map es' clock'), e1, heap_setBlock_same hb]
 injection hsame with hsame
 injection hsame with he hc
 subst hc
 rw [← he] at hlist
 have hmk := rd_mk (R := R) (born := e0.born) hkey hv
 have hkl0 : (rg P k R e0).1 = kl := by
  obtain ⟨y, hy⟩ := F.reads e0 (List.mem_of_getElem? h2)
  have h4 := rd_key hy
  rw [h3, hkey] at h4
  rw [rg_of hy]
  exact (Option.some.inj h4).symm
 have hkln : (rg P k R { e0 with key := key, val := val }).1 = kl := by rw [rg_of hmk]
 have hborn : es'.toList.map (·.born) = es.toList.map (·.born) := by
  rw [hlist, List.map_set]
  refine List.ext_getElem? (fun i => ?_)
  rw [List.getElem?_set]
  split
  ·rename_i hij
   subst hij
   rw [List.getElem?_map, h2]
   simp only [List.length_map, Option.map_some]
   rw [if_pos hjl]
  ·rfl
 have who : ∀ x ∈ es'.toList, x = { e0 with key := key, val := val } ∨ x ∈ es.toList := fun x hx => by
  rw [hlist] at hx
  rcases List.mem_or_eq_of_mem_set hx with h | h
  ·exact .inr h
  ·exact .inl h
 refine ⟨_, hrun, ⟨es', clock', since, seen, c0, heap_setBlock_same hb _, F', ?_, by rw [DataW.put_eq, hput], (heap_setBlock_other hb _ hne).trans hr, fun x hx => ?_, ?_, fun x hx => ?_, fun x0 hx0 => ?_, hsc, hsk⟩, ⟨rfl, rfl, rfl, by simp [setBlock], fun i _ hi => heap_setBlock_other hb _ (fun e => hi (by rw [e]))⟩⟩
 ·have : es'.size = es.size := by
   rw [← Array.length_toList, hlist, List.length_set, Array.length_toList]
  omega
 ·rcases who x hx with rfl | hx
  ·exact hold e0 (List.mem_of_getElem? h2)
  ·exact hold x hx
 ·rw [leftOf_length, leftOf_length]
  exact filter_born seen _ _ hborn
 ·rcases who x hx with rfl | hx
  ·rw [hkln, ← hkl0]
   exact hl1 e0 (List.mem_of_getElem? h2)
  ·exact hl1 x hx
 ·obtain ⟨x, hx, rfl⟩ := hl2 x0 hx0
  obtain ⟨i, hi, ex⟩ := List.getElem_of_mem hx
  by_cases hij : j = i
  ·subst hij
   have : x = e0 := by
    have := List.getElem?_eq_getElem hi
    rw [h2, ex] at this
    exact (Option.some.inj this).symm
   subst this
   exact ⟨{ x with key := key, val := val }, by rw [hlist]; exact List.mem_set hjl _, by rw [hkln, hkl0]⟩
  ·refine ⟨x, ?_, rfl⟩
   rw [hlist, List.mem_iff_getElem]
   exact ⟨i, by simpa using hi, by rw [List.getElem_set_ne hij]; exact ex⟩
section
variable {P : Program} {k e t : TypeId} {α : Type} {enc : α → Value} {w : World} {b r : Nat} {f left : List (Bs × α)}
variable {ops : Array Oper} {rest : List Oper} {o : Oper} {a : Act} {Q : Exit → Act → World → Prop}
theorem ranges_norm {n cnt : Nat} {l : List (Lit × DataW Value)} {lf : Lit → Bool} (h : w.ranges P k heldR b r n (.map l) lf cnt) : w.ranges P k heldR b r l.length (.map l) lf cnt := by
 obtain ⟨es, clock, since, seen, c0, hb, F, hs, hD, rest⟩ := h
 refine ⟨es, clock, since, seen, c0, hb, F, ?_, hD, rest⟩
 injection hD with hD
 rw [hD, length_sorted, List.length_map, Array.length_toList]
 exact Nat.le_refl _
theorem filter_mins {q : Bs × α → Bool} {x : Bs × α} (hq : q x = false) : ∀ l : List (Bs × α), (mins x l).filter q = l.filter q
 | [] => by simp [mins, hq]
 | y :: r => by
  unfold mins
  split
  ·rw [List.filter_cons, hq]; rfl
  ·rw [List.filter_cons, List.filter_cons, filter_mins hq r]
theorem filter_mput {q : Bs × α → Bool} {key : Bs} {y : α} (hq : ∀ v, q (key, v) = false) (f : List (Bs × α)) : (mput f key y).filter q = f.filter q := by
 unfold mput
 rw [filter_mins (hq y)]
 unfold mdel
 rw [List.filter_filter]
 refine List.filter_congr (fun p _ => ?_)
 obtain ⟨pk, pv⟩ := p
 by_cases h : pk = key
 ·subst h; rw [hq]; rfl
 ·have : (pk == key) = false := by simpa using h
  show (q (pk, pv) && !(pk == key)) = q (pk, pv)
  rw [this, Bool.not_false, Bool.and_true]
theorem store_rangesE (hk : P.underlying k = some .string) (ht : P.underlying t = some (.map k e)) (hg : o.guard = none) (m x v : Operand) (hop : o.op = Op.mapUpdate t m x v)
  (hm : a.eval m = .map (some b)) (h : Ranges P k enc w b r f left) (hn : f.length < maxLen) {s : ByteArray} {y : α} (hx : a.eval x = .string s) (hs : s.size ≤ maxLen) (hv : a.eval v = enc y)
  (hhas : (mget f (lb s)).isSome = true) (hlf : ∀ p ∈ left, p.1 ≠ lb s)
  (hK : ∀ w', Ranges P k enc w' b r (mput f (lb s) y) left → w.grownBy w' (some b) → w'.rangeLeft b r = w.rangeLeft b r → wpList P ops Q rest (a.put o.dst undef) w') : wpList P ops Q (o :: rest) a w := by
 obtain ⟨lf, cnt, h, rfl⟩ := h
 refine wpList_plain hg fun K' hK' => ?_
 obtain ⟨w', hrun, r1, r2⟩ := ranges_set h (Go.Maps.string_keyed hk) ht hn (keyOf_s hk hs) (val := enc y) (d := .held (enc y)) (ps := []) rfl (by rw [ent_has]; exact hhas)
 unfold Oper.wp
 simp [execOp, hop, hm, hx, hv, hrun, Result.andThen]
 refine hK' _ _ (hK w' ⟨lf, cnt, ?_, ?_⟩ r2 (by rw [r1.left_eq, h.left_eq]))
 ·rw [ent_put] at r1
  have := ranges_norm r1
  rw [List.length_map] at this
  exact this
 ·obtain ⟨c, hc⟩ := Option.isSome_iff_exists.1 hhas
  have hmem := mget_some hc
  refine (filter_mput (fun v => ?_) f).symm
  cases hq : lf (.string (lb s))
  ·rfl
  ·exact absurd rfl (hlf (lb s, c) (List.mem_filter.2 ⟨hmem, hq⟩))
end
end Go.Proofs.YtaembebbaejfiaaGreatDoor.MapV
namespace Go.Proofs.YtaembebbaejfiaaGreatDoor.Tr
open Go.RowKit Go.Proofs.YtaembebbaejfiaaGreatDoorW.PrintWords Go.Proofs.YtaembebbaejfiaaGreatDoorW.PrintLast Go.Proofs.YtaembebbaejfiaaGreatDoor.Str Go.Proofs.YtaembebbaejfiaaGreatDoor.Kit Go.Proofs.YtaembebbaejfiaaGreatDoor.MapV Go.Proofs.YtaembebbaejfiaaGreatDoor.Frame Go.Proofs.YtaembebbaejfiaaGreatDoor.PS
open Go.Proofs.YtaembebbaejfiaaGreatDoor.Index (tree_zzIndex)
open Go.Proofs.YtaembebbaejfiaaGreatDoor.Tree (NoneT transformer_none)
set_option linter.unusedVariables false
set_option linter.unusedSimpArgs false
theorem l_str_mp (v : Value) (w : World) : (Instr.typeAssert (.iface 9 v) 20 64 true).run Tryz.prog w = .ok (.tuple #[.map none, .bool false]) w := by kernel_rfl
theorem l_str_ls (v : Value) (w : World) : (Instr.typeAssert (.iface 9 v) 20 58 true).run Tryz.prog w = .ok (.tuple #[.slice none 0 0, .bool false]) w := by kernel_rfl
theorem l_bool_mp (v : Value) (w : World) : (Instr.typeAssert (.iface 4 v) 20 64 true).run Tryz.prog w = .ok (.tuple #[.map none, .bool false]) w := by kernel_rfl
theorem l_bool_ls (v : Value) (w : World) : (Instr.typeAssert (.iface 4 v) 20 58 true).run Tryz.prog w = .ok (.tuple #[.slice none 0 0, .bool false]) w := by kernel_rfl
set_option maxHeartbeats 800000 in
theorem replace_none (k r : BA) (w : World) (hn : findI [46] (lb k) = -1) (hs : k.size ≤ 4398046511104) : Calls Tryz.prog 74 #[.string k, .string ⟨#[46]⟩, .string r] w fun e w' => e = .returned (.string k) ∧ Below w.heap.size w w' := by
 have Hfi := aM hn
 have HS := aM hs
 clear hn
 go_enter Tryz.func74, Tryz.ntmps74
 go_wp2
 go_loopw [0, 7, 10] (fun v0 v7 v10 wr => v0 = .string k ∧ v7 = .slice none 0 0 ∧ wr = w) (fun _ _ _ _ => 0)
 case atStart => exact ⟨rfl, rfl, rfl⟩
 case round =>
  obtain ⟨rfl, rfl, rfl⟩ := hrel
  go_wp2_with fail
  refine (tree_zzIndex k ⟨#[46]⟩ _ (by omega) (by show 1 ≤ _; omega)).mono ?_
  rintro e w1 ⟨rfl, hd⟩
  rw [show lb ⟨#[46]⟩ = [46] from rfl, Hfi.out]
  have HB1 := aM hd.below
  clear hd
  go_wp2_with (at_builtin; refine append_bufS _ _ rfl rfl rfl rfl (Buf.nil _ _) HB1.out (by simp; omega) ?_; intro v1 w2 ho hb hg; have HB2 := aM hb; have hst := ho.string; rw [List.nil_append, show (⟨(lb k).toArray⟩ : BA) = k by simp [lb]] at hst; clear ho hg hb)
  go_ret
  exact ⟨rfl, HB2.out⟩
def atK : BA := ⟨#[97, 116]⟩
def atP (k : BA) : BA := atK ++ ⟨#[46]⟩ ++ k
set_option maxHeartbeats 800000 in
theorem path_next (k : BA) (w : World) (hn : findI [46] (lb k) = -1) (hs : k.size ≤ 4398046511104) : Calls Tryz.prog 67 #[.string atK, .string k] w fun e w' => e = .returned (.string (atP k)) ∧ Below w.heap.size w w' := by
 have q0 : (atK.toList == []) = false := by decide +kernel
 have q1 : (atK == ⟨#[]⟩) = false := by decide +kernel
 have z0 : ByteArray.size atK = 2 := by decide +kernel
 have z1 : ¬ 9223372036854775807 < ByteArray.size atK + 1 := by omega
 have z2 : ¬ 9223372036854775807 < ByteArray.size atK + 1 + ByteArray.size k := by omega
 go_enter Tryz.func67, Tryz.ntmps67
 go_wp2_with fail
 refine (replace_none k _ w hn hs).mono ?_
 rintro e w1 ⟨rfl, hb⟩
 have HB := aM hb
 clear hb
 go_wp2
 go_ret
 exact ⟨rfl, HB.out⟩
def IsLeaf (c : Value) : Prop := (∃ s, c = .iface 9 (.string s)) ∨ ∃ b, c = .iface 4 (.bool b)
set_option maxHeartbeats 1600000 in
theorem trans_leaf (c : Value) (hc : IsLeaf c) (p : BA) (hp : NoneT p) (ig : Bool) (w : World) : Calls Tryz.prog 66 #[c, .string p, .bool ig] w fun e w' => e = .returned (.tuple #[c, .nilIface]) ∧ Below w.heap.size w w' := by
 have CT := aM (transformer_none p hp w)
 clear hp
 have f1 := l_str_mp
 have f2 := l_str_ls
 have f3 := l_bool_mp
 have f4 := l_bool_ls
 rcases hc with ⟨s, rfl⟩ | ⟨b, rfl⟩
 ·go_enter Tryz.func66, Tryz.ntmps66
  go_wp2_with fail
  refine CT.out.mono ?_
  rintro e w1 ⟨rfl, hb⟩
  have HB := aM hb
  clear hb
  go_wp2
  go_ret2
  exact ⟨rfl, HB.out⟩
 ·go_enter Tryz.func66, Tryz.ntmps66
  go_wp2_with fail
  refine CT.out.mono ?_
  rintro e w1 ⟨rfl, hb⟩
  have HB := aM hb
  clear hb
  go_wp2
  go_ret2
  exact ⟨rfl, HB.out⟩
def LeafAt (q : Bs × Value) : Prop := IsLeaf q.2 ∧ findI [46] q.1 = -1 ∧ q.1.length ≤ 4398046511104 ∧ NoneT (atP ⟨q.1.toArray⟩)
theorem mput_same {f : List (Bs × Value)} (hf : Rises f) {k : Bs} {c : Value} (h : (k, c) ∈ f) : mput f k c = f := rises_ext (mput_rises hf _ _) hf (fun q => by
 rw [mget_mput]
 split
 ·rename_i e
  subst e
  exact (mget_of_mem hf h).symm
 ·rfl)
theorem mdel_ne {f : List (Bs × Value)} {k : Bs} {p : Bs × Value} (h : p ∈ mdel f k) : p.1 ≠ k := by
 unfold mdel at h
 have := (List.mem_filter.1 h).2
 simpa using this
theorem lt_same2 {w w' : World} {b r : Nat} (hb : w'.heap[b]? = w.heap[b]?) (hr : w'.heap[r]? = w.heap[r]?) : w'.rangeLeft b r = w.rangeLeft b r := by
 unfold World.rangeLeft
 rw [hb, hr]
set_option maxHeartbeats 1600000 in
theorem trans_map (b : Nat) (g : List (Bs × Value)) (ig : Bool) (w : World) (h : MapA w b g) (hn : g.length ≤ 1759218604400) (hl : ∀ q, q ∈ g → LeafAt q) :
  Calls Tryz.prog 61 #[.map (some b), .string atK, .bool ig] w fun e w' => e = .returned (.tuple #[.map (some b), .nilIface]) ∧ MapA w' b g ∧ w.grownBy w' (some b) := by
 have HM := aM h
 have HRG := aM (MapE.rises (Go.Maps.string_keyed akey_u) h)
 have HL := aM hl
 have hbl := h.lt
 have hml : g.length < maxLen := by unfold maxLen; omega
 clear h hl
 go_enter Tryz.func61, Tryz.ntmps61
 go_wp2_with (at_range; refine range_mapE (enc := (id : Value → Value)) akey_u amap_u rfl _ rfl rfl HM.out ?_; intro w0 hrg0 hg0 hs0; have HR0 := aM hrg0; have HG0 := aM hg0; have HS0 := aM hs0; clear hrg0 hg0 hs0)
 go_frame
 have HGB := aM (show w.grownBy w0 (some b) from ⟨HG0.out.os, HG0.out.tape, HG0.out.output, HG0.out.size, fun j hj _ => HG0.out.block j hj (by simp)⟩)
 clear HG0 HM
 go_loopw [8, 9, 10, 11] (fun v8 v9 v10 v11 wr => Aside0 (∃ (lf : List (Bs × Value)), Ranges Tryz.prog 9 (id : Value → Value) wr b w.heap.size g lf ∧ w.grownBy wr (some b))) (fun _ _ _ _ wr => wr.rangeLeft b w.heap.size)
 case atStart => exact ⟨g, HR0.out, HGB.out⟩
 case round =>
  clear HR0 HGB HS0
  obtain ⟨lf, hr, hg⟩ := hrel.out
  have HR := aM hr
  have HG := aM hg
  clear hr hg
  have hwl := HG.out.size
  have hrl := HR.out.lt
  go_wp2_with (at_next; refine next_mapA akey_u rfl _ rfl rfl HR.out (fun hd => ?_) (fun x c w2 hx hen => ?_); rotate_left; (have HG2 := aM (HG.out.andThen hx.out.2.2.2.2.1 (fun j e => .inl (by injection e with e; omega)))))
  ·have hin := HR.out.sub.subset hx.out.1
   obtain ⟨hc, hdot, hks, hnt⟩ := HL.out _ hin
   rw [show (⟨(lb x).toArray⟩ : BA) = x by simp [lb]] at hnt
   have hsz2 := hx.out.2.2.2.2.2
   have CT := aM (fun W => trans_leaf c hc (atP x) hnt ig W)
   refine (path_next x w2 hdot (by rw [← lb_length]; exact hks)).mono ?_
   rintro e w3 ⟨rfl, hb3⟩
   have HB3 := aM hb3
   have HX := aM hx
   have HI := aM hin
   have hk2 : x.size ≤ maxLen := hx.out.2.1
   clear hb3 hc hdot hks hnt hin hx hen
   go_wp2_with fail
   refine (CT.out w3).mono ?_
   rintro e w4 ⟨rfl, hb4⟩
   have HB4 := aM (hb_then HB3.out hb4)
   have HR4 := aM (HX.out.out.2.2.1.below HB4.out)
   have HG4 := aM (HG2.out.andThen (grown_of_below HB4.out none) (fun j e => by cases e))
   have hl4 : w4.rangeLeft b w.heap.size = w2.rangeLeft b w.heap.size := lt_same2 (HB4.out.block _ (by omega)) (HB4.out.block _ (by omega))
   clear hb4
   go_wp2_with (at_mapUpdate; refine store_rangesE (enc := (id : Value → Value)) (y := c) akey_u amap_u rfl _ _ _ rfl rfl HR4.out hml rfl hk2 rfl (by rw [mget_of_mem HRG.out HI.out]; rfl) (fun p hp => mdel_ne hp) ?_; intro w5 hr5 hg5 hl5; have HR5 := aM hr5; have HG5 := aM hg5; have HL5 := aM hl5; clear hr5 hg5 hl5)
   simp only [Act.put]
   go_roundw
   case rel =>
    have h5 := HR5.out
    rw [mput_same HRG.out HI.out] at h5
    exact ⟨_, h5, HG4.out.andThen HG5.out (fun j e => .inr e)⟩
   case measure =>
    rw [HL5.out, hl4]
    exact HX.out.out.2.2.2.1
  ·go_ret2
   exact ⟨rfl, HR.out.owns, HG.out⟩
end Go.Proofs.YtaembebbaejfiaaGreatDoor.Tr
namespace Go.Proofs.YtaembebbaejfiaaGreatDoor.Tr
open Go.RowKit Go.Proofs.YtaembebbaejfiaaGreatDoorW.PrintWords Go.Proofs.YtaembebbaejfiaaGreatDoorW.PrintLast Go.Proofs.YtaembebbaejfiaaGreatDoor.Str Go.Proofs.YtaembebbaejfiaaGreatDoor.Kit Go.Proofs.YtaembebbaejfiaaGreatDoor.MapV Go.Proofs.YtaembebbaejfiaaGreatDoor.Frame Go.Proofs.YtaembebbaejfiaaGreatDoor.PS
set_option linter.unusedVariables false
set_option linter.unusedSimpArgs false
set_option maxHeartbeats 400000 in
theorem implAtK (w : World) : Calls Tryz.prog 27 #[] w fun e w' => e = .returned (.string atK) ∧ Below w.heap.size w w' := by
 have HC := aM (show Kd.string.C (w.alloc (.cells #[.string ⟨#[97, 116]⟩] 9)) (some ⟨w.heap.size, 0, none⟩) [(⟨#[97, 116]⟩ : ByteArray)].length [⟨#[97, 116]⟩] from strs_lit w 9 [(⟨#[97, 116]⟩ : ByteArray)] (by decide))
 have hk : Mount.newPath [(⟨#[97, 116]⟩ : ByteArray)] = atK := by decide +kernel
 go_enter Tryz.func27, Tryz.ntmps27
 go_wp2_with fail
 refine (Mount.tree_NewPath (c := 1) (xs := [(⟨#[97, 116]⟩ : ByteArray)]) _ HC.out (Nat.le_refl _) (by simp) (by decide)).mono ?_
 rw [hk]
 rintro e w1 ⟨rfl, hb⟩
 have HB := aM (hb_then ((Below.refl _ w).alloc (Nat.le_refl _) _) hb)
 clear hb
 go_wp2
 go_ret
 exact ⟨rfl, HB.out⟩
theorem told_at {fn : Func} {p q : Tmp} (hr : fn.results = #[.cell p 45, .tmp q]) {tmps : Array Value} {W : World} {b n3 c3 n4 c4 : Nat} {k n : Int} {t : BA} {A3 A4 : Option Addr} (hp : tmps.getD p undef = .pointer (some ⟨b, 0, none⟩)) (h3 : tmps.getD q undef = .bool true) (hb : W.heap[b]? = some (.cells #[.int .i64 k, .int .i64 n, .string t, .slice A3 n3 c3, .slice A4 n4 c4] 45 (0, 0))) :
  (results fn tmps).run Tryz.prog W = .ok (.tuple #[.agg #[.int .i64 k, .int .i64 n, .string t, .slice A3 n3 c3, .slice A4 n4 c4], .bool true]) W := by
 have := results_ct (P := Tryz.prog) hr tmps W b 45 _ (0, 0) _ hp hb Tryz.underlying45 rfl ival_size
 rw [h3] at this
 exact this
set_option maxHeartbeats 800000 in
theorem impl_value {v : Value} {y : Y} {F : Nat → Prop} (w : World) (hy : FitsY y) (ha : AR w v y F) : Calls Tryz.prog 24 #[v, .nilIface] w (Told w (valOf y)) := by
 have h0 := aM (cb_new w (.cells #[.int .i64 0, .int .i64 0, .string ⟨#[]⟩, .slice none 0 0, .slice none 0 0] 45))
 have HB := aM (below_alloc (Below.refl w.heap.size w) (.cells #[.int .i64 0, .int .i64 0, .string ⟨#[]⟩, .slice none 0 0, .slice none 0 0] 45))
 have CM := aM (from_any hy v _ (w.alloc (.cells #[.int .i64 0, .int .i64 0, .string ⟨#[]⟩, .slice none 0 0, .slice none 0 0] 45)) (ha.keep HB.out))
 clear ha
 generalize valOf y = x at CM
 obtain ⟨x0, x1, x2, x3, x4⟩ := x
 go_enter Tryz.func24, Tryz.ntmps24
 go_wp2_with fail
 refine CM.out.mono ?_
 rintro e w3 ⟨v3, v4, rfl, hv3, hv4, hb3⟩
 obtain ⟨A3, c3, rfl⟩ := Kd.R_slice hv3
 obtain ⟨A4, c4, rfl⟩ := Kd.R_slice hv4
 have h1 := (hb3.block _ (cb_lt h0.out)).trans h0.out
 have hg := grown_setRow w3 w.heap.size #[.int .i64 x0, .int .i64 x1, .string x2, .slice A3 x3.length c3, .slice A4 x4.length c4]
 have HX := aM (setRow_heap _ w.heap.size _ #[.int .i64 x0, .int .i64 x1, .string x2, .slice A3 x3.length c3, .slice A4 x4.length c4] _ _ h1)
 have hb := hb_then HB.out hb3
 have HB8 := aM (pw_below_grown hb (some w.heap.size) hb.size hg (fun k hk => by have := Option.some.inj hk; omega))
 have hbase := HB.out.size
 have hlt := cb_lt h0.out
 have H3 := aM (Kd.R_lower (base' := w.heap.size) (Kd.R_mono (ok' := fun _ => True) (Kd.R_move (Kd.R_bound hv3) (fun k hk => hg.block k hk.2.2.1 (fun e => by have h2 := Option.some.inj e; have h3 := hk.2.1; omega))) (fun _ _ => trivial)) hbase)
 have H4 := aM (Kd.R_lower (base' := w.heap.size) (Kd.R_mono (ok' := fun _ => True) (Kd.R_move (Kd.R_bound hv4) (fun k hk => hg.block k hk.2.2.1 (fun e => by have h2 := Option.some.inj e; have h3 := hk.2.1; omega))) (fun _ _ => trivial)) hbase)
 clear hv3 hv4 hb3 hg hb hbase hlt HB h0 CM
 go_wp2_with (refine store_ival (.tmp 4) (.tmp 11) rfl rfl rfl rfl h1 ?_)
 exact bodyPost_ret (v := .tuple #[.agg #[.int .i64 x0, .int .i64 x1, .string x2, .slice A3 x3.length c3, .slice A4 x4.length c4], .bool true]) (told_at rfl rfl rfl HX.out) rfl ⟨.slice A3 x3.length c3, .slice A4 x4.length c4, rfl, H3.out, H4.out, HB8.out⟩
def TransB (B : Nat) (w : World) (y : Y) (e : Ending) (w' : World) : Prop := ∃ v F, e = .returned (.tuple #[v, .nilIface]) ∧ AR w' v y F ∧ Below B w w'
set_option maxHeartbeats 800000 in
theorem trans_door {y : Y} (B : Nat) (v pv : Value) (ig : Bool) (w : World) (h : Calls Tryz.prog 50 #[v, pv, .bool ig] w (TransB B w y)) :
  Calls Tryz.prog 29 #[v, pv, .bool ig] w (TransB B w y) := by
 have CN := aM h
 clear h
 go_enter Tryz.func29, Tryz.ntmps29
 go_wp2_with fail
 refine CN.out.mono ?_
 rintro e w1 ⟨u, F, rfl, ha, hb⟩
 have HA := aM ha
 have HB := aM hb
 clear ha hb
 go_wp2
 go_ret2
 exact ⟨_, _, rfl, HA.out, HB.out⟩
set_option maxHeartbeats 1600000 in
theorem impl_trans (x : VI) (hx : Small x) (y : Y) (hfy : FitsY y) (ig : Bool) (hf : ∀ (B : Nat) (W : World) (v : Value) (F : Nat → Prop), B ≤ W.heap.size → (∀ k, F k → B ≤ k) → AR W v (anyOf x) F → Calls Tryz.prog 50 #[v, .string atK, .bool ig] W (TransB B W y))
  (A3 A4 : Option Addr) (c3 c4 : Nat) (w : World) (l3 : x.f3.length ≤ c3) (hk : Kd.string.C w A3 x.f3.length x.f3) (l4 : x.f4.length ≤ c4) (hv : kI.C w A4 x.f4.length x.f4) :
  Calls Tryz.prog 11 #[.agg #[.int .i64 x.f0, .int .i64 x.f1, .string x.f2, .slice A3 x.f3.length c3, .slice A4 x.f4.length c4], .bool ig] w (Told w (valOf y)) := by
 have hb1 := below_alloc (Below.refl w.heap.size w) (.cells #[.int .i64 x.f0, .int .i64 x.f1, .string x.f2, .slice A3 x.f3.length c3, .slice A4 x.f4.length c4] 45)
 have hb2 := below_alloc hb1 (.cells #[.int .i64 0, .int .i64 0, .string ⟨#[]⟩, .slice none 0 0, .slice none 0 0] 45)
 have HB := aM hb2
 have h0 := cb_new (w.alloc (.cells #[.int .i64 x.f0, .int .i64 x.f1, .string x.f2, .slice A3 x.f3.length c3, .slice A4 x.f4.length c4] 45)) (.cells #[.int .i64 0, .int .i64 0, .string ⟨#[]⟩, .slice none 0 0, .slice none 0 0] 45)
 rw [World.size_alloc] at h0
 have H0 := aM h0
 have hxb : ((w.alloc (.cells #[.int .i64 x.f0, .int .i64 x.f1, .string x.f2, .slice A3 x.f3.length c3, .slice A4 x.f4.length c4] 45)).alloc (.cells #[.int .i64 0, .int .i64 0, .string ⟨#[]⟩, .slice none 0 0, .slice none 0 0] 45)).heap[w.heap.size]? = some (.cells #[.int .i64 x.f0, .int .i64 x.f1, .string x.f2, .slice A3 x.f3.length c3, .slice A4 x.f4.length c4] 45 (0, 0)) := blk_alloc (cb_new _ _) _
 have CA := aM (toAny x hx A3 A4 c3 c4 ((w.alloc (.cells #[.int .i64 x.f0, .int .i64 x.f1, .string x.f2, .slice A3 x.f3.length c3, .slice A4 x.f4.length c4] 45)).alloc (.cells #[.int .i64 0, .int .i64 0, .string ⟨#[]⟩, .slice none 0 0, .slice none 0 0] 45)) l3 (Kd.C_below hk hb2) l4 (Kd.C_below hv hb2))
 have HFN := aM hf
 have HFY := aM hfy
 clear hb1 hb2 h0 hk hv l3 l4 hf hfy hx
 generalize anyOf x = ax at CA HFN
 obtain ⟨x0, x1, x2, x3, x4⟩ := x
 obtain ⟨yv, hy⟩ : ∃ yv, valOf y = yv := ⟨_, rfl⟩
 rw [hy]
 obtain ⟨y0, y1, y2, y3, y4⟩ := yv
 have HV := aM hy
 clear hy
 go_enter Tryz.func11, Tryz.ntmps11
 go_wp2_with (refine load_ival (.tmp 2) rfl rfl rfl hxb ?_)
 refine CA.out.mono ?_
 rintro e w1 ⟨v, rfl, ha, hb⟩
 rw [World.size_alloc, World.size_alloc] at ha
 have hsz1 := hb.size
 rw [World.size_alloc, World.size_alloc] at hsz1
 have HA1 := aM ha
 have HB1 := aM (hb_then HB.out hb)
 have H1 := aM ((hb.block _ (cb_lt H0.out)).trans H0.out)
 clear ha hb CA hxb H0
 go_wp2_with fail
 refine (implAtK w1).mono ?_
 rintro e w2 ⟨rfl, hb⟩
 have HA2 := aM (HA1.out.keep hb)
 have hsz2 := hb.size
 have HSZ := aM (show w.heap.size + 1 + 1 ≤ w2.heap.size by omega)
 have HB2 := aM (hb_then HB1.out hb)
 have H2 := aM ((hb.block _ (cb_lt H1.out)).trans H1.out)
 clear hb HA1 HB1 H1 hsz1 hsz2
 go_wp2_with fail
 refine (trans_door (w.heap.size + 1 + 1) _ _ ig w2 (HFN.out (w.heap.size + 1 + 1) w2 _ _ HSZ.out (fun k hk => hk.1.1) HA2.out)).mono ?_
 rintro e w3 ⟨v3, F3, rfl, ha, hb⟩
 have HA3 := aM ha
 have HB3 := aM (HB2.out.trans (hb.mono (by omega)))
 have H3 := aM ((hb.block _ (by omega)).trans H2.out)
 clear ha hb HA2 HB2 H2
 have cv := impl_value w3 HFY.out HA3.out
 rw [HV.out] at cv
 have CV := aM cv
 clear cv
 go_wp2_with fail
 refine CV.out.mono ?_
 rintro e w4 ⟨u3, u4, rfl, hv3, hv4, hb4⟩
 obtain ⟨E3, d3, rfl⟩ := Kd.R_slice hv3
 obtain ⟨E4, d4, rfl⟩ := Kd.R_slice hv4
 have h1 := (hb4.block _ (cb_lt H3.out)).trans H3.out
 have hg := grown_setRow w4 (w.heap.size + 1) #[.int .i64 y0, .int .i64 y1, .string y2, .slice E3 y3.length d3, .slice E4 y4.length d4]
 have HX := aM (setRow_heap _ (w.heap.size + 1) _ #[.int .i64 y0, .int .i64 y1, .string y2, .slice E3 y3.length d3, .slice E4 y4.length d4] _ _ h1)
 have hb := hb_then HB3.out hb4
 have HB8 := aM (pw_below_grown hb (some (w.heap.size + 1)) hb.size hg (fun k hk => by have := Option.some.inj hk; omega))
 have hbase := HB3.out.size
 have hlt := cb_lt H3.out
 have G3 := aM (Kd.R_lower (base' := w.heap.size) (Kd.R_mono (ok' := fun _ => True) (Kd.R_move (Kd.R_bound hv3) (fun k hk => hg.block k hk.2.2.1 (fun e => by have h2 := Option.some.inj e; have h3 := hk.2.1; omega))) (fun _ _ => trivial)) hbase)
 have G4 := aM (Kd.R_lower (base' := w.heap.size) (Kd.R_mono (ok' := fun _ => True) (Kd.R_move (Kd.R_bound hv4) (fun k hk => hg.block k hk.2.2.1 (fun e => by have h2 := Option.some.inj e; have h3 := hk.2.1; omega))) (fun _ _ => trivial)) hbase)
 clear hv3 hv4 hb4 hg hb hbase hlt HB3 H3 CV HA3
 go_wp2_with (refine store_ival (.tmp 4) (.tmp 14) rfl rfl rfl rfl h1 ?_)
 exact bodyPost_ret (v := .tuple #[.agg #[.int .i64 y0, .int .i64 y1, .string y2, .slice E3 y3.length d3, .slice E4 y4.length d4], .bool true]) (told_at rfl rfl rfl HX.out) rfl ⟨.slice E3 y3.length d3, .slice E4 y4.length d4, rfl, G3.out, G4.out, HB8.out⟩
end Go.Proofs.YtaembebbaejfiaaGreatDoor.Tr
namespace Go.Proofs.YtaembebbaejfiaaGreatDoor.MapV
open Go.RowKit Go.Maps Go.Proofs.YtaembebbaejfiaaGreatDoorW.PrintWords Go.Proofs.YtaembebbaejfiaaGreatDoor.Str
section
variable {P : Program} {k e t : TypeId} {α : Type} {enc : α → Value} {w : World} {b : Nat} {f : List (Bs × α)}
variable {ops : Array Oper} {rest : List Oper} {o : Oper} {a : Act} {Q : Exit → Act → World → Prop}
theorem insert_mapE (hk : P.underlying k = some .string) (ht : P.underlying t = some (.map k e)) (hg : o.guard = none) (m x v : Operand) (hop : o.op = Op.insert t m x v)
  (hm : a.eval m = .map (some b)) (h : MapE P k enc w b f) (hn : f.length < maxLen) {s : ByteArray} {y : α} (hx : a.eval x = .string s) (hs : s.size ≤ maxLen) (hv : a.eval v = enc y)
  (hK : ∀ w', MapE P k enc w' b (mput f (lb s) y) → w.grownBy w' (some b) → wpList P ops Q rest (a.put o.dst undef) w') : wpList P ops Q (o :: rest) a w := by
 refine wpList_plain hg fun K' hK' => ?_
 obtain ⟨w', hrun, r1, r2⟩ := World.ownsMap.update h (Go.Maps.string_keyed hk) ht hn (keyOf_s hk hs) (val := enc y) (d := .held (enc y)) (ps := []) rfl
 unfold Oper.wp
 simp [execOp, hop, hm, hx, hv, hrun, Result.andThen]
 exact hK' _ _ (hK w' (MapE.of (by rw [ent_put] at r1; exact r1)) r2)
end
end Go.Proofs.YtaembebbaejfiaaGreatDoor.MapV
namespace Go.Proofs.YtaembebbaejfiaaGreatDoor.Tr
open Go.RowKit Go.Proofs.YtaembebbaejfiaaGreatDoorW.PrintWords Go.Proofs.YtaembebbaejfiaaGreatDoorW.PrintLast Go.Proofs.YtaembebbaejfiaaGreatDoor.Str Go.Proofs.YtaembebbaejfiaaGreatDoor.Kit Go.Proofs.YtaembebbaejfiaaGreatDoor.MapV Go.Proofs.YtaembebbaejfiaaGreatDoor.Frame Go.Proofs.YtaembebbaejfiaaGreatDoor.PS
set_option linter.unusedVariables false
set_option linter.unusedSimpArgs false
def oneK : BA := ⟨#[115, 101, 114, 118, 105, 99, 101]⟩
def oneM (p : BA) : List (Bs × Y) := [(lb oneK, .text p)]
set_option maxHeartbeats 1600000 in
set_option maxRecDepth 100000 in
theorem one_text (B : Nat) (p : BA) (ig : Bool) (w : World) (hB : B ≤ w.heap.size) : Calls Tryz.prog 50 #[.iface 9 (.string p), .string atK, .bool ig] w (TransB B w (.map (oneM p))) := by
 have f1 := l_str_mp
 have f5 := t_str
 have hmm := @run_makeMap Tryz.prog
 have HM0 := MapAt.made w
 have HB0 := aM (below_alloc (Below.refl w.heap.size w) (.map #[] 0))
 have hmA := HM0.hm
 have HMM := aM HM0
 have HLB := aM hB
 clear HM0 hB
 go_enter Tryz.func50, Tryz.ntmps50
 go_wp2_with (refine insert_mapE (enc := (id : Value → Value)) (y := Value.iface 9 (.string p)) akey_u amap_u rfl _ _ _ rfl rfl hmA (by unfold maxLen; decide) rfl (by unfold maxLen; decide) rfl ?_; intro w4 hm4 hg4; have HM4 := aM (HMM.out.put (Below.refl _ _) (AR.text _ _) _ hm4 hg4); have HG4 := aM hg4; clear hm4 hg4)
 go_ret2
 have h5 := HM4.out
 have hb4 := pw_below_grown HB0.out _ HB0.out.size HG4.out (fun k hk => by injection hk with hk; omega)
 exact ⟨_, _, rfl, h5.done, hb4.mono HLB.out⟩
set_option maxHeartbeats 1600000 in
theorem one_map (B : Nat) (m : List (Bs × Y)) (hn : m.length ≤ 1759218604400) (hm : ∀ q, q ∈ m → ((∃ s, q.2 = .text s) ∨ ∃ b, q.2 = .bool b) ∧ findI [46] q.1 = -1 ∧ q.1.length ≤ 4398046511104 ∧ Tree.NoneT (atP ⟨q.1.toArray⟩)) (v : Value) (F : Nat → Prop) (ig : Bool) (w : World) (hB : B ≤ w.heap.size) (hF : ∀ k, F k → B ≤ k) (h : AR w v (.map m) F) :
  Calls Tryz.prog 50 #[v, .string atK, .bool ig] w (TransB B w (.map m)) := by
 cases h with
 | map b zs _ _ hy hma hz hd hb hF2 =>
  have f6 := t_map_map
  have hle : (zs.map (fun z => (z.1, z.2.1))).length ≤ 1759218604400 := by rw [List.length_map]; rw [hy, List.length_map] at hn; exact hn
  have CM := aM (trans_map b _ ig w hma hle (fun q hq => by
   obtain ⟨z, hzz, rfl⟩ := List.mem_map.1 hq
   obtain ⟨h1, h2, h3, h4⟩ := hm (z.1, z.2.2.1) (by rw [hy]; exact List.mem_map.2 ⟨z, hzz, rfl⟩)
   refine ⟨?_, h2, h3, h4⟩
   have ha := hz z hzz
   show IsLeaf z.2.1
   have h1' : (∃ s, z.2.2.1 = .text s) ∨ ∃ b, z.2.2.1 = .bool b := h1
   generalize z.2.1 = c at ha
   generalize z.2.2.2 = G at ha
   rcases h1' with ⟨s, e⟩ | ⟨s, e⟩ <;> rw [e] at ha <;> cases ha
   ·exact .inl ⟨_, rfl⟩
   ·exact .inr ⟨_, rfl⟩))
  have HZ := aM hz
  have HD := aM hd
  have HBB := aM hb
  have HFF := aM hF2
  have HY := aM hy
  have HBL := aM (hF b hb.1)
  clear hz hd hF2 hma hy hm hle hn
  go_enter Tryz.func50, Tryz.ntmps50
  go_wp2_with fail
  refine CM.out.mono ?_
  rintro e w1 ⟨rfl, hm1, hg1⟩
  have HM1 := aM hm1
  have HG1 := aM hg1
  clear hm1 hg1 CM
  go_wp2
  go_ret2
  refine ⟨_, F, rfl, .map b zs _ F HY.out HM1.out (fun z hzz => ?_) HD.out HBB.out HFF.out, pw_below_grown ((Below.refl _ w).mono hB) (some b) hB HG1.out (fun k hk => by injection hk with hk; have := HBL.out; omega)⟩
  have ht := (HZ.out z hzz).tight
  exact (ht.move (fun k hk => HG1.out.block k hk.2 (fun e => by injection e with e; subst e; exact HBB.out.2 z hzz hk.1))).mono (fun k hk => hk.1)
end Go.Proofs.YtaembebbaejfiaaGreatDoor.Tr
namespace Go.Proofs.YtaembebbaejfiaaGreatDoor.PS
open Go.RowKit Go.Proofs.YtaembebbaejfiaaGreatDoorW.PrintWords Go.Proofs.YtaembebbaejfiaaGreatDoorW.PrintLast Go.Proofs.YtaembebbaejfiaaGreatDoorW.PrintMore
attribute [local go_sem] max2_int min2_int max_two min_two max_three min_three max_four min_four 
set_option linter.unusedVariables false
set_option linter.unusedSimpArgs false
end Go.Proofs.YtaembebbaejfiaaGreatDoor.PS
namespace Go.Proofs.YtaembebbaejfiaaGreatDoor.PS
open Go.RowKit Go.Proofs.YtaembebbaejfiaaGreatDoorW.PrintWords Go.Proofs.YtaembebbaejfiaaGreatDoorW.PrintLast Go.Proofs.YtaembebbaejfiaaGreatDoorW.PrintMore
attribute [local go_sem] max2_int min2_int max_two min_two max_three min_three max_four min_four 
set_option linter.unusedVariables false
set_option linter.unusedSimpArgs false
end Go.Proofs.YtaembebbaejfiaaGreatDoor.PS
namespace Go.Proofs.YtaembebbaejfiaaGreatDoor.PS
open Go.RowKit Go.Proofs.YtaembebbaejfiaaGreatDoorW.PrintWords Go.Proofs.YtaembebbaejfiaaGreatDoorW.PrintLast Go.Proofs.YtaembebbaejfiaaGreatDoorW.PrintMore
attribute [local go_sem] max2_int min2_int max_two min_two max_three min_three max_four min_four 
set_option linter.unusedVariables false
set_option linter.unusedSimpArgs false
end Go.Proofs.YtaembebbaejfiaaGreatDoor.PS
namespace Go.Proofs.YtaembebbaejfiaaGreatDoor.PS
open Go.RowKit Go.Proofs.YtaembebbaejfiaaGreatDoorW.PrintWords Go.Proofs.YtaembebbaejfiaaGreatDoorW.PrintLast Go.Proofs.YtaembebbaejfiaaGreatDoorW.PrintMore
attribute [local go_sem] max2_int min2_int max_two min_two max_three min_three max_four min_four 
set_option linter.unusedVariables false
set_option linter.unusedSimpArgs false
def spec_sayIn.l0 : Nat → ByteArray → List ByteArray → Int → Option (Bool)
 | 0, _, _, _ => none
 | k + 1, x0, x1, x5 => if x5 < (x1.length : Int) then (if 0 ≤ x5 then (if (rdOf ByteArray.empty x1 x5).toList = x0.toList then (some true) else (spec_sayIn.l0 k x0 x1 (wrap64 (x5 + 1)))) else (none)) else (some false)
def spec_sayIn.f (k : Nat) (a0 : ByteArray) (l1 : List ByteArray) : Option (Bool) := spec_sayIn.l0 k a0 l1 0
set_option maxHeartbeats 8000000 in
set_option maxRecDepth 100000 in
theorem spec_sayIn.calls (k : Nat) (a0 : ByteArray) (A1 : Option Addr) (c1 : Nat) (l1 : List ByteArray) (r : Bool) (w : World) (hr1 : Kd.C Kd.string w A1 l1.length l1) (hc1 : l1.length ≤ c1) (h : spec_sayIn.f k a0 l1 = some r) :
  Calls Tryz.prog 31 #[.string a0, .slice A1 l1.length c1] w fun e w' => e = .returned (.bool r) ∧ Drawn0 w w' := by
 have HR1 := aM hr1
 have HC1 := aM hc1
 clear hr1 hc1
 have H : (spec_sayIn.l0 k a0 l1 0) = some r := h
 clear h
 have H' := aM H
 clear H
 go_enter Tryz.func31, Tryz.ntmps31
 go_wp2
 go_loopg [5] k (fun kq v5 w' => ∃ (x5_1 : Int), v5 = .int .i64 x5_1 ∧ Aside0 (spec_sayIn.l0 kq a0 l1 x5_1 = some r) ∧ Aside0 (kq ≤ k) ∧ Drawn0 w w')
 case atStart => exact ⟨(0), (by first | rfl | (simp; done) | (simp [*]; done)), H', ⟨Nat.le_refl _⟩, by repeat (first | exact Drawn0.refl _ | apply Drawn0.step)⟩
 case round =>
  clear H'
  try clear c1
  try clear p2
  obtain ⟨x5_1, rfl, HA, HK1, ⟨m1, rfl⟩⟩ := hrel
  cases gk with
  | zero => exact absurd HA.out (by simp [spec_sayIn.l0])
  | succ k1 =>
   have H := HA.out
   clear HA
   simp only [spec_sayIn.l0] at H
   by_cases c3 : x5_1 < (l1.length : Int)
   ·rw [if_pos c3] at H
    have c3b0 : decide (x5_1 < (l1.length : Int)) = true := decide_eq_true c3
    clear c3
    by_cases c4 : 0 ≤ x5_1
    ·rw [if_pos c4] at H
     have c4b0 : decide (0 ≤ x5_1) = true := decide_eq_true c4
     clear c4
     by_cases c5 : (rdOf ByteArray.empty l1 x5_1).toList = a0.toList
     ·rw [if_pos c5] at H
      have c5b0 : ((rdOf ByteArray.empty l1 x5_1).toList == a0.toList) = true := beq_iff_eq.mpr c5
      have c5b1 : ((rdOf ByteArray.empty l1 x5_1).toList != a0.toList) = false := bne_eq_false_iff_eq.mpr c5
      clear c5
      obtain rfl := Option.some.inj H
      have p209 : 0 ≤ (x5_1 : Int) := of_decide_eq_true (by first | (with_reducible assumption) | assumption)
      have q209 : x5_1 < (l1.length : Int) := of_decide_eq_true (by first | (with_reducible assumption) | assumption)
      obtain ⟨ad209, e209, hx209_0⟩ := Kd.at_string HR1.out x5_1 p209 q209
      cases e209
      replace p209 := eq_true p209
      replace q209 := eq_true q209
      go_wp2
      go_ret
      exact ⟨by first | rfl | (simp; done) | (simp [*]; done), by repeat (first | exact Drawn0.refl _ | apply Drawn0.step)⟩
     ·rw [if_neg c5] at H
      have c5b0 : ((rdOf ByteArray.empty l1 x5_1).toList == a0.toList) = false := beq_eq_false_iff_ne.mpr c5
      have c5b1 : ((rdOf ByteArray.empty l1 x5_1).toList != a0.toList) = true := bne_iff_ne.mpr c5
      have H' := aM H
      clear H
      have p209 : 0 ≤ (x5_1 : Int) := of_decide_eq_true (by first | (with_reducible assumption) | assumption)
      have q209 : x5_1 < (l1.length : Int) := of_decide_eq_true (by first | (with_reducible assumption) | assumption)
      obtain ⟨ad209, e209, hx209_0⟩ := Kd.at_string HR1.out x5_1 p209 q209
      cases e209
      replace p209 := eq_true p209
      replace q209 := eq_true q209
      go_wp2
      go_roundg k1
      case measure => have := HK1.out; omega
      case rel => exact ⟨(wrap64 (x5_1 + 1)), (by first | rfl | (simp; done) | (simp [*]; done)), H', ⟨by have := HK1.out; omega⟩, by repeat (first | exact Drawn0.refl _ | apply Drawn0.step)⟩
    ·rw [if_neg c4] at H
     exact absurd H (by simp)
   ·rw [if_neg c3] at H
    have c3b0 : decide (x5_1 < (l1.length : Int)) = false := decide_eq_false c3
    clear c3
    obtain rfl := Option.some.inj H
    go_wp2
    go_ret
    exact ⟨by first | rfl | (simp; done) | (simp [*]; done), by repeat (first | exact Drawn0.refl _ | apply Drawn0.step)⟩
end Go.Proofs.YtaembebbaejfiaaGreatDoor.PS
namespace Go.Proofs.YtaembebbaejfiaaGreatDoor.PS
open Go.RowKit Go.Proofs.YtaembebbaejfiaaGreatDoorW.PrintWords Go.Proofs.YtaembebbaejfiaaGreatDoorW.PrintLast Go.Proofs.YtaembebbaejfiaaGreatDoorW.PrintMore
attribute [local go_sem] max2_int min2_int max_two min_two max_three min_three max_four min_four 
set_option linter.unusedVariables false
set_option linter.unusedSimpArgs false
end Go.Proofs.YtaembebbaejfiaaGreatDoor.PS
namespace Go.Proofs.YtaembebbaejfiaaGreatDoor.PS
open Go.RowKit Go.Proofs.YtaembebbaejfiaaGreatDoorW.PrintWords Go.Proofs.YtaembebbaejfiaaGreatDoorW.PrintLast Go.Proofs.YtaembebbaejfiaaGreatDoorW.PrintMore
attribute [local go_sem] max2_int min2_int max_two min_two max_three min_three max_four min_four 
set_option linter.unusedVariables false
set_option linter.unusedSimpArgs false
end Go.Proofs.YtaembebbaejfiaaGreatDoor.PS
