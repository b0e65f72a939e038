/- Parts of the proof, laid together: FromMap, FromAll, Back, ToMap, ToAny, MergeNo, QSpecPlace, QSpecGet, QSpecHas, QSpecSayIn, QLawsZzFits2, QLawsZzFits1. -/
import Derived.Test.YtgdmdflbcbibjaaGreatDoorO3
import Derived.Shelf.Slices.In.SortNone2
import Derived.Laws.IdiomCopy
namespace Go.Proofs.YtgdmdflbcbibjaaGreatDoor.Tr
open Go.RowKit Go.Proofs.YtgdmdflbcbibjaaGreatDoorW.PrintWords Go.Proofs.YtgdmdflbcbibjaaGreatDoorW.PrintLast Go.Proofs.YtgdmdflbcbibjaaGreatDoor.Str Go.Proofs.YtgdmdflbcbibjaaGreatDoor.Kit Go.Proofs.YtgdmdflbcbibjaaGreatDoor.Flat Go.Proofs.YtgdmdflbcbibjaaGreatDoor.MapV Go.Proofs.YtgdmdflbcbibjaaGreatDoor.Frame Go.Proofs.YtgdmdflbcbibjaaGreatDoor.PS
set_option linter.unusedVariables false
set_option linter.unusedSimpArgs false
theorem sort_any {base : Nat} {v : Value} {ys : List BA} (w : World) (h : Kd.string.R 9 w base (fun _ => True) v ys) (hn : ys.length ≤ 1759218604400) :
  Calls Tryz.prog 75 #[v] w fun e w' => e = .returned (.tuple #[]) ∧ ∃ zs, Kd.string.R 9 w' base (fun _ => True) v zs ∧ zs.Perm ys ∧ Srt zs ∧ w.grownBy w' v.ownBlock := by
 obtain ⟨A, c, rfl⟩ := Kd.R_slice h
 rcases Kd.R_base2 h with hb | ⟨k, hk, _⟩
 ·have h0 : ys = [] := by
   obtain ⟨_, inner, ho, hr⟩ := h
   rcases ho.2 with ⟨hv, hi⟩ | ⟨g, cap, cur, hv, _⟩
   ·injection hv with _ e2 _
    exact List.length_eq_zero_iff.1 e2
   ·rw [hv] at hb
    simp [Value.ownBlock] at hb
  subst h0
  refine (Any.sort_Strings_none Tryz.lays192 A c w).mono ?_
  rintro e w' ⟨rfl, rfl⟩
  exact ⟨rfl, [], h, List.Perm.refl _, List.Pairwise.nil, ⟨rfl, rfl, rfl, Nat.le_refl _, fun _ _ _ => rfl⟩⟩
 ·obtain ⟨g, rfl⟩ : ∃ g, A = some ⟨g, 0, none⟩ := by
   obtain ⟨_, inner, ho, hr⟩ := h
   rcases ho.2 with ⟨hv, hi⟩ | ⟨g, cap, cur, hv, _⟩
   ·rw [hv] at hk
    simp [Value.ownBlock] at hk
   ·injection hv with e1 _ _
    exact ⟨g, e1⟩
  exact sort_own w h hn
theorem left_same' {w w' : World} {b r : Nat} (hb : w'.heap[b]? = w.heap[b]?) (hr : w'.heap[r]? = w.heap[r]?) : w'.rangeLeft b r = w.rangeLeft b r := by
 unfold World.rangeLeft
 rw [hb, hr]
theorem str_own {e : TypeId} {w : World} {base : Nat} {ok : Nat → Prop} {v : Value} {xs : List BA} (h : Kd.string.R e w base ok v xs) : Kd.string.R e w base (fun k => v.ownBlock = some k) v xs := by
 have h' : (flat (fun x : BA => [Value.string x]) 1 (fun _ => rfl) (fun x u hu => by rw [List.mem_singleton.1 hu]; rfl)).R e w base ok v xs := h
 exact (show (flat (fun x : BA => [Value.string x]) 1 (fun _ => rfl) (fun x u hu => by rw [List.mem_singleton.1 hu]; rfl)).R e w base (fun k => v.ownBlock = some k) v xs from R_flat.2 ⟨fun b hb => hb, (R_flat.1 h').2⟩)
def kOf (l : List (Bs × Value)) : List BA := l.map (fun p => ⟨p.1.toArray⟩)
theorem kOf_length (l : List (Bs × Value)) : (kOf l).length = l.length := List.length_map ..
theorem kOf_srt {f : List (Bs × Value)} (h : Rises f) : Srt (kOf f) := by
 unfold Srt kOf
 rw [List.pairwise_map]
 refine List.Pairwise.imp (fun {x y} hxy => ?_) h
 rw [lb_mk, lb_mk]
 exact fun h2 => Std.lt_irrefl (Std.lt_trans hxy h2)
set_option maxHeartbeats 6400000 in
set_option maxRecDepth 100000 in
theorem from_map (zs : List (Bs × En)) (b : Nat) (w : World) (hn : zs.length ≤ 1759218604400) (hm : MapA w b (zs.map (fun z => (z.1, z.2.1)))) (hz : ∀ z, z ∈ zs → ∃ F, AR w z.2.1 z.2.2.1 F) (hch : ∀ z, z ∈ zs → FromAt z.2.2.1) :
  Calls Tryz.prog 48 #[.map (some b)] w (Told w (valOf (.map (zs.map (fun z => (z.1, z.2.2.1)))))) := by
 have HK := aM (MapE.key_le akey_u hm)
 have HRS := aM (MapE.rises (Go.Maps.string_keyed akey_u) hm)
 have HFL := aM (show (zs.map (fun z => (z.1, z.2.1))).length = zs.length from List.length_map ..)
 have HM := aM hm
 have HZ := aM hz
 have HCH := aM hch
 have hbl := hm.lt
 have HF := aM (show zs.map (fun z => (z.1, z.2.1)) = zs.map (fun z => (z.1, z.2.1)) from rfl)
 generalize hf : zs.map (fun z => (z.1, z.2.1)) = f at HK HRS HFL HM HF
 clear HF
 have HF := aM hf
 clear hf hm hz hch
 have hb0 := below_alloc (Below.refl w.heap.size w) (.cells #[.int .i64 0, .int .i64 0, .string ⟨#[]⟩, .slice none 0 0, .slice none 0 0] 31)
 have hB0 := below_alloc hb0 (.cells #[.int .i64 0, .int .i64 0, .string ⟨#[]⟩, .slice none 0 0, .slice none 0 0] 31)
 have hZ0 : ((w.alloc (.cells #[.int .i64 0, .int .i64 0, .string ⟨#[]⟩, .slice none 0 0, .slice none 0 0] 31)).alloc (.cells #[.int .i64 0, .int .i64 0, .string ⟨#[]⟩, .slice none 0 0, .slice none 0 0] 31)).heap[w.heap.size]? = some (.cells zI 31 (0, 0)) := blk_alloc (cb_new _ _) _
 have h1 := cb_new (w.alloc (.cells #[.int .i64 0, .int .i64 0, .string ⟨#[]⟩, .slice none 0 0, .slice none 0 0] 31)) (.cells #[.int .i64 0, .int .i64 0, .string ⟨#[]⟩, .slice none 0 0, .slice none 0 0] 31)
 rw [World.size_alloc] at h1
 have hg := grown_setRow ((w.alloc (.cells #[.int .i64 0, .int .i64 0, .string ⟨#[]⟩, .slice none 0 0, .slice none 0 0] 31)).alloc (.cells #[.int .i64 0, .int .i64 0, .string ⟨#[]⟩, .slice none 0 0, .slice none 0 0] 31)) (w.heap.size + 1) #[.int .i64 5, .int .i64 0, .string ⟨#[]⟩, .slice none 0 0, .slice none 0 0]
 have HX1 := aM (setRow_heap _ (w.heap.size + 1) _ #[.int .i64 5, .int .i64 0, .string ⟨#[]⟩, .slice none 0 0, .slice none 0 0] _ _ h1)
 have HB1 := aM (pw_below_grown hB0 (some (w.heap.size + 1)) hB0.size hg (fun k hk => by injection hk with hk; have h2 : w.heap.size + 1 = k := hk; omega))
 have HZ1 := aM ((hg.block w.heap.size (cb_lt hZ0) (fun e => by injection e with e; omega)).trans hZ0)
 have HM1 := aM (HM.out.below HB1.out)
 have hs1 : (((w.alloc (.cells #[.int .i64 0, .int .i64 0, .string ⟨#[]⟩, .slice none 0 0, .slice none 0 0] 31)).alloc (.cells #[.int .i64 0, .int .i64 0, .string ⟨#[]⟩, .slice none 0 0, .slice none 0 0] 31)).setRow (w.heap.size + 1) #[.int .i64 5, .int .i64 0, .string ⟨#[]⟩, .slice none 0 0, .slice none 0 0]).heap.size = w.heap.size + 2 := by simp [World.setRow]
 clear hb0 hB0 hZ0 hg
 go_enter Tryz.func48, Tryz.ntmps48
 go_wp2_with (first | (refine store_ival (.tmp 4) (.tmp 10) rfl rfl rfl rfl h1 ?_; generalize ((w.alloc (.cells #[.int .i64 0, .int .i64 0, .string ⟨#[]⟩, .slice none 0 0, .slice none 0 0] 31)).alloc (.cells #[.int .i64 0, .int .i64 0, .string ⟨#[]⟩, .slice none 0 0, .slice none 0 0] 31)).setRow (w.heap.size + 1) #[.int .i64 5, .int .i64 0, .string ⟨#[]⟩, .slice none 0 0, .slice none 0 0] = W1 at HX1 HB1 HZ1 HM1 hs1 ⊢; clear h1) | (at_range; refine range_mapE akey_u amap_u rfl _ rfl rfl HM1.out ?_; intro w0 hrg0 hg0 hs0; rw [hs1] at hrg0 hs0; have HR0 := aM hrg0; have HG0 := aM hg0; have HS0 := aM hs0; clear hrg0 hg0 hs0))
 go_frame
 rw [hs1]
 have HX0 := aM ((HG0.out.block (w.heap.size + 1) (by omega) (by simp)).trans HX1.out)
 have HZ0 := aM ((HG0.out.block w.heap.size (by omega) (by simp)).trans HZ1.out)
 have HB0 := aM (pw_below_grown HB1.out none HB1.out.size HG0.out (fun k hk => by cases hk))
 have hs0 := HS0.out
 clear HG0 HX1 HZ1 HB1 HM1 HS0
 go_loopw [5] (fun v5 wr => ∃ (dn lf : List (Bs × Value)) (A0 : Option Addr) (c0 : Nat), Aside0 (Ranges Tryz.prog 9 id wr b (w.heap.size + 2) f lf) ∧ Aside0 (wr.heap[w.heap.size + 1]? = some (.cells #[.int .i64 5, .int .i64 0, .string ⟨#[]⟩, .slice A0 dn.length c0, .slice none 0 0] 31 (0, 0))) ∧ Aside0 (Kd.string.R 9 wr (w.heap.size + 3) (fun _ => True) (.slice A0 dn.length c0) (kOf dn)) ∧ Aside0 ((dn ++ lf).Perm f) ∧ Aside0 (Below w.heap.size w wr) ∧ Aside0 (wr.heap[w.heap.size]? = some (.cells zI 31 (0, 0))) ∧ w.heap.size + 3 ≤ wr.heap.size) (fun _ wr => wr.rangeLeft b (w.heap.size + 2))
 case atStart => exact ⟨[], f, none, 0, HR0, HX0, ⟨Kd.R_nil _ _ _ _ _⟩, ⟨List.Perm.refl _⟩, HB0, HZ0, by omega⟩
 case round =>
  clear HR0 HX0 HB0 HZ0 hs0
  obtain ⟨dn, lf, A0, c0, HR, HX, HV, HP, HB, HZ0, hsz⟩ := hrel
  have hcell : wr.cell? ⟨w.heap.size + 1, 3, none⟩ = some (.slice A0 dn.length c0) := cb_cell (i := 3) HX.out rfl
  have hlen : dn.length + lf.length = zs.length := by rw [← HFL.out, ← HP.out.length_eq, List.length_append]
  have HL := aM hlen
  clear hlen
  go_wp2_with (first | (at_next; refine next_mapA akey_u rfl _ rfl rfl HR.out (fun hd => ?_) (fun x c w2 hx hen => ?_); rotate_left; (have HX2 := aM (show w2.heap[w.heap.size + 1]? = some (.cells #[.int .i64 5, .int .i64 0, .string ⟨#[]⟩, .slice A0 dn.length c0, .slice none 0 0] 31 (0, 0)) from (hx.out.2.2.2.2.1.block _ (cb_lt HX.out) (by simp)).trans HX.out)); (have hc2 : w2.cell? ⟨w.heap.size + 1, 3, none⟩ = some (.slice A0 dn.length c0) := cb_cell (i := 3) HX2.out rfl); (have HV2 := aM (Kd.R_mono (ok' := fun _ => True) (Kd.R_grown (Kd.R_bound HV.out) hx.out.2.2.2.2.1 (fun k hk e => by have h2 := Option.some.inj e; have h3 := hk.2.1; omega)) (fun _ _ => trivial))); (have HB2 := aM (pw_below_grown HB.out (some (w.heap.size + 2)) HB.out.size hx.out.2.2.2.2.1 (fun k hk => by injection hk with hk; omega))); (have hsz2 : w.heap.size + 3 ≤ w2.heap.size := by have := hx.out.2.2.2.2.2; omega); (have hfit : ((kOf dn).length + 1) * 16 ≤ 140737488355328 := by rw [kOf_length]; have := HL.out; omega); rotate_right) | (at_builtin; refine Kd.R_append Kd.string (w0 := w2) (w.heap.size + 3) rfl (.tmp 18) (.tmp 20) 22 9 (.string ⟨#[]⟩) 16 rfl Tryz.underlying22 info_string rfl (show 0 < 1 by decide) (by decide) (.slice A0 dn.length c0) (kOf dn) x [.string x] (fun _ => True) (fun _ => False) rfl rfl rfl (fun _ h => h.elim) (fun _ _ => trivial) HV2.out (Below.refl _ _) hsz2 hfit ?_; intro v1 w3 ho hb3 hg3 hat; obtain ⟨A1, c1, rfl⟩ := Kd.R_slice ho; have HV3 := aM ho; have HB3 := aM hb3; have HG3 := aM hg3; clear ho hb3 hg3 hat; have HX3 := aM ((HB3.out.block (w.heap.size + 1) (by omega)).trans HX2.out); have hc3 : w3.cell? ⟨w.heap.size + 1, 3, none⟩ = some (.slice A0 dn.length c0) := cb_cell (i := 3) HX3.out rfl; have hf3 := cb_frozen (i := 3) HX3.out))
  ·-- all have come: they are sorted; then a value each
   have hpf : dn.Perm f := by have := HP.out; rw [hd.out, List.append_nil] at this; exact this
   have hdl : dn.length = zs.length := by rw [← HFL.out]; exact hpf.length_eq
   have HPK := aM (show (kOf dn).Perm (kOf f) from hpf.map _)
   rw [hdl] at HX HV ⊢
   clear hpf hd hcell HL HP HR hdl
   refine (sort_any wr HV.out (by rw [HPK.out.length_eq, kOf_length, HFL.out]; exact hn)).mono ?_
   rintro e w5 ⟨rfl, ys, hys, hpm, hsr, hg5⟩
   obtain rfl : ys = kOf f := srt_unique hsr (kOf_srt HRS.out) (hpm.trans HPK.out)
   have hown : ∀ k, (Value.slice A0 zs.length c0).ownBlock = some k → w.heap.size + 3 ≤ k ∧ k < wr.heap.size := fun k hk => ⟨((Kd.R_bound HV.out).1 k hk).2.1, ((Kd.R_bound HV.out).1 k hk).2.2.1⟩
   have hHX5 := (hg5.block (w.heap.size + 1) (by omega) (fun e => by have := hown _ e.symm; omega)).trans HX.out
   have HX5 := aM hHX5
   have HZ5 := aM ((hg5.block w.heap.size (by omega) (fun e => by have := hown _ e.symm; omega)).trans HZ0.out)
   have HB5 := aM (pw_below_grown HB.out _ HB.out.size hg5 (fun k hk => by have := hown k hk; omega))
   have HV5 := aM hys
   have hc5 : w5.cell? ⟨w.heap.size + 1, 3, none⟩ = some (.slice A0 zs.length c0) := cb_cell (i := 3) hHX5 rfl
   clear hys hpm hsr hown hHX5 HX HZ0 HB HV HPK hg5
   go_wp2
   go_loopw [29, 7, 8, 9] (fun v29 v7 v8 v9 wq => ∃ (i : Nat) (A2 : Option Addr) (c2 : Nat), v29 = .int .i64 i ∧ i ≤ zs.length ∧ Aside0 (wq.heap[w.heap.size + 1]? = some (.cells #[.int .i64 5, .int .i64 0, .string ⟨#[]⟩, .slice A0 zs.length c0, .slice A2 i c2] 31 (0, 0))) ∧ Aside0 (Kd.string.R 9 wq (w.heap.size + 3) (fun _ => True) (.slice A0 zs.length c0) (kOf f)) ∧ Aside0 (kI.R 31 wq (w.heap.size + 3) (fun k => some k ≠ (Value.slice A0 zs.length c0).ownBlock) (.slice A2 i c2) ((zs.take i).map (fun z => valOf z.2.2.1))) ∧ Aside0 (Below w.heap.size w wq) ∧ Aside0 (wq.heap[w.heap.size]? = some (.cells zI 31 (0, 0)))) (fun v29 _ _ _ _ => zs.length - (intOf v29).toNat)
   case atStart => exact ⟨0, none, 0, rfl, by omega, HX5, HV5, ⟨Kd.R_nil _ _ _ _ _⟩, HB5, HZ5⟩
   case round =>
    clear HX5 HV5 HB5 HZ5 hc5
    obtain ⟨i, A2, c2, rfl, hiv, HX, HV, HR, HB, HZ0⟩ := hrel
    have q0 : (0 : Int) ≤ (i : Int) := by omega
    have hown : ∀ k, (Value.slice A0 zs.length c0).ownBlock = some k → w.heap.size + 3 ≤ k ∧ k < wr.heap.size := fun k hk => ⟨((Kd.R_bound HV.out).1 k hk).2.1, ((Kd.R_bound HV.out).1 k hk).2.2.1⟩
    by_cases hlv : i < zs.length
    ·have q2 : (i : Int) < (zs.length : Int) := by omega
     have hkl : (kOf f).length = zs.length := by rw [kOf_length, HFL.out]
     obtain ⟨hn0, hnc, hC⟩ := Kd.R_reads' HV.out
     obtain ⟨kb, ko, rfl, hkb, hkc⟩ := strs_open hC (by omega)
     have hf1 : (zs[i]'hlv).1 = (zs[i]'hlv).1 := rfl
     have hfm : ((zs[i]'hlv).1, (zs[i]'hlv).2.1) ∈ f := by rw [← HF.out]; exact List.mem_map.2 ⟨zs[i]'hlv, List.getElem_mem hlv, rfl⟩
     have e0 : wr.cell? ⟨kb, ko + i, none⟩ = some (.string ⟨(zs[i]'hlv).1.toArray⟩) := by
      have h := hkc i (by omega)
      have h2 : (kOf f)[i]'(by omega) = ⟨(zs[i]'hlv).1.toArray⟩ := by
       have : f[i]'(by rw [HFL.out]; exact hlv) = ((zs[i]'hlv).1, (zs[i]'hlv).2.1) := by simp [← HF.out]
       unfold kOf
       rw [List.getElem_map, this]
      rw [h2] at h
      exact h
     have hks : (⟨(zs[i]'hlv).1.toArray⟩ : BA).size ≤ maxLen := by have := HK.out _ hfm; simpa [ByteArray.size] using this
     have hlk := run_look_mapE (s := ⟨(zs[i]'hlv).1.toArray⟩) akey_u amap_u (Tryz.zeroValue20 wr) (HM.out.below HB.out) hks
     rw [lb_mk, mget_of_mem HRS.out hfm] at hlk
     have CA := aM (show ∀ (W : World) (hb : Below w.heap.size w W), Calls Tryz.prog 43 #[(zs[i]'hlv).2.1] W (Told W (valOf (zs[i]'hlv).2.2.1)) from fun W hb => by obtain ⟨F, hF⟩ := HZ.out zs[i] (List.getElem_mem hlv); exact HCH.out zs[i] (List.getElem_mem hlv) zs[i].2.1 _ W (hF.keep hb))
     clear hkl hn0 hnc hC hkc hf1 hfm hks
     go_wp2_with fail
     refine (CA.out wr HB.out).mono ?_
     rintro e w3 ⟨v3, v4, rfl, hv3, hv4, hb3⟩
     have HXE := aM (show (zs.take (i + 1)).map (fun z => valOf z.2.2.1) = ((zs.take i).map (fun z => valOf z.2.2.1)) ++ [valOf (zs[i]'hlv).2.2.1] by rw [List.take_succ_eq_append_getElem hlv, List.map_append]; rfl)
     generalize valOf (zs[i]'hlv).2.2.1 = x at hv3 hv4 HXE
     obtain ⟨x0, x1, x2, x3, x4⟩ := x
     obtain ⟨A3, c3, rfl⟩ := Kd.R_slice hv3
     obtain ⟨A4, c4, rfl⟩ := Kd.R_slice hv4
     have hW := below_alloc hb3 (.cells #[.int .i64 0, .int .i64 0, .string ⟨#[]⟩, .slice none 0 0, .slice none 0 0] 31)
     have h5 := cb_new w3 (.cells #[.int .i64 0, .int .i64 0, .string ⟨#[]⟩, .slice none 0 0, .slice none 0 0] 31)
     have hg5 := grown_setRow (w3.alloc (.cells #[.int .i64 0, .int .i64 0, .string ⟨#[]⟩, .slice none 0 0, .slice none 0 0] 31)) w3.heap.size #[.int .i64 x0, .int .i64 x1, .string x2, .slice A3 x3.length c3, .slice A4 x4.length c4]
     have hb5 := pw_below_grown hW (some w3.heap.size) hW.size hg5 (fun k hk => by injection hk with hk; have := hb3.size; omega)
     have h6 := setRow_heap _ w3.heap.size _ #[.int .i64 x0, .int .i64 x1, .string x2, .slice A3 x3.length c3, .slice A4 x4.length c4] _ _ h5
     have hm5 : ∀ k, k < w3.heap.size → ((w3.alloc (.cells #[.int .i64 0, .int .i64 0, .string ⟨#[]⟩, .slice none 0 0, .slice none 0 0] 31)).setRow w3.heap.size #[.int .i64 x0, .int .i64 x1, .string x2, .slice A3 x3.length c3, .slice A4 x4.length c4]).heap[k]? = w3.heap[k]? := fun k hk => (hg5.block k (by rw [World.size_alloc]; omega) (fun e => by injection e with e; omega)).trans ((below_alloc (Below.refl w3.heap.size w3) _).block k hk)
     have hwr := (cb_lt HX.out)
     have hwr2 : w.heap.size + 3 ≤ wr.heap.size := by have := hown kb rfl; omega
     have HX5 := aM ((hb5.block _ (cb_lt HX.out)).trans HX.out)
     have x4_ := cb_cell (i := 4) HX5.out rfl
     have HZ5 := aM ((hb5.block _ (cb_lt HZ0.out)).trans HZ0.out)
     have HV5 := aM (Kd.R_below HV.out hb5)
     have HR5 := aM (Kd.R_below HR.out hb5)
     have HB5 := aM (hb_then HB.out hb5)
     have HM5 := aM (k31_mkM ((w3.alloc (.cells #[.int .i64 0, .int .i64 0, .string ⟨#[]⟩, .slice none 0 0, .slice none 0 0] 31)).setRow w3.heap.size #[.int .i64 x0, .int .i64 x1, .string x2, .slice A3 x3.length c3, .slice A4 x4.length c4]) (w.heap.size + 3) (fun k => wr.heap.size ≤ k ∧ k < w3.heap.size) ⟨x0, x1, x2, x3, x4⟩
      (Kd.R_lower (Kd.R_move (Kd.R_mono (ok' := (fun k => wr.heap.size ≤ k ∧ k < w3.heap.size)) (Kd.R_bound hv3) (fun k hk => ⟨hk.2.1, hk.2.2.1⟩)) (fun k hk => hm5 k hk.2)) hwr2)
      (Kd.R_lower (Kd.R_move (Kd.R_mono (ok' := (fun k => wr.heap.size ≤ k ∧ k < w3.heap.size)) (Kd.R_bound hv4) (fun k hk => ⟨hk.2.1, hk.2.2.1⟩)) (fun k hk => hm5 k hk.2)) hwr2))
     have HOK := aM (show ∀ k, wr.heap.size ≤ k ∧ k < w3.heap.size → (some k ≠ (Value.slice (some ⟨kb, ko, none⟩) zs.length c0).ownBlock) ∧ some k ≠ (Value.slice A2 i c2).ownBlock from fun k hk => ⟨fun e => by have := hown k e.symm; omega, fun e => by have := ((Kd.R_bound HR.out).1 k e.symm).2.2.1; omega⟩)
     have hsz : w.heap.size + 3 ≤ ((w3.alloc (.cells #[.int .i64 0, .int .i64 0, .string ⟨#[]⟩, .slice none 0 0, .slice none 0 0] 31)).setRow w3.heap.size #[.int .i64 x0, .int .i64 x1, .string x2, .slice A3 x3.length c3, .slice A4 x4.length c4]).heap.size := Nat.le_trans hwr2 hb5.size
     have hfr : ∀ k, ((w3.alloc (.cells #[.int .i64 0, .int .i64 0, .string ⟨#[]⟩, .slice none 0 0, .slice none 0 0] 31)).setRow w3.heap.size #[.int .i64 x0, .int .i64 x1, .string x2, .slice A3 x3.length c3, .slice A4 x4.length c4]).heap.size ≤ k → some k ≠ (Value.slice (some ⟨kb, ko, none⟩) zs.length c0).ownBlock := fun k hk e => by have h1 := hown k e.symm; have h2 := hb5.size; omega
     have HFR := aM hfr
     have hlow : ∀ k, (Value.slice (some ⟨kb, ko, none⟩) zs.length c0).ownBlock = some k → w.heap.size + 3 ≤ k := fun k hk => (hown k hk).1
     clear hv3 hv4 hW hg5 hb5 hm5 HX HV HR HB HZ0 hwr hwr2 hown hfr
     go_wp2_with (first | (refine store_ival (.tmp 8) (.tmp 38) rfl rfl rfl rfl h5 ?_; generalize (w3.alloc (.cells #[.int .i64 0, .int .i64 0, .string ⟨#[]⟩, .slice none 0 0, .slice none 0 0] 31)).setRow w3.heap.size #[.int .i64 x0, .int .i64 x1, .string x2, .slice A3 x3.length c3, .slice A4 x4.length c4] = W5 at h6 x4_ HX5 HZ5 HV5 HR5 HB5 HM5 HFR hsz ⊢; clear h5) | refine load_ival (.tmp 8) rfl rfl rfl h6 ?_ | refine Kd.R_append kI (w0 := W5) (w.heap.size + 3) rfl (.tmp 44) (.tmp 46) 29 31 (.agg #[.int .i64 0, .int .i64 0, .string ⟨#[]⟩, .slice none 0 0, .slice none 0 0]) 80 rfl Tryz.underlying29 info_iv rfl (show 0 < 5 by decide) (by decide) (.slice A2 i c2) ((zs.take i).map (fun z => valOf z.2.2.1)) ⟨x0, x1, x2, x3, x4⟩ _ (fun k => some k ≠ (Value.slice (some ⟨kb, ko, none⟩) zs.length c0).ownBlock) _ rfl rfl HM5.out HOK.out HFR.out HR5.out (Below.refl _ _) hsz (by rw [List.length_map, List.length_take]; omega) ?_)
     intro v1 w6 ho hb6 hg6 hat
     rw [← List.map_take, ← HXE.out] at ho
     have hlen : ((zs.take (i + 1)).map (fun z => valOf z.2.2.1)).length = i + 1 := by rw [List.length_map, List.length_take]; omega
     obtain ⟨A5, c5, rfl⟩ := Kd.R_slice ho
     rw [hlen] at ho hat ⊢
     have hB6 := pw_below_grown HB5.out (Value.slice A2 i c2).ownBlock HB5.out.size hg6 (fun k hk => by have := Kd.R_base HR5.out k hk; omega)
     have hX6 := (hb6.block (w.heap.size + 1) (by omega)).trans HX5.out
     have hZ6 := (hb6.block w.heap.size (by omega)).trans HZ5.out
     have hV6 := Kd.R_mono (ok' := fun _ => True) (Kd.R_grown (str_own HV5.out) hg6 (fun k hk e => HR5.out.1 k e.symm hk.symm)) (fun _ _ => trivial)
     have HX7 := aM (cb_set hX6 (i := 4) (.slice A5 (i + 1) c5))
     have hg7 := grown_setCell w6 (w.heap.size + 1) 4 (.slice A5 (i + 1) c5)
     have HB7 := aM (pw_below_grown hB6 (some (w.heap.size + 1)) hB6.size hg7 (fun k hk => by injection hk with hk; omega))
     have HZ7 := aM ((hg7.block w.heap.size (cb_lt hZ6) (fun e => by injection e with e; omega)).trans hZ6)
     have HV7 := aM (Kd.R_mono (ok' := fun _ => True) (Kd.R_grown (Kd.R_bound hV6) hg7 (fun k hk e => by have h2 := Option.some.inj e; have h3 := hk.2.1; omega)) (fun _ _ => trivial))
     have HR7 := aM (Kd.R_mono (ok' := fun k => some k ≠ (Value.slice (some ⟨kb, ko, none⟩) zs.length c0).ownBlock) (Kd.R_move (Kd.R_bound ho) (fun k hk => hg7.block k hk.2.2.1 (fun e => by have h2 := Option.some.inj e; have h3 := hk.2.1; omega))) (fun _ hk => hk.1))
     have y4 := cb_cell (i := 4) hX6 rfl
     have y5 := cb_frozen (i := 4) hX6
     clear ho hat hlen hB6 hX6 hZ6 hV6 hb6 hg6 hg7 HX5 HZ5 HV5 HR5 HB5 HM5 HOK HXE CA x4_ h6 hsz HFR
     go_wp2
     go_roundw
     case rel => exact ⟨i + 1, A5, c5, by go_num, by omega, HX7, HV7, HR7, HB7, HZ7⟩
     case measure => simp [intOf]; omega
    ·have hin : i = zs.length := by omega
     subst hin
     have hg8 := grown_setRow wr w.heap.size #[.int .i64 5, .int .i64 0, .string ⟨#[]⟩, .slice A0 zs.length c0, .slice A2 zs.length c2]
     have HX8 := aM (setRow_heap _ w.heap.size _ #[.int .i64 5, .int .i64 0, .string ⟨#[]⟩, .slice A0 zs.length c0, .slice A2 zs.length c2] _ _ HZ0.out)
     have HB8 := aM (pw_below_grown HB.out (some w.heap.size) HB.out.size hg8 (fun k hk => by injection hk with hk; omega))
     have hR := HR.out
     rw [List.take_length] at hR
     have HR8 := aM (Kd.R_lower (base' := w.heap.size) (Kd.R_mono (ok' := fun _ => True) (Kd.R_move (Kd.R_bound hR) (fun k hk => hg8.block k hk.2.2.1 (fun e => by have h2 := Option.some.inj e; have h3 := hk.2.1; omega))) (fun _ _ => trivial)) (by omega))
     have hKO : kOf f = (zs.map (fun z => (z.1, z.2.2.1))).map (fun p => (⟨p.1.toArray⟩ : BA)) := by rw [← HF.out]; unfold kOf; rw [List.map_map, List.map_map]; rfl
     have HV8 := aM (Kd.R_lower (base' := w.heap.size) (Kd.R_mono (ok' := fun _ => True) (Kd.R_move (Kd.R_bound HV.out) (fun k hk => hg8.block k hk.2.2.1 (fun e => by have h2 := Option.some.inj e; have h3 := hk.2.1; omega))) (fun _ _ => trivial)) (by omega))
     rw [hKO] at HV8
     have h11 := HX.out
     have h2 := HZ0.out
     clear hR hg8 hown hKO
     go_wp2_with (first | refine load_ival (.tmp 4) rfl rfl rfl h11 ?_ | refine store_ival (.tmp 2) (.tmp 50) rfl rfl rfl rfl h2 ?_)
     exact bodyPost_ret (v := .tuple #[.agg #[.int .i64 5, .int .i64 0, .string ⟨#[]⟩, .slice A0 zs.length c0, .slice A2 zs.length c2], .bool true]) (told_row rfl rfl rfl HX8.out) rfl ⟨.slice A0 zs.length c0, .slice A2 zs.length c2, by simp [valOf], by simp only [valOf]; exact HV8.out, by simp only [valOf]; rw [valM_map, List.map_map]; exact HR8.out, HB8.out⟩
  ·-- a key more
   have hl : (kOf dn).length + 1 = (dn ++ [(lb x, c)]).length := by rw [kOf_length, List.length_append, List.length_singleton]
   have hk : kOf dn ++ [x] = kOf (dn ++ [(lb x, c)]) := by unfold kOf; rw [List.map_append]; simp
   have hown : ∀ k, (Value.slice A0 dn.length c0).ownBlock = some k → w.heap.size + 3 ≤ k := fun k hk => ((Kd.R_bound HV2.out).1 k hk).2.1
   have nb : ∀ j, j < w.heap.size + 3 → some j ≠ (Value.slice A0 dn.length c0).ownBlock := fun j hj e => by have := hown j e.symm; omega
   rw [hk] at HV3
   rw [hl]
   rw [show (kOf (dn ++ [(lb x, c)])).length = (dn ++ [(lb x, c)]).length from kOf_length _] at HV3
   have hg7 := grown_setCell w3 (w.heap.size + 1) 3 (.slice A1 (dn ++ [(lb x, c)]).length c1)
   have HG7 := aM hg7
   have hHB3 : Below w.heap.size w w3 := pw_below_grown HB2.out _ HB2.out.size HG3.out (fun k hk => by have := hown k hk; omega)
   have hpm : lf.Perm ((lb x, c) :: mdel lf (lb x)) := rises_take ((HRS.out.sublist HR.out.sub).imp (fun {p q} h => lt_ne h)) hx.out.1
   clear hl hk
   go_roundw
   case rel =>
    refine ⟨dn ++ [(lb x, c)], mdel lf (lb x), A1, c1, ⟨?_⟩, ⟨cb_set HX3.out _⟩, ⟨?_⟩, ⟨?_⟩, ⟨?_⟩, ⟨?_⟩, ?_⟩
    ·exact (hx.out.2.2.1.kept HG3.out (nb _ (by omega)) (nb _ (by omega))).kept hg7 (fun e => by have := Option.some.inj e; omega) (fun e => by have := Option.some.inj e; omega)
    ·exact Kd.R_mono (Kd.R_grown (Kd.R_bound HV3.out) hg7 (fun k hk e => by have h2 := Option.some.inj e; have h3 := hk.2.1; omega)) (fun _ _ => trivial)
    ·rw [List.append_assoc]
     exact ((hpm.symm).append_left dn).trans HP.out
    ·exact pw_below_grown hHB3 (some (w.heap.size + 1)) hHB3.size hg7 (fun k hk => by have := Option.some.inj hk; omega)
    ·exact (hg7.block w.heap.size (by have := HG3.out.size; omega) (fun e => by have := Option.some.inj e; omega)).trans ((HB3.out.block w.heap.size (by omega)).trans ((hx.out.2.2.2.2.1.block w.heap.size (by omega) (fun e => by have := Option.some.inj e; omega)).trans HZ0.out))
    ·have h1 := hg7.size; have h2 := HG3.out.size; omega
   case measure =>
    have e1 := left_same' (b := b) (r := w.heap.size + 2) (w := w2) (w' := w3.setCell ⟨w.heap.size + 1, 3, none⟩ (.slice A1 (dn ++ [(lb x, c)]).length c1)) ?_ ?_
    ·rw [e1]; exact hx.out.2.2.2.1
    ·rw [hg7.block b (by have := hHB3.size; omega) (fun e => by have := Option.some.inj e; omega), HG3.out.block b (by omega) (nb _ (by omega))]
    ·rw [hg7.block _ (by have := HG3.out.size; omega) (fun e => by have := Option.some.inj e; omega), HG3.out.block _ (by omega) (nb _ (by omega))]
end Go.Proofs.YtgdmdflbcbibjaaGreatDoor.Tr
namespace Go.Proofs.YtgdmdflbcbibjaaGreatDoor.Tr
open Go.RowKit Go.Proofs.YtgdmdflbcbibjaaGreatDoorW.PrintWords Go.Proofs.YtgdmdflbcbibjaaGreatDoorW.PrintLast Go.Proofs.YtgdmdflbcbibjaaGreatDoor.Str Go.Proofs.YtgdmdflbcbibjaaGreatDoor.Kit Go.Proofs.YtgdmdflbcbibjaaGreatDoor.MapV Go.Proofs.YtgdmdflbcbibjaaGreatDoor.Frame Go.Proofs.YtgdmdflbcbibjaaGreatDoor.PS
set_option linter.unusedVariables false
set_option linter.unusedSimpArgs false
theorem t_map_bool (v : Value) (w : World) : (Instr.typeAssert (.iface 55 v) 20 4 true).run Tryz.prog w = .ok (.tuple #[.bool false, .bool false]) w := by kernel_rfl
theorem t_map_int (v : Value) (w : World) : (Instr.typeAssert (.iface 55 v) 20 3 true).run Tryz.prog w = .ok (.tuple #[.int .i64 0, .bool false]) w := by kernel_rfl
theorem t_map_i64 (v : Value) (w : World) : (Instr.typeAssert (.iface 55 v) 20 2 true).run Tryz.prog w = .ok (.tuple #[.int .i64 0, .bool false]) w := by kernel_rfl
theorem t_map_u64 (v : Value) (w : World) : (Instr.typeAssert (.iface 55 v) 20 82 true).run Tryz.prog w = .ok (.tuple #[.int .u64 0, .bool false]) w := by kernel_rfl
theorem t_map_str (v : Value) (w : World) : (Instr.typeAssert (.iface 55 v) 20 9 true).run Tryz.prog w = .ok (.tuple #[.string ⟨#[]⟩, .bool false]) w := by kernel_rfl
theorem t_map_lst (v : Value) (w : World) : (Instr.typeAssert (.iface 55 v) 20 45 true).run Tryz.prog w = .ok (.tuple #[.slice none 0 0, .bool false]) w := by kernel_rfl
theorem t_map_map (v : Value) (w : World) : (Instr.typeAssert (.iface 55 v) 20 55 true).run Tryz.prog w = .ok (.tuple #[v, .bool true]) w := by kernel_rfl
inductive FitsY : Y → Prop
 | null : FitsY .null
 | bool (b) : FitsY (.bool b)
 | int (n) : FitsY (.int n)
 | text (s) : FitsY (.text s)
 | list (l : List Y) (hl : l.length ≤ 1759218604400) (h : ∀ y, y ∈ l → FitsY y) : FitsY (.list l)
 | map (m : List (Bs × Y)) (hl : m.length ≤ 1759218604400) (hk : ∀ p, p ∈ m → p.1.length ≤ maxLen) (h : ∀ p, p ∈ m → FitsY p.2) : FitsY (.map m)
set_option maxHeartbeats 1600000 in
theorem from_amap (b : Nat) (w : World) (y : Y) (hm : ∀ W, Below w.heap.size w W → Calls Tryz.prog 48 #[.map (some b)] W (Told W (valOf y))) :
  Calls Tryz.prog 43 #[.iface 55 (.map (some b))] w (Told w (valOf y)) := by
 have f0 := t_map_bool
 have f1 := t_map_int
 have f2 := t_map_i64
 have f3 := t_map_u64
 have f4 := t_map_str
 have f5 := t_map_lst
 have f6 := t_map_map
 have h0 := aM (cb_new w (.cells #[.int .i64 0, .int .i64 0, .string ⟨#[]⟩, .slice none 0 0, .slice none 0 0] 31))
 have HB := aM (below_alloc (Below.refl w.heap.size w) (.cells #[.int .i64 0, .int .i64 0, .string ⟨#[]⟩, .slice none 0 0, .slice none 0 0] 31))
 have CM := aM (hm _ HB.out)
 clear hm
 generalize valOf y = x at CM
 obtain ⟨x0, x1, x2, x3, x4⟩ := x
 go_enter Tryz.func43, Tryz.ntmps43
 go_wp2_with fail
 refine CM.out.mono ?_
 rintro e w3 ⟨v3, v4, rfl, hv3, hv4, hb3⟩
 obtain ⟨A3, c3, rfl⟩ := Kd.R_slice hv3
 obtain ⟨A4, c4, rfl⟩ := Kd.R_slice hv4
 have h1 := (hb3.block _ (cb_lt h0.out)).trans h0.out
 have hg := grown_setRow w3 w.heap.size #[.int .i64 x0, .int .i64 x1, .string x2, .slice A3 x3.length c3, .slice A4 x4.length c4]
 have HX := aM (setRow_heap _ w.heap.size _ #[.int .i64 x0, .int .i64 x1, .string x2, .slice A3 x3.length c3, .slice A4 x4.length c4] _ _ h1)
 have hb := hb_then HB.out hb3
 have HB8 := aM (pw_below_grown hb (some w.heap.size) hb.size hg (fun k hk => by have := Option.some.inj hk; omega))
 have hbase := HB.out.size
 have hlt := cb_lt h0.out
 have H3 := aM (Kd.R_lower (base' := w.heap.size) (Kd.R_mono (ok' := fun _ => True) (Kd.R_move (Kd.R_bound hv3) (fun k hk => hg.block k hk.2.2.1 (fun e => by have h2 := Option.some.inj e; have h3 := hk.2.1; omega))) (fun _ _ => trivial)) hbase)
 have H4 := aM (Kd.R_lower (base' := w.heap.size) (Kd.R_mono (ok' := fun _ => True) (Kd.R_move (Kd.R_bound hv4) (fun k hk => hg.block k hk.2.2.1 (fun e => by have h2 := Option.some.inj e; have h3 := hk.2.1; omega))) (fun _ _ => trivial)) hbase)
 clear hv3 hv4 hb3 hg hb hbase hlt HB h0 CM
 go_wp2_with (refine store_ival (.tmp 2) (.tmp 79) rfl rfl rfl rfl h1 ?_)
 exact bodyPost_ret (v := .tuple #[.agg #[.int .i64 x0, .int .i64 x1, .string x2, .slice A3 x3.length c3, .slice A4 x4.length c4], .bool true]) (told_row rfl rfl rfl HX.out) rfl ⟨.slice A3 x3.length c3, .slice A4 x4.length c4, rfl, H3.out, H4.out, HB8.out⟩
theorem from_any {y : Y} (h : FitsY y) : FromAt y := by
 induction h with
 | null => intro v F w ha; cases ha; exact from_null w
 | bool b =>
  intro v F w ha
  cases ha
  cases b
  ·exact from_bfalse w
  ·exact from_btrue w
 | int n => intro v F w ha; cases ha; exact from_int n w
 | text s => intro v F w ha; cases ha; exact from_text s w
 | list l hl h ih =>
  intro v F w ha
  cases ha with
  | list v zs _ _ hy hr hz hd hb hF =>
   subst hy
   obtain ⟨A, c, rfl⟩ := Kd.R_slice hr
   obtain ⟨hn, hc, hC⟩ := Kd.R_reads' hr
   rw [List.length_map] at hC hl ⊢
   exact from_list zs A c w hl hC hz (fun z hzz => ih z.2.1 (List.mem_map.2 ⟨z, hzz, rfl⟩))
 | map m hl hk h ih =>
  intro v F w ha
  cases ha with
  | map b zs _ _ hy hm hz hd hb hF =>
   subst hy
   rw [List.length_map] at hl
   exact from_amap b w _ (fun W hb => from_map zs b W hl (hm.below hb) (fun z hzz => ⟨_, (hz z hzz).keep hb⟩) (fun z hzz => ih (z.1, z.2.2.1) (List.mem_map.2 ⟨z, hzz, rfl⟩)))
end Go.Proofs.YtgdmdflbcbibjaaGreatDoor.Tr
namespace Go.Proofs.YtgdmdflbcbibjaaGreatDoor.Tr
open Go.RowKit Go.Proofs.YtgdmdflbcbibjaaGreatDoorW.PrintWords Go.Proofs.YtgdmdflbcbibjaaGreatDoor.Str Go.Proofs.YtgdmdflbcbibjaaGreatDoor.Kit Go.Proofs.YtgdmdflbcbibjaaGreatDoor.MapV Go.Proofs.YtgdmdflbcbibjaaGreatDoor.Frame Go.Proofs.YtgdmdflbcbibjaaGreatDoor.PS
set_option linter.unusedVariables false
set_option linter.unusedSimpArgs false
theorem fold_mem {α : Type} : ∀ (l f : List (Bs × α)) (p : Bs × α), p ∈ l.foldl (fun f p => mput f p.1 p.2) f → p ∈ f ∨ p ∈ l
 | [], f, p, h => .inl h
 | q :: r, f, p, h => by
  rcases fold_mem r (mput f q.1 q.2) p h with h | h
  ·rcases mput_mem h with rfl | h
   ·exact .inr (by simp)
   ·exact .inl h
  ·exact .inr (by simp [h])
theorem fitM_mem {α : Type} {l : List (Bs × α)} {p : Bs × α} (h : p ∈ fitM l) : p ∈ l := by
 rcases fold_mem l [] p h with h | h
 ·simp at h
 ·exact h
inductive Norm : Y → Prop
 | null : Norm .null
 | bool (b) : Norm (.bool b)
 | int (n) : Norm (.int n)
 | text (s) : Norm (.text s)
 | list (l : List Y) (h : ∀ y, y ∈ l → Norm y) : Norm (.list l)
 | map (m : List (Bs × Y)) (hr : Rises m) (h : ∀ p, p ∈ m → Norm p.2) : Norm (.map m)
theorem mput_last {α : Type} {f : List (Bs × α)} {k : Bs} {v : α} (h : Rises (f ++ [(k, v)])) : mput f k v = f ++ [(k, v)] := by
 have hr : Rises f := h.sublist (List.sublist_append_left _ _)
 have hl : ∀ p ∈ f, p.1 < k := fun p hp => (List.pairwise_append.1 h).2.2 p hp (k, v) (by simp)
 refine rises_ext (mput_rises hr _ _) h (fun q => ?_)
 rw [mget_mput]
 by_cases hq : k = q
 ·subst hq
  rw [if_pos rfl]
  exact (mget_of_mem h (by simp)).symm
 ·rw [if_neg hq]
  cases hg : mget f q with
  | none =>
   cases hg2 : mget (f ++ [(k, v)]) q with
   | none => rfl
   | some u =>
    have := mget_some hg2
    rcases List.mem_append.1 this with h1 | h1
    ·exact absurd rfl (mget_none hg _ h1)
    ·simp at h1
     exact absurd h1.1.symm hq
  | some u => exact (mget_of_mem h (by simp [mget_some hg])).symm
theorem fitM_rises_aux {α : Type} : ∀ (l f : List (Bs × α)), Rises (f ++ l) → l.foldl (fun f p => mput f p.1 p.2) f = f ++ l
 | [], f, _ => by simp
 | (k, v) :: r, f, h => by
  have e : f ++ (k, v) :: r = (f ++ [(k, v)]) ++ r := by simp
  have h2 : mput f k v = f ++ [(k, v)] := mput_last (h.sublist (by rw [e]; exact List.sublist_append_left _ _))
  rw [List.foldl_cons]
  show List.foldl _ (mput f k v) r = _
  rw [h2, fitM_rises_aux r _ (by rw [← e]; exact h), e]
theorem fitM_of_rises {α : Type} {m : List (Bs × α)} (h : Rises m) : fitM m = m := fitM_rises_aux m [] (by simpa using h)
theorem back {y : Y} (h : Norm y) : anyOf (valOf y) = y := by
 induction h with
 | null => simp [valOf, anyOf]
 | bool b => cases b <;> simp [valOf, anyOf]
 | int n => simp [valOf, anyOf]
 | text s => simp [valOf, anyOf]
 | list l h ih =>
  simp only [valOf, anyOf]
  rw [if_neg (by decide), if_neg (by decide), if_neg (by decide), if_pos trivial, anyL_map, valL_map, List.map_map]
  exact congrArg Y.list ((List.map_congr_left (fun y hy => ih y hy)).trans (List.map_id l))
 | map m hr h ih =>
  simp only [valOf, anyOf]
  rw [if_neg (by decide), if_neg (by decide), if_neg (by decide), if_neg (by decide), if_pos trivial, anyL_map, valM_map, List.map_map, List.map_map]
  have e1 : m.map (lb ∘ fun p => (⟨p.1.toArray⟩ : BA)) = m.map (fun p => p.1) := List.map_congr_left (fun p _ => lb_mk p.1)
  have e2 : m.map (anyOf ∘ fun p => valOf p.2) = m.map (fun p => p.2) := List.map_congr_left (fun p hp => ih p hp)
  rw [e1, e2, List.zip_map']
  have e3 : m.map (fun p => (p.1, p.2)) = m := (List.map_congr_left (fun p _ => rfl)).trans (List.map_id m)
  rw [e3, fitM_of_rises hr]
theorem pairs_mem {ks : List BA} {vs : List VI} {p : Bs × Y} (h : p ∈ pairsOf ks vs) : ∃ v, v ∈ vs ∧ p.2 = anyOf v := by
 have h2 : p.2 ∈ anyL vs := (List.of_mem_zip (show (p.1, p.2) ∈ (ks.map lb).zip (anyL vs) from h)).2
 rw [anyL_map] at h2
 obtain ⟨v, hv, he⟩ := List.mem_map.1 h2
 exact ⟨v, hv, he.symm⟩
theorem small_fits {x : VI} (h : Small x) : FitsY (anyOf x) ∧ Norm (anyOf x) := by
 induction h with
 | mk x hk hkl hvl hv ih =>
  obtain ⟨k, n, t, ks, vs⟩ := x
  by_cases h1 : k = 1
  ·subst h1; simp only [anyOf]; exact ⟨.bool _, .bool _⟩
  by_cases h2 : k = 2
  ·subst h2; simp only [anyOf]; exact ⟨.int _, .int _⟩
  by_cases h3 : k = 3
  ·subst h3; simp only [anyOf]; exact ⟨.text _, .text _⟩
  by_cases h4 : k = 4
  ·subst h4
   have e : anyOf ⟨4, n, t, ks, vs⟩ = .list (anyL vs) := by simp [anyOf]
   rw [e, anyL_map]
   exact ⟨.list _ (by rw [List.length_map]; exact hvl) (fun y hy => by obtain ⟨v, hvv, rfl⟩ := List.mem_map.1 hy; exact (ih v hvv).1), .list _ (fun y hy => by obtain ⟨v, hvv, rfl⟩ := List.mem_map.1 hy; exact (ih v hvv).2)⟩
  by_cases h5 : k = 5
  ·subst h5
   have e : anyOf ⟨5, n, t, ks, vs⟩ = .map (fitM (pairsOf ks vs)) := by simp [anyOf, pairsOf]
   rw [e]
   refine ⟨.map _ ?_ (fun p hp => ?_) (fun p hp => ?_), .map _ (fitM_rises _) (fun p hp => ?_)⟩
   ·have := fitM_length (pairsOf ks vs)
    rw [pairsOf_length] at this
    have h6 : vs.length ≤ 1759218604400 := hvl
    omega
   ·have hz : p.1 ∈ ks.map lb := (List.of_mem_zip (show (p.1, p.2) ∈ (ks.map lb).zip (anyL vs) from fitM_mem hp)).1
    obtain ⟨s, hs, he⟩ := List.mem_map.1 hz
    rw [← he, lb_length]
    exact hk s hs
   ·obtain ⟨v, hvv, he⟩ := pairs_mem (fitM_mem hp)
    rw [he]; exact (ih v hvv).1
   ·obtain ⟨v, hvv, he⟩ := pairs_mem (fitM_mem hp)
    rw [he]; exact (ih v hvv).2
  ·have e : anyOf ⟨k, n, t, ks, vs⟩ = .null := by simp [anyOf, h1, h2, h3, h4, h5]
   rw [e]
   exact ⟨.null, .null⟩
end Go.Proofs.YtgdmdflbcbibjaaGreatDoor.Tr
namespace Go.Proofs.YtgdmdflbcbibjaaGreatDoor.Tr
open Go.RowKit Go.Proofs.YtgdmdflbcbibjaaGreatDoorW.PrintWords Go.Proofs.YtgdmdflbcbibjaaGreatDoorW.PrintLast Go.Proofs.YtgdmdflbcbibjaaGreatDoor.Str Go.Proofs.YtgdmdflbcbibjaaGreatDoor.Kit Go.Proofs.YtgdmdflbcbibjaaGreatDoor.MapV Go.Proofs.YtgdmdflbcbibjaaGreatDoor.Frame Go.Proofs.YtgdmdflbcbibjaaGreatDoor.PS
set_option linter.unusedVariables false
set_option linter.unusedSimpArgs false
def ToAnyAt (x : VI) : Prop := ∀ (A3 A4 : Option Addr) (c3 c4 : Nat) (w : World), x.f3.length ≤ c3 → Kd.string.C w A3 x.f3.length x.f3 → x.f4.length ≤ c4 → kI.C w A4 x.f4.length x.f4 →
  Calls Tryz.prog 23 #[.agg #[.int .i64 x.f0, .int .i64 x.f1, .string x.f2, .slice A3 x.f3.length c3, .slice A4 x.f4.length c4]] w (Made w (anyOf x))
set_option maxHeartbeats 6400000 in
set_option maxRecDepth 100000 in
theorem toMap_of (kd nm : Int) (t : BA) (ks : List BA) (vs : List VI) (hks : ∀ s, s ∈ ks → s.size ≤ maxLen) (hkl : ks.length ≤ 8796093022000) (hvl : vs.length ≤ 1759218604400) (hch : ∀ v, v ∈ vs → ToAnyAt v) (A3 A4 : Option Addr) (c3 c4 : Nat) (w : World) (hk : Kd.string.C w A3 ks.length ks) (hv : kI.C w A4 vs.length vs) :
  Calls Tryz.prog 26 #[.agg #[.int .i64 kd, .int .i64 nm, .string t, .slice A3 ks.length c3, .slice A4 vs.length c4]] w fun e w' => ∃ b, e = .returned (.map (some b)) ∧ AR w' (.iface 55 (.map (some b))) (.map (fitM (pairsOf ks vs))) (fun k => w.heap.size ≤ k ∧ k < w'.heap.size) ∧ Below w.heap.size w w' := by
 have HC := aM hch
 have HK := aM hk
 have HV := aM hv
 have HKS := aM hks
 have hmm := fun (n : Int) (w : World) => run_makeHint (P := Tryz.prog) amap_u .i64 n w
 have hbx := below_alloc (Below.refl w.heap.size w) (.cells #[.int .i64 kd, .int .i64 nm, .string t, .slice A3 ks.length c3, .slice A4 vs.length c4] 31)
 have HB0 := aM (below_alloc hbx (.map #[] 0))
 have HX0 := aM (show ((w.alloc (.cells #[.int .i64 kd, .int .i64 nm, .string t, .slice A3 ks.length c3, .slice A4 vs.length c4] 31)).alloc (.map #[] 0)).heap[w.heap.size]? = some (.cells #[.int .i64 kd, .int .i64 nm, .string t, .slice A3 ks.length c3, .slice A4 vs.length c4] 31 (0, 0)) from blk_alloc (cb_new _ _) _)
 have hm0 := MapAt.made (w.alloc (.cells #[.int .i64 kd, .int .i64 nm, .string t, .slice A3 ks.length c3, .slice A4 vs.length c4] 31))
 rw [World.size_alloc] at hm0
 have HM0 := aM hm0
 have HT0 := aM (show fitM ((pairsOf ks vs).take 0) = [] from rfl)
 clear hch hk hv hks hbx hm0
 go_enter Tryz.func26, Tryz.ntmps26
 go_wp2
 go_loopw [4] (fun v4 wr => ∃ i : Nat, v4 = .int .i64 i ∧ i ≤ ks.length ∧ i ≤ vs.length ∧ Aside0 (∃ zs, MapAt wr (w.heap.size + 1) zs (fitM ((pairsOf ks vs).take i))) ∧ Aside0 (Below w.heap.size w wr) ∧ Aside0 (wr.heap[w.heap.size]? = some (.cells #[.int .i64 kd, .int .i64 nm, .string t, .slice A3 ks.length c3, .slice A4 vs.length c4] 31 (0, 0)))) (fun v4 _ => ks.length - (intOf v4).toNat)
 case atStart => exact ⟨0, rfl, by omega, by omega, ⟨[], HM0.out⟩, HB0, HX0⟩
 case round =>
  clear HM0 HB0 HX0 HT0
  obtain ⟨i, rfl, hik, hiv, HM, HB, HX⟩ := hrel
  have x3 := cb_cell (i := 3) HX.out rfl
  have x4 := cb_cell (i := 4) HX.out rfl
  have q0 : (0 : Int) ≤ (i : Int) := by omega
  by_cases hlk : i < ks.length
  ·by_cases hlv : i < vs.length
   ·have q1 : (i : Int) < (ks.length : Int) := by omega
    have q2 : (i : Int) < (vs.length : Int) := by omega
    have d1 : decide ((i : Int) < (ks.length : Int)) = true := decide_eq_true q1
    have d2 : decide ((i : Int) < (vs.length : Int)) = true := decide_eq_true q2
    obtain ⟨kb, ko, rfl, hkb, hkc⟩ := strs_open HK.out (by omega)
    obtain ⟨vb, vo, rfl, hvb, hvc⟩ := kI_at HV.out (by omega)
    have k0 := hkc i hlk
    obtain ⟨B3, d3, B4, d4, e0, e1, e2, e3, e4, l3, g3, l4, g4⟩ := hvc i hlv
    have HCH := aM (HC.out vs[i] (List.getElem_mem hlv))
    have HKZ := aM (HKS.out ks[i] (List.getElem_mem hlk))
    have HTK := aM (pairsOf_get hlk hlv)
    have HG := aM (And.intro l3 (And.intro g3 (And.intro l4 g4)))
    have n0 : wr.drew.cell? ⟨kb, ko + i, none⟩ = some (.string ks[i]) := pw_cell_below HB.out k0
    have y0 : wr.drew.cell? ⟨vb, vo + i * 5, none⟩ = some (.int .i64 vs[i].f0) := pw_cell_below HB.out e0
    have y1 : wr.drew.cell? ⟨vb, vo + i * 5 + 1, none⟩ = some (.int .i64 vs[i].f1) := pw_cell_below HB.out e1
    have y2 : wr.drew.cell? ⟨vb, vo + i * 5 + 2, none⟩ = some (.string vs[i].f2) := pw_cell_below HB.out e2
    have y3 : wr.drew.cell? ⟨vb, vo + i * 5 + 3, none⟩ = some (.slice B3 vs[i].f3.length d3) := pw_cell_below HB.out e3
    have y4 : wr.drew.cell? ⟨vb, vo + i * 5 + 4, none⟩ = some (.slice B4 vs[i].f4.length d4) := pw_cell_below HB.out e4
    have z3 : wr.drew.cell? ⟨w.heap.size, 3, none⟩ = some (.slice (some ⟨kb, ko, none⟩) ks.length c3) := x3
    have z4 : wr.drew.cell? ⟨w.heap.size, 4, none⟩ = some (.slice (some ⟨vb, vo, none⟩) vs.length c4) := x4
    have CA := aM (fun (W : World) (hb : Below w.heap.size w W) => HCH.out B3 B4 d3 d4 W HG.out.1 (Kd.C_below HG.out.2.1 hb) HG.out.2.2.1 (Kd.C_below HG.out.2.2.2 hb))
    clear hkc hvc k0 e0 e1 e2 e3 e4 l3 g3 l4 g4 HCH HG
    generalize ks[i] = key at n0 HTK HKZ
    generalize vs[i] = v at y0 y1 y2 y3 y4 HTK CA
    obtain ⟨x0, x1, x2, x3_, x4_⟩ := v
    obtain ⟨f, hf⟩ : ∃ f, fitM ((pairsOf ks vs).take i) = f := ⟨_, rfl⟩
    have HF := aM (show fitM ((pairsOf ks vs).take (i + 1)) = mput f (lb key) (anyOf ⟨x0, x1, x2, x3_, x4_⟩) by rw [HTK.out, fitM_snoc, hf])
    have hfl : f.length ≤ i := by
     rw [← hf]
     exact Nat.le_trans (fitM_length _) (List.length_take_le _ _)
    rw [hf] at HM
    clear hf HTK
    generalize anyOf ⟨x0, x1, x2, x3_, x4_⟩ = yv at CA HF
    go_wp2_with fail
    refine start_ (n := 13) (S := fun w' => w'.cell? ⟨w.heap.size, 3, none⟩ = some (.slice (some ⟨kb, ko, none⟩) ks.length c3) ∧ w'.cell? ⟨w.heap.size, 4, none⟩ = some (.slice (some ⟨vb, vo, none⟩) vs.length c4) ∧ w'.cell? ⟨kb, ko + i, none⟩ = some (.string key) ∧ w'.cell? ⟨vb, vo + i * 5, none⟩ = some (.int .i64 x0) ∧ w'.cell? ⟨vb, vo + i * 5 + 1, none⟩ = some (.int .i64 x1) ∧ w'.cell? ⟨vb, vo + i * 5 + 2, none⟩ = some (.string x2) ∧ w'.cell? ⟨vb, vo + i * 5 + 3, none⟩ = some (.slice B3 x3_.length d3) ∧ w'.cell? ⟨vb, vo + i * 5 + 4, none⟩ = some (.slice B4 x4_.length d4)) (ds := [12]) #[false, false, false, false, false, false, false, false, false, false, false, false, false] (by kernel_rfl) rfl rfl ⟨z3, z4, n0, y0, y1, y2, y3, y4⟩ (fun hHeld => ?_)
    refine pure_ (i := 0) (N := some 23) (v := ?_) (a' := ?_) #[true, false, false, false, false, false, false, false, false, false, false, false, false] rfl rfl (by kernel_rfl) (fun _ _ _ h => h) (Or.inl ⟨by rfl, ?_⟩) ?_ ?_
    rotate_left
    ·intro w'; go_simp; with_reducible rfl
    rotate_left
    ·simp only [Act.put, sA, sB, sC, i64_w, i32_w]; rfl
    refine pure_ (i := 1) (N := some 24) (v := ?_) (a' := ?_) #[true, true, false, false, false, false, false, false, false, false, false, false, false] rfl rfl (by kernel_rfl) (fun _ _ _ h => h) (Or.inl ⟨by rfl, ?_⟩) ?_ ?_
    rotate_left
    ·intro w'; go_simp; with_reducible rfl
    rotate_left
    ·simp only [Act.put, sA, sB, sC, i64_w, i32_w]; rfl
    refine pure_ (i := 3) (N := some 26) (v := ?_) (a' := ?_) #[true, true, false, true, false, false, false, false, false, false, false, false, false] rfl rfl (by kernel_rfl) (fun _ _ _ h => h) (Or.inl ⟨by rfl, ?_⟩) ?_ ?_
    rotate_left
    ·intro w'; go_simp; with_reducible rfl
    rotate_left
    ·simp only [Act.put, sA, sB, sC, i64_w, i32_w]; rfl
    refine pure_ (i := 6) (N := some 29) (v := ?_) (a' := ?_) #[true, true, false, true, false, false, true, false, false, false, false, false, false] rfl rfl (by kernel_rfl) (fun _ _ _ h => h) (Or.inl ⟨by rfl, ?_⟩) ?_ ?_
    rotate_left
    ·intro w'; go_simp; with_reducible rfl
    rotate_left
    ·simp only [Act.put, sA, sB, sC, i64_w, i32_w]; rfl
    refine pure_ (i := 8) (N := some 31) (v := ?_) (a' := ?_) #[true, true, false, true, false, false, true, false, true, false, false, false, false] rfl rfl (by kernel_rfl) (fun _ _ _ h => h) (Or.inl ⟨by rfl, ?_⟩) ?_ ?_
    rotate_left
    ·intro w'; go_simp; with_reducible rfl
    rotate_left
    ·simp only [Act.put, sA, sB, sC, i64_w, i32_w]; rfl
    refine take_ (i := 2) (N := some 25) (v := ?_) (a' := ?_) #[true, true, true, true, false, false, true, false, true, false, false, false, false] rfl rfl (by kernel_rfl) (fun _ _ _ h => h) (Or.inl ⟨by rfl, ?_⟩) hHeld ?_ ?_
    rotate_left
    ·rintro w' ⟨s0, s1, s2, s3, s4, s5, s6, s7⟩
     go_simp; with_reducible rfl
    rotate_left
    ·simp only [Act.put, sA, sB, sC, i64_w, i32_w]; rfl
    refine pure_ (i := 4) (N := some 27) (v := ?_) (a' := ?_) #[true, true, true, true, true, false, true, false, true, false, false, false, false] rfl rfl (by kernel_rfl) (fun _ _ _ h => h) (Or.inl ⟨by rfl, ?_⟩) ?_ ?_
    rotate_left
    ·intro w'; go_simp; with_reducible rfl
    rotate_left
    ·simp only [Act.put, sA, sB, sC, i64_w, i32_w]; rfl
    refine take_ (i := 5) (N := some 28) (v := ?_) (a' := ?_) #[true, true, true, true, true, true, true, false, true, false, false, false, false] rfl rfl (by kernel_rfl) (fun _ _ _ h => h) (Or.inl ⟨by rfl, ?_⟩) hHeld ?_ ?_
    rotate_left
    ·rintro w' ⟨s0, s1, s2, s3, s4, s5, s6, s7⟩
     go_simp; with_reducible rfl
    rotate_left
    ·simp only [Act.put, sA, sB, sC, i64_w, i32_w]; rfl
    refine take_ (i := 7) (N := some 30) (v := ?_) (a' := ?_) #[true, true, true, true, true, true, true, true, true, false, false, false, false] rfl rfl (by kernel_rfl) (fun _ _ _ h => h) (Or.inl ⟨by rfl, ?_⟩) hHeld ?_ ?_
    rotate_left
    ·rintro w' ⟨s0, s1, s2, s3, s4, s5, s6, s7⟩
     go_simp; with_reducible rfl
    rotate_left
    ·simp only [Act.put, sA, sB, sC, i64_w, i32_w]; rfl
    refine pure_ (i := 9) (N := some 32) (v := ?_) (a' := ?_) #[true, true, true, true, true, true, true, true, true, true, false, false, false] rfl rfl (by kernel_rfl) (fun _ _ _ h => h) (Or.inl ⟨by rfl, ?_⟩) ?_ ?_
    rotate_left
    ·intro w'; go_simp; with_reducible rfl
    rotate_left
    ·simp only [Act.put, sA, sB, sC, i64_w, i32_w]; rfl
    refine take_ (i := 10) (N := some 33) (v := ?_) (a' := ?_) #[true, true, true, true, true, true, true, true, true, true, true, false, false] rfl rfl (by kernel_rfl) (fun _ _ _ h => h) (Or.inl ⟨by rfl, ?_⟩) hHeld ?_ ?_
    rotate_left
    ·rintro w' ⟨s0, s1, s2, s3, s4, s5, s6, s7⟩
     go_simp; with_reducible rfl
    rotate_left
    ·simp only [Act.put, sA, sB, sC, i64_w, i32_w]; rfl
    refine one_ (i := 11) (N := some 34) #[true, true, true, true, true, true, true, true, true, true, true, true, false] rfl rfl (by kernel_rfl) (by decide) (fun K hK => ?_)
    refine goes_ Tryz.func23 (by kernel_rfl) rfl #[.agg #[.int .i64 x0, .int .i64 x1, .string x2, .slice B3 x3_.length d3, .slice B4 x4_.length d4]] (by rfl) rfl rfl (by simp only [List.map_toArray, List.map_cons, List.map_nil]; rfl) ?_
    with_reducible refine (CA.out wr.drew (below_drew HB.out)).mono ?_
    rintro e w3 ⟨v3, rfl, ha3, hb3⟩
    refine ⟨_, rfl, ?_⟩
    have HB3 := aM hb3
    have HA3 := aM ha3
    have HX3 := aM ((hb3.block _ (cb_lt (show wr.drew.heap[w.heap.size]? = _ from HX.out))).trans (show wr.drew.heap[w.heap.size]? = _ from HX.out))
    clear ha3
    refine hK.out _ _ ⟨pw_cell_below hb3 hHeld.1, pw_cell_below hb3 hHeld.2.1, pw_cell_below hb3 hHeld.2.2.1, pw_cell_below hb3 hHeld.2.2.2.1, pw_cell_below hb3 hHeld.2.2.2.2.1, pw_cell_below hb3 hHeld.2.2.2.2.2.1, pw_cell_below hb3 hHeld.2.2.2.2.2.2.1, pw_cell_below hb3 hHeld.2.2.2.2.2.2.2⟩ (fun hHeld => ?_)
    clear hK K
    refine norm_ (a' := ?_) ?_ ?_
    rotate_left
    ·show Act.put _ (some 34) _ = _
     simp only [Act.put, sA, sB, sC, i64_w, i32_w]; rfl
    refine last_ (i := 12) (N := none) #[true, true, true, true, true, true, true, true, true, true, true, true, true] rfl rfl (by kernel_rfl) (by decide) (fun K hK => ?_)
    obtain ⟨zs, hzs⟩ := HM.out
    have hlen := hzs.length
    refine store_mapE_step (enc := (id : Value → Value)) (y := v3) akey_u amap_u rfl rfl _ _ _ rfl rfl ((hzs.drew.move HB3.out).hm) (by rw [hlen]; unfold maxLen; omega) rfl HKZ.out rfl ?_
    intro w4 hm4 hg4
    have HM4 := aM (hzs.drew.put HB3.out HA3.out (lb key) hm4 hg4)
    have HG4 := aM hg4
    clear hm4 hg4 hzs hlen
    refine hK.out _ _ ?_
    clear hK K
    refine done_ (by kernel_rfl) ?_
    go_wp2
    go_roundw
    case rel =>
     refine ⟨i + 1, by go_num, by omega, by omega, ⟨⟨_, by rw [HF.out]; exact HM4.out⟩⟩, ⟨?_⟩, ⟨?_⟩⟩
     ·exact pw_below_grown (hb_then (below_drew HB.out) HB3.out) _ (hb_then (below_drew HB.out) HB3.out).size HG4.out (fun k hk => by injection hk with hk; omega)
     ·exact (HG4.out.block _ (cb_lt HX3.out) (fun e => by injection e with e; omega)).trans HX3.out
    case measure => simp [intOf]; omega
   ·have d1 : decide ((i : Int) < (ks.length : Int)) = true := decide_eq_true (by omega)
    have d2 : decide ((i : Int) < (vs.length : Int)) = false := decide_eq_false (by omega)
    have HTK := aM (show (pairsOf ks vs).take i = pairsOf ks vs from List.take_of_length_le (by rw [pairsOf_length]; omega))
    go_wp2
    go_ret
    obtain ⟨zs, hzs⟩ := HM.out
    rw [HTK.out] at hzs
    exact ⟨_, rfl, hzs.done.mono (fun k hk => ⟨by have := hk.1; omega, hk.2⟩), HB.out⟩
  ·have d1 : decide ((i : Int) < (ks.length : Int)) = false := decide_eq_false (by omega)
   have HTK := aM (show (pairsOf ks vs).take i = pairsOf ks vs from List.take_of_length_le (by rw [pairsOf_length]; omega))
   go_wp2
   go_ret
   obtain ⟨zs, hzs⟩ := HM.out
   rw [HTK.out] at hzs
   exact ⟨_, rfl, hzs.done.mono (fun k hk => ⟨by have := hk.1; omega, hk.2⟩), HB.out⟩
end Go.Proofs.YtgdmdflbcbibjaaGreatDoor.Tr
namespace Go.Proofs.YtgdmdflbcbibjaaGreatDoor.Tr
open Go.RowKit Go.Proofs.YtgdmdflbcbibjaaGreatDoorW.PrintWords Go.Proofs.YtgdmdflbcbibjaaGreatDoorW.PrintLast Go.Proofs.YtgdmdflbcbibjaaGreatDoor.Str Go.Proofs.YtgdmdflbcbibjaaGreatDoor.Kit Go.Proofs.YtgdmdflbcbibjaaGreatDoor.MapV Go.Proofs.YtgdmdflbcbibjaaGreatDoor.Frame Go.Proofs.YtgdmdflbcbibjaaGreatDoor.PS
set_option linter.unusedVariables false
set_option linter.unusedSimpArgs false
theorem info_any : (Tryz.prog.info? 20).map (fun i => (i.zero, i.size, i.bytes)) = some (some .nilIface, 1, 16) := by kernel_rfl
def noEn : En := (.nilIface, .null, fun _ => False)
structure ListAt (wr : World) (b n : Nat) (zs : List En) : Prop where
 hr : kAny.R 20 wr 0 (fun _ => True) (.slice (some ⟨b, 0, none⟩) n n) (zs.map (fun z => z.1))
 hz : ∀ z, z ∈ zs → AR wr z.1 z.2.1 z.2.2
 hd : zs.Pairwise En.far
 hF : ∀ z, z ∈ zs → ∀ k, z.2.2 k → b < k ∧ k < wr.heap.size
theorem ListAt.length {wr : World} {b n : Nat} {zs : List En} (h : ListAt wr b n zs) : zs.length = n := by
 have := (Kd.R_reads' h.hr).1
 rw [List.length_map] at this
 exact this.symm
theorem ListAt.lt {wr : World} {b n : Nat} {zs : List En} (h : ListAt wr b n zs) : b < wr.heap.size := ((Kd.R_bound h.hr).1 b (by simp [Value.ownBlock])).2.2.1
theorem ListAt.move {wr w1 : World} {b n : Nat} {zs : List En} (h : ListAt wr b n zs) (hb : Below wr.heap.size wr w1) : ListAt w1 b n zs :=
 ⟨Kd.R_below h.hr hb, fun z hz => (h.hz z hz).move (fun k hk => hb.block k (h.hF z hz k hk).2), h.hd, fun z hz k hk => ⟨(h.hF z hz k hk).1, Nat.lt_of_lt_of_le (h.hF z hz k hk).2 hb.size⟩⟩
theorem set_pair {R : En → En → Prop} (hs : ∀ a b, R a b → R b a) {x : En} : ∀ {zs : List En} (i : Nat), zs.Pairwise R → (∀ z ∈ zs, R x z) → (zs.set i x).Pairwise R
 | [], _, h, _ => h
 | y :: r, 0, h, hx => List.pairwise_cons.2 ⟨fun z hz => hx z (by simp [hz]), (List.pairwise_cons.1 h).2⟩
 | y :: r, i + 1, h, hx => by
  obtain ⟨h1, h2⟩ := List.pairwise_cons.1 h
  rw [List.set_cons_succ]
  refine List.pairwise_cons.2 ⟨fun z hz => ?_, set_pair hs i h2 (fun z hz => hx z (by simp [hz]))⟩
  rcases List.mem_or_eq_of_mem_set hz with hz | rfl
  ·exact h1 z hz
  ·exact hs _ _ (hx y (by simp))
theorem ListAt.put {W w3 : World} {b n : Nat} {zs : List En} (h : ListAt W b n zs) (hb3 : Below W.heap.size W w3) {v : Value} {y : Y} (hA : AR w3 v y (fun k => W.heap.size ≤ k ∧ k < w3.heap.size)) (i : Nat) (hi : i < n) :
  ListAt (w3.setCell ⟨b, i, none⟩ v) b n (zs.set i (v, y, fun k => W.heap.size ≤ k ∧ k < w3.heap.size)) := by
 have hlt := h.lt
 have h3 := h.move hb3
 have hsz : (w3.setCell ⟨b, i, none⟩ v).heap.size = w3.heap.size := by simp
 have hg : w3.grownBy (w3.setCell ⟨b, i, none⟩ v) (some b) := grown_setCell w3 b i v
 have mv : ∀ {v' y F}, AR w3 v' y F → (∀ k, F k → b < k ∧ k < w3.heap.size) → AR (w3.setCell ⟨b, i, none⟩ v) v' y F := fun hA hF => hA.move (fun k hk => hg.block k (hF k hk).2 (fun e => by injection e with e; have := (hF k hk).1; omega))
 refine ⟨?_, fun z hz => ?_, ?_, fun z hz k hk => ?_⟩
 ·rw [List.map_set]
  exact (kAny_put h3.hr i hi v hA.one).2.2
 ·rcases List.mem_or_eq_of_mem_set hz with hz | rfl
  ·exact mv (h3.hz z hz) (h3.hF z hz)
  ·exact mv hA (fun k hk => ⟨by omega, hk.2⟩)
 ·refine set_pair (fun a b hab k hk hk2 => hab k hk2 hk) i h.hd (fun z hz k hk hk2 => ?_)
  have h1 := (h.hF z hz k hk2).2
  have h2 : W.heap.size ≤ k := hk.1
  omega
 ·rw [hsz]
  rcases List.mem_or_eq_of_mem_set hz with hz | rfl
  ·exact h3.hF z hz k hk
  ·have h2 : W.heap.size ≤ k := hk.1
   exact ⟨by omega, hk.2⟩
theorem ListAt.done {wr : World} {b n : Nat} {zs : List En} {l : List Y} (h : ListAt wr b n zs) (hl : zs.map (fun z => z.2.1) = l) : AR wr (.iface 45 (.slice (some ⟨b, 0, none⟩) n n)) (.list l) (fun k => b ≤ k ∧ k < wr.heap.size) :=
 .list _ zs l _ hl.symm h.hr h.hz h.hd (fun b' hb' => by
  have : b = b' := by simpa [Value.ownBlock] using hb'
  subst this
  exact ⟨⟨Nat.le_refl _, h.lt⟩, fun z hz hk => by have := (h.hF z hz b hk).1; omega⟩) (fun z hz k hk => ⟨Nat.le_of_lt (h.hF z hz k hk).1, (h.hF z hz k hk).2⟩)
theorem ListAt.made (w : World) (n : Nat) (hn : n ≤ 1759218604400) : ListAt (w.alloc (.cells (madeCells #[.nilIface] n) 20)) w.heap.size n (List.replicate n noEn) := by
 refine ⟨?_, fun z hz => ?_, ?_, fun z hz k hk => ?_⟩
 ·have e : (List.replicate n noEn).map (fun z => z.1) = List.replicate n Value.nilIface := by rw [List.map_replicate]; rfl
  rw [e]
  refine ⟨fun _ _ => trivial, List.replicate n Value.nilIface, ⟨by simp [held], .inr ⟨w.heap.size, n, madeCells #[.nilIface] n, by simp, Nat.zero_le _, cb_new _ _, by simp, by unfold maxLen; omega, by simp [held, size_madeCells], ?_⟩⟩, by simp [held], fun j p hp => ?_⟩
  ·show (madeCells #[.nilIface] n).toList.take ((List.replicate n Value.nilIface).length * 1) = List.replicate n Value.nilIface
   rw [List.length_replicate, Nat.mul_one]
   apply List.ext_getElem?
   intro j
   by_cases hj : j < n
   ·rw [List.getElem?_take_of_lt hj, Array.getElem?_toList]
    simp [madeCells, hj, Nat.mod_one]
   ·rw [List.getElem?_take_eq_none (by omega), List.getElem?_eq_none (by simp; omega)]
  ·obtain ⟨hj, rfl⟩ := List.getElem?_eq_some_iff.1 hp
   have hj' : j < n := by simpa using hj
   show ((List.replicate n Value.nilIface).drop (j * 1)).take 1 = [(List.replicate n Value.nilIface)[j]] ∧ _
   rw [List.getElem_replicate, Nat.mul_one, List.drop_replicate, List.take_replicate, show min 1 (n - j) = 1 by omega]
   exact ⟨rfl, rfl⟩
 ·rw [List.eq_of_mem_replicate hz]
  exact .null _
 ·exact List.pairwise_replicate.2 (.inr (fun k hk => hk.elim))
 ·rw [List.eq_of_mem_replicate hz] at hk
  exact hk.elim
def saidTo (l : List Y) (i n : Nat) : List Y := l.take i ++ List.replicate (n - i) .null
theorem saidTo_set (l : List Y) (i n : Nat) (hi : i < n) (hl : l.length = n) : (saidTo l i n).set i (l[i]'(by omega)) = saidTo l (i + 1) n := by
 unfold saidTo
 have h1 : (l.take i).length = i := by rw [List.length_take]; omega
 rw [List.set_append_right _ _ (by omega), h1, Nat.sub_self]
 obtain ⟨m, hm⟩ : ∃ m, n - i = m + 1 := ⟨n - i - 1, by omega⟩
 rw [hm, List.replicate_succ, List.set_cons_zero, List.take_succ_eq_append_getElem (by omega), show n - (i + 1) = m by omega, List.append_assoc]
 rfl
set_option maxHeartbeats 6400000 in
set_option maxRecDepth 100000 in
theorem toAny_list (nm : Int) (t : BA) (ks : List BA) (vs : List VI) (hvl : vs.length ≤ 1759218604400) (hch : ∀ v, v ∈ vs → ToAnyAt v) (A3 A4 : Option Addr) (c3 c4 : Nat) (w : World) (hv : kI.C w A4 vs.length vs) :
  Calls Tryz.prog 23 #[.agg #[.int .i64 4, .int .i64 nm, .string t, .slice A3 ks.length c3, .slice A4 vs.length c4]] w (Made w (.list (anyL vs))) := by
 have HC := aM hch
 have HV := aM hv
 have hmk := fun W => run_make_row' (P := Tryz.prog) 45 20 .nilIface 16 Tryz.underlying45 info_any rfl .i64 .i64 vs.length (by omega) (by omega) W
 have hbx := below_alloc (Below.refl w.heap.size w) (.cells #[.int .i64 4, .int .i64 nm, .string t, .slice A3 ks.length c3, .slice A4 vs.length c4] 31)
 have HB0 := aM (below_alloc hbx (.cells (madeCells #[.nilIface] vs.length) 20))
 have HX0 := aM (show ((w.alloc (.cells #[.int .i64 4, .int .i64 nm, .string t, .slice A3 ks.length c3, .slice A4 vs.length c4] 31)).alloc (.cells (madeCells #[.nilIface] vs.length) 20)).heap[w.heap.size]? = some (.cells #[.int .i64 4, .int .i64 nm, .string t, .slice A3 ks.length c3, .slice A4 vs.length c4] 31 (0, 0)) from blk_alloc (cb_new _ _) _)
 have hm0 := ListAt.made (w.alloc (.cells #[.int .i64 4, .int .i64 nm, .string t, .slice A3 ks.length c3, .slice A4 vs.length c4] 31)) vs.length hvl
 rw [World.size_alloc] at hm0
 have HM0 := aM hm0
 have HT0 := aM (show (List.replicate vs.length noEn).map (fun z => z.2.1) = saidTo (anyL vs) 0 vs.length from by rw [List.map_replicate]; rfl)
 have hc : ∀ W : World, W = W := fun _ => rfl
 clear hch hv hbx hm0 hc
 go_enter Tryz.func23, Tryz.ntmps23
 go_wp2
 go_loopw [32, 4] (fun v32 v4 wr => ∃ i : Nat, v32 = .int .i64 i ∧ i ≤ vs.length ∧ Aside0 (∃ zs, ListAt wr (w.heap.size + 1) vs.length zs ∧ zs.map (fun z => z.2.1) = saidTo (anyL vs) i vs.length) ∧ Aside0 (Below w.heap.size w wr) ∧ Aside0 (wr.heap[w.heap.size]? = some (.cells #[.int .i64 4, .int .i64 nm, .string t, .slice A3 ks.length c3, .slice A4 vs.length c4] 31 (0, 0)))) (fun v32 _ _ => vs.length - (intOf v32).toNat)
 case atStart => exact ⟨0, rfl, by omega, ⟨_, HM0.out, HT0.out⟩, HB0, HX0⟩
 case round =>
  clear HM0 HB0 HX0 HT0
  obtain ⟨i, rfl, hiv, HM, HB, HX⟩ := hrel
  have x4 := cb_cell (i := 4) HX.out rfl
  have q0 : (0 : Int) ≤ (i : Int) := by omega
  by_cases hlv : i < vs.length
  ·have q2 : (i : Int) < (vs.length : Int) := by omega
   obtain ⟨vb, vo, rfl, hvb, hvc⟩ := kI_at HV.out (by omega)
   obtain ⟨B3, d3, B4, d4, e0, e1, e2, e3, e4, l3, g3, l4, g4⟩ := hvc i hlv
   have HCH := aM (HC.out vs[i] (List.getElem_mem hlv))
   have HG := aM (And.intro l3 (And.intro g3 (And.intro l4 g4)))
   have y0 := pw_cell_below HB.out e0
   have y1 := pw_cell_below HB.out e1
   have y2 := pw_cell_below HB.out e2
   have y3 := pw_cell_below HB.out e3
   have y4 := pw_cell_below HB.out e4
   have CA := aM (fun (W : World) (hb : Below w.heap.size w W) => HCH.out B3 B4 d3 d4 W HG.out.1 (Kd.C_below HG.out.2.1 hb) HG.out.2.2.1 (Kd.C_below HG.out.2.2.2 hb))
   have HST := aM (saidTo_set (anyL vs) i vs.length hlv (anyL_length vs))
   have HGE := aM (show (anyL vs)[i]'(by rw [anyL_length]; exact hlv) = anyOf vs[i] by simp [anyL_map])
   clear hvc e0 e1 e2 e3 e4 l3 g3 l4 g4 HCH HG
   generalize vs[i] = v at y0 y1 y2 y3 y4 HGE CA
   obtain ⟨x0, x1, x2, x3_, x4_⟩ := v
   generalize anyOf ⟨x0, x1, x2, x3_, x4_⟩ = yv at CA HGE
   go_wp2_with fail
   refine (CA.out wr HB.out).mono ?_
   rintro e w3 ⟨v3, rfl, ha3, hb3⟩
   have HB3 := aM hb3
   have HA3 := aM ha3
   have HX3 := aM ((hb3.block _ (cb_lt HX.out)).trans HX.out)
   obtain ⟨zs, hzs, hsaid⟩ := HM.out
   have HZS := aM hzs
   have HSD := aM hsaid
   have hzt := kAny_put (hzs.move hb3).hr i hlv v3 ha3.one
   have hst : (storeCells ⟨w.heap.size + 1, i, none⟩ [v3]).run Tryz.prog w3 = .ok () (w3.setCell ⟨w.heap.size + 1, i, none⟩ v3) := by
    have := run_storeCells_cells (P := Tryz.prog) (w.heap.size + 1) i [v3] 0 w3 (fun j hj => by
     have : j = 0 := by simpa using hj
     subst this
     exact hzt.1) (fun j hj => by
     have : j = 0 := by simpa using hj
     subst this
     exact hzt.2.1) (fun u hu => by
     have : u = v3 := by simpa using hu
     rw [this]
     exact ha3.one)
    simpa [World.setCells] using this
   clear hb3 ha3 hzs hsaid hzt
   go_wp2
   rw [hst]
   go_wp2
   go_roundw
   case rel =>
    have hp := HZS.out.put HB3.out HA3.out i hlv
    refine ⟨i + 1, by go_num, by omega, ⟨⟨_, hp, ?_⟩⟩, ⟨?_⟩, ⟨?_⟩⟩
    ·rw [List.map_set, HSD.out, ← HST.out, HGE.out]
    ·exact (hb_then HB.out HB3.out).setCell (by show w.heap.size ≤ w.heap.size + 1; omega) _
    ·exact (Below.heap_setCell w3 ⟨w.heap.size + 1, i, none⟩ v3 _ (by show w.heap.size ≠ w.heap.size + 1; omega)).trans HX3.out
   case measure => simp [intOf]; omega
  ·have HTK := aM (show saidTo (anyL vs) i vs.length = anyL vs by
    unfold saidTo
    rw [List.take_of_length_le (by rw [anyL_length]; omega), show vs.length - i = 0 by omega]
    simp)
   go_wp2
   go_ret
   obtain ⟨zs, hzs, hsaid⟩ := HM.out
   rw [HTK.out] at hsaid
   exact ⟨_, rfl, (hzs.done hsaid).mono (fun k hk => ⟨by have := hk.1; omega, hk.2⟩), HB.out⟩
set_option maxHeartbeats 800000 in
theorem toAny_bool (nm : Int) (t : BA) (ks : List BA) (vs : List VI) (A3 A4 : Option Addr) (c3 c4 : Nat) (w : World) :
  Calls Tryz.prog 23 #[.agg #[.int .i64 1, .int .i64 nm, .string t, .slice A3 ks.length c3, .slice A4 vs.length c4]] w (Made w (.bool (nm != 0))) := by
 have HB := aM (below_alloc (Below.refl w.heap.size w) (.cells #[.int .i64 1, .int .i64 nm, .string t, .slice A3 ks.length c3, .slice A4 vs.length c4] 31))
 go_enter Tryz.func23, Tryz.ntmps23
 go_wp2
 go_ret
 exact ⟨_, rfl, .bool _ _, HB.out⟩
set_option maxHeartbeats 800000 in
theorem toAny_int (nm : Int) (t : BA) (ks : List BA) (vs : List VI) (A3 A4 : Option Addr) (c3 c4 : Nat) (w : World) :
  Calls Tryz.prog 23 #[.agg #[.int .i64 2, .int .i64 nm, .string t, .slice A3 ks.length c3, .slice A4 vs.length c4]] w (Made w (.int nm)) := by
 have HB := aM (below_alloc (Below.refl w.heap.size w) (.cells #[.int .i64 2, .int .i64 nm, .string t, .slice A3 ks.length c3, .slice A4 vs.length c4] 31))
 go_enter Tryz.func23, Tryz.ntmps23
 go_wp2
 go_ret
 exact ⟨_, rfl, .int _ _, HB.out⟩
set_option maxHeartbeats 800000 in
theorem toAny_text (nm : Int) (t : BA) (ks : List BA) (vs : List VI) (A3 A4 : Option Addr) (c3 c4 : Nat) (w : World) :
  Calls Tryz.prog 23 #[.agg #[.int .i64 3, .int .i64 nm, .string t, .slice A3 ks.length c3, .slice A4 vs.length c4]] w (Made w (.text t)) := by
 have HB := aM (below_alloc (Below.refl w.heap.size w) (.cells #[.int .i64 3, .int .i64 nm, .string t, .slice A3 ks.length c3, .slice A4 vs.length c4] 31))
 go_enter Tryz.func23, Tryz.ntmps23
 go_wp2
 go_ret
 exact ⟨_, rfl, .text _ _, HB.out⟩
set_option maxHeartbeats 800000 in
theorem toAny_other (kd nm : Int) (t : BA) (ks : List BA) (vs : List VI) (A3 A4 : Option Addr) (c3 c4 : Nat) (w : World) (h1 : (kd == 1) = false) (h2 : (kd == 2) = false) (h3 : (kd == 3) = false) (h4 : (kd == 4) = false) (h5 : (kd == 5) = false) :
  Calls Tryz.prog 23 #[.agg #[.int .i64 kd, .int .i64 nm, .string t, .slice A3 ks.length c3, .slice A4 vs.length c4]] w (Made w .null) := by
 have HB := aM (below_alloc (Below.refl w.heap.size w) (.cells #[.int .i64 kd, .int .i64 nm, .string t, .slice A3 ks.length c3, .slice A4 vs.length c4] 31))
 go_enter Tryz.func23, Tryz.ntmps23
 go_wp2
 go_ret
 exact ⟨_, rfl, .null _, HB.out⟩
set_option maxHeartbeats 1600000 in
theorem toAny_map (nm : Int) (t : BA) (ks : List BA) (vs : List VI) (hks : ∀ s, s ∈ ks → s.size ≤ maxLen) (hkl : ks.length ≤ 8796093022000) (hvl : vs.length ≤ 1759218604400) (hch : ∀ v, v ∈ vs → ToAnyAt v) (A3 A4 : Option Addr) (c3 c4 : Nat) (w : World) (hk : Kd.string.C w A3 ks.length ks) (hv : kI.C w A4 vs.length vs) :
  Calls Tryz.prog 23 #[.agg #[.int .i64 5, .int .i64 nm, .string t, .slice A3 ks.length c3, .slice A4 vs.length c4]] w (Made w (.map (fitM (pairsOf ks vs)))) := by
 have hb := below_alloc (Below.refl w.heap.size w) (.cells #[.int .i64 5, .int .i64 nm, .string t, .slice A3 ks.length c3, .slice A4 vs.length c4] 31)
 have HB := aM hb
 have CM := aM (toMap_of 5 nm t ks vs hks hkl hvl hch A3 A4 c3 c4 (w.alloc (.cells #[.int .i64 5, .int .i64 nm, .string t, .slice A3 ks.length c3, .slice A4 vs.length c4] 31)) (Kd.C_below hk hb) (Kd.C_below hv hb))
 clear hb hks hch hk hv
 go_enter Tryz.func23, Tryz.ntmps23
 go_wp2_with fail
 refine CM.out.mono ?_
 rintro e w1 ⟨b, rfl, ha, hb⟩
 have HA := aM ha
 have HB1 := aM (hb_then HB.out hb)
 clear ha hb CM
 go_wp2
 go_ret
 exact ⟨_, rfl, HA.out.mono (fun k hk => ⟨by have h1 := hk.1; rw [World.size_alloc] at h1; omega, hk.2⟩), HB1.out⟩
theorem anyOf_list (n : Int) (t : BA) (ks : List BA) (vs : List VI) : anyOf ⟨4, n, t, ks, vs⟩ = .list (anyL vs) := by simp [anyOf]
theorem anyOf_map (n : Int) (t : BA) (ks : List BA) (vs : List VI) : anyOf ⟨5, n, t, ks, vs⟩ = .map (fitM (pairsOf ks vs)) := by simp [anyOf, pairsOf]
theorem toAny : ∀ x : VI, Small x → ToAnyAt x := by
 intro x hx
 induction hx with
 | mk x hks hkl hvl hv ih =>
  obtain ⟨kd, nm, t, ks, vs⟩ := x
  intro A3 A4 c3 c4 w h3 hk h4 hv
  by_cases h1 : kd = 1
  ·subst h1
   have e : anyOf ⟨1, nm, t, ks, vs⟩ = .bool (nm != 0) := by simp [anyOf]
   rw [e]
   exact toAny_bool nm t ks vs A3 A4 c3 c4 w
  by_cases h2 : kd = 2
  ·subst h2
   have e : anyOf ⟨2, nm, t, ks, vs⟩ = .int nm := by simp [anyOf]
   rw [e]
   exact toAny_int nm t ks vs A3 A4 c3 c4 w
  by_cases h3 : kd = 3
  ·subst h3
   have e : anyOf ⟨3, nm, t, ks, vs⟩ = .text t := by simp [anyOf]
   rw [e]
   exact toAny_text nm t ks vs A3 A4 c3 c4 w
  by_cases h4 : kd = 4
  ·subst h4
   rw [anyOf_list]
   exact toAny_list nm t ks vs hvl ih A3 A4 c3 c4 w hv
  by_cases h5 : kd = 5
  ·subst h5
   rw [anyOf_map]
   exact toAny_map nm t ks vs hks hkl hvl ih A3 A4 c3 c4 w hk hv
  ·have e : anyOf ⟨kd, nm, t, ks, vs⟩ = .null := by simp [anyOf, h1, h2, h3, h4, h5]
   rw [e]
   exact toAny_other kd nm t ks vs A3 A4 c3 c4 w (by simpa using h1) (by simpa using h2) (by simpa using h3) (by simpa using h4) (by simpa using h5)
theorem Small.of {x v : VI} (h : Small x) (hv : v ∈ x.f4) : Small v := by
 cases h with
 | mk _ _ _ _ h => exact h v hv
end Go.Proofs.YtgdmdflbcbibjaaGreatDoor.Tr
namespace Go.Proofs.YtgdmdflbcbibjaaGreatDoor.Tr
open Go.RowKit Go.Proofs.YtgdmdflbcbibjaaGreatDoorW.PrintWords Go.Proofs.YtgdmdflbcbibjaaGreatDoorW.PrintLast Go.Proofs.YtgdmdflbcbibjaaGreatDoor.Str Go.Proofs.YtgdmdflbcbibjaaGreatDoor.Kit Go.Proofs.YtgdmdflbcbibjaaGreatDoor.MapV Go.Proofs.YtgdmdflbcbibjaaGreatDoor.Frame Go.Proofs.YtgdmdflbcbibjaaGreatDoor.PS
set_option linter.unusedVariables false
set_option linter.unusedSimpArgs false
theorem any_zero (w : World) : (zeroValue 20).run Tryz.prog w = .ok .nilIface w := by kernel_rfl
def Moved (g lf cur : List (Bs × Value)) : Prop := Rises cur ∧ cur.length + lf.length ≤ g.length ∧ ∀ k, mget cur k = if (mget lf k).isSome then none else mget g k
theorem Moved.start {g : List (Bs × Value)} : Moved g g [] := ⟨List.Pairwise.nil, by simp, fun k => by
 cases h : mget g k with
 | none => simp [mget]
 | some v => simp [mget]⟩
theorem mdel_length_in {α : Type} {f : List (Bs × α)} {k : Bs} {c : α} (h : (k, c) ∈ f) : (mdel f k).length + 1 ≤ f.length := by
 have : (mdel f k).length < f.length := by
  unfold mdel
  exact List.length_filter_lt_length_iff_exists.2 ⟨(k, c), h, by simp⟩
 omega
theorem Moved.put {g lf cur : List (Bs × Value)} (h : Moved g lf cur) (hg : Rises g) (hs : lf.Sublist g) {k : Bs} {c : Value} (hk : (k, c) ∈ lf) : Moved g (mdel lf k) (mput cur k c) := by
 obtain ⟨h1, h2, h3⟩ := h
 have hl := mdel_length_in hk
 have hp := mput_length cur k c
 refine ⟨mput_rises h1 _ _, by omega, fun q => ?_⟩
 rw [mget_mput]
 by_cases e : k = q
 ·subst e
  rw [if_pos rfl, mget_mdel_same]
  simp
  exact (mget_of_mem hg (hs.subset hk)).symm
 ·rw [if_neg e, h3, mget_mdel_other e]
theorem Moved.done {g cur : List (Bs × Value)} (h : Moved g [] cur) (hg : Rises g) : cur = g := rises_ext h.1 hg (fun k => by rw [h.2.2 k]; simp [mget])
theorem Moved.free {g lf cur : List (Bs × Value)} (h : Moved g lf cur) (hg : Rises g) (hs : lf.Sublist g) {k : Bs} {c : Value} (hk : (k, c) ∈ lf) : mget cur k = none := by
 rw [h.2.2 k, mget_of_mem (hg.sublist hs) hk]
 rfl
theorem left_same2 {w w' : World} {b r : Nat} (hb : w'.heap[b]? = w.heap[b]?) (hr : w'.heap[r]? = w.heap[r]?) : w'.rangeLeft b r = w.rangeLeft b r := by
 unfold World.rangeLeft
 rw [hb, hr]
set_option maxHeartbeats 1600000 in
theorem mm_into (b b' : Nat) (g : List (Bs × Value)) (pv : Value) (w : World) (h : MapA w b []) (h' : MapA w b' g) (hb : b ≠ b') (hn : g.length ≤ 1759218604400) :
  Calls Tryz.prog 46 #[.map (some b), .map (some b'), pv] w fun e w' => e = .returned (.tuple #[.map (some b), .nilIface]) ∧ MapA w' b g ∧ w.grownBy w' (some b) := by
 have HM := aM h
 have HM' := aM h'
 have HRG := aM (MapE.rises (Go.Maps.string_keyed akey_u) h')
 have hbl := h.lt
 have hbl' := h'.lt
 clear h h'
 go_enter Tryz.func46, Tryz.ntmps46
 go_wp2_with (at_range; refine range_mapE (enc := (id : Value → Value)) akey_u amap_u rfl _ rfl rfl HM'.out ?_; intro w0 hrg0 hg0 hs0; have HR0 := aM hrg0; have HG0 := aM hg0; have HS0 := aM hs0; clear hrg0 hg0 hs0)
 go_frame
 have HM0 := aM (HM.out.grown HG0.out (by simp))
 have HGB := aM (show w.grownBy w0 (some b) from ⟨HG0.out.os, HG0.out.tape, HG0.out.output, HG0.out.size, fun j hj _ => HG0.out.block j hj (by simp)⟩)
 clear HG0 HM HM'
 go_loopw [8, 9, 10, 11] (fun v8 v9 v10 v11 wr => ∃ (cur lf : List (Bs × Value)), Aside0 (Ranges Tryz.prog 9 (id : Value → Value) wr b' w.heap.size g lf) ∧ Aside0 (MapA wr b cur) ∧ Aside0 (Moved g lf cur) ∧ Aside0 (w.grownBy wr (some b))) (fun _ _ _ _ wr => wr.rangeLeft b' w.heap.size)
 case atStart => exact ⟨[], g, HR0, HM0, ⟨Moved.start⟩, HGB⟩
 case round =>
  clear HR0 HM0 HGB HS0
  obtain ⟨cur, lf, HR, HM, HX, HG⟩ := hrel
  have HCL := aM HX.out.2.1
  have hwl := HG.out.size
  have hrl := HR.out.lt
  have hml : cur.length < maxLen := by have := HCL.out; unfold maxLen; omega
  go_wp2_with (first | (at_next; refine next_mapA akey_u rfl _ rfl rfl HR.out (fun hd => ?_) (fun x c w2 hx hen => ?_); rotate_left; (have hks := hx.out.2.1); (have HM2 := aM (HM.out.grown hx.out.2.2.2.2.1 (fun e => by injection e with e; omega))); (have HG2 := aM (HG.out.andThen hx.out.2.2.2.2.1 (fun j e => .inl (by injection e with e; omega)))); (have hlk := run_look_ok_mapE akey_u amap_u (any_zero w2) HM2.out hks); (rw [HX.out.free HRG.out HR.out.sub hx.out.1] at hlk); (simp only [Option.map_none, Option.getD_none, Option.isSome_none] at hlk)) | (at_mapUpdate; refine store_mapE (enc := (id : Value → Value)) akey_u amap_u rfl _ _ _ rfl rfl HM2.out hml rfl hks rfl ?_; intro w3 hm3 hg3; have HM3 := aM hm3; have HG3 := aM hg3; clear hm3 hg3))
  ·have hsz2 := hx.out.2.2.2.2.2
   have NX := aM (HX.out.put HRG.out HR.out.sub hx.out.1)
   go_roundw
   case rel => exact ⟨mput cur (lb x) c, mdel lf (lb x), ⟨hx.out.2.2.1.kept HG3.out (fun e => hb (Option.some.inj e).symm) (fun e => by injection e with e; omega)⟩, HM3, NX, ⟨HG2.out.andThen HG3.out (fun j e => .inr e)⟩⟩
   case measure =>
    have e1 := left_same2 (b := b') (r := w.heap.size) (w := w2) (w' := w3) ?_ ?_
    ·rw [e1]; exact hx.out.2.2.2.1
    ·exact HG3.out.block b' (by omega) (fun e => hb (Option.some.inj e).symm)
    ·exact HG3.out.block _ (by omega) (fun e => by injection e with e; omega)
  ·have Y := aM (Moved.done (by rw [← hd.out]; exact HX.out) HRG.out)
   clear HX
   go_ret2
   exact ⟨rfl, by rw [← Y.out]; exact HM.out, HG.out⟩
set_option maxHeartbeats 1600000 in
theorem mm_none (b b' : Nat) (pv : Value) (w : World) (h' : MapA w b' []) :
  Calls Tryz.prog 46 #[.map (some b), .map (some b'), pv] w fun e w' => e = .returned (.tuple #[.map (some b), .nilIface]) ∧ Below w.heap.size w w' := by
 have HM' := aM h'
 have hbl' := h'.lt
 clear h'
 go_enter Tryz.func46, Tryz.ntmps46
 go_wp2_with (at_range; refine range_mapE (enc := (id : Value → Value)) akey_u amap_u rfl _ rfl rfl HM'.out ?_; intro w0 hrg0 hg0 hs0; have HR0 := aM hrg0; have HG0 := aM hg0; have HS0 := aM hs0; clear hrg0 hg0 hs0)
 go_frame
 go_loopw [8, 9, 10, 11] (fun v8 v9 v10 v11 wr => Aside0 (wr = w0)) (fun _ _ _ _ _ => 0)
 case atStart => exact ⟨rfl⟩
 case round =>
  obtain rfl := hrel.out
  go_wp2_with (at_next; refine next_mapA (enc := (id : Value → Value)) akey_u rfl _ rfl rfl HR0.out (fun hd => ?_) (fun x c w2 hx hen => absurd hx.out.1 (by simp)))
  go_ret2
  exact ⟨rfl, pw_below_grown (Below.refl _ _) none (Nat.le_refl _) HG0.out (fun k hk => by cases hk)⟩
theorem t_mp_mp (v : Value) (w : World) : (Instr.typeAssert (.iface 55 v) 20 55 false).run Tryz.prog w = .ok v w := by kernel_rfl
theorem newPath_none (w : World) : Calls Tryz.prog 49 #[.slice none 0 0] w fun e w' => e = .returned (.string ⟨#[]⟩) ∧ w = w' := by
 go_enter Tryz.func49, Tryz.ntmps49
 go_wp2_with fail
 refine (Tryz.strings_Join_none none 0 _ w).mono ?_
 rintro e w1 ⟨rfl, rfl⟩
 go_wp2
 go_ret
 exact ⟨rfl, rfl⟩
set_option maxHeartbeats 1600000 in
theorem yaml_maps (b b' : Nat) (w : World) (Q : World → World → Prop) (hm : ∀ W, Below w.heap.size w W → Calls Tryz.prog 46 #[.map (some b), .map (some b'), .string ⟨#[]⟩] W fun e w' => e = .returned (.tuple #[.map (some b), .nilIface]) ∧ Q W w') :
  Calls Tryz.prog 22 #[.iface 55 (.map (some b)), .iface 55 (.map (some b')), .string ⟨#[]⟩] w fun e w' => e = .returned (.tuple #[.iface 55 (.map (some b)), .nilIface]) ∧ ∃ W, Below w.heap.size w W ∧ Q W w' := by
 have f1 := t_map_map
 have HM := aM hm
 clear hm
 go_enter Tryz.func22, Tryz.ntmps22
 go_wp2_with fail
 refine (Tree.special_0 w).mono ?_
 rintro e w1 ⟨rfl, hb⟩
 have CM := aM (HM.out w1 hb)
 have HB := aM hb
 clear hb HM
 go_wp2_with fail
 refine CM.out.mono ?_
 rintro e w2 ⟨rfl, hq⟩
 have HQ := aM hq
 clear hq CM
 go_wp2
 go_ret2
 exact ⟨rfl, w1, HB.out, HQ.out⟩
set_option maxHeartbeats 1600000 in
theorem merge_maps (b b' : Nat) (w : World) (Q : World → World → Prop) (hm : ∀ W, Below w.heap.size w W → Calls Tryz.prog 46 #[.map (some b), .map (some b'), .string ⟨#[]⟩] W fun e w' => e = .returned (.tuple #[.map (some b), .nilIface]) ∧ Q W w') :
  Calls Tryz.prog 25 #[.map (some b), .map (some b')] w fun e w' => e = .returned (.tuple #[.map (some b), .nilIface]) ∧ ∃ W, Below w.heap.size w W ∧ Q W w' := by
 have f1 := t_mp_mp
 have CY := aM (yaml_maps b b' w Q hm)
 clear hm
 go_enter Tryz.func25, Tryz.ntmps25
 go_wp2_with fail
 refine (newPath_none w).mono ?_
 rintro e w1 ⟨rfl, rfl⟩
 go_wp2_with fail
 refine CY.out.mono ?_
 rintro e w2 ⟨rfl, hq⟩
 have HQ := aM hq
 clear hq CY
 go_wp2
 go_ret2
 exact ⟨rfl, HQ.out⟩
theorem map_open {w : World} {b : Nat} {m : List (Bs × Y)} {F : Nat → Prop} (h : AR w (.iface 55 (.map (some b))) (.map m) F) : ∃ zs : List (Bs × En), m = zs.map (fun z => (z.1, z.2.2.1)) ∧ MapA w b (zs.map (fun z => (z.1, z.2.1))) ∧ (∀ z, z ∈ zs → AR w z.2.1 z.2.2.1 z.2.2.2) ∧ F b ∧ (∀ z, z ∈ zs → ∀ k, z.2.2.2 k → F k) := by
 generalize hv : Value.iface 55 (.map (some b)) = v at h
 generalize hy : Y.map m = y at h
 cases h with
 | map b' zs ys _ hys hm hz hd hb hF =>
  injection hv with _ hv
  injection hv with hv
  injection hv with hv
  injection hy with hy
  subst hv
  exact ⟨zs, by rw [hy]; exact hys, hm, hz, hb.1, hF⟩
 | _ => first | cases hy | cases hv
theorem fits_open {m : List (Bs × Y)} (h : FitsY (.map m)) : m.length ≤ 1759218604400 ∧ ∀ p, p ∈ m → FitsY p.2 := by
 generalize hy : Y.map m = y at h
 cases h with
 | map m' h1 h2 h3 =>
  injection hy with hy
  subst hy
  exact ⟨h1, h3⟩
 | _ => cases hy
theorem from_open {zs : List (Bs × En)} {b : Nat} (v : World) (hf : FitsY (.map (zs.map (fun z => (z.1, z.2.2.1))))) (hm : MapA v b (zs.map (fun z => (z.1, z.2.1)))) (hz : ∀ z, z ∈ zs → ∃ F, AR v z.2.1 z.2.2.1 F) (W : World) (hb : Below v.heap.size v W) : Calls Tryz.prog 48 #[.map (some b)] W (Told W (valOf (.map (zs.map (fun z => (z.1, z.2.2.1)))))) := by
 obtain ⟨h1, h2⟩ := fits_open hf
 rw [List.length_map] at h1
 exact from_map zs b W h1 (hm.below hb) (fun z h => by obtain ⟨F, hF⟩ := hz z h; exact ⟨_, hF.keep hb⟩) (fun z h => from_any (h2 (z.1, z.2.2.1) (List.mem_map.2 ⟨z, h, rfl⟩)))
def MergedAs (B b1 : Nat) (z : List (Bs × Y)) (v : World) (e : Ending) (v3 : World) : Prop := e = .returned (.tuple #[.map (some b1), .nilIface]) ∧ Below B v v3 ∧ ∀ W, Below v3.heap.size v3 W → Calls Tryz.prog 48 #[.map (some b1)] W (Told W (valOf (.map z)))
theorem merge_one (B b1 b2 : Nat) (mx my z : List (Bs × Y)) (F1 F2 : Nat → Prop) (v : World) (h1 : AR v (.iface 55 (.map (some b1))) (.map mx) F1) (h2 : AR v (.iface 55 (.map (some b2))) (.map my) F2) (hd : ∀ k, F1 k → ¬ F2 k) (hB : ∀ k, F1 k → B ≤ k) (hBv : B ≤ v.heap.size) (hfx : FitsY (.map mx)) (hfy : FitsY (.map my)) (hz : (my = [] ∧ z = mx) ∨ (mx = [] ∧ z = my)) :
  Calls Tryz.prog 25 #[.map (some b1), .map (some b2)] v (MergedAs B b1 z v) := by
 obtain ⟨zs1, e1, m1, r1, f1, g1⟩ := map_open h1
 obtain ⟨zs2, e2, m2, r2, f2, g2⟩ := map_open h2
 rcases hz with ⟨hy, rfl⟩ | ⟨hx, rfl⟩
 ·subst hy
  have hn : zs2 = [] := by cases zs2 with | nil => rfl | cons _ _ => simp at e2
  subst hn
  refine (merge_maps b1 b2 v (fun W w' => Below W.heap.size W w') (fun W hW => mm_none b1 b2 _ W (m2.below hW))).mono ?_
  rintro e v3 ⟨rfl, W, hW, hq⟩
  have hb := hb_then hW hq
  refine ⟨rfl, hb.mono hBv, fun W' hW' => ?_⟩
  subst e1
  exact from_open v3 hfx (m1.below hb) (fun z h => ⟨_, (r1 z h).keep hb⟩) W' hW'
 ·subst hx
  have hn : zs1 = [] := by cases zs1 with | nil => rfl | cons _ _ => simp at e1
  subst hn
  have hne : b1 ≠ b2 := fun e => hd b1 f1 (e ▸ f2)
  have hlen : (zs2.map (fun z => (z.1, z.2.1))).length ≤ 1759218604400 := by
   have := (fits_open hfy).1
   rw [e2, List.length_map] at this
   rw [List.length_map]
   exact this
  refine (merge_maps b1 b2 v (fun W w' => MapA w' b1 (zs2.map (fun z => (z.1, z.2.1))) ∧ W.grownBy w' (some b1)) (fun W hW => (mm_into b1 b2 _ _ W (m1.below hW) (m2.below hW) hne hlen).mono (fun e w' h => ⟨h.1, h.2.1, h.2.2⟩))).mono ?_
  rintro e v3 ⟨rfl, W, hW, hM, hG⟩
  have hb1 := hB b1 f1
  refine ⟨rfl, pw_below_grown (hW.mono hBv) (some b1) (Nat.le_trans hBv hW.size) hG (fun k hk => by injection hk with hk; omega), fun W' hW' => ?_⟩
  subst e2
  refine from_open v3 hfy hM (fun z h => ⟨_, ((r2 z h).keep hW).move (fun k hk => hG.block k (Nat.lt_of_lt_of_le hk.2 hW.size) (fun e => ?_))⟩) W' hW'
  injection e with e
  subst e
  exact hd k f1 (g2 z h k hk.1)
theorem told_at {fn : Func} {p q : Tmp} (hr : fn.results = #[.cell p 31, .tmp q]) {tmps : Array Value} {W : World} {b n3 c3 n4 c4 : Nat} {k n : Int} {t : BA} {A3 A4 : Option Addr} (hp : tmps.getD p undef = .pointer (some ⟨b, 0, none⟩)) (h3 : tmps.getD q undef = .bool true) (hb : W.heap[b]? = some (.cells #[.int .i64 k, .int .i64 n, .string t, .slice A3 n3 c3, .slice A4 n4 c4] 31 (0, 0))) :
  (results fn tmps).run Tryz.prog W = .ok (.tuple #[.agg #[.int .i64 k, .int .i64 n, .string t, .slice A3 n3 c3, .slice A4 n4 c4], .bool true]) W := by
 have := results_ct (P := Tryz.prog) hr tmps W b 31 _ (0, 0) _ hp hb Tryz.underlying31 rfl ival_size
 rw [h3] at this
 exact this
set_option maxHeartbeats 800000 in
theorem impl_model {b : Nat} {m : List (Bs × Y)} (w : World) (hc : ∀ W, Below w.heap.size w W → Calls Tryz.prog 48 #[.map (some b)] W (Told W (valOf (.map m)))) : Calls Tryz.prog 24 #[.map (some b), .nilIface] w (Told w (valOf (.map m))) := by
 have h0 := aM (cb_new w (.cells #[.int .i64 0, .int .i64 0, .string ⟨#[]⟩, .slice none 0 0, .slice none 0 0] 31))
 have HB := aM (below_alloc (Below.refl w.heap.size w) (.cells #[.int .i64 0, .int .i64 0, .string ⟨#[]⟩, .slice none 0 0, .slice none 0 0] 31))
 have CM := aM (hc _ HB.out)
 clear hc
 generalize valOf (.map m) = x at CM
 obtain ⟨x0, x1, x2, x3, x4⟩ := x
 go_enter Tryz.func24, Tryz.ntmps24
 go_wp2_with fail
 refine CM.out.mono ?_
 rintro e w3 ⟨v3, v4, rfl, hv3, hv4, hb3⟩
 obtain ⟨A3, c3, rfl⟩ := Kd.R_slice hv3
 obtain ⟨A4, c4, rfl⟩ := Kd.R_slice hv4
 have h1 := (hb3.block _ (cb_lt h0.out)).trans h0.out
 have hg := grown_setRow w3 w.heap.size #[.int .i64 x0, .int .i64 x1, .string x2, .slice A3 x3.length c3, .slice A4 x4.length c4]
 have HX := aM (setRow_heap _ w.heap.size _ #[.int .i64 x0, .int .i64 x1, .string x2, .slice A3 x3.length c3, .slice A4 x4.length c4] _ _ h1)
 have hb := hb_then HB.out hb3
 have HB8 := aM (pw_below_grown hb (some w.heap.size) hb.size hg (fun k hk => by have := Option.some.inj hk; omega))
 have hbase := HB.out.size
 have hlt := cb_lt h0.out
 have H3 := aM (Kd.R_lower (base' := w.heap.size) (Kd.R_mono (ok' := fun _ => True) (Kd.R_move (Kd.R_bound hv3) (fun k hk => hg.block k hk.2.2.1 (fun e => by have h2 := Option.some.inj e; have h3 := hk.2.1; omega))) (fun _ _ => trivial)) hbase)
 have H4 := aM (Kd.R_lower (base' := w.heap.size) (Kd.R_mono (ok' := fun _ => True) (Kd.R_move (Kd.R_bound hv4) (fun k hk => hg.block k hk.2.2.1 (fun e => by have h2 := Option.some.inj e; have h3 := hk.2.1; omega))) (fun _ _ => trivial)) hbase)
 clear hv3 hv4 hb3 hg hb hbase hlt HB h0 CM
 go_wp2_with (refine store_ival (.tmp 4) (.tmp 11) rfl rfl rfl rfl h1 ?_)
 exact bodyPost_ret (v := .tuple #[.agg #[.int .i64 x0, .int .i64 x1, .string x2, .slice A3 x3.length c3, .slice A4 x4.length c4], .bool true]) (told_at rfl rfl rfl HX.out) rfl ⟨.slice A3 x3.length c3, .slice A4 x4.length c4, rfl, H3.out, H4.out, HB8.out⟩
theorem cell_row5' {w : World} {b : Nat} {T : TypeId} {v0 v1 v2 v3 v4 : Value} (h : w.heap[b]? = some (.cells #[v0, v1, v2, v3, v4] T (0, 0))) :
  w.cell? ⟨b, 0, none⟩ = some v0 ∧ w.cell? ⟨b, 1, none⟩ = some v1 ∧ w.cell? ⟨b, 2, none⟩ = some v2 ∧ w.cell? ⟨b, 3, none⟩ = some v3 ∧ w.cell? ⟨b, 4, none⟩ = some v4 := by
 simp [World.cell?, h]
theorem model_told {b : Nat} {m : List (Bs × Y)} {u : VI} (w : World) (hc : ∀ W, Below w.heap.size w W → Calls Tryz.prog 48 #[.map (some b)] W (Told W (valOf (.map m)))) (hu : valOf (.map m) = u) : Calls Tryz.prog 24 #[.map (some b), .nilIface] w (Told w u) := by
 subst hu
 exact impl_model w hc
structure ReadsI (w : World) (x : VI) (A3 : Option Addr) (c3 : Nat) (A4 : Option Addr) (c4 : Nat) : Prop where
 l3 : x.f3.length ≤ c3
 hk : Kd.string.C w A3 x.f3.length x.f3
 l4 : x.f4.length ≤ c4
 hv : kI.C w A4 x.f4.length x.f4
theorem ReadsI.below {w w1 : World} {x : VI} {A3 A4 : Option Addr} {c3 c4 : Nat} (h : ReadsI w x A3 c3 A4 c4) (hb : Below w.heap.size w w1) : ReadsI w1 x A3 c3 A4 c4 := ⟨h.l3, Kd.C_below h.hk hb, h.l4, Kd.C_below h.hv hb⟩
theorem toMap_small (x : VI) (hx : Small x) (A3 A4 : Option Addr) (c3 c4 : Nat) (w : World) (h : ReadsI w x A3 c3 A4 c4) :
  Calls Tryz.prog 26 #[.agg #[.int .i64 x.f0, .int .i64 x.f1, .string x.f2, .slice A3 x.f3.length c3, .slice A4 x.f4.length c4]] w fun e w' => ∃ b, e = .returned (.map (some b)) ∧ AR w' (.iface 55 (.map (some b))) (.map (mapOf x)) (fun k => w.heap.size ≤ k ∧ k < w'.heap.size) ∧ Below w.heap.size w w' := by
 cases hx with
 | mk _ hk hkl hvl hv => exact toMap_of x.f0 x.f1 x.f2 x.f3 x.f4 hk hkl hvl (fun v hm => toAny v (hv v hm)) A3 A4 c3 c4 w h.hk h.hv
set_option maxHeartbeats 3200000 in
set_option maxRecDepth 100000 in
theorem impl_merge (x y : VI) (hx : Small x) (hy : Small y) (hfx : FitsY (.map (mapOf x))) (hfy : FitsY (.map (mapOf y))) (z : List (Bs × Y)) (hz : (mapOf y = [] ∧ z = mapOf x) ∨ (mapOf x = [] ∧ z = mapOf y)) (A3 A4 : Option Addr) (c3 c4 : Nat) (B3 B4 : Option Addr) (d3 d4 : Nat) (w : World) (h1 : ReadsI w x A3 c3 A4 c4) (h2 : ReadsI w y B3 d3 B4 d4) :
  Calls Tryz.prog 13 #[.agg #[.int .i64 x.f0, .int .i64 x.f1, .string x.f2, .slice A3 x.f3.length c3, .slice A4 x.f4.length c4], .agg #[.int .i64 y.f0, .int .i64 y.f1, .string y.f2, .slice B3 y.f3.length d3, .slice B4 y.f4.length d4]] w (Told w (valOf (.map z))) := by
 have HXS := aM hx
 have HYS := aM hy
 have HFX := aM hfx
 have HFY := aM hfy
 have HZ := aM hz
 obtain ⟨x0, x1, x2, x3, x4⟩ := x
 obtain ⟨y0, y1, y2, y3, y4⟩ := y
 have hb := below_alloc (below_alloc (below_alloc (Below.refl w.heap.size w) (.cells #[.int .i64 x0, .int .i64 x1, .string x2, .slice A3 x3.length c3, .slice A4 x4.length c4] 31)) (.cells #[.int .i64 y0, .int .i64 y1, .string y2, .slice B3 y3.length d3, .slice B4 y4.length d4] 31)) (.cells #[.int .i64 0, .int .i64 0, .string ⟨#[]⟩, .slice none 0 0, .slice none 0 0] 31)
 have hbx : (((w.alloc (.cells #[.int .i64 x0, .int .i64 x1, .string x2, .slice A3 x3.length c3, .slice A4 x4.length c4] 31)).alloc (.cells #[.int .i64 y0, .int .i64 y1, .string y2, .slice B3 y3.length d3, .slice B4 y4.length d4] 31)).alloc (.cells #[.int .i64 0, .int .i64 0, .string ⟨#[]⟩, .slice none 0 0, .slice none 0 0] 31)).heap[w.heap.size]? = some (.cells #[.int .i64 x0, .int .i64 x1, .string x2, .slice A3 x3.length c3, .slice A4 x4.length c4] 31 (0, 0)) := blk_alloc (blk_alloc (cb_new _ _) _) _
 have hby : (((w.alloc (.cells #[.int .i64 x0, .int .i64 x1, .string x2, .slice A3 x3.length c3, .slice A4 x4.length c4] 31)).alloc (.cells #[.int .i64 y0, .int .i64 y1, .string y2, .slice B3 y3.length d3, .slice B4 y4.length d4] 31)).alloc (.cells #[.int .i64 0, .int .i64 0, .string ⟨#[]⟩, .slice none 0 0, .slice none 0 0] 31)).heap[w.heap.size + 1]? = some (.cells #[.int .i64 y0, .int .i64 y1, .string y2, .slice B3 y3.length d3, .slice B4 y4.length d4] 31 (0, 0)) := by
  have h := cb_new (w.alloc (.cells #[.int .i64 x0, .int .i64 x1, .string x2, .slice A3 x3.length c3, .slice A4 x4.length c4] 31)) (.cells #[.int .i64 y0, .int .i64 y1, .string y2, .slice B3 y3.length d3, .slice B4 y4.length d4] 31)
  rw [World.size_alloc] at h
  exact blk_alloc h _
 have hbr : (((w.alloc (.cells #[.int .i64 x0, .int .i64 x1, .string x2, .slice A3 x3.length c3, .slice A4 x4.length c4] 31)).alloc (.cells #[.int .i64 y0, .int .i64 y1, .string y2, .slice B3 y3.length d3, .slice B4 y4.length d4] 31)).alloc (.cells #[.int .i64 0, .int .i64 0, .string ⟨#[]⟩, .slice none 0 0, .slice none 0 0] 31)).heap[w.heap.size + 2]? = some (.cells #[.int .i64 0, .int .i64 0, .string ⟨#[]⟩, .slice none 0 0, .slice none 0 0] 31 (0, 0)) := by
  have h := cb_new ((w.alloc (.cells #[.int .i64 x0, .int .i64 x1, .string x2, .slice A3 x3.length c3, .slice A4 x4.length c4] 31)).alloc (.cells #[.int .i64 y0, .int .i64 y1, .string y2, .slice B3 y3.length d3, .slice B4 y4.length d4] 31)) (.cells #[.int .i64 0, .int .i64 0, .string ⟨#[]⟩, .slice none 0 0, .slice none 0 0] 31)
  rw [World.size_alloc, World.size_alloc] at h
  exact h
 have HB := aM hb
 have HR := aM hbr
 have HLT := aM (show w.heap.size + 2 < (((w.alloc (.cells #[.int .i64 x0, .int .i64 x1, .string x2, .slice A3 x3.length c3, .slice A4 x4.length c4] 31)).alloc (.cells #[.int .i64 y0, .int .i64 y1, .string y2, .slice B3 y3.length d3, .slice B4 y4.length d4] 31)).alloc (.cells #[.int .i64 0, .int .i64 0, .string ⟨#[]⟩, .slice none 0 0, .slice none 0 0] 31)).drew.heap.size from cb_lt hbr)
 have HR1 := aM (h1.below hb)
 have HR2 := aM (h2.below hb)
 obtain ⟨q0, q1, q2, q3, q4⟩ := cell_row5' hbx
 obtain ⟨q5, q6, q7, q8, q9⟩ := cell_row5' hby
 have CX := aM (toMap_small ⟨x0, x1, x2, x3, x4⟩ hx A3 A4 c3 c4 (((w.alloc (.cells #[.int .i64 x0, .int .i64 x1, .string x2, .slice A3 x3.length c3, .slice A4 x4.length c4] 31)).alloc (.cells #[.int .i64 y0, .int .i64 y1, .string y2, .slice B3 y3.length d3, .slice B4 y4.length d4] 31)).alloc (.cells #[.int .i64 0, .int .i64 0, .string ⟨#[]⟩, .slice none 0 0, .slice none 0 0] 31)).drew (HR1.out.below (below_drew (Below.refl _ _))))
 have CYF := aM (fun (v : World) (hv : Below (((w.alloc (.cells #[.int .i64 x0, .int .i64 x1, .string x2, .slice A3 x3.length c3, .slice A4 x4.length c4] 31)).alloc (.cells #[.int .i64 y0, .int .i64 y1, .string y2, .slice B3 y3.length d3, .slice B4 y4.length d4] 31)).alloc (.cells #[.int .i64 0, .int .i64 0, .string ⟨#[]⟩, .slice none 0 0, .slice none 0 0] 31)).drew.heap.size (((w.alloc (.cells #[.int .i64 x0, .int .i64 x1, .string x2, .slice A3 x3.length c3, .slice A4 x4.length c4] 31)).alloc (.cells #[.int .i64 y0, .int .i64 y1, .string y2, .slice B3 y3.length d3, .slice B4 y4.length d4] 31)).alloc (.cells #[.int .i64 0, .int .i64 0, .string ⟨#[]⟩, .slice none 0 0, .slice none 0 0] 31)).drew v) => toMap_small ⟨y0, y1, y2, y3, y4⟩ hy B3 B4 d3 d4 v ((HR2.out.below (below_drew (Below.refl _ _))).below hv))
 obtain ⟨u, hu⟩ : ∃ u, valOf (.map z) = u := ⟨_, rfl⟩
 rw [hu]
 have HU := aM hu
 obtain ⟨u0, u1, u2, u3, u4⟩ := u
 clear hx hy hfx hfy hz hb hbx hby hbr h1 h2 hu
 go_enter Tryz.func13, Tryz.ntmps13
 go_wp2
 generalize hW0 : (((w.alloc (.cells #[.int .i64 x0, .int .i64 x1, .string x2, .slice A3 x3.length c3, .slice A4 x4.length c4] 31)).alloc (.cells #[.int .i64 y0, .int .i64 y1, .string y2, .slice B3 y3.length d3, .slice B4 y4.length d4] 31)).alloc (.cells #[.int .i64 0, .int .i64 0, .string ⟨#[]⟩, .slice none 0 0, .slice none 0 0] 31)) = W0 at HB HR HLT q0 q1 q2 q3 q4 q5 q6 q7 q8 q9 CX CYF ⊢
 clear hW0
 refine start_ (n := 12) (S := fun w' => w'.cell? ⟨w.heap.size, 0, none⟩ = some (.int .i64 x0) ∧ w'.cell? ⟨w.heap.size, 1, none⟩ = some (.int .i64 x1) ∧ w'.cell? ⟨w.heap.size, 2, none⟩ = some (.string x2) ∧ w'.cell? ⟨w.heap.size, 3, none⟩ = some (.slice A3 x3.length c3) ∧ w'.cell? ⟨w.heap.size, 4, none⟩ = some (.slice A4 x4.length c4) ∧ w'.cell? ⟨w.heap.size + 1, 0, none⟩ = some (.int .i64 y0) ∧ w'.cell? ⟨w.heap.size + 1, 1, none⟩ = some (.int .i64 y1) ∧ w'.cell? ⟨w.heap.size + 1, 2, none⟩ = some (.string y2) ∧ w'.cell? ⟨w.heap.size + 1, 3, none⟩ = some (.slice B3 y3.length d3) ∧ w'.cell? ⟨w.heap.size + 1, 4, none⟩ = some (.slice B4 y4.length d4)) (ds := [4, 7, 10]) #[false, false, false, false, false, false, false, false, false, false, false, false] (by kernel_rfl) rfl rfl ⟨q0, q1, q2, q3, q4, q5, q6, q7, q8, q9⟩ (fun hHeld => ?_)
 refine take_ (i := 0) (N := some 6) (v := ?_) (a' := ?_) #[true, false, false, false, false, false, false, false, false, false, false, false] rfl rfl (by kernel_rfl) (fun _ _ _ h => h) (Or.inl ⟨by rfl, ?_⟩) hHeld ?_ ?_
 rotate_left
 ·rintro w' ⟨s0, s1, s2, s3, s4, s5, s6, s7, s8, s9⟩
  go_simp; with_reducible rfl
 rotate_left
 ·simp only [Act.put, sA, sB, sC, i64_w, i32_w]; rfl
 refine take_ (i := 2) (N := some 8) (v := ?_) (a' := ?_) #[true, false, true, false, false, false, false, false, false, false, false, false] rfl rfl (by kernel_rfl) (fun _ _ _ h => h) (Or.inl ⟨by rfl, ?_⟩) hHeld ?_ ?_
 rotate_left
 ·rintro w' ⟨s0, s1, s2, s3, s4, s5, s6, s7, s8, s9⟩
  go_simp; with_reducible rfl
 rotate_left
 ·simp only [Act.put, sA, sB, sC, i64_w, i32_w]; rfl
 refine one_ (i := 1) (N := some 7) #[true, true, true, false, false, false, false, false, false, false, false, false] rfl rfl (by kernel_rfl) (by decide) (fun K hK => ?_)
 refine goes_ Tryz.func26 (by kernel_rfl) rfl #[.agg #[.int .i64 x0, .int .i64 x1, .string x2, .slice A3 x3.length c3, .slice A4 x4.length c4]] (by rfl) rfl rfl (by simp only [List.map_toArray, List.map_cons, List.map_nil]; rfl) ?_
 with_reducible refine (CX.out).mono ?_
 rintro e v1 ⟨b1, rfl, ha1, hb1⟩
 refine ⟨_, rfl, ?_⟩
 have HA1 := aM ha1
 have HB1 := aM hb1
 clear ha1
 refine hK.out _ _ ⟨pw_cell_below hb1 hHeld.1, pw_cell_below hb1 hHeld.2.1, pw_cell_below hb1 hHeld.2.2.1, pw_cell_below hb1 hHeld.2.2.2.1, pw_cell_below hb1 hHeld.2.2.2.2.1, pw_cell_below hb1 hHeld.2.2.2.2.2.1, pw_cell_below hb1 hHeld.2.2.2.2.2.2.1, pw_cell_below hb1 hHeld.2.2.2.2.2.2.2.1, pw_cell_below hb1 hHeld.2.2.2.2.2.2.2.2.1, pw_cell_below hb1 hHeld.2.2.2.2.2.2.2.2.2⟩ (fun hHeld => ?_)
 clear hK K
 refine norm_ (a' := ?_) ?_ ?_
 rotate_left
 ·show Act.put _ (some 7) _ = _
  simp only [Act.put, sA, sB, sC, i64_w, i32_w]; rfl
 refine one_ (i := 3) (N := some 9) #[true, true, true, true, false, false, false, false, false, false, false, false] rfl rfl (by kernel_rfl) (by decide) (fun K hK => ?_)
 refine goes_ Tryz.func26 (by kernel_rfl) rfl #[.agg #[.int .i64 y0, .int .i64 y1, .string y2, .slice B3 y3.length d3, .slice B4 y4.length d4]] (by rfl) rfl rfl (by simp only [List.map_toArray, List.map_cons, List.map_nil]; rfl) ?_
 with_reducible refine (CYF.out v1 HB1.out).mono ?_
 rintro e v2 ⟨b2, rfl, ha2, hb2⟩
 refine ⟨_, rfl, ?_⟩
 have HA2 := aM ha2
 have HB2 := aM hb2
 clear ha2
 refine hK.out _ _ ⟨pw_cell_below hb2 hHeld.1, pw_cell_below hb2 hHeld.2.1, pw_cell_below hb2 hHeld.2.2.1, pw_cell_below hb2 hHeld.2.2.2.1, pw_cell_below hb2 hHeld.2.2.2.2.1, pw_cell_below hb2 hHeld.2.2.2.2.2.1, pw_cell_below hb2 hHeld.2.2.2.2.2.2.1, pw_cell_below hb2 hHeld.2.2.2.2.2.2.2.1, pw_cell_below hb2 hHeld.2.2.2.2.2.2.2.2.1, pw_cell_below hb2 hHeld.2.2.2.2.2.2.2.2.2⟩ (fun hHeld => ?_)
 clear hK K
 refine norm_ (a' := ?_) ?_ ?_
 rotate_left
 ·show Act.put _ (some 9) _ = _
  simp only [Act.put, sA, sB, sC, i64_w, i32_w]; rfl
 refine last_ (i := 4) (N := some 10) #[true, true, true, true, true, false, false, false, false, false, false, false] rfl rfl (by kernel_rfl) (by decide) (fun K hK => ?_)
 refine goes_ Tryz.func25 (by kernel_rfl) rfl #[.map (some b1), .map (some b2)] (by rfl) rfl rfl (by simp only [List.map_toArray, List.map_cons, List.map_nil]; rfl) ?_
 with_reducible refine (merge_one W0.drew.heap.size b1 b2 _ _ z _ _ v2 (HA1.out.keep HB2.out) HA2.out (fun k h1 h2 => absurd h2.1 (Nat.not_le.2 h1.1.2)) (fun k hk => hk.1.1) (Nat.le_trans HB1.out.size HB2.out.size) HFX.out HFY.out HZ.out).mono ?_
 rintro e v3 ⟨rfl, hb3, hc3⟩
 refine ⟨_, rfl, ?_⟩
 have HB3 := aM hb3
 have HC3 := aM hc3
 clear hc3
 refine hK.out _ _ ?_
 clear hK K
 refine norm_ (a' := ?_) ?_ ?_
 rotate_left
 ·show Act.put _ (some 10) _ = _
  simp only [Act.put, sA, sB, sC, i64_w, i32_w]; rfl
 refine pure_ (i := 5) (N := some 11) (v := ?_) (a' := ?_) #[true, true, true, true, true, true, false, false, false, false, false, false] rfl rfl (by kernel_rfl) (fun _ _ _ h => h) (Or.inl ⟨by rfl, ?_⟩) ?_ ?_
 rotate_left
 ·intro w'; go_simp; with_reducible rfl
 rotate_left
 ·simp only [Act.put, sA, sB, sC, i64_w, i32_w]; rfl
 refine pure_ (i := 6) (N := some 12) (v := ?_) (a' := ?_) #[true, true, true, true, true, true, true, false, false, false, false, false] rfl rfl (by kernel_rfl) (fun _ _ _ h => h) (Or.inl ⟨by rfl, ?_⟩) ?_ ?_
 rotate_left
 ·intro w'; go_simp; with_reducible rfl
 rotate_left
 ·simp only [Act.put, sA, sB, sC, i64_w, i32_w]; rfl
 refine last_ (i := 7) (N := some 13) #[true, true, true, true, true, true, true, true, false, false, false, false] rfl rfl (by kernel_rfl) (by decide) (fun K hK => ?_)
 refine goes_ Tryz.func24 (by kernel_rfl) rfl #[.map (some b1), .nilIface] (by rfl) rfl rfl (by simp only [List.map_toArray, List.map_cons, List.map_nil]; rfl) ?_
 with_reducible refine (model_told v3 HC3.out HU.out).mono ?_
 rintro e v4 ⟨u3_, u4_, rfl, hv3, hv4, hb4⟩
 refine ⟨_, rfl, ?_⟩
 have HV3 := aM hv3
 have HV4 := aM hv4
 have HB4 := aM hb4
 clear hv3 hv4
 refine hK.out _ _ ?_
 clear hK K
 refine norm_ (a' := ?_) ?_ ?_
 rotate_left
 ·show Act.put _ (some 13) _ = _
  simp only [Act.put, sA, sB, sC, i64_w, i32_w]; rfl
 refine pure_ (i := 8) (N := some 14) (v := ?_) (a' := ?_) #[true, true, true, true, true, true, true, true, true, false, false, false] rfl rfl (by kernel_rfl) (fun _ _ _ h => h) (Or.inl ⟨by rfl, ?_⟩) ?_ ?_
 rotate_left
 ·intro w'; go_simp; with_reducible rfl
 rotate_left
 ·simp only [Act.put, sA, sB, sC, i64_w, i32_w]; rfl
 refine pure_ (i := 9) (N := some 15) (v := ?_) (a' := ?_) #[true, true, true, true, true, true, true, true, true, true, false, false] rfl rfl (by kernel_rfl) (fun _ _ _ h => h) (Or.inl ⟨by rfl, ?_⟩) ?_ ?_
 rotate_left
 ·intro w'; go_simp; with_reducible rfl
 rotate_left
 ·simp only [Act.put, sA, sB, sC, i64_w, i32_w]; rfl
 refine last_ (i := 10) (N := none) #[true, true, true, true, true, true, true, true, true, true, true, false] rfl rfl (by kernel_rfl) (by decide) (fun K hK => ?_)
 obtain ⟨E3, e3, rfl⟩ := Kd.R_slice HV3.out
 obtain ⟨E4, e4, rfl⟩ := Kd.R_slice HV4.out
 have HR4 := aM (((hb4.block _ (Nat.lt_of_lt_of_le HLT.out (Nat.le_trans HB1.out.size (Nat.le_trans HB2.out.size HB3.out.size)))).trans (HB3.out.block _ HLT.out)).trans ((HB2.out.block _ (Nat.lt_of_lt_of_le HLT.out HB1.out.size)).trans ((HB1.out.block _ HLT.out).trans HR.out)))
 refine store_row_step (w := v4) rfl rfl 31 (.tmp 4) (.tmp 14) rfl (w.heap.size + 2) #[.int .i64 u0, .int .i64 u1, .string u2, .slice E3 u3.length e3, .slice E4 u4.length e4] rfl rfl 31 _ HR4.out ival_size rfl (val_one _ _ _ _ _ _ _ _ _) ?_
 refine hK.out _ _ ?_
 clear hK K
 refine pure_ (i := 11) (N := some 5) (v := ?_) (a' := ?_) #[true, true, true, true, true, true, true, true, true, true, true, true] rfl rfl (by kernel_rfl) (fun _ _ _ h => h) (Or.inl ⟨by rfl, ?_⟩) ?_ ?_
 rotate_left
 ·intro w'; go_simp; with_reducible rfl
 rotate_left
 ·simp only [Act.put, sA, sB, sC, i64_w, i32_w]; rfl
 refine done_ (by kernel_rfl) ?_
 have hb2 := hb_then (hb_then (below_drew HB.out) HB1.out) HB2.out
 have hb3 := hb2.trans (HB3.out.mono (Nat.le_trans HB.out.size (Nat.le_refl _)))
 have hb := hb_then hb3 hb4
 have hg := grown_setRow v4 (w.heap.size + 2) #[.int .i64 u0, .int .i64 u1, .string u2, .slice E3 u3.length e3, .slice E4 u4.length e4]
 have HX := aM (setRow_heap v4 (w.heap.size + 2) _ #[.int .i64 u0, .int .i64 u1, .string u2, .slice E3 u3.length e3, .slice E4 u4.length e4] _ _ HR4.out)
 have HB8 := aM (pw_below_grown hb (some (w.heap.size + 2)) hb.size hg (fun k hk => by have := Option.some.inj hk; omega))
 have hbase := hb3.size
 have hlt : w.heap.size + 2 < v3.heap.size := Nat.lt_of_lt_of_le HLT.out (Nat.le_trans HB1.out.size (Nat.le_trans HB2.out.size HB3.out.size))
 have G3 := aM (Kd.R_lower (base' := w.heap.size) (Kd.R_mono (ok' := fun _ => True) (Kd.R_move (Kd.R_bound HV3.out) (fun k hk => hg.block k hk.2.2.1 (fun e => by have h2 := Option.some.inj e; have h3 := hk.2.1; omega))) (fun _ _ => trivial)) hbase)
 have G4 := aM (Kd.R_lower (base' := w.heap.size) (Kd.R_mono (ok' := fun _ => True) (Kd.R_move (Kd.R_bound HV4.out) (fun k hk => hg.block k hk.2.2.1 (fun e => by have h2 := Option.some.inj e; have h3 := hk.2.1; omega))) (fun _ _ => trivial)) hbase)
 clear hg hb hb2 hb3 hbase hlt hb4 HV3 HV4 hHeld q0 q1 q2 q3 q4 q5 q6 q7 q8 q9
 go_wp2
 exact bodyPost_ret (v := .tuple #[.agg #[.int .i64 u0, .int .i64 u1, .string u2, .slice E3 u3.length e3, .slice E4 u4.length e4], .bool true]) (told_at rfl rfl rfl HX.out) rfl ⟨.slice E3 u3.length e3, .slice E4 u4.length e4, rfl, G3.out, G4.out, HB8.out⟩
end Go.Proofs.YtgdmdflbcbibjaaGreatDoor.Tr
namespace Go.Proofs.YtgdmdflbcbibjaaGreatDoor.PS
open Go.RowKit Go.Proofs.YtgdmdflbcbibjaaGreatDoorW.PrintWords Go.Proofs.YtgdmdflbcbibjaaGreatDoorW.PrintLast Go.Proofs.YtgdmdflbcbibjaaGreatDoorW.PrintMore
attribute [local go_sem] max2_int min2_int max_two min_two max_three min_three max_four min_four 
set_option linter.unusedVariables false
set_option linter.unusedSimpArgs false
end Go.Proofs.YtgdmdflbcbibjaaGreatDoor.PS
namespace Go.Proofs.YtgdmdflbcbibjaaGreatDoor.PS
open Go.RowKit Go.Proofs.YtgdmdflbcbibjaaGreatDoorW.PrintWords Go.Proofs.YtgdmdflbcbibjaaGreatDoorW.PrintLast Go.Proofs.YtgdmdflbcbibjaaGreatDoorW.PrintMore
attribute [local go_sem] max2_int min2_int max_two min_two max_three min_three max_four min_four 
set_option linter.unusedVariables false
set_option linter.unusedSimpArgs false
end Go.Proofs.YtgdmdflbcbibjaaGreatDoor.PS
namespace Go.Proofs.YtgdmdflbcbibjaaGreatDoor.PS
open Go.RowKit Go.Proofs.YtgdmdflbcbibjaaGreatDoorW.PrintWords Go.Proofs.YtgdmdflbcbibjaaGreatDoorW.PrintLast Go.Proofs.YtgdmdflbcbibjaaGreatDoorW.PrintMore
attribute [local go_sem] max2_int min2_int max_two min_two max_three min_three max_four min_four 
set_option linter.unusedVariables false
set_option linter.unusedSimpArgs false
end Go.Proofs.YtgdmdflbcbibjaaGreatDoor.PS
namespace Go.Proofs.YtgdmdflbcbibjaaGreatDoor.PS
open Go.RowKit Go.Proofs.YtgdmdflbcbibjaaGreatDoorW.PrintWords Go.Proofs.YtgdmdflbcbibjaaGreatDoorW.PrintLast Go.Proofs.YtgdmdflbcbibjaaGreatDoorW.PrintMore
attribute [local go_sem] max2_int min2_int max_two min_two max_three min_three max_four min_four 
set_option linter.unusedVariables false
set_option linter.unusedSimpArgs false
end Go.Proofs.YtgdmdflbcbibjaaGreatDoor.PS
namespace Go.Proofs.YtgdmdflbcbibjaaGreatDoor.PS
open Go.RowKit Go.Proofs.YtgdmdflbcbibjaaGreatDoorW.PrintWords Go.Proofs.YtgdmdflbcbibjaaGreatDoorW.PrintLast Go.Proofs.YtgdmdflbcbibjaaGreatDoorW.PrintMore
attribute [local go_sem] max2_int min2_int max_two min_two max_three min_three max_four min_four 
set_option linter.unusedVariables false
set_option linter.unusedSimpArgs false
def laws_zzFits2.l0 : Nat → List ByteArray → Int → Int → Option (Bool)
 | 0, _, _, _ => none
 | k + 1, x8, x9, x10 => if x10 < x9 then (if 0 ≤ x10 then (if x10 < (x8.length : Int) then (if ((rdOf ByteArray.empty x8 x10).size : Int) > 2147483647 then (some false) else (laws_zzFits2.l0 k x8 x9 (wrap64 (x10 + 1)))) else (none)) else (none)) else (some true)
def laws_zzFits2.f (k : Nat) (l0 : List ByteArray) : Option (Bool) := if (l0.length : Int) > 2147483647 then (some false) else (laws_zzFits2.l0 k l0 (l0.length : Int) 0)
set_option maxHeartbeats 8000000 in
set_option maxRecDepth 100000 in
theorem laws_zzFits2.calls (k : Nat) (A0 : Option Addr) (c0 : Nat) (l0 : List ByteArray) (r : Bool) (w : World) (hr0 : Kd.C Kd.string w A0 l0.length l0) (hc0 : l0.length ≤ c0) (h : laws_zzFits2.f k l0 = some r) :
  Calls Tryz.prog 15 #[.slice A0 l0.length c0] w fun e w' => e = .returned (.bool r) ∧ Drawn0 w w' := by
 have HR0 := aM hr0
 have HC0 := aM hc0
 clear hr0 hc0
 have H : (if (l0.length : Int) > 2147483647 then (some false) else (laws_zzFits2.l0 k l0 (l0.length : Int) 0)) = some r := h
 clear h
 by_cases c2 : (l0.length : Int) > 2147483647
 ·rw [if_pos c2] at H
  have c2b0 : decide (2147483647 < (l0.length : Int)) = true := decide_eq_true c2
  have c2b1 : decide (2147483647 < l0.length) = true := decide_eq_true (by omega)
  clear c2
  obtain rfl := Option.some.inj H
  go_enter Tryz.func15, Tryz.ntmps15
  go_wp2
  go_ret
  exact ⟨by first | rfl | (simp; done) | (simp [*]; done), by repeat (first | exact Drawn0.refl _ | apply Drawn0.step)⟩
 ·rw [if_neg c2] at H
  have c2b0 : decide (2147483647 < (l0.length : Int)) = false := decide_eq_false c2
  have c2b1 : decide (2147483647 < l0.length) = false := decide_eq_false (by omega)
  clear c2
  have H' := aM H
  clear H
  go_enter Tryz.func15, Tryz.ntmps15
  go_wp2
  go_loopg [10] k (fun kq v10 w' => ∃ (x10_1 : Int), v10 = .int .i64 x10_1 ∧ Aside0 (laws_zzFits2.l0 kq l0 (l0.length : Int) x10_1 = some r) ∧ Aside0 (kq ≤ k) ∧ Drawn0 w w')
  case atStart => exact ⟨(0), (by first | rfl | (simp; done) | (simp [*]; done)), H', ⟨Nat.le_refl _⟩, by repeat (first | exact Drawn0.refl _ | apply Drawn0.step)⟩
  case round =>
   clear H'
   try clear c1
   try clear c2
   try clear c2b0
   try clear c2b1
   try clear p2
   obtain ⟨x10_1, rfl, HA, HK1, ⟨m1, rfl⟩⟩ := hrel
   cases gk with
   | zero => exact absurd HA.out (by simp [laws_zzFits2.l0])
   | succ k1 =>
    have H := HA.out
    clear HA
    simp only [laws_zzFits2.l0] at H
    by_cases c3 : x10_1 < (l0.length : Int)
    ·rw [if_pos c3] at H
     have c3b0 : decide (x10_1 < (l0.length : Int)) = true := decide_eq_true c3
     clear c3
     by_cases c4 : 0 ≤ x10_1
     ·rw [if_pos c4] at H
      have c4b0 : decide (0 ≤ x10_1) = true := decide_eq_true c4
      clear c4
      by_cases c5 : x10_1 < (l0.length : Int)
      ·rw [if_pos c5] at H
       have c5b0 : decide (x10_1 < (l0.length : Int)) = true := decide_eq_true c5
       clear c5
       by_cases c6 : ((rdOf ByteArray.empty l0 x10_1).size : Int) > 2147483647
       ·rw [if_pos c6] at H
        have c6b0 : decide (2147483647 < ((rdOf ByteArray.empty l0 x10_1).size : Int)) = true := decide_eq_true c6
        have c6b1 : decide (2147483647 < (rdOf ByteArray.empty l0 x10_1).size) = true := decide_eq_true (by omega)
        clear c6
        obtain rfl := Option.some.inj H
        have p101 : 0 ≤ (x10_1 : Int) := of_decide_eq_true (by first | (with_reducible assumption) | assumption)
        have q101 : x10_1 < (l0.length : Int) := of_decide_eq_true (by first | (with_reducible assumption) | assumption)
        obtain ⟨ad101, e101, hx101_0⟩ := Kd.at_string HR0.out x10_1 p101 q101
        cases e101
        replace p101 := eq_true p101
        replace q101 := eq_true q101
        go_wp2
        go_ret
        exact ⟨by first | rfl | (simp; done) | (simp [*]; done), by repeat (first | exact Drawn0.refl _ | apply Drawn0.step)⟩
       ·rw [if_neg c6] at H
        have c6b0 : decide (2147483647 < ((rdOf ByteArray.empty l0 x10_1).size : Int)) = false := decide_eq_false c6
        have c6b1 : decide (2147483647 < (rdOf ByteArray.empty l0 x10_1).size) = false := decide_eq_false (by omega)
        clear c6
        have H' := aM H
        clear H
        have p101 : 0 ≤ (x10_1 : Int) := of_decide_eq_true (by first | (with_reducible assumption) | assumption)
        have q101 : x10_1 < (l0.length : Int) := of_decide_eq_true (by first | (with_reducible assumption) | assumption)
        obtain ⟨ad101, e101, hx101_0⟩ := Kd.at_string HR0.out x10_1 p101 q101
        cases e101
        replace p101 := eq_true p101
        replace q101 := eq_true q101
        go_wp2
        go_roundg k1
        case measure => have := HK1.out; omega
        case rel => exact ⟨(wrap64 (x10_1 + 1)), (by first | rfl | (simp; done) | (simp [*]; done)), H', ⟨by have := HK1.out; omega⟩, by repeat (first | exact Drawn0.refl _ | apply Drawn0.step)⟩
      ·rw [if_neg c5] at H
       exact absurd H (by simp)
     ·rw [if_neg c4] at H
      exact absurd H (by simp)
    ·rw [if_neg c3] at H
     have c3b0 : decide (x10_1 < (l0.length : Int)) = false := decide_eq_false c3
     clear c3
     obtain rfl := Option.some.inj H
     go_wp2
     go_ret
     exact ⟨by first | rfl | (simp; done) | (simp [*]; done), by repeat (first | exact Drawn0.refl _ | apply Drawn0.step)⟩
end Go.Proofs.YtgdmdflbcbibjaaGreatDoor.PS
namespace Go.Proofs.YtgdmdflbcbibjaaGreatDoor.PS
open Go.RowKit Go.Proofs.YtgdmdflbcbibjaaGreatDoorW.PrintWords Go.Proofs.YtgdmdflbcbibjaaGreatDoorW.PrintLast Go.Proofs.YtgdmdflbcbibjaaGreatDoorW.PrintMore
attribute [local go_sem] max2_int min2_int max_two min_two max_three min_three max_four min_four 
set_option linter.unusedVariables false
set_option linter.unusedSimpArgs false
def laws_zzFits1.f (k : Nat) (a0_0 : Int) (a0_1 : Int) (a0_2 : ByteArray) (l0_3 : List ByteArray) (l0_4 : List (S25)) : Option (Bool) := if (a0_2.size : Int) > 2147483647 then (some false) else ((laws_zzFits2.f k l0_3).bind fun t103 => (if t103 = true then (if (l0_4.length : Int) > 2147483647 then (some false) else (some true)) else (some false)))
set_option maxHeartbeats 8000000 in
set_option maxRecDepth 100000 in
theorem laws_zzFits1.calls (k : Nat) (a0_0 : Int) (a0_1 : Int) (a0_2 : ByteArray) (A0_3 : Option Addr) (c0_3 : Nat) (l0_3 : List ByteArray) (A0_4 : Option Addr) (c0_4 : Nat) (l0_4 : List (S25)) (r : Bool) (w : World) (hr0_3 : Kd.C Kd.string w A0_3 l0_3.length l0_3) (hc0_3 : l0_3.length ≤ c0_3) (hr0_4 : Kd.C k25 w A0_4 l0_4.length l0_4) (hc0_4 : l0_4.length ≤ c0_4) (h : laws_zzFits1.f k a0_0 a0_1 a0_2 l0_3 l0_4 = some r) :
  Calls Tryz.prog 5 #[.agg #[.int .i64 a0_0, .int .i64 a0_1, .string a0_2, .slice A0_3 l0_3.length c0_3, .slice A0_4 l0_4.length c0_4]] w fun e w' => e = .returned (.bool r) ∧ Below w.heap.size w w' := by
 have hu25 := Tryz.underlying25
 have HR0_3 := aM hr0_3
 have HC0_3 := aM hc0_3
 clear hr0_3 hc0_3
 have HR0_4 := aM hr0_4
 have HC0_4 := aM hc0_4
 clear hr0_4 hc0_4
 have HB := aM (Below.refl w.heap.size w)
 have H : (if (a0_2.size : Int) > 2147483647 then (some false) else ((laws_zzFits2.f k l0_3).bind fun t103 => (if t103 = true then (if (l0_4.length : Int) > 2147483647 then (some false) else (some true)) else (some false)))) = some r := h
 clear h
 by_cases c2 : (a0_2.size : Int) > 2147483647
 ·rw [if_pos c2] at H
  have c2b0 : decide (2147483647 < (a0_2.size : Int)) = true := decide_eq_true c2
  have c2b1 : decide (2147483647 < a0_2.size) = true := decide_eq_true (by omega)
  clear c2
  obtain rfl := Option.some.inj H
  go_enter Tryz.func5, Tryz.ntmps5
  go_wp2_with (first | ((with_reducible refine gate_dst (N := 1) rfl ?_); refine box_event ?hg (N := 1) ?hd (cs := #[.int .i64 a0_0, .int .i64 a0_1, .string a0_2, .slice A0_3 l0_3.length c0_3, .slice A0_4 l0_4.length c0_4]) (t := 25) ?hr ?_; (case hd => rfl); (case hg => rfl); (case hr => first | (go_simp; done) | (go_simp; rfl)); intro gb102 hg w3 hbox hb; have n0_ := aM (below_step (by repeat (first | (with_reducible first | exact HB.out | apply below_alloc | apply pw_below_drewN | apply below_drew1) | exact HB.out)) hb); have n1_ := aM (hbox); have n2_ := aM ((by rw [hg]; exact (below_size (by repeat (first | (with_reducible first | exact HB.out | apply below_alloc | apply pw_below_drewN | apply below_drew1) | exact HB.out))) : w.heap.size ≤ gb102)); have n3_ := aM ((by rw [hg]; exact (below_size (by repeat (first | (with_reducible first | exact HB.out | apply below_alloc | apply pw_below_drewN | apply below_drew1) | exact HB.out))) : w.heap.size ≤ gb102)); clear HB; have HB := n0_; have BK102 := n1_; have GW102 := n2_; have GE102 := n3_; clear n0_ n1_ n2_ n3_; clear hb hbox hg; have hcz4_0 : w3.cell? ⟨gb102, 0, none⟩ = some (.int .i64 a0_0) := (blk_cell BK102.out 0).trans rfl; have hcz4_1 : w3.cell? ⟨gb102, 1, none⟩ = some (.int .i64 a0_1) := (blk_cell BK102.out 1).trans rfl; have hcz4_2 : w3.cell? ⟨gb102, 2, none⟩ = some (.string a0_2) := (blk_cell BK102.out 2).trans rfl; have hcz4_3 : w3.cell? ⟨gb102, 3, none⟩ = some (.slice A0_3 l0_3.length c0_3) := (blk_cell BK102.out 3).trans rfl; have hcz4_4 : w3.cell? ⟨gb102, 4, none⟩ = some (.slice A0_4 l0_4.length c0_4) := (blk_cell BK102.out 4).trans rfl; have hfz4_0 := blk_frozen BK102.out 0; have hfz4_1 := blk_frozen BK102.out 1; have hfz4_2 := blk_frozen BK102.out 2; have hfz4_3 := blk_frozen BK102.out 3; have hfz4_4 := blk_frozen BK102.out 4))
  go_ret
  exact ⟨by first | rfl | (simp [errW_none, errW_some] <;> rfl) | (simp [*, errW_none, errW_some] <;> rfl), by repeat (first | (with_reducible first | exact HB.out | apply below_alloc | apply pw_below_drewN | apply below_drew1 | refine below_set ?_ GE102.out) | exact HB.out)⟩
 ·rw [if_neg c2] at H
  have c2b0 : decide (2147483647 < (a0_2.size : Int)) = false := decide_eq_false c2
  have c2b1 : decide (2147483647 < a0_2.size) = false := decide_eq_false (by omega)
  clear c2
  replace H := Option.bind_eq_some_iff.mp H
  obtain ⟨t103, A50, H⟩ := H
  replace H : (if t103 = true then (if (l0_4.length : Int) > 2147483647 then (some false) else (some true)) else (some false)) = some r := H
  have A5 := aM A50
  clear A50
  by_cases c6 : t103 = true
  ·subst c6
   have H1 : (if (l0_4.length : Int) > 2147483647 then (some false) else (some true)) = some r := by rw [if_pos rfl] at H; exact H
   clear H
   have H := H1
   clear H1
   by_cases c7 : (l0_4.length : Int) > 2147483647
   ·rw [if_pos c7] at H
    have c7b0 : decide (2147483647 < (l0_4.length : Int)) = true := decide_eq_true c7
    have c7b1 : decide (2147483647 < l0_4.length) = true := decide_eq_true (by omega)
    clear c7
    obtain rfl := Option.some.inj H
    go_enter Tryz.func5, Tryz.ntmps5
    go_wp2_with (first | ((with_reducible refine gate_dst (N := 1) rfl ?_); refine box_event ?hg (N := 1) ?hd (cs := #[.int .i64 a0_0, .int .i64 a0_1, .string a0_2, .slice A0_3 l0_3.length c0_3, .slice A0_4 l0_4.length c0_4]) (t := 25) ?hr ?_; (case hd => rfl); (case hg => rfl); (case hr => first | (go_simp; done) | (go_simp; rfl)); intro gb102 hg w8 hbox hb; have n0_ := aM (below_step (by repeat (first | (with_reducible first | exact HB.out | apply below_alloc | apply pw_below_drewN | apply below_drew1) | exact HB.out)) hb); have n1_ := aM (hbox); have n2_ := aM ((by rw [hg]; exact (below_size (by repeat (first | (with_reducible first | exact HB.out | apply below_alloc | apply pw_below_drewN | apply below_drew1) | exact HB.out))) : w.heap.size ≤ gb102)); have n3_ := aM ((by rw [hg]; exact (below_size (by repeat (first | (with_reducible first | exact HB.out | apply below_alloc | apply pw_below_drewN | apply below_drew1) | exact HB.out))) : w.heap.size ≤ gb102)); clear HB; have HB := n0_; have BK102 := n1_; have GW102 := n2_; have GE102 := n3_; clear n0_ n1_ n2_ n3_; clear hb hbox hg; have hcz9_0 : w8.cell? ⟨gb102, 0, none⟩ = some (.int .i64 a0_0) := (blk_cell BK102.out 0).trans rfl; have hcz9_1 : w8.cell? ⟨gb102, 1, none⟩ = some (.int .i64 a0_1) := (blk_cell BK102.out 1).trans rfl; have hcz9_2 : w8.cell? ⟨gb102, 2, none⟩ = some (.string a0_2) := (blk_cell BK102.out 2).trans rfl; have hcz9_3 : w8.cell? ⟨gb102, 3, none⟩ = some (.slice A0_3 l0_3.length c0_3) := (blk_cell BK102.out 3).trans rfl; have hcz9_4 : w8.cell? ⟨gb102, 4, none⟩ = some (.slice A0_4 l0_4.length c0_4) := (blk_cell BK102.out 4).trans rfl; have hfz9_0 := blk_frozen BK102.out 0; have hfz9_1 := blk_frozen BK102.out 1; have hfz9_2 := blk_frozen BK102.out 2; have hfz9_3 := blk_frozen BK102.out 3; have hfz9_4 := blk_frozen BK102.out 4) | ((with_reducible refine gate_callee (f := 15) rfl ?_); refine goesL_ (some 9) rfl rfl Tryz.func15 (by kernel_rfl) rfl #[.slice A0_3 l0_3.length c0_3] rfl (by (try simp only [List.map_toArray, List.map_cons, List.map_nil]); first | done | rfl | (simp only [List.length_drop, List.length_take]; rfl)) ?_; (with_reducible refine (laws_zzFits2.calls k _ _ l0_3 true _ ?side1 ?side2 A5.out).mono ?_); (case side1 => repeat (first | exact (Kd.C_below HR0_3.out HB.out) | (with_reducible refine Kd.C_alloc ?_ _) | (with_reducible refine Kd.C_drewN ?_ _) | (with_reducible refine Kd.C_drew ?_))); (case side2 => exact HC0_3.out); rintro e w' ⟨rfl, ⟨nd, rfl⟩⟩; refine ⟨_, rfl, ?_⟩))
    go_ret
    exact ⟨by first | rfl | (simp [errW_none, errW_some] <;> rfl) | (simp [*, errW_none, errW_some] <;> rfl), by repeat (first | (with_reducible first | exact HB.out | apply below_alloc | apply pw_below_drewN | apply below_drew1 | refine below_set ?_ GE102.out) | exact HB.out)⟩
   ·rw [if_neg c7] at H
    have c7b0 : decide (2147483647 < (l0_4.length : Int)) = false := decide_eq_false c7
    have c7b1 : decide (2147483647 < l0_4.length) = false := decide_eq_false (by omega)
    clear c7
    obtain rfl := Option.some.inj H
    go_enter Tryz.func5, Tryz.ntmps5
    go_wp2_with (first | ((with_reducible refine gate_dst (N := 1) rfl ?_); refine box_event ?hg (N := 1) ?hd (cs := #[.int .i64 a0_0, .int .i64 a0_1, .string a0_2, .slice A0_3 l0_3.length c0_3, .slice A0_4 l0_4.length c0_4]) (t := 25) ?hr ?_; (case hd => rfl); (case hg => rfl); (case hr => first | (go_simp; done) | (go_simp; rfl)); intro gb102 hg w10 hbox hb; have n0_ := aM (below_step (by repeat (first | (with_reducible first | exact HB.out | apply below_alloc | apply pw_below_drewN | apply below_drew1) | exact HB.out)) hb); have n1_ := aM (hbox); have n2_ := aM ((by rw [hg]; exact (below_size (by repeat (first | (with_reducible first | exact HB.out | apply below_alloc | apply pw_below_drewN | apply below_drew1) | exact HB.out))) : w.heap.size ≤ gb102)); have n3_ := aM ((by rw [hg]; exact (below_size (by repeat (first | (with_reducible first | exact HB.out | apply below_alloc | apply pw_below_drewN | apply below_drew1) | exact HB.out))) : w.heap.size ≤ gb102)); clear HB; have HB := n0_; have BK102 := n1_; have GW102 := n2_; have GE102 := n3_; clear n0_ n1_ n2_ n3_; clear hb hbox hg; have hcz11_0 : w10.cell? ⟨gb102, 0, none⟩ = some (.int .i64 a0_0) := (blk_cell BK102.out 0).trans rfl; have hcz11_1 : w10.cell? ⟨gb102, 1, none⟩ = some (.int .i64 a0_1) := (blk_cell BK102.out 1).trans rfl; have hcz11_2 : w10.cell? ⟨gb102, 2, none⟩ = some (.string a0_2) := (blk_cell BK102.out 2).trans rfl; have hcz11_3 : w10.cell? ⟨gb102, 3, none⟩ = some (.slice A0_3 l0_3.length c0_3) := (blk_cell BK102.out 3).trans rfl; have hcz11_4 : w10.cell? ⟨gb102, 4, none⟩ = some (.slice A0_4 l0_4.length c0_4) := (blk_cell BK102.out 4).trans rfl; have hfz11_0 := blk_frozen BK102.out 0; have hfz11_1 := blk_frozen BK102.out 1; have hfz11_2 := blk_frozen BK102.out 2; have hfz11_3 := blk_frozen BK102.out 3; have hfz11_4 := blk_frozen BK102.out 4) | ((with_reducible refine gate_callee (f := 15) rfl ?_); refine goesL_ (some 9) rfl rfl Tryz.func15 (by kernel_rfl) rfl #[.slice A0_3 l0_3.length c0_3] rfl (by (try simp only [List.map_toArray, List.map_cons, List.map_nil]); first | done | rfl | (simp only [List.length_drop, List.length_take]; rfl)) ?_; (with_reducible refine (laws_zzFits2.calls k _ _ l0_3 true _ ?side1 ?side2 A5.out).mono ?_); (case side1 => repeat (first | exact (Kd.C_below HR0_3.out HB.out) | (with_reducible refine Kd.C_alloc ?_ _) | (with_reducible refine Kd.C_drewN ?_ _) | (with_reducible refine Kd.C_drew ?_))); (case side2 => exact HC0_3.out); rintro e w' ⟨rfl, ⟨nd, rfl⟩⟩; refine ⟨_, rfl, ?_⟩))
    go_ret
    exact ⟨by first | rfl | (simp [errW_none, errW_some] <;> rfl) | (simp [*, errW_none, errW_some] <;> rfl), by repeat (first | (with_reducible first | exact HB.out | apply below_alloc | apply pw_below_drewN | apply below_drew1 | refine below_set ?_ GE102.out) | exact HB.out)⟩
  ·replace c6 := Bool.eq_false_iff.mpr c6
   subst c6
   have H1 : (some false) = some r := by rw [if_neg (show ¬ (false = true) by decide)] at H; exact H
   clear H
   have H := H1
   clear H1
   obtain rfl := Option.some.inj H
   go_enter Tryz.func5, Tryz.ntmps5
   go_wp2_with (first | ((with_reducible refine gate_dst (N := 1) rfl ?_); refine box_event ?hg (N := 1) ?hd (cs := #[.int .i64 a0_0, .int .i64 a0_1, .string a0_2, .slice A0_3 l0_3.length c0_3, .slice A0_4 l0_4.length c0_4]) (t := 25) ?hr ?_; (case hd => rfl); (case hg => rfl); (case hr => first | (go_simp; done) | (go_simp; rfl)); intro gb102 hg w12 hbox hb; have n0_ := aM (below_step (by repeat (first | (with_reducible first | exact HB.out | apply below_alloc | apply pw_below_drewN | apply below_drew1) | exact HB.out)) hb); have n1_ := aM (hbox); have n2_ := aM ((by rw [hg]; exact (below_size (by repeat (first | (with_reducible first | exact HB.out | apply below_alloc | apply pw_below_drewN | apply below_drew1) | exact HB.out))) : w.heap.size ≤ gb102)); have n3_ := aM ((by rw [hg]; exact (below_size (by repeat (first | (with_reducible first | exact HB.out | apply below_alloc | apply pw_below_drewN | apply below_drew1) | exact HB.out))) : w.heap.size ≤ gb102)); clear HB; have HB := n0_; have BK102 := n1_; have GW102 := n2_; have GE102 := n3_; clear n0_ n1_ n2_ n3_; clear hb hbox hg; have hcz13_0 : w12.cell? ⟨gb102, 0, none⟩ = some (.int .i64 a0_0) := (blk_cell BK102.out 0).trans rfl; have hcz13_1 : w12.cell? ⟨gb102, 1, none⟩ = some (.int .i64 a0_1) := (blk_cell BK102.out 1).trans rfl; have hcz13_2 : w12.cell? ⟨gb102, 2, none⟩ = some (.string a0_2) := (blk_cell BK102.out 2).trans rfl; have hcz13_3 : w12.cell? ⟨gb102, 3, none⟩ = some (.slice A0_3 l0_3.length c0_3) := (blk_cell BK102.out 3).trans rfl; have hcz13_4 : w12.cell? ⟨gb102, 4, none⟩ = some (.slice A0_4 l0_4.length c0_4) := (blk_cell BK102.out 4).trans rfl; have hfz13_0 := blk_frozen BK102.out 0; have hfz13_1 := blk_frozen BK102.out 1; have hfz13_2 := blk_frozen BK102.out 2; have hfz13_3 := blk_frozen BK102.out 3; have hfz13_4 := blk_frozen BK102.out 4) | ((with_reducible refine gate_callee (f := 15) rfl ?_); refine goesL_ (some 9) rfl rfl Tryz.func15 (by kernel_rfl) rfl #[.slice A0_3 l0_3.length c0_3] rfl (by (try simp only [List.map_toArray, List.map_cons, List.map_nil]); first | done | rfl | (simp only [List.length_drop, List.length_take]; rfl)) ?_; (with_reducible refine (laws_zzFits2.calls k _ _ l0_3 false _ ?side1 ?side2 A5.out).mono ?_); (case side1 => repeat (first | exact (Kd.C_below HR0_3.out HB.out) | (with_reducible refine Kd.C_alloc ?_ _) | (with_reducible refine Kd.C_drewN ?_ _) | (with_reducible refine Kd.C_drew ?_))); (case side2 => exact HC0_3.out); rintro e w' ⟨rfl, ⟨nd, rfl⟩⟩; refine ⟨_, rfl, ?_⟩))
   go_ret
   exact ⟨by first | rfl | (simp [errW_none, errW_some] <;> rfl) | (simp [*, errW_none, errW_some] <;> rfl), by repeat (first | (with_reducible first | exact HB.out | apply below_alloc | apply pw_below_drewN | apply below_drew1 | refine below_set ?_ GE102.out) | exact HB.out)⟩
end Go.Proofs.YtgdmdflbcbibjaaGreatDoor.PS
