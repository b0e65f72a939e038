/- The law FnLabels. -/
import Derived.Test.YtididniafloogaaGreatDoorLabelsList
import Derived.Test.YtididniafloogaaGreatDoorTexts
namespace Go.Proofs.YtididniafloogaaGreatDoor.Maps
open Go.RowKit Go.Proofs.YtididniafloogaaGreatDoorW.PrintWords Go.Proofs.YtididniafloogaaGreatDoorW.PrintLast Go.Proofs.YtididniafloogaaGreatDoor.Str Go.Proofs.YtididniafloogaaGreatDoor.Kit Go.Proofs.YtididniafloogaaGreatDoor.Index Go.Proofs.YtididniafloogaaGreatDoor.Flat Go.Proofs.YtididniafloogaaGreatDoor.MapV Go.Proofs.YtididniafloogaaGreatDoor.Frame
set_option linter.unusedVariables false
set_option linter.unusedSimpArgs false
theorem want_is {f : List (Bs × BA)} (hf : Rises f) (k v : BA) : fitM (ofP ([] ++ toP f ++ [(k, v)])) = mput f (lb k) v := by
  rw [List.nil_append]
  unfold ofP
  rw [List.map_append, List.map_cons, List.map_nil, fitM_snoc]
  have : (toP f).map (fun p => (lb p.1, p.2)) = f := ofP_toP f
  rw [this, fitM_id hf]
theorem fits_toP {f : List (Bs × BA)} (h : Small f) (k : SmallV f) : ∀ p ∈ toP f, fits1 p := by
  intro p hp
  refine ⟨small_toP h p hp, ?_⟩
  unfold toP at hp
  obtain ⟨q, hq, rfl⟩ := List.mem_map.1 hp
  exact k q hq
set_option maxHeartbeats 6400000 in
set_option maxRecDepth 100000 in
theorem lawLabelsGood {A : Option Addr} {c : Nat} {l : List (BA × BA)} (key value : BA) (w : World) (h : kp.C w A l.length l) (hT : MTabs w) (f1 : fitsP l) (hk : key.size ≤ 2147483647) (hv : value.size ≤ 2147483647) :
    Calls Tryz.prog 9 #[.slice A l.length c, .string key, .string value] w fun e w' => e = .returned (.bool true) ∧ Below w.heap.size w w' := by
  have HC1 := Aside0.mk h
  have HT := Aside0.mk hT
  have HB0 := Aside0.mk (Below.refl w.heap.size w)
  have d1 : decide (2147483647 < (key.size : Int)) = false := decide_eq_false (by omega)
  have d2 : decide (2147483647 < (value.size : Int)) = false := decide_eq_false (by omega)
  have cf := zzFits3 (c := c) w h
  rw [decide_eq_true f1] at cf
  have CF := Aside0.mk cf
  have O1 := Aside0.mk (Ok.fit f1)
  have V1 := Aside0.mk (smallV_fit f1)
  have L1 := Aside0.mk f1.1
  clear h hT cf f1
  go_enter Tryz.func9, Tryz.ntmps9
  go_wp2_with fail
  refine CF.out.mono ?_
  rintro e w1 ⟨rfl, hb⟩
  have HB1 := Aside0.mk hb
  have CX := Aside0.mk (FitPairs (c := c) l w1 (Kd.C_below HC1.out hb) L1.out)
  clear hb CF
  go_wp2_with fail
  refine CX.out.mono ?_
  rintro e w2 ⟨v, rfl, hR, hb⟩
  have HB2 := Aside0.mk (hb_then HB1.out hb)
  generalize fitM (ofP l) = f at *
  obtain ⟨A2, c2, rfl, hle, hC⟩ := Kd.R_reads hR
  have HF := Aside0.mk hC
  have CP := Aside0.mk (pairsTo (c := c2) (toP f) w2 hC (O1.out.len (by decide)))
  clear hR hb hle hC CX
  go_wp2_with fail
  refine CP.out.mono ?_
  rintro e w3 ⟨v, rfl, hR, hb⟩
  have HB3 := Aside0.mk (hb_then HB2.out hb)
  have HF3 := Aside0.mk (Kd.C_below HF.out hb)
  obtain ⟨A3, c3, rfl, hle, hC⟩ := Kd.R_reads hR
  have CA := Aside0.mk (LabelsAdd (c := c3) O1.out (by decide) key value hk w3 hC)
  clear hR hb hle hC CP HF
  go_wp2_with fail
  refine CA.out.mono ?_
  rintro e w4 ⟨v, rfl, hR, hb⟩
  have HB4 := Aside0.mk (hb_then HB3.out hb)
  have HF4 := Aside0.mk (Kd.C_below HF3.out hb)
  obtain ⟨A4, c4, rfl, hle, hC⟩ := Kd.R_reads hR
  have HG4 := Aside0.mk hC
  clear hR hb hle hC CA HF3
  have hfl : (toP f).length ≤ 17179869184 := O1.out.len (by decide)
  go_wp2_with (first | (at_builtin; refine Kd.R_append_rows kp (w0 := w4) w4.heap.size rfl (.tmp 30) (.tmp 31) 25 65 (.agg #[.string ⟨#[]⟩, .string ⟨#[]⟩]) 32 rfl Tryz.underlying25 info_spair rfl (show 0 < 2 by decide) (by decide) (.slice (some ⟨w4.heap.size, 0, none⟩) 0 0) [] (toP f) _ _ _ (fun _ => True) (fun _ => False) rfl rfl (own_empty kp (Nat.le_refl _) trivial) (kp_rows (Kd.C_alloc HF4.out _)) (fun _ _ h => h) (fun _ h => h.elim) (fun _ _ => trivial) (below_alloc (Below.refl w4.heap.size w4) _) (below_alloc (Below.refl w4.heap.size w4) _).size (by simp only [List.length_nil]; omega) ?_; intro v5 w5 ho hb hg hat; have HO5 := Aside0.mk ho; have HB5 := Aside0.mk hb; have HG5 := Aside0.mk hg; clear ho hb hg hat) | (at_builtin; refine append_pair (w0 := w4) (ok := fun _ => True) (fun _ _ => trivial) 25 65 Tryz.underlying25 info_spair (.tmp 32) (.tmp 36) rfl rfl rfl rfl HO5.out HB5.out (by simp only [List.nil_append]; omega) ?_; intro v6 w6 ho hb hg; have HB6 := Aside0.mk hb; have HG6 := Aside0.mk hg; obtain ⟨A6, c6, rfl, hle6, hC6⟩ := Kd.R_reads ho; have HC6 := Aside0.mk hC6; clear ho hb hg hle6 hC6))
  have HB6w := Aside0.mk (hb_then HB4.out HB6.out)
  have HG6 := Aside0.mk (Kd.C_below HG4.out HB6.out)
  have hlen6 : ([] ++ toP f ++ [(key, value)]).length = (toP f).length + 1 := by simp only [List.nil_append, List.length_append, List.length_cons, List.length_nil]
  have cx := FitPairsL (c := c6) ([] ++ toP f ++ [(key, value)]) w6 HC6.out (by rw [hlen6, toP_length]; have := O1.out.l; omega)
  rw [want_is O1.out.r key value, hlen6] at cx
  have CX := Aside0.mk cx
  have OG := Aside0.mk (O1.out.put hk value)
  have VG := Aside0.mk (smallV_put V1.out hv (k := lb key))
  have hgl : (toP (mput f (lb key) value)).length ≤ 17179869184 := OG.out.len (by decide)
  clear cx hlen6 HC6 HG5 HO5 HB5 HB6 HF4 HG4
  generalize mput f (lb key) value = g at *
  go_wp2_with fail
  refine CX.out.mono ?_
  rintro e w7 ⟨v, rfl, hR, hb⟩
  have HB7 := Aside0.mk (hb_then HB6w.out hb)
  have HG7 := Aside0.mk (Kd.C_below HG6.out hb)
  obtain ⟨A7, c7, rfl, hle, hC⟩ := Kd.R_reads hR
  have HW7 := Aside0.mk hC
  have CL := Aside0.mk (LabelsList (c := c4) OG.out (by decide) VG.out w7 HG7.out)
  clear hR hb hle hC CX HG6
  go_wp2_with fail
  refine CL.out.mono ?_
  rintro e w8 ⟨v, zs, rfl, hR, hp, hs, hb⟩
  have HB8 := Aside0.mk (hb_then HB7.out hb)
  have HG8 := Aside0.mk (Kd.C_below HG7.out hb)
  have HW8 := Aside0.mk (Kd.C_below HW7.out hb)
  obtain ⟨A8, c8, rfl, hle, hC⟩ := Kd.R_reads hR
  have hzl : zs.length ≤ 17179869184 := by rw [hp.length_eq, List.length_map]; exact hgl
  have HZ := Aside0.mk hp
  have CS := Aside0.mk (specSorted (c := c8) zs w8 hC hzl)
  clear hR hb hle hC hp hs CL HG7 HW7
  go_wp2_with fail
  refine CS.out.mono ?_
  rintro e w9 ⟨v, ss, rfl, hR, hp, hs, hb⟩
  have HB9 := Aside0.mk (hb_then HB8.out hb)
  have HG9 := Aside0.mk (Kd.C_below HG8.out hb)
  have HW9 := Aside0.mk (Kd.C_below HW8.out hb)
  obtain ⟨A9, c9, rfl, hle, hC⟩ := Kd.R_reads hR
  have HS9 := Aside0.mk hC
  have HSP := Aside0.mk (And.intro (hp.trans HZ.out) hs)
  have CP := Aside0.mk (pairsFrom (c := c4) (toP g) w9 HG9.out hgl)
  clear hR hb hle hC hp hs CS HG8 HW8 HZ hzl
  go_wp2_with fail
  refine CP.out.mono ?_
  rintro e w10 ⟨v, rfl, hR, hb⟩
  have HB10 := Aside0.mk (hb_then HB9.out hb)
  have HW10 := Aside0.mk (Kd.C_below HW9.out hb)
  have HS10 := Aside0.mk (Kd.C_below HS9.out hb)
  obtain ⟨A10, c10, rfl, hle, hC⟩ := Kd.R_reads hR
  have cs := samePairs (c := c10) (d := c7) (toP g) (toP g) w10 hC HW10.out hgl
  rw [decide_eq_true rfl] at cs
  have CQ := Aside0.mk cs
  clear hR hb hle hC cs CP HG9 HW9 HS9
  go_wp2_with fail
  refine CQ.out.mono ?_
  rintro e w11 ⟨rfl, hb⟩
  have HB11 := Aside0.mk (hb_then HB10.out hb)
  have HW11 := Aside0.mk (Kd.C_below HW10.out hb)
  have HS11 := Aside0.mk (Kd.C_below HS10.out hb)
  have CL := Aside0.mk (Listed (c := c7) eqS (toP g) w11 HW11.out hgl (fits_toP OG.out.s VG.out) (by decide))
  clear hb CQ HW10 HS10
  go_wp2_with fail
  refine CL.out.mono ?_
  rintro e w12 ⟨v, ls, rfl, hR, hp, hs, hb⟩
  have HB12 := Aside0.mk (hb_then HB11.out hb)
  have HS12 := Aside0.mk (Kd.C_below HS11.out hb)
  obtain ⟨A12, c12, rfl, hle, hC⟩ := Kd.R_reads hR
  have ct := Texts.sameTexts (c0 := c9) (c1 := c12) (xs := ss) (ys := ls) w12 HS12.out hC
  rw [decide_eq_true (srt_unique HSP.out.2 hs (HSP.out.1.trans hp.symm))] at ct
  have CT := Aside0.mk ct
  clear hR hb hle hC hp hs ct CL HW11 HS11 HSP
  go_wp2_with fail
  refine CT.out.mono ?_
  rintro e w13 ⟨rfl, hd⟩
  have HB13 := Aside0.mk (hb_then HB12.out hd.below)
  clear hd CT HS12
  go_wp2_with fail
  refine (mapsAwake _ (HT.out.below HB13.out)).mono ?_
  rintro e w14 ⟨rfl, hb⟩
  have HB14 := Aside0.mk (hb_then HB13.out hb)
  clear hb
  go_wp2
  go_ret
  exact ⟨rfl, HB14.out⟩
set_option maxHeartbeats 1600000 in
theorem lawLabels {A : Option Addr} {c : Nat} {l : List (BA × BA)} (key value : BA) (w : World) (h : kp.C w A l.length l) (hT : MTabs w) :
    Calls Tryz.prog 9 #[.slice A l.length c, .string key, .string value] w fun e w' => e = .returned (.bool true) ∧ Below w.heap.size w w' := by
  have HC1 := Aside0.mk h
  have CF1 := Aside0.mk (zzFits3 (c := c) w HC1.out)
  by_cases f1 : fitsP l
  · by_cases hk : key.size ≤ 2147483647
    · by_cases hv : value.size ≤ 2147483647
      · exact lawLabelsGood key value w h hT f1 hk hv
      · have d1 : decide (2147483647 < (key.size : Int)) = false := decide_eq_false (by omega)
        have d2 : decide (2147483647 < (value.size : Int)) = true := decide_eq_true (by omega)
        rw [decide_eq_true f1] at CF1
        clear h hT f1 hk hv
        go_enter Tryz.func9, Tryz.ntmps9
        go_wp2_with fail
        refine CF1.out.mono ?_
        rintro e w1 ⟨rfl, hb⟩
        have HB1 := Aside0.mk hb
        clear hb
        go_wp2
        go_ret
        exact ⟨rfl, HB1.out⟩
    · have d1 : decide (2147483647 < (key.size : Int)) = true := decide_eq_true (by omega)
      rw [decide_eq_true f1] at CF1
      clear h hT f1 hk
      go_enter Tryz.func9, Tryz.ntmps9
      go_wp2_with fail
      refine CF1.out.mono ?_
      rintro e w1 ⟨rfl, hb⟩
      have HB1 := Aside0.mk hb
      clear hb
      go_wp2
      go_ret
      exact ⟨rfl, HB1.out⟩
  · rw [decide_eq_false f1] at CF1
    clear h hT f1
    go_enter Tryz.func9, Tryz.ntmps9
    go_wp2_with fail
    refine CF1.out.mono ?_
    rintro e w1 ⟨rfl, hb⟩
    have HB1 := Aside0.mk hb
    clear hb
    go_wp2
    go_ret
    exact ⟨rfl, HB1.out⟩
theorem lawLabelsRow (A : Option Addr) (c : Nat) (l : List (BA × BA)) (key value : BA) (w : World) (h : kp.C w A l.length l) (hc : l.length ≤ c) (hk : key.size ≤ 140737488351232) (hv : value.size ≤ 140737488351232) (hT : MTabs w) :
    Calls Tryz.prog 9 #[.slice A l.length c, .string key, .string value] w fun e w' => e = .returned (.bool true) ∧ Below w.heap.size w w' := lawLabels key value w h hT
end Go.Proofs.YtididniafloogaaGreatDoor.Maps
