/- The law FnMappingMerges. -/
import Derived.Test.YtididniafloogaaGreatDoorPairsMap
import Derived.Test.YtididniafloogaaGreatDoorFitsP
import Derived.Test.YtididniafloogaaGreatDoorTruth
namespace Go.Proofs.YtididniafloogaaGreatDoor.Maps
open Go.RowKit Go.Proofs.YtididniafloogaaGreatDoorW.PrintWords Go.Proofs.YtididniafloogaaGreatDoorW.PrintLast Go.Proofs.YtididniafloogaaGreatDoor.Str Go.Proofs.YtididniafloogaaGreatDoor.Kit Go.Proofs.YtididniafloogaaGreatDoor.Index Go.Proofs.YtididniafloogaaGreatDoor.Flat Go.Proofs.YtididniafloogaaGreatDoor.MapV Go.Proofs.YtididniafloogaaGreatDoor.Frame
set_option linter.unusedVariables false
set_option linter.unusedSimpArgs false
def Small (f : List (Bs × BA)) : Prop := ∀ p ∈ f, p.1.length ≤ 2147483647
theorem small_put {f : List (Bs × BA)} (h : Small f) {k : Bs} {v : BA} (hk : k.length ≤ 2147483647) : Small (mput f k v) := fun p hp => by
  unfold mput at hp
  rcases mins_mem.1 hp with rfl | hp
  · exact hk
  · exact h p (List.mem_filter.1 hp).1
theorem small_fold : ∀ (l f : List (Bs × BA)), Small l → Small f → Small (l.foldl (fun f p => mput f p.1 p.2) f)
  | [], f, _, hf => hf
  | p :: r, f, hl, hf => small_fold r _ (fun q hq => hl q (List.mem_cons_of_mem _ hq)) (small_put hf (hl p List.mem_cons_self))
theorem small_toP {f : List (Bs × BA)} (h : Small f) : ∀ p ∈ toP f, p.1.size ≤ 2147483647 := by
  intro p hp
  unfold toP at hp
  obtain ⟨q, hq, rfl⟩ := List.mem_map.1 hp
  have := h q hq
  rw [← lb_length, lb_mk]
  exact this
theorem small_fit {l : List (BA × BA)} (h : ∀ p ∈ l, p.1.size ≤ 2147483647) : Small (fitM (ofP l)) := small_fold _ _ (fun p hp => by
  unfold ofP at hp
  obtain ⟨q, hq, rfl⟩ := List.mem_map.1 hp
  show (lb q.1).length ≤ _
  rw [lb_length]
  exact h q hq) (fun p hp => by simp at hp)
/-- a rising list within a bound -/
structure Ok (N : Nat) (f : List (Bs × BA)) : Prop where
  r : Rises f
  s : Small f
  l : f.length ≤ N
theorem Ok.merge {N M : Nat} {f g : List (Bs × BA)} (h : Ok N f) (k : Ok M g) : Ok (N + M) (mergeM f g) := ⟨mergeM_rises k.r, small_fold f g h.s k.s, by have := mergeM_length f g; have := h.l; have := k.l; omega⟩
theorem Ok.nil : Ok 0 [] := ⟨List.Pairwise.nil, fun p hp => by simp at hp, by simp⟩
theorem Ok.fit {l : List (BA × BA)} (h : fitsP l) : Ok 2147483647 (fitM (ofP l)) := ⟨fitM_rises _, small_fit (fun p hp => (h.2 p hp).1), by
  have h1 := fitM_length (ofP l)
  have h2 := h.1
  simp only [ofP, List.length_map] at h1 ⊢
  omega⟩
theorem Ok.len {N : Nat} {f : List (Bs × BA)} (h : Ok N f) (hN : N ≤ 17179869184) : (toP f).length ≤ 17179869184 := by rw [toP_length]; have := h.l; omega
theorem MergeOk {A B : Option Addr} {c d N M : Nat} {f g : List (Bs × BA)} (hf : Ok N f) (hg : Ok M g) (w : World) (h : kp.C w A (toP f).length (toP f)) (k : kp.C w B (toP g).length (toP g)) (hn : N + M ≤ 17179869184) :
    Calls Tryz.prog 21 #[.slice A (toP f).length c, .slice B (toP g).length d] w fun e w' => ∃ v, e = .returned v ∧ kp.R 74 w' w.heap.size (fun _ => True) v (toP (mergeM f g)) ∧ Below w.heap.size w w' := by
  have := MappingMerge (c := c) (d := d) (toP f) (toP g) w h k (by rw [toP_length, toP_length]; have := hf.l; have := hg.l; omega) (small_toP hf.s) (small_toP hg.s)
  rw [ofP_toP, ofP_toP, fitM_id hf.r, fitM_id hg.r] at this
  exact this
set_option maxHeartbeats 6400000 in
set_option maxRecDepth 100000 in
theorem lawMerges {A B C : Option Addr} {ca cb cc : Nat} {l m n : List (BA × BA)} (w : World) (h : kp.C w A l.length l) (k : kp.C w B m.length m) (j : kp.C w C n.length n) (hT : MTabs w) :
    Calls Tryz.prog 5 #[.slice A l.length ca, .slice B m.length cb, .slice C n.length cc] w fun e w' => e = .returned (.bool true) ∧ Below w.heap.size w w' := by
  have HC1 := Aside0.mk h
  have HC2 := Aside0.mk k
  have HC3 := Aside0.mk j
  have HT := Aside0.mk hT
  have HB0 := Aside0.mk (Below.refl w.heap.size w)
  clear h k j hT
  have CF1 := Aside0.mk (zzFits3 (c := ca) w HC1.out)
  by_cases f1 : fitsP l
  · rw [decide_eq_true f1] at CF1
    have O1 := Aside0.mk (Ok.fit f1)
    have L1 := Aside0.mk f1.1
    clear f1
    by_cases f2 : fitsP m
    · have O2 := Aside0.mk (Ok.fit f2)
      have L2 := Aside0.mk f2.1
      have D2 := Aside0.mk (decide_eq_true f2)
      clear f2
      by_cases f3 : fitsP n
      · have O3 := Aside0.mk (Ok.fit f3)
        have L3 := Aside0.mk f3.1
        have D3 := Aside0.mk (decide_eq_true f3)
        clear f3
        go_enter Tryz.func5, Tryz.ntmps5
        go_wp2_with fail
        refine CF1.out.mono ?_
        rintro e w1 ⟨rfl, hb⟩
        have HB1 := Aside0.mk (hb_then HB0.out hb)
        have cf := zzFits3 (c := cb) w1 (Kd.C_below HC2.out HB1.out)
        rw [D2.out] at cf
        have CF2 := Aside0.mk cf
        clear cf hb CF1
        go_wp2_with fail
        refine CF2.out.mono ?_
        rintro e w2 ⟨rfl, hb⟩
        have HB2 := Aside0.mk (hb_then HB1.out hb)
        have cf := zzFits3 (c := cc) w2 (Kd.C_below HC3.out HB2.out)
        rw [D3.out] at cf
        have CF3 := Aside0.mk cf
        clear cf hb CF2
        go_wp2_with fail
        refine CF3.out.mono ?_
        rintro e w3 ⟨rfl, hb⟩
        have HB3 := Aside0.mk (hb_then HB2.out hb)
        clear hb CF3
        have cf := FitPairs (c := ca) l w3 (Kd.C_below HC1.out HB3.out) L1.out
        have CX := Aside0.mk cf
        clear cf
        go_wp2_with fail
        refine CX.out.mono ?_
        rintro e w4 ⟨v, rfl, hR, hb⟩
        have HB4 := Aside0.mk (hb_then HB3.out hb)
        obtain ⟨AF, cF, rfl, hle, hC⟩ := Kd.R_reads hR
        have HF := Aside0.mk hC
        clear hR hb hle hC CX
        have cf := FitPairs (c := cb) m w4 (Kd.C_below HC2.out HB4.out) L2.out
        have CX := Aside0.mk cf
        clear cf
        go_wp2_with fail
        refine CX.out.mono ?_
        rintro e w5 ⟨v, rfl, hR, hb⟩
        have HB5 := Aside0.mk (hb_then HB4.out hb)
        have hn := Kd.C_below HF.out hb
        clear HF
        have HF := Aside0.mk hn
        clear hn
        obtain ⟨AG, cG, rfl, hle, hC⟩ := Kd.R_reads hR
        have HG := Aside0.mk hC
        clear hR hb hle hC CX
        have cf := FitPairs (c := cc) n w5 (Kd.C_below HC3.out HB5.out) L3.out
        have CX := Aside0.mk cf
        clear cf
        go_wp2_with fail
        refine CX.out.mono ?_
        rintro e w6 ⟨v, rfl, hR, hb⟩
        have HB6 := Aside0.mk (hb_then HB5.out hb)
        have hn := Kd.C_below HF.out hb
        clear HF
        have HF := Aside0.mk hn
        clear hn
        have hn := Kd.C_below HG.out hb
        clear HG
        have HG := Aside0.mk hn
        clear hn
        obtain ⟨AH, cH, rfl, hle, hC⟩ := Kd.R_reads hR
        have HH := Aside0.mk hC
        clear hR hb hle hC CX
        generalize fitM (ofP l) = f at *
        generalize fitM (ofP m) = g at *
        generalize fitM (ofP n) = hh at *
        have cf := pairsTo (c := cF) (toP f) w6 HF.out (O1.out.len (by decide))
        have CX := Aside0.mk cf
        clear cf
        go_wp2_with fail
        refine CX.out.mono ?_
        rintro e w7 ⟨v, rfl, hR, hb⟩
        have HB7 := Aside0.mk (hb_then HB6.out hb)
        have hn := Kd.C_below HF.out hb
        clear HF
        have HF := Aside0.mk hn
        clear hn
        have hn := Kd.C_below HG.out hb
        clear HG
        have HG := Aside0.mk hn
        clear hn
        have hn := Kd.C_below HH.out hb
        clear HH
        have HH := Aside0.mk hn
        clear hn
        obtain ⟨AP, cP, rfl, hle, hC⟩ := Kd.R_reads hR
        have HP := Aside0.mk hC
        clear hR hb hle hC CX
        have cf := pairsTo (c := cG) (toP g) w7 HG.out (O2.out.len (by decide))
        have CX := Aside0.mk cf
        clear cf
        go_wp2_with fail
        refine CX.out.mono ?_
        rintro e w8 ⟨v, rfl, hR, hb⟩
        have HB8 := Aside0.mk (hb_then HB7.out hb)
        have hn := Kd.C_below HF.out hb
        clear HF
        have HF := Aside0.mk hn
        clear hn
        have hn := Kd.C_below HG.out hb
        clear HG
        have HG := Aside0.mk hn
        clear hn
        have hn := Kd.C_below HH.out hb
        clear HH
        have HH := Aside0.mk hn
        clear hn
        have hn := Kd.C_below HP.out hb
        clear HP
        have HP := Aside0.mk hn
        clear hn
        obtain ⟨AQ, cQ, rfl, hle, hC⟩ := Kd.R_reads hR
        have HQ := Aside0.mk hC
        clear hR hb hle hC CX
        have cf := MergeOk (c := cP) (d := cQ) O1.out O2.out w8 HP.out HQ.out (by decide)
        have CX := Aside0.mk cf
        clear cf
        go_wp2_with fail
        refine CX.out.mono ?_
        rintro e w9 ⟨v, rfl, hR, hb⟩
        have HB9 := Aside0.mk (hb_then HB8.out hb)
        have hn := Kd.C_below HF.out hb
        clear HF
        have HF := Aside0.mk hn
        clear hn
        have hn := Kd.C_below HG.out hb
        clear HG
        have HG := Aside0.mk hn
        clear hn
        have hn := Kd.C_below HH.out hb
        clear HH
        have HH := Aside0.mk hn
        clear hn
        clear HP
        clear HQ
        obtain ⟨AR, cR, rfl, hle, hC⟩ := Kd.R_reads hR
        have HR := Aside0.mk hC
        clear hR hb hle hC CX
        have cf := pairsTo (c := cH) (toP hh) w9 HH.out (O3.out.len (by decide))
        have CX := Aside0.mk cf
        clear cf
        go_wp2_with fail
        refine CX.out.mono ?_
        rintro e w10 ⟨v, rfl, hR, hb⟩
        have HB10 := Aside0.mk (hb_then HB9.out hb)
        have hn := Kd.C_below HF.out hb
        clear HF
        have HF := Aside0.mk hn
        clear hn
        have hn := Kd.C_below HG.out hb
        clear HG
        have HG := Aside0.mk hn
        clear hn
        have hn := Kd.C_below HH.out hb
        clear HH
        have HH := Aside0.mk hn
        clear hn
        have hn := Kd.C_below HR.out hb
        clear HR
        have HR := Aside0.mk hn
        clear hn
        obtain ⟨AP, cP, rfl, hle, hC⟩ := Kd.R_reads hR
        have HP := Aside0.mk hC
        clear hR hb hle hC CX
        have cf := MergeOk (c := cR) (d := cP) (O1.out.merge O2.out) O3.out w10 HR.out HP.out (by decide)
        have CX := Aside0.mk cf
        clear cf
        go_wp2_with fail
        refine CX.out.mono ?_
        rintro e w11 ⟨v, rfl, hR, hb⟩
        have HB11 := Aside0.mk (hb_then HB10.out hb)
        have hn := Kd.C_below HF.out hb
        clear HF
        have HF := Aside0.mk hn
        clear hn
        have hn := Kd.C_below HG.out hb
        clear HG
        have HG := Aside0.mk hn
        clear hn
        have hn := Kd.C_below HH.out hb
        clear HH
        have HH := Aside0.mk hn
        clear hn
        clear HR
        clear HP
        obtain ⟨AX, cX, rfl, hle, hC⟩ := Kd.R_reads hR
        have HX := Aside0.mk hC
        clear hR hb hle hC CX
        have cf := pairsTo (c := cF) (toP f) w11 HF.out (O1.out.len (by decide))
        have CX := Aside0.mk cf
        clear cf
        go_wp2_with fail
        refine CX.out.mono ?_
        rintro e w12 ⟨v, rfl, hR, hb⟩
        have HB12 := Aside0.mk (hb_then HB11.out hb)
        have hn := Kd.C_below HF.out hb
        clear HF
        have HF := Aside0.mk hn
        clear hn
        have hn := Kd.C_below HG.out hb
        clear HG
        have HG := Aside0.mk hn
        clear hn
        have hn := Kd.C_below HH.out hb
        clear HH
        have HH := Aside0.mk hn
        clear hn
        have hn := Kd.C_below HX.out hb
        clear HX
        have HX := Aside0.mk hn
        clear hn
        obtain ⟨AP, cP, rfl, hle, hC⟩ := Kd.R_reads hR
        have HP := Aside0.mk hC
        clear hR hb hle hC CX
        have cf := pairsTo (c := cG) (toP g) w12 HG.out (O2.out.len (by decide))
        have CX := Aside0.mk cf
        clear cf
        go_wp2_with fail
        refine CX.out.mono ?_
        rintro e w13 ⟨v, rfl, hR, hb⟩
        have HB13 := Aside0.mk (hb_then HB12.out hb)
        have hn := Kd.C_below HF.out hb
        clear HF
        have HF := Aside0.mk hn
        clear hn
        have hn := Kd.C_below HG.out hb
        clear HG
        have HG := Aside0.mk hn
        clear hn
        have hn := Kd.C_below HH.out hb
        clear HH
        have HH := Aside0.mk hn
        clear hn
        have hn := Kd.C_below HX.out hb
        clear HX
        have HX := Aside0.mk hn
        clear hn
        have hn := Kd.C_below HP.out hb
        clear HP
        have HP := Aside0.mk hn
        clear hn
        obtain ⟨AQ, cQ, rfl, hle, hC⟩ := Kd.R_reads hR
        have HQ := Aside0.mk hC
        clear hR hb hle hC CX
        have cf := pairsTo (c := cH) (toP hh) w13 HH.out (O3.out.len (by decide))
        have CX := Aside0.mk cf
        clear cf
        go_wp2_with fail
        refine CX.out.mono ?_
        rintro e w14 ⟨v, rfl, hR, hb⟩
        have HB14 := Aside0.mk (hb_then HB13.out hb)
        have hn := Kd.C_below HF.out hb
        clear HF
        have HF := Aside0.mk hn
        clear hn
        have hn := Kd.C_below HG.out hb
        clear HG
        have HG := Aside0.mk hn
        clear hn
        have hn := Kd.C_below HH.out hb
        clear HH
        have HH := Aside0.mk hn
        clear hn
        have hn := Kd.C_below HX.out hb
        clear HX
        have HX := Aside0.mk hn
        clear hn
        have hn := Kd.C_below HP.out hb
        clear HP
        have HP := Aside0.mk hn
        clear hn
        have hn := Kd.C_below HQ.out hb
        clear HQ
        have HQ := Aside0.mk hn
        clear hn
        obtain ⟨AR, cR, rfl, hle, hC⟩ := Kd.R_reads hR
        have HR := Aside0.mk hC
        clear hR hb hle hC CX
        have cf := MergeOk (c := cQ) (d := cR) O2.out O3.out w14 HQ.out HR.out (by decide)
        have CX := Aside0.mk cf
        clear cf
        go_wp2_with fail
        refine CX.out.mono ?_
        rintro e w15 ⟨v, rfl, hR, hb⟩
        have HB15 := Aside0.mk (hb_then HB14.out hb)
        have hn := Kd.C_below HF.out hb
        clear HF
        have HF := Aside0.mk hn
        clear hn
        have hn := Kd.C_below HG.out hb
        clear HG
        have HG := Aside0.mk hn
        clear hn
        have hn := Kd.C_below HH.out hb
        clear HH
        have HH := Aside0.mk hn
        clear hn
        have hn := Kd.C_below HX.out hb
        clear HX
        have HX := Aside0.mk hn
        clear hn
        have hn := Kd.C_below HP.out hb
        clear HP
        have HP := Aside0.mk hn
        clear hn
        clear HQ
        clear HR
        obtain ⟨AS, cS, rfl, hle, hC⟩ := Kd.R_reads hR
        have HS := Aside0.mk hC
        clear hR hb hle hC CX
        have cf := MergeOk (c := cP) (d := cS) O1.out (O2.out.merge O3.out) w15 HP.out HS.out (by decide)
        rw [← mergeM_assoc O1.out.r O2.out.r O3.out.r] at cf
        have CX := Aside0.mk cf
        clear cf
        go_wp2_with fail
        refine CX.out.mono ?_
        rintro e w16 ⟨v, rfl, hR, hb⟩
        have HB16 := Aside0.mk (hb_then HB15.out hb)
        have hn := Kd.C_below HF.out hb
        clear HF
        have HF := Aside0.mk hn
        clear hn
        have hn := Kd.C_below HX.out hb
        clear HX
        have HX := Aside0.mk hn
        clear hn
        clear HG
        clear HH
        clear HP
        clear HS
        obtain ⟨AY, cY, rfl, hle, hC⟩ := Kd.R_reads hR
        have HY := Aside0.mk hC
        clear hR hb hle hC CX
        have cf := pairsTo (c := cF) (toP f) w16 HF.out (O1.out.len (by decide))
        have CX := Aside0.mk cf
        clear cf
        go_wp2_with fail
        refine CX.out.mono ?_
        rintro e w17 ⟨v, rfl, hR, hb⟩
        have HB17 := Aside0.mk (hb_then HB16.out hb)
        have hn := Kd.C_below HF.out hb
        clear HF
        have HF := Aside0.mk hn
        clear hn
        have hn := Kd.C_below HX.out hb
        clear HX
        have HX := Aside0.mk hn
        clear hn
        have hn := Kd.C_below HY.out hb
        clear HY
        have HY := Aside0.mk hn
        clear hn
        obtain ⟨AP, cP, rfl, hle, hC⟩ := Kd.R_reads hR
        have HP := Aside0.mk hC
        clear hR hb hle hC CX
        have cf := pairsTo (c := cF) (toP f) w17 HF.out (O1.out.len (by decide))
        have CX := Aside0.mk cf
        clear cf
        go_wp2_with fail
        refine CX.out.mono ?_
        rintro e w18 ⟨v, rfl, hR, hb⟩
        have HB18 := Aside0.mk (hb_then HB17.out hb)
        have hn := Kd.C_below HF.out hb
        clear HF
        have HF := Aside0.mk hn
        clear hn
        have hn := Kd.C_below HX.out hb
        clear HX
        have HX := Aside0.mk hn
        clear hn
        have hn := Kd.C_below HY.out hb
        clear HY
        have HY := Aside0.mk hn
        clear hn
        have hn := Kd.C_below HP.out hb
        clear HP
        have HP := Aside0.mk hn
        clear hn
        obtain ⟨AQ, cQ, rfl, hle, hC⟩ := Kd.R_reads hR
        have HQ := Aside0.mk hC
        clear hR hb hle hC CX
        have cf := MergeOk (c := cP) (d := cQ) O1.out O1.out w18 HP.out HQ.out (by decide)
        rw [mergeM_self O1.out.r] at cf
        have CX := Aside0.mk cf
        clear cf
        go_wp2_with fail
        refine CX.out.mono ?_
        rintro e w19 ⟨v, rfl, hR, hb⟩
        have HB19 := Aside0.mk (hb_then HB18.out hb)
        have hn := Kd.C_below HF.out hb
        clear HF
        have HF := Aside0.mk hn
        clear hn
        have hn := Kd.C_below HX.out hb
        clear HX
        have HX := Aside0.mk hn
        clear hn
        have hn := Kd.C_below HY.out hb
        clear HY
        have HY := Aside0.mk hn
        clear hn
        clear HP
        clear HQ
        obtain ⟨AZ, cZ, rfl, hle, hC⟩ := Kd.R_reads hR
        have HZ := Aside0.mk hC
        clear hR hb hle hC CX
        have cf := pairsTo (c := cF) (toP f) w19 HF.out (O1.out.len (by decide))
        have CX := Aside0.mk cf
        clear cf
        go_wp2_with fail
        refine CX.out.mono ?_
        rintro e w20 ⟨v, rfl, hR, hb⟩
        have HB20 := Aside0.mk (hb_then HB19.out hb)
        have hn := Kd.C_below HF.out hb
        clear HF
        have HF := Aside0.mk hn
        clear hn
        have hn := Kd.C_below HX.out hb
        clear HX
        have HX := Aside0.mk hn
        clear hn
        have hn := Kd.C_below HY.out hb
        clear HY
        have HY := Aside0.mk hn
        clear hn
        have hn := Kd.C_below HZ.out hb
        clear HZ
        have HZ := Aside0.mk hn
        clear hn
        obtain ⟨AP, cP, rfl, hle, hC⟩ := Kd.R_reads hR
        have HP := Aside0.mk hC
        clear hR hb hle hC CX
        have cf := MergeOk (c := cP) (d := 0) (B := none) O1.out Ok.nil w20 HP.out (kp_none _ _) (by decide)
        rw [mergeM_nil O1.out.r] at cf
        rw [show (toP ([] : List (Bs × BA))).length = 0 from rfl] at cf
        have CX := Aside0.mk cf
        clear cf
        go_wp2_with fail
        refine CX.out.mono ?_
        rintro e w21 ⟨v, rfl, hR, hb⟩
        have HB21 := Aside0.mk (hb_then HB20.out hb)
        have hn := Kd.C_below HF.out hb
        clear HF
        have HF := Aside0.mk hn
        clear hn
        have hn := Kd.C_below HX.out hb
        clear HX
        have HX := Aside0.mk hn
        clear hn
        have hn := Kd.C_below HY.out hb
        clear HY
        have HY := Aside0.mk hn
        clear hn
        have hn := Kd.C_below HZ.out hb
        clear HZ
        have HZ := Aside0.mk hn
        clear hn
        clear HP
        obtain ⟨AT, cT, rfl, hle, hC⟩ := Kd.R_reads hR
        have HT := Aside0.mk hC
        clear hR hb hle hC CX
        have cf := pairsFrom (c := cX) (toP (mergeM (mergeM f g) hh)) w21 HX.out ((((O1.out.merge O2.out).merge O3.out)).len (by decide))
        have CX := Aside0.mk cf
        clear cf
        go_wp2_with fail
        refine CX.out.mono ?_
        rintro e w22 ⟨v, rfl, hR, hb⟩
        have HB22 := Aside0.mk (hb_then HB21.out hb)
        have hn := Kd.C_below HF.out hb
        clear HF
        have HF := Aside0.mk hn
        clear hn
        have hn := Kd.C_below HY.out hb
        clear HY
        have HY := Aside0.mk hn
        clear hn
        have hn := Kd.C_below HZ.out hb
        clear HZ
        have HZ := Aside0.mk hn
        clear hn
        have hn := Kd.C_below HT.out hb
        clear HT
        have HT := Aside0.mk hn
        clear hn
        clear HX
        obtain ⟨AU, cU, rfl, hle, hC⟩ := Kd.R_reads hR
        have HU := Aside0.mk hC
        clear hR hb hle hC CX
        have cf := pairsFrom (c := cY) (toP (mergeM (mergeM f g) hh)) w22 HY.out ((((O1.out.merge O2.out).merge O3.out)).len (by decide))
        have CX := Aside0.mk cf
        clear cf
        go_wp2_with fail
        refine CX.out.mono ?_
        rintro e w23 ⟨v, rfl, hR, hb⟩
        have HB23 := Aside0.mk (hb_then HB22.out hb)
        have hn := Kd.C_below HF.out hb
        clear HF
        have HF := Aside0.mk hn
        clear hn
        have hn := Kd.C_below HZ.out hb
        clear HZ
        have HZ := Aside0.mk hn
        clear hn
        have hn := Kd.C_below HT.out hb
        clear HT
        have HT := Aside0.mk hn
        clear hn
        have hn := Kd.C_below HU.out hb
        clear HU
        have HU := Aside0.mk hn
        clear hn
        clear HY
        obtain ⟨AV, cV, rfl, hle, hC⟩ := Kd.R_reads hR
        have HV := Aside0.mk hC
        clear hR hb hle hC CX
        have cf := samePairs (c := cU) (d := cV) _ _ w23 HU.out HV.out (((O1.out.merge O2.out).merge O3.out).len (by decide))
        rw [decide_eq_true rfl] at cf
        have CX := Aside0.mk cf
        clear cf
        go_wp2_with fail
        refine CX.out.mono ?_
        rintro e w24 ⟨rfl, hb⟩
        have HB24 := Aside0.mk (hb_then HB23.out hb)
        have hn := Kd.C_below HF.out hb
        clear HF
        have HF := Aside0.mk hn
        clear hn
        have hn := Kd.C_below HZ.out hb
        clear HZ
        have HZ := Aside0.mk hn
        clear hn
        have hn := Kd.C_below HT.out hb
        clear HT
        have HT := Aside0.mk hn
        clear hn
        clear HU
        clear HV
        clear hb CX
        have cf := pairsFrom (c := cZ) (toP (f)) w24 HZ.out (O1.out.len (by decide))
        have CX := Aside0.mk cf
        clear cf
        go_wp2_with fail
        refine CX.out.mono ?_
        rintro e w25 ⟨v, rfl, hR, hb⟩
        have HB25 := Aside0.mk (hb_then HB24.out hb)
        have hn := Kd.C_below HF.out hb
        clear HF
        have HF := Aside0.mk hn
        clear hn
        have hn := Kd.C_below HT.out hb
        clear HT
        have HT := Aside0.mk hn
        clear hn
        clear HZ
        obtain ⟨AU, cU, rfl, hle, hC⟩ := Kd.R_reads hR
        have HU := Aside0.mk hC
        clear hR hb hle hC CX
        have cf := samePairs (c := cU) (d := cF) _ _ w25 HU.out HF.out (O1.out.len (by decide))
        rw [decide_eq_true rfl] at cf
        have CX := Aside0.mk cf
        clear cf
        go_wp2_with fail
        refine CX.out.mono ?_
        rintro e w26 ⟨rfl, hb⟩
        have HB26 := Aside0.mk (hb_then HB25.out hb)
        have hn := Kd.C_below HF.out hb
        clear HF
        have HF := Aside0.mk hn
        clear hn
        have hn := Kd.C_below HT.out hb
        clear HT
        have HT := Aside0.mk hn
        clear hn
        clear HU
        clear hb CX
        have cf := pairsFrom (c := cT) (toP (f)) w26 HT.out (O1.out.len (by decide))
        have CX := Aside0.mk cf
        clear cf
        go_wp2_with fail
        refine CX.out.mono ?_
        rintro e w27 ⟨v, rfl, hR, hb⟩
        have HB27 := Aside0.mk (hb_then HB26.out hb)
        have hn := Kd.C_below HF.out hb
        clear HF
        have HF := Aside0.mk hn
        clear hn
        clear HT
        obtain ⟨AU, cU, rfl, hle, hC⟩ := Kd.R_reads hR
        have HU := Aside0.mk hC
        clear hR hb hle hC CX
        have cf := samePairs (c := cU) (d := cF) _ _ w27 HU.out HF.out (O1.out.len (by decide))
        rw [decide_eq_true rfl] at cf
        have CX := Aside0.mk cf
        clear cf
        go_wp2_with fail
        refine CX.out.mono ?_
        rintro e w28 ⟨rfl, hb⟩
        have HB28 := Aside0.mk (hb_then HB27.out hb)
        clear HF
        clear HU
        clear hb CX
        have cf := mapsAwake w28 (HT.out.below HB28.out)
        have CX := Aside0.mk cf
        clear cf
        go_wp2_with fail
        refine CX.out.mono ?_
        rintro e w29 ⟨rfl, hb⟩
        have HB29 := Aside0.mk (hb_then HB28.out hb)
        clear hb CX
        go_wp2
        go_ret
        exact ⟨rfl, HB29.out⟩
      · have D3 := Aside0.mk (decide_eq_false f3)
        clear f3
        go_enter Tryz.func5, Tryz.ntmps5
        go_wp2_with fail
        refine CF1.out.mono ?_
        rintro e w1 ⟨rfl, hb⟩
        have HB1 := Aside0.mk (hb_then HB0.out hb)
        have cf := zzFits3 (c := cb) w1 (Kd.C_below HC2.out HB1.out)
        rw [D2.out] at cf
        have CF2 := Aside0.mk cf
        clear cf hb CF1
        go_wp2_with fail
        refine CF2.out.mono ?_
        rintro e w2 ⟨rfl, hb⟩
        have HB2 := Aside0.mk (hb_then HB1.out hb)
        have cf := zzFits3 (c := cc) w2 (Kd.C_below HC3.out HB2.out)
        rw [D3.out] at cf
        have CF3 := Aside0.mk cf
        clear cf hb CF2
        go_wp2_with fail
        refine CF3.out.mono ?_
        rintro e w3 ⟨rfl, hb⟩
        have HB3 := Aside0.mk (hb_then HB2.out hb)
        clear hb
        go_wp2
        go_ret
        exact ⟨rfl, HB3.out⟩
    · have D2 := Aside0.mk (decide_eq_false f2)
      clear f2
      go_enter Tryz.func5, Tryz.ntmps5
      go_wp2_with fail
      refine CF1.out.mono ?_
      rintro e w1 ⟨rfl, hb⟩
      have HB1 := Aside0.mk (hb_then HB0.out hb)
      have cf := zzFits3 (c := cb) w1 (Kd.C_below HC2.out HB1.out)
      rw [D2.out] at cf
      have CF2 := Aside0.mk cf
      clear cf hb CF1
      go_wp2_with fail
      refine CF2.out.mono ?_
      rintro e w2 ⟨rfl, hb⟩
      have HB2 := Aside0.mk (hb_then HB1.out hb)
      clear hb
      go_wp2
      go_ret
      exact ⟨rfl, HB2.out⟩
  · rw [decide_eq_false f1] at CF1
    clear f1
    go_enter Tryz.func5, Tryz.ntmps5
    go_wp2_with fail
    refine CF1.out.mono ?_
    rintro e w1 ⟨rfl, hb⟩
    have HB1 := Aside0.mk (hb_then HB0.out hb)
    clear hb
    go_wp2
    go_ret
    exact ⟨rfl, HB1.out⟩
theorem lawMergesRow (A : Option Addr) (ca : Nat) (l : List (BA × BA)) (B : Option Addr) (cb : Nat) (m : List (BA × BA)) (C : Option Addr) (cc : Nat) (n : List (BA × BA)) (w : World) (h : kp.C w A l.length l) (hc : l.length ≤ ca) (k : kp.C w B m.length m) (hd : m.length ≤ cb) (j : kp.C w C n.length n) (he : n.length ≤ cc) (hT : MTabs w) :
    Calls Tryz.prog 5 #[.slice A l.length ca, .slice B m.length cb, .slice C n.length cc] w fun e w' => e = .returned (.bool true) ∧ Below w.heap.size w w' := lawMerges w h k j hT
end Go.Proofs.YtididniafloogaaGreatDoor.Maps
