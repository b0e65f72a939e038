/- The law FnMappingRoads. -/
import Derived.Test.YtididniafloogaaGreatDoorOptAll
import Derived.Test.YtididniafloogaaGreatDoorTexts
namespace Go.Proofs.YtididniafloogaaGreatDoor.Maps
open Go.RowKit Go.Proofs.YtididniafloogaaGreatDoorW.PrintWords Go.Proofs.YtididniafloogaaGreatDoorW.PrintLast Go.Proofs.YtididniafloogaaGreatDoor.Str Go.Proofs.YtididniafloogaaGreatDoor.Kit Go.Proofs.YtididniafloogaaGreatDoor.Index Go.Proofs.YtididniafloogaaGreatDoor.Flat Go.Proofs.YtididniafloogaaGreatDoor.MapV Go.Proofs.YtididniafloogaaGreatDoor.Frame
set_option linter.unusedVariables false
set_option linter.unusedSimpArgs false
set_option maxHeartbeats 12800000 in
set_option maxRecDepth 100000 in
theorem lawRoads {A : Option Addr} {c : Nat} {l : List BA} (w0 : World) (h : Kd.string.C w0 A l.length l) (hT : MTabs w0) :
    Calls Tryz.prog 10 #[.slice A l.length c] w0 fun e w' => e = .returned (.bool true) ∧ Below w0.heap.size w0 w' := by
  have HL := Aside0.mk h
  have HT := Aside0.mk hT
  have HB0 := Aside0.mk (Below.refl w0.heap.size w0)
  clear h hT
  have CF1 := Aside0.mk (Texts.zzFits2 (c := c) w0 HL.out)
  by_cases f1 : Texts.fits l
  · rw [decide_eq_true f1] at CF1
    have FN := Aside0.mk f1.1
    have FS := Aside0.mk f1.2
    have OK := Aside0.mk (ok_newM f1.2 f1.1)
    have SV := Aside0.mk (small_newM f1.2)
    have hml : (toP (newM l)).length ≤ 17179869184 := OK.out.len (by decide)
    have hol : (toO (newO l)).length ≤ 17179869184 := by rw [toO_length]; have := newO_length l; have := f1.1; omega
    have SO := Aside0.mk (show ∀ p ∈ newO l, p.1.length ≤ 2147483647 from fun p hp => by
      have h2 := OK.out.s (p.1, p.2.getD ⟨#[]⟩) (by rw [← newO_newM]; exact List.mem_map_of_mem hp)
      exact h2)
    have AF := Aside0.mk (all_full (l := l))
    have AG := Aside0.mk (fun zs hp => again_is (l := l) (zs := zs) hp)
    have RO := Aside0.mk (newO_rises l)
    obtain ⟨m, hm⟩ : ∃ m, newM l = m := ⟨_, rfl⟩
    obtain ⟨o, ho⟩ : ∃ o, newO l = o := ⟨_, rfl⟩
    rw [hm] at OK SV hml AF AG
    rw [ho] at hol SO AF RO
    have HMQ := Aside0.mk hm
    have HOQ := Aside0.mk ho
    clear f1 hm ho
    go_enter Tryz.func10, Tryz.ntmps10
    go_wp2_with fail
    refine CF1.out.mono ?_
    rintro e wz ⟨rfl, rfl⟩
    clear CF1
    have cf := implNewMapping (c := c) l w0 HL.out FN.out FS.out
    rw [HMQ.out] at cf
    have CX := Aside0.mk cf
    clear cf
    go_wp2_with fail
    refine CX.out.mono ?_
    rintro e w1 ⟨v, rfl, hR, hb⟩
    have HB1 := Aside0.mk (hb_then HB0.out hb)
    obtain ⟨Am, cm, rfl, hle, hC⟩ := Kd.R_reads hR
    have Hm := Aside0.mk hC
    clear hR hb hle hC CX
    have cf := implNewEquals (c := c) l w1 (Kd.C_below HL.out HB1.out) FN.out FS.out
    rw [HOQ.out] at cf
    have CX := Aside0.mk cf
    clear cf
    go_wp2_with fail
    refine CX.out.mono ?_
    rintro e w2 ⟨v, rfl, hR, hb⟩
    have HB2 := Aside0.mk (hb_then HB1.out hb)
    have hn := Kd.C_below Hm.out hb
    clear Hm
    have Hm := Aside0.mk hn
    clear hn
    obtain ⟨Ae, ce, rfl, hle, hC⟩ := Kd.R_reads hR
    have He := Aside0.mk hC
    clear hR hb hle hC CX
    have cf := MappingValues (c := cm) OK.out (by decide) SV.out.2 w2 Hm.out
    have CX := Aside0.mk cf
    clear cf
    go_wp2_with fail
    refine CX.out.mono ?_
    rintro e w3 ⟨v, zt, rfl, hR, hp, hs, hb⟩
    have HB3 := Aside0.mk (hb_then HB2.out hb)
    have hn := Kd.C_below Hm.out hb
    clear Hm
    have Hm := Aside0.mk hn
    clear hn
    have hn := Kd.C_below He.out hb
    clear He
    have He := Aside0.mk hn
    clear hn
    obtain ⟨At, ct, rfl, hle, hC⟩ := Kd.R_reads hR
    have Ht := Aside0.mk hC
    have Pt := Aside0.mk (And.intro hp hs)
    have lt : zt.length ≤ 17179869184 := by rw [hp.length_eq, List.length_map]; exact hml
    clear hR hb hle hC CX hp hs
    have cf := specSorted (c := ct) zt w3 Ht.out lt
    have CX := Aside0.mk cf
    clear cf
    go_wp2_with fail
    refine CX.out.mono ?_
    rintro e w4 ⟨v, zx, rfl, hR, hp, hs, hb⟩
    have HB4 := Aside0.mk (hb_then HB3.out hb)
    have hn := Kd.C_below Hm.out hb
    clear Hm
    have Hm := Aside0.mk hn
    clear hn
    have hn := Kd.C_below He.out hb
    clear He
    have He := Aside0.mk hn
    clear hn
    clear Ht
    obtain ⟨Ax, cx, rfl, hle, hC⟩ := Kd.R_reads hR
    have Hx := Aside0.mk hC
    have Px := Aside0.mk (And.intro hp hs)
    have QX := Aside0.mk (hp.trans Pt.out.1)
    clear Pt lt
    clear hR hb hle hC CX hp hs
    have cf := pairsFrom (c := cm) (toP (m)) w4 Hm.out hml
    have CX := Aside0.mk cf
    clear cf
    go_wp2_with fail
    refine CX.out.mono ?_
    rintro e w5 ⟨v, rfl, hR, hb⟩
    have HB5 := Aside0.mk (hb_then HB4.out hb)
    have hn := Kd.C_below Hm.out hb
    clear Hm
    have Hm := Aside0.mk hn
    clear hn
    have hn := Kd.C_below He.out hb
    clear He
    have He := Aside0.mk hn
    clear hn
    have hn := Kd.C_below Hx.out hb
    clear Hx
    have Hx := Aside0.mk hn
    clear hn
    obtain ⟨Ap, cp, rfl, hle, hC⟩ := Kd.R_reads hR
    have Hp := Aside0.mk hC
    clear hR hb hle hC CX
    have cf := Listed (c := cp) eqS (toP (m)) w5 Hp.out hml (fits_toP OK.out.s SV.out.2) (by decide)
    have CX := Aside0.mk cf
    clear cf
    go_wp2_with fail
    refine CX.out.mono ?_
    rintro e w6 ⟨v, zy, rfl, hR, hp, hs, hb⟩
    have HB6 := Aside0.mk (hb_then HB5.out hb)
    have hn := Kd.C_below Hm.out hb
    clear Hm
    have Hm := Aside0.mk hn
    clear hn
    have hn := Kd.C_below He.out hb
    clear He
    have He := Aside0.mk hn
    clear hn
    have hn := Kd.C_below Hx.out hb
    clear Hx
    have Hx := Aside0.mk hn
    clear hn
    clear Hp
    obtain ⟨Ay, cy, rfl, hle, hC⟩ := Kd.R_reads hR
    have Hy := Aside0.mk hC
    have Py := Aside0.mk (And.intro hp hs)
    clear hR hb hle hC CX hp hs
    have cf := MappingValues (c := cm) OK.out (by decide) SV.out.2 w6 Hm.out
    have CX := Aside0.mk cf
    clear cf
    go_wp2_with fail
    refine CX.out.mono ?_
    rintro e w7 ⟨v, zt, rfl, hR, hp, hs, hb⟩
    have HB7 := Aside0.mk (hb_then HB6.out hb)
    have hn := Kd.C_below Hm.out hb
    clear Hm
    have Hm := Aside0.mk hn
    clear hn
    have hn := Kd.C_below He.out hb
    clear He
    have He := Aside0.mk hn
    clear hn
    have hn := Kd.C_below Hx.out hb
    clear Hx
    have Hx := Aside0.mk hn
    clear hn
    have hn := Kd.C_below Hy.out hb
    clear Hy
    have Hy := Aside0.mk hn
    clear hn
    obtain ⟨At, ct, rfl, hle, hC⟩ := Kd.R_reads hR
    have Ht := Aside0.mk hC
    have Pt := Aside0.mk (And.intro hp hs)
    have lt : zt.length ≤ 2147483647 := by rw [hp.length_eq, List.length_map, toP_length]; exact OK.out.l
    clear hR hb hle hC CX hp hs
    have cf := implNewMappingL (c := ct) zt w7 Ht.out lt (fun s hs => by have := eqText_size OK.out.s SV.out.2 Pt.out.1 s hs; omega)
    rw [AG.out zt Pt.out.1] at cf
    have CX := Aside0.mk cf
    clear cf
    go_wp2_with fail
    refine CX.out.mono ?_
    rintro e w8 ⟨v, rfl, hR, hb⟩
    have HB8 := Aside0.mk (hb_then HB7.out hb)
    have hn := Kd.C_below Hm.out hb
    clear Hm
    have Hm := Aside0.mk hn
    clear hn
    have hn := Kd.C_below He.out hb
    clear He
    have He := Aside0.mk hn
    clear hn
    have hn := Kd.C_below Hx.out hb
    clear Hx
    have Hx := Aside0.mk hn
    clear hn
    have hn := Kd.C_below Hy.out hb
    clear Hy
    have Hy := Aside0.mk hn
    clear hn
    clear Ht
    obtain ⟨Ag, cg, rfl, hle, hC⟩ := Kd.R_reads hR
    have Hg := Aside0.mk hC
    clear Pt lt
    clear hR hb hle hC CX
    have cf := MappingToEquals (c := cm) OK.out (by decide) w8 Hm.out
    have CX := Aside0.mk cf
    clear cf
    go_wp2_with fail
    refine CX.out.mono ?_
    rintro e w9 ⟨v, rfl, hR, hb⟩
    have HB9 := Aside0.mk (hb_then HB8.out hb)
    have hn := Kd.C_below Hm.out hb
    clear Hm
    have Hm := Aside0.mk hn
    clear hn
    have hn := Kd.C_below He.out hb
    clear He
    have He := Aside0.mk hn
    clear hn
    have hn := Kd.C_below Hx.out hb
    clear Hx
    have Hx := Aside0.mk hn
    clear hn
    have hn := Kd.C_below Hy.out hb
    clear Hy
    have Hy := Aside0.mk hn
    clear hn
    have hn := Kd.C_below Hg.out hb
    clear Hg
    have Hg := Aside0.mk hn
    clear hn
    obtain ⟨Aq, cq, rfl, hle, hC⟩ := Kd.R_reads hR
    have Hq := Aside0.mk hC
    clear hR hb hle hC CX
    have cf := optsFrom (c := cq) (toO (allO (m))) w9 Hq.out (by rw [toO_length, allO_length, ← toP_length]; exact hml)
    have CX := Aside0.mk cf
    clear cf
    go_wp2_with fail
    refine CX.out.mono ?_
    rintro e w10 ⟨v, rfl, hR, hb⟩
    have HB10 := Aside0.mk (hb_then HB9.out hb)
    have hn := Kd.C_below Hm.out hb
    clear Hm
    have Hm := Aside0.mk hn
    clear hn
    have hn := Kd.C_below He.out hb
    clear He
    have He := Aside0.mk hn
    clear hn
    have hn := Kd.C_below Hx.out hb
    clear Hx
    have Hx := Aside0.mk hn
    clear hn
    have hn := Kd.C_below Hy.out hb
    clear Hy
    have Hy := Aside0.mk hn
    clear hn
    have hn := Kd.C_below Hg.out hb
    clear Hg
    have Hg := Aside0.mk hn
    clear hn
    clear Hq
    obtain ⟨Af, cf, rfl, hle, hC⟩ := Kd.R_reads hR
    have Hf := Aside0.mk hC
    clear hR hb hle hC CX
    have cf := Texts.sameTexts (c0 := cx) (c1 := cy) (xs := zx) (ys := zy) w10 Hx.out Hy.out
    rw [decide_eq_true (srt_unique Px.out.2 Py.out.2 (QX.out.trans Py.out.1.symm))] at cf
    have CX := Aside0.mk cf
    clear cf
    go_wp2_with fail
    refine CX.out.mono ?_
    rintro e w11 ⟨rfl, hd⟩
    have hb := hd.below
    clear hd
    have HB11 := Aside0.mk (hb_then HB10.out hb)
    have hn := Kd.C_below Hm.out hb
    clear Hm
    have Hm := Aside0.mk hn
    clear hn
    have hn := Kd.C_below He.out hb
    clear He
    have He := Aside0.mk hn
    clear hn
    clear Hx
    clear Hy
    have hn := Kd.C_below Hg.out hb
    clear Hg
    have Hg := Aside0.mk hn
    clear hn
    have hn := Kd.C_below Hf.out hb
    clear Hf
    have Hf := Aside0.mk hn
    clear hn
    clear hb CX
    have cf := pairsFrom (c := cg) (toP (m)) w11 Hg.out hml
    have CX := Aside0.mk cf
    clear cf
    go_wp2_with fail
    refine CX.out.mono ?_
    rintro e w12 ⟨v, rfl, hR, hb⟩
    have HB12 := Aside0.mk (hb_then HB11.out hb)
    have hn := Kd.C_below Hm.out hb
    clear Hm
    have Hm := Aside0.mk hn
    clear hn
    have hn := Kd.C_below He.out hb
    clear He
    have He := Aside0.mk hn
    clear hn
    clear Hg
    have hn := Kd.C_below Hf.out hb
    clear Hf
    have Hf := Aside0.mk hn
    clear hn
    obtain ⟨Ap, cp, rfl, hle, hC⟩ := Kd.R_reads hR
    have Hp := Aside0.mk hC
    clear hR hb hle hC CX
    have cf := pairsFrom (c := cm) (toP (m)) w12 Hm.out hml
    have CX := Aside0.mk cf
    clear cf
    go_wp2_with fail
    refine CX.out.mono ?_
    rintro e w13 ⟨v, rfl, hR, hb⟩
    have HB13 := Aside0.mk (hb_then HB12.out hb)
    have hn := Kd.C_below Hm.out hb
    clear Hm
    have Hm := Aside0.mk hn
    clear hn
    have hn := Kd.C_below He.out hb
    clear He
    have He := Aside0.mk hn
    clear hn
    have hn := Kd.C_below Hf.out hb
    clear Hf
    have Hf := Aside0.mk hn
    clear hn
    have hn := Kd.C_below Hp.out hb
    clear Hp
    have Hp := Aside0.mk hn
    clear hn
    obtain ⟨Aq, cq, rfl, hle, hC⟩ := Kd.R_reads hR
    have Hq := Aside0.mk hC
    clear hR hb hle hC CX
    have cf := samePairs (c := cp) (d := cq) _ _ w13 Hp.out Hq.out hml
    rw [decide_eq_true rfl] at cf
    have CX := Aside0.mk cf
    clear cf
    go_wp2_with fail
    refine CX.out.mono ?_
    rintro e w14 ⟨rfl, hb⟩
    have HB14 := Aside0.mk (hb_then HB13.out hb)
    have hn := Kd.C_below Hm.out hb
    clear Hm
    have Hm := Aside0.mk hn
    clear hn
    have hn := Kd.C_below He.out hb
    clear He
    have He := Aside0.mk hn
    clear hn
    have hn := Kd.C_below Hf.out hb
    clear Hf
    have Hf := Aside0.mk hn
    clear hn
    clear Hp
    clear Hq
    clear hb CX
    have cf := pairsFrom (c := cm) (toP (m)) w14 Hm.out hml
    have CX := Aside0.mk cf
    clear cf
    go_wp2_with fail
    refine CX.out.mono ?_
    rintro e w15 ⟨v, rfl, hR, hb⟩
    have HB15 := Aside0.mk (hb_then HB14.out hb)
    have hn := Kd.C_below Hm.out hb
    clear Hm
    have Hm := Aside0.mk hn
    clear hn
    have hn := Kd.C_below He.out hb
    clear He
    have He := Aside0.mk hn
    clear hn
    have hn := Kd.C_below Hf.out hb
    clear Hf
    have Hf := Aside0.mk hn
    clear hn
    obtain ⟨Ap, cp, rfl, hle, hC⟩ := Kd.R_reads hR
    have Hp := Aside0.mk hC
    clear hR hb hle hC CX
    have cf := specOpts (c := cp) (toP (m)) w15 Hp.out hml
    rw [← toO_all] at cf
    have CX := Aside0.mk cf
    clear cf
    go_wp2_with fail
    refine CX.out.mono ?_
    rintro e w16 ⟨v, rfl, hR, hb⟩
    have HB16 := Aside0.mk (hb_then HB15.out hb)
    have hn := Kd.C_below Hm.out hb
    clear Hm
    have Hm := Aside0.mk hn
    clear hn
    have hn := Kd.C_below He.out hb
    clear He
    have He := Aside0.mk hn
    clear hn
    have hn := Kd.C_below Hf.out hb
    clear Hf
    have Hf := Aside0.mk hn
    clear hn
    clear Hp
    obtain ⟨Ao, co, rfl, hle, hC⟩ := Kd.R_reads hR
    have Ho := Aside0.mk hC
    clear hR hb hle hC CX
    have cf := sameOpts (c := cf) (d := co) _ _ w16 Hf.out Ho.out (by rw [toO_length, allO_length, ← toP_length]; exact hml)
    rw [decide_eq_true rfl] at cf
    have CX := Aside0.mk cf
    clear cf
    go_wp2_with fail
    refine CX.out.mono ?_
    rintro e w17 ⟨rfl, hb⟩
    have HB17 := Aside0.mk (hb_then HB16.out hb)
    have hn := Kd.C_below Hm.out hb
    clear Hm
    have Hm := Aside0.mk hn
    clear hn
    have hn := Kd.C_below He.out hb
    clear He
    have He := Aside0.mk hn
    clear hn
    have hn := Kd.C_below Hf.out hb
    clear Hf
    have Hf := Aside0.mk hn
    clear hn
    clear Ho
    clear hb CX
    have cf := optsFrom (c := ce) (toO (o)) w17 He.out hol
    have CX := Aside0.mk cf
    clear cf
    go_wp2_with fail
    refine CX.out.mono ?_
    rintro e w18 ⟨v, rfl, hR, hb⟩
    have HB18 := Aside0.mk (hb_then HB17.out hb)
    have hn := Kd.C_below Hm.out hb
    clear Hm
    have Hm := Aside0.mk hn
    clear hn
    have hn := Kd.C_below He.out hb
    clear He
    have He := Aside0.mk hn
    clear hn
    have hn := Kd.C_below Hf.out hb
    clear Hf
    have Hf := Aside0.mk hn
    clear hn
    obtain ⟨Au, cu, rfl, hle, hC⟩ := Kd.R_reads hR
    have Hu := Aside0.mk hC
    clear hR hb hle hC CX
    cases hfa : ((fullO (toO (o))).length == (toO (o)).length)
    · have HFA := Aside0.mk hfa
      clear hfa
      have cf := AllFull (c := cu) (toO (o)) w18 Hu.out hol
      rw [HFA.out] at cf
      have CX := Aside0.mk cf
      clear cf
      go_wp2_with fail
      refine CX.out.mono ?_
      rintro e w19 ⟨rfl, hb⟩
      have HB19 := Aside0.mk (hb_then HB18.out hb)
      clear hb CX Hm He Hf Hu
      have cf := mapsAwake w19 (HT.out.below HB19.out)
      have CX := Aside0.mk cf
      clear cf
      go_wp2_with fail
      refine CX.out.mono ?_
      rintro e w20 ⟨rfl, hb⟩
      have HB20 := Aside0.mk (hb_then HB19.out hb)
      clear hb CX
      go_wp2
      go_ret
      exact ⟨rfl, HB20.out⟩
    · have HFA := Aside0.mk (AF.out (beq_iff_eq.1 hfa))
      have HFB := Aside0.mk hfa
      clear hfa
      have cf := AllFull (c := cu) (toO (o)) w18 Hu.out hol
      rw [HFB.out] at cf
      have CX := Aside0.mk cf
      clear cf
      go_wp2_with fail
      refine CX.out.mono ?_
      rintro e w19 ⟨rfl, hb⟩
      have HB19 := Aside0.mk (hb_then HB18.out hb)
      have hn := Kd.C_below Hm.out hb
      clear Hm
      have Hm := Aside0.mk hn
      clear hn
      have hn := Kd.C_below He.out hb
      clear He
      have He := Aside0.mk hn
      clear hn
      have hn := Kd.C_below Hf.out hb
      clear Hf
      have Hf := Aside0.mk hn
      clear hn
      clear Hu
      clear hb CX
      have cf := EqualsToMapping (c := ce) (RO.out) SO.out (by rw [← toO_length]; exact hol) w19 He.out
      rw [HFA.out.1] at cf
      have CX := Aside0.mk cf
      clear cf
      go_wp2_with fail
      refine CX.out.mono ?_
      rintro e w20 ⟨v, rfl, hR, hb⟩
      have HB20 := Aside0.mk (hb_then HB19.out hb)
      have hn := Kd.C_below Hm.out hb
      clear Hm
      have Hm := Aside0.mk hn
      clear hn
      have hn := Kd.C_below He.out hb
      clear He
      have He := Aside0.mk hn
      clear hn
      have hn := Kd.C_below Hf.out hb
      clear Hf
      have Hf := Aside0.mk hn
      clear hn
      obtain ⟨Ap, cp, rfl, hle, hC⟩ := Kd.R_reads hR
      have Hp := Aside0.mk hC
      clear hR hb hle hC CX
      have cf := pairsFrom (c := cp) (toP (m)) w20 Hp.out hml
      have CX := Aside0.mk cf
      clear cf
      go_wp2_with fail
      refine CX.out.mono ?_
      rintro e w21 ⟨v, rfl, hR, hb⟩
      have HB21 := Aside0.mk (hb_then HB20.out hb)
      have hn := Kd.C_below Hm.out hb
      clear Hm
      have Hm := Aside0.mk hn
      clear hn
      have hn := Kd.C_below He.out hb
      clear He
      have He := Aside0.mk hn
      clear hn
      have hn := Kd.C_below Hf.out hb
      clear Hf
      have Hf := Aside0.mk hn
      clear hn
      clear Hp
      obtain ⟨Aq, cq, rfl, hle, hC⟩ := Kd.R_reads hR
      have Hq := Aside0.mk hC
      clear hR hb hle hC CX
      have cf := pairsFrom (c := cm) (toP (m)) w21 Hm.out hml
      have CX := Aside0.mk cf
      clear cf
      go_wp2_with fail
      refine CX.out.mono ?_
      rintro e w22 ⟨v, rfl, hR, hb⟩
      have HB22 := Aside0.mk (hb_then HB21.out hb)
      clear Hm
      have hn := Kd.C_below He.out hb
      clear He
      have He := Aside0.mk hn
      clear hn
      have hn := Kd.C_below Hf.out hb
      clear Hf
      have Hf := Aside0.mk hn
      clear hn
      have hn := Kd.C_below Hq.out hb
      clear Hq
      have Hq := Aside0.mk hn
      clear hn
      obtain ⟨Ap, cp, rfl, hle, hC⟩ := Kd.R_reads hR
      have Hp := Aside0.mk hC
      clear hR hb hle hC CX
      have cf := samePairs (c := cq) (d := cp) _ _ w22 Hq.out Hp.out hml
      rw [decide_eq_true rfl] at cf
      have CX := Aside0.mk cf
      clear cf
      go_wp2_with fail
      refine CX.out.mono ?_
      rintro e w23 ⟨rfl, hb⟩
      have HB23 := Aside0.mk (hb_then HB22.out hb)
      have hn := Kd.C_below He.out hb
      clear He
      have He := Aside0.mk hn
      clear hn
      have hn := Kd.C_below Hf.out hb
      clear Hf
      have Hf := Aside0.mk hn
      clear hn
      clear Hq
      clear Hp
      clear hb CX
      have cf := optsFrom (c := ce) (toO (o)) w23 He.out hol
      have CX := Aside0.mk cf
      clear cf
      go_wp2_with fail
      refine CX.out.mono ?_
      rintro e w24 ⟨v, rfl, hR, hb⟩
      have HB24 := Aside0.mk (hb_then HB23.out hb)
      clear He
      have hn := Kd.C_below Hf.out hb
      clear Hf
      have Hf := Aside0.mk hn
      clear hn
      obtain ⟨Au, cu, rfl, hle, hC⟩ := Kd.R_reads hR
      have Hu := Aside0.mk hC
      clear hR hb hle hC CX
      have cf := sameOpts (c := cu) (d := cf) _ _ w24 Hu.out Hf.out hol
      rw [decide_eq_true (congrArg toO HFA.out.2)] at cf
      have CX := Aside0.mk cf
      clear cf
      go_wp2_with fail
      refine CX.out.mono ?_
      rintro e w25 ⟨rfl, hb⟩
      have HB25 := Aside0.mk (hb_then HB24.out hb)
      clear Hf
      clear Hu
      clear hb CX
      have cf := mapsAwake w25 (HT.out.below HB25.out)
      have CX := Aside0.mk cf
      clear cf
      go_wp2_with fail
      refine CX.out.mono ?_
      rintro e w26 ⟨rfl, hb⟩
      have HB26 := Aside0.mk (hb_then HB25.out hb)
      clear hb CX
      go_wp2
      go_ret
      exact ⟨rfl, HB26.out⟩
  · rw [decide_eq_false f1] at CF1
    clear f1
    go_enter Tryz.func10, Tryz.ntmps10
    go_wp2_with fail
    refine CF1.out.mono ?_
    rintro e wz ⟨rfl, rfl⟩
    go_wp2
    go_ret
    exact ⟨rfl, HB0.out⟩
theorem lawRoadsRow (A : Option Addr) (c : Nat) (l : List ByteArray) (w : World) (h : Kd.string.C w A l.length l) (hc : l.length ≤ c) (hT : MTabs w) :
    Calls Tryz.prog 10 #[.slice A l.length c] w fun e w' => e = .returned (.bool true) ∧ Below w.heap.size w w' := lawRoads w h hT
end Go.Proofs.YtididniafloogaaGreatDoor.Maps
