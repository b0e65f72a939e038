/- The law FnEqualsResolve. -/
import Derived.Test.YtididniafloogaaGreatDoorEqAll
namespace Go.Proofs.YtididniafloogaaGreatDoor.Maps
open Go.RowKit Go.Proofs.YtididniafloogaaGreatDoorW.PrintWords Go.Proofs.YtididniafloogaaGreatDoorW.PrintLast Go.Proofs.YtididniafloogaaGreatDoor.Str Go.Proofs.YtididniafloogaaGreatDoor.Kit Go.Proofs.YtididniafloogaaGreatDoor.Index Go.Proofs.YtididniafloogaaGreatDoor.Flat Go.Proofs.YtididniafloogaaGreatDoor.MapV Go.Proofs.YtididniafloogaaGreatDoor.Frame
set_option linter.unusedVariables false
set_option linter.unusedSimpArgs false
theorem resM_again (f : List (Bs × Option BA)) (g : List (Bs × BA)) : resM (resM f g) g = resM f g := by
  unfold resM
  rw [List.map_map]
  refine List.map_congr_left (fun p _ => ?_)
  obtain ⟨k, o⟩ := p
  show (k, (o.or (mget g k)).or (mget g k)) = (k, o.or (mget g k))
  cases o with
  | none => cases mget g k <;> rfl
  | some v => rfl
theorem small_resM {f : List (Bs × Option BA)} (h : ∀ p ∈ f, p.1.length ≤ 2147483647) (g : List (Bs × BA)) : ∀ p ∈ resM f g, p.1.length ≤ 2147483647 := by
  intro p hp
  unfold resM at hp
  obtain ⟨q, hq, rfl⟩ := List.mem_map.1 hp
  exact h q hq
theorem keys_fold {α : Type} (n : Nat) : ∀ (l f : List (Bs × α)), (∀ p ∈ l, p.1.length ≤ n) → (∀ p ∈ f, p.1.length ≤ n) → ∀ p ∈ l.foldl (fun f p => mput f p.1 p.2) f, p.1.length ≤ n
  | [], f, _, hf => hf
  | p :: r, f, hl, hf => keys_fold n r _ (fun q hq => hl q (List.mem_cons_of_mem _ hq)) (fun q hq => by
    unfold mput at hq
    rcases mins_mem.1 hq with rfl | hq
    · exact hl p List.mem_cons_self
    · exact hf q (List.mem_filter.1 hq).1)
theorem small_fitO {l : List KO} (h : fitsO l) : ∀ p ∈ fitM (ofO l), p.1.length ≤ 2147483647 := keys_fold _ _ _ (fun p hp => by
  unfold ofO at hp
  obtain ⟨q, hq, rfl⟩ := List.mem_map.1 hp
  show (lb q.1).length ≤ _
  rw [lb_length]
  exact (h.2 q hq).1) (fun p hp => by simp at hp)
set_option maxHeartbeats 12800000 in
set_option maxRecDepth 100000 in
theorem lawEqRes {A B : Option Addr} {c d : Nat} {l : List KO} {n : List (BA × BA)} (w0 : World) (h : ko.C w0 A l.length l) (k : kp.C w0 B n.length n) (hT : MTabs w0) :
    Calls Tryz.prog 7 #[.slice A l.length c, .slice B n.length d] w0 fun e w' => e = .returned (.bool true) ∧ Below w0.heap.size w0 w' := by
  have HL := Aside0.mk h
  have HN := Aside0.mk k
  have HT := Aside0.mk hT
  have HB0 := Aside0.mk (Below.refl w0.heap.size w0)
  clear h k hT
  have CF1 := Aside0.mk (zzFits7 (c := c) w0 HL.out)
  by_cases f1 : fitsO l
  · rw [decide_eq_true f1] at CF1
    by_cases f2 : fitsP n
    · have D2 := Aside0.mk (decide_eq_true f2)
      have OK := Aside0.mk (Ok.fit f2)
      have L1 := Aside0.mk f1.1
      have L2 := Aside0.mk f2.1
      have SO := Aside0.mk (small_fitO f1)
      have RO := Aside0.mk (fitM_rises (ofO l))
      have hol : (fitM (ofO l)).length ≤ 2147483647 := by have h1 := fitM_length (ofO l); have h2 := f1.1; rw [ofO_length] at h1; omega
      clear f1 f2
      go_enter Tryz.func7, Tryz.ntmps7
      go_wp2_with fail
      refine CF1.out.mono ?_
      rintro e w1 ⟨rfl, hb⟩
      have HB1 := Aside0.mk hb
      have cf := zzFits3 (c := d) w1 (Kd.C_below HN.out hb)
      rw [D2.out] at cf
      have CF2 := Aside0.mk cf
      clear cf hb CF1
      go_wp2_with fail
      refine CF2.out.mono ?_
      rintro e w2 ⟨rfl, hb⟩
      have HB2 := Aside0.mk (hb_then HB1.out hb)
      clear hb CF2
      have cf := FitOpts (c := c) l w2 (Kd.C_below HL.out HB2.out) (by have := L1.out; omega)
      have CX := Aside0.mk cf
      clear cf
      go_wp2_with fail
      refine CX.out.mono ?_
      rintro e w3 ⟨v, rfl, hR, hb⟩
      have HB3 := Aside0.mk (hb_then HB2.out hb)
      obtain ⟨Am, cm, rfl, hle, hC⟩ := Kd.R_reads hR
      have Hm := Aside0.mk hC
      clear hR hb hle hC CX
      have cf := FitPairs (c := d) n w3 (Kd.C_below HN.out HB3.out) L2.out
      have CX := Aside0.mk cf
      clear cf
      go_wp2_with fail
      refine CX.out.mono ?_
      rintro e w4 ⟨v, rfl, hR, hb⟩
      have HB4 := Aside0.mk (hb_then HB3.out hb)
      have hn := Kd.C_below Hm.out hb
      clear Hm
      have Hm := Aside0.mk hn
      clear hn
      obtain ⟨Av, cv, rfl, hle, hC⟩ := Kd.R_reads hR
      have Hv := Aside0.mk hC
      clear hR hb hle hC CX
      generalize fitM (ofO l) = f at *
      generalize fitM (ofP n) = g at *
      have hgl := OK.out.l
      have hfl : (toO f).length ≤ 17179869184 := by rw [toO_length]; omega
      have hrl : (toO (resM f g)).length ≤ 17179869184 := by rw [toO_length, resM_length]; omega
      have cf := optsTo (c := cm) (toO f) w4 Hm.out hfl
      have CX := Aside0.mk cf
      clear cf
      go_wp2_with fail
      refine CX.out.mono ?_
      rintro e w5 ⟨v, rfl, hR, hb⟩
      have HB5 := Aside0.mk (hb_then HB4.out hb)
      have hn := Kd.C_below Hm.out hb
      clear Hm
      have Hm := Aside0.mk hn
      clear hn
      have hn := Kd.C_below Hv.out hb
      clear Hv
      have Hv := Aside0.mk hn
      clear hn
      obtain ⟨Aa, ca, rfl, hle, hC⟩ := Kd.R_reads hR
      have Ha := Aside0.mk hC
      clear hR hb hle hC CX
      have cf := pairsTo (c := cv) (toP g) w5 Hv.out (OK.out.len (by decide))
      have CX := Aside0.mk cf
      clear cf
      go_wp2_with fail
      refine CX.out.mono ?_
      rintro e w6 ⟨v, rfl, hR, hb⟩
      have HB6 := Aside0.mk (hb_then HB5.out hb)
      have hn := Kd.C_below Hm.out hb
      clear Hm
      have Hm := Aside0.mk hn
      clear hn
      have hn := Kd.C_below Hv.out hb
      clear Hv
      have Hv := Aside0.mk hn
      clear hn
      have hn := Kd.C_below Ha.out hb
      clear Ha
      have Ha := Aside0.mk hn
      clear hn
      obtain ⟨Ab, cb, rfl, hle, hC⟩ := Kd.R_reads hR
      have Hb := Aside0.mk hC
      clear hR hb hle hC CX
      have cf := EqualsResolve (c := ca) (d := cb) RO.out SO.out (by omega) OK.out (by decide) w6 Ha.out Hb.out
      have CX := Aside0.mk cf
      clear cf
      go_wp2_with fail
      refine CX.out.mono ?_
      rintro e w7 ⟨v, rfl, hR, hb⟩
      have HB7 := Aside0.mk (hb_then HB6.out hb)
      have hn := Kd.C_below Hm.out hb
      clear Hm
      have Hm := Aside0.mk hn
      clear hn
      have hn := Kd.C_below Hv.out hb
      clear Hv
      have Hv := Aside0.mk hn
      clear hn
      clear Ha
      clear Hb
      obtain ⟨Ar, cr, rfl, hle, hC⟩ := Kd.R_reads hR
      have Hr := Aside0.mk hC
      clear hR hb hle hC CX
      have cf := pairsTo (c := cv) (toP g) w7 Hv.out (OK.out.len (by decide))
      have CX := Aside0.mk cf
      clear cf
      go_wp2_with fail
      refine CX.out.mono ?_
      rintro e w8 ⟨v, rfl, hR, hb⟩
      have HB8 := Aside0.mk (hb_then HB7.out hb)
      have hn := Kd.C_below Hm.out hb
      clear Hm
      have Hm := Aside0.mk hn
      clear hn
      have hn := Kd.C_below Hv.out hb
      clear Hv
      have Hv := Aside0.mk hn
      clear hn
      have hn := Kd.C_below Hr.out hb
      clear Hr
      have Hr := Aside0.mk hn
      clear hn
      obtain ⟨Ab, cb, rfl, hle, hC⟩ := Kd.R_reads hR
      have Hb := Aside0.mk hC
      clear hR hb hle hC CX
      have cf := EqualsResolve (c := cr) (d := cb) (resM_rises RO.out g) (small_resM SO.out g) (by rw [resM_length]; omega) OK.out (by decide) w8 Hr.out Hb.out
      rw [resM_again] at cf
      have CX := Aside0.mk cf
      clear cf
      go_wp2_with fail
      refine CX.out.mono ?_
      rintro e w9 ⟨v, rfl, hR, hb⟩
      have HB9 := Aside0.mk (hb_then HB8.out hb)
      have hn := Kd.C_below Hm.out hb
      clear Hm
      have Hm := Aside0.mk hn
      clear hn
      have hn := Kd.C_below Hv.out hb
      clear Hv
      have Hv := Aside0.mk hn
      clear hn
      have hn := Kd.C_below Hr.out hb
      clear Hr
      have Hr := Aside0.mk hn
      clear hn
      clear Hb
      obtain ⟨As, cs, rfl, hle, hC⟩ := Kd.R_reads hR
      have Hs := Aside0.mk hC
      clear hR hb hle hC CX
      have cf := EqualsRemoveEmpty (c := cr) (resM_rises RO.out g) (small_resM SO.out g) (by rw [resM_length]; omega) w9 Hr.out
      rw [← fullO_someM] at cf
      have CX := Aside0.mk cf
      clear cf
      go_wp2_with fail
      refine CX.out.mono ?_
      rintro e w10 ⟨v, rfl, hR, hb⟩
      have HB10 := Aside0.mk (hb_then HB9.out hb)
      have hn := Kd.C_below Hm.out hb
      clear Hm
      have Hm := Aside0.mk hn
      clear hn
      have hn := Kd.C_below Hv.out hb
      clear Hv
      have Hv := Aside0.mk hn
      clear hn
      have hn := Kd.C_below Hr.out hb
      clear Hr
      have Hr := Aside0.mk hn
      clear hn
      have hn := Kd.C_below Hs.out hb
      clear Hs
      have Hs := Aside0.mk hn
      clear hn
      obtain ⟨At, ct, rfl, hle, hC⟩ := Kd.R_reads hR
      have Ht := Aside0.mk hC
      clear hR hb hle hC CX
      have cf := specResolve (c := cm) (d := cv) f OK.out.r w10 Hm.out Hv.out (by omega) (by omega)
      have CX := Aside0.mk cf
      clear cf
      go_wp2_with fail
      refine CX.out.mono ?_
      rintro e w11 ⟨v, rfl, hR, hb⟩
      have HB11 := Aside0.mk (hb_then HB10.out hb)
      clear Hm
      clear Hv
      have hn := Kd.C_below Hr.out hb
      clear Hr
      have Hr := Aside0.mk hn
      clear hn
      have hn := Kd.C_below Hs.out hb
      clear Hs
      have Hs := Aside0.mk hn
      clear hn
      have hn := Kd.C_below Ht.out hb
      clear Ht
      have Ht := Aside0.mk hn
      clear hn
      obtain ⟨Au, cu, rfl, hle, hC⟩ := Kd.R_reads hR
      have Hu := Aside0.mk hC
      clear hR hb hle hC CX
      have cf := optsFrom (c := cr) (toO (resM f g)) w11 Hr.out hrl
      have CX := Aside0.mk cf
      clear cf
      go_wp2_with fail
      refine CX.out.mono ?_
      rintro e w12 ⟨v, rfl, hR, hb⟩
      have HB12 := Aside0.mk (hb_then HB11.out hb)
      clear Hr
      have hn := Kd.C_below Hs.out hb
      clear Hs
      have Hs := Aside0.mk hn
      clear hn
      have hn := Kd.C_below Ht.out hb
      clear Ht
      have Ht := Aside0.mk hn
      clear hn
      have hn := Kd.C_below Hu.out hb
      clear Hu
      have Hu := Aside0.mk hn
      clear hn
      obtain ⟨Ax, cx, rfl, hle, hC⟩ := Kd.R_reads hR
      have Hx := Aside0.mk hC
      clear hR hb hle hC CX
      have cf := sameOpts (c := cx) (d := cu) _ _ w12 Hx.out Hu.out hrl
      rw [decide_eq_true rfl] at cf
      have CX := Aside0.mk cf
      clear cf
      go_wp2_with fail
      refine CX.out.mono ?_
      rintro e w13 ⟨rfl, hb⟩
      have HB13 := Aside0.mk (hb_then HB12.out hb)
      have hn := Kd.C_below Hs.out hb
      clear Hs
      have Hs := Aside0.mk hn
      clear hn
      have hn := Kd.C_below Ht.out hb
      clear Ht
      have Ht := Aside0.mk hn
      clear hn
      have hn := Kd.C_below Hu.out hb
      clear Hu
      have Hu := Aside0.mk hn
      clear hn
      clear Hx
      clear hb CX
      have cf := optsFrom (c := cs) (toO (resM f g)) w13 Hs.out hrl
      have CX := Aside0.mk cf
      clear cf
      go_wp2_with fail
      refine CX.out.mono ?_
      rintro e w14 ⟨v, rfl, hR, hb⟩
      have HB14 := Aside0.mk (hb_then HB13.out hb)
      clear Hs
      have hn := Kd.C_below Ht.out hb
      clear Ht
      have Ht := Aside0.mk hn
      clear hn
      have hn := Kd.C_below Hu.out hb
      clear Hu
      have Hu := Aside0.mk hn
      clear hn
      obtain ⟨Ax, cx, rfl, hle, hC⟩ := Kd.R_reads hR
      have Hx := Aside0.mk hC
      clear hR hb hle hC CX
      have cf := sameOpts (c := cx) (d := cu) _ _ w14 Hx.out Hu.out hrl
      rw [decide_eq_true rfl] at cf
      have CX := Aside0.mk cf
      clear cf
      go_wp2_with fail
      refine CX.out.mono ?_
      rintro e w15 ⟨rfl, hb⟩
      have HB15 := Aside0.mk (hb_then HB14.out hb)
      have hn := Kd.C_below Ht.out hb
      clear Ht
      have Ht := Aside0.mk hn
      clear hn
      have hn := Kd.C_below Hu.out hb
      clear Hu
      have Hu := Aside0.mk hn
      clear hn
      clear Hx
      clear hb CX
      have cf := optsFrom (c := ct) (fullO (toO (resM f g))) w15 Ht.out (Nat.le_trans (List.length_filter_le _ _) hrl)
      have CX := Aside0.mk cf
      clear cf
      go_wp2_with fail
      refine CX.out.mono ?_
      rintro e w16 ⟨v, rfl, hR, hb⟩
      have HB16 := Aside0.mk (hb_then HB15.out hb)
      clear Ht
      have hn := Kd.C_below Hu.out hb
      clear Hu
      have Hu := Aside0.mk hn
      clear hn
      obtain ⟨Ax, cx, rfl, hle, hC⟩ := Kd.R_reads hR
      have Hx := Aside0.mk hC
      clear hR hb hle hC CX
      have cf := Full (c := cu) (toO (resM f g)) w16 Hu.out hrl
      have CX := Aside0.mk cf
      clear cf
      go_wp2_with fail
      refine CX.out.mono ?_
      rintro e w17 ⟨v, rfl, hR, hb⟩
      have HB17 := Aside0.mk (hb_then HB16.out hb)
      clear Hu
      have hn := Kd.C_below Hx.out hb
      clear Hx
      have Hx := Aside0.mk hn
      clear hn
      obtain ⟨Ay, cy, rfl, hle, hC⟩ := Kd.R_reads hR
      have Hy := Aside0.mk hC
      clear hR hb hle hC CX
      have cf := sameOpts (c := cx) (d := cy) _ _ w17 Hx.out Hy.out (Nat.le_trans (List.length_filter_le _ _) hrl)
      rw [decide_eq_true rfl] at cf
      have CX := Aside0.mk cf
      clear cf
      go_wp2_with fail
      refine CX.out.mono ?_
      rintro e w18 ⟨rfl, hb⟩
      have HB18 := Aside0.mk (hb_then HB17.out hb)
      clear Hx
      clear Hy
      clear hb CX
      have cf := mapsAwake w18 (HT.out.below HB18.out)
      have CX := Aside0.mk cf
      clear cf
      go_wp2_with fail
      refine CX.out.mono ?_
      rintro e w19 ⟨rfl, hb⟩
      have HB19 := Aside0.mk (hb_then HB18.out hb)
      clear hb CX
      go_wp2
      go_ret
      exact ⟨rfl, HB19.out⟩
    · have D2 := Aside0.mk (decide_eq_false f2)
      clear f1 f2
      go_enter Tryz.func7, Tryz.ntmps7
      go_wp2_with fail
      refine CF1.out.mono ?_
      rintro e w1 ⟨rfl, hb⟩
      have HB1 := Aside0.mk hb
      have cf := zzFits3 (c := d) w1 (Kd.C_below HN.out hb)
      rw [D2.out] at cf
      have CF2 := Aside0.mk cf
      clear cf hb CF1
      go_wp2_with fail
      refine CF2.out.mono ?_
      rintro e w2 ⟨rfl, hb⟩
      have HB2 := Aside0.mk (hb_then HB1.out hb)
      clear hb
      go_wp2
      go_ret
      exact ⟨rfl, HB2.out⟩
  · rw [decide_eq_false f1] at CF1
    clear f1
    go_enter Tryz.func7, Tryz.ntmps7
    go_wp2_with fail
    refine CF1.out.mono ?_
    rintro e w1 ⟨rfl, hb⟩
    have HB1 := Aside0.mk hb
    clear hb
    go_wp2
    go_ret
    exact ⟨rfl, HB1.out⟩
theorem lawEqResRow (A : Option Addr) (c : Nat) (l : List KO) (B : Option Addr) (d : Nat) (n : List (BA × BA)) (w : World) (h : ko.C w A l.length l) (hc : l.length ≤ c) (k : kp.C w B n.length n) (hd : n.length ≤ d) (hT : MTabs w) :
    Calls Tryz.prog 7 #[.slice A l.length c, .slice B n.length d] w fun e w' => e = .returned (.bool true) ∧ Below w.heap.size w w' := lawEqRes w h k hT
end Go.Proofs.YtididniafloogaaGreatDoor.Maps
