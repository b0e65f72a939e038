/- impl.pairs: a map of pairs; types.Mapping's Merge; impl.MappingMerge. -/
import Derived.Test.YtididniafloogaaGreatDoorPairsTo
import Derived.Test.YtididniafloogaaGreatDoorMergePlain
import Derived.Test.YtididniafloogaaGreatDoorFitPairs
namespace Go.Proofs.YtididniafloogaaGreatDoor.Maps
open Go.RowKit Go.Proofs.YtididniafloogaaGreatDoorW.PrintWords Go.Proofs.YtididniafloogaaGreatDoorW.PrintLast Go.Proofs.YtididniafloogaaGreatDoor.Str Go.Proofs.YtididniafloogaaGreatDoor.Kit Go.Proofs.YtididniafloogaaGreatDoor.Flat Go.Proofs.YtididniafloogaaGreatDoor.MapV Go.Proofs.YtididniafloogaaGreatDoor.Frame
set_option linter.unusedVariables false
set_option linter.unusedSimpArgs false
theorem run_makeHint {P : Program} {t k e : TypeId} (hu : P.underlying t = some (.map k e)) (i : IntKind) (n : Int) (w : World) : (Instr.makeMap t (some (.int i n))).run P w = .ok (.map (some w.heap.size)) (w.alloc (.map #[] 0)) := by
  simp [Instr.makeMap, run_underlying hu, asInt, asIntOf, Result.andThen]
set_option maxHeartbeats 1600000 in
theorem pairs {A : Option Addr} {c : Nat} (l : List (BA × BA)) (w : World) (h : kp.C w A l.length l) (hn : l.length ≤ 17179869184) (hl : ∀ p ∈ l, p.1.size ≤ 2147483647) :
    Calls Tryz.prog 55 #[.slice A l.length c] w fun e w' => e = .returned (.map (some w.heap.size)) ∧ MapS w' w.heap.size (fitM (ofP l)) ∧ Below w.heap.size w w' := by
  have H := Aside0.mk h
  have HL := Aside0.mk hl
  clear h hl
  have hmm := fun (n : Int) (w : World) => run_makeHint (P := Tryz.prog) Tryz.underlying76 .i64 n w
  have HM0 := Aside0.mk (MapE.made Tryz.prog 9 Value.string w)
  have HB0 := Aside0.mk ((Below.refl _ w).alloc (Nat.le_refl _) (.map #[] 0))
  go_enter Tryz.func55, Tryz.ntmps55
  go_wp2
  go_loopw [11] (fun v11 wr => ∃ i : Nat, v11 = .int .i64 i ∧ i ≤ l.length ∧ Aside0 (MapS wr w.heap.size (fitM (ofP (l.take i)))) ∧ Aside0 (Below w.heap.size w wr)) (fun v11 _ => l.length - (intOf v11).toNat)
  case atStart => exact ⟨0, rfl, by omega, HM0, HB0⟩
  case round =>
    clear HM0 HB0
    obtain ⟨i, rfl, hi, HM, HB⟩ := hrel
    by_cases hlt : i < l.length
    · obtain ⟨b0, o0, rfl, hb0, hc0⟩ := kp_open H.out (by omega)
      obtain ⟨g0, g1⟩ := hc0 i hlt
      replace g0 := pw_cell_below HB.out g0
      replace g1 := pw_cell_below HB.out g1
      have q0 : (0 : Int) ≤ (i : Int) := by omega
      have q1 : (i : Int) < (l.length : Int) := by omega
      have hsz := HL.out l[i] (List.getElem_mem hlt)
      have HST := Aside0.mk (show fitM (ofP (l.take (i + 1))) = mput (fitM (ofP (l.take i))) (lb l[i].1) l[i].2 by
        rw [List.take_succ_eq_append_getElem hlt]
        unfold ofP
        rw [List.map_append, List.map_cons, List.map_nil, fitM_snoc])
      have hml : (fitM (ofP (l.take i))).length < maxLen := by
        have h1 := fitM_length (ofP (l.take i))
        simp only [ofP, List.length_map, List.length_take] at h1
        unfold maxLen
        simp only [ofP]
        omega
      generalize l[i].1 = p at g0 hsz HST
      generalize l[i].2 = q at g1 HST
      have hks : p.size ≤ maxLen := by unfold maxLen; omega
      clear hc0 hsz
      have HB1 := Aside0.mk (below_alloc HB.out (.cells #[.string p, .string q] 74))
      have HM1 := Aside0.mk (HM.out.below ((Below.refl _ wr).alloc (Nat.le_refl _) (.cells #[.string p, .string q] 74)))
      have k0 : (wr.alloc (.cells #[.string p, .string q] 74)).cell? ⟨wr.heap.size, 0, none⟩ = some (.string p) := cb_cell (i := 0) (cb_new _ _) rfl
      have k1 : (wr.alloc (.cells #[.string p, .string q] 74)).cell? ⟨wr.heap.size, 1, none⟩ = some (.string q) := cb_cell (i := 1) (cb_new _ _) rfl
      go_wp2_with (at_mapUpdate; refine store_mapE key_u Tryz.underlying76 rfl _ _ _ rfl rfl HM1.out hml rfl hks rfl ?_; intro w2 hm2 hg2; have HM2 := Aside0.mk hm2; have HG2 := Aside0.mk hg2; clear hm2 hg2)
      go_roundw
      case rel => exact ⟨i + 1, by go_num, by omega, ⟨by rw [HST.out]; exact HM2.out⟩, ⟨pw_below_grown HB1.out _ HB1.out.size HG2.out (fun k hk => by injection hk with hk; omega)⟩⟩
      case measure => simp [intOf]; omega
    · have hall := HM.out
      rw [List.take_of_length_le (by omega)] at hall
      have HALL := Aside0.mk hall
      clear hall HM
      go_wp2
      go_ret
      exact ⟨rfl, HALL.out, HB.out⟩
set_option maxHeartbeats 1600000 in
theorem Merge (b b' : Nat) (f g : List (Bs × BA)) (w : World) (h : MapS w b f) (h' : MapS w b' g) (hb : b ≠ b') (hn : f.length + g.length ≤ 17179869184) :
    Calls Tryz.prog 56 #[.map (some b), .map (some b')] w fun e w' => e = .returned (.map (some b)) ∧ MapS w' b (mergeM f g) ∧ w.grownBy w' (some b) := by
  have HM := Aside0.mk h
  have HM' := Aside0.mk h'
  have HRF := Aside0.mk (MapE.rises (Go.Maps.string_keyed key_u) h)
  have HRG := Aside0.mk (MapE.rises (Go.Maps.string_keyed key_u) h')
  have hbl := h.lt
  have hbl' := h'.lt
  clear h h'
  go_enter Tryz.func56, Tryz.ntmps56
  go_wp2_with (at_range; refine range_mapE key_u Tryz.underlying77 rfl _ rfl rfl HM'.out ?_; intro w0 hrg0 hg0 hs0; have HR0 := Aside0.mk hrg0; have HG0 := Aside0.mk hg0; have HS0 := Aside0.mk hs0; clear hrg0 hg0 hs0)
  go_frame
  have HM0 := Aside0.mk (HM.out.grown HG0.out (by simp))
  have HGB := Aside0.mk (show w.grownBy w0 (some b) from ⟨HG0.out.os, HG0.out.tape, HG0.out.output, HG0.out.size, fun j hj _ => HG0.out.block j hj (by simp)⟩)
  clear HG0 HM HM'
  go_loopw [] (fun wr => ∃ (cur lf : List (Bs × BA)), Aside0 (Ranges Tryz.prog 9 Value.string wr b' w.heap.size g lf) ∧ Aside0 (MapS wr b cur) ∧ Aside0 (Merging f g lf cur) ∧ Aside0 (w.grownBy wr (some b))) (fun wr => wr.rangeLeft b' w.heap.size)
  case atStart => exact ⟨f, g, HR0, HM0, ⟨Merging.start HRF.out⟩, HGB⟩
  case round =>
    clear HR0 HM0 HGB HS0
    obtain ⟨cur, lf, HR, HM, HX, HG⟩ := hrel
    have hcl : cur.length + lf.length ≤ f.length + g.length := HX.out.2.1
    have HCL := Aside0.mk hcl
    clear hcl
    have hwl := HG.out.size
    have hrl := HR.out.lt
    have hml : cur.length < maxLen := by have := HCL.out; unfold maxLen; omega
    have hsub := Aside0.mk (fun (p : Bs × BA) (hp : p ∈ lf) => HR.out.sub.subset hp)
    go_wp2_with (first | (at_next; refine next_mapA key_u rfl _ rfl rfl HR.out (fun hd => ?_) (fun x c w2 hx hen => ?_); rotate_left; (have hks := hx.out.2.1); (have HM2 := Aside0.mk (HM.out.grown hx.out.2.2.2.2.1 (fun e => by injection e with e; omega))); (have HG2 := Aside0.mk (HG.out.andThen hx.out.2.2.2.2.1 (fun j e => .inl (by injection e with e; omega)))); (have hlk := run_look_ok_mapE key_u Tryz.underlying77 (Tryz.zeroValue9 w2) HM2.out hks); (cases hm : mget cur (lb x)); all_goals (try (rw [hm] at hlk; simp only [Option.map_none, Option.getD_none, Option.isSome_none, Option.map_some, Option.getD_some, Option.isSome_some] at hlk; have HMX := Aside0.mk hm; clear hm))) | (at_mapUpdate; refine store_mapE key_u Tryz.underlying77 rfl _ _ _ rfl rfl HM2.out hml rfl hks rfl ?_; intro w3 hm3 hg3; have HM3 := Aside0.mk hm3; have HG3 := Aside0.mk hg3; clear hm3 hg3))
    · have hsz2 := hx.out.2.2.2.2.2
      have NX := Aside0.mk (HX.out.put HRG.out hsub.out hx.out.1 (by rw [HMX.out]; rfl))
      simp only [Act.put]
      go_roundw
      case rel => exact ⟨mput cur (lb x) c, mdel lf (lb x), ⟨hx.out.2.2.1.kept HG3.out (fun e => hb (Option.some.inj e).symm) (fun e => by injection e with e; omega)⟩, HM3, NX, ⟨HG2.out.andThen HG3.out (fun j e => .inr e)⟩⟩
      case measure =>
        have e1 := left_same (b := b') (r := w.heap.size) (w := w2) (w' := w3) ?_ ?_
        · rw [e1]; exact hx.out.2.2.2.1
        · exact HG3.out.block b' (by omega) (fun e => hb (Option.some.inj e).symm)
        · exact HG3.out.block _ (by omega) (fun e => by injection e with e; omega)
    · have NX := Aside0.mk (HX.out.skip HRG.out hsub.out hx.out.1 (by rw [HMX.out]; rfl))
      go_roundw
      case rel => exact ⟨cur, mdel lf (lb x), ⟨hx.out.2.2.1⟩, HM2, NX, HG2⟩
      case measure => exact hx.out.2.2.2.1
    · have Y := Aside0.mk (Merging.done HRF.out HRG.out (by rw [← hd.out]; exact HX.out))
      clear HX
      go_ret
      exact ⟨rfl, by rw [← Y.out]; exact HM.out, HG.out⟩
set_option maxHeartbeats 1600000 in
theorem MappingMerge {A B : Option Addr} {c d : Nat} (l m : List (BA × BA)) (w : World) (h : kp.C w A l.length l) (k : kp.C w B m.length m) (hn : l.length + m.length ≤ 17179869184) (hl : ∀ p ∈ l, p.1.size ≤ 2147483647) (hm : ∀ p ∈ m, p.1.size ≤ 2147483647) :
    Calls Tryz.prog 21 #[.slice A l.length c, .slice B m.length d] w fun e w' => ∃ v, e = .returned v ∧ kp.R 74 w' w.heap.size (fun _ => True) v (toP (mergeM (fitM (ofP l)) (fitM (ofP m)))) ∧ Below w.heap.size w w' := by
  have K := Aside0.mk k
  have HM := Aside0.mk hm
  have CL := Aside0.mk (pairs (c := c) l w h (by omega) hl)
  have hf := fitM_length (ofP l)
  have hg := fitM_length (ofP m)
  simp only [ofP, List.length_map] at hf hg
  have hmg := mergeM_length (fitM (ofP l)) (fitM (ofP m))
  simp only [ofP] at hmg
  have HBD := Aside0.mk (show (mergeM (fitM (ofP l)) (fitM (ofP m))).length ≤ 17179869184 by simp only [ofP]; omega)
  have HBE := Aside0.mk (show (fitM (ofP l)).length + (fitM (ofP m)).length ≤ 17179869184 by simp only [ofP]; omega)
  have HN := Aside0.mk hn
  clear h k hl hm hf hg hmg hn
  go_enter Tryz.func21, Tryz.ntmps21
  go_wp2_with fail
  refine CL.out.mono ?_
  rintro e w1 ⟨rfl, hm1, hb1⟩
  have HM1 := Aside0.mk hm1
  have HB1 := Aside0.mk hb1
  have CM := Aside0.mk (pairs (c := d) m w1 (Kd.C_below K.out hb1) (by have := HN.out; omega) HM.out)
  clear hm1 hb1 CL
  go_wp2_with fail
  refine CM.out.mono ?_
  rintro e w2 ⟨rfl, hm2, hb2⟩
  have CG := Aside0.mk (Merge w.heap.size w1.heap.size _ _ w2 (HM1.out.below hb2) hm2 (by have := HM1.out.lt; omega) HBE.out)
  have HB2 := Aside0.mk (hb_then HB1.out hb2)
  clear hm2 hb2 CM HM1
  go_wp2_with fail
  refine CG.out.mono ?_
  rintro e w3 ⟨rfl, hm3, hg3⟩
  have HB3 := Aside0.mk (pw_below_grown HB2.out (some w.heap.size) HB2.out.size hg3 (fun k hk => by injection hk with hk; omega))
  have CT := Aside0.mk (told w.heap.size _ w3 hm3 HBD.out)
  clear hm3 hg3 CG
  go_wp2_with fail
  refine CT.out.mono ?_
  rintro e w4 ⟨v, rfl, hr, hb4⟩
  have HR := Aside0.mk (Kd.R_lower hr HB3.out.size)
  have HB4 := Aside0.mk (hb_then HB3.out hb4)
  clear hr hb4 CT
  go_wp2
  go_ret
  exact ⟨_, rfl, HR.out, HB4.out⟩
end Go.Proofs.YtididniafloogaaGreatDoor.Maps
