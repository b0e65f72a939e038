/- types.Labels' Add; impl.LabelsAdd. -/
import Derived.Test.YtididniafloogaaGreatDoorLawMerges
import Derived.Laws.Cover3
namespace Go.Proofs.YtididniafloogaaGreatDoor.Maps
open Go.RowKit Go.Proofs.YtididniafloogaaGreatDoorW.PrintWords Go.Proofs.YtididniafloogaaGreatDoorW.PrintLast Go.Proofs.YtididniafloogaaGreatDoor.Str Go.Proofs.YtididniafloogaaGreatDoor.Kit Go.Proofs.YtididniafloogaaGreatDoor.Index Go.Proofs.YtididniafloogaaGreatDoor.Flat Go.Proofs.YtididniafloogaaGreatDoor.MapV Go.Proofs.YtididniafloogaaGreatDoor.Frame
set_option linter.unusedVariables false
set_option linter.unusedSimpArgs false
set_option maxHeartbeats 800000 in
set_option maxRecDepth 100000 in
theorem labelsAdd (b : Nat) (f : List (Bs × BA)) (k v : BA) (w : World) (h : MapS w b f) (hn : f.length ≤ 17179869184) (hk : k.size ≤ 2147483647) :
    Calls Tryz.prog 72 #[.map (some b), .string k, .string v] w fun e w' => e = .returned (.map (some b)) ∧ MapS w' b (mput f (lb k) v) ∧ w.grownBy w' (some b) := by
  have HM := Aside0.mk h
  have hml : f.length < maxLen := by unfold maxLen; omega
  have hks : k.size ≤ maxLen := by unfold maxLen; omega
  have hnil := fun (w : World) => show (binOp .eql 110 (.map (some b)) (.map none)).run Tryz.prog w = .ok (.bool false) w by
    have := run_equal_map_nil (P := Tryz.prog) (w := w) 110 _ _ (some b) Tryz.underlying110
    simp only [binOp]
    simp [this, Result.andThen]
  clear h
  go_enter Tryz.func72, Tryz.ntmps72
  go_wp2_with (at_mapUpdate; refine store_mapE key_u Tryz.underlying110 rfl _ _ _ rfl rfl HM.out hml rfl hks rfl ?_; intro w3 hm3 hg3; have HM3 := Aside0.mk hm3; have HG3 := Aside0.mk hg3; clear hm3 hg3)
  go_ret
  exact ⟨rfl, HM3.out, HG3.out⟩
theorem Ok.put {N : Nat} {f : List (Bs × BA)} (h : Ok N f) {k : BA} (hk : k.size ≤ 2147483647) (v : BA) : Ok (N + 1) (mput f (lb k) v) := ⟨mput_rises h.r _ _, small_put h.s (by rw [lb_length]; exact hk), by have := mput_length f (lb k) v; have := h.l; omega⟩
set_option maxHeartbeats 800000 in
theorem LabelsAdd {A : Option Addr} {c N : Nat} {f : List (Bs × BA)} (hf : Ok N f) (hN : N + 1 ≤ 17179869184) (k v : BA) (hk : k.size ≤ 2147483647) (w : World) (h : kp.C w A (toP f).length (toP f)) :
    Calls Tryz.prog 39 #[.slice A (toP f).length c, .string k, .string v] w fun e w' => ∃ u, e = .returned u ∧ kp.R 74 w' w.heap.size (fun _ => True) u (toP (mput f (lb k) v)) ∧ Below w.heap.size w w' := by
  have cl := pairs (c := c) (toP f) w h (hf.len (by omega)) (small_toP hf.s)
  rw [ofP_toP, fitM_id hf.r] at cl
  have CL := Aside0.mk cl
  have HF := Aside0.mk hf
  clear cl h hf
  go_enter Tryz.func39, Tryz.ntmps39
  go_wp2_with fail
  refine CL.out.mono ?_
  rintro e w1 ⟨rfl, hm1, hb1⟩
  have HB1 := Aside0.mk hb1
  have CA := Aside0.mk (labelsAdd w.heap.size f k v w1 hm1 (by have := HF.out.l; omega) hk)
  clear hm1 hb1 CL
  go_wp2_with fail
  refine CA.out.mono ?_
  rintro e w2 ⟨rfl, hm2, hg2⟩
  have HB2 := Aside0.mk (pw_below_grown HB1.out (some w.heap.size) HB1.out.size hg2 (fun k hk => by injection hk with hk; omega))
  have CT := Aside0.mk (told w.heap.size _ w2 hm2 (by have := (HF.out.put hk v).l; omega))
  clear hm2 hg2 CA
  go_wp2_with fail
  refine CT.out.mono ?_
  rintro e w4 ⟨v', rfl, hr, hb4⟩
  have HR := Aside0.mk (Kd.R_lower hr HB2.out.size)
  have HB4 := Aside0.mk (hb_then HB2.out hb4)
  clear hr hb4 CT
  go_wp2
  go_ret
  exact ⟨_, rfl, HR.out, HB4.out⟩
end Go.Proofs.YtididniafloogaaGreatDoor.Maps
