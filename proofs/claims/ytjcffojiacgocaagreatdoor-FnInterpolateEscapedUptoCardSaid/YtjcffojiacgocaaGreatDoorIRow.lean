/- A configuration whose dollars are doubled is, when it has been interpolated, the configuration itself (where what is read is of bulk at most 1048576). -/
import Derived.Test.YtjcffojiacgocaaGreatDoorRows
import Derived.Test.YtjcffojiacgocaaGreatDoorI10
import Derived.Test.YtjcffojiacgocaaGreatDoorI8
import Derived.WalkKit
import Derived.ProofKit
import Derived.OpenShut
import Derived.ShutString
import Derived.ChangeOld
import Derived.Below
import Derived.SizedLaws
import Derived.JoinedCond
import Derived.Deep.CondSized
import Derived.Lay
import Derived.SevenTiedAt
import Derived.LaidMore
import Derived.LaidHandle
import Derived.Deep.DeepHandedRow
import Derived.Deep.DeepWitnessRowRef
import Derived.Test.YtjcffojiacgocaaGreatDoorCards
import Derived.Test.YtjcffojiacgocaaGreatDoorTie
set_option linter.unusedVariables false
set_option linter.unusedSimpArgs false
namespace Go.Proofs.YtjcffojiacgocaaGreatDoor.fnInterpolateEscapedUpto
open Go.ChangeShapes Go.WideShapes Go.ChangeAt Go.RowKit
open Go.ChangeMaps (open_string shut_string)
theorem own : ownKnob Tryz.prog.godebug = none := by kernel_rfl
theorem laidOut : laidOutB Tryz.prog = true := by kernel_rfl
theorem door_met (os : Os) (args : Array Value) : laidMetH Tryz.prog Rows.fnInterpolateEscapedUptoRow.laid ((World.doorLaid Tryz.prog 400 os).forCall (fun _ _ => 0) ⟨#[], args, []⟩).memory :=
  laidMetH_of_parts3 (fuel := 8) (laidMet_of_run' 8 (by kernel_rfl) (by kernel_rfl)) (by kernel_rfl) (by kernel_rfl)
theorem reads (os : Os) {H : Type} (enc : TypeId × Value → H) : ∃ places, DataW.whole enc Tryz.prog ((World.doorLaid Tryz.prog 400 os).forCall (fun _ _ => 0) ⟨#[], #[.agg #[.int .i64 0, .int .i64 0, .string ByteArray.empty, .slice none 0 0, .slice none 0 0], .slice none 0 0], []⟩).memory Tryz.f3.params.toList Rows.fnInterpolateEscapedSpec.vars false #[.agg #[.int .i64 0, .int .i64 0, .string ByteArray.empty, .slice none 0 0, .slice none 0 0], .slice none 0 0].toList 8 = some ([.agg [.lit (.int .i64 0), .lit (.int .i64 0), .lit (.string []), .nil, .nil], .nil], [], places) :=
  ⟨[], by kernel_rfl⟩
set_option maxRecDepth 100000 in
theorem lifted (os : Os) (started : os.Started) (H : Type) (enc : TypeId × Value → H) (F : Stop.Interp) :
    ReturnsInHanded {} Tryz.checked os 3 .any ((Rows.OpenSpec.upto Rows.fnInterpolateEscapedSpec).preRow enc Tryz.prog Tryz.f3 Rows.fnInterpolateEscapedUptoRow.domain false Rows.fnInterpolateEscapedUptoRow.laid) (((Rows.OpenSpec.upto Rows.fnInterpolateEscapedSpec).at F).post enc Tryz.prog Tryz.f3 false true false false) := by
  obtain ⟨places, hx⟩ := reads os enc
  refine returnsInHanded_of_row (C := Tryz.checked) (s := Rows.OpenSpec.upto Rows.fnInterpolateEscapedSpec) own started (by kernel_rfl) Tryz.func3
    (witness_row_atRef (enc := enc) (C := Tryz.checked) false (World.doorLaid Tryz.prog 400 os) #[.agg #[.int .i64 0, .int .i64 0, .string ByteArray.empty, .slice none 0 0, .slice none 0 0], .slice none 0 0] rfl (by kernel_rfl) (by kernel_rfl) (by kernel_rfl)
      (OpenSpec.preRow_of_cond 8 hx (by kernel_rfl) (fun k hk => by cases hk; kernel_rfl) (by kernel_rfl) (door_met os _))) ?_
  intro W base args ds gs before hval0 hW hcnd hcond hsz0 hL _ _; have hTabs := DTabsFnInterpolateEscaped.any hL; clear hL; have hk := hcond _ rfl; clear hx hcond places; have hval : ∀ (j : Nat) t v, Tryz.f3.params[j]? = some t → args[j]? = some v → Value.okWide Tryz.prog W .any base t v := hval0; have hW' := hW; obtain ⟨p, q, hA0, hV, rfl, hfz, hnd⟩ := hW; have hA : DataW.TrodAll enc Tryz.prog W 0 (fun _ => true) true Tryz.f3.params.toList args.toList ds p := hA0; rw [Tryz.params3] at hA hval; obtain ⟨v0, vs0, d0, ds0, p0, q0, hargs, rfl, rfl, h0, r0⟩ := trodAll_cons hA; obtain ⟨v1, vs1, d1, ds1, p1, q1, rfl, rfl, rfl, h1, r1⟩ := trodAll_cons r0; obtain ⟨rfl, rfl, rfl⟩ := trodAll_nil r1
  obtain rfl : args = #[v0, v1] := by cases args; simp_all
  obtain ⟨rfl, rfl⟩ := trodVars_none hV; have hsmall := of_decide_eq_true hk; have k0 := h0
  have lt0 : ∀ x ∈ p0, x.block < W.heap.size := by obtain ⟨m, hm⟩ := k0; exact DataW.trod_lt m _ _ _ hm
  obtain ⟨x0, A0, B0, c0, e0, hv0, l0, g0, m0, n0, hs0⟩ := RowKit.val_argU h0; obtain rfl := RowKit.agg_of hv0 (by simp); have hu0 : RowKit.vol x0 ≤ 1048576 := Nat.le_trans hs0 (Nat.le_trans (RowKit.bulkAll_le (by simp)) hsmall); obtain ⟨A1, len1, c1, rfl⟩ := okWide_slice Tryz.underlying26 (hval 1 26 v1 rfl rfl); have k1 := h1
  have lt1 : ∀ x ∈ p1, x.block < W.heap.size := by obtain ⟨m, hm⟩ := k1; exact DataW.trod_lt m _ _ _ hm
  obtain ⟨xs1, e1, hc1, hC1⟩ := RowKit.pairs_arg Tryz.underlying26 Tryz.underlying56 Tryz.underlying9 Tryz.underlying9 (by kernel_rfl) (by kernel_rfl) rfl rfl (by kernel_rfl) h1; subst e1; clear hA0 hval0
  refine (Tr.lawEscRow x0 A0 B0 c0 e0 A1 c1 xs1 W l0 g0 m0 n0 hu0 hC1 hc1 hTabs).mono fun e W' ⟨he, bel⟩ => ?_
  subst he; exact ⟨_, rfl, _, _, _, [], _, [], hW', trodAll_mk1 (shut_bool Tryz.underlying4 _), (trodAll_cons_mk (Below.trod laidOut (by kernel_rfl) (of_decide_eq_true (by kernel_rfl)) k0 bel lt0) (trodAll_cons_mk (Below.trod laidOut (by kernel_rfl) (of_decide_eq_true (by kernel_rfl)) k1 bel lt1) trodAll_mk0)), rfl, bel.frame _, fun h => by cases h⟩
theorem over : Rows.fnInterpolateEscapedUptoRow.holds Tryz.pinned (Rows.OpenSpec.upto Rows.fnInterpolateEscapedSpec) :=
  OpenClaim.holds_of_cond 3 Tryz.f3 rfl rfl rfl rfl rfl rfl rfl ⟨rfl, rfl, rfl, rfl, rfl⟩ rfl rfl rfl rfl rfl (by kernel_rfl) Tryz.func3 (by kernel_rfl)
    (of_decide_eq_true (by kernel_rfl)) (by unfold Func.isWrapper; first | (rw [if_pos (by decide +kernel)]; kernel_rfl) | (rw [if_neg (by decide +kernel)]; exact ⟨rfl, rfl⟩))
    (fun os started H enc _ F => by rw [OpenClaim.pre_eq_preRow]; exact lifted os started H enc F)
theorem proved : Rows.FnInterpolateEscapedUptoCardSaid :=
  Claim7.holds_tied_plain_at .later [] [.data, .data, .data, .handle, .sentinel, .sentinel, .data] true (true, "d126a9be2d91d9045a7f0bd8fc152c7e28f37f2e4f68beb1af8eb27954499e09") true over (fun _ h => by cases h) (by kernel_rfl) (fun _ h => by cases h) fnInterpolateEscapedUpto_row_tie rfl ⟨rfl, rfl⟩ (by kernel_rfl) rfl
    (fun f fn hf hfn => by
      obtain rfl : f = 3 := Option.some.inj ((show Tryz.prog.funcNamed "pub-shipwright/laws.FnInterpolateEscaped" = some 3 by kernel_rfl).symm.trans hf) |>.symm
      obtain rfl : fn = Tryz.f3 := (Option.some.inj (Tryz.func3.symm.trans hfn)).symm
      exact ⟨by kernel_rfl, fun j t ht => by
        rw [Tryz.params3] at ht
        have hm : t ∈ [25, 26] := by simpa using Array.mem_of_getElem? ht
        have hall : ([25, 26].all fun u => !Tryz.prog.wantsStandIn u) = true := by kernel_rfl
        exact (show Tryz.prog.wantsStandIn t = false by simpa using List.all_eq_true.1 hall t hm)⟩)
    (by kernel_rfl)
#print axioms proved
end Go.Proofs.YtjcffojiacgocaaGreatDoor.fnInterpolateEscapedUpto

