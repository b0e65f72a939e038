/- What holds nothing empty is left as it is when what is empty is left out (where what is read is of bulk at most 1048576). -/
import Derived.Test.YtmpmekliaicecaaDoorRows
import Derived.Test.YtmpmekliaicecaaDoorO8
import Derived.Test.YtmpmekliaicecaaDoorO7
import Derived.WalkKit
import Derived.ProofKit
import Derived.OpenShut
import Derived.ShutString
import Derived.ChangeOld
import Derived.Below
import Derived.SizedLaws
import Derived.JoinedCond
import Derived.Deep.CondSized
import Derived.Lay
import Derived.SevenTiedAt
import Derived.LaidMore
import Derived.LaidHandle
import Derived.Deep.DeepHandedRow
import Derived.Deep.DeepWitnessRowRef
import Derived.Test.YtmpmekliaicecaaDoorCards
import Derived.Test.YtmpmekliaicecaaDoorTie
set_option linter.unusedVariables false
set_option linter.unusedSimpArgs false
namespace Go.Proofs.YtmpmekliaicecaaDoor.fnOmitFullUpto
open Go.ChangeShapes Go.WideShapes Go.ChangeAt Go.RowKit
open Go.ChangeMaps (open_string shut_string)
theorem own : ownKnob Tryd.prog.godebug = none := by kernel_rfl
theorem laidOut : laidOutB Tryd.prog = true := by kernel_rfl
theorem door_met (os : Os) (args : Array Value) : laidMetH Tryd.prog Rows.fnOmitFullUptoRow.laid ((World.laidAll Tryd.prog os Rows.fnOmitFullUptoRow.laid).forCall (fun _ _ => 0) ⟨#[], args, []⟩).memory :=
  by rw [MakeChecks.laidMetH_plain _ _ _ (by kernel_rfl)]; exact laidMet_laidAll _ (by kernel_rfl) (by kernel_rfl)
theorem reads (os : Os) {H : Type} (enc : TypeId × Value → H) : ∃ places, DataW.whole enc Tryd.prog ((World.laidAll Tryd.prog os Rows.fnOmitFullUptoRow.laid).forCall (fun _ _ => 0) ⟨#[], #[.agg #[.int .i64 0, .int .i64 0, .string ByteArray.empty, .slice none 0 0, .slice none 0 0]], []⟩).memory Tryd.f3.params.toList Rows.fnOmitFullSpec.vars false #[.agg #[.int .i64 0, .int .i64 0, .string ByteArray.empty, .slice none 0 0, .slice none 0 0]].toList 8 = some ([.agg [.lit (.int .i64 0), .lit (.int .i64 0), .lit (.string []), .nil, .nil]], [], places) :=
  ⟨[], by kernel_rfl⟩
set_option maxRecDepth 100000 in
theorem lifted (os : Os) (started : os.Started) (H : Type) (enc : TypeId × Value → H) (F : Stop.Interp) :
    ReturnsInHanded {} Tryd.checked os 3 .any ((Rows.OpenSpec.upto Rows.fnOmitFullSpec).preRow enc Tryd.prog Tryd.f3 Rows.fnOmitFullUptoRow.domain false Rows.fnOmitFullUptoRow.laid) (((Rows.OpenSpec.upto Rows.fnOmitFullSpec).at F).post enc Tryd.prog Tryd.f3 false true false false) := by
  obtain ⟨places, hx⟩ := reads os enc
  refine returnsInHanded_of_row (C := Tryd.checked) (s := Rows.OpenSpec.upto Rows.fnOmitFullSpec) own started (by kernel_rfl) Tryd.func3
    (witness_row_atRef (enc := enc) (C := Tryd.checked) false (World.laidAll Tryd.prog os Rows.fnOmitFullUptoRow.laid) #[.agg #[.int .i64 0, .int .i64 0, .string ByteArray.empty, .slice none 0 0, .slice none 0 0]] rfl (by kernel_rfl) (by kernel_rfl) (by kernel_rfl)
      (OpenSpec.preRow_of_cond 8 hx (by kernel_rfl) (fun k hk => by cases hk; kernel_rfl) (by kernel_rfl) (door_met os _))) ?_
  intro W base args ds gs before hval0 hW hcnd hcond hsz0 hL _ _; rw [MakeChecks.laidMetH_plain _ _ _ (by kernel_rfl)] at hL; have hTabs := Tabs.names hL; clear hL; have hk := hcond _ rfl; clear hx hcond places; have hval : ∀ (j : Nat) t v, Tryd.f3.params[j]? = some t → args[j]? = some v → Value.okWide Tryd.prog W .any base t v := hval0; have hW' := hW; obtain ⟨p, q, hA0, hV, rfl, hfz, hnd⟩ := hW; have hA : DataW.TrodAll enc Tryd.prog W 0 (fun _ => true) true Tryd.f3.params.toList args.toList ds p := hA0; rw [Tryd.params3] at hA hval; obtain ⟨v0, vs0, d0, ds0, p0, q0, hargs, rfl, rfl, h0, r0⟩ := trodAll_cons hA; obtain ⟨rfl, rfl, rfl⟩ := trodAll_nil r0
  obtain rfl : args = #[v0] := by cases args; simp_all
  obtain ⟨rfl, rfl⟩ := trodVars_none hV; have hsmall := of_decide_eq_true hk; have k0 := h0
  have lt0 : ∀ x ∈ p0, x.block < W.heap.size := by obtain ⟨m, hm⟩ := k0; exact DataW.trod_lt m _ _ _ hm
  obtain ⟨x0, A0, B0, c0, e0, hv0, l0, g0, m0, n0, hs0⟩ := RowKit.val_argU h0; obtain rfl := RowKit.agg_of hv0 (by simp); have hu0 : RowKit.vol x0 ≤ 1048576 := Nat.le_trans hs0 (Nat.le_trans (RowKit.bulkAll_le (by simp)) hsmall); clear hA0 hval0
  refine (Tr.lawOmitRow x0 A0 B0 c0 e0 W l0 g0 m0 n0 hu0 hTabs).mono fun e W' ⟨he, bel⟩ => ?_
  subst he; exact ⟨_, rfl, _, _, _, [], _, [], hW', trodAll_mk1 (shut_bool Tryd.underlying4 _), (trodAll_cons_mk (Below.trod laidOut (by kernel_rfl) (of_decide_eq_true (by kernel_rfl)) k0 bel lt0) trodAll_mk0), rfl, bel.frame _, fun h => by cases h⟩
theorem over : Rows.fnOmitFullUptoRow.holds Tryd.pinned (Rows.OpenSpec.upto Rows.fnOmitFullSpec) :=
  OpenClaim.holds_of_cond 3 Tryd.f3 rfl rfl rfl rfl rfl rfl rfl ⟨rfl, rfl, rfl, rfl, rfl⟩ rfl rfl rfl rfl rfl (by kernel_rfl) Tryd.func3 (by kernel_rfl)
    (of_decide_eq_true (by kernel_rfl)) (by unfold Func.isWrapper; first | (rw [if_pos (by decide +kernel)]; kernel_rfl) | (rw [if_neg (by decide +kernel)]; exact ⟨rfl, rfl⟩))
    (fun os started H enc _ F => by rw [OpenClaim.pre_eq_preRow]; exact lifted os started H enc F)
theorem proved : Rows.FnOmitFullUptoCardSaid :=
  Claim7.holds_tied_plain_at .later [] [.data, .pinned, .pinned] true (true, "afd7db774eab6d6d7b495a72353248968a2129a2b1bdceecef7389102bb08955") true over (fun _ h => by cases h) (by kernel_rfl) (fun _ h => by cases h) fnOmitFullUpto_row_tie rfl ⟨rfl, rfl⟩ (by kernel_rfl) rfl
    (fun f fn hf hfn => by
      obtain rfl : f = 3 := Option.some.inj ((show Tryd.prog.funcNamed "pub-shipwright/laws.FnOmitFull" = some 3 by kernel_rfl).symm.trans hf) |>.symm
      obtain rfl : fn = Tryd.f3 := (Option.some.inj (Tryd.func3.symm.trans hfn)).symm
      exact ⟨by kernel_rfl, fun j t ht => by
        rw [Tryd.params3] at ht
        have hm : t ∈ [25] := by simpa using Array.mem_of_getElem? ht
        have hall : ([25].all fun u => !Tryd.prog.wantsStandIn u) = true := by kernel_rfl
        exact (show Tryd.prog.wantsStandIn t = false by simpa using List.all_eq_true.1 hall t hm)⟩)
    (by kernel_rfl)
#print axioms proved
end Go.Proofs.YtmpmekliaicecaaDoor.fnOmitFullUpto

