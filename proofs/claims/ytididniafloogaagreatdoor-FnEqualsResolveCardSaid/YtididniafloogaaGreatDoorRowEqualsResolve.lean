/- Names without a value take the value of the environment if it has one, and everything else is unchanged; resolving is idempotent, and RemoveEmpty keeps exactly the names with a value. -/
import Derived.Test.YtididniafloogaaGreatDoorRows
import Derived.Test.YtididniafloogaaGreatDoorLawEqRes
import Derived.Test.YtididniafloogaaGreatDoorRowKit
import Derived.WalkKit
import Derived.ProofKit
import Derived.OpenShut
import Derived.ShutString
import Derived.ChangeOld
import Derived.Below
import Derived.SizedLaws
import Derived.Lay
import Derived.SevenTiedAt
import Derived.LaidMore
import Derived.Test.YtididniafloogaaGreatDoorCards
import Derived.Test.YtididniafloogaaGreatDoorTie
import Derived.Test.YtididniafloogaaGreatDoorMTabs
import Derived.Test.YtididniafloogaaGreatDoorPairsArg
import Derived.Test.YtididniafloogaaGreatDoorOptsArg
namespace Go.Proofs.YtididniafloogaaGreatDoor.fnEqualsResolve
open Go.ChangeShapes Go.WideShapes Go.ChangeAt Go.RowKit
open Go.ChangeMaps (open_string shut_string)
set_option linter.unusedVariables false
theorem own : ownKnob Tryz.prog.godebug = none := by kernel_rfl
theorem laidOut : laidOutB Tryz.prog = true := by kernel_rfl
set_option maxRecDepth 100000 in
theorem lifted (os : Os) (started : os.Started) (H : Type) (enc : TypeId × Value → H) :
    ReturnsInHanded {} Tryz.checked os 7 .any (fun w args => (Rows.fnEqualsResolveSpec.pre enc Tryz.prog Tryz.f7 [] false w args ∧ laidMetH Tryz.prog Rows.fnEqualsResolveRow.laid w) ∧ sizedMet enc Tryz.prog Tryz.f7 (OpenSpec.ofChange Rows.fnEqualsResolveSpec) false w args) (Rows.fnEqualsResolveSpec.post enc Tryz.prog Tryz.f7 false true false false) := by
  refine returnsInHanded_of_change_and (C := Tryz.checked) (X := fun w _ => laidMetH Tryz.prog Rows.fnEqualsResolveRow.laid w) (fun _ _ _ hh h => h.of_heap hh) own started (by kernel_rfl) Tryz.func7
    (ChangeSpec.witness_shaped (enc := enc) (C := Tryz.checked) (os := os) (X := fun w _ => laidMetH Tryz.prog Rows.fnEqualsResolveRow.laid w) false (World.laidAll Tryz.prog os Rows.fnEqualsResolveRow.laid) #[.slice none 0 0, .slice none 0 0] 8 (World.laidAll_os _ _ _)
      (World.shaped_of_ZipB (by kernel_rfl) (by kernel_rfl)) (by kernel_rfl) (by kernel_rfl) (by kernel_rfl)
      (by rw [MakeChecks.laidMetH_plain _ _ _ (by kernel_rfl)]; exact laidMet_laidAll _ (by kernel_rfl) (by kernel_rfl))) ?_
  intro W base args ds gs before hval0 hW hcnd hsz0 hL _
  rw [MakeChecks.laidMetH_plain _ _ _ (by kernel_rfl)] at hL
  have hTabs := MTabsOf.maps hL
  clear hL
  have hsz : (DataW.weightsEach Tryz.prog (Tryz.f7.params.toList ++ Rows.fnEqualsResolveSpec.plain.varTypes Tryz.prog) (ds ++ gs)).all (· ≤ reachBytes) = true := hsz0
  have hval : ∀ (j : Nat) t v, Tryz.f7.params[j]? = some t → args[j]? = some v → Value.okWide Tryz.prog W .any base t v := hval0
  have hW' := hW
  obtain ⟨p, q, hA0, hV, rfl, hfz, hnd⟩ := hW
  have hA : DataW.TrodAll enc Tryz.prog W 0 (fun _ => true) true Tryz.f7.params.toList args.toList ds p := hA0
  rw [Tryz.params7] at hA hval hsz
  obtain ⟨v0, vs0, d0, ds0, p0, q0, hargs, rfl, rfl, h0, r0⟩ := trodAll_cons hA
  obtain ⟨v1, vs1, d1, ds1, p1, q1, rfl, rfl, rfl, h1, r1⟩ := trodAll_cons r0
  obtain ⟨rfl, rfl, rfl⟩ := trodAll_nil r1
  obtain rfl : args = #[v0, v1] := by cases args; simp_all
  obtain ⟨rfl, rfl⟩ := trodVars_none hV
  obtain ⟨A0, len0, c0, rfl⟩ := okWide_slice Tryz.underlying40 (hval 0 40 v0 rfl rfl)
  have k0 := h0
  have lt0 : ∀ x ∈ p0, x.block < W.heap.size := by obtain ⟨m, hm⟩ := k0; exact DataW.trod_lt m _ _ _ hm
  obtain ⟨xs0, e0, hc0, hC0⟩ := RowKit.opts_arg Tryz.underlying40 Tryz.underlying86 Tryz.underlying9 Tryz.underlying9 Tryz.underlying4 (by kernel_rfl) (by kernel_rfl) (by kernel_rfl) rfl rfl rfl (by kernel_rfl) h0
  subst e0
  obtain ⟨A1, len1, c1, rfl⟩ := okWide_slice Tryz.underlying25 (hval 1 25 v1 rfl rfl)
  have k1 := h1
  have lt1 : ∀ x ∈ p1, x.block < W.heap.size := by obtain ⟨m, hm⟩ := k1; exact DataW.trod_lt m _ _ _ hm
  obtain ⟨xs1, e1, hc1, hC1⟩ := RowKit.pairs_arg Tryz.underlying25 Tryz.underlying65 Tryz.underlying9 Tryz.underlying9 (by kernel_rfl) (by kernel_rfl) rfl rfl (by kernel_rfl) h1
  subst e1
  clear hA0 hval0 hsz0 hsz
  refine (Maps.lawEqResRow A0 c0 xs0 A1 c1 xs1 W hC0 hc0 hC1 hc1 hTabs).mono fun e W' ⟨he, bel⟩ => ?_
  subst he
  exact ⟨_, rfl, _, _, _, [], _, [], hW', trodAll_mk1 (shut_bool Tryz.underlying4 _), (trodAll_cons_mk (Below.trod laidOut (by kernel_rfl) (of_decide_eq_true (by kernel_rfl)) k0 bel lt0) (trodAll_cons_mk (Below.trod laidOut (by kernel_rfl) (of_decide_eq_true (by kernel_rfl)) k1 bel lt1) trodAll_mk0)), rfl, bel.frame _, fun h => by cases h⟩
theorem over : Rows.fnEqualsResolveRow.holds Tryz.pinned (OpenSpec.ofChange Rows.fnEqualsResolveSpec) :=
  OpenClaim.holds_of_wide 7 Tryz.f7 rfl rfl rfl rfl rfl rfl rfl ⟨rfl, rfl, rfl, rfl, rfl⟩ rfl rfl rfl rfl rfl (by kernel_rfl) Tryz.func7 (by kernel_rfl)
    (of_decide_eq_true (by kernel_rfl)) (by unfold Func.isWrapper; first | (rw [if_pos (by decide +kernel)]; kernel_rfl) | (rw [if_neg (by decide +kernel)]; exact ⟨rfl, rfl⟩))
    (fun os started H enc _ => lifted os started H enc)
theorem proved : Rows.FnEqualsResolveCardSaid :=
  Claim7.holds_tied_plain_at .later [] [.data, .data, .data, .data, .sentinel, .sentinel, .listed, .data, .pinned, .pinned] true (true, "25defe7772b85601eacea23bb5340f5e0ab8ad64ef83b1b890a260de8f4bede0") true over (fun _ h => by cases h) (by kernel_rfl) (fun _ h => by cases h) fnEqualsResolve_row_tie rfl ⟨rfl, rfl⟩ (by kernel_rfl) rfl
    (fun f fn hf hfn => by
      obtain rfl : f = 7 := Option.some.inj ((show Tryz.prog.funcNamed "pub-shipwright/laws.FnEqualsResolve" = some 7 by kernel_rfl).symm.trans hf) |>.symm
      obtain rfl : fn = Tryz.f7 := (Option.some.inj (Tryz.func7.symm.trans hfn)).symm
      exact ⟨by kernel_rfl, fun j t ht => by
        rw [Tryz.params7] at ht
        have hm : t ∈ [40, 25] := by simpa using Array.mem_of_getElem? ht
        have hall : ([40, 25].all fun u => !Tryz.prog.wantsStandIn u) = true := by kernel_rfl
        exact (show Tryz.prog.wantsStandIn t = false by simpa using List.all_eq_true.1 hall t hm)⟩)
    (by kernel_rfl)
#print axioms proved
end Go.Proofs.YtididniafloogaaGreatDoor.fnEqualsResolve

