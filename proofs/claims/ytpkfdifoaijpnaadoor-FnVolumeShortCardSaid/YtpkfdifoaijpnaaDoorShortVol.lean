/- laws.shortVolume: the thin package's mount as the reference's. -/
import Derived.Test.YtpkfdifoaijpnaaDoorShortMode
import Derived.Test.YtpkfdifoaijpnaaDoorVolImpl
namespace Go.Proofs.YtpkfdifoaijpnaaDoor.Vol
open Go.RowKit Go.Proofs.YtpkfdifoaijpnaaDoorW.PrintWords Go.Proofs.YtpkfdifoaijpnaaDoor.Str Go.Proofs.YtpkfdifoaijpnaaDoor.Kit Go.Proofs.YtpkfdifoaijpnaaDoor.Frame Go.Proofs.YtpkfdifoaijpnaaDoor.Index
set_option linter.unusedVariables false
set_option linter.unusedSimpArgs false
theorem results_cell1 {fn : Func} {p : Tmp} {ty : TypeId} (h : fn.results = #[.cell p ty]) (tmps : Array Value) (P : Program) (w : World) :
    (results fn tmps).run P w = ((asAddr (tmps.getD p undef)).run P w).andThen fun a w₁ => (loadVar ty a).run P w₁ := by
  simp only [results, h]
  simp [Sem.run_bind, Result.andThen]
  try rfl
/-- the reference's fields of a mount -/
def asSpec (v : VolV) : SpecV := ⟨v.typ, v.src, v.tgt, (v.bind.map (·.pr)).getD ⟨#[]⟩, (v.bind.map (·.se)).getD ⟨#[]⟩, v.ro, (v.bind.map (·.ch)).getD false, v.own.getD false⟩
set_option maxHeartbeats 1600000 in
theorem lawShortVolume (v : VolV) (w : World) :
    Calls Tryd.prog 14 #[.agg (implC v)] w fun e w' => e = .returned (.agg (specC (asSpec v))) ∧ Below w.heap.size w w' := by
  have e1 : implC v = #[.string (asSpec v).typ, .string (asSpec v).src, .string (asSpec v).tgt, .string ⟨#[]⟩, .string (asSpec v).pr, .string (asSpec v).se, .bool (asSpec v).ro, .bool (asSpec v).ch, .bool (asSpec v).nc, .bool v.bind.isSome, .bool v.own.isSome, .bool false] := rfl
  rw [e1]
  generalize asSpec v = u
  generalize v.bind.isSome = b1
  generalize v.own.isSome = b2
  have HB := Aside0.mk (((Below.refl _ w).alloc (Nat.le_refl _) (.cells #[.string u.typ, .string u.src, .string u.tgt, .string ⟨#[]⟩, .string u.pr, .string u.se, .bool u.ro, .bool u.ch, .bool u.nc, .bool b1, .bool b2, .bool false] 26)).alloc (by simp) (.cells (specC u) 30))
  go_enter Tryd.func14, Tryd.ntmps14
  go_wp2
  refine bodyPost_ret (v := .agg (specC u)) ?_ rfl ⟨rfl, HB.out⟩
  rw [results_cell1 rfl]
  go_simp
  rfl
end Go.Proofs.YtpkfdifoaijpnaaDoor.Vol
