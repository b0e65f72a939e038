/- impl.toAny of a mapping with one text; impl.IndexMount of a text and of the mapping. -/
import Derived.Test.YtaembebbaejfiaaDoorMapOne
namespace Go.Proofs.YtaembebbaejfiaaDoor.Mount
open Go.RowKit Go.Proofs.YtaembebbaejfiaaDoorW.PrintWords Go.Proofs.YtaembebbaejfiaaDoorW.PrintLast Go.Proofs.YtaembebbaejfiaaDoor.Str Go.Proofs.YtaembebbaejfiaaDoor.Kit Go.Proofs.YtaembebbaejfiaaDoor.MapV Go.Proofs.YtaembebbaejfiaaDoor.Frame Go.Proofs.YtaembebbaejfiaaDoor.PFnIndexMount
set_option linter.unusedVariables false
set_option linter.unusedSimpArgs false
set_option maxHeartbeats 800000 in
theorem toAnyOne (s : BA) (A3 A4 : Option Addr) (c3 c4 : Nat) (w : World) (hk : Kd.string.C w A3 [srcK].length [srcK]) (hv : kI.C w A4 [(⟨3, 0, s, [], []⟩ : VI)].length [⟨3, 0, s, [], []⟩]) :
    Calls Tryd.prog 29 #[.agg #[.int .i64 5, .int .i64 0, .string ⟨#[]⟩, .slice A3 1 c3, .slice A4 1 c4]] w fun e w' => ∃ b, e = .returned (.iface 74 (.map (some b))) ∧ MapI w' b [(lb srcK, anyS s)] ∧ Below w.heap.size w w' := by
  have hb := (Below.refl _ w).alloc (Nat.le_refl _) (.cells #[.int .i64 5, .int .i64 0, .string ⟨#[]⟩, .slice A3 1 c3, .slice A4 1 c4] 28)
  have HB := Aside0.mk hb
  have CM := Aside0.mk (toMapOne s A3 A4 c3 c4 _ (Kd.C_below hk hb) (Kd.C_below hv hb))
  clear hb hk hv
  go_enter Tryd.func29, Tryd.ntmps29
  go_wp2_with fail
  refine CM.out.mono ?_
  rintro e w1 ⟨b, rfl, hm, hb⟩
  have HM := Aside0.mk (And.intro hm (hb_then HB.out hb))
  clear hm hb CM
  go_wp2
  go_ret
  exact ⟨b, rfl, HM.out.1, HM.out.2⟩
set_option maxHeartbeats 800000 in
theorem mountText (dir s : BA) (A3 A4 : Option Addr) (n3 c3 n4 c4 : Nat) (w : World) (hd : dir.size ≤ 2147483647) (hs : s.size ≤ 2147483647) :
    Calls Tryd.prog 8 #[.agg #[.int .i64 3, .int .i64 0, .string s, .slice A3 n3 c3, .slice A4 n4 c4], .string dir] w fun e w' => e = .returned (.tuple #[.string (dir ++ slash ++ s), .bool true]) ∧ Below w.heap.size w w' := by
  have HB0 := Aside0.mk ((Below.refl _ w).alloc (Nat.le_refl _) (.cells #[.int .i64 3, .int .i64 0, .string s, .slice A3 n3 c3, .slice A4 n4 c4] 28))
  go_enter Tryd.func8, Tryd.ntmps8
  go_wp2_with fail
  refine (toAnyText s A3 A4 n3 c3 n4 c4 _).mono ?_
  rintro e w1 ⟨rfl, hb⟩
  have HB1 := Aside0.mk (hb_then HB0.out hb)
  clear hb
  go_wp2_with fail
  refine (implAt w1).mono ?_
  rintro e w2 ⟨p, rfl, hb⟩
  have HB2 := Aside0.mk (hb_then HB1.out hb)
  clear hb
  go_wp2_with fail
  refine (overrideText dir s p w2 hd hs).mono ?_
  rintro e w3 ⟨rfl, hb⟩
  have HB3 := Aside0.mk (hb_then HB2.out hb)
  clear hb
  go_wp2_with fail
  refine (implIndex _ w3).mono ?_
  rintro e w4 ⟨rfl, rfl⟩
  go_wp2
  go_ret2
  exact ⟨rfl, HB3.out⟩
set_option maxHeartbeats 800000 in
theorem mountOne (dir s : BA) (A3 A4 : Option Addr) (c3 c4 : Nat) (w : World) (hk : Kd.string.C w A3 [srcK].length [srcK]) (hv : kI.C w A4 [(⟨3, 0, s, [], []⟩ : VI)].length [⟨3, 0, s, [], []⟩]) (hd : dir.size ≤ 2147483647) (hs : s.size ≤ 2147483647) :
    Calls Tryd.prog 8 #[.agg #[.int .i64 5, .int .i64 0, .string ⟨#[]⟩, .slice A3 1 c3, .slice A4 1 c4], .string dir] w fun e w' => e = .returned (.tuple #[.string (dir ++ slash ++ s), .bool true]) ∧ Below w.heap.size w w' := by
  have hb := (Below.refl _ w).alloc (Nat.le_refl _) (.cells #[.int .i64 5, .int .i64 0, .string ⟨#[]⟩, .slice A3 1 c3, .slice A4 1 c4] 28)
  have HB0 := Aside0.mk hb
  have CM := Aside0.mk (toAnyOne s A3 A4 c3 c4 _ (Kd.C_below hk hb) (Kd.C_below hv hb))
  clear hb hk hv
  go_enter Tryd.func8, Tryd.ntmps8
  go_wp2_with fail
  refine CM.out.mono ?_
  rintro e w1 ⟨b, rfl, hm, hb⟩
  have HB1 := Aside0.mk (hb_then HB0.out hb)
  have HM := Aside0.mk hm
  clear hb hm CM
  go_wp2_with fail
  refine (implAt w1).mono ?_
  rintro e w2 ⟨p, rfl, hb⟩
  have HB2 := Aside0.mk (hb_then HB1.out hb)
  have HM2 := Aside0.mk (HM.out.below hb)
  clear hb
  go_wp2_with fail
  refine (overrideMap b dir s p w2 HM2.out hd hs).mono ?_
  rintro e w3 ⟨rfl, hb⟩
  have HB3 := Aside0.mk (hb_then HB2.out hb)
  clear hb
  go_wp2_with fail
  refine (implIndex _ w3).mono ?_
  rintro e w4 ⟨rfl, rfl⟩
  go_wp2
  go_ret2
  exact ⟨rfl, HB3.out⟩
end Go.Proofs.YtaembebbaejfiaaDoor.Mount
