/- The law FnIndexMount. -/
import Derived.Test.YtaembebbaejfiaaDoorMountImpl
import Derived.Test.YtaembebbaejfiaaDoorToVals
import Derived.Test.YtaembebbaejfiaaDoorSayWord
import Derived.Test.YtaembebbaejfiaaDoorSpecM
namespace Go.Proofs.YtaembebbaejfiaaDoor.Mount
open Go.RowKit Go.Proofs.YtaembebbaejfiaaDoorW.PrintWords Go.Proofs.YtaembebbaejfiaaDoorW.PrintLast Go.Proofs.YtaembebbaejfiaaDoor.Str Go.Proofs.YtaembebbaejfiaaDoor.Kit Go.Proofs.YtaembebbaejfiaaDoor.MapV Go.Proofs.YtaembebbaejfiaaDoor.Frame Go.Proofs.YtaembebbaejfiaaDoor.PFnIndexMount
set_option linter.unusedVariables false
set_option linter.unusedSimpArgs false
/-- a text as spec.Val, in an interface -/
def anyT (s : BA) (A3 A4 : Option Addr) (n3 c3 n4 c4 : Nat) : Value := .iface 32 (.agg #[.int .i64 3, .int .i64 0, .string s, .slice A3 n3 c3, .slice A4 n4 c4])
/-- spec.M of a key and a text -/
theorem specM (s : BA) {b : Nat} {A3 A4 : Option Addr} {c3 c4 : Nat} (w : World) (h3 : Kd.string.C w A3 0 []) (h4 : kS.C w A4 0 []) (h : w.heap[b]? = some (.cells #[anyS srcK, anyT s A3 A4 0 c3 0 c4] 20 (0, 0))) :
    Calls Tryd.prog 11 #[.slice (some ⟨b, 0, none⟩) 2 2] w fun e w' => ∃ A5 c5 A6 c6, e = .returned (.agg #[.int .i64 5, .int .i64 0, .string ⟨#[]⟩, .slice A5 1 c5, .slice A6 1 c6]) ∧ Kd.string.C w' A5 1 [srcK] ∧ 1 ≤ c5 ∧ kS.C w' A6 1 [⟨3, 0, s, [], []⟩] ∧ 1 ≤ c6 ∧ Below w.heap.size w w' :=
  Val.specM1 srcK ⟨3, 0, s, [], []⟩ w h (Nat.zero_le _) h3 (Nat.zero_le _) h4
set_option maxHeartbeats 3200000 in
set_option maxRecDepth 100000 in
theorem lawMountGood (s dir : BA) (w : World) (hs : s.size ≤ 2147483647) (hd : dir.size ≤ 2147483647) :
    Calls Tryd.prog 3 #[.string s, .string dir] w fun e w' => e = .returned (.bool true) ∧ Below w.heap.size w w' := by
  have d1 : decide (2147483647 < (s.size : Int)) = false := decide_eq_false (by omega)
  have d2 : decide (2147483647 < (dir.size : Int)) = false := decide_eq_false (by omega)
  have CW := Aside0.mk (Say.PartWord s w hs)
  go_enter Tryd.func3, Tryd.ntmps3
  go_wp2_with fail
  refine CW.out.mono ?_
  rintro e w1 ⟨r, rfl, hb⟩
  have HB1 := Aside0.mk hb
  clear hb CW
  cases r
  · go_wp2
    go_ret
    exact ⟨rfl, HB1.out⟩
  · go_wp2_with fail
    refine (spec_T.calls s 3 0 s [] [] w1 rfl).mono ?_
    rintro e w2 ⟨v3, v4, rfl, hr3, hr4, hb⟩
    have HB2 := Aside0.mk (hb_then HB1.out hb)
    obtain ⟨A3, c3, rfl, l3, g3⟩ := Kd.R_reads hr3
    obtain ⟨A4, c4, rfl, l4, g4⟩ := Kd.R_reads hr4
    have CT := Aside0.mk (laws_to.calls 2 3 0 s A3 c3 [] A4 c4 [] 3 0 s [] [] w2 g3 l3 g4 l4 (to_text s))
    clear hr3 hr4 hb g3 g4 l3 l4
    go_wp2_with fail
    refine CT.out.mono ?_
    rintro e w3 ⟨v3, v4, rfl, hr3, hr4, hb⟩
    have HB3 := Aside0.mk (hb_then HB2.out hb)
    obtain ⟨A5, c5, rfl, l3, g3⟩ := Kd.R_reads hr3
    obtain ⟨A6, c6, rfl, l4, g4⟩ := Kd.R_reads hr4
    have CM := Aside0.mk (mountText dir s A5 A6 0 c5 0 c6 w3 hd hs)
    clear hr3 hr4 hb g3 g4 l3 l4 CT
    go_wp2_with fail
    refine CM.out.mono ?_
    rintro e w4 ⟨rfl, hb⟩
    have HB4 := Aside0.mk (hb_then HB3.out hb)
    clear hb CM
    go_wp2_with fail
    refine (spec_T.calls s 3 0 s [] [] w4 rfl).mono ?_
    rintro e w5 ⟨v3, v4, rfl, hr3, hr4, hb⟩
    have HB5 := Aside0.mk (hb_then HB4.out hb)
    obtain ⟨A7, c7, rfl, l3, g3⟩ := Kd.R_reads hr3
    obtain ⟨A8, c8, rfl, l4, g4⟩ := Kd.R_reads hr4
    have cs := specM (b := w5.heap.size) (A3 := A7) (A4 := A8) (c3 := c7) (c4 := c8) s (w5.alloc (.cells #[anyS srcK, anyT s A7 A8 0 c7 0 c8] 20)) (Kd.C_below g3 (below_alloc (Below.refl _ _) _)) (Kd.C_below g4 (below_alloc (Below.refl _ _) _)) (cb_new _ _)
    unfold anyS anyT srcK at cs
    have CS := Aside0.mk cs
    have HB6 := Aside0.mk (below_alloc HB5.out (.cells #[anyS srcK, anyT s A7 A8 0 c7 0 c8] 20))
    clear hr3 hr4 hb g3 g4 l3 l4 cs
    go_wp2_with fail
    refine CS.out.mono ?_
    rintro e w7 ⟨A5, c5, A6, c6, rfl, g3, l3, g4, l4, hb⟩
    have HB7 := Aside0.mk (hb_then HB6.out hb)
    have CT := Aside0.mk (laws_to.calls 4 5 0 ⟨#[]⟩ A5 c5 [srcK] A6 c6 [⟨3, 0, s, [], []⟩] 5 0 ⟨#[]⟩ [srcK] [⟨3, 0, s, [], []⟩] w7 g3 l3 g4 l4 (to_one srcK s))
    clear hb g3 g4 l3 l4 CS
    go_wp2_with fail
    refine CT.out.mono ?_
    rintro e w8 ⟨v3, v4, rfl, hr3, hr4, hb⟩
    have HB8 := Aside0.mk (hb_then HB7.out hb)
    obtain ⟨A9, c9, rfl, l3, g3⟩ := Kd.R_reads hr3
    obtain ⟨A10, c10, rfl, l4, g4⟩ := Kd.R_reads hr4
    have CM := Aside0.mk (mountOne dir s A9 A10 c9 c10 w8 g3 g4 hd hs)
    clear hr3 hr4 hb g3 g4 l3 l4 CT
    go_wp2_with fail
    refine CM.out.mono ?_
    rintro e w9 ⟨rfl, hb⟩
    have HB9 := Aside0.mk (hb_then HB8.out hb)
    clear hb CM
    generalize dir ++ slash ++ s = x at *
    have hxx : (x.toList == x.toList) = true := beq_self_eq_true _
    go_wp2
    go_ret
    exact ⟨rfl, HB9.out⟩
theorem lawMount (s dir : BA) (w : World) :
    Calls Tryd.prog 3 #[.string s, .string dir] w fun e w' => e = .returned (.bool true) ∧ Below w.heap.size w w' := by
  have HB := Aside0.mk (Below.refl w.heap.size w)
  by_cases hs : s.size ≤ 2147483647
  · by_cases hd : dir.size ≤ 2147483647
    · exact lawMountGood s dir w hs hd
    · have d1 : decide (2147483647 < (s.size : Int)) = false := decide_eq_false (by omega)
      have d2 : decide (2147483647 < (dir.size : Int)) = true := decide_eq_true (by omega)
      clear hs hd
      go_enter Tryd.func3, Tryd.ntmps3
      go_wp2
      go_ret
      exact ⟨rfl, HB.out⟩
  · have d1 : decide (2147483647 < (s.size : Int)) = true := decide_eq_true (by omega)
    clear hs
    go_enter Tryd.func3, Tryd.ntmps3
    go_wp2
    go_ret
    exact ⟨rfl, HB.out⟩
theorem lawMountRow (s dir : BA) (w : World) (hs : s.size ≤ 140737488351232) (hd : dir.size ≤ 140737488351232) (hT : True) :
    Calls Tryd.prog 3 #[.string s, .string dir] w fun e w' => e = .returned (.bool true) ∧ Below w.heap.size w w' := lawMount s dir w
end Go.Proofs.YtaembebbaejfiaaDoor.Mount
