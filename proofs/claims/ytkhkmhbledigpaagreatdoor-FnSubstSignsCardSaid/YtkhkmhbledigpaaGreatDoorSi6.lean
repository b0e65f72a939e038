/- Parts of the proof, laid together: LawSubWords, LawSubSigns, RowKit, DTabsSigns. -/
import Derived.Test.YtkhkmhbledigpaaGreatDoorSi5
import Derived.Test.YtkhkmhbledigpaaGreatDoorSi4
import Derived.Test.YtkhkmhbledigpaaGreatDoorRows
import Derived.ProofKit
import Derived.OpenShut
import Derived.ShutString
import Derived.ChangeOld
import Derived.Below
import Derived.SizedLaws
import Derived.SliceStrings
import Derived.Test.YtkhkmhbledigpaaGreatDoorCards
import Derived.PinnedBridge
namespace Go.Proofs.YtkhkmhbledigpaaGreatDoor.Tr
open Go.RowKit Go.Proofs.YtkhkmhbledigpaaGreatDoorW.PrintWords Go.Proofs.YtkhkmhbledigpaaGreatDoorW.PrintLast Go.Proofs.YtkhkmhbledigpaaGreatDoor.Str Go.Proofs.YtkhkmhbledigpaaGreatDoor.Kit Go.Proofs.YtkhkmhbledigpaaGreatDoor.MapV Go.Proofs.YtkhkmhbledigpaaGreatDoor.Frame Go.Proofs.YtkhkmhbledigpaaGreatDoor.PS
open Go.Proofs.YtkhkmhbledigpaaGreatDoor.Maps (MapS key_u map_u lookFn lookT kp toP Ok encP ofP fitsP)
set_option linter.unusedVariables false
set_option linter.unusedSimpArgs false
theorem how_six (how : Int) : ∃ j : Int, 0 ≤ j ∧ j ≤ 5 ∧ (wrap64 (how.tmod 6 + 6)).tmod 6 = j := by
 have h1 : -6 < how.tmod 6 := Int.lt_tmod_of_pos how (by decide)
 have h2 : how.tmod 6 < 6 := Int.tmod_lt_of_pos how (by decide)
 generalize how.tmod 6 = a at *
 rw [show wrap64 (a + 6) = a + 6 by unfold wrap64; omega, Int.tmod_eq_emod_of_nonneg (by omega)]
 exact ⟨(a + 6) % 6, by omega, by omega, rfl⟩
end Go.Proofs.YtkhkmhbledigpaaGreatDoor.Tr
namespace Go.Proofs.YtkhkmhbledigpaaGreatDoor.Tr
open Go.RowKit Go.Proofs.YtkhkmhbledigpaaGreatDoorW.PrintWords Go.Proofs.YtkhkmhbledigpaaGreatDoorW.PrintLast Go.Proofs.YtkhkmhbledigpaaGreatDoor.Str Go.Proofs.YtkhkmhbledigpaaGreatDoor.Kit Go.Proofs.YtkhkmhbledigpaaGreatDoor.MapV Go.Proofs.YtkhkmhbledigpaaGreatDoor.Frame Go.Proofs.YtkhkmhbledigpaaGreatDoor.PS
open Go.Proofs.YtkhkmhbledigpaaGreatDoor.Maps (MapS key_u map_u lookFn lookT kp toP Ok encP ofP fitsP)
set_option linter.unusedVariables false
set_option linter.unusedSimpArgs false
theorem plainest_word (s : BA) : IsWord (lb (plainest s)) := by
 intro c hc
 unfold plainest at hc
 rw [lb_mk', List.mem_filter] at hc
 have h := hc.2
 unfold keepP at h
 simp at h
 refine ⟨?_, ?_, ?_, ?_⟩ <;> (rintro rfl; simp at h)
theorem body_is (n wd : BA) (k : Fin 6) : n ++ (opAt k).1 ++ wd = mk (body (lb n) k (lb wd)) := by
 refine lb_inj ?_
 unfold body sgn
 rw [lb_mk']
 simp [lb_append]
theorem Words.okOne {n wd v : BA} {k : Fin 6} (h : Words n wd v k) (x : BA) : Ok 1 [(lb n, x)] := ⟨by unfold MapV.Rises; simp, by intro p hp; simp at hp; rw [hp]; show (lb n).length ≤ _; rw [lb_length]; have := h.ns; omega, by simp⟩
theorem toP_one (n x : BA) : toP [(lb n, x)] = [(n, x)] := by simp [toP, lb]
set_option maxHeartbeats 6400000 in
set_option maxRecDepth 100000 in
theorem signs0t (how : Int) (n0 wd0 v n wd : BA) (h1 : (n0.size : Int) ≤ 2147483647) (h2 : (wd0.size : Int) ≤ 2147483647) (h3 : (v.size : Int) ≤ 2147483647) (hj : (wrap64 (how.tmod 6 + 6)).tmod 6 = 0)
  (HN : ∀ W, Calls Tryz.prog 11 #[.string n0] W fun e w' => e = .returned (.string n) ∧ Below W.heap.size W w')
  (HP : ∀ W, Calls Tryz.prog 22 #[.string wd0] W fun e w' => e = .returned (.string wd) ∧ Below W.heap.size W w')
  (HW : Words n wd v ⟨3, by decide⟩) (w : World) (hg : ErrAt w) :
  Calls Tryz.prog 8 #[.int .i64 how, .string n0, .string wd0, .string v, .bool true] w fun e w' => e = .returned (.bool true) ∧ Below w.heap.size w w' := by
 have d1 : decide ((2147483647 : Int) < (n0.size : Int)) = false := decide_eq_false (by omega)
 have d2 : decide ((2147483647 : Int) < (wd0.size : Int)) = false := decide_eq_false (by omega)
 have d3 : decide ((2147483647 : Int) < (v.size : Int)) = false := decide_eq_false (by omega)
 obtain ⟨R, hR⟩ : ∃ R, R = opRes ⟨3, by decide⟩ (some v) wd := ⟨_, rfl⟩
 have CN := aM HN
 have CP := aM HP
 have HG := aM hg
 have C1 := aM (fun (W : World) A (h : kp.C W A 1 [(n, v)]) (hg : ErrAt W) => show Calls Tryz.prog 15 #[.string (⟨#[36, 123]⟩ ++ n ++ ⟨#[45]⟩ ++ wd ++ ⟨#[125]⟩), .slice A 1 1] W fun e w' => implTold R e ∧ Below W.heap.size W w' from HW.one v (by have := HW.vs; omega) R hR W A 1 h hg)
 have hbd : n ++ ⟨#[45]⟩ ++ wd = mk (body (lb n) ⟨3, by decide⟩ (lb wd)) := body_is n wd ⟨3, by decide⟩
 have hT : OpTells 58 (n ++ ⟨#[45]⟩ ++ wd) [(lb n, v)] (R.map (·, true)) := by
  rw [hbd]
  exact tells_hit HW [(lb n, v)] R (hR.trans (by first | rfl | (congr 1; simp [mget])))
 have hU : OpTells 58 n [(lb n, v)] (some (⟨#[]⟩, false)) := tells_no HW.hn HW.ns ⟨3, by decide⟩ [(lb n, v)]
 have C2 := aM (fun (W : World) A (h : kp.C W A 1 [(n, v)]) (hg : ErrAt W) => show Calls Tryz.prog 23 #[.int .i64 0, .string (n ++ ⟨#[45]⟩ ++ wd), .slice A 1 1] W fun e w' => Sign3 (R.map (·, true)) e ∧ Below W.heap.size W w' from sign0 hT (N := 1) (HW.okOne v) (by decide) A 1 W (by rw [toP_one]; exact h) hg)
 have C3 := aM (fun (W : World) A (h : kp.C W A 1 [(n, v)]) (hg : ErrAt W) => show Calls Tryz.prog 23 #[.int .i64 0, .string n, .slice A 1 1] W fun e w' => Sign3 (some (⟨#[]⟩, false)) e ∧ Below W.heap.size W w' from sign0 hU (N := 1) (HW.okOne v) (by decide) A 1 W (by rw [toP_one]; exact h) hg)
 have a1 := HW.ns
 have a2 := HW.ws
 clear HN HP hg HW hbd hT hU hR
 have hcase : (Aside0 (R = none)) ∨ ∃ r, Aside0 (R = some r) := by
  cases R with
  | none => exact .inl ⟨rfl⟩
  | some r => exact .inr ⟨r, ⟨rfl⟩⟩
 go_enter Tryz.func8, Tryz.ntmps8
 go_wp2_with fail
 refine (CN.out _).mono ?_
 rintro e w1 ⟨rfl, hb⟩
 have HB1 := aM hb
 clear hb CN
 go_wp2_with fail
 refine (CP.out _).mono ?_
 rintro e w2 ⟨rfl, hb⟩
 have HB2 := aM (hb_then HB1.out hb)
 clear hb CP HB1
 have HB3 := aM (below_alloc (below_alloc HB2.out (.cells #[.string ⟨#[45]⟩, .string ⟨#[58, 45]⟩, .string ⟨#[43]⟩, .string ⟨#[58, 43]⟩, .string ⟨#[63]⟩, .string ⟨#[58, 63]⟩] 9)) (.cells #[.string n, .string v] 43))
 have HK3 := aM (show kp.C ((w2.alloc (.cells #[.string ⟨#[45]⟩, .string ⟨#[58, 45]⟩, .string ⟨#[43]⟩, .string ⟨#[58, 43]⟩, .string ⟨#[63]⟩, .string ⟨#[58, 63]⟩] 9)).alloc (.cells #[.string n, .string v] 43)) (some ⟨w2.heap.size + 1, 0, none⟩) 1 [(n, v)] from by have z := one_lit (w2.alloc (.cells #[.string ⟨#[45]⟩, .string ⟨#[58, 45]⟩, .string ⟨#[43]⟩, .string ⟨#[58, 43]⟩, .string ⟨#[63]⟩, .string ⟨#[58, 63]⟩] 9)) 43 n v; rw [World.size_alloc] at z; exact z)
 have CC1 := aM (C1.out ((w2.alloc (.cells #[.string ⟨#[45]⟩, .string ⟨#[58, 45]⟩, .string ⟨#[43]⟩, .string ⟨#[58, 43]⟩, .string ⟨#[63]⟩, .string ⟨#[58, 63]⟩] 9)).alloc (.cells #[.string n, .string v] 43)) (some ⟨w2.heap.size + 1, 0, none⟩) HK3.out (pw_cell_below HB3.out HG.out))
 clear C1 HB2
 go_wp2_with fail
 refine CC1.out.mono ?_
 rintro e w4 ⟨ht1, hb⟩
 have HB4 := aM (hb_then HB3.out hb)
 have HK4 := aM (Kd.C_below HK3.out hb)
 have CC2 := aM (C2.out w4 _ HK4.out (pw_cell_below HB4.out HG.out))
 clear hb CC1 C2 HB3 HK3
 rcases hcase with hc | ⟨r, hc⟩
 all_goals
  rw [hc.out] at ht1
  have ht1' := (show e = _ from ht1)
  clear ht1
  obtain rfl := ht1'
  go_wp2_with fail
  refine CC2.out.mono ?_
  rintro e w5 ⟨ht2, hb⟩
  rw [hc.out] at ht2
  have ht2' := (show e = _ from ht2)
  clear ht2
  obtain rfl := ht2'
  have HB5 := aM (hb_then HB4.out hb)
  have HK5 := aM (Kd.C_below HK4.out hb)
  have CC3 := aM (C3.out w5 _ HK5.out (pw_cell_below HB5.out HG.out))
  clear hb CC2 C3 HB4 HK4
  go_wp2_with fail
  refine CC3.out.mono ?_
  rintro e w6 ⟨ht3, hb⟩
  have ht3' := (show e = _ from ht3)
  clear ht3
  obtain rfl := ht3'
  have HB6 := aM (hb_then HB5.out hb)
  clear hb CC3 HB5 HK5
  try have he : (r.toList == r.toList) = true := beq_self_eq_true _
  have CL := aM (substLives w6)
  go_wp2_with fail
  refine CL.out.mono ?_
  rintro e w7 ⟨rfl, hb⟩
  have HB7 := aM (hb_then HB6.out hb)
  clear hb CL HB6
  go_wp2
  go_ret
  exact ⟨rfl, HB7.out⟩
set_option maxHeartbeats 6400000 in
set_option maxRecDepth 100000 in
theorem signs0f (how : Int) (n0 wd0 v n wd : BA) (h1 : (n0.size : Int) ≤ 2147483647) (h2 : (wd0.size : Int) ≤ 2147483647) (h3 : (v.size : Int) ≤ 2147483647) (hj : (wrap64 (how.tmod 6 + 6)).tmod 6 = 0)
  (HN : ∀ W, Calls Tryz.prog 11 #[.string n0] W fun e w' => e = .returned (.string n) ∧ Below W.heap.size W w')
  (HP : ∀ W, Calls Tryz.prog 22 #[.string wd0] W fun e w' => e = .returned (.string wd) ∧ Below W.heap.size W w')
  (HW : Words n wd v ⟨3, by decide⟩) (w : World) (hg : ErrAt w) :
  Calls Tryz.prog 8 #[.int .i64 how, .string n0, .string wd0, .string v, .bool false] w fun e w' => e = .returned (.bool true) ∧ Below w.heap.size w w' := by
 have d1 : decide ((2147483647 : Int) < (n0.size : Int)) = false := decide_eq_false (by omega)
 have d2 : decide ((2147483647 : Int) < (wd0.size : Int)) = false := decide_eq_false (by omega)
 have d3 : decide ((2147483647 : Int) < (v.size : Int)) = false := decide_eq_false (by omega)
 obtain ⟨R, hR⟩ : ∃ R, R = opRes ⟨3, by decide⟩ (Option.none) wd := ⟨_, rfl⟩
 have CN := aM HN
 have CP := aM HP
 have HG := aM hg
 have C1 := aM (fun (W : World) A (h : kp.C W A 0 []) (hg : ErrAt W) => show Calls Tryz.prog 15 #[.string (⟨#[36, 123]⟩ ++ n ++ ⟨#[45]⟩ ++ wd ++ ⟨#[125]⟩), .slice A 0 0] W fun e w' => implTold R e ∧ Below W.heap.size W w' from HW.none R hR W A 0 hg)
 have hbd : n ++ ⟨#[45]⟩ ++ wd = mk (body (lb n) ⟨3, by decide⟩ (lb wd)) := body_is n wd ⟨3, by decide⟩
 have hT : OpTells 58 (n ++ ⟨#[45]⟩ ++ wd) [] (R.map (·, true)) := by
  rw [hbd]
  exact tells_hit HW [] R (hR.trans (by first | rfl | (congr 1; simp [mget])))
 have hU : OpTells 58 n [] (some (⟨#[]⟩, false)) := tells_no HW.hn HW.ns ⟨3, by decide⟩ []
 have C2 := aM (fun (W : World) A (h : kp.C W A 0 []) (hg : ErrAt W) => show Calls Tryz.prog 23 #[.int .i64 0, .string (n ++ ⟨#[45]⟩ ++ wd), .slice A 0 0] W fun e w' => Sign3 (R.map (·, true)) e ∧ Below W.heap.size W w' from sign0 hT Go.Proofs.YtkhkmhbledigpaaGreatDoor.Maps.Ok.nil (by decide) A 0 W (h) hg)
 have C3 := aM (fun (W : World) A (h : kp.C W A 0 []) (hg : ErrAt W) => show Calls Tryz.prog 23 #[.int .i64 0, .string n, .slice A 0 0] W fun e w' => Sign3 (some (⟨#[]⟩, false)) e ∧ Below W.heap.size W w' from sign0 hU Go.Proofs.YtkhkmhbledigpaaGreatDoor.Maps.Ok.nil (by decide) A 0 W (h) hg)
 have a1 := HW.ns
 have a2 := HW.ws
 clear HN HP hg HW hbd hT hU hR
 have hcase : (Aside0 (R = none)) ∨ ∃ r, Aside0 (R = some r) := by
  cases R with
  | none => exact .inl ⟨rfl⟩
  | some r => exact .inr ⟨r, ⟨rfl⟩⟩
 go_enter Tryz.func8, Tryz.ntmps8
 go_wp2_with fail
 refine (CN.out _).mono ?_
 rintro e w1 ⟨rfl, hb⟩
 have HB1 := aM hb
 clear hb CN
 go_wp2_with fail
 refine (CP.out _).mono ?_
 rintro e w2 ⟨rfl, hb⟩
 have HB2 := aM (hb_then HB1.out hb)
 clear hb CP HB1
 have HB3 := aM (below_alloc HB2.out (.cells #[.string ⟨#[45]⟩, .string ⟨#[58, 45]⟩, .string ⟨#[43]⟩, .string ⟨#[58, 43]⟩, .string ⟨#[63]⟩, .string ⟨#[58, 63]⟩] 9))
 have HK3 := aM (show kp.C (w2.alloc (.cells #[.string ⟨#[45]⟩, .string ⟨#[58, 45]⟩, .string ⟨#[43]⟩, .string ⟨#[58, 43]⟩, .string ⟨#[63]⟩, .string ⟨#[58, 63]⟩] 9)) none 0 [] from Go.Proofs.YtkhkmhbledigpaaGreatDoor.Maps.kp_none _ none)
 have CC1 := aM (C1.out (w2.alloc (.cells #[.string ⟨#[45]⟩, .string ⟨#[58, 45]⟩, .string ⟨#[43]⟩, .string ⟨#[58, 43]⟩, .string ⟨#[63]⟩, .string ⟨#[58, 63]⟩] 9)) none HK3.out (pw_cell_below HB3.out HG.out))
 clear C1 HB2
 go_wp2_with fail
 refine CC1.out.mono ?_
 rintro e w4 ⟨ht1, hb⟩
 have HB4 := aM (hb_then HB3.out hb)
 have HK4 := aM (Kd.C_below HK3.out hb)
 have CC2 := aM (C2.out w4 _ HK4.out (pw_cell_below HB4.out HG.out))
 clear hb CC1 C2 HB3 HK3
 rcases hcase with hc | ⟨r, hc⟩
 all_goals
  rw [hc.out] at ht1
  have ht1' := (show e = _ from ht1)
  clear ht1
  obtain rfl := ht1'
  go_wp2_with fail
  refine CC2.out.mono ?_
  rintro e w5 ⟨ht2, hb⟩
  rw [hc.out] at ht2
  have ht2' := (show e = _ from ht2)
  clear ht2
  obtain rfl := ht2'
  have HB5 := aM (hb_then HB4.out hb)
  have HK5 := aM (Kd.C_below HK4.out hb)
  have CC3 := aM (C3.out w5 _ HK5.out (pw_cell_below HB5.out HG.out))
  clear hb CC2 C3 HB4 HK4
  go_wp2_with fail
  refine CC3.out.mono ?_
  rintro e w6 ⟨ht3, hb⟩
  have ht3' := (show e = _ from ht3)
  clear ht3
  obtain rfl := ht3'
  have HB6 := aM (hb_then HB5.out hb)
  clear hb CC3 HB5 HK5
  try have he : (r.toList == r.toList) = true := beq_self_eq_true _
  have CL := aM (substLives w6)
  go_wp2_with fail
  refine CL.out.mono ?_
  rintro e w7 ⟨rfl, hb⟩
  have HB7 := aM (hb_then HB6.out hb)
  clear hb CL HB6
  go_wp2
  go_ret
  exact ⟨rfl, HB7.out⟩
set_option maxHeartbeats 6400000 in
set_option maxRecDepth 100000 in
theorem signs1t (how : Int) (n0 wd0 v n wd : BA) (h1 : (n0.size : Int) ≤ 2147483647) (h2 : (wd0.size : Int) ≤ 2147483647) (h3 : (v.size : Int) ≤ 2147483647) (hj : (wrap64 (how.tmod 6 + 6)).tmod 6 = 1)
  (HN : ∀ W, Calls Tryz.prog 11 #[.string n0] W fun e w' => e = .returned (.string n) ∧ Below W.heap.size W w')
  (HP : ∀ W, Calls Tryz.prog 22 #[.string wd0] W fun e w' => e = .returned (.string wd) ∧ Below W.heap.size W w')
  (HW : Words n wd v ⟨2, by decide⟩) (w : World) (hg : ErrAt w) :
  Calls Tryz.prog 8 #[.int .i64 how, .string n0, .string wd0, .string v, .bool true] w fun e w' => e = .returned (.bool true) ∧ Below w.heap.size w w' := by
 have d1 : decide ((2147483647 : Int) < (n0.size : Int)) = false := decide_eq_false (by omega)
 have d2 : decide ((2147483647 : Int) < (wd0.size : Int)) = false := decide_eq_false (by omega)
 have d3 : decide ((2147483647 : Int) < (v.size : Int)) = false := decide_eq_false (by omega)
 obtain ⟨R, hR⟩ : ∃ R, R = opRes ⟨2, by decide⟩ (some v) wd := ⟨_, rfl⟩
 have CN := aM HN
 have CP := aM HP
 have HG := aM hg
 have C1 := aM (fun (W : World) A (h : kp.C W A 1 [(n, v)]) (hg : ErrAt W) => show Calls Tryz.prog 15 #[.string (⟨#[36, 123]⟩ ++ n ++ ⟨#[58, 45]⟩ ++ wd ++ ⟨#[125]⟩), .slice A 1 1] W fun e w' => implTold R e ∧ Below W.heap.size W w' from HW.one v (by have := HW.vs; omega) R hR W A 1 h hg)
 have hbd : n ++ ⟨#[58, 45]⟩ ++ wd = mk (body (lb n) ⟨2, by decide⟩ (lb wd)) := body_is n wd ⟨2, by decide⟩
 have hT : OpTells 59 (n ++ ⟨#[58, 45]⟩ ++ wd) [(lb n, v)] (R.map (·, true)) := by
  rw [hbd]
  exact tells_hit HW [(lb n, v)] R (hR.trans (by first | rfl | (congr 1; simp [mget])))
 have hU : OpTells 59 n [(lb n, v)] (some (⟨#[]⟩, false)) := tells_no HW.hn HW.ns ⟨2, by decide⟩ [(lb n, v)]
 have C2 := aM (fun (W : World) A (h : kp.C W A 1 [(n, v)]) (hg : ErrAt W) => show Calls Tryz.prog 23 #[.int .i64 1, .string (n ++ ⟨#[58, 45]⟩ ++ wd), .slice A 1 1] W fun e w' => Sign3 (R.map (·, true)) e ∧ Below W.heap.size W w' from sign1 hT (N := 1) (HW.okOne v) (by decide) A 1 W (by rw [toP_one]; exact h) hg)
 have C3 := aM (fun (W : World) A (h : kp.C W A 1 [(n, v)]) (hg : ErrAt W) => show Calls Tryz.prog 23 #[.int .i64 1, .string n, .slice A 1 1] W fun e w' => Sign3 (some (⟨#[]⟩, false)) e ∧ Below W.heap.size W w' from sign1 hU (N := 1) (HW.okOne v) (by decide) A 1 W (by rw [toP_one]; exact h) hg)
 have a1 := HW.ns
 have a2 := HW.ws
 clear HN HP hg HW hbd hT hU hR
 have hcase : (Aside0 (R = none)) ∨ ∃ r, Aside0 (R = some r) := by
  cases R with
  | none => exact .inl ⟨rfl⟩
  | some r => exact .inr ⟨r, ⟨rfl⟩⟩
 go_enter Tryz.func8, Tryz.ntmps8
 go_wp2_with fail
 refine (CN.out _).mono ?_
 rintro e w1 ⟨rfl, hb⟩
 have HB1 := aM hb
 clear hb CN
 go_wp2_with fail
 refine (CP.out _).mono ?_
 rintro e w2 ⟨rfl, hb⟩
 have HB2 := aM (hb_then HB1.out hb)
 clear hb CP HB1
 have HB3 := aM (below_alloc (below_alloc HB2.out (.cells #[.string ⟨#[45]⟩, .string ⟨#[58, 45]⟩, .string ⟨#[43]⟩, .string ⟨#[58, 43]⟩, .string ⟨#[63]⟩, .string ⟨#[58, 63]⟩] 9)) (.cells #[.string n, .string v] 43))
 have HK3 := aM (show kp.C ((w2.alloc (.cells #[.string ⟨#[45]⟩, .string ⟨#[58, 45]⟩, .string ⟨#[43]⟩, .string ⟨#[58, 43]⟩, .string ⟨#[63]⟩, .string ⟨#[58, 63]⟩] 9)).alloc (.cells #[.string n, .string v] 43)) (some ⟨w2.heap.size + 1, 0, none⟩) 1 [(n, v)] from by have z := one_lit (w2.alloc (.cells #[.string ⟨#[45]⟩, .string ⟨#[58, 45]⟩, .string ⟨#[43]⟩, .string ⟨#[58, 43]⟩, .string ⟨#[63]⟩, .string ⟨#[58, 63]⟩] 9)) 43 n v; rw [World.size_alloc] at z; exact z)
 have CC1 := aM (C1.out ((w2.alloc (.cells #[.string ⟨#[45]⟩, .string ⟨#[58, 45]⟩, .string ⟨#[43]⟩, .string ⟨#[58, 43]⟩, .string ⟨#[63]⟩, .string ⟨#[58, 63]⟩] 9)).alloc (.cells #[.string n, .string v] 43)) (some ⟨w2.heap.size + 1, 0, none⟩) HK3.out (pw_cell_below HB3.out HG.out))
 clear C1 HB2
 go_wp2_with fail
 refine CC1.out.mono ?_
 rintro e w4 ⟨ht1, hb⟩
 have HB4 := aM (hb_then HB3.out hb)
 have HK4 := aM (Kd.C_below HK3.out hb)
 have CC2 := aM (C2.out w4 _ HK4.out (pw_cell_below HB4.out HG.out))
 clear hb CC1 C2 HB3 HK3
 rcases hcase with hc | ⟨r, hc⟩
 all_goals
  rw [hc.out] at ht1
  have ht1' := (show e = _ from ht1)
  clear ht1
  obtain rfl := ht1'
  go_wp2_with fail
  refine CC2.out.mono ?_
  rintro e w5 ⟨ht2, hb⟩
  rw [hc.out] at ht2
  have ht2' := (show e = _ from ht2)
  clear ht2
  obtain rfl := ht2'
  have HB5 := aM (hb_then HB4.out hb)
  have HK5 := aM (Kd.C_below HK4.out hb)
  have CC3 := aM (C3.out w5 _ HK5.out (pw_cell_below HB5.out HG.out))
  clear hb CC2 C3 HB4 HK4
  go_wp2_with fail
  refine CC3.out.mono ?_
  rintro e w6 ⟨ht3, hb⟩
  have ht3' := (show e = _ from ht3)
  clear ht3
  obtain rfl := ht3'
  have HB6 := aM (hb_then HB5.out hb)
  clear hb CC3 HB5 HK5
  try have he : (r.toList == r.toList) = true := beq_self_eq_true _
  have CL := aM (substLives w6)
  go_wp2_with fail
  refine CL.out.mono ?_
  rintro e w7 ⟨rfl, hb⟩
  have HB7 := aM (hb_then HB6.out hb)
  clear hb CL HB6
  go_wp2
  go_ret
  exact ⟨rfl, HB7.out⟩
set_option maxHeartbeats 6400000 in
set_option maxRecDepth 100000 in
theorem signs1f (how : Int) (n0 wd0 v n wd : BA) (h1 : (n0.size : Int) ≤ 2147483647) (h2 : (wd0.size : Int) ≤ 2147483647) (h3 : (v.size : Int) ≤ 2147483647) (hj : (wrap64 (how.tmod 6 + 6)).tmod 6 = 1)
  (HN : ∀ W, Calls Tryz.prog 11 #[.string n0] W fun e w' => e = .returned (.string n) ∧ Below W.heap.size W w')
  (HP : ∀ W, Calls Tryz.prog 22 #[.string wd0] W fun e w' => e = .returned (.string wd) ∧ Below W.heap.size W w')
  (HW : Words n wd v ⟨2, by decide⟩) (w : World) (hg : ErrAt w) :
  Calls Tryz.prog 8 #[.int .i64 how, .string n0, .string wd0, .string v, .bool false] w fun e w' => e = .returned (.bool true) ∧ Below w.heap.size w w' := by
 have d1 : decide ((2147483647 : Int) < (n0.size : Int)) = false := decide_eq_false (by omega)
 have d2 : decide ((2147483647 : Int) < (wd0.size : Int)) = false := decide_eq_false (by omega)
 have d3 : decide ((2147483647 : Int) < (v.size : Int)) = false := decide_eq_false (by omega)
 obtain ⟨R, hR⟩ : ∃ R, R = opRes ⟨2, by decide⟩ (Option.none) wd := ⟨_, rfl⟩
 have CN := aM HN
 have CP := aM HP
 have HG := aM hg
 have C1 := aM (fun (W : World) A (h : kp.C W A 0 []) (hg : ErrAt W) => show Calls Tryz.prog 15 #[.string (⟨#[36, 123]⟩ ++ n ++ ⟨#[58, 45]⟩ ++ wd ++ ⟨#[125]⟩), .slice A 0 0] W fun e w' => implTold R e ∧ Below W.heap.size W w' from HW.none R hR W A 0 hg)
 have hbd : n ++ ⟨#[58, 45]⟩ ++ wd = mk (body (lb n) ⟨2, by decide⟩ (lb wd)) := body_is n wd ⟨2, by decide⟩
 have hT : OpTells 59 (n ++ ⟨#[58, 45]⟩ ++ wd) [] (R.map (·, true)) := by
  rw [hbd]
  exact tells_hit HW [] R (hR.trans (by first | rfl | (congr 1; simp [mget])))
 have hU : OpTells 59 n [] (some (⟨#[]⟩, false)) := tells_no HW.hn HW.ns ⟨2, by decide⟩ []
 have C2 := aM (fun (W : World) A (h : kp.C W A 0 []) (hg : ErrAt W) => show Calls Tryz.prog 23 #[.int .i64 1, .string (n ++ ⟨#[58, 45]⟩ ++ wd), .slice A 0 0] W fun e w' => Sign3 (R.map (·, true)) e ∧ Below W.heap.size W w' from sign1 hT Go.Proofs.YtkhkmhbledigpaaGreatDoor.Maps.Ok.nil (by decide) A 0 W (h) hg)
 have C3 := aM (fun (W : World) A (h : kp.C W A 0 []) (hg : ErrAt W) => show Calls Tryz.prog 23 #[.int .i64 1, .string n, .slice A 0 0] W fun e w' => Sign3 (some (⟨#[]⟩, false)) e ∧ Below W.heap.size W w' from sign1 hU Go.Proofs.YtkhkmhbledigpaaGreatDoor.Maps.Ok.nil (by decide) A 0 W (h) hg)
 have a1 := HW.ns
 have a2 := HW.ws
 clear HN HP hg HW hbd hT hU hR
 have hcase : (Aside0 (R = none)) ∨ ∃ r, Aside0 (R = some r) := by
  cases R with
  | none => exact .inl ⟨rfl⟩
  | some r => exact .inr ⟨r, ⟨rfl⟩⟩
 go_enter Tryz.func8, Tryz.ntmps8
 go_wp2_with fail
 refine (CN.out _).mono ?_
 rintro e w1 ⟨rfl, hb⟩
 have HB1 := aM hb
 clear hb CN
 go_wp2_with fail
 refine (CP.out _).mono ?_
 rintro e w2 ⟨rfl, hb⟩
 have HB2 := aM (hb_then HB1.out hb)
 clear hb CP HB1
 have HB3 := aM (below_alloc HB2.out (.cells #[.string ⟨#[45]⟩, .string ⟨#[58, 45]⟩, .string ⟨#[43]⟩, .string ⟨#[58, 43]⟩, .string ⟨#[63]⟩, .string ⟨#[58, 63]⟩] 9))
 have HK3 := aM (show kp.C (w2.alloc (.cells #[.string ⟨#[45]⟩, .string ⟨#[58, 45]⟩, .string ⟨#[43]⟩, .string ⟨#[58, 43]⟩, .string ⟨#[63]⟩, .string ⟨#[58, 63]⟩] 9)) none 0 [] from Go.Proofs.YtkhkmhbledigpaaGreatDoor.Maps.kp_none _ none)
 have CC1 := aM (C1.out (w2.alloc (.cells #[.string ⟨#[45]⟩, .string ⟨#[58, 45]⟩, .string ⟨#[43]⟩, .string ⟨#[58, 43]⟩, .string ⟨#[63]⟩, .string ⟨#[58, 63]⟩] 9)) none HK3.out (pw_cell_below HB3.out HG.out))
 clear C1 HB2
 go_wp2_with fail
 refine CC1.out.mono ?_
 rintro e w4 ⟨ht1, hb⟩
 have HB4 := aM (hb_then HB3.out hb)
 have HK4 := aM (Kd.C_below HK3.out hb)
 have CC2 := aM (C2.out w4 _ HK4.out (pw_cell_below HB4.out HG.out))
 clear hb CC1 C2 HB3 HK3
 rcases hcase with hc | ⟨r, hc⟩
 all_goals
  rw [hc.out] at ht1
  have ht1' := (show e = _ from ht1)
  clear ht1
  obtain rfl := ht1'
  go_wp2_with fail
  refine CC2.out.mono ?_
  rintro e w5 ⟨ht2, hb⟩
  rw [hc.out] at ht2
  have ht2' := (show e = _ from ht2)
  clear ht2
  obtain rfl := ht2'
  have HB5 := aM (hb_then HB4.out hb)
  have HK5 := aM (Kd.C_below HK4.out hb)
  have CC3 := aM (C3.out w5 _ HK5.out (pw_cell_below HB5.out HG.out))
  clear hb CC2 C3 HB4 HK4
  go_wp2_with fail
  refine CC3.out.mono ?_
  rintro e w6 ⟨ht3, hb⟩
  have ht3' := (show e = _ from ht3)
  clear ht3
  obtain rfl := ht3'
  have HB6 := aM (hb_then HB5.out hb)
  clear hb CC3 HB5 HK5
  try have he : (r.toList == r.toList) = true := beq_self_eq_true _
  have CL := aM (substLives w6)
  go_wp2_with fail
  refine CL.out.mono ?_
  rintro e w7 ⟨rfl, hb⟩
  have HB7 := aM (hb_then HB6.out hb)
  clear hb CL HB6
  go_wp2
  go_ret
  exact ⟨rfl, HB7.out⟩
set_option maxHeartbeats 6400000 in
set_option maxRecDepth 100000 in
theorem signs2t (how : Int) (n0 wd0 v n wd : BA) (h1 : (n0.size : Int) ≤ 2147483647) (h2 : (wd0.size : Int) ≤ 2147483647) (h3 : (v.size : Int) ≤ 2147483647) (hj : (wrap64 (how.tmod 6 + 6)).tmod 6 = 2)
  (HN : ∀ W, Calls Tryz.prog 11 #[.string n0] W fun e w' => e = .returned (.string n) ∧ Below W.heap.size W w')
  (HP : ∀ W, Calls Tryz.prog 22 #[.string wd0] W fun e w' => e = .returned (.string wd) ∧ Below W.heap.size W w')
  (HW : Words n wd v ⟨5, by decide⟩) (w : World) (hg : ErrAt w) :
  Calls Tryz.prog 8 #[.int .i64 how, .string n0, .string wd0, .string v, .bool true] w fun e w' => e = .returned (.bool true) ∧ Below w.heap.size w w' := by
 have d1 : decide ((2147483647 : Int) < (n0.size : Int)) = false := decide_eq_false (by omega)
 have d2 : decide ((2147483647 : Int) < (wd0.size : Int)) = false := decide_eq_false (by omega)
 have d3 : decide ((2147483647 : Int) < (v.size : Int)) = false := decide_eq_false (by omega)
 obtain ⟨R, hR⟩ : ∃ R, R = opRes ⟨5, by decide⟩ (some v) wd := ⟨_, rfl⟩
 have CN := aM HN
 have CP := aM HP
 have HG := aM hg
 have C1 := aM (fun (W : World) A (h : kp.C W A 1 [(n, v)]) (hg : ErrAt W) => show Calls Tryz.prog 15 #[.string (⟨#[36, 123]⟩ ++ n ++ ⟨#[43]⟩ ++ wd ++ ⟨#[125]⟩), .slice A 1 1] W fun e w' => implTold R e ∧ Below W.heap.size W w' from HW.one v (by have := HW.vs; omega) R hR W A 1 h hg)
 have hbd : n ++ ⟨#[43]⟩ ++ wd = mk (body (lb n) ⟨5, by decide⟩ (lb wd)) := body_is n wd ⟨5, by decide⟩
 have hT : OpTells 60 (n ++ ⟨#[43]⟩ ++ wd) [(lb n, v)] (R.map (·, true)) := by
  rw [hbd]
  exact tells_hit HW [(lb n, v)] R (hR.trans (by first | rfl | (congr 1; simp [mget])))
 have hU : OpTells 60 n [(lb n, v)] (some (⟨#[]⟩, false)) := tells_no HW.hn HW.ns ⟨5, by decide⟩ [(lb n, v)]
 have C2 := aM (fun (W : World) A (h : kp.C W A 1 [(n, v)]) (hg : ErrAt W) => show Calls Tryz.prog 23 #[.int .i64 2, .string (n ++ ⟨#[43]⟩ ++ wd), .slice A 1 1] W fun e w' => Sign3 (R.map (·, true)) e ∧ Below W.heap.size W w' from sign2 hT (N := 1) (HW.okOne v) (by decide) A 1 W (by rw [toP_one]; exact h) hg)
 have C3 := aM (fun (W : World) A (h : kp.C W A 1 [(n, v)]) (hg : ErrAt W) => show Calls Tryz.prog 23 #[.int .i64 2, .string n, .slice A 1 1] W fun e w' => Sign3 (some (⟨#[]⟩, false)) e ∧ Below W.heap.size W w' from sign2 hU (N := 1) (HW.okOne v) (by decide) A 1 W (by rw [toP_one]; exact h) hg)
 have a1 := HW.ns
 have a2 := HW.ws
 clear HN HP hg HW hbd hT hU hR
 have hcase : (Aside0 (R = none)) ∨ ∃ r, Aside0 (R = some r) := by
  cases R with
  | none => exact .inl ⟨rfl⟩
  | some r => exact .inr ⟨r, ⟨rfl⟩⟩
 go_enter Tryz.func8, Tryz.ntmps8
 go_wp2_with fail
 refine (CN.out _).mono ?_
 rintro e w1 ⟨rfl, hb⟩
 have HB1 := aM hb
 clear hb CN
 go_wp2_with fail
 refine (CP.out _).mono ?_
 rintro e w2 ⟨rfl, hb⟩
 have HB2 := aM (hb_then HB1.out hb)
 clear hb CP HB1
 have HB3 := aM (below_alloc (below_alloc HB2.out (.cells #[.string ⟨#[45]⟩, .string ⟨#[58, 45]⟩, .string ⟨#[43]⟩, .string ⟨#[58, 43]⟩, .string ⟨#[63]⟩, .string ⟨#[58, 63]⟩] 9)) (.cells #[.string n, .string v] 43))
 have HK3 := aM (show kp.C ((w2.alloc (.cells #[.string ⟨#[45]⟩, .string ⟨#[58, 45]⟩, .string ⟨#[43]⟩, .string ⟨#[58, 43]⟩, .string ⟨#[63]⟩, .string ⟨#[58, 63]⟩] 9)).alloc (.cells #[.string n, .string v] 43)) (some ⟨w2.heap.size + 1, 0, none⟩) 1 [(n, v)] from by have z := one_lit (w2.alloc (.cells #[.string ⟨#[45]⟩, .string ⟨#[58, 45]⟩, .string ⟨#[43]⟩, .string ⟨#[58, 43]⟩, .string ⟨#[63]⟩, .string ⟨#[58, 63]⟩] 9)) 43 n v; rw [World.size_alloc] at z; exact z)
 have CC1 := aM (C1.out ((w2.alloc (.cells #[.string ⟨#[45]⟩, .string ⟨#[58, 45]⟩, .string ⟨#[43]⟩, .string ⟨#[58, 43]⟩, .string ⟨#[63]⟩, .string ⟨#[58, 63]⟩] 9)).alloc (.cells #[.string n, .string v] 43)) (some ⟨w2.heap.size + 1, 0, none⟩) HK3.out (pw_cell_below HB3.out HG.out))
 clear C1 HB2
 go_wp2_with fail
 refine CC1.out.mono ?_
 rintro e w4 ⟨ht1, hb⟩
 have HB4 := aM (hb_then HB3.out hb)
 have HK4 := aM (Kd.C_below HK3.out hb)
 have CC2 := aM (C2.out w4 _ HK4.out (pw_cell_below HB4.out HG.out))
 clear hb CC1 C2 HB3 HK3
 rcases hcase with hc | ⟨r, hc⟩
 all_goals
  rw [hc.out] at ht1
  have ht1' := (show e = _ from ht1)
  clear ht1
  obtain rfl := ht1'
  go_wp2_with fail
  refine CC2.out.mono ?_
  rintro e w5 ⟨ht2, hb⟩
  rw [hc.out] at ht2
  have ht2' := (show e = _ from ht2)
  clear ht2
  obtain rfl := ht2'
  have HB5 := aM (hb_then HB4.out hb)
  have HK5 := aM (Kd.C_below HK4.out hb)
  have CC3 := aM (C3.out w5 _ HK5.out (pw_cell_below HB5.out HG.out))
  clear hb CC2 C3 HB4 HK4
  go_wp2_with fail
  refine CC3.out.mono ?_
  rintro e w6 ⟨ht3, hb⟩
  have ht3' := (show e = _ from ht3)
  clear ht3
  obtain rfl := ht3'
  have HB6 := aM (hb_then HB5.out hb)
  clear hb CC3 HB5 HK5
  try have he : (r.toList == r.toList) = true := beq_self_eq_true _
  have CL := aM (substLives w6)
  go_wp2_with fail
  refine CL.out.mono ?_
  rintro e w7 ⟨rfl, hb⟩
  have HB7 := aM (hb_then HB6.out hb)
  clear hb CL HB6
  go_wp2
  go_ret
  exact ⟨rfl, HB7.out⟩
set_option maxHeartbeats 6400000 in
set_option maxRecDepth 100000 in
theorem signs2f (how : Int) (n0 wd0 v n wd : BA) (h1 : (n0.size : Int) ≤ 2147483647) (h2 : (wd0.size : Int) ≤ 2147483647) (h3 : (v.size : Int) ≤ 2147483647) (hj : (wrap64 (how.tmod 6 + 6)).tmod 6 = 2)
  (HN : ∀ W, Calls Tryz.prog 11 #[.string n0] W fun e w' => e = .returned (.string n) ∧ Below W.heap.size W w')
  (HP : ∀ W, Calls Tryz.prog 22 #[.string wd0] W fun e w' => e = .returned (.string wd) ∧ Below W.heap.size W w')
  (HW : Words n wd v ⟨5, by decide⟩) (w : World) (hg : ErrAt w) :
  Calls Tryz.prog 8 #[.int .i64 how, .string n0, .string wd0, .string v, .bool false] w fun e w' => e = .returned (.bool true) ∧ Below w.heap.size w w' := by
 have d1 : decide ((2147483647 : Int) < (n0.size : Int)) = false := decide_eq_false (by omega)
 have d2 : decide ((2147483647 : Int) < (wd0.size : Int)) = false := decide_eq_false (by omega)
 have d3 : decide ((2147483647 : Int) < (v.size : Int)) = false := decide_eq_false (by omega)
 obtain ⟨R, hR⟩ : ∃ R, R = opRes ⟨5, by decide⟩ (Option.none) wd := ⟨_, rfl⟩
 have CN := aM HN
 have CP := aM HP
 have HG := aM hg
 have C1 := aM (fun (W : World) A (h : kp.C W A 0 []) (hg : ErrAt W) => show Calls Tryz.prog 15 #[.string (⟨#[36, 123]⟩ ++ n ++ ⟨#[43]⟩ ++ wd ++ ⟨#[125]⟩), .slice A 0 0] W fun e w' => implTold R e ∧ Below W.heap.size W w' from HW.none R hR W A 0 hg)
 have hbd : n ++ ⟨#[43]⟩ ++ wd = mk (body (lb n) ⟨5, by decide⟩ (lb wd)) := body_is n wd ⟨5, by decide⟩
 have hT : OpTells 60 (n ++ ⟨#[43]⟩ ++ wd) [] (R.map (·, true)) := by
  rw [hbd]
  exact tells_hit HW [] R (hR.trans (by first | rfl | (congr 1; simp [mget])))
 have hU : OpTells 60 n [] (some (⟨#[]⟩, false)) := tells_no HW.hn HW.ns ⟨5, by decide⟩ []
 have C2 := aM (fun (W : World) A (h : kp.C W A 0 []) (hg : ErrAt W) => show Calls Tryz.prog 23 #[.int .i64 2, .string (n ++ ⟨#[43]⟩ ++ wd), .slice A 0 0] W fun e w' => Sign3 (R.map (·, true)) e ∧ Below W.heap.size W w' from sign2 hT Go.Proofs.YtkhkmhbledigpaaGreatDoor.Maps.Ok.nil (by decide) A 0 W (h) hg)
 have C3 := aM (fun (W : World) A (h : kp.C W A 0 []) (hg : ErrAt W) => show Calls Tryz.prog 23 #[.int .i64 2, .string n, .slice A 0 0] W fun e w' => Sign3 (some (⟨#[]⟩, false)) e ∧ Below W.heap.size W w' from sign2 hU Go.Proofs.YtkhkmhbledigpaaGreatDoor.Maps.Ok.nil (by decide) A 0 W (h) hg)
 have a1 := HW.ns
 have a2 := HW.ws
 clear HN HP hg HW hbd hT hU hR
 have hcase : (Aside0 (R = none)) ∨ ∃ r, Aside0 (R = some r) := by
  cases R with
  | none => exact .inl ⟨rfl⟩
  | some r => exact .inr ⟨r, ⟨rfl⟩⟩
 go_enter Tryz.func8, Tryz.ntmps8
 go_wp2_with fail
 refine (CN.out _).mono ?_
 rintro e w1 ⟨rfl, hb⟩
 have HB1 := aM hb
 clear hb CN
 go_wp2_with fail
 refine (CP.out _).mono ?_
 rintro e w2 ⟨rfl, hb⟩
 have HB2 := aM (hb_then HB1.out hb)
 clear hb CP HB1
 have HB3 := aM (below_alloc HB2.out (.cells #[.string ⟨#[45]⟩, .string ⟨#[58, 45]⟩, .string ⟨#[43]⟩, .string ⟨#[58, 43]⟩, .string ⟨#[63]⟩, .string ⟨#[58, 63]⟩] 9))
 have HK3 := aM (show kp.C (w2.alloc (.cells #[.string ⟨#[45]⟩, .string ⟨#[58, 45]⟩, .string ⟨#[43]⟩, .string ⟨#[58, 43]⟩, .string ⟨#[63]⟩, .string ⟨#[58, 63]⟩] 9)) none 0 [] from Go.Proofs.YtkhkmhbledigpaaGreatDoor.Maps.kp_none _ none)
 have CC1 := aM (C1.out (w2.alloc (.cells #[.string ⟨#[45]⟩, .string ⟨#[58, 45]⟩, .string ⟨#[43]⟩, .string ⟨#[58, 43]⟩, .string ⟨#[63]⟩, .string ⟨#[58, 63]⟩] 9)) none HK3.out (pw_cell_below HB3.out HG.out))
 clear C1 HB2
 go_wp2_with fail
 refine CC1.out.mono ?_
 rintro e w4 ⟨ht1, hb⟩
 have HB4 := aM (hb_then HB3.out hb)
 have HK4 := aM (Kd.C_below HK3.out hb)
 have CC2 := aM (C2.out w4 _ HK4.out (pw_cell_below HB4.out HG.out))
 clear hb CC1 C2 HB3 HK3
 rcases hcase with hc | ⟨r, hc⟩
 all_goals
  rw [hc.out] at ht1
  have ht1' := (show e = _ from ht1)
  clear ht1
  obtain rfl := ht1'
  go_wp2_with fail
  refine CC2.out.mono ?_
  rintro e w5 ⟨ht2, hb⟩
  rw [hc.out] at ht2
  have ht2' := (show e = _ from ht2)
  clear ht2
  obtain rfl := ht2'
  have HB5 := aM (hb_then HB4.out hb)
  have HK5 := aM (Kd.C_below HK4.out hb)
  have CC3 := aM (C3.out w5 _ HK5.out (pw_cell_below HB5.out HG.out))
  clear hb CC2 C3 HB4 HK4
  go_wp2_with fail
  refine CC3.out.mono ?_
  rintro e w6 ⟨ht3, hb⟩
  have ht3' := (show e = _ from ht3)
  clear ht3
  obtain rfl := ht3'
  have HB6 := aM (hb_then HB5.out hb)
  clear hb CC3 HB5 HK5
  try have he : (r.toList == r.toList) = true := beq_self_eq_true _
  have CL := aM (substLives w6)
  go_wp2_with fail
  refine CL.out.mono ?_
  rintro e w7 ⟨rfl, hb⟩
  have HB7 := aM (hb_then HB6.out hb)
  clear hb CL HB6
  go_wp2
  go_ret
  exact ⟨rfl, HB7.out⟩
set_option maxHeartbeats 6400000 in
set_option maxRecDepth 100000 in
theorem signs3t (how : Int) (n0 wd0 v n wd : BA) (h1 : (n0.size : Int) ≤ 2147483647) (h2 : (wd0.size : Int) ≤ 2147483647) (h3 : (v.size : Int) ≤ 2147483647) (hj : (wrap64 (how.tmod 6 + 6)).tmod 6 = 3)
  (HN : ∀ W, Calls Tryz.prog 11 #[.string n0] W fun e w' => e = .returned (.string n) ∧ Below W.heap.size W w')
  (HP : ∀ W, Calls Tryz.prog 22 #[.string wd0] W fun e w' => e = .returned (.string wd) ∧ Below W.heap.size W w')
  (HW : Words n wd v ⟨4, by decide⟩) (w : World) (hg : ErrAt w) :
  Calls Tryz.prog 8 #[.int .i64 how, .string n0, .string wd0, .string v, .bool true] w fun e w' => e = .returned (.bool true) ∧ Below w.heap.size w w' := by
 have d1 : decide ((2147483647 : Int) < (n0.size : Int)) = false := decide_eq_false (by omega)
 have d2 : decide ((2147483647 : Int) < (wd0.size : Int)) = false := decide_eq_false (by omega)
 have d3 : decide ((2147483647 : Int) < (v.size : Int)) = false := decide_eq_false (by omega)
 obtain ⟨R, hR⟩ : ∃ R, R = opRes ⟨4, by decide⟩ (some v) wd := ⟨_, rfl⟩
 have CN := aM HN
 have CP := aM HP
 have HG := aM hg
 have C1 := aM (fun (W : World) A (h : kp.C W A 1 [(n, v)]) (hg : ErrAt W) => show Calls Tryz.prog 15 #[.string (⟨#[36, 123]⟩ ++ n ++ ⟨#[58, 43]⟩ ++ wd ++ ⟨#[125]⟩), .slice A 1 1] W fun e w' => implTold R e ∧ Below W.heap.size W w' from HW.one v (by have := HW.vs; omega) R hR W A 1 h hg)
 have hbd : n ++ ⟨#[58, 43]⟩ ++ wd = mk (body (lb n) ⟨4, by decide⟩ (lb wd)) := body_is n wd ⟨4, by decide⟩
 have hT : OpTells 61 (n ++ ⟨#[58, 43]⟩ ++ wd) [(lb n, v)] (R.map (·, true)) := by
  rw [hbd]
  exact tells_hit HW [(lb n, v)] R (hR.trans (by first | rfl | (congr 1; simp [mget])))
 have hU : OpTells 61 n [(lb n, v)] (some (⟨#[]⟩, false)) := tells_no HW.hn HW.ns ⟨4, by decide⟩ [(lb n, v)]
 have C2 := aM (fun (W : World) A (h : kp.C W A 1 [(n, v)]) (hg : ErrAt W) => show Calls Tryz.prog 23 #[.int .i64 3, .string (n ++ ⟨#[58, 43]⟩ ++ wd), .slice A 1 1] W fun e w' => Sign3 (R.map (·, true)) e ∧ Below W.heap.size W w' from sign3 hT (N := 1) (HW.okOne v) (by decide) A 1 W (by rw [toP_one]; exact h) hg)
 have C3 := aM (fun (W : World) A (h : kp.C W A 1 [(n, v)]) (hg : ErrAt W) => show Calls Tryz.prog 23 #[.int .i64 3, .string n, .slice A 1 1] W fun e w' => Sign3 (some (⟨#[]⟩, false)) e ∧ Below W.heap.size W w' from sign3 hU (N := 1) (HW.okOne v) (by decide) A 1 W (by rw [toP_one]; exact h) hg)
 have a1 := HW.ns
 have a2 := HW.ws
 clear HN HP hg HW hbd hT hU hR
 have hcase : (Aside0 (R = none)) ∨ ∃ r, Aside0 (R = some r) := by
  cases R with
  | none => exact .inl ⟨rfl⟩
  | some r => exact .inr ⟨r, ⟨rfl⟩⟩
 go_enter Tryz.func8, Tryz.ntmps8
 go_wp2_with fail
 refine (CN.out _).mono ?_
 rintro e w1 ⟨rfl, hb⟩
 have HB1 := aM hb
 clear hb CN
 go_wp2_with fail
 refine (CP.out _).mono ?_
 rintro e w2 ⟨rfl, hb⟩
 have HB2 := aM (hb_then HB1.out hb)
 clear hb CP HB1
 have HB3 := aM (below_alloc (below_alloc HB2.out (.cells #[.string ⟨#[45]⟩, .string ⟨#[58, 45]⟩, .string ⟨#[43]⟩, .string ⟨#[58, 43]⟩, .string ⟨#[63]⟩, .string ⟨#[58, 63]⟩] 9)) (.cells #[.string n, .string v] 43))
 have HK3 := aM (show kp.C ((w2.alloc (.cells #[.string ⟨#[45]⟩, .string ⟨#[58, 45]⟩, .string ⟨#[43]⟩, .string ⟨#[58, 43]⟩, .string ⟨#[63]⟩, .string ⟨#[58, 63]⟩] 9)).alloc (.cells #[.string n, .string v] 43)) (some ⟨w2.heap.size + 1, 0, none⟩) 1 [(n, v)] from by have z := one_lit (w2.alloc (.cells #[.string ⟨#[45]⟩, .string ⟨#[58, 45]⟩, .string ⟨#[43]⟩, .string ⟨#[58, 43]⟩, .string ⟨#[63]⟩, .string ⟨#[58, 63]⟩] 9)) 43 n v; rw [World.size_alloc] at z; exact z)
 have CC1 := aM (C1.out ((w2.alloc (.cells #[.string ⟨#[45]⟩, .string ⟨#[58, 45]⟩, .string ⟨#[43]⟩, .string ⟨#[58, 43]⟩, .string ⟨#[63]⟩, .string ⟨#[58, 63]⟩] 9)).alloc (.cells #[.string n, .string v] 43)) (some ⟨w2.heap.size + 1, 0, none⟩) HK3.out (pw_cell_below HB3.out HG.out))
 clear C1 HB2
 go_wp2_with fail
 refine CC1.out.mono ?_
 rintro e w4 ⟨ht1, hb⟩
 have HB4 := aM (hb_then HB3.out hb)
 have HK4 := aM (Kd.C_below HK3.out hb)
 have CC2 := aM (C2.out w4 _ HK4.out (pw_cell_below HB4.out HG.out))
 clear hb CC1 C2 HB3 HK3
 rcases hcase with hc | ⟨r, hc⟩
 all_goals
  rw [hc.out] at ht1
  have ht1' := (show e = _ from ht1)
  clear ht1
  obtain rfl := ht1'
  go_wp2_with fail
  refine CC2.out.mono ?_
  rintro e w5 ⟨ht2, hb⟩
  rw [hc.out] at ht2
  have ht2' := (show e = _ from ht2)
  clear ht2
  obtain rfl := ht2'
  have HB5 := aM (hb_then HB4.out hb)
  have HK5 := aM (Kd.C_below HK4.out hb)
  have CC3 := aM (C3.out w5 _ HK5.out (pw_cell_below HB5.out HG.out))
  clear hb CC2 C3 HB4 HK4
  go_wp2_with fail
  refine CC3.out.mono ?_
  rintro e w6 ⟨ht3, hb⟩
  have ht3' := (show e = _ from ht3)
  clear ht3
  obtain rfl := ht3'
  have HB6 := aM (hb_then HB5.out hb)
  clear hb CC3 HB5 HK5
  try have he : (r.toList == r.toList) = true := beq_self_eq_true _
  have CL := aM (substLives w6)
  go_wp2_with fail
  refine CL.out.mono ?_
  rintro e w7 ⟨rfl, hb⟩
  have HB7 := aM (hb_then HB6.out hb)
  clear hb CL HB6
  go_wp2
  go_ret
  exact ⟨rfl, HB7.out⟩
set_option maxHeartbeats 6400000 in
set_option maxRecDepth 100000 in
theorem signs3f (how : Int) (n0 wd0 v n wd : BA) (h1 : (n0.size : Int) ≤ 2147483647) (h2 : (wd0.size : Int) ≤ 2147483647) (h3 : (v.size : Int) ≤ 2147483647) (hj : (wrap64 (how.tmod 6 + 6)).tmod 6 = 3)
  (HN : ∀ W, Calls Tryz.prog 11 #[.string n0] W fun e w' => e = .returned (.string n) ∧ Below W.heap.size W w')
  (HP : ∀ W, Calls Tryz.prog 22 #[.string wd0] W fun e w' => e = .returned (.string wd) ∧ Below W.heap.size W w')
  (HW : Words n wd v ⟨4, by decide⟩) (w : World) (hg : ErrAt w) :
  Calls Tryz.prog 8 #[.int .i64 how, .string n0, .string wd0, .string v, .bool false] w fun e w' => e = .returned (.bool true) ∧ Below w.heap.size w w' := by
 have d1 : decide ((2147483647 : Int) < (n0.size : Int)) = false := decide_eq_false (by omega)
 have d2 : decide ((2147483647 : Int) < (wd0.size : Int)) = false := decide_eq_false (by omega)
 have d3 : decide ((2147483647 : Int) < (v.size : Int)) = false := decide_eq_false (by omega)
 obtain ⟨R, hR⟩ : ∃ R, R = opRes ⟨4, by decide⟩ (Option.none) wd := ⟨_, rfl⟩
 have CN := aM HN
 have CP := aM HP
 have HG := aM hg
 have C1 := aM (fun (W : World) A (h : kp.C W A 0 []) (hg : ErrAt W) => show Calls Tryz.prog 15 #[.string (⟨#[36, 123]⟩ ++ n ++ ⟨#[58, 43]⟩ ++ wd ++ ⟨#[125]⟩), .slice A 0 0] W fun e w' => implTold R e ∧ Below W.heap.size W w' from HW.none R hR W A 0 hg)
 have hbd : n ++ ⟨#[58, 43]⟩ ++ wd = mk (body (lb n) ⟨4, by decide⟩ (lb wd)) := body_is n wd ⟨4, by decide⟩
 have hT : OpTells 61 (n ++ ⟨#[58, 43]⟩ ++ wd) [] (R.map (·, true)) := by
  rw [hbd]
  exact tells_hit HW [] R (hR.trans (by first | rfl | (congr 1; simp [mget])))
 have hU : OpTells 61 n [] (some (⟨#[]⟩, false)) := tells_no HW.hn HW.ns ⟨4, by decide⟩ []
 have C2 := aM (fun (W : World) A (h : kp.C W A 0 []) (hg : ErrAt W) => show Calls Tryz.prog 23 #[.int .i64 3, .string (n ++ ⟨#[58, 43]⟩ ++ wd), .slice A 0 0] W fun e w' => Sign3 (R.map (·, true)) e ∧ Below W.heap.size W w' from sign3 hT Go.Proofs.YtkhkmhbledigpaaGreatDoor.Maps.Ok.nil (by decide) A 0 W (h) hg)
 have C3 := aM (fun (W : World) A (h : kp.C W A 0 []) (hg : ErrAt W) => show Calls Tryz.prog 23 #[.int .i64 3, .string n, .slice A 0 0] W fun e w' => Sign3 (some (⟨#[]⟩, false)) e ∧ Below W.heap.size W w' from sign3 hU Go.Proofs.YtkhkmhbledigpaaGreatDoor.Maps.Ok.nil (by decide) A 0 W (h) hg)
 have a1 := HW.ns
 have a2 := HW.ws
 clear HN HP hg HW hbd hT hU hR
 have hcase : (Aside0 (R = none)) ∨ ∃ r, Aside0 (R = some r) := by
  cases R with
  | none => exact .inl ⟨rfl⟩
  | some r => exact .inr ⟨r, ⟨rfl⟩⟩
 go_enter Tryz.func8, Tryz.ntmps8
 go_wp2_with fail
 refine (CN.out _).mono ?_
 rintro e w1 ⟨rfl, hb⟩
 have HB1 := aM hb
 clear hb CN
 go_wp2_with fail
 refine (CP.out _).mono ?_
 rintro e w2 ⟨rfl, hb⟩
 have HB2 := aM (hb_then HB1.out hb)
 clear hb CP HB1
 have HB3 := aM (below_alloc HB2.out (.cells #[.string ⟨#[45]⟩, .string ⟨#[58, 45]⟩, .string ⟨#[43]⟩, .string ⟨#[58, 43]⟩, .string ⟨#[63]⟩, .string ⟨#[58, 63]⟩] 9))
 have HK3 := aM (show kp.C (w2.alloc (.cells #[.string ⟨#[45]⟩, .string ⟨#[58, 45]⟩, .string ⟨#[43]⟩, .string ⟨#[58, 43]⟩, .string ⟨#[63]⟩, .string ⟨#[58, 63]⟩] 9)) none 0 [] from Go.Proofs.YtkhkmhbledigpaaGreatDoor.Maps.kp_none _ none)
 have CC1 := aM (C1.out (w2.alloc (.cells #[.string ⟨#[45]⟩, .string ⟨#[58, 45]⟩, .string ⟨#[43]⟩, .string ⟨#[58, 43]⟩, .string ⟨#[63]⟩, .string ⟨#[58, 63]⟩] 9)) none HK3.out (pw_cell_below HB3.out HG.out))
 clear C1 HB2
 go_wp2_with fail
 refine CC1.out.mono ?_
 rintro e w4 ⟨ht1, hb⟩
 have HB4 := aM (hb_then HB3.out hb)
 have HK4 := aM (Kd.C_below HK3.out hb)
 have CC2 := aM (C2.out w4 _ HK4.out (pw_cell_below HB4.out HG.out))
 clear hb CC1 C2 HB3 HK3
 rcases hcase with hc | ⟨r, hc⟩
 all_goals
  rw [hc.out] at ht1
  have ht1' := (show e = _ from ht1)
  clear ht1
  obtain rfl := ht1'
  go_wp2_with fail
  refine CC2.out.mono ?_
  rintro e w5 ⟨ht2, hb⟩
  rw [hc.out] at ht2
  have ht2' := (show e = _ from ht2)
  clear ht2
  obtain rfl := ht2'
  have HB5 := aM (hb_then HB4.out hb)
  have HK5 := aM (Kd.C_below HK4.out hb)
  have CC3 := aM (C3.out w5 _ HK5.out (pw_cell_below HB5.out HG.out))
  clear hb CC2 C3 HB4 HK4
  go_wp2_with fail
  refine CC3.out.mono ?_
  rintro e w6 ⟨ht3, hb⟩
  have ht3' := (show e = _ from ht3)
  clear ht3
  obtain rfl := ht3'
  have HB6 := aM (hb_then HB5.out hb)
  clear hb CC3 HB5 HK5
  try have he : (r.toList == r.toList) = true := beq_self_eq_true _
  have CL := aM (substLives w6)
  go_wp2_with fail
  refine CL.out.mono ?_
  rintro e w7 ⟨rfl, hb⟩
  have HB7 := aM (hb_then HB6.out hb)
  clear hb CL HB6
  go_wp2
  go_ret
  exact ⟨rfl, HB7.out⟩
set_option maxHeartbeats 6400000 in
set_option maxRecDepth 100000 in
theorem signs4t (how : Int) (n0 wd0 v n wd : BA) (h1 : (n0.size : Int) ≤ 2147483647) (h2 : (wd0.size : Int) ≤ 2147483647) (h3 : (v.size : Int) ≤ 2147483647) (hj : (wrap64 (how.tmod 6 + 6)).tmod 6 = 4)
  (HN : ∀ W, Calls Tryz.prog 11 #[.string n0] W fun e w' => e = .returned (.string n) ∧ Below W.heap.size W w')
  (HP : ∀ W, Calls Tryz.prog 22 #[.string wd0] W fun e w' => e = .returned (.string wd) ∧ Below W.heap.size W w')
  (HW : Words n wd v ⟨1, by decide⟩) (w : World) (hg : ErrAt w) :
  Calls Tryz.prog 8 #[.int .i64 how, .string n0, .string wd0, .string v, .bool true] w fun e w' => e = .returned (.bool true) ∧ Below w.heap.size w w' := by
 have d1 : decide ((2147483647 : Int) < (n0.size : Int)) = false := decide_eq_false (by omega)
 have d2 : decide ((2147483647 : Int) < (wd0.size : Int)) = false := decide_eq_false (by omega)
 have d3 : decide ((2147483647 : Int) < (v.size : Int)) = false := decide_eq_false (by omega)
 obtain ⟨R, hR⟩ : ∃ R, R = opRes ⟨1, by decide⟩ (some v) wd := ⟨_, rfl⟩
 have CN := aM HN
 have CP := aM HP
 have HG := aM hg
 have C1 := aM (fun (W : World) A (h : kp.C W A 1 [(n, v)]) (hg : ErrAt W) => show Calls Tryz.prog 15 #[.string (⟨#[36, 123]⟩ ++ n ++ ⟨#[63]⟩ ++ wd ++ ⟨#[125]⟩), .slice A 1 1] W fun e w' => implTold R e ∧ Below W.heap.size W w' from HW.one v (by have := HW.vs; omega) R hR W A 1 h hg)
 have hbd : n ++ ⟨#[63]⟩ ++ wd = mk (body (lb n) ⟨1, by decide⟩ (lb wd)) := body_is n wd ⟨1, by decide⟩
 have hT : OpTells 62 (n ++ ⟨#[63]⟩ ++ wd) [(lb n, v)] (R.map (·, true)) := by
  rw [hbd]
  exact tells_hit HW [(lb n, v)] R (hR.trans (by first | rfl | (congr 1; simp [mget])))
 have hU : OpTells 62 n [(lb n, v)] (some (⟨#[]⟩, false)) := tells_no HW.hn HW.ns ⟨1, by decide⟩ [(lb n, v)]
 have C2 := aM (fun (W : World) A (h : kp.C W A 1 [(n, v)]) (hg : ErrAt W) => show Calls Tryz.prog 23 #[.int .i64 4, .string (n ++ ⟨#[63]⟩ ++ wd), .slice A 1 1] W fun e w' => Sign3 (R.map (·, true)) e ∧ Below W.heap.size W w' from sign4 hT (N := 1) (HW.okOne v) (by decide) A 1 W (by rw [toP_one]; exact h) hg)
 have C3 := aM (fun (W : World) A (h : kp.C W A 1 [(n, v)]) (hg : ErrAt W) => show Calls Tryz.prog 23 #[.int .i64 4, .string n, .slice A 1 1] W fun e w' => Sign3 (some (⟨#[]⟩, false)) e ∧ Below W.heap.size W w' from sign4 hU (N := 1) (HW.okOne v) (by decide) A 1 W (by rw [toP_one]; exact h) hg)
 have a1 := HW.ns
 have a2 := HW.ws
 clear HN HP hg HW hbd hT hU hR
 have hcase : (Aside0 (R = none)) ∨ ∃ r, Aside0 (R = some r) := by
  cases R with
  | none => exact .inl ⟨rfl⟩
  | some r => exact .inr ⟨r, ⟨rfl⟩⟩
 go_enter Tryz.func8, Tryz.ntmps8
 go_wp2_with fail
 refine (CN.out _).mono ?_
 rintro e w1 ⟨rfl, hb⟩
 have HB1 := aM hb
 clear hb CN
 go_wp2_with fail
 refine (CP.out _).mono ?_
 rintro e w2 ⟨rfl, hb⟩
 have HB2 := aM (hb_then HB1.out hb)
 clear hb CP HB1
 have HB3 := aM (below_alloc (below_alloc HB2.out (.cells #[.string ⟨#[45]⟩, .string ⟨#[58, 45]⟩, .string ⟨#[43]⟩, .string ⟨#[58, 43]⟩, .string ⟨#[63]⟩, .string ⟨#[58, 63]⟩] 9)) (.cells #[.string n, .string v] 43))
 have HK3 := aM (show kp.C ((w2.alloc (.cells #[.string ⟨#[45]⟩, .string ⟨#[58, 45]⟩, .string ⟨#[43]⟩, .string ⟨#[58, 43]⟩, .string ⟨#[63]⟩, .string ⟨#[58, 63]⟩] 9)).alloc (.cells #[.string n, .string v] 43)) (some ⟨w2.heap.size + 1, 0, none⟩) 1 [(n, v)] from by have z := one_lit (w2.alloc (.cells #[.string ⟨#[45]⟩, .string ⟨#[58, 45]⟩, .string ⟨#[43]⟩, .string ⟨#[58, 43]⟩, .string ⟨#[63]⟩, .string ⟨#[58, 63]⟩] 9)) 43 n v; rw [World.size_alloc] at z; exact z)
 have CC1 := aM (C1.out ((w2.alloc (.cells #[.string ⟨#[45]⟩, .string ⟨#[58, 45]⟩, .string ⟨#[43]⟩, .string ⟨#[58, 43]⟩, .string ⟨#[63]⟩, .string ⟨#[58, 63]⟩] 9)).alloc (.cells #[.string n, .string v] 43)) (some ⟨w2.heap.size + 1, 0, none⟩) HK3.out (pw_cell_below HB3.out HG.out))
 clear C1 HB2
 go_wp2_with fail
 refine CC1.out.mono ?_
 rintro e w4 ⟨ht1, hb⟩
 have HB4 := aM (hb_then HB3.out hb)
 have HK4 := aM (Kd.C_below HK3.out hb)
 have CC2 := aM (C2.out w4 _ HK4.out (pw_cell_below HB4.out HG.out))
 clear hb CC1 C2 HB3 HK3
 rcases hcase with hc | ⟨r, hc⟩
 all_goals
  rw [hc.out] at ht1
  have ht1' := (show e = _ from ht1)
  clear ht1
  obtain rfl := ht1'
  go_wp2_with fail
  refine CC2.out.mono ?_
  rintro e w5 ⟨ht2, hb⟩
  rw [hc.out] at ht2
  have ht2' := (show e = _ from ht2)
  clear ht2
  obtain rfl := ht2'
  have HB5 := aM (hb_then HB4.out hb)
  have HK5 := aM (Kd.C_below HK4.out hb)
  have CC3 := aM (C3.out w5 _ HK5.out (pw_cell_below HB5.out HG.out))
  clear hb CC2 C3 HB4 HK4
  go_wp2_with fail
  refine CC3.out.mono ?_
  rintro e w6 ⟨ht3, hb⟩
  have ht3' := (show e = _ from ht3)
  clear ht3
  obtain rfl := ht3'
  have HB6 := aM (hb_then HB5.out hb)
  clear hb CC3 HB5 HK5
  try have he : (r.toList == r.toList) = true := beq_self_eq_true _
  have CL := aM (substLives w6)
  go_wp2_with fail
  refine CL.out.mono ?_
  rintro e w7 ⟨rfl, hb⟩
  have HB7 := aM (hb_then HB6.out hb)
  clear hb CL HB6
  go_wp2
  go_ret
  exact ⟨rfl, HB7.out⟩
set_option maxHeartbeats 6400000 in
set_option maxRecDepth 100000 in
theorem signs4f (how : Int) (n0 wd0 v n wd : BA) (h1 : (n0.size : Int) ≤ 2147483647) (h2 : (wd0.size : Int) ≤ 2147483647) (h3 : (v.size : Int) ≤ 2147483647) (hj : (wrap64 (how.tmod 6 + 6)).tmod 6 = 4)
  (HN : ∀ W, Calls Tryz.prog 11 #[.string n0] W fun e w' => e = .returned (.string n) ∧ Below W.heap.size W w')
  (HP : ∀ W, Calls Tryz.prog 22 #[.string wd0] W fun e w' => e = .returned (.string wd) ∧ Below W.heap.size W w')
  (HW : Words n wd v ⟨1, by decide⟩) (w : World) (hg : ErrAt w) :
  Calls Tryz.prog 8 #[.int .i64 how, .string n0, .string wd0, .string v, .bool false] w fun e w' => e = .returned (.bool true) ∧ Below w.heap.size w w' := by
 have d1 : decide ((2147483647 : Int) < (n0.size : Int)) = false := decide_eq_false (by omega)
 have d2 : decide ((2147483647 : Int) < (wd0.size : Int)) = false := decide_eq_false (by omega)
 have d3 : decide ((2147483647 : Int) < (v.size : Int)) = false := decide_eq_false (by omega)
 obtain ⟨R, hR⟩ : ∃ R, R = opRes ⟨1, by decide⟩ (Option.none) wd := ⟨_, rfl⟩
 have CN := aM HN
 have CP := aM HP
 have HG := aM hg
 have C1 := aM (fun (W : World) A (h : kp.C W A 0 []) (hg : ErrAt W) => show Calls Tryz.prog 15 #[.string (⟨#[36, 123]⟩ ++ n ++ ⟨#[63]⟩ ++ wd ++ ⟨#[125]⟩), .slice A 0 0] W fun e w' => implTold R e ∧ Below W.heap.size W w' from HW.none R hR W A 0 hg)
 have hbd : n ++ ⟨#[63]⟩ ++ wd = mk (body (lb n) ⟨1, by decide⟩ (lb wd)) := body_is n wd ⟨1, by decide⟩
 have hT : OpTells 62 (n ++ ⟨#[63]⟩ ++ wd) [] (R.map (·, true)) := by
  rw [hbd]
  exact tells_hit HW [] R (hR.trans (by first | rfl | (congr 1; simp [mget])))
 have hU : OpTells 62 n [] (some (⟨#[]⟩, false)) := tells_no HW.hn HW.ns ⟨1, by decide⟩ []
 have C2 := aM (fun (W : World) A (h : kp.C W A 0 []) (hg : ErrAt W) => show Calls Tryz.prog 23 #[.int .i64 4, .string (n ++ ⟨#[63]⟩ ++ wd), .slice A 0 0] W fun e w' => Sign3 (R.map (·, true)) e ∧ Below W.heap.size W w' from sign4 hT Go.Proofs.YtkhkmhbledigpaaGreatDoor.Maps.Ok.nil (by decide) A 0 W (h) hg)
 have C3 := aM (fun (W : World) A (h : kp.C W A 0 []) (hg : ErrAt W) => show Calls Tryz.prog 23 #[.int .i64 4, .string n, .slice A 0 0] W fun e w' => Sign3 (some (⟨#[]⟩, false)) e ∧ Below W.heap.size W w' from sign4 hU Go.Proofs.YtkhkmhbledigpaaGreatDoor.Maps.Ok.nil (by decide) A 0 W (h) hg)
 have a1 := HW.ns
 have a2 := HW.ws
 clear HN HP hg HW hbd hT hU hR
 have hcase : (Aside0 (R = none)) ∨ ∃ r, Aside0 (R = some r) := by
  cases R with
  | none => exact .inl ⟨rfl⟩
  | some r => exact .inr ⟨r, ⟨rfl⟩⟩
 go_enter Tryz.func8, Tryz.ntmps8
 go_wp2_with fail
 refine (CN.out _).mono ?_
 rintro e w1 ⟨rfl, hb⟩
 have HB1 := aM hb
 clear hb CN
 go_wp2_with fail
 refine (CP.out _).mono ?_
 rintro e w2 ⟨rfl, hb⟩
 have HB2 := aM (hb_then HB1.out hb)
 clear hb CP HB1
 have HB3 := aM (below_alloc HB2.out (.cells #[.string ⟨#[45]⟩, .string ⟨#[58, 45]⟩, .string ⟨#[43]⟩, .string ⟨#[58, 43]⟩, .string ⟨#[63]⟩, .string ⟨#[58, 63]⟩] 9))
 have HK3 := aM (show kp.C (w2.alloc (.cells #[.string ⟨#[45]⟩, .string ⟨#[58, 45]⟩, .string ⟨#[43]⟩, .string ⟨#[58, 43]⟩, .string ⟨#[63]⟩, .string ⟨#[58, 63]⟩] 9)) none 0 [] from Go.Proofs.YtkhkmhbledigpaaGreatDoor.Maps.kp_none _ none)
 have CC1 := aM (C1.out (w2.alloc (.cells #[.string ⟨#[45]⟩, .string ⟨#[58, 45]⟩, .string ⟨#[43]⟩, .string ⟨#[58, 43]⟩, .string ⟨#[63]⟩, .string ⟨#[58, 63]⟩] 9)) none HK3.out (pw_cell_below HB3.out HG.out))
 clear C1 HB2
 go_wp2_with fail
 refine CC1.out.mono ?_
 rintro e w4 ⟨ht1, hb⟩
 have HB4 := aM (hb_then HB3.out hb)
 have HK4 := aM (Kd.C_below HK3.out hb)
 have CC2 := aM (C2.out w4 _ HK4.out (pw_cell_below HB4.out HG.out))
 clear hb CC1 C2 HB3 HK3
 rcases hcase with hc | ⟨r, hc⟩
 all_goals
  rw [hc.out] at ht1
  have ht1' := (show e = _ from ht1)
  clear ht1
  obtain rfl := ht1'
  go_wp2_with fail
  refine CC2.out.mono ?_
  rintro e w5 ⟨ht2, hb⟩
  rw [hc.out] at ht2
  have ht2' := (show e = _ from ht2)
  clear ht2
  obtain rfl := ht2'
  have HB5 := aM (hb_then HB4.out hb)
  have HK5 := aM (Kd.C_below HK4.out hb)
  have CC3 := aM (C3.out w5 _ HK5.out (pw_cell_below HB5.out HG.out))
  clear hb CC2 C3 HB4 HK4
  go_wp2_with fail
  refine CC3.out.mono ?_
  rintro e w6 ⟨ht3, hb⟩
  have ht3' := (show e = _ from ht3)
  clear ht3
  obtain rfl := ht3'
  have HB6 := aM (hb_then HB5.out hb)
  clear hb CC3 HB5 HK5
  try have he : (r.toList == r.toList) = true := beq_self_eq_true _
  have CL := aM (substLives w6)
  go_wp2_with fail
  refine CL.out.mono ?_
  rintro e w7 ⟨rfl, hb⟩
  have HB7 := aM (hb_then HB6.out hb)
  clear hb CL HB6
  go_wp2
  go_ret
  exact ⟨rfl, HB7.out⟩
set_option maxHeartbeats 6400000 in
set_option maxRecDepth 100000 in
theorem signs5t (how : Int) (n0 wd0 v n wd : BA) (h1 : (n0.size : Int) ≤ 2147483647) (h2 : (wd0.size : Int) ≤ 2147483647) (h3 : (v.size : Int) ≤ 2147483647) (hj : (wrap64 (how.tmod 6 + 6)).tmod 6 = 5)
  (HN : ∀ W, Calls Tryz.prog 11 #[.string n0] W fun e w' => e = .returned (.string n) ∧ Below W.heap.size W w')
  (HP : ∀ W, Calls Tryz.prog 22 #[.string wd0] W fun e w' => e = .returned (.string wd) ∧ Below W.heap.size W w')
  (HW : Words n wd v ⟨0, by decide⟩) (w : World) (hg : ErrAt w) :
  Calls Tryz.prog 8 #[.int .i64 how, .string n0, .string wd0, .string v, .bool true] w fun e w' => e = .returned (.bool true) ∧ Below w.heap.size w w' := by
 have d1 : decide ((2147483647 : Int) < (n0.size : Int)) = false := decide_eq_false (by omega)
 have d2 : decide ((2147483647 : Int) < (wd0.size : Int)) = false := decide_eq_false (by omega)
 have d3 : decide ((2147483647 : Int) < (v.size : Int)) = false := decide_eq_false (by omega)
 obtain ⟨R, hR⟩ : ∃ R, R = opRes ⟨0, by decide⟩ (some v) wd := ⟨_, rfl⟩
 have CN := aM HN
 have CP := aM HP
 have HG := aM hg
 have C1 := aM (fun (W : World) A (h : kp.C W A 1 [(n, v)]) (hg : ErrAt W) => show Calls Tryz.prog 15 #[.string (⟨#[36, 123]⟩ ++ n ++ ⟨#[58, 63]⟩ ++ wd ++ ⟨#[125]⟩), .slice A 1 1] W fun e w' => implTold R e ∧ Below W.heap.size W w' from HW.one v (by have := HW.vs; omega) R hR W A 1 h hg)
 have hbd : n ++ ⟨#[58, 63]⟩ ++ wd = mk (body (lb n) ⟨0, by decide⟩ (lb wd)) := body_is n wd ⟨0, by decide⟩
 have hT : OpTells 63 (n ++ ⟨#[58, 63]⟩ ++ wd) [(lb n, v)] (R.map (·, true)) := by
  rw [hbd]
  exact tells_hit HW [(lb n, v)] R (hR.trans (by first | rfl | (congr 1; simp [mget])))
 have hU : OpTells 63 n [(lb n, v)] (some (⟨#[]⟩, false)) := tells_no HW.hn HW.ns ⟨0, by decide⟩ [(lb n, v)]
 have C2 := aM (fun (W : World) A (h : kp.C W A 1 [(n, v)]) (hg : ErrAt W) => show Calls Tryz.prog 23 #[.int .i64 5, .string (n ++ ⟨#[58, 63]⟩ ++ wd), .slice A 1 1] W fun e w' => Sign3 (R.map (·, true)) e ∧ Below W.heap.size W w' from sign5 hT (N := 1) (HW.okOne v) (by decide) A 1 W (by rw [toP_one]; exact h) hg)
 have C3 := aM (fun (W : World) A (h : kp.C W A 1 [(n, v)]) (hg : ErrAt W) => show Calls Tryz.prog 23 #[.int .i64 5, .string n, .slice A 1 1] W fun e w' => Sign3 (some (⟨#[]⟩, false)) e ∧ Below W.heap.size W w' from sign5 hU (N := 1) (HW.okOne v) (by decide) A 1 W (by rw [toP_one]; exact h) hg)
 have a1 := HW.ns
 have a2 := HW.ws
 clear HN HP hg HW hbd hT hU hR
 have hcase : (Aside0 (R = none)) ∨ ∃ r, Aside0 (R = some r) := by
  cases R with
  | none => exact .inl ⟨rfl⟩
  | some r => exact .inr ⟨r, ⟨rfl⟩⟩
 go_enter Tryz.func8, Tryz.ntmps8
 go_wp2_with fail
 refine (CN.out _).mono ?_
 rintro e w1 ⟨rfl, hb⟩
 have HB1 := aM hb
 clear hb CN
 go_wp2_with fail
 refine (CP.out _).mono ?_
 rintro e w2 ⟨rfl, hb⟩
 have HB2 := aM (hb_then HB1.out hb)
 clear hb CP HB1
 have HB3 := aM (below_alloc (below_alloc HB2.out (.cells #[.string ⟨#[45]⟩, .string ⟨#[58, 45]⟩, .string ⟨#[43]⟩, .string ⟨#[58, 43]⟩, .string ⟨#[63]⟩, .string ⟨#[58, 63]⟩] 9)) (.cells #[.string n, .string v] 43))
 have HK3 := aM (show kp.C ((w2.alloc (.cells #[.string ⟨#[45]⟩, .string ⟨#[58, 45]⟩, .string ⟨#[43]⟩, .string ⟨#[58, 43]⟩, .string ⟨#[63]⟩, .string ⟨#[58, 63]⟩] 9)).alloc (.cells #[.string n, .string v] 43)) (some ⟨w2.heap.size + 1, 0, none⟩) 1 [(n, v)] from by have z := one_lit (w2.alloc (.cells #[.string ⟨#[45]⟩, .string ⟨#[58, 45]⟩, .string ⟨#[43]⟩, .string ⟨#[58, 43]⟩, .string ⟨#[63]⟩, .string ⟨#[58, 63]⟩] 9)) 43 n v; rw [World.size_alloc] at z; exact z)
 have CC1 := aM (C1.out ((w2.alloc (.cells #[.string ⟨#[45]⟩, .string ⟨#[58, 45]⟩, .string ⟨#[43]⟩, .string ⟨#[58, 43]⟩, .string ⟨#[63]⟩, .string ⟨#[58, 63]⟩] 9)).alloc (.cells #[.string n, .string v] 43)) (some ⟨w2.heap.size + 1, 0, none⟩) HK3.out (pw_cell_below HB3.out HG.out))
 clear C1 HB2
 go_wp2_with fail
 refine CC1.out.mono ?_
 rintro e w4 ⟨ht1, hb⟩
 have HB4 := aM (hb_then HB3.out hb)
 have HK4 := aM (Kd.C_below HK3.out hb)
 have CC2 := aM (C2.out w4 _ HK4.out (pw_cell_below HB4.out HG.out))
 clear hb CC1 C2 HB3 HK3
 rcases hcase with hc | ⟨r, hc⟩
 all_goals
  rw [hc.out] at ht1
  have ht1' := (show e = _ from ht1)
  clear ht1
  obtain rfl := ht1'
  go_wp2_with fail
  refine CC2.out.mono ?_
  rintro e w5 ⟨ht2, hb⟩
  rw [hc.out] at ht2
  have ht2' := (show e = _ from ht2)
  clear ht2
  obtain rfl := ht2'
  have HB5 := aM (hb_then HB4.out hb)
  have HK5 := aM (Kd.C_below HK4.out hb)
  have CC3 := aM (C3.out w5 _ HK5.out (pw_cell_below HB5.out HG.out))
  clear hb CC2 C3 HB4 HK4
  go_wp2_with fail
  refine CC3.out.mono ?_
  rintro e w6 ⟨ht3, hb⟩
  have ht3' := (show e = _ from ht3)
  clear ht3
  obtain rfl := ht3'
  have HB6 := aM (hb_then HB5.out hb)
  clear hb CC3 HB5 HK5
  try have he : (r.toList == r.toList) = true := beq_self_eq_true _
  have CL := aM (substLives w6)
  go_wp2_with fail
  refine CL.out.mono ?_
  rintro e w7 ⟨rfl, hb⟩
  have HB7 := aM (hb_then HB6.out hb)
  clear hb CL HB6
  go_wp2
  go_ret
  exact ⟨rfl, HB7.out⟩
set_option maxHeartbeats 6400000 in
set_option maxRecDepth 100000 in
theorem signs5f (how : Int) (n0 wd0 v n wd : BA) (h1 : (n0.size : Int) ≤ 2147483647) (h2 : (wd0.size : Int) ≤ 2147483647) (h3 : (v.size : Int) ≤ 2147483647) (hj : (wrap64 (how.tmod 6 + 6)).tmod 6 = 5)
  (HN : ∀ W, Calls Tryz.prog 11 #[.string n0] W fun e w' => e = .returned (.string n) ∧ Below W.heap.size W w')
  (HP : ∀ W, Calls Tryz.prog 22 #[.string wd0] W fun e w' => e = .returned (.string wd) ∧ Below W.heap.size W w')
  (HW : Words n wd v ⟨0, by decide⟩) (w : World) (hg : ErrAt w) :
  Calls Tryz.prog 8 #[.int .i64 how, .string n0, .string wd0, .string v, .bool false] w fun e w' => e = .returned (.bool true) ∧ Below w.heap.size w w' := by
 have d1 : decide ((2147483647 : Int) < (n0.size : Int)) = false := decide_eq_false (by omega)
 have d2 : decide ((2147483647 : Int) < (wd0.size : Int)) = false := decide_eq_false (by omega)
 have d3 : decide ((2147483647 : Int) < (v.size : Int)) = false := decide_eq_false (by omega)
 obtain ⟨R, hR⟩ : ∃ R, R = opRes ⟨0, by decide⟩ (Option.none) wd := ⟨_, rfl⟩
 have CN := aM HN
 have CP := aM HP
 have HG := aM hg
 have C1 := aM (fun (W : World) A (h : kp.C W A 0 []) (hg : ErrAt W) => show Calls Tryz.prog 15 #[.string (⟨#[36, 123]⟩ ++ n ++ ⟨#[58, 63]⟩ ++ wd ++ ⟨#[125]⟩), .slice A 0 0] W fun e w' => implTold R e ∧ Below W.heap.size W w' from HW.none R hR W A 0 hg)
 have hbd : n ++ ⟨#[58, 63]⟩ ++ wd = mk (body (lb n) ⟨0, by decide⟩ (lb wd)) := body_is n wd ⟨0, by decide⟩
 have hT : OpTells 63 (n ++ ⟨#[58, 63]⟩ ++ wd) [] (R.map (·, true)) := by
  rw [hbd]
  exact tells_hit HW [] R (hR.trans (by first | rfl | (congr 1; simp [mget])))
 have hU : OpTells 63 n [] (some (⟨#[]⟩, false)) := tells_no HW.hn HW.ns ⟨0, by decide⟩ []
 have C2 := aM (fun (W : World) A (h : kp.C W A 0 []) (hg : ErrAt W) => show Calls Tryz.prog 23 #[.int .i64 5, .string (n ++ ⟨#[58, 63]⟩ ++ wd), .slice A 0 0] W fun e w' => Sign3 (R.map (·, true)) e ∧ Below W.heap.size W w' from sign5 hT Go.Proofs.YtkhkmhbledigpaaGreatDoor.Maps.Ok.nil (by decide) A 0 W (h) hg)
 have C3 := aM (fun (W : World) A (h : kp.C W A 0 []) (hg : ErrAt W) => show Calls Tryz.prog 23 #[.int .i64 5, .string n, .slice A 0 0] W fun e w' => Sign3 (some (⟨#[]⟩, false)) e ∧ Below W.heap.size W w' from sign5 hU Go.Proofs.YtkhkmhbledigpaaGreatDoor.Maps.Ok.nil (by decide) A 0 W (h) hg)
 have a1 := HW.ns
 have a2 := HW.ws
 clear HN HP hg HW hbd hT hU hR
 have hcase : (Aside0 (R = none)) ∨ ∃ r, Aside0 (R = some r) := by
  cases R with
  | none => exact .inl ⟨rfl⟩
  | some r => exact .inr ⟨r, ⟨rfl⟩⟩
 go_enter Tryz.func8, Tryz.ntmps8
 go_wp2_with fail
 refine (CN.out _).mono ?_
 rintro e w1 ⟨rfl, hb⟩
 have HB1 := aM hb
 clear hb CN
 go_wp2_with fail
 refine (CP.out _).mono ?_
 rintro e w2 ⟨rfl, hb⟩
 have HB2 := aM (hb_then HB1.out hb)
 clear hb CP HB1
 have HB3 := aM (below_alloc HB2.out (.cells #[.string ⟨#[45]⟩, .string ⟨#[58, 45]⟩, .string ⟨#[43]⟩, .string ⟨#[58, 43]⟩, .string ⟨#[63]⟩, .string ⟨#[58, 63]⟩] 9))
 have HK3 := aM (show kp.C (w2.alloc (.cells #[.string ⟨#[45]⟩, .string ⟨#[58, 45]⟩, .string ⟨#[43]⟩, .string ⟨#[58, 43]⟩, .string ⟨#[63]⟩, .string ⟨#[58, 63]⟩] 9)) none 0 [] from Go.Proofs.YtkhkmhbledigpaaGreatDoor.Maps.kp_none _ none)
 have CC1 := aM (C1.out (w2.alloc (.cells #[.string ⟨#[45]⟩, .string ⟨#[58, 45]⟩, .string ⟨#[43]⟩, .string ⟨#[58, 43]⟩, .string ⟨#[63]⟩, .string ⟨#[58, 63]⟩] 9)) none HK3.out (pw_cell_below HB3.out HG.out))
 clear C1 HB2
 go_wp2_with fail
 refine CC1.out.mono ?_
 rintro e w4 ⟨ht1, hb⟩
 have HB4 := aM (hb_then HB3.out hb)
 have HK4 := aM (Kd.C_below HK3.out hb)
 have CC2 := aM (C2.out w4 _ HK4.out (pw_cell_below HB4.out HG.out))
 clear hb CC1 C2 HB3 HK3
 rcases hcase with hc | ⟨r, hc⟩
 all_goals
  rw [hc.out] at ht1
  have ht1' := (show e = _ from ht1)
  clear ht1
  obtain rfl := ht1'
  go_wp2_with fail
  refine CC2.out.mono ?_
  rintro e w5 ⟨ht2, hb⟩
  rw [hc.out] at ht2
  have ht2' := (show e = _ from ht2)
  clear ht2
  obtain rfl := ht2'
  have HB5 := aM (hb_then HB4.out hb)
  have HK5 := aM (Kd.C_below HK4.out hb)
  have CC3 := aM (C3.out w5 _ HK5.out (pw_cell_below HB5.out HG.out))
  clear hb CC2 C3 HB4 HK4
  go_wp2_with fail
  refine CC3.out.mono ?_
  rintro e w6 ⟨ht3, hb⟩
  have ht3' := (show e = _ from ht3)
  clear ht3
  obtain rfl := ht3'
  have HB6 := aM (hb_then HB5.out hb)
  clear hb CC3 HB5 HK5
  try have he : (r.toList == r.toList) = true := beq_self_eq_true _
  have CL := aM (substLives w6)
  go_wp2_with fail
  refine CL.out.mono ?_
  rintro e w7 ⟨rfl, hb⟩
  have HB7 := aM (hb_then HB6.out hb)
  clear hb CL HB6
  go_wp2
  go_ret
  exact ⟨rfl, HB7.out⟩
set_option maxHeartbeats 1600000 in
set_option maxRecDepth 100000 in
theorem lawSigns (how : Int) (n0 wd0 v : BA) (has : Bool) (w : World) (hg : ErrAt w) :
  Calls Tryz.prog 8 #[.int .i64 how, .string n0, .string wd0, .string v, .bool has] w fun e w' => e = .returned (.bool true) ∧ Below w.heap.size w w' := by
 by_cases hn0 : (2147483647 : Int) < (n0.size : Int)
 ·have dd : decide ((2147483647 : Int) < (n0.size : Int)) = true := decide_eq_true hn0
  go_enter Tryz.func8, Tryz.ntmps8
  go_wp2
  go_ret
  exact ⟨rfl, Below.refl _ _⟩
 have dn0 : decide ((2147483647 : Int) < (n0.size : Int)) = false := decide_eq_false hn0
 by_cases hwd0 : (2147483647 : Int) < (wd0.size : Int)
 ·have dd : decide ((2147483647 : Int) < (wd0.size : Int)) = true := decide_eq_true hwd0
  go_enter Tryz.func8, Tryz.ntmps8
  go_wp2
  go_ret
  exact ⟨rfl, Below.refl _ _⟩
 have dwd0 : decide ((2147483647 : Int) < (wd0.size : Int)) = false := decide_eq_false hwd0
 by_cases hv : (2147483647 : Int) < (v.size : Int)
 ·have dd : decide ((2147483647 : Int) < (v.size : Int)) = true := decide_eq_true hv
  go_enter Tryz.func8, Tryz.ntmps8
  go_wp2
  go_ret
  exact ⟨rfl, Below.refl _ _⟩
 have dv : decide ((2147483647 : Int) < (v.size : Int)) = false := decide_eq_false hv
 have CN := fun W => substName n0 (by omega) W
 have CP := fun W => plainest_c wd0 (by omega) W
 have hns := nameOf_size n0
 have hfs := plainest_size wd0
 have hnn : IsName (lb (mk (nameOf n0))) := by rw [lb_mk']; exact nameOf_is n0
 have hnz : (mk (nameOf n0)).size ≤ 2147483648 := by rw [mk_size]; omega
 have hwz : (plainest wd0).size ≤ 2147483647 := by omega
 have hww := plainest_word wd0
 have HW : ∀ k, Words (mk (nameOf n0)) (plainest wd0) v k := fun k => ⟨hnn, hnz, hww, hwz, by omega⟩
 obtain ⟨j, hj0, hj5, hj⟩ := how_six how
 have h6 : j = 0 ∨ j = 1 ∨ j = 2 ∨ j = 3 ∨ j = 4 ∨ j = 5 := by omega
 rcases h6 with rfl | rfl | rfl | rfl | rfl | rfl
 ·cases has
  ·exact signs0f how n0 wd0 v _ _ (by omega) (by omega) (by omega) hj CN CP (HW _) w hg
  ·exact signs0t how n0 wd0 v _ _ (by omega) (by omega) (by omega) hj CN CP (HW _) w hg
 ·cases has
  ·exact signs1f how n0 wd0 v _ _ (by omega) (by omega) (by omega) hj CN CP (HW _) w hg
  ·exact signs1t how n0 wd0 v _ _ (by omega) (by omega) (by omega) hj CN CP (HW _) w hg
 ·cases has
  ·exact signs2f how n0 wd0 v _ _ (by omega) (by omega) (by omega) hj CN CP (HW _) w hg
  ·exact signs2t how n0 wd0 v _ _ (by omega) (by omega) (by omega) hj CN CP (HW _) w hg
 ·cases has
  ·exact signs3f how n0 wd0 v _ _ (by omega) (by omega) (by omega) hj CN CP (HW _) w hg
  ·exact signs3t how n0 wd0 v _ _ (by omega) (by omega) (by omega) hj CN CP (HW _) w hg
 ·cases has
  ·exact signs4f how n0 wd0 v _ _ (by omega) (by omega) (by omega) hj CN CP (HW _) w hg
  ·exact signs4t how n0 wd0 v _ _ (by omega) (by omega) (by omega) hj CN CP (HW _) w hg
 ·cases has
  ·exact signs5f how n0 wd0 v _ _ (by omega) (by omega) (by omega) hj CN CP (HW _) w hg
  ·exact signs5t how n0 wd0 v _ _ (by omega) (by omega) (by omega) hj CN CP (HW _) w hg
theorem lawSignsRow (how : Int) (n0 wd0 v : BA) (has : Bool) (w : World) (w0 : (Lit.int .i64 how).wf = true) (w1 : n0.size ≤ 140737488351232) (w2 : wd0.size ≤ 140737488351232) (w3 : v.size ≤ 140737488351232) (hT : ErrAt w) :
  Calls Tryz.prog 8 #[.int .i64 how, .string n0, .string wd0, .string v, .bool has] w fun e w' => e = .returned (.bool true) ∧ Below w.heap.size w w' := lawSigns how n0 wd0 v has w hT
end Go.Proofs.YtkhkmhbledigpaaGreatDoor.Tr
namespace Go.Proofs.YtkhkmhbledigpaaGreatDoor.RowKit
open Go.RowKit Go.ChangeShapes Go.WideShapes Go.ChangeAt Go.Proofs.YtkhkmhbledigpaaGreatDoorW.PrintWords Go.Proofs.YtkhkmhbledigpaaGreatDoor.Str Go.Proofs.YtkhkmhbledigpaaGreatDoor.Kit
set_option linter.unusedVariables false
set_option linter.unusedSimpArgs false
end Go.Proofs.YtkhkmhbledigpaaGreatDoor.RowKit
namespace Go.Proofs.YtkhkmhbledigpaaGreatDoor.DTabsFnSubstSigns
set_option linter.unusedVariables false
open Go.RowKit Go.Lib
theorem et : Tryz.prog.globalNamed "errors.errorType" = some 1 := by kernel_rfl
theorem rt : (Tryz.prog.cutTypes.find? (·.1 == "internal/reflectlite.rtype")).map (·.2) = some 111 := by kernel_rfl
theorem oneRow : ((List.range 202).filter fun t => Tryz.prog.rowNamed t [101, 114, 114, 111, 114]) = [55] := by kernel_rfl
theorem size : Tryz.prog.types.size = 202 := by kernel_rfl
theorem any {W : World} (hL : laidMetH Tryz.prog Rows.fnSubstSignsRow.laid W) : Tr.ErrAt W := by
 have h' : laidMet Tryz.prog (Rows.fnSubstSignsRow.laid.filter fun x => x.2.handleName?.isNone) W ∧ handlesMet Tryz.prog (Rows.fnSubstSignsRow.laid.take 1) W := hL
 obtain ⟨name, u, ty, e1, e2, e3, e4, e5⟩ := h'.2 _ (List.mem_singleton.2 rfl)
 have en : name = [101, 114, 114, 111, 114] := (Option.some.inj e1).symm
 subst en
 obtain rfl := Option.some.inj (rt.symm.trans e2)
 have hm : ty ∈ (List.range 202).filter fun t => Tryz.prog.rowNamed t [101, 114, 114, 111, 114] := List.mem_filter.2 ⟨List.mem_range.2 (by rw [← size]; exact e3), e4⟩
 rw [oneRow] at hm
 obtain rfl := List.mem_singleton.1 hm
 have hh : typeHandle Tryz.prog 55 = .pointer (some ⟨2, 55, none⟩) := by kernel_rfl
 rw [hh] at e5
 simpa using World.var?_cell et e5 0
end Go.Proofs.YtkhkmhbledigpaaGreatDoor.DTabsFnSubstSigns
