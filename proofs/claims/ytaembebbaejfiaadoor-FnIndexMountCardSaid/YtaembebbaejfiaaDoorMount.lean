/- override's indexer of mounts: the closure, IndexMount; impl.at. -/
import Derived.Test.YtaembebbaejfiaaDoorRowstr
import Derived.Test.YtaembebbaejfiaaDoorShelf
import Derived.Test.YtaembebbaejfiaaDoorMapV
import Derived.Test.YtaembebbaejfiaaDoorFrame
import Derived.Test.YtaembebbaejfiaaDoorWLast
namespace Go.Proofs.YtaembebbaejfiaaDoor.Mount
open Go.RowKit Go.Proofs.YtaembebbaejfiaaDoorW.PrintWords Go.Proofs.YtaembebbaejfiaaDoorW.PrintLast Go.Proofs.YtaembebbaejfiaaDoor.Str Go.Proofs.YtaembebbaejfiaaDoor.Kit Go.Proofs.YtaembebbaejfiaaDoor.MapV Go.Proofs.YtaembebbaejfiaaDoor.Frame
set_option linter.unusedVariables false
set_option linter.unusedSimpArgs false
abbrev BA := ByteArray
theorem key_u : Tryd.prog.underlying 9 = some .string := Tryd.underlying9
theorem map_u : Tryd.prog.underlying 74 = some (.map 9 20) := Tryd.underlying74
/-- a map of values of any type -/
abbrev MapI (w : World) (b : Nat) (f : List (Bs × Value)) : Prop := MapE Tryd.prog 9 id w b f
/-- a string as any -/
def anyS (s : BA) : Value := .iface 9 (.string s)
def srcK : BA := ⟨#[115, 111, 117, 114, 99, 101]⟩
def slash : BA := ⟨#[47]⟩
theorem as_str (v : Value) (w : World) : (Instr.typeAssert (.iface 9 v) 20 9 true).run Tryd.prog w = .ok (.tuple #[v, .bool true]) w := by kernel_rfl
theorem as_str_map (v : Value) (w : World) : (Instr.typeAssert (.iface 74 v) 20 9 true).run Tryd.prog w = .ok (.tuple #[.string ByteArray.empty, .bool false]) w := by kernel_rfl
theorem as_map (v : Value) (w : World) : (Instr.typeAssert (.iface 74 v) 20 74 true).run Tryd.prog w = .ok (.tuple #[v, .bool true]) w := by kernel_rfl
theorem as_bool_str (v : Value) (w : World) : (Instr.typeAssert (.iface 9 v) 20 4 true).run Tryd.prog w = .ok (.tuple #[.bool false, .bool false]) w := by kernel_rfl
theorem as_int_str (v : Value) (w : World) : (Instr.typeAssert (.iface 9 v) 20 3 true).run Tryd.prog w = .ok (.tuple #[.int .i64 0, .bool false]) w := by kernel_rfl
set_option maxHeartbeats 800000 in
theorem zzTextVerb (s : BA) (w : World) :
    Calls Tryd.prog 62 #[anyS s] w fun e w' => e = .returned (.string s) ∧ w' = w := by
  have h1 := as_bool_str
  have h2 := as_int_str
  have h3 := as_str
  unfold anyS
  go_enter Tryd.func62, Tryd.ntmps62
  go_wp2
  go_ret
  exact ⟨rfl, rfl⟩
set_option maxHeartbeats 800000 in
theorem indexerText (cb : Nat) (dir s p : BA) (w : World) (hc : w.cell? ⟨cb, 0, none⟩ = some (.string dir)) (hd : dir.size ≤ 2147483647) (hs : s.size ≤ 2147483647) :
    Calls Tryd.prog 61 #[anyS s, .string p, .pointer (some ⟨cb, 0, none⟩)] w fun e w' => e = .returned (.tuple #[.string (dir ++ slash ++ s), .nilIface]) ∧ w' = w := by
  have h3 := as_str
  unfold anyS
  have z3 : (dir ++ (⟨#[47]⟩ : BA)).size = dir.size + 1 := ByteArray.size_append
  have z4 : ¬ 9223372036854775807 < dir.size + 1 := by omega
  have z5 : ¬ 9223372036854775807 < (dir ++ (⟨#[47]⟩ : BA)).size + s.size := by omega
  have z6 : ¬ 9223372036854775807 < dir.size + 1 + s.size := by omega
  go_enter Tryd.func61, Tryd.ntmps61
  go_wp2
  go_ret2
  exact ⟨rfl, rfl⟩
set_option maxHeartbeats 400000 in
theorem indexer_made (dir : BA) (w : World) :
    Calls Tryd.prog 49 #[.string dir] w fun e w' => e = .returned (.func (.func 61) #[] #[.pointer (some ⟨w.heap.size, 0, none⟩)]) ∧ w'.cell? ⟨w.heap.size, 0, none⟩ = some (.string dir) ∧ Below w.heap.size w w' := by
  have hmf : ∀ (fn : Fn) (first cap : Array Value) (w : World), (Instr.makeFunc fn first cap).run Tryd.prog w = .ok (.func fn first cap) w := fun _ _ _ _ => rfl
  have HB := Aside0.mk ((Below.refl _ w).alloc (Nat.le_refl _) (.cells #[.string dir] 9))
  go_enter Tryd.func49, Tryd.ntmps49
  go_wp2
  go_ret
  exact ⟨rfl, cb_cell (i := 0) (cb_new _ _) rfl, HB.out⟩
def tgtK : BA := ⟨#[116, 97, 114, 103, 101, 116]⟩
theorem look_tgt (s : BA) : mget [(lb srcK, anyS s)] (lb tgtK) = none := by
  rw [show lb srcK = [115, 111, 117, 114, 99, 101] from rfl, show lb tgtK = [116, 97, 114, 103, 101, 116] from rfl]
  rfl
theorem look_src (s : BA) : mget [(lb srcK, anyS s)] (lb srcK) = some (anyS s) := by
  rw [show lb srcK = [115, 111, 117, 114, 99, 101] from rfl]
  rfl
set_option maxHeartbeats 1600000 in
set_option maxRecDepth 100000 in
theorem indexerMap (cb b : Nat) (dir s p : BA) (w : World) (hc : w.cell? ⟨cb, 0, none⟩ = some (.string dir)) (hm : MapI w b [(lb srcK, anyS s)]) (hd : dir.size ≤ 2147483647) (hs : s.size ≤ 2147483647) :
    Calls Tryd.prog 61 #[.iface 74 (.map (some b)), .string p, .pointer (some ⟨cb, 0, none⟩)] w fun e w' => e = .returned (.tuple #[.string (dir ++ slash ++ s), .nilIface]) ∧ Below w.heap.size w w' := by
  have h1 := as_str_map
  have h2 := as_map
  have hlk := run_look_ok_mapE (s := tgtK) key_u map_u (Tryd.zeroValue20 w) hm (by decide)
  rw [look_tgt] at hlk
  simp only [Option.map_none, Option.getD_none, Option.isSome_none] at hlk
  have HL := Aside0.mk (fun (w' : World) (hb : Below w.heap.size w w') => (show (Instr.lookup 74 (.map (some b)) (.string srcK) false).run Tryd.prog w' = .ok (anyS s) w' from by
    have := run_look_mapE (s := srcK) key_u map_u (Tryd.zeroValue20 w') (hm.below hb) (by decide)
    rw [look_src] at this
    exact this))
  have z3 : (dir ++ (⟨#[47]⟩ : BA)).size = dir.size + 1 := ByteArray.size_append
  have z4 : ¬ 9223372036854775807 < dir.size + 1 := by omega
  have z5 : ¬ 9223372036854775807 < (dir ++ (⟨#[47]⟩ : BA)).size + s.size := by omega
  have z6 : ¬ 9223372036854775807 < dir.size + 1 + s.size := by omega
  clear hm
  unfold tgtK at hlk
  go_enter Tryd.func61, Tryd.ntmps61
  go_wp2_with fail
  have hl0 := HL.out w.drew (below_drew (Below.refl _ _))
  have hc0 : w.drew.cell? ⟨cb, 0, none⟩ = some (.string dir) := hc
  unfold srcK at hl0
  refine start_ (n := 8) (S := fun w' => w'.cell? ⟨cb, 0, none⟩ = some (.string dir) ∧ (Instr.lookup 74 (.map (some b)) (.string ⟨#[115, 111, 117, 114, 99, 101]⟩) false).run Tryd.prog w' = .ok (anyS s) w') (ds := []) #[false, false, false, false, false, false, false, false] (by kernel_rfl) rfl rfl ⟨hc0, hl0⟩ (fun hHeld => ?_)
  refine pure_ (i := 2) (N := some 34) (v := ?_) (a' := ?_) #[false, false, true, false, false, false, false, false] rfl rfl (by kernel_rfl) (fun _ _ _ h => h) (Or.inl ⟨by rfl, ?_⟩) ?_ ?_
  rotate_left
  · intro w'
    go_simp
    with_reducible rfl
  rotate_left
  · simp only [Act.put, List.setIfInBounds_toArray, List.set_cons_zero, List.set_cons_succ, i64_w, i32_w]
    rfl
  refine take_ (i := 0) (N := some 32) (v := ?_) (a' := ?_) #[true, false, true, false, false, false, false, false] rfl rfl (by kernel_rfl) (fun _ _ _ h => h) (Or.inl ⟨by rfl, ?_⟩) hHeld ?_ ?_
  rotate_left
  · rintro w' ⟨s0, s1⟩
    go_simp
    with_reducible rfl
  rotate_left
  · simp only [Act.put, List.setIfInBounds_toArray, List.set_cons_zero, List.set_cons_succ, i64_w, i32_w]
    rfl
  refine pure_ (i := 1) (N := some 33) (v := ?_) (a' := ?_) #[true, true, true, false, false, false, false, false] rfl rfl (by kernel_rfl) (fun _ _ _ h => h) (Or.inl ⟨by rfl, ?_⟩) ?_ ?_
  rotate_left
  · intro w'
    go_simp
    with_reducible rfl
  rotate_left
  · simp only [Act.put, List.setIfInBounds_toArray, List.set_cons_zero, List.set_cons_succ, i64_w, i32_w]
    rfl
  refine take_ (i := 3) (N := some 35) (v := ?_) (a' := ?_) #[true, true, true, true, false, false, false, false] rfl rfl (by kernel_rfl) (fun _ _ _ h => h) (Or.inl ⟨by rfl, ?_⟩) hHeld ?_ ?_
  rotate_left
  · rintro w' ⟨s0, s1⟩
    go_simp
    with_reducible rfl
  rotate_left
  · simp only [Act.put, List.setIfInBounds_toArray, List.set_cons_zero, List.set_cons_succ, i64_w, i32_w]
    rfl
  refine one_ (i := 4) (N := some 36) #[true, true, true, true, true, false, false, false] rfl rfl (by kernel_rfl) (by decide) (fun K hK => ?_)
  refine goes_ Tryd.func62 (by kernel_rfl) rfl #[anyS s] (by rfl) rfl rfl (by simp only [List.map_toArray, List.map_cons, List.map_nil]; rfl) ?_
  with_reducible refine (zzTextVerb s _).mono ?_
  rintro e w3 ⟨rfl, rfl⟩
  refine ⟨_, rfl, ?_⟩
  refine hK.out _ _ ⟨hHeld.1, hHeld.2⟩ (fun hHeld => ?_)
  clear hK K
  refine norm_ (a' := ?_) ?_ ?_
  rotate_left
  · show Act.put _ (some 36) _ = _
    simp only [Act.put, List.setIfInBounds_toArray, List.set_cons_zero, List.set_cons_succ, i64_w, i32_w]
    rfl
  refine pure_ (i := 5) (N := some 37) (v := ?_) (a' := ?_) #[true, true, true, true, true, true, false, false] rfl rfl (by kernel_rfl) (fun _ _ _ h => h) (Or.inl ⟨by rfl, ?_⟩) ?_ ?_
  rotate_left
  · intro w'
    go_simp
    with_reducible rfl
  rotate_left
  · simp only [Act.put, List.setIfInBounds_toArray, List.set_cons_zero, List.set_cons_succ, i64_w, i32_w]
    rfl
  refine pure_ (i := 6) (N := some 5) (v := ?_) (a' := ?_) #[true, true, true, true, true, true, true, false] rfl rfl (by kernel_rfl) (fun _ _ _ h => h) (Or.inl ⟨by rfl, ?_⟩) ?_ ?_
  rotate_left
  · intro w'
    go_simp
    with_reducible rfl
  rotate_left
  · simp only [Act.put, List.setIfInBounds_toArray, List.set_cons_zero, List.set_cons_succ, i64_w, i32_w]
    rfl
  refine pure_ (i := 7) (N := some 6) (v := ?_) (a' := ?_) #[true, true, true, true, true, true, true, true] rfl rfl (by kernel_rfl) (fun _ _ _ h => h) (Or.inl ⟨by rfl, ?_⟩) ?_ ?_
  rotate_left
  · intro w'
    go_simp
    with_reducible rfl
  rotate_left
  · simp only [Act.put, List.setIfInBounds_toArray, List.set_cons_zero, List.set_cons_succ, i64_w, i32_w]
    rfl
  refine done_ (by kernel_rfl) ?_
  go_wp2
  go_ret2
  exact ⟨rfl, below_drew (Below.refl _ _)⟩
set_option maxHeartbeats 800000 in
theorem overrideText (dir s p : BA) (w : World) (hd : dir.size ≤ 2147483647) (hs : s.size ≤ 2147483647) :
    Calls Tryd.prog 28 #[anyS s, .string dir, .string p] w fun e w' => e = .returned (.tuple #[.string (dir ++ slash ++ s), .nilIface]) ∧ Below w.heap.size w w' := by
  have CM := Aside0.mk (indexer_made dir w)
  go_enter Tryd.func28, Tryd.ntmps28
  go_wp2_with fail
  refine CM.out.mono ?_
  rintro e w1 ⟨rfl, hc, hb⟩
  have HB := Aside0.mk hb
  have CX := Aside0.mk (indexerText w.heap.size dir s p w1 hc hd hs)
  clear hc hb CM
  go_wp2_with fail
  refine CX.out.mono ?_
  rintro e w2 ⟨rfl, rfl⟩
  go_wp2
  go_ret2
  exact ⟨rfl, HB.out⟩
set_option maxHeartbeats 800000 in
theorem overrideMap (b : Nat) (dir s p : BA) (w : World) (hm : MapI w b [(lb srcK, anyS s)]) (hd : dir.size ≤ 2147483647) (hs : s.size ≤ 2147483647) :
    Calls Tryd.prog 28 #[.iface 74 (.map (some b)), .string dir, .string p] w fun e w' => e = .returned (.tuple #[.string (dir ++ slash ++ s), .nilIface]) ∧ Below w.heap.size w w' := by
  have CM := Aside0.mk (indexer_made dir w)
  have HM := Aside0.mk hm
  clear hm
  go_enter Tryd.func28, Tryd.ntmps28
  go_wp2_with fail
  refine CM.out.mono ?_
  rintro e w1 ⟨rfl, hc, hb⟩
  have HB := Aside0.mk hb
  have CX := Aside0.mk (indexerMap w.heap.size b dir s p w1 hc (HM.out.below hb) hd hs)
  clear hc hb CM
  go_wp2_with fail
  refine CX.out.mono ?_
  rintro e w2 ⟨rfl, hb⟩
  have HB2 := Aside0.mk (hb_then HB.out hb)
  clear hb
  go_wp2
  go_ret2
  exact ⟨rfl, HB2.out⟩
set_option maxHeartbeats 800000 in
theorem toAnyText (s : BA) (A3 A4 : Option Addr) (n3 c3 n4 c4 : Nat) (w : World) :
    Calls Tryd.prog 29 #[.agg #[.int .i64 3, .int .i64 0, .string s, .slice A3 n3 c3, .slice A4 n4 c4]] w fun e w' => e = .returned (anyS s) ∧ Below w.heap.size w w' := by
  have HB := Aside0.mk ((Below.refl _ w).alloc (Nat.le_refl _) (.cells #[.int .i64 3, .int .i64 0, .string s, .slice A3 n3 c3, .slice A4 n4 c4] 28))
  go_enter Tryd.func29, Tryd.ntmps29
  go_wp2
  go_ret
  exact ⟨rfl, HB.out⟩
end Go.Proofs.YtaembebbaejfiaaDoor.Mount
