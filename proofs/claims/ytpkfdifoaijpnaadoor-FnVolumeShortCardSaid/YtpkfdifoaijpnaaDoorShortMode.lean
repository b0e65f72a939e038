/- The reference's shortMode. -/
import Derived.Test.YtpkfdifoaijpnaaDoorShort
import Derived.Test.YtpkfdifoaijpnaaDoorWLast
namespace Go.Proofs.YtpkfdifoaijpnaaDoor.Vol
open Go.RowKit Go.Proofs.YtpkfdifoaijpnaaDoorW.PrintWords Go.Proofs.YtpkfdifoaijpnaaDoorW.PrintLast Go.Proofs.YtpkfdifoaijpnaaDoor.Str Go.Proofs.YtpkfdifoaijpnaaDoor.Kit Go.Proofs.YtpkfdifoaijpnaaDoor.Frame Go.Proofs.YtpkfdifoaijpnaaDoor.Index
set_option linter.unusedVariables false
set_option linter.unusedSimpArgs false

/-- the reference's mount -/
structure SpecV where
  typ : ByteArray
  src : ByteArray
  tgt : ByteArray
  pr : ByteArray
  se : ByteArray
  ro : Bool
  ch : Bool
  nc : Bool
def specC (v : SpecV) : Array Value := #[.string v.typ, .string v.src, .string v.tgt, .string v.pr, .string v.se, .bool v.ro, .bool v.ch, .bool v.nc]

def inB (xs : List ByteArray) (x : ByteArray) : Bool := xs.any fun y => lb y == lb x
theorem mapsIn {A : Option Addr} {c : Nat} {xs : List ByteArray} (x : ByteArray) (w : World) (h : Kd.string.C w A xs.length xs) (hn : xs.length ≤ 4398046511104) :
    Calls Tryd.prog 33 #[.slice A xs.length c, .string x] w fun e w' => e = .returned (.bool (inB xs x)) ∧ w' = w := by
  have H := Aside0.mk h
  clear h
  go_enter Tryd.func33, Tryd.ntmps33
  go_wp2
  go_loop [5] (fun v5 => ∃ i : Nat, v5 = .int .i64 i ∧ i ≤ xs.length ∧ Aside0 (inB (xs.take i) x = false)) (fun v5 => xs.length - (intOf v5).toNat)
  case atStart => exact ⟨0, rfl, by omega, ⟨rfl⟩⟩
  case round =>
    obtain ⟨i, rfl, hi, HA⟩ := hrel
    by_cases hlt : i < xs.length
    · obtain ⟨b0, o0, rfl, hb0, hc0⟩ := strs_open H.out (by omega)
      have g0 := hc0 i hlt
      have q0 : (0 : Int) ≤ (i : Int) := by omega
      have q1 : (i : Int) < (xs.length : Int) := by omega
      have ST := Aside0.mk (show inB (xs.take (i + 1)) x = (lb xs[i] == lb x) by
        have h1 := HA.out
        unfold inB at h1 ⊢
        rw [List.take_succ_eq_append_getElem hlt, List.any_append, h1]
        simp)
      have YE := Aside0.mk (show (lb xs[i] == lb x) = true → inB xs x = true from fun h => List.any_eq_true.2 ⟨_, List.getElem_mem hlt, h⟩)
      have e0 : (xs[i].toList == x.toList) = (lb xs[i] == lb x) := by rw [toList_lb, toList_lb]
      generalize xs[i] = y at g0 ST YE e0
      clear hc0
      cases hb : (lb y == lb x)
      · rw [hb] at ST e0
        clear hb
        go_wp2
        go_round
        case rel => exact ⟨i + 1, by go_num, by omega, ST⟩
        case measure => simp [intOf]; omega
      · rw [hb] at e0 YE
        have Y := Aside0.mk (YE.out rfl)
        clear hb
        go_wp2
        go_ret
        exact ⟨by rw [Y.out]; rfl, rfl⟩
    · have hall := HA.out
      rw [List.take_of_length_le (by omega)] at hall
      have HALL := Aside0.mk hall
      clear hall HA
      go_wp2
      go_ret
      exact ⟨by rw [HALL.out]; rfl, rfl⟩

theorem spec_arr (v : SpecV) : specC v = #[.string v.typ, .string v.src, .string v.tgt, .string v.pr, .string v.se, .bool v.ro, .bool v.ch, .bool v.nc] := rfl
theorem results_cell2 {fn : Func} {p u x : Tmp} {ty : TypeId} (h : fn.results = #[.cell p ty, .tmp u, .tmp x]) (tmps : Array Value) (P : Program) (w : World) :
    (results fn tmps).run P w =
      ((asAddr (tmps.getD p undef)).run P w).andThen fun a w₁ => ((loadVar ty a).run P w₁).andThen fun v w₂ => .ok (.tuple #[v, tmps.getD u undef, tmps.getD x undef]) w₂ := by
  simp only [results, h]
  simp [Sem.run_bind, Result.andThen]
/-- what an option does to a mount, and its class -/
def modeV (v : SpecV) (o : ByteArray) : Option (SpecV × ByteArray) :=
  if lb o = [114, 111] then some ({ v with ro := true }, ⟨#[114, 111]⟩)
  else if lb o = [114, 119] then some ({ v with ro := false }, ⟨#[114, 111]⟩)
  else if lb o = [110, 111, 99, 111, 112, 121] then (if lb v.typ = [118, 111, 108, 117, 109, 101] then some ({ v with nc := true }, o) else none)
  else if isZ (lb o) = true then (if lb v.typ = [98, 105, 110, 100] then some ({ v with se := o }, ⟨#[122]⟩) else none)
  else if isBind (lb o) = true then (if lb v.typ = [98, 105, 110, 100] then some ({ v with pr := o }, ⟨#[115, 104, 97, 114, 101, 100]⟩) else none)
  else none
def ModePost (v : SpecV) (o : ByteArray) (seen : List ByteArray) (w : World) (e : Ending) (w' : World) : Prop :=
  Below w.heap.size w w' ∧ ∃ (v' : SpecV) (cl : ByteArray) (b : Bool), e = .returned (.tuple #[.agg (specC v'), .string cl, .bool b]) ∧ (b = true → modeV v o = some (v', cl) ∧ inB seen cl = false)
def zeroS : SpecV := ⟨⟨#[]⟩, ⟨#[]⟩, ⟨#[]⟩, ⟨#[]⟩, ⟨#[]⟩, false, false, false⟩
/-- the two blocks of the call -/
structure Two (w W : World) (v2 : SpecV) : Prop where
  a : W.heap[w.heap.size]? = some (.cells (specC v2) 30 (0, 0))
  b : W.heap[w.heap.size + 1]? = some (.cells (specC zeroS) 30 (0, 0))
  below : Below w.heap.size w W
theorem Two.sets {w W : World} {v2 : SpecV} (h : Two w W v2) (x0 x1 x2 x3 x4 x5 x6 x7 : Value) :
    Below w.heap.size w ((((((((W.setCell ⟨w.heap.size + 1, 0, none⟩ x0).setCell ⟨w.heap.size + 1, 1, none⟩ x1).setCell ⟨w.heap.size + 1, 2, none⟩ x2).setCell ⟨w.heap.size + 1, 3, none⟩ x3).setCell ⟨w.heap.size + 1, 4, none⟩ x4).setCell ⟨w.heap.size + 1, 5, none⟩ x5).setCell ⟨w.heap.size + 1, 6, none⟩ x6).setCell ⟨w.heap.size + 1, 7, none⟩ x7) :=
  have k : w.heap.size ≤ w.heap.size + 1 := Nat.le_succ _
  (((((((h.below.setCell (p := ⟨_, 0, none⟩) k _).setCell (p := ⟨_, 1, none⟩) k _).setCell (p := ⟨_, 2, none⟩) k _).setCell (p := ⟨_, 3, none⟩) k _).setCell (p := ⟨_, 4, none⟩) k _).setCell (p := ⟨_, 5, none⟩) k _).setCell (p := ⟨_, 6, none⟩) k _).setCell (p := ⟨_, 7, none⟩) k _
theorem Two.mk0 (w : World) (v2 : SpecV) : Two w ((w.alloc (.cells (specC v2) 30)).alloc (.cells (specC zeroS) 30)) v2 := by
  refine ⟨cb_alloc (cb_new _ _) _, ?_, ((Below.refl _ w).alloc (Nat.le_refl _) _).alloc (by simp) _⟩
  have := cb_new (w.alloc (.cells (specC v2) 30)) (.cells (specC zeroS) 30)
  rw [World.size_alloc] at this
  exact this

set_option maxHeartbeats 12800000 in
set_option maxRecDepth 1000000 in
theorem shortMode {A : Option Addr} {c : Nat} (v : SpecV) (o : ByteArray) (seen : List ByteArray) (w : World) (h : Kd.string.C w A seen.length seen) (hn : seen.length ≤ 4398046511104) :
    Calls Tryd.prog 23 #[.agg (specC v), .string o, .slice A seen.length c] w (ModePost v o seen w) := by
  have H := Aside0.mk h
  clear h
  rw [spec_arr]
  by_cases h0 : o.toList = [114, 111]
  · have M := Aside0.mk (show modeV v o = some ({ v with ro := true }, ⟨#[114, 111]⟩) by simp [modeV, ← toList_lb, h0])
    have t0 : (o.toList == [114, 111]) = true := by rw [h0]; rfl
    clear h0
    go_enter Tryd.func23, Tryd.ntmps23
    go_wp2_with fail
    refine (show ∀ W : World, Two w W { v with ro := true } → Code.wp _ _ _ _ W from ?_) _ (Two.mk0 w { v with ro := true })
    intro W hW
    generalize ({ v with ro := true } : SpecV) = v2 at hW M
    generalize (⟨#[114, 111]⟩ : ByteArray) = cl at M ⊢
    have hlt := cb_lt hW.b
    have CM := Aside0.mk (mapsIn (c := c) cl W.drew (Kd.C_below H.out hW.below.drew) hn)
    generalize hib : inB seen cl = ib at CM
    have IB := Aside0.mk hib
    clear hib
    have c0 : W.cell? ⟨w.heap.size, 0, none⟩ = some (.string v2.typ) := cb_cell (i := 0) hW.a rfl
    have r0 : W.cell? ⟨w.heap.size + 1, 0, none⟩ = some (.string ⟨#[]⟩) := cb_cell (i := 0) hW.b rfl
    have f0 := cb_frozen (i := 0) hW.b
    have c1 : W.cell? ⟨w.heap.size, 1, none⟩ = some (.string v2.src) := cb_cell (i := 1) hW.a rfl
    have r1 : W.cell? ⟨w.heap.size + 1, 1, none⟩ = some (.string ⟨#[]⟩) := cb_cell (i := 1) hW.b rfl
    have f1 := cb_frozen (i := 1) hW.b
    have c2 : W.cell? ⟨w.heap.size, 2, none⟩ = some (.string v2.tgt) := cb_cell (i := 2) hW.a rfl
    have r2 : W.cell? ⟨w.heap.size + 1, 2, none⟩ = some (.string ⟨#[]⟩) := cb_cell (i := 2) hW.b rfl
    have f2 := cb_frozen (i := 2) hW.b
    have c3 : W.cell? ⟨w.heap.size, 3, none⟩ = some (.string v2.pr) := cb_cell (i := 3) hW.a rfl
    have r3 : W.cell? ⟨w.heap.size + 1, 3, none⟩ = some (.string ⟨#[]⟩) := cb_cell (i := 3) hW.b rfl
    have f3 := cb_frozen (i := 3) hW.b
    have c4 : W.cell? ⟨w.heap.size, 4, none⟩ = some (.string v2.se) := cb_cell (i := 4) hW.a rfl
    have r4 : W.cell? ⟨w.heap.size + 1, 4, none⟩ = some (.string ⟨#[]⟩) := cb_cell (i := 4) hW.b rfl
    have f4 := cb_frozen (i := 4) hW.b
    have c5 : W.cell? ⟨w.heap.size, 5, none⟩ = some (.bool v2.ro) := cb_cell (i := 5) hW.a rfl
    have r5 : W.cell? ⟨w.heap.size + 1, 5, none⟩ = some (.bool false) := cb_cell (i := 5) hW.b rfl
    have f5 := cb_frozen (i := 5) hW.b
    have c6 : W.cell? ⟨w.heap.size, 6, none⟩ = some (.bool v2.ch) := cb_cell (i := 6) hW.a rfl
    have r6 : W.cell? ⟨w.heap.size + 1, 6, none⟩ = some (.bool false) := cb_cell (i := 6) hW.b rfl
    have f6 := cb_frozen (i := 6) hW.b
    have c7 : W.cell? ⟨w.heap.size, 7, none⟩ = some (.bool v2.nc) := cb_cell (i := 7) hW.a rfl
    have r7 : W.cell? ⟨w.heap.size + 1, 7, none⟩ = some (.bool false) := cb_cell (i := 7) hW.b rfl
    have f7 := cb_frozen (i := 7) hW.b
    have HW := Aside0.mk hW
    clear hW
    refine start_ (n := 9) (S := fun w' => w'.cell? ⟨w.heap.size, 0, none⟩ = some (.string v2.typ) ∧ w'.cell? ⟨w.heap.size, 1, none⟩ = some (.string v2.src) ∧ w'.cell? ⟨w.heap.size, 2, none⟩ = some (.string v2.tgt) ∧ w'.cell? ⟨w.heap.size, 3, none⟩ = some (.string v2.pr) ∧ w'.cell? ⟨w.heap.size, 4, none⟩ = some (.string v2.se) ∧ w'.cell? ⟨w.heap.size, 5, none⟩ = some (.bool v2.ro) ∧ w'.cell? ⟨w.heap.size, 6, none⟩ = some (.bool v2.ch) ∧ w'.cell? ⟨w.heap.size, 7, none⟩ = some (.bool v2.nc)) (ds := [6]) #[false, false, false, false, false, false, false, false, false] (by kernel_rfl) rfl rfl ⟨c0, c1, c2, c3, c4, c5, c6, c7⟩ (fun hHeld => ?_)
    refine pure_ (i := 1) (N := some 53) (v := ?_) (a' := ?_) #[false, true, false, false, false, false, false, false, false] rfl rfl (by kernel_rfl) (fun _ _ _ h => h) (Or.inl ⟨by rfl, ?_⟩) ?_ ?_
    rotate_left
    · intro w'
      go_simp
      with_reducible rfl
    rotate_left
    · simp only [Act.put, List.setIfInBounds_toArray, List.set_cons_zero, List.set_cons_succ, i64_w, i32_w]
      rfl
    refine pure_ (i := 2) (N := some 54) (v := ?_) (a' := ?_) #[false, true, true, false, false, false, false, false, false] rfl rfl (by kernel_rfl) (fun _ _ _ h => h) (Or.inl ⟨by rfl, ?_⟩) ?_ ?_
    rotate_left
    · intro w'
      go_simp
      with_reducible rfl
    rotate_left
    · simp only [Act.put, List.setIfInBounds_toArray, List.set_cons_zero, List.set_cons_succ, i64_w, i32_w]
      rfl
    refine pure_ (i := 3) (N := some 55) (v := ?_) (a' := ?_) #[false, true, true, true, false, false, false, false, false] rfl rfl (by kernel_rfl) (fun _ _ _ h => h) (Or.inl ⟨by rfl, ?_⟩) ?_ ?_
    rotate_left
    · intro w'
      go_simp
      with_reducible rfl
    rotate_left
    · simp only [Act.put, List.setIfInBounds_toArray, List.set_cons_zero, List.set_cons_succ, i64_w, i32_w]
      rfl
    refine take_ (i := 0) (N := some 52) (v := ?_) (a' := ?_) #[true, true, true, true, false, false, false, false, false] rfl rfl (by kernel_rfl) (fun _ _ _ h => h) (Or.inl ⟨by rfl, ?_⟩) hHeld ?_ ?_
    rotate_left
    · rintro w' ⟨s0, s1, s2, s3, s4, s5, s6, s7⟩
      go_simp
      with_reducible rfl
    rotate_left
    · simp only [Act.put, List.setIfInBounds_toArray, List.set_cons_zero, List.set_cons_succ, i64_w, i32_w]
      rfl
    refine one_ (i := 4) (N := some 56) #[true, true, true, true, true, false, false, false, false] rfl rfl (by kernel_rfl) (by decide) (fun K hK => ?_)
    refine goes_ Tryd.func33 (by kernel_rfl) rfl #[.slice A seen.length c, .string cl] (by rfl) rfl rfl (by simp only [List.map_toArray, List.map_cons, List.map_nil]; rfl) ?_
    with_reducible refine (CM.out).mono ?_
    rintro e w3 ⟨rfl, rfl⟩
    refine ⟨_, rfl, ?_⟩
    refine hK.out _ _ ⟨hHeld.1, hHeld.2.1, hHeld.2.2.1, hHeld.2.2.2.1, hHeld.2.2.2.2.1, hHeld.2.2.2.2.2.1, hHeld.2.2.2.2.2.2.1, hHeld.2.2.2.2.2.2.2⟩ (fun hHeld => ?_)
    clear hK K
    refine norm_ (a' := ?_) ?_ ?_
    rotate_left
    · show Act.put _ (some 56) _ = _
      simp only [Act.put, List.setIfInBounds_toArray, List.set_cons_zero, List.set_cons_succ, i64_w, i32_w]
      rfl
    refine pure_ (i := 5) (N := some 57) (v := ?_) (a' := ?_) #[true, true, true, true, true, true, false, false, false] rfl rfl (by kernel_rfl) (fun _ _ _ h => h) (Or.inl ⟨by rfl, ?_⟩) ?_ ?_
    rotate_left
    · intro w'
      go_simp
      with_reducible rfl
    rotate_left
    · simp only [Act.put, List.setIfInBounds_toArray, List.set_cons_zero, List.set_cons_succ, i64_w, i32_w]
      rfl
    refine last_ (i := 6) (N := none) #[true, true, true, true, true, true, true, false, false] rfl rfl (by kernel_rfl) (by decide) (fun K hK => ?_)
    refine skip_ (w1 := ?_) (by rfl) rfl ?_ ?_
    rotate_left
    · go_simp
      rfl
    refine hK.out _ _ ?_
    clear hK K
    refine pure_ (i := 7) (N := some 7) (v := ?_) (a' := ?_) #[true, true, true, true, true, true, true, true, false] rfl rfl (by kernel_rfl) (fun _ _ _ h => h) (Or.inl ⟨by rfl, ?_⟩) ?_ ?_
    rotate_left
    · intro w'
      go_simp
      with_reducible rfl
    rotate_left
    · simp only [Act.put, List.setIfInBounds_toArray, List.set_cons_zero, List.set_cons_succ, i64_w, i32_w]
      rfl
    refine pure_ (i := 8) (N := some 8) (v := ?_) (a' := ?_) #[true, true, true, true, true, true, true, true, true] rfl rfl (by kernel_rfl) (fun _ _ _ h => h) (Or.inl ⟨by rfl, ?_⟩) ?_ ?_
    rotate_left
    · intro w'
      go_simp
      with_reducible rfl
    rotate_left
    · simp only [Act.put, List.setIfInBounds_toArray, List.set_cons_zero, List.set_cons_succ, i64_w, i32_w]
      rfl
    refine done_ (by kernel_rfl) ?_
    go_wp2
    refine bodyPost_ret (v := .tuple #[.agg (specC v2), .string cl, .bool (!ib)]) ?_ rfl ?_
    · rw [results_cell2 rfl]
      go_simp
      rfl
    · refine ⟨?_, v2, cl, !ib, rfl, fun hh => ⟨M.out, IB.out.trans (by simpa using hh)⟩⟩
      refine Below.drew ?_
      exact HW.out.sets _ _ _ _ _ _ _ _
  by_cases h1 : o.toList = [114, 119]
  · have M := Aside0.mk (show modeV v o = some ({ v with ro := false }, ⟨#[114, 111]⟩) by simp [modeV, ← toList_lb, h1])
    have t0 : (o.toList == [114, 111]) = false := by rw [h1]; rfl
    have t1 : (o.toList == [114, 119]) = true := by rw [h1]; rfl
    clear h1
    go_enter Tryd.func23, Tryd.ntmps23
    go_wp2_with fail
    refine (show ∀ W : World, Two w W { v with ro := false } → Code.wp _ _ _ _ W from ?_) _ (Two.mk0 w { v with ro := false })
    intro W hW
    generalize ({ v with ro := false } : SpecV) = v2 at hW M
    generalize (⟨#[114, 111]⟩ : ByteArray) = cl at M ⊢
    have hlt := cb_lt hW.b
    have CM := Aside0.mk (mapsIn (c := c) cl W.drew (Kd.C_below H.out hW.below.drew) hn)
    generalize hib : inB seen cl = ib at CM
    have IB := Aside0.mk hib
    clear hib
    have c0 : W.cell? ⟨w.heap.size, 0, none⟩ = some (.string v2.typ) := cb_cell (i := 0) hW.a rfl
    have r0 : W.cell? ⟨w.heap.size + 1, 0, none⟩ = some (.string ⟨#[]⟩) := cb_cell (i := 0) hW.b rfl
    have f0 := cb_frozen (i := 0) hW.b
    have c1 : W.cell? ⟨w.heap.size, 1, none⟩ = some (.string v2.src) := cb_cell (i := 1) hW.a rfl
    have r1 : W.cell? ⟨w.heap.size + 1, 1, none⟩ = some (.string ⟨#[]⟩) := cb_cell (i := 1) hW.b rfl
    have f1 := cb_frozen (i := 1) hW.b
    have c2 : W.cell? ⟨w.heap.size, 2, none⟩ = some (.string v2.tgt) := cb_cell (i := 2) hW.a rfl
    have r2 : W.cell? ⟨w.heap.size + 1, 2, none⟩ = some (.string ⟨#[]⟩) := cb_cell (i := 2) hW.b rfl
    have f2 := cb_frozen (i := 2) hW.b
    have c3 : W.cell? ⟨w.heap.size, 3, none⟩ = some (.string v2.pr) := cb_cell (i := 3) hW.a rfl
    have r3 : W.cell? ⟨w.heap.size + 1, 3, none⟩ = some (.string ⟨#[]⟩) := cb_cell (i := 3) hW.b rfl
    have f3 := cb_frozen (i := 3) hW.b
    have c4 : W.cell? ⟨w.heap.size, 4, none⟩ = some (.string v2.se) := cb_cell (i := 4) hW.a rfl
    have r4 : W.cell? ⟨w.heap.size + 1, 4, none⟩ = some (.string ⟨#[]⟩) := cb_cell (i := 4) hW.b rfl
    have f4 := cb_frozen (i := 4) hW.b
    have c5 : W.cell? ⟨w.heap.size, 5, none⟩ = some (.bool v2.ro) := cb_cell (i := 5) hW.a rfl
    have r5 : W.cell? ⟨w.heap.size + 1, 5, none⟩ = some (.bool false) := cb_cell (i := 5) hW.b rfl
    have f5 := cb_frozen (i := 5) hW.b
    have c6 : W.cell? ⟨w.heap.size, 6, none⟩ = some (.bool v2.ch) := cb_cell (i := 6) hW.a rfl
    have r6 : W.cell? ⟨w.heap.size + 1, 6, none⟩ = some (.bool false) := cb_cell (i := 6) hW.b rfl
    have f6 := cb_frozen (i := 6) hW.b
    have c7 : W.cell? ⟨w.heap.size, 7, none⟩ = some (.bool v2.nc) := cb_cell (i := 7) hW.a rfl
    have r7 : W.cell? ⟨w.heap.size + 1, 7, none⟩ = some (.bool false) := cb_cell (i := 7) hW.b rfl
    have f7 := cb_frozen (i := 7) hW.b
    have HW := Aside0.mk hW
    clear hW
    refine start_ (n := 9) (S := fun w' => w'.cell? ⟨w.heap.size, 0, none⟩ = some (.string v2.typ) ∧ w'.cell? ⟨w.heap.size, 1, none⟩ = some (.string v2.src) ∧ w'.cell? ⟨w.heap.size, 2, none⟩ = some (.string v2.tgt) ∧ w'.cell? ⟨w.heap.size, 3, none⟩ = some (.string v2.pr) ∧ w'.cell? ⟨w.heap.size, 4, none⟩ = some (.string v2.se) ∧ w'.cell? ⟨w.heap.size, 5, none⟩ = some (.bool v2.ro) ∧ w'.cell? ⟨w.heap.size, 6, none⟩ = some (.bool v2.ch) ∧ w'.cell? ⟨w.heap.size, 7, none⟩ = some (.bool v2.nc)) (ds := [6]) #[false, false, false, false, false, false, false, false, false] (by kernel_rfl) rfl rfl ⟨c0, c1, c2, c3, c4, c5, c6, c7⟩ (fun hHeld => ?_)
    refine pure_ (i := 1) (N := some 53) (v := ?_) (a' := ?_) #[false, true, false, false, false, false, false, false, false] rfl rfl (by kernel_rfl) (fun _ _ _ h => h) (Or.inl ⟨by rfl, ?_⟩) ?_ ?_
    rotate_left
    · intro w'
      go_simp
      with_reducible rfl
    rotate_left
    · simp only [Act.put, List.setIfInBounds_toArray, List.set_cons_zero, List.set_cons_succ, i64_w, i32_w]
      rfl
    refine pure_ (i := 2) (N := some 54) (v := ?_) (a' := ?_) #[false, true, true, false, false, false, false, false, false] rfl rfl (by kernel_rfl) (fun _ _ _ h => h) (Or.inl ⟨by rfl, ?_⟩) ?_ ?_
    rotate_left
    · intro w'
      go_simp
      with_reducible rfl
    rotate_left
    · simp only [Act.put, List.setIfInBounds_toArray, List.set_cons_zero, List.set_cons_succ, i64_w, i32_w]
      rfl
    refine pure_ (i := 3) (N := some 55) (v := ?_) (a' := ?_) #[false, true, true, true, false, false, false, false, false] rfl rfl (by kernel_rfl) (fun _ _ _ h => h) (Or.inl ⟨by rfl, ?_⟩) ?_ ?_
    rotate_left
    · intro w'
      go_simp
      with_reducible rfl
    rotate_left
    · simp only [Act.put, List.setIfInBounds_toArray, List.set_cons_zero, List.set_cons_succ, i64_w, i32_w]
      rfl
    refine take_ (i := 0) (N := some 52) (v := ?_) (a' := ?_) #[true, true, true, true, false, false, false, false, false] rfl rfl (by kernel_rfl) (fun _ _ _ h => h) (Or.inl ⟨by rfl, ?_⟩) hHeld ?_ ?_
    rotate_left
    · rintro w' ⟨s0, s1, s2, s3, s4, s5, s6, s7⟩
      go_simp
      with_reducible rfl
    rotate_left
    · simp only [Act.put, List.setIfInBounds_toArray, List.set_cons_zero, List.set_cons_succ, i64_w, i32_w]
      rfl
    refine one_ (i := 4) (N := some 56) #[true, true, true, true, true, false, false, false, false] rfl rfl (by kernel_rfl) (by decide) (fun K hK => ?_)
    refine goes_ Tryd.func33 (by kernel_rfl) rfl #[.slice A seen.length c, .string cl] (by rfl) rfl rfl (by simp only [List.map_toArray, List.map_cons, List.map_nil]; rfl) ?_
    with_reducible refine (CM.out).mono ?_
    rintro e w3 ⟨rfl, rfl⟩
    refine ⟨_, rfl, ?_⟩
    refine hK.out _ _ ⟨hHeld.1, hHeld.2.1, hHeld.2.2.1, hHeld.2.2.2.1, hHeld.2.2.2.2.1, hHeld.2.2.2.2.2.1, hHeld.2.2.2.2.2.2.1, hHeld.2.2.2.2.2.2.2⟩ (fun hHeld => ?_)
    clear hK K
    refine norm_ (a' := ?_) ?_ ?_
    rotate_left
    · show Act.put _ (some 56) _ = _
      simp only [Act.put, List.setIfInBounds_toArray, List.set_cons_zero, List.set_cons_succ, i64_w, i32_w]
      rfl
    refine pure_ (i := 5) (N := some 57) (v := ?_) (a' := ?_) #[true, true, true, true, true, true, false, false, false] rfl rfl (by kernel_rfl) (fun _ _ _ h => h) (Or.inl ⟨by rfl, ?_⟩) ?_ ?_
    rotate_left
    · intro w'
      go_simp
      with_reducible rfl
    rotate_left
    · simp only [Act.put, List.setIfInBounds_toArray, List.set_cons_zero, List.set_cons_succ, i64_w, i32_w]
      rfl
    refine last_ (i := 6) (N := none) #[true, true, true, true, true, true, true, false, false] rfl rfl (by kernel_rfl) (by decide) (fun K hK => ?_)
    refine skip_ (w1 := ?_) (by rfl) rfl ?_ ?_
    rotate_left
    · go_simp
      rfl
    refine hK.out _ _ ?_
    clear hK K
    refine pure_ (i := 7) (N := some 7) (v := ?_) (a' := ?_) #[true, true, true, true, true, true, true, true, false] rfl rfl (by kernel_rfl) (fun _ _ _ h => h) (Or.inl ⟨by rfl, ?_⟩) ?_ ?_
    rotate_left
    · intro w'
      go_simp
      with_reducible rfl
    rotate_left
    · simp only [Act.put, List.setIfInBounds_toArray, List.set_cons_zero, List.set_cons_succ, i64_w, i32_w]
      rfl
    refine pure_ (i := 8) (N := some 8) (v := ?_) (a' := ?_) #[true, true, true, true, true, true, true, true, true] rfl rfl (by kernel_rfl) (fun _ _ _ h => h) (Or.inl ⟨by rfl, ?_⟩) ?_ ?_
    rotate_left
    · intro w'
      go_simp
      with_reducible rfl
    rotate_left
    · simp only [Act.put, List.setIfInBounds_toArray, List.set_cons_zero, List.set_cons_succ, i64_w, i32_w]
      rfl
    refine done_ (by kernel_rfl) ?_
    go_wp2
    refine bodyPost_ret (v := .tuple #[.agg (specC v2), .string cl, .bool (!ib)]) ?_ rfl ?_
    · rw [results_cell2 rfl]
      go_simp
      rfl
    · refine ⟨?_, v2, cl, !ib, rfl, fun hh => ⟨M.out, IB.out.trans (by simpa using hh)⟩⟩
      refine Below.drew ?_
      exact HW.out.sets _ _ _ _ _ _ _ _
  by_cases h2 : o.toList = [110, 111, 99, 111, 112, 121]
  · have t0 : (o.toList == [114, 111]) = false := by rw [h2]; rfl
    have t1 : (o.toList == [114, 119]) = false := by rw [h2]; rfl
    have t2 : (o.toList == [110, 111, 99, 111, 112, 121]) = true := by rw [h2]; rfl
    by_cases ht : lb v.typ = [118, 111, 108, 117, 109, 101]
    · have M := Aside0.mk (show modeV v o = some ({ v with nc := true }, o) by simp [modeV, isZ, isBind, ← toList_lb, h2, show v.typ.toList = [118, 111, 108, 117, 109, 101] from (toList_lb _).trans ht])
      have ty2 : (v.typ.toList == [118, 111, 108, 117, 109, 101]) = true := by rw [toList_lb, ht]; rfl
      have ty : (v.typ.toList != [118, 111, 108, 117, 109, 101]) = false := by rw [toList_lb, ht]; rfl
      clear h2 ht
      go_enter Tryd.func23, Tryd.ntmps23
      go_wp2_with fail
      refine (show ∀ W : World, Two w W { v with nc := true } → Code.wp _ _ _ _ W from ?_) _ (Two.mk0 w { v with nc := true })
      intro W hW
      generalize ({ v with nc := true } : SpecV) = v2 at hW M
      have hlt := cb_lt hW.b
      have CM := Aside0.mk (mapsIn (c := c) o W.drew (Kd.C_below H.out hW.below.drew) hn)
      generalize hib : inB seen o = ib at CM
      have IB := Aside0.mk hib
      clear hib
      have c0 : W.cell? ⟨w.heap.size, 0, none⟩ = some (.string v2.typ) := cb_cell (i := 0) hW.a rfl
      have r0 : W.cell? ⟨w.heap.size + 1, 0, none⟩ = some (.string ⟨#[]⟩) := cb_cell (i := 0) hW.b rfl
      have f0 := cb_frozen (i := 0) hW.b
      have c1 : W.cell? ⟨w.heap.size, 1, none⟩ = some (.string v2.src) := cb_cell (i := 1) hW.a rfl
      have r1 : W.cell? ⟨w.heap.size + 1, 1, none⟩ = some (.string ⟨#[]⟩) := cb_cell (i := 1) hW.b rfl
      have f1 := cb_frozen (i := 1) hW.b
      have c2 : W.cell? ⟨w.heap.size, 2, none⟩ = some (.string v2.tgt) := cb_cell (i := 2) hW.a rfl
      have r2 : W.cell? ⟨w.heap.size + 1, 2, none⟩ = some (.string ⟨#[]⟩) := cb_cell (i := 2) hW.b rfl
      have f2 := cb_frozen (i := 2) hW.b
      have c3 : W.cell? ⟨w.heap.size, 3, none⟩ = some (.string v2.pr) := cb_cell (i := 3) hW.a rfl
      have r3 : W.cell? ⟨w.heap.size + 1, 3, none⟩ = some (.string ⟨#[]⟩) := cb_cell (i := 3) hW.b rfl
      have f3 := cb_frozen (i := 3) hW.b
      have c4 : W.cell? ⟨w.heap.size, 4, none⟩ = some (.string v2.se) := cb_cell (i := 4) hW.a rfl
      have r4 : W.cell? ⟨w.heap.size + 1, 4, none⟩ = some (.string ⟨#[]⟩) := cb_cell (i := 4) hW.b rfl
      have f4 := cb_frozen (i := 4) hW.b
      have c5 : W.cell? ⟨w.heap.size, 5, none⟩ = some (.bool v2.ro) := cb_cell (i := 5) hW.a rfl
      have r5 : W.cell? ⟨w.heap.size + 1, 5, none⟩ = some (.bool false) := cb_cell (i := 5) hW.b rfl
      have f5 := cb_frozen (i := 5) hW.b
      have c6 : W.cell? ⟨w.heap.size, 6, none⟩ = some (.bool v2.ch) := cb_cell (i := 6) hW.a rfl
      have r6 : W.cell? ⟨w.heap.size + 1, 6, none⟩ = some (.bool false) := cb_cell (i := 6) hW.b rfl
      have f6 := cb_frozen (i := 6) hW.b
      have c7 : W.cell? ⟨w.heap.size, 7, none⟩ = some (.bool v2.nc) := cb_cell (i := 7) hW.a rfl
      have r7 : W.cell? ⟨w.heap.size + 1, 7, none⟩ = some (.bool false) := cb_cell (i := 7) hW.b rfl
      have f7 := cb_frozen (i := 7) hW.b
      have HW := Aside0.mk hW
      clear hW
      refine start_ (n := 9) (S := fun w' => w'.cell? ⟨w.heap.size, 0, none⟩ = some (.string v2.typ) ∧ w'.cell? ⟨w.heap.size, 1, none⟩ = some (.string v2.src) ∧ w'.cell? ⟨w.heap.size, 2, none⟩ = some (.string v2.tgt) ∧ w'.cell? ⟨w.heap.size, 3, none⟩ = some (.string v2.pr) ∧ w'.cell? ⟨w.heap.size, 4, none⟩ = some (.string v2.se) ∧ w'.cell? ⟨w.heap.size, 5, none⟩ = some (.bool v2.ro) ∧ w'.cell? ⟨w.heap.size, 6, none⟩ = some (.bool v2.ch) ∧ w'.cell? ⟨w.heap.size, 7, none⟩ = some (.bool v2.nc)) (ds := [6]) #[false, false, false, false, false, false, false, false, false] (by kernel_rfl) rfl rfl ⟨c0, c1, c2, c3, c4, c5, c6, c7⟩ (fun hHeld => ?_)
      refine pure_ (i := 1) (N := some 53) (v := ?_) (a' := ?_) #[false, true, false, false, false, false, false, false, false] rfl rfl (by kernel_rfl) (fun _ _ _ h => h) (Or.inl ⟨by rfl, ?_⟩) ?_ ?_
      rotate_left
      · intro w'
        go_simp
        with_reducible rfl
      rotate_left
      · simp only [Act.put, List.setIfInBounds_toArray, List.set_cons_zero, List.set_cons_succ, i64_w, i32_w]
        rfl
      refine pure_ (i := 2) (N := some 54) (v := ?_) (a' := ?_) #[false, true, true, false, false, false, false, false, false] rfl rfl (by kernel_rfl) (fun _ _ _ h => h) (Or.inl ⟨by rfl, ?_⟩) ?_ ?_
      rotate_left
      · intro w'
        go_simp
        with_reducible rfl
      rotate_left
      · simp only [Act.put, List.setIfInBounds_toArray, List.set_cons_zero, List.set_cons_succ, i64_w, i32_w]
        rfl
      refine pure_ (i := 3) (N := some 55) (v := ?_) (a' := ?_) #[false, true, true, true, false, false, false, false, false] rfl rfl (by kernel_rfl) (fun _ _ _ h => h) (Or.inl ⟨by rfl, ?_⟩) ?_ ?_
      rotate_left
      · intro w'
        go_simp
        with_reducible rfl
      rotate_left
      · simp only [Act.put, List.setIfInBounds_toArray, List.set_cons_zero, List.set_cons_succ, i64_w, i32_w]
        rfl
      refine take_ (i := 0) (N := some 52) (v := ?_) (a' := ?_) #[true, true, true, true, false, false, false, false, false] rfl rfl (by kernel_rfl) (fun _ _ _ h => h) (Or.inl ⟨by rfl, ?_⟩) hHeld ?_ ?_
      rotate_left
      · rintro w' ⟨s0, s1, s2, s3, s4, s5, s6, s7⟩
        go_simp
        with_reducible rfl
      rotate_left
      · simp only [Act.put, List.setIfInBounds_toArray, List.set_cons_zero, List.set_cons_succ, i64_w, i32_w]
        rfl
      refine one_ (i := 4) (N := some 56) #[true, true, true, true, true, false, false, false, false] rfl rfl (by kernel_rfl) (by decide) (fun K hK => ?_)
      refine goes_ Tryd.func33 (by kernel_rfl) rfl #[.slice A seen.length c, .string o] (by rfl) rfl rfl (by simp only [List.map_toArray, List.map_cons, List.map_nil]; rfl) ?_
      with_reducible refine (CM.out).mono ?_
      rintro e w3 ⟨rfl, rfl⟩
      refine ⟨_, rfl, ?_⟩
      refine hK.out _ _ ⟨hHeld.1, hHeld.2.1, hHeld.2.2.1, hHeld.2.2.2.1, hHeld.2.2.2.2.1, hHeld.2.2.2.2.2.1, hHeld.2.2.2.2.2.2.1, hHeld.2.2.2.2.2.2.2⟩ (fun hHeld => ?_)
      clear hK K
      refine norm_ (a' := ?_) ?_ ?_
      rotate_left
      · show Act.put _ (some 56) _ = _
        simp only [Act.put, List.setIfInBounds_toArray, List.set_cons_zero, List.set_cons_succ, i64_w, i32_w]
        rfl
      refine pure_ (i := 5) (N := some 57) (v := ?_) (a' := ?_) #[true, true, true, true, true, true, false, false, false] rfl rfl (by kernel_rfl) (fun _ _ _ h => h) (Or.inl ⟨by rfl, ?_⟩) ?_ ?_
      rotate_left
      · intro w'
        go_simp
        with_reducible rfl
      rotate_left
      · simp only [Act.put, List.setIfInBounds_toArray, List.set_cons_zero, List.set_cons_succ, i64_w, i32_w]
        rfl
      refine last_ (i := 6) (N := none) #[true, true, true, true, true, true, true, false, false] rfl rfl (by kernel_rfl) (by decide) (fun K hK => ?_)
      refine skip_ (w1 := ?_) (by rfl) rfl ?_ ?_
      rotate_left
      · go_simp
        rfl
      refine hK.out _ _ ?_
      clear hK K
      refine pure_ (i := 7) (N := some 7) (v := ?_) (a' := ?_) #[true, true, true, true, true, true, true, true, false] rfl rfl (by kernel_rfl) (fun _ _ _ h => h) (Or.inl ⟨by rfl, ?_⟩) ?_ ?_
      rotate_left
      · intro w'
        go_simp
        with_reducible rfl
      rotate_left
      · simp only [Act.put, List.setIfInBounds_toArray, List.set_cons_zero, List.set_cons_succ, i64_w, i32_w]
        rfl
      refine pure_ (i := 8) (N := some 8) (v := ?_) (a' := ?_) #[true, true, true, true, true, true, true, true, true] rfl rfl (by kernel_rfl) (fun _ _ _ h => h) (Or.inl ⟨by rfl, ?_⟩) ?_ ?_
      rotate_left
      · intro w'
        go_simp
        with_reducible rfl
      rotate_left
      · simp only [Act.put, List.setIfInBounds_toArray, List.set_cons_zero, List.set_cons_succ, i64_w, i32_w]
        rfl
      refine done_ (by kernel_rfl) ?_
      go_wp2
      refine bodyPost_ret (v := .tuple #[.agg (specC v2), .string o, .bool (!ib)]) ?_ rfl ?_
      · rw [results_cell2 rfl]
        go_simp
        rfl
      · refine ⟨?_, v2, o, !ib, rfl, fun hh => ⟨M.out, IB.out.trans (by simpa using hh)⟩⟩
        refine Below.drew ?_
        exact HW.out.sets _ _ _ _ _ _ _ _
    · have ty2 : (v.typ.toList == [118, 111, 108, 117, 109, 101]) = false := by rw [toList_lb]; simpa using ht
      have ty : (v.typ.toList != [118, 111, 108, 117, 109, 101]) = true := by rw [toList_lb]; simpa using ht
      clear h2 ht
      go_enter Tryd.func23, Tryd.ntmps23
      go_wp2
      refine bodyPost_ret (v := .tuple #[.agg (specC { v with nc := true }), .string o, .bool false]) ?_ rfl ⟨?_, { v with nc := true }, o, false, rfl, fun h => by cases h⟩
      · rw [results_cell2 rfl]
        go_simp
        rfl
      · exact ((Below.refl _ w).alloc (Nat.le_refl _) _).alloc (by simp) _
  by_cases h3 : o.toList = [122]
  · have t0 : (o.toList == [114, 111]) = false := by rw [h3]; rfl
    have t1 : (o.toList == [114, 119]) = false := by rw [h3]; rfl
    have t2 : (o.toList == [110, 111, 99, 111, 112, 121]) = false := by rw [h3]; rfl
    have t3 : (o.toList == [122]) = true := by rw [h3]; rfl
    by_cases ht : lb v.typ = [98, 105, 110, 100]
    · have M := Aside0.mk (show modeV v o = some ({ v with se := o }, ⟨#[122]⟩) by simp [modeV, isZ, isBind, ← toList_lb, h3, show v.typ.toList = [98, 105, 110, 100] from (toList_lb _).trans ht])
      have ty2 : (v.typ.toList == [98, 105, 110, 100]) = true := by rw [toList_lb, ht]; rfl
      have ty : (v.typ.toList != [98, 105, 110, 100]) = false := by rw [toList_lb, ht]; rfl
      clear h3 ht
      go_enter Tryd.func23, Tryd.ntmps23
      go_wp2_with fail
      refine (show ∀ W : World, Two w W { v with se := o } → Code.wp _ _ _ _ W from ?_) _ (Two.mk0 w { v with se := o })
      intro W hW
      generalize ({ v with se := o } : SpecV) = v2 at hW M
      generalize (⟨#[122]⟩ : ByteArray) = cl at M ⊢
      have hlt := cb_lt hW.b
      have CM := Aside0.mk (mapsIn (c := c) cl W.drew (Kd.C_below H.out hW.below.drew) hn)
      generalize hib : inB seen cl = ib at CM
      have IB := Aside0.mk hib
      clear hib
      have c0 : W.cell? ⟨w.heap.size, 0, none⟩ = some (.string v2.typ) := cb_cell (i := 0) hW.a rfl
      have r0 : W.cell? ⟨w.heap.size + 1, 0, none⟩ = some (.string ⟨#[]⟩) := cb_cell (i := 0) hW.b rfl
      have f0 := cb_frozen (i := 0) hW.b
      have c1 : W.cell? ⟨w.heap.size, 1, none⟩ = some (.string v2.src) := cb_cell (i := 1) hW.a rfl
      have r1 : W.cell? ⟨w.heap.size + 1, 1, none⟩ = some (.string ⟨#[]⟩) := cb_cell (i := 1) hW.b rfl
      have f1 := cb_frozen (i := 1) hW.b
      have c2 : W.cell? ⟨w.heap.size, 2, none⟩ = some (.string v2.tgt) := cb_cell (i := 2) hW.a rfl
      have r2 : W.cell? ⟨w.heap.size + 1, 2, none⟩ = some (.string ⟨#[]⟩) := cb_cell (i := 2) hW.b rfl
      have f2 := cb_frozen (i := 2) hW.b
      have c3 : W.cell? ⟨w.heap.size, 3, none⟩ = some (.string v2.pr) := cb_cell (i := 3) hW.a rfl
      have r3 : W.cell? ⟨w.heap.size + 1, 3, none⟩ = some (.string ⟨#[]⟩) := cb_cell (i := 3) hW.b rfl
      have f3 := cb_frozen (i := 3) hW.b
      have c4 : W.cell? ⟨w.heap.size, 4, none⟩ = some (.string v2.se) := cb_cell (i := 4) hW.a rfl
      have r4 : W.cell? ⟨w.heap.size + 1, 4, none⟩ = some (.string ⟨#[]⟩) := cb_cell (i := 4) hW.b rfl
      have f4 := cb_frozen (i := 4) hW.b
      have c5 : W.cell? ⟨w.heap.size, 5, none⟩ = some (.bool v2.ro) := cb_cell (i := 5) hW.a rfl
      have r5 : W.cell? ⟨w.heap.size + 1, 5, none⟩ = some (.bool false) := cb_cell (i := 5) hW.b rfl
      have f5 := cb_frozen (i := 5) hW.b
      have c6 : W.cell? ⟨w.heap.size, 6, none⟩ = some (.bool v2.ch) := cb_cell (i := 6) hW.a rfl
      have r6 : W.cell? ⟨w.heap.size + 1, 6, none⟩ = some (.bool false) := cb_cell (i := 6) hW.b rfl
      have f6 := cb_frozen (i := 6) hW.b
      have c7 : W.cell? ⟨w.heap.size, 7, none⟩ = some (.bool v2.nc) := cb_cell (i := 7) hW.a rfl
      have r7 : W.cell? ⟨w.heap.size + 1, 7, none⟩ = some (.bool false) := cb_cell (i := 7) hW.b rfl
      have f7 := cb_frozen (i := 7) hW.b
      have HW := Aside0.mk hW
      clear hW
      refine start_ (n := 9) (S := fun w' => w'.cell? ⟨w.heap.size, 0, none⟩ = some (.string v2.typ) ∧ w'.cell? ⟨w.heap.size, 1, none⟩ = some (.string v2.src) ∧ w'.cell? ⟨w.heap.size, 2, none⟩ = some (.string v2.tgt) ∧ w'.cell? ⟨w.heap.size, 3, none⟩ = some (.string v2.pr) ∧ w'.cell? ⟨w.heap.size, 4, none⟩ = some (.string v2.se) ∧ w'.cell? ⟨w.heap.size, 5, none⟩ = some (.bool v2.ro) ∧ w'.cell? ⟨w.heap.size, 6, none⟩ = some (.bool v2.ch) ∧ w'.cell? ⟨w.heap.size, 7, none⟩ = some (.bool v2.nc)) (ds := [6]) #[false, false, false, false, false, false, false, false, false] (by kernel_rfl) rfl rfl ⟨c0, c1, c2, c3, c4, c5, c6, c7⟩ (fun hHeld => ?_)
      refine pure_ (i := 1) (N := some 53) (v := ?_) (a' := ?_) #[false, true, false, false, false, false, false, false, false] rfl rfl (by kernel_rfl) (fun _ _ _ h => h) (Or.inl ⟨by rfl, ?_⟩) ?_ ?_
      rotate_left
      · intro w'
        go_simp
        with_reducible rfl
      rotate_left
      · simp only [Act.put, List.setIfInBounds_toArray, List.set_cons_zero, List.set_cons_succ, i64_w, i32_w]
        rfl
      refine pure_ (i := 2) (N := some 54) (v := ?_) (a' := ?_) #[false, true, true, false, false, false, false, false, false] rfl rfl (by kernel_rfl) (fun _ _ _ h => h) (Or.inl ⟨by rfl, ?_⟩) ?_ ?_
      rotate_left
      · intro w'
        go_simp
        with_reducible rfl
      rotate_left
      · simp only [Act.put, List.setIfInBounds_toArray, List.set_cons_zero, List.set_cons_succ, i64_w, i32_w]
        rfl
      refine pure_ (i := 3) (N := some 55) (v := ?_) (a' := ?_) #[false, true, true, true, false, false, false, false, false] rfl rfl (by kernel_rfl) (fun _ _ _ h => h) (Or.inl ⟨by rfl, ?_⟩) ?_ ?_
      rotate_left
      · intro w'
        go_simp
        with_reducible rfl
      rotate_left
      · simp only [Act.put, List.setIfInBounds_toArray, List.set_cons_zero, List.set_cons_succ, i64_w, i32_w]
        rfl
      refine take_ (i := 0) (N := some 52) (v := ?_) (a' := ?_) #[true, true, true, true, false, false, false, false, false] rfl rfl (by kernel_rfl) (fun _ _ _ h => h) (Or.inl ⟨by rfl, ?_⟩) hHeld ?_ ?_
      rotate_left
      · rintro w' ⟨s0, s1, s2, s3, s4, s5, s6, s7⟩
        go_simp
        with_reducible rfl
      rotate_left
      · simp only [Act.put, List.setIfInBounds_toArray, List.set_cons_zero, List.set_cons_succ, i64_w, i32_w]
        rfl
      refine one_ (i := 4) (N := some 56) #[true, true, true, true, true, false, false, false, false] rfl rfl (by kernel_rfl) (by decide) (fun K hK => ?_)
      refine goes_ Tryd.func33 (by kernel_rfl) rfl #[.slice A seen.length c, .string cl] (by rfl) rfl rfl (by simp only [List.map_toArray, List.map_cons, List.map_nil]; rfl) ?_
      with_reducible refine (CM.out).mono ?_
      rintro e w3 ⟨rfl, rfl⟩
      refine ⟨_, rfl, ?_⟩
      refine hK.out _ _ ⟨hHeld.1, hHeld.2.1, hHeld.2.2.1, hHeld.2.2.2.1, hHeld.2.2.2.2.1, hHeld.2.2.2.2.2.1, hHeld.2.2.2.2.2.2.1, hHeld.2.2.2.2.2.2.2⟩ (fun hHeld => ?_)
      clear hK K
      refine norm_ (a' := ?_) ?_ ?_
      rotate_left
      · show Act.put _ (some 56) _ = _
        simp only [Act.put, List.setIfInBounds_toArray, List.set_cons_zero, List.set_cons_succ, i64_w, i32_w]
        rfl
      refine pure_ (i := 5) (N := some 57) (v := ?_) (a' := ?_) #[true, true, true, true, true, true, false, false, false] rfl rfl (by kernel_rfl) (fun _ _ _ h => h) (Or.inl ⟨by rfl, ?_⟩) ?_ ?_
      rotate_left
      · intro w'
        go_simp
        with_reducible rfl
      rotate_left
      · simp only [Act.put, List.setIfInBounds_toArray, List.set_cons_zero, List.set_cons_succ, i64_w, i32_w]
        rfl
      refine last_ (i := 6) (N := none) #[true, true, true, true, true, true, true, false, false] rfl rfl (by kernel_rfl) (by decide) (fun K hK => ?_)
      refine skip_ (w1 := ?_) (by rfl) rfl ?_ ?_
      rotate_left
      · go_simp
        rfl
      refine hK.out _ _ ?_
      clear hK K
      refine pure_ (i := 7) (N := some 7) (v := ?_) (a' := ?_) #[true, true, true, true, true, true, true, true, false] rfl rfl (by kernel_rfl) (fun _ _ _ h => h) (Or.inl ⟨by rfl, ?_⟩) ?_ ?_
      rotate_left
      · intro w'
        go_simp
        with_reducible rfl
      rotate_left
      · simp only [Act.put, List.setIfInBounds_toArray, List.set_cons_zero, List.set_cons_succ, i64_w, i32_w]
        rfl
      refine pure_ (i := 8) (N := some 8) (v := ?_) (a' := ?_) #[true, true, true, true, true, true, true, true, true] rfl rfl (by kernel_rfl) (fun _ _ _ h => h) (Or.inl ⟨by rfl, ?_⟩) ?_ ?_
      rotate_left
      · intro w'
        go_simp
        with_reducible rfl
      rotate_left
      · simp only [Act.put, List.setIfInBounds_toArray, List.set_cons_zero, List.set_cons_succ, i64_w, i32_w]
        rfl
      refine done_ (by kernel_rfl) ?_
      go_wp2
      refine bodyPost_ret (v := .tuple #[.agg (specC v2), .string cl, .bool (!ib)]) ?_ rfl ?_
      · rw [results_cell2 rfl]
        go_simp
        rfl
      · refine ⟨?_, v2, cl, !ib, rfl, fun hh => ⟨M.out, IB.out.trans (by simpa using hh)⟩⟩
        refine Below.drew ?_
        exact HW.out.sets _ _ _ _ _ _ _ _
    · have ty2 : (v.typ.toList == [98, 105, 110, 100]) = false := by rw [toList_lb]; simpa using ht
      have ty : (v.typ.toList != [98, 105, 110, 100]) = true := by rw [toList_lb]; simpa using ht
      clear h3 ht
      go_enter Tryd.func23, Tryd.ntmps23
      go_wp2
      refine bodyPost_ret (v := .tuple #[.agg (specC { v with se := o }), .string ⟨#[122]⟩, .bool false]) ?_ rfl ⟨?_, { v with se := o }, ⟨#[122]⟩, false, rfl, fun h => by cases h⟩
      · rw [results_cell2 rfl]
        go_simp
        rfl
      · exact ((Below.refl _ w).alloc (Nat.le_refl _) _).alloc (by simp) _
  by_cases h4 : o.toList = [90]
  · have t0 : (o.toList == [114, 111]) = false := by rw [h4]; rfl
    have t1 : (o.toList == [114, 119]) = false := by rw [h4]; rfl
    have t2 : (o.toList == [110, 111, 99, 111, 112, 121]) = false := by rw [h4]; rfl
    have t3 : (o.toList == [122]) = false := by rw [h4]; rfl
    have t4 : (o.toList == [90]) = true := by rw [h4]; rfl
    by_cases ht : lb v.typ = [98, 105, 110, 100]
    · have M := Aside0.mk (show modeV v o = some ({ v with se := o }, ⟨#[122]⟩) by simp [modeV, isZ, isBind, ← toList_lb, h4, show v.typ.toList = [98, 105, 110, 100] from (toList_lb _).trans ht])
      have ty2 : (v.typ.toList == [98, 105, 110, 100]) = true := by rw [toList_lb, ht]; rfl
      have ty : (v.typ.toList != [98, 105, 110, 100]) = false := by rw [toList_lb, ht]; rfl
      clear h4 ht
      go_enter Tryd.func23, Tryd.ntmps23
      go_wp2_with fail
      refine (show ∀ W : World, Two w W { v with se := o } → Code.wp _ _ _ _ W from ?_) _ (Two.mk0 w { v with se := o })
      intro W hW
      generalize ({ v with se := o } : SpecV) = v2 at hW M
      generalize (⟨#[122]⟩ : ByteArray) = cl at M ⊢
      have hlt := cb_lt hW.b
      have CM := Aside0.mk (mapsIn (c := c) cl W.drew (Kd.C_below H.out hW.below.drew) hn)
      generalize hib : inB seen cl = ib at CM
      have IB := Aside0.mk hib
      clear hib
      have c0 : W.cell? ⟨w.heap.size, 0, none⟩ = some (.string v2.typ) := cb_cell (i := 0) hW.a rfl
      have r0 : W.cell? ⟨w.heap.size + 1, 0, none⟩ = some (.string ⟨#[]⟩) := cb_cell (i := 0) hW.b rfl
      have f0 := cb_frozen (i := 0) hW.b
      have c1 : W.cell? ⟨w.heap.size, 1, none⟩ = some (.string v2.src) := cb_cell (i := 1) hW.a rfl
      have r1 : W.cell? ⟨w.heap.size + 1, 1, none⟩ = some (.string ⟨#[]⟩) := cb_cell (i := 1) hW.b rfl
      have f1 := cb_frozen (i := 1) hW.b
      have c2 : W.cell? ⟨w.heap.size, 2, none⟩ = some (.string v2.tgt) := cb_cell (i := 2) hW.a rfl
      have r2 : W.cell? ⟨w.heap.size + 1, 2, none⟩ = some (.string ⟨#[]⟩) := cb_cell (i := 2) hW.b rfl
      have f2 := cb_frozen (i := 2) hW.b
      have c3 : W.cell? ⟨w.heap.size, 3, none⟩ = some (.string v2.pr) := cb_cell (i := 3) hW.a rfl
      have r3 : W.cell? ⟨w.heap.size + 1, 3, none⟩ = some (.string ⟨#[]⟩) := cb_cell (i := 3) hW.b rfl
      have f3 := cb_frozen (i := 3) hW.b
      have c4 : W.cell? ⟨w.heap.size, 4, none⟩ = some (.string v2.se) := cb_cell (i := 4) hW.a rfl
      have r4 : W.cell? ⟨w.heap.size + 1, 4, none⟩ = some (.string ⟨#[]⟩) := cb_cell (i := 4) hW.b rfl
      have f4 := cb_frozen (i := 4) hW.b
      have c5 : W.cell? ⟨w.heap.size, 5, none⟩ = some (.bool v2.ro) := cb_cell (i := 5) hW.a rfl
      have r5 : W.cell? ⟨w.heap.size + 1, 5, none⟩ = some (.bool false) := cb_cell (i := 5) hW.b rfl
      have f5 := cb_frozen (i := 5) hW.b
      have c6 : W.cell? ⟨w.heap.size, 6, none⟩ = some (.bool v2.ch) := cb_cell (i := 6) hW.a rfl
      have r6 : W.cell? ⟨w.heap.size + 1, 6, none⟩ = some (.bool false) := cb_cell (i := 6) hW.b rfl
      have f6 := cb_frozen (i := 6) hW.b
      have c7 : W.cell? ⟨w.heap.size, 7, none⟩ = some (.bool v2.nc) := cb_cell (i := 7) hW.a rfl
      have r7 : W.cell? ⟨w.heap.size + 1, 7, none⟩ = some (.bool false) := cb_cell (i := 7) hW.b rfl
      have f7 := cb_frozen (i := 7) hW.b
      have HW := Aside0.mk hW
      clear hW
      refine start_ (n := 9) (S := fun w' => w'.cell? ⟨w.heap.size, 0, none⟩ = some (.string v2.typ) ∧ w'.cell? ⟨w.heap.size, 1, none⟩ = some (.string v2.src) ∧ w'.cell? ⟨w.heap.size, 2, none⟩ = some (.string v2.tgt) ∧ w'.cell? ⟨w.heap.size, 3, none⟩ = some (.string v2.pr) ∧ w'.cell? ⟨w.heap.size, 4, none⟩ = some (.string v2.se) ∧ w'.cell? ⟨w.heap.size, 5, none⟩ = some (.bool v2.ro) ∧ w'.cell? ⟨w.heap.size, 6, none⟩ = some (.bool v2.ch) ∧ w'.cell? ⟨w.heap.size, 7, none⟩ = some (.bool v2.nc)) (ds := [6]) #[false, false, false, false, false, false, false, false, false] (by kernel_rfl) rfl rfl ⟨c0, c1, c2, c3, c4, c5, c6, c7⟩ (fun hHeld => ?_)
      refine pure_ (i := 1) (N := some 53) (v := ?_) (a' := ?_) #[false, true, false, false, false, false, false, false, false] rfl rfl (by kernel_rfl) (fun _ _ _ h => h) (Or.inl ⟨by rfl, ?_⟩) ?_ ?_
      rotate_left
      · intro w'
        go_simp
        with_reducible rfl
      rotate_left
      · simp only [Act.put, List.setIfInBounds_toArray, List.set_cons_zero, List.set_cons_succ, i64_w, i32_w]
        rfl
      refine pure_ (i := 2) (N := some 54) (v := ?_) (a' := ?_) #[false, true, true, false, false, false, false, false, false] rfl rfl (by kernel_rfl) (fun _ _ _ h => h) (Or.inl ⟨by rfl, ?_⟩) ?_ ?_
      rotate_left
      · intro w'
        go_simp
        with_reducible rfl
      rotate_left
      · simp only [Act.put, List.setIfInBounds_toArray, List.set_cons_zero, List.set_cons_succ, i64_w, i32_w]
        rfl
      refine pure_ (i := 3) (N := some 55) (v := ?_) (a' := ?_) #[false, true, true, true, false, false, false, false, false] rfl rfl (by kernel_rfl) (fun _ _ _ h => h) (Or.inl ⟨by rfl, ?_⟩) ?_ ?_
      rotate_left
      · intro w'
        go_simp
        with_reducible rfl
      rotate_left
      · simp only [Act.put, List.setIfInBounds_toArray, List.set_cons_zero, List.set_cons_succ, i64_w, i32_w]
        rfl
      refine take_ (i := 0) (N := some 52) (v := ?_) (a' := ?_) #[true, true, true, true, false, false, false, false, false] rfl rfl (by kernel_rfl) (fun _ _ _ h => h) (Or.inl ⟨by rfl, ?_⟩) hHeld ?_ ?_
      rotate_left
      · rintro w' ⟨s0, s1, s2, s3, s4, s5, s6, s7⟩
        go_simp
        with_reducible rfl
      rotate_left
      · simp only [Act.put, List.setIfInBounds_toArray, List.set_cons_zero, List.set_cons_succ, i64_w, i32_w]
        rfl
      refine one_ (i := 4) (N := some 56) #[true, true, true, true, true, false, false, false, false] rfl rfl (by kernel_rfl) (by decide) (fun K hK => ?_)
      refine goes_ Tryd.func33 (by kernel_rfl) rfl #[.slice A seen.length c, .string cl] (by rfl) rfl rfl (by simp only [List.map_toArray, List.map_cons, List.map_nil]; rfl) ?_
      with_reducible refine (CM.out).mono ?_
      rintro e w3 ⟨rfl, rfl⟩
      refine ⟨_, rfl, ?_⟩
      refine hK.out _ _ ⟨hHeld.1, hHeld.2.1, hHeld.2.2.1, hHeld.2.2.2.1, hHeld.2.2.2.2.1, hHeld.2.2.2.2.2.1, hHeld.2.2.2.2.2.2.1, hHeld.2.2.2.2.2.2.2⟩ (fun hHeld => ?_)
      clear hK K
      refine norm_ (a' := ?_) ?_ ?_
      rotate_left
      · show Act.put _ (some 56) _ = _
        simp only [Act.put, List.setIfInBounds_toArray, List.set_cons_zero, List.set_cons_succ, i64_w, i32_w]
        rfl
      refine pure_ (i := 5) (N := some 57) (v := ?_) (a' := ?_) #[true, true, true, true, true, true, false, false, false] rfl rfl (by kernel_rfl) (fun _ _ _ h => h) (Or.inl ⟨by rfl, ?_⟩) ?_ ?_
      rotate_left
      · intro w'
        go_simp
        with_reducible rfl
      rotate_left
      · simp only [Act.put, List.setIfInBounds_toArray, List.set_cons_zero, List.set_cons_succ, i64_w, i32_w]
        rfl
      refine last_ (i := 6) (N := none) #[true, true, true, true, true, true, true, false, false] rfl rfl (by kernel_rfl) (by decide) (fun K hK => ?_)
      refine skip_ (w1 := ?_) (by rfl) rfl ?_ ?_
      rotate_left
      · go_simp
        rfl
      refine hK.out _ _ ?_
      clear hK K
      refine pure_ (i := 7) (N := some 7) (v := ?_) (a' := ?_) #[true, true, true, true, true, true, true, true, false] rfl rfl (by kernel_rfl) (fun _ _ _ h => h) (Or.inl ⟨by rfl, ?_⟩) ?_ ?_
      rotate_left
      · intro w'
        go_simp
        with_reducible rfl
      rotate_left
      · simp only [Act.put, List.setIfInBounds_toArray, List.set_cons_zero, List.set_cons_succ, i64_w, i32_w]
        rfl
      refine pure_ (i := 8) (N := some 8) (v := ?_) (a' := ?_) #[true, true, true, true, true, true, true, true, true] rfl rfl (by kernel_rfl) (fun _ _ _ h => h) (Or.inl ⟨by rfl, ?_⟩) ?_ ?_
      rotate_left
      · intro w'
        go_simp
        with_reducible rfl
      rotate_left
      · simp only [Act.put, List.setIfInBounds_toArray, List.set_cons_zero, List.set_cons_succ, i64_w, i32_w]
        rfl
      refine done_ (by kernel_rfl) ?_
      go_wp2
      refine bodyPost_ret (v := .tuple #[.agg (specC v2), .string cl, .bool (!ib)]) ?_ rfl ?_
      · rw [results_cell2 rfl]
        go_simp
        rfl
      · refine ⟨?_, v2, cl, !ib, rfl, fun hh => ⟨M.out, IB.out.trans (by simpa using hh)⟩⟩
        refine Below.drew ?_
        exact HW.out.sets _ _ _ _ _ _ _ _
    · have ty2 : (v.typ.toList == [98, 105, 110, 100]) = false := by rw [toList_lb]; simpa using ht
      have ty : (v.typ.toList != [98, 105, 110, 100]) = true := by rw [toList_lb]; simpa using ht
      clear h4 ht
      go_enter Tryd.func23, Tryd.ntmps23
      go_wp2
      refine bodyPost_ret (v := .tuple #[.agg (specC { v with se := o }), .string ⟨#[122]⟩, .bool false]) ?_ rfl ⟨?_, { v with se := o }, ⟨#[122]⟩, false, rfl, fun h => by cases h⟩
      · rw [results_cell2 rfl]
        go_simp
        rfl
      · exact ((Below.refl _ w).alloc (Nat.le_refl _) _).alloc (by simp) _
  by_cases h5 : o.toList = [112, 114, 105, 118, 97, 116, 101]
  · have t0 : (o.toList == [114, 111]) = false := by rw [h5]; rfl
    have t1 : (o.toList == [114, 119]) = false := by rw [h5]; rfl
    have t2 : (o.toList == [110, 111, 99, 111, 112, 121]) = false := by rw [h5]; rfl
    have t3 : (o.toList == [122]) = false := by rw [h5]; rfl
    have t4 : (o.toList == [90]) = false := by rw [h5]; rfl
    have t5 : (o.toList == [112, 114, 105, 118, 97, 116, 101]) = true := by rw [h5]; rfl
    by_cases ht : lb v.typ = [98, 105, 110, 100]
    · have M := Aside0.mk (show modeV v o = some ({ v with pr := o }, ⟨#[115, 104, 97, 114, 101, 100]⟩) by simp [modeV, isZ, isBind, ← toList_lb, h5, show v.typ.toList = [98, 105, 110, 100] from (toList_lb _).trans ht])
      have ty2 : (v.typ.toList == [98, 105, 110, 100]) = true := by rw [toList_lb, ht]; rfl
      have ty : (v.typ.toList != [98, 105, 110, 100]) = false := by rw [toList_lb, ht]; rfl
      clear h5 ht
      go_enter Tryd.func23, Tryd.ntmps23
      go_wp2_with fail
      refine (show ∀ W : World, Two w W { v with pr := o } → Code.wp _ _ _ _ W from ?_) _ (Two.mk0 w { v with pr := o })
      intro W hW
      generalize ({ v with pr := o } : SpecV) = v2 at hW M
      generalize (⟨#[115, 104, 97, 114, 101, 100]⟩ : ByteArray) = cl at M ⊢
      have hlt := cb_lt hW.b
      have CM := Aside0.mk (mapsIn (c := c) cl W.drew (Kd.C_below H.out hW.below.drew) hn)
      generalize hib : inB seen cl = ib at CM
      have IB := Aside0.mk hib
      clear hib
      have c0 : W.cell? ⟨w.heap.size, 0, none⟩ = some (.string v2.typ) := cb_cell (i := 0) hW.a rfl
      have r0 : W.cell? ⟨w.heap.size + 1, 0, none⟩ = some (.string ⟨#[]⟩) := cb_cell (i := 0) hW.b rfl
      have f0 := cb_frozen (i := 0) hW.b
      have c1 : W.cell? ⟨w.heap.size, 1, none⟩ = some (.string v2.src) := cb_cell (i := 1) hW.a rfl
      have r1 : W.cell? ⟨w.heap.size + 1, 1, none⟩ = some (.string ⟨#[]⟩) := cb_cell (i := 1) hW.b rfl
      have f1 := cb_frozen (i := 1) hW.b
      have c2 : W.cell? ⟨w.heap.size, 2, none⟩ = some (.string v2.tgt) := cb_cell (i := 2) hW.a rfl
      have r2 : W.cell? ⟨w.heap.size + 1, 2, none⟩ = some (.string ⟨#[]⟩) := cb_cell (i := 2) hW.b rfl
      have f2 := cb_frozen (i := 2) hW.b
      have c3 : W.cell? ⟨w.heap.size, 3, none⟩ = some (.string v2.pr) := cb_cell (i := 3) hW.a rfl
      have r3 : W.cell? ⟨w.heap.size + 1, 3, none⟩ = some (.string ⟨#[]⟩) := cb_cell (i := 3) hW.b rfl
      have f3 := cb_frozen (i := 3) hW.b
      have c4 : W.cell? ⟨w.heap.size, 4, none⟩ = some (.string v2.se) := cb_cell (i := 4) hW.a rfl
      have r4 : W.cell? ⟨w.heap.size + 1, 4, none⟩ = some (.string ⟨#[]⟩) := cb_cell (i := 4) hW.b rfl
      have f4 := cb_frozen (i := 4) hW.b
      have c5 : W.cell? ⟨w.heap.size, 5, none⟩ = some (.bool v2.ro) := cb_cell (i := 5) hW.a rfl
      have r5 : W.cell? ⟨w.heap.size + 1, 5, none⟩ = some (.bool false) := cb_cell (i := 5) hW.b rfl
      have f5 := cb_frozen (i := 5) hW.b
      have c6 : W.cell? ⟨w.heap.size, 6, none⟩ = some (.bool v2.ch) := cb_cell (i := 6) hW.a rfl
      have r6 : W.cell? ⟨w.heap.size + 1, 6, none⟩ = some (.bool false) := cb_cell (i := 6) hW.b rfl
      have f6 := cb_frozen (i := 6) hW.b
      have c7 : W.cell? ⟨w.heap.size, 7, none⟩ = some (.bool v2.nc) := cb_cell (i := 7) hW.a rfl
      have r7 : W.cell? ⟨w.heap.size + 1, 7, none⟩ = some (.bool false) := cb_cell (i := 7) hW.b rfl
      have f7 := cb_frozen (i := 7) hW.b
      have HW := Aside0.mk hW
      clear hW
      refine start_ (n := 9) (S := fun w' => w'.cell? ⟨w.heap.size, 0, none⟩ = some (.string v2.typ) ∧ w'.cell? ⟨w.heap.size, 1, none⟩ = some (.string v2.src) ∧ w'.cell? ⟨w.heap.size, 2, none⟩ = some (.string v2.tgt) ∧ w'.cell? ⟨w.heap.size, 3, none⟩ = some (.string v2.pr) ∧ w'.cell? ⟨w.heap.size, 4, none⟩ = some (.string v2.se) ∧ w'.cell? ⟨w.heap.size, 5, none⟩ = some (.bool v2.ro) ∧ w'.cell? ⟨w.heap.size, 6, none⟩ = some (.bool v2.ch) ∧ w'.cell? ⟨w.heap.size, 7, none⟩ = some (.bool v2.nc)) (ds := [6]) #[false, false, false, false, false, false, false, false, false] (by kernel_rfl) rfl rfl ⟨c0, c1, c2, c3, c4, c5, c6, c7⟩ (fun hHeld => ?_)
      refine pure_ (i := 1) (N := some 53) (v := ?_) (a' := ?_) #[false, true, false, false, false, false, false, false, false] rfl rfl (by kernel_rfl) (fun _ _ _ h => h) (Or.inl ⟨by rfl, ?_⟩) ?_ ?_
      rotate_left
      · intro w'
        go_simp
        with_reducible rfl
      rotate_left
      · simp only [Act.put, List.setIfInBounds_toArray, List.set_cons_zero, List.set_cons_succ, i64_w, i32_w]
        rfl
      refine pure_ (i := 2) (N := some 54) (v := ?_) (a' := ?_) #[false, true, true, false, false, false, false, false, false] rfl rfl (by kernel_rfl) (fun _ _ _ h => h) (Or.inl ⟨by rfl, ?_⟩) ?_ ?_
      rotate_left
      · intro w'
        go_simp
        with_reducible rfl
      rotate_left
      · simp only [Act.put, List.setIfInBounds_toArray, List.set_cons_zero, List.set_cons_succ, i64_w, i32_w]
        rfl
      refine pure_ (i := 3) (N := some 55) (v := ?_) (a' := ?_) #[false, true, true, true, false, false, false, false, false] rfl rfl (by kernel_rfl) (fun _ _ _ h => h) (Or.inl ⟨by rfl, ?_⟩) ?_ ?_
      rotate_left
      · intro w'
        go_simp
        with_reducible rfl
      rotate_left
      · simp only [Act.put, List.setIfInBounds_toArray, List.set_cons_zero, List.set_cons_succ, i64_w, i32_w]
        rfl
      refine take_ (i := 0) (N := some 52) (v := ?_) (a' := ?_) #[true, true, true, true, false, false, false, false, false] rfl rfl (by kernel_rfl) (fun _ _ _ h => h) (Or.inl ⟨by rfl, ?_⟩) hHeld ?_ ?_
      rotate_left
      · rintro w' ⟨s0, s1, s2, s3, s4, s5, s6, s7⟩
        go_simp
        with_reducible rfl
      rotate_left
      · simp only [Act.put, List.setIfInBounds_toArray, List.set_cons_zero, List.set_cons_succ, i64_w, i32_w]
        rfl
      refine one_ (i := 4) (N := some 56) #[true, true, true, true, true, false, false, false, false] rfl rfl (by kernel_rfl) (by decide) (fun K hK => ?_)
      refine goes_ Tryd.func33 (by kernel_rfl) rfl #[.slice A seen.length c, .string cl] (by rfl) rfl rfl (by simp only [List.map_toArray, List.map_cons, List.map_nil]; rfl) ?_
      with_reducible refine (CM.out).mono ?_
      rintro e w3 ⟨rfl, rfl⟩
      refine ⟨_, rfl, ?_⟩
      refine hK.out _ _ ⟨hHeld.1, hHeld.2.1, hHeld.2.2.1, hHeld.2.2.2.1, hHeld.2.2.2.2.1, hHeld.2.2.2.2.2.1, hHeld.2.2.2.2.2.2.1, hHeld.2.2.2.2.2.2.2⟩ (fun hHeld => ?_)
      clear hK K
      refine norm_ (a' := ?_) ?_ ?_
      rotate_left
      · show Act.put _ (some 56) _ = _
        simp only [Act.put, List.setIfInBounds_toArray, List.set_cons_zero, List.set_cons_succ, i64_w, i32_w]
        rfl
      refine pure_ (i := 5) (N := some 57) (v := ?_) (a' := ?_) #[true, true, true, true, true, true, false, false, false] rfl rfl (by kernel_rfl) (fun _ _ _ h => h) (Or.inl ⟨by rfl, ?_⟩) ?_ ?_
      rotate_left
      · intro w'
        go_simp
        with_reducible rfl
      rotate_left
      · simp only [Act.put, List.setIfInBounds_toArray, List.set_cons_zero, List.set_cons_succ, i64_w, i32_w]
        rfl
      refine last_ (i := 6) (N := none) #[true, true, true, true, true, true, true, false, false] rfl rfl (by kernel_rfl) (by decide) (fun K hK => ?_)
      refine skip_ (w1 := ?_) (by rfl) rfl ?_ ?_
      rotate_left
      · go_simp
        rfl
      refine hK.out _ _ ?_
      clear hK K
      refine pure_ (i := 7) (N := some 7) (v := ?_) (a' := ?_) #[true, true, true, true, true, true, true, true, false] rfl rfl (by kernel_rfl) (fun _ _ _ h => h) (Or.inl ⟨by rfl, ?_⟩) ?_ ?_
      rotate_left
      · intro w'
        go_simp
        with_reducible rfl
      rotate_left
      · simp only [Act.put, List.setIfInBounds_toArray, List.set_cons_zero, List.set_cons_succ, i64_w, i32_w]
        rfl
      refine pure_ (i := 8) (N := some 8) (v := ?_) (a' := ?_) #[true, true, true, true, true, true, true, true, true] rfl rfl (by kernel_rfl) (fun _ _ _ h => h) (Or.inl ⟨by rfl, ?_⟩) ?_ ?_
      rotate_left
      · intro w'
        go_simp
        with_reducible rfl
      rotate_left
      · simp only [Act.put, List.setIfInBounds_toArray, List.set_cons_zero, List.set_cons_succ, i64_w, i32_w]
        rfl
      refine done_ (by kernel_rfl) ?_
      go_wp2
      refine bodyPost_ret (v := .tuple #[.agg (specC v2), .string cl, .bool (!ib)]) ?_ rfl ?_
      · rw [results_cell2 rfl]
        go_simp
        rfl
      · refine ⟨?_, v2, cl, !ib, rfl, fun hh => ⟨M.out, IB.out.trans (by simpa using hh)⟩⟩
        refine Below.drew ?_
        exact HW.out.sets _ _ _ _ _ _ _ _
    · have ty2 : (v.typ.toList == [98, 105, 110, 100]) = false := by rw [toList_lb]; simpa using ht
      have ty : (v.typ.toList != [98, 105, 110, 100]) = true := by rw [toList_lb]; simpa using ht
      clear h5 ht
      go_enter Tryd.func23, Tryd.ntmps23
      go_wp2
      refine bodyPost_ret (v := .tuple #[.agg (specC { v with pr := o }), .string ⟨#[115, 104, 97, 114, 101, 100]⟩, .bool false]) ?_ rfl ⟨?_, { v with pr := o }, ⟨#[115, 104, 97, 114, 101, 100]⟩, false, rfl, fun h => by cases h⟩
      · rw [results_cell2 rfl]
        go_simp
        rfl
      · exact ((Below.refl _ w).alloc (Nat.le_refl _) _).alloc (by simp) _
  by_cases h6 : o.toList = [114, 112, 114, 105, 118, 97, 116, 101]
  · have t0 : (o.toList == [114, 111]) = false := by rw [h6]; rfl
    have t1 : (o.toList == [114, 119]) = false := by rw [h6]; rfl
    have t2 : (o.toList == [110, 111, 99, 111, 112, 121]) = false := by rw [h6]; rfl
    have t3 : (o.toList == [122]) = false := by rw [h6]; rfl
    have t4 : (o.toList == [90]) = false := by rw [h6]; rfl
    have t5 : (o.toList == [112, 114, 105, 118, 97, 116, 101]) = false := by rw [h6]; rfl
    have t6 : (o.toList == [114, 112, 114, 105, 118, 97, 116, 101]) = true := by rw [h6]; rfl
    by_cases ht : lb v.typ = [98, 105, 110, 100]
    · have M := Aside0.mk (show modeV v o = some ({ v with pr := o }, ⟨#[115, 104, 97, 114, 101, 100]⟩) by simp [modeV, isZ, isBind, ← toList_lb, h6, show v.typ.toList = [98, 105, 110, 100] from (toList_lb _).trans ht])
      have ty2 : (v.typ.toList == [98, 105, 110, 100]) = true := by rw [toList_lb, ht]; rfl
      have ty : (v.typ.toList != [98, 105, 110, 100]) = false := by rw [toList_lb, ht]; rfl
      clear h6 ht
      go_enter Tryd.func23, Tryd.ntmps23
      go_wp2_with fail
      refine (show ∀ W : World, Two w W { v with pr := o } → Code.wp _ _ _ _ W from ?_) _ (Two.mk0 w { v with pr := o })
      intro W hW
      generalize ({ v with pr := o } : SpecV) = v2 at hW M
      generalize (⟨#[115, 104, 97, 114, 101, 100]⟩ : ByteArray) = cl at M ⊢
      have hlt := cb_lt hW.b
      have CM := Aside0.mk (mapsIn (c := c) cl W.drew (Kd.C_below H.out hW.below.drew) hn)
      generalize hib : inB seen cl = ib at CM
      have IB := Aside0.mk hib
      clear hib
      have c0 : W.cell? ⟨w.heap.size, 0, none⟩ = some (.string v2.typ) := cb_cell (i := 0) hW.a rfl
      have r0 : W.cell? ⟨w.heap.size + 1, 0, none⟩ = some (.string ⟨#[]⟩) := cb_cell (i := 0) hW.b rfl
      have f0 := cb_frozen (i := 0) hW.b
      have c1 : W.cell? ⟨w.heap.size, 1, none⟩ = some (.string v2.src) := cb_cell (i := 1) hW.a rfl
      have r1 : W.cell? ⟨w.heap.size + 1, 1, none⟩ = some (.string ⟨#[]⟩) := cb_cell (i := 1) hW.b rfl
      have f1 := cb_frozen (i := 1) hW.b
      have c2 : W.cell? ⟨w.heap.size, 2, none⟩ = some (.string v2.tgt) := cb_cell (i := 2) hW.a rfl
      have r2 : W.cell? ⟨w.heap.size + 1, 2, none⟩ = some (.string ⟨#[]⟩) := cb_cell (i := 2) hW.b rfl
      have f2 := cb_frozen (i := 2) hW.b
      have c3 : W.cell? ⟨w.heap.size, 3, none⟩ = some (.string v2.pr) := cb_cell (i := 3) hW.a rfl
      have r3 : W.cell? ⟨w.heap.size + 1, 3, none⟩ = some (.string ⟨#[]⟩) := cb_cell (i := 3) hW.b rfl
      have f3 := cb_frozen (i := 3) hW.b
      have c4 : W.cell? ⟨w.heap.size, 4, none⟩ = some (.string v2.se) := cb_cell (i := 4) hW.a rfl
      have r4 : W.cell? ⟨w.heap.size + 1, 4, none⟩ = some (.string ⟨#[]⟩) := cb_cell (i := 4) hW.b rfl
      have f4 := cb_frozen (i := 4) hW.b
      have c5 : W.cell? ⟨w.heap.size, 5, none⟩ = some (.bool v2.ro) := cb_cell (i := 5) hW.a rfl
      have r5 : W.cell? ⟨w.heap.size + 1, 5, none⟩ = some (.bool false) := cb_cell (i := 5) hW.b rfl
      have f5 := cb_frozen (i := 5) hW.b
      have c6 : W.cell? ⟨w.heap.size, 6, none⟩ = some (.bool v2.ch) := cb_cell (i := 6) hW.a rfl
      have r6 : W.cell? ⟨w.heap.size + 1, 6, none⟩ = some (.bool false) := cb_cell (i := 6) hW.b rfl
      have f6 := cb_frozen (i := 6) hW.b
      have c7 : W.cell? ⟨w.heap.size, 7, none⟩ = some (.bool v2.nc) := cb_cell (i := 7) hW.a rfl
      have r7 : W.cell? ⟨w.heap.size + 1, 7, none⟩ = some (.bool false) := cb_cell (i := 7) hW.b rfl
      have f7 := cb_frozen (i := 7) hW.b
      have HW := Aside0.mk hW
      clear hW
      refine start_ (n := 9) (S := fun w' => w'.cell? ⟨w.heap.size, 0, none⟩ = some (.string v2.typ) ∧ w'.cell? ⟨w.heap.size, 1, none⟩ = some (.string v2.src) ∧ w'.cell? ⟨w.heap.size, 2, none⟩ = some (.string v2.tgt) ∧ w'.cell? ⟨w.heap.size, 3, none⟩ = some (.string v2.pr) ∧ w'.cell? ⟨w.heap.size, 4, none⟩ = some (.string v2.se) ∧ w'.cell? ⟨w.heap.size, 5, none⟩ = some (.bool v2.ro) ∧ w'.cell? ⟨w.heap.size, 6, none⟩ = some (.bool v2.ch) ∧ w'.cell? ⟨w.heap.size, 7, none⟩ = some (.bool v2.nc)) (ds := [6]) #[false, false, false, false, false, false, false, false, false] (by kernel_rfl) rfl rfl ⟨c0, c1, c2, c3, c4, c5, c6, c7⟩ (fun hHeld => ?_)
      refine pure_ (i := 1) (N := some 53) (v := ?_) (a' := ?_) #[false, true, false, false, false, false, false, false, false] rfl rfl (by kernel_rfl) (fun _ _ _ h => h) (Or.inl ⟨by rfl, ?_⟩) ?_ ?_
      rotate_left
      · intro w'
        go_simp
        with_reducible rfl
      rotate_left
      · simp only [Act.put, List.setIfInBounds_toArray, List.set_cons_zero, List.set_cons_succ, i64_w, i32_w]
        rfl
      refine pure_ (i := 2) (N := some 54) (v := ?_) (a' := ?_) #[false, true, true, false, false, false, false, false, false] rfl rfl (by kernel_rfl) (fun _ _ _ h => h) (Or.inl ⟨by rfl, ?_⟩) ?_ ?_
      rotate_left
      · intro w'
        go_simp
        with_reducible rfl
      rotate_left
      · simp only [Act.put, List.setIfInBounds_toArray, List.set_cons_zero, List.set_cons_succ, i64_w, i32_w]
        rfl
      refine pure_ (i := 3) (N := some 55) (v := ?_) (a' := ?_) #[false, true, true, true, false, false, false, false, false] rfl rfl (by kernel_rfl) (fun _ _ _ h => h) (Or.inl ⟨by rfl, ?_⟩) ?_ ?_
      rotate_left
      · intro w'
        go_simp
        with_reducible rfl
      rotate_left
      · simp only [Act.put, List.setIfInBounds_toArray, List.set_cons_zero, List.set_cons_succ, i64_w, i32_w]
        rfl
      refine take_ (i := 0) (N := some 52) (v := ?_) (a' := ?_) #[true, true, true, true, false, false, false, false, false] rfl rfl (by kernel_rfl) (fun _ _ _ h => h) (Or.inl ⟨by rfl, ?_⟩) hHeld ?_ ?_
      rotate_left
      · rintro w' ⟨s0, s1, s2, s3, s4, s5, s6, s7⟩
        go_simp
        with_reducible rfl
      rotate_left
      · simp only [Act.put, List.setIfInBounds_toArray, List.set_cons_zero, List.set_cons_succ, i64_w, i32_w]
        rfl
      refine one_ (i := 4) (N := some 56) #[true, true, true, true, true, false, false, false, false] rfl rfl (by kernel_rfl) (by decide) (fun K hK => ?_)
      refine goes_ Tryd.func33 (by kernel_rfl) rfl #[.slice A seen.length c, .string cl] (by rfl) rfl rfl (by simp only [List.map_toArray, List.map_cons, List.map_nil]; rfl) ?_
      with_reducible refine (CM.out).mono ?_
      rintro e w3 ⟨rfl, rfl⟩
      refine ⟨_, rfl, ?_⟩
      refine hK.out _ _ ⟨hHeld.1, hHeld.2.1, hHeld.2.2.1, hHeld.2.2.2.1, hHeld.2.2.2.2.1, hHeld.2.2.2.2.2.1, hHeld.2.2.2.2.2.2.1, hHeld.2.2.2.2.2.2.2⟩ (fun hHeld => ?_)
      clear hK K
      refine norm_ (a' := ?_) ?_ ?_
      rotate_left
      · show Act.put _ (some 56) _ = _
        simp only [Act.put, List.setIfInBounds_toArray, List.set_cons_zero, List.set_cons_succ, i64_w, i32_w]
        rfl
      refine pure_ (i := 5) (N := some 57) (v := ?_) (a' := ?_) #[true, true, true, true, true, true, false, false, false] rfl rfl (by kernel_rfl) (fun _ _ _ h => h) (Or.inl ⟨by rfl, ?_⟩) ?_ ?_
      rotate_left
      · intro w'
        go_simp
        with_reducible rfl
      rotate_left
      · simp only [Act.put, List.setIfInBounds_toArray, List.set_cons_zero, List.set_cons_succ, i64_w, i32_w]
        rfl
      refine last_ (i := 6) (N := none) #[true, true, true, true, true, true, true, false, false] rfl rfl (by kernel_rfl) (by decide) (fun K hK => ?_)
      refine skip_ (w1 := ?_) (by rfl) rfl ?_ ?_
      rotate_left
      · go_simp
        rfl
      refine hK.out _ _ ?_
      clear hK K
      refine pure_ (i := 7) (N := some 7) (v := ?_) (a' := ?_) #[true, true, true, true, true, true, true, true, false] rfl rfl (by kernel_rfl) (fun _ _ _ h => h) (Or.inl ⟨by rfl, ?_⟩) ?_ ?_
      rotate_left
      · intro w'
        go_simp
        with_reducible rfl
      rotate_left
      · simp only [Act.put, List.setIfInBounds_toArray, List.set_cons_zero, List.set_cons_succ, i64_w, i32_w]
        rfl
      refine pure_ (i := 8) (N := some 8) (v := ?_) (a' := ?_) #[true, true, true, true, true, true, true, true, true] rfl rfl (by kernel_rfl) (fun _ _ _ h => h) (Or.inl ⟨by rfl, ?_⟩) ?_ ?_
      rotate_left
      · intro w'
        go_simp
        with_reducible rfl
      rotate_left
      · simp only [Act.put, List.setIfInBounds_toArray, List.set_cons_zero, List.set_cons_succ, i64_w, i32_w]
        rfl
      refine done_ (by kernel_rfl) ?_
      go_wp2
      refine bodyPost_ret (v := .tuple #[.agg (specC v2), .string cl, .bool (!ib)]) ?_ rfl ?_
      · rw [results_cell2 rfl]
        go_simp
        rfl
      · refine ⟨?_, v2, cl, !ib, rfl, fun hh => ⟨M.out, IB.out.trans (by simpa using hh)⟩⟩
        refine Below.drew ?_
        exact HW.out.sets _ _ _ _ _ _ _ _
    · have ty2 : (v.typ.toList == [98, 105, 110, 100]) = false := by rw [toList_lb]; simpa using ht
      have ty : (v.typ.toList != [98, 105, 110, 100]) = true := by rw [toList_lb]; simpa using ht
      clear h6 ht
      go_enter Tryd.func23, Tryd.ntmps23
      go_wp2
      refine bodyPost_ret (v := .tuple #[.agg (specC { v with pr := o }), .string ⟨#[115, 104, 97, 114, 101, 100]⟩, .bool false]) ?_ rfl ⟨?_, { v with pr := o }, ⟨#[115, 104, 97, 114, 101, 100]⟩, false, rfl, fun h => by cases h⟩
      · rw [results_cell2 rfl]
        go_simp
        rfl
      · exact ((Below.refl _ w).alloc (Nat.le_refl _) _).alloc (by simp) _
  by_cases h7 : o.toList = [115, 104, 97, 114, 101, 100]
  · have t0 : (o.toList == [114, 111]) = false := by rw [h7]; rfl
    have t1 : (o.toList == [114, 119]) = false := by rw [h7]; rfl
    have t2 : (o.toList == [110, 111, 99, 111, 112, 121]) = false := by rw [h7]; rfl
    have t3 : (o.toList == [122]) = false := by rw [h7]; rfl
    have t4 : (o.toList == [90]) = false := by rw [h7]; rfl
    have t5 : (o.toList == [112, 114, 105, 118, 97, 116, 101]) = false := by rw [h7]; rfl
    have t6 : (o.toList == [114, 112, 114, 105, 118, 97, 116, 101]) = false := by rw [h7]; rfl
    have t7 : (o.toList == [115, 104, 97, 114, 101, 100]) = true := by rw [h7]; rfl
    by_cases ht : lb v.typ = [98, 105, 110, 100]
    · have M := Aside0.mk (show modeV v o = some ({ v with pr := o }, ⟨#[115, 104, 97, 114, 101, 100]⟩) by simp [modeV, isZ, isBind, ← toList_lb, h7, show v.typ.toList = [98, 105, 110, 100] from (toList_lb _).trans ht])
      have ty2 : (v.typ.toList == [98, 105, 110, 100]) = true := by rw [toList_lb, ht]; rfl
      have ty : (v.typ.toList != [98, 105, 110, 100]) = false := by rw [toList_lb, ht]; rfl
      clear h7 ht
      go_enter Tryd.func23, Tryd.ntmps23
      go_wp2_with fail
      refine (show ∀ W : World, Two w W { v with pr := o } → Code.wp _ _ _ _ W from ?_) _ (Two.mk0 w { v with pr := o })
      intro W hW
      generalize ({ v with pr := o } : SpecV) = v2 at hW M
      generalize (⟨#[115, 104, 97, 114, 101, 100]⟩ : ByteArray) = cl at M ⊢
      have hlt := cb_lt hW.b
      have CM := Aside0.mk (mapsIn (c := c) cl W.drew (Kd.C_below H.out hW.below.drew) hn)
      generalize hib : inB seen cl = ib at CM
      have IB := Aside0.mk hib
      clear hib
      have c0 : W.cell? ⟨w.heap.size, 0, none⟩ = some (.string v2.typ) := cb_cell (i := 0) hW.a rfl
      have r0 : W.cell? ⟨w.heap.size + 1, 0, none⟩ = some (.string ⟨#[]⟩) := cb_cell (i := 0) hW.b rfl
      have f0 := cb_frozen (i := 0) hW.b
      have c1 : W.cell? ⟨w.heap.size, 1, none⟩ = some (.string v2.src) := cb_cell (i := 1) hW.a rfl
      have r1 : W.cell? ⟨w.heap.size + 1, 1, none⟩ = some (.string ⟨#[]⟩) := cb_cell (i := 1) hW.b rfl
      have f1 := cb_frozen (i := 1) hW.b
      have c2 : W.cell? ⟨w.heap.size, 2, none⟩ = some (.string v2.tgt) := cb_cell (i := 2) hW.a rfl
      have r2 : W.cell? ⟨w.heap.size + 1, 2, none⟩ = some (.string ⟨#[]⟩) := cb_cell (i := 2) hW.b rfl
      have f2 := cb_frozen (i := 2) hW.b
      have c3 : W.cell? ⟨w.heap.size, 3, none⟩ = some (.string v2.pr) := cb_cell (i := 3) hW.a rfl
      have r3 : W.cell? ⟨w.heap.size + 1, 3, none⟩ = some (.string ⟨#[]⟩) := cb_cell (i := 3) hW.b rfl
      have f3 := cb_frozen (i := 3) hW.b
      have c4 : W.cell? ⟨w.heap.size, 4, none⟩ = some (.string v2.se) := cb_cell (i := 4) hW.a rfl
      have r4 : W.cell? ⟨w.heap.size + 1, 4, none⟩ = some (.string ⟨#[]⟩) := cb_cell (i := 4) hW.b rfl
      have f4 := cb_frozen (i := 4) hW.b
      have c5 : W.cell? ⟨w.heap.size, 5, none⟩ = some (.bool v2.ro) := cb_cell (i := 5) hW.a rfl
      have r5 : W.cell? ⟨w.heap.size + 1, 5, none⟩ = some (.bool false) := cb_cell (i := 5) hW.b rfl
      have f5 := cb_frozen (i := 5) hW.b
      have c6 : W.cell? ⟨w.heap.size, 6, none⟩ = some (.bool v2.ch) := cb_cell (i := 6) hW.a rfl
      have r6 : W.cell? ⟨w.heap.size + 1, 6, none⟩ = some (.bool false) := cb_cell (i := 6) hW.b rfl
      have f6 := cb_frozen (i := 6) hW.b
      have c7 : W.cell? ⟨w.heap.size, 7, none⟩ = some (.bool v2.nc) := cb_cell (i := 7) hW.a rfl
      have r7 : W.cell? ⟨w.heap.size + 1, 7, none⟩ = some (.bool false) := cb_cell (i := 7) hW.b rfl
      have f7 := cb_frozen (i := 7) hW.b
      have HW := Aside0.mk hW
      clear hW
      refine start_ (n := 9) (S := fun w' => w'.cell? ⟨w.heap.size, 0, none⟩ = some (.string v2.typ) ∧ w'.cell? ⟨w.heap.size, 1, none⟩ = some (.string v2.src) ∧ w'.cell? ⟨w.heap.size, 2, none⟩ = some (.string v2.tgt) ∧ w'.cell? ⟨w.heap.size, 3, none⟩ = some (.string v2.pr) ∧ w'.cell? ⟨w.heap.size, 4, none⟩ = some (.string v2.se) ∧ w'.cell? ⟨w.heap.size, 5, none⟩ = some (.bool v2.ro) ∧ w'.cell? ⟨w.heap.size, 6, none⟩ = some (.bool v2.ch) ∧ w'.cell? ⟨w.heap.size, 7, none⟩ = some (.bool v2.nc)) (ds := [6]) #[false, false, false, false, false, false, false, false, false] (by kernel_rfl) rfl rfl ⟨c0, c1, c2, c3, c4, c5, c6, c7⟩ (fun hHeld => ?_)
      refine pure_ (i := 1) (N := some 53) (v := ?_) (a' := ?_) #[false, true, false, false, false, false, false, false, false] rfl rfl (by kernel_rfl) (fun _ _ _ h => h) (Or.inl ⟨by rfl, ?_⟩) ?_ ?_
      rotate_left
      · intro w'
        go_simp
        with_reducible rfl
      rotate_left
      · simp only [Act.put, List.setIfInBounds_toArray, List.set_cons_zero, List.set_cons_succ, i64_w, i32_w]
        rfl
      refine pure_ (i := 2) (N := some 54) (v := ?_) (a' := ?_) #[false, true, true, false, false, false, false, false, false] rfl rfl (by kernel_rfl) (fun _ _ _ h => h) (Or.inl ⟨by rfl, ?_⟩) ?_ ?_
      rotate_left
      · intro w'
        go_simp
        with_reducible rfl
      rotate_left
      · simp only [Act.put, List.setIfInBounds_toArray, List.set_cons_zero, List.set_cons_succ, i64_w, i32_w]
        rfl
      refine pure_ (i := 3) (N := some 55) (v := ?_) (a' := ?_) #[false, true, true, true, false, false, false, false, false] rfl rfl (by kernel_rfl) (fun _ _ _ h => h) (Or.inl ⟨by rfl, ?_⟩) ?_ ?_
      rotate_left
      · intro w'
        go_simp
        with_reducible rfl
      rotate_left
      · simp only [Act.put, List.setIfInBounds_toArray, List.set_cons_zero, List.set_cons_succ, i64_w, i32_w]
        rfl
      refine take_ (i := 0) (N := some 52) (v := ?_) (a' := ?_) #[true, true, true, true, false, false, false, false, false] rfl rfl (by kernel_rfl) (fun _ _ _ h => h) (Or.inl ⟨by rfl, ?_⟩) hHeld ?_ ?_
      rotate_left
      · rintro w' ⟨s0, s1, s2, s3, s4, s5, s6, s7⟩
        go_simp
        with_reducible rfl
      rotate_left
      · simp only [Act.put, List.setIfInBounds_toArray, List.set_cons_zero, List.set_cons_succ, i64_w, i32_w]
        rfl
      refine one_ (i := 4) (N := some 56) #[true, true, true, true, true, false, false, false, false] rfl rfl (by kernel_rfl) (by decide) (fun K hK => ?_)
      refine goes_ Tryd.func33 (by kernel_rfl) rfl #[.slice A seen.length c, .string cl] (by rfl) rfl rfl (by simp only [List.map_toArray, List.map_cons, List.map_nil]; rfl) ?_
      with_reducible refine (CM.out).mono ?_
      rintro e w3 ⟨rfl, rfl⟩
      refine ⟨_, rfl, ?_⟩
      refine hK.out _ _ ⟨hHeld.1, hHeld.2.1, hHeld.2.2.1, hHeld.2.2.2.1, hHeld.2.2.2.2.1, hHeld.2.2.2.2.2.1, hHeld.2.2.2.2.2.2.1, hHeld.2.2.2.2.2.2.2⟩ (fun hHeld => ?_)
      clear hK K
      refine norm_ (a' := ?_) ?_ ?_
      rotate_left
      · show Act.put _ (some 56) _ = _
        simp only [Act.put, List.setIfInBounds_toArray, List.set_cons_zero, List.set_cons_succ, i64_w, i32_w]
        rfl
      refine pure_ (i := 5) (N := some 57) (v := ?_) (a' := ?_) #[true, true, true, true, true, true, false, false, false] rfl rfl (by kernel_rfl) (fun _ _ _ h => h) (Or.inl ⟨by rfl, ?_⟩) ?_ ?_
      rotate_left
      · intro w'
        go_simp
        with_reducible rfl
      rotate_left
      · simp only [Act.put, List.setIfInBounds_toArray, List.set_cons_zero, List.set_cons_succ, i64_w, i32_w]
        rfl
      refine last_ (i := 6) (N := none) #[true, true, true, true, true, true, true, false, false] rfl rfl (by kernel_rfl) (by decide) (fun K hK => ?_)
      refine skip_ (w1 := ?_) (by rfl) rfl ?_ ?_
      rotate_left
      · go_simp
        rfl
      refine hK.out _ _ ?_
      clear hK K
      refine pure_ (i := 7) (N := some 7) (v := ?_) (a' := ?_) #[true, true, true, true, true, true, true, true, false] rfl rfl (by kernel_rfl) (fun _ _ _ h => h) (Or.inl ⟨by rfl, ?_⟩) ?_ ?_
      rotate_left
      · intro w'
        go_simp
        with_reducible rfl
      rotate_left
      · simp only [Act.put, List.setIfInBounds_toArray, List.set_cons_zero, List.set_cons_succ, i64_w, i32_w]
        rfl
      refine pure_ (i := 8) (N := some 8) (v := ?_) (a' := ?_) #[true, true, true, true, true, true, true, true, true] rfl rfl (by kernel_rfl) (fun _ _ _ h => h) (Or.inl ⟨by rfl, ?_⟩) ?_ ?_
      rotate_left
      · intro w'
        go_simp
        with_reducible rfl
      rotate_left
      · simp only [Act.put, List.setIfInBounds_toArray, List.set_cons_zero, List.set_cons_succ, i64_w, i32_w]
        rfl
      refine done_ (by kernel_rfl) ?_
      go_wp2
      refine bodyPost_ret (v := .tuple #[.agg (specC v2), .string cl, .bool (!ib)]) ?_ rfl ?_
      · rw [results_cell2 rfl]
        go_simp
        rfl
      · refine ⟨?_, v2, cl, !ib, rfl, fun hh => ⟨M.out, IB.out.trans (by simpa using hh)⟩⟩
        refine Below.drew ?_
        exact HW.out.sets _ _ _ _ _ _ _ _
    · have ty2 : (v.typ.toList == [98, 105, 110, 100]) = false := by rw [toList_lb]; simpa using ht
      have ty : (v.typ.toList != [98, 105, 110, 100]) = true := by rw [toList_lb]; simpa using ht
      clear h7 ht
      go_enter Tryd.func23, Tryd.ntmps23
      go_wp2
      refine bodyPost_ret (v := .tuple #[.agg (specC { v with pr := o }), .string ⟨#[115, 104, 97, 114, 101, 100]⟩, .bool false]) ?_ rfl ⟨?_, { v with pr := o }, ⟨#[115, 104, 97, 114, 101, 100]⟩, false, rfl, fun h => by cases h⟩
      · rw [results_cell2 rfl]
        go_simp
        rfl
      · exact ((Below.refl _ w).alloc (Nat.le_refl _) _).alloc (by simp) _
  by_cases h8 : o.toList = [114, 115, 104, 97, 114, 101, 100]
  · have t0 : (o.toList == [114, 111]) = false := by rw [h8]; rfl
    have t1 : (o.toList == [114, 119]) = false := by rw [h8]; rfl
    have t2 : (o.toList == [110, 111, 99, 111, 112, 121]) = false := by rw [h8]; rfl
    have t3 : (o.toList == [122]) = false := by rw [h8]; rfl
    have t4 : (o.toList == [90]) = false := by rw [h8]; rfl
    have t5 : (o.toList == [112, 114, 105, 118, 97, 116, 101]) = false := by rw [h8]; rfl
    have t6 : (o.toList == [114, 112, 114, 105, 118, 97, 116, 101]) = false := by rw [h8]; rfl
    have t7 : (o.toList == [115, 104, 97, 114, 101, 100]) = false := by rw [h8]; rfl
    have t8 : (o.toList == [114, 115, 104, 97, 114, 101, 100]) = true := by rw [h8]; rfl
    by_cases ht : lb v.typ = [98, 105, 110, 100]
    · have M := Aside0.mk (show modeV v o = some ({ v with pr := o }, ⟨#[115, 104, 97, 114, 101, 100]⟩) by simp [modeV, isZ, isBind, ← toList_lb, h8, show v.typ.toList = [98, 105, 110, 100] from (toList_lb _).trans ht])
      have ty2 : (v.typ.toList == [98, 105, 110, 100]) = true := by rw [toList_lb, ht]; rfl
      have ty : (v.typ.toList != [98, 105, 110, 100]) = false := by rw [toList_lb, ht]; rfl
      clear h8 ht
      go_enter Tryd.func23, Tryd.ntmps23
      go_wp2_with fail
      refine (show ∀ W : World, Two w W { v with pr := o } → Code.wp _ _ _ _ W from ?_) _ (Two.mk0 w { v with pr := o })
      intro W hW
      generalize ({ v with pr := o } : SpecV) = v2 at hW M
      generalize (⟨#[115, 104, 97, 114, 101, 100]⟩ : ByteArray) = cl at M ⊢
      have hlt := cb_lt hW.b
      have CM := Aside0.mk (mapsIn (c := c) cl W.drew (Kd.C_below H.out hW.below.drew) hn)
      generalize hib : inB seen cl = ib at CM
      have IB := Aside0.mk hib
      clear hib
      have c0 : W.cell? ⟨w.heap.size, 0, none⟩ = some (.string v2.typ) := cb_cell (i := 0) hW.a rfl
      have r0 : W.cell? ⟨w.heap.size + 1, 0, none⟩ = some (.string ⟨#[]⟩) := cb_cell (i := 0) hW.b rfl
      have f0 := cb_frozen (i := 0) hW.b
      have c1 : W.cell? ⟨w.heap.size, 1, none⟩ = some (.string v2.src) := cb_cell (i := 1) hW.a rfl
      have r1 : W.cell? ⟨w.heap.size + 1, 1, none⟩ = some (.string ⟨#[]⟩) := cb_cell (i := 1) hW.b rfl
      have f1 := cb_frozen (i := 1) hW.b
      have c2 : W.cell? ⟨w.heap.size, 2, none⟩ = some (.string v2.tgt) := cb_cell (i := 2) hW.a rfl
      have r2 : W.cell? ⟨w.heap.size + 1, 2, none⟩ = some (.string ⟨#[]⟩) := cb_cell (i := 2) hW.b rfl
      have f2 := cb_frozen (i := 2) hW.b
      have c3 : W.cell? ⟨w.heap.size, 3, none⟩ = some (.string v2.pr) := cb_cell (i := 3) hW.a rfl
      have r3 : W.cell? ⟨w.heap.size + 1, 3, none⟩ = some (.string ⟨#[]⟩) := cb_cell (i := 3) hW.b rfl
      have f3 := cb_frozen (i := 3) hW.b
      have c4 : W.cell? ⟨w.heap.size, 4, none⟩ = some (.string v2.se) := cb_cell (i := 4) hW.a rfl
      have r4 : W.cell? ⟨w.heap.size + 1, 4, none⟩ = some (.string ⟨#[]⟩) := cb_cell (i := 4) hW.b rfl
      have f4 := cb_frozen (i := 4) hW.b
      have c5 : W.cell? ⟨w.heap.size, 5, none⟩ = some (.bool v2.ro) := cb_cell (i := 5) hW.a rfl
      have r5 : W.cell? ⟨w.heap.size + 1, 5, none⟩ = some (.bool false) := cb_cell (i := 5) hW.b rfl
      have f5 := cb_frozen (i := 5) hW.b
      have c6 : W.cell? ⟨w.heap.size, 6, none⟩ = some (.bool v2.ch) := cb_cell (i := 6) hW.a rfl
      have r6 : W.cell? ⟨w.heap.size + 1, 6, none⟩ = some (.bool false) := cb_cell (i := 6) hW.b rfl
      have f6 := cb_frozen (i := 6) hW.b
      have c7 : W.cell? ⟨w.heap.size, 7, none⟩ = some (.bool v2.nc) := cb_cell (i := 7) hW.a rfl
      have r7 : W.cell? ⟨w.heap.size + 1, 7, none⟩ = some (.bool false) := cb_cell (i := 7) hW.b rfl
      have f7 := cb_frozen (i := 7) hW.b
      have HW := Aside0.mk hW
      clear hW
      refine start_ (n := 9) (S := fun w' => w'.cell? ⟨w.heap.size, 0, none⟩ = some (.string v2.typ) ∧ w'.cell? ⟨w.heap.size, 1, none⟩ = some (.string v2.src) ∧ w'.cell? ⟨w.heap.size, 2, none⟩ = some (.string v2.tgt) ∧ w'.cell? ⟨w.heap.size, 3, none⟩ = some (.string v2.pr) ∧ w'.cell? ⟨w.heap.size, 4, none⟩ = some (.string v2.se) ∧ w'.cell? ⟨w.heap.size, 5, none⟩ = some (.bool v2.ro) ∧ w'.cell? ⟨w.heap.size, 6, none⟩ = some (.bool v2.ch) ∧ w'.cell? ⟨w.heap.size, 7, none⟩ = some (.bool v2.nc)) (ds := [6]) #[false, false, false, false, false, false, false, false, false] (by kernel_rfl) rfl rfl ⟨c0, c1, c2, c3, c4, c5, c6, c7⟩ (fun hHeld => ?_)
      refine pure_ (i := 1) (N := some 53) (v := ?_) (a' := ?_) #[false, true, false, false, false, false, false, false, false] rfl rfl (by kernel_rfl) (fun _ _ _ h => h) (Or.inl ⟨by rfl, ?_⟩) ?_ ?_
      rotate_left
      · intro w'
        go_simp
        with_reducible rfl
      rotate_left
      · simp only [Act.put, List.setIfInBounds_toArray, List.set_cons_zero, List.set_cons_succ, i64_w, i32_w]
        rfl
      refine pure_ (i := 2) (N := some 54) (v := ?_) (a' := ?_) #[false, true, true, false, false, false, false, false, false] rfl rfl (by kernel_rfl) (fun _ _ _ h => h) (Or.inl ⟨by rfl, ?_⟩) ?_ ?_
      rotate_left
      · intro w'
        go_simp
        with_reducible rfl
      rotate_left
      · simp only [Act.put, List.setIfInBounds_toArray, List.set_cons_zero, List.set_cons_succ, i64_w, i32_w]
        rfl
      refine pure_ (i := 3) (N := some 55) (v := ?_) (a' := ?_) #[false, true, true, true, false, false, false, false, false] rfl rfl (by kernel_rfl) (fun _ _ _ h => h) (Or.inl ⟨by rfl, ?_⟩) ?_ ?_
      rotate_left
      · intro w'
        go_simp
        with_reducible rfl
      rotate_left
      · simp only [Act.put, List.setIfInBounds_toArray, List.set_cons_zero, List.set_cons_succ, i64_w, i32_w]
        rfl
      refine take_ (i := 0) (N := some 52) (v := ?_) (a' := ?_) #[true, true, true, true, false, false, false, false, false] rfl rfl (by kernel_rfl) (fun _ _ _ h => h) (Or.inl ⟨by rfl, ?_⟩) hHeld ?_ ?_
      rotate_left
      · rintro w' ⟨s0, s1, s2, s3, s4, s5, s6, s7⟩
        go_simp
        with_reducible rfl
      rotate_left
      · simp only [Act.put, List.setIfInBounds_toArray, List.set_cons_zero, List.set_cons_succ, i64_w, i32_w]
        rfl
      refine one_ (i := 4) (N := some 56) #[true, true, true, true, true, false, false, false, false] rfl rfl (by kernel_rfl) (by decide) (fun K hK => ?_)
      refine goes_ Tryd.func33 (by kernel_rfl) rfl #[.slice A seen.length c, .string cl] (by rfl) rfl rfl (by simp only [List.map_toArray, List.map_cons, List.map_nil]; rfl) ?_
      with_reducible refine (CM.out).mono ?_
      rintro e w3 ⟨rfl, rfl⟩
      refine ⟨_, rfl, ?_⟩
      refine hK.out _ _ ⟨hHeld.1, hHeld.2.1, hHeld.2.2.1, hHeld.2.2.2.1, hHeld.2.2.2.2.1, hHeld.2.2.2.2.2.1, hHeld.2.2.2.2.2.2.1, hHeld.2.2.2.2.2.2.2⟩ (fun hHeld => ?_)
      clear hK K
      refine norm_ (a' := ?_) ?_ ?_
      rotate_left
      · show Act.put _ (some 56) _ = _
        simp only [Act.put, List.setIfInBounds_toArray, List.set_cons_zero, List.set_cons_succ, i64_w, i32_w]
        rfl
      refine pure_ (i := 5) (N := some 57) (v := ?_) (a' := ?_) #[true, true, true, true, true, true, false, false, false] rfl rfl (by kernel_rfl) (fun _ _ _ h => h) (Or.inl ⟨by rfl, ?_⟩) ?_ ?_
      rotate_left
      · intro w'
        go_simp
        with_reducible rfl
      rotate_left
      · simp only [Act.put, List.setIfInBounds_toArray, List.set_cons_zero, List.set_cons_succ, i64_w, i32_w]
        rfl
      refine last_ (i := 6) (N := none) #[true, true, true, true, true, true, true, false, false] rfl rfl (by kernel_rfl) (by decide) (fun K hK => ?_)
      refine skip_ (w1 := ?_) (by rfl) rfl ?_ ?_
      rotate_left
      · go_simp
        rfl
      refine hK.out _ _ ?_
      clear hK K
      refine pure_ (i := 7) (N := some 7) (v := ?_) (a' := ?_) #[true, true, true, true, true, true, true, true, false] rfl rfl (by kernel_rfl) (fun _ _ _ h => h) (Or.inl ⟨by rfl, ?_⟩) ?_ ?_
      rotate_left
      · intro w'
        go_simp
        with_reducible rfl
      rotate_left
      · simp only [Act.put, List.setIfInBounds_toArray, List.set_cons_zero, List.set_cons_succ, i64_w, i32_w]
        rfl
      refine pure_ (i := 8) (N := some 8) (v := ?_) (a' := ?_) #[true, true, true, true, true, true, true, true, true] rfl rfl (by kernel_rfl) (fun _ _ _ h => h) (Or.inl ⟨by rfl, ?_⟩) ?_ ?_
      rotate_left
      · intro w'
        go_simp
        with_reducible rfl
      rotate_left
      · simp only [Act.put, List.setIfInBounds_toArray, List.set_cons_zero, List.set_cons_succ, i64_w, i32_w]
        rfl
      refine done_ (by kernel_rfl) ?_
      go_wp2
      refine bodyPost_ret (v := .tuple #[.agg (specC v2), .string cl, .bool (!ib)]) ?_ rfl ?_
      · rw [results_cell2 rfl]
        go_simp
        rfl
      · refine ⟨?_, v2, cl, !ib, rfl, fun hh => ⟨M.out, IB.out.trans (by simpa using hh)⟩⟩
        refine Below.drew ?_
        exact HW.out.sets _ _ _ _ _ _ _ _
    · have ty2 : (v.typ.toList == [98, 105, 110, 100]) = false := by rw [toList_lb]; simpa using ht
      have ty : (v.typ.toList != [98, 105, 110, 100]) = true := by rw [toList_lb]; simpa using ht
      clear h8 ht
      go_enter Tryd.func23, Tryd.ntmps23
      go_wp2
      refine bodyPost_ret (v := .tuple #[.agg (specC { v with pr := o }), .string ⟨#[115, 104, 97, 114, 101, 100]⟩, .bool false]) ?_ rfl ⟨?_, { v with pr := o }, ⟨#[115, 104, 97, 114, 101, 100]⟩, false, rfl, fun h => by cases h⟩
      · rw [results_cell2 rfl]
        go_simp
        rfl
      · exact ((Below.refl _ w).alloc (Nat.le_refl _) _).alloc (by simp) _
  by_cases h9 : o.toList = [115, 108, 97, 118, 101]
  · have t0 : (o.toList == [114, 111]) = false := by rw [h9]; rfl
    have t1 : (o.toList == [114, 119]) = false := by rw [h9]; rfl
    have t2 : (o.toList == [110, 111, 99, 111, 112, 121]) = false := by rw [h9]; rfl
    have t3 : (o.toList == [122]) = false := by rw [h9]; rfl
    have t4 : (o.toList == [90]) = false := by rw [h9]; rfl
    have t5 : (o.toList == [112, 114, 105, 118, 97, 116, 101]) = false := by rw [h9]; rfl
    have t6 : (o.toList == [114, 112, 114, 105, 118, 97, 116, 101]) = false := by rw [h9]; rfl
    have t7 : (o.toList == [115, 104, 97, 114, 101, 100]) = false := by rw [h9]; rfl
    have t8 : (o.toList == [114, 115, 104, 97, 114, 101, 100]) = false := by rw [h9]; rfl
    have t9 : (o.toList == [115, 108, 97, 118, 101]) = true := by rw [h9]; rfl
    by_cases ht : lb v.typ = [98, 105, 110, 100]
    · have M := Aside0.mk (show modeV v o = some ({ v with pr := o }, ⟨#[115, 104, 97, 114, 101, 100]⟩) by simp [modeV, isZ, isBind, ← toList_lb, h9, show v.typ.toList = [98, 105, 110, 100] from (toList_lb _).trans ht])
      have ty2 : (v.typ.toList == [98, 105, 110, 100]) = true := by rw [toList_lb, ht]; rfl
      have ty : (v.typ.toList != [98, 105, 110, 100]) = false := by rw [toList_lb, ht]; rfl
      clear h9 ht
      go_enter Tryd.func23, Tryd.ntmps23
      go_wp2_with fail
      refine (show ∀ W : World, Two w W { v with pr := o } → Code.wp _ _ _ _ W from ?_) _ (Two.mk0 w { v with pr := o })
      intro W hW
      generalize ({ v with pr := o } : SpecV) = v2 at hW M
      generalize (⟨#[115, 104, 97, 114, 101, 100]⟩ : ByteArray) = cl at M ⊢
      have hlt := cb_lt hW.b
      have CM := Aside0.mk (mapsIn (c := c) cl W.drew (Kd.C_below H.out hW.below.drew) hn)
      generalize hib : inB seen cl = ib at CM
      have IB := Aside0.mk hib
      clear hib
      have c0 : W.cell? ⟨w.heap.size, 0, none⟩ = some (.string v2.typ) := cb_cell (i := 0) hW.a rfl
      have r0 : W.cell? ⟨w.heap.size + 1, 0, none⟩ = some (.string ⟨#[]⟩) := cb_cell (i := 0) hW.b rfl
      have f0 := cb_frozen (i := 0) hW.b
      have c1 : W.cell? ⟨w.heap.size, 1, none⟩ = some (.string v2.src) := cb_cell (i := 1) hW.a rfl
      have r1 : W.cell? ⟨w.heap.size + 1, 1, none⟩ = some (.string ⟨#[]⟩) := cb_cell (i := 1) hW.b rfl
      have f1 := cb_frozen (i := 1) hW.b
      have c2 : W.cell? ⟨w.heap.size, 2, none⟩ = some (.string v2.tgt) := cb_cell (i := 2) hW.a rfl
      have r2 : W.cell? ⟨w.heap.size + 1, 2, none⟩ = some (.string ⟨#[]⟩) := cb_cell (i := 2) hW.b rfl
      have f2 := cb_frozen (i := 2) hW.b
      have c3 : W.cell? ⟨w.heap.size, 3, none⟩ = some (.string v2.pr) := cb_cell (i := 3) hW.a rfl
      have r3 : W.cell? ⟨w.heap.size + 1, 3, none⟩ = some (.string ⟨#[]⟩) := cb_cell (i := 3) hW.b rfl
      have f3 := cb_frozen (i := 3) hW.b
      have c4 : W.cell? ⟨w.heap.size, 4, none⟩ = some (.string v2.se) := cb_cell (i := 4) hW.a rfl
      have r4 : W.cell? ⟨w.heap.size + 1, 4, none⟩ = some (.string ⟨#[]⟩) := cb_cell (i := 4) hW.b rfl
      have f4 := cb_frozen (i := 4) hW.b
      have c5 : W.cell? ⟨w.heap.size, 5, none⟩ = some (.bool v2.ro) := cb_cell (i := 5) hW.a rfl
      have r5 : W.cell? ⟨w.heap.size + 1, 5, none⟩ = some (.bool false) := cb_cell (i := 5) hW.b rfl
      have f5 := cb_frozen (i := 5) hW.b
      have c6 : W.cell? ⟨w.heap.size, 6, none⟩ = some (.bool v2.ch) := cb_cell (i := 6) hW.a rfl
      have r6 : W.cell? ⟨w.heap.size + 1, 6, none⟩ = some (.bool false) := cb_cell (i := 6) hW.b rfl
      have f6 := cb_frozen (i := 6) hW.b
      have c7 : W.cell? ⟨w.heap.size, 7, none⟩ = some (.bool v2.nc) := cb_cell (i := 7) hW.a rfl
      have r7 : W.cell? ⟨w.heap.size + 1, 7, none⟩ = some (.bool false) := cb_cell (i := 7) hW.b rfl
      have f7 := cb_frozen (i := 7) hW.b
      have HW := Aside0.mk hW
      clear hW
      refine start_ (n := 9) (S := fun w' => w'.cell? ⟨w.heap.size, 0, none⟩ = some (.string v2.typ) ∧ w'.cell? ⟨w.heap.size, 1, none⟩ = some (.string v2.src) ∧ w'.cell? ⟨w.heap.size, 2, none⟩ = some (.string v2.tgt) ∧ w'.cell? ⟨w.heap.size, 3, none⟩ = some (.string v2.pr) ∧ w'.cell? ⟨w.heap.size, 4, none⟩ = some (.string v2.se) ∧ w'.cell? ⟨w.heap.size, 5, none⟩ = some (.bool v2.ro) ∧ w'.cell? ⟨w.heap.size, 6, none⟩ = some (.bool v2.ch) ∧ w'.cell? ⟨w.heap.size, 7, none⟩ = some (.bool v2.nc)) (ds := [6]) #[false, false, false, false, false, false, false, false, false] (by kernel_rfl) rfl rfl ⟨c0, c1, c2, c3, c4, c5, c6, c7⟩ (fun hHeld => ?_)
      refine pure_ (i := 1) (N := some 53) (v := ?_) (a' := ?_) #[false, true, false, false, false, false, false, false, false] rfl rfl (by kernel_rfl) (fun _ _ _ h => h) (Or.inl ⟨by rfl, ?_⟩) ?_ ?_
      rotate_left
      · intro w'
        go_simp
        with_reducible rfl
      rotate_left
      · simp only [Act.put, List.setIfInBounds_toArray, List.set_cons_zero, List.set_cons_succ, i64_w, i32_w]
        rfl
      refine pure_ (i := 2) (N := some 54) (v := ?_) (a' := ?_) #[false, true, true, false, false, false, false, false, false] rfl rfl (by kernel_rfl) (fun _ _ _ h => h) (Or.inl ⟨by rfl, ?_⟩) ?_ ?_
      rotate_left
      · intro w'
        go_simp
        with_reducible rfl
      rotate_left
      · simp only [Act.put, List.setIfInBounds_toArray, List.set_cons_zero, List.set_cons_succ, i64_w, i32_w]
        rfl
      refine pure_ (i := 3) (N := some 55) (v := ?_) (a' := ?_) #[false, true, true, true, false, false, false, false, false] rfl rfl (by kernel_rfl) (fun _ _ _ h => h) (Or.inl ⟨by rfl, ?_⟩) ?_ ?_
      rotate_left
      · intro w'
        go_simp
        with_reducible rfl
      rotate_left
      · simp only [Act.put, List.setIfInBounds_toArray, List.set_cons_zero, List.set_cons_succ, i64_w, i32_w]
        rfl
      refine take_ (i := 0) (N := some 52) (v := ?_) (a' := ?_) #[true, true, true, true, false, false, false, false, false] rfl rfl (by kernel_rfl) (fun _ _ _ h => h) (Or.inl ⟨by rfl, ?_⟩) hHeld ?_ ?_
      rotate_left
      · rintro w' ⟨s0, s1, s2, s3, s4, s5, s6, s7⟩
        go_simp
        with_reducible rfl
      rotate_left
      · simp only [Act.put, List.setIfInBounds_toArray, List.set_cons_zero, List.set_cons_succ, i64_w, i32_w]
        rfl
      refine one_ (i := 4) (N := some 56) #[true, true, true, true, true, false, false, false, false] rfl rfl (by kernel_rfl) (by decide) (fun K hK => ?_)
      refine goes_ Tryd.func33 (by kernel_rfl) rfl #[.slice A seen.length c, .string cl] (by rfl) rfl rfl (by simp only [List.map_toArray, List.map_cons, List.map_nil]; rfl) ?_
      with_reducible refine (CM.out).mono ?_
      rintro e w3 ⟨rfl, rfl⟩
      refine ⟨_, rfl, ?_⟩
      refine hK.out _ _ ⟨hHeld.1, hHeld.2.1, hHeld.2.2.1, hHeld.2.2.2.1, hHeld.2.2.2.2.1, hHeld.2.2.2.2.2.1, hHeld.2.2.2.2.2.2.1, hHeld.2.2.2.2.2.2.2⟩ (fun hHeld => ?_)
      clear hK K
      refine norm_ (a' := ?_) ?_ ?_
      rotate_left
      · show Act.put _ (some 56) _ = _
        simp only [Act.put, List.setIfInBounds_toArray, List.set_cons_zero, List.set_cons_succ, i64_w, i32_w]
        rfl
      refine pure_ (i := 5) (N := some 57) (v := ?_) (a' := ?_) #[true, true, true, true, true, true, false, false, false] rfl rfl (by kernel_rfl) (fun _ _ _ h => h) (Or.inl ⟨by rfl, ?_⟩) ?_ ?_
      rotate_left
      · intro w'
        go_simp
        with_reducible rfl
      rotate_left
      · simp only [Act.put, List.setIfInBounds_toArray, List.set_cons_zero, List.set_cons_succ, i64_w, i32_w]
        rfl
      refine last_ (i := 6) (N := none) #[true, true, true, true, true, true, true, false, false] rfl rfl (by kernel_rfl) (by decide) (fun K hK => ?_)
      refine skip_ (w1 := ?_) (by rfl) rfl ?_ ?_
      rotate_left
      · go_simp
        rfl
      refine hK.out _ _ ?_
      clear hK K
      refine pure_ (i := 7) (N := some 7) (v := ?_) (a' := ?_) #[true, true, true, true, true, true, true, true, false] rfl rfl (by kernel_rfl) (fun _ _ _ h => h) (Or.inl ⟨by rfl, ?_⟩) ?_ ?_
      rotate_left
      · intro w'
        go_simp
        with_reducible rfl
      rotate_left
      · simp only [Act.put, List.setIfInBounds_toArray, List.set_cons_zero, List.set_cons_succ, i64_w, i32_w]
        rfl
      refine pure_ (i := 8) (N := some 8) (v := ?_) (a' := ?_) #[true, true, true, true, true, true, true, true, true] rfl rfl (by kernel_rfl) (fun _ _ _ h => h) (Or.inl ⟨by rfl, ?_⟩) ?_ ?_
      rotate_left
      · intro w'
        go_simp
        with_reducible rfl
      rotate_left
      · simp only [Act.put, List.setIfInBounds_toArray, List.set_cons_zero, List.set_cons_succ, i64_w, i32_w]
        rfl
      refine done_ (by kernel_rfl) ?_
      go_wp2
      refine bodyPost_ret (v := .tuple #[.agg (specC v2), .string cl, .bool (!ib)]) ?_ rfl ?_
      · rw [results_cell2 rfl]
        go_simp
        rfl
      · refine ⟨?_, v2, cl, !ib, rfl, fun hh => ⟨M.out, IB.out.trans (by simpa using hh)⟩⟩
        refine Below.drew ?_
        exact HW.out.sets _ _ _ _ _ _ _ _
    · have ty2 : (v.typ.toList == [98, 105, 110, 100]) = false := by rw [toList_lb]; simpa using ht
      have ty : (v.typ.toList != [98, 105, 110, 100]) = true := by rw [toList_lb]; simpa using ht
      clear h9 ht
      go_enter Tryd.func23, Tryd.ntmps23
      go_wp2
      refine bodyPost_ret (v := .tuple #[.agg (specC { v with pr := o }), .string ⟨#[115, 104, 97, 114, 101, 100]⟩, .bool false]) ?_ rfl ⟨?_, { v with pr := o }, ⟨#[115, 104, 97, 114, 101, 100]⟩, false, rfl, fun h => by cases h⟩
      · rw [results_cell2 rfl]
        go_simp
        rfl
      · exact ((Below.refl _ w).alloc (Nat.le_refl _) _).alloc (by simp) _
  by_cases h10 : o.toList = [114, 115, 108, 97, 118, 101]
  · have t0 : (o.toList == [114, 111]) = false := by rw [h10]; rfl
    have t1 : (o.toList == [114, 119]) = false := by rw [h10]; rfl
    have t2 : (o.toList == [110, 111, 99, 111, 112, 121]) = false := by rw [h10]; rfl
    have t3 : (o.toList == [122]) = false := by rw [h10]; rfl
    have t4 : (o.toList == [90]) = false := by rw [h10]; rfl
    have t5 : (o.toList == [112, 114, 105, 118, 97, 116, 101]) = false := by rw [h10]; rfl
    have t6 : (o.toList == [114, 112, 114, 105, 118, 97, 116, 101]) = false := by rw [h10]; rfl
    have t7 : (o.toList == [115, 104, 97, 114, 101, 100]) = false := by rw [h10]; rfl
    have t8 : (o.toList == [114, 115, 104, 97, 114, 101, 100]) = false := by rw [h10]; rfl
    have t9 : (o.toList == [115, 108, 97, 118, 101]) = false := by rw [h10]; rfl
    have t10 : (o.toList == [114, 115, 108, 97, 118, 101]) = true := by rw [h10]; rfl
    by_cases ht : lb v.typ = [98, 105, 110, 100]
    · have M := Aside0.mk (show modeV v o = some ({ v with pr := o }, ⟨#[115, 104, 97, 114, 101, 100]⟩) by simp [modeV, isZ, isBind, ← toList_lb, h10, show v.typ.toList = [98, 105, 110, 100] from (toList_lb _).trans ht])
      have ty2 : (v.typ.toList == [98, 105, 110, 100]) = true := by rw [toList_lb, ht]; rfl
      have ty : (v.typ.toList != [98, 105, 110, 100]) = false := by rw [toList_lb, ht]; rfl
      clear h10 ht
      go_enter Tryd.func23, Tryd.ntmps23
      go_wp2_with fail
      refine (show ∀ W : World, Two w W { v with pr := o } → Code.wp _ _ _ _ W from ?_) _ (Two.mk0 w { v with pr := o })
      intro W hW
      generalize ({ v with pr := o } : SpecV) = v2 at hW M
      generalize (⟨#[115, 104, 97, 114, 101, 100]⟩ : ByteArray) = cl at M ⊢
      have hlt := cb_lt hW.b
      have CM := Aside0.mk (mapsIn (c := c) cl W.drew (Kd.C_below H.out hW.below.drew) hn)
      generalize hib : inB seen cl = ib at CM
      have IB := Aside0.mk hib
      clear hib
      have c0 : W.cell? ⟨w.heap.size, 0, none⟩ = some (.string v2.typ) := cb_cell (i := 0) hW.a rfl
      have r0 : W.cell? ⟨w.heap.size + 1, 0, none⟩ = some (.string ⟨#[]⟩) := cb_cell (i := 0) hW.b rfl
      have f0 := cb_frozen (i := 0) hW.b
      have c1 : W.cell? ⟨w.heap.size, 1, none⟩ = some (.string v2.src) := cb_cell (i := 1) hW.a rfl
      have r1 : W.cell? ⟨w.heap.size + 1, 1, none⟩ = some (.string ⟨#[]⟩) := cb_cell (i := 1) hW.b rfl
      have f1 := cb_frozen (i := 1) hW.b
      have c2 : W.cell? ⟨w.heap.size, 2, none⟩ = some (.string v2.tgt) := cb_cell (i := 2) hW.a rfl
      have r2 : W.cell? ⟨w.heap.size + 1, 2, none⟩ = some (.string ⟨#[]⟩) := cb_cell (i := 2) hW.b rfl
      have f2 := cb_frozen (i := 2) hW.b
      have c3 : W.cell? ⟨w.heap.size, 3, none⟩ = some (.string v2.pr) := cb_cell (i := 3) hW.a rfl
      have r3 : W.cell? ⟨w.heap.size + 1, 3, none⟩ = some (.string ⟨#[]⟩) := cb_cell (i := 3) hW.b rfl
      have f3 := cb_frozen (i := 3) hW.b
      have c4 : W.cell? ⟨w.heap.size, 4, none⟩ = some (.string v2.se) := cb_cell (i := 4) hW.a rfl
      have r4 : W.cell? ⟨w.heap.size + 1, 4, none⟩ = some (.string ⟨#[]⟩) := cb_cell (i := 4) hW.b rfl
      have f4 := cb_frozen (i := 4) hW.b
      have c5 : W.cell? ⟨w.heap.size, 5, none⟩ = some (.bool v2.ro) := cb_cell (i := 5) hW.a rfl
      have r5 : W.cell? ⟨w.heap.size + 1, 5, none⟩ = some (.bool false) := cb_cell (i := 5) hW.b rfl
      have f5 := cb_frozen (i := 5) hW.b
      have c6 : W.cell? ⟨w.heap.size, 6, none⟩ = some (.bool v2.ch) := cb_cell (i := 6) hW.a rfl
      have r6 : W.cell? ⟨w.heap.size + 1, 6, none⟩ = some (.bool false) := cb_cell (i := 6) hW.b rfl
      have f6 := cb_frozen (i := 6) hW.b
      have c7 : W.cell? ⟨w.heap.size, 7, none⟩ = some (.bool v2.nc) := cb_cell (i := 7) hW.a rfl
      have r7 : W.cell? ⟨w.heap.size + 1, 7, none⟩ = some (.bool false) := cb_cell (i := 7) hW.b rfl
      have f7 := cb_frozen (i := 7) hW.b
      have HW := Aside0.mk hW
      clear hW
      refine start_ (n := 9) (S := fun w' => w'.cell? ⟨w.heap.size, 0, none⟩ = some (.string v2.typ) ∧ w'.cell? ⟨w.heap.size, 1, none⟩ = some (.string v2.src) ∧ w'.cell? ⟨w.heap.size, 2, none⟩ = some (.string v2.tgt) ∧ w'.cell? ⟨w.heap.size, 3, none⟩ = some (.string v2.pr) ∧ w'.cell? ⟨w.heap.size, 4, none⟩ = some (.string v2.se) ∧ w'.cell? ⟨w.heap.size, 5, none⟩ = some (.bool v2.ro) ∧ w'.cell? ⟨w.heap.size, 6, none⟩ = some (.bool v2.ch) ∧ w'.cell? ⟨w.heap.size, 7, none⟩ = some (.bool v2.nc)) (ds := [6]) #[false, false, false, false, false, false, false, false, false] (by kernel_rfl) rfl rfl ⟨c0, c1, c2, c3, c4, c5, c6, c7⟩ (fun hHeld => ?_)
      refine pure_ (i := 1) (N := some 53) (v := ?_) (a' := ?_) #[false, true, false, false, false, false, false, false, false] rfl rfl (by kernel_rfl) (fun _ _ _ h => h) (Or.inl ⟨by rfl, ?_⟩) ?_ ?_
      rotate_left
      · intro w'
        go_simp
        with_reducible rfl
      rotate_left
      · simp only [Act.put, List.setIfInBounds_toArray, List.set_cons_zero, List.set_cons_succ, i64_w, i32_w]
        rfl
      refine pure_ (i := 2) (N := some 54) (v := ?_) (a' := ?_) #[false, true, true, false, false, false, false, false, false] rfl rfl (by kernel_rfl) (fun _ _ _ h => h) (Or.inl ⟨by rfl, ?_⟩) ?_ ?_
      rotate_left
      · intro w'
        go_simp
        with_reducible rfl
      rotate_left
      · simp only [Act.put, List.setIfInBounds_toArray, List.set_cons_zero, List.set_cons_succ, i64_w, i32_w]
        rfl
      refine pure_ (i := 3) (N := some 55) (v := ?_) (a' := ?_) #[false, true, true, true, false, false, false, false, false] rfl rfl (by kernel_rfl) (fun _ _ _ h => h) (Or.inl ⟨by rfl, ?_⟩) ?_ ?_
      rotate_left
      · intro w'
        go_simp
        with_reducible rfl
      rotate_left
      · simp only [Act.put, List.setIfInBounds_toArray, List.set_cons_zero, List.set_cons_succ, i64_w, i32_w]
        rfl
      refine take_ (i := 0) (N := some 52) (v := ?_) (a' := ?_) #[true, true, true, true, false, false, false, false, false] rfl rfl (by kernel_rfl) (fun _ _ _ h => h) (Or.inl ⟨by rfl, ?_⟩) hHeld ?_ ?_
      rotate_left
      · rintro w' ⟨s0, s1, s2, s3, s4, s5, s6, s7⟩
        go_simp
        with_reducible rfl
      rotate_left
      · simp only [Act.put, List.setIfInBounds_toArray, List.set_cons_zero, List.set_cons_succ, i64_w, i32_w]
        rfl
      refine one_ (i := 4) (N := some 56) #[true, true, true, true, true, false, false, false, false] rfl rfl (by kernel_rfl) (by decide) (fun K hK => ?_)
      refine goes_ Tryd.func33 (by kernel_rfl) rfl #[.slice A seen.length c, .string cl] (by rfl) rfl rfl (by simp only [List.map_toArray, List.map_cons, List.map_nil]; rfl) ?_
      with_reducible refine (CM.out).mono ?_
      rintro e w3 ⟨rfl, rfl⟩
      refine ⟨_, rfl, ?_⟩
      refine hK.out _ _ ⟨hHeld.1, hHeld.2.1, hHeld.2.2.1, hHeld.2.2.2.1, hHeld.2.2.2.2.1, hHeld.2.2.2.2.2.1, hHeld.2.2.2.2.2.2.1, hHeld.2.2.2.2.2.2.2⟩ (fun hHeld => ?_)
      clear hK K
      refine norm_ (a' := ?_) ?_ ?_
      rotate_left
      · show Act.put _ (some 56) _ = _
        simp only [Act.put, List.setIfInBounds_toArray, List.set_cons_zero, List.set_cons_succ, i64_w, i32_w]
        rfl
      refine pure_ (i := 5) (N := some 57) (v := ?_) (a' := ?_) #[true, true, true, true, true, true, false, false, false] rfl rfl (by kernel_rfl) (fun _ _ _ h => h) (Or.inl ⟨by rfl, ?_⟩) ?_ ?_
      rotate_left
      · intro w'
        go_simp
        with_reducible rfl
      rotate_left
      · simp only [Act.put, List.setIfInBounds_toArray, List.set_cons_zero, List.set_cons_succ, i64_w, i32_w]
        rfl
      refine last_ (i := 6) (N := none) #[true, true, true, true, true, true, true, false, false] rfl rfl (by kernel_rfl) (by decide) (fun K hK => ?_)
      refine skip_ (w1 := ?_) (by rfl) rfl ?_ ?_
      rotate_left
      · go_simp
        rfl
      refine hK.out _ _ ?_
      clear hK K
      refine pure_ (i := 7) (N := some 7) (v := ?_) (a' := ?_) #[true, true, true, true, true, true, true, true, false] rfl rfl (by kernel_rfl) (fun _ _ _ h => h) (Or.inl ⟨by rfl, ?_⟩) ?_ ?_
      rotate_left
      · intro w'
        go_simp
        with_reducible rfl
      rotate_left
      · simp only [Act.put, List.setIfInBounds_toArray, List.set_cons_zero, List.set_cons_succ, i64_w, i32_w]
        rfl
      refine pure_ (i := 8) (N := some 8) (v := ?_) (a' := ?_) #[true, true, true, true, true, true, true, true, true] rfl rfl (by kernel_rfl) (fun _ _ _ h => h) (Or.inl ⟨by rfl, ?_⟩) ?_ ?_
      rotate_left
      · intro w'
        go_simp
        with_reducible rfl
      rotate_left
      · simp only [Act.put, List.setIfInBounds_toArray, List.set_cons_zero, List.set_cons_succ, i64_w, i32_w]
        rfl
      refine done_ (by kernel_rfl) ?_
      go_wp2
      refine bodyPost_ret (v := .tuple #[.agg (specC v2), .string cl, .bool (!ib)]) ?_ rfl ?_
      · rw [results_cell2 rfl]
        go_simp
        rfl
      · refine ⟨?_, v2, cl, !ib, rfl, fun hh => ⟨M.out, IB.out.trans (by simpa using hh)⟩⟩
        refine Below.drew ?_
        exact HW.out.sets _ _ _ _ _ _ _ _
    · have ty2 : (v.typ.toList == [98, 105, 110, 100]) = false := by rw [toList_lb]; simpa using ht
      have ty : (v.typ.toList != [98, 105, 110, 100]) = true := by rw [toList_lb]; simpa using ht
      clear h10 ht
      go_enter Tryd.func23, Tryd.ntmps23
      go_wp2
      refine bodyPost_ret (v := .tuple #[.agg (specC { v with pr := o }), .string ⟨#[115, 104, 97, 114, 101, 100]⟩, .bool false]) ?_ rfl ⟨?_, { v with pr := o }, ⟨#[115, 104, 97, 114, 101, 100]⟩, false, rfl, fun h => by cases h⟩
      · rw [results_cell2 rfl]
        go_simp
        rfl
      · exact ((Below.refl _ w).alloc (Nat.le_refl _) _).alloc (by simp) _
  have t0 : (o.toList == [114, 111]) = false := beq_eq_false_iff_ne.mpr h0
  have t1 : (o.toList == [114, 119]) = false := beq_eq_false_iff_ne.mpr h1
  have t2 : (o.toList == [110, 111, 99, 111, 112, 121]) = false := beq_eq_false_iff_ne.mpr h2
  have t3 : (o.toList == [122]) = false := beq_eq_false_iff_ne.mpr h3
  have t4 : (o.toList == [90]) = false := beq_eq_false_iff_ne.mpr h4
  have t5 : (o.toList == [112, 114, 105, 118, 97, 116, 101]) = false := beq_eq_false_iff_ne.mpr h5
  have t6 : (o.toList == [114, 112, 114, 105, 118, 97, 116, 101]) = false := beq_eq_false_iff_ne.mpr h6
  have t7 : (o.toList == [115, 104, 97, 114, 101, 100]) = false := beq_eq_false_iff_ne.mpr h7
  have t8 : (o.toList == [114, 115, 104, 97, 114, 101, 100]) = false := beq_eq_false_iff_ne.mpr h8
  have t9 : (o.toList == [115, 108, 97, 118, 101]) = false := beq_eq_false_iff_ne.mpr h9
  have t10 : (o.toList == [114, 115, 108, 97, 118, 101]) = false := beq_eq_false_iff_ne.mpr h10
  clear h0 h1 h2 h3 h4 h5 h6 h7 h8 h9 h10
  go_enter Tryd.func23, Tryd.ntmps23
  go_wp2
  refine bodyPost_ret (v := .tuple #[.agg (specC { v with ro := v.ro }), .string o, .bool false]) ?_ rfl ⟨?_, { v with ro := v.ro }, o, false, rfl, fun h => by cases h⟩
  · rw [results_cell2 rfl]
    go_simp
    rfl
  · exact ((Below.refl _ w).alloc (Nat.le_refl _) _).alloc (by simp) _
end Go.Proofs.YtpkfdifoaijpnaaDoor.Vol
