/- The thin package's ParseVolume. -/
import Derived.Test.YtpkfdifoaijpnaaDoorVolParse
import Derived.Test.YtpkfdifoaijpnaaDoorWLast
namespace Go.Proofs.YtpkfdifoaijpnaaDoor.Vol
open Go.RowKit Go.Proofs.YtpkfdifoaijpnaaDoorW.PrintWords Go.Proofs.YtpkfdifoaijpnaaDoorW.PrintLast Go.Proofs.YtpkfdifoaijpnaaDoor.Str Go.Proofs.YtpkfdifoaijpnaaDoor.Kit Go.Proofs.YtpkfdifoaijpnaaDoor.Frame Go.Proofs.YtpkfdifoaijpnaaDoor.Index
set_option linter.unusedVariables false
set_option linter.unusedSimpArgs false

/-- the thin package's mount -/
def implC (v : VolV) : Array Value :=
  #[.string v.typ, .string v.src, .string v.tgt, .string ⟨#[]⟩, .string ((v.bind.map (·.pr)).getD ⟨#[]⟩), .string ((v.bind.map (·.se)).getD ⟨#[]⟩), .bool v.ro, .bool ((v.bind.map (·.ch)).getD false), .bool (v.own.getD false), .bool v.bind.isSome, .bool v.own.isSome, .bool false]
def zeroC : Array Value := #[.string ⟨#[]⟩, .string ⟨#[]⟩, .string ⟨#[]⟩, .string ⟨#[]⟩, .string ⟨#[]⟩, .string ⟨#[]⟩, .bool false, .bool false, .bool false, .bool false, .bool false, .bool false]
def implR : Option VolV → Array Value
  | none => zeroC
  | some v => implC v

theorem zero_one : zeroC.all (·.oneCell') = true := by simp [zeroC, Value.oneCell']
theorem imp_one (v : VolV) : (implC v).all (·.oneCell') = true := by simp [implC, Value.oneCell']
theorem imp_info : (Tryd.prog.info? 26).map (·.size) = some 12 := by kernel_rfl
section
variable {ops : Array Oper} {rest : List Oper} {o : Oper} {a : Act} {Q : Exit → Act → World → Prop}
theorem store_imp {w : World} {b : Nat} {C X : Array Value} (x y : Operand) (hgd : o.guard = none) (ho : o.op = .store 26 x y) (hx : a.eval x = .pointer (some ⟨b, 0, none⟩)) (hy : a.eval y = .agg C) (hb : w.heap[b]? = some (.cells X 26 (0, 0))) (hC : C.size = 12) (hX : X.size = 12) (h1 : C.all (·.oneCell') = true)
    (h : wpList Tryd.prog ops Q rest (a.put o.dst undef) (w.setRow b C)) : wpList Tryd.prog ops Q (o :: rest) a w :=
  wpList_store_row hgd _ x y ho b _ hx hy _ _ hb (by rw [hC]; exact imp_info) (by rw [hC, hX]) h1 h
theorem load_imp {w : World} {b : Nat} {C : Array Value} (x : Operand) (hgd : o.guard = none) (ho : o.op = .load 26 x) (hx : a.eval x = .pointer (some ⟨b, 0, none⟩)) (hb : w.heap[b]? = some (.cells C 26 (0, 0))) (hC : C.size = 12)
    (h : wpList Tryd.prog ops Q rest (a.put o.dst (.agg C)) w) : wpList Tryd.prog ops Q (o :: rest) a w :=
  wpList_load_row hgd _ x ho b hx _ _ _ _ hb Tryd.underlying26 rfl (by rw [hC]; exact imp_info) h
end
theorem imp_result {tmps : Array Value} {w : World} {r : Nat} {C : Array Value} (h2 : tmps.getD 2 undef = .pointer (some ⟨r, 0, none⟩)) (hr : w.heap[r]? = some (.cells C 26 (0, 0))) (hC : C.size = 12) :
    (results Tryd.f12 tmps).run Tryd.prog w = .ok (.tuple #[.agg C, tmps.getD 3 undef]) w := by
  rw [results_cell_tmp rfl, h2]
  simp only [asAddr, Sem.run_pure, Result.andThen_ok, run_loadVar_row w r _ _ _ _ _ hr Tryd.underlying26 rfl (by rw [hC]; exact imp_info)]
theorem cellK {w : World} {b i k j : Nat} {v x : Value} (h : w.cell? ⟨k, j, none⟩ = some x) (hn : k ≠ b) : (w.setCell ⟨b, i, none⟩ v).cell? ⟨k, j, none⟩ = some x := by
  have ht := (Turns.setCell w b i v).block k (World.block_lt_of_cell? w _ h) hn
  exact (World.cell?_of_block ht).trans h
def midC (typ src tgt : ByteArray) (ro : Bool) (pv : Option Nat) : Array Value :=
  #[.string typ, .string src, .string tgt, .string ⟨#[]⟩, .string ⟨#[]⟩, .string ⟨#[]⟩, .bool ro, .bool false, .bool false, .bool true, .bool pv.isSome, .bool false]
theorem vol_arr (v : VolV) (pb pv : Option Nat) : volC v pb pv = #[.string v.typ, .string v.src, .string v.tgt, .bool v.ro, .string ⟨#[]⟩, .pointer (pb.map fun k => ⟨k, 0, none⟩), .pointer (pv.map fun k => ⟨k, 0, none⟩), .pointer none] := rfl

set_option maxHeartbeats 3200000 in
set_option maxRecDepth 1000000 in
theorem implParse (s : ByteArray) (R : Option VolV) (w : World) (hP : ∀ w1, w.heap.size + 1 = w1.heap.size → Below w.heap.size w w1 → Calls Tryd.prog 21 #[.string s] w1 (PvPost R w1)) :
    Calls Tryd.prog 12 #[.string s] w fun e w' => e = .returned (.tuple #[.agg (implR R), .bool R.isSome]) ∧ Below w.heap.size w w' := by
  have HP := Aside0.mk hP
  clear hP
  have hb0 := alloc_below w (.cells zeroC 26)
  have HB0 := Aside0.mk hb0
  have hn0 := cb_new w (.cells zeroC 26)
  have HN0 := Aside0.mk hn0
  clear hb0 hn0
  go_enter Tryd.func12, Tryd.ntmps12
  go_wp2_with fail
  change Calls _ _ _ (w.alloc (.cells zeroC 26)) _
  have hsz : (w.alloc (.cells zeroC 26)).heap.size = w.heap.size + 1 := by simp
  generalize w.alloc (.cells zeroC 26) = w0 at *
  refine (HP.out w0 hsz.symm HB0.out).mono ?_
  rintro e w1 ⟨hb, hpost⟩
  have HB1 := Aside0.mk (Below.trans HB0.out (hb.mono (by omega)))
  have hn1 : w1.heap[w.heap.size]? = some (.cells zeroC 26 (0, 0)) := (hb.block _ (by omega)).trans HN0.out
  have hlt1 : w.heap.size < w1.heap.size := cb_lt hn1
  have HN1 := Aside0.mk hn1
  clear hb hn1
  cases R with
  | none =>
    obtain ⟨v, pb, pv, t, a, rfl⟩ := hpost
    rw [vol_arr]
    go_wp2_with (refine store_imp (C := zeroC) (.tmp 2) (.tmp 14) rfl rfl rfl rfl (cb_alloc HN1.out _) rfl rfl zero_one ?_)
    refine bodyPost_ret (imp_result (C := zeroC) rfl (setRow_heap _ _ _ _ _ _ (cb_alloc HN1.out _)) rfl) rfl ?_
    exact ⟨rfl, (turns_setRow _ w.heap.size zeroC).below (hb_then HB1.out (alloc_below w1 _)) (fun k hk e => by omega)⟩
  | some v =>
    obtain ⟨pb, pv, rfl, hbi, how⟩ := hpost
    obtain ⟨typ, src, tgt, ro, bind, own⟩ := v
    rw [vol_arr]
    have FIN : ∀ (w3 : World) (C : Array Value), w3.heap[w.heap.size]? = some (.cells zeroC 26 (0, 0)) → Below w.heap.size w w3 → Below w.heap.size w (w3.setRow w.heap.size C) := fun w3 C h1 h2 => (turns_setRow _ w.heap.size C).below h2 (fun k hk e => by omega)
    have HFIN := Aside0.mk FIN
    clear FIN
    cases pb with
    | none =>
      cases bind with
      | some _ => exact hbi.elim
      | none =>
        simp only [Option.map_none]
        cases pv with
        | none =>
          cases own with
          | some _ => exact how.elim
          | none =>
            simp only [Option.map_none]
            go_wp2_with (refine store_imp (C := implC ⟨typ, src, tgt, ro, none, none⟩) (.tmp 2) (.tmp 65) rfl rfl rfl rfl (cb_alloc (cb_alloc HN1.out _) _) rfl rfl (imp_one _) ?_)
            refine bodyPost_ret (imp_result rfl (setRow_heap _ _ _ _ _ _ (cb_alloc (cb_alloc HN1.out _) _)) rfl) rfl ?_
            exact ⟨rfl, HFIN.out _ _ (cb_alloc (cb_alloc HN1.out _) _) (hb_then HB1.out (hb_then (alloc_below w1 _) (alloc_below _ _)))⟩
        | some k =>
          cases own with
          | none => exact how.elim
          | some nc =>
            have hk : w1.heap[k]? = some (.cells (ownC nc) 57 (0, 0)) := how
            have ck : w1.cell? ⟨k, 1, none⟩ = some (.bool nc) := cb_cell (i := 1) hk rfl
            have hkl := cb_lt hk
            simp only [Option.map_some]
            clear hk how
            go_wp2_with (refine store_imp (C := implC ⟨typ, src, tgt, ro, none, some nc⟩) (.tmp 2) (.tmp 65) rfl rfl rfl rfl (cb_alloc (cb_alloc HN1.out _) _) rfl rfl (imp_one _) ?_)
            refine bodyPost_ret (imp_result rfl (setRow_heap _ _ _ _ _ _ (cb_alloc (cb_alloc HN1.out _) _)) rfl) rfl ?_
            exact ⟨rfl, HFIN.out _ _ (cb_alloc (cb_alloc HN1.out _) _) (hb_then HB1.out (hb_then (alloc_below w1 _) (alloc_below _ _)))⟩
    | some kb =>
      cases bind with
      | none => exact hbi.elim
      | some x =>
        obtain ⟨se, pr, ch⟩ := x
        have hkb : w1.heap[kb]? = some (.cells (bindC ⟨se, pr, ch⟩) 53 (0, 0)) := hbi
        have HKB := Aside0.mk hkb
        have hkbl := cb_lt hkb
        clear hkb hbi
        have HOW := Aside0.mk how
        clear how
        go_wp2_with fail
        change Code.wp _ _ _ _ ((w1.alloc (.cells (volC ⟨typ, src, tgt, ro, some ⟨se, pr, ch⟩, own⟩ (some kb) pv) 46)).alloc (.cells (midC typ src tgt ro pv) 26))
        have H6 := cb_new (w1.alloc (.cells (volC ⟨typ, src, tgt, ro, some ⟨se, pr, ch⟩, own⟩ (some kb) pv) 46)) (.cells (midC typ src tgt ro pv) 26)
        rw [World.size_alloc] at H6
        have h4 := cb_alloc (cb_new w1 (.cells (volC ⟨typ, src, tgt, ro, some ⟨se, pr, ch⟩, own⟩ (some kb) pv) 46)) (.cells (midC typ src tgt ro pv) 26)
        have hB6 := hb_then (alloc_below w1 (.cells (volC ⟨typ, src, tgt, ro, some ⟨se, pr, ch⟩, own⟩ (some kb) pv) 46)) (alloc_below _ (.cells (midC typ src tgt ro pv) 26))
        generalize (w1.alloc (.cells (volC ⟨typ, src, tgt, ro, some ⟨se, pr, ch⟩, own⟩ (some kb) pv) 46)).alloc (.cells (midC typ src tgt ro pv) 26) = W6 at *
        have HB6 := Aside0.mk hB6
        have H60 := Aside0.mk H6
        have q4 : W6.cell? ⟨w1.heap.size + 1, 4, none⟩ = some (.string ⟨#[]⟩) := cb_cell (i := 4) H6 rfl
        have q5 : W6.cell? ⟨w1.heap.size + 1, 5, none⟩ = some (.string ⟨#[]⟩) := cb_cell (i := 5) H6 rfl
        have q7 : W6.cell? ⟨w1.heap.size + 1, 7, none⟩ = some (.bool false) := cb_cell (i := 7) H6 rfl
        have z4 := cb_frozen (i := 4) H6
        have z5 := cb_frozen (i := 5) H6
        have z7 := cb_frozen (i := 7) H6
        have H4 := Aside0.mk h4
        have c45 : W6.cell? ⟨w1.heap.size, 5, none⟩ = some (.pointer (some ⟨kb, 0, none⟩)) := cb_cell (i := 5) h4 rfl
        have hk6 := (hB6.block _ hkbl).trans HKB.out
        have k0 : W6.cell? ⟨kb, 0, none⟩ = some (.string se) := cb_cell (i := 0) hk6 rfl
        have k1 : W6.cell? ⟨kb, 1, none⟩ = some (.string pr) := cb_cell (i := 1) hk6 rfl
        have k2 : W6.cell? ⟨kb, 2, none⟩ = some (.bool ch) := cb_cell (i := 2) hk6 rfl
        clear hk6 h4 hB6 H6
        refine start_ (n := 21) (S := fun w' => w'.cell? ⟨w1.heap.size, 5, none⟩ = some (.pointer (some ⟨kb, 0, none⟩)) ∧ w'.cell? ⟨kb, 0, none⟩ = some (.string se) ∧ w'.cell? ⟨kb, 1, none⟩ = some (.string pr) ∧ w'.cell? ⟨kb, 2, none⟩ = some (.bool ch)) (ds := [20]) #[false, false, false, false, false, false, false, false, false, false, false, false, false, false, false, false, false, false, false, false, false] (by kernel_rfl) rfl rfl ⟨c45, k0, k1, k2⟩ (fun hHeld => ?_)
        refine pure_ (i := 0) (N := some 38) (v := ?_) (a' := ?_) #[true, false, false, false, false, false, false, false, false, false, false, false, false, false, false, false, false, false, false, false, false] rfl rfl (by kernel_rfl) (fun _ _ _ h => h) (Or.inl ⟨by rfl, ?_⟩) ?_ ?_
        rotate_left
        · intro w'
          go_simp
          with_reducible rfl
        rotate_left
        · simp only [Act.put, List.setIfInBounds_toArray, List.set_cons_zero, List.set_cons_succ, i64_w, i32_w]
          rfl
        refine pure_ (i := 5) (N := some 43) (v := ?_) (a' := ?_) #[true, false, false, false, false, true, false, false, false, false, false, false, false, false, false, false, false, false, false, false, false] rfl rfl (by kernel_rfl) (fun _ _ _ h => h) (Or.inl ⟨by rfl, ?_⟩) ?_ ?_
        rotate_left
        · intro w'
          go_simp
          with_reducible rfl
        rotate_left
        · simp only [Act.put, List.setIfInBounds_toArray, List.set_cons_zero, List.set_cons_succ, i64_w, i32_w]
          rfl
        refine pure_ (i := 10) (N := some 48) (v := ?_) (a' := ?_) #[true, false, false, false, false, true, false, false, false, false, true, false, false, false, false, false, false, false, false, false, false] rfl rfl (by kernel_rfl) (fun _ _ _ h => h) (Or.inl ⟨by rfl, ?_⟩) ?_ ?_
        rotate_left
        · intro w'
          go_simp
          with_reducible rfl
        rotate_left
        · simp only [Act.put, List.setIfInBounds_toArray, List.set_cons_zero, List.set_cons_succ, i64_w, i32_w]
          rfl
        refine take_ (i := 1) (N := some 39) (v := ?_) (a' := ?_) #[true, true, false, false, false, true, false, false, false, false, true, false, false, false, false, false, false, false, false, false, false] rfl rfl (by kernel_rfl) (fun _ _ _ h => h) (Or.inl ⟨by rfl, ?_⟩) hHeld ?_ ?_
        rotate_left
        · rintro w' ⟨s0, s1, s2, s3⟩
          go_simp
          with_reducible rfl
        rotate_left
        · simp only [Act.put, List.setIfInBounds_toArray, List.set_cons_zero, List.set_cons_succ, i64_w, i32_w]
          rfl
        refine pure_ (i := 2) (N := some 40) (v := ?_) (a' := ?_) #[true, true, true, false, false, true, false, false, false, false, true, false, false, false, false, false, false, false, false, false, false] rfl rfl (by kernel_rfl) (fun _ _ _ h => h) (Or.inl ⟨by rfl, ?_⟩) ?_ ?_
        rotate_left
        · intro w'
          go_simp
          with_reducible rfl
        rotate_left
        · simp only [Act.put, List.setIfInBounds_toArray, List.set_cons_zero, List.set_cons_succ, i64_w, i32_w]
          rfl
        refine pure_ (i := 3) (N := some 41) (v := ?_) (a' := ?_) #[true, true, true, true, false, true, false, false, false, false, true, false, false, false, false, false, false, false, false, false, false] rfl rfl (by kernel_rfl) (fun _ _ _ h => h) (Or.inl ⟨by rfl, ?_⟩) ?_ ?_
        rotate_left
        · intro w'
          go_simp
          with_reducible rfl
        rotate_left
        · simp only [Act.put, List.setIfInBounds_toArray, List.set_cons_zero, List.set_cons_succ, i64_w, i32_w]
          rfl
        refine take_ (i := 4) (N := some 42) (v := ?_) (a' := ?_) #[true, true, true, true, true, true, false, false, false, false, true, false, false, false, false, false, false, false, false, false, false] rfl rfl (by kernel_rfl) (fun _ _ _ h => h) (Or.inl ⟨by rfl, ?_⟩) hHeld ?_ ?_
        rotate_left
        · rintro w' ⟨s0, s1, s2, s3⟩
          go_simp
          with_reducible rfl
        rotate_left
        · simp only [Act.put, List.setIfInBounds_toArray, List.set_cons_zero, List.set_cons_succ, i64_w, i32_w]
          rfl
        refine pure_ (i := 15) (N := some 53) (v := ?_) (a' := ?_) #[true, true, true, true, true, true, false, false, false, false, true, false, false, false, false, true, false, false, false, false, false] rfl rfl (by kernel_rfl) (fun _ _ _ h => h) (Or.inl ⟨by rfl, ?_⟩) ?_ ?_
        rotate_left
        · intro w'
          go_simp
          with_reducible rfl
        rotate_left
        · simp only [Act.put, List.setIfInBounds_toArray, List.set_cons_zero, List.set_cons_succ, i64_w, i32_w]
          rfl
        refine take_ (i := 6) (N := some 44) (v := ?_) (a' := ?_) #[true, true, true, true, true, true, true, false, false, false, true, false, false, false, false, true, false, false, false, false, false] rfl rfl (by kernel_rfl) (fun _ _ _ h => h) (Or.inl ⟨by rfl, ?_⟩) hHeld ?_ ?_
        rotate_left
        · rintro w' ⟨s0, s1, s2, s3⟩
          go_simp
          with_reducible rfl
        rotate_left
        · simp only [Act.put, List.setIfInBounds_toArray, List.set_cons_zero, List.set_cons_succ, i64_w, i32_w]
          rfl
        refine pure_ (i := 7) (N := some 45) (v := ?_) (a' := ?_) #[true, true, true, true, true, true, true, true, false, false, true, false, false, false, false, true, false, false, false, false, false] rfl rfl (by kernel_rfl) (fun _ _ _ h => h) (Or.inl ⟨by rfl, ?_⟩) ?_ ?_
        rotate_left
        · intro w'
          go_simp
          with_reducible rfl
        rotate_left
        · simp only [Act.put, List.setIfInBounds_toArray, List.set_cons_zero, List.set_cons_succ, i64_w, i32_w]
          rfl
        refine pure_ (i := 8) (N := some 46) (v := ?_) (a' := ?_) #[true, true, true, true, true, true, true, true, true, false, true, false, false, false, false, true, false, false, false, false, false] rfl rfl (by kernel_rfl) (fun _ _ _ h => h) (Or.inl ⟨by rfl, ?_⟩) ?_ ?_
        rotate_left
        · intro w'
          go_simp
          with_reducible rfl
        rotate_left
        · simp only [Act.put, List.setIfInBounds_toArray, List.set_cons_zero, List.set_cons_succ, i64_w, i32_w]
          rfl
        refine take_ (i := 9) (N := some 47) (v := ?_) (a' := ?_) #[true, true, true, true, true, true, true, true, true, true, true, false, false, false, false, true, false, false, false, false, false] rfl rfl (by kernel_rfl) (fun _ _ _ h => h) (Or.inl ⟨by rfl, ?_⟩) hHeld ?_ ?_
        rotate_left
        · rintro w' ⟨s0, s1, s2, s3⟩
          go_simp
          with_reducible rfl
        rotate_left
        · simp only [Act.put, List.setIfInBounds_toArray, List.set_cons_zero, List.set_cons_succ, i64_w, i32_w]
          rfl
        refine take_ (i := 11) (N := some 49) (v := ?_) (a' := ?_) #[true, true, true, true, true, true, true, true, true, true, true, true, false, false, false, true, false, false, false, false, false] rfl rfl (by kernel_rfl) (fun _ _ _ h => h) (Or.inl ⟨by rfl, ?_⟩) hHeld ?_ ?_
        rotate_left
        · rintro w' ⟨s0, s1, s2, s3⟩
          go_simp
          with_reducible rfl
        rotate_left
        · simp only [Act.put, List.setIfInBounds_toArray, List.set_cons_zero, List.set_cons_succ, i64_w, i32_w]
          rfl
        refine pure_ (i := 12) (N := some 50) (v := ?_) (a' := ?_) #[true, true, true, true, true, true, true, true, true, true, true, true, true, false, false, true, false, false, false, false, false] rfl rfl (by kernel_rfl) (fun _ _ _ h => h) (Or.inl ⟨by rfl, ?_⟩) ?_ ?_
        rotate_left
        · intro w'
          go_simp
          with_reducible rfl
        rotate_left
        · simp only [Act.put, List.setIfInBounds_toArray, List.set_cons_zero, List.set_cons_succ, i64_w, i32_w]
          rfl
        refine pure_ (i := 13) (N := some 51) (v := ?_) (a' := ?_) #[true, true, true, true, true, true, true, true, true, true, true, true, true, true, false, true, false, false, false, false, false] rfl rfl (by kernel_rfl) (fun _ _ _ h => h) (Or.inl ⟨by rfl, ?_⟩) ?_ ?_
        rotate_left
        · intro w'
          go_simp
          with_reducible rfl
        rotate_left
        · simp only [Act.put, List.setIfInBounds_toArray, List.set_cons_zero, List.set_cons_succ, i64_w, i32_w]
          rfl
        refine take_ (i := 14) (N := some 52) (v := ?_) (a' := ?_) #[true, true, true, true, true, true, true, true, true, true, true, true, true, true, true, true, false, false, false, false, false] rfl rfl (by kernel_rfl) (fun _ _ _ h => h) (Or.inl ⟨by rfl, ?_⟩) hHeld ?_ ?_
        rotate_left
        · rintro w' ⟨s0, s1, s2, s3⟩
          go_simp
          with_reducible rfl
        rotate_left
        · simp only [Act.put, List.setIfInBounds_toArray, List.set_cons_zero, List.set_cons_succ, i64_w, i32_w]
          rfl
        refine one_ (i := 16) (N := none) #[true, true, true, true, true, true, true, true, true, true, true, true, true, true, true, true, true, false, false, false, false] rfl rfl (by kernel_rfl) (by decide) (fun K hK => ?_)
        refine skip_ (w1 := ?_) (by rfl) rfl ?_ ?_
        rotate_left
        · go_simp
          rfl
        refine hK.out _ _ ⟨show (W6.setCell ⟨w1.heap.size + 1, 4, none⟩ (.string pr)).cell? _ = _ from cellK c45 (by omega), show (W6.setCell ⟨w1.heap.size + 1, 4, none⟩ (.string pr)).cell? _ = _ from cellK k0 (by omega), show (W6.setCell ⟨w1.heap.size + 1, 4, none⟩ (.string pr)).cell? _ = _ from cellK k1 (by omega), show (W6.setCell ⟨w1.heap.size + 1, 4, none⟩ (.string pr)).cell? _ = _ from cellK k2 (by omega)⟩ (fun hHeld => ?_)
        clear hK K
        refine pure_ (i := 17) (N := some 54) (v := ?_) (a' := ?_) #[true, true, true, true, true, true, true, true, true, true, true, true, true, true, true, true, true, true, false, false, false] rfl rfl (by kernel_rfl) (fun _ _ _ h => h) (Or.inl ⟨by rfl, ?_⟩) ?_ ?_
        rotate_left
        · intro w'
          go_simp
          with_reducible rfl
        rotate_left
        · simp only [Act.put, List.setIfInBounds_toArray, List.set_cons_zero, List.set_cons_succ, i64_w, i32_w]
          rfl
        refine one_ (i := 18) (N := none) #[true, true, true, true, true, true, true, true, true, true, true, true, true, true, true, true, true, true, true, false, false] rfl rfl (by kernel_rfl) (by decide) (fun K hK => ?_)
        refine skip_ (w1 := ?_) (by rfl) rfl ?_ ?_
        rotate_left
        · go_simp
          rfl
        refine hK.out _ _ ⟨show ((W6.setCell ⟨w1.heap.size + 1, 4, none⟩ (.string pr)).setCell ⟨w1.heap.size + 1, 5, none⟩ (.string se)).cell? _ = _ from cellK (cellK c45 (by omega)) (by omega), show ((W6.setCell ⟨w1.heap.size + 1, 4, none⟩ (.string pr)).setCell ⟨w1.heap.size + 1, 5, none⟩ (.string se)).cell? _ = _ from cellK (cellK k0 (by omega)) (by omega), show ((W6.setCell ⟨w1.heap.size + 1, 4, none⟩ (.string pr)).setCell ⟨w1.heap.size + 1, 5, none⟩ (.string se)).cell? _ = _ from cellK (cellK k1 (by omega)) (by omega), show ((W6.setCell ⟨w1.heap.size + 1, 4, none⟩ (.string pr)).setCell ⟨w1.heap.size + 1, 5, none⟩ (.string se)).cell? _ = _ from cellK (cellK k2 (by omega)) (by omega)⟩ (fun hHeld => ?_)
        clear hK K
        refine pure_ (i := 19) (N := some 55) (v := ?_) (a' := ?_) #[true, true, true, true, true, true, true, true, true, true, true, true, true, true, true, true, true, true, true, true, false] rfl rfl (by kernel_rfl) (fun _ _ _ h => h) (Or.inl ⟨by rfl, ?_⟩) ?_ ?_
        rotate_left
        · intro w'
          go_simp
          with_reducible rfl
        rotate_left
        · simp only [Act.put, List.setIfInBounds_toArray, List.set_cons_zero, List.set_cons_succ, i64_w, i32_w]
          rfl
        refine last_ (i := 20) (N := none) #[true, true, true, true, true, true, true, true, true, true, true, true, true, true, true, true, true, true, true, true, true] rfl rfl (by kernel_rfl) (by decide) (fun K hK => ?_)
        refine skip_ (w1 := ?_) (by rfl) rfl ?_ ?_
        rotate_left
        · go_simp
          rfl
        refine hK.out _ _ ?_
        clear hK K
        refine done_ (by kernel_rfl) ?_
        change Exit.then _ _ _ _ ((((W6.setCell ⟨w1.heap.size + 1, 4, none⟩ (.string pr)).setCell ⟨w1.heap.size + 1, 5, none⟩ (.string se)).setCell ⟨w1.heap.size + 1, 7, none⟩ (.bool ch)).drew)
        have H7 := cb_set (i := 7) (cb_set (i := 5) (cb_set (i := 4) H60.out (.string pr)) (.string se)) (.bool ch)
        have HT := (((Turns.setCell W6 (w1.heap.size + 1) 4 (.string pr)).trans (Turns.setCell _ (w1.heap.size + 1) 5 (.string se)) (fun _ _ e => e)).trans (Turns.setCell _ (w1.heap.size + 1) 7 (.bool ch)) (fun _ _ e => e))
        have HD : Turns (fun k => k = w1.heap.size + 1) W6 (((W6.setCell ⟨w1.heap.size + 1, 4, none⟩ (.string pr)).setCell ⟨w1.heap.size + 1, 5, none⟩ (.string se)).setCell ⟨w1.heap.size + 1, 7, none⟩ (.bool ch)).drew := ⟨HT.os, HT.tape, HT.output, HT.size, HT.block⟩
        have H7' : (((W6.setCell ⟨w1.heap.size + 1, 4, none⟩ (.string pr)).setCell ⟨w1.heap.size + 1, 5, none⟩ (.string se)).setCell ⟨w1.heap.size + 1, 7, none⟩ (.bool ch)).drew.heap[w1.heap.size + 1]? = _ := H7
        clear H7 HT q4 q5 q7 z4 z5 z7 c45 k0 k1 k2
        generalize (((W6.setCell ⟨w1.heap.size + 1, 4, none⟩ (.string pr)).setCell ⟨w1.heap.size + 1, 5, none⟩ (.string se)).setCell ⟨w1.heap.size + 1, 7, none⟩ (.bool ch)).drew = W7 at *
        have hk4 := cb_lt H4.out
        have c46 : W7.cell? ⟨w1.heap.size, 6, none⟩ = some (at0 pv) := cb_cell (i := 6) (HD.obj H4.out (by omega)) rfl
        have hn6 : W6.heap[w.heap.size]? = some (.cells zeroC 26 (0, 0)) := (HB6.out.block _ hlt1).trans HN1.out
        have HN7 := Aside0.mk (HD.obj hn6 (by omega))
        have HB7 := Aside0.mk (HD.below (hb_then HB1.out HB6.out) (fun k hk e => by omega))
        have q8 : W7.cell? ⟨w1.heap.size + 1, 8, none⟩ = some (.bool false) := cb_cell (i := 8) H7' rfl
        have z8 := cb_frozen (i := 8) H7'
        have H7 := Aside0.mk H7'
        have HDD := Aside0.mk HD
        clear H7' hn6 HD
        cases pv with
        | none =>
          cases own with
          | some _ => exact HOW.out.elim
          | none =>
            simp only [at0, Option.map_none] at c46 ⊢
            go_wp2_with (first | refine load_imp (.tmp 6) rfl rfl rfl H7.out rfl ?_ | refine store_imp (.tmp 2) (.tmp 65) rfl rfl rfl rfl HN7.out rfl rfl (imp_one ⟨typ, src, tgt, ro, some ⟨se, pr, ch⟩, none⟩) ?_)
            refine bodyPost_ret (imp_result rfl (setRow_heap _ _ _ _ _ _ HN7.out) rfl) rfl ?_
            exact ⟨rfl, HFIN.out _ _ HN7.out HB7.out⟩
        | some k2 =>
          cases own with
          | none => exact HOW.out.elim
          | some nc =>
            have hk : w1.heap[k2]? = some (.cells (ownC nc) 57 (0, 0)) := HOW.out
            have hkl := cb_lt hk
            have hk7 := HDD.out.obj ((HB6.out.block _ hkl).trans hk) (by omega)
            have ck : W7.cell? ⟨k2, 1, none⟩ = some (.bool nc) := cb_cell (i := 1) hk7 rfl
            simp only [at0, Option.map_some] at c46 ⊢
            clear hk hk7
            go_wp2_with (first | refine load_imp (.tmp 6) rfl rfl rfl (cb_set (i := 8) H7.out (.bool nc)) rfl ?_ | refine store_imp (.tmp 2) (.tmp 65) rfl rfl rfl rfl (cb_other HN7.out (by omega) _) rfl rfl (imp_one ⟨typ, src, tgt, ro, some ⟨se, pr, ch⟩, some nc⟩) ?_)
            refine bodyPost_ret (imp_result rfl (setRow_heap _ _ _ _ _ _ (cb_other HN7.out (by omega) _)) rfl) rfl ?_
            exact ⟨rfl, HFIN.out _ _ (cb_other HN7.out (by omega) _) ((Turns.setCell _ _ _ _).below HB7.out (fun k hk e => by omega))⟩
end Go.Proofs.YtpkfdifoaijpnaaDoor.Vol
