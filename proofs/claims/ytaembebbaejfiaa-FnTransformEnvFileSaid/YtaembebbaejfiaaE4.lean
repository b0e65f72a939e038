/- Parts of the proof, laid together: EnvFile, QSpecPlace, QSpecGet, QSpecHas, QSpecSayIn, QLawsZzFits2, QLawsZzFits1. -/
import Derived.Test.YtaembebbaejfiaaE3
namespace Go.Proofs.Ytaembebbaejfiaa.MapV
open Go.RowKit Go.Maps Go.Proofs.YtaembebbaejfiaaW.PrintWords Go.Proofs.Ytaembebbaejfiaa.Str
section
variable {P : Program} {k e t : TypeId} {α : Type} {enc : α → Value} {w : World} {b : Nat} {f : List (Bs × α)}
variable {ops : Array Oper} {rest : List Oper} {o : Oper} {a : Act} {Q : Exit → Act → World → Prop}
theorem insert_mapE (hk : P.underlying k = some .string) (ht : P.underlying t = some (.map k e)) (hg : o.guard = none) (m x v : Operand) (hop : o.op = Op.insert t m x v)
  (hm : a.eval m = .map (some b)) (h : MapE P k enc w b f) (hn : f.length < maxLen) {s : ByteArray} {y : α} (hx : a.eval x = .string s) (hs : s.size ≤ maxLen) (hv : a.eval v = enc y)
  (hK : ∀ w', MapE P k enc w' b (mput f (lb s) y) → w.grownBy w' (some b) → wpList P ops Q rest (a.put o.dst undef) w') : wpList P ops Q (o :: rest) a w := by
 refine wpList_plain hg fun K' hK' => ?_
 obtain ⟨w', hrun, r1, r2⟩ := World.ownsMap.update h (Go.Maps.string_keyed hk) ht hn (keyOf_s hk hs) (val := enc y) (d := .held (enc y)) (ps := []) rfl
 unfold Oper.wp
 simp [execOp, hop, hm, hx, hv, hrun, Result.andThen]
 exact hK' _ _ (hK w' (MapE.of (by rw [ent_put] at r1; exact r1)) r2)
end
end Go.Proofs.Ytaembebbaejfiaa.MapV
namespace Go.Proofs.Ytaembebbaejfiaa.Tr
open Go.RowKit Go.Proofs.YtaembebbaejfiaaW.PrintWords Go.Proofs.YtaembebbaejfiaaW.PrintLast Go.Proofs.Ytaembebbaejfiaa.Str Go.Proofs.Ytaembebbaejfiaa.Kit Go.Proofs.Ytaembebbaejfiaa.MapV Go.Proofs.Ytaembebbaejfiaa.Frame Go.Proofs.Ytaembebbaejfiaa.PS
set_option linter.unusedVariables false
set_option linter.unusedSimpArgs false
def pathK : BA := ⟨#[112, 97, 116, 104]⟩
def reqK : BA := ⟨#[114, 101, 113, 117, 105, 114, 101, 100]⟩
def envM (p : BA) : List (Bs × Y) := [(lb pathK, .text p), (lb reqK, .bool true)]
theorem path_req : lb pathK < lb reqK := by decide
theorem envM_put (p : BA) : mput (mput [] (lb pathK) (Y.text p)) (lb reqK) (Y.bool true) = envM p := by
 have h : mput ([] : List (Bs × Y)) (lb pathK) (Y.text p) = [(lb pathK, .text p)] := rfl
 rw [h, mput_lt path_req]
 rfl
theorem bool_zero : ∀ w : World, (zeroValue 20).run Try.prog w = .ok .nilIface w := fun _ => by kernel_rfl
set_option maxHeartbeats 1600000 in
set_option maxRecDepth 100000 in
theorem envval_text (p : BA) (w : World) : Calls Try.prog 53 #[.iface 9 (.string p)] w fun e w' => ∃ v, e = .returned v ∧ AR w' v (.map (envM p)) (fun k => w.heap.size ≤ k ∧ k < w'.heap.size) ∧ Below w.heap.size w w' := by
 have f5 := t_str
 have hmm := @run_makeMap Try.prog
 have HM0 := MapAt.made w
 have HB0 := aM (below_alloc (Below.refl w.heap.size w) (.map #[] 0))
 have hmA := HM0.hm
 have HMM := aM HM0
 have HL1 := aM (show (mput ([] : List (Bs × Y)) (lb pathK) (Y.text p)).length = 1 from rfl)
 clear HM0
 go_enter Try.func53, Try.ntmps53
 go_wp2_with (first | (refine insert_mapE (enc := (id : Value → Value)) (y := Value.iface 9 (.string p)) akey_u amap_u rfl _ _ _ rfl rfl hmA (by unfold maxLen; decide) rfl (by unfold maxLen; decide) rfl ?_; intro w4 hm4 hg4; have HM4 := aM (HMM.out.put (Below.refl _ _) (AR.text _ _) (lb pathK) hm4 hg4); have HG4 := aM hg4; have hmB := HM4.out.hm; clear hm4 hg4 hmA) | (refine insert_mapE (enc := (id : Value → Value)) (y := Value.iface 4 (.bool true)) akey_u amap_u rfl _ _ _ rfl rfl hmB (by rw [HM4.out.length, HL1.out]; unfold maxLen; decide) rfl (by unfold maxLen; decide) rfl ?_; intro w5 hm5 hg5; have HM5 := aM (HM4.out.put (Below.refl _ _) (AR.bool _ _) (lb reqK) hm5 hg5); have HG5 := aM hg5; clear hm5 hg5 hmB))
 go_ret
 have h5 := HM5.out
 rw [envM_put] at h5
 have hb4 := pw_below_grown HB0.out _ HB0.out.size HG4.out (fun k hk => by injection hk with hk; omega)
 have hb5 := pw_below_grown hb4 _ hb4.size HG5.out (fun k hk => by injection hk with hk; omega)
 exact ⟨_, rfl, h5.done, hb5⟩
theorem envM_open {w : World} {v : Value} {p : BA} {F : Nat → Prop} (h : AR w v (.map (envM p)) F) : ∃ b u1, v = .iface 65 (.map (some b)) ∧ MapA w b [(lb pathK, u1), (lb reqK, .iface 4 (.bool true))] := by
 cases h with
 | map b zs ys _ hy hm hz hd hb hF =>
  match zs, hy, hm, hz with
  | [z1, z2], hy, hm, hz =>
   simp only [envM, List.map_cons, List.map_nil, List.cons.injEq, Prod.mk.injEq, and_true] at hy
   obtain ⟨⟨h1, h2⟩, h3, h4⟩ := hy
   have h5 := hz z2 (by simp)
   rw [← h4] at h5
   have h6 : z2.2.1 = .iface 4 (.bool true) := by
    generalize z2.2.1 = u at h5
    generalize z2.2.2.2 = G at h5
    cases h5
    rfl
   refine ⟨b, z1.2.1, rfl, ?_⟩
   simp only [List.map_cons, List.map_nil] at hm
   rw [← h1, ← h3, h6] at hm
   exact hm
  | [], hy, _, _ => simp [envM] at hy
  | [_], hy, _, _ => simp [envM] at hy
  | _ :: _ :: _ :: _, hy, _, _ => simp [envM] at hy
set_option maxHeartbeats 1600000 in
theorem envval_map (p : BA) (v : Value) (w : World) {F : Nat → Prop} (h : AR w v (.map (envM p)) F) : Calls Try.prog 53 #[v] w fun e w' => e = .returned v ∧ w = w' := by
 obtain ⟨b, u1, rfl, hm⟩ := envM_open h
 have f5 := t_map_str
 have f6 := t_map_map
 have hl := hm
 have hg : mget [(lb pathK, u1), (lb reqK, Value.iface 4 (.bool true))] (lb reqK) = some (.iface 4 (.bool true)) := by
  have hne : (lb pathK == lb reqK) = false := by decide
  simp [mget, hne]
 clear h
 go_enter Try.func53, Try.ntmps53
 have HG := aM hg
 clear hg
 go_wp2_with (refine look_mapE (enc := (id : Value → Value)) akey_u amap_u rfl _ _ rfl (bool_zero _) rfl hl (s := reqK) rfl (by unfold maxLen; decide) ?_; rw [HG.out]; clear hl)
 go_ret
 exact ⟨rfl, rfl⟩
theorem map_form {w : World} {v : Value} {m : List (Bs × Y)} {F : Nat → Prop} (h : AR w v (.map m) F) : ∃ b, v = .iface 65 (.map (some b)) := by
 cases h
 exact ⟨_, rfl⟩
theorem one_row {w : World} {v : Value} {x : Value} (h : kAny.R 20 w 0 (fun _ => True) v [x]) : ∃ g c, v = .slice (some ⟨g, 0, none⟩) 1 c ∧ w.cell? ⟨g, 0, none⟩ = some x := by
 obtain ⟨A, c, rfl⟩ := Kd.R_slice h
 have h2 := h
 obtain ⟨_, inner, ho, hr⟩ := h
 rcases ho.2 with ⟨he, _⟩ | ⟨g', cap, cur, he, _⟩
 ·injection he with _ h3 _
  cases h3
 ·injection he with h3 h4 h5
  subst h3
  obtain ⟨_, _, hC⟩ := Kd.R_reads' h2
  obtain ⟨vb, vo, e1, _, hc⟩ := kAny_at hC (by simp)
  injection e1 with e1
  injection e1 with e2 e3
  subst e2 e3
  exact ⟨g', c, rfl, by have := hc 0 (by simp); simpa using this⟩
def ValAt (B : Nat) (y0 y1 : Y) : Prop := ∀ (W : World) (u : Value) (F : Nat → Prop), B ≤ W.heap.size → AR W u y0 F → Calls Try.prog 53 #[u] W fun e w' => ∃ u1 F1, e = .returned u1 ∧ AR w' u1 y1 F1 ∧ (∀ k, F1 k → F k ∨ W.heap.size ≤ k) ∧ Below W.heap.size W w'
theorem val_text (B : Nat) (p : BA) : ValAt B (.text p) (.map (envM p)) := by
 intro W u F hB h
 obtain rfl : u = .iface 9 (.string p) := by cases h; rfl
 refine (envval_text p W).mono ?_
 rintro e w1 ⟨v, rfl, ha, hb⟩
 exact ⟨v, _, rfl, ha, fun k hk => .inr hk.1, hb⟩
theorem val_map (B : Nat) (p : BA) : ValAt B (.map (envM p)) (.map (envM p)) := by
 intro W u F hB h
 refine (envval_map p u W h).mono ?_
 rintro e w1 ⟨rfl, rfl⟩
 exact ⟨u, F, rfl, h, fun k hk => .inl hk, Below.refl _ _⟩
set_option maxHeartbeats 1600000 in
theorem env_text (B : Nat) (p : BA) (pv : Value) (ig : Bool) (w : World) (hB : B ≤ w.heap.size) : Calls Try.prog 47 #[.iface 9 (.string p), pv, .bool ig] w (TransB B w (.list [.map (envM p)])) := by
 have f5 := t_str
 have CV := aM (envval_text p w)
 have HBB := aM hB
 clear hB
 go_enter Try.func47, Try.ntmps47
 go_wp2_with fail
 refine CV.out.mono ?_
 rintro e w1 ⟨v, rfl, ha, hb⟩
 obtain ⟨mb, rfl⟩ := map_form ha
 have HA := aM ha
 have HB := aM hb
 clear ha hb CV
 go_wp2
 go_ret2
 generalize Value.iface 65 (.map (some mb)) = v at HA ⊢
 have hbn := below_alloc (Below.refl w1.heap.size w1) (.cells #[v] 20)
 have hr : kAny.R 20 (w1.alloc (.cells #[v] 20)) 0 (fun _ => True) (.slice (some ⟨w1.heap.size, 0, none⟩) 1 1) [v] := one_held (h5 := PA5) (h1 := PA1) w1 0 20 (Nat.zero_le _) v (cs := [v]) ⟨rfl, HA.out.one⟩
 refine ⟨_, fun k => w.heap.size ≤ k, rfl, AR.list _ [(v, .map (envM p), fun k => (w.heap.size ≤ k ∧ k < w1.heap.size) ∧ k < w1.heap.size)] _ _ rfl hr (fun z hz => ?_) (by simp) (fun b hb => ?_) (fun z hz k hk => ?_), (hb_then HB.out hbn).mono HBB.out⟩
 ·obtain rfl := List.mem_singleton.1 hz
  exact HA.out.keep hbn
 ·obtain rfl : w1.heap.size = b := by injection hb
  refine ⟨HB.out.size, fun z hz hk => ?_⟩
  obtain rfl := List.mem_singleton.1 hz
  have := hk.2
  omega
 ·obtain rfl := List.mem_singleton.1 hz
  exact hk.1.1
set_option maxHeartbeats 3200000 in
set_option maxRecDepth 100000 in
theorem env_list (B : Nat) (y0 : Y) (m1 : List (Bs × Y)) (hval : ValAt B y0 (.map m1)) (v pv : Value) (ig : Bool) (w : World) {F : Nat → Prop} (hB : B ≤ w.heap.size) (hF : ∀ k, F k → B ≤ k) (h : AR w v (.list [y0]) F) : Calls Try.prog 47 #[v, pv, .bool ig] w (TransB B w (.list [.map m1])) := by
 obtain ⟨g, c, x, F0, rfl, hr, hx, hg, hb, hF0⟩ : ∃ g c x F0, v = .iface 58 (.slice (some ⟨g, 0, none⟩) 1 c) ∧ kAny.R 20 w 0 (fun _ => True) (.slice (some ⟨g, 0, none⟩) 1 c) [x] ∧ AR w x y0 F0 ∧ w.cell? ⟨g, 0, none⟩ = some x ∧ (F g ∧ ¬ F0 g) ∧ (∀ k, F0 k → F k) := by
  cases h with
  | list v zs ys _ hy hr hz hd hb hF =>
   match zs, hy, hr, hz, hb, hF with
   | [z], hy, hr, hz, hb, hF =>
    obtain ⟨g, c, rfl, hc⟩ := one_row hr
    have h1 := hz z (by simp)
    simp only [List.map_cons, List.map_nil, List.cons.injEq, and_true] at hy
    rw [← hy] at h1
    exact ⟨g, c, z.1, z.2.2, rfl, hr, h1, hc, ⟨(hb g rfl).1, (hb g rfl).2 z (by simp)⟩, fun k hk => hF z (by simp) k hk⟩
   | [], hy, _, _, _, _ => simp at hy
   | _ :: _ :: _, hy, _, _, _, _ => simp at hy
 have f5 := t_lst_str
 have f6 := t_lst
 have hgB := hF g hb.1
 have hglt := World.block_lt_of_cell? w _ hg
 have CV := aM (hval w x F0 hB hx)
 have HR := aM hr
 have HX := aM hx.tight
 have HFB := aM (And.intro hF (And.intro hF0 hb))
 clear hr hx hF hF0 hb h hval
 go_enter Try.func47, Try.ntmps47
 go_wp2
 go_loopw [28, 10, 11] (fun v28 v10 v11 wr => (v28 = .int .i64 0 ∧ Aside0 (wr = w)) ∨ (v28 = .int .i64 1 ∧ Aside0 (∃ G, AR wr (.iface 58 (.slice (some ⟨g, 0, none⟩) 1 c)) (.list [.map m1]) G ∧ Below B w wr))) (fun v28 _ _ _ => 1 - (intOf v28).toNat)
 case atStart => exact .inl ⟨rfl, ⟨rfl⟩⟩
 case round =>
  rcases hrel with ⟨rfl, HW⟩ | ⟨rfl, HN⟩
  ·obtain rfl := HW.out
   clear HW
   go_wp2_with fail
   refine CV.out.mono ?_
   rintro e w1 ⟨u1, F1, rfl, ha, hF1, hb⟩
   obtain ⟨mb, rfl⟩ := map_form ha
   have hgl : g < wr.heap.size := hglt
   have hr1 := kAny_move HR.out (w1 := w1) (fun k hk => by injection hk with hk; subst hk; exact hb.block _ hgl)
   have hp := kAny_put hr1 0 (by omega) (.iface 65 (.map (some mb))) rfl
   obtain ⟨cv, hcv⟩ := Option.isSome_iff_exists.1 hp.1
   have hfz := hp.2.1
   have HP := aM hp.2.2
   have HA := aM ha
   have HB1 := aM hb
   have HF1 := aM hF1
   clear ha hF1 hb hr1 hp CV
   go_wp2
   go_roundw
   case rel =>
    refine .inr ⟨rfl, ⟨⟨fun k => B ≤ k, AR.list _ [(.iface 65 (.map (some mb)), .map m1, fun k => F1 k ∧ k < w1.heap.size)] _ _ rfl (by simpa using HP.out) (fun z hz => ?_) (by simp) (fun b hb => ?_) (fun z hz k hk => ?_), ?_⟩⟩⟩
    ·obtain rfl := List.mem_singleton.1 hz
     refine HA.out.tight.move (fun k hk => Below.heap_setCell w1 ⟨g, 0, none⟩ _ k (fun e => ?_))
     have e' : k = g := e
     subst e'
     rcases HF1.out _ hk.1 with h1 | h1
     ·exact HFB.out.2.2.2 h1
     ·have h2 : wr.heap.size ≤ k := h1
      omega
    ·obtain rfl : g = b := by injection hb
     refine ⟨hgB, fun z hz hk => ?_⟩
     obtain rfl := List.mem_singleton.1 hz
     rcases HF1.out _ hk.1 with h1 | h1
     ·exact HFB.out.2.2.2 h1
     ·have h2 : wr.heap.size ≤ g := h1
      omega
    ·obtain rfl := List.mem_singleton.1 hz
     rcases HF1.out _ hk.1 with h1 | h1
     ·exact HFB.out.1 _ (HFB.out.2.1 _ h1)
     ·exact Nat.le_trans hB h1
    ·exact (HB1.out.mono hB).setCell hgB _
   case measure => simp [intOf]
  ·go_wp2
   go_ret2
   obtain ⟨G, ha, hb⟩ := HN.out
   exact ⟨_, G, rfl, ha, hb⟩
end Go.Proofs.Ytaembebbaejfiaa.Tr
namespace Go.Proofs.Ytaembebbaejfiaa.PS
open Go.RowKit Go.Proofs.YtaembebbaejfiaaW.PrintWords Go.Proofs.YtaembebbaejfiaaW.PrintLast Go.Proofs.YtaembebbaejfiaaW.PrintMore
attribute [local go_sem] max2_int min2_int max_two min_two max_three min_three max_four min_four 
set_option linter.unusedVariables false
set_option linter.unusedSimpArgs false
end Go.Proofs.Ytaembebbaejfiaa.PS
namespace Go.Proofs.Ytaembebbaejfiaa.PS
open Go.RowKit Go.Proofs.YtaembebbaejfiaaW.PrintWords Go.Proofs.YtaembebbaejfiaaW.PrintLast Go.Proofs.YtaembebbaejfiaaW.PrintMore
attribute [local go_sem] max2_int min2_int max_two min_two max_three min_three max_four min_four 
set_option linter.unusedVariables false
set_option linter.unusedSimpArgs false
end Go.Proofs.Ytaembebbaejfiaa.PS
namespace Go.Proofs.Ytaembebbaejfiaa.PS
open Go.RowKit Go.Proofs.YtaembebbaejfiaaW.PrintWords Go.Proofs.YtaembebbaejfiaaW.PrintLast Go.Proofs.YtaembebbaejfiaaW.PrintMore
attribute [local go_sem] max2_int min2_int max_two min_two max_three min_three max_four min_four 
set_option linter.unusedVariables false
set_option linter.unusedSimpArgs false
end Go.Proofs.Ytaembebbaejfiaa.PS
namespace Go.Proofs.Ytaembebbaejfiaa.PS
open Go.RowKit Go.Proofs.YtaembebbaejfiaaW.PrintWords Go.Proofs.YtaembebbaejfiaaW.PrintLast Go.Proofs.YtaembebbaejfiaaW.PrintMore
attribute [local go_sem] max2_int min2_int max_two min_two max_three min_three max_four min_four 
set_option linter.unusedVariables false
set_option linter.unusedSimpArgs false
def spec_sayIn.l0 : Nat → ByteArray → List ByteArray → Int → Option (Bool)
 | 0, _, _, _ => none
 | k + 1, x0, x1, x5 => if x5 < (x1.length : Int) then (if 0 ≤ x5 then (if (rdOf ByteArray.empty x1 x5).toList = x0.toList then (some true) else (spec_sayIn.l0 k x0 x1 (wrap64 (x5 + 1)))) else (none)) else (some false)
def spec_sayIn.f (k : Nat) (a0 : ByteArray) (l1 : List ByteArray) : Option (Bool) := spec_sayIn.l0 k a0 l1 0
set_option maxHeartbeats 8000000 in
set_option maxRecDepth 100000 in
theorem spec_sayIn.calls (k : Nat) (a0 : ByteArray) (A1 : Option Addr) (c1 : Nat) (l1 : List ByteArray) (r : Bool) (w : World) (hr1 : Kd.C Kd.string w A1 l1.length l1) (hc1 : l1.length ≤ c1) (h : spec_sayIn.f k a0 l1 = some r) :
  Calls Try.prog 46 #[.string a0, .slice A1 l1.length c1] w fun e w' => e = .returned (.bool r) ∧ Drawn0 w w' := by
 have HR1 := aM hr1
 have HC1 := aM hc1
 clear hr1 hc1
 have H : (spec_sayIn.l0 k a0 l1 0) = some r := h
 clear h
 have H' := aM H
 clear H
 go_enter Try.func46, Try.ntmps46
 go_wp2
 go_loopg [5] k (fun kq v5 w' => ∃ (x5_1 : Int), v5 = .int .i64 x5_1 ∧ Aside0 (spec_sayIn.l0 kq a0 l1 x5_1 = some r) ∧ Aside0 (kq ≤ k) ∧ Drawn0 w w')
 case atStart => exact ⟨(0), (by first | rfl | (simp; done) | (simp [*]; done)), H', ⟨Nat.le_refl _⟩, by repeat (first | exact Drawn0.refl _ | apply Drawn0.step)⟩
 case round =>
  clear H'
  try clear c1
  try clear p2
  obtain ⟨x5_1, rfl, HA, HK1, ⟨m1, rfl⟩⟩ := hrel
  cases gk with
  | zero => exact absurd HA.out (by simp [spec_sayIn.l0])
  | succ k1 =>
   have H := HA.out
   clear HA
   simp only [spec_sayIn.l0] at H
   by_cases c3 : x5_1 < (l1.length : Int)
   ·rw [if_pos c3] at H
    have c3b0 : decide (x5_1 < (l1.length : Int)) = true := decide_eq_true c3
    clear c3
    by_cases c4 : 0 ≤ x5_1
    ·rw [if_pos c4] at H
     have c4b0 : decide (0 ≤ x5_1) = true := decide_eq_true c4
     clear c4
     by_cases c5 : (rdOf ByteArray.empty l1 x5_1).toList = a0.toList
     ·rw [if_pos c5] at H
      have c5b0 : ((rdOf ByteArray.empty l1 x5_1).toList == a0.toList) = true := beq_iff_eq.mpr c5
      have c5b1 : ((rdOf ByteArray.empty l1 x5_1).toList != a0.toList) = false := bne_eq_false_iff_eq.mpr c5
      clear c5
      obtain rfl := Option.some.inj H
      have p554 : 0 ≤ (x5_1 : Int) := of_decide_eq_true (by first | (with_reducible assumption) | assumption)
      have q554 : x5_1 < (l1.length : Int) := of_decide_eq_true (by first | (with_reducible assumption) | assumption)
      obtain ⟨ad554, e554, hx554_0⟩ := Kd.at_string HR1.out x5_1 p554 q554
      cases e554
      replace p554 := eq_true p554
      replace q554 := eq_true q554
      go_wp2
      go_ret
      exact ⟨by first | rfl | (simp; done) | (simp [*]; done), by repeat (first | exact Drawn0.refl _ | apply Drawn0.step)⟩
     ·rw [if_neg c5] at H
      have c5b0 : ((rdOf ByteArray.empty l1 x5_1).toList == a0.toList) = false := beq_eq_false_iff_ne.mpr c5
      have c5b1 : ((rdOf ByteArray.empty l1 x5_1).toList != a0.toList) = true := bne_iff_ne.mpr c5
      have H' := aM H
      clear H
      have p554 : 0 ≤ (x5_1 : Int) := of_decide_eq_true (by first | (with_reducible assumption) | assumption)
      have q554 : x5_1 < (l1.length : Int) := of_decide_eq_true (by first | (with_reducible assumption) | assumption)
      obtain ⟨ad554, e554, hx554_0⟩ := Kd.at_string HR1.out x5_1 p554 q554
      cases e554
      replace p554 := eq_true p554
      replace q554 := eq_true q554
      go_wp2
      go_roundg k1
      case measure => have := HK1.out; omega
      case rel => exact ⟨(wrap64 (x5_1 + 1)), (by first | rfl | (simp; done) | (simp [*]; done)), H', ⟨by have := HK1.out; omega⟩, by repeat (first | exact Drawn0.refl _ | apply Drawn0.step)⟩
    ·rw [if_neg c4] at H
     exact absurd H (by simp)
   ·rw [if_neg c3] at H
    have c3b0 : decide (x5_1 < (l1.length : Int)) = false := decide_eq_false c3
    clear c3
    obtain rfl := Option.some.inj H
    go_wp2
    go_ret
    exact ⟨by first | rfl | (simp; done) | (simp [*]; done), by repeat (first | exact Drawn0.refl _ | apply Drawn0.step)⟩
end Go.Proofs.Ytaembebbaejfiaa.PS
namespace Go.Proofs.Ytaembebbaejfiaa.PS
open Go.RowKit Go.Proofs.YtaembebbaejfiaaW.PrintWords Go.Proofs.YtaembebbaejfiaaW.PrintLast Go.Proofs.YtaembebbaejfiaaW.PrintMore
attribute [local go_sem] max2_int min2_int max_two min_two max_three min_three max_four min_four 
set_option linter.unusedVariables false
set_option linter.unusedSimpArgs false
end Go.Proofs.Ytaembebbaejfiaa.PS
namespace Go.Proofs.Ytaembebbaejfiaa.PS
open Go.RowKit Go.Proofs.YtaembebbaejfiaaW.PrintWords Go.Proofs.YtaembebbaejfiaaW.PrintLast Go.Proofs.YtaembebbaejfiaaW.PrintMore
attribute [local go_sem] max2_int min2_int max_two min_two max_three min_three max_four min_four 
set_option linter.unusedVariables false
set_option linter.unusedSimpArgs false
end Go.Proofs.Ytaembebbaejfiaa.PS
