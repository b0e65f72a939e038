/- One part of a mount's short form. -/
import Derived.Test.YtpkfdifoaijpnaaDoorVolFn
import Derived.Test.YtpkfdifoaijpnaaDoorRowstr
import Derived.Laws.Cover4
namespace Go.Proofs.YtpkfdifoaijpnaaDoor.Vol
open Go.RowKit Go.Proofs.YtpkfdifoaijpnaaDoorW.PrintWords Go.Proofs.YtpkfdifoaijpnaaDoor.Str Go.Proofs.YtpkfdifoaijpnaaDoor.Kit Go.Proofs.YtpkfdifoaijpnaaDoor.Frame Go.Proofs.YtpkfdifoaijpnaaDoor.Index
set_option linter.unusedVariables false
set_option linter.unusedSimpArgs false

theorem errorsNew (s : ByteArray) (w : World) :
    Calls Tryd.prog 29 #[.string s] w fun e w' => e = .returned (.iface 82 (.pointer (some ⟨w.heap.size, 0, none⟩))) ∧ Below w.heap.size w w' := by
  have HB := Aside0.mk (alloc_below w (.cells #[.string s] 84))
  go_enter Tryd.func29, Tryd.ntmps29
  go_wp2
  go_ret
  exact ⟨rfl, HB.out⟩

theorem encode_ascii (n : Nat) (h : n < 128) : Utf8.encode (n : Int) = ⟨#[UInt8.ofNat n]⟩ := by
  have hv : Utf8.valid (n : Int) = true := by
    unfold Utf8.valid
    simp
    omega
  unfold Utf8.encode
  simp [hv, h]
theorem runes_ascii (l : Bs) (h : ∀ b ∈ l, b.toNat < 128) : runesBytes (l.map fun b => (b.toNat : Int)) = ⟨l.toArray⟩ := by
  have key : ∀ (l : Bs) (acc : ByteArray), (∀ b ∈ l, b.toNat < 128) → (l.map fun b => (b.toNat : Int)).foldl (fun r n => r ++ Utf8.encode n) acc = acc ++ ⟨l.toArray⟩ := by
    intro l
    induction l with
    | nil => intro acc _; apply lb_inj; simp [lb]
    | cons b l ih =>
      intro acc ha
      simp only [List.map_cons, List.foldl_cons]
      rw [ih _ (fun x hx => ha x (by simp [hx])), encode_ascii _ (ha b (by simp))]
      apply lb_inj
      simp [lb]
  unfold runesBytes
  rw [key l _ h]
  apply lb_inj
  simp [lb]
/-- the runes of a text of ASCII -/
def runes (l : Bs) : List Int := l.map fun b => (b.toNat : Int)
theorem runes_length (l : Bs) : (runes l).length = l.length := by simp [runes]
theorem buf_string {A : Option Addr} {cap : Nat} {w : World} (l : Bs) (ha : ∀ b ∈ l, b.toNat < 128) (h : (Kd.int .i32).C w A (runes l).length (runes l)) :
    (convert 63 9 (.slice A l.length cap)).run Tryd.prog w = .ok (.string ⟨l.toArray⟩) w := by
  have hr := Kd.reads_of_C (enc := Value.int .i32) (d := (0 : Int)) (h1 := fun _ => rfl) h
  rcases Nat.eq_zero_or_pos l.length with h0 | h0
  · obtain rfl := List.eq_nil_of_length_eq_zero h0
    have : A = none ∨ ∃ a, A = some a := by cases A <;> simp
    rcases this with rfl | ⟨a, rfl⟩
    · rw [run_convert_runes_nil w _ _ 21 _ _ Tryd.underlying63 Tryd.underlying21 Tryd.underlying9]
      rfl
    · have := run_convert_runes (P := Tryd.prog) w 63 9 21 a 0 cap [] (by simp) Tryd.underlying63 Tryd.underlying21 Tryd.underlying9 (by intro j hj; simp at hj)
      rw [show ([] : Bs).length = 0 from rfl, this]
      rfl
  · obtain ⟨a, rfl, hc⟩ := hr.2.2 (by rw [runes_length]; exact h0)
    have := run_convert_runes (P := Tryd.prog) w 63 9 21 a l.length cap (runes l) (by rw [runes_length]; exact Nat.le_refl _) Tryd.underlying63 Tryd.underlying21 Tryd.underlying9 hc
    rw [this, List.take_of_length_le (by rw [runes_length]; exact Nat.le_refl _), runes, runes_ascii l ha]

/-- one option -/
def opt1 (v : VolV) (o : ByteArray) : VolV :=
  if lb o = [114, 111] then { v with ro := true } else if lb o = [114, 119] then { v with ro := false } else if lb o = [110, 111, 99, 111, 112, 121] then { v with own := some true } else if isBind (lb o) = true then bound v o else v
def popField (c : Int) (l : Bs) (v : VolV) : Option VolV :=
  if l = [] then none
  else if v.src.size = 0 ∧ c = 0 then some { v with tgt := ⟨l.toArray⟩ }
  else if v.src.size = 0 then some { v with src := ⟨l.toArray⟩ }
  else if v.tgt.size = 0 then some { v with tgt := ⟨l.toArray⟩ }
  else if c = 58 then none
  else some ((parts 44 ⟨l.toArray⟩).foldl opt1 v)
/-- .. with what the pointers lead to -/
def FillsX (w : World) (b : Nat) (pb pv pb' pv' : Option Nat) (v : VolV) (w' : World) : Prop :=
  VolAt w' b pb' pv' v ∧ Turns (foot b pb pv) w w' ∧ (∀ k, foot b pb' pv' k → foot b pb pv k ∨ w.heap.size ≤ k)
theorem FillsX.fills {w : World} {b : Nat} {pb pv pb' pv' : Option Nat} {v : VolV} {w' : World} (h : FillsX w b pb pv pb' pv' v w') : Fills w b pb pv v w' := ⟨_, _, h⟩
theorem FillsX.then {w : World} {b : Nat} {pb pv pb' pv' pb2 pv2 : Option Nat} {v v2 : VolV} {w' w2 : World} (h : FillsX w b pb pv pb' pv' v w') (k : FillsX w' b pb' pv' pb2 pv2 v2 w2) : FillsX w b pb pv pb2 pv2 v2 w2 := by
  obtain ⟨h1, h2, h3⟩ := h
  obtain ⟨k1, k2, k3⟩ := k
  refine ⟨k1, h2.trans k2 (fun j hj e => (h3 j e).resolve_right (by omega)), fun j e => ?_⟩
  rcases k3 j e with e | e
  · exact h3 j e
  · right; have := h2.size; omega
theorem FillsX.below {w : World} {b : Nat} {pb pv pb' pv' : Option Nat} {v : VolV} {w1 w2 : World} (h : FillsX w b pb pv pb' pv' v w1) (hb : Below w1.heap.size w1 w2) : FillsX w b pb pv pb' pv' v w2 :=
  ⟨h.1.turns (Turns.of_below (F := fun _ => False) hb) (fun _ _ e => e), h.2.1.trans (Turns.of_below hb) (fun _ _ e => e), h.2.2⟩
theorem FillsX.start {w : World} {b : Nat} {pb pv : Option Nat} {v : VolV} (h : VolAt w b pb pv v) : FillsX w b pb pv pb pv v w := ⟨h, Turns.refl _ _, fun _ e => .inl e⟩
theorem FillsX.put {w : World} {b : Nat} {pb pv pb' pv' : Option Nat} {v v' : VolV} {w1 : World} (h : FillsX w b pb pv pb' pv' v w1) (i : Nat) (x : Value) (hc : (volC v pb' pv').setIfInBounds i x = volC v' pb' pv') (h1 : v'.bind = v.bind) (h2 : v'.own = v.own) :
    FillsX w b pb pv pb' pv' v' (w1.setCell ⟨b, i, none⟩ x) :=
  h.then ⟨h.1.put i x hc h1 h2, (Turns.setCell _ b i _).mono (fun _ _ e => .inl e), fun _ e => .inl e⟩
theorem FillsX.newOwn {w : World} {b : Nat} {pb pv pb' pv' : Option Nat} {v : VolV} {w1 : World} (h : FillsX w b pb pv pb' pv' v w1) (x : Bool) :
    FillsX w b pb pv pb' (some w1.heap.size) { v with own := some x } ((w1.setCell ⟨b, 6, none⟩ (.pointer (some ⟨w1.heap.size, 0, none⟩))).alloc (.cells (ownC x) 57)) :=
  h.then ⟨h.1.newOwn x, ((Turns.setCell _ b 6 _).trans (Turns.alloc _ _ _) (fun _ _ e => e)).mono (fun _ _ e => .inl e), fun k e => by
    rcases e with e | e | e
    · exact .inl (.inl e)
    · exact .inl (.inr (.inl e))
    · injection e with e
      exact .inr (Nat.le_of_eq e.symm)⟩

/-- what populateFieldFromBuffer leaves -/
def PopPost (c : Int) (l : Bs) (w : World) (b : Nat) (pb pv : Option Nat) (v : VolV) (e : Ending) (w' : World) : Prop :=
  match popField c l v with
  | none => (∃ t a, e = .returned (.iface t (.pointer (some a)))) ∧ Fills w b pb pv v w'
  | some v' => e = .returned .nilIface ∧ Fills w b pb pv v' w'

theorem PopPost.no {c : Int} {l : Bs} {w : World} {b : Nat} {pb pv : Option Nat} {v : VolV} {t : TypeId} {a : Addr} {w' : World} (h : popField c l v = none) (k : Fills w b pb pv v w') : PopPost c l w b pb pv v (.returned (.iface t (.pointer (some a)))) w' := by
  unfold PopPost
  rw [h]
  exact ⟨⟨_, _, rfl⟩, k⟩
theorem PopPost.yes {c : Int} {l : Bs} {w : World} {b : Nat} {pb pv : Option Nat} {v v' : VolV} {w' : World} (h : popField c l v = some v') (k : Fills w b pb pv v' w') : PopPost c l w b pb pv v (.returned .nilIface) w' := by
  unfold PopPost
  rw [h]
  exact ⟨rfl, k⟩
theorem str_empty (s : ByteArray) : (s.toList == ([] : Bs)) = decide (s.size = 0) := by
  rw [toList_lb]
  cases h : lb s with
  | nil => rw [← lb_length, h]; rfl
  | cons a r => rw [← lb_length, h]; rfl
theorem size_mk (l : Bs) : (⟨l.toArray⟩ : ByteArray).size = l.length := by show l.toArray.size = _; simp

theorem cells_turn {F : Nat → Prop} {w w' : World} {g : Nat} {ps : List ByteArray} (ht : Turns F w w') (hlt : g < w.heap.size) (hn : ¬ F g) (h : ∀ (j : Nat) (hj : j < ps.length), w.cell? ⟨g, 0 + j, none⟩ = some (.string ps[j])) :
    ∀ (j : Nat) (hj : j < ps.length), w'.cell? ⟨g, 0 + j, none⟩ = some (.string ps[j]) := fun j hj => by
  rw [← h j hj]
  exact World.cell?_of_block (ht.block g hlt hn)
theorem foldl_snoc {ps : List ByteArray} {i : Nat} (h : i < ps.length) (v : VolV) : (ps.take (i + 1)).foldl opt1 v = opt1 ((ps.take i).foldl opt1 v) ps[i] := by
  rw [List.take_succ_eq_append_getElem h, List.foldl_append]
  rfl
/-- what one round leaves -/
def Step (w : World) (b : Nat) (pb pv pb' pv' : Option Nat) (g : Nat) (ps : List ByteArray) (v : VolV) (wr w' : World) : Prop :=
  ∃ pb2 pv2, g < w'.heap.size ∧ FillsX w b pb pv pb2 pv2 v w' ∧ ¬ foot b pb2 pv2 g ∧ ∀ (j : Nat) (hj : j < ps.length), w'.cell? ⟨g, 0 + j, none⟩ = some (.string ps[j])
theorem Step.mk' {w : World} {b : Nat} {pb pv pb' pv' pb2 pv2 : Option Nat} {g : Nat} {ps : List ByteArray} {v v2 : VolV} {wr w' : World} (hF : FillsX w b pb pv pb' pv' v wr) (hglt : g < wr.heap.size) (hn : ¬ foot b pb' pv' g) (hC : ∀ (j : Nat) (hj : j < ps.length), wr.cell? ⟨g, 0 + j, none⟩ = some (.string ps[j])) (k : FillsX wr b pb' pv' pb2 pv2 v2 w') :
    Step w b pb pv pb' pv' g ps v2 wr w' :=
  ⟨pb2, pv2, Nat.lt_of_lt_of_le hglt k.2.1.size, hF.then k, fun e => (k.2.2 g e).elim hn (fun e => by omega), cells_turn k.2.1 hglt hn hC⟩
theorem parts_pos (c : UInt8) (s : ByteArray) : 0 < (parts c s).length := by
  unfold parts
  rw [List.length_map]
  cases hf : find [c] (lb s) with
  | none => rw [split_none hf]; simp
  | some i => rw [split_some hf]; simp
theorem str_form2 {W : World} {e base : Nat} {v : Value} {ok : Nat → Prop} {xs : List ByteArray} (h : Kd.string.R e W base ok v xs) (h0 : 0 < xs.length) : ∃ g cap, v = .slice (some ⟨g, 0, none⟩) xs.length cap ∧ ok g ∧ g < W.heap.size ∧ base ≤ g := by
  obtain ⟨inner, ho⟩ := Kd.R_own h
  obtain ⟨g, cap, rfl, h1, h2⟩ := ho.form h0
  exact ⟨g, cap, rfl, h.1 g rfl, own_lt ho g rfl, (World.ownsRow.lt ho g rfl).1⟩
set_option maxHeartbeats 3200000 in
set_option maxRecDepth 1000000 in
theorem populateField {A : Option Addr} {cap : Nat} (c : Int) (l : Bs) (b : Nat) (pb pv : Option Nat) (v : VolV) (w : World) (h : VolAt w b pb pv v) (hl : (Kd.int .i32).C w A (runes l).length (runes l)) (ha : ∀ x ∈ l, x.toNat < 128) (hn : l.length ≤ 4398046511104) :
    Calls Tryd.prog 31 #[.int .i32 c, .slice A l.length cap, .pointer (some ⟨b, 0, none⟩)] w (PopPost c l w b pb pv v) := by
  have HV := Aside0.mk h
  have hcv := buf_string (cap := cap) l ha hl
  have hlt := cb_lt h.top
  have c1 : w.cell? ⟨b, 1, none⟩ = some (.string v.src) := cb_cell (i := 1) h.top rfl
  have c2 : w.cell? ⟨b, 2, none⟩ = some (.string v.tgt) := cb_cell (i := 2) h.top rfl
  have f1 := cb_frozen (i := 1) h.top
  have f2 := cb_frozen (i := 2) h.top
  have e1 := str_empty v.src
  have e2 := str_empty v.tgt
  clear h hl ha
  by_cases h0 : l = []
  · have z0 : ((l.length : Int) == 0) = true := by subst h0; rfl
    have NO := Aside0.mk (show popField c l v = none by simp [popField, h0])
    clear h0
    go_enter Tryd.func31, Tryd.ntmps31
    go_wp2_with fail
    refine (errorsNew _ w).mono ?_
    rintro e w1 ⟨rfl, hb⟩
    have HB := Aside0.mk hb
    clear hb
    go_wp2
    go_ret
    exact PopPost.no NO.out ((FillsX.start HV.out).below HB.out).fills
  · have z0 : ((l.length : Int) == 0) = false := beq_eq_false_iff_ne.mpr (by intro hh; exact h0 (List.eq_nil_of_length_eq_zero (by omega)))
    by_cases hs : v.src.size = 0
    · rw [decide_eq_true hs] at e1
      by_cases hc : c = 0
      · have YES := Aside0.mk (show popField c l v = some { v with tgt := ⟨l.toArray⟩ } by simp [popField, h0, hs, hc])
        have hcc : (c == 0) = true := by subst hc; rfl
        clear h0 hs hc
        go_enter Tryd.func31, Tryd.ntmps31
        go_wp2
        go_ret
        exact PopPost.yes YES.out (FillsX.put (v' := { v with tgt := ⟨l.toArray⟩ }) (FillsX.start HV.out) 2 (.string ⟨l.toArray⟩) rfl rfl rfl).fills
      · have YES := Aside0.mk (show popField c l v = some { v with src := ⟨l.toArray⟩ } by simp [popField, h0, hs, hc])
        have hcc : (c == 0) = false := beq_eq_false_iff_ne.mpr hc
        clear h0 hs hc
        go_enter Tryd.func31, Tryd.ntmps31
        go_wp2
        go_ret
        exact PopPost.yes YES.out (FillsX.put (v' := { v with src := ⟨l.toArray⟩ }) (FillsX.start HV.out) 1 (.string ⟨l.toArray⟩) rfl rfl rfl).fills
    · rw [decide_eq_false hs] at e1
      by_cases ht : v.tgt.size = 0
      · rw [decide_eq_true ht] at e2
        have YES := Aside0.mk (show popField c l v = some { v with tgt := ⟨l.toArray⟩ } by simp [popField, h0, hs, ht])
        clear h0 hs ht
        go_enter Tryd.func31, Tryd.ntmps31
        go_wp2
        go_ret
        exact PopPost.yes YES.out (FillsX.put (v' := { v with tgt := ⟨l.toArray⟩ }) (FillsX.start HV.out) 2 (.string ⟨l.toArray⟩) rfl rfl rfl).fills
      · rw [decide_eq_false ht] at e2
        by_cases hc : c = 58
        · have NO := Aside0.mk (show popField c l v = none by simp [popField, h0, hs, ht, hc])
          have hcc : (c == 58) = true := by subst hc; rfl
          clear h0 hs ht hc
          go_enter Tryd.func31, Tryd.ntmps31
          go_wp2_with fail
          refine (errorsNew _ w).mono ?_
          rintro e w1 ⟨rfl, hb⟩
          have HB := Aside0.mk hb
          clear hb
          go_wp2
          go_ret
          exact PopPost.no NO.out ((FillsX.start HV.out).below HB.out).fills
        · have YES := Aside0.mk (show popField c l v = some ((parts 44 ⟨l.toArray⟩).foldl opt1 v) by simp [popField, h0, hs, ht, hc])
          have hcc : (c == 58) = false := beq_eq_false_iff_ne.mpr hc
          clear h0 hs ht hc
          go_enter Tryd.func31, Tryd.ntmps31
          go_wp2_with fail
          refine (tree_zzSplit ⟨l.toArray⟩ 44 w (by rw [size_mk]; exact hn)).mono ?_
          rintro e w1 ⟨vs, rfl, hR, hb⟩
          have HF1 := Aside0.mk ((FillsX.start HV.out).below hb)
          generalize hps : parts 44 ⟨l.toArray⟩ = ps at hR YES
          have hp0 : 0 < ps.length := by rw [← hps]; exact parts_pos _ _
          obtain ⟨g, cp, rfl, _, hglt, hgb⟩ := str_form2 hR hp0
          obtain ⟨A2, cp2, ew, hle, hC⟩ := Kd.R_reads hR
          injection ew with e3 e4 e5
          subst e3
          clear e4 e5
          obtain ⟨g', o', eg, _, hcell⟩ := strs_open hC hp0
          injection eg with eg
          injection eg with eg1 eg2 _
          subst eg1 eg2
          have HC := Aside0.mk hcell
          have hnf : ¬ foot b pb pv g := by
            rintro (e | e | e)
            · omega
            · have hbk := HV.out.bind
              rw [← e] at hbk
              unfold BindAt at hbk
              split at hbk
              · rename_i e1 _; cases e1
              · rename_i e1 _; injection e1 with e1; subst e1; have := cb_lt hbk; omega
              · exact hbk
            · have hbk := HV.out.own
              rw [← e] at hbk
              unfold OwnAt at hbk
              split at hbk
              · rename_i e1 _; cases e1
              · rename_i e1 _; injection e1 with e1; subst e1; have := cb_lt hbk; omega
              · exact hbk
          have hm : ps.length ≤ 9223372036854775807 := hC.2.1
          clear hR hC hcell hb hps
          go_wp2
          go_loopw [9, 58] (fun _ v58 wr => ∃ (i : Nat) (pb' pv' : Option Nat), v58 = .int .i64 i ∧ i ≤ ps.length ∧ g < wr.heap.size ∧ Aside0 (FillsX w b pb pv pb' pv' ((ps.take i).foldl opt1 v) wr) ∧ Aside0 (¬ foot b pb' pv' g) ∧ Aside0 (∀ (j : Nat) (hj : j < ps.length), wr.cell? ⟨g, 0 + j, none⟩ = some (.string ps[j]))) (fun _ v58 _ => ps.length - (intOf v58).toNat)
          case atStart => exact ⟨0, pb, pv, rfl, by omega, hglt, HF1, ⟨hnf⟩, HC⟩
          case round =>
            clear HF1 hnf HC hglt
            obtain ⟨i, pb', pv', rfl, hi, hglt, HF, HN, HC⟩ := hrel
            by_cases hlt' : i < ps.length
            · have d1 : decide ((i : Int) < (ps.length : Int)) = true := decide_eq_true (by omega)
              have q0 : (0 : Int) ≤ (i : Int) := by omega
              have q1 : (i : Int) < (ps.length : Int) := by omega
              have gi := HC.out i hlt'
              have hsn := Aside0.mk (foldl_snoc hlt' v)
              generalize hv1 : (ps.take i).foldl opt1 v = v1 at HF hsn
              clear hv1
              have hVr := HF.out.1
              have fb := cb_lt hVr.top
              have c3 : wr.cell? ⟨b, 3, none⟩ = some (.bool v1.ro) := cb_cell (i := 3) hVr.top rfl
              have f3 := cb_frozen (i := 3) hVr.top
              have c6 : wr.cell? ⟨b, 6, none⟩ = some (at0 pv') := cb_cell (i := 6) hVr.top rfl
              have f6 := cb_frozen (i := 6) hVr.top
              have HVR := Aside0.mk hVr
              clear hVr
              rw [Nat.zero_add] at gi
              generalize ps[i] = o at gi hsn
              cases t1 : (o.toList == [114, 111])
              · cases t2 : (o.toList == [114, 119])
                · cases t3 : (o.toList == [110, 111, 99, 111, 112, 121])
                  · have s1 : opt1 v1 o = if isBind (lb o) = true then bound v1 o else v1 := by
                      rw [toList_lb] at t1 t2 t3
                      simp only [beq_eq_false_iff_ne] at t1 t2 t3
                      simp [opt1, t1, t2, t3]
                    have S1 := Aside0.mk s1
                    clear s1
                    go_wp2_with fail
                    refine (isBindOption o wr).mono ?_
                    rintro e w2 ⟨rfl, rfl⟩
                    cases hbo : isBind (lb o)
                    · rw [hbo] at S1
                      have hst := Step.mk' HF.out hglt HN.out HC.out (FillsX.start HVR.out)
                      have HST := Aside0.mk hst
                      clear hst hbo
                      go_wp2
                      go_roundw
                      case rel =>
                        obtain ⟨pb2, pv2, y1, y2, y3, y4⟩ := HST.out
                        exact ⟨i + 1, pb2, pv2, by go_num, by omega, y1, ⟨by rw [hsn.out, S1.out]; exact y2⟩, ⟨y3⟩, ⟨y4⟩⟩
                      case measure => simp [intOf]; omega
                    · rw [hbo] at S1
                      clear hbo
                      go_wp2_with fail
                      refine (setBindOption b pb' pv' v1 o _ HVR.out).mono ?_
                      rintro e w3 ⟨rfl, pb2, pv2, hfx⟩
                      have HST := Aside0.mk (Step.mk' HF.out hglt HN.out HC.out hfx)
                      clear hfx
                      go_wp2
                      go_roundw
                      case rel =>
                        obtain ⟨pb2, pv2, y1, y2, y3, y4⟩ := HST.out
                        exact ⟨i + 1, pb2, pv2, by go_num, by omega, y1, ⟨by rw [hsn.out, S1.out]; exact y2⟩, ⟨y3⟩, ⟨y4⟩⟩
                      case measure => simp [intOf]; omega
                  · have s1 : opt1 v1 o = { v1 with own := some true } := by
                      rw [toList_lb] at t1 t2 t3
                      simp only [beq_eq_false_iff_ne, beq_iff_eq] at t1 t2 t3
                      simp [opt1, t1, t2, t3]
                    have S1 := Aside0.mk s1
                    have HST := Aside0.mk (Step.mk' HF.out hglt HN.out HC.out ((FillsX.start HVR.out).newOwn true))
                    clear s1
                    go_wp2
                    go_roundw
                    case rel =>
                      obtain ⟨pb2, pv2, y1, y2, y3, y4⟩ := HST.out
                      exact ⟨i + 1, pb2, pv2, by go_num, by omega, y1, ⟨by rw [hsn.out, S1.out]; exact y2⟩, ⟨y3⟩, ⟨y4⟩⟩
                    case measure => simp [intOf]; omega
                · have s1 : opt1 v1 o = { v1 with ro := false } := by
                    rw [toList_lb] at t1 t2
                    simp only [beq_eq_false_iff_ne, beq_iff_eq] at t1 t2
                    simp [opt1, t1, t2]
                  have S1 := Aside0.mk s1
                  have HST := Aside0.mk (Step.mk' HF.out hglt HN.out HC.out (FillsX.put (v' := { v1 with ro := false }) (FillsX.start HVR.out) 3 (.bool false) rfl rfl rfl))
                  clear s1
                  go_wp2
                  go_roundw
                  case rel =>
                    obtain ⟨pb2, pv2, y1, y2, y3, y4⟩ := HST.out
                    exact ⟨i + 1, pb2, pv2, by go_num, by omega, y1, ⟨by rw [hsn.out, S1.out]; exact y2⟩, ⟨y3⟩, ⟨y4⟩⟩
                  case measure => simp [intOf]; omega
              · have s1 : opt1 v1 o = { v1 with ro := true } := by
                  rw [toList_lb] at t1
                  simp only [beq_iff_eq] at t1
                  simp [opt1, t1]
                have S1 := Aside0.mk s1
                have HST := Aside0.mk (Step.mk' HF.out hglt HN.out HC.out (FillsX.put (v' := { v1 with ro := true }) (FillsX.start HVR.out) 3 (.bool true) rfl rfl rfl))
                clear s1
                go_wp2
                go_roundw
                case rel =>
                  obtain ⟨pb2, pv2, y1, y2, y3, y4⟩ := HST.out
                  exact ⟨i + 1, pb2, pv2, by go_num, by omega, y1, ⟨by rw [hsn.out, S1.out]; exact y2⟩, ⟨y3⟩, ⟨y4⟩⟩
                case measure => simp [intOf]; omega
            · have d1 : decide ((i : Int) < (ps.length : Int)) = false := decide_eq_false (by omega)
              rw [List.take_of_length_le (by omega)] at HF
              go_wp2
              go_ret
              exact PopPost.yes YES.out HF.out.fills
end Go.Proofs.YtpkfdifoaijpnaaDoor.Vol
