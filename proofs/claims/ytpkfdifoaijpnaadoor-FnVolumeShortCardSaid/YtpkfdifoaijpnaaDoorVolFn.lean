/- The functions that fill a mount. -/
import Derived.Test.YtpkfdifoaijpnaaDoorVol
namespace Go.Proofs.YtpkfdifoaijpnaaDoor.Vol
open Go.RowKit Go.Proofs.YtpkfdifoaijpnaaDoorW.PrintWords Go.Proofs.YtpkfdifoaijpnaaDoor.Str Go.Proofs.YtpkfdifoaijpnaaDoor.Kit Go.Proofs.YtpkfdifoaijpnaaDoor.Frame
set_option linter.unusedVariables false
set_option linter.unusedSimpArgs false

theorem setBindSELinux (k : Nat) (x : BindV) (o : ByteArray) (w : World) (h : w.heap[k]? = some (.cells (bindC x) 53 (0, 0))) :
    Calls Tryd.prog 55 #[.pointer (some ⟨k, 0, none⟩), .string o] w fun e w' => e = .returned (.tuple #[]) ∧ w' = w.setCell ⟨k, 0, none⟩ (.string o) := by
  have c0 := cb_cell (i := 0) h rfl
  have f0 := cb_frozen (i := 0) h
  clear h
  go_enter Tryd.func55, Tryd.ntmps55
  go_wp2
  go_end0
  exact ⟨rfl, rfl⟩
theorem setBindPropagation (k : Nat) (x : BindV) (o : ByteArray) (w : World) (h : w.heap[k]? = some (.cells (bindC x) 53 (0, 0))) :
    Calls Tryd.prog 56 #[.pointer (some ⟨k, 0, none⟩), .string o] w fun e w' => e = .returned (.tuple #[]) ∧ w' = w.setCell ⟨k, 1, none⟩ (.string o) := by
  have c0 := cb_cell (i := 1) h rfl
  have f0 := cb_frozen (i := 1) h
  clear h
  go_enter Tryd.func56, Tryd.ntmps56
  go_wp2
  go_end0
  exact ⟨rfl, rfl⟩

def isBind (l : Bs) : Bool := l == [114, 112, 114, 105, 118, 97, 116, 101] || l == [112, 114, 105, 118, 97, 116, 101] || l == [114, 115, 104, 97, 114, 101, 100] || l == [115, 104, 97, 114, 101, 100] || l == [114, 115, 108, 97, 118, 101] || l == [115, 108, 97, 118, 101] || l == [122] || l == [90]
theorem isBindOption (o : ByteArray) (w : World) :
    Calls Tryd.prog 43 #[.string o] w fun e w' => e = .returned (.bool (isBind (lb o))) ∧ w' = w := by
  rw [← toList_lb]
  go_enter Tryd.func43, Tryd.ntmps43
  go_wp2
  all_goals
    go_ret
    refine ⟨?_, rfl⟩
    simp_all [isBind]

/-- the library's tables, as their initialisers lay them -/
def VTabs (w : World) : Prop := Lib.TabIs Tryd.prog w "unicode.properties" .u8 Lib.propertiesTab ∧ Lib.RVar 1 Lib.letterT w
theorem VTabs.below {w w' : World} (h : VTabs w) (hb : Below w.heap.size w w') : VTabs w' := ⟨TabIs_below (g := 0) (by kernel_rfl) h.1 hb, RVar_below h.2 hb⟩

/-- a drive's letter alone, and a colon -/
def drive (l : List Int) (c : Int) : Bool := c == 58 && (l.length == 1 && Lib.isLetterU (l.getD 0 0))
theorem isWindowsDrive {A : Option Addr} {cap : Nat} (l : List Int) (c : Int) (w : World) (h : (Kd.int .i32).C w A l.length l) (hr : l.length = 1 → -2147483648 ≤ l.getD 0 0 ∧ l.getD 0 0 ≤ 2147483647) (hT : VTabs w) :
    Calls Tryd.prog 30 #[.slice A l.length cap, .int .i32 c] w fun e w' => e = .returned (.bool (drive l c)) ∧ Below w.heap.size w w' := by
  have HB0 := Aside0.mk (Below.refl w.heap.size w)
  have hC := Aside0.mk h
  have HT := Aside0.mk hT
  have HR := Aside0.mk hr
  clear h hT hr
  by_cases hc : c = 58
  · by_cases hl : l.length = 1
    · have hrd := Kd.reads_of_C (enc := Value.int .i32) (d := (0 : Int)) (h1 := fun _ => rfl) hC.out
      obtain ⟨ad, rfl, hcell⟩ := hrd.2.2 (by omega)
      have c0 := hcell 0 (by omega)
      rw [show ad.add 0 = ad from rfl] at c0
      have e1 : drive l c = Lib.isLetterU (l.getD 0 0) := by simp [drive, hc, hl]
      rw [e1]
      have CL := Aside0.mk (Tryd.unicode_IsLetter_all (l.getD 0 0) w (HR.out hl).1 (HR.out hl).2 HT.out.1 HT.out.2)
      generalize l.getD 0 0 = r at c0 CL ⊢
      generalize Lib.isLetterU r = res at CL ⊢
      subst hc
      rw [hl]
      clear hrd hcell e1
      go_enter Tryd.func30, Tryd.ntmps30
      go_wp2_with fail
      refine CL.out.mono ?_
      rintro e w1 ⟨rfl, hb⟩
      have HB1 := Aside0.mk hb
      clear hb
      go_wp2
      go_ret
      exact ⟨rfl, HB1.out⟩
    · have e1 : drive l c = false := by simp [drive, hl]
      rw [e1]
      subst hc
      have h1 : ((l.length : Int) == 1) = false := beq_eq_false_iff_ne.mpr (by omega)
      clear hl e1
      go_enter Tryd.func30, Tryd.ntmps30
      go_wp2
      go_ret
      exact ⟨rfl, HB0.out⟩
  · have e1 : drive l c = false := by simp [drive, hc]
    rw [e1]
    have h1 : (c == 58) = false := beq_eq_false_iff_ne.mpr hc
    clear hc e1
    go_enter Tryd.func30, Tryd.ntmps30
    go_wp2
    go_ret
    exact ⟨rfl, HB0.out⟩

theorem one_rune {w : World} (n : Int) : (Kd.int .i32).C (w.alloc (.cells #[.int .i32 n] 21)) (some ⟨w.heap.size, 0, none⟩) ([n] : List Int).length [n] := by
  refine Kd.C_of_reads (enc := Value.int .i32) (d := (0 : Int)) ⟨rfl, by simp, fun _ => ⟨_, rfl, fun j hj => ?_⟩⟩
  simp at hj
  subst hj
  have := World.cell?_alloc_new w #[Value.int .i32 n] 21 0
  simp [Addr.add] at this ⊢
theorem alloc_below (w : World) (o : Obj) : Below w.heap.size w (w.alloc o) := (Below.refl _ w).alloc (Nat.le_refl _) o
def drive2 (c : Int) : Bs → Bool
  | [] => false
  | d :: _ => drive [c] (d.toNat : Int)
/-- what begins like a path of the host -/
def filePath (l : Bs) : Bool :=
  match l with
  | [] => false
  | c :: r => c.toNat == 46 || c.toNat == 47 || c.toNat == 126 || Lib.hasPrefix l [92, 92] || drive2 (c.toNat : Int) r
set_option maxHeartbeats 1600000 in
theorem isFilePath (s : ByteArray) (w : World) (ha : ∀ b ∈ lb s, b.toNat < 128) (hT : VTabs w) :
    Calls Tryd.prog 45 #[.string s] w fun e w' => e = .returned (.bool (filePath (lb s))) ∧ Below w.heap.size w w' := by
  have HB0 := Aside0.mk (Below.refl w.heap.size w)
  have HA := Aside0.mk ha
  have HT := Aside0.mk hT
  clear ha hT
  have hlen := lb_length s
  match hl : lb s with
  | [] =>
    have e0 : (s.toList == ([] : Bs)) = true := by rw [toList_lb, hl]; rfl
    rw [show filePath [] = false from rfl]
    go_enter Tryd.func45, Tryd.ntmps45
    go_wp2
    go_ret
    exact ⟨rfl, HB0.out⟩
  | c :: r =>
    have e0 : (s.toList == ([] : Bs)) = false := by rw [toList_lb, hl]; rfl
    have h0 : 0 < s.size := by rw [← hlen, hl]; simp
    have hc0 : s[0] = c := by
      have : (lb s)[0]'(by rw [hlen]; exact h0) = c := by simp only [hl, List.getElem_cons_zero]
      exact this
    have hcn : (s[0].toNat : Int) = (c.toNat : Int) := by rw [hc0]
    have hca : c.toNat < 128 := HA.out c (by rw [hl]; simp)
    have q1 : (0 : Int) < (s.size : Int) := by omega
    have HL := Aside0.mk hl
    have CP := Aside0.mk (fun w1 => Tryd.strings_HasPrefix s ⟨#[92, 92]⟩ w1)
    have CD := Aside0.mk (fun w1 => Tryd.utf8_DecodeRuneInString_ascii s c w1 (by show (lb s)[0]? = some c; rw [hl]; rfl) hca)
    rw [show s.data.toList = c :: r from hl] at CP
    have e1 : filePath (c :: r) = (c.toNat == 46 || c.toNat == 47 || c.toNat == 126 || Lib.hasPrefix (c :: r) [92, 92] || drive2 (c.toNat : Int) r) := rfl
    rw [e1]
    have hn : r.length + 1 = s.size := by rw [← hlen, hl]; simp
    have hnext : ∀ d r', r = d :: r' → ∃ h1 : 1 < s.size, s[1] = d := fun d r' hr => by
      subst hr
      have h1 : 1 < s.size := by simp only [List.length_cons] at hn; omega
      refine ⟨h1, ?_⟩
      have : (lb s)[1]'(by rw [hlen]; exact h1) = d := by simp only [hl, List.getElem_cons_succ, List.getElem_cons_zero]
      exact this
    have HN := Aside0.mk hnext
    clear hl hc0 e1 hlen hnext
    generalize Lib.hasPrefix (c :: r) [92, 92] = hp at CP ⊢
    obtain ⟨n, hcc⟩ : ∃ n : Nat, c.toNat = n := ⟨_, rfl⟩
    rw [hcc] at hcn hca CD ⊢
    clear hcc
    by_cases h1 : n = 46 ∨ n = 47 ∨ n = 126
    · have e2 : (n == 46 || n == 47 || n == 126) = true := by rcases h1 with h | h | h <;> subst h <;> rfl
      rw [e2, Bool.true_or, Bool.true_or]
      clear e2
      rcases h1 with h | h | h
      all_goals
        subst h
        go_enter Tryd.func45, Tryd.ntmps45
        go_wp2
        go_ret
        exact ⟨rfl, HB0.out⟩
    · have e2 : (n == 46 || n == 47 || n == 126) = false := by
        simp only [Bool.or_eq_false_iff, beq_eq_false_iff_ne]
        omega
      rw [e2, Bool.false_or]
      have t1 : ((n : Int) == 46) = false := beq_eq_false_iff_ne.mpr (by omega)
      have t2 : ((n : Int) == 47) = false := beq_eq_false_iff_ne.mpr (by omega)
      have t3 : ((n : Int) == 126) = false := beq_eq_false_iff_ne.mpr (by omega)
      clear h1 e2
      cases hp with
      | true =>
        go_enter Tryd.func45, Tryd.ntmps45
        go_wp2_with fail
        refine (CP.out w).mono ?_
        rintro e w1 ⟨rfl, rfl⟩
        go_wp2
        go_ret
        exact ⟨rfl, HB0.out⟩
      | false =>
        match r, hn, HN with
        | [], hn, HN =>
          have q2 : (s.size : Int) ≤ 1 := by simp at hn; omega
          go_enter Tryd.func45, Tryd.ntmps45
          go_wp2_with fail
          refine (CP.out w).mono ?_
          rintro e w1 ⟨rfl, rfl⟩
          go_wp2_with fail
          refine (CD.out _).mono ?_
          rintro e w1 ⟨rfl, rfl⟩
          go_wp2
          go_ret
          exact ⟨rfl, HB0.out⟩
        | d :: r', hn, HN =>
          obtain ⟨h1, hd⟩ := HN.out d r' rfl
          have q2 : (1 : Int) < (s.size : Int) := by omega
          have hdn : (s[1].toNat : Int) = (d.toNat : Int) := by rw [hd]
          clear hd
          show Calls _ _ _ _ fun e w' => e = .returned (.bool (drive [(n : Int)] (d.toNat : Int))) ∧ _
          go_enter Tryd.func45, Tryd.ntmps45
          go_wp2_with fail
          refine (CP.out w).mono ?_
          rintro e w1 ⟨rfl, rfl⟩
          go_wp2_with fail
          refine (CD.out _).mono ?_
          rintro e w1 ⟨rfl, rfl⟩
          have hC := one_rune (w := w1) (n : Int)
          have hwr : wrap32 (d.toNat : Int) = (d.toNat : Int) := by
            have := d.toNat_lt
            unfold wrap32
            omega
          go_wp2_with fail
          rw [hwr]
          refine (isWindowsDrive [(n : Int)] (d.toNat : Int) _ hC (fun _ => by simp; omega) (HT.out.below (alloc_below _ _))).mono ?_
          rintro e w2 ⟨rfl, hb⟩
          have HB2 := Aside0.mk (hb_then (alloc_below _ _) hb)
          clear hb
          go_wp2
          go_ret
          exact ⟨rfl, HB2.out⟩

/-- the mount's kind, and what belongs to it -/
def typed (v : VolV) : VolV :=
  if filePath (lb v.src) = true then { v with typ := ⟨#[98, 105, 110, 100]⟩, bind := some { v.bind.getD ⟨⟨#[]⟩, ⟨#[]⟩, false⟩ with ch := true } }
  else { v with typ := ⟨#[118, 111, 108, 117, 109, 101]⟩, own := some (v.own.getD false) }
/-- what a function leaves that fills the mount in block b -/
def Fills (w : World) (b : Nat) (pb pv : Option Nat) (v : VolV) (w' : World) : Prop :=
  ∃ pb' pv', VolAt w' b pb' pv' v ∧ Turns (foot b pb pv) w w' ∧ (∀ k, foot b pb' pv' k → foot b pb pv k ∨ w.heap.size ≤ k)
theorem Fills.mk0 {w : World} {b : Nat} {pb pv : Option Nat} {v : VolV} (h : VolAt w b pb pv v) : Fills w b pb pv v w := ⟨pb, pv, h, Turns.refl _ _, fun _ h => .inl h⟩

theorem VolAt.own_some {w : World} {b k : Nat} {pb : Option Nat} {v : VolV} (h : VolAt w b pb (some k) v) : ∃ x, v.own = some x := by
  have := h.own
  unfold OwnAt at this
  split at this
  · rename_i e _; cases e
  · rename_i e; exact ⟨_, e⟩
  · exact this.elim
theorem VolAt.own_none {w : World} {b : Nat} {pb : Option Nat} {v : VolV} (h : VolAt w b pb none v) : v.own = none := by
  have := h.own
  unfold OwnAt at this
  split at this
  · rename_i e; exact e
  · rename_i e _; cases e
  · exact this.elim
theorem VolAt.bind_some {w : World} {b k : Nat} {pv : Option Nat} {v : VolV} (h : VolAt w b (some k) pv v) : ∃ x, v.bind = some x := by
  have := h.bind
  unfold BindAt at this
  split at this
  · rename_i e _; cases e
  · rename_i e; exact ⟨_, e⟩
  · exact this.elim
theorem VolAt.bind_none {w : World} {b : Nat} {pv : Option Nat} {v : VolV} (h : VolAt w b none pv v) : v.bind = none := by
  have := h.bind
  unfold BindAt at this
  split at this
  · rename_i e; exact e
  · rename_i e _; cases e
  · exact this.elim
set_option maxHeartbeats 1600000 in
theorem populateType (b : Nat) (pb pv : Option Nat) (v : VolV) (w : World) (h : VolAt w b pb pv v) (ha : ∀ x ∈ lb v.src, x.toNat < 128) (hT : VTabs w) :
    Calls Tryd.prog 32 #[.pointer (some ⟨b, 0, none⟩)] w fun e w' => e = .returned (.tuple #[]) ∧ Fills w b pb pv (typed v) w' := by
  have HV := Aside0.mk h
  have c1 : w.cell? ⟨b, 1, none⟩ = some (.string v.src) := cb_cell (i := 1) h.top rfl
  have HA := Aside0.mk ha
  have HT := Aside0.mk hT
  clear h ha hT
  go_enter Tryd.func32, Tryd.ntmps32
  go_wp2_with fail
  refine (isFilePath v.src w HA.out HT.out).mono ?_
  rintro e w1 ⟨rfl, hb⟩
  have hV1 := HV.out.turns (Turns.of_below (F := fun _ => False) hb) (fun _ _ h => h)
  have HB1 := Aside0.mk hb
  have HV1 := Aside0.mk hV1
  have c0 : w1.cell? ⟨b, 0, none⟩ = some (.string v.typ) := cb_cell (i := 0) hV1.top rfl
  have f0 := cb_frozen (i := 0) hV1.top
  have f5 := cb_frozen (i := 5) hV1.top
  have f6 := cb_frozen (i := 6) hV1.top
  have c5 : w1.cell? ⟨b, 5, none⟩ = some (at0 pb) := cb_cell (i := 5) hV1.top rfl
  have c6 : w1.cell? ⟨b, 6, none⟩ = some (at0 pv) := cb_cell (i := 6) hV1.top rfl
  have hlt := cb_lt hV1.top
  clear hb hV1 c1
  cases hf : filePath (lb v.src)
  · have ht : typed v = { v with typ := ⟨#[118, 111, 108, 117, 109, 101]⟩, own := some (v.own.getD false) } := by simp [typed, hf]
    have HTY := Aside0.mk ht
    clear ht
    cases pv with
    | some k =>
      simp only [at0, Option.map_some] at c6
      go_wp2
      go_end0
      rw [HTY.out]
      refine ⟨rfl, pb, some k, ?_, ?_, fun _ h => .inl h⟩
      · obtain ⟨x, hx⟩ := HV1.out.own_some
        exact HV1.out.put 0 _ rfl rfl (by rw [hx]; rfl)
      · exact (Turns.of_below HB1.out).trans (Turns.setCell _ b 0 _) (fun j _ e => .inl e)
    | none =>
      simp only [at0, Option.map_none] at c6
      go_wp2
      go_end0
      rw [HTY.out]
      have h0 := HV1.out.put (v' := { v with typ := ⟨#[118, 111, 108, 117, 109, 101]⟩ }) 0 (.string ⟨#[118, 111, 108, 117, 109, 101]⟩) rfl rfl rfl
      have h1 := h0.newOwn false
      rw [World.size_setCell] at h1
      refine ⟨rfl, pb, some w1.heap.size, ?_, ?_, ?_⟩
      · have hx := HV1.out.own_none
        rw [hx]
        exact h1
      · exact ((Turns.of_below HB1.out).trans (Turns.setCell _ b 0 _) (fun j _ e => .inl e)).trans ((Turns.setCell _ b 6 _).trans (Turns.alloc _ _ _) (fun j _ e => e)) (fun j _ e => .inl e)
      · rintro j (e | e | e)
        · exact .inl (.inl e)
        · exact .inl (.inr (.inl e))
        · injection e with e
          right; rw [e]; exact HB1.out.size
  · have ht : typed v = { v with typ := ⟨#[98, 105, 110, 100]⟩, bind := some { v.bind.getD ⟨⟨#[]⟩, ⟨#[]⟩, false⟩ with ch := true } } := by simp [typed, hf]
    have HTY := Aside0.mk ht
    clear ht
    cases pb with
    | some k =>
      simp only [at0, Option.map_some] at c5
      obtain ⟨x, hx⟩ := HV1.out.bind_some
      have hbk := HV1.out.bind
      rw [hx] at hbk
      have hkb : ¬ k = b := fun e => HV1.out.nb (by rw [e])
      have hbk' : ¬ b = k := fun e => hkb e.symm
      have ck : w1.cell? ⟨k, 2, none⟩ = some (.bool x.ch) := cb_cell (i := 2) hbk rfl
      have fk := cb_frozen (i := 2) hbk
      have HX := Aside0.mk hx
      clear hbk hx
      go_wp2
      go_end0
      rw [HTY.out]
      have h0 := HV1.out.put (v' := { v with typ := ⟨#[98, 105, 110, 100]⟩ }) 0 (.string ⟨#[98, 105, 110, 100]⟩) rfl rfl rfl
      have h1 := h0.putBind (x := x) (x' := { x with ch := true }) HX.out 2 (.bool true) rfl
      refine ⟨rfl, some k, pv, ?_, ?_, fun _ h => .inl h⟩
      · rw [HX.out]
        exact h1
      · exact ((Turns.of_below HB1.out).trans (Turns.setCell _ b 0 _) (fun j _ e => .inl e)).trans (Turns.setCell _ k 2 _) (fun j _ e => .inr (.inl (by rw [e])))
    | none =>
      simp only [at0, Option.map_none] at c5
      have hbk : ¬ w1.heap.size = b := by omega
      have hbk' : ¬ b = w1.heap.size := by omega
      go_wp2
      go_end0
      rw [HTY.out]
      have h0 := HV1.out.put (v' := { v with typ := ⟨#[98, 105, 110, 100]⟩ }) 0 (.string ⟨#[98, 105, 110, 100]⟩) rfl rfl rfl
      have h1 := h0.newBind ⟨⟨#[]⟩, ⟨#[]⟩, true⟩
      rw [World.size_setCell] at h1
      refine ⟨rfl, some w1.heap.size, pv, ?_, ?_, ?_⟩
      · have hx := HV1.out.bind_none
        rw [hx]
        exact h1
      · exact ((Turns.of_below HB1.out).trans (Turns.setCell _ b 0 _) (fun j _ e => .inl e)).trans ((Turns.setCell _ b 5 _).trans (Turns.alloc _ _ _) (fun j _ e => e)) (fun j _ e => .inl e)
      · rintro j (e | e | e)
        · exact .inl (.inl e)
        · injection e with e
          right; rw [e]; exact HB1.out.size
        · exact .inl (.inr (.inr e))

/-- an option of a bind -/
def isZ (l : Bs) : Bool := l == [122] || l == [90]
def optB (x : BindV) (o : ByteArray) : BindV := if isZ (lb o) = true then { x with se := o } else { x with pr := o }
def bound (v : VolV) (o : ByteArray) : VolV := { v with bind := some (optB (v.bind.getD ⟨⟨#[]⟩, ⟨#[]⟩, false⟩) o) }
set_option maxHeartbeats 1600000 in
theorem setBindOption (b : Nat) (pb pv : Option Nat) (v : VolV) (o : ByteArray) (w : World) (h : VolAt w b pb pv v) :
    Calls Tryd.prog 44 #[.pointer (some ⟨b, 0, none⟩), .string o] w fun e w' => e = .returned (.tuple #[]) ∧ Fills w b pb pv (bound v o) w' := by
  have HV := Aside0.mk h
  have hlt := cb_lt h.top
  have f5 := cb_frozen (i := 5) h.top
  have c5 : w.cell? ⟨b, 5, none⟩ = some (at0 pb) := cb_cell (i := 5) h.top rfl
  clear h
  cases pb with
  | some k =>
    simp only [at0, Option.map_some] at c5
    obtain ⟨x, hx⟩ := HV.out.bind_some
    have hbk := HV.out.bind
    rw [hx] at hbk
    have HBK := Aside0.mk (show w.heap[k]? = some (.cells (bindC x) 53 (0, 0)) from hbk)
    have HX := Aside0.mk hx
    clear hbk hx
    cases hz : isZ (lb o)
    · have z1 : (o.toList == [122]) = false := by rw [toList_lb]; simp only [isZ, Bool.or_eq_false_iff] at hz; exact hz.1
      have z2 : (o.toList == [90]) = false := by rw [toList_lb]; simp only [isZ, Bool.or_eq_false_iff] at hz; exact hz.2
      have HTY := Aside0.mk (show bound v o = { v with bind := some { x with pr := o } } by simp [bound, optB, hz, HX.out])
      clear hz
      go_enter Tryd.func44, Tryd.ntmps44
      go_wp2_with fail
      refine (setBindPropagation k x o w HBK.out).mono ?_
      rintro e w1 ⟨rfl, rfl⟩
      go_wp2
      go_end0
      rw [HTY.out]
      exact ⟨rfl, some k, pv, HV.out.putBind HX.out 1 _ rfl, (Turns.setCell _ k 1 _).mono (fun j _ e => .inr (.inl (by rw [e]))), fun _ h => .inl h⟩
    · have z1 : (o.toList == [122]) = true ∨ ((o.toList == [122]) = false ∧ (o.toList == [90]) = true) := by
        rw [toList_lb]
        simp only [isZ, Bool.or_eq_true] at hz
        cases h1 : (lb o == [122])
        · rw [h1] at hz; right; exact ⟨rfl, hz.resolve_left (by simp)⟩
        · exact .inl rfl
      have HTY := Aside0.mk (show bound v o = { v with bind := some { x with se := o } } by simp [bound, optB, hz, HX.out])
      clear hz
      rcases z1 with z1 | ⟨z1, z2⟩
      all_goals
        go_enter Tryd.func44, Tryd.ntmps44
        go_wp2_with fail
        refine (setBindSELinux k x o w HBK.out).mono ?_
        rintro e w1 ⟨rfl, rfl⟩
        go_wp2
        go_end0
        rw [HTY.out]
        exact ⟨rfl, some k, pv, HV.out.putBind HX.out 0 _ rfl, (Turns.setCell _ k 0 _).mono (fun j _ e => .inr (.inl (by rw [e]))), fun _ h => .inl h⟩
  | none =>
    simp only [at0, Option.map_none] at c5
    have HX := Aside0.mk HV.out.bind_none
    have h1 := HV.out.newBind ⟨⟨#[]⟩, ⟨#[]⟩, false⟩
    have HN := Aside0.mk h1
    clear h1
    cases hz : isZ (lb o)
    · have z1 : (o.toList == [122]) = false := by rw [toList_lb]; simp only [isZ, Bool.or_eq_false_iff] at hz; exact hz.1
      have z2 : (o.toList == [90]) = false := by rw [toList_lb]; simp only [isZ, Bool.or_eq_false_iff] at hz; exact hz.2
      have HTY := Aside0.mk (show bound v o = { v with bind := some ⟨⟨#[]⟩, o, false⟩ } by simp [bound, optB, hz, HX.out])
      clear hz
      go_enter Tryd.func44, Tryd.ntmps44
      go_wp2_with fail
      refine (setBindPropagation w.heap.size ⟨⟨#[]⟩, ⟨#[]⟩, false⟩ o _ HN.out.bind).mono ?_
      rintro e w1 ⟨rfl, rfl⟩
      go_wp2
      go_end0
      rw [HTY.out]
      refine ⟨rfl, some w.heap.size, pv, HV.out.newBind ⟨⟨#[]⟩, o, false⟩, ?_, ?_⟩
      · exact ((Turns.setCell w b 5 _).trans (Turns.alloc (fun j => j = b) _ _) (fun j _ e => e)).mono (fun j _ e => .inl e)
      · rintro j (e | e | e)
        · exact .inl (.inl e)
        · injection e with e
          right; omega
        · exact .inl (.inr (.inr e))
    · have z1 : (o.toList == [122]) = true ∨ ((o.toList == [122]) = false ∧ (o.toList == [90]) = true) := by
        rw [toList_lb]
        simp only [isZ, Bool.or_eq_true] at hz
        cases h1 : (lb o == [122])
        · rw [h1] at hz; right; exact ⟨rfl, hz.resolve_left (by simp)⟩
        · exact .inl rfl
      have HTY := Aside0.mk (show bound v o = { v with bind := some ⟨o, ⟨#[]⟩, false⟩ } by simp [bound, optB, hz, HX.out])
      clear hz
      rcases z1 with z1 | ⟨z1, z2⟩
      all_goals
        go_enter Tryd.func44, Tryd.ntmps44
        go_wp2_with fail
        refine (setBindSELinux w.heap.size ⟨⟨#[]⟩, ⟨#[]⟩, false⟩ o _ HN.out.bind).mono ?_
        rintro e w1 ⟨rfl, rfl⟩
        go_wp2
        go_end0
        rw [HTY.out]
        refine ⟨rfl, some w.heap.size, pv, HV.out.newBind ⟨o, ⟨#[]⟩, false⟩, ?_, ?_⟩
        · exact ((Turns.setCell w b 5 _).trans (Turns.alloc (fun j => j = b) _ _) (fun j _ e => e)).mono (fun j _ e => .inl e)
        · rintro j (e | e | e)
          · exact .inl (.inl e)
          · injection e with e
            right; omega
          · exact .inl (.inr (.inr e))
end Go.Proofs.YtpkfdifoaijpnaaDoor.Vol
