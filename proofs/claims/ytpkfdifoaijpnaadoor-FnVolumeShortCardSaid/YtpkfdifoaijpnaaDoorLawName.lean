/- FnProjectNameRight: the walks of the package's, the reference's and the law's functions. -/
import Derived.Test.YtpkfdifoaijpnaaDoorName
namespace Go.Proofs.YtpkfdifoaijpnaaDoor.LawName
open Go.RowKit Go.Proofs.YtpkfdifoaijpnaaDoorW.PrintWords Go.Proofs.YtpkfdifoaijpnaaDoor.Str Go.Proofs.YtpkfdifoaijpnaaDoor.Kit Go.Proofs.YtpkfdifoaijpnaaDoor.Name
set_option linter.unusedVariables false
set_option linter.unusedSimpArgs false

/-- the library's tables, as their initialisers lay them -/
def NTabs (w : World) : Prop := Lib.CaseVar 2 Lib.caseA w ∧ Lib.Utf8Tabs 4 5 w
theorem NTabs.below {w w' : World} (h : NTabs w) (hb : Below w.heap.size w w') : NTabs w' := ⟨Lib.CaseVar_below h.1 hb, Utf8Tabs_below h.2 hb⟩

/-- a name, out of a text -/
def pn (l : Bs) : Bs := ((Lib.toLowerD l).filter nameB).dropWhile lineB
def Right (l : Bs) : Prop := (∀ b ∈ l, nameB b = true) ∧ l.dropWhile lineB = l
theorem dropWhile_twice (l : Bs) : (l.dropWhile lineB).dropWhile lineB = l.dropWhile lineB := by
  induction l with
  | nil => rfl
  | cons a l ih =>
    rw [List.dropWhile_cons]
    split
    · exact ih
    · rename_i h
      rw [List.dropWhile_cons, if_neg h]
theorem pn_right (l : Bs) : Right (pn l) := by
  refine ⟨fun b hb => ?_, dropWhile_twice _⟩
  have := (List.dropWhile_sublist _).subset hb
  exact (List.mem_filter.1 this).2
theorem nameB_lt {b : UInt8} (h : nameB b = true) : b.toNat < 128 := by
  simp [nameB] at h
  omega
theorem lower_name {b : UInt8} (h : nameB b = true) : Lib.lowerB b = b := by
  simp [nameB] at h
  unfold Lib.lowerB
  have hu : Lib.isUpperB b = false := by
    unfold Lib.isUpperB
    simp [UInt8.le_iff_toNat_le]
    intro h1
    omega
  rw [hu]
  rfl
theorem pn_same {l : Bs} (h : Right l) : pn l = l := by
  unfold pn
  rw [Lib.toLowerD_ascii l (fun b hb => nameB_lt (h.1 b hb))]
  have e : Lib.toLowerA l = l := by
    unfold Lib.toLowerA
    conv => rhs; rw [← List.map_id l]
    exact List.map_congr_left fun b hb => lower_name (h.1 b hb)
  rw [e, List.filter_eq_self.2 h.1, h.2]

theorem encode_le (z : Int) : (Lib.encodeRune z).length ≤ 4 := by
  unfold Lib.encodeRune Lib.encodeRuneZ
  rw [List.length_map]
  repeat' split
  all_goals simp
theorem mapD_len (f : Int → Int) : ∀ (n : Nat) (l : Bs), l.length ≤ n → (Lib.mapD f l).length ≤ 4 * l.length
  | 0, l, hn => by
    have : l = [] := List.eq_nil_of_length_eq_zero (by omega)
    subst this
    simp [Lib.mapD_nil]
  | n + 1, l, hn => by
    by_cases hne : l = []
    · subst hne
      simp [Lib.mapD_nil]
    · have hw := Lib.decodeL_width l
      have hle := Lib.decodeL_le l hne
      have ih := mapD_len f n (l.drop (Lib.decodeL l).2) (by rw [List.length_drop]; omega)
      rw [List.length_drop] at ih
      rw [Lib.mapD_step f l hne, List.length_append]
      have hh : (if 0 ≤ f (Lib.decodeL l).1 then Lib.encodeRune (f (Lib.decodeL l).1) else []).length ≤ 4 := by
        split
        · exact encode_le _
        · simp
      omega
theorem lower_len (l : Bs) : (Lib.toLowerD l).length ≤ 4 * l.length := mapD_len _ _ l (Nat.le_refl _)

theorem Normalize (s : ByteArray) (w : World) (hs : s.size ≤ 8796093022208) (hT : NTabs w) :
    Calls Tryd.prog 17 #[.string s] w fun e w' => e = .returned (.string ⟨(pn (lb s)).toArray⟩) ∧ Below w.heap.size w w' := by
  have HT := Aside0.mk hT
  clear hT
  unfold pn
  have hl := lower_len (lb s)
  rw [lb_length] at hl
  have cL := Tryd.strings_ToLower_any s w (by omega) HT.out.1 HT.out.2
  have CL := Aside0.mk cL
  clear cL
  generalize hd : Lib.toLowerD (lb s) = d at hl CL ⊢
  generalize hf : d.filter nameB = f
  have hfa : ascii f := by
    subst hf
    exact fun b hb => nameB_lt (List.mem_filter.1 hb).2
  have HFA := Aside0.mk hfa
  have HF := Aside0.mk hf
  clear hd hf hfa
  generalize hr : f.dropWhile lineB = r
  have HR := Aside0.mk hr
  clear hr
  go_enter Tryd.func17, Tryd.ntmps17
  go_wp2_with fail
  refine CL.out.mono ?_
  rintro e w1 ⟨rfl, hb⟩
  have HB1 := Aside0.mk hb
  clear hb
  go_wp2_with fail
  refine (zzNameChars ⟨d.toArray⟩ w1 (by show d.toArray.size ≤ _; rw [List.size_toArray]; omega)).mono ?_
  rintro e w2 ⟨rfl, hb⟩
  have HB2 := Aside0.mk (hb_then HB1.out hb)
  rw [lb_mk, HF.out]
  clear hb
  go_wp2_with fail
  refine (zzTrimLeft ⟨f.toArray⟩ w2 (by rw [lb_mk]; exact HFA.out)).mono ?_
  rintro e w3 ⟨rfl, hb⟩
  have HB3 := Aside0.mk (hb_then HB2.out hb)
  rw [lb_mk, HR.out]
  clear hb
  go_wp2
  go_ret
  exact ⟨rfl, HB3.out⟩

theorem ProjectName (s : ByteArray) (w : World) (hs : s.size ≤ 8796093022208) (hT : NTabs w) :
    Calls Tryd.prog 7 #[.string s] w fun e w' => e = .returned (.string ⟨(pn (lb s)).toArray⟩) ∧ Below w.heap.size w w' := by
  have C := Aside0.mk (Normalize s w hs hT)
  clear hT
  generalize pn (lb s) = r at C ⊢
  go_enter Tryd.func7, Tryd.ntmps7
  go_wp2_with fail
  refine C.out.mono ?_
  rintro e w1 ⟨rfl, hb⟩
  have HB1 := Aside0.mk hb
  clear hb
  go_wp2
  go_ret
  exact ⟨rfl, HB1.out⟩

set_option maxHeartbeats 1600000 in
set_option maxRecDepth 1000000 in
theorem specName (s : ByteArray) (w : World) (hr : Right (lb s)) (hs : s.size ≤ 4398046511104) :
    Calls Tryd.prog 18 #[.string s] w fun e w' => e = .returned (.tuple #[.string s, .bool true]) ∧ Below w.heap.size w w' := by
  have HR := Aside0.mk hr
  clear hr
  go_enter Tryd.func18, Tryd.ntmps18
  have HB := Aside0.mk (Below.refl w.heap.size w)
  go_wp2
  go_loopw [4, 5] (fun v4 v5 wr => ∃ (i : Nat) (t : ByteArray), v4 = .string t ∧ v5 = .int .i64 i ∧ i ≤ s.size ∧ t.size = i ∧ Aside0 (lb t = (lb s).take i) ∧ Aside0 (Below w.heap.size w wr)) (fun _ v5 _ => s.size - (intOf v5).toNat)
  case atStart => exact ⟨0, ⟨#[]⟩, rfl, rfl, by omega, rfl, ⟨rfl⟩, HB⟩
  case round =>
    clear HB
    obtain ⟨i, t, rfl, rfl, hi, hts, HE, HB⟩ := hrel
    by_cases hlt : i < s.size
    · have hlt' : i < (lb s).length := by rw [lb_length]; exact hlt
      have q0 : (0 : Int) ≤ (i : Int) := by omega
      have q1 : (i : Int) < (s.size : Int) := by omega
      obtain ⟨b, hb⟩ : ∃ b : UInt8, (lb s)[i] = b := ⟨_, rfl⟩
      have hbs : s[i] = b := hb
      obtain ⟨c, hc⟩ : ∃ c : Nat, b.toNat = c := ⟨_, rfl⟩
      have hcv : (s[i].toNat : Int) = (c : Int) := by rw [hbs, hc]
      have hn : nameB b = true := by rw [← hb]; exact HR.out.1 _ (List.getElem_mem hlt')
      have hfirst : i = 0 → lineB b = false := by
        intro h0
        have h1 := HR.out.2
        have h2 : lb s = b :: (lb s).drop 1 := by
          rw [← hb]
          subst h0
          simpa using (List.drop_eq_getElem_cons hlt')
        rw [h2, List.dropWhile_cons] at h1
        cases hl : lineB b
        · rfl
        · rw [if_pos hl] at h1
          exfalso
          have := congrArg List.length h1
          have h3 := (List.dropWhile_sublist (l := List.drop 1 (lb s)) lineB).length_le
          simp only [List.length_cons] at this
          omega
      have hyes : (97 ≤ c ∧ c ≤ 122) ∨ (48 ≤ c ∧ c ≤ 57) ∨ (c = 95 ∧ 0 < i) ∨ (c = 45 ∧ 0 < i) := by
        have hz : (i = 0 → ¬ (c = 95 ∨ c = 45)) := by
          intro h0
          have := hfirst h0
          simp [lineB, hc] at this
          omega
        simp [nameB, hc] at hn
        omega
      have HEN := Aside0.mk (show lb (t ++ strOfNums [(c : Int)]) = (lb s).take (i + 1) by
        rw [lb_append, HE.out, List.take_succ_eq_append_getElem hlt', hb, ← hc]
        congr 1
        have := strOfNums_data [(b.toNat : Int)]
        simp [lb, this])
      have hlim : c < 256 := by rw [← hc]; exact b.toNat_lt
      clear hb hbs hc hn hfirst
      have hz : (strOfNums [(c : Int)]).size = 1 := by
          show (strOfNums [(c : Int)]).data.size = 1
          rw [← Array.length_toList, strOfNums_data]; rfl
      have hcap : t.size + (strOfNums [(c : Int)]).size ≤ 9223372036854775807 := by omega
      have hsz2 : (t ++ strOfNums [(c : Int)]).size = i + 1 := by rw [ByteArray.size_append]; omega
      have hcv1 : (convert 65 9 (.slice (some ⟨wr.heap.size, 0, none⟩) 1 1)).run Tryd.prog (wr.alloc (.cells #[.int .u8 (c : Int)] 5)) = .ok (.string (strOfNums [(c : Int)])) (wr.alloc (.cells #[.int .u8 (c : Int)] 5)) := by
        have h1 := run_convert_bytes_back (P := Tryd.prog) (wr.alloc (.cells #[.int .u8 (c : Int)] 5)) 65 9 5 ⟨wr.heap.size, 0, none⟩ 1 [UInt8.ofNat c] Tryd.underlying65 Tryd.underlying5 Tryd.underlying9 (by
          intro j hj
          simp at hj
          subst hj
          have := World.cell?_alloc_new wr #[Value.int .u8 (c : Int)] 5 0
          rw [show (({ block := wr.heap.size, off := 0 } : Addr).add 0) = ⟨wr.heap.size, 0, none⟩ from rfl, this]
          have hm : c % 256 = c := Nat.mod_eq_of_lt hlim
          simp [hm])
        rw [show ([UInt8.ofNat c] : Bs).length = 1 from rfl] at h1
        rw [h1]
        congr 1
      have HB2 := Aside0.mk (HB.out.alloc HB.out.size (.cells #[.int .u8 (c : Int)] 5))
      generalize strOfNums [(c : Int)] = y at hz hcap hsz2 hcv1 HEN
      have ht0 : 0 < i → (t.toList == ([] : Bs)) = false := fun h0 => by
        rw [toList_lb]
        cases hl : lb t with
        | nil => exfalso; rw [← lb_length, hl] at hts; simp at hts; omega
        | cons a b => rfl
      rcases hyes with h | h | ⟨h, h0⟩ | ⟨h, h0⟩
      all_goals first | (have ht1 := ht0 h0; have htn : t.toList ≠ [] := by (intro he; rw [he] at ht1; cases ht1)) | skip
      all_goals clear ht0
      · go_wp2
        go_roundw
        case rel => exact ⟨i + 1, _, rfl, by go_num, by omega, hsz2, HEN, HB2⟩
        case measure => simp [intOf]; omega
      · go_wp2
        go_roundw
        case rel => exact ⟨i + 1, _, rfl, by go_num, by omega, hsz2, HEN, HB2⟩
        case measure => simp [intOf]; omega
      · have b1 : ((c : Int) == 45) = false := beq_eq_false_iff_ne.mpr (by omega)
        have b2 : ((c : Int) == 95) = true := by rw [h]; rfl
        have l1 : 94 < c := by omega
        have l2 : c < 96 := by omega
        clear h
        go_wp2
        go_roundw
        case rel => exact ⟨i + 1, _, rfl, by go_num, by omega, hsz2, HEN, HB2⟩
        case measure => simp [intOf]; omega
      have b1 : ((c : Int) == 45) = true := by rw [h]; rfl
      have l1 : 44 < c := by omega
      have l2 : c < 46 := by omega
      clear h
      all_goals go_wp2
      all_goals
        go_roundw
        case rel => exact ⟨i + 1, _, rfl, by go_num, by omega, hsz2, HEN, HB2⟩
        case measure => simp [intOf]; omega
    · have he : lb t = lb s := by rw [HE.out, List.take_of_length_le (by rw [lb_length]; omega)]
      have he' := lb_inj he
      subst he'
      clear he
      go_wp2
      go_ret2
      exact ⟨rfl, HB.out⟩

theorem NameRight (s : ByteArray) (w : World) (hr : Right (lb s)) (hs : s.size ≤ 4398046511104) :
    Calls Tryd.prog 8 #[.string s] w fun e w' => e = .returned (.bool true) ∧ Below w.heap.size w w' := by
  have HR := Aside0.mk hr
  clear hr
  have e0 : (s.toList == s.toList) = true := beq_self_eq_true _
  go_enter Tryd.func8, Tryd.ntmps8
  go_wp2_with fail
  refine (specName s w HR.out hs).mono ?_
  rintro e w1 ⟨rfl, hb⟩
  have HB1 := Aside0.mk hb
  clear hb
  go_wp2
  go_ret
  exact ⟨rfl, HB1.out⟩

theorem awake_pn : pn [95, 65, 45, 98] = [97, 45, 98] := by
  unfold pn
  rw [Lib.toLowerD_ascii _ (by decide)]
  decide
theorem normAwake (w : World) (hT : NTabs w) :
    Calls Tryd.prog 9 #[] w fun e w' => e = .returned (.bool true) ∧ Below w.heap.size w w' := by
  have C := Aside0.mk (ProjectName ⟨#[95, 65, 45, 98]⟩ w (by decide) hT)
  rw [show pn (lb ⟨#[95, 65, 45, 98]⟩) = [97, 45, 98] from awake_pn] at C
  clear hT
  go_enter Tryd.func9, Tryd.ntmps9
  go_wp2_with fail
  refine C.out.mono ?_
  rintro e w1 ⟨rfl, hb⟩
  have HB1 := Aside0.mk hb
  clear hb
  go_wp2
  go_ret
  exact ⟨rfl, HB1.out⟩

set_option maxHeartbeats 1600000 in
theorem law (s : ByteArray) (w : World) (_ : s.size ≤ 140737488351232) (hT : NTabs w) :
    Calls Tryd.prog 3 #[.string s] w fun e w' => e = .returned (.bool true) ∧ Below w.heap.size w w' := by
  have HT := Aside0.mk hT
  have HB0 := Aside0.mk (Below.refl w.heap.size w)
  clear hT
  by_cases hs : 2147483647 < s.size
  · have hs' : (2147483647 : Int) < (s.size : Int) := by omega
    clear hs
    go_enter Tryd.func3, Tryd.ntmps3
    go_wp2
    go_ret
    exact ⟨rfl, HB0.out⟩
  · have hs' : ¬ (2147483647 : Int) < (s.size : Int) := by omega
    have hl := lower_len (lb s)
    have hp : (pn (lb s)).length ≤ 4 * s.size := by
      rw [lb_length] at hl
      have h1 := (List.dropWhile_sublist (l := (Lib.toLowerD (lb s)).filter nameB) lineB).length_le
      have h2 := List.length_filter_le nameB (Lib.toLowerD (lb s))
      unfold pn
      omega
    have C1 := Aside0.mk (ProjectName s w (by omega) HT.out)
    have R := Aside0.mk (pn_right (lb s))
    have Q := Aside0.mk (pn_same R.out)
    clear hl
    generalize pn (lb s) = r at C1 hp R Q
    have hz : (⟨r.toArray⟩ : ByteArray).size = r.length := by show r.toArray.size = _; rw [List.size_toArray]
    have hL : lb ⟨r.toArray⟩ = r := lb_mk r
    have HR := Aside0.mk (show Right (lb ⟨r.toArray⟩) by rw [hL]; exact R.out)
    have C2 : ∀ w1, NTabs w1 → Calls Tryd.prog 7 #[.string ⟨r.toArray⟩] w1 fun e w' => e = .returned (.string ⟨r.toArray⟩) ∧ Below w1.heap.size w1 w' := fun w1 h1 => by
      have := ProjectName ⟨r.toArray⟩ w1 (by rw [hz]; omega) h1
      rw [hL, Q.out] at this
      exact this
    have HC2 := Aside0.mk C2
    clear C2 hL
    generalize (⟨r.toArray⟩ : ByteArray) = name at *
    have e0 : (name.toList == name.toList) = true := beq_self_eq_true _
    go_enter Tryd.func3, Tryd.ntmps3
    go_wp2_with fail
    refine C1.out.mono ?_
    rintro e w1 ⟨rfl, hb⟩
    have HB1 := Aside0.mk hb
    have HT1 := Aside0.mk (HT.out.below hb)
    clear hb
    go_wp2_with fail
    refine (NameRight name w1 HR.out (by omega)).mono ?_
    rintro e w2 ⟨rfl, hb⟩
    have HB2 := Aside0.mk (hb_then HB1.out hb)
    have HT2 := Aside0.mk (HT1.out.below hb)
    clear hb
    go_wp2_with fail
    refine (HC2.out w2 HT2.out).mono ?_
    rintro e w3 ⟨rfl, hb⟩
    have HB3 := Aside0.mk (hb_then HB2.out hb)
    have HT3 := Aside0.mk (HT2.out.below hb)
    clear hb
    go_wp2_with fail
    refine (normAwake w3 HT3.out).mono ?_
    rintro e w4 ⟨rfl, hb⟩
    have HB4 := Aside0.mk (hb_then HB3.out hb)
    clear hb
    go_wp2
    go_ret
    exact ⟨rfl, HB4.out⟩
end Go.Proofs.YtpkfdifoaijpnaaDoor.LawName
