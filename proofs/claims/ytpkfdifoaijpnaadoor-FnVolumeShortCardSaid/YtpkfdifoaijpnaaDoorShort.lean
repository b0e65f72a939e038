/- The reference's own loops over texts: parts, words. -/
import Derived.Test.YtpkfdifoaijpnaaDoorVolSpec
import Derived.Test.YtpkfdifoaijpnaaDoorVolPlain
namespace Go.Proofs.YtpkfdifoaijpnaaDoor.Vol
open Go.RowKit Go.Proofs.YtpkfdifoaijpnaaDoorW.PrintWords Go.Proofs.YtpkfdifoaijpnaaDoor.Str Go.Proofs.YtpkfdifoaijpnaaDoor.Kit Go.Proofs.YtpkfdifoaijpnaaDoor.Frame Go.Proofs.YtpkfdifoaijpnaaDoor.Index
set_option linter.unusedVariables false
set_option linter.unusedSimpArgs false

/-- out stands ahead of place f; from there to i no separator -/
structure Cut (c : UInt8) (s : ByteArray) (out : List ByteArray) (f i : Nat) : Prop where
  fi : f ≤ i
  il : i ≤ s.size
  eq : split c (lb s) = out.map lb ++ split c ((lb s).drop f)
  no : ∀ x ∈ ((lb s).take i).drop f, x ≠ c
  ln : out.length ≤ f
def CutState (c : UInt8) (s : ByteArray) (out : List ByteArray) (f i : Nat) : Prop := Cut c s out f i ∨ (i = s.size + 1 ∧ f = i ∧ split c (lb s) = out.map lb)
theorem Cut.start (c : UInt8) (s : ByteArray) : Cut c s [] 0 0 := ⟨by omega, by omega, by simp, by simp, by simp⟩
theorem take_drop_snoc {l : Bs} {f i : Nat} (h : i < l.length) (hf : f ≤ i) : (l.take (i + 1)).drop f = (l.take i).drop f ++ [l[i]] := by
  rw [List.take_succ_eq_append_getElem h, List.drop_append_of_le_length (by rw [List.length_take]; omega)]
theorem Cut.skip {c : UInt8} {s : ByteArray} {out : List ByteArray} {f i : Nat} (h : Cut c s out f i) (hi : i < (lb s).length) (hc : (lb s)[i] ≠ c) : Cut c s out f (i + 1) := by
  have hi' := hi
  rw [lb_length] at hi'
  refine ⟨by have := h.fi; omega, by omega, h.eq, ?_, h.ln⟩
  rw [take_drop_snoc hi h.fi]
  intro x hx
  rcases List.mem_append.1 hx with hx | hx
  · exact h.no x hx
  · simp at hx; subst hx; exact hc
theorem Cut.cut {c : UInt8} {s : ByteArray} {out : List ByteArray} {f i : Nat} (h : Cut c s out f i) (hi : i < (lb s).length) (hc : (lb s)[i] = c) : Cut c s (out ++ [s.extract f i]) (i + 1) (i + 1) := by
  have hi' := hi
  rw [lb_length] at hi'
  have hfi := h.fi
  refine ⟨by omega, by omega, ?_, ?_, by have := h.ln; simp; omega⟩
  · have e : (lb s).drop f = ((lb s).take i).drop f ++ c :: (lb s).drop (i + 1) := by
      conv => lhs; rw [← List.take_append_drop i (lb s)]
      rw [List.drop_append_of_le_length (by rw [List.length_take]; omega), List.drop_eq_getElem_cons hi, hc]
    rw [h.eq, e, split_at (fun hm => h.no c hm rfl), List.map_append, List.map_cons, List.map_nil, lb_extract, List.append_assoc]
    rfl
  · rw [List.drop_of_length_le (by rw [List.length_take]; omega)]
    simp
theorem Cut.last {c : UInt8} {s : ByteArray} {out : List ByteArray} {f : Nat} (h : Cut c s out f s.size) : split c (lb s) = (out ++ [s.extract f s.size]).map lb := by
  have e := h.no
  rw [List.take_of_length_le (by rw [lb_length]; omega)] at e
  rw [h.eq, split_no (fun hm => e c hm rfl), List.map_append, List.map_cons, List.map_nil, lb_extract, List.take_of_length_le (by rw [lb_length]; omega)]
theorem parts_of_split {c : UInt8} {s : ByteArray} {out : List ByteArray} (h : split c (lb s) = out.map lb) : parts c s = out := by
  unfold parts
  rw [h, List.map_map]
  conv => rhs; rw [← List.map_id out]
  exact List.map_congr_left fun x _ => mk_lb x

set_option maxHeartbeats 1600000 in
theorem shortParts (s : ByteArray) (c : UInt8) (w : World) (hs : s.size ≤ 4398046511104) :
    Calls Tryd.prog 19 #[.string s, .int .u8 c.toNat] w fun e w' => ∃ v, e = .returned v ∧ Kd.R Kd.string 9 w' w.heap.size (fun _ => True) v (parts c s) ∧ Below w.heap.size w w' := by
  have HB := Aside0.mk (Below.refl w.heap.size w)
  go_enter Tryd.func19, Tryd.ntmps19
  go_wp2
  go_loopw [5, 6, 7] (fun v5 v6 v7 wr => ∃ (out : List ByteArray) (f i : Nat), v6 = .int .i64 f ∧ v7 = .int .i64 i ∧ f ≤ i ∧ i ≤ s.size + 1 ∧ Aside0 (CutState c s out f i) ∧ Aside0 (Kd.R Kd.string 9 wr w.heap.size (fun _ => True) v5 out) ∧ Aside0 (Below w.heap.size w wr)) (fun _ _ v7 _ => s.size + 1 - (intOf v7).toNat)
  case atStart => exact ⟨[], 0, 0, rfl, rfl, by omega, by omega, ⟨.inl (Cut.start c s)⟩, ⟨Kd.R_nil _ _ _ _ _⟩, HB⟩
  case round =>
    clear HB
    obtain ⟨out, f, i, rfl, rfl, hfi, hi, HS, HO, HB⟩ := hrel
    by_cases hend : i = s.size + 1
    · have p1 : parts c s = out := by
        rcases HS.out with h | h
        · have := h.il; omega
        · exact parts_of_split h.2.2
      have P1 := Aside0.mk p1
      have d : decide ((i : Int) ≤ (s.size : Int)) = false := decide_eq_false (by omega)
      have hgt : s.size < i := by omega
      clear p1 hend
      go_wp2
      go_ret
      exact ⟨_, rfl, by rw [P1.out]; exact HO.out, HB.out⟩
    · have hG : Cut c s out f i := by
        rcases HS.out with h | h
        · exact h
        · exact absurd h.1 hend
      have HGG := Aside0.mk hG
      have d : decide ((i : Int) ≤ (s.size : Int)) = true := decide_eq_true (by omega)
      have hle : i ≤ s.size := by omega
      have hl : out.length < 8796093022207 := by have := hG.ln; omega
      have q0 : (0 : Int) ≤ (f : Int) := by omega
      have q1 : (f : Int) ≤ (i : Int) := by omega
      have q2 : (i : Int) ≤ (s.size : Int) := by omega
      clear hend hG
      by_cases hlt : i < s.size
      · have hlt' : i < (lb s).length := by rw [lb_length]; exact hlt
        have d1 : ((i : Int) == (s.size : Int)) = false := beq_eq_false_iff_ne.mpr (by omega)
        have q3 : (0 : Int) ≤ (i : Int) := by omega
        have q4 : (i : Int) < (s.size : Int) := by omega
        obtain ⟨b, hb⟩ : ∃ b : UInt8, (lb s)[i] = b := ⟨_, rfl⟩
        have hbs : s[i] = b := hb
        have hcv : (s[i].toNat : Int) = (b.toNat : Int) := by rw [hbs]
        have HBB := Aside0.mk hb
        clear hb hbs
        by_cases hc : b = c
        · have e0 : ((b.toNat : Int) == (c.toNat : Int)) = true := by rw [hc]; simp
          have NX := Aside0.mk (HGG.out.cut hlt' (HBB.out.trans hc))
          clear hc
          go_wp2_with (at_builtin; refine append_str (.tmp 25) (.tmp 30) rfl rfl rfl rfl HO.out HB.out hl ?_; intro v1 w2 ho hb hg; have HO2 := Aside0.mk ho; have HB2 := Aside0.mk hb; clear ho hb hg)
          go_roundw
          case rel => exact ⟨_, i + 1, i + 1, by go_num, by go_num, by omega, by omega, ⟨.inl NX.out⟩, HO2, HB2⟩
          case measure => simp [intOf]; omega
        · have e0 : ((b.toNat : Int) == (c.toNat : Int)) = false := beq_eq_false_iff_ne.mpr (fun h => hc (UInt8.toNat_inj.1 (by omega)))
          have NX := Aside0.mk (HGG.out.skip hlt' (fun e => hc (HBB.out.symm.trans e)))
          clear hc
          go_wp2
          go_roundw
          case rel => exact ⟨out, f, i + 1, rfl, by go_num, by omega, by omega, ⟨.inl NX.out⟩, HO, HB⟩
          case measure => simp [intOf]; omega
      · have hie : i = s.size := by omega
        subst hie
        have d1 : ((s.size : Int) == (s.size : Int)) = true := beq_self_eq_true _
        have NX := Aside0.mk HGG.out.last
        go_wp2_with (at_builtin; refine append_str (.tmp 25) (.tmp 30) rfl rfl rfl rfl HO.out HB.out hl ?_; intro v1 w2 ho hb hg; have HO2 := Aside0.mk ho; have HB2 := Aside0.mk hb; clear ho hb hg)
        go_roundw
        case rel => exact ⟨_, s.size + 1, s.size + 1, by first | rfl | go_num, by first | rfl | go_num, by omega, by omega, ⟨.inr ⟨rfl, rfl, NX.out⟩⟩, HO2, HB2⟩
        case measure => first | (simp [intOf]; done) | (simp [intOf]; omega)

/-- a letter of a word -/
def wb (sl : Bool) (n : Nat) : Bool := letterB n || (decide (48 ≤ n) && decide (n ≤ 57)) || n == 46 || n == 45 || (sl && n == 47)
def wordB (sl : Bool) (l : Bs) : Bool := l.all fun b => wb sl b.toNat
set_option maxHeartbeats 1600000 in
set_option maxRecDepth 1000000 in
theorem shortWord (s : ByteArray) (sl : Bool) (w : World) (hs : s.size ≤ 4398046511104) :
    Calls Tryd.prog 20 #[.string s, .bool sl] w fun e w' => e = .returned (.bool (wordB sl (lb s))) ∧ w' = w := by
  go_enter Tryd.func20, Tryd.ntmps20
  go_wp2
  go_loop [5] (fun v5 => ∃ i : Nat, v5 = .int .i64 i ∧ i ≤ s.size ∧ Aside0 (wordB sl ((lb s).take i) = true)) (fun v5 => s.size - (intOf v5).toNat)
  case atStart => exact ⟨0, rfl, by omega, ⟨rfl⟩⟩
  case round =>
    obtain ⟨i, rfl, hi, HA⟩ := hrel
    by_cases hlt : i < s.size
    · have hlt' : i < (lb s).length := by rw [lb_length]; exact hlt
      have q0 : (0 : Int) ≤ (i : Int) := by omega
      have q1 : (i : Int) < (s.size : Int) := by omega
      obtain ⟨b, hb⟩ : ∃ b : UInt8, (lb s)[i] = b := ⟨_, rfl⟩
      have hbs : s[i] = b := hb
      have hcv : (s[i].toNat : Int) = (b.toNat : Int) := by rw [hbs]
      have hlim := b.toNat_lt
      have HBB := Aside0.mk hb
      have hsn : wordB sl ((lb s).take (i + 1)) = wb sl b.toNat := by
        unfold wordB at HA ⊢
        rw [List.take_succ_eq_append_getElem hlt', List.all_append, HA.out, hb]
        simp
      have HSN := Aside0.mk hsn
      have hno : wb sl b.toNat = false → wordB sl (lb s) = false := fun h => by
        unfold wordB
        rw [List.all_eq_false]
        exact ⟨b, by rw [← hb]; exact List.getElem_mem hlt', by simp [h]⟩
      have HNO := Aside0.mk hno
      clear hb hbs hsn hno
      obtain ⟨n, hn⟩ : ∃ n : Nat, b.toNat = n := ⟨_, rfl⟩
      rw [hn] at hcv hlim HSN HNO
      clear hn
      have D := Aside0.mk (dotenvLetter n (by omega))
      go_wp2_with fail
      refine (D.out _).mono ?_
      rintro e w1 ⟨rfl, rfl⟩
      cases hl : letterB n
      · by_cases h1 : 48 ≤ n ∧ n ≤ 57
        · have Y := Aside0.mk (HSN.out.trans (by simp [wb, h1.1, h1.2] : wb sl n = true))
          obtain ⟨h1, h2⟩ := h1
          clear hl
          go_wp2
          go_round
          case rel => exact ⟨i + 1, by go_num, by omega, Y⟩
          case measure => simp [intOf]; omega
        · by_cases h2 : n = 46
          · have Y := Aside0.mk (HSN.out.trans (by simp [wb, h2] : wb sl n = true))
            have e1 : ((n : Int) != 46) = false := by rw [h2]; rfl
            have l1 : n < 48 := by omega
            clear hl h2 h1
            go_wp2
            go_round
            case rel => exact ⟨i + 1, by go_num, by omega, Y⟩
            case measure => simp [intOf]; omega
          · have e1 : ((n : Int) != 46) = true := by simp; omega
            by_cases h3 : n = 45
            · have Y := Aside0.mk (HSN.out.trans (by simp [wb, h3] : wb sl n = true))
              have e2 : ((n : Int) != 45) = false := by rw [h3]; rfl
              have l1 : n < 48 := by omega
              clear hl h2 h1 h3
              go_wp2
              go_round
              case rel => exact ⟨i + 1, by go_num, by omega, Y⟩
              case measure => simp [intOf]; omega
            · have e2 : ((n : Int) != 45) = true := by simp; omega
              have hd : n < 48 ∨ 57 < n := by omega
              by_cases h4 : n = 47
              · have e3 : ((n : Int) == 47) = true := by rw [h4]; rfl
                have l1 : n < 48 := by omega
                cases sl
                · have N := Aside0.mk (HNO.out (by simp [wb, hl, h4, show letterB 47 = false from by decide]))
                  clear hl h1 h2 h3 h4 hd
                  go_wp2
                  go_ret
                  exact ⟨by rw [N.out]; rfl, rfl⟩
                · have Y := Aside0.mk (HSN.out.trans (by simp [wb, h4] : wb true n = true))
                  clear hl h1 h2 h3 h4 hd
                  go_wp2
                  go_round
                  case rel => exact ⟨i + 1, by go_num, by omega, Y⟩
                  case measure => simp [intOf]; omega
              · have e3 : ((n : Int) == 47) = false := beq_eq_false_iff_ne.mpr (by omega)
                have N := Aside0.mk (HNO.out (by
                  simp [wb, hl, h2, h3, h4]
                  omega))
                clear hl h1 h2 h3 h4
                rcases hd with hd | hd
                · cases sl
                  all_goals
                    go_wp2
                    go_ret
                    exact ⟨by rw [N.out]; rfl, rfl⟩
                · have dd : decide ((n : Int) ≤ 57) = false := decide_eq_false (by omega)
                  have dd2 : (48 : Int) ≤ (n : Int) := by omega
                  cases sl
                  all_goals
                    go_wp2
                    go_ret
                    exact ⟨by rw [N.out]; rfl, rfl⟩
      · have Y := Aside0.mk (HSN.out.trans (by simp [wb, hl] : wb sl n = true))
        clear hl
        go_wp2
        go_round
        case rel => exact ⟨i + 1, by go_num, by omega, Y⟩
        case measure => simp [intOf]; omega
    · have hall : wordB sl (lb s) = true := by
        have := HA.out
        rw [List.take_of_length_le (by rw [lb_length]; omega)] at this
        exact this
      have HALL := Aside0.mk hall
      clear hall HA
      go_wp2
      go_ret
      exact ⟨by rw [HALL.out]; rfl, rfl⟩
end Go.Proofs.YtpkfdifoaijpnaaDoor.Vol
