/- FnVolumeNone: the walks. -/
import Derived.Test.YtpkfdifoaijpnaaDoorShort
import Derived.Test.YtpkfdifoaijpnaaDoorVolEmpty
namespace Go.Proofs.YtpkfdifoaijpnaaDoor.Vol
open Go.RowKit Go.Proofs.YtpkfdifoaijpnaaDoorW.PrintWords Go.Proofs.YtpkfdifoaijpnaaDoor.Str Go.Proofs.YtpkfdifoaijpnaaDoor.Kit Go.Proofs.YtpkfdifoaijpnaaDoor.Frame Go.Proofs.YtpkfdifoaijpnaaDoor.Index
set_option linter.unusedVariables false
set_option linter.unusedSimpArgs false

/-- printable, and no dollar sign -/
def shown (l : Bs) : Prop := ∀ b ∈ l, 32 ≤ b.toNat ∧ b.toNat ≤ 126 ∧ b.toNat ≠ 36
/-- what the reference tells where it says: no mount -/
def NoneP (s : ByteArray) : Prop := s.size = 0 ∨ (3 ≤ s.size ∧ shown (lb s) ∧ (∀ p ∈ parts 58 s, p.size ≠ 1) ∧ (3 < (parts 58 s).length ∨ ∃ p ∈ parts 58 s, p.size = 0))
def NonePost (s : ByteArray) (w : World) (e : Ending) (w' : World) : Prop := Below w.heap.size w w' ∧ ∃ b : Bool, e = .returned (.bool b) ∧ (b = true → NoneP s)
theorem NonePost.no {s : ByteArray} {w w' : World} (h : Below w.heap.size w w') : NonePost s w (.returned (.bool false)) w' := ⟨h, false, rfl, fun h => by cases h⟩
theorem NonePost.yes {s : ByteArray} {w w' : World} {b : Bool} (h : Below w.heap.size w w') (k : b = true → NoneP s) : NonePost s w (.returned (.bool b)) w' := ⟨h, b, rfl, k⟩

set_option maxHeartbeats 1600000 in
set_option maxRecDepth 1000000 in
theorem ShortNone (s : ByteArray) (w : World) (hs : s.size ≤ 2147483647) :
    Calls Tryd.prog 10 #[.string s] w (NonePost s w) := by
  have hpl := parts_length 58 s
  have hpp := parts_pos 58 s
  have e0 := str_empty s
  have PC := Aside0.mk (shortParts s 58 w (by omega))
  have PN := Aside0.mk (show NoneP s ↔ _ from Iff.rfl)
  generalize hps : parts 58 s = ps at PC hpl hpp
  have HPS := Aside0.mk hps
  clear hps PN
  go_enter Tryd.func10, Tryd.ntmps10
  go_wp2_with fail
  refine PC.out.mono ?_
  rintro e w1 ⟨v, rfl, hR, hb⟩
  obtain ⟨A3, c3, rfl, hle, hC⟩ := Kd.R_reads hR
  obtain ⟨b3, o3, rfl, hb3, hcell⟩ := strs_open hC hpp
  have HC := Aside0.mk hcell
  have HB1 := Aside0.mk hb
  clear hR hC hcell hb hle
  by_cases h0 : s.size = 0
  · rw [decide_eq_true h0] at e0
    have Y := Aside0.mk (show NoneP s from .inl h0)
    clear h0
    go_wp2
    go_ret
    exact NonePost.yes HB1.out (fun _ => Y.out)
  · rw [decide_eq_false h0] at e0
    by_cases h3 : s.size < 3
    · have l3 : decide ((s.size : Int) < 3) = true := decide_eq_true (by omega)
      clear h0
      go_wp2
      go_ret
      exact NonePost.no HB1.out
    · have l3 : decide ((s.size : Int) < 3) = false := decide_eq_false (by omega)
      have g0 := HC.out 0 hpp
      have q0 : (0 : Int) < (ps.length : Int) := by omega
      have hp0 : ps[0].size ≤ s.size + 1 := by
        have : (lb ps[0]).length ≤ (lb s).length := by
          have hm : lb ps[0] ∈ split 58 (lb s) := by
            have : ps[0] ∈ parts 58 s := by rw [HPS.out]; exact List.getElem_mem hpp
            unfold parts at this
            obtain ⟨x, hx, hxe⟩ := List.mem_map.1 this
            rw [← hxe, lb_mk]
            exact hx
          exact split_mem_length (Nat.le_refl _) hm
        rw [lb_length, lb_length] at this
        omega
      rw [Nat.add_zero] at g0
      by_cases h1 : ps[0].size = 1
      · have n1 : ((ps[0].size : Int) == 1) = true := by rw [h1]; rfl
        clear h0 h1
        go_wp2
        go_ret
        exact NonePost.no HB1.out
      · have n1 : ((ps[0].size : Int) == 1) = false := beq_eq_false_iff_ne.mpr (by omega)
        have CW := Aside0.mk (shortWord ps[0] true w1 (by omega))
        generalize wordB true (lb ps[0]) = wd at CW
        generalize ps[0] = p0 at g0 n1 CW h1
        clear h0 h1
        go_wp2_with fail
        refine CW.out.mono ?_
        rintro e w2 ⟨rfl, rfl⟩
        cases wd
        · go_wp2
          go_ret
          exact NonePost.no HB1.out
        · go_wp2
          go_loop [4] (fun v4 => ∃ i : Nat, v4 = .int .i64 i ∧ i ≤ s.size ∧ Aside0 (shown ((lb s).take i))) (fun v4 => s.size - (intOf v4).toNat)
          case atStart => exact ⟨0, rfl, by omega, ⟨by intro b hb; simp at hb⟩⟩
          case round =>
            obtain ⟨i, rfl, hi, HA⟩ := hrel
            by_cases hlt : i < s.size
            · have hlt' : i < (lb s).length := by rw [lb_length]; exact hlt
              have q2 : (0 : Int) ≤ (i : Int) := by omega
              have q1 : (i : Int) < (s.size : Int) := by omega
              obtain ⟨b, hb⟩ : ∃ b : UInt8, (lb s)[i] = b := ⟨_, rfl⟩
              have hbs : s[i] = b := hb
              have hcv : (s[i].toNat : Int) = (b.toNat : Int) := by rw [hbs]
              have HX := Aside0.mk (show 32 ≤ b.toNat ∧ b.toNat ≤ 126 ∧ b.toNat ≠ 36 → shown ((lb s).take (i + 1)) from fun h => by
                rw [List.take_succ_eq_append_getElem hlt', hb]
                intro x hx
                rcases List.mem_append.1 hx with hx | hx
                · exact HA.out x hx
                · simp at hx; subst hx; exact h)
              clear hb hbs
              obtain ⟨n, hn⟩ : ∃ n : Nat, b.toNat = n := ⟨_, rfl⟩
              rw [hn] at hcv HX
              clear hn
              by_cases c1 : n < 32
              · go_wp2
                go_ret
                exact NonePost.no HB1.out
              · by_cases c2 : 126 < n
                · go_wp2
                  go_ret
                  exact NonePost.no HB1.out
                · have d1 : decide ((126 : Int) < (n : Int)) = false := decide_eq_false (by omega)
                  by_cases c3 : n = 36
                  · have e3 : ((n : Int) == 36) = true := by rw [c3]; rfl
                    have l1 : 32 ≤ n := by omega
                    clear c3 c1 c2
                    go_wp2
                    go_ret
                    exact NonePost.no HB1.out
                  · have e3 : ((n : Int) == 36) = false := beq_eq_false_iff_ne.mpr (by omega)
                    have Y := Aside0.mk (HX.out ⟨by omega, by omega, c3⟩)
                    have l1 : 32 ≤ n := by omega
                    clear c3 c1
                    go_wp2
                    go_round
                    case rel => exact ⟨i + 1, by go_num, by omega, Y⟩
                    case measure => simp [intOf]; omega
            · have hall : shown (lb s) := by
                have := HA.out
                rw [List.take_of_length_le (by rw [lb_length]; omega)] at this
                exact this
              have HALL := Aside0.mk hall
              clear hall HA
              go_wp2
              go_loop [5, 6] (fun v5 v6 => ∃ (j : Nat) (f : Bool), v5 = .bool f ∧ v6 = .int .i64 j ∧ j ≤ ps.length ∧ Aside0 ((∀ p ∈ ps.take j, p.size ≠ 1) ∧ (f = true → 3 < ps.length ∨ ∃ p ∈ ps, p.size = 0))) (fun _ v6 => ps.length - (intOf v6).toNat)
              case atStart => exact ⟨0, _, rfl, rfl, by omega, ⟨by intro p hp; simp at hp, fun h => .inl (by have := of_decide_eq_true h; omega)⟩⟩
              case round =>
                obtain ⟨j, f, rfl, rfl, hj, HF⟩ := hrel
                by_cases hjl : j < ps.length
                · have gj := HC.out j hjl
                  have q5 : (0 : Int) ≤ (j : Int) := by omega
                  have q6 : (j : Int) < (ps.length : Int) := by omega
                  have e5 := str_empty ps[j]
                  by_cases k1 : ps[j].size = 1
                  · have n5 : ((ps[j].size : Int) == 1) = true := by rw [k1]; rfl
                    generalize ps[j] = pj at gj n5
                    clear k1
                    go_wp2
                    go_ret
                    exact NonePost.no HB1.out
                  · have n5 : ((ps[j].size : Int) == 1) = false := beq_eq_false_iff_ne.mpr (by omega)
                    have FX := Aside0.mk (show ∀ p ∈ ps.take (j + 1), p.size ≠ 1 from fun p hp => by
                      rw [List.take_succ_eq_append_getElem hjl] at hp
                      rcases List.mem_append.1 hp with hp | hp
                      · exact HF.out.1 p hp
                      · simp at hp; subst hp; exact k1)
                    have FE := Aside0.mk (show ps[j].size = 0 → ∃ p ∈ ps, p.size = 0 from fun h => ⟨_, List.getElem_mem hjl, h⟩)
                    generalize ps[j] = pj at gj n5 e5 FE
                    clear k1
                    cases f
                    · go_wp2
                      go_round
                      case rel => exact ⟨j + 1, _, rfl, by go_num, by omega, ⟨FX.out, fun h => .inr (FE.out (by have hh := of_decide_eq_true h; rw [hh]; rfl))⟩⟩
                      case measure => simp [intOf]; omega
                    · go_wp2
                      go_round
                      case rel => exact ⟨j + 1, _, rfl, by go_num, by omega, ⟨FX.out, fun h => HF.out.2 rfl⟩⟩
                      case measure => simp [intOf]; omega
                · have HFF := HF.out
                  rw [List.take_of_length_le (by omega)] at HFF
                  have HY := Aside0.mk HFF
                  clear HFF HF
                  go_wp2
                  go_ret
                  refine NonePost.yes HB1.out (fun h => .inr ⟨by omega, HALL.out, ?_, ?_⟩)
                  · rw [HPS.out]; exact HY.out.1
                  · rw [HPS.out]; exact HY.out.2 h

theorem noneP_mount {s : ByteArray} (h : NoneP s) (h0 : s.size ≠ 0) : 3 ≤ s.size ∧ calm (lb s) ∧ mount s = none := by
  rcases h with h | ⟨h3, hsh, h1, hn⟩
  · exact absurd h h0
  · refine ⟨h3, fun b hb => ?_, ?_⟩
    · obtain ⟨x1, x2, x3⟩ := hsh b hb
      exact ⟨by omega, by omega, fun e => x3 (by rw [e]; rfl)⟩
    · have hp1 : ∀ p ∈ split 58 (lb s), p.length ≠ 1 := fun p hp => by
        have hm : (⟨p.toArray⟩ : ByteArray) ∈ parts 58 s := List.mem_map.2 ⟨p, hp, rfl⟩
        have := h1 _ hm
        rw [size_mk] at this
        exact this
      have hl : (parts 58 s).length = (split 58 (lb s)).length := by rw [parts, List.length_map]
      have e := goV_fields (lb s) [] V0 (by simp) (by simpa using hp1)
      rw [List.nil_append] at e
      have hN : fieldsV (split 58 (lb s)) V0 = none := by
        rcases hn with hn | ⟨p, hp, hpz⟩
        · exact fieldsV_many _ (by omega)
        · obtain ⟨q, hq, rfl⟩ := List.mem_map.1 hp
          rw [size_mk] at hpz
          obtain rfl := List.eq_nil_of_length_eq_zero hpz
          exact fieldsV_empty _ _ hq
      rw [mount, e, hN]
      rfl

set_option maxHeartbeats 1600000 in
theorem lawNone (s : ByteArray) (w : World) (_ : s.size ≤ 140737488351232) (hT : VTabs w) :
    Calls Tryd.prog 4 #[.string s] w fun e w' => e = .returned (.bool true) ∧ Below w.heap.size w w' := by
  have HT := Aside0.mk hT
  have HB0 := Aside0.mk (Below.refl w.heap.size w)
  clear hT
  by_cases hs : 2147483647 < s.size
  · have hs' : (2147483647 : Int) < (s.size : Int) := by omega
    clear hs
    go_enter Tryd.func4, Tryd.ntmps4
    go_wp2
    go_ret
    exact ⟨rfl, HB0.out⟩
  · have hs' : ¬ (2147483647 : Int) < (s.size : Int) := by omega
    have CI := Aside0.mk (fun (hn : NoneP s) (w1 : World) (h1 : VTabs w1) => show Calls Tryd.prog 12 #[.string s] w1 fun e w' => e = .returned (.tuple #[.agg zeroC, .bool false]) ∧ Below w1.heap.size w1 w' from by
      by_cases h0 : s.size = 0
      · obtain rfl : s = ⟨#[]⟩ := lb_inj (List.eq_nil_of_length_eq_zero (by rw [lb_length]; exact h0))
        exact implParse ⟨#[]⟩ none w1 fun w2 _ hb => ParseEmpty w2
      · obtain ⟨h3, hc, hm⟩ := noneP_mount hn h0
        have := implMount s w1 hc h3 (by omega) h1
        rw [hm] at this
        exact this)
    have CS := Aside0.mk (ShortNone s w (by omega))
    clear hs
    go_enter Tryd.func4, Tryd.ntmps4
    go_wp2_with fail
    refine CS.out.mono ?_
    rintro e w1 ⟨hb, b, rfl, hn⟩
    have HB1 := Aside0.mk hb
    have HT1 := Aside0.mk (HT.out.below hb)
    have HN := Aside0.mk hn
    clear hb hn
    cases b
    · go_wp2_with fail
      refine (shortAwake w1 HT1.out).mono ?_
      rintro e w2 ⟨rfl, hb⟩
      have HB2 := Aside0.mk (hb_then HB1.out hb)
      clear hb
      go_wp2
      go_ret
      exact ⟨rfl, HB2.out⟩
    · go_wp2_with fail
      refine (CI.out (HN.out (by trivial)) w1 HT1.out).mono ?_
      rintro e w2 ⟨rfl, hb⟩
      have HB2 := Aside0.mk (hb_then HB1.out (hb_then hb (alloc_below w2 (.cells zeroC 26))))
      have HT2 := Aside0.mk ((HT1.out.below hb).below (alloc_below w2 (.cells zeroC 26)))
      clear hb
      unfold zeroC at HB2 HT2 ⊢
      go_wp2_with fail
      refine (shortAwake _ HT2.out).mono ?_
      rintro e w3 ⟨rfl, hb⟩
      have HB3 := Aside0.mk (hb_then HB2.out hb)
      clear hb
      go_wp2
      go_ret
      exact ⟨rfl, HB3.out⟩
end Go.Proofs.YtpkfdifoaijpnaaDoor.Vol
