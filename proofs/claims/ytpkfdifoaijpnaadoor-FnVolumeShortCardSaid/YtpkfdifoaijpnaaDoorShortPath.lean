/- The reference's shortPath. -/
import Derived.Test.YtpkfdifoaijpnaaDoorShort
namespace Go.Proofs.YtpkfdifoaijpnaaDoor.Vol
open Go.RowKit Go.Proofs.YtpkfdifoaijpnaaDoorW.PrintWords Go.Proofs.YtpkfdifoaijpnaaDoor.Str Go.Proofs.YtpkfdifoaijpnaaDoor.Kit Go.Proofs.YtpkfdifoaijpnaaDoor.Frame Go.Proofs.YtpkfdifoaijpnaaDoor.Index
set_option linter.unusedVariables false
set_option linter.unusedSimpArgs false

/-- letters that a covered text is made of -/
def cov (b : UInt8) : Prop := 1 ≤ b.toNat ∧ b.toNat < 128 ∧ b.toNat ≠ 36 ∧ b.toNat ≠ 58 ∧ b.toNat ≠ 44
theorem wb_cov {sl : Bool} {b : UInt8} (h : wb sl b.toNat = true) : cov b := by
  simp [wb, letterB] at h
  unfold cov
  omega
theorem word_cov {sl : Bool} {l : Bs} (h : wordB sl l = true) : ∀ b ∈ l, cov b := fun b hb => wb_cov (List.all_eq_true.1 h b hb)
/-- what shortPath tells where it speaks -/
def PathSays (l : Bs) (p : Bool) : Prop := filePath l = p ∧ (∀ b ∈ l, cov b) ∧ 2 ≤ l.length
def SpPost (s : ByteArray) (w : World) (e : Ending) (w' : World) : Prop := w' = w ∧ ∃ p o : Bool, e = .returned (.tuple #[.bool p, .bool o]) ∧ (o = true → PathSays (lb s) p)
theorem SpPost.no {s : ByteArray} {w : World} {p : Bool} : SpPost s w (.returned (.tuple #[.bool p, .bool false])) w := ⟨rfl, p, false, rfl, fun h => by cases h⟩
theorem SpPost.yes {s : ByteArray} {w : World} {p : Bool} (h : PathSays (lb s) p) : SpPost s w (.returned (.tuple #[.bool p, .bool true])) w := ⟨rfl, p, true, rfl, fun _ => h⟩
theorem path_first {c : UInt8} {r : Bs} (h : c.toNat = 46 ∨ c.toNat = 47 ∨ c.toNat = 126) : filePath (c :: r) = true := by
  rw [filePath]
  rcases h with h | h | h <;> simp [h]
theorem name_first {c : UInt8} {r : Bs} (hw : wordB false (c :: r) = true) (h1 : c.toNat ≠ 46) : filePath (c :: r) = false := by
  have hc : wb false c.toNat = true := List.all_eq_true.1 hw c (by simp)
  have h47 : c.toNat ≠ 47 := by intro e; rw [e] at hc; revert hc; decide
  have h126 : c.toNat ≠ 126 := by intro e; rw [e] at hc; revert hc; decide
  have h92 : c.toNat ≠ 92 := by intro e; rw [e] at hc; revert hc; decide
  have hp : Lib.hasPrefix (c :: r) [92, 92] = false := by
    cases h : Lib.hasPrefix (c :: r) [92, 92] with
    | false => rfl
    | true =>
      exfalso
      rw [Lib.hasPrefix] at h
      first
        | (simp at h; exact h92 (by rw [← h.1]; rfl))
        | (simp at h; exact h92 (by rw [h.1]; rfl))
        | (simp at h; obtain ⟨h, _⟩ := h; subst h; exact h92 rfl)
  have hd : drive2 (c.toNat : Int) r = false := by
    cases r with
    | nil => rfl
    | cons d r' =>
      have hcd := word_cov hw d (by simp)
      have : ((d.toNat : Int) == 58) = false := beq_eq_false_iff_ne.mpr (by have := hcd.2.2.2.1; omega)
      rw [drive2, drive, this]
      rfl
  rw [filePath, hp, hd]
  simp [h1, h47, h126]

theorem take_lit {s : ByteArray} {c : UInt8} {r : Bs} (h : lb s = c :: r) (k : Nat) : (s.extract 0 (k + 1)).toList = c :: r.take k := by
  rw [toList_lb, lb_extract, h]
  rfl
theorem beq_first {c x : UInt8} {r y : Bs} (h : c ≠ x) : ((c :: r : Bs) == x :: y) = false := by
  rw [beq_eq_false_iff_ne]
  intro e
  injection e with e _
  exact h e
theorem word_slash {c : UInt8} {l : Bs} (hm : c ∈ l) (h : wb false c.toNat = false) : wordB false l = false := by
  unfold wordB
  rw [List.all_eq_false]
  exact ⟨c, hm, by simp [h]⟩

set_option maxHeartbeats 12800000 in
set_option maxRecDepth 1000000 in
theorem shortPath (s : ByteArray) (w : World) (hs : s.size ≤ 4398046511104) :
    Calls Tryd.prog 22 #[.string s] w (SpPost s w) := by
  have CT := Aside0.mk (fun w1 => shortWord s true w1 hs)
  have CF := Aside0.mk (fun w1 => shortWord s false w1 hs)
  have hlen := lb_length s
  match hl : lb s with
  | [] =>
    have hz : s.size < 2 := by rw [← hlen, hl]; simp
    go_enter Tryd.func22, Tryd.ntmps22
    go_wp2
    go_ret2
    exact SpPost.no
  | [c] =>
    have hz : s.size < 2 := by rw [← hlen, hl]; simp
    go_enter Tryd.func22, Tryd.ntmps22
    go_wp2
    go_ret2
    exact SpPost.no
  | c :: d :: r =>
    have h2 : 2 ≤ s.size := by rw [← hlen, hl]; simp
    have h0 : 0 < s.size := by omega
    have hc0 : s[0] = c := by
      have : (lb s)[0]'(by rw [hlen]; exact h0) = c := by simp only [hl, List.getElem_cons_zero]
      exact this
    have hcn : (s[0].toNat : Int) = (c.toNat : Int) := by rw [hc0]
    have q1 : (0 : Int) < (s.size : Int) := by omega
    have q2 : (2 : Int) ≤ (s.size : Int) := by omega
    have x2 : (s.extract 0 2).toList = c :: [d] := take_lit hl 1
    have x3 : (s.extract 0 3).toList = c :: d :: r.take 1 := take_lit hl 2
    have HL := Aside0.mk hl
    have LN := Aside0.mk (show 2 ≤ (lb s).length by rw [hlen]; exact h2)
    clear hl hc0 hlen
    by_cases n47 : c.toNat = 47
    · have hc47 : c = 47 := UInt8.toNat_inj.1 (by rw [n47]; rfl)
      have e1 : ((s.extract 0 2).toList == [46, 47]) = false := by rw [x2]; exact beq_first (by rw [hc47]; decide)
      have e2 : ((s.extract 0 3).toList == [46, 46, 47]) = false := by rw [x3]; exact beq_first (by rw [hc47]; decide)
      have e3 : ((s.extract 0 2).toList == [126, 47]) = false := by rw [x2]; exact beq_first (by rw [hc47]; decide)
      have hf : wordB false (lb s) = false := word_slash (c := c) (by rw [HL.out]; simp) (by rw [hc47]; decide)
      rw [hf] at CF
      have PS := Aside0.mk (fun (h : wordB true (lb s) = true) => show PathSays (lb s) true from ⟨by rw [HL.out]; exact path_first (.inr (.inl n47)), word_cov h, LN.out⟩)
      have t1 : ((c.toNat : Int) == 47) = true := by rw [n47]; rfl
      generalize wordB true (lb s) = wt at CT PS
      clear x2 x3 n47 hc47 hf
      cases wt
      · go_enter Tryd.func22, Tryd.ntmps22
        go_wp2_with (first | (with_reducible refine (CT.out _).mono ?_; rintro e w1 ⟨rfl, rfl⟩) | (with_reducible refine (CF.out _).mono ?_; rintro e w1 ⟨rfl, rfl⟩))
        all_goals
          go_ret2
          exact SpPost.no
      · go_enter Tryd.func22, Tryd.ntmps22
        go_wp2_with (first | (with_reducible refine (CT.out _).mono ?_; rintro e w1 ⟨rfl, rfl⟩) | (with_reducible refine (CF.out _).mono ?_; rintro e w1 ⟨rfl, rfl⟩))
        all_goals
          go_ret2
          exact SpPost.yes (PS.out (by trivial))
    · have t1 : ((c.toNat : Int) == 47) = false := beq_eq_false_iff_ne.mpr (by omega)
      have hc47 : c ≠ 47 := fun e => n47 (by rw [e]; rfl)
      by_cases n46 : c.toNat = 46
      · have hc46 : c = 46 := UInt8.toNat_inj.1 (by rw [n46]; rfl)
        have e3 : ((s.extract 0 2).toList == [126, 47]) = false := by rw [x2]; exact beq_first (by rw [hc46]; decide)
        have PS := Aside0.mk (fun (h : wordB true (lb s) = true) => show PathSays (lb s) true from ⟨by rw [HL.out]; exact path_first (.inl n46), word_cov h, LN.out⟩)
        have t46 : ((c.toNat : Int) != 46) = false := by rw [n46]; rfl
        generalize wordB true (lb s) = wt at CT PS
        generalize wordB false (lb s) = wf at CF
        clear x2 x3 n47 hc47 hc46 n46
        cases wt
        · cases e1 : ((s.extract 0 2).toList == [46, 47])
          all_goals cases e2 : ((s.extract 0 3).toList == [46, 46, 47])
          all_goals cases wf
          all_goals
            go_enter Tryd.func22, Tryd.ntmps22
            go_wp2_with (first | (with_reducible refine (CT.out _).mono ?_; rintro e w1 ⟨rfl, rfl⟩) | (with_reducible refine (CF.out _).mono ?_; rintro e w1 ⟨rfl, rfl⟩))
            all_goals
              go_ret2
              exact SpPost.no
        · cases e1 : ((s.extract 0 2).toList == [46, 47])
          all_goals cases e2 : ((s.extract 0 3).toList == [46, 46, 47])
          all_goals cases wf
          all_goals
            go_enter Tryd.func22, Tryd.ntmps22
            go_wp2_with (first | (with_reducible refine (CT.out _).mono ?_; rintro e w1 ⟨rfl, rfl⟩) | (with_reducible refine (CF.out _).mono ?_; rintro e w1 ⟨rfl, rfl⟩))
            all_goals
              go_ret2
              first | exact SpPost.no | exact SpPost.yes (PS.out (by trivial))
      · have hc46 : c ≠ 46 := fun e => n46 (by rw [e]; rfl)
        have e1 : ((s.extract 0 2).toList == [46, 47]) = false := by rw [x2]; exact beq_first hc46
        have e2 : ((s.extract 0 3).toList == [46, 46, 47]) = false := by rw [x3]; exact beq_first hc46
        have t46 : ((c.toNat : Int) != 46) = true := by simp; omega
        by_cases n126 : c.toNat = 126
        · have hc126 : c = 126 := UInt8.toNat_inj.1 (by rw [n126]; rfl)
          have hf : wordB false (lb s) = false := word_slash (c := c) (by rw [HL.out]; simp) (by rw [hc126]; decide)
          rw [hf] at CF
          have hx : lb (s.extract 1 s.size) = d :: r := by rw [lb_extract, List.take_of_length_le (by rw [lb_length]; omega), HL.out]; rfl
          have CX := Aside0.mk (fun w1 => shortWord (s.extract 1 s.size) true w1 (by rw [← lb_length, hx]; have := LN.out; have h9 := lb_length s; rw [HL.out] at h9; simp at h9 ⊢; omega))
          rw [hx] at CX
          have PS := Aside0.mk (fun (h : wordB true (d :: r) = true) => show PathSays (lb s) true from ⟨by rw [HL.out]; exact path_first (.inr (.inr n126)), by
            rw [HL.out]
            intro b hb
            rcases List.mem_cons.1 hb with hb | hb
            · subst hb; unfold cov; omega
            · exact word_cov h b hb, LN.out⟩)
          generalize wordB true (d :: r) = wx at CX PS
          clear x2 x3 n47 hc47 hc46 n46 n126 hc126 hf hx CT
          cases e3 : ((s.extract 0 2).toList == [126, 47])
          all_goals cases wx
          all_goals
            go_enter Tryd.func22, Tryd.ntmps22
            go_wp2_with (first | (with_reducible refine (CX.out _).mono ?_; rintro e w1 ⟨rfl, rfl⟩) | (with_reducible refine (CF.out _).mono ?_; rintro e w1 ⟨rfl, rfl⟩))
            all_goals
              go_ret2
              first | exact SpPost.no | exact SpPost.yes (PS.out (by trivial))
        · have e3 : ((s.extract 0 2).toList == [126, 47]) = false := by rw [x2]; exact beq_first (fun e => n126 (by rw [e]; rfl))
          have PS := Aside0.mk (fun (h : wordB false (lb s) = true) => show PathSays (lb s) false from ⟨by rw [HL.out]; rw [HL.out] at h; exact name_first h n46, word_cov h, LN.out⟩)
          generalize wordB false (lb s) = wf at CF PS
          clear x2 x3 n47 hc47 hc46 n46 n126 CT
          cases t45 : ((c.toNat : Int) != 45)
          all_goals cases t95 : ((c.toNat : Int) != 95)
          all_goals cases wf
          all_goals
            go_enter Tryd.func22, Tryd.ntmps22
            go_wp2_with (first | (with_reducible refine (CF.out _).mono ?_; rintro e w1 ⟨rfl, rfl⟩))
            all_goals
              go_ret2
              first | exact SpPost.no | exact SpPost.yes (PS.out (by trivial))
end Go.Proofs.YtpkfdifoaijpnaaDoor.Vol
