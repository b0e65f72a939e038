/- What the reference says of a mount is what the package tells: plain Lean, no program. -/
import Derived.Test.YtpkfdifoaijpnaaDoorShortPath
import Derived.Test.YtpkfdifoaijpnaaDoorShortVol
namespace Go.Proofs.YtpkfdifoaijpnaaDoor.Vol
open Go.RowKit Go.Proofs.YtpkfdifoaijpnaaDoorW.PrintWords Go.Proofs.YtpkfdifoaijpnaaDoor.Str Go.Proofs.YtpkfdifoaijpnaaDoor.Kit Go.Proofs.YtpkfdifoaijpnaaDoor.Frame Go.Proofs.YtpkfdifoaijpnaaDoor.Index
set_option linter.unusedVariables false
set_option linter.unusedSimpArgs false

def volumeS : ByteArray := ⟨#[118, 111, 108, 117, 109, 101]⟩
def bindS : ByteArray := ⟨#[98, 105, 110, 100]⟩
/-- the options of a mount and of its reference go along -/
structure Along (p : Bool) (u : VolV) (v : SpecV) : Prop where
  typ : v.typ = if p then bindS else volumeS
  src : u.src = v.src
  tgt : u.tgt = v.tgt
  ro : u.ro = v.ro
  pr : (u.bind.map (·.pr)).getD ⟨#[]⟩ = v.pr
  se : (u.bind.map (·.se)).getD ⟨#[]⟩ = v.se
  nc : u.own.getD false = v.nc
  isB : p = true → u.own = none ∧ v.ch = true
  isV : p = false → u.bind = none ∧ v.ch = false
theorem Along.step {p : Bool} {u : VolV} {v v' : SpecV} {o cl : ByteArray} (h : Along p u v) (hm : modeV v o = some (v', cl)) : Along p (opt1 u o) v' := by
  obtain ⟨h1, h2, h3, h4, h5, h6, h7, h8, h9⟩ := h
  unfold modeV at hm
  unfold opt1
  by_cases c1 : lb o = [114, 111]
  · rw [if_pos c1] at hm ⊢
    injection hm with hm; injection hm with hm _; subst hm
    exact ⟨h1, h2, h3, rfl, h5, h6, h7, h8, h9⟩
  rw [if_neg c1] at hm ⊢
  by_cases c2 : lb o = [114, 119]
  · rw [if_pos c2] at hm ⊢
    injection hm with hm; injection hm with hm _; subst hm
    exact ⟨h1, h2, h3, rfl, h5, h6, h7, h8, h9⟩
  rw [if_neg c2] at hm ⊢
  by_cases c3 : lb o = [110, 111, 99, 111, 112, 121]
  · rw [if_pos c3] at hm ⊢
    split at hm
    · rename_i ht
      injection hm with hm; injection hm with hm _; subst hm
      have hp : p = false := by
        cases p
        · rfl
        · rw [h1] at ht; revert ht; decide
      exact ⟨h1, h2, h3, h4, h5, h6, rfl, (fun e => by rw [hp] at e; cases e), h9⟩
    · cases hm
  rw [if_neg c3] at hm ⊢
  have bindCase : lb v.typ = [98, 105, 110, 100] → p = true := fun ht => by
    cases p
    · rw [h1] at ht; revert ht; decide
    · rfl
  by_cases c4 : isZ (lb o) = true
  · rw [if_pos c4] at hm
    have hb : isBind (lb o) = true := by
      unfold isZ at c4
      unfold isBind
      simp only [Bool.or_eq_true] at c4 ⊢
      rcases c4 with c4 | c4 <;> simp [c4]
    rw [if_pos hb]
    split at hm
    · rename_i ht
      injection hm with hm; injection hm with hm _; subst hm
      have hp := bindCase ht
      refine ⟨h1, h2, h3, h4, ?_, ?_, h7, h8, (fun e => by rw [hp] at e; cases e)⟩
      · unfold bound optB
        rw [if_pos c4]
        rw [← h5]
        cases u.bind <;> rfl
      · unfold bound optB
        rw [if_pos c4]
        rfl
    · cases hm
  · rw [if_neg c4] at hm
    split at hm
    · rename_i hb
      rw [if_pos hb]
      split at hm
      · rename_i ht
        injection hm with hm; injection hm with hm _; subst hm
        have hp := bindCase ht
        refine ⟨h1, h2, h3, h4, ?_, ?_, h7, h8, (fun e => by rw [hp] at e; cases e)⟩
        · unfold bound optB
          rw [if_neg c4]
          rfl
        · unfold bound optB
          rw [if_neg c4]
          rw [← h6]
          cases u.bind <;> rfl
      · cases hm
    · cases hm
/-- the options one after the other, each class once -/
def modesV : SpecV → List ByteArray → List ByteArray → Option SpecV
  | v, _, [] => some v
  | v, seen, o :: os => match modeV v o with
    | none => none
    | some (v', cl) => if inB seen cl = true then none else modesV v' (seen ++ [cl]) os
theorem Along.fold {p : Bool} : ∀ (os : List ByteArray) (u : VolV) (v v' : SpecV) (seen : List ByteArray), Along p u v → modesV v seen os = some v' → Along p (os.foldl opt1 u) v'
  | [], u, v, v', seen, h, hm => by
    injection hm with hm; subst hm; exact h
  | o :: os, u, v, v', seen, h, hm => by
    rw [modesV] at hm
    cases hmo : modeV v o with
    | none => rw [hmo] at hm; cases hm
    | some x =>
      obtain ⟨v2, cl⟩ := x
      rw [hmo] at hm
      dsimp only at hm
      split at hm
      · cases hm
      · rw [List.foldl_cons]
        exact Along.fold os _ v2 v' _ (h.step hmo) hm

/-- a mount with a source -/
def baseV (p : Bool) (a t : ByteArray) : SpecV := ⟨if p then bindS else volumeS, a, t, ⟨#[]⟩, ⟨#[]⟩, false, p, false⟩
def tOK (t : ByteArray) : Prop := 3 ≤ t.size ∧ wordB true (lb t) = true
/-- where the reference speaks -/
def ShortP (s : ByteArray) (v : SpecV) : Prop :=
  (∃ t, parts 58 s = [t] ∧ tOK t ∧ v = baseV false ⟨#[]⟩ t) ∨
  (∃ a t p, parts 58 s = [a, t] ∧ PathSays (lb a) p ∧ tOK t ∧ v = baseV p a t) ∨
  (∃ a t o p, parts 58 s = [a, t, o] ∧ PathSays (lb a) p ∧ tOK t ∧ modesV (baseV p a t) [] (parts 44 o) = some v)
theorem Along.start (p : Bool) (a t : ByteArray) : Along p { V0 with src := a, tgt := t } (baseV p a t) :=
  ⟨rfl, rfl, rfl, rfl, rfl, rfl, rfl, fun e => ⟨rfl, e⟩, fun e => ⟨rfl, e⟩⟩
/-- behind the kind is told -/
theorem Along.typed {p : Bool} {u : VolV} {v : SpecV} (h : Along p u v) (hf : filePath (lb u.src) = p) : asSpec (typed u) = v := by
  obtain ⟨h1, h2, h3, h4, h5, h6, h7, h8, h9⟩ := h
  obtain ⟨vt, vs, vg, vp, ve, vr, vc, vn⟩ := v
  dsimp only at *
  cases p
  · obtain ⟨k1, k2⟩ := h9 rfl
    unfold Vol.typed
    rw [hf, if_neg (by decide)]
    unfold asSpec
    rw [k1] at h5 h6
    simp [k1, h1, h2, h3, h4, k2, h7] at h5 h6 ⊢
    exact ⟨rfl, h5, h6⟩
  · obtain ⟨k1, k2⟩ := h8 rfl
    unfold Vol.typed
    rw [hf, if_pos rfl]
    unfold asSpec
    rw [k1] at h7
    cases hb : u.bind <;> rw [hb] at h5 h6 <;> simp [k1, h1, h2, h3, h4, k2] at h5 h6 h7 ⊢ <;> exact ⟨rfl, h5, h6, h7⟩

theorem split_cov {c : UInt8} (hcc : 1 ≤ c.toNat ∧ c.toNat < 128 ∧ c ≠ 36) : ∀ (n : Nat) (l : Bs), l.length ≤ n → (∀ p ∈ split c l, ∀ b ∈ p, 1 ≤ b.toNat ∧ b.toNat < 128 ∧ b.toNat ≠ 36) → calm l
  | n, l, hn, h => by
    intro b hb
    by_cases hc : b = c
    · subst hc; exact hcc
    · -- it stands in a part
      have : ∀ (n : Nat) (l : Bs), l.length ≤ n → ∀ b ∈ l, b ≠ c → ∃ p ∈ split c l, b ∈ p := by
        intro n
        induction n with
        | zero =>
          intro l hl b hb _
          obtain rfl := List.eq_nil_of_length_eq_zero (show l.length = 0 by omega)
          simp at hb
        | succ n ih =>
          intro l hl b hb hc
          cases hf : find [c] l with
          | none => rw [split_none hf]; exact ⟨l, by simp, hb⟩
          | some i =>
            rw [split_some hf]
            have hil : i < l.length := by
              rw [find_one, List.findIdx?_eq_some_iff_getElem] at hf
              exact hf.1
            have hi58 : l[i] = c := by
              rw [find_one, List.findIdx?_eq_some_iff_getElem] at hf
              simpa using hf.2.1
            have e : l = l.take i ++ l[i] :: l.drop (i + 1) := by
              rw [← List.drop_eq_getElem_cons hil, List.take_append_drop]
            rw [e] at hb
            rcases List.mem_append.1 hb with hb | hb
            · exact ⟨_, by simp, hb⟩
            · rcases List.mem_cons.1 hb with hb | hb
              · exact absurd (hb.trans hi58) hc
              · obtain ⟨p, hp, hbp⟩ := ih (l.drop (i + 1)) (by rw [List.length_drop]; omega) b hb hc
                exact ⟨p, by simp [hp], hbp⟩
      obtain ⟨p, hp, hbp⟩ := this n l hn b hb hc
      obtain ⟨x1, x2, x3⟩ := h p hp b hbp
      exact ⟨x1, x2, fun e => x3 (by rw [e]; rfl)⟩

/-- where no part ahead of the last has one byte -/
theorem goV_fields' : ∀ (l buf : Bs) (v : VolV), 58 ∉ buf → (∀ p ∈ (split 58 (buf ++ l)).dropLast, p.length ≠ 1) → goV l buf v = fieldsV (split 58 (buf ++ l)) v
  | [], buf, v, hb, hp => by rw [List.append_nil, split_no hb]; rfl
  | c :: r, buf, v, hb, hp => by
    by_cases hc : c = 58
    · subst hc
      rw [split_at hb] at hp ⊢
      obtain ⟨q, qs, hq⟩ := List.exists_cons_of_ne_nil (split_ne 58 r)
      have h1 : buf.length ≠ 1 := hp buf (by rw [hq]; simp)
      have hd : drive (runes buf) ((58 : UInt8).toNat : Int) = false := by
        unfold drive
        rw [runes_length, show (buf.length == 1) = false from beq_eq_false_iff_ne.mpr h1]
        simp
      rw [goV, hd, if_neg (by decide), if_pos rfl]
      rw [hq, fieldsV]
      cases popField 58 buf v with
      | none => rfl
      | some v' =>
        show goV r [] v' = fieldsV (q :: qs) v'
        rw [← hq]
        refine goV_fields' r [] v' (by simp) (fun p hp' => hp p ?_)
        rw [List.nil_append] at hp'
        rw [List.dropLast_cons_of_ne_nil (split_ne 58 r)]
        exact List.mem_cons_of_mem _ hp'
      simp
    · have hd : drive (runes buf) (c.toNat : Int) = false := by
        have : ((c.toNat : Int) == 58) = false := beq_eq_false_iff_ne.mpr (fun h => hc (UInt8.toNat_inj.1 (by show c.toNat = 58; omega)))
        unfold drive
        rw [this]
        rfl
      rw [goV, hd, if_neg (by decide), if_neg hc]
      have e : buf ++ c :: r = (buf ++ [c]) ++ r := by simp
      rw [e] at hp ⊢
      refine goV_fields' r (buf ++ [c]) v ?_ hp
      intro h
      rcases List.mem_append.1 h with h | h
      · exact hb h
      · simp at h; exact hc h.symm

theorem split_of_parts {s : ByteArray} {c : UInt8} {ps : List ByteArray} (h : parts c s = ps) : split c (lb s) = ps.map lb := by
  unfold parts at h
  rw [← h, List.map_map]
  conv => lhs; rw [← List.map_id (split c (lb s))]
  exact List.map_congr_left fun x _ => (lb_mk x).symm
theorem cov_calm {b : UInt8} (h : cov b) : 1 ≤ b.toNat ∧ b.toNat < 128 ∧ b.toNat ≠ 36 := ⟨h.1, h.2.1, h.2.2.1⟩
theorem mode_calm {v : SpecV} {o : ByteArray} {x : SpecV × ByteArray} (h : modeV v o = some x) : ∀ b ∈ lb o, 1 ≤ b.toNat ∧ b.toNat < 128 ∧ b.toNat ≠ 36 := by
  have key : ∀ l : Bs, (l.all fun b => decide (1 ≤ b.toNat ∧ b.toNat < 128 ∧ b.toNat ≠ 36)) = true → ∀ b ∈ l, 1 ≤ b.toNat ∧ b.toNat < 128 ∧ b.toNat ≠ 36 := fun l hl b hb => by simpa using List.all_eq_true.1 hl b hb
  unfold modeV at h
  split at h
  · rename_i e; rw [e]; exact key _ (by decide)
  split at h
  · rename_i e; rw [e]; exact key _ (by decide)
  split at h
  · rename_i e; rw [e]; exact key _ (by decide)
  split at h
  · rename_i e
    simp only [isZ, Bool.or_eq_true, beq_iff_eq] at e
    rcases e with e | e <;> rw [e] <;> exact key _ (by decide)
  split at h
  · rename_i e
    simp only [isBind, Bool.or_eq_true, beq_iff_eq] at e
    rcases e with ((((((e | e) | e) | e) | e) | e) | e) | e <;> rw [e] <;> exact key _ (by decide)
  · cases h

theorem modes_calm : ∀ (os : List ByteArray) (v v' : SpecV) (seen : List ByteArray), modesV v seen os = some v' → ∀ o ∈ os, ∀ b ∈ lb o, 1 ≤ b.toNat ∧ b.toNat < 128 ∧ b.toNat ≠ 36
  | [], _, _, _, _ => by simp
  | o :: os, v, v', seen, h => by
    rw [modesV] at h
    cases hm : modeV v o with
    | none => rw [hm] at h; cases h
    | some x =>
      obtain ⟨v2, cl⟩ := x
      rw [hm] at h
      dsimp only at h
      split at h
      · cases h
      · intro y hy
        rcases List.mem_cons.1 hy with hy | hy
        · subst hy; exact mode_calm hm
        · exact modes_calm os v2 v' _ h y hy

theorem popField_fold_src : ∀ (os : List ByteArray) (v : VolV), (os.foldl opt1 v).src = v.src
  | [], v => rfl
  | o :: os, v => by
    rw [List.foldl_cons, popField_fold_src os]
    unfold opt1
    repeat' split
    all_goals rfl
theorem size_lb {x : ByteArray} : (⟨(lb x).toArray⟩ : ByteArray) = x := mk_lb x
theorem tOK_cov {t : ByteArray} (h : tOK t) : ∀ b ∈ lb t, cov b := word_cov h.2
/-- where the reference speaks the package tells the same -/
theorem shortP_mount {s : ByteArray} {v : SpecV} (h : ShortP s v) : 3 ≤ s.size ∧ calm (lb s) ∧ ∃ u, mount s = some u ∧ asSpec u = v := by
  have part : ∀ {ps : List ByteArray}, parts 58 s = ps → ∀ t ∈ ps, t.size ≤ s.size := fun hp t ht => by
    have hm : lb t ∈ split 58 (lb s) := by rw [split_of_parts hp]; exact List.mem_map_of_mem ht
    have := split_mem_length (Nat.le_refl _) hm
    rw [lb_length, lb_length] at this
    exact this
  have calmed : ∀ {ps : List ByteArray}, parts 58 s = ps → (∀ t ∈ ps, ∀ b ∈ lb t, 1 ≤ b.toNat ∧ b.toNat < 128 ∧ b.toNat ≠ 36) → calm (lb s) := fun hp hc =>
    split_cov (c := 58) ⟨by decide, by decide, by decide⟩ _ _ (Nat.le_refl _) (fun p hp' => by
      rw [split_of_parts hp] at hp'
      obtain ⟨t, ht, rfl⟩ := List.mem_map.1 hp'
      exact hc t ht)
  rcases h with ⟨t, hp, ht, rfl⟩ | ⟨a, t, p, hp, ha, ht, rfl⟩ | ⟨a, t, o, p, hp, ha, ht, hm⟩
  · have hs := part hp t (by simp)
    refine ⟨by have := ht.1; omega, calmed hp (by intro x hx b hb; simp at hx; subst hx; exact cov_calm (tOK_cov ht b hb)), ?_⟩
    have hne : lb t ≠ [] := fun e => by have := ht.1; rw [← lb_length, e] at this; simp at this
    have hg := goV_fields' (lb s) [] V0 (by simp) (by rw [List.nil_append, split_of_parts hp]; simp)
    rw [List.nil_append, split_of_parts hp] at hg
    have hf : fieldsV ([t].map lb) V0 = some { V0 with src := ⟨#[]⟩, tgt := t } := by
      show popField 0 (lb t) V0 = _
      rw [popField, if_neg hne, if_pos ⟨rfl, rfl⟩, mk_lb]
      rfl
    refine ⟨_, by rw [mount, hg, hf]; rfl, ?_⟩
    exact (Along.start false ⟨#[]⟩ t).typed rfl
  · have hs := part hp t (by simp)
    refine ⟨by have := ht.1; omega, calmed hp (by
      intro x hx b hb
      simp at hx
      rcases hx with rfl | rfl
      · exact cov_calm (ha.2.1 b hb)
      · exact cov_calm (tOK_cov ht b hb)), ?_⟩
    have hne : lb t ≠ [] := fun e => by have := ht.1; rw [← lb_length, e] at this; simp at this
    have hna : lb a ≠ [] := fun e => by have := ha.2.2; rw [e] at this; simp at this
    have hg := goV_fields' (lb s) [] V0 (by simp) (by rw [List.nil_append, split_of_parts hp]; simp; have := ha.2.2; rw [← lb_length]; omega)
    rw [List.nil_append, split_of_parts hp] at hg
    have e1 := pop_first (lb a) hna V0 rfl
    rw [mk_lb] at e1
    have e2 := pop_second (lb t) 0 hne { V0 with src := a } (fun e => hna (List.eq_nil_of_length_eq_zero (by rw [lb_length]; exact e))) rfl
    rw [mk_lb] at e2
    have hf : fieldsV ([a, t].map lb) V0 = some { V0 with src := a, tgt := t } := by
      show fieldsV [lb a, lb t] V0 = _
      rw [fieldsV, e1]
      · exact e2
      · simp
    refine ⟨_, by rw [mount, hg, hf]; rfl, ?_⟩
    exact (Along.start p a t).typed ha.1
  · have hs := part hp t (by simp)
    have hoc : ∀ b ∈ lb o, 1 ≤ b.toNat ∧ b.toNat < 128 ∧ b.toNat ≠ 36 := by
      have := split_cov (c := 44) ⟨by decide, by decide, by decide⟩ _ (lb o) (Nat.le_refl _) (fun q hq => by
        have hm2 : (⟨q.toArray⟩ : ByteArray) ∈ parts 44 o := List.mem_map.2 ⟨q, hq, rfl⟩
        have := modes_calm _ _ _ _ hm _ hm2
        rwa [lb_mk] at this)
      intro b hb
      obtain ⟨x1, x2, x3⟩ := this b hb
      exact ⟨x1, x2, fun e => x3 (UInt8.toNat_inj.1 (by rw [e]; rfl))⟩
    refine ⟨by have := ht.1; omega, calmed hp (by
      intro x hx b hb
      simp at hx
      rcases hx with rfl | rfl | rfl
      · exact cov_calm (ha.2.1 b hb)
      · exact cov_calm (tOK_cov ht b hb)
      · exact hoc b hb), ?_⟩
    have hne : lb t ≠ [] := fun e => by have := ht.1; rw [← lb_length, e] at this; simp at this
    have hna : lb a ≠ [] := fun e => by have := ha.2.2; rw [e] at this; simp at this
    have hno : lb o ≠ [] := fun e => by
      have : parts 44 o = [⟨#[]⟩] := by unfold parts; rw [e]; rfl
      rw [this] at hm
      revert hm
      simp [modesV, modeV, isZ, isBind, lb]
    have hza : a.size ≠ 0 := fun e => hna (List.eq_nil_of_length_eq_zero (by rw [lb_length]; exact e))
    have hzt : t.size ≠ 0 := fun e => hne (List.eq_nil_of_length_eq_zero (by rw [lb_length]; exact e))
    have hg := goV_fields' (lb s) [] V0 (by simp) (by
      rw [List.nil_append, split_of_parts hp]
      simp
      have h1 := ha.2.2
      have h2 := ht.1
      rw [lb_length] at h1
      exact ⟨by omega, by omega⟩)
    rw [List.nil_append, split_of_parts hp] at hg
    have e1 := pop_first (lb a) hna V0 rfl
    rw [mk_lb] at e1
    have e2 := pop_second (lb t) 58 hne { V0 with src := a } hza rfl
    rw [mk_lb] at e2
    have e3 : popField 0 (lb o) { V0 with src := a, tgt := t } = some ((parts 44 o).foldl opt1 { V0 with src := a, tgt := t }) := by
      rw [popField, if_neg hno, if_neg (fun h => hza h.1), if_neg hza, if_neg hzt, if_neg (by decide), mk_lb]
    have hf : fieldsV ([a, t, o].map lb) V0 = some ((parts 44 o).foldl opt1 { V0 with src := a, tgt := t }) := by
      show fieldsV [lb a, lb t, lb o] V0 = _
      rw [fieldsV, e1]
      · show fieldsV [lb t, lb o] { V0 with src := a } = _
        rw [fieldsV, e2]
        · exact e3
        · simp
      · simp
    have hal := Along.fold (parts 44 o) _ _ v [] (Along.start p a t) hm
    have hsrc : ((parts 44 o).foldl opt1 { V0 with src := a, tgt := t }).src = a := by
      have := popField_fold_src (parts 44 o) { V0 with src := a, tgt := t }
      exact this
    refine ⟨_, by rw [mount, hg, hf]; rfl, ?_⟩
    exact hal.typed (by rw [hsrc]; exact ha.1)
end Go.Proofs.YtpkfdifoaijpnaaDoor.Vol
