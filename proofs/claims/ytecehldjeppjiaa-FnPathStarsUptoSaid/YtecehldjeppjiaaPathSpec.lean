/- The reference's functions over paths: PathParts. -/
import Derived.Test.YtecehldjeppjiaaMatch
import Derived.Test.YtecehldjeppjiaaTexts
namespace Go.Proofs.Ytecehldjeppjiaa.PathSpec
open Go.RowKit Go.Proofs.YtecehldjeppjiaaW.PrintWords Go.Proofs.Ytecehldjeppjiaa.Str Go.Proofs.Ytecehldjeppjiaa.Kit Go.Proofs.Ytecehldjeppjiaa.Index Go.Proofs.Ytecehldjeppjiaa.Tree Go.Proofs.Ytecehldjeppjiaa.Texts
set_option linter.unusedVariables false
set_option linter.unusedSimpArgs false

/-- no item of the path is empty -/
def plain (s : ByteArray) : Prop := ∀ p ∈ split 46 (lb s), p ≠ []
instance (s : ByteArray) : Decidable (plain s) := by unfold plain; infer_instance

/-- items out stand ahead of place f; from there to i no dot -/
def Going (s : ByteArray) (out : List ByteArray) (f i : Nat) : Prop :=
  f ≤ i ∧ i ≤ s.size ∧ split 46 (lb s) = out.map lb ++ split 46 ((lb s).drop f) ∧ (∀ x ∈ ((lb s).take i).drop f, x ≠ 46) ∧ (∀ p ∈ out, lb p ≠ []) ∧ out.length ≤ f
theorem Going.start (s : ByteArray) : Going s [] 0 0 := ⟨by omega, by omega, by simp, by simp, by simp, by simp⟩
theorem drop_take_snoc {l : Bs} {f i : Nat} (h : i < l.length) (hf : f ≤ i) : (l.take (i + 1)).drop f = (l.take i).drop f ++ [l[i]] := by
  rw [List.take_succ_eq_append_getElem h, List.drop_append_of_le_length (by rw [List.length_take]; omega)]
theorem Going.skip {s : ByteArray} {out : List ByteArray} {f i : Nat} (h : Going s out f i) (hi : i < (lb s).length) (hc : (lb s)[i] ≠ 46) : Going s out f (i + 1) := by
  obtain ⟨h1, h2, h3, h4, h5, h6⟩ := h
  have hi' := hi
  rw [lb_length] at hi'
  refine ⟨by omega, by omega, h3, ?_, h5, h6⟩
  rw [drop_take_snoc hi h1]
  intro x hx
  rcases List.mem_append.1 hx with hx | hx
  · exact h4 x hx
  · simp at hx; subst hx; exact hc
theorem find_at {l : Bs} {n : Nat} (hn : n < l.length) (hc : l[n] = 46) (hno : ∀ x ∈ l.take n, x ≠ 46) : find [46] l = some n := by
  rw [find_one, List.findIdx?_eq_some_iff_getElem]
  refine ⟨hn, by simp [hc], fun j hj => ?_⟩
  have : l[j] ∈ l.take n := by
    rw [List.mem_take_iff_getElem]
    exact ⟨j, by omega, rfl⟩
  simpa using hno _ this
theorem find_not {l : Bs} (hno : ∀ x ∈ l, x ≠ 46) : find [46] l = none := by
  rw [find_one, List.findIdx?_eq_none_iff]
  intro x hx
  simpa using hno x hx
/-- a dot, or the end, right behind a dot: an empty item -/
theorem Going.empty {s : ByteArray} {out : List ByteArray} {f : Nat} (h : Going s out f f) (he : f = (lb s).length ∨ ∃ hf : f < (lb s).length, (lb s)[f] = 46) : ¬ plain s := by
  obtain ⟨h1, h2, h3, h4, h5, h6⟩ := h
  intro hp
  unfold plain at hp
  rw [h3] at hp
  rcases he with he | ⟨hf, he⟩
  · refine hp [] ?_ rfl
    rw [List.drop_of_length_le (by omega)]
    simp [split]
  · refine hp [] ?_ rfl
    rw [List.drop_eq_getElem_cons hf, he]
    simp [split]
theorem Going.cut {s : ByteArray} {out : List ByteArray} {f i : Nat} (h : Going s out f i) (hlt : f < i) (hi : i < (lb s).length) (hc : (lb s)[i] = 46) : Going s (out ++ [s.extract f i]) (i + 1) (i + 1) := by
  obtain ⟨h1, h2, h3, h4, h5, h6⟩ := h
  have hi' := hi
  rw [lb_length] at hi'
  have hl : i - f < ((lb s).drop f).length := by rw [List.length_drop]; omega
  have e : find [46] ((lb s).drop f) = some (i - f) := by
    refine find_at hl ?_ ?_
    · rw [List.getElem_drop]
      have : f + (i - f) = i := by omega
      simp only [this]
      exact hc
    · intro x hx
      refine h4 x ?_
      rw [List.drop_take]
      exact hx
  refine ⟨by omega, by omega, ?_, ?_, ?_, ?_⟩
  · rw [h3, split_some e, List.map_append, List.map_cons, List.map_nil, List.append_assoc, lb_extract, List.drop_drop, List.drop_take]
    have : f + (i - f + 1) = i + 1 := by omega
    rw [this]
    rfl
  · intro x hx
    rw [List.drop_of_length_le (by rw [List.length_take]; omega)] at hx
    simp at hx
  · intro p hp
    rcases List.mem_append.1 hp with hp | hp
    · exact h5 p hp
    · simp at hp
      subst hp
      intro h0
      have := congrArg List.length h0
      rw [lb_extract, List.length_drop, List.length_take] at this
      simp at this
      omega
  · rw [List.length_append, List.length_singleton]; omega
theorem Going.fin {s : ByteArray} {out : List ByteArray} {f i : Nat} (h : Going s out f i) (hlt : f < i) (hi : i = (lb s).length) : parts 46 s = out ++ [s.extract f i] ∧ plain s ∧ (out ++ [s.extract f i]).length ≤ s.size + 1 := by
  obtain ⟨h1, h2, h3, h4, h5, h6⟩ := h
  have e : find [46] ((lb s).drop f) = none := by
    refine find_not fun x hx => h4 x ?_
    rw [hi, List.take_length]
    exact hx
  have h3' : split 46 (lb s) = out.map lb ++ [lb (s.extract f i)] := by
    rw [h3, split_none e, lb_extract, hi, List.take_length]
  have hne : lb (s.extract f i) ≠ [] := by
    intro h0
    have := congrArg List.length h0
    rw [lb_extract, List.length_drop, List.length_take] at this
    simp at this
    omega
  refine ⟨?_, ?_, ?_⟩
  · unfold parts
    rw [h3', List.map_append, List.map_map]
    have : ((fun p : Bs => (⟨p.toArray⟩ : ByteArray)) ∘ lb) = id := by funext x; simp
    rw [this, List.map_id, List.map_cons, List.map_nil, mk_lb]
  · unfold plain
    rw [h3']
    intro p hp
    rcases List.mem_append.1 hp with hp | hp
    · obtain ⟨q, hq, rfl⟩ := List.mem_map.1 hp
      exact h5 q hq
    · simp at hp; subst hp; exact hne
  · rw [List.length_append, List.length_singleton]; omega

/-- what PathParts tells -/
def PartsPost (s : ByteArray) (w : World) (e : Ending) (w' : World) : Prop :=
  Below w.heap.size w w' ∧ ((plain s ∧ ∃ v, e = .returned (.tuple #[v, .bool true]) ∧ Kd.R Kd.string 9 w' w.heap.size (fun _ => True) v (parts 46 s)) ∨ (¬ plain s ∧ ∃ v, e = .returned (.tuple #[v, .bool false])))
theorem PartsPost.yes {s : ByteArray} {w w' : World} {v : Value} (hp : plain s) (hb : Below w.heap.size w w') (hr : Kd.R Kd.string 9 w' w.heap.size (fun _ => True) v (parts 46 s)) : PartsPost s w (.returned (.tuple #[v, .bool true])) w' := ⟨hb, .inl ⟨hp, v, rfl, hr⟩⟩
theorem PartsPost.no {s : ByteArray} {w w' : World} {v : Value} (hp : ¬ plain s) (hb : Below w.heap.size w w') : PartsPost s w (.returned (.tuple #[v, .bool false])) w' := ⟨hb, .inr ⟨hp, v, rfl⟩⟩

/-- the loop's state: under way, or behind the last item -/
def PState (s : ByteArray) (out : List ByteArray) (f i : Nat) : Prop := Going s out f i ∨ (i = s.size + 1 ∧ f = i ∧ parts 46 s = out ∧ plain s ∧ out.length ≤ s.size + 1)

set_option maxHeartbeats 1000000 in
theorem PathParts (s : ByteArray) (w : World) (hs : s.size ≤ 4398046511104) :
    Calls Try.prog 10 #[.string s] w (PartsPost s w) := by
  have HB := Aside0.mk (Below.refl w.heap.size w)
  go_enter Try.func10, Try.ntmps10
  go_wp2
  go_loopw [4, 5, 6] (fun v4 v5 v6 wr => ∃ (out : List ByteArray) (f i : Nat), v5 = .int .i64 f ∧ v6 = .int .i64 i ∧ f ≤ i ∧ i ≤ s.size + 1 ∧ Aside0 (PState s out f i) ∧ Aside0 (Kd.R Kd.string 9 wr w.heap.size (fun _ => True) v4 out) ∧ Aside0 (Below w.heap.size w wr)) (fun _ _ v6 _ => s.size + 1 - (intOf v6).toNat)
  case atStart => exact ⟨[], 0, 0, rfl, rfl, by omega, by omega, ⟨.inl (Going.start s)⟩, ⟨Kd.R_nil _ _ _ _ _⟩, HB⟩
  case round =>
    clear HB
    obtain ⟨out, f, i, rfl, rfl, hfi, hi, HS, HO, HB⟩ := hrel
    by_cases hend : i = s.size + 1
    · -- behind the last item
      obtain ⟨p1, p2⟩ : parts 46 s = out ∧ plain s := by
        rcases HS.out with h | h
        · have := h.2.1; omega
        · exact ⟨h.2.2.1, h.2.2.2.1⟩
      have P1 := Aside0.mk p1
      have P2 := Aside0.mk p2
      have hgt : s.size < i := by omega
      clear p1 p2 hend
      go_wp2
      go_ret2
      exact PartsPost.yes P2.out HB.out (by rw [P1.out]; exact HO.out)
    · have hG : Going s out f i := by
        rcases HS.out with h | h
        · exact h
        · exact absurd h.1 hend
      have d : decide ((i : Int) ≤ (s.size : Int)) = true := decide_eq_true (by omega)
      have hle : i ≤ s.size := by omega
      have hl : out.length < 8796093022207 := by have := hG.2.2.2.2.2; omega
      clear hend
      by_cases hlt : i < s.size
      · have hlt' : i < (lb s).length := by rw [lb_length]; exact hlt
        have d1 : decide ((i : Int) < (s.size : Int)) = true := decide_eq_true (by omega)
        have q0 : (0 : Int) ≤ (i : Int) := by omega
        have q1 : (i : Int) < (s.size : Int) := by omega
        have hbt := bt_lb s i hlt'
        by_cases hc : (lb s)[i] = 46
        · have hcv : s[i] = 46 := hc
          by_cases he : f = i
          · subst he
            have no := Aside0.mk (hG.empty (.inr ⟨hlt', hc⟩))
            clear hG hc hbt HS
            have e0 : (s[f].toNat : Int) = 46 := by rw [hcv]; rfl
            go_wp2
            go_ret2
            exact PartsPost.no no.out HB.out
          · have nxt := Aside0.mk (hG.cut (by omega) hlt' hc)
            have e0 : (s[i].toNat : Int) = 46 := by rw [hcv]; rfl
            have e1 : ((i : Int) == (f : Int)) = false := beq_eq_false_iff_ne.mpr (by omega)
            have q2 : (0 : Int) ≤ (f : Int) := by omega
            have q3 : (f : Int) ≤ (i : Int) := by omega
            have q4 : (i : Int) ≤ (s.size : Int) := by omega
            clear hG hc hbt he hcv HS
            go_wp2_with (at_builtin; refine append_str _ _ rfl rfl rfl rfl HO.out HB.out hl ?_; intro v1 w2 ho hb hg; have HO2 := Aside0.mk ho; have HB2 := Aside0.mk hb; clear ho hb hg)
            go_roundw
            case rel => exact ⟨_, i + 1, i + 1, by go_num, by go_num, by omega, by omega, ⟨.inl nxt.out⟩, HO2, HB2⟩
            case measure => simp [intOf]; omega
        · have nxt := Aside0.mk (hG.skip hlt' hc)
          have hcv : s[i] ≠ 46 := hc
          have e0 : ((s[i].toNat : Int) == 46) = false := by
            rw [beq_eq_false_iff_ne]
            intro h
            apply hcv
            apply UInt8.toNat_inj.1
            have : s[i].toNat = 46 := by omega
            rw [this]; rfl
          have e1 : ((s[i].toNat : Int) != 46) = true := by
            rw [bne_iff_ne]
            rw [beq_eq_false_iff_ne] at e0
            exact e0
          clear hG hc hbt hcv HS
          go_wp2
          go_roundw
          case rel => exact ⟨out, f, i + 1, rfl, by go_num, by omega, by omega, ⟨.inl nxt.out⟩, HO, HB⟩
          case measure => simp [intOf]; omega
      · obtain rfl : i = s.size := by omega
        have d1 : decide ((s.size : Int) < (s.size : Int)) = false := decide_eq_false (by omega)
        by_cases he : f = s.size
        · subst he
          have no := Aside0.mk (hG.empty (.inl (by rw [lb_length])))
          clear hG HS
          go_wp2
          go_ret2
          exact PartsPost.no no.out HB.out
        · have nxt := Aside0.mk (hG.fin (by omega) (by rw [lb_length]))
          have e1 : ((s.size : Int) == (f : Int)) = false := beq_eq_false_iff_ne.mpr (by omega)
          have q2 : (0 : Int) ≤ (f : Int) := by omega
          have q3 : (f : Int) ≤ (s.size : Int) := by omega
          clear hG HS he
          go_wp2_with (at_builtin; refine append_str _ _ rfl rfl rfl rfl HO.out HB.out hl ?_; intro v1 w2 ho hb hg; have HO2 := Aside0.mk ho; have HB2 := Aside0.mk hb; clear ho hb hg)
          go_roundw
          case rel => exact ⟨_, s.size + 1, s.size + 1, by go_num, by go_num, by omega, by omega, ⟨.inr ⟨rfl, rfl, nxt.out.1, nxt.out.2.1, nxt.out.2.2⟩⟩, HO2, HB2⟩
          case measure => simp [intOf]
end Go.Proofs.Ytecehldjeppjiaa.PathSpec
