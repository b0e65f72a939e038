/- Mounts by their parts: plain Lean, no program. -/
import Derived.Test.YtpkfdifoaijpnaaDoorVolSpec
namespace Go.Proofs.YtpkfdifoaijpnaaDoor.Vol
open Go.RowKit Go.Proofs.YtpkfdifoaijpnaaDoorW.PrintWords Go.Proofs.YtpkfdifoaijpnaaDoor.Str Go.Proofs.YtpkfdifoaijpnaaDoor.Kit Go.Proofs.YtpkfdifoaijpnaaDoor.Frame Go.Proofs.YtpkfdifoaijpnaaDoor.Index
set_option linter.unusedVariables false
set_option linter.unusedSimpArgs false

/-- the parts between colons, one after the other -/
def fieldsV : List Bs → VolV → Option VolV
  | [], v => some v
  | [l], v => popField 0 l v
  | l :: r, v => match popField 58 l v with
    | none => none
    | some v' => fieldsV r v'
theorem find_at' {c : UInt8} {l r : Bs} (h : c ∉ l) : find [c] (l ++ c :: r) = some l.length := by
  rw [find_one, List.findIdx?_eq_some_iff_getElem]
  refine ⟨by simp, by simp, fun j hj => ?_⟩
  rw [List.getElem_append_left hj]
  have : l[j] ∈ l := List.getElem_mem hj
  simp
  intro e
  rw [e] at this
  exact h this
theorem find_no {c : UInt8} {l : Bs} (h : c ∉ l) : find [c] l = none := by
  rw [find_one, List.findIdx?_eq_none_iff]
  intro x hx
  simp
  rintro rfl
  exact h hx
theorem split_no {c : UInt8} {l : Bs} (h : c ∉ l) : split c l = [l] := split_none (find_no h)
theorem split_at {c : UInt8} {l r : Bs} (h : c ∉ l) : split c (l ++ c :: r) = l :: split c r := by
  rw [split_some (find_at' h)]
  congr 1
  · rw [List.take_left]
  · congr 1
    rw [List.drop_append, List.drop_of_length_le (by omega)]
    simp
theorem split_ne (c : UInt8) (l : Bs) : split c l ≠ [] := by
  cases h : find [c] l with
  | none => rw [split_none h]; simp
  | some i => rw [split_some h]; simp
theorem split_mem_length {c : UInt8} : ∀ {n : Nat} {l p : Bs}, l.length ≤ n → p ∈ split c l → p.length ≤ l.length
  | 0, l, p, hn, h => by
    obtain rfl := List.eq_nil_of_length_eq_zero (show l.length = 0 by omega)
    rw [split_no (by simp)] at h
    simp at h
    subst h
    exact Nat.le_refl _
  | n + 1, l, p, hn, h => by
    cases hf : find [c] l with
    | none =>
      rw [split_none hf] at h
      simp at h
      subst h
      exact Nat.le_refl _
    | some i =>
      rw [split_some hf] at h
      rcases List.mem_cons.1 h with h | h
      · subst h
        rw [List.length_take]
        omega
      · rcases Nat.eq_zero_or_pos l.length with h0 | h0
        · obtain rfl := List.eq_nil_of_length_eq_zero h0
          simp [find] at hf
        · have := split_mem_length (n := n) (by rw [List.length_drop]; omega) h
          rw [List.length_drop] at this
          omega
theorem parts_length (c : UInt8) (s : ByteArray) : (parts c s).length ≤ s.size + 1 := by
  rw [parts, List.length_map, ← lb_length]
  exact split_length c (lb s)
/-- where no part has one byte the parts are read one after the other -/
theorem goV_fields : ∀ (l buf : Bs) (v : VolV), 58 ∉ buf → (∀ p ∈ split 58 (buf ++ l), p.length ≠ 1) → goV l buf v = fieldsV (split 58 (buf ++ l)) v
  | [], buf, v, hb, hp => by rw [List.append_nil, split_no hb]; rfl
  | c :: r, buf, v, hb, hp => by
    by_cases hc : c = 58
    · subst hc
      rw [split_at hb] at hp ⊢
      have h1 : buf.length ≠ 1 := hp buf (by simp)
      have hd : drive (runes buf) ((58 : UInt8).toNat : Int) = false := by
        unfold drive
        rw [runes_length, show (buf.length == 1) = false from beq_eq_false_iff_ne.mpr h1]
        simp
      rw [goV, hd, if_neg (by decide), if_pos rfl]
      obtain ⟨q, qs, hq⟩ := List.exists_cons_of_ne_nil (split_ne 58 r)
      rw [hq, fieldsV]
      cases popField 58 buf v with
      | none => rfl
      | some v' =>
        show goV r [] v' = fieldsV (q :: qs) v'
        rw [← hq]
        exact goV_fields r [] v' (by simp) (fun p hp' => hp p (by simp [List.nil_append] at hp'; simp [hp']))
      simp
    · have hd : drive (runes buf) (c.toNat : Int) = false := by
        have : ((c.toNat : Int) == 58) = false := beq_eq_false_iff_ne.mpr (fun h => hc (UInt8.toNat_inj.1 (by show c.toNat = 58; omega)))
        unfold drive
        rw [this]
        rfl
      rw [goV, hd, if_neg (by decide), if_neg hc]
      have e : buf ++ c :: r = (buf ++ [c]) ++ r := by simp
      rw [e] at hp ⊢
      refine goV_fields r (buf ++ [c]) v ?_ hp
      intro h
      rcases List.mem_append.1 h with h | h
      · exact hb h
      · simp at h; exact hc h.symm
/-- an empty part ends it -/
theorem fieldsV_empty : ∀ (ps : List Bs) (v : VolV), [] ∈ ps → fieldsV ps v = none
  | [], v, h => by simp at h
  | [l], v, h => by
    simp at h
    subst h
    simp [fieldsV, popField]
  | l :: q :: qs, v, h => by
    rw [fieldsV]
    · cases hp : popField 58 l v with
      | none => rfl
      | some v' =>
        have hl : l ≠ [] := by rintro rfl; simp [popField] at hp
        exact fieldsV_empty (q :: qs) v' (by
          rcases List.mem_cons.1 h with h | h
          · exact absurd h.symm hl
          · exact h)
    · simp
theorem pop_first (l : Bs) (hl : l ≠ []) (v : VolV) (h : v.src.size = 0) : popField 58 l v = some { v with src := ⟨l.toArray⟩ } := by
  simp [popField, hl, h]
theorem pop_second (l : Bs) (c : Int) (hl : l ≠ []) (v : VolV) (h : v.src.size ≠ 0) (h2 : v.tgt.size = 0) : popField c l v = some { v with tgt := ⟨l.toArray⟩ } := by
  simp [popField, hl, h, h2]
theorem pop_third (l : Bs) (hl : l ≠ []) (v : VolV) (h : v.src.size ≠ 0) (h2 : v.tgt.size ≠ 0) : popField 58 l v = none := by
  simp [popField, hl, h, h2]
theorem size_ne {l : Bs} (h : l ≠ []) : (⟨l.toArray⟩ : ByteArray).size ≠ 0 := by
  rw [size_mk]
  intro e
  exact h (List.eq_nil_of_length_eq_zero e)
/-- more than three parts end it -/
theorem fieldsV_many (ps : List Bs) (h : 3 < ps.length) : fieldsV ps V0 = none := by
  by_cases he : [] ∈ ps
  · exact fieldsV_empty ps V0 he
  · match ps, h, he with
    | a :: b :: c :: d :: r, _, he =>
      simp at he
      obtain ⟨ha, hb, hc, hd, hr⟩ := he
      have e1 := pop_first a ha V0 rfl
      have e2 := pop_second b 58 hb { V0 with src := ⟨a.toArray⟩ } (size_ne ha) rfl
      have e3 := pop_third c hc { V0 with src := ⟨a.toArray⟩, tgt := ⟨b.toArray⟩ } (size_ne ha) (size_ne hb)
      rw [fieldsV, e1]
      · show fieldsV (b :: c :: d :: r) _ = none
        rw [fieldsV, e2]
        · show fieldsV (c :: d :: r) _ = none
          rw [fieldsV, e3]
          simp
        · simp
      · simp
end Go.Proofs.YtpkfdifoaijpnaaDoor.Vol
