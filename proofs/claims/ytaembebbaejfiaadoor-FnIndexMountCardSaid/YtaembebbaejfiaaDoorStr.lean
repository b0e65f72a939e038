/- Plain lemmas on strings as lists of bytes: searching, splitting, joining. No program in them. -/
import Derived.Test.YtaembebbaejfiaaDoorWWords
namespace Go.Proofs.YtaembebbaejfiaaDoor.Str
open Go.RowKit Go.Proofs.YtaembebbaejfiaaDoorW.PrintWords

abbrev Bs := List UInt8
/-- a string's bytes -/
abbrev lb (s : ByteArray) : Bs := s.data.toList
theorem lb_length (s : ByteArray) : (lb s).length = s.size := by rw [Array.length_toList]; rfl
theorem lb_inj {s t : ByteArray} (h : lb s = lb t) : s = t := by
  cases s; cases t
  simp only [lb] at h
  rw [Array.toList_inj.1 h]
theorem lb_append (s t : ByteArray) : lb (s ++ t) = lb s ++ lb t := by simp [lb]
theorem lb_extract (s : ByteArray) (a b : Nat) : lb (s.extract a b) = ((lb s).take b).drop a := by
  simp [lb, List.extract_eq_drop_take', ByteArray.data_extract]
theorem lb_mk (l : Bs) : lb ⟨l.toArray⟩ = l := by simp [lb]
theorem mk_lb (s : ByteArray) : (⟨(lb s).toArray⟩ : ByteArray) = s := by simp [lb]
theorem toList_lb (s : ByteArray) : s.toList = lb s := ByteArray.toList_eq s
theorem bt_lb (s : ByteArray) (i : Nat) (h : i < (lb s).length) : bt s i = ((lb s)[i].toNat : Int) := by
  have h' : i < s.size := by rw [← lb_length]; exact h
  simp [lb, bt, h']
  rfl
theorem w64 {i : Int} (h0 : -4611686018427387904 ≤ i) (h1 : i ≤ 4611686018427387904) : wrap64 i = i := by
  unfold wrap64; omega

/-- the place of the first sub in s -/
def find (sub : Bs) : Bs → Option Nat
  | [] => if sub = [] then some 0 else none
  | c :: t => if sub.isPrefixOf (c :: t) then some 0 else (find sub t).map (· + 1)

/-- .. as Go says it -/
def findI (sub s : Bs) : Int := match find sub s with
  | some i => (i : Int)
  | none => -1

theorem find_short (sub : Bs) : ∀ (s : Bs), s.length < sub.length → find sub s = none
  | [], h => by
    have : sub ≠ [] := by rintro rfl; simp at h
    simp [find, this]
  | c :: t, h => by
    have h1 : sub.isPrefixOf (c :: t) = false := by
      rw [Bool.eq_false_iff]
      intro hp
      have := (List.isPrefixOf_iff_prefix.1 hp).length_le
      omega
    simp only [List.length_cons] at h
    rw [find, h1, find_short sub t (by omega)]
    simp
theorem find_eq (sub s : Bs) : find sub s = if sub.isPrefixOf s then some 0 else match s with
  | [] => none
  | _ :: t => (find sub t).map (· + 1) := by
  cases s with
  | nil =>
    cases sub with
    | nil => simp [find]
    | cons a b => simp [find]
  | cons c t => rw [find]
theorem prefix_iff (sub s : Bs) : sub.isPrefixOf s = true ↔ sub.length ≤ s.length ∧ s.take sub.length = sub := by
  rw [List.isPrefixOf_iff_prefix]
  constructor
  · intro h
    exact ⟨h.length_le, (List.prefix_iff_eq_take.1 h).symm⟩
  · intro ⟨_, h⟩
    exact List.prefix_iff_eq_take.2 h.symm
theorem find_some {sub s : Bs} {i : Nat} (h : find sub s = some i) : i + sub.length ≤ s.length ∧ (s.drop i).take sub.length = sub := by
  induction s generalizing i with
  | nil =>
    by_cases e : sub = []
    · simp [find, e] at h
      subst h e
      simp
    · simp [find, e] at h
  | cons c t ih =>
    rw [find] at h
    by_cases hp : sub.isPrefixOf (c :: t) = true
    · rw [if_pos hp] at h
      simp at h
      subst h
      obtain ⟨h1, h2⟩ := (prefix_iff _ _).1 hp
      exact ⟨by omega, by simpa using h2⟩
    · rw [if_neg hp] at h
      obtain ⟨j, hj, rfl⟩ := Option.map_eq_some_iff.1 h
      obtain ⟨h1, h2⟩ := ih hj
      exact ⟨by simp; omega, by simpa using h2⟩

/-- one byte -/
theorem find_one (c : UInt8) : ∀ s : Bs, find [c] s = s.findIdx? (· == c)
  | [] => by simp [find]
  | x :: t => by
    rw [find, find_one c t, List.findIdx?_cons]
    by_cases h : x = c
    · subst h; simp [List.isPrefixOf]
    · have h' : ¬ c = x := fun e => h e.symm
      simp [List.isPrefixOf, h, h']

/-- s cut at each byte c -/
def split (c : UInt8) : Bs → List Bs
  | [] => [[]]
  | x :: t => if x = c then [] :: split c t else match split c t with
    | [] => [[x]]
    | h :: r => (x :: h) :: r
theorem split_ne (c : UInt8) (s : Bs) : split c s ≠ [] := by
  cases s with
  | nil => simp [split]
  | cons x t =>
    rw [split]
    split
    · simp
    · split <;> simp
theorem split_none {c : UInt8} {s : Bs} (h : find [c] s = none) : split c s = [s] := by
  induction s with
  | nil => rfl
  | cons x t ih =>
    rw [find_one, List.findIdx?_cons] at h
    by_cases e : x = c
    · subst e; simp at h
    · simp [e] at h
      have := ih (by rw [find_one]; simpa using h)
      rw [split, if_neg e, this]
theorem split_some {c : UInt8} {s : Bs} {i : Nat} (h : find [c] s = some i) : split c s = s.take i :: split c (s.drop (i + 1)) := by
  induction s generalizing i with
  | nil => simp [find] at h
  | cons x t ih =>
    rw [find_one, List.findIdx?_cons] at h
    by_cases e : x = c
    · subst e
      simp at h
      subst h
      simp [split]
    · simp [e] at h
      obtain ⟨j, hj, rfl⟩ := h
      have := ih (i := j) (by rw [find_one]; exact hj)
      rw [split, if_neg e, this]
      simp
theorem join_split (c : UInt8) : ∀ s : Bs, [c].intercalate (split c s) = s
  | [] => by simp [split, List.intercalate]
  | x :: t => by
    have ih := join_split c t
    rw [split]
    by_cases e : x = c
    · subst e
      rw [if_pos rfl]
      cases h : split x t with
      | nil => exact absurd h (split_ne x t)
      | cons a r => rw [h] at ih; simp [List.intercalate] at ih ⊢; exact ih
    · rw [if_neg e]
      cases h : split c t with
      | nil => exact absurd h (split_ne c t)
      | cons a r =>
        rw [h] at ih
        cases r with
        | nil => simp [List.intercalate] at ih ⊢; exact ih
        | cons b r => simp [List.intercalate] at ih ⊢; exact ih
theorem split_length (c : UInt8) : ∀ s : Bs, (split c s).length ≤ s.length + 1
  | [] => by simp [split]
  | x :: t => by
    have ih := split_length c t
    rw [split]
    split
    · simp; omega
    · split
      · simp
      · rename_i h r he; rw [he] at ih; simp at ih ⊢; omega
theorem split_part_le (c : UInt8) : ∀ (s p : Bs), p ∈ split c s → p.length ≤ s.length
  | [], p, h => by simp [split] at h; subst h; simp
  | x :: t, p, h => by
    have ih := split_part_le c t
    rw [split] at h
    split at h
    · rcases List.mem_cons.1 h with h | h
      · subst h; simp
      · have := ih p h; simp; omega
    · split at h
      · simp at h; subst h; simp
      · rename_i a r he
        rcases List.mem_cons.1 h with h | h
        · subst h
          have := ih a (by rw [he]; simp)
          simp; omega
        · have := ih p (by rw [he]; simp [h])
          simp; omega
theorem split_no (c : UInt8) : ∀ (s p : Bs), p ∈ split c s → c ∉ p
  | [], p, h => by simp [split] at h; subst h; simp
  | x :: t, p, h => by
    have ih := split_no c t
    rw [split] at h
    split at h
    · rcases List.mem_cons.1 h with h | h
      · subst h; simp
      · exact ih p h
    · rename_i hx
      split at h
      · simp at h; subst h; simpa using fun e => hx e.symm
      · rename_i a r he
        rcases List.mem_cons.1 h with h | h
        · subst h
          have := ih a (by rw [he]; simp)
          intro hm
          rcases List.mem_cons.1 hm with hm | hm
          · exact hx hm.symm
          · exact this hm
        · exact ih p (by rw [he]; simp [h])
/-- what is joined of parts without c is cut into them again -/
theorem split_plain {c : UInt8} {p : Bs} (h : c ∉ p) : split c p = [p] := by
  refine split_none ?_
  rw [find_one, List.findIdx?_eq_none_iff]
  intro x hx
  simp
  rintro rfl
  exact h hx
theorem split_cons {c : UInt8} {p rest : Bs} (h : c ∉ p) : split c (p ++ c :: rest) = p :: split c rest := by
  induction p with
  | nil => simp [split]
  | cons x t ih =>
    have hx : x ≠ c := by rintro rfl; simp at h
    have ht : c ∉ t := fun hm => h (by simp [hm])
    rw [List.cons_append, split, if_neg hx, ih ht]
theorem split_join {c : UInt8} : ∀ (l : List Bs), l ≠ [] → (∀ p ∈ l, c ∉ p) → split c ([c].intercalate l) = l
  | [], h, _ => absurd rfl h
  | [p], _, h => by
    have : [c].intercalate [p] = p := by simp [List.intercalate]
    rw [this]
    exact split_plain (h p (by simp))
  | p :: q :: r, _, h => by
    have ih := split_join (c := c) (q :: r) (by simp) (fun x hx => h x (by simp [hx]))
    have : [c].intercalate (p :: q :: r) = p ++ c :: [c].intercalate (q :: r) := by simp [List.intercalate]
    rw [this, split_cons (h p (by simp)), ih]

end Go.Proofs.YtaembebbaejfiaaDoor.Str
namespace Go.Proofs.YtaembebbaejfiaaDoor.Str
open Go.RowKit Go.Proofs.YtaembebbaejfiaaDoorW.PrintWords
/-- the search has come to place j -/
def At (sub s : Bs) (j : Nat) : Prop := j ≤ s.length ∧ find sub s = (find sub (s.drop j)).map (· + j)
theorem At.start (sub s : Bs) : At sub s 0 := ⟨by omega, by simp⟩
theorem At.hit {sub s : Bs} {j : Nat} (h : At sub s j) (hm : j + sub.length ≤ s.length) (e : (s.drop j).take sub.length = sub) : findI sub s = j := by
  have hp : sub.isPrefixOf (s.drop j) = true := (prefix_iff _ _).2 ⟨by rw [List.length_drop]; omega, e⟩
  have h2 := h.2
  rw [find_eq sub (s.drop j), if_pos hp] at h2
  simp [findI, h2]
theorem At.next {sub s : Bs} {j : Nat} (h : At sub s j) (hm : j + sub.length ≤ s.length) (e : ¬ (s.drop j).take sub.length = sub) : At sub s (j + 1) := by
  have hp : ¬ sub.isPrefixOf (s.drop j) = true := fun hp => e ((prefix_iff _ _).1 hp).2
  have hlt : j < s.length := by
    rcases Nat.lt_or_ge j s.length with h' | h'
    · exact h'
    · exfalso
      apply e
      have : sub = [] := List.eq_nil_of_length_eq_zero (by omega)
      simp [this]
  refine ⟨hlt, ?_⟩
  have h2 := h.2
  rw [find_eq sub (s.drop j), if_neg hp, List.drop_eq_getElem_cons hlt] at h2
  rw [h2]
  simp only [Option.map_map]
  congr 1
  funext x
  simp
  omega
theorem At.miss {sub s : Bs} {j : Nat} (h : At sub s j) (hm : s.length < j + sub.length) : findI sub s = -1 := by
  have h2 := h.2
  rw [find_short sub (s.drop j) (by rw [List.length_drop]; have := h.1; omega)] at h2
  simp [findI, h2]
theorem lb_piece (s : ByteArray) (j m : Nat) : lb (s.extract j (j + m)) = ((lb s).drop j).take m := by
  rw [lb_extract, List.drop_take]
  congr 1
  omega
end Go.Proofs.YtaembebbaejfiaaDoor.Str
