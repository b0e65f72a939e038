/- FirstBrace finds the brace that closes the first one, for up to 60 nested braces; for all strings of at most 2147483647 bytes (of longer ones the statement itself says nothing). -/
import Derived.Test.YtecehldjeppjiaaBrace
namespace Go.Proofs.Ytecehldjeppjiaa.BracePure
open Go.RowKit Go.Proofs.Ytecehldjeppjiaa.PFnFirstBrace Go.Proofs.YtecehldjeppjiaaW.PrintWords Go.Proofs.YtecehldjeppjiaaW.PrintLast

def bl (s : ByteArray) : List Int := s.data.toList.map fun b => (b.toNat : Int)
theorem bl_length (s : ByteArray) : (bl s).length = s.size := by rw [bl, List.length_map, Array.length_toList]; rfl
theorem bl_append (s t : ByteArray) : bl (s ++ t) = bl s ++ bl t := by simp [bl]
theorem bt_drop (s : ByteArray) (i : Nat) (h : i < s.size) : (bl s).drop i = bt s i :: (bl s).drop (i + 1) := by
  have h' : i < (bl s).length := by rw [bl_length]; exact h
  rw [List.drop_eq_getElem_cons h']
  congr 1
  simp [bl, bt, h]
  rfl
theorem bl_range (s : ByteArray) : ∀ x ∈ bl s, 0 ≤ x ∧ x < 256 := by
  intro x hx
  simp only [bl, List.mem_map] at hx
  obtain ⟨b, _, rfl⟩ := hx
  have := b.toNat_lt
  omega
theorem bl_strOfNums (l : List Int) (h : ∀ x ∈ l, 0 ≤ x ∧ x < 256) : bl (strOfNums l) = l := by
  unfold bl
  rw [strOfNums_data, List.map_map]
  conv => rhs; rw [← List.map_id l]
  refine List.map_congr_left fun x hx => ?_
  have := h x hx
  simp only [Function.comp, id]
  rw [UInt8.toNat_ofNat']
  omega

theorem w64 {i : Int} (h0 : -4611686018427387904 ≤ i) (h1 : i ≤ 4611686018427387904) : wrap64 i = i := by
  unfold wrap64; omega

/-- neither a dollar, a brace nor a newline -/
def plainB (c : Int) : Bool := !(c == 36) && !(c == 123) && !(c == 125) && !(c == 10)

theorem plain_l0 (s : ByteArray) (hs : s.size ≤ 2147483647) (d : Nat) : ∀ (k i : Nat) (acc : List Int), i ≤ s.size → s.size - i = d → acc.length ≤ i → d < k →
    spec_SubstPlain.l0 k s acc i = some (strOfNums (acc ++ ((bl s).drop i).filter plainB)) := by
  induction d with
  | zero =>
    intro k i acc h1 hd ha hk
    obtain ⟨k, rfl⟩ : ∃ m, k = m + 1 := ⟨k - 1, by omega⟩
    simp only [spec_SubstPlain.l0]
    rw [if_neg (by omega), List.drop_of_length_le (by rw [bl_length]; omega)]
    simp
  | succ d ih =>
    intro k i acc h1 hd ha hk
    obtain ⟨k, rfl⟩ : ∃ m, k = m + 1 := ⟨k - 1, by omega⟩
    simp only [spec_SubstPlain.l0]
    have hw : wrap64 ((i : Int) + 1) = ((i + 1 : Nat) : Int) := by rw [w64 (by omega) (by omega)]; omega
    rw [if_pos (by omega), if_pos (by omega), bt_drop s i (by omega), hw]
    by_cases c1 : bt s i = 36
    · rw [if_pos c1, ih k (i + 1) acc (by omega) (by omega) (by omega) (by omega)]; simp [plainB, c1]
    rw [if_neg c1]
    by_cases c2 : bt s i = 123
    · rw [if_pos c2, ih k (i + 1) acc (by omega) (by omega) (by omega) (by omega)]; simp [plainB, c2]
    rw [if_neg c2]
    by_cases c3 : bt s i = 125
    · rw [if_pos c3, ih k (i + 1) acc (by omega) (by omega) (by omega) (by omega)]; simp [plainB, c3]
    rw [if_neg c3]
    by_cases c4 : bt s i = 10
    · rw [if_pos c4, ih k (i + 1) acc (by omega) (by omega) (by omega) (by omega)]; simp [plainB, c4]
    rw [if_neg c4, if_pos (by omega), ih k (i + 1) _ (by omega) (by omega) (by simp; omega) (by omega)]
    have : plainB (bt s i) = true := by simp [plainB, c1, c2, c3, c4]
    simp [this]

theorem plain_f (s : ByteArray) (hs : s.size ≤ 2147483647) (k : Nat) (hk : s.size < k) : ∃ t, spec_SubstPlain.f k s = some t ∧ (∀ c ∈ bl t, plainB c = true) ∧ t.size ≤ s.size := by
  refine ⟨_, plain_l0 s hs s.size k 0 [] (by omega) (by omega) (by simp) hk, ?_, ?_⟩
  · rw [List.nil_append, List.drop_zero, bl_strOfNums]
    · intro c hc; exact (List.mem_filter.1 hc).2
    · intro c hc; exact bl_range s c (List.mem_filter.1 hc).1
  · rw [List.nil_append, List.drop_zero, strOfNums_size, ← bl_length s]
    exact List.length_filter_le _ _

/-- what the search for the closing brace finds in a list of bytes: o braces are open, the list stands at place p -/
def scan : List Int → Int → Int → Int
  | [], _, _ => -1
  | [c], o, p => if c = 125 then (if o - 1 = 0 then p else -1) else -1
  | c :: c' :: t, o, p => if c = 125 then (if o - 1 = 0 then p else scan (c' :: t) (o - 1) (p + 1)) else if c = 123 then scan t (o + 1) (p + 2) else scan (c' :: t) o (p + 1)

theorem scan_cons (c : Int) (t : List Int) (o p : Int) : scan (c :: t) o p = if c = 125 then (if o - 1 = 0 then p else scan t (o - 1) (p + 1)) else if c = 123 then scan (t.drop 1) (o + 1) (p + 2) else scan t o (p + 1) := by
  cases t with
  | nil => simp [scan]
  | cons c' t => simp [scan]

theorem scan_l0 (s : ByteArray) (hs : s.size ≤ 1000000000000000) (d : Nat) : ∀ (k i : Nat) (o : Int), s.size - i ≤ d → i ≤ s.size + 1 → d < k → -((i : Int)) ≤ o → o ≤ i →
    template_getFirstBraceClosingIndex.l0 k s o i = some (scan ((bl s).drop i) o i) := by
  induction d with
  | zero =>
    intro k i o hd hi hk h1 h2
    obtain ⟨k, rfl⟩ : ∃ m, k = m + 1 := ⟨k - 1, by omega⟩
    simp only [template_getFirstBraceClosingIndex.l0]
    rw [if_neg (by omega), List.drop_of_length_le (by rw [bl_length]; omega), scan]
  | succ d ih =>
    intro k i o hd hi hk h1 h2
    obtain ⟨k, rfl⟩ : ∃ m, k = m + 1 := ⟨k - 1, by omega⟩
    simp only [template_getFirstBraceClosingIndex.l0]
    by_cases hlt : (i : Int) < s.size
    · have hw : wrap64 ((i : Int) + 1) = ((i + 1 : Nat) : Int) := by rw [w64 (by omega) (by omega)]; omega
      have hw2 : wrap64 (((i + 1 : Nat) : Int) + 1) = ((i + 2 : Nat) : Int) := by rw [w64 (by omega) (by omega)]; omega
      rw [if_pos hlt, if_pos (by omega), bt_drop s i (by omega), scan_cons, hw, hw2, w64 (i := o - 1) (by omega) (by omega), w64 (i := o + 1) (by omega) (by omega), w64 (i := o - 1 + 1) (by omega) (by omega)]
      by_cases c1 : bt s i = 125
      · rw [if_pos c1, if_pos c1]
        by_cases c2 : o - 1 = 0
        · rw [if_pos c2, if_pos c2]
        · rw [if_neg c2, if_neg c2, if_neg (by omega), ih k (i + 1) _ (by omega) (by omega) (by omega) (by omega) (by omega)]
          rfl
      · rw [if_neg c1, if_neg c1]
        by_cases c2 : bt s i = 123
        · rw [if_pos c2, if_pos c2, ih k (i + 2) _ (by omega) (by omega) (by omega) (by omega) (by omega), List.drop_drop]
          rfl
        · rw [if_neg c2, if_neg c2, ih k (i + 1) _ (by omega) (by omega) (by omega) (by omega) (by omega)]
          rfl
    · rw [if_neg hlt, List.drop_of_length_le (by rw [bl_length]; omega), scan]

theorem first_f (s : ByteArray) (hs : s.size ≤ 1000000000000000) (k : Nat) (hk : s.size < k) : impl_FirstBrace.f k s = some (scan (bl s) 0 0) := by
  unfold impl_FirstBrace.f template_FirstBrace.f template_getFirstBraceClosingIndex.f
  have h := scan_l0 s hs s.size k 0 0 (by omega) (by omega) hk (by omega) (by omega)
  simp only [List.drop_zero] at h
  rw [show ((0 : Nat) : Int) = 0 from rfl] at h
  rw [h]; rfl

/-! ### The parts of the text -/
theorem scan_plain (l : List Int) (h : ∀ c ∈ l, plainB c = true) : ∀ (rest : List Int) (o p : Int), scan (l ++ rest) o p = scan rest o (p + l.length) := by
  induction l with
  | nil => intro rest o p; simp
  | cons c t ih =>
    intro rest o p
    have hc := h c (by simp)
    have h1 : c ≠ 125 := by rintro rfl; simp [plainB] at hc
    have h2 : c ≠ 123 := by rintro rfl; simp [plainB] at hc
    rw [List.cons_append, scan_cons, if_neg h1, if_neg h2, ih (fun c' hc' => h c' (by simp [hc']))]
    congr 1
    simp; omega
theorem scan_open (l : List Int) (h : ∀ c ∈ l, plainB c = true) (rest : List Int) (o p : Int) : scan (123 :: 97 :: (l ++ rest)) o p = scan rest (o + 1) (p + 2 + l.length) := by
  rw [scan_cons, if_neg (by decide), if_pos rfl]
  exact scan_plain l h rest (o + 1) (p + 2)
theorem scan_close (l : List Int) (h : ∀ c ∈ l, plainB c = true) (rest : List Int) (o p : Int) (ho : o ≠ 1) : scan (125 :: 97 :: (l ++ rest)) o p = scan rest (o - 1) (p + 2 + l.length) := by
  rw [scan_cons, if_pos rfl, if_neg (by omega), scan_cons, if_neg (by decide), if_neg (by decide), scan_plain l h rest]
  congr 1; omega

/-- n times a brace and the part behind it -/
def many (b : Int) (l : List Int) : Nat → List Int
  | 0 => []
  | n + 1 => b :: 97 :: (l ++ many b l n)
theorem many_snoc (b : Int) (l : List Int) (n : Nat) : many b l (n + 1) = many b l n ++ (b :: 97 :: l) := by
  induction n with
  | zero => simp [many]
  | succ n ih =>
    show b :: 97 :: (l ++ many b l (n + 1)) = (b :: 97 :: (l ++ many b l n)) ++ (b :: 97 :: l)
    rw [ih]
    simp
theorem many_length (b : Int) (l : List Int) (n : Nat) : (many b l n).length = n * (l.length + 2) := by
  induction n with
  | zero => simp [many]
  | succ n ih => simp [many, ih, Nat.succ_mul]; omega
theorem scan_opens (l : List Int) (h : ∀ c ∈ l, plainB c = true) (n : Nat) : ∀ (rest : List Int) (o p : Int), scan (many 123 l n ++ rest) o p = scan rest (o + n) (p + (many 123 l n).length) := by
  induction n with
  | zero => intro rest o p; simp [many]
  | succ n ih =>
    intro rest o p
    simp only [many, List.cons_append, List.append_assoc]
    rw [scan_open l h, ih]
    congr 1
    · omega
    · simp; omega
theorem scan_closes (l : List Int) (h : ∀ c ∈ l, plainB c = true) (n : Nat) : ∀ (rest : List Int) (o p : Int), (n : Int) < o → scan (many 125 l n ++ rest) o p = scan rest (o - n) (p + (many 125 l n).length) := by
  induction n with
  | zero => intro rest o p _; simp [many]
  | succ n ih =>
    intro rest o p ho
    simp only [many, List.cons_append, List.append_assoc]
    rw [scan_close l h _ _ _ (by omega), ih _ _ _ (by omega)]
    congr 1
    · omega
    · simp; omega

/-! ### The law's parts -/
theorem brace_bl : bl (⟨#[123]⟩ : ByteArray) = [123] := rfl
theorem close_bl : bl (⟨#[125]⟩ : ByteArray) = [125] := rfl
theorem a_bl : bl (⟨#[97]⟩ : ByteArray) = [97] := rfl

/-- what the text is behind j openings -/
def Openings (x0 x1 : ByteArray) (j : Nat) (x : ByteArray) : Prop := bl x = bl x0 ++ many 123 (bl x1) (j + 1)
/-- what the text is behind n + 1 openings and j closings -/
def Closings (x0 x1 : ByteArray) (n j : Nat) (x : ByteArray) : Prop := bl x = bl x0 ++ many 123 (bl x1) (n + 1) ++ many 125 (bl x1) j

theorem opened_start (x0 x1 : ByteArray) : Openings x0 x1 0 ((x0 ++ ⟨#[123]⟩) ++ (⟨#[97]⟩ ++ x1)) := by
  unfold Openings
  rw [bl_append, bl_append, bl_append, brace_bl, a_bl]
  simp [many]
theorem opened_step {x0 x1 x : ByteArray} {j : Nat} (h : Openings x0 x1 j x) : Openings x0 x1 (j + 1) (x ++ (⟨#[123]⟩ ++ (⟨#[97]⟩ ++ x1))) := by
  unfold Openings at *
  rw [many_snoc 123 _ (j + 1), bl_append, bl_append, bl_append, h, brace_bl, a_bl]
  simp
theorem shut_start {x0 x1 x : ByteArray} {n : Nat} (h : Openings x0 x1 n x) : Closings x0 x1 n 0 x := by
  unfold Openings Closings at *
  rw [h]; simp [many]
theorem shut_step {x0 x1 x : ByteArray} {n j : Nat} (h : Closings x0 x1 n j x) : Closings x0 x1 n (j + 1) (x ++ (⟨#[125]⟩ ++ (⟨#[97]⟩ ++ x1))) := by
  unfold Closings at *
  rw [many_snoc 125, bl_append, bl_append, bl_append, h, close_bl, a_bl]
  simp
theorem opened_size {x0 x1 x : ByteArray} {j : Nat} (h : Openings x0 x1 j x) (z0 : x0.size ≤ 2147483647) (z1 : x1.size ≤ 2147483647) (hj : j < 60) : x.size ≤ 1000000000000 := by
  unfold Openings at h
  rw [← bl_length x, h]
  simp only [List.length_append, many_length, bl_length]
  have e1 : (j + 1) * (x1.size + 2) ≤ 60 * 2147483650 := Nat.mul_le_mul (by omega) (by omega)
  omega
theorem shut_size {x0 x1 x : ByteArray} {n j : Nat} (h : Closings x0 x1 n j x) (z0 : x0.size ≤ 2147483647) (z1 : x1.size ≤ 2147483647) (hn : n < 60) (hj : j ≤ n) : x.size ≤ 1000000000000 := by
  unfold Closings at h
  rw [← bl_length x, h]
  simp only [List.length_append, many_length, bl_length]
  have e1 : (n + 1) * (x1.size + 2) ≤ 60 * 2147483650 := Nat.mul_le_mul (by omega) (by omega)
  have e2 : j * (x1.size + 2) ≤ 60 * 2147483650 := Nat.mul_le_mul (by omega) (by omega)
  omega

theorem at_end {x0 x1 x : ByteArray} (x2 : ByteArray) (h0 : ∀ c ∈ bl x0, plainB c = true) (h1 : ∀ c ∈ bl x1, plainB c = true) {n : Nat} (z0 : x0.size ≤ 2147483647) (z2 : x2.size ≤ 2147483647)
    (hxs : x.size ≤ 1000000000000) (hx : Closings x0 x1 n n x) (k : Nat) (hk : 10000000000000 < k) :
    impl_FirstBrace.f k ((x ++ ⟨#[125]⟩) ++ x2) = some (x.size : Int) ∧ impl_FirstBrace.f k x0 = some (-1) ∧ impl_FirstBrace.f k x = some (-1) := by
  unfold Closings at hx
  have hxz : (x.size : Int) = (bl x0).length + (many 123 (bl x1) (n + 1)).length + (many 125 (bl x1) n).length := by
    rw [← bl_length x, hx]; simp only [List.length_append]; omega
  have hb : (⟨#[125]⟩ : ByteArray).size = 1 := rfl
  have z3 : (x ++ (⟨#[125]⟩ : ByteArray)).size = x.size + 1 := by rw [ByteArray.size_append, hb]
  have z4 : ((x ++ (⟨#[125]⟩ : ByteArray)) ++ x2).size = x.size + 1 + x2.size := by rw [ByteArray.size_append, z3]
  rw [first_f _ (by omega) k (by omega), first_f x0 (by omega) k (by omega), first_f x (by omega) k (by omega)]
  have e1 : scan (bl ((x ++ (⟨#[125]⟩ : ByteArray)) ++ x2)) 0 0 = x.size := by
    rw [bl_append, bl_append, hx, close_bl]
    simp only [List.append_assoc]
    rw [scan_plain _ h0, scan_opens _ h1, scan_closes _ h1 _ _ _ _ (by omega)]
    simp only [List.singleton_append]
    rw [scan_cons, if_pos rfl, if_pos (by omega), hxz]
    omega
  have e2 : scan (bl x0) 0 0 = -1 := by
    have := scan_plain _ h0 [] 0 0
    rw [List.append_nil] at this
    rw [this, scan]
  have e3 : scan (bl x) 0 0 = -1 := by
    rw [hx, List.append_assoc, scan_plain _ h0, scan_opens _ h1]
    have := scan_closes _ h1 n [] ((0 : Int) + ((n + 1 : Nat) : Int)) (0 + (bl x0).length + (many 123 (bl x1) (n + 1)).length) (by omega)
    rw [List.append_nil] at this
    rw [this, scan]
  rw [e1, e2, e3]
  exact ⟨rfl, rfl, rfl⟩

theorem times (a3 : Int) : ∃ n : Nat, n < 60 ∧ (Int.tmod (wrap64 ((Int.tmod a3 60) + 60)) 60) = (n : Int) := by
  have l1 := Int.lt_tmod_of_pos a3 (show (0 : Int) < 60 by decide)
  have l2 := Int.tmod_lt_of_pos a3 (show (0 : Int) < 60 by decide)
  rw [w64 (by omega) (by omega)]
  have l3 := Int.tmod_lt_of_pos ((Int.tmod a3 60) + 60) (show (0 : Int) < 60 by decide)
  have l4 := Int.tmod_nonneg (a := (Int.tmod a3 60) + 60) 60 (by omega)
  exact ⟨(Int.tmod ((Int.tmod a3 60) + 60) 60).toNat, by omega, by omega⟩

end Go.Proofs.Ytecehldjeppjiaa.BracePure
