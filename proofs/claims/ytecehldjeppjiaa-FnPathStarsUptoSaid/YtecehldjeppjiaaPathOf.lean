/- The reference's functions over paths: treePart, PathOf, PathMatches, PathAny. -/
import Derived.Test.YtecehldjeppjiaaMatcher
import Derived.Test.YtecehldjeppjiaaBuf
namespace Go.Proofs.Ytecehldjeppjiaa.PathSpec
open Go.RowKit Go.Proofs.YtecehldjeppjiaaW.PrintWords Go.Proofs.Ytecehldjeppjiaa.Str Go.Proofs.Ytecehldjeppjiaa.Kit Go.Proofs.Ytecehldjeppjiaa.Index Go.Proofs.Ytecehldjeppjiaa.Tree Go.Proofs.Ytecehldjeppjiaa.Texts
set_option linter.unusedVariables false
set_option linter.unusedSimpArgs false

/-- an item of a path -/
def item (s : ByteArray) : Prop := lb s ≠ [] ∧ 46 ∉ lb s
instance (s : ByteArray) : Decidable (item s) := by unfold item; infer_instance
def NoDot (s : ByteArray) (j : Nat) : Prop := 46 ∉ (lb s).take j
theorem NoDot.next {s : ByteArray} {j : Nat} (h : NoDot s j) (hj : j < (lb s).length) (hc : (lb s)[j] ≠ 46) : NoDot s (j + 1) := by
  unfold NoDot at *
  rw [List.take_succ_eq_append_getElem hj]
  intro hm
  rcases List.mem_append.1 hm with hm | hm
  · exact h hm
  · simp at hm; exact hc hm.symm

set_option maxHeartbeats 400000 in
theorem treePart (s : ByteArray) (w : World) (hs : s.size ≤ 4398046511104) :
    Calls Try.prog 29 #[.string s] w fun e w' => e = .returned (.bool (decide (item s))) ∧ Drawn0 w w' := by
  go_enter Try.func29, Try.ntmps29
  go_wp2
  go_loopw [3] (fun v wr => ∃ j : Nat, v = .int .i64 j ∧ j ≤ s.size ∧ Aside0 (NoDot s j) ∧ Drawn0 w wr) (fun v _ => s.size - (intOf v).toNat)
  case atStart => exact ⟨0, rfl, by omega, ⟨by simp [NoDot]⟩, Drawn0.refl _⟩
  case round =>
    obtain ⟨j, rfl, hj, HN, ⟨nd, rfl⟩⟩ := hrel
    by_cases hlt : j < s.size
    · have hlt' : j < (lb s).length := by rw [lb_length]; exact hlt
      by_cases hc : (lb s)[j] = 46
      · have hcv : s[j] = 46 := hc
        have e0 : (s[j].toNat : Int) = 46 := by rw [hcv]; rfl
        have no := Aside0.mk (show ¬ item s from fun hi => hi.2 (by rw [← hc]; exact List.getElem_mem hlt'))
        clear hc hcv
        go_wp2
        go_ret
        exact ⟨by rw [decide_eq_false no.out]; rfl, ⟨⟨_, rfl⟩⟩⟩
      · have nxt := Aside0.mk (HN.out.next hlt' hc)
        have hcv : s[j] ≠ 46 := hc
        have e0 : ((s[j].toNat : Int) == 46) = false := by
          rw [beq_eq_false_iff_ne]
          intro h
          apply hcv
          apply UInt8.toNat_inj.1
          have : s[j].toNat = 46 := by omega
          rw [this]; rfl
        clear hc hcv
        go_wp2
        go_roundw
        case rel => exact ⟨j + 1, by go_num, by omega, nxt, ⟨⟨_, rfl⟩⟩⟩
        case measure => simp [intOf]; omega
    · have hno : 46 ∉ lb s := by
        have := HN.out
        unfold NoDot at this
        rw [List.take_of_length_le (by rw [lb_length]; omega)] at this
        exact this
      by_cases h0 : s.size = 0
      · have no := Aside0.mk (show ¬ item s from fun hi => hi.1 (List.eq_nil_of_length_eq_zero (by rw [lb_length]; exact h0)))
        have h0' : s.size ≤ 0 := by omega
        clear h0 hno
        go_wp2
        go_ret
        exact ⟨by rw [decide_eq_false no.out]; have hz : s.size = 0 := by omega
                  simp [hz], ⟨⟨_, rfl⟩⟩⟩
      · have yes := Aside0.mk (show item s from ⟨fun h => h0 (by rw [← lb_length, h]; rfl), hno⟩)
        have h0' : 0 < s.size := by omega
        clear h0 hno
        go_wp2
        go_ret
        exact ⟨by rw [decide_eq_true yes.out]; simp, ⟨⟨_, rfl⟩⟩⟩

/-- what stands in the buffer behind j items -/
def Joined (xs : List ByteArray) (j : Nat) (l : Bs) : Prop := (∀ x ∈ xs.take j, item x) ∧ l = Lib.join ((xs.take j).map lb) [46]
theorem join_snoc (l : List Bs) (x : Bs) (h : l ≠ []) : Lib.join (l ++ [x]) [46] = Lib.join l [46] ++ (46 :: x) := by
  cases l with
  | nil => exact absurd rfl h
  | cons a r =>
    rw [List.cons_append, Lib.join_cons, Lib.join_cons, List.append_assoc]
    congr 1
    simp [Lib.joinTail]
theorem Joined.start (xs : List ByteArray) : Joined xs 0 [] := ⟨by simp, by simp [Lib.join_nil]⟩
theorem Joined.first {xs : List ByteArray} {l : Bs} (h : Joined xs 0 l) (hj : 0 < xs.length) (hi : item xs[0]) : Joined xs 1 (l ++ lb xs[0]) := by
  obtain ⟨h1, rfl⟩ := h
  refine ⟨?_, ?_⟩
  · intro x hx
    rw [List.take_succ_eq_append_getElem hj] at hx
    simp at hx; subst hx; exact hi
  · rw [List.take_succ_eq_append_getElem hj]
    simp [Lib.join_nil, Lib.join_one]
theorem Joined.next {xs : List ByteArray} {j : Nat} {l : Bs} (h : Joined xs j l) (h0 : 0 < j) (hj : j < xs.length) (hi : item xs[j]) : Joined xs (j + 1) (l ++ [46] ++ lb xs[j]) := by
  obtain ⟨h1, rfl⟩ := h
  refine ⟨?_, ?_⟩
  · intro x hx
    rw [List.take_succ_eq_append_getElem hj] at hx
    rcases List.mem_append.1 hx with hx | hx
    · exact h1 x hx
    · simp at hx; subst hx; exact hi
  · rw [List.take_succ_eq_append_getElem hj, List.map_append, List.map_cons, List.map_nil, join_snoc _ _ (by
      intro h
      have := congrArg List.length h
      rw [List.length_map, List.length_take, List.length_nil] at this
      omega)]
    simp
theorem joinTail_length (r : List ByteArray) : (Lib.joinTail [46] (r.map lb)).length = bulk r := by
  induction r with
  | nil => rfl
  | cons a r ih =>
    simp only [Lib.joinTail, bulk, List.map_cons, List.flatten_cons, List.length_append, List.sum_cons, List.length_cons, List.length_nil] at ih ⊢
    rw [ih, ← lb_length]
    omega
theorem join_le (xs : List ByteArray) : (Lib.join (xs.map lb) [46]).length ≤ bulk xs := by
  cases xs with
  | nil => simp [Lib.join_nil]
  | cons a r =>
    rw [List.map_cons, Lib.join_cons, List.length_append, joinTail_length]
    simp only [bulk, List.map_cons, List.sum_cons]
    rw [← lb_length]
    omega
/-- what PathOf tells -/
def OfPost (xs : List ByteArray) (w : World) (e : Ending) (w' : World) : Prop :=
  Below w.heap.size w w' ∧ (((∀ x ∈ xs, item x) ∧ e = .returned (.tuple #[.string (newPath xs), .bool (decide (0 < xs.length))])) ∨ ((¬ ∀ x ∈ xs, item x) ∧ e = .returned (.tuple #[.string ⟨#[]⟩, .bool false])))

set_option maxHeartbeats 1600000 in
theorem PathOf {A : Option Addr} {c : Nat} {xs : List ByteArray} (w : World) (h : Kd.string.C w A xs.length xs) (hb : bulk xs ≤ 2147483647) :
    Calls Try.prog 18 #[.slice A xs.length c] w (OfPost xs w) := by
  have H := Aside0.mk h
  have hm := bulk_length xs
  have HB0 := Aside0.mk (Below.refl w.heap.size w)
  clear h
  go_enter Try.func18, Try.ntmps18
  go_wp2
  go_loopw [4, 5] (fun v4 v5 wr => ∃ (j : Nat) (l : Bs), v5 = .int .i64 j ∧ j ≤ xs.length ∧ Aside0 (Joined xs j l) ∧ Aside0 (Buf wr w.heap.size v4 l) ∧ Aside0 (Below w.heap.size w wr)) (fun _ v5 _ => xs.length - (intOf v5).toNat)
  case atStart => exact ⟨0, [], rfl, by omega, ⟨Joined.start xs⟩, ⟨Buf.nil _ _⟩, HB0⟩
  case round =>
    clear HB0
    obtain ⟨j, l, rfl, hj, HJ, HO, HB⟩ := hrel
    by_cases hlt : j < xs.length
    · obtain ⟨b0, o0, rfl, hb0, hc0⟩ := strs_open H.out (by omega)
      have gw := Aside0.mk (hc0 j hlt)
      have g0 := pw_cell_below HB.out gw.out
      have hx := bulk_at (List.getElem_mem hlt)
      have hl : l.length ≤ bulk xs := by rw [HJ.out.2]; have := join_le (xs.take j); have := bulk_take xs j; omega
      clear hc0
      go_wp2_with fail
      refine (treePart xs[j] wr (by omega)).mono ?_
      rintro e w1 ⟨rfl, ⟨nd, rfl⟩⟩
      by_cases hi : item xs[j]
      · rw [decide_eq_true hi]
        rcases Nat.eq_zero_or_pos j with h0 | h0
        · have nxt := Aside0.mk (show Joined xs (j + 1) (l ++ lb xs[j]) by subst h0; exact HJ.out.first hlt hi)
          have HO1 := Aside0.mk (HO.out.below (Drawn0.below ⟨⟨nd, rfl⟩⟩))
          have HB1 := Aside0.mk (hb_then HB.out (Drawn0.below ⟨⟨nd, rfl⟩⟩))
          have hz : j ≤ 0 := by omega
          clear hi h0
          go_wp2_with (at_builtin; refine append_bufS _ _ rfl rfl rfl rfl HO1.out HB1.out (by omega) ?_; intro v1 w2 ho hb hg; have HO2 := Aside0.mk ho; have HB2 := Aside0.mk hb; clear ho hb hg)
          go_roundw
          case rel => exact ⟨j + 1, _, by go_num, by omega, nxt, HO2, HB2⟩
          case measure => simp [intOf]; omega
        · have nxt := Aside0.mk (HJ.out.next h0 hlt hi)
          have HO1 := Aside0.mk (HO.out.below (Drawn0.below ⟨⟨nd, rfl⟩⟩))
          have HB1 := Aside0.mk (hb_then HB.out (Drawn0.below ⟨⟨nd, rfl⟩⟩))
          clear hi
          go_wp2_with (first | (at_builtin; refine append_bufB (.tmp 20) (.tmp 21) rfl rfl 46 rfl rfl rfl HO1.out HB1.out (by omega) ?_; intro v1 w2 ho hb hg; have HO2 := Aside0.mk ho; have HB2 := Aside0.mk hb; have g2 := pw_cell_below HB2.out gw.out; clear ho hb hg) | (at_builtin; refine append_bufS (.tmp 23) (.tmp 27) rfl rfl rfl rfl HO2.out HB2.out (by rw [List.length_append, List.length_singleton]; omega) ?_; intro v3 w3 ho hb hg; have HO3 := Aside0.mk ho; have HB3 := Aside0.mk hb; clear ho hb hg))
          go_roundw
          case rel => exact ⟨j + 1, _, by go_num, by omega, nxt, HO3, HB3⟩
          case measure => simp [intOf]; omega
      · rw [decide_eq_false hi]
        have no := Aside0.mk (show ¬ ∀ x ∈ xs, item x from fun h => hi (h _ (List.getElem_mem hlt)))
        clear hi
        go_wp2
        go_ret2
        exact ⟨hb_then HB.out (Drawn0.below ⟨⟨nd, rfl⟩⟩), .inr ⟨no.out, rfl⟩⟩
    · have yes := Aside0.mk (show (∀ x ∈ xs, item x) ∧ l = Lib.join (xs.map lb) [46] by
        have := HJ.out
        unfold Joined at this
        rw [List.take_of_length_le (by omega)] at this
        exact this)
      have hconv := HO.out.string
      by_cases h0 : xs.length = 0
      · have hz : xs.length ≤ 0 := by omega
        have dz := Aside0.mk (show decide (0 < xs.length) = false from decide_eq_false (by omega))
        clear h0
        go_wp2
        go_ret2
        exact ⟨HB.out, .inl ⟨yes.out.1, by rw [dz.out, newPath, ← yes.out.2]; rfl⟩⟩
      · have hz : 0 < xs.length := by omega
        have dz := Aside0.mk (show decide (0 < xs.length) = true from decide_eq_true (by omega))
        clear h0
        go_wp2
        go_ret2
        exact ⟨HB.out, .inl ⟨yes.out.1, by rw [dz.out, newPath, ← yes.out.2]; rfl⟩⟩

/-- an answer that is the one, or nothing said -/
def Said (b : Bool) (w : World) (e : Ending) (w' : World) : Prop :=
  Below w.heap.size w w' ∧ (e = .returned (.tuple #[.bool b, .bool true]) ∨ ∃ b', e = .returned (.tuple #[.bool b', .bool false]))
theorem Said.yes {b b' : Bool} {w w' : World} (h : b = b') (hb : Below w.heap.size w w') : Said b w (.returned (.tuple #[.bool b', .bool true])) w' := ⟨hb, .inl (by rw [h])⟩
theorem Said.no {b : Bool} (b' : Bool) {w w' : World} (hb : Below w.heap.size w w') : Said b w (.returned (.tuple #[.bool b', .bool false])) w' := ⟨hb, .inr ⟨b', rfl⟩⟩
theorem Said.any {b : Bool} (b' s : Bool) {w w' : World} (h : s = true → b = b') (hb : Below w.heap.size w w') : Said b w (.returned (.tuple #[.bool b', .bool s])) w' := by
  cases s with
  | true => exact Said.yes (h rfl) hb
  | false => exact Said.no b' hb

theorem pathMatches_len {p q : ByteArray} (h : ¬ (parts 46 p).length = (parts 46 q).length) : pathMatches p q = false := by
  rw [pathMatches, beq_eq_false_iff_ne.mpr (fun e => h e.symm), Bool.false_and]
theorem pathMatches_same {p q : ByteArray} {b : Bool} (h : (parts 46 p).length = (parts 46 q).length) (hb : (decide ((parts 46 p).length ≤ (parts 46 q).length) && matchB (parts 46 q) (parts 46 p)) = b) : pathMatches p q = b := by
  rw [← hb, pathMatches, beq_iff_eq.mpr h.symm, decide_eq_true (by omega)]

set_option maxHeartbeats 1600000 in
theorem PathMatches (p q : ByteArray) (w : World) (hp : p.size ≤ 4398046511104) (hq : q.size ≤ 4398046511104) :
    Calls Try.prog 32 #[.string p, .string q] w (Said (pathMatches p q) w) := by
  have l1 := parts_length 46 p
  have l2 := parts_length 46 q
  go_enter Try.func32, Try.ntmps32
  go_wp2_with fail
  refine (PathParts p w hp).mono ?_
  rintro e w1 ⟨hb, ⟨hpl, v, rfl, hr⟩ | ⟨hpl, v, rfl⟩⟩
  · obtain ⟨A1, c1, rfl, hc1, hC1⟩ := Kd.R_reads hr
    have H1 := Aside0.mk hC1
    have HB1 := Aside0.mk hb
    clear hr hb hpl hC1
    go_wp2_with fail
    refine (PathParts q w1 hq).mono ?_
    rintro e w2 ⟨hb, ⟨hpl, v2, rfl, hr⟩ | ⟨hpl, v2, rfl⟩⟩
    · obtain ⟨A2, c2, rfl, hc2, hC2⟩ := Kd.R_reads hr
      have H2 := Aside0.mk hC2
      have HB2 := Aside0.mk (hb_then HB1.out hb)
      have H1 := Aside0.mk (Kd.C_below H1.out hb)
      clear hr hb hpl hC2 HB1
      by_cases hlen : (parts 46 p).length = (parts 46 q).length
      · have e1 : (((parts 46 p).length : Int) == ((parts 46 q).length : Int)) = true := beq_iff_eq.mpr (by omega)
        have HL := Aside0.mk hlen
        clear hlen
        go_wp2_with fail
        refine (treeStar w2 H1.out H2.out).mono ?_
        rintro e w3 ⟨⟨bs, rfl⟩, hd⟩
        have HB3 := Aside0.mk (hb_then HB2.out hd.below)
        have H1 := Aside0.mk (Kd.C_below H1.out hd.below)
        have H2 := Aside0.mk (Kd.C_below H2.out hd.below)
        clear hd HB2
        cases bs with
        | true =>
          go_wp2
          go_ret2
          exact Said.no _ HB3.out
        | false =>
          go_wp2_with fail
          refine (treeBegins w3 H1.out H2.out).mono ?_
          rintro e w4 ⟨rfl, hd⟩
          generalize hbb : (decide ((parts 46 p).length ≤ (parts 46 q).length) && matchB (parts 46 q) (parts 46 p)) = bb
          have ML := Aside0.mk (pathMatches_same HL.out hbb)
          have HB4 := Aside0.mk (hb_then HB3.out hd.below)
          clear hd HB3 hbb
          go_wp2
          go_ret2
          exact Said.yes ML.out HB4.out
      · have e1 : (((parts 46 p).length : Int) == ((parts 46 q).length : Int)) = false := beq_eq_false_iff_ne.mpr (by omega)
        have ML := Aside0.mk (pathMatches_len hlen)
        clear hlen
        go_wp2
        go_ret2
        exact Said.yes ML.out HB2.out
    · have HB2 := Aside0.mk (hb_then HB1.out hb)
      clear hb hpl
      go_wp2
      go_ret2
      exact Said.no _ HB2.out
  · have HB1 := Aside0.mk hb
    clear hb hpl
    go_wp2_with fail
    refine (PathParts q w1 hq).mono ?_
    rintro e w2 ⟨hb, ⟨hpl, v2, rfl, hr⟩ | ⟨hpl, v2, rfl⟩⟩
    · have HB2 := Aside0.mk (hb_then HB1.out hb)
      clear hr hb hpl
      go_wp2
      go_ret2
      exact Said.no _ HB2.out
    · have HB2 := Aside0.mk (hb_then HB1.out hb)
      clear hb hpl
      go_wp2
      go_ret2
      exact Said.no _ HB2.out

def anyB (qs : List ByteArray) (p : ByteArray) : Bool := qs.any fun q => pathMatches p q
theorem anyB_snoc (qs : List ByteArray) (p : ByteArray) {j : Nat} (h : j < qs.length) : anyB (qs.take (j + 1)) p = (anyB (qs.take j) p || pathMatches p qs[j]) := by
  unfold anyB
  rw [List.take_succ_eq_append_getElem h, List.any_append]
  simp

set_option maxHeartbeats 1600000 in
theorem PathAny {A : Option Addr} {c : Nat} {qs : List ByteArray} (p : ByteArray) (w : World) (h : Kd.string.C w A qs.length qs) (hf : fits qs) (hp : p.size ≤ 2147483647) :
    Calls Try.prog 21 #[.slice A qs.length c, .string p] w (Said (anyB qs p) w) := by
  have H := Aside0.mk h
  have HF := Aside0.mk hf.2
  have hm := hf.1
  have HB0 := Aside0.mk (Below.refl w.heap.size w)
  clear h hf
  go_enter Try.func21, Try.ntmps21
  go_wp2
  go_loopw [4, 6] (fun v4 v6 wr => ∃ (b : Bool) (j : Nat), v4 = .bool b ∧ v6 = .int .i64 j ∧ j ≤ qs.length ∧ Aside0 (anyB (qs.take j) p = b) ∧ Aside0 (Below w.heap.size w wr)) (fun _ v6 _ => qs.length - (intOf v6).toNat)
  case atStart => exact ⟨false, 0, rfl, rfl, by omega, ⟨by simp [anyB]⟩, HB0⟩
  case round =>
    clear HB0
    obtain ⟨b, j, rfl, rfl, hj, HM, HB⟩ := hrel
    by_cases hlt : j < qs.length
    · obtain ⟨b0, o0, rfl, hb0, hc0⟩ := strs_open (Kd.C_below H.out HB.out) (by omega)
      have g0 := hc0 j hlt
      have hq := HF.out qs[j] (List.getElem_mem hlt)
      have sn := anyB_snoc qs p hlt
      rw [HM.out] at sn
      have SN := Aside0.mk sn
      clear hc0 sn
      go_wp2_with fail
      refine (PathMatches p qs[j] wr (by omega) (by omega)).mono ?_
      rintro e w2 ⟨hb, rfl | ⟨b', rfl⟩⟩
      · have HB2 := Aside0.mk (hb_then HB.out hb)
        generalize hbb : pathMatches p qs[j] = bb
        have SN2 := Aside0.mk (show anyB (qs.take (j + 1)) p = (b || bb) by rw [SN.out, hbb])
        clear hb HB hbb
        cases b with
        | true =>
          go_wp2
          go_roundw
          case rel => exact ⟨true, j + 1, rfl, by go_num, by omega, ⟨by rw [SN2.out]; rfl⟩, HB2⟩
          case measure => simp [intOf]; omega
        | false =>
          go_wp2
          go_roundw
          case rel => exact ⟨bb, j + 1, rfl, by go_num, by omega, ⟨by rw [SN2.out]; rfl⟩, HB2⟩
          case measure => simp [intOf]; omega
      · have HB2 := Aside0.mk (hb_then HB.out hb)
        clear hb HB
        go_wp2
        go_ret2
        exact Said.no _ HB2.out
    · have hM : anyB qs p = b := by
        have := HM.out
        rw [List.take_of_length_le (by omega)] at this
        exact this
      have HM2 := Aside0.mk hM
      clear hM
      go_wp2_with fail
      refine (PathParts p wr (by omega)).mono ?_
      rintro e w2 ⟨hb, ⟨hpl, v2, rfl, hr⟩ | ⟨hpl, v2, rfl⟩⟩
      · have HB2 := Aside0.mk (hb_then HB.out hb)
        clear hb hpl hr
        go_wp2
        go_ret2
        exact Said.yes HM2.out HB2.out
      · have HB2 := Aside0.mk (hb_then HB.out hb)
        clear hb hpl
        go_wp2
        go_ret2
        exact Said.no _ HB2.out
end Go.Proofs.Ytecehldjeppjiaa.PathSpec
