/- spec.sayIn, sayWord, PartWord. -/
import Derived.Test.YtaembebbaejfiaaDoorFrame
import Derived.Test.YtaembebbaejfiaaDoorWLast
namespace Go.Proofs.YtaembebbaejfiaaDoor.Say
open Go.RowKit Go.Proofs.YtaembebbaejfiaaDoorW.PrintWords Go.Proofs.YtaembebbaejfiaaDoorW.PrintLast Go.Proofs.YtaembebbaejfiaaDoor.Str Go.Proofs.YtaembebbaejfiaaDoor.Kit Go.Proofs.YtaembebbaejfiaaDoor.Frame
set_option linter.unusedVariables false
set_option linter.unusedSimpArgs false
/-- is a text in a row? -/
def inB (a : ByteArray) (l : List ByteArray) : Bool := l.any fun x => x.toList == a.toList
theorem inB_snoc (a : ByteArray) (l : List ByteArray) (x : ByteArray) : inB a (l ++ [x]) = (inB a l || (x.toList == a.toList)) := by simp [inB]
set_option maxHeartbeats 800000 in
theorem sayIn {A : Option Addr} {c : Nat} (a : ByteArray) (l : List ByteArray) (w : World) (h : Kd.string.C w A l.length l) (hn : l.length ≤ 17179869184) :
    Calls Tryd.prog 48 #[.string a, .slice A l.length c] w fun e w' => e = .returned (.bool (inB a l)) ∧ w' = w := by
  have H := Aside0.mk h
  clear h
  go_enter Tryd.func48, Tryd.ntmps48
  go_wp2
  go_loopw [5] (fun v wr => ∃ i : Nat, v = .int .i64 i ∧ i ≤ l.length ∧ Aside0 (inB a (l.take i) = false) ∧ wr = w) (fun v _ => l.length - (intOf v).toNat)
  case atStart => exact ⟨0, rfl, by omega, ⟨rfl⟩, rfl⟩
  case round =>
    obtain ⟨i, rfl, hi, HN, rfl⟩ := hrel
    by_cases hlt : i < l.length
    · obtain ⟨b0, o0, rfl, hb0, hc0⟩ := strs_open H.out (by omega)
      have g0 := hc0 i hlt
      have q0 : (0 : Int) ≤ (i : Int) := by omega
      have q1 : (i : Int) < (l.length : Int) := by omega
      have HS := Aside0.mk (show inB a (l.take (i + 1)) = (l[i].toList == a.toList) by rw [List.take_succ_eq_append_getElem hlt, inB_snoc, HN.out, Bool.false_or])
      have HY := Aside0.mk (show (l[i].toList == a.toList) = true → inB a l = true from fun e => List.any_eq_true.2 ⟨_, List.getElem_mem hlt, e⟩)
      clear hc0
      generalize l[i] = x at g0 HS HY
      cases hb : (x.toList == a.toList)
      · have Y := Aside0.mk (show inB a (l.take (i + 1)) = false by rw [HS.out, hb])
        clear HS HY
        go_wp2
        go_roundw
        case rel => exact ⟨i + 1, by go_num, by omega, Y, trivial⟩
        case measure => simp [intOf]; omega
      · have Y := Aside0.mk (HY.out hb)
        clear HS HY
        go_wp2
        go_ret
        exact ⟨by rw [Y.out]; rfl, rfl⟩
    · have Y := Aside0.mk (show inB a l = false by
        have := HN.out
        rw [List.take_of_length_le (by omega)] at this
        exact this)
      go_wp2
      go_ret
      exact ⟨by rw [Y.out]; rfl, rfl⟩
theorem byte_text (n : Int) (w : World) : (convert 71 9 (.slice (some ⟨w.heap.size, 0, none⟩) 1 1)).run Tryd.prog (w.alloc (.cells #[.int .u8 n] 5)) = .ok (.string (strOfNums [n])) (w.alloc (.cells #[.int .u8 n] 5)) :=
  Kd.C_string Tryd.underlying71 Tryd.underlying5 Tryd.underlying9 ⟨rfl, by decide, fun _ => ⟨_, rfl, fun j p hp => by
    have hj : j = 0 := by
      have := (List.getElem?_eq_some_iff.1 hp).1
      simp at this
      exact this
    subst hj
    injection hp with hp
    subst hp
    refine ⟨[.int .u8 n], rfl, rfl, fun i u hu => ?_⟩
    have hi : i = 0 := by
      have := (List.getElem?_eq_some_iff.1 hu).1
      simp at this
      exact this
    subst hi
    injection hu with hu
    subst hu
    exact cb_cell (i := 0) (cb_new _ _) rfl⟩⟩
def signs : List ByteArray := [⟨#[61]⟩, ⟨#[36]⟩, ⟨#[58]⟩, ⟨#[34]⟩, ⟨#[39]⟩, ⟨#[92]⟩, ⟨#[126]⟩]
set_option maxHeartbeats 1600000 in
set_option maxRecDepth 100000 in
theorem sayWord (s : ByteArray) (w : World) (hs : s.size ≤ 2147483647) :
    Calls Tryd.prog 26 #[.string s] w fun e w' => ∃ r, e = .returned (.bool r) ∧ Below w.heap.size w w' := by
  have HB := Aside0.mk (Below.refl w.heap.size w)
  go_enter Tryd.func26, Tryd.ntmps26
  go_wp2
  go_loopw [3] (fun v wr => ∃ i : Nat, v = .int .i64 i ∧ i ≤ s.size ∧ Aside0 (Below w.heap.size w wr)) (fun v _ => s.size - (intOf v).toNat)
  case atStart => exact ⟨0, rfl, by omega, HB⟩
  case round =>
    clear HB
    obtain ⟨i, rfl, hi, HB⟩ := hrel
    by_cases hlt : i < s.size
    · have q0 : (0 : Int) ≤ (i : Int) := by omega
      have q1 : (i : Int) < (s.size : Int) := by omega
      obtain ⟨n, hn⟩ : ∃ n : Nat, n = s[i].toNat := ⟨_, rfl⟩
      have hcv : (s[i].toNat : Int) = (n : Int) := by rw [hn]
      have HN := Aside0.mk hn
      clear hn
      cases h1 : decide ((n : Int) < 33)
      · cases h2 : decide (126 < (n : Int))
        · have hcvt := byte_text (n : Int) wr
          have HB1 := Aside0.mk (below_alloc HB.out (.cells #[.int .u8 (n : Int)] 5))
          generalize strOfNums [(n : Int)] = tx at hcvt
          have HCS := Aside0.mk (strs_lit (wr.alloc (.cells #[.int .u8 (n : Int)] 5)) 9 signs (by decide))
          have cs := sayIn (c := 7) tx signs _ HCS.out (by decide)
          have hb2 := below_alloc HB1.out (.cells (signs.map Value.string).toArray 9)
          generalize inB tx signs = r at cs
          simp only [signs, List.map_cons, List.map_nil, List.length_cons, List.length_nil, World.size_alloc, Nat.reduceAdd, Nat.zero_add] at cs hb2
          have CS := Aside0.mk cs
          have HB2 := Aside0.mk hb2
          clear cs hb2 HCS
          go_wp2_with fail
          refine CS.out.mono ?_
          rintro e w2 ⟨rfl, rfl⟩
          cases r
          · go_wp2
            go_roundw
            case rel => exact ⟨i + 1, by go_num, by omega, HB2⟩
            case measure => simp [intOf]; omega
          · go_wp2
            go_ret
            exact ⟨_, rfl, HB2.out⟩
        · go_wp2
          go_ret
          exact ⟨_, rfl, HB.out⟩
      · go_wp2
        go_ret
        exact ⟨_, rfl, HB.out⟩
    · go_wp2
      go_ret
      exact ⟨_, rfl, HB.out⟩
set_option maxHeartbeats 400000 in
theorem PartWord (s : ByteArray) (w : World) (hs : s.size ≤ 2147483647) :
    Calls Tryd.prog 7 #[.string s] w fun e w' => ∃ r, e = .returned (.bool r) ∧ Below w.heap.size w w' := by
  have CW := Aside0.mk (sayWord s w hs)
  go_enter Tryd.func7, Tryd.ntmps7
  go_wp2_with fail
  refine CW.out.mono ?_
  rintro e w1 ⟨r, rfl, hb⟩
  have HB := Aside0.mk hb
  clear hb CW
  go_wp2
  go_ret
  exact ⟨_, rfl, HB.out⟩
end Go.Proofs.YtaembebbaejfiaaDoor.Say
