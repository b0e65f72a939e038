/- FirstBrace: the walk through the law -/
import Derived.Test.YtecehldjeppjiaaBracePure
namespace Go.Proofs.Ytecehldjeppjiaa.PFnFirstBrace
open Go.RowKit Go.Proofs.YtecehldjeppjiaaW.PrintWords Go.Proofs.YtecehldjeppjiaaW.PrintLast Go.Proofs.YtecehldjeppjiaaW.PrintMore
open Go.Proofs.Ytecehldjeppjiaa.BracePure
set_option linter.unusedVariables false
set_option linter.unusedSimpArgs false

set_option maxHeartbeats 400000 in
set_option maxRecDepth 100000 in
theorem law_long (a0 a1 a2 : ByteArray) (a3 : Int) (w : World) (h : 2147483647 < (a0.size : Int) ∨ 2147483647 < (a1.size : Int) ∨ 2147483647 < (a2.size : Int)) :
    Calls Try.prog 3 #[.string a0, .string a1, .string a2, .int .i64 a3] w fun e w' => e = .returned (.bool true) ∧ Below w.heap.size w w' := by
  by_cases c0 : 2147483647 < (a0.size : Int)
  · have d0 : decide (2147483647 < (a0.size : Int)) = true := decide_eq_true c0
    clear c0 h
    go_enter Try.func3, Try.ntmps3
    go_wp2
    go_ret
    exact ⟨rfl, Below.refl _ _⟩
  have d0 : decide (2147483647 < (a0.size : Int)) = false := decide_eq_false c0
  by_cases c1 : 2147483647 < (a1.size : Int)
  · have d1 : decide (2147483647 < (a1.size : Int)) = true := decide_eq_true c1
    clear c0 c1 h
    go_enter Try.func3, Try.ntmps3
    go_wp2
    go_ret
    exact ⟨rfl, Below.refl _ _⟩
  have d1 : decide (2147483647 < (a1.size : Int)) = false := decide_eq_false c1
  have d2 : decide (2147483647 < (a2.size : Int)) = true := decide_eq_true (by omega)
  clear c0 c1 h
  go_enter Try.func3, Try.ntmps3
  go_wp2
  go_ret
  exact ⟨rfl, Below.refl _ _⟩

set_option maxHeartbeats 1000000 in
set_option maxRecDepth 100000 in
theorem law_short (a0 a1 a2 : ByteArray) (a3 : Int) (w : World) (z0 : (a0.size : Int) ≤ 2147483647) (z1 : (a1.size : Int) ≤ 2147483647) (z2 : (a2.size : Int) ≤ 2147483647) :
    Calls Try.prog 3 #[.string a0, .string a1, .string a2, .int .i64 a3] w fun e w' => e = .returned (.bool true) ∧ Below w.heap.size w w' := by
  have d0 : decide (2147483647 < (a0.size : Int)) = false := decide_eq_false (by omega)
  have d1 : decide (2147483647 < (a1.size : Int)) = false := decide_eq_false (by omega)
  have d2 : decide (2147483647 < (a2.size : Int)) = false := decide_eq_false (by omega)
  obtain ⟨k, hk⟩ : ∃ k : Nat, 1000000000000000 < k := ⟨_, Nat.lt_succ_self _⟩
  obtain ⟨t0, e0, p0, s0⟩ := plain_f a0 (by omega) k (by omega)
  obtain ⟨t1, e1, p1, s1⟩ := plain_f a1 (by omega) k (by omega)
  obtain ⟨n, hn, en⟩ := times a3
  have E0 := Aside0.mk e0
  have E1 := Aside0.mk e1
  have P0 := Aside0.mk p0
  have P1 := Aside0.mk p1
  have S0 : t0.size ≤ 2147483647 := by omega
  have S1 : t1.size ≤ 2147483647 := by omega
  have HB := Aside0.mk (Below.refl w.heap.size w)
  have hs1 : ((⟨#[97]⟩ : ByteArray) ++ t1).size ≤ 2147483648 := by have ha : (⟨#[97]⟩ : ByteArray).size = 1 := rfl; rw [ByteArray.size_append]; omega
  clear e0 e1 p0 p1 s0 s1
  go_enter Try.func3, Try.ntmps3
  go_wp2_with fail
  refine (spec_SubstPlain.calls k a0 t0 _ E0.out).mono ?_
  rintro e w1 ⟨rfl, hb⟩
  have HB1 := Aside0.mk (below_step HB.out hb)
  clear hb
  go_wp2_with fail
  refine (spec_SubstPlain.calls k a1 t1 _ E1.out).mono ?_
  rintro e w2 ⟨rfl, hb⟩
  have HB2 := Aside0.mk (below_step HB1.out hb)
  clear hb HB1
  go_wp2
  clear en
  generalize hy : (⟨#[97]⟩ : ByteArray) ++ t1 = y at *
  have HY := Aside0.mk hy
  have HO := Aside0.mk (opened_start t0 t1)
  rw [hy] at HO
  clear hy
  generalize t0 ++ (⟨#[123]⟩ : ByteArray) ++ y = x at *
  go_loopw [10, 11] (fun v10 v11 wr => ∃ (j : Nat) (x : ByteArray), v10 = .string x ∧ v11 = .int .i64 j ∧ j ≤ n ∧ x.size ≤ 1000000000000 ∧ Aside0 (Openings t0 t1 j x) ∧ Aside0 (Below w.heap.size w wr)) (fun _ v11 _ => n - (intOf v11).toNat)
  case atStart => exact ⟨0, x, rfl, rfl, by omega, opened_size HO.out S0 S1 (by omega), HO, HB2⟩
  case round =>
    clear HB HB2 HO
    obtain ⟨j, x, rfl, rfl, hj, hx, HO, HB⟩ := hrel
    have hw : (⟨#[123]⟩ : ByteArray).size = 1 := rfl
    by_cases hlt : j < n
    · go_wp2
      go_roundw
      case rel =>
        have h1 := opened_step HO.out
        rw [HY.out] at h1
        exact ⟨j + 1, _, rfl, by go_num, by omega, opened_size h1 S0 S1 (by omega), ⟨h1⟩, HB⟩
      case measure => simp [intOf]; omega
    · obtain rfl : j = n := by omega
      go_wp2
      have HS := Aside0.mk (shut_start HO.out)
      go_loopw [10, 12] (fun v10 v12 wr => ∃ (i : Nat) (x : ByteArray), v10 = .string x ∧ v12 = .int .i64 i ∧ i ≤ j ∧ x.size ≤ 1000000000000 ∧ Aside0 (Closings t0 t1 j i x) ∧ Aside0 (Below w.heap.size w wr)) (fun _ v12 _ => j - (intOf v12).toNat)
      case atStart => exact ⟨0, x, rfl, rfl, by omega, hx, HS, HB⟩
      case round =>
        clear HB HS HO hlt
        obtain ⟨i, x, rfl, rfl, hi, hx, HS, HB⟩ := hrel
        have hv : (⟨#[125]⟩ : ByteArray).size = 1 := rfl
        by_cases hlt : i < j
        · go_wp2
          go_roundw
          case rel =>
            have h1 := shut_step HS.out
            rw [HY.out] at h1
            exact ⟨i + 1, _, rfl, by go_num, by omega, shut_size h1 S0 S1 hn (by omega), ⟨h1⟩, HB⟩
          case measure => simp [intOf]; omega
        · obtain rfl : i = j := by omega
          obtain ⟨r1, r2, r3⟩ := at_end a2 P0.out P1.out S0 (by omega) hx HS.out k (by omega)
          have R1 := Aside0.mk r1
          have R2 := Aside0.mk r2
          have R3 := Aside0.mk r3
          clear r1 r2 r3
          go_wp2_with fail
          refine (impl_FirstBrace.calls k _ _ _ R1.out).mono ?_
          rintro e w3 ⟨rfl, hb⟩
          have HB3 := Aside0.mk (below_then HB.out HB.out.size hb.below)
          clear hb HB
          go_wp2_with fail
          refine (impl_FirstBrace.calls k _ _ _ R2.out).mono ?_
          rintro e w4 ⟨rfl, hb⟩
          have HB4 := Aside0.mk (below_then HB3.out HB3.out.size hb.below)
          clear hb HB3
          go_wp2_with fail
          refine (impl_FirstBrace.calls k _ _ _ R3.out).mono ?_
          rintro e w5 ⟨rfl, hb⟩
          have HB5 := Aside0.mk (below_then HB4.out HB4.out.size hb.below)
          clear hb HB4
          go_wp2
          go_ret
          exact ⟨rfl, HB5.out⟩

theorem law (a0 a1 a2 : ByteArray) (a3 : Int) (w : World) :
    Calls Try.prog 3 #[.string a0, .string a1, .string a2, .int .i64 a3] w fun e w' => e = .returned (.bool true) ∧ Below w.heap.size w w' := by
  by_cases h : 2147483647 < (a0.size : Int) ∨ 2147483647 < (a1.size : Int) ∨ 2147483647 < (a2.size : Int)
  · exact law_long a0 a1 a2 a3 w h
  · exact law_short a0 a1 a2 a3 w (by omega) (by omega) (by omega)

end Go.Proofs.Ytecehldjeppjiaa.PFnFirstBrace
