/- Parts of the proof, laid together: Q0, QSpecPlace, QSpecGet, QSpecHas, QSpecSayIn, QLawsZzFits2, QLawsZzFits1, Str, MapV, Kit, Rowstr, Buf, Frame, Place, Held. -/
import Derived.Test.YtaembebbaejfiaaGreatDoorProg
import Derived.Below
import Derived.Deep.Draws
import Derived.Deep.AppendLies
import Derived.Maps.AppendAt
import Derived.OwnWalk
import Derived.Laws.BytesArg
import Derived.Laws.MakeOwn
import Derived.Laws.OwnMore
import Derived.Deep.OwnRows
import Derived.Tactics
import Derived.Lib.ConvBytes
import Derived.Laws.Slices
import Derived.WalkKit
import Derived.KernelRfl
import Derived.RowKit3
import Derived.Deep.LoopGhost
import Derived.Deep.QuietTactic
import Derived.BigQuiet
import Derived.WideLaws
import Derived.Deep.DeepCutAuto
import Derived.Deep.CutBlock
import Derived.Deep.RegionHeld3
import Derived.Laws.Rows
import Derived.Lib.AppendStr
import Derived.ArgAppend
import Derived.Laws.IdiomCopy
import Derived.OrdersHeld
import Derived.Laws.BitsLemmas
import Derived.RowKit
import Derived.Laws.Cover1
import Derived.Test.YtaembebbaejfiaaGreatDoorB1
import Derived.Test.YtaembebbaejfiaaGreatDoorB2
import Derived.Maps.RangeWalk
import Derived.Maps.OwnOps
import Derived.Sort.KeysCollected
import Derived.Sort.Walk0
import Derived.Deep.MidRow
namespace Go.Proofs.YtaembebbaejfiaaGreatDoor.PS
open Go.RowKit Go.Proofs.YtaembebbaejfiaaGreatDoorW.PrintWords Go.Proofs.YtaembebbaejfiaaGreatDoorW.PrintLast Go.Proofs.YtaembebbaejfiaaGreatDoorW.PrintMore
attribute [local go_sem] max2_int min2_int max_two min_two max_three min_three max_four min_four 
set_option linter.unusedVariables false
set_option linter.unusedSimpArgs false
def errW : Option Int → Value
 | none => .nilIface
 | some c => .iface 0 (.int .i64 c)
theorem errW_none : errW none = .nilIface := rfl
theorem errW_some (c : Int) : errW (some c) = .iface 0 (.int .i64 c) := rfl
theorem info9 : (Tryz.prog.info? 9).map (fun i => (i.zero, i.size, i.bytes)) = some (some (.string ⟨#[]⟩), 1, 16) := by kernel_rfl
theorem info25 : (Tryz.prog.info? 25).map (fun i => (i.zero, i.size, i.bytes)) = some (some (.agg #[(.int .i64 0), (.int .i64 0), (.string ⟨#[]⟩), (.slice none 0 0), (.slice none 0 0)]), 5, 80) := by kernel_rfl
theorem info45 : (Tryz.prog.info? 45).map (fun i => (i.zero, i.size, i.bytes)) = some (some (.agg #[(.int .i64 0), (.int .i64 0), (.string ⟨#[]⟩), (.slice none 0 0), (.slice none 0 0)]), 5, 80) := by kernel_rfl
structure S25 where
 f0 : Int
 f1 : Int
 f2 : ByteArray
 f3 : (List ByteArray)
 f4 : (List S25)
def z25 : S25 := ⟨(0 : Int), (0 : Int), (⟨#[]⟩ : ByteArray), ([] : List ByteArray), ([] : List S25)⟩
def F25 (d : Kd S25) : Kd S25 := Kd.iso (Kd.pair (Kd.int .i64) (Kd.pair (Kd.int .i64) (Kd.pair Kd.string (Kd.pair (Kd.slice 9 Kd.string) (Kd.slice 25 d))))) (fun x : S25 => (x.f0, x.f1, x.f2, x.f3, x.f4))
theorem mono25 : Kd.Mono F25 := Kd.mono_iso _ (Kd.mono_pair (Kd.mono_const _) (Kd.mono_pair (Kd.mono_const _) (Kd.mono_pair (Kd.mono_const _) (Kd.mono_pair (Kd.mono_const _) (Kd.mono_slice 25 Kd.mono_id)))))
theorem sub25 : Kd.Sub F25 [9, 25] := Kd.sub_iso _ (Kd.sub_pair (Kd.sub_const _ (by decide)) (Kd.sub_pair (Kd.sub_const _ (by decide)) (Kd.sub_pair (Kd.sub_const _ (by decide)) (Kd.sub_pair (Kd.sub_const _ (by decide)) (Kd.sub_slice 25 (by decide) Kd.sub_id)))))
theorem sz25 : ∀ n, (Kd.upto F25 5 [9, 25] n).sz = 5 := Kd.upto_sz (fun _ => rfl)
def k25 : Kd S25 := Kd.fix F25 5 [9, 25] sz25 (Kd.upto_E sub25)
theorem k25_open {w : World} {x : S25} {cs : List Value} (h : k25.K w x cs) : ∃ A3 c3 A4 c4, cs = [.int .i64 x.f0, .int .i64 x.f1, .string x.f2, .slice A3 x.f3.length c3, .slice A4 x.f4.length c4] ∧ x.f3.length ≤ c3 ∧ Kd.string.C w A3 x.f3.length x.f3 ∧ x.f4.length ≤ c4 ∧ k25.C w A4 x.f4.length x.f4 := by
 obtain ⟨n, h⟩ := h
 cases n with
 | zero => exact h.elim
 | succ n =>
  obtain ⟨_, _, rfl, rfl, ⟨_, _, rfl, rfl, ⟨_, _, rfl, rfl, ⟨_, _, rfl, ⟨A3, c3, rfl, l3, g3⟩, ⟨A4, c4, rfl, l4, g4⟩⟩⟩⟩⟩ := h
  exact ⟨A3, c3, A4, c4, rfl, l3, g3, l4, Kd.fix_C g4⟩
theorem k25_mk (w : World) (x : S25) {A3 : Option Addr} {c3 : Nat} (l3 : x.f3.length ≤ c3) (g3 : Kd.string.C w A3 x.f3.length x.f3) {A4 : Option Addr} {c4 : Nat} (l4 : x.f4.length ≤ c4) (g4 : k25.C w A4 x.f4.length x.f4) : k25.K w x [.int .i64 x.f0, .int .i64 x.f1, .string x.f2, .slice A3 x.f3.length c3, .slice A4 x.f4.length c4] := by
 obtain ⟨n4, q4⟩ := Kd.fix_C_back mono25 g4
 have r4 := Kd.upto_C_le mono25 sz25 (show n4 ≤ n4 by omega) q4
 exact ⟨n4 + 1, ⟨[.int .i64 x.f0], [.int .i64 x.f1, .string x.f2, .slice A3 x.f3.length c3, .slice A4 x.f4.length c4], rfl, rfl, ⟨[.int .i64 x.f1], [.string x.f2, .slice A3 x.f3.length c3, .slice A4 x.f4.length c4], rfl, rfl, ⟨[.string x.f2], [.slice A3 x.f3.length c3, .slice A4 x.f4.length c4], rfl, rfl, ⟨[.slice A3 x.f3.length c3], [.slice A4 x.f4.length c4], rfl, ⟨A3, c3, rfl, l3, g3⟩, ⟨A4, c4, rfl, l4, r4⟩⟩⟩⟩⟩⟩
theorem k25_mkM (w : World) (base : Nat) (ok : Nat → Prop) (x : S25) {v3 : Value} (g3 : Kd.string.R 9 w base ok v3 x.f3) {v4 : Value} (g4 : k25.R 25 w base ok v4 x.f4) : k25.M w base ok x [.int .i64 x.f0, .int .i64 x.f1, .string x.f2, v3, v4] := by
 obtain ⟨n4, q4⟩ := Kd.fix_R_back mono25 g4
 have r4 := Kd.upto_R_le mono25 sz25 (show n4 ≤ n4 by omega) q4
 exact ⟨n4 + 1, ⟨[.int .i64 x.f0], [.int .i64 x.f1, .string x.f2, v3, v4], rfl, rfl, ⟨[.int .i64 x.f1], [.string x.f2, v3, v4], rfl, rfl, ⟨[.string x.f2], [v3, v4], rfl, rfl, ⟨[v3], [v4], rfl, ⟨v3, rfl, g3⟩, ⟨v4, rfl, r4⟩⟩⟩⟩⟩⟩
theorem k25_mkF (W : World) (ok : Nat → Prop) (x : S25) {A3 : Option Addr} {c3 : Nat} (l3 : x.f3.length ≤ c3) (g3 : Kd.F Kd.string W ok A3 x.f3.length x.f3) {A4 : Option Addr} {c4 : Nat} (l4 : x.f4.length ≤ c4) (g4 : Kd.F k25 W ok A4 x.f4.length x.f4) : Kd.FK k25 W ok x [.int .i64 x.f0, .int .i64 x.f1, .string x.f2, .slice A3 x.f3.length c3, .slice A4 x.f4.length c4] := fun W2 hW => k25_mk W2 x l3 (g3 W2 hW) l4 (g4 W2 hW)
def rd_T25 (xs : List S25) (i : Int) : S25 := xs.getD i.toNat z25
theorem at_T25 {w : World} {A : Option Addr} {n : Nat} {xs : List S25} (h : Kd.C k25 w A n xs) (i : Int) (h0 : 0 ≤ i) (h1 : i < n) : ∃ ad A3 c3 A4 c4, A = some ad ∧ w.cell? (ad.add (i.toNat * 5)) = some (.int .i64 (rd_T25 xs i).f0) ∧ w.cell? ⟨(ad.add (i.toNat * 5)).block, (ad.add (i.toNat * 5)).off + 1, none⟩ = some (.int .i64 (rd_T25 xs i).f1) ∧ w.cell? ⟨(ad.add (i.toNat * 5)).block, (ad.add (i.toNat * 5)).off + 2, none⟩ = some (.string (rd_T25 xs i).f2) ∧ w.cell? ⟨(ad.add (i.toNat * 5)).block, (ad.add (i.toNat * 5)).off + 3, none⟩ = some (.slice A3 (rd_T25 xs i).f3.length c3) ∧ w.cell? ⟨(ad.add (i.toNat * 5)).block, (ad.add (i.toNat * 5)).off + 4, none⟩ = some (.slice A4 (rd_T25 xs i).f4.length c4) ∧ (rd_T25 xs i).f3.length ≤ c3 ∧ Kd.string.C w A3 (rd_T25 xs i).f3.length (rd_T25 xs i).f3 ∧ (rd_T25 xs i).f4.length ≤ c4 ∧ k25.C w A4 (rd_T25 xs i).f4.length (rd_T25 xs i).f4 := by
 obtain ⟨ad, c, e, _, hK, hc0⟩ := Kd.C_get h z25 i h0 h1
 have hc : ∀ j u, c[j]? = some u → w.cell? (ad.add (i.toNat * 5 + j)) = some u := hc0
 obtain ⟨A3, c3, A4, c4, rfl, l3, g3, l4, g4⟩ := k25_open hK
 exact ⟨ad, A3, c3, A4, c4, e, hc 0 _ rfl, by rw [← add_field _ _ 1 (by omega)]; exact hc 1 _ rfl, by rw [← add_field _ _ 2 (by omega)]; exact hc 2 _ rfl, by rw [← add_field _ _ 3 (by omega)]; exact hc 3 _ rfl, by rw [← add_field _ _ 4 (by omega)]; exact hc 4 _ rfl, l3, g3, l4, g4⟩
structure S45 where
 f0 : Int
 f1 : Int
 f2 : ByteArray
 f3 : (List ByteArray)
 f4 : (List S45)
def z45 : S45 := ⟨(0 : Int), (0 : Int), (⟨#[]⟩ : ByteArray), ([] : List ByteArray), ([] : List S45)⟩
def F45 (d : Kd S45) : Kd S45 := Kd.iso (Kd.pair (Kd.int .i64) (Kd.pair (Kd.int .i64) (Kd.pair Kd.string (Kd.pair (Kd.slice 9 Kd.string) (Kd.slice 45 d))))) (fun x : S45 => (x.f0, x.f1, x.f2, x.f3, x.f4))
theorem mono45 : Kd.Mono F45 := Kd.mono_iso _ (Kd.mono_pair (Kd.mono_const _) (Kd.mono_pair (Kd.mono_const _) (Kd.mono_pair (Kd.mono_const _) (Kd.mono_pair (Kd.mono_const _) (Kd.mono_slice 45 Kd.mono_id)))))
theorem sub45 : Kd.Sub F45 [9, 45] := Kd.sub_iso _ (Kd.sub_pair (Kd.sub_const _ (by decide)) (Kd.sub_pair (Kd.sub_const _ (by decide)) (Kd.sub_pair (Kd.sub_const _ (by decide)) (Kd.sub_pair (Kd.sub_const _ (by decide)) (Kd.sub_slice 45 (by decide) Kd.sub_id)))))
theorem sz45 : ∀ n, (Kd.upto F45 5 [9, 45] n).sz = 5 := Kd.upto_sz (fun _ => rfl)
def k45 : Kd S45 := Kd.fix F45 5 [9, 45] sz45 (Kd.upto_E sub45)
theorem k45_open {w : World} {x : S45} {cs : List Value} (h : k45.K w x cs) : ∃ A3 c3 A4 c4, cs = [.int .i64 x.f0, .int .i64 x.f1, .string x.f2, .slice A3 x.f3.length c3, .slice A4 x.f4.length c4] ∧ x.f3.length ≤ c3 ∧ Kd.string.C w A3 x.f3.length x.f3 ∧ x.f4.length ≤ c4 ∧ k45.C w A4 x.f4.length x.f4 := by
 obtain ⟨n, h⟩ := h
 cases n with
 | zero => exact h.elim
 | succ n =>
  obtain ⟨_, _, rfl, rfl, ⟨_, _, rfl, rfl, ⟨_, _, rfl, rfl, ⟨_, _, rfl, ⟨A3, c3, rfl, l3, g3⟩, ⟨A4, c4, rfl, l4, g4⟩⟩⟩⟩⟩ := h
  exact ⟨A3, c3, A4, c4, rfl, l3, g3, l4, Kd.fix_C g4⟩
theorem k45_mkM (w : World) (base : Nat) (ok : Nat → Prop) (x : S45) {v3 : Value} (g3 : Kd.string.R 9 w base ok v3 x.f3) {v4 : Value} (g4 : k45.R 45 w base ok v4 x.f4) : k45.M w base ok x [.int .i64 x.f0, .int .i64 x.f1, .string x.f2, v3, v4] := by
 obtain ⟨n4, q4⟩ := Kd.fix_R_back mono45 g4
 have r4 := Kd.upto_R_le mono45 sz45 (show n4 ≤ n4 by omega) q4
 exact ⟨n4 + 1, ⟨[.int .i64 x.f0], [.int .i64 x.f1, .string x.f2, v3, v4], rfl, rfl, ⟨[.int .i64 x.f1], [.string x.f2, v3, v4], rfl, rfl, ⟨[.string x.f2], [v3, v4], rfl, rfl, ⟨[v3], [v4], rfl, ⟨v3, rfl, g3⟩, ⟨v4, rfl, r4⟩⟩⟩⟩⟩⟩
def rd_T45 (xs : List S45) (i : Int) : S45 := xs.getD i.toNat z45
theorem at_T45 {w : World} {A : Option Addr} {n : Nat} {xs : List S45} (h : Kd.C k45 w A n xs) (i : Int) (h0 : 0 ≤ i) (h1 : i < n) : ∃ ad A3 c3 A4 c4, A = some ad ∧ w.cell? (ad.add (i.toNat * 5)) = some (.int .i64 (rd_T45 xs i).f0) ∧ w.cell? ⟨(ad.add (i.toNat * 5)).block, (ad.add (i.toNat * 5)).off + 1, none⟩ = some (.int .i64 (rd_T45 xs i).f1) ∧ w.cell? ⟨(ad.add (i.toNat * 5)).block, (ad.add (i.toNat * 5)).off + 2, none⟩ = some (.string (rd_T45 xs i).f2) ∧ w.cell? ⟨(ad.add (i.toNat * 5)).block, (ad.add (i.toNat * 5)).off + 3, none⟩ = some (.slice A3 (rd_T45 xs i).f3.length c3) ∧ w.cell? ⟨(ad.add (i.toNat * 5)).block, (ad.add (i.toNat * 5)).off + 4, none⟩ = some (.slice A4 (rd_T45 xs i).f4.length c4) ∧ (rd_T45 xs i).f3.length ≤ c3 ∧ Kd.string.C w A3 (rd_T45 xs i).f3.length (rd_T45 xs i).f3 ∧ (rd_T45 xs i).f4.length ≤ c4 ∧ k45.C w A4 (rd_T45 xs i).f4.length (rd_T45 xs i).f4 := by
 obtain ⟨ad, c, e, _, hK, hc0⟩ := Kd.C_get h z45 i h0 h1
 have hc : ∀ j u, c[j]? = some u → w.cell? (ad.add (i.toNat * 5 + j)) = some u := hc0
 obtain ⟨A3, c3, A4, c4, rfl, l3, g3, l4, g4⟩ := k45_open hK
 exact ⟨ad, A3, c3, A4, c4, e, hc 0 _ rfl, by rw [← add_field _ _ 1 (by omega)]; exact hc 1 _ rfl, by rw [← add_field _ _ 2 (by omega)]; exact hc 2 _ rfl, by rw [← add_field _ _ 3 (by omega)]; exact hc 3 _ rfl, by rw [← add_field _ _ 4 (by omega)]; exact hc 4 _ rfl, l3, g3, l4, g4⟩
end Go.Proofs.YtaembebbaejfiaaGreatDoor.PS
namespace Go.Proofs.YtaembebbaejfiaaGreatDoor.PS
open Go.RowKit Go.Proofs.YtaembebbaejfiaaGreatDoorW.PrintWords Go.Proofs.YtaembebbaejfiaaGreatDoorW.PrintLast Go.Proofs.YtaembebbaejfiaaGreatDoorW.PrintMore
attribute [local go_sem] max2_int min2_int max_two min_two max_three min_three max_four min_four 
set_option linter.unusedVariables false
set_option linter.unusedSimpArgs false
end Go.Proofs.YtaembebbaejfiaaGreatDoor.PS
namespace Go.Proofs.YtaembebbaejfiaaGreatDoor.PS
open Go.RowKit Go.Proofs.YtaembebbaejfiaaGreatDoorW.PrintWords Go.Proofs.YtaembebbaejfiaaGreatDoorW.PrintLast Go.Proofs.YtaembebbaejfiaaGreatDoorW.PrintMore
attribute [local go_sem] max2_int min2_int max_two min_two max_three min_three max_four min_four 
set_option linter.unusedVariables false
set_option linter.unusedSimpArgs false
end Go.Proofs.YtaembebbaejfiaaGreatDoor.PS
namespace Go.Proofs.YtaembebbaejfiaaGreatDoor.PS
open Go.RowKit Go.Proofs.YtaembebbaejfiaaGreatDoorW.PrintWords Go.Proofs.YtaembebbaejfiaaGreatDoorW.PrintLast Go.Proofs.YtaembebbaejfiaaGreatDoorW.PrintMore
attribute [local go_sem] max2_int min2_int max_two min_two max_three min_three max_four min_four 
set_option linter.unusedVariables false
set_option linter.unusedSimpArgs false
end Go.Proofs.YtaembebbaejfiaaGreatDoor.PS
namespace Go.Proofs.YtaembebbaejfiaaGreatDoor.PS
open Go.RowKit Go.Proofs.YtaembebbaejfiaaGreatDoorW.PrintWords Go.Proofs.YtaembebbaejfiaaGreatDoorW.PrintLast Go.Proofs.YtaembebbaejfiaaGreatDoorW.PrintMore
attribute [local go_sem] max2_int min2_int max_two min_two max_three min_three max_four min_four 
set_option linter.unusedVariables false
set_option linter.unusedSimpArgs false
def spec_sayIn.l0 : Nat → ByteArray → List ByteArray → Int → Option (Bool)
 | 0, _, _, _ => none
 | k + 1, x0, x1, x5 => if x5 < (x1.length : Int) then (if 0 ≤ x5 then (if (rdOf ByteArray.empty x1 x5).toList = x0.toList then (some true) else (spec_sayIn.l0 k x0 x1 (wrap64 (x5 + 1)))) else (none)) else (some false)
def spec_sayIn.f (k : Nat) (a0 : ByteArray) (l1 : List ByteArray) : Option (Bool) := spec_sayIn.l0 k a0 l1 0
set_option maxHeartbeats 8000000 in
set_option maxRecDepth 100000 in
theorem spec_sayIn.calls (k : Nat) (a0 : ByteArray) (A1 : Option Addr) (c1 : Nat) (l1 : List ByteArray) (r : Bool) (w : World) (hr1 : Kd.C Kd.string w A1 l1.length l1) (hc1 : l1.length ≤ c1) (h : spec_sayIn.f k a0 l1 = some r) :
  Calls Tryz.prog 31 #[.string a0, .slice A1 l1.length c1] w fun e w' => e = .returned (.bool r) ∧ Drawn0 w w' := by
 have HR1 := aM hr1
 have HC1 := aM hc1
 clear hr1 hc1
 have H : (spec_sayIn.l0 k a0 l1 0) = some r := h
 clear h
 have H' := aM H
 clear H
 go_enter Tryz.func31, Tryz.ntmps31
 go_wp2
 go_loopg [5] k (fun kq v5 w' => ∃ (x5_1 : Int), v5 = .int .i64 x5_1 ∧ Aside0 (spec_sayIn.l0 kq a0 l1 x5_1 = some r) ∧ Aside0 (kq ≤ k) ∧ Drawn0 w w')
 case atStart => exact ⟨(0), (by first | rfl | (simp; done) | (simp [*]; done)), H', ⟨Nat.le_refl _⟩, by repeat (first | exact Drawn0.refl _ | apply Drawn0.step)⟩
 case round =>
  clear H'
  try clear c1
  try clear p2
  obtain ⟨x5_1, rfl, HA, HK1, ⟨m1, rfl⟩⟩ := hrel
  cases gk with
  | zero => exact absurd HA.out (by simp [spec_sayIn.l0])
  | succ k1 =>
   have H := HA.out
   clear HA
   simp only [spec_sayIn.l0] at H
   by_cases c3 : x5_1 < (l1.length : Int)
   ·rw [if_pos c3] at H
    have c3b0 : decide (x5_1 < (l1.length : Int)) = true := decide_eq_true c3
    clear c3
    by_cases c4 : 0 ≤ x5_1
    ·rw [if_pos c4] at H
     have c4b0 : decide (0 ≤ x5_1) = true := decide_eq_true c4
     clear c4
     by_cases c5 : (rdOf ByteArray.empty l1 x5_1).toList = a0.toList
     ·rw [if_pos c5] at H
      have c5b0 : ((rdOf ByteArray.empty l1 x5_1).toList == a0.toList) = true := beq_iff_eq.mpr c5
      have c5b1 : ((rdOf ByteArray.empty l1 x5_1).toList != a0.toList) = false := bne_eq_false_iff_eq.mpr c5
      clear c5
      obtain rfl := Option.some.inj H
      have p209 : 0 ≤ (x5_1 : Int) := of_decide_eq_true (by first | (with_reducible assumption) | assumption)
      have q209 : x5_1 < (l1.length : Int) := of_decide_eq_true (by first | (with_reducible assumption) | assumption)
      obtain ⟨ad209, e209, hx209_0⟩ := Kd.at_string HR1.out x5_1 p209 q209
      cases e209
      replace p209 := eq_true p209
      replace q209 := eq_true q209
      go_wp2
      go_ret
      exact ⟨by first | rfl | (simp; done) | (simp [*]; done), by repeat (first | exact Drawn0.refl _ | apply Drawn0.step)⟩
     ·rw [if_neg c5] at H
      have c5b0 : ((rdOf ByteArray.empty l1 x5_1).toList == a0.toList) = false := beq_eq_false_iff_ne.mpr c5
      have c5b1 : ((rdOf ByteArray.empty l1 x5_1).toList != a0.toList) = true := bne_iff_ne.mpr c5
      have H' := aM H
      clear H
      have p209 : 0 ≤ (x5_1 : Int) := of_decide_eq_true (by first | (with_reducible assumption) | assumption)
      have q209 : x5_1 < (l1.length : Int) := of_decide_eq_true (by first | (with_reducible assumption) | assumption)
      obtain ⟨ad209, e209, hx209_0⟩ := Kd.at_string HR1.out x5_1 p209 q209
      cases e209
      replace p209 := eq_true p209
      replace q209 := eq_true q209
      go_wp2
      go_roundg k1
      case measure => have := HK1.out; omega
      case rel => exact ⟨(wrap64 (x5_1 + 1)), (by first | rfl | (simp; done) | (simp [*]; done)), H', ⟨by have := HK1.out; omega⟩, by repeat (first | exact Drawn0.refl _ | apply Drawn0.step)⟩
    ·rw [if_neg c4] at H
     exact absurd H (by simp)
   ·rw [if_neg c3] at H
    have c3b0 : decide (x5_1 < (l1.length : Int)) = false := decide_eq_false c3
    clear c3
    obtain rfl := Option.some.inj H
    go_wp2
    go_ret
    exact ⟨by first | rfl | (simp; done) | (simp [*]; done), by repeat (first | exact Drawn0.refl _ | apply Drawn0.step)⟩
end Go.Proofs.YtaembebbaejfiaaGreatDoor.PS
namespace Go.Proofs.YtaembebbaejfiaaGreatDoor.PS
open Go.RowKit Go.Proofs.YtaembebbaejfiaaGreatDoorW.PrintWords Go.Proofs.YtaembebbaejfiaaGreatDoorW.PrintLast Go.Proofs.YtaembebbaejfiaaGreatDoorW.PrintMore
attribute [local go_sem] max2_int min2_int max_two min_two max_three min_three max_four min_four 
set_option linter.unusedVariables false
set_option linter.unusedSimpArgs false
def laws_zzFits2.l0 : Nat → List ByteArray → Int → Int → Option (Bool)
 | 0, _, _, _ => none
 | k + 1, x8, x9, x10 => if x10 < x9 then (if 0 ≤ x10 then (if x10 < (x8.length : Int) then (if ((rdOf ByteArray.empty x8 x10).size : Int) > 2147483647 then (some false) else (laws_zzFits2.l0 k x8 x9 (wrap64 (x10 + 1)))) else (none)) else (none)) else (some true)
def laws_zzFits2.f (k : Nat) (l0 : List ByteArray) : Option (Bool) := if (l0.length : Int) > 2147483647 then (some false) else (laws_zzFits2.l0 k l0 (l0.length : Int) 0)
set_option maxHeartbeats 8000000 in
set_option maxRecDepth 100000 in
theorem laws_zzFits2.calls (k : Nat) (A0 : Option Addr) (c0 : Nat) (l0 : List ByteArray) (r : Bool) (w : World) (hr0 : Kd.C Kd.string w A0 l0.length l0) (hc0 : l0.length ≤ c0) (h : laws_zzFits2.f k l0 = some r) :
  Calls Tryz.prog 14 #[.slice A0 l0.length c0] w fun e w' => e = .returned (.bool r) ∧ Drawn0 w w' := by
 have HR0 := aM hr0
 have HC0 := aM hc0
 clear hr0 hc0
 have H : (if (l0.length : Int) > 2147483647 then (some false) else (laws_zzFits2.l0 k l0 (l0.length : Int) 0)) = some r := h
 clear h
 by_cases c2 : (l0.length : Int) > 2147483647
 ·rw [if_pos c2] at H
  have c2b0 : decide (2147483647 < (l0.length : Int)) = true := decide_eq_true c2
  have c2b1 : decide (2147483647 < l0.length) = true := decide_eq_true (by omega)
  clear c2
  obtain rfl := Option.some.inj H
  go_enter Tryz.func14, Tryz.ntmps14
  go_wp2
  go_ret
  exact ⟨by first | rfl | (simp; done) | (simp [*]; done), by repeat (first | exact Drawn0.refl _ | apply Drawn0.step)⟩
 ·rw [if_neg c2] at H
  have c2b0 : decide (2147483647 < (l0.length : Int)) = false := decide_eq_false c2
  have c2b1 : decide (2147483647 < l0.length) = false := decide_eq_false (by omega)
  clear c2
  have H' := aM H
  clear H
  go_enter Tryz.func14, Tryz.ntmps14
  go_wp2
  go_loopg [10] k (fun kq v10 w' => ∃ (x10_1 : Int), v10 = .int .i64 x10_1 ∧ Aside0 (laws_zzFits2.l0 kq l0 (l0.length : Int) x10_1 = some r) ∧ Aside0 (kq ≤ k) ∧ Drawn0 w w')
  case atStart => exact ⟨(0), (by first | rfl | (simp; done) | (simp [*]; done)), H', ⟨Nat.le_refl _⟩, by repeat (first | exact Drawn0.refl _ | apply Drawn0.step)⟩
  case round =>
   clear H'
   try clear c1
   try clear c2
   try clear c2b0
   try clear c2b1
   try clear p2
   obtain ⟨x10_1, rfl, HA, HK1, ⟨m1, rfl⟩⟩ := hrel
   cases gk with
   | zero => exact absurd HA.out (by simp [laws_zzFits2.l0])
   | succ k1 =>
    have H := HA.out
    clear HA
    simp only [laws_zzFits2.l0] at H
    by_cases c3 : x10_1 < (l0.length : Int)
    ·rw [if_pos c3] at H
     have c3b0 : decide (x10_1 < (l0.length : Int)) = true := decide_eq_true c3
     clear c3
     by_cases c4 : 0 ≤ x10_1
     ·rw [if_pos c4] at H
      have c4b0 : decide (0 ≤ x10_1) = true := decide_eq_true c4
      clear c4
      by_cases c5 : x10_1 < (l0.length : Int)
      ·rw [if_pos c5] at H
       have c5b0 : decide (x10_1 < (l0.length : Int)) = true := decide_eq_true c5
       clear c5
       by_cases c6 : ((rdOf ByteArray.empty l0 x10_1).size : Int) > 2147483647
       ·rw [if_pos c6] at H
        have c6b0 : decide (2147483647 < ((rdOf ByteArray.empty l0 x10_1).size : Int)) = true := decide_eq_true c6
        have c6b1 : decide (2147483647 < (rdOf ByteArray.empty l0 x10_1).size) = true := decide_eq_true (by omega)
        clear c6
        obtain rfl := Option.some.inj H
        have p101 : 0 ≤ (x10_1 : Int) := of_decide_eq_true (by first | (with_reducible assumption) | assumption)
        have q101 : x10_1 < (l0.length : Int) := of_decide_eq_true (by first | (with_reducible assumption) | assumption)
        obtain ⟨ad101, e101, hx101_0⟩ := Kd.at_string HR0.out x10_1 p101 q101
        cases e101
        replace p101 := eq_true p101
        replace q101 := eq_true q101
        go_wp2
        go_ret
        exact ⟨by first | rfl | (simp; done) | (simp [*]; done), by repeat (first | exact Drawn0.refl _ | apply Drawn0.step)⟩
       ·rw [if_neg c6] at H
        have c6b0 : decide (2147483647 < ((rdOf ByteArray.empty l0 x10_1).size : Int)) = false := decide_eq_false c6
        have c6b1 : decide (2147483647 < (rdOf ByteArray.empty l0 x10_1).size) = false := decide_eq_false (by omega)
        clear c6
        have H' := aM H
        clear H
        have p101 : 0 ≤ (x10_1 : Int) := of_decide_eq_true (by first | (with_reducible assumption) | assumption)
        have q101 : x10_1 < (l0.length : Int) := of_decide_eq_true (by first | (with_reducible assumption) | assumption)
        obtain ⟨ad101, e101, hx101_0⟩ := Kd.at_string HR0.out x10_1 p101 q101
        cases e101
        replace p101 := eq_true p101
        replace q101 := eq_true q101
        go_wp2
        go_roundg k1
        case measure => have := HK1.out; omega
        case rel => exact ⟨(wrap64 (x10_1 + 1)), (by first | rfl | (simp; done) | (simp [*]; done)), H', ⟨by have := HK1.out; omega⟩, by repeat (first | exact Drawn0.refl _ | apply Drawn0.step)⟩
      ·rw [if_neg c5] at H
       exact absurd H (by simp)
     ·rw [if_neg c4] at H
      exact absurd H (by simp)
    ·rw [if_neg c3] at H
     have c3b0 : decide (x10_1 < (l0.length : Int)) = false := decide_eq_false c3
     clear c3
     obtain rfl := Option.some.inj H
     go_wp2
     go_ret
     exact ⟨by first | rfl | (simp; done) | (simp [*]; done), by repeat (first | exact Drawn0.refl _ | apply Drawn0.step)⟩
end Go.Proofs.YtaembebbaejfiaaGreatDoor.PS
namespace Go.Proofs.YtaembebbaejfiaaGreatDoor.PS
open Go.RowKit Go.Proofs.YtaembebbaejfiaaGreatDoorW.PrintWords Go.Proofs.YtaembebbaejfiaaGreatDoorW.PrintLast Go.Proofs.YtaembebbaejfiaaGreatDoorW.PrintMore
attribute [local go_sem] max2_int min2_int max_two min_two max_three min_three max_four min_four 
set_option linter.unusedVariables false
set_option linter.unusedSimpArgs false
def laws_zzFits1.f (k : Nat) (a0_0 : Int) (a0_1 : Int) (a0_2 : ByteArray) (l0_3 : List ByteArray) (l0_4 : List (S25)) : Option (Bool) := if (a0_2.size : Int) > 2147483647 then (some false) else ((laws_zzFits2.f k l0_3).bind fun t103 => (if t103 = true then (if (l0_4.length : Int) > 2147483647 then (some false) else (some true)) else (some false)))
set_option maxHeartbeats 8000000 in
set_option maxRecDepth 100000 in
theorem laws_zzFits1.calls (k : Nat) (a0_0 : Int) (a0_1 : Int) (a0_2 : ByteArray) (A0_3 : Option Addr) (c0_3 : Nat) (l0_3 : List ByteArray) (A0_4 : Option Addr) (c0_4 : Nat) (l0_4 : List (S25)) (r : Bool) (w : World) (hr0_3 : Kd.C Kd.string w A0_3 l0_3.length l0_3) (hc0_3 : l0_3.length ≤ c0_3) (hr0_4 : Kd.C k25 w A0_4 l0_4.length l0_4) (hc0_4 : l0_4.length ≤ c0_4) (h : laws_zzFits1.f k a0_0 a0_1 a0_2 l0_3 l0_4 = some r) :
  Calls Tryz.prog 5 #[.agg #[.int .i64 a0_0, .int .i64 a0_1, .string a0_2, .slice A0_3 l0_3.length c0_3, .slice A0_4 l0_4.length c0_4]] w fun e w' => e = .returned (.bool r) ∧ Below w.heap.size w w' := by
 have hu25 := Tryz.underlying25
 have HR0_3 := aM hr0_3
 have HC0_3 := aM hc0_3
 clear hr0_3 hc0_3
 have HR0_4 := aM hr0_4
 have HC0_4 := aM hc0_4
 clear hr0_4 hc0_4
 have HB := aM (Below.refl w.heap.size w)
 have H : (if (a0_2.size : Int) > 2147483647 then (some false) else ((laws_zzFits2.f k l0_3).bind fun t103 => (if t103 = true then (if (l0_4.length : Int) > 2147483647 then (some false) else (some true)) else (some false)))) = some r := h
 clear h
 by_cases c2 : (a0_2.size : Int) > 2147483647
 ·rw [if_pos c2] at H
  have c2b0 : decide (2147483647 < (a0_2.size : Int)) = true := decide_eq_true c2
  have c2b1 : decide (2147483647 < a0_2.size) = true := decide_eq_true (by omega)
  clear c2
  obtain rfl := Option.some.inj H
  go_enter Tryz.func5, Tryz.ntmps5
  go_wp2_with (first | ((with_reducible refine gate_dst (N := 1) rfl ?_); refine box_event ?hg (N := 1) ?hd (cs := #[.int .i64 a0_0, .int .i64 a0_1, .string a0_2, .slice A0_3 l0_3.length c0_3, .slice A0_4 l0_4.length c0_4]) (t := 25) ?hr ?_; (case hd => rfl); (case hg => rfl); (case hr => first | (go_simp; done) | (go_simp; rfl)); intro gb102 hg w3 hbox hb; have n0_ := aM (below_step (by repeat (first | (with_reducible first | exact HB.out | apply below_alloc | apply pw_below_drewN | apply below_drew1) | exact HB.out)) hb); have n1_ := aM (hbox); have n2_ := aM ((by rw [hg]; exact (below_size (by repeat (first | (with_reducible first | exact HB.out | apply below_alloc | apply pw_below_drewN | apply below_drew1) | exact HB.out))) : w.heap.size ≤ gb102)); have n3_ := aM ((by rw [hg]; exact (below_size (by repeat (first | (with_reducible first | exact HB.out | apply below_alloc | apply pw_below_drewN | apply below_drew1) | exact HB.out))) : w.heap.size ≤ gb102)); clear HB; have HB := n0_; have BK102 := n1_; have GW102 := n2_; have GE102 := n3_; clear n0_ n1_ n2_ n3_; clear hb hbox hg; have hcz4_0 : w3.cell? ⟨gb102, 0, none⟩ = some (.int .i64 a0_0) := (blk_cell BK102.out 0).trans rfl; have hcz4_1 : w3.cell? ⟨gb102, 1, none⟩ = some (.int .i64 a0_1) := (blk_cell BK102.out 1).trans rfl; have hcz4_2 : w3.cell? ⟨gb102, 2, none⟩ = some (.string a0_2) := (blk_cell BK102.out 2).trans rfl; have hcz4_3 : w3.cell? ⟨gb102, 3, none⟩ = some (.slice A0_3 l0_3.length c0_3) := (blk_cell BK102.out 3).trans rfl; have hcz4_4 : w3.cell? ⟨gb102, 4, none⟩ = some (.slice A0_4 l0_4.length c0_4) := (blk_cell BK102.out 4).trans rfl; have hfz4_0 := blk_frozen BK102.out 0; have hfz4_1 := blk_frozen BK102.out 1; have hfz4_2 := blk_frozen BK102.out 2; have hfz4_3 := blk_frozen BK102.out 3; have hfz4_4 := blk_frozen BK102.out 4))
  go_ret
  exact ⟨by first | rfl | (simp [errW_none, errW_some] <;> rfl) | (simp [*, errW_none, errW_some] <;> rfl), by repeat (first | (with_reducible first | exact HB.out | apply below_alloc | apply pw_below_drewN | apply below_drew1 | refine below_set ?_ GE102.out) | exact HB.out)⟩
 ·rw [if_neg c2] at H
  have c2b0 : decide (2147483647 < (a0_2.size : Int)) = false := decide_eq_false c2
  have c2b1 : decide (2147483647 < a0_2.size) = false := decide_eq_false (by omega)
  clear c2
  replace H := Option.bind_eq_some_iff.mp H
  obtain ⟨t103, A50, H⟩ := H
  replace H : (if t103 = true then (if (l0_4.length : Int) > 2147483647 then (some false) else (some true)) else (some false)) = some r := H
  have A5 := aM A50
  clear A50
  by_cases c6 : t103 = true
  ·subst c6
   have H1 : (if (l0_4.length : Int) > 2147483647 then (some false) else (some true)) = some r := by rw [if_pos rfl] at H; exact H
   clear H
   have H := H1
   clear H1
   by_cases c7 : (l0_4.length : Int) > 2147483647
   ·rw [if_pos c7] at H
    have c7b0 : decide (2147483647 < (l0_4.length : Int)) = true := decide_eq_true c7
    have c7b1 : decide (2147483647 < l0_4.length) = true := decide_eq_true (by omega)
    clear c7
    obtain rfl := Option.some.inj H
    go_enter Tryz.func5, Tryz.ntmps5
    go_wp2_with (first | ((with_reducible refine gate_dst (N := 1) rfl ?_); refine box_event ?hg (N := 1) ?hd (cs := #[.int .i64 a0_0, .int .i64 a0_1, .string a0_2, .slice A0_3 l0_3.length c0_3, .slice A0_4 l0_4.length c0_4]) (t := 25) ?hr ?_; (case hd => rfl); (case hg => rfl); (case hr => first | (go_simp; done) | (go_simp; rfl)); intro gb102 hg w8 hbox hb; have n0_ := aM (below_step (by repeat (first | (with_reducible first | exact HB.out | apply below_alloc | apply pw_below_drewN | apply below_drew1) | exact HB.out)) hb); have n1_ := aM (hbox); have n2_ := aM ((by rw [hg]; exact (below_size (by repeat (first | (with_reducible first | exact HB.out | apply below_alloc | apply pw_below_drewN | apply below_drew1) | exact HB.out))) : w.heap.size ≤ gb102)); have n3_ := aM ((by rw [hg]; exact (below_size (by repeat (first | (with_reducible first | exact HB.out | apply below_alloc | apply pw_below_drewN | apply below_drew1) | exact HB.out))) : w.heap.size ≤ gb102)); clear HB; have HB := n0_; have BK102 := n1_; have GW102 := n2_; have GE102 := n3_; clear n0_ n1_ n2_ n3_; clear hb hbox hg; have hcz9_0 : w8.cell? ⟨gb102, 0, none⟩ = some (.int .i64 a0_0) := (blk_cell BK102.out 0).trans rfl; have hcz9_1 : w8.cell? ⟨gb102, 1, none⟩ = some (.int .i64 a0_1) := (blk_cell BK102.out 1).trans rfl; have hcz9_2 : w8.cell? ⟨gb102, 2, none⟩ = some (.string a0_2) := (blk_cell BK102.out 2).trans rfl; have hcz9_3 : w8.cell? ⟨gb102, 3, none⟩ = some (.slice A0_3 l0_3.length c0_3) := (blk_cell BK102.out 3).trans rfl; have hcz9_4 : w8.cell? ⟨gb102, 4, none⟩ = some (.slice A0_4 l0_4.length c0_4) := (blk_cell BK102.out 4).trans rfl; have hfz9_0 := blk_frozen BK102.out 0; have hfz9_1 := blk_frozen BK102.out 1; have hfz9_2 := blk_frozen BK102.out 2; have hfz9_3 := blk_frozen BK102.out 3; have hfz9_4 := blk_frozen BK102.out 4) | ((with_reducible refine gate_callee (f := 14) rfl ?_); refine goesL_ (some 9) rfl rfl Tryz.func14 (by kernel_rfl) rfl #[.slice A0_3 l0_3.length c0_3] rfl (by (try simp only [List.map_toArray, List.map_cons, List.map_nil]); first | done | rfl | (simp only [List.length_drop, List.length_take]; rfl)) ?_; (with_reducible refine (laws_zzFits2.calls k _ _ l0_3 true _ ?side1 ?side2 A5.out).mono ?_); (case side1 => repeat (first | exact (Kd.C_below HR0_3.out HB.out) | (with_reducible refine Kd.C_alloc ?_ _) | (with_reducible refine Kd.C_drewN ?_ _) | (with_reducible refine Kd.C_drew ?_))); (case side2 => exact HC0_3.out); rintro e w' ⟨rfl, ⟨nd, rfl⟩⟩; refine ⟨_, rfl, ?_⟩))
    go_ret
    exact ⟨by first | rfl | (simp [errW_none, errW_some] <;> rfl) | (simp [*, errW_none, errW_some] <;> rfl), by repeat (first | (with_reducible first | exact HB.out | apply below_alloc | apply pw_below_drewN | apply below_drew1 | refine below_set ?_ GE102.out) | exact HB.out)⟩
   ·rw [if_neg c7] at H
    have c7b0 : decide (2147483647 < (l0_4.length : Int)) = false := decide_eq_false c7
    have c7b1 : decide (2147483647 < l0_4.length) = false := decide_eq_false (by omega)
    clear c7
    obtain rfl := Option.some.inj H
    go_enter Tryz.func5, Tryz.ntmps5
    go_wp2_with (first | ((with_reducible refine gate_dst (N := 1) rfl ?_); refine box_event ?hg (N := 1) ?hd (cs := #[.int .i64 a0_0, .int .i64 a0_1, .string a0_2, .slice A0_3 l0_3.length c0_3, .slice A0_4 l0_4.length c0_4]) (t := 25) ?hr ?_; (case hd => rfl); (case hg => rfl); (case hr => first | (go_simp; done) | (go_simp; rfl)); intro gb102 hg w10 hbox hb; have n0_ := aM (below_step (by repeat (first | (with_reducible first | exact HB.out | apply below_alloc | apply pw_below_drewN | apply below_drew1) | exact HB.out)) hb); have n1_ := aM (hbox); have n2_ := aM ((by rw [hg]; exact (below_size (by repeat (first | (with_reducible first | exact HB.out | apply below_alloc | apply pw_below_drewN | apply below_drew1) | exact HB.out))) : w.heap.size ≤ gb102)); have n3_ := aM ((by rw [hg]; exact (below_size (by repeat (first | (with_reducible first | exact HB.out | apply below_alloc | apply pw_below_drewN | apply below_drew1) | exact HB.out))) : w.heap.size ≤ gb102)); clear HB; have HB := n0_; have BK102 := n1_; have GW102 := n2_; have GE102 := n3_; clear n0_ n1_ n2_ n3_; clear hb hbox hg; have hcz11_0 : w10.cell? ⟨gb102, 0, none⟩ = some (.int .i64 a0_0) := (blk_cell BK102.out 0).trans rfl; have hcz11_1 : w10.cell? ⟨gb102, 1, none⟩ = some (.int .i64 a0_1) := (blk_cell BK102.out 1).trans rfl; have hcz11_2 : w10.cell? ⟨gb102, 2, none⟩ = some (.string a0_2) := (blk_cell BK102.out 2).trans rfl; have hcz11_3 : w10.cell? ⟨gb102, 3, none⟩ = some (.slice A0_3 l0_3.length c0_3) := (blk_cell BK102.out 3).trans rfl; have hcz11_4 : w10.cell? ⟨gb102, 4, none⟩ = some (.slice A0_4 l0_4.length c0_4) := (blk_cell BK102.out 4).trans rfl; have hfz11_0 := blk_frozen BK102.out 0; have hfz11_1 := blk_frozen BK102.out 1; have hfz11_2 := blk_frozen BK102.out 2; have hfz11_3 := blk_frozen BK102.out 3; have hfz11_4 := blk_frozen BK102.out 4) | ((with_reducible refine gate_callee (f := 14) rfl ?_); refine goesL_ (some 9) rfl rfl Tryz.func14 (by kernel_rfl) rfl #[.slice A0_3 l0_3.length c0_3] rfl (by (try simp only [List.map_toArray, List.map_cons, List.map_nil]); first | done | rfl | (simp only [List.length_drop, List.length_take]; rfl)) ?_; (with_reducible refine (laws_zzFits2.calls k _ _ l0_3 true _ ?side1 ?side2 A5.out).mono ?_); (case side1 => repeat (first | exact (Kd.C_below HR0_3.out HB.out) | (with_reducible refine Kd.C_alloc ?_ _) | (with_reducible refine Kd.C_drewN ?_ _) | (with_reducible refine Kd.C_drew ?_))); (case side2 => exact HC0_3.out); rintro e w' ⟨rfl, ⟨nd, rfl⟩⟩; refine ⟨_, rfl, ?_⟩))
    go_ret
    exact ⟨by first | rfl | (simp [errW_none, errW_some] <;> rfl) | (simp [*, errW_none, errW_some] <;> rfl), by repeat (first | (with_reducible first | exact HB.out | apply below_alloc | apply pw_below_drewN | apply below_drew1 | refine below_set ?_ GE102.out) | exact HB.out)⟩
  ·replace c6 := Bool.eq_false_iff.mpr c6
   subst c6
   have H1 : (some false) = some r := by rw [if_neg (show ¬ (false = true) by decide)] at H; exact H
   clear H
   have H := H1
   clear H1
   obtain rfl := Option.some.inj H
   go_enter Tryz.func5, Tryz.ntmps5
   go_wp2_with (first | ((with_reducible refine gate_dst (N := 1) rfl ?_); refine box_event ?hg (N := 1) ?hd (cs := #[.int .i64 a0_0, .int .i64 a0_1, .string a0_2, .slice A0_3 l0_3.length c0_3, .slice A0_4 l0_4.length c0_4]) (t := 25) ?hr ?_; (case hd => rfl); (case hg => rfl); (case hr => first | (go_simp; done) | (go_simp; rfl)); intro gb102 hg w12 hbox hb; have n0_ := aM (below_step (by repeat (first | (with_reducible first | exact HB.out | apply below_alloc | apply pw_below_drewN | apply below_drew1) | exact HB.out)) hb); have n1_ := aM (hbox); have n2_ := aM ((by rw [hg]; exact (below_size (by repeat (first | (with_reducible first | exact HB.out | apply below_alloc | apply pw_below_drewN | apply below_drew1) | exact HB.out))) : w.heap.size ≤ gb102)); have n3_ := aM ((by rw [hg]; exact (below_size (by repeat (first | (with_reducible first | exact HB.out | apply below_alloc | apply pw_below_drewN | apply below_drew1) | exact HB.out))) : w.heap.size ≤ gb102)); clear HB; have HB := n0_; have BK102 := n1_; have GW102 := n2_; have GE102 := n3_; clear n0_ n1_ n2_ n3_; clear hb hbox hg; have hcz13_0 : w12.cell? ⟨gb102, 0, none⟩ = some (.int .i64 a0_0) := (blk_cell BK102.out 0).trans rfl; have hcz13_1 : w12.cell? ⟨gb102, 1, none⟩ = some (.int .i64 a0_1) := (blk_cell BK102.out 1).trans rfl; have hcz13_2 : w12.cell? ⟨gb102, 2, none⟩ = some (.string a0_2) := (blk_cell BK102.out 2).trans rfl; have hcz13_3 : w12.cell? ⟨gb102, 3, none⟩ = some (.slice A0_3 l0_3.length c0_3) := (blk_cell BK102.out 3).trans rfl; have hcz13_4 : w12.cell? ⟨gb102, 4, none⟩ = some (.slice A0_4 l0_4.length c0_4) := (blk_cell BK102.out 4).trans rfl; have hfz13_0 := blk_frozen BK102.out 0; have hfz13_1 := blk_frozen BK102.out 1; have hfz13_2 := blk_frozen BK102.out 2; have hfz13_3 := blk_frozen BK102.out 3; have hfz13_4 := blk_frozen BK102.out 4) | ((with_reducible refine gate_callee (f := 14) rfl ?_); refine goesL_ (some 9) rfl rfl Tryz.func14 (by kernel_rfl) rfl #[.slice A0_3 l0_3.length c0_3] rfl (by (try simp only [List.map_toArray, List.map_cons, List.map_nil]); first | done | rfl | (simp only [List.length_drop, List.length_take]; rfl)) ?_; (with_reducible refine (laws_zzFits2.calls k _ _ l0_3 false _ ?side1 ?side2 A5.out).mono ?_); (case side1 => repeat (first | exact (Kd.C_below HR0_3.out HB.out) | (with_reducible refine Kd.C_alloc ?_ _) | (with_reducible refine Kd.C_drewN ?_ _) | (with_reducible refine Kd.C_drew ?_))); (case side2 => exact HC0_3.out); rintro e w' ⟨rfl, ⟨nd, rfl⟩⟩; refine ⟨_, rfl, ?_⟩))
   go_ret
   exact ⟨by first | rfl | (simp [errW_none, errW_some] <;> rfl) | (simp [*, errW_none, errW_some] <;> rfl), by repeat (first | (with_reducible first | exact HB.out | apply below_alloc | apply pw_below_drewN | apply below_drew1 | refine below_set ?_ GE102.out) | exact HB.out)⟩
end Go.Proofs.YtaembebbaejfiaaGreatDoor.PS
namespace Go.Proofs.YtaembebbaejfiaaGreatDoor.Str
open Go.RowKit Go.Proofs.YtaembebbaejfiaaGreatDoorW.PrintWords
abbrev Bs := List UInt8
abbrev lb (s : ByteArray) : Bs := s.data.toList
theorem lb_length (s : ByteArray) : (lb s).length = s.size := by rw [Array.length_toList]; rfl
theorem lb_inj {s t : ByteArray} (h : lb s = lb t) : s = t := by
 cases s; cases t
 simp only [lb] at h
 rw [Array.toList_inj.1 h]
theorem lb_extract (s : ByteArray) (a b : Nat) : lb (s.extract a b) = ((lb s).take b).drop a := by
 simp [lb, List.extract_eq_drop_take', ByteArray.data_extract]
theorem lb_mk (l : Bs) : lb ⟨l.toArray⟩ = l := by simp [lb]
theorem mk_lb (s : ByteArray) : (⟨(lb s).toArray⟩ : ByteArray) = s := by simp [lb]
theorem toList_lb (s : ByteArray) : s.toList = lb s := ByteArray.toList_eq s
theorem w64 {i : Int} (h0 : -4611686018427387904 ≤ i) (h1 : i ≤ 4611686018427387904) : wrap64 i = i := by
 unfold wrap64; omega
def find (sub : Bs) : Bs → Option Nat
 | [] => if sub = [] then some 0 else none
 | c :: t => if sub.isPrefixOf (c :: t) then some 0 else (find sub t).map (· + 1)
def findI (sub s : Bs) : Int := match find sub s with
 | some i => (i : Int)
 | none => -1
theorem find_short (sub : Bs) : ∀ (s : Bs), s.length < sub.length → find sub s = none
 | [], h => by
  have : sub ≠ [] := by rintro rfl; simp at h
  simp [find, this]
 | c :: t, h => by
  have h1 : sub.isPrefixOf (c :: t) = false := by
   rw [Bool.eq_false_iff]
   intro hp
   have := (List.isPrefixOf_iff_prefix.1 hp).length_le
   omega
  simp only [List.length_cons] at h
  rw [find, h1, find_short sub t (by omega)]
  simp
theorem find_eq (sub s : Bs) : find sub s = if sub.isPrefixOf s then some 0 else match s with
 | [] => none
 | _ :: t => (find sub t).map (· + 1) := by
 cases s with
 | nil =>
  cases sub with
  | nil => simp [find]
  | cons a b => simp [find]
 | cons c t => rw [find]
theorem prefix_iff (sub s : Bs) : sub.isPrefixOf s = true ↔ sub.length ≤ s.length ∧ s.take sub.length = sub := by
 rw [List.isPrefixOf_iff_prefix]
 constructor
 ·intro h
  exact ⟨h.length_le, (List.prefix_iff_eq_take.1 h).symm⟩
 ·intro ⟨_, h⟩
  exact List.prefix_iff_eq_take.2 h.symm
theorem find_some {sub s : Bs} {i : Nat} (h : find sub s = some i) : i + sub.length ≤ s.length ∧ (s.drop i).take sub.length = sub := by
 induction s generalizing i with
 | nil =>
  by_cases e : sub = []
  ·simp [find, e] at h
   subst h e
   simp
  ·simp [find, e] at h
 | cons c t ih =>
  rw [find] at h
  by_cases hp : sub.isPrefixOf (c :: t) = true
  ·rw [if_pos hp] at h
   simp at h
   subst h
   obtain ⟨h1, h2⟩ := (prefix_iff _ _).1 hp
   exact ⟨by omega, by simpa using h2⟩
  ·rw [if_neg hp] at h
   obtain ⟨j, hj, rfl⟩ := Option.map_eq_some_iff.1 h
   obtain ⟨h1, h2⟩ := ih hj
   exact ⟨by simp; omega, by simpa using h2⟩
theorem find_one (c : UInt8) : ∀ s : Bs, find [c] s = s.findIdx? (· == c)
 | [] => by simp [find]
 | x :: t => by
  rw [find, find_one c t, List.findIdx?_cons]
  by_cases h : x = c
  ·subst h; simp [List.isPrefixOf]
  ·have h' : ¬ c = x := fun e => h e.symm
   simp [List.isPrefixOf, h, h']
def split (c : UInt8) : Bs → List Bs
 | [] => [[]]
 | x :: t => if x = c then [] :: split c t else match split c t with
  | [] => [[x]]
  | h :: r => (x :: h) :: r
theorem split_none {c : UInt8} {s : Bs} (h : find [c] s = none) : split c s = [s] := by
 induction s with
 | nil => rfl
 | cons x t ih =>
  rw [find_one, List.findIdx?_cons] at h
  by_cases e : x = c
  ·subst e; simp at h
  ·simp [e] at h
   have := ih (by rw [find_one]; simpa using h)
   rw [split, if_neg e, this]
theorem split_some {c : UInt8} {s : Bs} {i : Nat} (h : find [c] s = some i) : split c s = s.take i :: split c (s.drop (i + 1)) := by
 induction s generalizing i with
 | nil => simp [find] at h
 | cons x t ih =>
  rw [find_one, List.findIdx?_cons] at h
  by_cases e : x = c
  ·subst e
   simp at h
   subst h
   simp [split]
  ·simp [e] at h
   obtain ⟨j, hj, rfl⟩ := h
   have := ih (i := j) (by rw [find_one]; exact hj)
   rw [split, if_neg e, this]
   simp
theorem split_length (c : UInt8) : ∀ s : Bs, (split c s).length ≤ s.length + 1
 | [] => by simp [split]
 | x :: t => by
  have ih := split_length c t
  rw [split]
  split
  ·simp; omega
  ·split
   ·simp
   ·rename_i h r he; rw [he] at ih; simp at ih ⊢; omega
end Go.Proofs.YtaembebbaejfiaaGreatDoor.Str
namespace Go.Proofs.YtaembebbaejfiaaGreatDoor.Str
open Go.RowKit Go.Proofs.YtaembebbaejfiaaGreatDoorW.PrintWords
def At (sub s : Bs) (j : Nat) : Prop := j ≤ s.length ∧ find sub s = (find sub (s.drop j)).map (· + j)
theorem At.start (sub s : Bs) : At sub s 0 := ⟨by omega, by simp⟩
theorem At.hit {sub s : Bs} {j : Nat} (h : At sub s j) (hm : j + sub.length ≤ s.length) (e : (s.drop j).take sub.length = sub) : findI sub s = j := by
 have hp : sub.isPrefixOf (s.drop j) = true := (prefix_iff _ _).2 ⟨by rw [List.length_drop]; omega, e⟩
 have h2 := h.2
 rw [find_eq sub (s.drop j), if_pos hp] at h2
 simp [findI, h2]
theorem At.next {sub s : Bs} {j : Nat} (h : At sub s j) (hm : j + sub.length ≤ s.length) (e : ¬ (s.drop j).take sub.length = sub) : At sub s (j + 1) := by
 have hp : ¬ sub.isPrefixOf (s.drop j) = true := fun hp => e ((prefix_iff _ _).1 hp).2
 have hlt : j < s.length := by
  rcases Nat.lt_or_ge j s.length with h' | h'
  ·exact h'
  ·exfalso
   apply e
   have : sub = [] := List.eq_nil_of_length_eq_zero (by omega)
   simp [this]
 refine ⟨hlt, ?_⟩
 have h2 := h.2
 rw [find_eq sub (s.drop j), if_neg hp, List.drop_eq_getElem_cons hlt] at h2
 rw [h2]
 simp only [Option.map_map]
 congr 1
 funext x
 simp
 omega
theorem At.miss {sub s : Bs} {j : Nat} (h : At sub s j) (hm : s.length < j + sub.length) : findI sub s = -1 := by
 have h2 := h.2
 rw [find_short sub (s.drop j) (by rw [List.length_drop]; have := h.1; omega)] at h2
 simp [findI, h2]
theorem lb_piece (s : ByteArray) (j m : Nat) : lb (s.extract j (j + m)) = ((lb s).drop j).take m := by
 rw [lb_extract, List.drop_take]
 congr 1
 omega
end Go.Proofs.YtaembebbaejfiaaGreatDoor.Str
namespace Go.Proofs.YtaembebbaejfiaaGreatDoor.MapV
open Go.RowKit Go.Proofs.YtaembebbaejfiaaGreatDoorW.PrintWords Go.Proofs.YtaembebbaejfiaaGreatDoor.Str Go.Maps
open Go.WideElems (Fit rd rg pl rd_val rd_key)
set_option linter.unusedVariables false
set_option linter.unusedSimpArgs false
section
variable {α β : Type}
def mget (f : List (Bs × α)) (k : Bs) : Option α := (f.find? fun p => p.1 == k).map (·.2)
def mins (x : Bs × α) : List (Bs × α) → List (Bs × α)
 | [] => [x]
 | y :: r => if x.1 < y.1 then x :: y :: r else y :: mins x r
def mdel (f : List (Bs × α)) (k : Bs) : List (Bs × α) := f.filter fun p => !(p.1 == k)
def mput (f : List (Bs × α)) (k : Bs) (v : α) : List (Bs × α) := mins (k, v) (mdel f k)
def Rises (f : List (Bs × α)) : Prop := f.Pairwise fun p q => p.1 < q.1
theorem lt_irrefl (a : Bs) : ¬ a < a := List.lt_irrefl a
theorem lt_trans {a b c : Bs} (h : a < b) (k : b < c) : a < c := List.lt_trans h k
theorem lt_total (a b : Bs) : a < b ∨ a = b ∨ b < a := by
 by_cases h : a < b
 ·exact .inl h
 ·by_cases k : b < a
  ·exact .inr (.inr k)
  ·exact .inr (.inl (List.le_antisymm k h))
theorem lt_ne {a b : Bs} (h : a < b) : a ≠ b := fun e => lt_irrefl a (by rw [← e] at h; exact h)
theorem mins_mem {x p : Bs × α} : ∀ {f : List (Bs × α)}, p ∈ mins x f ↔ p = x ∨ p ∈ f
 | [] => by simp [mins]
 | y :: r => by
  rw [mins]
  split
  ·simp
  ·rw [List.mem_cons, mins_mem, List.mem_cons]
   constructor
   ·rintro (h | h | h)
    ·exact .inr (.inl h)
    ·exact .inl h
    ·exact .inr (.inr h)
   ·rintro (h | h | h)
    ·exact .inr (.inl h)
    ·exact .inl h
    ·exact .inr (.inr h)
theorem mins_length (x : Bs × α) : ∀ f : List (Bs × α), (mins x f).length = f.length + 1
 | [] => rfl
 | y :: r => by
  rw [mins]
  split
  ·rfl
  ·simp [mins_length x r]
theorem mput_length (f : List (Bs × α)) (k : Bs) (v : α) : (mput f k v).length ≤ f.length + 1 := by
 rw [mput, mins_length]
 have := List.length_filter_le (fun p : Bs × α => !(p.1 == k)) f
 unfold mdel
 omega
theorem mins_rises {x : Bs × α} : ∀ {f : List (Bs × α)}, Rises f → (∀ p ∈ f, p.1 ≠ x.1) → Rises (mins x f)
 | [], _, _ => by simp [mins, Rises]
 | y :: r, h, hn => by
  obtain ⟨h1, h2⟩ := List.pairwise_cons.1 h
  rw [mins]
  split
  ·rename_i hb
   refine List.pairwise_cons.2 ⟨fun q hq => ?_, h⟩
   rcases List.mem_cons.1 hq with rfl | hq
   ·exact hb
   ·exact lt_trans hb (h1 q hq)
  ·rename_i hb
   refine List.pairwise_cons.2 ⟨fun q hq => ?_, mins_rises h2 (fun p hp => hn p (by simp [hp]))⟩
   rcases mins_mem.1 hq with rfl | hq
   ·rcases lt_total y.1 q.1 with e | e | e
    ·exact e
    ·exact absurd e (hn y (by simp))
    ·exact absurd e hb
   ·exact h1 q hq
theorem mdel_rises {f : List (Bs × α)} (h : Rises f) (k : Bs) : Rises (mdel f k) := h.filter _
theorem mput_rises {f : List (Bs × α)} (h : Rises f) (k : Bs) (v : α) : Rises (mput f k v) :=
 mins_rises (mdel_rises h k) (fun p hp => by
  have := (List.mem_filter.1 hp).2
  simpa using this)
theorem mget_mins_same {f : List (Bs × α)} {k : Bs} {v : α} : (∀ p ∈ f, p.1 ≠ k) → mget (mins (k, v) f) k = some v := by
 induction f with
 | nil => intro _; simp [mins, mget]
 | cons y r ih =>
  intro h
  rw [mins]
  split
  ·simp [mget]
  ·have hy : (y.1 == k) = false := by simpa using h y (by simp)
   have := ih (fun p hp => h p (by simp [hp]))
   unfold mget at this ⊢
   rw [List.find?_cons, hy]
   exact this
theorem mget_mins_other {f : List (Bs × α)} {k k' : Bs} {v : α} (hk : k ≠ k') : mget (mins (k, v) f) k' = mget f k' := by
 have hkk : (k == k') = false := by simpa using hk
 induction f with
 | nil => simp [mins, mget, hk]
 | cons y r ih =>
  rw [mins]
  split
  ·unfold mget; rw [List.find?_cons]; simp only [hkk]
  ·unfold mget at ih ⊢
   rw [List.find?_cons, List.find?_cons]
   cases y.1 == k'
   ·exact ih
   ·rfl
theorem mget_mdel_other {f : List (Bs × α)} {k k' : Bs} (hk : k ≠ k') : mget (mdel f k) k' = mget f k' := by
 unfold mget mdel
 induction f with
 | nil => rfl
 | cons y r ih =>
  by_cases e : y.1 = k
  ·have h1 : (y.1 == k) = true := by simpa using e
   have h2 : (y.1 == k') = false := by rw [e]; simpa using hk
   rw [List.filter_cons, h1, List.find?_cons, h2]
   simpa using ih
  ·have h1 : (y.1 == k) = false := by simpa using e
   rw [List.filter_cons, h1]
   simp only [Bool.not_false, if_true, List.find?_cons]
   cases y.1 == k'
   ·exact ih
   ·rfl
theorem mget_mput (f : List (Bs × α)) (k k' : Bs) (v : α) : mget (mput f k v) k' = if k = k' then some v else mget f k' := by
 unfold mput
 by_cases h : k = k'
 ·subst h
  rw [if_pos rfl]
  exact mget_mins_same (fun p hp => by have := (List.mem_filter.1 hp).2; simpa using this)
 ·rw [if_neg h, mget_mins_other h, mget_mdel_other h]
theorem mget_some {f : List (Bs × α)} {k : Bs} {v : α} (h : mget f k = some v) : (k, v) ∈ f := by
 unfold mget at h
 obtain ⟨p, hp, rfl⟩ := Option.map_eq_some_iff.1 h
 have h1 := List.find?_some hp
 have h2 := List.mem_of_find?_eq_some hp
 have : p.1 = k := by simpa using h1
 subst this
 exact h2
theorem mget_none {f : List (Bs × α)} {k : Bs} (h : mget f k = none) : ∀ p ∈ f, p.1 ≠ k := by
 intro p hp
 have h1 : f.find? (fun p => p.1 == k) = none := by simpa [mget] using h
 simpa using List.find?_eq_none.1 h1 p hp
theorem mget_of_mem {f : List (Bs × α)} (hr : Rises f) {k : Bs} {v : α} (h : (k, v) ∈ f) : mget f k = some v := by
 induction f with
 | nil => simp at h
 | cons y r ih =>
  obtain ⟨h1, h2⟩ := List.pairwise_cons.1 hr
  rcases List.mem_cons.1 h with h | h
  ·subst h; simp [mget]
  ·have hy : (y.1 == k) = false := by simpa using lt_ne (h1 _ h)
   unfold mget at ih ⊢
   rw [List.find?_cons, hy]
   exact ih h2 h
theorem rises_ext : ∀ {f g : List (Bs × α)}, Rises f → Rises g → (∀ k, mget f k = mget g k) → f = g := by
 have key : ∀ {f g : List (Bs × α)}, Rises f → Rises g → (∀ k, mget f k = mget g k) → ∀ p ∈ f, p ∈ g := by
  intro f g hf hg h p hp
  have := mget_of_mem hf (k := p.1) (v := p.2) hp
  rw [h] at this
  exact mget_some this
 intro f
 induction f with
 | nil =>
  intro g hf hg h
  cases g with
  | nil => rfl
  | cons y r =>
   have := key hg hf (fun k => (h k).symm) y (by simp)
   simp at this
 | cons x f ih =>
  intro g hf hg h
  cases g with
  | nil =>
   have := key hf hg h x (by simp)
   simp at this
  | cons y g =>
   obtain ⟨x1, x2⟩ := List.pairwise_cons.1 hf
   obtain ⟨y1, y2⟩ := List.pairwise_cons.1 hg
   have hxy : x = y := by
    have a := key hf hg h x (by simp)
    have b := key hg hf (fun k => (h k).symm) y (by simp)
    rcases List.mem_cons.1 a with a | a
    ·exact a
    ·rcases List.mem_cons.1 b with b | b
     ·exact b.symm
     ·exact absurd (lt_trans (x1 _ b) (y1 _ a)) (lt_irrefl _)
   subst hxy
   refine congrArg _ (ih x2 y2 (fun k => ?_))
   have hk := h k
   unfold mget at hk ⊢
   rw [List.find?_cons, List.find?_cons] at hk
   by_cases e : x.1 = k
   ·have n1 : f.find? (fun p => p.1 == k) = none := List.find?_eq_none.2 (fun p hp => by simpa [← e] using (lt_ne (x1 p hp)).symm)
    have n2 : g.find? (fun p => p.1 == k) = none := List.find?_eq_none.2 (fun p hp => by simpa [← e] using (lt_ne (y1 p hp)).symm)
    rw [n1, n2]
   ·have : (x.1 == k) = false := by simpa using e
    rw [this] at hk
    exact hk
theorem rises_take {f : List (Bs × α)} (hf : f.Pairwise fun p q => p.1 ≠ q.1) {k : Bs} {v : α} (h : (k, v) ∈ f) : f.Perm ((k, v) :: mdel f k) := by
 induction f with
 | nil => simp at h
 | cons y r ih =>
  obtain ⟨h1, h2⟩ := List.pairwise_cons.1 hf
  rcases List.mem_cons.1 h with h | h
  ·subst h
   have : mdel ((k, v) :: r) k = r := by
    unfold mdel
    rw [List.filter_cons]
    simp only [beq_self_eq_true, Bool.not_true]
    exact List.filter_eq_self.2 (fun p hp => by simpa using (h1 p hp).symm)
   rw [this]
  ·have hy : (y.1 == k) = false := by simpa using h1 _ h
   have : mdel (y :: r) k = y :: mdel r k := by
    unfold mdel
    rw [List.filter_cons, hy]
    rfl
   rw [this]
   exact ((ih h2 h).cons y).trans (List.Perm.swap _ _ _)
theorem mins_map (g : α → β) (x : Bs × α) : ∀ f : List (Bs × α), mins (x.1, g x.2) (f.map fun p => (p.1, g p.2)) = (mins x f).map fun p => (p.1, g p.2)
 | [] => rfl
 | y :: r => by
  rw [List.map_cons, mins, mins]
  split
  ·rfl
  ·rw [mins_map g x r]; rfl
theorem mput_map (g : α → β) (f : List (Bs × α)) (k : Bs) (v : α) : mput (f.map fun p => (p.1, g p.2)) k (g v) = (mput f k v).map fun p => (p.1, g p.2) := by
 unfold mput
 rw [← mins_map g (k, v)]
 refine congrArg _ ?_
 unfold mdel
 rw [List.filter_map]
 rfl
end
theorem before_lt : ∀ a b : Bs, bytesBefore a b = decide (a < b)
 | [], [] => by decide
 | [], _ :: _ => by simp [bytesBefore]
 | _ :: _, [] => by simp [bytesBefore]
 | a :: r, b :: s => by
  rw [bytesBefore, before_lt r s]
  have : (a :: r < b :: s) ↔ a < b ∨ (a = b ∧ r < s) := List.cons_lt_cons_iff
  by_cases h1 : a < b
  ·simp [this, h1]
  ·by_cases h2 : a = b
   ·simp [this, h1, h2]
   ·simp [this, h1, h2]
def heldR (v : Value) : Option (DataW Value × List MemPlace) := some (.held v, [])
section
variable {α : Type} (enc : α → Value)
def ent (p : Bs × α) : Lit × DataW Value := (.string p.1, .held (enc p.2))
theorem ent_put (f : List (Bs × α)) (k : Bs) (v : α) : (DataW.map (f.map (ent enc))).put (.string k) (.held (enc v)) = .map ((mput f k v).map (ent enc)) := by
 have ins : ∀ g : List (Bs × α), DataW.insert (Lit.string k, DataW.held (enc v)) (g.map (ent enc)) = (mins (k, v) g).map (ent enc) := by
  intro g
  induction g with
  | nil => rfl
  | cons y r ih =>
   rw [List.map_cons, DataW.insert, mins]
   have : (Lit.string k).before (ent enc y).1 = decide (k < y.1) := before_lt k y.1
   rw [this]
   by_cases h : k < y.1
   ·simp [h, ent]
   ·simp [h, ih]
 unfold DataW.put mput
 rw [← ins]
 refine congrArg (fun x => DataW.map (DataW.insert _ x)) ?_
 unfold mdel
 rw [List.filter_map]
 rfl
theorem ent_at (f : List (Bs × α)) (k : Bs) (zd : DataW Value) : (DataW.map (f.map (ent enc))).atKey (.string k) zd = match mget f k with
  | some v => .held (enc v)
  | none => zd := by
 unfold DataW.atKey mget
 simp only [List.find?_map]
 have : ((fun p : Lit × DataW Value => p.1.sameKey (.string k)) ∘ ent enc) = fun p : Bs × α => p.1 == k := rfl
 rw [this]
 cases f.find? (fun p => p.1 == k) <;> rfl
theorem ent_has (f : List (Bs × α)) (k : Bs) : Maps.has (DataW.map (f.map (ent enc))) (.string k) = (mget f k).isSome := by
 unfold mget
 rw [Maps.has_eq, List.any_map]
 have : ((fun p : Lit × DataW Value => p.1.sameKey (.string k)) ∘ ent enc) = fun p : Bs × α => p.1 == k := rfl
 rw [this]
 rw [Option.isSome_map, Bool.eq_iff_iff, List.any_eq_true, List.find?_isSome]
end
def MapE (P : Program) (k : TypeId) {α : Type} (enc : α → Value) (w : World) (b : Nat) (f : List (Bs × α)) : Prop := w.ownsMap P k heldR b f.length (.map (f.map (ent enc)))
section
variable {P : Program} {k : TypeId} {α : Type} {enc : α → Value} {w w1 : World} {b : Nat} {f : List (Bs × α)}
theorem owns_norm {n : Nat} {l : List (Lit × DataW Value)} (h : w.ownsMap P k heldR b n (.map l)) : w.ownsMap P k heldR b l.length (.map l) := by
 obtain ⟨es, clock, hb, F, hs, hD⟩ := h
 refine ⟨es, clock, hb, F, ?_, hD⟩
 injection hD with hD
 rw [hD, length_sorted]
 simp
theorem MapE.of {n : Nat} (h : w.ownsMap P k heldR b n (.map (f.map (ent enc)))) : MapE P k enc w b f := by
 have := owns_norm h
 rw [List.length_map] at this
 exact this
theorem MapE.lt (h : MapE P k enc w b f) : b < w.heap.size := World.ownsMap.lt h
theorem MapE.grown (h : MapE P k enc w b f) {row : Option Nat} (hg : w.grownBy w1 row) (hn : some b ≠ row) : MapE P k enc w1 b f := World.ownsMap.kept h hg hn
theorem MapE.below (h : MapE P k enc w b f) (hb : Below w.heap.size w w1) : MapE P k enc w1 b f := h.grown (grown_of_below hb none) (by simp)
theorem MapE.move (h : MapE P k enc w b f) (hm : w1.heap[b]? = w.heap[b]?) : MapE P k enc w1 b f := by
 obtain ⟨es, clock, hb, F, r⟩ := h
 exact ⟨es, clock, hm.trans hb, F, r⟩
theorem MapE.made (P : Program) (k : TypeId) (enc : α → Value) (w : World) : MapE P k enc (w.alloc (.map #[] 0)) w.heap.size [] := World.ownsMap_made w P k heldR
theorem MapE.rises (K : Keyed P k) (h : MapE P k enc w b f) : Rises f := by
 obtain ⟨es, clock, hb, F, hs, hD⟩ := h
 injection hD with hD
 have h1 := Maps.sorted_sorted K.one (es.toList.map (rg P k heldR)) (fun p hp => by
  obtain ⟨x, hx, rfl⟩ := List.mem_map.1 hp
  obtain ⟨y, hy⟩ := F.reads x hx
  rw [Go.WideElems.rg_of hy]
  exact ⟨_, rd_key hy⟩) (Maps.fit_apart K F)
 rw [← hD, List.pairwise_map] at h1
 exact h1.imp (fun {p q} hh => by
  have : bytesBefore p.1 q.1 = true := hh
  rw [before_lt] at this
  exact of_decide_eq_true this)
theorem MapE.key_le (hk : P.underlying k = some .string) (h : MapE P k enc w b f) : ∀ p ∈ f, p.1.length ≤ maxLen := by
 intro p hp
 refine strKeys_le h hk p.1 ?_
 show p.1 ∈ (f.map (ent enc)).map fun p => strOf p.1
 rw [List.map_map]
 exact List.mem_map.2 ⟨p, hp, rfl⟩
open Go.WideMaps in
theorem keyOf_s (hk : P.underlying k = some .string) {s : ByteArray} (hs : s.size ≤ maxLen) : keyOf P k (.string s) = some (.string (lb s)) := keyOf_string_mk hk hs
end
section
variable {P : Program} {k e t : TypeId} {α : Type} {enc : α → Value} {w : World} {b : Nat} {f : List (Bs × α)}
variable {ops : Array Oper} {rest : List Oper} {o : Oper} {a : Act} {Q : Exit → Act → World → Prop}
theorem run_look_mapE (hk : P.underlying k = some .string) (ht : P.underlying t = some (.map k e)) {z : Value} (hz : (zeroValue e).run P w = .ok z w) (h : MapE P k enc w b f) {s : ByteArray} (hs : s.size ≤ maxLen) :
  (Instr.lookup t (.map (some b)) (.string s) false).run P w = .ok (((mget f (lb s)).map enc).getD z) w := by
 obtain ⟨v, ps, hrun, hv⟩ := World.ownsMap.lookup h (string_keyed hk) ht hz (zd := .held z) (zp := []) rfl (keyOf_s hk hs)
 rw [ent_at] at hv
 have : v = ((mget f (lb s)).map enc).getD z := by
  cases hf : mget f (lb s) with
  | none => rw [hf] at hv; simp [heldR] at hv; simpa using hv.1
  | some y => rw [hf] at hv; simp [heldR] at hv; simpa using hv.1
 rw [← this]
 exact hrun
def Ranges (P : Program) (k : TypeId) {α : Type} (enc : α → Value) (w : World) (b r : Nat) (f left : List (Bs × α)) : Prop :=
 ∃ lf cnt, w.ranges P k heldR b r f.length (.map (f.map (ent enc))) lf cnt ∧ left = f.filter fun p => lf (.string p.1)
theorem Ranges.owns {r : Nat} {left : List (Bs × α)} (h : Ranges P k enc w b r f left) : MapE P k enc w b f := by
 obtain ⟨lf, cnt, h, _⟩ := h
 exact h.owns
theorem Ranges.lt {r : Nat} {left : List (Bs × α)} (h : Ranges P k enc w b r f left) : r < w.heap.size := by
 obtain ⟨lf, cnt, h, _⟩ := h
 exact h.lt
theorem Ranges.ne {r : Nat} {left : List (Bs × α)} (h : Ranges P k enc w b r f left) : r ≠ b := by
 obtain ⟨lf, cnt, h, _⟩ := h
 exact h.ne
theorem Ranges.kept {w' : World} {r : Nat} {left : List (Bs × α)} (h : Ranges P k enc w b r f left) {row : Option Nat} (hg : w.grownBy w' row) (h1 : some b ≠ row) (h2 : some r ≠ row) : Ranges P k enc w' b r f left := by
 obtain ⟨lf, cnt, h, e⟩ := h
 exact ⟨lf, cnt, h.kept hg h1 h2, e⟩
theorem Ranges.below {w' : World} {r : Nat} {left : List (Bs × α)} (h : Ranges P k enc w b r f left) (hb : Below w.heap.size w w') : Ranges P k enc w' b r f left := h.kept (grown_of_below hb none) (by simp) (by simp)
theorem Ranges.sub {r : Nat} {left : List (Bs × α)} (h : Ranges P k enc w b r f left) : left.Sublist f := by
 obtain ⟨lf, cnt, h, e⟩ := h
 rw [e]
 exact List.filter_sublist
theorem range_mapE (hk : P.underlying k = some .string) (ht : P.underlying t = some (.map k e)) (hg : o.guard = none) (m : Operand) (hop : o.op = Op.range t m) (hm : a.eval m = .map (some b)) (h : MapE P k enc w b f)
  (hK : ∀ w', Ranges P k enc w' b w.heap.size f f → w.grownBy w' none → w'.heap.size = w.heap.size + 1 → wpList P ops Q rest (a.put o.dst (.pointer (some ⟨w.heap.size, 0, none⟩))) w') : wpList P ops Q (o :: rest) a w :=
 wpList_range_own w hg m t hop k e (string_keyed hk) ht heldR b f.length _ hm h (fun w' h1 h2 h3 => hK w' ⟨_, _, h1, by
  refine (List.filter_eq_self.2 (fun p hp => ?_)).symm
  rw [ent_has]
  cases hf : mget f p.1 with
  | none => exact absurd rfl (mget_none hf p hp)
  | some _ => rfl⟩ h2 h3)
theorem next_mapE (hk : P.underlying k = some .string) (hg : o.guard = none) (it : Operand) (hop : o.op = Op.next it false) {r : Nat} {left : List (Bs × α)} (hit : a.eval it = .pointer (some ⟨r, 0, none⟩)) (h : Ranges P k enc w b r f left)
  (hDone : left = [] → wpList P ops Q rest (a.put o.dst (.tuple #[.bool false])) w)
  (hMore : ∀ (x : Bs) (c : α) (w' : World), (x, c) ∈ left → x.length ≤ maxLen → Ranges P k enc w' b r f (mdel left x) → w'.rangeLeft b r < w.rangeLeft b r → w.grownBy w' (some r) → w'.heap.size = w.heap.size →
   (Instr.entry (.pointer (some ⟨r, 0, none⟩))).run P w' = .ok (.tuple #[.string ⟨x.toArray⟩, enc c]) w' → wpList P ops Q rest (a.put o.dst (.tuple #[.bool true, .string ⟨x.toArray⟩, enc c])) w') : wpList P ops Q (o :: rest) a w := by
 obtain ⟨lf, cnt, h, hl⟩ := h
 refine wpList_next_ranges w hg it hop k (string_keyed hk) heldR (encStr : List UInt8 → Value) (id : Value → Value) (fun key kl hkk => by obtain ⟨x, hx, _⟩ := Maps.keyOf_str hk hkk; exact ⟨x, hx⟩) (fun v y _ => ⟨v, rfl⟩) b r f.length _ lf cnt hit h (fun h0 hd => hDone ?_) ?_
 ·rw [hl]
  exact List.filter_eq_nil_iff.2 (fun p _ => by rw [hd]; simp)
 ·intro x v kl yv w2 cnt2 hkey hlk hv hat hrg2 hlt hg2 hs2 hen
  obtain ⟨x', ex, rfl, hxl⟩ := Maps.keyOf_str hk hkey
  obtain rfl : x = x' := encStr_inj ex
  have hy : yv.1 = .held v := by
   have : heldR v = some yv := hv
   unfold heldR at this
   injection this with this
   rw [← this]
  obtain ⟨c, hc⟩ : ∃ c, mget f x = some c := by
   have h1 := hat .nil
   rw [ent_at] at h1
   cases hf : mget f x with
   | some c => exact ⟨c, rfl⟩
   | none => rw [hf, hy] at h1; cases h1
  obtain rfl : v = enc c := by
   have h1 := hat .nil
   rw [ent_at, hc, hy] at h1
   injection h1 with h1
   exact h1.symm
  have hm1 := h.left_eq
  have hm2 := hrg2.left_eq
  refine hMore x c w2 ?_ hxl ⟨_, _, hrg2, ?_⟩ (by omega) hg2 hs2 hen
  ·rw [hl]
   exact List.mem_filter.2 ⟨mget_some hc, hlk⟩
  ·rw [hl]
   unfold mdel
   rw [List.filter_filter]
   congr 1
   funext p
   rw [Bool.and_comm]
   rfl
theorem next_mapA (hk : P.underlying k = some .string) (hg : o.guard = none) (it : Operand) (hop : o.op = Op.next it false) {r : Nat} {left : List (Bs × α)} (hit : a.eval it = .pointer (some ⟨r, 0, none⟩)) (h : Ranges P k enc w b r f left)
  (hDone : Aside0 (left = []) → wpList P ops Q rest (a.put o.dst (.tuple #[.bool false])) w)
  (hMore : ∀ (x : ByteArray) (c : α) (w' : World), Aside0 ((lb x, c) ∈ left ∧ x.size ≤ maxLen ∧ Ranges P k enc w' b r f (mdel left (lb x)) ∧ w'.rangeLeft b r < w.rangeLeft b r ∧ w.grownBy w' (some r) ∧ w'.heap.size = w.heap.size) →
   (Instr.entry (.pointer (some ⟨r, 0, none⟩))).run P w' = .ok (.tuple #[.string x, enc c]) w' → wpList P ops Q rest (a.put o.dst (.tuple #[.bool true, .string x, enc c])) w') : wpList P ops Q (o :: rest) a w :=
 next_mapE hk hg it hop hit h (fun hd => hDone ⟨hd⟩) (fun x c w' h1 h2 h3 h4 h5 h6 h7 => hMore ⟨x.toArray⟩ c w' ⟨by rw [lb_mk]; exact h1, h2, by rw [lb_mk]; exact h3, h4, h5, h6⟩ h7)
end
end Go.Proofs.YtaembebbaejfiaaGreatDoor.MapV
namespace Go.Proofs.YtaembebbaejfiaaGreatDoor.Kit
open Go.RowKit Go.Proofs.YtaembebbaejfiaaGreatDoorW.PrintWords Go.Proofs.YtaembebbaejfiaaGreatDoor.Str
set_option linter.unusedVariables false
set_option linter.unusedSimpArgs false
theorem hb_then {w w1 w2 : World} (h : Below w.heap.size w w1) (k : Below w1.heap.size w1 w2) : Below w.heap.size w w2 := below_then h h.size k
section
variable {P : Program} {ops : Array Oper} {rest : List Oper} {o : Oper} {a : Act} {Q : Exit → Act → World → Prop} {α : Type}
theorem append_scalar (enc : α → Value) (h1 : ∀ x, (enc x).oneCell' = true) {w0 W : World} (t e : TypeId) (z : Value) (bytes : Nat)
  (ht : P.underlying t = some (.slice e)) (hinfo : (P.info? e).map (fun i => (i.zero, i.size, i.bytes)) = some (some z, 1, bytes)) (hz : z.cells.size = 1) (hb0 : 0 < bytes)
  (hgd : o.guard = none) (s x : Operand) (ho : o.op = .call { callee := .builtin .append, args := #[s, x], argTypes := #[t, t] })
  (v : Value) (xs : List α) (p : α) (hs : a.eval s = v) (hx : a.eval x = .slice (some ⟨W.heap.size, 0, none⟩) 1 1)
  (HO : (Kd.scalar enc h1).R e W w0.heap.size (fun _ => True) v xs) (HB : Below w0.heap.size w0 W) (hl : (xs.length + 1) * bytes ≤ 140737488355328)
  (h : ∀ v1 w1, (Kd.scalar enc h1).R e w1 w0.heap.size (fun _ => True) v1 (xs ++ [p]) → Below w0.heap.size w0 w1 → W.grownBy w1 v.ownBlock → wpList P ops Q rest (a.put o.dst v1) w1) :
  wpList P ops Q (o :: rest) a (W.alloc (.cells #[enc p] e)) :=
 Kd.R_append (Kd.scalar enc h1) w0.heap.size hgd s x t e z bytes ho ht hinfo hz (show 0 < 1 by decide) hb0 v xs p [enc p] (fun _ => True) (fun _ => False) hs hx rfl (fun _ hk => hk.elim) (fun _ _ => trivial) HO HB HB.size hl
  (fun v1 w1 h2 h3 h4 _ => h v1 w1 h2 h3 h4)
end
theorem info_string : (Tryz.prog.info? 9).map (fun i => (i.zero, i.size, i.bytes)) = some (some (.string ⟨#[]⟩), 1, 16) := by kernel_rfl
section
variable {ops : Array Oper} {rest : List Oper} {o : Oper} {a : Act} {Q : Exit → Act → World → Prop}
theorem own_empty {α : Type} (d : Kd α) {w : World} {base : Nat} {e : TypeId} {ok : Nat → Prop} (hb : base ≤ w.heap.size) (hok : ok w.heap.size) : d.R e (w.alloc (.cells #[] e)) base ok (.slice (some ⟨w.heap.size, 0, none⟩) 0 0) [] := by
 refine ⟨fun k hk => ?_, [], ⟨by simp, .inr ⟨w.heap.size, 0, #[], rfl, hb, heap_alloc_new w _, Nat.le_refl _, by unfold maxLen; omega, by simp, by simp⟩⟩, Reps.none _ _⟩
 have : w.heap.size = k := by simpa [Value.ownBlock] using hk
 subst this; exact hok
theorem append_str {w0 W : World} (s x : Operand) (hgd : o.guard = none) (ho : o.op = .call { callee := .builtin .append, args := #[s, x], argTypes := #[22, 22] })
  {v : Value} {xs : List ByteArray} {p : ByteArray} (hs : a.eval s = v) (hx : a.eval x = .slice (some ⟨W.heap.size, 0, none⟩) 1 1)
  (HO : Kd.string.R 9 W w0.heap.size (fun _ => True) v xs) (HB : Below w0.heap.size w0 W) (hl : xs.length < 8796093022207)
  (h : ∀ v1 w1, Kd.string.R 9 w1 w0.heap.size (fun _ => True) v1 (xs ++ [p]) → Below w0.heap.size w0 w1 → W.grownBy w1 v.ownBlock → wpList Tryz.prog ops Q rest (a.put o.dst v1) w1) :
  wpList Tryz.prog ops Q (o :: rest) a (W.alloc (.cells #[.string p] 9)) :=
 append_scalar Value.string (fun _ => rfl) 22 9 (.string ⟨#[]⟩) 16 Tryz.underlying22 info_string rfl (by decide) hgd s x ho v xs p hs hx HO HB (by omega) h
end
end Go.Proofs.YtaembebbaejfiaaGreatDoor.Kit
namespace Go.Proofs.YtaembebbaejfiaaGreatDoor.Kit
open Go.RowKit Go.Proofs.YtaembebbaejfiaaGreatDoorW.PrintWords Go.Proofs.YtaembebbaejfiaaGreatDoor.Str
set_option linter.unusedVariables false
set_option linter.unusedSimpArgs false
theorem strs_open {w : World} {A : Option Addr} {xs : List ByteArray} (h : Kd.string.C w A xs.length xs) (h0 : 0 < xs.length) :
  ∃ bk off, A = some ⟨bk, off, none⟩ ∧ bk < w.heap.size ∧ ∀ (j : Nat) (hj : j < xs.length), w.cell? ⟨bk, off + j, none⟩ = some (.string xs[j]) := by
 obtain ⟨hl, hm, hc⟩ := h
 obtain ⟨ad, rfl, hcc⟩ := hc h0
 have cell : ∀ (j : Nat) (hj : j < xs.length), w.cell? (ad.add j) = some (.string xs[j]) := by
  intro j hj
  obtain ⟨c, hcl, hr, hcell⟩ := hcc j xs[j] (List.getElem?_eq_getElem hj)
  have hr' : c = [Value.string xs[j]] := hr
  subst hr'
  have := hcell 0 _ rfl
  simpa [Kd.string, Kd.scalar] using this
 obtain ⟨bk, off, spot⟩ := ad
 have hspot : spot = none := by
  have h1 := cell 0 h0
  cases hs : spot with
  | none => rfl
  | some sp =>
   exfalso
   subst hs
   simp [World.cell?, Addr.add] at h1
   split at h1 <;> simp at h1
 subst hspot
 have add : ∀ j : Nat, (⟨bk, off, none⟩ : Addr).add j = ⟨bk, off + j, none⟩ := by intro j; unfold Addr.add; split <;> simp_all
 refine ⟨bk, off, rfl, ?_, fun j hj => by rw [← add]; exact cell j hj⟩
 have h1 := cell 0 h0
 rw [add] at h1
 exact World.block_lt_of_cell? w _ h1
theorem strs_mk {w : World} {b o : Nat} {xs : List ByteArray} (hm : xs.length ≤ 9223372036854775807) (hc : ∀ (j : Nat) (hj : j < xs.length), w.cell? ⟨b, o + j, none⟩ = some (.string xs[j])) : Kd.string.C w (some ⟨b, o, none⟩) xs.length xs := by
 refine ⟨rfl, hm, fun _ => ⟨_, rfl, fun j p hp => ?_⟩⟩
 obtain ⟨hj, rfl⟩ := List.getElem?_eq_some_iff.1 hp
 refine ⟨[.string xs[j]], rfl, rfl, fun i u hu => ?_⟩
 have hi : i < 1 := (List.getElem?_eq_some_iff.1 hu).1
 obtain rfl : i = 0 := by omega
 have hu' : Value.string xs[j] = u := by simpa using hu
 subst hu'
 have add : (⟨b, o, none⟩ : Addr).add (j * Kd.string.sz + 0) = ⟨b, o + j, none⟩ := by
  have : j * Kd.string.sz + 0 = j := by simp [Kd.string, Kd.scalar]
  rw [this]; unfold Addr.add; split <;> simp_all
 rw [add]
 exact hc j hj
theorem strs_lit (w : World) (e : TypeId) (xs : List ByteArray) (hm : xs.length ≤ 9223372036854775807) : Kd.string.C (w.alloc (.cells (xs.map Value.string).toArray e)) (some ⟨w.heap.size, 0, none⟩) xs.length xs := by
 refine strs_mk hm fun j hj => ?_
 have := World.cell?_alloc_new w (xs.map Value.string).toArray e j
 rw [Nat.zero_add]
 rw [this]
 simp [hj]
end Go.Proofs.YtaembebbaejfiaaGreatDoor.Kit
namespace Go.Proofs.YtaembebbaejfiaaGreatDoor.Kit
open Go.RowKit Go.Proofs.YtaembebbaejfiaaGreatDoorW.PrintWords Go.Proofs.YtaembebbaejfiaaGreatDoor.Str
set_option linter.unusedVariables false
set_option linter.unusedSimpArgs false
def bnums (l : Bs) : List Int := l.map fun b => (b.toNat : Int)
theorem bnums_append (l m : Bs) : bnums (l ++ m) = bnums l ++ bnums m := by simp [bnums]
theorem bnums_length (l : Bs) : (bnums l).length = l.length := by simp [bnums]
theorem str_bnums (l : Bs) : strOfNums (bnums l) = ⟨l.toArray⟩ := by
 apply lb_inj
 rw [lb_mk, lb, strOfNums_data, bnums, List.map_map]
 conv => rhs; rw [← List.map_id l]
 refine List.map_congr_left fun x _ => ?_
 simp
def Buf (w : World) (base : Nat) (v : Value) (l : Bs) : Prop := w.ownsRow base 5 1 v l.length (nums .u8 (bnums l))
theorem Buf.nil (w : World) (base : Nat) : Buf w base (.slice none 0 0) [] := own_nil _ _ _ _
theorem Buf.below {w w' : World} {base : Nat} {v : Value} {l : Bs} (h : Buf w base v l) (hb : Below w.heap.size w w') : Buf w' base v l := pw_own_below h hb
theorem Buf.slice {w : World} {base : Nat} {v : Value} {l : Bs} (h : Buf w base v l) : ∃ A c, v = .slice A l.length c := own_slice h
theorem info_byte : (Tryz.prog.info? 5).map (fun i => (i.zero, i.size, i.bytes)) = some (some (.int .u8 0), 1, 1) := by kernel_rfl
theorem Buf.string {w : World} {base : Nat} {v : Value} {l : Bs} (h : Buf w base v l) : (convert 67 9 v).run Tryz.prog w = .ok (.string ⟨l.toArray⟩) w := by
 rw [← str_bnums]
 exact own_string Tryz.underlying67 Tryz.underlying5 Tryz.underlying9 h
section
variable {ops : Array Oper} {rest : List Oper} {o : Oper} {a : Act} {Q : Exit → Act → World → Prop}
theorem append_bufS {w0 W : World} (s x : Operand) (hgd : o.guard = none) (ho : o.op = .call { callee := .builtin .append, args := #[s, x], argTypes := #[67, 9] })
  {v : Value} {l : Bs} {y : ByteArray} (hs : a.eval s = v) (hx : a.eval x = .string y) (HO : Buf W w0.heap.size v l) (HB : Below w0.heap.size w0 W) (hl : l.length + y.size ≤ 140737488355328)
  (h : ∀ v1 w1, Buf w1 w0.heap.size v1 (l ++ lb y) → Below w0.heap.size w0 w1 → W.grownBy w1 v.ownBlock → wpList Tryz.prog ops Q rest (a.put o.dst v1) w1) :
  wpList Tryz.prog ops Q (o :: rest) a W := by
 refine print_append_str (w0 := w0) w0.heap.size hgd s x 67 9 5 ho Tryz.underlying67 Tryz.underlying9 info_byte v (bnums l) y hs hx (by rw [bnums_length]; exact HO) HB HB.size (by rw [bnums_length]; exact hl) ?_
 intro v1 w1 hown hb hg
 refine h v1 w1 ?_ hb hg
 unfold Buf
 rw [bnums_append]
 have e : bnums (lb y) = bytesOf y := rfl
 rw [e]
 have e2 : (l ++ lb y).length = (bnums l ++ bytesOf y).length := by rw [List.length_append, List.length_append, bnums_length, bytesOf_length, lb_length]
 rw [e2]
 exact hown
end
end Go.Proofs.YtaembebbaejfiaaGreatDoor.Kit
namespace Go.Proofs.YtaembebbaejfiaaGreatDoor.Frame
open Go.RowKit Go.Proofs.YtaembebbaejfiaaGreatDoorW.PrintWords Go.Proofs.YtaembebbaejfiaaGreatDoor.Str Go.Proofs.YtaembebbaejfiaaGreatDoor.Kit
set_option linter.unusedVariables false
set_option linter.unusedSimpArgs false
structure Turns (F : Nat → Prop) (w w' : World) : Prop where
 os : w'.os = w.os
 tape : w'.tape = w.tape
 output : w'.output = w.output
 size : w.heap.size ≤ w'.heap.size
 block : ∀ k, k < w.heap.size → ¬ F k → w'.heap[k]? = w.heap[k]?
theorem Turns.refl (F : Nat → Prop) (w : World) : Turns F w w := ⟨rfl, rfl, rfl, Nat.le_refl _, fun _ _ _ => rfl⟩
theorem Turns.mono {F G : Nat → Prop} {w w' : World} (h : Turns F w w') (hs : ∀ k, k < w.heap.size → F k → G k) : Turns G w w' :=
 ⟨h.os, h.tape, h.output, h.size, fun k hk hg => h.block k hk (fun hf => hg (hs k hk hf))⟩
theorem Turns.trans {F G : Nat → Prop} {a b c : World} (h : Turns F a b) (k : Turns G b c) (hs : ∀ j, j < a.heap.size → G j → F j) : Turns F a c :=
 ⟨k.os.trans h.os, k.tape.trans h.tape, k.output.trans h.output, Nat.le_trans h.size k.size, fun i hi hn => (k.block i (Nat.lt_of_lt_of_le hi h.size) (fun hg => hn (hs i hi hg))).trans (h.block i hi hn)⟩
theorem Turns.of_below {F : Nat → Prop} {w w' : World} (h : Below w.heap.size w w') : Turns F w w' := ⟨h.os, h.tape, h.output, h.size, fun k hk _ => h.block k hk⟩
theorem Turns.below {F : Nat → Prop} {w0 w w' : World} (h : Turns F w w') (hb : Below w0.heap.size w0 w) (hf : ∀ k, k < w0.heap.size → ¬ F k) : Below w0.heap.size w0 w' :=
 ⟨h.os.trans hb.os, h.tape.trans hb.tape, h.output.trans hb.output, Nat.le_trans hb.size h.size, fun k hk => (h.block k (Nat.lt_of_lt_of_le hk hb.size) (hf k hk)).trans (hb.block k hk)⟩
theorem Turns.setCell (w : World) (b i : Nat) (v : Value) : Turns (fun k => k = b) w (w.setCell ⟨b, i, none⟩ v) :=
 ⟨rfl, rfl, rfl, by simp, fun k _ hn => Go.heap_setCell_other w _ k v hn⟩
theorem Turns.alloc (F : Nat → Prop) (w : World) (o : Obj) : Turns F w (w.alloc o) :=
 Turns.of_below ((Below.refl _ w).alloc (Nat.le_refl _) o)
theorem cb_cell {w : World} {b i : Nat} {cs : Array Value} {t : TypeId} {v : Value} (h : w.heap[b]? = some (.cells cs t (0, 0))) (hi : cs[i]? = some v) : w.cell? ⟨b, i, none⟩ = some v := by
 simp [World.cell?, h, hi]
theorem cb_frozen {w : World} {b i : Nat} {cs : Array Value} {t : TypeId} (h : w.heap[b]? = some (.cells cs t (0, 0))) : w.frozen? ⟨b, i, none⟩ = false := by
 simp [World.frozen?, h]
theorem cb_set {w : World} {b i : Nat} {cs : Array Value} {t : TypeId} (h : w.heap[b]? = some (.cells cs t (0, 0))) (v : Value) : (w.setCell ⟨b, i, none⟩ v).heap[b]? = some (.cells (cs.setIfInBounds i v) t (0, 0)) :=
 Go.heap_setCell_same w b i cs t v h
theorem cb_new (w : World) (x : Obj) : (w.alloc x).heap[w.heap.size]? = some x := by
 show (w.heap.push x)[w.heap.size]? = _
 simp
theorem cb_lt {w : World} {k : Nat} {o : Obj} (h : w.heap[k]? = some o) : k < w.heap.size := (Array.getElem?_eq_some_iff.1 h).1
end Go.Proofs.YtaembebbaejfiaaGreatDoor.Frame
namespace Go.Proofs.YtaembebbaejfiaaGreatDoor.Val
open Go.RowKit Go.Proofs.YtaembebbaejfiaaGreatDoorW.PrintWords Go.Proofs.YtaembebbaejfiaaGreatDoorW.PrintLast Go.Proofs.YtaembebbaejfiaaGreatDoor.Str Go.Proofs.YtaembebbaejfiaaGreatDoor.Kit Go.Proofs.YtaembebbaejfiaaGreatDoor.Frame Go.Proofs.YtaembebbaejfiaaGreatDoor.MapV
set_option linter.unusedVariables false
set_option linter.unusedSimpArgs false
def placeI (ks : List ByteArray) (k : ByteArray) : Nat := (ks.takeWhile fun x => decide (lb x < lb k)).length
def placeB (ks : List ByteArray) (k : ByteArray) : Bool := match ks[placeI ks k]? with | some x => x.toList == k.toList | none => false
theorem placeI_hit {k : ByteArray} : ∀ {ks : List ByteArray} {i : Nat}, (∀ (j : Nat) (hj : j < ks.length), j < i → lb ks[j] < lb k) → ∀ hi : i < ks.length, ¬ lb ks[i] < lb k → placeI ks k = i
 | [], _, _, hi, _ => by simp at hi
 | x :: r, 0, _, _, hn => by
  have : ¬ lb x < lb k := hn
  unfold placeI
  rw [List.takeWhile_cons_of_neg (by simpa using this)]
  rfl
 | x :: r, i + 1, ha, hi, hn => by
  have h0 : lb x < lb k := ha 0 (by simp) (by omega)
  have ih := placeI_hit (k := k) (ks := r) (i := i) (fun j hj hji => by have := ha (j + 1) (by simpa using hj) (by omega); simpa using this) (by simpa using hi) (by simpa using hn)
  unfold placeI at ih ⊢
  rw [List.takeWhile_cons_of_pos (by simpa using h0), List.length_cons, ih]
theorem placeI_end {k : ByteArray} {ks : List ByteArray} (ha : ∀ (j : Nat) (hj : j < ks.length), lb ks[j] < lb k) : placeI ks k = ks.length := by
 unfold placeI
 induction ks with
 | nil => rfl
 | cons x r ih =>
  have h0 : lb x < lb k := ha 0 (by simp)
  rw [List.takeWhile_cons_of_pos (by simpa using h0), List.length_cons, ih (fun j hj => by have := ha (j + 1) (by simpa using hj); simpa using this), List.length_cons]
set_option maxHeartbeats 1600000 in
set_option maxRecDepth 100000 in
theorem place (kd nm : Int) (t : ByteArray) {A3 A4 : Option Addr} {c3 n4 c4 : Nat} (ks : List ByteArray) (k : ByteArray) (w : World) (h : Kd.string.C w A3 ks.length ks) (hn : ks.length ≤ 17592186044416) :
  Calls Tryz.prog 30 #[.agg #[.int .i64 kd, .int .i64 nm, .string t, .slice A3 ks.length c3, .slice A4 n4 c4], .string k] w fun e w' => e = .returned (.tuple #[.int .i64 (placeI ks k), .bool (placeB ks k)]) ∧ Below w.heap.size w w' := by
 have H := aM h
 have HX := aM (cb_new w (.cells #[.int .i64 kd, .int .i64 nm, .string t, .slice A3 ks.length c3, .slice A4 n4 c4] 25))
 have HB := aM ((Below.refl _ w).alloc (Nat.le_refl _) (.cells #[.int .i64 kd, .int .i64 nm, .string t, .slice A3 ks.length c3, .slice A4 n4 c4] 25))
 clear h
 go_enter Tryz.func30, Tryz.ntmps30
 go_wp2
 go_loopw [6] (fun v wr => ∃ i : Nat, v = .int .i64 i ∧ i ≤ ks.length ∧ Aside0 (∀ (j : Nat) (hj : j < ks.length), j < i → lb ks[j] < lb k) ∧ Aside0 (wr.heap[w.heap.size]? = some (.cells #[.int .i64 kd, .int .i64 nm, .string t, .slice A3 ks.length c3, .slice A4 n4 c4] 25 (0, 0))) ∧ Aside0 (Below w.heap.size w wr)) (fun v _ => ks.length - (intOf v).toNat)
 case atStart => exact ⟨0, rfl, by omega, ⟨fun j _ h => absurd h (Nat.not_lt_zero _)⟩, HX, HB⟩
 case round =>
  clear HX HB
  obtain ⟨i, rfl, hi, HN, HX, HB⟩ := hrel
  have x3 : wr.cell? ⟨w.heap.size, 3, none⟩ = some (.slice A3 ks.length c3) := cb_cell (i := 3) HX.out rfl
  by_cases hlt : i < ks.length
  ·obtain ⟨b0, o0, rfl, hb0, hc0⟩ := strs_open (Kd.C_below H.out HB.out) (by omega)
   have g0 := hc0 i hlt
   have q0 : (0 : Int) ≤ (i : Int) := by omega
   have q1 : (i : Int) < (ks.length : Int) := by omega
   have HA := aM (show lb ks[i] < lb k → ∀ (j : Nat) (hj : j < ks.length), j < i + 1 → lb ks[j] < lb k from fun h j hj hji => by
    by_cases hj' : j < i
    ·exact HN.out j hj hj'
    ·have : j = i := by omega
     subst this; exact h)
   have HP := aM (show ¬ lb ks[i] < lb k → placeI ks k = i ∧ placeB ks k = (ks[i].toList == k.toList) from fun h => by
    have h1 := placeI_hit HN.out hlt h
    refine ⟨h1, ?_⟩
    unfold placeB
    rw [h1, List.getElem?_eq_getElem hlt])
   have hless : Op.bytesLess ks[i].toList k.toList = decide (lb ks[i] < lb k) := by rw [bytesLess_eq, toList_lb, toList_lb]
   clear hc0
   by_cases hl : lb ks[i] < lb k
   ·rw [decide_eq_true hl] at hless
    have Y := aM (HA.out hl)
    clear HA HP hl
    generalize ks[i] = x at g0 hless
    go_wp2
    go_roundw
    case rel => exact ⟨i + 1, by go_num, by omega, Y, HX, HB⟩
    case measure => simp [intOf]; omega
   ·rw [decide_eq_false hl] at hless
    have Y := aM (HP.out hl)
    clear HA HP hl
    generalize ks[i] = x at g0 hless Y
    go_wp2_with fail
    go_quiet (fail)
    go_wp2
    go_ret2
    exact ⟨by rw [Y.out.1, Y.out.2]; rfl, pw_below_drewN HB.out nq⟩
  ·have Y := aM (placeI_end (k := k) (ks := ks) (fun j hj => HN.out j hj (by omega)))
   have Z := aM (show placeB ks k = false by
    unfold placeB
    rw [Y.out, List.getElem?_eq_none (Nat.le_refl _)])
   go_wp2
   go_ret2
   exact ⟨by rw [Y.out, Z.out]; rfl, HB.out⟩
end Go.Proofs.YtaembebbaejfiaaGreatDoor.Val
namespace Go.Proofs.YtaembebbaejfiaaGreatDoor.Tr
open Go.RowKit Go.Proofs.YtaembebbaejfiaaGreatDoorW.PrintWords Go.Proofs.YtaembebbaejfiaaGreatDoorW.PrintLast Go.Proofs.YtaembebbaejfiaaGreatDoor.Str Go.Proofs.YtaembebbaejfiaaGreatDoor.Kit Go.Proofs.YtaembebbaejfiaaGreatDoor.MapV Go.Proofs.YtaembebbaejfiaaGreatDoor.Frame Go.Proofs.YtaembebbaejfiaaGreatDoor.PS
set_option linter.unusedVariables false
set_option linter.unusedSimpArgs false
abbrev BA := ByteArray
abbrev VI := S45
abbrev VS := S25
abbrev kI : Kd VI := k45
abbrev kS : Kd VS := k25
def held {α : Type} (sz : Nat) (Pf : α → List Value → Prop) (h5 : ∀ {x cs}, Pf x cs → cs.length = sz) (h1 : ∀ {x cs}, Pf x cs → ∀ u ∈ cs, u.oneCell' = true) : Kd α where
 sz := sz
 E := []
 K := fun _ x cs => Pf x cs
 M := fun _ _ _ x cs => Pf x cs
 K_len := h5
 K_one := h1
 K_below := fun _ h => h
 K_of_M := fun h => h
 M_mono := fun _ h => h
 M_bound := fun h => h
 M_move := fun _ h => h
 M_lower := fun _ h => h
def zerosV : Array Value := #[.int .i64 0, .int .i64 0, .string ⟨#[]⟩, .slice none 0 0, .slice none 0 0]
def Has {α : Type} (d : Kd α) (e : Nat) (W0 w : World) (v : Value) (xs : List α) (b : Nat) : Prop := d.R e w W0.heap.size (fun _ => True) v xs ∧ v.ownBlock = some b ∧ b < w.heap.size ∧ W0.heap.size ≤ b
def HasZ (W0 w : World) (g : Nat) : Prop := w.heap[g]? = some (.cells zerosV 25 (0, 0)) ∧ W0.heap.size ≤ g
section
variable {α : Type} {d : Kd α} {e : Nat} {W0 w w1 : World} {v : Value} {xs ys : List α} {b b' g : Nat}
theorem Has.new (hB : Below W0.heap.size W0 w) : Has d e W0 (w.alloc (.cells #[] e)) (.slice (some ⟨w.heap.size, 0, none⟩) 0 0) [] w.heap.size :=
 ⟨own_empty d hB.size trivial, rfl, by rw [World.size_alloc]; omega, hB.size⟩
theorem HasZ.new (hB : Below W0.heap.size W0 w) : HasZ W0 (w.alloc (.cells zerosV 25)) w.heap.size := ⟨cb_new _ _, hB.size⟩
theorem Has.alloc (h : Has d e W0 w v xs b) (o : Obj) : Has d e W0 (w.alloc o) v xs b := ⟨Kd.R_alloc h.1 o, h.2.1, by rw [World.size_alloc]; have := h.2.2.1; omega, h.2.2.2⟩
theorem HasZ.alloc (h : HasZ W0 w g) (o : Obj) : HasZ W0 (w.alloc o) g := ⟨((below_alloc (Below.refl _ w) o).block _ (cb_lt h.1)).trans h.1, h.2⟩
theorem Has.ne_new (h : Has d e W0 w v xs b) : b ≠ w.heap.size := by have := h.2.2.1; omega
theorem HasZ.ne_new (h : HasZ W0 w g) : g ≠ w.heap.size := by have := cb_lt h.1; omega
theorem Has.grown (hk : ∀ (w : World) (base : Nat) (ok ok' : Nat → Prop) x cs, d.M w base ok x cs → d.M w base ok' x cs) (h : Has d e W0 w v xs b) (hg : w.grownBy w1 (some b')) (hn : b ≠ b') : Has d e W0 w1 v xs b := by
 obtain ⟨⟨h0, inner, ho, hr⟩, hb, hlt, hle⟩ := h
 have h2 : d.R e w W0.heap.size (fun k => k = b) v xs := ⟨fun k hk => by rw [hb] at hk; injection hk with hk; exact hk.symm, inner, ho, hr.imp_ (fun x cs hx => hk _ _ _ _ x cs hx)⟩
 have h3 := Kd.R_grown h2 hg (fun k hk => by rw [hk]; exact fun e => hn (Option.some.inj e))
 exact ⟨Kd.R_mono h3 (fun _ _ => trivial), hb, by have := hg.size; omega, hle⟩
theorem HasZ.grown (h : HasZ W0 w g) (hg : w.grownBy w1 (some b')) (hn : g ≠ b') : HasZ W0 w1 g := ⟨(hg.block _ (cb_lt h.1) (fun e => hn (Option.some.inj e))).trans h.1, h.2⟩
theorem Has.grew (h : Has d e W0 w v xs b) {v1 : Value} (h1 : d.R e w1 W0.heap.size (fun _ => True) v1 ys) (hg : w.grownBy w1 v.ownBlock) (hat : v1.ownBlock = v.ownBlock ∨ ∃ b, v1.ownBlock = some b ∧ w.heap.size ≤ b) :
  ∃ b1, Has d e W0 w1 v1 ys b1 ∧ (b1 = b ∨ w.heap.size ≤ b1) := by
 rcases hat with hat | ⟨b1, hat, hle⟩
 ·exact ⟨b, ⟨h1, hat.trans h.2.1, by have := hg.size; have := h.2.2.1; omega, h.2.2.2⟩, .inl rfl⟩
 ·have hlt := (Kd.R_bound h1).1 b1 hat
  exact ⟨b1, ⟨h1, hat, hlt.2.2.1, hlt.2.1⟩, .inr hle⟩
end
section
variable {P : Program} {ops : Array Oper} {o : Oper} {a : Act} {Q : Exit → Act → World → Prop} {Kc : Act → World → Prop} {w : World}
theorem store_row_step (hw : Region.wanted o (yielded ops a.tmps) = true) (hN : o.dst = none) (ty : TypeId) (x y : Operand) (ho : o.op = .store ty x y) (g : Nat) (cells : Array Value) (hx : a.eval x = .pointer (some ⟨g, 0, none⟩)) (hy : a.eval y = .agg cells)
  (t : TypeId) (old : Array Value) (hg : w.heap[g]? = some (.cells old t (0, 0))) (hi : (P.info? ty).map (·.size) = some cells.size) (hold : old.size = cells.size) (h1 : cells.all (·.oneCell') = true)
  (h : Kc a (w.setRow g cells)) : if Region.wanted o (yielded ops a.tmps) = true then Oper.wp P o a w Kc Q else Kc (a.put none undef) w := by
 rw [if_pos hw]
 refine wp_store_row ty x y ho g cells hx hy t old hg hi hold h1 ?_
 rw [hN]
 exact h
theorem grown_setRow (w : World) (g : Nat) (cs : Array Value) : w.grownBy (w.setRow g cs) (some g) := ⟨rfl, rfl, rfl, by simp, fun k _ hn => setRow_other w g k cs (fun e => hn (by rw [e]))⟩
end
theorem val_size : (Tryz.prog.info? 25).map (fun i => i.size) = some 5 := by kernel_rfl
theorem val_one (k n : Int) (t : ByteArray) (A3 A4 : Option Addr) (n3 c3 n4 c4 : Nat) : (#[Value.int .i64 k, Value.int .i64 n, Value.string t, Value.slice A3 n3 c3, Value.slice A4 n4 c4] : Array Value).all (fun v => v.oneCell') = true :=
 all_oneCell_toArray (cs := [Value.int .i64 k, Value.int .i64 n, Value.string t, Value.slice A3 n3 c3, Value.slice A4 n4 c4]) (fun v hv => by simp at hv; rcases hv with rfl | rfl | rfl | rfl | rfl <;> rfl)
theorem Has.below {α : Type} {d : Kd α} {e : Nat} {W0 w w1 : World} {v : Value} {xs : List α} {b : Nat} (h : Has d e W0 w v xs b) (hb : Below w.heap.size w w1) : Has d e W0 w1 v xs b := ⟨Kd.R_below h.1 hb, h.2.1, Nat.lt_of_lt_of_le h.2.2.1 hb.size, h.2.2.2⟩
theorem Has.slice {α : Type} {d : Kd α} {e : Nat} {W0 w : World} {v : Value} {xs : List α} {b : Nat} (h : Has d e W0 w v xs b) : ∃ c, v = .slice (some ⟨b, 0, none⟩) xs.length c := by
 obtain ⟨⟨_, inner, ho, _⟩, hb, _⟩ := h
 rcases ho.2 with ⟨rfl, _⟩ | ⟨g', cap, cur, rfl, _⟩
 ·simp [Value.ownBlock] at hb
 ·have : g' = b := by simpa [Value.ownBlock] using hb
  subst this
  exact ⟨cap, rfl⟩
theorem one_str (w : World) (base : Nat) (e : TypeId) (hb : base ≤ w.heap.size) (p : ByteArray) : Kd.string.R e (w.alloc (.cells #[.string p] e)) base (fun _ => True) (.slice (some ⟨w.heap.size, 0, none⟩) 1 1) [p] := by
 refine ⟨fun _ _ => trivial, [.string p], ⟨rfl, .inr ⟨w.heap.size, 1, _, rfl, hb, cb_new _ _, Nat.le_refl _, by unfold maxLen; omega, rfl, rfl⟩⟩, rfl, fun j q hq => ?_⟩
 have hj : j = 0 := by
  have := (List.getElem?_eq_some_iff.1 hq).1
  simp at this
  exact this
 subst hj
 injection hq with hq
 subst hq
 rfl
theorem ne_grew {a b b1 S : Nat} (hn : a ≠ b) (hl : a < S) (h : b1 = b ∨ S ≤ b1) : a ≠ b1 := by
 rcases h with rfl | h
 ·exact hn
 ·omega
theorem grown_setCell (w : World) (g j : Nat) (u : Value) : w.grownBy (w.setCell ⟨g, j, none⟩ u) (some g) := ⟨rfl, rfl, rfl, by simp, fun k _ hn => Below.heap_setCell w ⟨g, j, none⟩ u k (fun e => hn (by rw [e]))⟩
section
variable {ops : Array Oper} {rest : List Oper} {o : Oper} {a : Act} {Q : Exit → Act → World → Prop}
theorem load_val {w : World} {b : Nat} {k n : Int} {t : ByteArray} {A3 A4 : Option Addr} {n3 c3 n4 c4 : Nat} (x : Operand) (hgd : o.guard = none) (ho : o.op = .load 25 x) (hx : a.eval x = .pointer (some ⟨b, 0, none⟩)) (hb : w.heap[b]? = some (.cells #[.int .i64 k, .int .i64 n, .string t, .slice A3 n3 c3, .slice A4 n4 c4] 25 (0, 0)))
  (h : wpList Tryz.prog ops Q rest (a.put o.dst (.agg #[.int .i64 k, .int .i64 n, .string t, .slice A3 n3 c3, .slice A4 n4 c4])) w) : wpList Tryz.prog ops Q (o :: rest) a w :=
 wpList_load_row hgd _ x ho b hx _ _ _ _ hb Tryz.underlying25 rfl val_size h
theorem store_val {w : World} {b : Nat} {k n : Int} {t : ByteArray} {A3 A4 : Option Addr} {n3 c3 n4 c4 : Nat} {k' n' : Int} {t' : ByteArray} {A3' A4' : Option Addr} {n3' c3' n4' c4' : Nat} (x y : Operand) (hgd : o.guard = none) (ho : o.op = .store 25 x y) (hx : a.eval x = .pointer (some ⟨b, 0, none⟩)) (hy : a.eval y = .agg #[.int .i64 k, .int .i64 n, .string t, .slice A3 n3 c3, .slice A4 n4 c4]) (hb : w.heap[b]? = some (.cells #[.int .i64 k', .int .i64 n', .string t', .slice A3' n3' c3', .slice A4' n4' c4'] 25 (0, 0)))
  (h : wpList Tryz.prog ops Q rest (a.put o.dst undef) (w.setRow b #[.int .i64 k, .int .i64 n, .string t, .slice A3 n3 c3, .slice A4 n4 c4])) : wpList Tryz.prog ops Q (o :: rest) a w :=
 wpList_store_row hgd _ x y ho b _ hx hy _ _ hb val_size rfl (val_one _ _ _ _ _ _ _ _ _) h
end
theorem val_result {fn : Func} {p : Tmp} (hr : fn.results = #[.cell p 25]) {tmps : Array Value} {w : World} {b : Nat} {k n : Int} {t : ByteArray} {A3 A4 : Option Addr} {n3 c3 n4 c4 : Nat} (hp : tmps.getD p undef = .pointer (some ⟨b, 0, none⟩)) (hb : w.heap[b]? = some (.cells #[.int .i64 k, .int .i64 n, .string t, .slice A3 n3 c3, .slice A4 n4 c4] 25 (0, 0))) :
  (results fn tmps).run Tryz.prog w = .ok (.agg #[.int .i64 k, .int .i64 n, .string t, .slice A3 n3 c3, .slice A4 n4 c4]) w :=
 results_cell_row hr tmps w b _ _ _ _ hp hb Tryz.underlying25 rfl val_size
theorem ival_size : (Tryz.prog.info? 45).map (fun i => i.size) = some 5 := by kernel_rfl
section
variable {ops : Array Oper} {rest : List Oper} {o : Oper} {a : Act} {Q : Exit → Act → World → Prop}
theorem load_ival {w : World} {b : Nat} {k n : Int} {t : ByteArray} {A3 A4 : Option Addr} {n3 c3 n4 c4 : Nat} (x : Operand) (hgd : o.guard = none) (ho : o.op = .load 45 x) (hx : a.eval x = .pointer (some ⟨b, 0, none⟩)) (hb : w.heap[b]? = some (.cells #[.int .i64 k, .int .i64 n, .string t, .slice A3 n3 c3, .slice A4 n4 c4] 45 (0, 0)))
  (h : wpList Tryz.prog ops Q rest (a.put o.dst (.agg #[.int .i64 k, .int .i64 n, .string t, .slice A3 n3 c3, .slice A4 n4 c4])) w) : wpList Tryz.prog ops Q (o :: rest) a w :=
 wpList_load_row hgd _ x ho b hx _ _ _ _ hb Tryz.underlying45 rfl ival_size h
theorem store_ival {w : World} {b : Nat} {k n : Int} {t : ByteArray} {A3 A4 : Option Addr} {n3 c3 n4 c4 : Nat} {k' n' : Int} {t' : ByteArray} {A3' A4' : Option Addr} {n3' c3' n4' c4' : Nat} (x y : Operand) (hgd : o.guard = none) (ho : o.op = .store 45 x y) (hx : a.eval x = .pointer (some ⟨b, 0, none⟩)) (hy : a.eval y = .agg #[.int .i64 k, .int .i64 n, .string t, .slice A3 n3 c3, .slice A4 n4 c4]) (hb : w.heap[b]? = some (.cells #[.int .i64 k', .int .i64 n', .string t', .slice A3' n3' c3', .slice A4' n4' c4'] 45 (0, 0)))
  (h : wpList Tryz.prog ops Q rest (a.put o.dst undef) (w.setRow b #[.int .i64 k, .int .i64 n, .string t, .slice A3 n3 c3, .slice A4 n4 c4])) : wpList Tryz.prog ops Q (o :: rest) a w :=
 wpList_store_row hgd _ x y ho b _ hx hy _ _ hb ival_size rfl (val_one _ _ _ _ _ _ _ _ _) h
end
section
variable {α : Type} {sz : Nat} {Pf : α → List Value → Prop} {h5 : ∀ {x cs}, Pf x cs → cs.length = sz} {h1 : ∀ {x cs}, Pf x cs → ∀ u ∈ cs, u.oneCell' = true}
theorem one_held (w : World) (base : Nat) (e : TypeId) (hb : base ≤ w.heap.size) (x : α) {cs : List Value} (hx : Pf x cs) : (held sz Pf h5 h1).R e (w.alloc (.cells cs.toArray e)) base (fun _ => True) (.slice (some ⟨w.heap.size, 0, none⟩) 1 1) [x] := by
 have hl : cs.length = sz := h5 hx
 refine ⟨fun _ _ => trivial, cs, ⟨by rw [hl]; simp [held], .inr ⟨w.heap.size, 1, _, rfl, hb, cb_new _ _, Nat.le_refl _, by unfold maxLen; omega, by simp [hl, held], by simp [held]; exact List.take_of_length_le (show cs.length ≤ sz by omega)⟩⟩, by rw [hl]; simp [held], fun j q hq => ?_⟩
 have hj : j = 0 := by
  have := (List.getElem?_eq_some_iff.1 hq).1
  simp at this
  exact this
 subst hj
 injection hq with hq
 subst hq
 show Pf x ((cs.drop (0 * sz)).take sz)
 rw [Nat.zero_mul, List.drop_zero, List.take_of_length_le (by rw [hl]; exact Nat.le_refl _)]
 exact hx
theorem held_put {e : Nat} {W : World} {base : Nat} {ok : Nat → Prop} {g n cap : Nat} {xs : List α} (h : (held sz Pf h5 h1).R e W base ok (.slice (some ⟨g, 0, none⟩) n cap) xs) (i : Nat) (hi : i < n) (x : α) {cs : List Value} (hx : Pf x cs) :
  W.there g (i * sz) cs.length ∧ (held sz Pf h5 h1).R e (W.setCells g (i * sz) cs) base ok (.slice (some ⟨g, 0, none⟩) n cap) (xs.set i x) ∧ W.grownBy (W.setCells g (i * sz) cs) (some g) := by
 obtain ⟨c, hcl, hcM, hcc, hcf⟩ := Kd.R_elem h x (i : Int) (by omega) (by omega)
 have hl : cs.length = sz := h5 hx
 have ht : (i : Int).toNat = i := by simp
 refine ⟨fun j hj => ?_, ?_⟩
 ·have hjc : j < c.length := by rw [hcl]; show j < sz; omega
  have h2 := hcc j _ (List.getElem?_eq_getElem hjc)
  have h3 := hcf j
  rw [ht] at h2 h3
  exact ⟨by rw [show W.cell? ⟨g, i * sz + j, none⟩ = _ from h2]; rfl, h3⟩
 ·have h4 := Kd.R_seg (okp := fun _ => False) h (i : Int) (by omega) (by omega) (seg := cs) (j := 0) (x' := x) hcl hcc (by show 0 + cs.length ≤ sz; omega) (show Pf x (c.take 0 ++ cs ++ c.drop (0 + cs.length)) by
   rw [List.drop_eq_nil_of_le (by rw [hcl, hl]; show sz ≤ 0 + sz; omega), List.append_nil, List.take_zero, List.nil_append]
   exact hx) (fun _ hf => hf.elim)
  rw [ht] at h4
  exact h4
theorem R_held {d : Kd α} {e : Nat} {w : World} {base : Nat} {ok ok' : Nat → Prop} {v : Value} {xs : List α} (hsz : d.sz = sz) (hPf : ∀ x cs, Pf x cs → d.M w base (fun k => ok' k ∧ some k ≠ v.ownBlock) x cs) (hok : ∀ k, v.ownBlock = some k → ok' k) (h : (held sz Pf h5 h1).R e w base ok v xs) : d.R e w base ok' v xs := by
 obtain ⟨h0, inner, ho, hr⟩ := h
 refine ⟨hok, inner, ?_, ?_⟩
 ·rw [hsz]; exact ho
 ·rw [hsz]; exact hr.imp_ (fun x cs hp => hPf x cs hp)
end
theorem kI_at {w : World} {A : Option Addr} {xs : List S45} (h : kI.C w A xs.length xs) (h0 : 0 < xs.length) :
  ∃ bk off, A = some ⟨bk, off, none⟩ ∧ bk < w.heap.size ∧ ∀ (j : Nat) (hj : j < xs.length), ∃ A3 c3 A4 c4, w.cell? ⟨bk, off + j * 5, none⟩ = some (.int .i64 xs[j].f0) ∧ w.cell? ⟨bk, off + j * 5 + 1, none⟩ = some (.int .i64 xs[j].f1) ∧ w.cell? ⟨bk, off + j * 5 + 2, none⟩ = some (.string xs[j].f2) ∧ w.cell? ⟨bk, off + j * 5 + 3, none⟩ = some (.slice A3 xs[j].f3.length c3) ∧ w.cell? ⟨bk, off + j * 5 + 4, none⟩ = some (.slice A4 xs[j].f4.length c4) ∧ xs[j].f3.length ≤ c3 ∧ Kd.string.C w A3 xs[j].f3.length xs[j].f3 ∧ xs[j].f4.length ≤ c4 ∧ kI.C w A4 xs[j].f4.length xs[j].f4 := by
 obtain ⟨hl, hm, hc⟩ := h
 obtain ⟨ad, rfl, hcc⟩ := hc h0
 have cell : ∀ (j : Nat) (hj : j < xs.length), ∃ A3 c3 A4 c4, (∀ i u, ([.int .i64 xs[j].f0, .int .i64 xs[j].f1, .string xs[j].f2, .slice A3 xs[j].f3.length c3, .slice A4 xs[j].f4.length c4] : List Value)[i]? = some u → w.cell? (ad.add (j * 5 + i)) = some u) ∧ xs[j].f3.length ≤ c3 ∧ Kd.string.C w A3 xs[j].f3.length xs[j].f3 ∧ xs[j].f4.length ≤ c4 ∧ kI.C w A4 xs[j].f4.length xs[j].f4 := by
  intro j hj
  obtain ⟨c, hcl, hr, hcell⟩ := hcc j xs[j] (List.getElem?_eq_getElem hj)
  obtain ⟨A3, c3, A4, c4, rfl, l3, g3, l4, g4⟩ := k45_open hr
  exact ⟨A3, c3, A4, c4, hcell, l3, g3, l4, g4⟩
 obtain ⟨_, _, _, _, hx, _⟩ := cell 0 h0
 have c0 := hx 0 _ rfl
 rw [Nat.zero_mul, Nat.zero_add] at c0
 obtain ⟨bk, off, spot⟩ := ad
 have hspot : spot = none := by
  cases hs : spot with
  | none => rfl
  | some sp =>
   exfalso
   subst hs
   simp [World.cell?, Addr.add] at c0
   split at c0 <;> simp at c0
 subst hspot
 have add : ∀ j : Nat, (⟨bk, off, none⟩ : Addr).add j = ⟨bk, off + j, none⟩ := by intro j; unfold Addr.add; split <;> simp_all
 refine ⟨bk, off, rfl, ?_, fun j hj => ?_⟩
 ·rw [add] at c0
  exact World.block_lt_of_cell? w _ c0
 ·obtain ⟨A3, c3, A4, c4, hcell, l3, g3, l4, g4⟩ := cell j hj
  have e : ∀ i u, ([.int .i64 xs[j].f0, .int .i64 xs[j].f1, .string xs[j].f2, .slice A3 xs[j].f3.length c3, .slice A4 xs[j].f4.length c4] : List Value)[i]? = some u → w.cell? ⟨bk, off + j * 5 + i, none⟩ = some u := fun i u hu => by
   have := hcell i u hu
   rw [add, ← Nat.add_assoc] at this
   exact this
  exact ⟨A3, c3, A4, c4, e 0 _ rfl, e 1 _ rfl, e 2 _ rfl, e 3 _ rfl, e 4 _ rfl, l3, g3, l4, g4⟩
end Go.Proofs.YtaembebbaejfiaaGreatDoor.Tr
