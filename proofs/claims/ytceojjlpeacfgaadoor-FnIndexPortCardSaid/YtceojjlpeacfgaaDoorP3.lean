/- Parts of the proof, laid together: Q0, QSpecPlace, QSpecGet, QSpecHas, QSpecSayIn, QLawsZzFits2, QLawsZzFits1, Str, MapV, Kit, Rowstr, Buf, Frame, Place, Held. -/
import Derived.Test.YtceojjlpeacfgaaDoorProg
import Derived.Below
import Derived.Deep.Draws
import Derived.Deep.AppendLies
import Derived.Maps.AppendAt
import Derived.OwnWalk
import Derived.Laws.BytesArg
import Derived.Laws.MakeOwn
import Derived.Laws.OwnMore
import Derived.Deep.OwnRows
import Derived.Tactics
import Derived.Lib.ConvBytes
import Derived.Laws.Slices
import Derived.WalkKit
import Derived.KernelRfl
import Derived.RowKit3
import Derived.Deep.LoopGhost
import Derived.Deep.QuietTactic
import Derived.BigQuiet
import Derived.WideLaws
import Derived.Deep.DeepCutAuto
import Derived.Deep.CutBlock
import Derived.Deep.RegionHeld3
import Derived.Laws.Rows
import Derived.Lib.AppendStr
import Derived.ArgAppend
import Derived.Laws.IdiomCopy
import Derived.OrdersHeld
import Derived.Laws.BitsLemmas
import Derived.RowKit
import Derived.Laws.Cover1
import Derived.Test.YtceojjlpeacfgaaDoorP1
import Derived.Test.YtceojjlpeacfgaaDoorP2
import Derived.Maps.RangeWalk
import Derived.Maps.OwnOps
import Derived.Sort.KeysCollected
import Derived.Sort.Walk0
import Derived.Deep.MidRow
set_option linter.unusedVariables false
set_option linter.unusedSimpArgs false
namespace Go.Proofs.YtceojjlpeacfgaaDoor.PS
open Go.RowKit Go.Proofs.YtceojjlpeacfgaaDoorW.PrintWords Go.Proofs.YtceojjlpeacfgaaDoorW.PrintLast Go.Proofs.YtceojjlpeacfgaaDoorW.PrintMore
attribute [local go_sem] xf xd xj xi yw yu xe xc 
def errW : Option Int → Value
 | none => .nilIface
 | some c => .iface 0 (.int .i64 c)
theorem zu : errW none = .nilIface := rfl
theorem zt (c : Int) : errW (some c) = .iface 0 (.int .i64 c) := rfl
theorem info9 : (Tryd.prog.info? 9).map (fun i => (i.zero, i.size, i.bytes)) = some (some (.string ⟨#[]⟩), 1, 16) := by kernel_rfl
theorem yz : (Tryd.prog.info? 25).map (fun i => (i.zero, i.size, i.bytes)) = some (some (.agg #[(.int .i64 0), (.int .i64 0), (.string ⟨#[]⟩), (.slice none 0 0), (.slice none 0 0)]), 5, 80) := by kernel_rfl
theorem info32 : (Tryd.prog.info? 32).map (fun i => (i.zero, i.size, i.bytes)) = some (some (.agg #[(.int .i64 0), (.int .i64 0), (.string ⟨#[]⟩), (.slice none 0 0), (.slice none 0 0)]), 5, 80) := by kernel_rfl
structure S25 where
 f0 : Int
 f1 : Int
 f2 : ByteArray
 f3 : (List ByteArray)
 f4 : (List S25)
def z25 : S25 := ⟨(0 : Int), (0 : Int), (⟨#[]⟩ : ByteArray), ([] : List ByteArray), ([] : List S25)⟩
def F25 (d : Kd S25) : Kd S25 := Kd.iso (Kd.pair (Kd.int .i64) (Kd.pair (Kd.int .i64) (Kd.pair Kd.string (Kd.pair (Kd.slice 9 Kd.string) (Kd.slice 25 d))))) (fun x : S25 => (x.f0, x.f1, x.f2, x.f3, x.f4))
theorem mono25 : Kd.Mono F25 := Kd.mono_iso _ (Kd.mono_pair (Kd.mono_const _) (Kd.mono_pair (Kd.mono_const _) (Kd.mono_pair (Kd.mono_const _) (Kd.mono_pair (Kd.mono_const _) (Kd.mono_slice 25 Kd.mono_id)))))
theorem sub25 : Kd.Sub F25 [9, 25] := Kd.sub_iso _ (Kd.sub_pair (Kd.sub_const _ (by decide)) (Kd.sub_pair (Kd.sub_const _ (by decide)) (Kd.sub_pair (Kd.sub_const _ (by decide)) (Kd.sub_pair (Kd.sub_const _ (by decide)) (Kd.sub_slice 25 (by decide) Kd.sub_id)))))
theorem sz25 : ∀ n, (Kd.upto F25 5 [9, 25] n).sz = 5 := Kd.upto_sz (fun _ => rfl)
def k25 : Kd S25 := Kd.fix F25 5 [9, 25] sz25 (Kd.upto_E sub25)
theorem k25_heap : Kd.Heap k25 := Kd.heap_fix (fun _ h_ => Kd.heap_iso _ (Kd.heap_pair (Kd.heap_int .i64) (Kd.heap_pair (Kd.heap_int .i64) (Kd.heap_pair Kd.heap_string (Kd.heap_pair (Kd.heap_slice 9 Kd.heap_string) (Kd.heap_slice 25 h_))))))
theorem k25_open {w : World} {x : S25} {cs : List Value} (h : k25.K w x cs) : ∃ A3 c3 A4 c4, cs = [.int .i64 x.f0, .int .i64 x.f1, .string x.f2, .slice A3 x.f3.length c3, .slice A4 x.f4.length c4] ∧ x.f3.length ≤ c3 ∧ Kd.string.C w A3 x.f3.length x.f3 ∧ x.f4.length ≤ c4 ∧ k25.C w A4 x.f4.length x.f4 := by
 obtain ⟨n, h⟩ := h
 cases n with
 | zero => exact h.elim
 | succ n =>
  obtain ⟨_, _, rfl, rfl, ⟨_, _, rfl, rfl, ⟨_, _, rfl, rfl, ⟨_, _, rfl, ⟨A3, c3, rfl, l3, g3⟩, ⟨A4, c4, rfl, l4, g4⟩⟩⟩⟩⟩ := h; exact ⟨A3, c3, A4, c4, rfl, l3, g3, l4, Kd.fix_C g4⟩
theorem k25_mk (w : World) (x : S25) {A3 : Option Addr} {c3 : Nat} (l3 : x.f3.length ≤ c3) (g3 : Kd.string.C w A3 x.f3.length x.f3) {A4 : Option Addr} {c4 : Nat} (l4 : x.f4.length ≤ c4) (g4 : k25.C w A4 x.f4.length x.f4) : k25.K w x [.int .i64 x.f0, .int .i64 x.f1, .string x.f2, .slice A3 x.f3.length c3, .slice A4 x.f4.length c4] := by
 obtain ⟨n4, q4⟩ := Kd.fix_C_back mono25 g4; have r4 := Kd.upto_C_le mono25 sz25 (show n4 ≤ n4 by omega) q4; exact ⟨n4 + 1, ⟨[.int .i64 x.f0], [.int .i64 x.f1, .string x.f2, .slice A3 x.f3.length c3, .slice A4 x.f4.length c4], rfl, rfl, ⟨[.int .i64 x.f1], [.string x.f2, .slice A3 x.f3.length c3, .slice A4 x.f4.length c4], rfl, rfl, ⟨[.string x.f2], [.slice A3 x.f3.length c3, .slice A4 x.f4.length c4], rfl, rfl, ⟨[.slice A3 x.f3.length c3], [.slice A4 x.f4.length c4], rfl, ⟨A3, c3, rfl, l3, g3⟩, ⟨A4, c4, rfl, l4, r4⟩⟩⟩⟩⟩⟩
theorem k25_openF {W : World} {ok : Nat → Prop} {x : S25} {cs : List Value} (h : Kd.FK k25 W ok x cs) : ∃ A3 c3 A4 c4, cs = [.int .i64 x.f0, .int .i64 x.f1, .string x.f2, .slice A3 x.f3.length c3, .slice A4 x.f4.length c4] ∧ x.f3.length ≤ c3 ∧ Kd.F Kd.string W ok A3 x.f3.length x.f3 ∧ x.f4.length ≤ c4 ∧ Kd.F k25 W ok A4 x.f4.length x.f4 := by
 obtain ⟨A3, c3, A4, c4, rfl, l3, _, l4, _⟩ := k25_open (Kd.FK_now h); exact ⟨A3, c3, A4, c4, rfl, l3, (fun W' hW => by obtain ⟨A3_, c3_, A4_, c4_, he, l3_, g3_, l4_, g4_⟩ := k25_open (h W' hW); injection (Option.some.inj (show some (Value.slice A3 x.f3.length c3) = some (Value.slice A3_ x.f3.length c3_) from congrArg (fun l => l[3]?) he)) with ha_ _ _; rw [ha_]; exact g3_), l4, (fun W' hW => by obtain ⟨A3_, c3_, A4_, c4_, he, l3_, g3_, l4_, g4_⟩ := k25_open (h W' hW); injection (Option.some.inj (show some (Value.slice A4 x.f4.length c4) = some (Value.slice A4_ x.f4.length c4_) from congrArg (fun l => l[4]?) he)) with ha_ _ _; rw [ha_]; exact g4_)⟩
theorem k25_mkF (W : World) (ok : Nat → Prop) (x : S25) {A3 : Option Addr} {c3 : Nat} (l3 : x.f3.length ≤ c3) (g3 : Kd.F Kd.string W ok A3 x.f3.length x.f3) {A4 : Option Addr} {c4 : Nat} (l4 : x.f4.length ≤ c4) (g4 : Kd.F k25 W ok A4 x.f4.length x.f4) : Kd.FK k25 W ok x [.int .i64 x.f0, .int .i64 x.f1, .string x.f2, .slice A3 x.f3.length c3, .slice A4 x.f4.length c4] := fun W2 hW => k25_mk W2 x l3 (g3 W2 hW) l4 (g4 W2 hW)
def rd_T25 (xs : List S25) (i : Int) : S25 := xs.getD i.toNat z25
theorem xk {w : World} {A : Option Addr} {n : Nat} {xs : List S25} (h : Kd.C k25 w A n xs) (i : Int) (h0 : 0 ≤ i) (h1 : i < n) : ∃ ad A3 c3 A4 c4, A = some ad ∧ w.cell? (ad.add (i.toNat * 5)) = some (.int .i64 (rd_T25 xs i).f0) ∧ w.cell? ⟨(ad.add (i.toNat * 5)).block, (ad.add (i.toNat * 5)).off + 1, none⟩ = some (.int .i64 (rd_T25 xs i).f1) ∧ w.cell? ⟨(ad.add (i.toNat * 5)).block, (ad.add (i.toNat * 5)).off + 2, none⟩ = some (.string (rd_T25 xs i).f2) ∧ w.cell? ⟨(ad.add (i.toNat * 5)).block, (ad.add (i.toNat * 5)).off + 3, none⟩ = some (.slice A3 (rd_T25 xs i).f3.length c3) ∧ w.cell? ⟨(ad.add (i.toNat * 5)).block, (ad.add (i.toNat * 5)).off + 4, none⟩ = some (.slice A4 (rd_T25 xs i).f4.length c4) ∧ (rd_T25 xs i).f3.length ≤ c3 ∧ Kd.string.C w A3 (rd_T25 xs i).f3.length (rd_T25 xs i).f3 ∧ (rd_T25 xs i).f4.length ≤ c4 ∧ k25.C w A4 (rd_T25 xs i).f4.length (rd_T25 xs i).f4 := by
 obtain ⟨ad, c, e, _, hK, hc0⟩ := Kd.C_get h z25 i h0 h1; have hc : ∀ j u, c[j]? = some u → w.cell? (ad.add (i.toNat * 5 + j)) = some u := hc0; obtain ⟨A3, c3, A4, c4, rfl, l3, g3, l4, g4⟩ := k25_open hK; exact ⟨ad, A3, c3, A4, c4, e, hc 0 _ rfl, by rw [← add_field _ _ 1 (by omega)]; exact hc 1 _ rfl, by rw [← add_field _ _ 2 (by omega)]; exact hc 2 _ rfl, by rw [← add_field _ _ 3 (by omega)]; exact hc 3 _ rfl, by rw [← add_field _ _ 4 (by omega)]; exact hc 4 _ rfl, l3, g3, l4, g4⟩
structure S32 where
 f0 : Int
 f1 : Int
 f2 : ByteArray
 f3 : (List ByteArray)
 f4 : (List S32)
def F32 (d : Kd S32) : Kd S32 := Kd.iso (Kd.pair (Kd.int .i64) (Kd.pair (Kd.int .i64) (Kd.pair Kd.string (Kd.pair (Kd.slice 9 Kd.string) (Kd.slice 32 d))))) (fun x : S32 => (x.f0, x.f1, x.f2, x.f3, x.f4))
theorem mono32 : Kd.Mono F32 := Kd.mono_iso _ (Kd.mono_pair (Kd.mono_const _) (Kd.mono_pair (Kd.mono_const _) (Kd.mono_pair (Kd.mono_const _) (Kd.mono_pair (Kd.mono_const _) (Kd.mono_slice 32 Kd.mono_id)))))
theorem sub32 : Kd.Sub F32 [9, 32] := Kd.sub_iso _ (Kd.sub_pair (Kd.sub_const _ (by decide)) (Kd.sub_pair (Kd.sub_const _ (by decide)) (Kd.sub_pair (Kd.sub_const _ (by decide)) (Kd.sub_pair (Kd.sub_const _ (by decide)) (Kd.sub_slice 32 (by decide) Kd.sub_id)))))
theorem sz32 : ∀ n, (Kd.upto F32 5 [9, 32] n).sz = 5 := Kd.upto_sz (fun _ => rfl)
def k32 : Kd S32 := Kd.fix F32 5 [9, 32] sz32 (Kd.upto_E sub32)
theorem k32_open {w : World} {x : S32} {cs : List Value} (h : k32.K w x cs) : ∃ A3 c3 A4 c4, cs = [.int .i64 x.f0, .int .i64 x.f1, .string x.f2, .slice A3 x.f3.length c3, .slice A4 x.f4.length c4] ∧ x.f3.length ≤ c3 ∧ Kd.string.C w A3 x.f3.length x.f3 ∧ x.f4.length ≤ c4 ∧ k32.C w A4 x.f4.length x.f4 := by
 obtain ⟨n, h⟩ := h
 cases n with
 | zero => exact h.elim
 | succ n =>
  obtain ⟨_, _, rfl, rfl, ⟨_, _, rfl, rfl, ⟨_, _, rfl, rfl, ⟨_, _, rfl, ⟨A3, c3, rfl, l3, g3⟩, ⟨A4, c4, rfl, l4, g4⟩⟩⟩⟩⟩ := h; exact ⟨A3, c3, A4, c4, rfl, l3, g3, l4, Kd.fix_C g4⟩
theorem k32_mkM (w : World) (base : Nat) (ok : Nat → Prop) (x : S32) {v3 : Value} (g3 : Kd.string.R 9 w base ok v3 x.f3) {v4 : Value} (g4 : k32.R 32 w base ok v4 x.f4) : k32.M w base ok x [.int .i64 x.f0, .int .i64 x.f1, .string x.f2, v3, v4] := by
 obtain ⟨n4, q4⟩ := Kd.fix_R_back mono32 g4; have r4 := Kd.upto_R_le mono32 sz32 (show n4 ≤ n4 by omega) q4; exact ⟨n4 + 1, ⟨[.int .i64 x.f0], [.int .i64 x.f1, .string x.f2, v3, v4], rfl, rfl, ⟨[.int .i64 x.f1], [.string x.f2, v3, v4], rfl, rfl, ⟨[.string x.f2], [v3, v4], rfl, rfl, ⟨[v3], [v4], rfl, ⟨v3, rfl, g3⟩, ⟨v4, rfl, r4⟩⟩⟩⟩⟩⟩
attribute [local go_sem] xf xd xj xi yw yu xe xc 
def spec_place.l0 : Nat → ByteArray → Int → Int → Int → ByteArray → List ByteArray → List (S25) → Option (Int × Bool)
 | 0, _, _, _, _, _, _, _ => none
 | k + 1, x1, x6, x109000, x109001, x109002, x109003, x109004 => if x6 < (x109003.length : Int) then (if 0 ≤ x6 then (if ((Op.bytesLess ((rdOf ByteArray.empty x109003 x6).toList) x1.toList) = true) then (spec_place.l0 k x1 (wrap64 (x6 + 1)) x109000 x109001 x109002 x109003 x109004) else (some (x6, ((rdOf ByteArray.empty x109003 x6).toList == x1.toList)))) else (none)) else (some ((x109003.length : Int), false))
def spec_place.f (k : Nat) (a0_0 : Int) (a0_1 : Int) (a0_2 : ByteArray) (l0_3 : List ByteArray) (l0_4 : List (S25)) (a1 : ByteArray) : Option (Int × Bool) := spec_place.l0 k a1 0 a0_0 a0_1 a0_2 l0_3 l0_4
set_option maxHeartbeats 8000000 in
set_option maxRecDepth 100000 in
theorem spec_place.calls (k : Nat) (a0_0 : Int) (a0_1 : Int) (a0_2 : ByteArray) (A0_3 : Option Addr) (c0_3 : Nat) (l0_3 : List ByteArray) (A0_4 : Option Addr) (c0_4 : Nat) (l0_4 : List (S25)) (a1 : ByteArray) (r1 : Int) (r2 : Bool) (w : World) (hr0_3 : Kd.C Kd.string w A0_3 l0_3.length l0_3) (hc0_3 : l0_3.length ≤ c0_3) (hr0_4 : Kd.C k25 w A0_4 l0_4.length l0_4) (hc0_4 : l0_4.length ≤ c0_4) (h : spec_place.f k a0_0 a0_1 a0_2 l0_3 l0_4 a1 = some (r1, r2)) :
  Calls Tryd.prog 25 #[.agg #[.int .i64 a0_0, .int .i64 a0_1, .string a0_2, .slice A0_3 l0_3.length c0_3, .slice A0_4 l0_4.length c0_4], .string a1] w fun e w' => e = .returned (.tuple #[.int .i64 r1, .bool r2]) ∧ Below w.heap.size w w' := by
 have hu25 := Tryd.underlying25; have HR0_3 := aM hr0_3; have HC0_3 := aM hc0_3; clear hr0_3 hc0_3; have HR0_4 := aM hr0_4; have HC0_4 := aM hc0_4; clear hr0_4 hc0_4; have HB := aM (Below.refl w.heap.size w); have H : (spec_place.l0 k a1 0 a0_0 a0_1 a0_2 l0_3 l0_4) = some (r1, r2) := h; clear h; have H' := aM H; clear H
 go_enter Tryd.func25, Tryd.ntmps25
 go_wp2_with (first | ((with_reducible refine ya (N := 2) rfl ?_); refine zw ?hg (N := 2) ?hd (cs := #[.int .i64 a0_0, .int .i64 a0_1, .string a0_2, .slice A0_3 l0_3.length c0_3, .slice A0_4 l0_4.length c0_4]) (t := 25) ?hr ?_; (case hd => rfl); (case hg => rfl); (case hr => first | (go_simp; done) | (go_simp; rfl)); intro gb108 hg w3 hbox hb; have n0_ := aM (zo (by repeat (first | (with_reducible first | exact HB.out | apply zf | apply zc | apply zj) | exact HB.out)) hb); have n1_ := aM (hbox); have n2_ := aM ((by rw [hg]; exact (zm (by repeat (first | (with_reducible first | exact HB.out | apply zf | apply zc | apply zj) | exact HB.out))) : w.heap.size ≤ gb108)); have n3_ := aM ((by rw [hg]; exact (zm (by repeat (first | (with_reducible first | exact HB.out | apply zf | apply zc | apply zj) | exact HB.out))) : w.heap.size ≤ gb108)); clear HB; have HB := n0_; have BK108 := n1_; have GW108 := n2_; have GE108 := n3_; clear n0_ n1_ n2_ n3_; clear hb hbox hg))
 repeat (go_quiet (first | ((with_reducible refine ya (N := 2) rfl ?_); refine zw ?hg (N := 2) ?hd (cs := #[.int .i64 a0_0, .int .i64 a0_1, .string a0_2, .slice A0_3 l0_3.length c0_3, .slice A0_4 l0_4.length c0_4]) (t := 25) ?hr ?_; (case hd => rfl); (case hg => rfl); (case hr => first | (go_simp; done) | (go_simp; rfl)); intro gb108 hg w3 hbox hb; have n0_ := aM (zo (by repeat (first | (with_reducible first | exact HB.out | apply zf | apply zc | apply zj) | exact HB.out)) hb); have n1_ := aM (hbox); have n2_ := aM ((by rw [hg]; exact (zm (by repeat (first | (with_reducible first | exact HB.out | apply zf | apply zc | apply zj) | exact HB.out))) : w.heap.size ≤ gb108)); have n3_ := aM ((by rw [hg]; exact (zm (by repeat (first | (with_reducible first | exact HB.out | apply zf | apply zc | apply zj) | exact HB.out))) : w.heap.size ≤ gb108)); clear HB; have HB := n0_; have BK108 := n1_; have GW108 := n2_; have GE108 := n3_; clear n0_ n1_ n2_ n3_; clear hb hbox hg)); try go_wp2_with (first | ((with_reducible refine ya (N := 2) rfl ?_); refine zw ?hg (N := 2) ?hd (cs := #[.int .i64 a0_0, .int .i64 a0_1, .string a0_2, .slice A0_3 l0_3.length c0_3, .slice A0_4 l0_4.length c0_4]) (t := 25) ?hr ?_; (case hd => rfl); (case hg => rfl); (case hr => first | (go_simp; done) | (go_simp; rfl)); intro gb108 hg w3 hbox hb; have n0_ := aM (zo (by repeat (first | (with_reducible first | exact HB.out | apply zf | apply zc | apply zj) | exact HB.out)) hb); have n1_ := aM (hbox); have n2_ := aM ((by rw [hg]; exact (zm (by repeat (first | (with_reducible first | exact HB.out | apply zf | apply zc | apply zj) | exact HB.out))) : w.heap.size ≤ gb108)); have n3_ := aM ((by rw [hg]; exact (zm (by repeat (first | (with_reducible first | exact HB.out | apply zf | apply zc | apply zj) | exact HB.out))) : w.heap.size ≤ gb108)); clear HB; have HB := n0_; have BK108 := n1_; have GW108 := n2_; have GE108 := n3_; clear n0_ n1_ n2_ n3_; clear hb hbox hg)))
 go_loopg [6] k (fun kq v6 w' => ∃ (x6_1 : Int), v6 = .int .i64 x6_1 ∧ Aside0 (spec_place.l0 kq a1 x6_1 a0_0 a0_1 a0_2 l0_3 l0_4 = some (r1, r2)) ∧ Aside0 (kq ≤ k) ∧ Aside0 (w'.heap[gb108]? = some (.cells #[.int .i64 a0_0, .int .i64 a0_1, .string a0_2, (.slice A0_3 l0_3.length c0_3), (.slice A0_4 l0_4.length c0_4)] 25 (0, 0))) ∧ Aside0 (Below w.heap.size w w'))
 case atStart => exact ⟨(0), (by first | rfl | (simp; done) | (simp [*]; done)), H', ⟨Nat.le_refl _⟩, ⟨by (with_reducible repeat (first | refine zg ?_ _ | refine zh ?_ | refine ze ?_ _)); exact BK108.out⟩, ⟨by repeat (first | (with_reducible first | exact HB.out | apply zf | apply zc | apply zj | refine zi ?_ GE108.out) | exact HB.out)⟩⟩
 case round =>
  clear H'
  try clear c2
  try clear p2
  obtain ⟨x6_1, rfl, HA, HK1, BK108, HB⟩ := hrel
  cases gk with
  | zero => exact absurd HA.out (by simp [spec_place.l0])
  | succ k1 =>
   have H := HA.out; clear HA; simp only [spec_place.l0] at H
   by_cases c4 : x6_1 < (l0_3.length : Int)
   ·rw [if_pos c4] at H; have c4b0 : decide (x6_1 < (l0_3.length : Int)) = true := decide_eq_true c4; clear c4
    by_cases c5 : 0 ≤ x6_1
    ·rw [if_pos c5] at H; have c5b0 : decide (0 ≤ x6_1) = true := decide_eq_true c5; clear c5
     by_cases c6 : ((Op.bytesLess ((rdOf ByteArray.empty l0_3 x6_1).toList) a1.toList) = true)
     ·rw [if_pos c6] at H; have c6b0 : (Op.bytesLess ((rdOf ByteArray.empty l0_3 x6_1).toList) a1.toList) = true := c6; clear c6; have H' := aM H; clear H; have hcz7_0 : wr.cell? ⟨gb108, 0, none⟩ = some (.int .i64 a0_0) := (za BK108.out 0).trans rfl; have hcz7_1 : wr.cell? ⟨gb108, 1, none⟩ = some (.int .i64 a0_1) := (za BK108.out 1).trans rfl; have hcz7_2 : wr.cell? ⟨gb108, 2, none⟩ = some (.string a0_2) := (za BK108.out 2).trans rfl; have hcz7_3 : wr.cell? ⟨gb108, 3, none⟩ = some (.slice A0_3 l0_3.length c0_3) := (za BK108.out 3).trans rfl; have hcz7_4 : wr.cell? ⟨gb108, 4, none⟩ = some (.slice A0_4 l0_4.length c0_4) := (za BK108.out 4).trans rfl; have hfz7_0 := zb BK108.out 0; have hfz7_1 := zb BK108.out 1; have hfz7_2 := zb BK108.out 2; have hfz7_3 := zb BK108.out 3; have hfz7_4 := zb BK108.out 4; have p109 : 0 ≤ (x6_1 : Int) := of_decide_eq_true (by first | (with_reducible assumption) | assumption); have q109 : x6_1 < (l0_3.length : Int) := of_decide_eq_true (by first | (with_reducible assumption) | assumption); obtain ⟨ad109, e109, hx109_0⟩ := Kd.at_string HR0_3.out x6_1 p109 q109
      cases e109
      replace hx109_0 := (HB.out.cell (World.block_lt_of_cell? w _ hx109_0)).trans hx109_0; replace p109 := eq_true p109; replace q109 := eq_true q109
      go_wp2
      repeat (go_quiet (fail); try go_wp2)
      go_roundg k1
      case measure => have := HK1.out; omega
      case rel => exact ⟨(wrap64 (x6_1 + 1)), (by first | rfl | (simp; done) | (simp [*]; done)), H', ⟨by have := HK1.out; omega⟩, ⟨by (with_reducible repeat (first | refine zg ?_ _ | refine zh ?_ | refine ze ?_ _)); exact BK108.out⟩, ⟨by repeat (first | (with_reducible first | exact HB.out | apply zf | apply zc | apply zj | refine zi ?_ GE108.out) | exact HB.out)⟩⟩
     ·rw [if_neg c6] at H
      have c6b0 : (Op.bytesLess ((rdOf ByteArray.empty l0_3 x6_1).toList) a1.toList) = false := by simpa using c6
      clear c6; simp only [Option.some.injEq, Prod.mk.injEq] at H; obtain ⟨rfl, rfl⟩ := H; have hcz8_0 : wr.cell? ⟨gb108, 0, none⟩ = some (.int .i64 a0_0) := (za BK108.out 0).trans rfl; have hcz8_1 : wr.cell? ⟨gb108, 1, none⟩ = some (.int .i64 a0_1) := (za BK108.out 1).trans rfl; have hcz8_2 : wr.cell? ⟨gb108, 2, none⟩ = some (.string a0_2) := (za BK108.out 2).trans rfl; have hcz8_3 : wr.cell? ⟨gb108, 3, none⟩ = some (.slice A0_3 l0_3.length c0_3) := (za BK108.out 3).trans rfl; have hcz8_4 : wr.cell? ⟨gb108, 4, none⟩ = some (.slice A0_4 l0_4.length c0_4) := (za BK108.out 4).trans rfl; have hfz8_0 := zb BK108.out 0; have hfz8_1 := zb BK108.out 1; have hfz8_2 := zb BK108.out 2; have hfz8_3 := zb BK108.out 3; have hfz8_4 := zb BK108.out 4; have p109 : 0 ≤ (x6_1 : Int) := of_decide_eq_true (by first | (with_reducible assumption) | assumption); have q109 : x6_1 < (l0_3.length : Int) := of_decide_eq_true (by first | (with_reducible assumption) | assumption); obtain ⟨ad109, e109, hx109_0⟩ := Kd.at_string HR0_3.out x6_1 p109 q109
      cases e109
      replace hx109_0 := (HB.out.cell (World.block_lt_of_cell? w _ hx109_0)).trans hx109_0; replace p109 := eq_true p109; replace q109 := eq_true q109; have p110 : 0 ≤ (x6_1 : Int) := of_decide_eq_true (by first | (with_reducible assumption) | assumption); have q110 : x6_1 < (l0_3.length : Int) := of_decide_eq_true (by first | (with_reducible assumption) | assumption); obtain ⟨ad110, e110, hx110_0⟩ := Kd.at_string HR0_3.out x6_1 p110 q110
      obtain rfl : ad109 = ad110 := (by injection e110)
      replace hx110_0 := (HB.out.cell (World.block_lt_of_cell? w _ hx110_0)).trans hx110_0; replace p110 := eq_true p110; replace q110 := eq_true q110
      go_wp2
      repeat (go_quiet (fail); try go_wp2)
      go_ret2
      exact ⟨by first | rfl | (simp [zu, zt] <;> rfl) | (simp [*, zu, zt] <;> rfl), by repeat (first | (with_reducible first | exact HB.out | apply zf | apply zc | apply zj | refine zi ?_ GE108.out) | exact HB.out)⟩
    ·rw [if_neg c5] at H; exact absurd H (by simp)
   ·rw [if_neg c4] at H; have c4b0 : decide (x6_1 < (l0_3.length : Int)) = false := decide_eq_false c4; clear c4; simp only [Option.some.injEq, Prod.mk.injEq] at H; obtain ⟨rfl, rfl⟩ := H; have hcz9_0 : wr.cell? ⟨gb108, 0, none⟩ = some (.int .i64 a0_0) := (za BK108.out 0).trans rfl; have hcz9_1 : wr.cell? ⟨gb108, 1, none⟩ = some (.int .i64 a0_1) := (za BK108.out 1).trans rfl; have hcz9_2 : wr.cell? ⟨gb108, 2, none⟩ = some (.string a0_2) := (za BK108.out 2).trans rfl; have hcz9_3 : wr.cell? ⟨gb108, 3, none⟩ = some (.slice A0_3 l0_3.length c0_3) := (za BK108.out 3).trans rfl; have hcz9_4 : wr.cell? ⟨gb108, 4, none⟩ = some (.slice A0_4 l0_4.length c0_4) := (za BK108.out 4).trans rfl; have hfz9_0 := zb BK108.out 0; have hfz9_1 := zb BK108.out 1; have hfz9_2 := zb BK108.out 2; have hfz9_3 := zb BK108.out 3; have hfz9_4 := zb BK108.out 4
    go_wp2
    repeat (go_quiet (fail); try go_wp2)
    go_ret2
    exact ⟨by first | rfl | (simp [zu, zt] <;> rfl) | (simp [*, zu, zt] <;> rfl), by repeat (first | (with_reducible first | exact HB.out | apply zf | apply zc | apply zj | refine zi ?_ GE108.out) | exact HB.out)⟩
attribute [local go_sem] xf xd xj xi yw yu xe xc 
def spec_Get.f (k : Nat) (a0_0 : Int) (a0_1 : Int) (a0_2 : ByteArray) (l0_3 : List ByteArray) (l0_4 : List (S25)) (a1 : ByteArray) : Option (Int × Int × ByteArray × List ByteArray × (List (S25)) × Bool) := if a0_0 = 5 then ((spec_place.f k a0_0 a0_1 a0_2 l0_3 l0_4 a1).bind fun bt211 => (if bt211.2 = true then (if 0 ≤ bt211.1 then (if bt211.1 < (l0_4.length : Int) then (some ((rd_T25 l0_4 bt211.1).f0, (rd_T25 l0_4 bt211.1).f1, (rd_T25 l0_4 bt211.1).f2, (rd_T25 l0_4 bt211.1).f3, (rd_T25 l0_4 bt211.1).f4, true)) else (none)) else (none)) else (some (0, 0, (⟨#[]⟩ : ByteArray), ([] : List ByteArray), ([] : List (S25)), false)))) else (some (0, 0, (⟨#[]⟩ : ByteArray), ([] : List ByteArray), ([] : List (S25)), false))
set_option maxHeartbeats 8000000 in
set_option maxRecDepth 100000 in
theorem spec_Get.calls (k : Nat) (a0_0 : Int) (a0_1 : Int) (a0_2 : ByteArray) (A0_3 : Option Addr) (c0_3 : Nat) (l0_3 : List ByteArray) (P0_4_ : Nat → Prop) (A0_4 : Option Addr) (c0_4 : Nat) (l0_4 : List (S25)) (a1 : ByteArray) (r1 : Int) (r2 : Int) (r3 : ByteArray) (r4 : List ByteArray) (r5 : List (S25)) (r6 : Bool) (w : World) (hr0_3 : Kd.C Kd.string w A0_3 l0_3.length l0_3) (hc0_3 : l0_3.length ≤ c0_3) (hs0_4 : Kd.V k25 25 w w.heap.size (fun k_ => P0_4_ k_) (.slice A0_4 l0_4.length c0_4) l0_4) (h : spec_Get.f k a0_0 a0_1 a0_2 l0_3 l0_4 a1 = some (r1, r2, r3, r4, r5, r6)) :
  Calls Tryd.prog 26 #[.agg #[.int .i64 a0_0, .int .i64 a0_1, .string a0_2, .slice A0_3 l0_3.length c0_3, .slice A0_4 l0_4.length c0_4], .string a1] w fun e w' => ∃ v3_ v4_ : Value, e = .returned (.tuple #[.agg #[.int .i64 r1, .int .i64 r2, .string r3, v3_, v4_], .bool r6]) ∧ Kd.V Kd.string 9 w' w.heap.size (fun k_ => (P0_4_ k_ ∨ w.heap.size ≤ k_)) v3_ r4 ∧ Kd.V k25 25 w' w.heap.size (fun k_ => (P0_4_ k_ ∨ w.heap.size ≤ k_)) v4_ r5 ∧ Below w.heap.size w w' := by
 have hu25 := Tryd.underlying25; have HR0_3 := aM hr0_3; have HC0_3 := aM hc0_3; clear hr0_3 hc0_3; have HO0_4 := aM (show Kd.V k25 25 w w.heap.size (fun k_ => (P0_4_ k_ ∨ w.heap.size ≤ k_)) (.slice A0_4 l0_4.length c0_4) l0_4 from Kd.V_mono hs0_4 (fun k_ hk => .inl hk)); have HB := aM (Below.refl w.heap.size w); have H : (if a0_0 = 5 then ((spec_place.f k a0_0 a0_1 a0_2 l0_3 l0_4 a1).bind fun bt211 => (if bt211.2 = true then (if 0 ≤ bt211.1 then (if bt211.1 < (l0_4.length : Int) then (some ((rd_T25 l0_4 bt211.1).f0, (rd_T25 l0_4 bt211.1).f1, (rd_T25 l0_4 bt211.1).f2, (rd_T25 l0_4 bt211.1).f3, (rd_T25 l0_4 bt211.1).f4, true)) else (none)) else (none)) else (some (0, 0, (⟨#[]⟩ : ByteArray), ([] : List ByteArray), ([] : List (S25)), false)))) else (some (0, 0, (⟨#[]⟩ : ByteArray), ([] : List ByteArray), ([] : List (S25)), false))) = some (r1, r2, r3, r4, r5, r6) := h; clear h
 by_cases c3 : a0_0 = 5
 ·rw [if_pos c3] at H; have c3b0 : (a0_0 == 5) = true := beq_iff_eq.mpr c3; have c3b1 : (a0_0 != 5) = false := bne_eq_false_iff_eq.mpr c3; clear c3; replace H := Option.bind_eq_some_iff.mp H; obtain ⟨⟨t211, t212⟩, A40, H⟩ := H; replace H : (if t212 = true then (if 0 ≤ t211 then (if t211 < (l0_4.length : Int) then (some ((rd_T25 l0_4 t211).f0, (rd_T25 l0_4 t211).f1, (rd_T25 l0_4 t211).f2, (rd_T25 l0_4 t211).f3, (rd_T25 l0_4 t211).f4, true)) else (none)) else (none)) else (some (0, 0, (⟨#[]⟩ : ByteArray), ([] : List ByteArray), ([] : List (S25)), false))) = some (r1, r2, r3, r4, r5, r6) := H; have A4 := aM A40; clear A40
  by_cases c5 : t212 = true
  ·subst c5
   have H1 : (if 0 ≤ t211 then (if t211 < (l0_4.length : Int) then (some ((rd_T25 l0_4 t211).f0, (rd_T25 l0_4 t211).f1, (rd_T25 l0_4 t211).f2, (rd_T25 l0_4 t211).f3, (rd_T25 l0_4 t211).f4, true)) else (none)) else (none)) = some (r1, r2, r3, r4, r5, r6) := by rw [if_pos rfl] at H; exact H
   clear H; have H := H1; clear H1
   by_cases c6 : 0 ≤ t211
   ·rw [if_pos c6] at H; have c6b0 : decide (0 ≤ t211) = true := decide_eq_true c6; clear c6
    by_cases c7 : t211 < (l0_4.length : Int)
    ·rw [if_pos c7] at H; have c7b0 : decide (t211 < (l0_4.length : Int)) = true := decide_eq_true c7; clear c7; simp only [Option.some.injEq, Prod.mk.injEq] at H; obtain ⟨rfl, rfl, rfl, rfl, rfl, rfl⟩ := H
     go_enter Tryd.func26, Tryd.ntmps26
     go_wp2_with (first | ((with_reducible refine ya (N := 2) rfl ?_); refine zw ?hg (N := 2) ?hd (cs := #[.int .i64 a0_0, .int .i64 a0_1, .string a0_2, .slice A0_3 l0_3.length c0_3, .slice A0_4 l0_4.length c0_4]) (t := 25) ?hr ?_; (case hd => rfl); (case hg => rfl); (case hr => first | (go_simp; done) | (go_simp; rfl)); intro gb209 hg w8 hbox hb; have n0_ := aM (Kd.V_below (Kd.V_elderB (by (with_reducible repeat (first | apply Kd.V_alloc | apply Kd.V_drewN | apply Kd.V_drew)); exact HO0_4.out) gb209 (Nat.le_of_eq hg.symm)) hb); have n1_ := aM (zo (by repeat (first | (with_reducible first | exact HB.out | apply zf | apply zc | apply zj) | exact HB.out)) hb); have n2_ := aM (hbox); have n3_ := aM ((by rw [hg]; exact (zm (by repeat (first | (with_reducible first | exact HB.out | apply zf | apply zc | apply zj) | exact HB.out))) : w.heap.size ≤ gb209)); have n4_ := aM ((by rw [hg]; exact (zm (by repeat (first | (with_reducible first | exact HB.out | apply zf | apply zc | apply zj) | exact HB.out))) : w.heap.size ≤ gb209)); clear HO0_4; clear HB; have HO0_4 := n0_; have HB := n1_; have BK209 := n2_; have GW209 := n3_; have GE209 := n4_; clear n0_ n1_ n2_ n3_ n4_; clear hb hbox hg) | ((with_reducible refine ya (N := 4) rfl ?_); refine zw ?hg (N := 4) ?hd (cs := #[.int .i64 0, .int .i64 0, .string (⟨#[]⟩ : ByteArray), .slice none 0 0, .slice none 0 0]) (t := 25) ?hr ?_; (case hd => rfl); (case hg => rfl); (case hr => first | (go_simp; done) | (go_simp; rfl)); intro gb210 hg w9 hbox hb; have n0_ := aM (Kd.V_below (Kd.V_elderB (by (with_reducible repeat (first | apply Kd.V_alloc | apply Kd.V_drewN | apply Kd.V_drew)); exact HO0_4.out) gb210 (Nat.le_of_eq hg.symm)) hb); have n1_ := aM (zq (g := gb209) (o := .cells #[.int .i64 a0_0, .int .i64 a0_1, .string a0_2, .slice A0_3 l0_3.length c0_3, .slice A0_4 l0_4.length c0_4] 25 (0, 0)) (by (with_reducible repeat (first | refine zg ?_ _ | refine zh ?_ | refine ze ?_ _)); exact BK209.out) hb); have n2_ := aM (zo (by repeat (first | (with_reducible first | exact HB.out | apply zf | apply zc | apply zj | refine zi ?_ GE209.out) | exact HB.out)) hb); have n3_ := aM (hbox); have n4_ := aM ((by rw [hg]; exact (zm (by repeat (first | (with_reducible first | exact HB.out | apply zf | apply zc | apply zj | refine zi ?_ GE209.out) | exact HB.out))) : w.heap.size ≤ gb210)); have n5_ := aM ((by rw [hg]; exact (zm (by repeat (first | (with_reducible first | exact HB.out | apply zf | apply zc | apply zj | refine zi ?_ GE209.out) | exact HB.out))) : w.heap.size ≤ gb210)); have n6_ := aM ((by rw [hg]; exact Nat.ne_of_lt (ye (g := gb209) (o := .cells #[.int .i64 a0_0, .int .i64 a0_1, .string a0_2, .slice A0_3 l0_3.length c0_3, .slice A0_4 l0_4.length c0_4] 25 (0, 0)) (by (with_reducible repeat (first | refine zg ?_ _ | refine zh ?_ | refine ze ?_ _)); exact BK209.out)) : gb209 ≠ gb210)); have n7_ := aM ((by rw [hg]; exact Nat.ne_of_gt (ye (g := gb209) (o := .cells #[.int .i64 a0_0, .int .i64 a0_1, .string a0_2, .slice A0_3 l0_3.length c0_3, .slice A0_4 l0_4.length c0_4] 25 (0, 0)) (by (with_reducible repeat (first | refine zg ?_ _ | refine zh ?_ | refine ze ?_ _)); exact BK209.out)) : gb210 ≠ gb209)); clear HO0_4; clear BK209; clear HB; have HO0_4 := n0_; have BK209 := n1_; have HB := n2_; have BK210 := n3_; have GW210 := n4_; have GE210 := n5_; have NB209_210 := n6_; have NB210_209 := n7_; clear n0_ n1_ n2_ n3_ n4_ n5_ n6_ n7_; clear hb hbox hg; have hnb10 := NB209_210.out; have hnc10 := NB210_209.out; have hcz11_0 : w9.cell? ⟨gb209, 0, none⟩ = some (.int .i64 a0_0) := (za BK209.out 0).trans rfl; have hcz11_1 : w9.cell? ⟨gb209, 1, none⟩ = some (.int .i64 a0_1) := (za BK209.out 1).trans rfl; have hcz11_2 : w9.cell? ⟨gb209, 2, none⟩ = some (.string a0_2) := (za BK209.out 2).trans rfl; have hcz11_3 : w9.cell? ⟨gb209, 3, none⟩ = some (.slice A0_3 l0_3.length c0_3) := (za BK209.out 3).trans rfl; have hcz11_4 : w9.cell? ⟨gb209, 4, none⟩ = some (.slice A0_4 l0_4.length c0_4) := (za BK209.out 4).trans rfl; have hfz11_0 := zb BK209.out 0; have hfz11_1 := zb BK209.out 1; have hfz11_2 := zb BK209.out 2; have hfz11_3 := zb BK209.out 3; have hfz11_4 := zb BK209.out 4) | ((with_reducible refine yl (f := 25) rfl ?_); refine xg (some 15) rfl rfl Tryd.func25 (by kernel_rfl) rfl #[.agg #[.int .i64 a0_0, .int .i64 a0_1, .string a0_2, .slice A0_3 l0_3.length c0_3, .slice A0_4 l0_4.length c0_4], .string a1] rfl (by (try simp only [List.map_toArray, List.map_cons, List.map_nil]); first | done | rfl | (simp only [List.length_drop, List.length_take]; rfl)) ?_; (with_reducible refine (spec_place.calls k a0_0 a0_1 a0_2 _ _ l0_3 _ _ l0_4 a1 t211 true _ ?side1 ?side2 ?side3 ?side4 A4.out).mono ?_); (case side1 => repeat (first | exact (Kd.C_below HR0_3.out HB.out) | (with_reducible refine Kd.C_alloc ?_ _) | (with_reducible refine Kd.C_drewN ?_ _) | (with_reducible refine Kd.C_drew ?_))); (case side2 => exact HC0_3.out); (case side3 => repeat (first | exact (Kd.V_reads' HO0_4.out).2.2 | (with_reducible refine Kd.C_alloc ?_ _) | (with_reducible refine Kd.C_drewN ?_ _) | (with_reducible refine Kd.C_drew ?_))); (case side4 => exact (Kd.V_reads' HO0_4.out).2.1); rintro e w12 ⟨rfl, hb⟩; refine ⟨_, rfl, ?_⟩; have n0_ := aM (Kd.V_below (by (with_reducible repeat (first | apply Kd.V_alloc | apply Kd.V_drewN | apply Kd.V_drew)); exact HO0_4.out) hb); have n1_ := aM (zq (g := gb209) (o := .cells #[.int .i64 a0_0, .int .i64 a0_1, .string a0_2, .slice A0_3 l0_3.length c0_3, .slice A0_4 l0_4.length c0_4] 25 (0, 0)) (by (with_reducible repeat (first | refine zg ?_ _ | refine zh ?_ | refine ze ?_ _)); exact BK209.out) hb); have n2_ := aM (zq (g := gb210) (o := .cells #[.int .i64 0, .int .i64 0, .string (⟨#[]⟩ : ByteArray), .slice none 0 0, .slice none 0 0] 25 (0, 0)) (by (with_reducible repeat (first | refine zg ?_ _ | refine zh ?_ | refine ze ?_ _)); exact BK210.out) hb); have n3_ := aM (zo (by repeat (first | (with_reducible first | exact HB.out | apply zf | apply zc | apply zj | refine zi ?_ GE209.out | refine zi ?_ GE210.out) | exact HB.out)) hb); clear HO0_4; clear BK209; clear BK210; clear HB; have HO0_4 := n0_; have BK209 := n1_; have BK210 := n2_; have HB := n3_; clear n0_ n1_ n2_ n3_; (try clear hb); (try clear hb2); (try clear hk); (try clear hi); have hcz13_0 : w12.cell? ⟨gb209, 0, none⟩ = some (.int .i64 a0_0) := (za BK209.out 0).trans rfl; have hcz13_1 : w12.cell? ⟨gb209, 1, none⟩ = some (.int .i64 a0_1) := (za BK209.out 1).trans rfl; have hcz13_2 : w12.cell? ⟨gb209, 2, none⟩ = some (.string a0_2) := (za BK209.out 2).trans rfl; have hcz13_3 : w12.cell? ⟨gb209, 3, none⟩ = some (.slice A0_3 l0_3.length c0_3) := (za BK209.out 3).trans rfl; have hcz13_4 : w12.cell? ⟨gb209, 4, none⟩ = some (.slice A0_4 l0_4.length c0_4) := (za BK209.out 4).trans rfl; have hfz13_0 := zb BK209.out 0; have hfz13_1 := zb BK209.out 1; have hfz13_2 := zb BK209.out 2; have hfz13_3 := zb BK209.out 3; have hfz13_4 := zb BK209.out 4; have p213 : 0 ≤ (t211 : Int) := of_decide_eq_true (by first | (with_reducible assumption) | assumption); have q213 : t211 < (l0_4.length : Int) := of_decide_eq_true (by first | (with_reducible assumption) | assumption); obtain ⟨ad213, A213_3, c213_3, A213_4, c213_4, e213, hx213_0, hx213_1, hx213_2, hx213_3, hx213_4, hl213_3, hi213_3, hl213_4, hi213_4⟩ := xk (Kd.V_reads' HO0_4.out).2.2 t211 p213 q213; cases e213; obtain ⟨ce213, hce213, hMe213, hcc213⟩ := Kd.V_get HO0_4.out z25 t211 p213 (by first | exact q213 | exact of_decide_eq_true (by first | (with_reducible assumption) | assumption) | (have e_ := (Kd.V_reads' HO0_4.out).1; omega)); obtain ⟨ua213_3, uc213_3, ua213_4, uc213_4, rfl, ul213_3, ge213_3, ul213_4, ge213_4⟩ := k25_openF hMe213; have hv213_3 := hcc213 3 _ rfl; rw [add_field _ _ 3 (by omega)] at hv213_3; replace hv213_3 := Option.some.inj (hv213_3.symm.trans hx213_3); injection hv213_3 with hva_ hvn_ hvc_; rw [hva_] at ge213_3; rw [hvc_] at ul213_3; have HL213_3 := aM (show Kd.V Kd.string 9 _ w.heap.size _ _ ((rd_T25 l0_4 t211).f3) from Kd.V_mk ul213_3 ge213_3); clear hva_ hvn_ hvc_ ge213_3 ul213_3; have hv213_4 := hcc213 4 _ rfl; rw [add_field _ _ 4 (by omega)] at hv213_4; replace hv213_4 := Option.some.inj (hv213_4.symm.trans hx213_4); injection hv213_4 with hva_ hvn_ hvc_; rw [hva_] at ge213_4; rw [hvc_] at ul213_4; have HL213_4 := aM (show Kd.V k25 25 _ w.heap.size _ _ ((rd_T25 l0_4 t211).f4) from Kd.V_mk ul213_4 ge213_4); clear hva_ hvn_ hvc_ ge213_4 ul213_4; clear hcc213 hce213; have HR213_3 := aM hi213_3; have HC213_3 := aM hl213_3; clear hi213_3 hl213_3; have HR213_4 := aM hi213_4; have HC213_4 := aM hl213_4; clear hi213_4 hl213_4; replace p213 := eq_true p213; replace q213 := eq_true q213; have hcz14_0 : w12.cell? ⟨gb210, 0, none⟩ = some (.int .i64 0) := (za BK210.out 0).trans rfl; have hcz14_1 : w12.cell? ⟨gb210, 1, none⟩ = some (.int .i64 0) := (za BK210.out 1).trans rfl; have hcz14_2 : w12.cell? ⟨gb210, 2, none⟩ = some (.string (⟨#[]⟩ : ByteArray)) := (za BK210.out 2).trans rfl; have hcz14_3 : w12.cell? ⟨gb210, 3, none⟩ = some (.slice none 0 0) := (za BK210.out 3).trans rfl; have hcz14_4 : w12.cell? ⟨gb210, 4, none⟩ = some (.slice none 0 0) := (za BK210.out 4).trans rfl; have hfz14_0 := zb BK210.out 0; have hfz14_1 := zb BK210.out 1; have hfz14_2 := zb BK210.out 2; have hfz14_3 := zb BK210.out 3; have hfz14_4 := zb BK210.out 4))
     refine bodyPost_ret (results_ct rfl _ _ gb210 25 #[.int .i64 ((rd_T25 l0_4 t211).f0), .int .i64 ((rd_T25 l0_4 t211).f1), .string ((rd_T25 l0_4 t211).f2), .slice A213_3 ((rd_T25 l0_4 t211).f3).length c213_3, .slice A213_4 ((rd_T25 l0_4 t211).f4).length c213_4] (0, 0) _ rfl (by (with_reducible repeat (first | refine zg ?_ _ | refine zh ?_ | refine ze ?_ _)); refine zn (cs := #[.int .i64 ((rd_T25 l0_4 t211).f0), .int .i64 ((rd_T25 l0_4 t211).f1), .string ((rd_T25 l0_4 t211).f2), .slice A213_3 ((rd_T25 l0_4 t211).f3).length c213_3, .slice none 0 0]) ?_ 4 _ rfl; (with_reducible repeat (first | refine zg ?_ _ | refine zh ?_ | refine ze ?_ _)); refine zn (cs := #[.int .i64 ((rd_T25 l0_4 t211).f0), .int .i64 ((rd_T25 l0_4 t211).f1), .string ((rd_T25 l0_4 t211).f2), .slice none 0 0, .slice none 0 0]) ?_ 3 _ rfl; (with_reducible repeat (first | refine zg ?_ _ | refine zh ?_ | refine ze ?_ _)); refine zn (cs := #[.int .i64 ((rd_T25 l0_4 t211).f0), .int .i64 ((rd_T25 l0_4 t211).f1), .string (⟨#[]⟩ : ByteArray), .slice none 0 0, .slice none 0 0]) ?_ 2 _ rfl; (with_reducible repeat (first | refine zg ?_ _ | refine zh ?_ | refine ze ?_ _)); refine zn (cs := #[.int .i64 ((rd_T25 l0_4 t211).f0), .int .i64 0, .string (⟨#[]⟩ : ByteArray), .slice none 0 0, .slice none 0 0]) ?_ 1 _ rfl; (with_reducible repeat (first | refine zg ?_ _ | refine zh ?_ | refine ze ?_ _)); refine zn (cs := #[.int .i64 0, .int .i64 0, .string (⟨#[]⟩ : ByteArray), .slice none 0 0, .slice none 0 0]) ?_ 0 _ rfl; (with_reducible repeat (first | refine zg ?_ _ | refine zh ?_ | refine ze ?_ _)); exact BK210.out) Tryd.underlying25 rfl (by kernel_rfl)) rfl ?_; exact ⟨_, _, by first | rfl | (simp [zu, zt] <;> rfl) | (simp [*, zu, zt] <;> rfl), by (with_reducible repeat (first | apply Kd.V_alloc | apply Kd.V_drewN | apply Kd.V_drew)); exact Kd.V_mono (Kd.V_far (p := ⟨gb210, 4, none⟩) (Kd.V_far (p := ⟨gb210, 3, none⟩) (Kd.V_far (p := ⟨gb210, 2, none⟩) (Kd.V_far (p := ⟨gb210, 1, none⟩) (Kd.V_far (p := ⟨gb210, 0, none⟩) (Kd.V_mono HL213_3.out (fun k_ hk => (⟨hk, hk.2⟩ : _ ∧ k_ ≠ gb210))) (fun _ hk => hk.2) (.int .i64 ((rd_T25 l0_4 t211).f0))) (fun _ hk => hk.2) (.int .i64 ((rd_T25 l0_4 t211).f1))) (fun _ hk => hk.2) (.string ((rd_T25 l0_4 t211).f2))) (fun _ hk => hk.2) (.slice A213_3 ((rd_T25 l0_4 t211).f3).length c213_3)) (fun _ hk => hk.2) (.slice A213_4 ((rd_T25 l0_4 t211).f4).length c213_4)) (fun _ hk => hk.1.1.1), by (with_reducible repeat (first | apply Kd.V_alloc | apply Kd.V_drewN | apply Kd.V_drew)); exact Kd.V_mono (Kd.V_far (p := ⟨gb210, 4, none⟩) (Kd.V_far (p := ⟨gb210, 3, none⟩) (Kd.V_far (p := ⟨gb210, 2, none⟩) (Kd.V_far (p := ⟨gb210, 1, none⟩) (Kd.V_far (p := ⟨gb210, 0, none⟩) (Kd.V_mono HL213_4.out (fun k_ hk => (⟨hk, hk.2⟩ : _ ∧ k_ ≠ gb210))) (fun _ hk => hk.2) (.int .i64 ((rd_T25 l0_4 t211).f0))) (fun _ hk => hk.2) (.int .i64 ((rd_T25 l0_4 t211).f1))) (fun _ hk => hk.2) (.string ((rd_T25 l0_4 t211).f2))) (fun _ hk => hk.2) (.slice A213_3 ((rd_T25 l0_4 t211).f3).length c213_3)) (fun _ hk => hk.2) (.slice A213_4 ((rd_T25 l0_4 t211).f4).length c213_4)) (fun _ hk => hk.1.1.1), by repeat (first | (with_reducible first | exact HB.out | apply zf | apply zc | apply zj | refine zi ?_ GE209.out | refine zi ?_ GE210.out) | exact HB.out)⟩
    ·rw [if_neg c7] at H; exact absurd H (by simp)
   ·rw [if_neg c6] at H; exact absurd H (by simp)
  ·replace c5 := Bool.eq_false_iff.mpr c5; subst c5
   have H1 : (some (0, 0, (⟨#[]⟩ : ByteArray), ([] : List ByteArray), ([] : List (S25)), false)) = some (r1, r2, r3, r4, r5, r6) := by rw [if_neg (show ¬ (false = true) by decide)] at H; exact H
   clear H; have H := H1; clear H1; simp only [Option.some.injEq, Prod.mk.injEq] at H; obtain ⟨rfl, rfl, rfl, rfl, rfl, rfl⟩ := H
   go_enter Tryd.func26, Tryd.ntmps26
   go_wp2_with (first | ((with_reducible refine ya (N := 2) rfl ?_); refine zw ?hg (N := 2) ?hd (cs := #[.int .i64 a0_0, .int .i64 a0_1, .string a0_2, .slice A0_3 l0_3.length c0_3, .slice A0_4 l0_4.length c0_4]) (t := 25) ?hr ?_; (case hd => rfl); (case hg => rfl); (case hr => first | (go_simp; done) | (go_simp; rfl)); intro gb209 hg w15 hbox hb; have n0_ := aM (Kd.V_below (Kd.V_elderB (by (with_reducible repeat (first | apply Kd.V_alloc | apply Kd.V_drewN | apply Kd.V_drew)); exact HO0_4.out) gb209 (Nat.le_of_eq hg.symm)) hb); have n1_ := aM (zo (by repeat (first | (with_reducible first | exact HB.out | apply zf | apply zc | apply zj) | exact HB.out)) hb); have n2_ := aM (hbox); have n3_ := aM ((by rw [hg]; exact (zm (by repeat (first | (with_reducible first | exact HB.out | apply zf | apply zc | apply zj) | exact HB.out))) : w.heap.size ≤ gb209)); have n4_ := aM ((by rw [hg]; exact (zm (by repeat (first | (with_reducible first | exact HB.out | apply zf | apply zc | apply zj) | exact HB.out))) : w.heap.size ≤ gb209)); clear HO0_4; clear HB; have HO0_4 := n0_; have HB := n1_; have BK209 := n2_; have GW209 := n3_; have GE209 := n4_; clear n0_ n1_ n2_ n3_ n4_; clear hb hbox hg) | ((with_reducible refine ya (N := 4) rfl ?_); refine zw ?hg (N := 4) ?hd (cs := #[.int .i64 0, .int .i64 0, .string (⟨#[]⟩ : ByteArray), .slice none 0 0, .slice none 0 0]) (t := 25) ?hr ?_; (case hd => rfl); (case hg => rfl); (case hr => first | (go_simp; done) | (go_simp; rfl)); intro gb210 hg w16 hbox hb; have n0_ := aM (Kd.V_below (Kd.V_elderB (by (with_reducible repeat (first | apply Kd.V_alloc | apply Kd.V_drewN | apply Kd.V_drew)); exact HO0_4.out) gb210 (Nat.le_of_eq hg.symm)) hb); have n1_ := aM (zq (g := gb209) (o := .cells #[.int .i64 a0_0, .int .i64 a0_1, .string a0_2, .slice A0_3 l0_3.length c0_3, .slice A0_4 l0_4.length c0_4] 25 (0, 0)) (by (with_reducible repeat (first | refine zg ?_ _ | refine zh ?_ | refine ze ?_ _)); exact BK209.out) hb); have n2_ := aM (zo (by repeat (first | (with_reducible first | exact HB.out | apply zf | apply zc | apply zj | refine zi ?_ GE209.out) | exact HB.out)) hb); have n3_ := aM (hbox); have n4_ := aM ((by rw [hg]; exact (zm (by repeat (first | (with_reducible first | exact HB.out | apply zf | apply zc | apply zj | refine zi ?_ GE209.out) | exact HB.out))) : w.heap.size ≤ gb210)); have n5_ := aM ((by rw [hg]; exact (zm (by repeat (first | (with_reducible first | exact HB.out | apply zf | apply zc | apply zj | refine zi ?_ GE209.out) | exact HB.out))) : w.heap.size ≤ gb210)); have n6_ := aM ((by rw [hg]; exact Nat.ne_of_lt (ye (g := gb209) (o := .cells #[.int .i64 a0_0, .int .i64 a0_1, .string a0_2, .slice A0_3 l0_3.length c0_3, .slice A0_4 l0_4.length c0_4] 25 (0, 0)) (by (with_reducible repeat (first | refine zg ?_ _ | refine zh ?_ | refine ze ?_ _)); exact BK209.out)) : gb209 ≠ gb210)); have n7_ := aM ((by rw [hg]; exact Nat.ne_of_gt (ye (g := gb209) (o := .cells #[.int .i64 a0_0, .int .i64 a0_1, .string a0_2, .slice A0_3 l0_3.length c0_3, .slice A0_4 l0_4.length c0_4] 25 (0, 0)) (by (with_reducible repeat (first | refine zg ?_ _ | refine zh ?_ | refine ze ?_ _)); exact BK209.out)) : gb210 ≠ gb209)); clear HO0_4; clear BK209; clear HB; have HO0_4 := n0_; have BK209 := n1_; have HB := n2_; have BK210 := n3_; have GW210 := n4_; have GE210 := n5_; have NB209_210 := n6_; have NB210_209 := n7_; clear n0_ n1_ n2_ n3_ n4_ n5_ n6_ n7_; clear hb hbox hg; have hnb17 := NB209_210.out; have hnc17 := NB210_209.out; have hcz18_0 : w16.cell? ⟨gb209, 0, none⟩ = some (.int .i64 a0_0) := (za BK209.out 0).trans rfl; have hcz18_1 : w16.cell? ⟨gb209, 1, none⟩ = some (.int .i64 a0_1) := (za BK209.out 1).trans rfl; have hcz18_2 : w16.cell? ⟨gb209, 2, none⟩ = some (.string a0_2) := (za BK209.out 2).trans rfl; have hcz18_3 : w16.cell? ⟨gb209, 3, none⟩ = some (.slice A0_3 l0_3.length c0_3) := (za BK209.out 3).trans rfl; have hcz18_4 : w16.cell? ⟨gb209, 4, none⟩ = some (.slice A0_4 l0_4.length c0_4) := (za BK209.out 4).trans rfl; have hfz18_0 := zb BK209.out 0; have hfz18_1 := zb BK209.out 1; have hfz18_2 := zb BK209.out 2; have hfz18_3 := zb BK209.out 3; have hfz18_4 := zb BK209.out 4) | ((with_reducible refine yl (f := 25) rfl ?_); refine xg (some 15) rfl rfl Tryd.func25 (by kernel_rfl) rfl #[.agg #[.int .i64 a0_0, .int .i64 a0_1, .string a0_2, .slice A0_3 l0_3.length c0_3, .slice A0_4 l0_4.length c0_4], .string a1] rfl (by (try simp only [List.map_toArray, List.map_cons, List.map_nil]); first | done | rfl | (simp only [List.length_drop, List.length_take]; rfl)) ?_; (with_reducible refine (spec_place.calls k a0_0 a0_1 a0_2 _ _ l0_3 _ _ l0_4 a1 t211 false _ ?side1 ?side2 ?side3 ?side4 A4.out).mono ?_); (case side1 => repeat (first | exact (Kd.C_below HR0_3.out HB.out) | (with_reducible refine Kd.C_alloc ?_ _) | (with_reducible refine Kd.C_drewN ?_ _) | (with_reducible refine Kd.C_drew ?_))); (case side2 => exact HC0_3.out); (case side3 => repeat (first | exact (Kd.V_reads' HO0_4.out).2.2 | (with_reducible refine Kd.C_alloc ?_ _) | (with_reducible refine Kd.C_drewN ?_ _) | (with_reducible refine Kd.C_drew ?_))); (case side4 => exact (Kd.V_reads' HO0_4.out).2.1); rintro e w19 ⟨rfl, hb⟩; refine ⟨_, rfl, ?_⟩; have n0_ := aM (Kd.V_below (by (with_reducible repeat (first | apply Kd.V_alloc | apply Kd.V_drewN | apply Kd.V_drew)); exact HO0_4.out) hb); have n1_ := aM (zq (g := gb209) (o := .cells #[.int .i64 a0_0, .int .i64 a0_1, .string a0_2, .slice A0_3 l0_3.length c0_3, .slice A0_4 l0_4.length c0_4] 25 (0, 0)) (by (with_reducible repeat (first | refine zg ?_ _ | refine zh ?_ | refine ze ?_ _)); exact BK209.out) hb); have n2_ := aM (zq (g := gb210) (o := .cells #[.int .i64 0, .int .i64 0, .string (⟨#[]⟩ : ByteArray), .slice none 0 0, .slice none 0 0] 25 (0, 0)) (by (with_reducible repeat (first | refine zg ?_ _ | refine zh ?_ | refine ze ?_ _)); exact BK210.out) hb); have n3_ := aM (zo (by repeat (first | (with_reducible first | exact HB.out | apply zf | apply zc | apply zj | refine zi ?_ GE209.out | refine zi ?_ GE210.out) | exact HB.out)) hb); clear HO0_4; clear BK209; clear BK210; clear HB; have HO0_4 := n0_; have BK209 := n1_; have BK210 := n2_; have HB := n3_; clear n0_ n1_ n2_ n3_; (try clear hb); (try clear hb2); (try clear hk); (try clear hi); have hcz20_0 : w19.cell? ⟨gb210, 0, none⟩ = some (.int .i64 0) := (za BK210.out 0).trans rfl; have hcz20_1 : w19.cell? ⟨gb210, 1, none⟩ = some (.int .i64 0) := (za BK210.out 1).trans rfl; have hcz20_2 : w19.cell? ⟨gb210, 2, none⟩ = some (.string (⟨#[]⟩ : ByteArray)) := (za BK210.out 2).trans rfl; have hcz20_3 : w19.cell? ⟨gb210, 3, none⟩ = some (.slice none 0 0) := (za BK210.out 3).trans rfl; have hcz20_4 : w19.cell? ⟨gb210, 4, none⟩ = some (.slice none 0 0) := (za BK210.out 4).trans rfl; have hfz20_0 := zb BK210.out 0; have hfz20_1 := zb BK210.out 1; have hfz20_2 := zb BK210.out 2; have hfz20_3 := zb BK210.out 3; have hfz20_4 := zb BK210.out 4))
   refine bodyPost_ret (results_ct rfl _ _ gb210 25 #[.int .i64 0, .int .i64 0, .string (⟨#[]⟩ : ByteArray), .slice none 0 0, .slice none 0 0] (0, 0) _ rfl (by (with_reducible repeat (first | refine zg ?_ _ | refine zh ?_ | refine ze ?_ _)); refine zn (cs := #[.int .i64 0, .int .i64 0, .string (⟨#[]⟩ : ByteArray), .slice none 0 0, .slice none 0 0]) ?_ 4 _ rfl; (with_reducible repeat (first | refine zg ?_ _ | refine zh ?_ | refine ze ?_ _)); refine zn (cs := #[.int .i64 0, .int .i64 0, .string (⟨#[]⟩ : ByteArray), .slice none 0 0, .slice none 0 0]) ?_ 3 _ rfl; (with_reducible repeat (first | refine zg ?_ _ | refine zh ?_ | refine ze ?_ _)); refine zn (cs := #[.int .i64 0, .int .i64 0, .string (⟨#[]⟩ : ByteArray), .slice none 0 0, .slice none 0 0]) ?_ 2 _ rfl; (with_reducible repeat (first | refine zg ?_ _ | refine zh ?_ | refine ze ?_ _)); refine zn (cs := #[.int .i64 0, .int .i64 0, .string (⟨#[]⟩ : ByteArray), .slice none 0 0, .slice none 0 0]) ?_ 1 _ rfl; (with_reducible repeat (first | refine zg ?_ _ | refine zh ?_ | refine ze ?_ _)); refine zn (cs := #[.int .i64 0, .int .i64 0, .string (⟨#[]⟩ : ByteArray), .slice none 0 0, .slice none 0 0]) ?_ 0 _ rfl; (with_reducible repeat (first | refine zg ?_ _ | refine zh ?_ | refine ze ?_ _)); exact BK210.out) Tryd.underlying25 rfl (by kernel_rfl)) rfl ?_; exact ⟨_, _, by first | rfl | (simp [zu, zt] <;> rfl) | (simp [*, zu, zt] <;> rfl), Kd.V_nil _ _ _ _ _, Kd.V_nil _ _ _ _ _, by repeat (first | (with_reducible first | exact HB.out | apply zf | apply zc | apply zj | refine zi ?_ GE209.out | refine zi ?_ GE210.out) | exact HB.out)⟩
 ·rw [if_neg c3] at H; have c3b0 : (a0_0 == 5) = false := beq_eq_false_iff_ne.mpr c3; have c3b1 : (a0_0 != 5) = true := bne_iff_ne.mpr c3; simp only [Option.some.injEq, Prod.mk.injEq] at H; obtain ⟨rfl, rfl, rfl, rfl, rfl, rfl⟩ := H
  go_enter Tryd.func26, Tryd.ntmps26
  go_wp2_with (first | ((with_reducible refine ya (N := 2) rfl ?_); refine zw ?hg (N := 2) ?hd (cs := #[.int .i64 a0_0, .int .i64 a0_1, .string a0_2, .slice A0_3 l0_3.length c0_3, .slice A0_4 l0_4.length c0_4]) (t := 25) ?hr ?_; (case hd => rfl); (case hg => rfl); (case hr => first | (go_simp; done) | (go_simp; rfl)); intro gb209 hg w21 hbox hb; have n0_ := aM (Kd.V_below (Kd.V_elderB (by (with_reducible repeat (first | apply Kd.V_alloc | apply Kd.V_drewN | apply Kd.V_drew)); exact HO0_4.out) gb209 (Nat.le_of_eq hg.symm)) hb); have n1_ := aM (zo (by repeat (first | (with_reducible first | exact HB.out | apply zf | apply zc | apply zj) | exact HB.out)) hb); have n2_ := aM (hbox); have n3_ := aM ((by rw [hg]; exact (zm (by repeat (first | (with_reducible first | exact HB.out | apply zf | apply zc | apply zj) | exact HB.out))) : w.heap.size ≤ gb209)); have n4_ := aM ((by rw [hg]; exact (zm (by repeat (first | (with_reducible first | exact HB.out | apply zf | apply zc | apply zj) | exact HB.out))) : w.heap.size ≤ gb209)); clear HO0_4; clear HB; have HO0_4 := n0_; have HB := n1_; have BK209 := n2_; have GW209 := n3_; have GE209 := n4_; clear n0_ n1_ n2_ n3_ n4_; clear hb hbox hg) | ((with_reducible refine ya (N := 4) rfl ?_); refine zw ?hg (N := 4) ?hd (cs := #[.int .i64 0, .int .i64 0, .string (⟨#[]⟩ : ByteArray), .slice none 0 0, .slice none 0 0]) (t := 25) ?hr ?_; (case hd => rfl); (case hg => rfl); (case hr => first | (go_simp; done) | (go_simp; rfl)); intro gb210 hg w22 hbox hb; have n0_ := aM (Kd.V_below (Kd.V_elderB (by (with_reducible repeat (first | apply Kd.V_alloc | apply Kd.V_drewN | apply Kd.V_drew)); exact HO0_4.out) gb210 (Nat.le_of_eq hg.symm)) hb); have n1_ := aM (zq (g := gb209) (o := .cells #[.int .i64 a0_0, .int .i64 a0_1, .string a0_2, .slice A0_3 l0_3.length c0_3, .slice A0_4 l0_4.length c0_4] 25 (0, 0)) (by (with_reducible repeat (first | refine zg ?_ _ | refine zh ?_ | refine ze ?_ _)); exact BK209.out) hb); have n2_ := aM (zo (by repeat (first | (with_reducible first | exact HB.out | apply zf | apply zc | apply zj | refine zi ?_ GE209.out) | exact HB.out)) hb); have n3_ := aM (hbox); have n4_ := aM ((by rw [hg]; exact (zm (by repeat (first | (with_reducible first | exact HB.out | apply zf | apply zc | apply zj | refine zi ?_ GE209.out) | exact HB.out))) : w.heap.size ≤ gb210)); have n5_ := aM ((by rw [hg]; exact (zm (by repeat (first | (with_reducible first | exact HB.out | apply zf | apply zc | apply zj | refine zi ?_ GE209.out) | exact HB.out))) : w.heap.size ≤ gb210)); have n6_ := aM ((by rw [hg]; exact Nat.ne_of_lt (ye (g := gb209) (o := .cells #[.int .i64 a0_0, .int .i64 a0_1, .string a0_2, .slice A0_3 l0_3.length c0_3, .slice A0_4 l0_4.length c0_4] 25 (0, 0)) (by (with_reducible repeat (first | refine zg ?_ _ | refine zh ?_ | refine ze ?_ _)); exact BK209.out)) : gb209 ≠ gb210)); have n7_ := aM ((by rw [hg]; exact Nat.ne_of_gt (ye (g := gb209) (o := .cells #[.int .i64 a0_0, .int .i64 a0_1, .string a0_2, .slice A0_3 l0_3.length c0_3, .slice A0_4 l0_4.length c0_4] 25 (0, 0)) (by (with_reducible repeat (first | refine zg ?_ _ | refine zh ?_ | refine ze ?_ _)); exact BK209.out)) : gb210 ≠ gb209)); clear HO0_4; clear BK209; clear HB; have HO0_4 := n0_; have BK209 := n1_; have HB := n2_; have BK210 := n3_; have GW210 := n4_; have GE210 := n5_; have NB209_210 := n6_; have NB210_209 := n7_; clear n0_ n1_ n2_ n3_ n4_ n5_ n6_ n7_; clear hb hbox hg; have hnb23 := NB209_210.out; have hnc23 := NB210_209.out; have hcz24_0 : w22.cell? ⟨gb209, 0, none⟩ = some (.int .i64 a0_0) := (za BK209.out 0).trans rfl; have hcz24_1 : w22.cell? ⟨gb209, 1, none⟩ = some (.int .i64 a0_1) := (za BK209.out 1).trans rfl; have hcz24_2 : w22.cell? ⟨gb209, 2, none⟩ = some (.string a0_2) := (za BK209.out 2).trans rfl; have hcz24_3 : w22.cell? ⟨gb209, 3, none⟩ = some (.slice A0_3 l0_3.length c0_3) := (za BK209.out 3).trans rfl; have hcz24_4 : w22.cell? ⟨gb209, 4, none⟩ = some (.slice A0_4 l0_4.length c0_4) := (za BK209.out 4).trans rfl; have hfz24_0 := zb BK209.out 0; have hfz24_1 := zb BK209.out 1; have hfz24_2 := zb BK209.out 2; have hfz24_3 := zb BK209.out 3; have hfz24_4 := zb BK209.out 4; have hcz25_0 : w22.cell? ⟨gb210, 0, none⟩ = some (.int .i64 0) := (za BK210.out 0).trans rfl; have hcz25_1 : w22.cell? ⟨gb210, 1, none⟩ = some (.int .i64 0) := (za BK210.out 1).trans rfl; have hcz25_2 : w22.cell? ⟨gb210, 2, none⟩ = some (.string (⟨#[]⟩ : ByteArray)) := (za BK210.out 2).trans rfl; have hcz25_3 : w22.cell? ⟨gb210, 3, none⟩ = some (.slice none 0 0) := (za BK210.out 3).trans rfl; have hcz25_4 : w22.cell? ⟨gb210, 4, none⟩ = some (.slice none 0 0) := (za BK210.out 4).trans rfl; have hfz25_0 := zb BK210.out 0; have hfz25_1 := zb BK210.out 1; have hfz25_2 := zb BK210.out 2; have hfz25_3 := zb BK210.out 3; have hfz25_4 := zb BK210.out 4))
  refine bodyPost_ret (results_ct rfl _ _ gb210 25 #[.int .i64 0, .int .i64 0, .string (⟨#[]⟩ : ByteArray), .slice none 0 0, .slice none 0 0] (0, 0) _ rfl (by (with_reducible repeat (first | refine zg ?_ _ | refine zh ?_ | refine ze ?_ _)); refine zn (cs := #[.int .i64 0, .int .i64 0, .string (⟨#[]⟩ : ByteArray), .slice none 0 0, .slice none 0 0]) ?_ 4 _ rfl; (with_reducible repeat (first | refine zg ?_ _ | refine zh ?_ | refine ze ?_ _)); refine zn (cs := #[.int .i64 0, .int .i64 0, .string (⟨#[]⟩ : ByteArray), .slice none 0 0, .slice none 0 0]) ?_ 3 _ rfl; (with_reducible repeat (first | refine zg ?_ _ | refine zh ?_ | refine ze ?_ _)); refine zn (cs := #[.int .i64 0, .int .i64 0, .string (⟨#[]⟩ : ByteArray), .slice none 0 0, .slice none 0 0]) ?_ 2 _ rfl; (with_reducible repeat (first | refine zg ?_ _ | refine zh ?_ | refine ze ?_ _)); refine zn (cs := #[.int .i64 0, .int .i64 0, .string (⟨#[]⟩ : ByteArray), .slice none 0 0, .slice none 0 0]) ?_ 1 _ rfl; (with_reducible repeat (first | refine zg ?_ _ | refine zh ?_ | refine ze ?_ _)); refine zn (cs := #[.int .i64 0, .int .i64 0, .string (⟨#[]⟩ : ByteArray), .slice none 0 0, .slice none 0 0]) ?_ 0 _ rfl; (with_reducible repeat (first | refine zg ?_ _ | refine zh ?_ | refine ze ?_ _)); exact BK210.out) Tryd.underlying25 rfl (by kernel_rfl)) rfl ?_; exact ⟨_, _, by first | rfl | (simp [zu, zt] <;> rfl) | (simp [*, zu, zt] <;> rfl), Kd.V_nil _ _ _ _ _, Kd.V_nil _ _ _ _ _, by repeat (first | (with_reducible first | exact HB.out | apply zf | apply zc | apply zj | refine zi ?_ GE209.out | refine zi ?_ GE210.out) | exact HB.out)⟩
attribute [local go_sem] xf xd xj xi yw yu xe xc 
def spec_Has.f (k : Nat) (a0_0 : Int) (a0_1 : Int) (a0_2 : ByteArray) (l0_3 : List ByteArray) (l0_4 : List (S25)) (a1 : ByteArray) : Option (Bool) := (spec_Get.f k a0_0 a0_1 a0_2 l0_3 l0_4 a1).bind fun bt295 => (some bt295.2.2.2.2.2)
set_option maxHeartbeats 8000000 in
set_option maxRecDepth 100000 in
theorem spec_Has.calls (k : Nat) (a0_0 : Int) (a0_1 : Int) (a0_2 : ByteArray) (A0_3 : Option Addr) (c0_3 : Nat) (l0_3 : List ByteArray) (A0_4 : Option Addr) (c0_4 : Nat) (l0_4 : List (S25)) (a1 : ByteArray) (r : Bool) (w : World) (hr0_3 : Kd.C Kd.string w A0_3 l0_3.length l0_3) (hc0_3 : l0_3.length ≤ c0_3) (hr0_4 : Kd.C k25 w A0_4 l0_4.length l0_4) (hc0_4 : l0_4.length ≤ c0_4) (h : spec_Has.f k a0_0 a0_1 a0_2 l0_3 l0_4 a1 = some r) :
  Calls Tryd.prog 18 #[.agg #[.int .i64 a0_0, .int .i64 a0_1, .string a0_2, .slice A0_3 l0_3.length c0_3, .slice A0_4 l0_4.length c0_4], .string a1] w fun e w' => e = .returned (.bool r) ∧ Below w.heap.size w w' := by
 have hu25 := Tryd.underlying25; have HR0_3 := aM hr0_3; have HC0_3 := aM hc0_3; clear hr0_3 hc0_3; have HR0_4 := aM hr0_4; have HC0_4 := aM hc0_4; clear hr0_4 hc0_4; have HB := aM (Below.refl w.heap.size w); have H : ((spec_Get.f k a0_0 a0_1 a0_2 l0_3 l0_4 a1).bind fun bt295 => (some bt295.2.2.2.2.2)) = some r := h; clear h; replace H := Option.bind_eq_some_iff.mp H; obtain ⟨⟨t295, t296, t297, t298, t301, t304⟩, A30, H⟩ := H; replace H : (some t304) = some r := H; have A3 := aM A30; clear A30; obtain rfl := Option.some.inj H
 go_enter Tryd.func18, Tryd.ntmps18
 go_wp2_with (first | ((with_reducible refine ya (N := 2) rfl ?_); refine zw ?hg (N := 2) ?hd (cs := #[.int .i64 a0_0, .int .i64 a0_1, .string a0_2, .slice A0_3 l0_3.length c0_3, .slice A0_4 l0_4.length c0_4]) (t := 25) ?hr ?_; (case hd => rfl); (case hg => rfl); (case hr => first | (go_simp; done) | (go_simp; rfl)); intro gb294 hg w4 hbox hb; have n0_ := aM (zo (by repeat (first | (with_reducible first | exact HB.out | apply zf | apply zc | apply zj) | exact HB.out)) hb); have n1_ := aM (hbox); have n2_ := aM ((by rw [hg]; exact (zm (by repeat (first | (with_reducible first | exact HB.out | apply zf | apply zc | apply zj) | exact HB.out))) : w.heap.size ≤ gb294)); have n3_ := aM ((by rw [hg]; exact (zm (by repeat (first | (with_reducible first | exact HB.out | apply zf | apply zc | apply zj) | exact HB.out))) : w.heap.size ≤ gb294)); clear HB; have HB := n0_; have BK294 := n1_; have GW294 := n2_; have GE294 := n3_; clear n0_ n1_ n2_ n3_; clear hb hbox hg; have hcz5_0 : w4.cell? ⟨gb294, 0, none⟩ = some (.int .i64 a0_0) := (za BK294.out 0).trans rfl; have hcz5_1 : w4.cell? ⟨gb294, 1, none⟩ = some (.int .i64 a0_1) := (za BK294.out 1).trans rfl; have hcz5_2 : w4.cell? ⟨gb294, 2, none⟩ = some (.string a0_2) := (za BK294.out 2).trans rfl; have hcz5_3 : w4.cell? ⟨gb294, 3, none⟩ = some (.slice A0_3 l0_3.length c0_3) := (za BK294.out 3).trans rfl; have hcz5_4 : w4.cell? ⟨gb294, 4, none⟩ = some (.slice A0_4 l0_4.length c0_4) := (za BK294.out 4).trans rfl; have hfz5_0 := zb BK294.out 0; have hfz5_1 := zb BK294.out 1; have hfz5_2 := zb BK294.out 2; have hfz5_3 := zb BK294.out 3; have hfz5_4 := zb BK294.out 4) | ((with_reducible refine yl (f := 26) rfl ?_); refine xg (some 10) rfl rfl Tryd.func26 (by kernel_rfl) rfl #[.agg #[.int .i64 a0_0, .int .i64 a0_1, .string a0_2, .slice A0_3 l0_3.length c0_3, .slice A0_4 l0_4.length c0_4], .string a1] rfl (by (try simp only [List.map_toArray, List.map_cons, List.map_nil]); first | done | rfl | (simp only [List.length_drop, List.length_take]; rfl)) ?_; (with_reducible refine (spec_Get.calls k a0_0 a0_1 a0_2 _ _ l0_3 (fun k_ => k_ < w.heap.size) _ _ l0_4 a1 t295 t296 t297 t298 t301 t304 _ ?side1 ?side2 ?side3 A3.out).mono ?_); (case side1 => repeat (first | exact (Kd.C_below HR0_3.out HB.out) | (with_reducible refine Kd.C_alloc ?_ _) | (with_reducible refine Kd.C_drewN ?_ _) | (with_reducible refine Kd.C_drew ?_))); (case side2 => exact HC0_3.out); (case side3 => exact Kd.V_mk HC0_4.out (Kd.F_below (Kd.C_F k25_heap HR0_4.out) (by repeat (first | (with_reducible first | exact HB.out | apply zf | apply zc | apply zj | refine zi ?_ GE294.out) | exact HB.out)))); rintro e w6 ⟨v299, v302, rfl, ho0, ho1, hb⟩; refine ⟨_, rfl, ?_⟩; have n0_ := aM (Kd.V_lower (Kd.V_mono (ok' := fun k_ => k_ ≠ gb294) ho0 (fun k_ hk_ => Or.elim hk_ (fun hs_ => fun e_ => Nat.not_le.2 hs_ (by rw [e_]; exact GW294.out)) (fun hn_ => (Kd.freshB (g := gb294) (o := .cells #[.int .i64 a0_0, .int .i64 a0_1, .string a0_2, .slice A0_3 l0_3.length c0_3, .slice A0_4 l0_4.length c0_4] 25 (0, 0)) (by (with_reducible repeat (first | refine zg ?_ _ | refine zh ?_ | refine ze ?_ _)); exact BK294.out) k_ hn_)))) (zm (by repeat (first | (with_reducible first | exact HB.out | apply zf | apply zc | apply zj | refine zi ?_ GE294.out) | exact HB.out)))); have n1_ := aM (Kd.V_lower (Kd.V_mono (ok' := fun k_ => k_ ≠ gb294) ho1 (fun k_ hk_ => Or.elim hk_ (fun hs_ => fun e_ => Nat.not_le.2 hs_ (by rw [e_]; exact GW294.out)) (fun hn_ => (Kd.freshB (g := gb294) (o := .cells #[.int .i64 a0_0, .int .i64 a0_1, .string a0_2, .slice A0_3 l0_3.length c0_3, .slice A0_4 l0_4.length c0_4] 25 (0, 0)) (by (with_reducible repeat (first | refine zg ?_ _ | refine zh ?_ | refine ze ?_ _)); exact BK294.out) k_ hn_)))) (zm (by repeat (first | (with_reducible first | exact HB.out | apply zf | apply zc | apply zj | refine zi ?_ GE294.out) | exact HB.out)))); have n2_ := aM (zq (g := gb294) (o := .cells #[.int .i64 a0_0, .int .i64 a0_1, .string a0_2, .slice A0_3 l0_3.length c0_3, .slice A0_4 l0_4.length c0_4] 25 (0, 0)) (by (with_reducible repeat (first | refine zg ?_ _ | refine zh ?_ | refine ze ?_ _)); exact BK294.out) hb); have n3_ := aM (zo (by repeat (first | (with_reducible first | exact HB.out | apply zf | apply zc | apply zj | refine zi ?_ GE294.out) | exact HB.out)) hb); clear BK294; clear HB; have HO300 := n0_; have HO303 := n1_; have BK294 := n2_; have HB := n3_; clear n0_ n1_ n2_ n3_; (try clear hb); (try clear hb2); (try clear hk); (try clear hi); (try clear ho0); (try clear ho1)) | ((with_reducible refine ya (N := 5) rfl ?_); refine zw ?hg (N := 5) ?hd (cs := #[.int .i64 0, .int .i64 0, .string (⟨#[]⟩ : ByteArray), .slice none 0 0, .slice none 0 0]) (t := 25) ?hr ?_; (case hd => rfl); (case hg => rfl); (case hr => first | (go_simp; done) | (go_simp; rfl)); intro gb305 hg w7 hbox hb; have n0_ := aM (Kd.V_below (Kd.V_elderB (by (with_reducible repeat (first | apply Kd.V_alloc | apply Kd.V_drewN | apply Kd.V_drew)); exact HO300.out) gb305 (Nat.le_of_eq hg.symm)) hb); have n1_ := aM (Kd.V_below (Kd.V_elderB (by (with_reducible repeat (first | apply Kd.V_alloc | apply Kd.V_drewN | apply Kd.V_drew)); exact HO303.out) gb305 (Nat.le_of_eq hg.symm)) hb); have n2_ := aM (zq (g := gb294) (o := .cells #[.int .i64 a0_0, .int .i64 a0_1, .string a0_2, .slice A0_3 l0_3.length c0_3, .slice A0_4 l0_4.length c0_4] 25 (0, 0)) (by (with_reducible repeat (first | refine zg ?_ _ | refine zh ?_ | refine ze ?_ _)); exact BK294.out) hb); have n3_ := aM (zo (by repeat (first | (with_reducible first | exact HB.out | apply zf | apply zc | apply zj | refine zi ?_ GE294.out) | exact HB.out)) hb); have n4_ := aM (hbox); have n5_ := aM ((by rw [hg]; exact (zm (by repeat (first | (with_reducible first | exact HB.out | apply zf | apply zc | apply zj | refine zi ?_ GE294.out) | exact HB.out))) : w.heap.size ≤ gb305)); have n6_ := aM ((by rw [hg]; exact (zm (by repeat (first | (with_reducible first | exact HB.out | apply zf | apply zc | apply zj | refine zi ?_ GE294.out) | exact HB.out))) : w.heap.size ≤ gb305)); have n7_ := aM ((by rw [hg]; exact Nat.ne_of_lt (ye (g := gb294) (o := .cells #[.int .i64 a0_0, .int .i64 a0_1, .string a0_2, .slice A0_3 l0_3.length c0_3, .slice A0_4 l0_4.length c0_4] 25 (0, 0)) (by (with_reducible repeat (first | refine zg ?_ _ | refine zh ?_ | refine ze ?_ _)); exact BK294.out)) : gb294 ≠ gb305)); have n8_ := aM ((by rw [hg]; exact Nat.ne_of_gt (ye (g := gb294) (o := .cells #[.int .i64 a0_0, .int .i64 a0_1, .string a0_2, .slice A0_3 l0_3.length c0_3, .slice A0_4 l0_4.length c0_4] 25 (0, 0)) (by (with_reducible repeat (first | refine zg ?_ _ | refine zh ?_ | refine ze ?_ _)); exact BK294.out)) : gb305 ≠ gb294)); clear HO300; clear HO303; clear BK294; clear HB; have HO300 := n0_; have HO303 := n1_; have BK294 := n2_; have HB := n3_; have BK305 := n4_; have GW305 := n5_; have GE305 := n6_; have NB294_305 := n7_; have NB305_294 := n8_; clear n0_ n1_ n2_ n3_ n4_ n5_ n6_ n7_ n8_; clear hb hbox hg; have hnb8 := NB305_294.out; have hnc8 := NB294_305.out; have hcz9_0 : w7.cell? ⟨gb305, 0, none⟩ = some (.int .i64 0) := (za BK305.out 0).trans rfl; have hcz9_1 : w7.cell? ⟨gb305, 1, none⟩ = some (.int .i64 0) := (za BK305.out 1).trans rfl; have hcz9_2 : w7.cell? ⟨gb305, 2, none⟩ = some (.string (⟨#[]⟩ : ByteArray)) := (za BK305.out 2).trans rfl; have hcz9_3 : w7.cell? ⟨gb305, 3, none⟩ = some (.slice none 0 0) := (za BK305.out 3).trans rfl; have hcz9_4 : w7.cell? ⟨gb305, 4, none⟩ = some (.slice none 0 0) := (za BK305.out 4).trans rfl; have hfz9_0 := zb BK305.out 0; have hfz9_1 := zb BK305.out 1; have hfz9_2 := zb BK305.out 2; have hfz9_3 := zb BK305.out 3; have hfz9_4 := zb BK305.out 4; obtain ⟨Ao10, co10, eo10⟩ := Kd.V_slice HO300.out; subst eo10; obtain ⟨Ao11, co11, eo11⟩ := Kd.V_slice HO303.out; subst eo11))
 go_ret
 exact ⟨by first | rfl | (simp [zu, zt] <;> rfl) | (simp [*, zu, zt] <;> rfl), by repeat (first | (with_reducible first | exact HB.out | apply zf | apply zc | apply zj | refine zi ?_ GE294.out | refine zi ?_ GE305.out) | exact HB.out)⟩
attribute [local go_sem] xf xd xj xi yw yu xe xc 
def spec_sayIn.l0 : Nat → ByteArray → List ByteArray → Int → Option (Bool)
 | 0, _, _, _ => none
 | k + 1, x0, x1, x5 => if x5 < (x1.length : Int) then (if 0 ≤ x5 then (if (rdOf ByteArray.empty x1 x5).toList = x0.toList then (some true) else (spec_sayIn.l0 k x0 x1 (wrap64 (x5 + 1)))) else (none)) else (some false)
def spec_sayIn.f (k : Nat) (a0 : ByteArray) (l1 : List ByteArray) : Option (Bool) := spec_sayIn.l0 k a0 l1 0
set_option maxHeartbeats 8000000 in
set_option maxRecDepth 100000 in
theorem spec_sayIn.calls (k : Nat) (a0 : ByteArray) (A1 : Option Addr) (c1 : Nat) (l1 : List ByteArray) (r : Bool) (w : World) (hr1 : Kd.C Kd.string w A1 l1.length l1) (hc1 : l1.length ≤ c1) (h : spec_sayIn.f k a0 l1 = some r) :
  Calls Tryd.prog 33 #[.string a0, .slice A1 l1.length c1] w fun e w' => e = .returned (.bool r) ∧ Drawn0 w w' := by
 have HR1 := aM hr1; have HC1 := aM hc1; clear hr1 hc1; have H : (spec_sayIn.l0 k a0 l1 0) = some r := h; clear h; have H' := aM H; clear H
 go_enter Tryd.func33, Tryd.ntmps33
 go_wp2
 go_loopg [5] k (fun kq v5 w' => ∃ (x5_1 : Int), v5 = .int .i64 x5_1 ∧ Aside0 (spec_sayIn.l0 kq a0 l1 x5_1 = some r) ∧ Aside0 (kq ≤ k) ∧ Drawn0 w w')
 case atStart => exact ⟨(0), (by first | rfl | (simp; done) | (simp [*]; done)), H', ⟨Nat.le_refl _⟩, by repeat (first | exact Drawn0.refl _ | apply Drawn0.step)⟩
 case round =>
  clear H'
  try clear c1
  try clear p2
  obtain ⟨x5_1, rfl, HA, HK1, ⟨m1, rfl⟩⟩ := hrel
  cases gk with
  | zero => exact absurd HA.out (by simp [spec_sayIn.l0])
  | succ k1 =>
   have H := HA.out; clear HA; simp only [spec_sayIn.l0] at H
   by_cases c3 : x5_1 < (l1.length : Int)
   ·rw [if_pos c3] at H; have c3b0 : decide (x5_1 < (l1.length : Int)) = true := decide_eq_true c3; clear c3
    by_cases c4 : 0 ≤ x5_1
    ·rw [if_pos c4] at H; have c4b0 : decide (0 ≤ x5_1) = true := decide_eq_true c4; clear c4
     by_cases c5 : (rdOf ByteArray.empty l1 x5_1).toList = a0.toList
     ·rw [if_pos c5] at H; have c5b0 : ((rdOf ByteArray.empty l1 x5_1).toList == a0.toList) = true := beq_iff_eq.mpr c5; have c5b1 : ((rdOf ByteArray.empty l1 x5_1).toList != a0.toList) = false := bne_eq_false_iff_eq.mpr c5; clear c5; obtain rfl := Option.some.inj H; have p214 : 0 ≤ (x5_1 : Int) := of_decide_eq_true (by first | (with_reducible assumption) | assumption); have q214 : x5_1 < (l1.length : Int) := of_decide_eq_true (by first | (with_reducible assumption) | assumption); obtain ⟨ad214, e214, hx214_0⟩ := Kd.at_string HR1.out x5_1 p214 q214
      cases e214
      replace p214 := eq_true p214; replace q214 := eq_true q214
      go_wp2
      go_ret
      exact ⟨by first | rfl | (simp; done) | (simp [*]; done), by repeat (first | exact Drawn0.refl _ | apply Drawn0.step)⟩
     ·rw [if_neg c5] at H; have c5b0 : ((rdOf ByteArray.empty l1 x5_1).toList == a0.toList) = false := beq_eq_false_iff_ne.mpr c5; have c5b1 : ((rdOf ByteArray.empty l1 x5_1).toList != a0.toList) = true := bne_iff_ne.mpr c5; have H' := aM H; clear H; have p214 : 0 ≤ (x5_1 : Int) := of_decide_eq_true (by first | (with_reducible assumption) | assumption); have q214 : x5_1 < (l1.length : Int) := of_decide_eq_true (by first | (with_reducible assumption) | assumption); obtain ⟨ad214, e214, hx214_0⟩ := Kd.at_string HR1.out x5_1 p214 q214
      cases e214
      replace p214 := eq_true p214; replace q214 := eq_true q214
      go_wp2
      go_roundg k1
      case measure => have := HK1.out; omega
      case rel => exact ⟨(wrap64 (x5_1 + 1)), (by first | rfl | (simp; done) | (simp [*]; done)), H', ⟨by have := HK1.out; omega⟩, by repeat (first | exact Drawn0.refl _ | apply Drawn0.step)⟩
    ·rw [if_neg c4] at H; exact absurd H (by simp)
   ·rw [if_neg c3] at H; have c3b0 : decide (x5_1 < (l1.length : Int)) = false := decide_eq_false c3; clear c3; obtain rfl := Option.some.inj H
    go_wp2
    go_ret
    exact ⟨by first | rfl | (simp; done) | (simp [*]; done), by repeat (first | exact Drawn0.refl _ | apply Drawn0.step)⟩
attribute [local go_sem] xf xd xj xi yw yu xe xc 
def laws_zzFits2.l0 : Nat → List ByteArray → Int → Int → Option (Bool)
 | 0, _, _, _ => none
 | k + 1, x8, x9, x10 => if x10 < x9 then (if 0 ≤ x10 then (if x10 < (x8.length : Int) then (if ((rdOf ByteArray.empty x8 x10).size : Int) > 2147483647 then (some false) else (laws_zzFits2.l0 k x8 x9 (wrap64 (x10 + 1)))) else (none)) else (none)) else (some true)
def laws_zzFits2.f (k : Nat) (l0 : List ByteArray) : Option (Bool) := if (l0.length : Int) > 2147483647 then (some false) else (laws_zzFits2.l0 k l0 (l0.length : Int) 0)
set_option maxHeartbeats 8000000 in
set_option maxRecDepth 100000 in
theorem laws_zzFits2.calls (k : Nat) (A0 : Option Addr) (c0 : Nat) (l0 : List ByteArray) (r : Bool) (w : World) (hr0 : Kd.C Kd.string w A0 l0.length l0) (hc0 : l0.length ≤ c0) (h : laws_zzFits2.f k l0 = some r) :
  Calls Tryd.prog 10 #[.slice A0 l0.length c0] w fun e w' => e = .returned (.bool r) ∧ Drawn0 w w' := by
 have HR0 := aM hr0; have HC0 := aM hc0; clear hr0 hc0; have H : (if (l0.length : Int) > 2147483647 then (some false) else (laws_zzFits2.l0 k l0 (l0.length : Int) 0)) = some r := h; clear h
 by_cases c2 : (l0.length : Int) > 2147483647
 ·rw [if_pos c2] at H; have c2b0 : decide (2147483647 < (l0.length : Int)) = true := decide_eq_true c2; have c2b1 : decide (2147483647 < l0.length) = true := decide_eq_true (by omega); clear c2; obtain rfl := Option.some.inj H
  go_enter Tryd.func10, Tryd.ntmps10
  go_wp2
  go_ret
  exact ⟨by first | rfl | (simp; done) | (simp [*]; done), by repeat (first | exact Drawn0.refl _ | apply Drawn0.step)⟩
 ·rw [if_neg c2] at H; have c2b0 : decide (2147483647 < (l0.length : Int)) = false := decide_eq_false c2; have c2b1 : decide (2147483647 < l0.length) = false := decide_eq_false (by omega); clear c2; have H' := aM H; clear H
  go_enter Tryd.func10, Tryd.ntmps10
  go_wp2
  go_loopg [10] k (fun kq v10 w' => ∃ (x10_1 : Int), v10 = .int .i64 x10_1 ∧ Aside0 (laws_zzFits2.l0 kq l0 (l0.length : Int) x10_1 = some r) ∧ Aside0 (kq ≤ k) ∧ Drawn0 w w')
  case atStart => exact ⟨(0), (by first | rfl | (simp; done) | (simp [*]; done)), H', ⟨Nat.le_refl _⟩, by repeat (first | exact Drawn0.refl _ | apply Drawn0.step)⟩
  case round =>
   clear H'
   try clear c1
   try clear c2
   try clear c2b0
   try clear c2b1
   try clear p2
   obtain ⟨x10_1, rfl, HA, HK1, ⟨m1, rfl⟩⟩ := hrel
   cases gk with
   | zero => exact absurd HA.out (by simp [laws_zzFits2.l0])
   | succ k1 =>
    have H := HA.out; clear HA; simp only [laws_zzFits2.l0] at H
    by_cases c3 : x10_1 < (l0.length : Int)
    ·rw [if_pos c3] at H; have c3b0 : decide (x10_1 < (l0.length : Int)) = true := decide_eq_true c3; clear c3
     by_cases c4 : 0 ≤ x10_1
     ·rw [if_pos c4] at H; have c4b0 : decide (0 ≤ x10_1) = true := decide_eq_true c4; clear c4
      by_cases c5 : x10_1 < (l0.length : Int)
      ·rw [if_pos c5] at H; have c5b0 : decide (x10_1 < (l0.length : Int)) = true := decide_eq_true c5; clear c5
       by_cases c6 : ((rdOf ByteArray.empty l0 x10_1).size : Int) > 2147483647
       ·rw [if_pos c6] at H; have c6b0 : decide (2147483647 < ((rdOf ByteArray.empty l0 x10_1).size : Int)) = true := decide_eq_true c6; have c6b1 : decide (2147483647 < (rdOf ByteArray.empty l0 x10_1).size) = true := decide_eq_true (by omega); clear c6; obtain rfl := Option.some.inj H; have p101 : 0 ≤ (x10_1 : Int) := of_decide_eq_true (by first | (with_reducible assumption) | assumption); have q101 : x10_1 < (l0.length : Int) := of_decide_eq_true (by first | (with_reducible assumption) | assumption); obtain ⟨ad101, e101, hx101_0⟩ := Kd.at_string HR0.out x10_1 p101 q101
        cases e101
        replace p101 := eq_true p101; replace q101 := eq_true q101
        go_wp2
        go_ret
        exact ⟨by first | rfl | (simp; done) | (simp [*]; done), by repeat (first | exact Drawn0.refl _ | apply Drawn0.step)⟩
       ·rw [if_neg c6] at H; have c6b0 : decide (2147483647 < ((rdOf ByteArray.empty l0 x10_1).size : Int)) = false := decide_eq_false c6; have c6b1 : decide (2147483647 < (rdOf ByteArray.empty l0 x10_1).size) = false := decide_eq_false (by omega); clear c6; have H' := aM H; clear H; have p101 : 0 ≤ (x10_1 : Int) := of_decide_eq_true (by first | (with_reducible assumption) | assumption); have q101 : x10_1 < (l0.length : Int) := of_decide_eq_true (by first | (with_reducible assumption) | assumption); obtain ⟨ad101, e101, hx101_0⟩ := Kd.at_string HR0.out x10_1 p101 q101
        cases e101
        replace p101 := eq_true p101; replace q101 := eq_true q101
        go_wp2
        go_roundg k1
        case measure => have := HK1.out; omega
        case rel => exact ⟨(wrap64 (x10_1 + 1)), (by first | rfl | (simp; done) | (simp [*]; done)), H', ⟨by have := HK1.out; omega⟩, by repeat (first | exact Drawn0.refl _ | apply Drawn0.step)⟩
      ·rw [if_neg c5] at H; exact absurd H (by simp)
     ·rw [if_neg c4] at H; exact absurd H (by simp)
    ·rw [if_neg c3] at H; have c3b0 : decide (x10_1 < (l0.length : Int)) = false := decide_eq_false c3; clear c3; obtain rfl := Option.some.inj H
     go_wp2
     go_ret
     exact ⟨by first | rfl | (simp; done) | (simp [*]; done), by repeat (first | exact Drawn0.refl _ | apply Drawn0.step)⟩
attribute [local go_sem] xf xd xj xi yw yu xe xc 
def laws_zzFits1.f (k : Nat) (a0_0 : Int) (a0_1 : Int) (a0_2 : ByteArray) (l0_3 : List ByteArray) (l0_4 : List (S25)) : Option (Bool) := if (a0_2.size : Int) > 2147483647 then (some false) else ((laws_zzFits2.f k l0_3).bind fun t103 => (if t103 = true then (if (l0_4.length : Int) > 2147483647 then (some false) else (some true)) else (some false)))
set_option maxHeartbeats 8000000 in
set_option maxRecDepth 100000 in
theorem laws_zzFits1.calls (k : Nat) (a0_0 : Int) (a0_1 : Int) (a0_2 : ByteArray) (A0_3 : Option Addr) (c0_3 : Nat) (l0_3 : List ByteArray) (A0_4 : Option Addr) (c0_4 : Nat) (l0_4 : List (S25)) (r : Bool) (w : World) (hr0_3 : Kd.C Kd.string w A0_3 l0_3.length l0_3) (hc0_3 : l0_3.length ≤ c0_3) (hr0_4 : Kd.C k25 w A0_4 l0_4.length l0_4) (hc0_4 : l0_4.length ≤ c0_4) (h : laws_zzFits1.f k a0_0 a0_1 a0_2 l0_3 l0_4 = some r) :
  Calls Tryd.prog 4 #[.agg #[.int .i64 a0_0, .int .i64 a0_1, .string a0_2, .slice A0_3 l0_3.length c0_3, .slice A0_4 l0_4.length c0_4]] w fun e w' => e = .returned (.bool r) ∧ Below w.heap.size w w' := by
 have hu25 := Tryd.underlying25; have HR0_3 := aM hr0_3; have HC0_3 := aM hc0_3; clear hr0_3 hc0_3; have HR0_4 := aM hr0_4; have HC0_4 := aM hc0_4; clear hr0_4 hc0_4; have HB := aM (Below.refl w.heap.size w); have H : (if (a0_2.size : Int) > 2147483647 then (some false) else ((laws_zzFits2.f k l0_3).bind fun t103 => (if t103 = true then (if (l0_4.length : Int) > 2147483647 then (some false) else (some true)) else (some false)))) = some r := h; clear h
 by_cases c2 : (a0_2.size : Int) > 2147483647
 ·rw [if_pos c2] at H; have c2b0 : decide (2147483647 < (a0_2.size : Int)) = true := decide_eq_true c2; have c2b1 : decide (2147483647 < a0_2.size) = true := decide_eq_true (by omega); clear c2; obtain rfl := Option.some.inj H
  go_enter Tryd.func4, Tryd.ntmps4
  go_wp2_with (first | ((with_reducible refine ya (N := 1) rfl ?_); refine zw ?hg (N := 1) ?hd (cs := #[.int .i64 a0_0, .int .i64 a0_1, .string a0_2, .slice A0_3 l0_3.length c0_3, .slice A0_4 l0_4.length c0_4]) (t := 25) ?hr ?_; (case hd => rfl); (case hg => rfl); (case hr => first | (go_simp; done) | (go_simp; rfl)); intro gb102 hg w3 hbox hb; have n0_ := aM (zo (by repeat (first | (with_reducible first | exact HB.out | apply zf | apply zc | apply zj) | exact HB.out)) hb); have n1_ := aM (hbox); have n2_ := aM ((by rw [hg]; exact (zm (by repeat (first | (with_reducible first | exact HB.out | apply zf | apply zc | apply zj) | exact HB.out))) : w.heap.size ≤ gb102)); have n3_ := aM ((by rw [hg]; exact (zm (by repeat (first | (with_reducible first | exact HB.out | apply zf | apply zc | apply zj) | exact HB.out))) : w.heap.size ≤ gb102)); clear HB; have HB := n0_; have BK102 := n1_; have GW102 := n2_; have GE102 := n3_; clear n0_ n1_ n2_ n3_; clear hb hbox hg; have hcz4_0 : w3.cell? ⟨gb102, 0, none⟩ = some (.int .i64 a0_0) := (za BK102.out 0).trans rfl; have hcz4_1 : w3.cell? ⟨gb102, 1, none⟩ = some (.int .i64 a0_1) := (za BK102.out 1).trans rfl; have hcz4_2 : w3.cell? ⟨gb102, 2, none⟩ = some (.string a0_2) := (za BK102.out 2).trans rfl; have hcz4_3 : w3.cell? ⟨gb102, 3, none⟩ = some (.slice A0_3 l0_3.length c0_3) := (za BK102.out 3).trans rfl; have hcz4_4 : w3.cell? ⟨gb102, 4, none⟩ = some (.slice A0_4 l0_4.length c0_4) := (za BK102.out 4).trans rfl; have hfz4_0 := zb BK102.out 0; have hfz4_1 := zb BK102.out 1; have hfz4_2 := zb BK102.out 2; have hfz4_3 := zb BK102.out 3; have hfz4_4 := zb BK102.out 4))
  go_ret
  exact ⟨by first | rfl | (simp [zu, zt] <;> rfl) | (simp [*, zu, zt] <;> rfl), by repeat (first | (with_reducible first | exact HB.out | apply zf | apply zc | apply zj | refine zi ?_ GE102.out) | exact HB.out)⟩
 ·rw [if_neg c2] at H; have c2b0 : decide (2147483647 < (a0_2.size : Int)) = false := decide_eq_false c2; have c2b1 : decide (2147483647 < a0_2.size) = false := decide_eq_false (by omega); clear c2; replace H := Option.bind_eq_some_iff.mp H; obtain ⟨t103, A50, H⟩ := H; replace H : (if t103 = true then (if (l0_4.length : Int) > 2147483647 then (some false) else (some true)) else (some false)) = some r := H; have A5 := aM A50; clear A50
  by_cases c6 : t103 = true
  ·subst c6
   have H1 : (if (l0_4.length : Int) > 2147483647 then (some false) else (some true)) = some r := by rw [if_pos rfl] at H; exact H
   clear H; have H := H1; clear H1
   by_cases c7 : (l0_4.length : Int) > 2147483647
   ·rw [if_pos c7] at H; have c7b0 : decide (2147483647 < (l0_4.length : Int)) = true := decide_eq_true c7; have c7b1 : decide (2147483647 < l0_4.length) = true := decide_eq_true (by omega); clear c7; obtain rfl := Option.some.inj H
    go_enter Tryd.func4, Tryd.ntmps4
    go_wp2_with (first | ((with_reducible refine ya (N := 1) rfl ?_); refine zw ?hg (N := 1) ?hd (cs := #[.int .i64 a0_0, .int .i64 a0_1, .string a0_2, .slice A0_3 l0_3.length c0_3, .slice A0_4 l0_4.length c0_4]) (t := 25) ?hr ?_; (case hd => rfl); (case hg => rfl); (case hr => first | (go_simp; done) | (go_simp; rfl)); intro gb102 hg w8 hbox hb; have n0_ := aM (zo (by repeat (first | (with_reducible first | exact HB.out | apply zf | apply zc | apply zj) | exact HB.out)) hb); have n1_ := aM (hbox); have n2_ := aM ((by rw [hg]; exact (zm (by repeat (first | (with_reducible first | exact HB.out | apply zf | apply zc | apply zj) | exact HB.out))) : w.heap.size ≤ gb102)); have n3_ := aM ((by rw [hg]; exact (zm (by repeat (first | (with_reducible first | exact HB.out | apply zf | apply zc | apply zj) | exact HB.out))) : w.heap.size ≤ gb102)); clear HB; have HB := n0_; have BK102 := n1_; have GW102 := n2_; have GE102 := n3_; clear n0_ n1_ n2_ n3_; clear hb hbox hg; have hcz9_0 : w8.cell? ⟨gb102, 0, none⟩ = some (.int .i64 a0_0) := (za BK102.out 0).trans rfl; have hcz9_1 : w8.cell? ⟨gb102, 1, none⟩ = some (.int .i64 a0_1) := (za BK102.out 1).trans rfl; have hcz9_2 : w8.cell? ⟨gb102, 2, none⟩ = some (.string a0_2) := (za BK102.out 2).trans rfl; have hcz9_3 : w8.cell? ⟨gb102, 3, none⟩ = some (.slice A0_3 l0_3.length c0_3) := (za BK102.out 3).trans rfl; have hcz9_4 : w8.cell? ⟨gb102, 4, none⟩ = some (.slice A0_4 l0_4.length c0_4) := (za BK102.out 4).trans rfl; have hfz9_0 := zb BK102.out 0; have hfz9_1 := zb BK102.out 1; have hfz9_2 := zb BK102.out 2; have hfz9_3 := zb BK102.out 3; have hfz9_4 := zb BK102.out 4) | ((with_reducible refine yl (f := 10) rfl ?_); refine xg (some 9) rfl rfl Tryd.func10 (by kernel_rfl) rfl #[.slice A0_3 l0_3.length c0_3] rfl (by (try simp only [List.map_toArray, List.map_cons, List.map_nil]); first | done | rfl | (simp only [List.length_drop, List.length_take]; rfl)) ?_; (with_reducible refine (laws_zzFits2.calls k _ _ l0_3 true _ ?side1 ?side2 A5.out).mono ?_); (case side1 => repeat (first | exact (Kd.C_below HR0_3.out HB.out) | (with_reducible refine Kd.C_alloc ?_ _) | (with_reducible refine Kd.C_drewN ?_ _) | (with_reducible refine Kd.C_drew ?_))); (case side2 => exact HC0_3.out); rintro e w' ⟨rfl, ⟨nd, rfl⟩⟩; refine ⟨_, rfl, ?_⟩))
    go_ret
    exact ⟨by first | rfl | (simp [zu, zt] <;> rfl) | (simp [*, zu, zt] <;> rfl), by repeat (first | (with_reducible first | exact HB.out | apply zf | apply zc | apply zj | refine zi ?_ GE102.out) | exact HB.out)⟩
   ·rw [if_neg c7] at H; have c7b0 : decide (2147483647 < (l0_4.length : Int)) = false := decide_eq_false c7; have c7b1 : decide (2147483647 < l0_4.length) = false := decide_eq_false (by omega); clear c7; obtain rfl := Option.some.inj H
    go_enter Tryd.func4, Tryd.ntmps4
    go_wp2_with (first | ((with_reducible refine ya (N := 1) rfl ?_); refine zw ?hg (N := 1) ?hd (cs := #[.int .i64 a0_0, .int .i64 a0_1, .string a0_2, .slice A0_3 l0_3.length c0_3, .slice A0_4 l0_4.length c0_4]) (t := 25) ?hr ?_; (case hd => rfl); (case hg => rfl); (case hr => first | (go_simp; done) | (go_simp; rfl)); intro gb102 hg w10 hbox hb; have n0_ := aM (zo (by repeat (first | (with_reducible first | exact HB.out | apply zf | apply zc | apply zj) | exact HB.out)) hb); have n1_ := aM (hbox); have n2_ := aM ((by rw [hg]; exact (zm (by repeat (first | (with_reducible first | exact HB.out | apply zf | apply zc | apply zj) | exact HB.out))) : w.heap.size ≤ gb102)); have n3_ := aM ((by rw [hg]; exact (zm (by repeat (first | (with_reducible first | exact HB.out | apply zf | apply zc | apply zj) | exact HB.out))) : w.heap.size ≤ gb102)); clear HB; have HB := n0_; have BK102 := n1_; have GW102 := n2_; have GE102 := n3_; clear n0_ n1_ n2_ n3_; clear hb hbox hg; have hcz11_0 : w10.cell? ⟨gb102, 0, none⟩ = some (.int .i64 a0_0) := (za BK102.out 0).trans rfl; have hcz11_1 : w10.cell? ⟨gb102, 1, none⟩ = some (.int .i64 a0_1) := (za BK102.out 1).trans rfl; have hcz11_2 : w10.cell? ⟨gb102, 2, none⟩ = some (.string a0_2) := (za BK102.out 2).trans rfl; have hcz11_3 : w10.cell? ⟨gb102, 3, none⟩ = some (.slice A0_3 l0_3.length c0_3) := (za BK102.out 3).trans rfl; have hcz11_4 : w10.cell? ⟨gb102, 4, none⟩ = some (.slice A0_4 l0_4.length c0_4) := (za BK102.out 4).trans rfl; have hfz11_0 := zb BK102.out 0; have hfz11_1 := zb BK102.out 1; have hfz11_2 := zb BK102.out 2; have hfz11_3 := zb BK102.out 3; have hfz11_4 := zb BK102.out 4) | ((with_reducible refine yl (f := 10) rfl ?_); refine xg (some 9) rfl rfl Tryd.func10 (by kernel_rfl) rfl #[.slice A0_3 l0_3.length c0_3] rfl (by (try simp only [List.map_toArray, List.map_cons, List.map_nil]); first | done | rfl | (simp only [List.length_drop, List.length_take]; rfl)) ?_; (with_reducible refine (laws_zzFits2.calls k _ _ l0_3 true _ ?side1 ?side2 A5.out).mono ?_); (case side1 => repeat (first | exact (Kd.C_below HR0_3.out HB.out) | (with_reducible refine Kd.C_alloc ?_ _) | (with_reducible refine Kd.C_drewN ?_ _) | (with_reducible refine Kd.C_drew ?_))); (case side2 => exact HC0_3.out); rintro e w' ⟨rfl, ⟨nd, rfl⟩⟩; refine ⟨_, rfl, ?_⟩))
    go_ret
    exact ⟨by first | rfl | (simp [zu, zt] <;> rfl) | (simp [*, zu, zt] <;> rfl), by repeat (first | (with_reducible first | exact HB.out | apply zf | apply zc | apply zj | refine zi ?_ GE102.out) | exact HB.out)⟩
  ·replace c6 := Bool.eq_false_iff.mpr c6; subst c6
   have H1 : (some false) = some r := by rw [if_neg (show ¬ (false = true) by decide)] at H; exact H
   clear H; have H := H1; clear H1; obtain rfl := Option.some.inj H
   go_enter Tryd.func4, Tryd.ntmps4
   go_wp2_with (first | ((with_reducible refine ya (N := 1) rfl ?_); refine zw ?hg (N := 1) ?hd (cs := #[.int .i64 a0_0, .int .i64 a0_1, .string a0_2, .slice A0_3 l0_3.length c0_3, .slice A0_4 l0_4.length c0_4]) (t := 25) ?hr ?_; (case hd => rfl); (case hg => rfl); (case hr => first | (go_simp; done) | (go_simp; rfl)); intro gb102 hg w12 hbox hb; have n0_ := aM (zo (by repeat (first | (with_reducible first | exact HB.out | apply zf | apply zc | apply zj) | exact HB.out)) hb); have n1_ := aM (hbox); have n2_ := aM ((by rw [hg]; exact (zm (by repeat (first | (with_reducible first | exact HB.out | apply zf | apply zc | apply zj) | exact HB.out))) : w.heap.size ≤ gb102)); have n3_ := aM ((by rw [hg]; exact (zm (by repeat (first | (with_reducible first | exact HB.out | apply zf | apply zc | apply zj) | exact HB.out))) : w.heap.size ≤ gb102)); clear HB; have HB := n0_; have BK102 := n1_; have GW102 := n2_; have GE102 := n3_; clear n0_ n1_ n2_ n3_; clear hb hbox hg; have hcz13_0 : w12.cell? ⟨gb102, 0, none⟩ = some (.int .i64 a0_0) := (za BK102.out 0).trans rfl; have hcz13_1 : w12.cell? ⟨gb102, 1, none⟩ = some (.int .i64 a0_1) := (za BK102.out 1).trans rfl; have hcz13_2 : w12.cell? ⟨gb102, 2, none⟩ = some (.string a0_2) := (za BK102.out 2).trans rfl; have hcz13_3 : w12.cell? ⟨gb102, 3, none⟩ = some (.slice A0_3 l0_3.length c0_3) := (za BK102.out 3).trans rfl; have hcz13_4 : w12.cell? ⟨gb102, 4, none⟩ = some (.slice A0_4 l0_4.length c0_4) := (za BK102.out 4).trans rfl; have hfz13_0 := zb BK102.out 0; have hfz13_1 := zb BK102.out 1; have hfz13_2 := zb BK102.out 2; have hfz13_3 := zb BK102.out 3; have hfz13_4 := zb BK102.out 4) | ((with_reducible refine yl (f := 10) rfl ?_); refine xg (some 9) rfl rfl Tryd.func10 (by kernel_rfl) rfl #[.slice A0_3 l0_3.length c0_3] rfl (by (try simp only [List.map_toArray, List.map_cons, List.map_nil]); first | done | rfl | (simp only [List.length_drop, List.length_take]; rfl)) ?_; (with_reducible refine (laws_zzFits2.calls k _ _ l0_3 false _ ?side1 ?side2 A5.out).mono ?_); (case side1 => repeat (first | exact (Kd.C_below HR0_3.out HB.out) | (with_reducible refine Kd.C_alloc ?_ _) | (with_reducible refine Kd.C_drewN ?_ _) | (with_reducible refine Kd.C_drew ?_))); (case side2 => exact HC0_3.out); rintro e w' ⟨rfl, ⟨nd, rfl⟩⟩; refine ⟨_, rfl, ?_⟩))
   go_ret
   exact ⟨by first | rfl | (simp [zu, zt] <;> rfl) | (simp [*, zu, zt] <;> rfl), by repeat (first | (with_reducible first | exact HB.out | apply zf | apply zc | apply zj | refine zi ?_ GE102.out) | exact HB.out)⟩
end Go.Proofs.YtceojjlpeacfgaaDoor.PS
namespace Go.Proofs.YtceojjlpeacfgaaDoor.Str
open Go.RowKit Go.Proofs.YtceojjlpeacfgaaDoorW.PrintWords
abbrev Bs := List UInt8
abbrev lb (s : ByteArray) : Bs := s.data.toList
theorem lb_length (s : ByteArray) : (lb s).length = s.size := by rw [Array.length_toList]; rfl
theorem lb_inj {s t : ByteArray} (h : lb s = lb t) : s = t := by
 cases s; cases t
 simp only [lb] at h; rw [Array.toList_inj.1 h]
theorem lb_extract (s : ByteArray) (a b : Nat) : lb (s.extract a b) = ((lb s).take b).drop a := by
 simp [lb, List.extract_eq_drop_take', ByteArray.data_extract]
theorem lb_mk (l : Bs) : lb ⟨l.toArray⟩ = l := by simp [lb]
theorem yo (s : ByteArray) : s.toList = lb s := ByteArray.toList_eq s
theorem bt_lb (s : ByteArray) (i : Nat) (h : i < (lb s).length) : bt s i = ((lb s)[i].toNat : Int) := by
 have h' : i < s.size := by rw [← lb_length]; exact h
 simp [lb, bt, h']
 rfl
theorem w64 {i : Int} (h0 : -4611686018427387904 ≤ i) (h1 : i ≤ 4611686018427387904) : wrap64 i = i := by
 unfold wrap64; omega
def find (sub : Bs) : Bs → Option Nat
 | [] => if sub = [] then some 0 else none
 | c :: t => if sub.isPrefixOf (c :: t) then some 0 else (find sub t).map (· + 1)
def split (c : UInt8) : Bs → List Bs
 | [] => [[]]
 | x :: t => if x = c then [] :: split c t else match split c t with
  | [] => [[x]]
  | h :: r => (x :: h) :: r
def At (sub s : Bs) (j : Nat) : Prop := j ≤ s.length ∧ find sub s = (find sub (s.drop j)).map (· + j)
theorem lb_piece (s : ByteArray) (j m : Nat) : lb (s.extract j (j + m)) = ((lb s).drop j).take m := by
 rw [lb_extract, List.drop_take]
 congr 1
 omega
end Go.Proofs.YtceojjlpeacfgaaDoor.Str
namespace Go.Proofs.YtceojjlpeacfgaaDoor.MapV
open Go.RowKit Go.Proofs.YtceojjlpeacfgaaDoorW.PrintWords Go.Proofs.YtceojjlpeacfgaaDoor.Str Go.Maps
open Go.WideElems (Fit rd rg pl rd_val rd_key)
section
variable {α β : Type}
def mget (f : List (Bs × α)) (k : Bs) : Option α := (f.find? fun p => p.1 == k).map (·.2)
def mins (x : Bs × α) : List (Bs × α) → List (Bs × α)
 | [] => [x]
 | y :: r => if x.1 < y.1 then x :: y :: r else y :: mins x r
def mdel (f : List (Bs × α)) (k : Bs) : List (Bs × α) := f.filter fun p => !(p.1 == k)
def mput (f : List (Bs × α)) (k : Bs) (v : α) : List (Bs × α) := mins (k, v) (mdel f k)
def Rises (f : List (Bs × α)) : Prop := f.Pairwise fun p q => p.1 < q.1
theorem lt_irrefl (a : Bs) : ¬ a < a := List.lt_irrefl a
theorem lt_trans {a b c : Bs} (h : a < b) (k : b < c) : a < c := List.lt_trans h k
theorem lt_total (a b : Bs) : a < b ∨ a = b ∨ b < a := by
 by_cases h : a < b
 ·exact .inl h
 ·by_cases k : b < a
  ·exact .inr (.inr k)
  ·exact .inr (.inl (List.le_antisymm k h))
theorem lt_ne {a b : Bs} (h : a < b) : a ≠ b := fun e => lt_irrefl a (by rw [← e] at h; exact h)
theorem mins_mem {x p : Bs × α} : ∀ {f : List (Bs × α)}, p ∈ mins x f ↔ p = x ∨ p ∈ f
 | [] => by simp [mins]
 | y :: r => by
  rw [mins]
  split
  ·simp
  ·rw [List.mem_cons, mins_mem, List.mem_cons]; constructor
   ·rintro (h | h | h)
    ·exact .inr (.inl h)
    ·exact .inl h
    ·exact .inr (.inr h)
   ·rintro (h | h | h)
    ·exact .inr (.inl h)
    ·exact .inl h
    ·exact .inr (.inr h)
theorem mins_length (x : Bs × α) : ∀ f : List (Bs × α), (mins x f).length = f.length + 1
 | [] => rfl
 | y :: r => by
  rw [mins]
  split
  ·rfl
  ·simp [mins_length x r]
theorem mput_length (f : List (Bs × α)) (k : Bs) (v : α) : (mput f k v).length ≤ f.length + 1 := by
 rw [mput, mins_length]; have := List.length_filter_le (fun p : Bs × α => !(p.1 == k)) f
 unfold mdel
 omega
theorem mins_map (g : α → β) (x : Bs × α) : ∀ f : List (Bs × α), mins (x.1, g x.2) (f.map fun p => (p.1, g p.2)) = (mins x f).map fun p => (p.1, g p.2)
 | [] => rfl
 | y :: r => by
  rw [List.map_cons, mins, mins]
  split
  ·rfl
  ·rw [mins_map g x r]; rfl
theorem mput_map (g : α → β) (f : List (Bs × α)) (k : Bs) (v : α) : mput (f.map fun p => (p.1, g p.2)) k (g v) = (mput f k v).map fun p => (p.1, g p.2) := by
 unfold mput
 rw [← mins_map g (k, v)]; refine congrArg _ ?_
 unfold mdel
 rw [List.filter_map]; rfl
end
theorem before_lt : ∀ a b : Bs, bytesBefore a b = decide (a < b)
 | [], [] => by decide
 | [], _ :: _ => by simp [bytesBefore]
 | _ :: _, [] => by simp [bytesBefore]
 | a :: r, b :: s => by
  rw [bytesBefore, before_lt r s]; have : (a :: r < b :: s) ↔ a < b ∨ (a = b ∧ r < s) := List.cons_lt_cons_iff
  by_cases h1 : a < b
  ·simp [this, h1]
  ·by_cases h2 : a = b
   ·simp [this, h1, h2]
   ·simp [this, h1, h2]
def heldR (v : Value) : Option (DataW Value × List MemPlace) := some (.held v, [])
section
variable {α : Type} (enc : α → Value)
def ent (p : Bs × α) : Lit × DataW Value := (.string p.1, .held (enc p.2))
theorem ent_put (f : List (Bs × α)) (k : Bs) (v : α) : (DataW.map (f.map (ent enc))).put (.string k) (.held (enc v)) = .map ((mput f k v).map (ent enc)) := by
 have ins : ∀ g : List (Bs × α), DataW.insert (Lit.string k, DataW.held (enc v)) (g.map (ent enc)) = (mins (k, v) g).map (ent enc) := by
  intro g
  induction g with
  | nil => rfl
  | cons y r ih =>
   rw [List.map_cons, DataW.insert, mins]; have : (Lit.string k).before (ent enc y).1 = decide (k < y.1) := before_lt k y.1; rw [this]
   by_cases h : k < y.1
   ·simp [h, ent]
   ·simp [h, ih]
 unfold DataW.put mput
 rw [← ins]; refine congrArg (fun x => DataW.map (DataW.insert _ x)) ?_
 unfold mdel
 rw [List.filter_map]; rfl
theorem ent_at (f : List (Bs × α)) (k : Bs) (zd : DataW Value) : (DataW.map (f.map (ent enc))).atKey (.string k) zd = match mget f k with
  | some v => .held (enc v)
  | none => zd := by
 unfold DataW.atKey mget
 simp only [List.find?_map]
 have : ((fun p : Lit × DataW Value => p.1.sameKey (.string k)) ∘ ent enc) = fun p : Bs × α => p.1 == k := rfl
 rw [this]
 cases f.find? (fun p => p.1 == k) <;> rfl
theorem ent_has (f : List (Bs × α)) (k : Bs) : Maps.has (DataW.map (f.map (ent enc))) (.string k) = (mget f k).isSome := by
 unfold mget
 rw [Maps.has_eq, List.any_map]
 have : ((fun p : Lit × DataW Value => p.1.sameKey (.string k)) ∘ ent enc) = fun p : Bs × α => p.1 == k := rfl
 rw [this]; rw [Option.isSome_map, Bool.eq_iff_iff, List.any_eq_true, List.find?_isSome]
end
def MapE (P : Program) (k : TypeId) {α : Type} (enc : α → Value) (w : World) (b : Nat) (f : List (Bs × α)) : Prop := w.ownsMap P k heldR b f.length (.map (f.map (ent enc)))
section
variable {P : Program} {k : TypeId} {α : Type} {enc : α → Value} {w w1 : World} {b : Nat} {f : List (Bs × α)}
theorem owns_norm {n : Nat} {l : List (Lit × DataW Value)} (h : w.ownsMap P k heldR b n (.map l)) : w.ownsMap P k heldR b l.length (.map l) := by
 obtain ⟨es, clock, hb, F, hs, hD⟩ := h; refine ⟨es, clock, hb, F, ?_, hD⟩
 injection hD with hD
 rw [hD, length_sorted]
 simp
theorem MapE.of {n : Nat} (h : w.ownsMap P k heldR b n (.map (f.map (ent enc)))) : MapE P k enc w b f := by
 have := owns_norm h; rw [List.length_map] at this; exact this
theorem MapE.lt (h : MapE P k enc w b f) : b < w.heap.size := World.ownsMap.lt h
theorem MapE.grown (h : MapE P k enc w b f) {row : Option Nat} (hg : w.grownBy w1 row) (hn : some b ≠ row) : MapE P k enc w1 b f := World.ownsMap.kept h hg hn
theorem MapE.below (h : MapE P k enc w b f) (hb : Below w.heap.size w w1) : MapE P k enc w1 b f := h.grown (grown_of_below hb none) (by simp)
theorem MapE.move (h : MapE P k enc w b f) (hm : w1.heap[b]? = w.heap[b]?) : MapE P k enc w1 b f := by
 obtain ⟨es, clock, hb, F, r⟩ := h; exact ⟨es, clock, hm.trans hb, F, r⟩
theorem MapE.made (P : Program) (k : TypeId) (enc : α → Value) (w : World) : MapE P k enc (w.alloc (.map #[] 0)) w.heap.size [] := World.ownsMap_made w P k heldR
open Go.WideMaps in
theorem keyOf_s (hk : P.underlying k = some .string) {s : ByteArray} (hs : s.size ≤ maxLen) : keyOf P k (.string s) = some (.string (lb s)) := keyOf_string_mk hk hs
end
section
variable {P : Program} {k e t : TypeId} {α : Type} {enc : α → Value} {w : World} {b : Nat} {f : List (Bs × α)}
variable {ops : Array Oper} {rest : List Oper} {o : Oper} {a : Act} {Q : Exit → Act → World → Prop}
theorem xr (hk : P.underlying k = some .string) (ht : P.underlying t = some (.map k e)) {z : Value} (hz : (zeroValue e).run P w = .ok z w) (h : MapE P k enc w b f) {s : ByteArray} (hs : s.size ≤ maxLen) :
  (Instr.lookup t (.map (some b)) (.string s) true).run P w = .ok (.tuple #[((mget f (lb s)).map enc).getD z, .bool (mget f (lb s)).isSome]) w := by
 obtain ⟨v, ps, hrun, hv⟩ := World.ownsMap.look_ok h (string_keyed hk) ht hz (zd := .held z) (zp := []) rfl (keyOf_s hk hs); rw [ent_at] at hv; rw [ent_has] at hrun
 have : v = ((mget f (lb s)).map enc).getD z := by
  cases hf : mget f (lb s) with
  | none => rw [hf] at hv; simp [heldR] at hv; simpa using hv.1
  | some y => rw [hf] at hv; simp [heldR] at hv; simpa using hv.1
 rw [← this]; exact hrun
end
end Go.Proofs.YtceojjlpeacfgaaDoor.MapV
namespace Go.Proofs.YtceojjlpeacfgaaDoor.Kit
open Go.RowKit Go.Proofs.YtceojjlpeacfgaaDoorW.PrintWords Go.Proofs.YtceojjlpeacfgaaDoor.Str
theorem yp {w w1 w2 : World} (h : Below w.heap.size w w1) (k : Below w1.heap.size w1 w2) : Below w.heap.size w w2 := xn h h.size k
section
variable {P : Program} {ops : Array Oper} {rest : List Oper} {o : Oper} {a : Act} {Q : Exit → Act → World → Prop} {α : Type}
end
theorem yq : (Tryd.prog.info? 9).map (fun i => (i.zero, i.size, i.bytes)) = some (some (.string ⟨#[]⟩), 1, 16) := by kernel_rfl
section
variable {ops : Array Oper} {rest : List Oper} {o : Oper} {a : Act} {Q : Exit → Act → World → Prop}
theorem own_empty {α : Type} (d : Kd α) {w : World} {base : Nat} {e : TypeId} {ok : Nat → Prop} (hb : base ≤ w.heap.size) (hok : ok w.heap.size) : d.R e (w.alloc (.cells #[] e)) base ok (.slice (some ⟨w.heap.size, 0, none⟩) 0 0) [] := by
 refine ⟨fun k hk => ?_, [], ⟨by simp, .inr ⟨w.heap.size, 0, #[], rfl, hb, heap_alloc_new w _, Nat.le_refl _, by unfold maxLen; omega, by simp, by simp⟩⟩, Reps.none _ _⟩
 have : w.heap.size = k := by simpa [Value.ownBlock] using hk
 subst this; exact hok
end
theorem strs_open {w : World} {A : Option Addr} {xs : List ByteArray} (h : Kd.string.C w A xs.length xs) (h0 : 0 < xs.length) :
  ∃ bk off, A = some ⟨bk, off, none⟩ ∧ bk < w.heap.size ∧ ∀ (j : Nat) (hj : j < xs.length), w.cell? ⟨bk, off + j, none⟩ = some (.string xs[j]) := by
 obtain ⟨hl, hm, hc⟩ := h; obtain ⟨ad, rfl, hcc⟩ := hc h0
 have cell : ∀ (j : Nat) (hj : j < xs.length), w.cell? (ad.add j) = some (.string xs[j]) := by
  intro j hj; obtain ⟨c, hcl, hr, hcell⟩ := hcc j xs[j] (List.getElem?_eq_getElem hj); have hr' : c = [Value.string xs[j]] := hr; subst hr'; have := hcell 0 _ rfl
  simpa [Kd.string, Kd.scalar] using this
 obtain ⟨bk, off, spot⟩ := ad
 have hspot : spot = none := by
  have h1 := cell 0 h0
  cases hs : spot with
  | none => rfl
  | some sp =>
   exfalso
   subst hs
   simp [World.cell?, Addr.add] at h1
   split at h1 <;> simp at h1
 subst hspot
 have add : ∀ j : Nat, (⟨bk, off, none⟩ : Addr).add j = ⟨bk, off + j, none⟩ := by intro j; unfold Addr.add; split <;> simp_all
 refine ⟨bk, off, rfl, ?_, fun j hj => by rw [← add]; exact cell j hj⟩; have h1 := cell 0 h0; rw [add] at h1; exact World.block_lt_of_cell? w _ h1
theorem strs_mk {w : World} {b o : Nat} {xs : List ByteArray} (hm : xs.length ≤ 9223372036854775807) (hc : ∀ (j : Nat) (hj : j < xs.length), w.cell? ⟨b, o + j, none⟩ = some (.string xs[j])) : Kd.string.C w (some ⟨b, o, none⟩) xs.length xs := by
 refine ⟨rfl, hm, fun _ => ⟨_, rfl, fun j p hp => ?_⟩⟩; obtain ⟨hj, rfl⟩ := List.getElem?_eq_some_iff.1 hp; refine ⟨[.string xs[j]], rfl, rfl, fun i u hu => ?_⟩; have hi : i < 1 := (List.getElem?_eq_some_iff.1 hu).1
 obtain rfl : i = 0 := by omega
 have hu' : Value.string xs[j] = u := by simpa using hu
 subst hu'
 have add : (⟨b, o, none⟩ : Addr).add (j * Kd.string.sz + 0) = ⟨b, o + j, none⟩ := by
  have : j * Kd.string.sz + 0 = j := by simp [Kd.string, Kd.scalar]
  rw [this]; unfold Addr.add; split <;> simp_all
 rw [add]; exact hc j hj
theorem strs_lit (w : World) (e : TypeId) (xs : List ByteArray) (hm : xs.length ≤ 9223372036854775807) : Kd.string.C (w.alloc (.cells (xs.map Value.string).toArray e)) (some ⟨w.heap.size, 0, none⟩) xs.length xs := by
 refine strs_mk hm fun j hj => ?_
 have := World.cell?_alloc_new w (xs.map Value.string).toArray e j; rw [Nat.zero_add]; rw [this]
 simp [hj]
def bnums (l : Bs) : List Int := l.map fun b => (b.toNat : Int)
theorem str_bnums (l : Bs) : strOfNums (bnums l) = ⟨l.toArray⟩ := by
 apply lb_inj
 rw [lb_mk, lb, strOfNums_data, bnums, List.map_map]
 conv => rhs; rw [← List.map_id l]
 refine List.map_congr_left fun x _ => ?_
 simp
def Buf (w : World) (base : Nat) (v : Value) (l : Bs) : Prop := w.ownsRow base 5 1 v l.length (nums .u8 (bnums l))
theorem Buf.nil (w : World) (base : Nat) : Buf w base (.slice none 0 0) [] := own_nil _ _ _ _
theorem Buf.below {w w' : World} {base : Nat} {v : Value} {l : Bs} (h : Buf w base v l) (hb : Below w.heap.size w w') : Buf w' base v l := pw_own_below h hb
theorem Buf.slice {w : World} {base : Nat} {v : Value} {l : Bs} (h : Buf w base v l) : ∃ A c, v = .slice A l.length c := own_slice h
theorem Buf.string {w : World} {base : Nat} {v : Value} {l : Bs} (h : Buf w base v l) : (convert 73 9 v).run Tryd.prog w = .ok (.string ⟨l.toArray⟩) w := by
 rw [← str_bnums]; exact own_string Tryd.underlying73 Tryd.underlying5 Tryd.underlying9 h
section
variable {ops : Array Oper} {rest : List Oper} {o : Oper} {a : Act} {Q : Exit → Act → World → Prop}
end
end Go.Proofs.YtceojjlpeacfgaaDoor.Kit
namespace Go.Proofs.YtceojjlpeacfgaaDoor.Frame
open Go.RowKit Go.Proofs.YtceojjlpeacfgaaDoorW.PrintWords Go.Proofs.YtceojjlpeacfgaaDoor.Str Go.Proofs.YtceojjlpeacfgaaDoor.Kit
structure Turns (F : Nat → Prop) (w w' : World) : Prop where
 os : w'.os = w.os
 tape : w'.tape = w.tape
 output : w'.output = w.output
 size : w.heap.size ≤ w'.heap.size
 block : ∀ k, k < w.heap.size → ¬ F k → w'.heap[k]? = w.heap[k]?
theorem Turns.refl (F : Nat → Prop) (w : World) : Turns F w w := ⟨rfl, rfl, rfl, Nat.le_refl _, fun _ _ _ => rfl⟩
theorem Turns.mono {F G : Nat → Prop} {w w' : World} (h : Turns F w w') (hs : ∀ k, k < w.heap.size → F k → G k) : Turns G w w' :=
 ⟨h.os, h.tape, h.output, h.size, fun k hk hg => h.block k hk (fun hf => hg (hs k hk hf))⟩
theorem Turns.trans {F G : Nat → Prop} {a b c : World} (h : Turns F a b) (k : Turns G b c) (hs : ∀ j, j < a.heap.size → G j → F j) : Turns F a c :=
 ⟨k.os.trans h.os, k.tape.trans h.tape, k.output.trans h.output, Nat.le_trans h.size k.size, fun i hi hn => (k.block i (Nat.lt_of_lt_of_le hi h.size) (fun hg => hn (hs i hi hg))).trans (h.block i hi hn)⟩
theorem Turns.of_below {F : Nat → Prop} {w w' : World} (h : Below w.heap.size w w') : Turns F w w' := ⟨h.os, h.tape, h.output, h.size, fun k hk _ => h.block k hk⟩
theorem Turns.of_grown {w w' : World} {g : Option Nat} (h : w.grownBy w' g) : Turns (fun k => some k = g) w w' := ⟨h.os, h.tape, h.output, h.size, fun k hk hn => h.block k hk hn⟩
theorem Turns.below {F : Nat → Prop} {w0 w w' : World} (h : Turns F w w') (hb : Below w0.heap.size w0 w) (hf : ∀ k, k < w0.heap.size → ¬ F k) : Below w0.heap.size w0 w' :=
 ⟨h.os.trans hb.os, h.tape.trans hb.tape, h.output.trans hb.output, Nat.le_trans hb.size h.size, fun k hk => (h.block k (Nat.lt_of_lt_of_le hk hb.size) (hf k hk)).trans (hb.block k hk)⟩
theorem Turns.setCell (w : World) (b i : Nat) (v : Value) : Turns (fun k => k = b) w (w.setCell ⟨b, i, none⟩ v) :=
 ⟨rfl, rfl, rfl, by simp, fun k _ hn => Go.heap_setCell_other w _ k v hn⟩
theorem Turns.alloc (F : Nat → Prop) (w : World) (o : Obj) : Turns F w (w.alloc o) :=
 Turns.of_below ((Below.refl _ w).alloc (Nat.le_refl _) o)
theorem zz {w : World} {b i : Nat} {cs : Array Value} {t : TypeId} {v : Value} (h : w.heap[b]? = some (.cells cs t (0, 0))) (hi : cs[i]? = some v) : w.cell? ⟨b, i, none⟩ = some v := by
 simp [World.cell?, h, hi]
theorem xy {w : World} {b i : Nat} {cs : Array Value} {t : TypeId} (h : w.heap[b]? = some (.cells cs t (0, 0))) : w.frozen? ⟨b, i, none⟩ = false := by
 simp [World.frozen?, h]
theorem cb_set {w : World} {b i : Nat} {cs : Array Value} {t : TypeId} (h : w.heap[b]? = some (.cells cs t (0, 0))) (v : Value) : (w.setCell ⟨b, i, none⟩ v).heap[b]? = some (.cells (cs.setIfInBounds i v) t (0, 0)) :=
 Go.heap_setCell_same w b i cs t v h
theorem xb (w : World) (x : Obj) : (w.alloc x).heap[w.heap.size]? = some x := by
 show (w.heap.push x)[w.heap.size]? = _
 simp
theorem yd {w : World} {k : Nat} {o : Obj} (h : w.heap[k]? = some o) : k < w.heap.size := (Array.getElem?_eq_some_iff.1 h).1
end Go.Proofs.YtceojjlpeacfgaaDoor.Frame
namespace Go.Proofs.YtceojjlpeacfgaaDoor.Val
open Go.RowKit Go.Proofs.YtceojjlpeacfgaaDoorW.PrintWords Go.Proofs.YtceojjlpeacfgaaDoorW.PrintLast Go.Proofs.YtceojjlpeacfgaaDoor.Str Go.Proofs.YtceojjlpeacfgaaDoor.Kit Go.Proofs.YtceojjlpeacfgaaDoor.Frame Go.Proofs.YtceojjlpeacfgaaDoor.MapV
def placeI (ks : List ByteArray) (k : ByteArray) : Nat := (ks.takeWhile fun x => decide (lb x < lb k)).length
def placeB (ks : List ByteArray) (k : ByteArray) : Bool := match ks[placeI ks k]? with | some x => x.toList == k.toList | none => false
theorem xv {k : ByteArray} : ∀ {ks : List ByteArray} {i : Nat}, (∀ (j : Nat) (hj : j < ks.length), j < i → lb ks[j] < lb k) → ∀ hi : i < ks.length, ¬ lb ks[i] < lb k → placeI ks k = i
 | [], _, _, hi, _ => by simp at hi
 | x :: r, 0, _, _, hn => by
  have : ¬ lb x < lb k := hn
  unfold placeI
  rw [List.takeWhile_cons_of_neg (by simpa using this)]; rfl
 | x :: r, i + 1, ha, hi, hn => by
  have h0 : lb x < lb k := ha 0 (by simp) (by omega); have ih := xv (k := k) (ks := r) (i := i) (fun j hj hji => by have := ha (j + 1) (by simpa using hj) (by omega); simpa using this) (by simpa using hi) (by simpa using hn)
  unfold placeI at ih ⊢
  rw [List.takeWhile_cons_of_pos (by simpa using h0), List.length_cons, ih]
theorem placeI_end {k : ByteArray} {ks : List ByteArray} (ha : ∀ (j : Nat) (hj : j < ks.length), lb ks[j] < lb k) : placeI ks k = ks.length := by
 unfold placeI
 induction ks with
 | nil => rfl
 | cons x r ih =>
  have h0 : lb x < lb k := ha 0 (by simp); rw [List.takeWhile_cons_of_pos (by simpa using h0), List.length_cons, ih (fun j hj => by have := ha (j + 1) (by simpa using hj); simpa using this), List.length_cons]
set_option maxHeartbeats 1600000 in
set_option maxRecDepth 100000 in
theorem place (kd nm : Int) (t : ByteArray) {A3 A4 : Option Addr} {c3 n4 c4 : Nat} (ks : List ByteArray) (k : ByteArray) (w : World) (h : Kd.string.C w A3 ks.length ks) (hn : ks.length ≤ 17592186044416) :
  Calls Tryd.prog 25 #[.agg #[.int .i64 kd, .int .i64 nm, .string t, .slice A3 ks.length c3, .slice A4 n4 c4], .string k] w fun e w' => e = .returned (.tuple #[.int .i64 (placeI ks k), .bool (placeB ks k)]) ∧ Below w.heap.size w w' := by
 have H := aM h; have HX := aM (xb w (.cells #[.int .i64 kd, .int .i64 nm, .string t, .slice A3 ks.length c3, .slice A4 n4 c4] 25)); have HB := aM ((Below.refl _ w).alloc (Nat.le_refl _) (.cells #[.int .i64 kd, .int .i64 nm, .string t, .slice A3 ks.length c3, .slice A4 n4 c4] 25)); clear h
 go_enter Tryd.func25, Tryd.ntmps25
 go_wp2
 go_loopw [6] (fun v wr => ∃ i : Nat, v = .int .i64 i ∧ i ≤ ks.length ∧ Aside0 (∀ (j : Nat) (hj : j < ks.length), j < i → lb ks[j] < lb k) ∧ Aside0 (wr.heap[w.heap.size]? = some (.cells #[.int .i64 kd, .int .i64 nm, .string t, .slice A3 ks.length c3, .slice A4 n4 c4] 25 (0, 0))) ∧ Aside0 (Below w.heap.size w wr)) (fun v _ => ks.length - (intOf v).toNat)
 case atStart => exact ⟨0, rfl, by omega, ⟨fun j _ h => absurd h (Nat.not_lt_zero _)⟩, HX, HB⟩
 case round =>
  clear HX HB; obtain ⟨i, rfl, hi, HN, HX, HB⟩ := hrel; have x3 : wr.cell? ⟨w.heap.size, 3, none⟩ = some (.slice A3 ks.length c3) := zz (i := 3) HX.out rfl
  by_cases hlt : i < ks.length
  ·obtain ⟨b0, o0, rfl, hb0, hc0⟩ := strs_open (Kd.C_below H.out HB.out) (by omega); have g0 := hc0 i hlt
   have q0 : (0 : Int) ≤ (i : Int) := by omega
   have q1 : (i : Int) < (ks.length : Int) := by omega
   have HA := aM (show lb ks[i] < lb k → ∀ (j : Nat) (hj : j < ks.length), j < i + 1 → lb ks[j] < lb k from fun h j hj hji => by
    by_cases hj' : j < i
    ·exact HN.out j hj hj'
    ·have : j = i := by omega
     subst this; exact h)
   have HP := aM (show ¬ lb ks[i] < lb k → placeI ks k = i ∧ placeB ks k = (ks[i].toList == k.toList) from fun h => by
    have h1 := xv HN.out hlt h; refine ⟨h1, ?_⟩
    unfold placeB
    rw [h1, List.getElem?_eq_getElem hlt])
   have hless : Op.bytesLess ks[i].toList k.toList = decide (lb ks[i] < lb k) := by rw [bytesLess_eq, yo, yo]
   clear hc0
   by_cases hl : lb ks[i] < lb k
   ·rw [decide_eq_true hl] at hless; have Y := aM (HA.out hl); clear HA HP hl; generalize ks[i] = x at g0 hless
    go_wp2
    go_roundw
    case rel => exact ⟨i + 1, by go_num, by omega, Y, HX, HB⟩
    case measure => simp [intOf]; omega
   ·rw [decide_eq_false hl] at hless; have Y := aM (HP.out hl); clear HA HP hl; generalize ks[i] = x at g0 hless Y
    go_wp2_with fail
    go_quiet (fail)
    go_wp2
    go_ret2
    exact ⟨by rw [Y.out.1, Y.out.2]; rfl, zc HB.out nq⟩
  ·have Y := aM (placeI_end (k := k) (ks := ks) (fun j hj => HN.out j hj (by omega)))
   have Z := aM (show placeB ks k = false by
    unfold placeB
    rw [Y.out, List.getElem?_eq_none (Nat.le_refl _)])
   go_wp2
   go_ret2
   exact ⟨by rw [Y.out, Z.out]; rfl, HB.out⟩
end Go.Proofs.YtceojjlpeacfgaaDoor.Val
namespace Go.Proofs.YtceojjlpeacfgaaDoor.Tr
open Go.RowKit Go.Proofs.YtceojjlpeacfgaaDoorW.PrintWords Go.Proofs.YtceojjlpeacfgaaDoorW.PrintLast Go.Proofs.YtceojjlpeacfgaaDoor.Str Go.Proofs.YtceojjlpeacfgaaDoor.Kit Go.Proofs.YtceojjlpeacfgaaDoor.MapV Go.Proofs.YtceojjlpeacfgaaDoor.Frame Go.Proofs.YtceojjlpeacfgaaDoor.PS
abbrev BA := ByteArray
abbrev VI := S32
abbrev VS := S25
abbrev kI : Kd VI := k32
abbrev kS : Kd VS := k25
def held {α : Type} (sz : Nat) (Pf : α → List Value → Prop) (h5 : ∀ {x cs}, Pf x cs → cs.length = sz) (h1 : ∀ {x cs}, Pf x cs → ∀ u ∈ cs, u.oneCell' = true) : Kd α where
 sz := sz
 E := []
 K := fun _ x cs => Pf x cs
 M := fun _ _ _ x cs => Pf x cs
 K_len := h5
 K_one := h1
 K_below := fun _ h => h
 K_of_M := fun h => h
 M_mono := fun _ h => h
 M_bound := fun h => h
 M_move := fun _ h => h
 M_lower := fun _ h => h
def zerosV : Array Value := #[.int .i64 0, .int .i64 0, .string ⟨#[]⟩, .slice none 0 0, .slice none 0 0]
def Has {α : Type} (d : Kd α) (e : Nat) (W0 w : World) (v : Value) (xs : List α) (b : Nat) : Prop := d.R e w W0.heap.size (fun _ => True) v xs ∧ v.ownBlock = some b ∧ b < w.heap.size ∧ W0.heap.size ≤ b
def HasZ (W0 w : World) (g : Nat) : Prop := w.heap[g]? = some (.cells zerosV 25 (0, 0)) ∧ W0.heap.size ≤ g
section
variable {α : Type} {d : Kd α} {e : Nat} {W0 w w1 : World} {v : Value} {xs ys : List α} {b b' g : Nat}
theorem Has.new (hB : Below W0.heap.size W0 w) : Has d e W0 (w.alloc (.cells #[] e)) (.slice (some ⟨w.heap.size, 0, none⟩) 0 0) [] w.heap.size :=
 ⟨own_empty d hB.size trivial, rfl, by rw [World.size_alloc]; omega, hB.size⟩
theorem HasZ.new (hB : Below W0.heap.size W0 w) : HasZ W0 (w.alloc (.cells zerosV 25)) w.heap.size := ⟨xb _ _, hB.size⟩
theorem Has.alloc (h : Has d e W0 w v xs b) (o : Obj) : Has d e W0 (w.alloc o) v xs b := ⟨Kd.R_alloc h.1 o, h.2.1, by rw [World.size_alloc]; have := h.2.2.1; omega, h.2.2.2⟩
theorem HasZ.alloc (h : HasZ W0 w g) (o : Obj) : HasZ W0 (w.alloc o) g := ⟨((zf (Below.refl _ w) o).block _ (yd h.1)).trans h.1, h.2⟩
theorem Has.ne_new (h : Has d e W0 w v xs b) : b ≠ w.heap.size := by have := h.2.2.1; omega
theorem HasZ.ne_new (h : HasZ W0 w g) : g ≠ w.heap.size := by have := yd h.1; omega
theorem Has.grown (hk : ∀ (w : World) (base : Nat) (ok ok' : Nat → Prop) x cs, d.M w base ok x cs → d.M w base ok' x cs) (h : Has d e W0 w v xs b) (hg : w.grownBy w1 (some b')) (hn : b ≠ b') : Has d e W0 w1 v xs b := by
 obtain ⟨⟨h0, inner, ho, hr⟩, hb, hlt, hle⟩ := h
 have h2 : d.R e w W0.heap.size (fun k => k = b) v xs := ⟨fun k hk => by rw [hb] at hk; injection hk with hk; exact hk.symm, inner, ho, hr.imp_ (fun x cs hx => hk _ _ _ _ x cs hx)⟩
 have h3 := Kd.R_grown h2 hg (fun k hk => by rw [hk]; exact fun e => hn (Option.some.inj e)); exact ⟨Kd.R_mono h3 (fun _ _ => trivial), hb, by have := hg.size; omega, hle⟩
theorem HasZ.grown (h : HasZ W0 w g) (hg : w.grownBy w1 (some b')) (hn : g ≠ b') : HasZ W0 w1 g := ⟨(hg.block _ (yd h.1) (fun e => hn (Option.some.inj e))).trans h.1, h.2⟩
theorem Has.grew (h : Has d e W0 w v xs b) {v1 : Value} (h1 : d.R e w1 W0.heap.size (fun _ => True) v1 ys) (hg : w.grownBy w1 v.ownBlock) (hat : v1.ownBlock = v.ownBlock ∨ ∃ b, v1.ownBlock = some b ∧ w.heap.size ≤ b) :
  ∃ b1, Has d e W0 w1 v1 ys b1 ∧ (b1 = b ∨ w.heap.size ≤ b1) := by
 rcases hat with hat | ⟨b1, hat, hle⟩
 ·exact ⟨b, ⟨h1, hat.trans h.2.1, by have := hg.size; have := h.2.2.1; omega, h.2.2.2⟩, .inl rfl⟩
 ·have hlt := (Kd.R_bound h1).1 b1 hat; exact ⟨b1, ⟨h1, hat, hlt.2.2.1, hlt.2.1⟩, .inr hle⟩
end
section
variable {P : Program} {ops : Array Oper} {o : Oper} {a : Act} {Q : Exit → Act → World → Prop} {Kc : Act → World → Prop} {w : World}
theorem store_row_step (hw : Region.wanted o (yielded ops a.tmps) = true) (hN : o.dst = none) (ty : TypeId) (x y : Operand) (ho : o.op = .store ty x y) (g : Nat) (cells : Array Value) (hx : a.eval x = .pointer (some ⟨g, 0, none⟩)) (hy : a.eval y = .agg cells)
  (t : TypeId) (old : Array Value) (hg : w.heap[g]? = some (.cells old t (0, 0))) (hi : (P.info? ty).map (·.size) = some cells.size) (hold : old.size = cells.size) (h1 : cells.all (·.oneCell') = true)
  (h : Kc a (w.setRow g cells)) : if Region.wanted o (yielded ops a.tmps) = true then Oper.wp P o a w Kc Q else Kc (a.put none undef) w := by
 rw [if_pos hw]; refine wp_store_row ty x y ho g cells hx hy t old hg hi hold h1 ?_; rw [hN]; exact h
theorem yy (w : World) (g : Nat) (cs : Array Value) : w.grownBy (w.setRow g cs) (some g) := ⟨rfl, rfl, rfl, by simp, fun k _ hn => setRow_other w g k cs (fun e => hn (by rw [e]))⟩
end
theorem val_size : (Tryd.prog.info? 25).map (fun i => i.size) = some 5 := by kernel_rfl
theorem val_one (k n : Int) (t : ByteArray) (A3 A4 : Option Addr) (n3 c3 n4 c4 : Nat) : (#[Value.int .i64 k, Value.int .i64 n, Value.string t, Value.slice A3 n3 c3, Value.slice A4 n4 c4] : Array Value).all (fun v => v.oneCell') = true :=
 all_oneCell_toArray (cs := [Value.int .i64 k, Value.int .i64 n, Value.string t, Value.slice A3 n3 c3, Value.slice A4 n4 c4]) (fun v hv => by simp at hv; rcases hv with rfl | rfl | rfl | rfl | rfl <;> rfl)
theorem Has.below {α : Type} {d : Kd α} {e : Nat} {W0 w w1 : World} {v : Value} {xs : List α} {b : Nat} (h : Has d e W0 w v xs b) (hb : Below w.heap.size w w1) : Has d e W0 w1 v xs b := ⟨Kd.R_below h.1 hb, h.2.1, Nat.lt_of_lt_of_le h.2.2.1 hb.size, h.2.2.2⟩
theorem Has.slice {α : Type} {d : Kd α} {e : Nat} {W0 w : World} {v : Value} {xs : List α} {b : Nat} (h : Has d e W0 w v xs b) : ∃ c, v = .slice (some ⟨b, 0, none⟩) xs.length c := by
 obtain ⟨⟨_, inner, ho, _⟩, hb, _⟩ := h
 rcases ho.2 with ⟨rfl, _⟩ | ⟨g', cap, cur, rfl, _⟩
 ·simp [Value.ownBlock] at hb
 ·have : g' = b := by simpa [Value.ownBlock] using hb
  subst this; exact ⟨cap, rfl⟩
theorem one_str (w : World) (base : Nat) (e : TypeId) (hb : base ≤ w.heap.size) (p : ByteArray) : Kd.string.R e (w.alloc (.cells #[.string p] e)) base (fun _ => True) (.slice (some ⟨w.heap.size, 0, none⟩) 1 1) [p] := by
 refine ⟨fun _ _ => trivial, [.string p], ⟨rfl, .inr ⟨w.heap.size, 1, _, rfl, hb, xb _ _, Nat.le_refl _, by unfold maxLen; omega, rfl, rfl⟩⟩, rfl, fun j q hq => ?_⟩
 have hj : j = 0 := by
  have := (List.getElem?_eq_some_iff.1 hq).1
  simp at this
  exact this
 subst hj
 injection hq with hq
 subst hq; rfl
theorem yh {a b b1 S : Nat} (hn : a ≠ b) (hl : a < S) (h : b1 = b ∨ S ≤ b1) : a ≠ b1 := by
 rcases h with rfl | h
 ·exact hn
 ·omega
theorem yg (w : World) (g j : Nat) (u : Value) : w.grownBy (w.setCell ⟨g, j, none⟩ u) (some g) := ⟨rfl, rfl, rfl, by simp, fun k _ hn => Below.heap_setCell w ⟨g, j, none⟩ u k (fun e => hn (by rw [e]))⟩
section
variable {ops : Array Oper} {rest : List Oper} {o : Oper} {a : Act} {Q : Exit → Act → World → Prop}
theorem yx {w : World} {b : Nat} {k n : Int} {t : ByteArray} {A3 A4 : Option Addr} {n3 c3 n4 c4 : Nat} (x : Operand) (hgd : o.guard = none) (ho : o.op = .load 25 x) (hx : a.eval x = .pointer (some ⟨b, 0, none⟩)) (hb : w.heap[b]? = some (.cells #[.int .i64 k, .int .i64 n, .string t, .slice A3 n3 c3, .slice A4 n4 c4] 25 (0, 0)))
  (h : wpList Tryd.prog ops Q rest (a.put o.dst (.agg #[.int .i64 k, .int .i64 n, .string t, .slice A3 n3 c3, .slice A4 n4 c4])) w) : wpList Tryd.prog ops Q (o :: rest) a w :=
 wpList_load_row hgd _ x ho b hx _ _ _ _ hb Tryd.underlying25 rfl val_size h
theorem xw {w : World} {b : Nat} {k n : Int} {t : ByteArray} {A3 A4 : Option Addr} {n3 c3 n4 c4 : Nat} {k' n' : Int} {t' : ByteArray} {A3' A4' : Option Addr} {n3' c3' n4' c4' : Nat} (x y : Operand) (hgd : o.guard = none) (ho : o.op = .store 25 x y) (hx : a.eval x = .pointer (some ⟨b, 0, none⟩)) (hy : a.eval y = .agg #[.int .i64 k, .int .i64 n, .string t, .slice A3 n3 c3, .slice A4 n4 c4]) (hb : w.heap[b]? = some (.cells #[.int .i64 k', .int .i64 n', .string t', .slice A3' n3' c3', .slice A4' n4' c4'] 25 (0, 0)))
  (h : wpList Tryd.prog ops Q rest (a.put o.dst undef) (w.setRow b #[.int .i64 k, .int .i64 n, .string t, .slice A3 n3 c3, .slice A4 n4 c4])) : wpList Tryd.prog ops Q (o :: rest) a w :=
 wpList_store_row hgd _ x y ho b _ hx hy _ _ hb val_size rfl (val_one _ _ _ _ _ _ _ _ _) h
end
theorem xp {fn : Func} {p : Tmp} (hr : fn.results = #[.cell p 25]) {tmps : Array Value} {w : World} {b : Nat} {k n : Int} {t : ByteArray} {A3 A4 : Option Addr} {n3 c3 n4 c4 : Nat} (hp : tmps.getD p undef = .pointer (some ⟨b, 0, none⟩)) (hb : w.heap[b]? = some (.cells #[.int .i64 k, .int .i64 n, .string t, .slice A3 n3 c3, .slice A4 n4 c4] 25 (0, 0))) :
  (results fn tmps).run Tryd.prog w = .ok (.agg #[.int .i64 k, .int .i64 n, .string t, .slice A3 n3 c3, .slice A4 n4 c4]) w :=
 results_cell_row hr tmps w b _ _ _ _ hp hb Tryd.underlying25 rfl val_size
section
variable {ops : Array Oper} {rest : List Oper} {o : Oper} {a : Act} {Q : Exit → Act → World → Prop}
end
section
variable {α : Type} {sz : Nat} {Pf : α → List Value → Prop} {h5 : ∀ {x cs}, Pf x cs → cs.length = sz} {h1 : ∀ {x cs}, Pf x cs → ∀ u ∈ cs, u.oneCell' = true}
theorem one_held (w : World) (base : Nat) (e : TypeId) (hb : base ≤ w.heap.size) (x : α) {cs : List Value} (hx : Pf x cs) : (held sz Pf h5 h1).R e (w.alloc (.cells cs.toArray e)) base (fun _ => True) (.slice (some ⟨w.heap.size, 0, none⟩) 1 1) [x] := by
 have hl : cs.length = sz := h5 hx; refine ⟨fun _ _ => trivial, cs, ⟨by rw [hl]; simp [held], .inr ⟨w.heap.size, 1, _, rfl, hb, xb _ _, Nat.le_refl _, by unfold maxLen; omega, by simp [hl, held], by simp [held]; exact List.take_of_length_le (show cs.length ≤ sz by omega)⟩⟩, by rw [hl]; simp [held], fun j q hq => ?_⟩
 have hj : j = 0 := by
  have := (List.getElem?_eq_some_iff.1 hq).1
  simp at this
  exact this
 subst hj
 injection hq with hq
 subst hq
 show Pf x ((cs.drop (0 * sz)).take sz)
 rw [Nat.zero_mul, List.drop_zero, List.take_of_length_le (by rw [hl]; exact Nat.le_refl _)]; exact hx
theorem held_put {e : Nat} {W : World} {base : Nat} {ok : Nat → Prop} {g n cap : Nat} {xs : List α} (h : (held sz Pf h5 h1).R e W base ok (.slice (some ⟨g, 0, none⟩) n cap) xs) (i : Nat) (hi : i < n) (x : α) {cs : List Value} (hx : Pf x cs) :
  W.there g (i * sz) cs.length ∧ (held sz Pf h5 h1).R e (W.setCells g (i * sz) cs) base ok (.slice (some ⟨g, 0, none⟩) n cap) (xs.set i x) ∧ W.grownBy (W.setCells g (i * sz) cs) (some g) := by
 obtain ⟨c, hcl, hcM, hcc, hcf⟩ := Kd.R_elem h x (i : Int) (by omega) (by omega); have hl : cs.length = sz := h5 hx
 have ht : (i : Int).toNat = i := by simp
 refine ⟨fun j hj => ?_, ?_⟩
 ·have hjc : j < c.length := by rw [hcl]; show j < sz; omega
  have h2 := hcc j _ (List.getElem?_eq_getElem hjc); have h3 := hcf j; rw [ht] at h2 h3; exact ⟨by rw [show W.cell? ⟨g, i * sz + j, none⟩ = _ from h2]; rfl, h3⟩
 ·have h4 := Kd.R_seg (okp := fun _ => False) h (i : Int) (by omega) (by omega) (seg := cs) (j := 0) (x' := x) hcl hcc (by show 0 + cs.length ≤ sz; omega) (show Pf x (c.take 0 ++ cs ++ c.drop (0 + cs.length)) by
   rw [List.drop_eq_nil_of_le (by rw [hcl, hl]; show sz ≤ 0 + sz; omega), List.append_nil, List.take_zero, List.nil_append]
   exact hx) (fun _ hf => hf.elim)
  rw [ht] at h4; exact h4
theorem R_held {d : Kd α} {e : Nat} {w : World} {base : Nat} {ok ok' : Nat → Prop} {v : Value} {xs : List α} (hsz : d.sz = sz) (hPf : ∀ x cs, Pf x cs → d.M w base (fun k => ok' k ∧ some k ≠ v.ownBlock) x cs) (hok : ∀ k, v.ownBlock = some k → ok' k) (h : (held sz Pf h5 h1).R e w base ok v xs) : d.R e w base ok' v xs := by
 obtain ⟨h0, inner, ho, hr⟩ := h; refine ⟨hok, inner, ?_, ?_⟩
 ·rw [hsz]; exact ho
 ·rw [hsz]; exact hr.imp_ (fun x cs hp => hPf x cs hp)
end
theorem kI_at {w : World} {A : Option Addr} {xs : List S32} (h : kI.C w A xs.length xs) (h0 : 0 < xs.length) :
  ∃ bk off, A = some ⟨bk, off, none⟩ ∧ bk < w.heap.size ∧ ∀ (j : Nat) (hj : j < xs.length), ∃ A3 c3 A4 c4, w.cell? ⟨bk, off + j * 5, none⟩ = some (.int .i64 xs[j].f0) ∧ w.cell? ⟨bk, off + j * 5 + 1, none⟩ = some (.int .i64 xs[j].f1) ∧ w.cell? ⟨bk, off + j * 5 + 2, none⟩ = some (.string xs[j].f2) ∧ w.cell? ⟨bk, off + j * 5 + 3, none⟩ = some (.slice A3 xs[j].f3.length c3) ∧ w.cell? ⟨bk, off + j * 5 + 4, none⟩ = some (.slice A4 xs[j].f4.length c4) ∧ xs[j].f3.length ≤ c3 ∧ Kd.string.C w A3 xs[j].f3.length xs[j].f3 ∧ xs[j].f4.length ≤ c4 ∧ kI.C w A4 xs[j].f4.length xs[j].f4 := by
 obtain ⟨hl, hm, hc⟩ := h; obtain ⟨ad, rfl, hcc⟩ := hc h0
 have cell : ∀ (j : Nat) (hj : j < xs.length), ∃ A3 c3 A4 c4, (∀ i u, ([.int .i64 xs[j].f0, .int .i64 xs[j].f1, .string xs[j].f2, .slice A3 xs[j].f3.length c3, .slice A4 xs[j].f4.length c4] : List Value)[i]? = some u → w.cell? (ad.add (j * 5 + i)) = some u) ∧ xs[j].f3.length ≤ c3 ∧ Kd.string.C w A3 xs[j].f3.length xs[j].f3 ∧ xs[j].f4.length ≤ c4 ∧ kI.C w A4 xs[j].f4.length xs[j].f4 := by
  intro j hj; obtain ⟨c, hcl, hr, hcell⟩ := hcc j xs[j] (List.getElem?_eq_getElem hj); obtain ⟨A3, c3, A4, c4, rfl, l3, g3, l4, g4⟩ := k32_open hr; exact ⟨A3, c3, A4, c4, hcell, l3, g3, l4, g4⟩
 obtain ⟨_, _, _, _, hx, _⟩ := cell 0 h0; have c0 := hx 0 _ rfl; rw [Nat.zero_mul, Nat.zero_add] at c0; obtain ⟨bk, off, spot⟩ := ad
 have hspot : spot = none := by
  cases hs : spot with
  | none => rfl
  | some sp =>
   exfalso
   subst hs
   simp [World.cell?, Addr.add] at c0
   split at c0 <;> simp at c0
 subst hspot
 have add : ∀ j : Nat, (⟨bk, off, none⟩ : Addr).add j = ⟨bk, off + j, none⟩ := by intro j; unfold Addr.add; split <;> simp_all
 refine ⟨bk, off, rfl, ?_, fun j hj => ?_⟩
 ·rw [add] at c0; exact World.block_lt_of_cell? w _ c0
 ·obtain ⟨A3, c3, A4, c4, hcell, l3, g3, l4, g4⟩ := cell j hj
  have e : ∀ i u, ([.int .i64 xs[j].f0, .int .i64 xs[j].f1, .string xs[j].f2, .slice A3 xs[j].f3.length c3, .slice A4 xs[j].f4.length c4] : List Value)[i]? = some u → w.cell? ⟨bk, off + j * 5 + i, none⟩ = some u := fun i u hu => by
   have := hcell i u hu; rw [add, ← Nat.add_assoc] at this; exact this
  exact ⟨A3, c3, A4, c4, e 0 _ rfl, e 1 _ rfl, e 2 _ rfl, e 3 _ rfl, e 4 _ rfl, l3, g3, l4, g4⟩
end Go.Proofs.YtceojjlpeacfgaaDoor.Tr
