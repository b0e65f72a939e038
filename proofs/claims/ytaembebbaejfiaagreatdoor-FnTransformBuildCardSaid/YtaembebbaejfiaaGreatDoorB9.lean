/- Parts of the proof, laid together: AttrBuild, FromList, Shelf, SortStr, Flat, SortOwn, FromMap, FromAll, AtPath, Back, Index, PathM, TransNone, RangeSetA, TransLeaf, ImplTransK, TransOne, OneTurn, SpecME, LawBuild, RowKit, DTabsZ. -/
import Derived.Test.YtaembebbaejfiaaGreatDoorB8
import Derived.Test.YtaembebbaejfiaaGreatDoorB7
import Derived.Laws.IdiomCopy
import Derived.Shelf.Strings.Builder1
import Derived.Shelf.Strings.Builder2
import Derived.Shelf.Strings.OnBuilder
import Derived.Shelf.Small.Bits
import Derived.Shelf.Small.Wraps
import Derived.Shelf.Strconv.Itoa0
import Derived.Shelf.Strconv.Itoa1
import Derived.Shelf.LaysM
import Derived.Shelf.Strconv.Itoa2
import Derived.Shelf.Strconv.Itoa3
import Derived.Shelf.Sort.Plain
import Derived.Shelf.Slices.In.SortNone
import Derived.Shelf.Slices.In.SortNone2
import Derived.Test.YtaembebbaejfiaaGreatDoorProg
import Derived.Test.YtaembebbaejfiaaGreatDoorB3
import Derived.Sort.OwnSorted
import Derived.Shelf.SlSortFuncK.WholeK
import Derived.Shelf.GgSortFunc.Tiny
import Derived.Test.YtaembebbaejfiaaGreatDoorB6
import Derived.Test.YtaembebbaejfiaaGreatDoorB1
import Derived.Test.YtaembebbaejfiaaGreatDoorB4
import Derived.Test.YtaembebbaejfiaaGreatDoorRows
import Derived.ProofKit
import Derived.OpenShut
import Derived.ShutString
import Derived.ChangeOld
import Derived.Below
import Derived.SizedLaws
import Derived.SliceStrings
import Derived.Test.YtaembebbaejfiaaGreatDoorCards
import Derived.PinnedBridge
namespace Go.Proofs.YtaembebbaejfiaaGreatDoor.Tr
open Go.RowKit Go.Proofs.YtaembebbaejfiaaGreatDoorW.PrintWords Go.Proofs.YtaembebbaejfiaaGreatDoorW.PrintLast Go.Proofs.YtaembebbaejfiaaGreatDoor.Str Go.Proofs.YtaembebbaejfiaaGreatDoor.Kit Go.Proofs.YtaembebbaejfiaaGreatDoor.MapV Go.Proofs.YtaembebbaejfiaaGreatDoor.Frame Go.Proofs.YtaembebbaejfiaaGreatDoor.PS
open Go.Proofs.YtaembebbaejfiaaGreatDoor.Val (place placeI placeB placeI_hit placeI_end)
set_option linter.unusedVariables false
set_option linter.unusedSimpArgs false
theorem in_lit (s : BA) (l : List BA) (b : Bool) (hb : inB s l = b) (hl : l.length ≤ 1000) (w : World) : Calls Tryz.prog 31 #[.string s, .slice (some ⟨w.heap.size, 0, none⟩) l.length l.length] (w.alloc (.cells (l.map Value.string).toArray 9)) fun e w' => e = .returned (.bool b) ∧ Below (w.alloc (.cells (l.map Value.string).toArray 9)).heap.size (w.alloc (.cells (l.map Value.string).toArray 9)) w' := by
 subst hb
 obtain ⟨k, hk⟩ := (ev_sayIn s l (by omega)).rounds
 exact (spec_sayIn.calls k s _ l.length l _ _ (strs_lit w 9 l (by omega)) (Nat.le_refl _) hk).mono (fun e w' h => ⟨h.1, h.2.below⟩)
def buildK : BA := ⟨#[98, 117, 105, 108, 100]⟩
def row0 : List BA := [(⟨#[105, 109, 97, 103, 101]⟩ : BA), (⟨#[117, 115, 101, 114]⟩ : BA), (⟨#[104, 111, 115, 116, 110, 97, 109, 101]⟩ : BA), (⟨#[100, 111, 109, 97, 105, 110, 110, 97, 109, 101]⟩ : BA), (⟨#[119, 111, 114, 107, 105, 110, 103, 95, 100, 105, 114]⟩ : BA), (⟨#[99, 111, 110, 116, 97, 105, 110, 101, 114, 95, 110, 97, 109, 101]⟩ : BA), (⟨#[114, 101, 115, 116, 97, 114, 116]⟩ : BA), (⟨#[112, 108, 97, 116, 102, 111, 114, 109]⟩ : BA), (⟨#[115, 116, 111, 112, 95, 115, 105, 103, 110, 97, 108]⟩ : BA), (⟨#[114, 117, 110, 116, 105, 109, 101]⟩ : BA)]
def row1 : List BA := [(⟨#[112, 114, 105, 118, 105, 108, 101, 103, 101, 100]⟩ : BA), (⟨#[114, 101, 97, 100, 95, 111, 110, 108, 121]⟩ : BA), (⟨#[105, 110, 105, 116]⟩ : BA), (⟨#[116, 116, 121]⟩ : BA), (⟨#[115, 116, 100, 105, 110, 95, 111, 112, 101, 110]⟩ : BA)]
def row2 : List BA := [(⟨#[99, 97, 112, 95, 97, 100, 100]⟩ : BA), (⟨#[99, 97, 112, 95, 100, 114, 111, 112]⟩ : BA), (⟨#[100, 110, 115]⟩ : BA), (⟨#[100, 110, 115, 95, 115, 101, 97, 114, 99, 104]⟩ : BA), (⟨#[100, 110, 115, 95, 111, 112, 116]⟩ : BA), (⟨#[115, 101, 99, 117, 114, 105, 116, 121, 95, 111, 112, 116]⟩ : BA), (⟨#[115, 101, 99, 114, 101, 116, 115]⟩ : BA), (⟨#[99, 111, 110, 102, 105, 103, 115]⟩ : BA)]
def wordsB : List BA := [(⟨#[99, 111, 110, 116, 101, 120, 116]⟩ : BA), (⟨#[100, 111, 99, 107, 101, 114, 102, 105, 108, 101]⟩ : BA), (⟨#[116, 97, 114, 103, 101, 116]⟩ : BA), (⟨#[110, 101, 116, 119, 111, 114, 107]⟩ : BA)]
def truthsB : List BA := [(⟨#[112, 114, 105, 118, 105, 108, 101, 103, 101, 100]⟩ : BA), (⟨#[110, 111, 95, 99, 97, 99, 104, 101]⟩ : BA)]
theorem in_row0 (s : BA) (h : inB s row0 = false) (w : World) : Calls Tryz.prog 31 #[.string s, .slice (some ⟨w.heap.size, 0, none⟩) 10 10] (w.alloc (.cells #[.string ⟨#[105, 109, 97, 103, 101]⟩, .string ⟨#[117, 115, 101, 114]⟩, .string ⟨#[104, 111, 115, 116, 110, 97, 109, 101]⟩, .string ⟨#[100, 111, 109, 97, 105, 110, 110, 97, 109, 101]⟩, .string ⟨#[119, 111, 114, 107, 105, 110, 103, 95, 100, 105, 114]⟩, .string ⟨#[99, 111, 110, 116, 97, 105, 110, 101, 114, 95, 110, 97, 109, 101]⟩, .string ⟨#[114, 101, 115, 116, 97, 114, 116]⟩, .string ⟨#[112, 108, 97, 116, 102, 111, 114, 109]⟩, .string ⟨#[115, 116, 111, 112, 95, 115, 105, 103, 110, 97, 108]⟩, .string ⟨#[114, 117, 110, 116, 105, 109, 101]⟩] 9)) fun e w' => e = .returned (.bool false) ∧ Below (w.alloc (.cells #[.string ⟨#[105, 109, 97, 103, 101]⟩, .string ⟨#[117, 115, 101, 114]⟩, .string ⟨#[104, 111, 115, 116, 110, 97, 109, 101]⟩, .string ⟨#[100, 111, 109, 97, 105, 110, 110, 97, 109, 101]⟩, .string ⟨#[119, 111, 114, 107, 105, 110, 103, 95, 100, 105, 114]⟩, .string ⟨#[99, 111, 110, 116, 97, 105, 110, 101, 114, 95, 110, 97, 109, 101]⟩, .string ⟨#[114, 101, 115, 116, 97, 114, 116]⟩, .string ⟨#[112, 108, 97, 116, 102, 111, 114, 109]⟩, .string ⟨#[115, 116, 111, 112, 95, 115, 105, 103, 110, 97, 108]⟩, .string ⟨#[114, 117, 110, 116, 105, 109, 101]⟩] 9)).heap.size (w.alloc (.cells #[.string ⟨#[105, 109, 97, 103, 101]⟩, .string ⟨#[117, 115, 101, 114]⟩, .string ⟨#[104, 111, 115, 116, 110, 97, 109, 101]⟩, .string ⟨#[100, 111, 109, 97, 105, 110, 110, 97, 109, 101]⟩, .string ⟨#[119, 111, 114, 107, 105, 110, 103, 95, 100, 105, 114]⟩, .string ⟨#[99, 111, 110, 116, 97, 105, 110, 101, 114, 95, 110, 97, 109, 101]⟩, .string ⟨#[114, 101, 115, 116, 97, 114, 116]⟩, .string ⟨#[112, 108, 97, 116, 102, 111, 114, 109]⟩, .string ⟨#[115, 116, 111, 112, 95, 115, 105, 103, 110, 97, 108]⟩, .string ⟨#[114, 117, 110, 116, 105, 109, 101]⟩] 9)) w' := in_lit s row0 false h (by decide) w
theorem in_row1 (s : BA) (h : inB s row1 = false) (w : World) : Calls Tryz.prog 31 #[.string s, .slice (some ⟨w.heap.size, 0, none⟩) 5 5] (w.alloc (.cells #[.string ⟨#[112, 114, 105, 118, 105, 108, 101, 103, 101, 100]⟩, .string ⟨#[114, 101, 97, 100, 95, 111, 110, 108, 121]⟩, .string ⟨#[105, 110, 105, 116]⟩, .string ⟨#[116, 116, 121]⟩, .string ⟨#[115, 116, 100, 105, 110, 95, 111, 112, 101, 110]⟩] 9)) fun e w' => e = .returned (.bool false) ∧ Below (w.alloc (.cells #[.string ⟨#[112, 114, 105, 118, 105, 108, 101, 103, 101, 100]⟩, .string ⟨#[114, 101, 97, 100, 95, 111, 110, 108, 121]⟩, .string ⟨#[105, 110, 105, 116]⟩, .string ⟨#[116, 116, 121]⟩, .string ⟨#[115, 116, 100, 105, 110, 95, 111, 112, 101, 110]⟩] 9)).heap.size (w.alloc (.cells #[.string ⟨#[112, 114, 105, 118, 105, 108, 101, 103, 101, 100]⟩, .string ⟨#[114, 101, 97, 100, 95, 111, 110, 108, 121]⟩, .string ⟨#[105, 110, 105, 116]⟩, .string ⟨#[116, 116, 121]⟩, .string ⟨#[115, 116, 100, 105, 110, 95, 111, 112, 101, 110]⟩] 9)) w' := in_lit s row1 false h (by decide) w
theorem in_row2 (s : BA) (h : inB s row2 = false) (w : World) : Calls Tryz.prog 31 #[.string s, .slice (some ⟨w.heap.size, 0, none⟩) 8 8] (w.alloc (.cells #[.string ⟨#[99, 97, 112, 95, 97, 100, 100]⟩, .string ⟨#[99, 97, 112, 95, 100, 114, 111, 112]⟩, .string ⟨#[100, 110, 115]⟩, .string ⟨#[100, 110, 115, 95, 115, 101, 97, 114, 99, 104]⟩, .string ⟨#[100, 110, 115, 95, 111, 112, 116]⟩, .string ⟨#[115, 101, 99, 117, 114, 105, 116, 121, 95, 111, 112, 116]⟩, .string ⟨#[115, 101, 99, 114, 101, 116, 115]⟩, .string ⟨#[99, 111, 110, 102, 105, 103, 115]⟩] 9)) fun e w' => e = .returned (.bool false) ∧ Below (w.alloc (.cells #[.string ⟨#[99, 97, 112, 95, 97, 100, 100]⟩, .string ⟨#[99, 97, 112, 95, 100, 114, 111, 112]⟩, .string ⟨#[100, 110, 115]⟩, .string ⟨#[100, 110, 115, 95, 115, 101, 97, 114, 99, 104]⟩, .string ⟨#[100, 110, 115, 95, 111, 112, 116]⟩, .string ⟨#[115, 101, 99, 117, 114, 105, 116, 121, 95, 111, 112, 116]⟩, .string ⟨#[115, 101, 99, 114, 101, 116, 115]⟩, .string ⟨#[99, 111, 110, 102, 105, 103, 115]⟩] 9)).heap.size (w.alloc (.cells #[.string ⟨#[99, 97, 112, 95, 97, 100, 100]⟩, .string ⟨#[99, 97, 112, 95, 100, 114, 111, 112]⟩, .string ⟨#[100, 110, 115]⟩, .string ⟨#[100, 110, 115, 95, 115, 101, 97, 114, 99, 104]⟩, .string ⟨#[100, 110, 115, 95, 111, 112, 116]⟩, .string ⟨#[115, 101, 99, 117, 114, 105, 116, 121, 95, 111, 112, 116]⟩, .string ⟨#[115, 101, 99, 114, 101, 116, 115]⟩, .string ⟨#[99, 111, 110, 102, 105, 103, 115]⟩] 9)) w' := in_lit s row2 false h (by decide) w
theorem ev_named : Ev (fun k => spec_sayNamed.f k buildK) false := by
 have h := ev_sayIn buildK [(⟨#[101, 110, 118, 105, 114, 111, 110, 109, 101, 110, 116]⟩ : BA), (⟨#[108, 97, 98, 101, 108, 115]⟩ : BA), (⟨#[97, 110, 110, 111, 116, 97, 116, 105, 111, 110, 115]⟩ : BA), (⟨#[115, 121, 115, 99, 116, 108, 115]⟩ : BA)] (by simp)
 rw [show inB buildK [(⟨#[101, 110, 118, 105, 114, 111, 110, 109, 101, 110, 116]⟩ : BA), (⟨#[108, 97, 98, 101, 108, 115]⟩ : BA), (⟨#[97, 110, 110, 111, 116, 97, 116, 105, 111, 110, 115]⟩ : BA), (⟨#[115, 121, 115, 99, 116, 108, 115]⟩ : BA)] = false by decide +kernel] at h
 exact ev_bind (f := fun _ t => some t) h (Ev.now _)
set_option maxHeartbeats 3200000 in
set_option maxRecDepth 100000 in
theorem attr_s (s : BA) (h0 : inB s row0 = false) (h1 : inB s row1 = false) (h2 : inB s row2 = false) (hnm : Ev (fun k => spec_sayNamed.f k s) false) (qa0 : (ByteArray.toList s == [101, 120, 112, 111, 115, 101]) = false) (qb0 : (s == (⟨#[101, 120, 112, 111, 115, 101]⟩ : BA)) = false) (qa1 : (ByteArray.toList s == [99, 111, 109, 109, 97, 110, 100]) = false) (qb1 : (s == (⟨#[99, 111, 109, 109, 97, 110, 100]⟩ : BA)) = false) (qa2 : (ByteArray.toList s == [101, 110, 116, 114, 121, 112, 111, 105, 110, 116]) = false) (qb2 : (s == (⟨#[101, 110, 116, 114, 121, 112, 111, 105, 110, 116]⟩ : BA)) = false) (qa3 : (ByteArray.toList s == [104, 101, 97, 108, 116, 104, 99, 104, 101, 99, 107]) = false) (qb3 : (s == (⟨#[104, 101, 97, 108, 116, 104, 99, 104, 101, 99, 107]⟩ : BA)) = false) (qa4 : (ByteArray.toList s == [100, 101, 112, 101, 110, 100, 115, 95, 111, 110]) = false) (qb4 : (s == (⟨#[100, 101, 112, 101, 110, 100, 115, 95, 111, 110]⟩ : BA)) = false) (qa5 : (ByteArray.toList s == [110, 101, 116, 119, 111, 114, 107, 115]) = false) (qb5 : (s == (⟨#[110, 101, 116, 119, 111, 114, 107, 115]⟩ : BA)) = false) (qa6 : (ByteArray.toList s == [98, 117, 105, 108, 100]) = true) (qb6 : (s == (⟨#[98, 117, 105, 108, 100]⟩ : BA)) = true) (x : VS) (bt bk : Bool) (hbt : Ev (fun k => spec_sayText.f k x.f0 x.f1 x.f2 x.f3 x.f4) bt) (hbk : Ev (fun k => spec_sayKnown.f k x.f0 x.f1 x.f2 x.f3 x.f4 wordsB truthsB) bk) (A3 A4 : Option Addr) (c3 c4 : Nat) (w : World) (h : Reads w x A3 c3 A4 c4) :
  Calls Tryz.prog 19 #[.string s, .agg #[.int .i64 x.f0, .int .i64 x.f1, .string x.f2, .slice A3 x.f3.length c3, .slice A4 x.f4.length c4]] w fun e w' => e = .returned (.bool (bt || bk)) ∧ Below w.heap.size w w' := by
 obtain ⟨kt, ht⟩ := hbt.rounds
 obtain ⟨kk, hk⟩ := hbk.rounds
 obtain ⟨kn, hn⟩ := hnm.rounds
 have HT := aM ht
 have HK := aM hk
 have HN := aM hn
 have C0 := aM (fun w => in_row0 s h0 w)
 have C1 := aM (fun w => in_row1 s h1 w)
 have C2 := aM (fun w => in_row2 s h2 w)
 clear ht hk hn hbt hbk hnm h0 h1 h2
 have hb1 := below_alloc (Below.refl w.heap.size w) (.cells #[.int .i64 x.f0, .int .i64 x.f1, .string x.f2, .slice A3 x.f3.length c3, .slice A4 x.f4.length c4] 25)
 have HB := aM hb1
 have HRD := aM (h.below hb1)
 have hx := cb_new w (.cells #[.int .i64 x.f0, .int .i64 x.f1, .string x.f2, .slice A3 x.f3.length c3, .slice A4 x.f4.length c4] 25)
 have HX := aM hx
 clear h hb1 hx
 go_enter Tryz.func19, Tryz.ntmps19
 obtain ⟨w0, hw0⟩ : ∃ w0, w.alloc (.cells #[.int .i64 x.f0, .int .i64 x.f1, .string x.f2, .slice A3 x.f3.length c3, .slice A4 x.f4.length c4] 25) = w0 := ⟨_, rfl⟩
 rw [hw0] at HB HRD HX
 have HSZ := aM (show w0.heap.size = w.heap.size + 1 by rw [← hw0, World.size_alloc])
 have HW := aM hw0
 clear hw0
 go_wp2_with fail
 rw [HW.out]
 have c0 := C0.out w0
 rw [HSZ.out] at c0
 refine c0.mono ?_
 rintro e w1 ⟨rfl, hb⟩
 have hbx := hb_then (below_alloc (Below.refl w0.heap.size w0) (.cells (row0.map Value.string).toArray 9)) hb
 replace HB := aM (hb_then HB.out hbx)
 replace HRD := aM (HRD.out.below hbx)
 replace HX := aM ((hbx.block _ (cb_lt HX.out)).trans HX.out)
 clear hb hbx
 go_wp2_with fail
 refine (C1.out w1).mono ?_
 rintro e w2 ⟨rfl, hb⟩
 have hbx := hb_then (below_alloc (Below.refl w1.heap.size w1) (.cells (row1.map Value.string).toArray 9)) hb
 replace HB := aM (hb_then HB.out hbx)
 replace HRD := aM (HRD.out.below hbx)
 replace HX := aM ((hbx.block _ (cb_lt HX.out)).trans HX.out)
 clear hb hbx
 go_wp2_with fail
 refine (C2.out w2).mono ?_
 rintro e w3 ⟨rfl, hb⟩
 have hbx := hb_then (below_alloc (Below.refl w2.heap.size w2) (.cells (row2.map Value.string).toArray 9)) hb
 replace HB := aM (hb_then HB.out hbx)
 replace HRD := aM (HRD.out.below hbx)
 replace HX := aM ((hbx.block _ (cb_lt HX.out)).trans HX.out)
 clear hb hbx
 go_wp2_with fail
 refine (spec_sayNamed.calls kn s false w3 HN.out).mono ?_
 rintro e w4 ⟨rfl, hb⟩
 replace HB := aM (hb_then HB.out hb)
 replace HRD := aM (HRD.out.below hb)
 have hx4 := (hb.block _ (cb_lt HX.out)).trans HX.out
 clear hb HX
 have CT := aM (spec_sayText.calls kt x.f0 x.f1 x.f2 A3 c3 x.f3 A4 c4 x.f4 bt w4 HRD.out.hk HRD.out.l3 HRD.out.hv HRD.out.l4 HT.out)
 go_wp2_with (refine load_val (.tmp 3) rfl rfl rfl hx4 ?_)
 refine CT.out.mono ?_
 rintro e w5 ⟨rfl, hb⟩
 replace HB := aM (hb_then HB.out hb)
 replace HRD := aM (HRD.out.below hb)
 obtain ⟨y0, y1, y2, y3, y4⟩ := cell_row5 ((hb.block _ (cb_lt hx4)).trans hx4)
 clear hb hx4 CT
 cases bt
 rotate_left
 ·go_wp2
  go_ret
  exact ⟨rfl, HB.out⟩
 have hbr := below_alloc (Below.refl w5.heap.size w5) (.cells (wordsB.map Value.string).toArray 9)
 have hbs := below_alloc (Below.refl (w5.alloc (.cells (wordsB.map Value.string).toArray 9)).heap.size (w5.alloc (.cells (wordsB.map Value.string).toArray 9))) (.cells (truthsB.map Value.string).toArray 9)
 have hR := (HRD.out.below hbr).below hbs
 have CK := aM (spec_sayKnown.calls kk x.f0 x.f1 x.f2 A3 c3 x.f3 A4 c4 x.f4 (some ⟨w5.heap.size, 0, none⟩) wordsB.length wordsB (some ⟨w5.heap.size + 1, 0, none⟩) truthsB.length truthsB bk _ hR.hk hR.l3 hR.hv hR.l4 (Kd.C_below (strs_lit w5 9 wordsB (by decide)) hbs) (Nat.le_refl _) (by have := strs_lit (w5.alloc (.cells (wordsB.map Value.string).toArray 9)) 9 truthsB (by decide); rw [World.size_alloc] at this; exact this) (Nat.le_refl _) HK.out)
 have HB7 := aM (hb_then (hb_then HB.out hbr) hbs)
 clear hbr hbs hR
 go_wp2_with fail
 refine CK.out.mono ?_
 rintro e w6 ⟨rfl, hb⟩
 have HB8 := aM (hb_then HB7.out hb)
 clear hb
 go_wp2
 go_ret
 exact ⟨by simp, HB8.out⟩
theorem attr_build (x : VS) (bt bk : Bool) (hbt : Ev (fun k => spec_sayText.f k x.f0 x.f1 x.f2 x.f3 x.f4) bt) (hbk : Ev (fun k => spec_sayKnown.f k x.f0 x.f1 x.f2 x.f3 x.f4 wordsB truthsB) bk) (A3 A4 : Option Addr) (c3 c4 : Nat) (w : World) (h : Reads w x A3 c3 A4 c4) :
  Calls Tryz.prog 19 #[.string buildK, .agg #[.int .i64 x.f0, .int .i64 x.f1, .string x.f2, .slice A3 x.f3.length c3, .slice A4 x.f4.length c4]] w fun e w' => e = .returned (.bool (bt || bk)) ∧ Below w.heap.size w w' :=
 attr_s buildK (by decide +kernel) (by decide +kernel) (by decide +kernel) ev_named (by decide +kernel) (by decide +kernel) (by decide +kernel) (by decide +kernel) (by decide +kernel) (by decide +kernel) (by decide +kernel) (by decide +kernel) (by decide +kernel) (by decide +kernel) (by decide +kernel) (by decide +kernel) (by decide +kernel) (by decide +kernel) x bt bk hbt hbk A3 A4 c3 c4 w h
end Go.Proofs.YtaembebbaejfiaaGreatDoor.Tr
namespace Go.Proofs.YtaembebbaejfiaaGreatDoor.Tr
open Go.RowKit Go.Proofs.YtaembebbaejfiaaGreatDoorW.PrintWords Go.Proofs.YtaembebbaejfiaaGreatDoorW.PrintLast Go.Proofs.YtaembebbaejfiaaGreatDoor.Str Go.Proofs.YtaembebbaejfiaaGreatDoor.Kit Go.Proofs.YtaembebbaejfiaaGreatDoor.MapV Go.Proofs.YtaembebbaejfiaaGreatDoor.Frame Go.Proofs.YtaembebbaejfiaaGreatDoor.PS
set_option linter.unusedVariables false
set_option linter.unusedSimpArgs false
theorem kAny_at {w : World} {A : Option Addr} {xs : List Value} (h : kAny.C w A xs.length xs) (h0 : 0 < xs.length) :
  ∃ bk off, A = some ⟨bk, off, none⟩ ∧ bk < w.heap.size ∧ ∀ (j : Nat) (hj : j < xs.length), w.cell? ⟨bk, off + j, none⟩ = some xs[j] := by
 obtain ⟨hl, hm, hc⟩ := h
 obtain ⟨ad, rfl, hcc⟩ := hc h0
 have cell : ∀ (j : Nat) (hj : j < xs.length), w.cell? (ad.add j) = some xs[j] := by
  intro j hj
  obtain ⟨c, hcl, hr, hcell⟩ := hcc j xs[j] (List.getElem?_eq_getElem hj)
  have hr' : c = [xs[j]] := hr.1
  subst hr'
  have := hcell 0 _ rfl
  rw [show j * kAny.sz + 0 = j from by show j * 1 + 0 = j; omega] at this
  exact this
 have c0 := cell 0 h0
 obtain ⟨bk, off, spot⟩ := ad
 have hspot : spot = none := by
  cases hs : spot with
  | none => rfl
  | some sp =>
   exfalso
   subst hs
   simp [World.cell?, Addr.add] at c0
   split at c0 <;> simp at c0
 subst hspot
 have add : ∀ j : Nat, (⟨bk, off, none⟩ : Addr).add j = ⟨bk, off + j, none⟩ := by intro j; unfold Addr.add; split <;> simp_all
 refine ⟨bk, off, rfl, ?_, fun j hj => (add j) ▸ cell j hj⟩
 rw [add] at c0
 by_cases hb : bk < w.heap.size
 ·exact hb
 ·simp [World.cell?, Array.getElem?_eq_none (Nat.le_of_not_lt hb)] at c0
def FromAt (y : Y) : Prop := ∀ (v : Value) (F : Nat → Prop) (w : World), AR w v y F → Calls Tryz.prog 46 #[v] w (Told w (valOf y))
theorem t_lst_bool (v : Value) (w : World) : (Instr.typeAssert (.iface 58 v) 20 4 true).run Tryz.prog w = .ok (.tuple #[.bool false, .bool false]) w := by kernel_rfl
theorem t_lst_int (v : Value) (w : World) : (Instr.typeAssert (.iface 58 v) 20 3 true).run Tryz.prog w = .ok (.tuple #[.int .i64 0, .bool false]) w := by kernel_rfl
theorem t_lst_i64 (v : Value) (w : World) : (Instr.typeAssert (.iface 58 v) 20 2 true).run Tryz.prog w = .ok (.tuple #[.int .i64 0, .bool false]) w := by kernel_rfl
theorem t_lst_u64 (v : Value) (w : World) : (Instr.typeAssert (.iface 58 v) 20 74 true).run Tryz.prog w = .ok (.tuple #[.int .u64 0, .bool false]) w := by kernel_rfl
theorem t_lst_str (v : Value) (w : World) : (Instr.typeAssert (.iface 58 v) 20 9 true).run Tryz.prog w = .ok (.tuple #[.string ⟨#[]⟩, .bool false]) w := by kernel_rfl
theorem t_lst (v : Value) (w : World) : (Instr.typeAssert (.iface 58 v) 20 58 true).run Tryz.prog w = .ok (.tuple #[v, .bool true]) w := by kernel_rfl
theorem info_iv : (Tryz.prog.info? 45).map (fun i => (i.zero, i.size, i.bytes)) = some (some (.agg #[.int .i64 0, .int .i64 0, .string ⟨#[]⟩, .slice none 0 0, .slice none 0 0]), 5, 80) := by kernel_rfl
theorem told_row {fn : Func} (hr : fn.results = #[.cell 2 45, .tmp 3]) {tmps : Array Value} {W : World} {b n3 c3 n4 c4 : Nat} {k n : Int} {t : BA} {A3 A4 : Option Addr} (hp : tmps.getD 2 undef = .pointer (some ⟨b, 0, none⟩)) (h3 : tmps.getD 3 undef = .bool true) (hb : W.heap[b]? = some (.cells #[.int .i64 k, .int .i64 n, .string t, .slice A3 n3 c3, .slice A4 n4 c4] 45 (0, 0))) :
  (results fn tmps).run Tryz.prog W = .ok (.tuple #[.agg #[.int .i64 k, .int .i64 n, .string t, .slice A3 n3 c3, .slice A4 n4 c4], .bool true]) W := by
 have := results_ct (P := Tryz.prog) hr tmps W b 45 _ (0, 0) _ hp hb Tryz.underlying45 rfl ival_size
 rw [h3] at this
 exact this
set_option maxHeartbeats 6400000 in
set_option maxRecDepth 100000 in
theorem from_list (zs : List En) (A : Option Addr) (c : Nat) (w : World) (hn : zs.length ≤ 1759218604400) (hC : kAny.C w A zs.length (zs.map (fun z => z.1))) (hz : ∀ z, z ∈ zs → AR w z.1 z.2.1 z.2.2) (hch : ∀ z, z ∈ zs → FromAt z.2.1) :
  Calls Tryz.prog 46 #[.iface 58 (.slice A zs.length c)] w (Told w (valOf (.list (zs.map (fun z => z.2.1))))) := by
 have f0 := t_lst_bool
 have f1 := t_lst_int
 have f2 := t_lst_i64
 have f3 := t_lst_u64
 have f4 := t_lst_str
 have f5 := t_lst
 have HC := aM hC
 have HZ := aM hz
 have HCH := aM hch
 have hb0 := below_alloc (Below.refl w.heap.size w) (.cells #[.int .i64 0, .int .i64 0, .string ⟨#[]⟩, .slice none 0 0, .slice none 0 0] 45)
 have HB0 := aM (below_alloc hb0 (.cells #[.int .i64 0, .int .i64 0, .string ⟨#[]⟩, .slice none 0 0, .slice none 0 0] 45))
 have HZ0 := aM (show ((w.alloc (.cells #[.int .i64 0, .int .i64 0, .string ⟨#[]⟩, .slice none 0 0, .slice none 0 0] 45)).alloc (.cells #[.int .i64 0, .int .i64 0, .string ⟨#[]⟩, .slice none 0 0, .slice none 0 0] 45)).heap[w.heap.size]? = some (.cells zI 45 (0, 0)) from blk_alloc (cb_new _ _) _)
 have h1 := cb_new (w.alloc (.cells #[.int .i64 0, .int .i64 0, .string ⟨#[]⟩, .slice none 0 0, .slice none 0 0] 45)) (.cells #[.int .i64 0, .int .i64 0, .string ⟨#[]⟩, .slice none 0 0, .slice none 0 0] 45)
 rw [World.size_alloc] at h1
 clear hC hz hch hb0
 go_enter Tryz.func46, Tryz.ntmps46
 go_wp2_with (refine store_ival (.tmp 11) (.tmp 49) rfl rfl rfl rfl h1 ?_)
 have HX1 := aM (setRow_heap _ (w.heap.size + 1) _ #[.int .i64 4, .int .i64 0, .string ⟨#[]⟩, .slice none 0 0, .slice none 0 0] _ _ h1)
 have hg := grown_setRow ((w.alloc (.cells #[.int .i64 0, .int .i64 0, .string ⟨#[]⟩, .slice none 0 0, .slice none 0 0] 45)).alloc (.cells #[.int .i64 0, .int .i64 0, .string ⟨#[]⟩, .slice none 0 0, .slice none 0 0] 45)) (w.heap.size + 1) #[.int .i64 4, .int .i64 0, .string ⟨#[]⟩, .slice none 0 0, .slice none 0 0]
 have HB1 := aM (pw_below_grown HB0.out (some (w.heap.size + 1)) HB0.out.size hg (fun k hk => by injection hk with hk; have h2 : w.heap.size + 1 = k := hk; omega))
 have HZ1 := aM ((hg.block w.heap.size (cb_lt HZ0.out) (fun e => by injection e with e; omega)).trans HZ0.out)
 clear hg h1 HB0 HZ0
 go_loopw [52, 12, 13, 14] (fun v52 v12 v13 v14 wr => ∃ (i : Nat) (A2 : Option Addr) (c2 : Nat), v52 = .int .i64 i ∧ i ≤ zs.length ∧ Aside0 (wr.heap[w.heap.size + 1]? = some (.cells #[.int .i64 4, .int .i64 0, .string ⟨#[]⟩, .slice none 0 0, .slice A2 i c2] 45 (0, 0))) ∧ Aside0 (kI.R 45 wr (w.heap.size + 2) (fun _ => True) (.slice A2 i c2) ((zs.take i).map (fun z => valOf z.2.1))) ∧ Aside0 (Below w.heap.size w wr) ∧ Aside0 (wr.heap[w.heap.size]? = some (.cells zI 45 (0, 0)))) (fun v52 _ _ _ _ => zs.length - (intOf v52).toNat)
 case atStart => exact ⟨0, none, 0, rfl, by omega, HX1, ⟨Kd.R_nil _ _ _ _ _⟩, HB1, HZ1⟩
 case round =>
  clear HX1 HB1 HZ1
  obtain ⟨i, A2, c2, rfl, hiv, HX, HR, HB, HZ0⟩ := hrel
  have q0 : (0 : Int) ≤ (i : Int) := by omega
  by_cases hlv : i < zs.length
  ·have q2 : (i : Int) < (zs.length : Int) := by omega
   have hl0 : (zs.map (fun z => z.1)).length = zs.length := List.length_map ..
   obtain ⟨vb, vo, rfl, hvb, hvc⟩ := kAny_at (A := A) (xs := zs.map (fun z => z.1)) (by rw [hl0]; exact HC.out) (by omega)
   have e0 : w.cell? ⟨vb, vo + i, none⟩ = some (zs[i]'hlv).1 := by
    have h := hvc i (by omega)
    rw [List.getElem_map] at h
    exact h
   have y0 := pw_cell_below HB.out e0
   have CA := aM (fun (W : World) (hb : Below w.heap.size w W) => HCH.out zs[i] (List.getElem_mem hlv) zs[i].1 _ W ((HZ.out zs[i] (List.getElem_mem hlv)).keep hb))
   clear hvc e0 hl0
   go_wp2_with fail
   refine (CA.out wr HB.out).mono ?_
   rintro e w3 ⟨v3, v4, rfl, hv3, hv4, hb3⟩
   have HXE := aM (show (zs.take (i + 1)).map (fun z => valOf z.2.1) = (zs.take i).map (fun z => valOf z.2.1) ++ [valOf (zs[i]'hlv).2.1] by rw [List.take_succ_eq_append_getElem hlv, List.map_append]; rfl)
   generalize valOf (zs[i]'hlv).2.1 = x at hv3 hv4 HXE
   obtain ⟨x0, x1, x2, x3, x4⟩ := x
   obtain ⟨A3, c3, rfl⟩ := Kd.R_slice hv3
   obtain ⟨A4, c4, rfl⟩ := Kd.R_slice hv4
   have hW := below_alloc hb3 (.cells #[.int .i64 0, .int .i64 0, .string ⟨#[]⟩, .slice none 0 0, .slice none 0 0] 45)
   have h5 := cb_new w3 (.cells #[.int .i64 0, .int .i64 0, .string ⟨#[]⟩, .slice none 0 0, .slice none 0 0] 45)
   have hg5 := grown_setRow (w3.alloc (.cells #[.int .i64 0, .int .i64 0, .string ⟨#[]⟩, .slice none 0 0, .slice none 0 0] 45)) w3.heap.size #[.int .i64 x0, .int .i64 x1, .string x2, .slice A3 x3.length c3, .slice A4 x4.length c4]
   have hb5 := pw_below_grown hW (some w3.heap.size) hW.size hg5 (fun k hk => by injection hk with hk; have := hb3.size; omega)
   have h6 := setRow_heap _ w3.heap.size _ #[.int .i64 x0, .int .i64 x1, .string x2, .slice A3 x3.length c3, .slice A4 x4.length c4] _ _ h5
   have hm5 : ∀ k, k < w3.heap.size → ((w3.alloc (.cells #[.int .i64 0, .int .i64 0, .string ⟨#[]⟩, .slice none 0 0, .slice none 0 0] 45)).setRow w3.heap.size #[.int .i64 x0, .int .i64 x1, .string x2, .slice A3 x3.length c3, .slice A4 x4.length c4]).heap[k]? = w3.heap[k]? := fun k hk => (hg5.block k (by rw [World.size_alloc]; omega) (fun e => by injection e with e; omega)).trans ((below_alloc (Below.refl w3.heap.size w3) _).block k hk)
   have HX5 := aM ((hb5.block _ (cb_lt HX.out)).trans HX.out)
   have x4_ := cb_cell (i := 4) HX5.out rfl
   have HZ5 := aM ((hb5.block _ (cb_lt HZ0.out)).trans HZ0.out)
   have HR5 := aM (Kd.R_below HR.out hb5)
   have HB5 := aM (hb_then HB.out hb5)
   have HM := aM (k45_mkM ((w3.alloc (.cells #[.int .i64 0, .int .i64 0, .string ⟨#[]⟩, .slice none 0 0, .slice none 0 0] 45)).setRow w3.heap.size #[.int .i64 x0, .int .i64 x1, .string x2, .slice A3 x3.length c3, .slice A4 x4.length c4]) (w.heap.size + 2) (fun k => wr.heap.size ≤ k ∧ k < w3.heap.size) ⟨x0, x1, x2, x3, x4⟩
    (Kd.R_lower (Kd.R_move (Kd.R_mono (ok' := fun k => wr.heap.size ≤ k ∧ k < w3.heap.size) (Kd.R_bound hv3) (fun k hk => ⟨hk.2.1, hk.2.2.1⟩)) (fun k hk => hm5 k hk.2)) (by have := cb_lt HX.out; omega))
    (Kd.R_lower (Kd.R_move (Kd.R_mono (ok' := fun k => wr.heap.size ≤ k ∧ k < w3.heap.size) (Kd.R_bound hv4) (fun k hk => ⟨hk.2.1, hk.2.2.1⟩)) (fun k hk => hm5 k hk.2)) (by have := cb_lt HX.out; omega)))
   have HOK := aM (show ∀ k, wr.heap.size ≤ k ∧ k < w3.heap.size → True ∧ some k ≠ (Value.slice A2 i c2).ownBlock from fun k hk => ⟨trivial, fun e => by have := ((Kd.R_bound HR.out).1 k e.symm).2.2.1; omega⟩)
   have hsz := cb_lt HX5.out
   clear hv3 hv4 hW hg5 hb5 hm5 HX HR HB HZ0
   go_wp2_with (first | (refine store_ival (.tmp 13) (.tmp 61) rfl rfl rfl rfl h5 ?_; generalize (w3.alloc (.cells #[.int .i64 0, .int .i64 0, .string ⟨#[]⟩, .slice none 0 0, .slice none 0 0] 45)).setRow w3.heap.size #[.int .i64 x0, .int .i64 x1, .string x2, .slice A3 x3.length c3, .slice A4 x4.length c4] = W5 at h6 x4_ HX5 HZ5 HR5 HB5 HM hsz ⊢; clear h5) | refine load_ival (.tmp 13) rfl rfl rfl h6 ?_ | refine Kd.R_append kI (w0 := W5) (w.heap.size + 2) rfl (.tmp 67) (.tmp 69) 43 45 (.agg #[.int .i64 0, .int .i64 0, .string ⟨#[]⟩, .slice none 0 0, .slice none 0 0]) 80 rfl Tryz.underlying43 info_iv rfl (show 0 < 5 by decide) (by decide) (.slice A2 i c2) ((zs.take i).map (fun z => valOf z.2.1)) ⟨x0, x1, x2, x3, x4⟩ _ (fun _ => True) _ rfl rfl HM.out HOK.out (fun _ _ => trivial) HR5.out (Below.refl _ _) (by omega) (by rw [List.length_map, List.length_take]; omega) ?_)
   intro v1 w6 ho hb6 hg6 hat
   rw [← List.map_take, ← HXE.out] at ho
   have hlen : ((zs.take (i + 1)).map (fun z => valOf z.2.1)).length = i + 1 := by rw [List.length_map, List.length_take]; omega
   obtain ⟨A5, c5, rfl⟩ := Kd.R_slice ho
   rw [hlen] at ho hat ⊢
   have hB6 := pw_below_grown HB5.out (Value.slice A2 i c2).ownBlock HB5.out.size hg6 (fun k hk => by have := Kd.R_base HR5.out k hk; omega)
   have hX6 := (hb6.block (w.heap.size + 1) (by omega)).trans HX5.out
   have hZ6 := (hb6.block w.heap.size (by omega)).trans HZ5.out
   have HX7 := aM (cb_set hX6 (i := 4) (.slice A5 (i + 1) c5))
   have hg7 := grown_setCell w6 (w.heap.size + 1) 4 (.slice A5 (i + 1) c5)
   have HB7 := aM (pw_below_grown hB6 (some (w.heap.size + 1)) hB6.size hg7 (fun k hk => by injection hk with hk; omega))
   have HZ7 := aM ((hg7.block w.heap.size (cb_lt hZ6) (fun e => by injection e with e; omega)).trans hZ6)
   have HR7 := aM (Kd.R_mono (ok' := fun _ => True) (Kd.R_move (Kd.R_bound ho) (fun k hk => hg7.block k hk.2.2.1 (fun e => by have h2 := Option.some.inj e; have h3 := hk.2.1; omega))) (fun _ _ => trivial))
   have y4 := cb_cell (i := 4) hX6 rfl
   have y5 := cb_frozen (i := 4) hX6
   clear ho hat hlen hB6 hX6 hZ6 hb6 hg6 hg7 HX5 HZ5 HR5 HB5 HM HOK HXE CA x4_ h6 hsz
   go_wp2
   go_roundw
   case rel => exact ⟨i + 1, A5, c5, by go_num, by omega, HX7, HR7, HB7, HZ7⟩
   case measure => simp [intOf]; omega
  ·have hin : i = zs.length := by omega
   subst hin
   have hg8 := grown_setRow wr w.heap.size #[.int .i64 4, .int .i64 0, .string ⟨#[]⟩, .slice none 0 0, .slice A2 zs.length c2]
   have HX8 := aM (setRow_heap _ w.heap.size _ #[.int .i64 4, .int .i64 0, .string ⟨#[]⟩, .slice none 0 0, .slice A2 zs.length c2] _ _ HZ0.out)
   have HB8 := aM (pw_below_grown HB.out (some w.heap.size) HB.out.size hg8 (fun k hk => by injection hk with hk; omega))
   have hR := HR.out
   rw [List.take_length] at hR
   have HR8 := aM (Kd.R_lower (base' := w.heap.size) (Kd.R_mono (ok' := fun _ => True) (Kd.R_move (Kd.R_bound hR) (fun k hk => hg8.block k hk.2.2.1 (fun e => by have h2 := Option.some.inj e; have h3 := hk.2.1; omega))) (fun _ _ => trivial)) (by omega))
   have h11 := HX.out
   have h2 := HZ0.out
   clear hR hg8
   go_wp2_with (first | refine load_ival (.tmp 11) rfl rfl rfl h11 ?_ | refine store_ival (.tmp 2) (.tmp 73) rfl rfl rfl rfl h2 ?_)
   exact bodyPost_ret (v := .tuple #[.agg #[.int .i64 4, .int .i64 0, .string ⟨#[]⟩, .slice none 0 0, .slice A2 zs.length c2], .bool true]) (told_row rfl rfl rfl HX8.out) rfl ⟨.slice none 0 0, .slice A2 zs.length c2, by simp [valOf], by simp only [valOf]; exact Kd.R_nil _ _ _ _ _, by simp only [valOf]; rw [valL_map, List.map_map]; exact HR8.out, HB8.out⟩
end Go.Proofs.YtaembebbaejfiaaGreatDoor.Tr
namespace Go.Proofs
open Go.Shelf
def Tryz.lays156_ren : Go.Shelf.Ren := ⟨fun | 156 => 63 | 165 => 68 | 166 => 69 | 169 => 70 | 240 => 75 | 241 => 76 | 276 => 98 | 277 => 99 | n => n, fun | 31 => 22 | 9 => 9 | 3 => 3 | 4 => 4 | 0 => 0 | 20 => 20 | 72 => 87 | 76 => 89 | 70 => 85 | 37 => 67 | 75 => 52 | 127 => 98 | 164 => 105 | 5 => 5 | 80 => 91 | n => n, fun | n => n⟩
theorem Tryz.lays156 : Go.Proofs.Lays.n156 Tryz.prog Tryz.lays156_ren := {
 mixed := by kernel_rfl
 f156 := Tryz.func63.trans (congrArg some (by kernel_rfl))
 f165 := Tryz.func68.trans (congrArg some (by kernel_rfl))
 f166 := Tryz.func69.trans (congrArg some (by kernel_rfl))
 f169 := Tryz.func70.trans (congrArg some (by kernel_rfl))
 f240 := Tryz.func75.trans (congrArg some (by kernel_rfl))
 f241 := Tryz.func76.trans (congrArg some (by kernel_rfl))
 f276 := Tryz.func98.trans (congrArg some (by kernel_rfl))
 f277 := Tryz.func99.trans (congrArg some (by kernel_rfl))
 t0 := Tryz.underlying0
 a0 := Tryz.isAgg0
 z0 := Tryz.sizeOf0
 v0 := Tryz.zeroValue0
 t3 := Tryz.underlying3
 a3 := Tryz.isAgg3
 z3 := Tryz.sizeOf3
 v3 := Tryz.zeroValue3
 t4 := Tryz.underlying4
 a4 := Tryz.isAgg4
 z4 := Tryz.sizeOf4
 v4 := Tryz.zeroValue4
 t9 := Tryz.underlying9
 a9 := Tryz.isAgg9
 z9 := Tryz.sizeOf9
 v9 := Tryz.zeroValue9
 t20 := Tryz.underlying20
 a20 := Tryz.isAgg20
 z20 := Tryz.sizeOf20
 v20 := Tryz.zeroValue20
 t31 := Tryz.underlying22
 a31 := Tryz.isAgg22
 z31 := Tryz.sizeOf22
 v31 := Tryz.zeroValue22
 t37 := Tryz.underlying67
 a37 := Tryz.isAgg67
 z37 := Tryz.sizeOf67
 v37 := Tryz.zeroValue67
 t70 := Tryz.underlying85
 a70 := Tryz.isAgg85
 z70 := Tryz.sizeOf85
 v70 := Tryz.zeroValue85
 t72 := Tryz.underlying87
 a72 := Tryz.isAgg87
 z72 := Tryz.sizeOf87
 v72 := Tryz.zeroValue87
 t75 := Tryz.underlying52
 a75 := Tryz.isAgg52
 z75 := Tryz.sizeOf52
 v75 := Tryz.zeroValue52
 t76 := Tryz.underlying89
 a76 := Tryz.isAgg89
 z76 := Tryz.sizeOf89
 v76 := Tryz.zeroValue89
 t127 := Tryz.underlying98
 a127 := Tryz.isAgg98
 z127 := Tryz.sizeOf98
 v127 := Tryz.zeroValue98
 t164 := Tryz.underlying105
 a164 := Tryz.isAgg105
 z164 := Tryz.sizeOf105
 v164 := Tryz.zeroValue105 }
theorem Tryz.Builder_Extra_156 : Builder.Extra Tryz.prog Tryz.lays156_ren := {
 sizeBuilder := by kernel_rfl
 liesBuilder := by kernel_rfl
 t5 := Tryz.underlying5
 a5 := Tryz.isAgg5
 z5 := Tryz.sizeOf5
 v5 := Tryz.zeroValue5
 infoByte := by kernel_rfl
 cellsByte := by kernel_rfl
 sizeByte := by kernel_rfl
 neB5 := by decide }
open Go.RowKit in
theorem Tryz.strings_Join_none (a : Option Addr) (c : Nat) (sep : ByteArray) (w : World) :
  Calls Tryz.prog 63 #[.slice a 0 c, .string sep] w fun e w' => e = .returned (.string ⟨#[]⟩) ∧ w' = w := Any.strings_Join_none Tryz.lays156 Tryz.Builder_Extra_156 a c sep w
open Go.RowKit in
theorem Tryz.strings_Join (bk o c : Nat) (xs : List ByteArray) (sep : ByteArray) (w : World) (hcells : ∀ (j : Nat) x, xs[j]? = some x → w.cell? ⟨bk, o + j, none⟩ = some (.string x)) (hbk : bk < w.heap.size) (hN : xs.length ≤ 140737488355328) (hcap : xs.length ≤ c) (hlen : (Lib.join (xs.map (·.data.toList)) sep.data.toList).length ≤ 140737488355328) :
  Calls Tryz.prog 63 #[.slice (some ⟨bk, o, none⟩) xs.length c, .string sep] w fun e w' => e = .returned (.string ⟨(Lib.join (xs.map (·.data.toList)) sep.data.toList).toArray⟩) ∧ Below w.heap.size w w' := Any.strings_Join Tryz.lays156 Tryz.Builder_Extra_156 bk o c xs sep w hcells hbk hN hcap hlen
def Tryz.lays192_ren : Go.Shelf.Ren := ⟨fun | 192 => 65 | 190 => 71 | 125 => 78 | 258 => 77 | 128 => 109 | 129 => 110 | 302 => 100 | 303 => 101 | 304 => 102 | 305 => 103 | 306 => 104 | 307 => 105 | 308 => 106 | 309 => 107 | 310 => 108 | 333 => 116 | 329 => 117 | 330 => 118 | 334 => 119 | 335 => 120 | 336 => 121 | 344 => 126 | n => n, fun | 31 => 22 | 0 => 0 | 9 => 9 | 3 => 3 | 46 => 101 | 51 => 117 | 53 => 74 | 4 => 4 | 183 => 110 | 182 => 109 | 131 => 59 | 5 => 5 | 218 => 129 | 222 => 133 | 228 => 137 | 229 => 138 | n => n, fun | n => n⟩
theorem Tryz.lays192 : Go.Proofs.Lays.n192 Tryz.prog Tryz.lays192_ren := {
 mixed := by kernel_rfl
 f125 := Tryz.func78.trans (congrArg some (by kernel_rfl))
 f128 := Tryz.func109.trans (congrArg some (by kernel_rfl))
 f129 := Tryz.func110.trans (congrArg some (by kernel_rfl))
 f190 := Tryz.func71.trans (congrArg some (by kernel_rfl))
 f192 := Tryz.func65.trans (congrArg some (by kernel_rfl))
 f258 := Tryz.func77.trans (congrArg some (by kernel_rfl))
 f302 := Tryz.func100.trans (congrArg some (by kernel_rfl))
 f303 := Tryz.func101.trans (congrArg some (by kernel_rfl))
 f304 := Tryz.func102.trans (congrArg some (by kernel_rfl))
 f305 := Tryz.func103.trans (congrArg some (by kernel_rfl))
 f306 := Tryz.func104.trans (congrArg some (by kernel_rfl))
 f307 := Tryz.func105.trans (congrArg some (by kernel_rfl))
 f308 := Tryz.func106.trans (congrArg some (by kernel_rfl))
 f309 := Tryz.func107.trans (congrArg some (by kernel_rfl))
 f310 := Tryz.func108.trans (congrArg some (by kernel_rfl))
 f329 := Tryz.func117.trans (congrArg some (by kernel_rfl))
 f330 := Tryz.func118.trans (congrArg some (by kernel_rfl))
 f333 := Tryz.func116.trans (congrArg some (by kernel_rfl))
 f334 := Tryz.func119.trans (congrArg some (by kernel_rfl))
 f335 := Tryz.func120.trans (congrArg some (by kernel_rfl))
 f336 := Tryz.func121.trans (congrArg some (by kernel_rfl))
 f344 := Tryz.func126.trans (congrArg some (by kernel_rfl))
 t0 := Tryz.underlying0
 a0 := Tryz.isAgg0
 z0 := Tryz.sizeOf0
 v0 := Tryz.zeroValue0
 t3 := Tryz.underlying3
 a3 := Tryz.isAgg3
 z3 := Tryz.sizeOf3
 v3 := Tryz.zeroValue3
 t4 := Tryz.underlying4
 a4 := Tryz.isAgg4
 z4 := Tryz.sizeOf4
 v4 := Tryz.zeroValue4
 t5 := Tryz.underlying5
 a5 := Tryz.isAgg5
 z5 := Tryz.sizeOf5
 v5 := Tryz.zeroValue5
 t9 := Tryz.underlying9
 a9 := Tryz.isAgg9
 z9 := Tryz.sizeOf9
 v9 := Tryz.zeroValue9
 t31 := Tryz.underlying22
 a31 := Tryz.isAgg22
 z31 := Tryz.sizeOf22
 v31 := Tryz.zeroValue22
 t46 := Tryz.underlying101
 a46 := Tryz.isAgg101
 z46 := Tryz.sizeOf101
 v46 := Tryz.zeroValue101
 t51 := Tryz.underlying117
 a51 := Tryz.isAgg117
 z51 := Tryz.sizeOf117
 v51 := Tryz.zeroValue117
 t53 := Tryz.underlying74
 a53 := Tryz.isAgg74
 z53 := Tryz.sizeOf74
 v53 := Tryz.zeroValue74
 t131 := Tryz.underlying59
 a131 := Tryz.isAgg59
 z131 := Tryz.sizeOf59
 v131 := Tryz.zeroValue59
 t182 := Tryz.underlying109
 a182 := Tryz.isAgg109
 z182 := Tryz.sizeOf109
 v182 := Tryz.zeroValue109
 t183 := Tryz.underlying110
 a183 := Tryz.isAgg110
 z183 := Tryz.sizeOf110
 v183 := Tryz.zeroValue110
 t218 := Tryz.underlying129
 a218 := Tryz.isAgg129
 z218 := Tryz.sizeOf129
 v218 := Tryz.zeroValue129
 t222 := Tryz.underlying133
 a222 := Tryz.isAgg133
 z222 := Tryz.sizeOf133
 v222 := Tryz.zeroValue133
 t228 := Tryz.underlying137
 a228 := Tryz.isAgg137
 z228 := Tryz.sizeOf137
 v228 := Tryz.zeroValue137
 t229 := Tryz.underlying138
 a229 := Tryz.isAgg138
 z229 := Tryz.sizeOf138
 v229 := Tryz.zeroValue138 }
open Go.Sort Go.RowKit in
theorem Tryz.sort_Strings (blk off cap : Nat) (ss : List (List UInt8)) (w : World) (hH : Holds encStr w blk off ss.toArray) (hblk : blk < w.heap.size) (hsz : ss.length < 4611686018427387904) :
  Calls Tryz.prog 65 #[.slice (some ⟨blk, off, none⟩) ss.length cap] w fun e w' =>
   e = .returned (.tuple #[]) ∧ ∃ n os, w' = grow (putRow encStr (Sort.ahead w n) blk off (ss.mergeSort fun x y => decide (x ≤ y)).toArray) os := Any.sort_Strings Tryz.lays192 blk off cap ss w hH hblk hsz
open Go.RowKit Go.Sort in
theorem Tryz.sort_Strings_none (p : Option Addr) (cap : Nat) (w : World) :
  Calls Tryz.prog 65 #[.slice p 0 cap] w fun e w' => e = .returned (.tuple #[]) ∧ w' = w := Any.sort_Strings_none Tryz.lays192 p cap w
end Go.Proofs
namespace Go.Proofs.YtaembebbaejfiaaGreatDoor.Flat
open Go.RowKit Go.Proofs.YtaembebbaejfiaaGreatDoorW.PrintWords Go.Proofs.YtaembebbaejfiaaGreatDoor.Str Go.Sort
set_option linter.unusedVariables false
set_option linter.unusedSimpArgs false
def flat {α : Type} (enc : α → List Value) (k : Nat) (hk : ∀ x, (enc x).length = k) (h1 : ∀ x, ∀ u ∈ enc x, u.oneCell' = true) : Kd α where
 sz := k
 E := []
 K := fun _ x cs => cs = enc x
 M := fun _ _ _ x cs => cs = enc x
 K_len := fun h => by rw [h]; exact hk _
 K_one := fun h u hu => by rw [h] at hu; exact h1 _ u hu
 K_below := fun _ h => h
 K_of_M := fun h => h
 M_mono := fun _ h => h
 M_bound := fun h => h
 M_move := fun _ h => h
 M_lower := fun _ h => h
section
variable {α : Type} {enc : α → List Value} {k : Nat} {hk : ∀ x, (enc x).length = k} {h1 : ∀ x, ∀ u ∈ enc x, u.oneCell' = true}
theorem reps_flat (hk : ∀ x, (enc x).length = k) : ∀ (xs : List α) (cs : List Value), Reps (fun x cs => cs = enc x) k xs cs → cs = xs.flatMap enc
 | [], cs, h => by
  have := h.1
  simp at this
  exact this
 | x :: r, cs, h => by
  have h0 := h.2 0 x rfl
  simp only [Nat.zero_mul, List.drop_zero] at h0
  have hr : Reps (fun x cs => cs = enc x) k r (cs.drop k) := by
   refine ⟨by rw [List.length_drop, h.1, List.length_cons, Nat.add_mul, Nat.one_mul]; omega, fun j p hp => ?_⟩
   have := h.2 (j + 1) p (by simpa using hp)
   rw [List.drop_drop, show k + j * k = (j + 1) * k by rw [Nat.add_mul, Nat.one_mul, Nat.add_comm]]
   exact this
  have ih := reps_flat hk r _ hr
  rw [List.flatMap_cons, ← h0, ← ih, List.take_append_drop]
theorem flat_reps (hk : ∀ x, (enc x).length = k) (xs : List α) : Reps (fun x cs => cs = enc x) k xs (xs.flatMap enc) := by
 have go : ∀ (r l : List α), Reps (fun x cs => cs = enc x) k l (l.flatMap enc) → Reps (fun x cs => cs = enc x) k (l ++ r) ((l ++ r).flatMap enc) := by
  intro r
  induction r with
  | nil => intro l h; simpa using h
  | cons p r ih =>
   intro l h
   have := ih (l ++ [p]) (by
    rw [List.flatMap_append]
    have : [p].flatMap enc = enc p := by simp
    rw [this]
    exact Reps.snoc h rfl (hk p))
   simpa using this
 exact go xs [] (Reps.none _ _)
theorem R_flat {e : Nat} {w : World} {base : Nat} {ok : Nat → Prop} {v : Value} {xs : List α} :
  (flat enc k hk h1).R e w base ok v xs ↔ (∀ b, v.ownBlock = some b → ok b) ∧ w.ownsRow base e k v xs.length (xs.flatMap enc) := by
 constructor
 ·rintro ⟨h0, inner, ho, hr⟩
  have := reps_flat hk _ _ hr
  subst this
  exact ⟨h0, ho⟩
 ·rintro ⟨h0, ho⟩
  exact ⟨h0, _, ho, flat_reps hk xs⟩
end
end Go.Proofs.YtaembebbaejfiaaGreatDoor.Flat
namespace Go.Proofs.YtaembebbaejfiaaGreatDoor.Tr
open Go.RowKit Go.Proofs.YtaembebbaejfiaaGreatDoorW.PrintWords Go.Proofs.YtaembebbaejfiaaGreatDoorW.PrintLast Go.Proofs.YtaembebbaejfiaaGreatDoor.Str Go.Proofs.YtaembebbaejfiaaGreatDoor.Kit Go.Proofs.YtaembebbaejfiaaGreatDoor.Flat Go.Proofs.YtaembebbaejfiaaGreatDoor.MapV Go.Proofs.YtaembebbaejfiaaGreatDoor.Frame Go.Sort
set_option linter.unusedVariables false
set_option linter.unusedSimpArgs false
def Srt (ys : List BA) : Prop := ys.Pairwise fun x y => ¬ lb y < lb x
theorem srt_unique {xs ys : List BA} (hx : Srt xs) (hy : Srt ys) (hp : xs.Perm ys) : xs = ys := by
 refine List.Perm.eq_of_pairwise (le := fun x y => ¬ lb y < lb x) (fun a b _ _ h1 h2 => ?_) hx hy hp
 rcases lt_total (lb a) (lb b) with e | e | e
 ·exact absurd e h2
 ·exact lb_inj e
 ·exact absurd e h1
theorem fm_map (f : BA → Value) : ∀ xs : List BA, (xs.flatMap fun x => [f x]) = xs.map f
 | [] => rfl
 | x :: r => by rw [List.flatMap_cons, fm_map f r]; rfl
theorem enc_lb (ys : List BA) : (ys.map lb).map encStr = ys.map Value.string := by
 rw [List.map_map]
 exact List.map_congr_left (fun y _ => by show Value.string ⟨(lb y).toArray⟩ = _; rw [mk_lb])
def ofL (l : List (List UInt8)) : List BA := l.map fun b => ⟨b.toArray⟩
theorem ofL_enc (l : List (List UInt8)) : (ofL l).map Value.string = l.map encStr := by unfold ofL; rw [List.map_map]; rfl
theorem ofL_lb (ys : List BA) : ofL (ys.map lb) = ys := by
 unfold ofL
 rw [List.map_map]
 exact (List.map_congr_left (fun y _ => mk_lb y)).trans (List.map_id ys)
theorem ofL_srt {l : List (List UInt8)} (h : l.Pairwise fun x y => decide (x ≤ y) = true) : Srt (ofL l) := by
 unfold Srt ofL
 rw [List.pairwise_map]
 refine h.imp (fun {x y} hxy => ?_)
 rw [lb_mk, lb_mk]
 exact List.not_lt.2 (of_decide_eq_true hxy)
set_option maxHeartbeats 800000 in
theorem sort_own {base g n c : Nat} {ys : List BA} (w : World) (h : Kd.string.R 9 w base (fun _ => True) (.slice (some ⟨g, 0, none⟩) n c) ys) (hn : ys.length ≤ 1759218604400) :
  Calls Tryz.prog 65 #[.slice (some ⟨g, 0, none⟩) n c] w fun e w' => e = .returned (.tuple #[]) ∧ ∃ zs, Kd.string.R 9 w' base (fun _ => True) (.slice (some ⟨g, 0, none⟩) n c) zs ∧ zs.Perm ys ∧ Srt zs ∧ w.grownBy w' (some g) := by
 have h' : (flat (fun x : BA => [Value.string x]) 1 (fun _ => rfl) (fun x u hu => by rw [List.mem_singleton.1 hu]; rfl)).R 9 w base (fun _ => True) (.slice (some ⟨g, 0, none⟩) n c) ys := h
 rcases (R_flat.1 h').2.2 with ⟨hv, _⟩ | ⟨g', cap, cur, hv, hgb, hblk, hle, hcap, hcsz, htk⟩
 ·cases hv
 injection hv with e1 e2 e3
 injection e1 with e1
 injection e1 with e1
 subst e1 e2 e3
 rw [fm_map, Nat.mul_one, ← enc_lb] at htk
 have hL : (ys.map lb).length = ys.length := List.length_map _
 have hH := holds_of_block (ss := ys.map lb) hblk (by rw [hL]; exact htk)
 have CS := Any.sort_Strings Tryz.lays192 g 0 c (ys.map lb) w hH (cb_lt hblk) (by rw [hL]; omega)
 rw [hL] at CS
 refine CS.mono ?_
 rintro e w1 ⟨rfl, m, os, rfl⟩
 have hls : ((ys.map lb).mergeSort fun x y => decide (x ≤ y)).length = (ys.map lb).length := by rw [List.length_mergeSort]
 have HO := ownsRow_sorted (n := m) (os := os) hls hgb hblk (by rw [hL]; exact hle) hcap hcsz
 have HG := grownBy_sorted (w := w) (g := g) (n := m) (os := os) ((ys.map lb).mergeSort fun x y => decide (x ≤ y)).toArray
 refine ⟨rfl, ofL ((ys.map lb).mergeSort fun x y => decide (x ≤ y)), ?_, ?_, ?_, HG⟩
 ·refine (show (flat (fun x : BA => [Value.string x]) 1 (fun _ => rfl) (fun x u hu => by rw [List.mem_singleton.1 hu]; rfl)).R 9 _ base (fun _ => True) (.slice (some ⟨g, 0, none⟩) ys.length c) (ofL ((ys.map lb).mergeSort fun x y => decide (x ≤ y))) from R_flat.2 ⟨fun _ _ => trivial, ?_⟩)
  have hl2 : (ofL ((ys.map lb).mergeSort fun x y => decide (x ≤ y))).length = ys.length := by unfold ofL; rw [List.length_map, hls, hL]
  rw [fm_map, ofL_enc, hl2]
  have := HO
  rw [hL] at this
  exact this
 ·have := (List.mergeSort_perm (ys.map lb) (fun x y => decide (x ≤ y))).map (fun b : List UInt8 => (⟨b.toArray⟩ : BA))
  have e : (ys.map lb).map (fun b : List UInt8 => (⟨b.toArray⟩ : BA)) = ys := ofL_lb ys
  rw [e] at this
  exact this
 ·refine ofL_srt (List.pairwise_mergeSort (fun a b c h1 h2 => ?_) (fun a b => ?_) _)
  ·exact decide_eq_true (List.le_trans (of_decide_eq_true h1) (of_decide_eq_true h2))
  ·rcases List.le_total a b with h | h
   ·simp [h]
   ·simp [h]
end Go.Proofs.YtaembebbaejfiaaGreatDoor.Tr
namespace Go.Proofs.YtaembebbaejfiaaGreatDoor.Tr
open Go.RowKit Go.Proofs.YtaembebbaejfiaaGreatDoorW.PrintWords Go.Proofs.YtaembebbaejfiaaGreatDoorW.PrintLast Go.Proofs.YtaembebbaejfiaaGreatDoor.Str Go.Proofs.YtaembebbaejfiaaGreatDoor.Kit Go.Proofs.YtaembebbaejfiaaGreatDoor.Flat Go.Proofs.YtaembebbaejfiaaGreatDoor.MapV Go.Proofs.YtaembebbaejfiaaGreatDoor.Frame Go.Proofs.YtaembebbaejfiaaGreatDoor.PS
set_option linter.unusedVariables false
set_option linter.unusedSimpArgs false
theorem sort_any {base : Nat} {v : Value} {ys : List BA} (w : World) (h : Kd.string.R 9 w base (fun _ => True) v ys) (hn : ys.length ≤ 1759218604400) :
  Calls Tryz.prog 65 #[v] w fun e w' => e = .returned (.tuple #[]) ∧ ∃ zs, Kd.string.R 9 w' base (fun _ => True) v zs ∧ zs.Perm ys ∧ Srt zs ∧ w.grownBy w' v.ownBlock := by
 obtain ⟨A, c, rfl⟩ := Kd.R_slice h
 rcases Kd.R_base2 h with hb | ⟨k, hk, _⟩
 ·have h0 : ys = [] := by
   obtain ⟨_, inner, ho, hr⟩ := h
   rcases ho.2 with ⟨hv, hi⟩ | ⟨g, cap, cur, hv, _⟩
   ·injection hv with _ e2 _
    exact List.length_eq_zero_iff.1 e2
   ·rw [hv] at hb
    simp [Value.ownBlock] at hb
  subst h0
  refine (Any.sort_Strings_none Tryz.lays192 A c w).mono ?_
  rintro e w' ⟨rfl, rfl⟩
  exact ⟨rfl, [], h, List.Perm.refl _, List.Pairwise.nil, ⟨rfl, rfl, rfl, Nat.le_refl _, fun _ _ _ => rfl⟩⟩
 ·obtain ⟨g, rfl⟩ : ∃ g, A = some ⟨g, 0, none⟩ := by
   obtain ⟨_, inner, ho, hr⟩ := h
   rcases ho.2 with ⟨hv, hi⟩ | ⟨g, cap, cur, hv, _⟩
   ·rw [hv] at hk
    simp [Value.ownBlock] at hk
   ·injection hv with e1 _ _
    exact ⟨g, e1⟩
  exact sort_own w h hn
theorem left_same' {w w' : World} {b r : Nat} (hb : w'.heap[b]? = w.heap[b]?) (hr : w'.heap[r]? = w.heap[r]?) : w'.rangeLeft b r = w.rangeLeft b r := by
 unfold World.rangeLeft
 rw [hb, hr]
theorem str_own {e : TypeId} {w : World} {base : Nat} {ok : Nat → Prop} {v : Value} {xs : List BA} (h : Kd.string.R e w base ok v xs) : Kd.string.R e w base (fun k => v.ownBlock = some k) v xs := by
 have h' : (flat (fun x : BA => [Value.string x]) 1 (fun _ => rfl) (fun x u hu => by rw [List.mem_singleton.1 hu]; rfl)).R e w base ok v xs := h
 exact (show (flat (fun x : BA => [Value.string x]) 1 (fun _ => rfl) (fun x u hu => by rw [List.mem_singleton.1 hu]; rfl)).R e w base (fun k => v.ownBlock = some k) v xs from R_flat.2 ⟨fun b hb => hb, (R_flat.1 h').2⟩)
def kOf (l : List (Bs × Value)) : List BA := l.map (fun p => ⟨p.1.toArray⟩)
theorem kOf_length (l : List (Bs × Value)) : (kOf l).length = l.length := List.length_map ..
theorem kOf_srt {f : List (Bs × Value)} (h : Rises f) : Srt (kOf f) := by
 unfold Srt kOf
 rw [List.pairwise_map]
 refine List.Pairwise.imp (fun {x y} hxy => ?_) h
 rw [lb_mk, lb_mk]
 exact fun h2 => Std.lt_irrefl (Std.lt_trans hxy h2)
set_option maxHeartbeats 6400000 in
set_option maxRecDepth 100000 in
theorem from_map (zs : List (Bs × En)) (b : Nat) (w : World) (hn : zs.length ≤ 1759218604400) (hm : MapA w b (zs.map (fun z => (z.1, z.2.1)))) (hz : ∀ z, z ∈ zs → ∃ F, AR w z.2.1 z.2.2.1 F) (hch : ∀ z, z ∈ zs → FromAt z.2.2.1) :
  Calls Tryz.prog 60 #[.map (some b)] w (Told w (valOf (.map (zs.map (fun z => (z.1, z.2.2.1)))))) := by
 have HK := aM (MapE.key_le akey_u hm)
 have HRS := aM (MapE.rises (Go.Maps.string_keyed akey_u) hm)
 have HFL := aM (show (zs.map (fun z => (z.1, z.2.1))).length = zs.length from List.length_map ..)
 have HM := aM hm
 have HZ := aM hz
 have HCH := aM hch
 have hbl := hm.lt
 have HF := aM (show zs.map (fun z => (z.1, z.2.1)) = zs.map (fun z => (z.1, z.2.1)) from rfl)
 generalize hf : zs.map (fun z => (z.1, z.2.1)) = f at HK HRS HFL HM HF
 clear HF
 have HF := aM hf
 clear hf hm hz hch
 have hb0 := below_alloc (Below.refl w.heap.size w) (.cells #[.int .i64 0, .int .i64 0, .string ⟨#[]⟩, .slice none 0 0, .slice none 0 0] 45)
 have hB0 := below_alloc hb0 (.cells #[.int .i64 0, .int .i64 0, .string ⟨#[]⟩, .slice none 0 0, .slice none 0 0] 45)
 have hZ0 : ((w.alloc (.cells #[.int .i64 0, .int .i64 0, .string ⟨#[]⟩, .slice none 0 0, .slice none 0 0] 45)).alloc (.cells #[.int .i64 0, .int .i64 0, .string ⟨#[]⟩, .slice none 0 0, .slice none 0 0] 45)).heap[w.heap.size]? = some (.cells zI 45 (0, 0)) := blk_alloc (cb_new _ _) _
 have h1 := cb_new (w.alloc (.cells #[.int .i64 0, .int .i64 0, .string ⟨#[]⟩, .slice none 0 0, .slice none 0 0] 45)) (.cells #[.int .i64 0, .int .i64 0, .string ⟨#[]⟩, .slice none 0 0, .slice none 0 0] 45)
 rw [World.size_alloc] at h1
 have hg := grown_setRow ((w.alloc (.cells #[.int .i64 0, .int .i64 0, .string ⟨#[]⟩, .slice none 0 0, .slice none 0 0] 45)).alloc (.cells #[.int .i64 0, .int .i64 0, .string ⟨#[]⟩, .slice none 0 0, .slice none 0 0] 45)) (w.heap.size + 1) #[.int .i64 5, .int .i64 0, .string ⟨#[]⟩, .slice none 0 0, .slice none 0 0]
 have HX1 := aM (setRow_heap _ (w.heap.size + 1) _ #[.int .i64 5, .int .i64 0, .string ⟨#[]⟩, .slice none 0 0, .slice none 0 0] _ _ h1)
 have HB1 := aM (pw_below_grown hB0 (some (w.heap.size + 1)) hB0.size hg (fun k hk => by injection hk with hk; have h2 : w.heap.size + 1 = k := hk; omega))
 have HZ1 := aM ((hg.block w.heap.size (cb_lt hZ0) (fun e => by injection e with e; omega)).trans hZ0)
 have HM1 := aM (HM.out.below HB1.out)
 have hs1 : (((w.alloc (.cells #[.int .i64 0, .int .i64 0, .string ⟨#[]⟩, .slice none 0 0, .slice none 0 0] 45)).alloc (.cells #[.int .i64 0, .int .i64 0, .string ⟨#[]⟩, .slice none 0 0, .slice none 0 0] 45)).setRow (w.heap.size + 1) #[.int .i64 5, .int .i64 0, .string ⟨#[]⟩, .slice none 0 0, .slice none 0 0]).heap.size = w.heap.size + 2 := by simp [World.setRow]
 clear hb0 hB0 hZ0 hg
 go_enter Tryz.func60, Tryz.ntmps60
 go_wp2_with (first | (refine store_ival (.tmp 4) (.tmp 10) rfl rfl rfl rfl h1 ?_; generalize ((w.alloc (.cells #[.int .i64 0, .int .i64 0, .string ⟨#[]⟩, .slice none 0 0, .slice none 0 0] 45)).alloc (.cells #[.int .i64 0, .int .i64 0, .string ⟨#[]⟩, .slice none 0 0, .slice none 0 0] 45)).setRow (w.heap.size + 1) #[.int .i64 5, .int .i64 0, .string ⟨#[]⟩, .slice none 0 0, .slice none 0 0] = W1 at HX1 HB1 HZ1 HM1 hs1 ⊢; clear h1) | (at_range; refine range_mapE akey_u amap_u rfl _ rfl rfl HM1.out ?_; intro w0 hrg0 hg0 hs0; rw [hs1] at hrg0 hs0; have HR0 := aM hrg0; have HG0 := aM hg0; have HS0 := aM hs0; clear hrg0 hg0 hs0))
 go_frame
 rw [hs1]
 have HX0 := aM ((HG0.out.block (w.heap.size + 1) (by omega) (by simp)).trans HX1.out)
 have HZ0 := aM ((HG0.out.block w.heap.size (by omega) (by simp)).trans HZ1.out)
 have HB0 := aM (pw_below_grown HB1.out none HB1.out.size HG0.out (fun k hk => by cases hk))
 have hs0 := HS0.out
 clear HG0 HX1 HZ1 HB1 HM1 HS0
 go_loopw [5] (fun v5 wr => ∃ (dn lf : List (Bs × Value)) (A0 : Option Addr) (c0 : Nat), Aside0 (Ranges Tryz.prog 9 id wr b (w.heap.size + 2) f lf) ∧ Aside0 (wr.heap[w.heap.size + 1]? = some (.cells #[.int .i64 5, .int .i64 0, .string ⟨#[]⟩, .slice A0 dn.length c0, .slice none 0 0] 45 (0, 0))) ∧ Aside0 (Kd.string.R 9 wr (w.heap.size + 3) (fun _ => True) (.slice A0 dn.length c0) (kOf dn)) ∧ Aside0 ((dn ++ lf).Perm f) ∧ Aside0 (Below w.heap.size w wr) ∧ Aside0 (wr.heap[w.heap.size]? = some (.cells zI 45 (0, 0))) ∧ w.heap.size + 3 ≤ wr.heap.size) (fun _ wr => wr.rangeLeft b (w.heap.size + 2))
 case atStart => exact ⟨[], f, none, 0, HR0, HX0, ⟨Kd.R_nil _ _ _ _ _⟩, ⟨List.Perm.refl _⟩, HB0, HZ0, by omega⟩
 case round =>
  clear HR0 HX0 HB0 HZ0 hs0
  obtain ⟨dn, lf, A0, c0, HR, HX, HV, HP, HB, HZ0, hsz⟩ := hrel
  have hcell : wr.cell? ⟨w.heap.size + 1, 3, none⟩ = some (.slice A0 dn.length c0) := cb_cell (i := 3) HX.out rfl
  have hlen : dn.length + lf.length = zs.length := by rw [← HFL.out, ← HP.out.length_eq, List.length_append]
  have HL := aM hlen
  clear hlen
  go_wp2_with (first | (at_next; refine next_mapA akey_u rfl _ rfl rfl HR.out (fun hd => ?_) (fun x c w2 hx hen => ?_); rotate_left; (have HX2 := aM (show w2.heap[w.heap.size + 1]? = some (.cells #[.int .i64 5, .int .i64 0, .string ⟨#[]⟩, .slice A0 dn.length c0, .slice none 0 0] 45 (0, 0)) from (hx.out.2.2.2.2.1.block _ (cb_lt HX.out) (by simp)).trans HX.out)); (have hc2 : w2.cell? ⟨w.heap.size + 1, 3, none⟩ = some (.slice A0 dn.length c0) := cb_cell (i := 3) HX2.out rfl); (have HV2 := aM (Kd.R_mono (ok' := fun _ => True) (Kd.R_grown (Kd.R_bound HV.out) hx.out.2.2.2.2.1 (fun k hk e => by have h2 := Option.some.inj e; have h3 := hk.2.1; omega)) (fun _ _ => trivial))); (have HB2 := aM (pw_below_grown HB.out (some (w.heap.size + 2)) HB.out.size hx.out.2.2.2.2.1 (fun k hk => by injection hk with hk; omega))); (have hsz2 : w.heap.size + 3 ≤ w2.heap.size := by have := hx.out.2.2.2.2.2; omega); (have hfit : ((kOf dn).length + 1) * 16 ≤ 140737488355328 := by rw [kOf_length]; have := HL.out; omega); rotate_right) | (at_builtin; refine Kd.R_append Kd.string (w0 := w2) (w.heap.size + 3) rfl (.tmp 18) (.tmp 20) 22 9 (.string ⟨#[]⟩) 16 rfl Tryz.underlying22 info_string rfl (show 0 < 1 by decide) (by decide) (.slice A0 dn.length c0) (kOf dn) x [.string x] (fun _ => True) (fun _ => False) rfl rfl rfl (fun _ h => h.elim) (fun _ _ => trivial) HV2.out (Below.refl _ _) hsz2 hfit ?_; intro v1 w3 ho hb3 hg3 hat; obtain ⟨A1, c1, rfl⟩ := Kd.R_slice ho; have HV3 := aM ho; have HB3 := aM hb3; have HG3 := aM hg3; clear ho hb3 hg3 hat; have HX3 := aM ((HB3.out.block (w.heap.size + 1) (by omega)).trans HX2.out); have hc3 : w3.cell? ⟨w.heap.size + 1, 3, none⟩ = some (.slice A0 dn.length c0) := cb_cell (i := 3) HX3.out rfl; have hf3 := cb_frozen (i := 3) HX3.out))
  ·-- all have come: they are sorted; then a value each
   have hpf : dn.Perm f := by have := HP.out; rw [hd.out, List.append_nil] at this; exact this
   have hdl : dn.length = zs.length := by rw [← HFL.out]; exact hpf.length_eq
   have HPK := aM (show (kOf dn).Perm (kOf f) from hpf.map _)
   rw [hdl] at HX HV ⊢
   clear hpf hd hcell HL HP HR hdl
   refine (sort_any wr HV.out (by rw [HPK.out.length_eq, kOf_length, HFL.out]; exact hn)).mono ?_
   rintro e w5 ⟨rfl, ys, hys, hpm, hsr, hg5⟩
   obtain rfl : ys = kOf f := srt_unique hsr (kOf_srt HRS.out) (hpm.trans HPK.out)
   have hown : ∀ k, (Value.slice A0 zs.length c0).ownBlock = some k → w.heap.size + 3 ≤ k ∧ k < wr.heap.size := fun k hk => ⟨((Kd.R_bound HV.out).1 k hk).2.1, ((Kd.R_bound HV.out).1 k hk).2.2.1⟩
   have hHX5 := (hg5.block (w.heap.size + 1) (by omega) (fun e => by have := hown _ e.symm; omega)).trans HX.out
   have HX5 := aM hHX5
   have HZ5 := aM ((hg5.block w.heap.size (by omega) (fun e => by have := hown _ e.symm; omega)).trans HZ0.out)
   have HB5 := aM (pw_below_grown HB.out _ HB.out.size hg5 (fun k hk => by have := hown k hk; omega))
   have HV5 := aM hys
   have hc5 : w5.cell? ⟨w.heap.size + 1, 3, none⟩ = some (.slice A0 zs.length c0) := cb_cell (i := 3) hHX5 rfl
   clear hys hpm hsr hown hHX5 HX HZ0 HB HV HPK hg5
   go_wp2
   go_loopw [29, 7, 8, 9] (fun v29 v7 v8 v9 wq => ∃ (i : Nat) (A2 : Option Addr) (c2 : Nat), v29 = .int .i64 i ∧ i ≤ zs.length ∧ Aside0 (wq.heap[w.heap.size + 1]? = some (.cells #[.int .i64 5, .int .i64 0, .string ⟨#[]⟩, .slice A0 zs.length c0, .slice A2 i c2] 45 (0, 0))) ∧ Aside0 (Kd.string.R 9 wq (w.heap.size + 3) (fun _ => True) (.slice A0 zs.length c0) (kOf f)) ∧ Aside0 (kI.R 45 wq (w.heap.size + 3) (fun k => some k ≠ (Value.slice A0 zs.length c0).ownBlock) (.slice A2 i c2) ((zs.take i).map (fun z => valOf z.2.2.1))) ∧ Aside0 (Below w.heap.size w wq) ∧ Aside0 (wq.heap[w.heap.size]? = some (.cells zI 45 (0, 0)))) (fun v29 _ _ _ _ => zs.length - (intOf v29).toNat)
   case atStart => exact ⟨0, none, 0, rfl, by omega, HX5, HV5, ⟨Kd.R_nil _ _ _ _ _⟩, HB5, HZ5⟩
   case round =>
    clear HX5 HV5 HB5 HZ5 hc5
    obtain ⟨i, A2, c2, rfl, hiv, HX, HV, HR, HB, HZ0⟩ := hrel
    have q0 : (0 : Int) ≤ (i : Int) := by omega
    have hown : ∀ k, (Value.slice A0 zs.length c0).ownBlock = some k → w.heap.size + 3 ≤ k ∧ k < wr.heap.size := fun k hk => ⟨((Kd.R_bound HV.out).1 k hk).2.1, ((Kd.R_bound HV.out).1 k hk).2.2.1⟩
    by_cases hlv : i < zs.length
    ·have q2 : (i : Int) < (zs.length : Int) := by omega
     have hkl : (kOf f).length = zs.length := by rw [kOf_length, HFL.out]
     obtain ⟨hn0, hnc, hC⟩ := Kd.R_reads' HV.out
     obtain ⟨kb, ko, rfl, hkb, hkc⟩ := strs_open hC (by omega)
     have hf1 : (zs[i]'hlv).1 = (zs[i]'hlv).1 := rfl
     have hfm : ((zs[i]'hlv).1, (zs[i]'hlv).2.1) ∈ f := by rw [← HF.out]; exact List.mem_map.2 ⟨zs[i]'hlv, List.getElem_mem hlv, rfl⟩
     have e0 : wr.cell? ⟨kb, ko + i, none⟩ = some (.string ⟨(zs[i]'hlv).1.toArray⟩) := by
      have h := hkc i (by omega)
      have h2 : (kOf f)[i]'(by omega) = ⟨(zs[i]'hlv).1.toArray⟩ := by
       have : f[i]'(by rw [HFL.out]; exact hlv) = ((zs[i]'hlv).1, (zs[i]'hlv).2.1) := by simp [← HF.out]
       unfold kOf
       rw [List.getElem_map, this]
      rw [h2] at h
      exact h
     have hks : (⟨(zs[i]'hlv).1.toArray⟩ : BA).size ≤ maxLen := by have := HK.out _ hfm; simpa [ByteArray.size] using this
     have hlk := run_look_mapE (s := ⟨(zs[i]'hlv).1.toArray⟩) akey_u amap_u (Tryz.zeroValue20 wr) (HM.out.below HB.out) hks
     rw [lb_mk, mget_of_mem HRS.out hfm] at hlk
     have CA := aM (show ∀ (W : World) (hb : Below w.heap.size w W), Calls Tryz.prog 46 #[(zs[i]'hlv).2.1] W (Told W (valOf (zs[i]'hlv).2.2.1)) from fun W hb => by obtain ⟨F, hF⟩ := HZ.out zs[i] (List.getElem_mem hlv); exact HCH.out zs[i] (List.getElem_mem hlv) zs[i].2.1 _ W (hF.keep hb))
     clear hkl hn0 hnc hC hkc hf1 hfm hks
     go_wp2_with fail
     refine (CA.out wr HB.out).mono ?_
     rintro e w3 ⟨v3, v4, rfl, hv3, hv4, hb3⟩
     have HXE := aM (show (zs.take (i + 1)).map (fun z => valOf z.2.2.1) = ((zs.take i).map (fun z => valOf z.2.2.1)) ++ [valOf (zs[i]'hlv).2.2.1] by rw [List.take_succ_eq_append_getElem hlv, List.map_append]; rfl)
     generalize valOf (zs[i]'hlv).2.2.1 = x at hv3 hv4 HXE
     obtain ⟨x0, x1, x2, x3, x4⟩ := x
     obtain ⟨A3, c3, rfl⟩ := Kd.R_slice hv3
     obtain ⟨A4, c4, rfl⟩ := Kd.R_slice hv4
     have hW := below_alloc hb3 (.cells #[.int .i64 0, .int .i64 0, .string ⟨#[]⟩, .slice none 0 0, .slice none 0 0] 45)
     have h5 := cb_new w3 (.cells #[.int .i64 0, .int .i64 0, .string ⟨#[]⟩, .slice none 0 0, .slice none 0 0] 45)
     have hg5 := grown_setRow (w3.alloc (.cells #[.int .i64 0, .int .i64 0, .string ⟨#[]⟩, .slice none 0 0, .slice none 0 0] 45)) w3.heap.size #[.int .i64 x0, .int .i64 x1, .string x2, .slice A3 x3.length c3, .slice A4 x4.length c4]
     have hb5 := pw_below_grown hW (some w3.heap.size) hW.size hg5 (fun k hk => by injection hk with hk; have := hb3.size; omega)
     have h6 := setRow_heap _ w3.heap.size _ #[.int .i64 x0, .int .i64 x1, .string x2, .slice A3 x3.length c3, .slice A4 x4.length c4] _ _ h5
     have hm5 : ∀ k, k < w3.heap.size → ((w3.alloc (.cells #[.int .i64 0, .int .i64 0, .string ⟨#[]⟩, .slice none 0 0, .slice none 0 0] 45)).setRow w3.heap.size #[.int .i64 x0, .int .i64 x1, .string x2, .slice A3 x3.length c3, .slice A4 x4.length c4]).heap[k]? = w3.heap[k]? := fun k hk => (hg5.block k (by rw [World.size_alloc]; omega) (fun e => by injection e with e; omega)).trans ((below_alloc (Below.refl w3.heap.size w3) _).block k hk)
     have hwr := (cb_lt HX.out)
     have hwr2 : w.heap.size + 3 ≤ wr.heap.size := by have := hown kb rfl; omega
     have HX5 := aM ((hb5.block _ (cb_lt HX.out)).trans HX.out)
     have x4_ := cb_cell (i := 4) HX5.out rfl
     have HZ5 := aM ((hb5.block _ (cb_lt HZ0.out)).trans HZ0.out)
     have HV5 := aM (Kd.R_below HV.out hb5)
     have HR5 := aM (Kd.R_below HR.out hb5)
     have HB5 := aM (hb_then HB.out hb5)
     have HM5 := aM (k45_mkM ((w3.alloc (.cells #[.int .i64 0, .int .i64 0, .string ⟨#[]⟩, .slice none 0 0, .slice none 0 0] 45)).setRow w3.heap.size #[.int .i64 x0, .int .i64 x1, .string x2, .slice A3 x3.length c3, .slice A4 x4.length c4]) (w.heap.size + 3) (fun k => wr.heap.size ≤ k ∧ k < w3.heap.size) ⟨x0, x1, x2, x3, x4⟩
      (Kd.R_lower (Kd.R_move (Kd.R_mono (ok' := (fun k => wr.heap.size ≤ k ∧ k < w3.heap.size)) (Kd.R_bound hv3) (fun k hk => ⟨hk.2.1, hk.2.2.1⟩)) (fun k hk => hm5 k hk.2)) hwr2)
      (Kd.R_lower (Kd.R_move (Kd.R_mono (ok' := (fun k => wr.heap.size ≤ k ∧ k < w3.heap.size)) (Kd.R_bound hv4) (fun k hk => ⟨hk.2.1, hk.2.2.1⟩)) (fun k hk => hm5 k hk.2)) hwr2))
     have HOK := aM (show ∀ k, wr.heap.size ≤ k ∧ k < w3.heap.size → (some k ≠ (Value.slice (some ⟨kb, ko, none⟩) zs.length c0).ownBlock) ∧ some k ≠ (Value.slice A2 i c2).ownBlock from fun k hk => ⟨fun e => by have := hown k e.symm; omega, fun e => by have := ((Kd.R_bound HR.out).1 k e.symm).2.2.1; omega⟩)
     have hsz : w.heap.size + 3 ≤ ((w3.alloc (.cells #[.int .i64 0, .int .i64 0, .string ⟨#[]⟩, .slice none 0 0, .slice none 0 0] 45)).setRow w3.heap.size #[.int .i64 x0, .int .i64 x1, .string x2, .slice A3 x3.length c3, .slice A4 x4.length c4]).heap.size := Nat.le_trans hwr2 hb5.size
     have hfr : ∀ k, ((w3.alloc (.cells #[.int .i64 0, .int .i64 0, .string ⟨#[]⟩, .slice none 0 0, .slice none 0 0] 45)).setRow w3.heap.size #[.int .i64 x0, .int .i64 x1, .string x2, .slice A3 x3.length c3, .slice A4 x4.length c4]).heap.size ≤ k → some k ≠ (Value.slice (some ⟨kb, ko, none⟩) zs.length c0).ownBlock := fun k hk e => by have h1 := hown k e.symm; have h2 := hb5.size; omega
     have HFR := aM hfr
     have hlow : ∀ k, (Value.slice (some ⟨kb, ko, none⟩) zs.length c0).ownBlock = some k → w.heap.size + 3 ≤ k := fun k hk => (hown k hk).1
     clear hv3 hv4 hW hg5 hb5 hm5 HX HV HR HB HZ0 hwr hwr2 hown hfr
     go_wp2_with (first | (refine store_ival (.tmp 8) (.tmp 38) rfl rfl rfl rfl h5 ?_; generalize (w3.alloc (.cells #[.int .i64 0, .int .i64 0, .string ⟨#[]⟩, .slice none 0 0, .slice none 0 0] 45)).setRow w3.heap.size #[.int .i64 x0, .int .i64 x1, .string x2, .slice A3 x3.length c3, .slice A4 x4.length c4] = W5 at h6 x4_ HX5 HZ5 HV5 HR5 HB5 HM5 HFR hsz ⊢; clear h5) | refine load_ival (.tmp 8) rfl rfl rfl h6 ?_ | refine Kd.R_append kI (w0 := W5) (w.heap.size + 3) rfl (.tmp 44) (.tmp 46) 43 45 (.agg #[.int .i64 0, .int .i64 0, .string ⟨#[]⟩, .slice none 0 0, .slice none 0 0]) 80 rfl Tryz.underlying43 info_iv rfl (show 0 < 5 by decide) (by decide) (.slice A2 i c2) ((zs.take i).map (fun z => valOf z.2.2.1)) ⟨x0, x1, x2, x3, x4⟩ _ (fun k => some k ≠ (Value.slice (some ⟨kb, ko, none⟩) zs.length c0).ownBlock) _ rfl rfl HM5.out HOK.out HFR.out HR5.out (Below.refl _ _) hsz (by rw [List.length_map, List.length_take]; omega) ?_)
     intro v1 w6 ho hb6 hg6 hat
     rw [← List.map_take, ← HXE.out] at ho
     have hlen : ((zs.take (i + 1)).map (fun z => valOf z.2.2.1)).length = i + 1 := by rw [List.length_map, List.length_take]; omega
     obtain ⟨A5, c5, rfl⟩ := Kd.R_slice ho
     rw [hlen] at ho hat ⊢
     have hB6 := pw_below_grown HB5.out (Value.slice A2 i c2).ownBlock HB5.out.size hg6 (fun k hk => by have := Kd.R_base HR5.out k hk; omega)
     have hX6 := (hb6.block (w.heap.size + 1) (by omega)).trans HX5.out
     have hZ6 := (hb6.block w.heap.size (by omega)).trans HZ5.out
     have hV6 := Kd.R_mono (ok' := fun _ => True) (Kd.R_grown (str_own HV5.out) hg6 (fun k hk e => HR5.out.1 k e.symm hk.symm)) (fun _ _ => trivial)
     have HX7 := aM (cb_set hX6 (i := 4) (.slice A5 (i + 1) c5))
     have hg7 := grown_setCell w6 (w.heap.size + 1) 4 (.slice A5 (i + 1) c5)
     have HB7 := aM (pw_below_grown hB6 (some (w.heap.size + 1)) hB6.size hg7 (fun k hk => by injection hk with hk; omega))
     have HZ7 := aM ((hg7.block w.heap.size (cb_lt hZ6) (fun e => by injection e with e; omega)).trans hZ6)
     have HV7 := aM (Kd.R_mono (ok' := fun _ => True) (Kd.R_grown (Kd.R_bound hV6) hg7 (fun k hk e => by have h2 := Option.some.inj e; have h3 := hk.2.1; omega)) (fun _ _ => trivial))
     have HR7 := aM (Kd.R_mono (ok' := fun k => some k ≠ (Value.slice (some ⟨kb, ko, none⟩) zs.length c0).ownBlock) (Kd.R_move (Kd.R_bound ho) (fun k hk => hg7.block k hk.2.2.1 (fun e => by have h2 := Option.some.inj e; have h3 := hk.2.1; omega))) (fun _ hk => hk.1))
     have y4 := cb_cell (i := 4) hX6 rfl
     have y5 := cb_frozen (i := 4) hX6
     clear ho hat hlen hB6 hX6 hZ6 hV6 hb6 hg6 hg7 HX5 HZ5 HV5 HR5 HB5 HM5 HOK HXE CA x4_ h6 hsz HFR
     go_wp2
     go_roundw
     case rel => exact ⟨i + 1, A5, c5, by go_num, by omega, HX7, HV7, HR7, HB7, HZ7⟩
     case measure => simp [intOf]; omega
    ·have hin : i = zs.length := by omega
     subst hin
     have hg8 := grown_setRow wr w.heap.size #[.int .i64 5, .int .i64 0, .string ⟨#[]⟩, .slice A0 zs.length c0, .slice A2 zs.length c2]
     have HX8 := aM (setRow_heap _ w.heap.size _ #[.int .i64 5, .int .i64 0, .string ⟨#[]⟩, .slice A0 zs.length c0, .slice A2 zs.length c2] _ _ HZ0.out)
     have HB8 := aM (pw_below_grown HB.out (some w.heap.size) HB.out.size hg8 (fun k hk => by injection hk with hk; omega))
     have hR := HR.out
     rw [List.take_length] at hR
     have HR8 := aM (Kd.R_lower (base' := w.heap.size) (Kd.R_mono (ok' := fun _ => True) (Kd.R_move (Kd.R_bound hR) (fun k hk => hg8.block k hk.2.2.1 (fun e => by have h2 := Option.some.inj e; have h3 := hk.2.1; omega))) (fun _ _ => trivial)) (by omega))
     have hKO : kOf f = (zs.map (fun z => (z.1, z.2.2.1))).map (fun p => (⟨p.1.toArray⟩ : BA)) := by rw [← HF.out]; unfold kOf; rw [List.map_map, List.map_map]; rfl
     have HV8 := aM (Kd.R_lower (base' := w.heap.size) (Kd.R_mono (ok' := fun _ => True) (Kd.R_move (Kd.R_bound HV.out) (fun k hk => hg8.block k hk.2.2.1 (fun e => by have h2 := Option.some.inj e; have h3 := hk.2.1; omega))) (fun _ _ => trivial)) (by omega))
     rw [hKO] at HV8
     have h11 := HX.out
     have h2 := HZ0.out
     clear hR hg8 hown hKO
     go_wp2_with (first | refine load_ival (.tmp 4) rfl rfl rfl h11 ?_ | refine store_ival (.tmp 2) (.tmp 50) rfl rfl rfl rfl h2 ?_)
     exact bodyPost_ret (v := .tuple #[.agg #[.int .i64 5, .int .i64 0, .string ⟨#[]⟩, .slice A0 zs.length c0, .slice A2 zs.length c2], .bool true]) (told_row rfl rfl rfl HX8.out) rfl ⟨.slice A0 zs.length c0, .slice A2 zs.length c2, by simp [valOf], by simp only [valOf]; exact HV8.out, by simp only [valOf]; rw [valM_map, List.map_map]; exact HR8.out, HB8.out⟩
  ·-- a key more
   have hl : (kOf dn).length + 1 = (dn ++ [(lb x, c)]).length := by rw [kOf_length, List.length_append, List.length_singleton]
   have hk : kOf dn ++ [x] = kOf (dn ++ [(lb x, c)]) := by unfold kOf; rw [List.map_append]; simp
   have hown : ∀ k, (Value.slice A0 dn.length c0).ownBlock = some k → w.heap.size + 3 ≤ k := fun k hk => ((Kd.R_bound HV2.out).1 k hk).2.1
   have nb : ∀ j, j < w.heap.size + 3 → some j ≠ (Value.slice A0 dn.length c0).ownBlock := fun j hj e => by have := hown j e.symm; omega
   rw [hk] at HV3
   rw [hl]
   rw [show (kOf (dn ++ [(lb x, c)])).length = (dn ++ [(lb x, c)]).length from kOf_length _] at HV3
   have hg7 := grown_setCell w3 (w.heap.size + 1) 3 (.slice A1 (dn ++ [(lb x, c)]).length c1)
   have HG7 := aM hg7
   have hHB3 : Below w.heap.size w w3 := pw_below_grown HB2.out _ HB2.out.size HG3.out (fun k hk => by have := hown k hk; omega)
   have hpm : lf.Perm ((lb x, c) :: mdel lf (lb x)) := rises_take ((HRS.out.sublist HR.out.sub).imp (fun {p q} h => lt_ne h)) hx.out.1
   clear hl hk
   go_roundw
   case rel =>
    refine ⟨dn ++ [(lb x, c)], mdel lf (lb x), A1, c1, ⟨?_⟩, ⟨cb_set HX3.out _⟩, ⟨?_⟩, ⟨?_⟩, ⟨?_⟩, ⟨?_⟩, ?_⟩
    ·exact (hx.out.2.2.1.kept HG3.out (nb _ (by omega)) (nb _ (by omega))).kept hg7 (fun e => by have := Option.some.inj e; omega) (fun e => by have := Option.some.inj e; omega)
    ·exact Kd.R_mono (Kd.R_grown (Kd.R_bound HV3.out) hg7 (fun k hk e => by have h2 := Option.some.inj e; have h3 := hk.2.1; omega)) (fun _ _ => trivial)
    ·rw [List.append_assoc]
     exact ((hpm.symm).append_left dn).trans HP.out
    ·exact pw_below_grown hHB3 (some (w.heap.size + 1)) hHB3.size hg7 (fun k hk => by have := Option.some.inj hk; omega)
    ·exact (hg7.block w.heap.size (by have := HG3.out.size; omega) (fun e => by have := Option.some.inj e; omega)).trans ((HB3.out.block w.heap.size (by omega)).trans ((hx.out.2.2.2.2.1.block w.heap.size (by omega) (fun e => by have := Option.some.inj e; omega)).trans HZ0.out))
    ·have h1 := hg7.size; have h2 := HG3.out.size; omega
   case measure =>
    have e1 := left_same' (b := b) (r := w.heap.size + 2) (w := w2) (w' := w3.setCell ⟨w.heap.size + 1, 3, none⟩ (.slice A1 (dn ++ [(lb x, c)]).length c1)) ?_ ?_
    ·rw [e1]; exact hx.out.2.2.2.1
    ·rw [hg7.block b (by have := hHB3.size; omega) (fun e => by have := Option.some.inj e; omega), HG3.out.block b (by omega) (nb _ (by omega))]
    ·rw [hg7.block _ (by have := HG3.out.size; omega) (fun e => by have := Option.some.inj e; omega), HG3.out.block _ (by omega) (nb _ (by omega))]
end Go.Proofs.YtaembebbaejfiaaGreatDoor.Tr
namespace Go.Proofs.YtaembebbaejfiaaGreatDoor.Tr
open Go.RowKit Go.Proofs.YtaembebbaejfiaaGreatDoorW.PrintWords Go.Proofs.YtaembebbaejfiaaGreatDoorW.PrintLast Go.Proofs.YtaembebbaejfiaaGreatDoor.Str Go.Proofs.YtaembebbaejfiaaGreatDoor.Kit Go.Proofs.YtaembebbaejfiaaGreatDoor.MapV Go.Proofs.YtaembebbaejfiaaGreatDoor.Frame Go.Proofs.YtaembebbaejfiaaGreatDoor.PS
set_option linter.unusedVariables false
set_option linter.unusedSimpArgs false
theorem t_map_bool (v : Value) (w : World) : (Instr.typeAssert (.iface 64 v) 20 4 true).run Tryz.prog w = .ok (.tuple #[.bool false, .bool false]) w := by kernel_rfl
theorem t_map_int (v : Value) (w : World) : (Instr.typeAssert (.iface 64 v) 20 3 true).run Tryz.prog w = .ok (.tuple #[.int .i64 0, .bool false]) w := by kernel_rfl
theorem t_map_i64 (v : Value) (w : World) : (Instr.typeAssert (.iface 64 v) 20 2 true).run Tryz.prog w = .ok (.tuple #[.int .i64 0, .bool false]) w := by kernel_rfl
theorem t_map_u64 (v : Value) (w : World) : (Instr.typeAssert (.iface 64 v) 20 74 true).run Tryz.prog w = .ok (.tuple #[.int .u64 0, .bool false]) w := by kernel_rfl
theorem t_map_str (v : Value) (w : World) : (Instr.typeAssert (.iface 64 v) 20 9 true).run Tryz.prog w = .ok (.tuple #[.string ⟨#[]⟩, .bool false]) w := by kernel_rfl
theorem t_map_lst (v : Value) (w : World) : (Instr.typeAssert (.iface 64 v) 20 58 true).run Tryz.prog w = .ok (.tuple #[.slice none 0 0, .bool false]) w := by kernel_rfl
theorem t_map_map (v : Value) (w : World) : (Instr.typeAssert (.iface 64 v) 20 64 true).run Tryz.prog w = .ok (.tuple #[v, .bool true]) w := by kernel_rfl
inductive FitsY : Y → Prop
 | null : FitsY .null
 | bool (b) : FitsY (.bool b)
 | int (n) : FitsY (.int n)
 | text (s) : FitsY (.text s)
 | list (l : List Y) (hl : l.length ≤ 1759218604400) (h : ∀ y, y ∈ l → FitsY y) : FitsY (.list l)
 | map (m : List (Bs × Y)) (hl : m.length ≤ 1759218604400) (hk : ∀ p, p ∈ m → p.1.length ≤ maxLen) (h : ∀ p, p ∈ m → FitsY p.2) : FitsY (.map m)
set_option maxHeartbeats 1600000 in
theorem from_amap (b : Nat) (w : World) (y : Y) (hm : ∀ W, Below w.heap.size w W → Calls Tryz.prog 60 #[.map (some b)] W (Told W (valOf y))) :
  Calls Tryz.prog 46 #[.iface 64 (.map (some b))] w (Told w (valOf y)) := by
 have f0 := t_map_bool
 have f1 := t_map_int
 have f2 := t_map_i64
 have f3 := t_map_u64
 have f4 := t_map_str
 have f5 := t_map_lst
 have f6 := t_map_map
 have h0 := aM (cb_new w (.cells #[.int .i64 0, .int .i64 0, .string ⟨#[]⟩, .slice none 0 0, .slice none 0 0] 45))
 have HB := aM (below_alloc (Below.refl w.heap.size w) (.cells #[.int .i64 0, .int .i64 0, .string ⟨#[]⟩, .slice none 0 0, .slice none 0 0] 45))
 have CM := aM (hm _ HB.out)
 clear hm
 generalize valOf y = x at CM
 obtain ⟨x0, x1, x2, x3, x4⟩ := x
 go_enter Tryz.func46, Tryz.ntmps46
 go_wp2_with fail
 refine CM.out.mono ?_
 rintro e w3 ⟨v3, v4, rfl, hv3, hv4, hb3⟩
 obtain ⟨A3, c3, rfl⟩ := Kd.R_slice hv3
 obtain ⟨A4, c4, rfl⟩ := Kd.R_slice hv4
 have h1 := (hb3.block _ (cb_lt h0.out)).trans h0.out
 have hg := grown_setRow w3 w.heap.size #[.int .i64 x0, .int .i64 x1, .string x2, .slice A3 x3.length c3, .slice A4 x4.length c4]
 have HX := aM (setRow_heap _ w.heap.size _ #[.int .i64 x0, .int .i64 x1, .string x2, .slice A3 x3.length c3, .slice A4 x4.length c4] _ _ h1)
 have hb := hb_then HB.out hb3
 have HB8 := aM (pw_below_grown hb (some w.heap.size) hb.size hg (fun k hk => by have := Option.some.inj hk; omega))
 have hbase := HB.out.size
 have hlt := cb_lt h0.out
 have H3 := aM (Kd.R_lower (base' := w.heap.size) (Kd.R_mono (ok' := fun _ => True) (Kd.R_move (Kd.R_bound hv3) (fun k hk => hg.block k hk.2.2.1 (fun e => by have h2 := Option.some.inj e; have h3 := hk.2.1; omega))) (fun _ _ => trivial)) hbase)
 have H4 := aM (Kd.R_lower (base' := w.heap.size) (Kd.R_mono (ok' := fun _ => True) (Kd.R_move (Kd.R_bound hv4) (fun k hk => hg.block k hk.2.2.1 (fun e => by have h2 := Option.some.inj e; have h3 := hk.2.1; omega))) (fun _ _ => trivial)) hbase)
 clear hv3 hv4 hb3 hg hb hbase hlt HB h0 CM
 go_wp2_with (refine store_ival (.tmp 2) (.tmp 79) rfl rfl rfl rfl h1 ?_)
 exact bodyPost_ret (v := .tuple #[.agg #[.int .i64 x0, .int .i64 x1, .string x2, .slice A3 x3.length c3, .slice A4 x4.length c4], .bool true]) (told_row rfl rfl rfl HX.out) rfl ⟨.slice A3 x3.length c3, .slice A4 x4.length c4, rfl, H3.out, H4.out, HB8.out⟩
theorem from_any {y : Y} (h : FitsY y) : FromAt y := by
 induction h with
 | null => intro v F w ha; cases ha; exact from_null w
 | bool b =>
  intro v F w ha
  cases ha
  cases b
  ·exact from_bfalse w
  ·exact from_btrue w
 | int n => intro v F w ha; cases ha; exact from_int n w
 | text s => intro v F w ha; cases ha; exact from_text s w
 | list l hl h ih =>
  intro v F w ha
  cases ha with
  | list v zs _ _ hy hr hz hd hb hF =>
   subst hy
   obtain ⟨A, c, rfl⟩ := Kd.R_slice hr
   obtain ⟨hn, hc, hC⟩ := Kd.R_reads' hr
   rw [List.length_map] at hC hl ⊢
   exact from_list zs A c w hl hC hz (fun z hzz => ih z.2.1 (List.mem_map.2 ⟨z, hzz, rfl⟩))
 | map m hl hk h ih =>
  intro v F w ha
  cases ha with
  | map b zs _ _ hy hm hz hd hb hF =>
   subst hy
   rw [List.length_map] at hl
   exact from_amap b w _ (fun W hb => from_map zs b W hl (hm.below hb) (fun z hzz => ⟨_, (hz z hzz).keep hb⟩) (fun z hzz => ih (z.1, z.2.2.1) (List.mem_map.2 ⟨z, hzz, rfl⟩)))
end Go.Proofs.YtaembebbaejfiaaGreatDoor.Tr
namespace Go.Proofs.YtaembebbaejfiaaGreatDoor.Mount
open Go.RowKit Go.Proofs.YtaembebbaejfiaaGreatDoorW.PrintWords Go.Proofs.YtaembebbaejfiaaGreatDoor.Str Go.Proofs.YtaembebbaejfiaaGreatDoor.Kit Go.Proofs.YtaembebbaejfiaaGreatDoor.Frame
set_option linter.unusedVariables false
set_option linter.unusedSimpArgs false
theorem join_C {A : Option Addr} {c : Nat} {xs : List ByteArray} (sep : ByteArray) (w : World) (h : Kd.string.C w A xs.length xs) (hc : xs.length ≤ c)
  (hN : xs.length ≤ 140737488355328) (hlen : (Lib.join (xs.map lb) (lb sep)).length ≤ 140737488355328) :
  Calls Tryz.prog 63 #[.slice A xs.length c, .string sep] w fun e w' => e = .returned (.string ⟨(Lib.join (xs.map lb) (lb sep)).toArray⟩) ∧ Below w.heap.size w w' := by
 rcases Nat.eq_zero_or_pos xs.length with h0 | h0
 ·obtain rfl := List.eq_nil_of_length_eq_zero h0
  exact (Tryz.strings_Join_none A c sep w).mono fun e w' ⟨he, hw⟩ => ⟨he, hw ▸ Below.refl _ _⟩
 ·obtain ⟨bk, off, rfl, hbk, hcell⟩ := strs_open h h0
  exact Tryz.strings_Join bk off c xs sep w (fun j x hx => by
   obtain ⟨hj, rfl⟩ := List.getElem?_eq_some_iff.1 hx
   exact hcell j hj) hbk hN hc hlen
def newPath (xs : List ByteArray) : ByteArray := ⟨(Lib.join (xs.map lb) [46]).toArray⟩
set_option maxHeartbeats 400000 in
theorem tree_NewPath {A : Option Addr} {c : Nat} {xs : List ByteArray} (w : World) (h : Kd.string.C w A xs.length xs) (hc : xs.length ≤ c)
  (hN : xs.length ≤ 140737488355328) (hlen : (newPath xs).size ≤ 140737488355328) :
  Calls Tryz.prog 49 #[.slice A xs.length c] w fun e w' => e = .returned (.string (newPath xs)) ∧ Below w.heap.size w w' := by
 have H := aM h
 have HC := aM hc
 have HN := aM hN
 have HL := aM hlen
 clear h hc hN hlen
 go_enter Tryz.func49, Tryz.ntmps49
 go_wp2_with fail
 refine (join_C ⟨#[46]⟩ w H.out HC.out HN.out (by have := HL.out; rw [← lb_length, newPath, lb_mk] at this; exact this)).mono ?_
 rintro e w1 ⟨rfl, hb⟩
 have HB := aM hb
 clear hb
 go_wp2
 go_ret
 exact ⟨rfl, HB.out⟩
end Go.Proofs.YtaembebbaejfiaaGreatDoor.Mount
namespace Go.Proofs.YtaembebbaejfiaaGreatDoor.Tr
open Go.RowKit Go.Proofs.YtaembebbaejfiaaGreatDoorW.PrintWords Go.Proofs.YtaembebbaejfiaaGreatDoor.Str Go.Proofs.YtaembebbaejfiaaGreatDoor.Kit Go.Proofs.YtaembebbaejfiaaGreatDoor.MapV Go.Proofs.YtaembebbaejfiaaGreatDoor.Frame Go.Proofs.YtaembebbaejfiaaGreatDoor.PS
set_option linter.unusedVariables false
set_option linter.unusedSimpArgs false
theorem fold_mem {α : Type} : ∀ (l f : List (Bs × α)) (p : Bs × α), p ∈ l.foldl (fun f p => mput f p.1 p.2) f → p ∈ f ∨ p ∈ l
 | [], f, p, h => .inl h
 | q :: r, f, p, h => by
  rcases fold_mem r (mput f q.1 q.2) p h with h | h
  ·rcases mput_mem h with rfl | h
   ·exact .inr (by simp)
   ·exact .inl h
  ·exact .inr (by simp [h])
theorem fitM_mem {α : Type} {l : List (Bs × α)} {p : Bs × α} (h : p ∈ fitM l) : p ∈ l := by
 rcases fold_mem l [] p h with h | h
 ·simp at h
 ·exact h
inductive Norm : Y → Prop
 | null : Norm .null
 | bool (b) : Norm (.bool b)
 | int (n) : Norm (.int n)
 | text (s) : Norm (.text s)
 | list (l : List Y) (h : ∀ y, y ∈ l → Norm y) : Norm (.list l)
 | map (m : List (Bs × Y)) (hr : Rises m) (h : ∀ p, p ∈ m → Norm p.2) : Norm (.map m)
theorem mput_last {α : Type} {f : List (Bs × α)} {k : Bs} {v : α} (h : Rises (f ++ [(k, v)])) : mput f k v = f ++ [(k, v)] := by
 have hr : Rises f := h.sublist (List.sublist_append_left _ _)
 have hl : ∀ p ∈ f, p.1 < k := fun p hp => (List.pairwise_append.1 h).2.2 p hp (k, v) (by simp)
 refine rises_ext (mput_rises hr _ _) h (fun q => ?_)
 rw [mget_mput]
 by_cases hq : k = q
 ·subst hq
  rw [if_pos rfl]
  exact (mget_of_mem h (by simp)).symm
 ·rw [if_neg hq]
  cases hg : mget f q with
  | none =>
   cases hg2 : mget (f ++ [(k, v)]) q with
   | none => rfl
   | some u =>
    have := mget_some hg2
    rcases List.mem_append.1 this with h1 | h1
    ·exact absurd rfl (mget_none hg _ h1)
    ·simp at h1
     exact absurd h1.1.symm hq
  | some u => exact (mget_of_mem h (by simp [mget_some hg])).symm
theorem fitM_rises_aux {α : Type} : ∀ (l f : List (Bs × α)), Rises (f ++ l) → l.foldl (fun f p => mput f p.1 p.2) f = f ++ l
 | [], f, _ => by simp
 | (k, v) :: r, f, h => by
  have e : f ++ (k, v) :: r = (f ++ [(k, v)]) ++ r := by simp
  have h2 : mput f k v = f ++ [(k, v)] := mput_last (h.sublist (by rw [e]; exact List.sublist_append_left _ _))
  rw [List.foldl_cons]
  show List.foldl _ (mput f k v) r = _
  rw [h2, fitM_rises_aux r _ (by rw [← e]; exact h), e]
theorem fitM_of_rises {α : Type} {m : List (Bs × α)} (h : Rises m) : fitM m = m := fitM_rises_aux m [] (by simpa using h)
theorem back {y : Y} (h : Norm y) : anyOf (valOf y) = y := by
 induction h with
 | null => simp [valOf, anyOf]
 | bool b => cases b <;> simp [valOf, anyOf]
 | int n => simp [valOf, anyOf]
 | text s => simp [valOf, anyOf]
 | list l h ih =>
  simp only [valOf, anyOf]
  rw [if_neg (by decide), if_neg (by decide), if_neg (by decide), if_pos trivial, anyL_map, valL_map, List.map_map]
  exact congrArg Y.list ((List.map_congr_left (fun y hy => ih y hy)).trans (List.map_id l))
 | map m hr h ih =>
  simp only [valOf, anyOf]
  rw [if_neg (by decide), if_neg (by decide), if_neg (by decide), if_neg (by decide), if_pos trivial, anyL_map, valM_map, List.map_map, List.map_map]
  have e1 : m.map (lb ∘ fun p => (⟨p.1.toArray⟩ : BA)) = m.map (fun p => p.1) := List.map_congr_left (fun p _ => lb_mk p.1)
  have e2 : m.map (anyOf ∘ fun p => valOf p.2) = m.map (fun p => p.2) := List.map_congr_left (fun p hp => ih p hp)
  rw [e1, e2, List.zip_map']
  have e3 : m.map (fun p => (p.1, p.2)) = m := (List.map_congr_left (fun p _ => rfl)).trans (List.map_id m)
  rw [e3, fitM_of_rises hr]
theorem pairs_mem {ks : List BA} {vs : List VI} {p : Bs × Y} (h : p ∈ pairsOf ks vs) : ∃ v, v ∈ vs ∧ p.2 = anyOf v := by
 have h2 : p.2 ∈ anyL vs := (List.of_mem_zip (show (p.1, p.2) ∈ (ks.map lb).zip (anyL vs) from h)).2
 rw [anyL_map] at h2
 obtain ⟨v, hv, he⟩ := List.mem_map.1 h2
 exact ⟨v, hv, he.symm⟩
theorem small_fits {x : VI} (h : Small x) : FitsY (anyOf x) ∧ Norm (anyOf x) := by
 induction h with
 | mk x hk hkl hvl hv ih =>
  obtain ⟨k, n, t, ks, vs⟩ := x
  by_cases h1 : k = 1
  ·subst h1; simp only [anyOf]; exact ⟨.bool _, .bool _⟩
  by_cases h2 : k = 2
  ·subst h2; simp only [anyOf]; exact ⟨.int _, .int _⟩
  by_cases h3 : k = 3
  ·subst h3; simp only [anyOf]; exact ⟨.text _, .text _⟩
  by_cases h4 : k = 4
  ·subst h4
   have e : anyOf ⟨4, n, t, ks, vs⟩ = .list (anyL vs) := by simp [anyOf]
   rw [e, anyL_map]
   exact ⟨.list _ (by rw [List.length_map]; exact hvl) (fun y hy => by obtain ⟨v, hvv, rfl⟩ := List.mem_map.1 hy; exact (ih v hvv).1), .list _ (fun y hy => by obtain ⟨v, hvv, rfl⟩ := List.mem_map.1 hy; exact (ih v hvv).2)⟩
  by_cases h5 : k = 5
  ·subst h5
   have e : anyOf ⟨5, n, t, ks, vs⟩ = .map (fitM (pairsOf ks vs)) := by simp [anyOf, pairsOf]
   rw [e]
   refine ⟨.map _ ?_ (fun p hp => ?_) (fun p hp => ?_), .map _ (fitM_rises _) (fun p hp => ?_)⟩
   ·have := fitM_length (pairsOf ks vs)
    rw [pairsOf_length] at this
    have h6 : vs.length ≤ 1759218604400 := hvl
    omega
   ·have hz : p.1 ∈ ks.map lb := (List.of_mem_zip (show (p.1, p.2) ∈ (ks.map lb).zip (anyL vs) from fitM_mem hp)).1
    obtain ⟨s, hs, he⟩ := List.mem_map.1 hz
    rw [← he, lb_length]
    exact hk s hs
   ·obtain ⟨v, hvv, he⟩ := pairs_mem (fitM_mem hp)
    rw [he]; exact (ih v hvv).1
   ·obtain ⟨v, hvv, he⟩ := pairs_mem (fitM_mem hp)
    rw [he]; exact (ih v hvv).2
  ·have e : anyOf ⟨k, n, t, ks, vs⟩ = .null := by simp [anyOf, h1, h2, h3, h4, h5]
   rw [e]
   exact ⟨.null, .null⟩
end Go.Proofs.YtaembebbaejfiaaGreatDoor.Tr
namespace Go.Proofs.YtaembebbaejfiaaGreatDoor.Index
open Go.RowKit Go.Proofs.YtaembebbaejfiaaGreatDoorW.PrintWords Go.Proofs.YtaembebbaejfiaaGreatDoor.Str Go.Proofs.YtaembebbaejfiaaGreatDoor.Kit
set_option linter.unusedVariables false
set_option linter.unusedSimpArgs false
set_option maxHeartbeats 400000 in
theorem tree_zzIndex (s sub : ByteArray) (w : World) (hs : s.size ≤ 281474976710656) (hb : sub.size ≤ 281474976710656) :
  Calls Tryz.prog 97 #[.string s, .string sub] w fun e w' => e = .returned (.int .i64 (findI (lb sub) (lb s))) ∧ Drawn0 w w' := by
 go_enter Tryz.func97, Tryz.ntmps97
 go_wp2
 go_loopw [5] (fun v5 wr => ∃ j : Nat, v5 = .int .i64 j ∧ j ≤ s.size ∧ Aside0 (At (lb sub) (lb s) j) ∧ Drawn0 w wr) (fun v5 _ => s.size + 1 - (intOf v5).toNat)
 case atStart => exact ⟨0, rfl, by omega, ⟨At.start _ _⟩, Drawn0.refl _⟩
 case round =>
  obtain ⟨j, rfl, hj, HA, HD⟩ := hrel
  by_cases hlt : (j : Int) + (sub.size : Int) ≤ (s.size : Int)
  ·have hm : j + sub.size ≤ s.size := by omega
   have q1 : (j : Int) ≤ (j : Int) + (sub.size : Int) := by omega
   have q0 : (0 : Int) ≤ (j : Int) := by omega
   by_cases e : (s.extract j (j + sub.size)).toList = sub.toList
   ·have e1 : ((s.extract j (j + sub.size)).toList == sub.toList) = true := beq_iff_eq.mpr e
    have hit := HA.out.hit (by rw [lb_length, lb_length]; exact hm) (by rw [lb_length, ← lb_piece, ← toList_lb, ← toList_lb]; exact e)
    have Hit := aM hit
    clear e hit
    go_wp2
    go_ret
    exact ⟨by rw [Hit.out]; rfl, by repeat (first | exact HD | apply Drawn0.step)⟩
   ·have e1 : ((s.extract j (j + sub.size)).toList == sub.toList) = false := beq_eq_false_iff_ne.mpr e
    have nxt := HA.out.next (by rw [lb_length, lb_length]; exact hm) (by rw [lb_length, ← lb_piece, ← toList_lb, ← toList_lb]; exact e)
    have hj1 : j + 1 ≤ s.size := by have := nxt.1; rw [lb_length] at this; exact this
    have Nxt := aM nxt
    clear e nxt
    go_wp2
    go_roundw
    case rel => exact ⟨j + 1, by go_num, by omega, Nxt, by repeat (first | exact HD | apply Drawn0.step)⟩
    case measure => simp [intOf]; omega
  ·have miss := HA.out.miss (by rw [lb_length, lb_length]; omega)
   have Miss := aM miss
   have d : decide ((j : Int) + (sub.size : Int) ≤ (s.size : Int)) = false := decide_eq_false hlt
   clear miss hlt
   go_wp2
   go_ret
   exact ⟨by rw [Miss.out]; rfl, by repeat (first | exact HD | apply Drawn0.step)⟩
end Go.Proofs.YtaembebbaejfiaaGreatDoor.Index
namespace Go.Proofs.YtaembebbaejfiaaGreatDoor.Index
open Go.RowKit Go.Proofs.YtaembebbaejfiaaGreatDoorW.PrintWords Go.Proofs.YtaembebbaejfiaaGreatDoor.Str Go.Proofs.YtaembebbaejfiaaGreatDoor.Kit
set_option linter.unusedVariables false
set_option linter.unusedSimpArgs false
def parts (c : UInt8) (s : ByteArray) : List ByteArray := (split c (lb s)).map fun p => ⟨p.toArray⟩
def Cutting (c : UInt8) (s : ByteArray) (out : List ByteArray) (r : ByteArray) : Prop := parts c s = out ++ parts c r ∧ out.length + r.size ≤ s.size
theorem Cutting.start (c : UInt8) (s : ByteArray) : Cutting c s [] s := ⟨rfl, by simp⟩
theorem Cutting.next {c : UInt8} {s r : ByteArray} {out : List ByteArray} {i : Nat} (h : Cutting c s out r) (hf : find [c] (lb r) = some i) (hi : i + 1 ≤ r.size) :
  Cutting c s (out ++ [r.extract 0 i]) (r.extract (i + 1) r.size) := by
 obtain ⟨h1, h2⟩ := h
 have e : parts c r = r.extract 0 i :: parts c (r.extract (i + 1) r.size) := by
  unfold parts
  rw [split_some hf, List.map_cons]
  congr 1
  ·apply lb_inj
   rw [lb_mk, lb_extract, List.drop_zero]
  ·rw [lb_extract]
   congr 2
   rw [← lb_length, List.take_length]
 refine ⟨by rw [h1, e]; simp, ?_⟩
 rw [ByteArray.size_extract, List.length_append, List.length_singleton]
 omega
theorem Cutting.last {c : UInt8} {s r : ByteArray} {out : List ByteArray} (h : Cutting c s out r) (hf : find [c] (lb r) = none) : parts c s = out ++ [r] := by
 rw [h.1]
 congr 1
 unfold parts
 rw [split_none hf, List.map_cons, List.map_nil, mk_lb]
set_option maxHeartbeats 400000 in
theorem tree_zzSplit (s : ByteArray) (c : UInt8) (w : World) (hs : s.size ≤ 4398046511104) :
  Calls Tryz.prog 122 #[.string s, .string ⟨#[c]⟩] w fun e w' => ∃ v, e = .returned v ∧ Kd.R Kd.string 9 w' w.heap.size (fun _ => True) v (parts c s) ∧ Below w.heap.size w w' := by
 have HB := aM (Below.refl w.heap.size w)
 go_enter Tryz.func122, Tryz.ntmps122
 go_wp2
 go_loopw [0, 5, 8] (fun v0 v5 v8 wr => ∃ (r : ByteArray) (out : List ByteArray), v0 = .string r ∧ r.size ≤ 4398046511104 ∧ Aside0 (Cutting c s out r) ∧ Aside0 (Kd.R Kd.string 9 wr w.heap.size (fun _ => True) v5 out) ∧ Aside0 (Below w.heap.size w wr)) (fun v0 _ _ _ => match v0 with | .string r => r.size | _ => 0)
 case atStart => exact ⟨s, [], rfl, hs, ⟨Cutting.start c s⟩, ⟨Kd.R_nil _ _ _ _ _⟩, HB⟩
 case round =>
  clear HB
  obtain ⟨r, out, rfl, hr, HCut, HO, HB⟩ := hrel
  cases hf : find [c] (lb r) with
  | none =>
   have Hf := aM hf
   have hfi : findI [c] (lb r) = -1 := by rw [findI, hf]
   have Hfi := aM hfi
   clear hf hfi
   go_wp2_with fail
   refine (tree_zzIndex r ⟨#[c]⟩ _ (by omega) (by show 1 ≤ _; omega)).mono ?_
   rintro e w1 ⟨rfl, hd⟩
   rw [show lb ⟨#[c]⟩ = [c] from rfl, Hfi.out]
   have HB1 := aM (hb_then HB.out hd.below)
   have HO1 := aM (Kd.R_below HO.out hd.below)
   have hl : out.length < 8796093022207 := by have := HCut.out.2; omega
   clear hd HB HO
   go_wp2_with (at_builtin; refine append_str _ _ rfl rfl rfl rfl HO1.out HB1.out hl ?_; intro v1 w2 ho hb hg)
   go_ret
   exact ⟨_, rfl, by rw [HCut.out.last Hf.out]; exact ho, hb⟩
  | some i =>
   have hfi : findI [c] (lb r) = i := by rw [findI, hf]
   have hi := (find_some hf).1
   rw [lb_length] at hi
   have hi2 : i + 1 ≤ r.size := hi
   have hcut := HCut.out.next hf hi2
   have hcs := hcut.2
   rw [List.length_append, List.length_singleton] at hcs
   have HCut2 := aM hcut
   have Hfi := aM hfi
   have hl : out.length < 8796093022207 := by omega
   clear hf hfi hcut hi hcs
   go_wp2_with fail
   refine (tree_zzIndex r ⟨#[c]⟩ _ (by omega) (by show 1 ≤ _; omega)).mono ?_
   rintro e w1 ⟨rfl, hd⟩
   rw [show lb ⟨#[c]⟩ = [c] from rfl, Hfi.out]
   have HB1 := aM (hb_then HB.out hd.below)
   have HO1 := aM (Kd.R_below HO.out hd.below)
   clear hd HB HO
   have q0 : (0 : Int) ≤ (i : Int) := by omega
   have q1 : (i : Int) ≤ (r.size : Int) := by omega
   have q2 : ((i : Int) + 1) ≤ (r.size : Int) := by omega
   go_wp2_with (at_builtin; refine append_str _ _ rfl rfl rfl rfl HO1.out HB1.out hl ?_; intro v1 w2 ho hb hg; have HO2 := aM ho; have HB2 := aM hb; clear ho hb hg)
   go_roundw
   case rel => exact ⟨_, _, rfl, by rw [ByteArray.size_extract]; omega, HCut2, HO2, HB2⟩
   case measure => simp; omega
end Go.Proofs.YtaembebbaejfiaaGreatDoor.Index
namespace Go.Proofs.YtaembebbaejfiaaGreatDoor.Tree
open Go.RowKit Go.Proofs.YtaembebbaejfiaaGreatDoorW.PrintWords Go.Proofs.YtaembebbaejfiaaGreatDoor.Str Go.Proofs.YtaembebbaejfiaaGreatDoor.Kit Go.Proofs.YtaembebbaejfiaaGreatDoor.Index
set_option linter.unusedVariables false
set_option linter.unusedSimpArgs false
set_option maxHeartbeats 400000 in
theorem Path_Parts (s : ByteArray) (w : World) (hs : s.size ≤ 4398046511104) :
  Calls Tryz.prog 111 #[.string s] w fun e w' => ∃ v, e = .returned v ∧ Kd.R Kd.string 9 w' w.heap.size (fun _ => True) v (parts 46 s) ∧ Below w.heap.size w w' := by
 go_enter Tryz.func111, Tryz.ntmps111
 go_wp2_with fail
 refine (tree_zzSplit s 46 w hs).mono ?_
 rintro e w1 ⟨v, rfl, hr, hb⟩
 have HR := aM hr
 have HB := aM hb
 clear hr hb
 go_wp2
 go_ret
 exact ⟨_, rfl, HR.out, HB.out⟩
def takes (p x : ByteArray) : Bool := lb p == [42] || lb p == lb x
def matchB : List ByteArray → List ByteArray → Bool
 | p :: ps, x :: xs => takes p x && matchB ps xs
 | _, [] => true
 | [], _ :: _ => false
def Matching (ps xs : List ByteArray) (j : Nat) : Prop := matchB ps xs = matchB (ps.drop j) (xs.drop j)
theorem Matching.start (ps xs : List ByteArray) : Matching ps xs 0 := by simp [Matching]
theorem Matching.next {ps xs : List ByteArray} {j : Nat} (h : Matching ps xs j) (hp : j < ps.length) (hx : j < xs.length) (ht : takes ps[j] xs[j] = true) : Matching ps xs (j + 1) := by
 unfold Matching at *
 rw [h, List.drop_eq_getElem_cons hp, List.drop_eq_getElem_cons hx, matchB, ht, Bool.true_and]
theorem Matching.fail {ps xs : List ByteArray} {j : Nat} (h : Matching ps xs j) (hp : j < ps.length) (hx : j < xs.length) (ht : takes ps[j] xs[j] = false) : matchB ps xs = false := by
 unfold Matching at *
 rw [h, List.drop_eq_getElem_cons hp, List.drop_eq_getElem_cons hx, matchB, ht, Bool.false_and]
theorem Matching.done {ps xs : List ByteArray} {j : Nat} (h : Matching ps xs j) (hx : xs.length ≤ j) : matchB ps xs = true := by
 unfold Matching at *
 rw [h, List.drop_of_length_le hx]
 cases ps.drop j <;> rfl
def pathMatches (p pattern : ByteArray) : Bool := (parts 46 pattern).length == (parts 46 p).length && matchB (parts 46 pattern) (parts 46 p)
theorem parts_length (c : UInt8) (s : ByteArray) : (parts c s).length ≤ s.size + 1 := by
 rw [parts, List.length_map, ← lb_length]
 exact split_length c (lb s)
set_option maxHeartbeats 800000 in
theorem Path_Matches (p pattern : ByteArray) (w : World) (hp : p.size ≤ 4398046511104) (hq : pattern.size ≤ 4398046511104) :
  Calls Tryz.prog 79 #[.string p, .string pattern] w fun e w' => e = .returned (.bool (pathMatches p pattern)) ∧ Below w.heap.size w w' := by
 have l1 := parts_length 46 pattern
 have l2 := parts_length 46 p
 unfold pathMatches
 generalize hps : parts 46 pattern = ps at *
 generalize hxs : parts 46 p = xs at *
 have HPS := aM hps
 have HXS := aM hxs
 clear hps hxs
 go_enter Tryz.func79, Tryz.ntmps79
 go_wp2_with fail
 refine (Path_Parts pattern w hq).mono ?_
 rintro e w1 ⟨v1, rfl, hr1, hb1⟩
 rw [HPS.out] at hr1
 have HB1 := aM hb1
 have HR1 := aM hr1
 clear hr1 hb1
 go_wp2_with fail
 refine (Path_Parts p w1 hp).mono ?_
 rintro e w2 ⟨v2, rfl, hr2, hb2⟩
 rw [HXS.out] at hr2
 obtain ⟨A1, c1, rfl, hc1, hC1⟩ := Kd.R_reads (Kd.R_below HR1.out hb2)
 obtain ⟨A2, c2, rfl, hc2, hC2⟩ := Kd.R_reads hr2
 have HB := aM (hb_then HB1.out hb2)
 clear hr2 hb2 HR1 HB1
 by_cases hl : ps.length = xs.length
 ·have e1 : ((ps.length : Int) == (xs.length : Int)) = true := beq_iff_eq.mpr (by omega)
  have e2 : ((ps.length : Int) != (xs.length : Int)) = false := bne_eq_false_iff_eq.mpr (by omega)
  have H0 := aM hC1
  have H1 := aM hC2
  have HL := aM hl
  have hle : ps.length ≤ xs.length := by omega
  have hge : xs.length ≤ ps.length := by omega
  clear hl hC1 hC2
  go_wp2
  go_loopw [20] (fun v20 wr => ∃ j : Nat, v20 = .int .i64 j ∧ j ≤ xs.length ∧ Aside0 (Matching ps xs j) ∧ Drawn0 w2 wr) (fun v20 _ => xs.length - (intOf v20).toNat)
  case atStart => exact ⟨0, rfl, by omega, ⟨Matching.start ps xs⟩, Drawn0.refl _⟩
  case round =>
   obtain ⟨j, rfl, hj, HM, ⟨nd, rfl⟩⟩ := hrel
   by_cases hlt : j < xs.length
   ·obtain ⟨b0, o0, rfl, hb0, hc0⟩ := strs_open H0.out (by omega)
    obtain ⟨b1, o1, rfl, hb1, hc1⟩ := strs_open H1.out (by omega)
    have g0 := hc0 j (by omega)
    have g1 := hc1 j hlt
    have hlt2 : j < ps.length := by omega
    clear hc0 hc1
    cases ht : takes ps[j] xs[j] with
    | true =>
     have nxt := aM (HM.out.next hlt2 hlt ht)
     by_cases hstar : ps[j].toList = [42]
     ·have e1 : (ps[j].toList == [42]) = true := beq_iff_eq.mpr hstar
      clear ht hstar
      go_wp2
      go_roundw
      case rel => exact ⟨j + 1, by go_num, by omega, nxt, by repeat (first | exact Drawn0.refl _ | apply Drawn0.step)⟩
      case measure => simp [intOf]; omega
     ·have e1 : (ps[j].toList == [42]) = false := beq_eq_false_iff_ne.mpr hstar
      have e2 : (ps[j].toList == xs[j].toList) = true := by
       simp only [takes, Bool.or_eq_true, beq_iff_eq] at ht
       rw [beq_iff_eq, toList_lb, toList_lb]
       rw [toList_lb] at hstar
       exact ht.resolve_left hstar
      clear ht hstar
      go_wp2
      go_roundw
      case rel => exact ⟨j + 1, by go_num, by omega, nxt, by repeat (first | exact Drawn0.refl _ | apply Drawn0.step)⟩
      case measure => simp [intOf]; omega
    | false =>
     have fl := aM (HM.out.fail hlt2 hlt ht)
     simp only [takes, Bool.or_eq_false_iff] at ht
     have e1 : (ps[j].toList == [42]) = false := by rw [toList_lb]; exact ht.1
     have e2 : (ps[j].toList == xs[j].toList) = false := by rw [toList_lb, toList_lb]; exact ht.2
     clear ht
     go_wp2
     go_ret
     exact ⟨by rw [fl.out, Bool.and_false]; rfl, hb_then HB.out (Drawn0.below ⟨⟨nd, rfl⟩⟩)⟩
   ·have dn := aM (HM.out.done (by omega))
    go_wp2
    go_ret
    exact ⟨by rw [dn.out, HL.out, beq_self_eq_true]; rfl, hb_then HB.out (Drawn0.below ⟨⟨nd, rfl⟩⟩)⟩
 ·have e1 : ((ps.length : Int) == (xs.length : Int)) = false := beq_eq_false_iff_ne.mpr (by omega)
  have e2 : ((ps.length : Int) != (xs.length : Int)) = true := bne_iff_ne.mpr (by omega)
  have e3 := aM (show (ps.length == xs.length) = false from beq_eq_false_iff_ne.mpr hl)
  clear hl
  go_wp2
  go_ret
  exact ⟨by rw [e3.out]; rfl, HB.out⟩
theorem no_match {p pattern : ByteArray} (h : pathMatches p pattern = false) (w : World) (hp : p.size ≤ 4398046511104) (hq : pattern.size ≤ 4398046511104) :
  Calls Tryz.prog 79 #[.string p, .string pattern] w fun e w' => e = .returned (.bool false) ∧ Below w.heap.size w w' := by
 have := Path_Matches p pattern w hp hq
 rw [h] at this
 exact this
end Go.Proofs.YtaembebbaejfiaaGreatDoor.Tree
namespace Go.Proofs.YtaembebbaejfiaaGreatDoor.Tree
open Go.RowKit Go.Proofs.YtaembebbaejfiaaGreatDoorW.PrintWords Go.Proofs.YtaembebbaejfiaaGreatDoorW.PrintLast Go.Proofs.YtaembebbaejfiaaGreatDoor.Str Go.Proofs.YtaembebbaejfiaaGreatDoor.Kit Go.Proofs.YtaembebbaejfiaaGreatDoor.Frame
set_option linter.unusedVariables false
set_option linter.unusedSimpArgs false
def NoneT (p : ByteArray) : Prop := pathMatches p ⟨#[115, 101, 114, 118, 105, 99, 101, 115, 46, 42, 46, 101, 110, 118, 95, 102, 105, 108, 101]⟩ = false ∧ pathMatches p ⟨#[115, 101, 114, 118, 105, 99, 101, 115, 46, 42, 46, 108, 97, 98, 101, 108, 95, 102, 105, 108, 101]⟩ = false ∧ pathMatches p ⟨#[115, 101, 114, 118, 105, 99, 101, 115, 46, 42, 46, 103, 112, 117, 115]⟩ = false ∧ pathMatches p ⟨#[115, 101, 114, 118, 105, 99, 101, 115, 46, 42, 46, 110, 101, 116, 119, 111, 114, 107, 115]⟩ = false ∧ pathMatches p ⟨#[115, 101, 114, 118, 105, 99, 101, 115, 46, 42, 46, 109, 111, 100, 101, 108, 115]⟩ = false ∧ pathMatches p ⟨#[115, 101, 114, 118, 105, 99, 101, 115, 46, 42, 46, 118, 111, 108, 117, 109, 101, 115, 46, 42]⟩ = false ∧ pathMatches p ⟨#[115, 101, 114, 118, 105, 99, 101, 115, 46, 42, 46, 100, 110, 115]⟩ = false ∧ pathMatches p ⟨#[115, 101, 114, 118, 105, 99, 101, 115, 46, 42, 46, 100, 101, 118, 105, 99, 101, 115, 46, 42]⟩ = false ∧ pathMatches p ⟨#[115, 101, 114, 118, 105, 99, 101, 115, 46, 42, 46, 115, 101, 99, 114, 101, 116, 115, 46, 42]⟩ = false ∧ pathMatches p ⟨#[115, 101, 114, 118, 105, 99, 101, 115, 46, 42, 46, 99, 111, 110, 102, 105, 103, 115, 46, 42]⟩ = false ∧ pathMatches p ⟨#[115, 101, 114, 118, 105, 99, 101, 115, 46, 42, 46, 117, 108, 105, 109, 105, 116, 115, 46, 42]⟩ = false ∧ pathMatches p ⟨#[106, 111, 98, 115, 46, 42, 46, 101, 110, 118, 95, 102, 105, 108, 101]⟩ = false ∧ pathMatches p ⟨#[106, 111, 98, 115, 46, 42, 46, 108, 97, 98, 101, 108, 95, 102, 105, 108, 101]⟩ = false ∧ pathMatches p ⟨#[106, 111, 98, 115, 46, 42, 46, 103, 112, 117, 115]⟩ = false ∧ pathMatches p ⟨#[106, 111, 98, 115, 46, 42, 46, 110, 101, 116, 119, 111, 114, 107, 115]⟩ = false ∧ pathMatches p ⟨#[106, 111, 98, 115, 46, 42, 46, 109, 111, 100, 101, 108, 115]⟩ = false ∧ pathMatches p ⟨#[106, 111, 98, 115, 46, 42, 46, 118, 111, 108, 117, 109, 101, 115, 46, 42]⟩ = false ∧ pathMatches p ⟨#[106, 111, 98, 115, 46, 42, 46, 100, 110, 115]⟩ = false ∧ pathMatches p ⟨#[106, 111, 98, 115, 46, 42, 46, 100, 101, 118, 105, 99, 101, 115, 46, 42]⟩ = false ∧ pathMatches p ⟨#[106, 111, 98, 115, 46, 42, 46, 115, 101, 99, 114, 101, 116, 115, 46, 42]⟩ = false ∧ pathMatches p ⟨#[106, 111, 98, 115, 46, 42, 46, 99, 111, 110, 102, 105, 103, 115, 46, 42]⟩ = false ∧ pathMatches p ⟨#[106, 111, 98, 115, 46, 42, 46, 117, 108, 105, 109, 105, 116, 115, 46, 42]⟩ = false ∧ pathMatches p ⟨#[115, 101, 114, 118, 105, 99, 101, 115, 46, 42, 46, 112, 114, 101, 95, 115, 116, 97, 114, 116, 46, 42, 46, 101, 110, 118, 95, 102, 105, 108, 101]⟩ = false ∧ pathMatches p ⟨#[115, 101, 114, 118, 105, 99, 101, 115, 46, 42, 46, 112, 114, 101, 95, 115, 116, 97, 114, 116, 46, 42, 46, 108, 97, 98, 101, 108, 95, 102, 105, 108, 101]⟩ = false ∧ pathMatches p ⟨#[115, 101, 114, 118, 105, 99, 101, 115, 46, 42, 46, 112, 114, 101, 95, 115, 116, 97, 114, 116, 46, 42, 46, 103, 112, 117, 115]⟩ = false ∧ pathMatches p ⟨#[115, 101, 114, 118, 105, 99, 101, 115, 46, 42, 46, 112, 114, 101, 95, 115, 116, 97, 114, 116, 46, 42, 46, 110, 101, 116, 119, 111, 114, 107, 115]⟩ = false ∧ pathMatches p ⟨#[115, 101, 114, 118, 105, 99, 101, 115, 46, 42, 46, 112, 114, 101, 95, 115, 116, 97, 114, 116, 46, 42, 46, 109, 111, 100, 101, 108, 115]⟩ = false ∧ pathMatches p ⟨#[115, 101, 114, 118, 105, 99, 101, 115, 46, 42, 46, 112, 114, 101, 95, 115, 116, 97, 114, 116, 46, 42, 46, 118, 111, 108, 117, 109, 101, 115, 46, 42]⟩ = false ∧ pathMatches p ⟨#[115, 101, 114, 118, 105, 99, 101, 115, 46, 42, 46, 112, 114, 101, 95, 115, 116, 97, 114, 116, 46, 42, 46, 100, 110, 115]⟩ = false ∧ pathMatches p ⟨#[115, 101, 114, 118, 105, 99, 101, 115, 46, 42, 46, 112, 114, 101, 95, 115, 116, 97, 114, 116, 46, 42, 46, 100, 101, 118, 105, 99, 101, 115, 46, 42]⟩ = false ∧ pathMatches p ⟨#[115, 101, 114, 118, 105, 99, 101, 115, 46, 42, 46, 112, 114, 101, 95, 115, 116, 97, 114, 116, 46, 42, 46, 115, 101, 99, 114, 101, 116, 115, 46, 42]⟩ = false ∧ pathMatches p ⟨#[115, 101, 114, 118, 105, 99, 101, 115, 46, 42, 46, 112, 114, 101, 95, 115, 116, 97, 114, 116, 46, 42, 46, 99, 111, 110, 102, 105, 103, 115, 46, 42]⟩ = false ∧ pathMatches p ⟨#[115, 101, 114, 118, 105, 99, 101, 115, 46, 42, 46, 112, 114, 101, 95, 115, 116, 97, 114, 116, 46, 42, 46, 117, 108, 105, 109, 105, 116, 115, 46, 42]⟩ = false ∧ pathMatches p ⟨#[115, 101, 114, 118, 105, 99, 101, 115, 46, 42]⟩ = false ∧ pathMatches p ⟨#[115, 101, 114, 118, 105, 99, 101, 115, 46, 42, 46, 98, 117, 105, 108, 100, 46, 115, 101, 99, 114, 101, 116, 115, 46, 42]⟩ = false ∧ pathMatches p ⟨#[115, 101, 114, 118, 105, 99, 101, 115, 46, 42, 46, 98, 117, 105, 108, 100, 46, 112, 114, 111, 118, 101, 110, 97, 110, 99, 101]⟩ = false ∧ pathMatches p ⟨#[115, 101, 114, 118, 105, 99, 101, 115, 46, 42, 46, 98, 117, 105, 108, 100, 46, 115, 98, 111, 109]⟩ = false ∧ pathMatches p ⟨#[115, 101, 114, 118, 105, 99, 101, 115, 46, 42, 46, 98, 117, 105, 108, 100, 46, 97, 100, 100, 105, 116, 105, 111, 110, 97, 108, 95, 99, 111, 110, 116, 101, 120, 116, 115]⟩ = false ∧ pathMatches p ⟨#[115, 101, 114, 118, 105, 99, 101, 115, 46, 42, 46, 100, 101, 112, 101, 110, 100, 115, 95, 111, 110]⟩ = false ∧ pathMatches p ⟨#[115, 101, 114, 118, 105, 99, 101, 115, 46, 42, 46, 101, 120, 116, 101, 110, 100, 115]⟩ = false ∧ pathMatches p ⟨#[115, 101, 114, 118, 105, 99, 101, 115, 46, 42, 46, 112, 111, 114, 116, 115]⟩ = false ∧ pathMatches p ⟨#[115, 101, 114, 118, 105, 99, 101, 115, 46, 42, 46, 98, 117, 105, 108, 100]⟩ = false ∧ pathMatches p ⟨#[115, 101, 114, 118, 105, 99, 101, 115, 46, 42, 46, 98, 117, 105, 108, 100, 46, 115, 115, 104]⟩ = false ∧ pathMatches p ⟨#[115, 101, 114, 118, 105, 99, 101, 115, 46, 42, 46, 98, 117, 105, 108, 100, 46, 117, 108, 105, 109, 105, 116, 115, 46, 42]⟩ = false ∧ pathMatches p ⟨#[106, 111, 98, 115, 46, 42]⟩ = false ∧ pathMatches p ⟨#[106, 111, 98, 115, 46, 42, 46, 98, 117, 105, 108, 100, 46, 115, 101, 99, 114, 101, 116, 115, 46, 42]⟩ = false ∧ pathMatches p ⟨#[106, 111, 98, 115, 46, 42, 46, 98, 117, 105, 108, 100, 46, 112, 114, 111, 118, 101, 110, 97, 110, 99, 101]⟩ = false ∧ pathMatches p ⟨#[106, 111, 98, 115, 46, 42, 46, 98, 117, 105, 108, 100, 46, 115, 98, 111, 109]⟩ = false ∧ pathMatches p ⟨#[106, 111, 98, 115, 46, 42, 46, 98, 117, 105, 108, 100, 46, 97, 100, 100, 105, 116, 105, 111, 110, 97, 108, 95, 99, 111, 110, 116, 101, 120, 116, 115]⟩ = false ∧ pathMatches p ⟨#[106, 111, 98, 115, 46, 42, 46, 100, 101, 112, 101, 110, 100, 115, 95, 111, 110]⟩ = false ∧ pathMatches p ⟨#[106, 111, 98, 115, 46, 42, 46, 101, 120, 116, 101, 110, 100, 115]⟩ = false ∧ pathMatches p ⟨#[106, 111, 98, 115, 46, 42, 46, 112, 111, 114, 116, 115]⟩ = false ∧ pathMatches p ⟨#[106, 111, 98, 115, 46, 42, 46, 98, 117, 105, 108, 100]⟩ = false ∧ pathMatches p ⟨#[106, 111, 98, 115, 46, 42, 46, 98, 117, 105, 108, 100, 46, 115, 115, 104]⟩ = false ∧ pathMatches p ⟨#[106, 111, 98, 115, 46, 42, 46, 98, 117, 105, 108, 100, 46, 117, 108, 105, 109, 105, 116, 115, 46, 42]⟩ = false ∧ pathMatches p ⟨#[106, 111, 98, 115, 46, 42, 46, 116, 114, 105, 103, 103, 101, 114, 115, 46, 115, 99, 104, 101, 100, 117, 108, 101, 46, 42]⟩ = false ∧ pathMatches p ⟨#[115, 101, 114, 118, 105, 99, 101, 115, 46, 42, 46, 100, 101, 118, 101, 108, 111, 112, 46, 119, 97, 116, 99, 104, 46, 42, 46, 105, 103, 110, 111, 114, 101]⟩ = false ∧ pathMatches p ⟨#[115, 101, 114, 118, 105, 99, 101, 115, 46, 42, 46, 100, 101, 118, 101, 108, 111, 112, 46, 119, 97, 116, 99, 104, 46, 42, 46, 105, 110, 99, 108, 117, 100, 101]⟩ = false ∧ pathMatches p ⟨#[118, 111, 108, 117, 109, 101, 115, 46, 42]⟩ = false ∧ pathMatches p ⟨#[110, 101, 116, 119, 111, 114, 107, 115, 46, 42]⟩ = false ∧ pathMatches p ⟨#[115, 101, 99, 114, 101, 116, 115, 46, 42]⟩ = false ∧ pathMatches p ⟨#[99, 111, 110, 102, 105, 103, 115, 46, 42]⟩ = false ∧ pathMatches p ⟨#[105, 110, 99, 108, 117, 100, 101, 46, 42]⟩ = false ∧ p.size ≤ 4398046511104
set_option maxHeartbeats 12800000 in
set_option maxRecDepth 100000 in
theorem transformer_none (p : ByteArray) (h : NoneT p) (w : World) : Calls Tryz.prog 72 #[.string p] w fun e w' => e = .returned (.tuple #[.nilFunc, .bool false]) ∧ Below w.heap.size w w' := by
 obtain ⟨m0, m1, m2, m3, m4, m5, m6, m7, m8, m9, m10, m11, m12, m13, m14, m15, m16, m17, m18, m19, m20, m21, m22, m23, m24, m25, m26, m27, m28, m29, m30, m31, m32, m33, m34, m35, m36, m37, m38, m39, m40, m41, m42, m43, m44, m45, m46, m47, m48, m49, m50, m51, m52, m53, m54, m55, m56, m57, m58, m59, m60, m61, m62, hp⟩ := h
 have HP := aM hp
 clear hp
 replace m0 := aM m0
 replace m1 := aM m1
 replace m2 := aM m2
 replace m3 := aM m3
 replace m4 := aM m4
 replace m5 := aM m5
 replace m6 := aM m6
 replace m7 := aM m7
 replace m8 := aM m8
 replace m9 := aM m9
 replace m10 := aM m10
 replace m11 := aM m11
 replace m12 := aM m12
 replace m13 := aM m13
 replace m14 := aM m14
 replace m15 := aM m15
 replace m16 := aM m16
 replace m17 := aM m17
 replace m18 := aM m18
 replace m19 := aM m19
 replace m20 := aM m20
 replace m21 := aM m21
 replace m22 := aM m22
 replace m23 := aM m23
 replace m24 := aM m24
 replace m25 := aM m25
 replace m26 := aM m26
 replace m27 := aM m27
 replace m28 := aM m28
 replace m29 := aM m29
 replace m30 := aM m30
 replace m31 := aM m31
 replace m32 := aM m32
 replace m33 := aM m33
 replace m34 := aM m34
 replace m35 := aM m35
 replace m36 := aM m36
 replace m37 := aM m37
 replace m38 := aM m38
 replace m39 := aM m39
 replace m40 := aM m40
 replace m41 := aM m41
 replace m42 := aM m42
 replace m43 := aM m43
 replace m44 := aM m44
 replace m45 := aM m45
 replace m46 := aM m46
 replace m47 := aM m47
 replace m48 := aM m48
 replace m49 := aM m49
 replace m50 := aM m50
 replace m51 := aM m51
 replace m52 := aM m52
 replace m53 := aM m53
 replace m54 := aM m54
 replace m55 := aM m55
 replace m56 := aM m56
 replace m57 := aM m57
 replace m58 := aM m58
 replace m59 := aM m59
 replace m60 := aM m60
 replace m61 := aM m61
 replace m62 := aM m62
 have HA := aM (cb_new w (.cells #[.string ⟨#[115, 101, 114, 118, 105, 99, 101, 115, 46, 42]⟩, .string ⟨#[106, 111, 98, 115, 46, 42]⟩, .string ⟨#[115, 101, 114, 118, 105, 99, 101, 115, 46, 42, 46, 112, 114, 101, 95, 115, 116, 97, 114, 116, 46, 42]⟩] 56))
 have HB := aM (below_alloc (Below.refl w.heap.size w) (.cells #[.string ⟨#[115, 101, 114, 118, 105, 99, 101, 115, 46, 42]⟩, .string ⟨#[106, 111, 98, 115, 46, 42]⟩, .string ⟨#[115, 101, 114, 118, 105, 99, 101, 115, 46, 42, 46, 112, 114, 101, 95, 115, 116, 97, 114, 116, 46, 42]⟩] 56))
 go_enter Tryz.func72, Tryz.ntmps72
 go_wp2
 generalize hW : w.alloc _ = W at HA HB ⊢
 clear hW
 go_loopw [10, 5] (fun v10 v5 wr => (v10 = .int .i64 0 ∨ v10 = .int .i64 1 ∨ v10 = .int .i64 2 ∨ v10 = .int .i64 3) ∧ Aside0 (wr.heap[w.heap.size]? = some (.cells #[.string ⟨#[115, 101, 114, 118, 105, 99, 101, 115, 46, 42]⟩, .string ⟨#[106, 111, 98, 115, 46, 42]⟩, .string ⟨#[115, 101, 114, 118, 105, 99, 101, 115, 46, 42, 46, 112, 114, 101, 95, 115, 116, 97, 114, 116, 46, 42]⟩] 56 (0, 0))) ∧ Aside0 (Below w.heap.size w wr)) (fun v10 v5 wr => (3 - intOf v10).toNat)
 case atStart => exact ⟨.inl rfl, HA, HB⟩
 case round =>
  clear HA HB
  obtain ⟨hi, HA, HB⟩ := hrel
  have c0 := cb_cell (i := 0) HA.out (v := .string ⟨#[115, 101, 114, 118, 105, 99, 101, 115, 46, 42]⟩) rfl
  have c1 := cb_cell (i := 1) HA.out (v := .string ⟨#[106, 111, 98, 115, 46, 42]⟩) rfl
  have c2 := cb_cell (i := 2) HA.out (v := .string ⟨#[115, 101, 114, 118, 105, 99, 101, 115, 46, 42, 46, 112, 114, 101, 95, 115, 116, 97, 114, 116, 46, 42]⟩) rfl
  rcases hi with rfl | rfl | rfl | rfl
  ·skip
   go_wp2_with fail
   refine (no_match m0.out _ HP.out (by decide)).mono ?_
   rintro e v0 ⟨rfl, hb⟩
   replace HB := aM (hb_then HB.out hb)
   replace HA := aM ((hb.block _ (cb_lt HA.out)).trans HA.out)
   clear hb m0 c0 c1 c2
   go_wp2_with fail
   refine (no_match m1.out _ HP.out (by decide)).mono ?_
   rintro e v1 ⟨rfl, hb⟩
   replace HB := aM (hb_then HB.out hb)
   replace HA := aM ((hb.block _ (cb_lt HA.out)).trans HA.out)
   clear hb m1
   go_wp2_with fail
   refine (no_match m2.out _ HP.out (by decide)).mono ?_
   rintro e v2 ⟨rfl, hb⟩
   replace HB := aM (hb_then HB.out hb)
   replace HA := aM ((hb.block _ (cb_lt HA.out)).trans HA.out)
   clear hb m2
   go_wp2_with fail
   refine (no_match m3.out _ HP.out (by decide)).mono ?_
   rintro e v3 ⟨rfl, hb⟩
   replace HB := aM (hb_then HB.out hb)
   replace HA := aM ((hb.block _ (cb_lt HA.out)).trans HA.out)
   clear hb m3
   go_wp2_with fail
   refine (no_match m4.out _ HP.out (by decide)).mono ?_
   rintro e v4 ⟨rfl, hb⟩
   replace HB := aM (hb_then HB.out hb)
   replace HA := aM ((hb.block _ (cb_lt HA.out)).trans HA.out)
   clear hb m4
   go_wp2_with fail
   refine (no_match m5.out _ HP.out (by decide)).mono ?_
   rintro e v5 ⟨rfl, hb⟩
   replace HB := aM (hb_then HB.out hb)
   replace HA := aM ((hb.block _ (cb_lt HA.out)).trans HA.out)
   clear hb m5
   go_wp2_with fail
   refine (no_match m6.out _ HP.out (by decide)).mono ?_
   rintro e v6 ⟨rfl, hb⟩
   replace HB := aM (hb_then HB.out hb)
   replace HA := aM ((hb.block _ (cb_lt HA.out)).trans HA.out)
   clear hb m6
   go_wp2_with fail
   refine (no_match m7.out _ HP.out (by decide)).mono ?_
   rintro e v7 ⟨rfl, hb⟩
   replace HB := aM (hb_then HB.out hb)
   replace HA := aM ((hb.block _ (cb_lt HA.out)).trans HA.out)
   clear hb m7
   go_wp2_with fail
   refine (no_match m8.out _ HP.out (by decide)).mono ?_
   rintro e v8 ⟨rfl, hb⟩
   replace HB := aM (hb_then HB.out hb)
   replace HA := aM ((hb.block _ (cb_lt HA.out)).trans HA.out)
   clear hb m8
   go_wp2_with fail
   refine (no_match m9.out _ HP.out (by decide)).mono ?_
   rintro e v9 ⟨rfl, hb⟩
   replace HB := aM (hb_then HB.out hb)
   replace HA := aM ((hb.block _ (cb_lt HA.out)).trans HA.out)
   clear hb m9
   go_wp2_with fail
   refine (no_match m10.out _ HP.out (by decide)).mono ?_
   rintro e v10 ⟨rfl, hb⟩
   replace HB := aM (hb_then HB.out hb)
   replace HA := aM ((hb.block _ (cb_lt HA.out)).trans HA.out)
   clear hb m10
   go_wp2
   go_roundw
   case rel => exact ⟨.inr (.inl rfl), HA, HB⟩
   case measure => simp [intOf]
  ·skip
   go_wp2_with fail
   refine (no_match m11.out _ HP.out (by decide)).mono ?_
   rintro e v11 ⟨rfl, hb⟩
   replace HB := aM (hb_then HB.out hb)
   replace HA := aM ((hb.block _ (cb_lt HA.out)).trans HA.out)
   clear hb m11 c0 c1 c2
   go_wp2_with fail
   refine (no_match m12.out _ HP.out (by decide)).mono ?_
   rintro e v12 ⟨rfl, hb⟩
   replace HB := aM (hb_then HB.out hb)
   replace HA := aM ((hb.block _ (cb_lt HA.out)).trans HA.out)
   clear hb m12
   go_wp2_with fail
   refine (no_match m13.out _ HP.out (by decide)).mono ?_
   rintro e v13 ⟨rfl, hb⟩
   replace HB := aM (hb_then HB.out hb)
   replace HA := aM ((hb.block _ (cb_lt HA.out)).trans HA.out)
   clear hb m13
   go_wp2_with fail
   refine (no_match m14.out _ HP.out (by decide)).mono ?_
   rintro e v14 ⟨rfl, hb⟩
   replace HB := aM (hb_then HB.out hb)
   replace HA := aM ((hb.block _ (cb_lt HA.out)).trans HA.out)
   clear hb m14
   go_wp2_with fail
   refine (no_match m15.out _ HP.out (by decide)).mono ?_
   rintro e v15 ⟨rfl, hb⟩
   replace HB := aM (hb_then HB.out hb)
   replace HA := aM ((hb.block _ (cb_lt HA.out)).trans HA.out)
   clear hb m15
   go_wp2_with fail
   refine (no_match m16.out _ HP.out (by decide)).mono ?_
   rintro e v16 ⟨rfl, hb⟩
   replace HB := aM (hb_then HB.out hb)
   replace HA := aM ((hb.block _ (cb_lt HA.out)).trans HA.out)
   clear hb m16
   go_wp2_with fail
   refine (no_match m17.out _ HP.out (by decide)).mono ?_
   rintro e v17 ⟨rfl, hb⟩
   replace HB := aM (hb_then HB.out hb)
   replace HA := aM ((hb.block _ (cb_lt HA.out)).trans HA.out)
   clear hb m17
   go_wp2_with fail
   refine (no_match m18.out _ HP.out (by decide)).mono ?_
   rintro e v18 ⟨rfl, hb⟩
   replace HB := aM (hb_then HB.out hb)
   replace HA := aM ((hb.block _ (cb_lt HA.out)).trans HA.out)
   clear hb m18
   go_wp2_with fail
   refine (no_match m19.out _ HP.out (by decide)).mono ?_
   rintro e v19 ⟨rfl, hb⟩
   replace HB := aM (hb_then HB.out hb)
   replace HA := aM ((hb.block _ (cb_lt HA.out)).trans HA.out)
   clear hb m19
   go_wp2_with fail
   refine (no_match m20.out _ HP.out (by decide)).mono ?_
   rintro e v20 ⟨rfl, hb⟩
   replace HB := aM (hb_then HB.out hb)
   replace HA := aM ((hb.block _ (cb_lt HA.out)).trans HA.out)
   clear hb m20
   go_wp2_with fail
   refine (no_match m21.out _ HP.out (by decide)).mono ?_
   rintro e v21 ⟨rfl, hb⟩
   replace HB := aM (hb_then HB.out hb)
   replace HA := aM ((hb.block _ (cb_lt HA.out)).trans HA.out)
   clear hb m21
   go_wp2
   go_roundw
   case rel => exact ⟨.inr (.inr (.inl rfl)), HA, HB⟩
   case measure => simp [intOf]
  ·skip
   go_wp2_with fail
   refine (no_match m22.out _ HP.out (by decide)).mono ?_
   rintro e v22 ⟨rfl, hb⟩
   replace HB := aM (hb_then HB.out hb)
   replace HA := aM ((hb.block _ (cb_lt HA.out)).trans HA.out)
   clear hb m22 c0 c1 c2
   go_wp2_with fail
   refine (no_match m23.out _ HP.out (by decide)).mono ?_
   rintro e v23 ⟨rfl, hb⟩
   replace HB := aM (hb_then HB.out hb)
   replace HA := aM ((hb.block _ (cb_lt HA.out)).trans HA.out)
   clear hb m23
   go_wp2_with fail
   refine (no_match m24.out _ HP.out (by decide)).mono ?_
   rintro e v24 ⟨rfl, hb⟩
   replace HB := aM (hb_then HB.out hb)
   replace HA := aM ((hb.block _ (cb_lt HA.out)).trans HA.out)
   clear hb m24
   go_wp2_with fail
   refine (no_match m25.out _ HP.out (by decide)).mono ?_
   rintro e v25 ⟨rfl, hb⟩
   replace HB := aM (hb_then HB.out hb)
   replace HA := aM ((hb.block _ (cb_lt HA.out)).trans HA.out)
   clear hb m25
   go_wp2_with fail
   refine (no_match m26.out _ HP.out (by decide)).mono ?_
   rintro e v26 ⟨rfl, hb⟩
   replace HB := aM (hb_then HB.out hb)
   replace HA := aM ((hb.block _ (cb_lt HA.out)).trans HA.out)
   clear hb m26
   go_wp2_with fail
   refine (no_match m27.out _ HP.out (by decide)).mono ?_
   rintro e v27 ⟨rfl, hb⟩
   replace HB := aM (hb_then HB.out hb)
   replace HA := aM ((hb.block _ (cb_lt HA.out)).trans HA.out)
   clear hb m27
   go_wp2_with fail
   refine (no_match m28.out _ HP.out (by decide)).mono ?_
   rintro e v28 ⟨rfl, hb⟩
   replace HB := aM (hb_then HB.out hb)
   replace HA := aM ((hb.block _ (cb_lt HA.out)).trans HA.out)
   clear hb m28
   go_wp2_with fail
   refine (no_match m29.out _ HP.out (by decide)).mono ?_
   rintro e v29 ⟨rfl, hb⟩
   replace HB := aM (hb_then HB.out hb)
   replace HA := aM ((hb.block _ (cb_lt HA.out)).trans HA.out)
   clear hb m29
   go_wp2_with fail
   refine (no_match m30.out _ HP.out (by decide)).mono ?_
   rintro e v30 ⟨rfl, hb⟩
   replace HB := aM (hb_then HB.out hb)
   replace HA := aM ((hb.block _ (cb_lt HA.out)).trans HA.out)
   clear hb m30
   go_wp2_with fail
   refine (no_match m31.out _ HP.out (by decide)).mono ?_
   rintro e v31 ⟨rfl, hb⟩
   replace HB := aM (hb_then HB.out hb)
   replace HA := aM ((hb.block _ (cb_lt HA.out)).trans HA.out)
   clear hb m31
   go_wp2_with fail
   refine (no_match m32.out _ HP.out (by decide)).mono ?_
   rintro e v32 ⟨rfl, hb⟩
   replace HB := aM (hb_then HB.out hb)
   replace HA := aM ((hb.block _ (cb_lt HA.out)).trans HA.out)
   clear hb m32
   go_wp2
   go_roundw
   case rel => exact ⟨.inr (.inr (.inr (rfl))), HA, HB⟩
   case measure => simp [intOf]
  ·skip; clear c0 c1 c2
   have HA := aM (cb_new wr (.cells #[.string ⟨#[115, 101, 114, 118, 105, 99, 101, 115]⟩, .string ⟨#[106, 111, 98, 115]⟩] 56))
   replace HB := aM (below_alloc HB.out (.cells #[.string ⟨#[115, 101, 114, 118, 105, 99, 101, 115]⟩, .string ⟨#[106, 111, 98, 115]⟩] 56))
   go_wp2
   obtain ⟨b, hb⟩ : ∃ b, wr.heap.size = b := ⟨_, rfl⟩
   rw [hb] at HA
   rw [hb]
   clear hb
   generalize wr.alloc _ = W at HA HB ⊢
   go_loopw [61, 7] (fun v61 v7 wr => (v61 = .int .i64 0 ∨ v61 = .int .i64 1 ∨ v61 = .int .i64 2) ∧ Aside0 (wr.heap[b]? = some (.cells #[.string ⟨#[115, 101, 114, 118, 105, 99, 101, 115]⟩, .string ⟨#[106, 111, 98, 115]⟩] 56 (0, 0))) ∧ Aside0 (Below w.heap.size w wr)) (fun v61 v7 wr => (2 - intOf v61).toNat)
   case atStart => exact ⟨.inl rfl, HA, HB⟩
   case round =>
    clear HA HB
    obtain ⟨hi, HA, HB⟩ := hrel
    have c0 := cb_cell (i := 0) HA.out (v := .string ⟨#[115, 101, 114, 118, 105, 99, 101, 115]⟩) rfl
    have c1 := cb_cell (i := 1) HA.out (v := .string ⟨#[106, 111, 98, 115]⟩) rfl
    rcases hi with rfl | rfl | rfl
    ·skip
     go_wp2_with fail
     refine (no_match m33.out _ HP.out (by decide)).mono ?_
     rintro e v33 ⟨rfl, hb⟩
     replace HB := aM (hb_then HB.out hb)
     replace HA := aM ((hb.block _ (cb_lt HA.out)).trans HA.out)
     clear hb m33 c0 c1
     go_wp2_with fail
     refine (no_match m34.out _ HP.out (by decide)).mono ?_
     rintro e v34 ⟨rfl, hb⟩
     replace HB := aM (hb_then HB.out hb)
     replace HA := aM ((hb.block _ (cb_lt HA.out)).trans HA.out)
     clear hb m34
     go_wp2_with fail
     refine (no_match m35.out _ HP.out (by decide)).mono ?_
     rintro e v35 ⟨rfl, hb⟩
     replace HB := aM (hb_then HB.out hb)
     replace HA := aM ((hb.block _ (cb_lt HA.out)).trans HA.out)
     clear hb m35
     go_wp2_with fail
     refine (no_match m36.out _ HP.out (by decide)).mono ?_
     rintro e v36 ⟨rfl, hb⟩
     replace HB := aM (hb_then HB.out hb)
     replace HA := aM ((hb.block _ (cb_lt HA.out)).trans HA.out)
     clear hb m36
     go_wp2_with fail
     refine (no_match m37.out _ HP.out (by decide)).mono ?_
     rintro e v37 ⟨rfl, hb⟩
     replace HB := aM (hb_then HB.out hb)
     replace HA := aM ((hb.block _ (cb_lt HA.out)).trans HA.out)
     clear hb m37
     go_wp2_with fail
     refine (no_match m38.out _ HP.out (by decide)).mono ?_
     rintro e v38 ⟨rfl, hb⟩
     replace HB := aM (hb_then HB.out hb)
     replace HA := aM ((hb.block _ (cb_lt HA.out)).trans HA.out)
     clear hb m38
     go_wp2_with fail
     refine (no_match m39.out _ HP.out (by decide)).mono ?_
     rintro e v39 ⟨rfl, hb⟩
     replace HB := aM (hb_then HB.out hb)
     replace HA := aM ((hb.block _ (cb_lt HA.out)).trans HA.out)
     clear hb m39
     go_wp2_with fail
     refine (no_match m40.out _ HP.out (by decide)).mono ?_
     rintro e v40 ⟨rfl, hb⟩
     replace HB := aM (hb_then HB.out hb)
     replace HA := aM ((hb.block _ (cb_lt HA.out)).trans HA.out)
     clear hb m40
     go_wp2_with fail
     refine (no_match m41.out _ HP.out (by decide)).mono ?_
     rintro e v41 ⟨rfl, hb⟩
     replace HB := aM (hb_then HB.out hb)
     replace HA := aM ((hb.block _ (cb_lt HA.out)).trans HA.out)
     clear hb m41
     go_wp2_with fail
     refine (no_match m42.out _ HP.out (by decide)).mono ?_
     rintro e v42 ⟨rfl, hb⟩
     replace HB := aM (hb_then HB.out hb)
     replace HA := aM ((hb.block _ (cb_lt HA.out)).trans HA.out)
     clear hb m42
     go_wp2_with fail
     refine (no_match m43.out _ HP.out (by decide)).mono ?_
     rintro e v43 ⟨rfl, hb⟩
     replace HB := aM (hb_then HB.out hb)
     replace HA := aM ((hb.block _ (cb_lt HA.out)).trans HA.out)
     clear hb m43
     go_wp2
     go_roundw
     case rel => exact ⟨.inr (.inl rfl), HA, HB⟩
     case measure => simp [intOf]
    ·skip
     go_wp2_with fail
     refine (no_match m44.out _ HP.out (by decide)).mono ?_
     rintro e v44 ⟨rfl, hb⟩
     replace HB := aM (hb_then HB.out hb)
     replace HA := aM ((hb.block _ (cb_lt HA.out)).trans HA.out)
     clear hb m44 c0 c1
     go_wp2_with fail
     refine (no_match m45.out _ HP.out (by decide)).mono ?_
     rintro e v45 ⟨rfl, hb⟩
     replace HB := aM (hb_then HB.out hb)
     replace HA := aM ((hb.block _ (cb_lt HA.out)).trans HA.out)
     clear hb m45
     go_wp2_with fail
     refine (no_match m46.out _ HP.out (by decide)).mono ?_
     rintro e v46 ⟨rfl, hb⟩
     replace HB := aM (hb_then HB.out hb)
     replace HA := aM ((hb.block _ (cb_lt HA.out)).trans HA.out)
     clear hb m46
     go_wp2_with fail
     refine (no_match m47.out _ HP.out (by decide)).mono ?_
     rintro e v47 ⟨rfl, hb⟩
     replace HB := aM (hb_then HB.out hb)
     replace HA := aM ((hb.block _ (cb_lt HA.out)).trans HA.out)
     clear hb m47
     go_wp2_with fail
     refine (no_match m48.out _ HP.out (by decide)).mono ?_
     rintro e v48 ⟨rfl, hb⟩
     replace HB := aM (hb_then HB.out hb)
     replace HA := aM ((hb.block _ (cb_lt HA.out)).trans HA.out)
     clear hb m48
     go_wp2_with fail
     refine (no_match m49.out _ HP.out (by decide)).mono ?_
     rintro e v49 ⟨rfl, hb⟩
     replace HB := aM (hb_then HB.out hb)
     replace HA := aM ((hb.block _ (cb_lt HA.out)).trans HA.out)
     clear hb m49
     go_wp2_with fail
     refine (no_match m50.out _ HP.out (by decide)).mono ?_
     rintro e v50 ⟨rfl, hb⟩
     replace HB := aM (hb_then HB.out hb)
     replace HA := aM ((hb.block _ (cb_lt HA.out)).trans HA.out)
     clear hb m50
     go_wp2_with fail
     refine (no_match m51.out _ HP.out (by decide)).mono ?_
     rintro e v51 ⟨rfl, hb⟩
     replace HB := aM (hb_then HB.out hb)
     replace HA := aM ((hb.block _ (cb_lt HA.out)).trans HA.out)
     clear hb m51
     go_wp2_with fail
     refine (no_match m52.out _ HP.out (by decide)).mono ?_
     rintro e v52 ⟨rfl, hb⟩
     replace HB := aM (hb_then HB.out hb)
     replace HA := aM ((hb.block _ (cb_lt HA.out)).trans HA.out)
     clear hb m52
     go_wp2_with fail
     refine (no_match m53.out _ HP.out (by decide)).mono ?_
     rintro e v53 ⟨rfl, hb⟩
     replace HB := aM (hb_then HB.out hb)
     replace HA := aM ((hb.block _ (cb_lt HA.out)).trans HA.out)
     clear hb m53
     go_wp2_with fail
     refine (no_match m54.out _ HP.out (by decide)).mono ?_
     rintro e v54 ⟨rfl, hb⟩
     replace HB := aM (hb_then HB.out hb)
     replace HA := aM ((hb.block _ (cb_lt HA.out)).trans HA.out)
     clear hb m54
     go_wp2
     go_roundw
     case rel => exact ⟨.inr (.inr (rfl)), HA, HB⟩
     case measure => simp [intOf]
    ·skip; clear c0 c1
     go_wp2_with fail
     refine (no_match m55.out _ HP.out (by decide)).mono ?_
     rintro e v55 ⟨rfl, hb⟩
     replace HB := aM (hb_then HB.out hb)
     replace HA := aM ((hb.block _ (cb_lt HA.out)).trans HA.out)
     clear hb m55
     go_wp2_with fail
     refine (no_match m56.out _ HP.out (by decide)).mono ?_
     rintro e v56 ⟨rfl, hb⟩
     replace HB := aM (hb_then HB.out hb)
     replace HA := aM ((hb.block _ (cb_lt HA.out)).trans HA.out)
     clear hb m56
     go_wp2_with fail
     refine (no_match m57.out _ HP.out (by decide)).mono ?_
     rintro e v57 ⟨rfl, hb⟩
     replace HB := aM (hb_then HB.out hb)
     replace HA := aM ((hb.block _ (cb_lt HA.out)).trans HA.out)
     clear hb m57
     go_wp2_with fail
     refine (no_match m58.out _ HP.out (by decide)).mono ?_
     rintro e v58 ⟨rfl, hb⟩
     replace HB := aM (hb_then HB.out hb)
     replace HA := aM ((hb.block _ (cb_lt HA.out)).trans HA.out)
     clear hb m58
     go_wp2_with fail
     refine (no_match m59.out _ HP.out (by decide)).mono ?_
     rintro e v59 ⟨rfl, hb⟩
     replace HB := aM (hb_then HB.out hb)
     replace HA := aM ((hb.block _ (cb_lt HA.out)).trans HA.out)
     clear hb m59
     go_wp2_with fail
     refine (no_match m60.out _ HP.out (by decide)).mono ?_
     rintro e v60 ⟨rfl, hb⟩
     replace HB := aM (hb_then HB.out hb)
     replace HA := aM ((hb.block _ (cb_lt HA.out)).trans HA.out)
     clear hb m60
     go_wp2_with fail
     refine (no_match m61.out _ HP.out (by decide)).mono ?_
     rintro e v61 ⟨rfl, hb⟩
     replace HB := aM (hb_then HB.out hb)
     replace HA := aM ((hb.block _ (cb_lt HA.out)).trans HA.out)
     clear hb m61
     go_wp2_with fail
     refine (no_match m62.out _ HP.out (by decide)).mono ?_
     rintro e v62 ⟨rfl, hb⟩
     replace HB := aM (hb_then HB.out hb)
     replace HA := aM ((hb.block _ (cb_lt HA.out)).trans HA.out)
     clear hb m62
     go_wp2
     go_ret2
     exact ⟨rfl, HB.out⟩
end Go.Proofs.YtaembebbaejfiaaGreatDoor.Tree
namespace Go.Proofs.YtaembebbaejfiaaGreatDoor.MapV
open Go.RowKit Go.Proofs.YtaembebbaejfiaaGreatDoorW.PrintWords Go.Proofs.YtaembebbaejfiaaGreatDoorW.PrintLast Go.Proofs.YtaembebbaejfiaaGreatDoor.Str Go.ChangeMaps Go.MapKept Go.WideShapes Go.Maps
open Go.WideElems (Fit rd rg pl rd_key rd_val rg_of other_key rd_mk)
set_option linter.unusedVariables false
set_option linter.unusedSimpArgs false
theorem leftOf_length (es : Array MapEntry) (seen : Array Nat) : (leftOf es seen).size = (es.toList.filter fun e => !seen.contains e.born).length := by
 unfold leftOf
 rw [← Array.toList_filter, Array.length_toList]
theorem filter_born (seen : Array Nat) : ∀ l l' : List MapEntry, l.map (·.born) = l'.map (·.born) → (l.filter fun e => !seen.contains e.born).length = (l'.filter fun e => !seen.contains e.born).length
 | [], [], _ => rfl
 | [], y :: r, h => by simp at h
 | x :: r, [], h => by simp at h
 | x :: r, y :: s, h => by
  simp only [List.map_cons, List.cons.injEq] at h
  have ih := filter_born seen r s h.2
  rw [List.filter_cons, List.filter_cons, h.1]
  split <;> simp only [List.length_cons, ih]
theorem ranges_set {H : Type} {P : Program} {k t e : TypeId} {R : Value → Option (DataW H × List MemPlace)} {w : World} {b r n : Nat} {D : DataW H} {left : Lit → Bool} {cnt : Nat}
  (h : w.ranges P k R b r n D left cnt) (K : Keyed P k) (ht : P.underlying t = some (.map k e)) (hn : n < maxLen) {key val : Value} {kl : Lit} {d : DataW H} {ps : List MemPlace}
  (hkey : keyOf P k key = some kl) (hv : R val = some (d, ps)) (hhas : Maps.has D kl = true) :
  ∃ w', (Instr.mapUpdate t (.map (some b)) key val).run P w = .ok () w' ∧ w'.ranges P k R b r n (D.put kl d) left cnt ∧ w.grownBy w' (some b) := by
 have hne := h.ne
 obtain ⟨es, clock, since, seen, c0, hb, F, hs, rfl, hr, hold, rfl, hl1, hl2, hsc, hsk⟩ := h
 obtain ⟨es', clock', hrun, F', hput, _⟩ := Maps.fit_store (R' := R) K ht hb F (Nat.lt_of_le_of_lt hs hn) (fun _ _ _ _ hz => hz) hkey hv
 rcases K.find w hkey es.toList F.keys with ⟨h1, h2⟩ | ⟨j, e0, h1, h2, h3⟩
 ·exfalso
  obtain ⟨p, hp, hpk⟩ := List.any_eq_true.1 hhas
  obtain ⟨x, hx, rfl⟩ := List.mem_map.1 (mem_sorted.1 hp)
  obtain ⟨y, hy⟩ := F.reads x hx
  have e1 := WideAt.sameKey_eq hpk
  rw [rg_of hy] at e1
  exact h2 x hx (K.inj (e1 ▸ rd_key hy) hkey)
 have hj : es[j]? = some e0 := by simpa using h2
 have hjl : j < es.toList.length := (List.getElem?_eq_some_iff.1 h2).1
 have hlist : (es.modify j (fun e' => { e' with key := key, val := val })).toList = es.toList.set j { e0 with key := key, val := val } := by rw [Array.toList_modify, modify_eq_set _ _ _ _ h2]
 have hrun2 : (Instr.mapUpdate t (.map (some b)) key val).run P w = .ok () (setBlock w b (.map (es.modify j (fun e' => { e' with key := key, val := val })) clock)) := by
  simp [Instr.mapUpdate, run_underlying ht, MapKept.run_getObj_map hb, K.check w false hkey, h1, hj, h3, K.stays w hkey, MapKept.run_setObj_map _ hb, Result.andThen, setBlock]
 have hsame : (some (Obj.map es' clock') : Option Obj) = some (.map (es.modify j (fun e' => { e' with key := key, val := val })) clock) := by
  have e1 : setBlock w b (.map es' clock') = setBlock w b (.map (es.modify j (fun e' => { e' with key := key, val := val })) clock) := by
   have := hrun.symm.trans hrun2
   injection this
  rw [← heap_setBlock_same hb (Obj.map es' clock'), e1, heap_setBlock_same hb]
 injection hsame with hsame
 injection hsame with he hc
 subst hc
 rw [← he] at hlist
 have hmk := rd_mk (R := R) (born := e0.born) hkey hv
 have hkl0 : (rg P k R e0).1 = kl := by
  obtain ⟨y, hy⟩ := F.reads e0 (List.mem_of_getElem? h2)
  have h4 := rd_key hy
  rw [h3, hkey] at h4
  rw [rg_of hy]
  exact (Option.some.inj h4).symm
 have hkln : (rg P k R { e0 with key := key, val := val }).1 = kl := by rw [rg_of hmk]
 have hborn : es'.toList.map (·.born) = es.toList.map (·.born) := by
  rw [hlist, List.map_set]
  refine List.ext_getElem? (fun i => ?_)
  rw [List.getElem?_set]
  split
  ·rename_i hij
   subst hij
   rw [List.getElem?_map, h2]
   simp only [List.length_map, Option.map_some]
   rw [if_pos hjl]
  ·rfl
 have who : ∀ x ∈ es'.toList, x = { e0 with key := key, val := val } ∨ x ∈ es.toList := fun x hx => by
  rw [hlist] at hx
  rcases List.mem_or_eq_of_mem_set hx with h | h
  ·exact .inr h
  ·exact .inl h
 refine ⟨_, hrun, ⟨es', clock', since, seen, c0, heap_setBlock_same hb _, F', ?_, by rw [DataW.put_eq, hput], (heap_setBlock_other hb _ hne).trans hr, fun x hx => ?_, ?_, fun x hx => ?_, fun x0 hx0 => ?_, hsc, hsk⟩, ⟨rfl, rfl, rfl, by simp [setBlock], fun i _ hi => heap_setBlock_other hb _ (fun e => hi (by rw [e]))⟩⟩
 ·have : es'.size = es.size := by
   rw [← Array.length_toList, hlist, List.length_set, Array.length_toList]
  omega
 ·rcases who x hx with rfl | hx
  ·exact hold e0 (List.mem_of_getElem? h2)
  ·exact hold x hx
 ·rw [leftOf_length, leftOf_length]
  exact filter_born seen _ _ hborn
 ·rcases who x hx with rfl | hx
  ·rw [hkln, ← hkl0]
   exact hl1 e0 (List.mem_of_getElem? h2)
  ·exact hl1 x hx
 ·obtain ⟨x, hx, rfl⟩ := hl2 x0 hx0
  obtain ⟨i, hi, ex⟩ := List.getElem_of_mem hx
  by_cases hij : j = i
  ·subst hij
   have : x = e0 := by
    have := List.getElem?_eq_getElem hi
    rw [h2, ex] at this
    exact (Option.some.inj this).symm
   subst this
   exact ⟨{ x with key := key, val := val }, by rw [hlist]; exact List.mem_set hjl _, by rw [hkln, hkl0]⟩
  ·refine ⟨x, ?_, rfl⟩
   rw [hlist, List.mem_iff_getElem]
   exact ⟨i, by simpa using hi, by rw [List.getElem_set_ne hij]; exact ex⟩
section
variable {P : Program} {k e t : TypeId} {α : Type} {enc : α → Value} {w : World} {b r : Nat} {f left : List (Bs × α)}
variable {ops : Array Oper} {rest : List Oper} {o : Oper} {a : Act} {Q : Exit → Act → World → Prop}
theorem ranges_norm {n cnt : Nat} {l : List (Lit × DataW Value)} {lf : Lit → Bool} (h : w.ranges P k heldR b r n (.map l) lf cnt) : w.ranges P k heldR b r l.length (.map l) lf cnt := by
 obtain ⟨es, clock, since, seen, c0, hb, F, hs, hD, rest⟩ := h
 refine ⟨es, clock, since, seen, c0, hb, F, ?_, hD, rest⟩
 injection hD with hD
 rw [hD, length_sorted, List.length_map, Array.length_toList]
 exact Nat.le_refl _
theorem filter_mins {q : Bs × α → Bool} {x : Bs × α} (hq : q x = false) : ∀ l : List (Bs × α), (mins x l).filter q = l.filter q
 | [] => by simp [mins, hq]
 | y :: r => by
  unfold mins
  split
  ·rw [List.filter_cons, hq]; rfl
  ·rw [List.filter_cons, List.filter_cons, filter_mins hq r]
theorem filter_mput {q : Bs × α → Bool} {key : Bs} {y : α} (hq : ∀ v, q (key, v) = false) (f : List (Bs × α)) : (mput f key y).filter q = f.filter q := by
 unfold mput
 rw [filter_mins (hq y)]
 unfold mdel
 rw [List.filter_filter]
 refine List.filter_congr (fun p _ => ?_)
 obtain ⟨pk, pv⟩ := p
 by_cases h : pk = key
 ·subst h; rw [hq]; rfl
 ·have : (pk == key) = false := by simpa using h
  show (q (pk, pv) && !(pk == key)) = q (pk, pv)
  rw [this, Bool.not_false, Bool.and_true]
theorem store_rangesE (hk : P.underlying k = some .string) (ht : P.underlying t = some (.map k e)) (hg : o.guard = none) (m x v : Operand) (hop : o.op = Op.mapUpdate t m x v)
  (hm : a.eval m = .map (some b)) (h : Ranges P k enc w b r f left) (hn : f.length < maxLen) {s : ByteArray} {y : α} (hx : a.eval x = .string s) (hs : s.size ≤ maxLen) (hv : a.eval v = enc y)
  (hhas : (mget f (lb s)).isSome = true) (hlf : ∀ p ∈ left, p.1 ≠ lb s)
  (hK : ∀ w', Ranges P k enc w' b r (mput f (lb s) y) left → w.grownBy w' (some b) → w'.rangeLeft b r = w.rangeLeft b r → wpList P ops Q rest (a.put o.dst undef) w') : wpList P ops Q (o :: rest) a w := by
 obtain ⟨lf, cnt, h, rfl⟩ := h
 refine wpList_plain hg fun K' hK' => ?_
 obtain ⟨w', hrun, r1, r2⟩ := ranges_set h (Go.Maps.string_keyed hk) ht hn (keyOf_s hk hs) (val := enc y) (d := .held (enc y)) (ps := []) rfl (by rw [ent_has]; exact hhas)
 unfold Oper.wp
 simp [execOp, hop, hm, hx, hv, hrun, Result.andThen]
 refine hK' _ _ (hK w' ⟨lf, cnt, ?_, ?_⟩ r2 (by rw [r1.left_eq, h.left_eq]))
 ·rw [ent_put] at r1
  have := ranges_norm r1
  rw [List.length_map] at this
  exact this
 ·obtain ⟨c, hc⟩ := Option.isSome_iff_exists.1 hhas
  have hmem := mget_some hc
  refine (filter_mput (fun v => ?_) f).symm
  cases hq : lf (.string (lb s))
  ·rfl
  ·exact absurd rfl (hlf (lb s, c) (List.mem_filter.2 ⟨hmem, hq⟩))
end
end Go.Proofs.YtaembebbaejfiaaGreatDoor.MapV
namespace Go.Proofs.YtaembebbaejfiaaGreatDoor.Tr
open Go.RowKit Go.Proofs.YtaembebbaejfiaaGreatDoorW.PrintWords Go.Proofs.YtaembebbaejfiaaGreatDoorW.PrintLast Go.Proofs.YtaembebbaejfiaaGreatDoor.Str Go.Proofs.YtaembebbaejfiaaGreatDoor.Kit Go.Proofs.YtaembebbaejfiaaGreatDoor.MapV Go.Proofs.YtaembebbaejfiaaGreatDoor.Frame Go.Proofs.YtaembebbaejfiaaGreatDoor.PS
open Go.Proofs.YtaembebbaejfiaaGreatDoor.Index (tree_zzIndex)
open Go.Proofs.YtaembebbaejfiaaGreatDoor.Tree (NoneT transformer_none)
set_option linter.unusedVariables false
set_option linter.unusedSimpArgs false
theorem l_str_mp (v : Value) (w : World) : (Instr.typeAssert (.iface 9 v) 20 64 true).run Tryz.prog w = .ok (.tuple #[.map none, .bool false]) w := by kernel_rfl
theorem l_str_ls (v : Value) (w : World) : (Instr.typeAssert (.iface 9 v) 20 58 true).run Tryz.prog w = .ok (.tuple #[.slice none 0 0, .bool false]) w := by kernel_rfl
theorem l_bool_mp (v : Value) (w : World) : (Instr.typeAssert (.iface 4 v) 20 64 true).run Tryz.prog w = .ok (.tuple #[.map none, .bool false]) w := by kernel_rfl
theorem l_bool_ls (v : Value) (w : World) : (Instr.typeAssert (.iface 4 v) 20 58 true).run Tryz.prog w = .ok (.tuple #[.slice none 0 0, .bool false]) w := by kernel_rfl
set_option maxHeartbeats 800000 in
theorem replace_none (k r : BA) (w : World) (hn : findI [46] (lb k) = -1) (hs : k.size ≤ 4398046511104) : Calls Tryz.prog 74 #[.string k, .string ⟨#[46]⟩, .string r] w fun e w' => e = .returned (.string k) ∧ Below w.heap.size w w' := by
 have Hfi := aM hn
 have HS := aM hs
 clear hn
 go_enter Tryz.func74, Tryz.ntmps74
 go_wp2
 go_loopw [0, 7, 10] (fun v0 v7 v10 wr => v0 = .string k ∧ v7 = .slice none 0 0 ∧ wr = w) (fun _ _ _ _ => 0)
 case atStart => exact ⟨rfl, rfl, rfl⟩
 case round =>
  obtain ⟨rfl, rfl, rfl⟩ := hrel
  go_wp2_with fail
  refine (tree_zzIndex k ⟨#[46]⟩ _ (by omega) (by show 1 ≤ _; omega)).mono ?_
  rintro e w1 ⟨rfl, hd⟩
  rw [show lb ⟨#[46]⟩ = [46] from rfl, Hfi.out]
  have HB1 := aM hd.below
  clear hd
  go_wp2_with (at_builtin; refine append_bufS _ _ rfl rfl rfl rfl (Buf.nil _ _) HB1.out (by simp; omega) ?_; intro v1 w2 ho hb hg; have HB2 := aM hb; have hst := ho.string; rw [List.nil_append, show (⟨(lb k).toArray⟩ : BA) = k by simp [lb]] at hst; clear ho hg hb)
  go_ret
  exact ⟨rfl, HB2.out⟩
def atK : BA := ⟨#[97, 116]⟩
def atP (k : BA) : BA := atK ++ ⟨#[46]⟩ ++ k
set_option maxHeartbeats 800000 in
theorem path_next (k : BA) (w : World) (hn : findI [46] (lb k) = -1) (hs : k.size ≤ 4398046511104) : Calls Tryz.prog 67 #[.string atK, .string k] w fun e w' => e = .returned (.string (atP k)) ∧ Below w.heap.size w w' := by
 have q0 : (atK.toList == []) = false := by decide +kernel
 have q1 : (atK == ⟨#[]⟩) = false := by decide +kernel
 have z0 : ByteArray.size atK = 2 := by decide +kernel
 have z1 : ¬ 9223372036854775807 < ByteArray.size atK + 1 := by omega
 have z2 : ¬ 9223372036854775807 < ByteArray.size atK + 1 + ByteArray.size k := by omega
 go_enter Tryz.func67, Tryz.ntmps67
 go_wp2_with fail
 refine (replace_none k _ w hn hs).mono ?_
 rintro e w1 ⟨rfl, hb⟩
 have HB := aM hb
 clear hb
 go_wp2
 go_ret
 exact ⟨rfl, HB.out⟩
def IsLeaf (c : Value) : Prop := (∃ s, c = .iface 9 (.string s)) ∨ ∃ b, c = .iface 4 (.bool b)
set_option maxHeartbeats 1600000 in
theorem trans_leaf (c : Value) (hc : IsLeaf c) (p : BA) (hp : NoneT p) (ig : Bool) (w : World) : Calls Tryz.prog 66 #[c, .string p, .bool ig] w fun e w' => e = .returned (.tuple #[c, .nilIface]) ∧ Below w.heap.size w w' := by
 have CT := aM (transformer_none p hp w)
 clear hp
 have f1 := l_str_mp
 have f2 := l_str_ls
 have f3 := l_bool_mp
 have f4 := l_bool_ls
 rcases hc with ⟨s, rfl⟩ | ⟨b, rfl⟩
 ·go_enter Tryz.func66, Tryz.ntmps66
  go_wp2_with fail
  refine CT.out.mono ?_
  rintro e w1 ⟨rfl, hb⟩
  have HB := aM hb
  clear hb
  go_wp2
  go_ret2
  exact ⟨rfl, HB.out⟩
 ·go_enter Tryz.func66, Tryz.ntmps66
  go_wp2_with fail
  refine CT.out.mono ?_
  rintro e w1 ⟨rfl, hb⟩
  have HB := aM hb
  clear hb
  go_wp2
  go_ret2
  exact ⟨rfl, HB.out⟩
def LeafAt (q : Bs × Value) : Prop := IsLeaf q.2 ∧ findI [46] q.1 = -1 ∧ q.1.length ≤ 4398046511104 ∧ NoneT (atP ⟨q.1.toArray⟩)
theorem mput_same {f : List (Bs × Value)} (hf : Rises f) {k : Bs} {c : Value} (h : (k, c) ∈ f) : mput f k c = f := rises_ext (mput_rises hf _ _) hf (fun q => by
 rw [mget_mput]
 split
 ·rename_i e
  subst e
  exact (mget_of_mem hf h).symm
 ·rfl)
theorem mdel_ne {f : List (Bs × Value)} {k : Bs} {p : Bs × Value} (h : p ∈ mdel f k) : p.1 ≠ k := by
 unfold mdel at h
 have := (List.mem_filter.1 h).2
 simpa using this
theorem lt_same2 {w w' : World} {b r : Nat} (hb : w'.heap[b]? = w.heap[b]?) (hr : w'.heap[r]? = w.heap[r]?) : w'.rangeLeft b r = w.rangeLeft b r := by
 unfold World.rangeLeft
 rw [hb, hr]
set_option maxHeartbeats 1600000 in
theorem trans_map (b : Nat) (g : List (Bs × Value)) (ig : Bool) (w : World) (h : MapA w b g) (hn : g.length ≤ 1759218604400) (hl : ∀ q, q ∈ g → LeafAt q) :
  Calls Tryz.prog 61 #[.map (some b), .string atK, .bool ig] w fun e w' => e = .returned (.tuple #[.map (some b), .nilIface]) ∧ MapA w' b g ∧ w.grownBy w' (some b) := by
 have HM := aM h
 have HRG := aM (MapE.rises (Go.Maps.string_keyed akey_u) h)
 have HL := aM hl
 have hbl := h.lt
 have hml : g.length < maxLen := by unfold maxLen; omega
 clear h hl
 go_enter Tryz.func61, Tryz.ntmps61
 go_wp2_with (at_range; refine range_mapE (enc := (id : Value → Value)) akey_u amap_u rfl _ rfl rfl HM.out ?_; intro w0 hrg0 hg0 hs0; have HR0 := aM hrg0; have HG0 := aM hg0; have HS0 := aM hs0; clear hrg0 hg0 hs0)
 go_frame
 have HGB := aM (show w.grownBy w0 (some b) from ⟨HG0.out.os, HG0.out.tape, HG0.out.output, HG0.out.size, fun j hj _ => HG0.out.block j hj (by simp)⟩)
 clear HG0 HM
 go_loopw [8, 9, 10, 11] (fun v8 v9 v10 v11 wr => Aside0 (∃ (lf : List (Bs × Value)), Ranges Tryz.prog 9 (id : Value → Value) wr b w.heap.size g lf ∧ w.grownBy wr (some b))) (fun _ _ _ _ wr => wr.rangeLeft b w.heap.size)
 case atStart => exact ⟨g, HR0.out, HGB.out⟩
 case round =>
  clear HR0 HGB HS0
  obtain ⟨lf, hr, hg⟩ := hrel.out
  have HR := aM hr
  have HG := aM hg
  clear hr hg
  have hwl := HG.out.size
  have hrl := HR.out.lt
  go_wp2_with (at_next; refine next_mapA akey_u rfl _ rfl rfl HR.out (fun hd => ?_) (fun x c w2 hx hen => ?_); rotate_left; (have HG2 := aM (HG.out.andThen hx.out.2.2.2.2.1 (fun j e => .inl (by injection e with e; omega)))))
  ·have hin := HR.out.sub.subset hx.out.1
   obtain ⟨hc, hdot, hks, hnt⟩ := HL.out _ hin
   rw [show (⟨(lb x).toArray⟩ : BA) = x by simp [lb]] at hnt
   have hsz2 := hx.out.2.2.2.2.2
   have CT := aM (fun W => trans_leaf c hc (atP x) hnt ig W)
   refine (path_next x w2 hdot (by rw [← lb_length]; exact hks)).mono ?_
   rintro e w3 ⟨rfl, hb3⟩
   have HB3 := aM hb3
   have HX := aM hx
   have HI := aM hin
   have hk2 : x.size ≤ maxLen := hx.out.2.1
   clear hb3 hc hdot hks hnt hin hx hen
   go_wp2_with fail
   refine (CT.out w3).mono ?_
   rintro e w4 ⟨rfl, hb4⟩
   have HB4 := aM (hb_then HB3.out hb4)
   have HR4 := aM (HX.out.out.2.2.1.below HB4.out)
   have HG4 := aM (HG2.out.andThen (grown_of_below HB4.out none) (fun j e => by cases e))
   have hl4 : w4.rangeLeft b w.heap.size = w2.rangeLeft b w.heap.size := lt_same2 (HB4.out.block _ (by omega)) (HB4.out.block _ (by omega))
   clear hb4
   go_wp2_with (at_mapUpdate; refine store_rangesE (enc := (id : Value → Value)) (y := c) akey_u amap_u rfl _ _ _ rfl rfl HR4.out hml rfl hk2 rfl (by rw [mget_of_mem HRG.out HI.out]; rfl) (fun p hp => mdel_ne hp) ?_; intro w5 hr5 hg5 hl5; have HR5 := aM hr5; have HG5 := aM hg5; have HL5 := aM hl5; clear hr5 hg5 hl5)
   simp only [Act.put]
   go_roundw
   case rel =>
    have h5 := HR5.out
    rw [mput_same HRG.out HI.out] at h5
    exact ⟨_, h5, HG4.out.andThen HG5.out (fun j e => .inr e)⟩
   case measure =>
    rw [HL5.out, hl4]
    exact HX.out.out.2.2.2.1
  ·go_ret2
   exact ⟨rfl, HR.out.owns, HG.out⟩
end Go.Proofs.YtaembebbaejfiaaGreatDoor.Tr
namespace Go.Proofs.YtaembebbaejfiaaGreatDoor.Tr
open Go.RowKit Go.Proofs.YtaembebbaejfiaaGreatDoorW.PrintWords Go.Proofs.YtaembebbaejfiaaGreatDoorW.PrintLast Go.Proofs.YtaembebbaejfiaaGreatDoor.Str Go.Proofs.YtaembebbaejfiaaGreatDoor.Kit Go.Proofs.YtaembebbaejfiaaGreatDoor.MapV Go.Proofs.YtaembebbaejfiaaGreatDoor.Frame Go.Proofs.YtaembebbaejfiaaGreatDoor.PS
set_option linter.unusedVariables false
set_option linter.unusedSimpArgs false
set_option maxHeartbeats 400000 in
theorem implAtK (w : World) : Calls Tryz.prog 27 #[] w fun e w' => e = .returned (.string atK) ∧ Below w.heap.size w w' := by
 have HC := aM (show Kd.string.C (w.alloc (.cells #[.string ⟨#[97, 116]⟩] 9)) (some ⟨w.heap.size, 0, none⟩) [(⟨#[97, 116]⟩ : ByteArray)].length [⟨#[97, 116]⟩] from strs_lit w 9 [(⟨#[97, 116]⟩ : ByteArray)] (by decide))
 have hk : Mount.newPath [(⟨#[97, 116]⟩ : ByteArray)] = atK := by decide +kernel
 go_enter Tryz.func27, Tryz.ntmps27
 go_wp2_with fail
 refine (Mount.tree_NewPath (c := 1) (xs := [(⟨#[97, 116]⟩ : ByteArray)]) _ HC.out (Nat.le_refl _) (by simp) (by decide)).mono ?_
 rw [hk]
 rintro e w1 ⟨rfl, hb⟩
 have HB := aM (hb_then ((Below.refl _ w).alloc (Nat.le_refl _) _) hb)
 clear hb
 go_wp2
 go_ret
 exact ⟨rfl, HB.out⟩
theorem told_at {fn : Func} {p q : Tmp} (hr : fn.results = #[.cell p 45, .tmp q]) {tmps : Array Value} {W : World} {b n3 c3 n4 c4 : Nat} {k n : Int} {t : BA} {A3 A4 : Option Addr} (hp : tmps.getD p undef = .pointer (some ⟨b, 0, none⟩)) (h3 : tmps.getD q undef = .bool true) (hb : W.heap[b]? = some (.cells #[.int .i64 k, .int .i64 n, .string t, .slice A3 n3 c3, .slice A4 n4 c4] 45 (0, 0))) :
  (results fn tmps).run Tryz.prog W = .ok (.tuple #[.agg #[.int .i64 k, .int .i64 n, .string t, .slice A3 n3 c3, .slice A4 n4 c4], .bool true]) W := by
 have := results_ct (P := Tryz.prog) hr tmps W b 45 _ (0, 0) _ hp hb Tryz.underlying45 rfl ival_size
 rw [h3] at this
 exact this
set_option maxHeartbeats 800000 in
theorem impl_value {v : Value} {y : Y} {F : Nat → Prop} (w : World) (hy : FitsY y) (ha : AR w v y F) : Calls Tryz.prog 24 #[v, .nilIface] w (Told w (valOf y)) := by
 have h0 := aM (cb_new w (.cells #[.int .i64 0, .int .i64 0, .string ⟨#[]⟩, .slice none 0 0, .slice none 0 0] 45))
 have HB := aM (below_alloc (Below.refl w.heap.size w) (.cells #[.int .i64 0, .int .i64 0, .string ⟨#[]⟩, .slice none 0 0, .slice none 0 0] 45))
 have CM := aM (from_any hy v _ (w.alloc (.cells #[.int .i64 0, .int .i64 0, .string ⟨#[]⟩, .slice none 0 0, .slice none 0 0] 45)) (ha.keep HB.out))
 clear ha
 generalize valOf y = x at CM
 obtain ⟨x0, x1, x2, x3, x4⟩ := x
 go_enter Tryz.func24, Tryz.ntmps24
 go_wp2_with fail
 refine CM.out.mono ?_
 rintro e w3 ⟨v3, v4, rfl, hv3, hv4, hb3⟩
 obtain ⟨A3, c3, rfl⟩ := Kd.R_slice hv3
 obtain ⟨A4, c4, rfl⟩ := Kd.R_slice hv4
 have h1 := (hb3.block _ (cb_lt h0.out)).trans h0.out
 have hg := grown_setRow w3 w.heap.size #[.int .i64 x0, .int .i64 x1, .string x2, .slice A3 x3.length c3, .slice A4 x4.length c4]
 have HX := aM (setRow_heap _ w.heap.size _ #[.int .i64 x0, .int .i64 x1, .string x2, .slice A3 x3.length c3, .slice A4 x4.length c4] _ _ h1)
 have hb := hb_then HB.out hb3
 have HB8 := aM (pw_below_grown hb (some w.heap.size) hb.size hg (fun k hk => by have := Option.some.inj hk; omega))
 have hbase := HB.out.size
 have hlt := cb_lt h0.out
 have H3 := aM (Kd.R_lower (base' := w.heap.size) (Kd.R_mono (ok' := fun _ => True) (Kd.R_move (Kd.R_bound hv3) (fun k hk => hg.block k hk.2.2.1 (fun e => by have h2 := Option.some.inj e; have h3 := hk.2.1; omega))) (fun _ _ => trivial)) hbase)
 have H4 := aM (Kd.R_lower (base' := w.heap.size) (Kd.R_mono (ok' := fun _ => True) (Kd.R_move (Kd.R_bound hv4) (fun k hk => hg.block k hk.2.2.1 (fun e => by have h2 := Option.some.inj e; have h3 := hk.2.1; omega))) (fun _ _ => trivial)) hbase)
 clear hv3 hv4 hb3 hg hb hbase hlt HB h0 CM
 go_wp2_with (refine store_ival (.tmp 4) (.tmp 11) rfl rfl rfl rfl h1 ?_)
 exact bodyPost_ret (v := .tuple #[.agg #[.int .i64 x0, .int .i64 x1, .string x2, .slice A3 x3.length c3, .slice A4 x4.length c4], .bool true]) (told_at rfl rfl rfl HX.out) rfl ⟨.slice A3 x3.length c3, .slice A4 x4.length c4, rfl, H3.out, H4.out, HB8.out⟩
def TransB (B : Nat) (w : World) (y : Y) (e : Ending) (w' : World) : Prop := ∃ v F, e = .returned (.tuple #[v, .nilIface]) ∧ AR w' v y F ∧ Below B w w'
set_option maxHeartbeats 800000 in
theorem trans_door {y : Y} (B : Nat) (v pv : Value) (ig : Bool) (w : World) (h : Calls Tryz.prog 47 #[v, pv, .bool ig] w (TransB B w y)) :
  Calls Tryz.prog 25 #[v, pv, .bool ig] w (TransB B w y) := by
 have CN := aM h
 clear h
 go_enter Tryz.func25, Tryz.ntmps25
 go_wp2_with fail
 refine CN.out.mono ?_
 rintro e w1 ⟨u, F, rfl, ha, hb⟩
 have HA := aM ha
 have HB := aM hb
 clear ha hb
 go_wp2
 go_ret2
 exact ⟨_, _, rfl, HA.out, HB.out⟩
set_option maxHeartbeats 1600000 in
theorem impl_trans (x : VI) (hx : Small x) (y : Y) (hfy : FitsY y) (ig : Bool) (hf : ∀ (B : Nat) (W : World) (v : Value) (F : Nat → Prop), B ≤ W.heap.size → (∀ k, F k → B ≤ k) → AR W v (anyOf x) F → Calls Tryz.prog 47 #[v, .string atK, .bool ig] W (TransB B W y))
  (A3 A4 : Option Addr) (c3 c4 : Nat) (w : World) (l3 : x.f3.length ≤ c3) (hk : Kd.string.C w A3 x.f3.length x.f3) (l4 : x.f4.length ≤ c4) (hv : kI.C w A4 x.f4.length x.f4) :
  Calls Tryz.prog 9 #[.agg #[.int .i64 x.f0, .int .i64 x.f1, .string x.f2, .slice A3 x.f3.length c3, .slice A4 x.f4.length c4], .bool ig] w (Told w (valOf y)) := by
 have hb1 := below_alloc (Below.refl w.heap.size w) (.cells #[.int .i64 x.f0, .int .i64 x.f1, .string x.f2, .slice A3 x.f3.length c3, .slice A4 x.f4.length c4] 45)
 have hb2 := below_alloc hb1 (.cells #[.int .i64 0, .int .i64 0, .string ⟨#[]⟩, .slice none 0 0, .slice none 0 0] 45)
 have HB := aM hb2
 have h0 := cb_new (w.alloc (.cells #[.int .i64 x.f0, .int .i64 x.f1, .string x.f2, .slice A3 x.f3.length c3, .slice A4 x.f4.length c4] 45)) (.cells #[.int .i64 0, .int .i64 0, .string ⟨#[]⟩, .slice none 0 0, .slice none 0 0] 45)
 rw [World.size_alloc] at h0
 have H0 := aM h0
 have hxb : ((w.alloc (.cells #[.int .i64 x.f0, .int .i64 x.f1, .string x.f2, .slice A3 x.f3.length c3, .slice A4 x.f4.length c4] 45)).alloc (.cells #[.int .i64 0, .int .i64 0, .string ⟨#[]⟩, .slice none 0 0, .slice none 0 0] 45)).heap[w.heap.size]? = some (.cells #[.int .i64 x.f0, .int .i64 x.f1, .string x.f2, .slice A3 x.f3.length c3, .slice A4 x.f4.length c4] 45 (0, 0)) := blk_alloc (cb_new _ _) _
 have CA := aM (toAny x hx A3 A4 c3 c4 ((w.alloc (.cells #[.int .i64 x.f0, .int .i64 x.f1, .string x.f2, .slice A3 x.f3.length c3, .slice A4 x.f4.length c4] 45)).alloc (.cells #[.int .i64 0, .int .i64 0, .string ⟨#[]⟩, .slice none 0 0, .slice none 0 0] 45)) l3 (Kd.C_below hk hb2) l4 (Kd.C_below hv hb2))
 have HFN := aM hf
 have HFY := aM hfy
 clear hb1 hb2 h0 hk hv l3 l4 hf hfy hx
 generalize anyOf x = ax at CA HFN
 obtain ⟨x0, x1, x2, x3, x4⟩ := x
 obtain ⟨yv, hy⟩ : ∃ yv, valOf y = yv := ⟨_, rfl⟩
 rw [hy]
 obtain ⟨y0, y1, y2, y3, y4⟩ := yv
 have HV := aM hy
 clear hy
 go_enter Tryz.func9, Tryz.ntmps9
 go_wp2_with (refine load_ival (.tmp 2) rfl rfl rfl hxb ?_)
 refine CA.out.mono ?_
 rintro e w1 ⟨v, rfl, ha, hb⟩
 rw [World.size_alloc, World.size_alloc] at ha
 have hsz1 := hb.size
 rw [World.size_alloc, World.size_alloc] at hsz1
 have HA1 := aM ha
 have HB1 := aM (hb_then HB.out hb)
 have H1 := aM ((hb.block _ (cb_lt H0.out)).trans H0.out)
 clear ha hb CA hxb H0
 go_wp2_with fail
 refine (implAtK w1).mono ?_
 rintro e w2 ⟨rfl, hb⟩
 have HA2 := aM (HA1.out.keep hb)
 have hsz2 := hb.size
 have HSZ := aM (show w.heap.size + 1 + 1 ≤ w2.heap.size by omega)
 have HB2 := aM (hb_then HB1.out hb)
 have H2 := aM ((hb.block _ (cb_lt H1.out)).trans H1.out)
 clear hb HA1 HB1 H1 hsz1 hsz2
 go_wp2_with fail
 refine (trans_door (w.heap.size + 1 + 1) _ _ ig w2 (HFN.out (w.heap.size + 1 + 1) w2 _ _ HSZ.out (fun k hk => hk.1.1) HA2.out)).mono ?_
 rintro e w3 ⟨v3, F3, rfl, ha, hb⟩
 have HA3 := aM ha
 have HB3 := aM (HB2.out.trans (hb.mono (by omega)))
 have H3 := aM ((hb.block _ (by omega)).trans H2.out)
 clear ha hb HA2 HB2 H2
 have cv := impl_value w3 HFY.out HA3.out
 rw [HV.out] at cv
 have CV := aM cv
 clear cv
 go_wp2_with fail
 refine CV.out.mono ?_
 rintro e w4 ⟨u3, u4, rfl, hv3, hv4, hb4⟩
 obtain ⟨E3, d3, rfl⟩ := Kd.R_slice hv3
 obtain ⟨E4, d4, rfl⟩ := Kd.R_slice hv4
 have h1 := (hb4.block _ (cb_lt H3.out)).trans H3.out
 have hg := grown_setRow w4 (w.heap.size + 1) #[.int .i64 y0, .int .i64 y1, .string y2, .slice E3 y3.length d3, .slice E4 y4.length d4]
 have HX := aM (setRow_heap _ (w.heap.size + 1) _ #[.int .i64 y0, .int .i64 y1, .string y2, .slice E3 y3.length d3, .slice E4 y4.length d4] _ _ h1)
 have hb := hb_then HB3.out hb4
 have HB8 := aM (pw_below_grown hb (some (w.heap.size + 1)) hb.size hg (fun k hk => by have := Option.some.inj hk; omega))
 have hbase := HB3.out.size
 have hlt := cb_lt H3.out
 have G3 := aM (Kd.R_lower (base' := w.heap.size) (Kd.R_mono (ok' := fun _ => True) (Kd.R_move (Kd.R_bound hv3) (fun k hk => hg.block k hk.2.2.1 (fun e => by have h2 := Option.some.inj e; have h3 := hk.2.1; omega))) (fun _ _ => trivial)) hbase)
 have G4 := aM (Kd.R_lower (base' := w.heap.size) (Kd.R_mono (ok' := fun _ => True) (Kd.R_move (Kd.R_bound hv4) (fun k hk => hg.block k hk.2.2.1 (fun e => by have h2 := Option.some.inj e; have h3 := hk.2.1; omega))) (fun _ _ => trivial)) hbase)
 clear hv3 hv4 hb4 hg hb hbase hlt HB3 H3 CV HA3
 go_wp2_with (refine store_ival (.tmp 4) (.tmp 14) rfl rfl rfl rfl h1 ?_)
 exact bodyPost_ret (v := .tuple #[.agg #[.int .i64 y0, .int .i64 y1, .string y2, .slice E3 y3.length d3, .slice E4 y4.length d4], .bool true]) (told_at rfl rfl rfl HX.out) rfl ⟨.slice E3 y3.length d3, .slice E4 y4.length d4, rfl, G3.out, G4.out, HB8.out⟩
end Go.Proofs.YtaembebbaejfiaaGreatDoor.Tr
namespace Go.Proofs.YtaembebbaejfiaaGreatDoor.MapV
open Go.RowKit Go.Maps Go.Proofs.YtaembebbaejfiaaGreatDoorW.PrintWords Go.Proofs.YtaembebbaejfiaaGreatDoor.Str
section
variable {P : Program} {k e t : TypeId} {α : Type} {enc : α → Value} {w : World} {b : Nat} {f : List (Bs × α)}
variable {ops : Array Oper} {rest : List Oper} {o : Oper} {a : Act} {Q : Exit → Act → World → Prop}
theorem insert_mapE (hk : P.underlying k = some .string) (ht : P.underlying t = some (.map k e)) (hg : o.guard = none) (m x v : Operand) (hop : o.op = Op.insert t m x v)
  (hm : a.eval m = .map (some b)) (h : MapE P k enc w b f) (hn : f.length < maxLen) {s : ByteArray} {y : α} (hx : a.eval x = .string s) (hs : s.size ≤ maxLen) (hv : a.eval v = enc y)
  (hK : ∀ w', MapE P k enc w' b (mput f (lb s) y) → w.grownBy w' (some b) → wpList P ops Q rest (a.put o.dst undef) w') : wpList P ops Q (o :: rest) a w := by
 refine wpList_plain hg fun K' hK' => ?_
 obtain ⟨w', hrun, r1, r2⟩ := World.ownsMap.update h (Go.Maps.string_keyed hk) ht hn (keyOf_s hk hs) (val := enc y) (d := .held (enc y)) (ps := []) rfl
 unfold Oper.wp
 simp [execOp, hop, hm, hx, hv, hrun, Result.andThen]
 exact hK' _ _ (hK w' (MapE.of (by rw [ent_put] at r1; exact r1)) r2)
end
end Go.Proofs.YtaembebbaejfiaaGreatDoor.MapV
namespace Go.Proofs.YtaembebbaejfiaaGreatDoor.Tr
open Go.RowKit Go.Proofs.YtaembebbaejfiaaGreatDoorW.PrintWords Go.Proofs.YtaembebbaejfiaaGreatDoorW.PrintLast Go.Proofs.YtaembebbaejfiaaGreatDoor.Str Go.Proofs.YtaembebbaejfiaaGreatDoor.Kit Go.Proofs.YtaembebbaejfiaaGreatDoor.MapV Go.Proofs.YtaembebbaejfiaaGreatDoor.Frame Go.Proofs.YtaembebbaejfiaaGreatDoor.PS
set_option linter.unusedVariables false
set_option linter.unusedSimpArgs false
def oneK : BA := ⟨#[99,111,110,116,101,120,116]⟩
def oneM (p : BA) : List (Bs × Y) := [(lb oneK, .text p)]
set_option maxHeartbeats 1600000 in
set_option maxRecDepth 100000 in
theorem one_text (B : Nat) (p : BA) (ig : Bool) (w : World) (hB : B ≤ w.heap.size) : Calls Tryz.prog 47 #[.iface 9 (.string p), .string atK, .bool ig] w (TransB B w (.map (oneM p))) := by
 have f1 := l_str_mp
 have f5 := t_str
 have hmm := @run_makeMap Tryz.prog
 have HM0 := MapAt.made w
 have HB0 := aM (below_alloc (Below.refl w.heap.size w) (.map #[] 0))
 have hmA := HM0.hm
 have HMM := aM HM0
 have HLB := aM hB
 clear HM0 hB
 go_enter Tryz.func47, Tryz.ntmps47
 go_wp2_with (refine insert_mapE (enc := (id : Value → Value)) (y := Value.iface 9 (.string p)) akey_u amap_u rfl _ _ _ rfl rfl hmA (by unfold maxLen; decide) rfl (by unfold maxLen; decide) rfl ?_; intro w4 hm4 hg4; have HM4 := aM (HMM.out.put (Below.refl _ _) (AR.text _ _) _ hm4 hg4); have HG4 := aM hg4; clear hm4 hg4)
 go_ret2
 have h5 := HM4.out
 have hb4 := pw_below_grown HB0.out _ HB0.out.size HG4.out (fun k hk => by injection hk with hk; omega)
 exact ⟨_, _, rfl, h5.done, hb4.mono HLB.out⟩
set_option maxHeartbeats 1600000 in
theorem one_map (B : Nat) (m : List (Bs × Y)) (hn : m.length ≤ 1759218604400) (hm : ∀ q, q ∈ m → ((∃ s, q.2 = .text s) ∨ ∃ b, q.2 = .bool b) ∧ findI [46] q.1 = -1 ∧ q.1.length ≤ 4398046511104 ∧ Tree.NoneT (atP ⟨q.1.toArray⟩)) (v : Value) (F : Nat → Prop) (ig : Bool) (w : World) (hB : B ≤ w.heap.size) (hF : ∀ k, F k → B ≤ k) (h : AR w v (.map m) F) :
  Calls Tryz.prog 47 #[v, .string atK, .bool ig] w (TransB B w (.map m)) := by
 cases h with
 | map b zs _ _ hy hma hz hd hb hF2 =>
  have f6 := t_map_map
  have hle : (zs.map (fun z => (z.1, z.2.1))).length ≤ 1759218604400 := by rw [List.length_map]; rw [hy, List.length_map] at hn; exact hn
  have CM := aM (trans_map b _ ig w hma hle (fun q hq => by
   obtain ⟨z, hzz, rfl⟩ := List.mem_map.1 hq
   obtain ⟨h1, h2, h3, h4⟩ := hm (z.1, z.2.2.1) (by rw [hy]; exact List.mem_map.2 ⟨z, hzz, rfl⟩)
   refine ⟨?_, h2, h3, h4⟩
   have ha := hz z hzz
   show IsLeaf z.2.1
   have h1' : (∃ s, z.2.2.1 = .text s) ∨ ∃ b, z.2.2.1 = .bool b := h1
   generalize z.2.1 = c at ha
   generalize z.2.2.2 = G at ha
   rcases h1' with ⟨s, e⟩ | ⟨s, e⟩ <;> rw [e] at ha <;> cases ha
   ·exact .inl ⟨_, rfl⟩
   ·exact .inr ⟨_, rfl⟩))
  have HZ := aM hz
  have HD := aM hd
  have HBB := aM hb
  have HFF := aM hF2
  have HY := aM hy
  have HBL := aM (hF b hb.1)
  clear hz hd hF2 hma hy hm hle hn
  go_enter Tryz.func47, Tryz.ntmps47
  go_wp2_with fail
  refine CM.out.mono ?_
  rintro e w1 ⟨rfl, hm1, hg1⟩
  have HM1 := aM hm1
  have HG1 := aM hg1
  clear hm1 hg1 CM
  go_wp2
  go_ret2
  refine ⟨_, F, rfl, .map b zs _ F HY.out HM1.out (fun z hzz => ?_) HD.out HBB.out HFF.out, pw_below_grown ((Below.refl _ w).mono hB) (some b) hB HG1.out (fun k hk => by injection hk with hk; have := HBL.out; omega)⟩
  have ht := (HZ.out z hzz).tight
  exact (ht.move (fun k hk => HG1.out.block k hk.2 (fun e => by injection e with e; subst e; exact HBB.out.2 z hzz hk.1))).mono (fun k hk => hk.1)
end Go.Proofs.YtaembebbaejfiaaGreatDoor.Tr
namespace Go.Proofs.YtaembebbaejfiaaGreatDoor.Tr
open Go.RowKit Go.Proofs.YtaembebbaejfiaaGreatDoorW.PrintWords Go.Proofs.YtaembebbaejfiaaGreatDoorW.PrintLast Go.Proofs.YtaembebbaejfiaaGreatDoor.Str Go.Proofs.YtaembebbaejfiaaGreatDoor.Kit Go.Proofs.YtaembebbaejfiaaGreatDoor.MapV Go.Proofs.YtaembebbaejfiaaGreatDoor.Frame Go.Proofs.YtaembebbaejfiaaGreatDoor.PS
open Go.Proofs.YtaembebbaejfiaaGreatDoor.Val (place placeI placeB placeI_hit placeI_end)
set_option linter.unusedVariables false
set_option linter.unusedSimpArgs false
theorem oneM_put (p : BA) : mput ([] : List (Bs × Y)) (lb oneK) (Y.text p) = oneM p := rfl
theorem maps_one (p : BA) : anyOf (toI (mapsOf [oneK] [leaf 3 0 p])) = .map (oneM p) ∧ Canon (mapsOf [oneK] [leaf 3 0 p]) ∧ (p.size ≤ 140737488355328 → SmallS (mapsOf [oneK] [leaf 3 0 p])) := by
 obtain ⟨a, b, c, d, e, f⟩ := fitW_facts [oneK] [leaf 3 0 p] [] [] rfl List.Pairwise.nil
 have hz := fitW_mput (fun v => anyOf (toI v)) [oneK] [leaf 3 0 p] [] [] List.Pairwise.nil rfl rfl
 unfold mapsOf
 generalize fitW [oneK] [leaf 3 0 p] [] [] = KV at *
 obtain ⟨K, V⟩ := KV
 have hm : ∀ v, v ∈ V → v = leaf 3 0 p := fun v hv => by
  rcases f v hv with h | h
  ·cases h
  ·simpa using h
 refine ⟨?_, .map K V b a (fun v hv => ?_), fun hp => .mk _ (Nat.zero_le _) (fun s h => ?_) (by show K.length ≤ _; simp at c; omega) (by show V.length ≤ _; simp at d; omega) (fun v hv => ?_)⟩
 ·rw [canon_anyOf_map b, anyL_map, toL_map, List.map_map]
  refine congrArg Y.map (Eq.trans hz ?_)
  rw [← oneM_put]
  simp [leaf, toI, toL, anyOf]
 ·rw [hm v hv]
  exact .text p
 ·rcases e s h with h | h
  ·cases h
  ·simp at h
   rw [h]; unfold maxLen; decide
 ·rw [hm v hv]
  exact leaf_small _ _ _ hp
theorem one_fits (p : BA) : FitsY (.map (oneM p)) := by
 refine .map _ (by simp [oneM]) (fun q hq => ?_) (fun q hq => ?_)
 ·simp [oneM] at hq
  rw [hq]
  show (lb oneK).length ≤ maxLen; unfold maxLen; decide
 ·simp [oneM] at hq
  rw [hq]
  exact .text _
theorem one_none : Tree.NoneT (atP ⟨(lb oneK).toArray⟩) := by unfold Tree.NoneT; decide +kernel
theorem one_dot : findI [46] (lb oneK) = -1 := by decide +kernel
theorem one_len : (lb oneK).length ≤ 4398046511104 := by decide +kernel
theorem turns_one (p : BA) (x : VS) (hs : SmallS x) (hf : anyOf (toI x) = .text p ∨ anyOf (toI x) = .map (oneM p)) (ig : Bool) : Turns ig (toI x) (valOf (.map (oneM p))) := by
 intro w A3 A4 c3 c4 l3 hk l4 hv
 refine impl_trans (toI x) (small_to x hs) _ (one_fits p) ig (fun B W v F hB hF ha => ?_) A3 A4 c3 c4 w l3 hk l4 hv
 rcases hf with h | h
 ·rw [h] at ha
  obtain rfl : v = .iface 9 (.string p) := by cases ha; rfl
  exact one_text B p ig W hB
 ·rw [h] at ha
  refine one_map B (oneM p) (by simp [oneM]) (fun q hq => ?_) v F ig W hB hF ha
  simp [oneM] at hq
  subst hq
  exact ⟨.inl ⟨p, rfl⟩, one_dot, one_len, one_none⟩
end Go.Proofs.YtaembebbaejfiaaGreatDoor.Tr
namespace Go.Proofs.YtaembebbaejfiaaGreatDoor.Tr
open Go.RowKit Go.Proofs.YtaembebbaejfiaaGreatDoorW.PrintWords Go.Proofs.YtaembebbaejfiaaGreatDoorW.PrintLast Go.Proofs.YtaembebbaejfiaaGreatDoor.Str Go.Proofs.YtaembebbaejfiaaGreatDoor.Kit Go.Proofs.YtaembebbaejfiaaGreatDoor.MapV Go.Proofs.YtaembebbaejfiaaGreatDoor.Frame Go.Proofs.YtaembebbaejfiaaGreatDoor.PS
set_option linter.unusedVariables false
set_option linter.unusedSimpArgs false
def TurnwiseE (W w : World) (b : Nat) (ps : List (BA × VS)) : Prop := b < w.heap.size ∧ ∀ (j : Nat) (hj : j < ps.length), ∃ A5 c5 A6 c6, w.cell? ⟨b, 2 * j, none⟩ = some (.iface 9 (.string ps[j].1)) ∧ w.cell? ⟨b, 2 * j + 1, none⟩ = some (.iface 25 (.agg #[.int .i64 ps[j].2.f0, .int .i64 ps[j].2.f1, .string ps[j].2.f2, .slice A5 ps[j].2.f3.length c5, .slice A6 ps[j].2.f4.length c6]))
 ∧ kS.K W ps[j].2 [.int .i64 ps[j].2.f0, .int .i64 ps[j].2.f1, .string ps[j].2.f2, .slice A5 ps[j].2.f3.length c5, .slice A6 ps[j].2.f4.length c6]
theorem TurnwiseE.below {W w w1 : World} {b : Nat} {ps : List (BA × VS)} (h : TurnwiseE W w b ps) (hb : Below w.heap.size w w1) : TurnwiseE W w1 b ps :=
 ⟨Nat.lt_of_lt_of_le h.1 hb.size, fun j hj => by
  obtain ⟨A5, c5, A6, c6, h1, h2, h3⟩ := h.2 j hj
  exact ⟨A5, c5, A6, c6, pw_cell_below hb h1, pw_cell_below hb h2, h3⟩⟩
set_option maxHeartbeats 6400000 in
set_option maxRecDepth 100000 in
theorem specME (W : World) (ps : List (BA × VS)) (hps : ps.length ≤ 1000000) (b n c : Nat) (hn : n = 2 * ps.length) (w : World) (h : TurnwiseE W w b ps) :
  Calls Tryz.prog 13 #[.slice (some ⟨b, 0, none⟩) n c] w (GivesR W (mapsOf (ps.map (·.1)) (ps.map (·.2))) w) := by
 obtain ⟨KF, VF, hF⟩ : ∃ KF VF, fitW (ps.map (·.1)) (ps.map (·.2)) [] [] = (KF, VF) := ⟨_, _, rfl⟩
 have hgoal : mapsOf (ps.map (·.1)) (ps.map (·.2)) = ⟨5, 0, ⟨#[]⟩, KF, VF⟩ := by unfold mapsOf; rw [hF]
 rw [hgoal]
 have HB := aM (below_alloc (Below.refl w.heap.size w) (.cells zC 25))
 have hrb := cb_new w (.cells zC 25)
 have HR0 := aM hrb
 have HT := aM h
 have HF := aM hF
 have HN := aM hn
 have HPS := aM hps
 have hbw := h.1
 clear h hgoal hrb hF hn hps
 have CE := aM (empty_gives (w.alloc (.cells zC 25)))
 go_enter Tryz.func13, Tryz.ntmps13
 go_wp2_with fail
 refine CE.out.mono ?_
 rintro e w1 ⟨rfl, hb⟩
 have hbn := below_alloc (Below.refl w1.heap.size w1) (.cells #[.int .i64 5, .int .i64 0, .string ⟨#[]⟩, .slice none 0 0, .slice none 0 0] 25)
 have hsz1 := hb.size
 rw [World.size_alloc] at hsz1
 have HB2 := aM (hb_then (hb_then HB.out hb) hbn)
 have HR2 := aM (blk_alloc ((hb.block _ (cb_lt HR0.out)).trans HR0.out) (.cells #[.int .i64 5, .int .i64 0, .string ⟨#[]⟩, .slice none 0 0, .slice none 0 0] 25))
 have HG2 := aM (cb_new w1 (.cells #[.int .i64 5, .int .i64 0, .string ⟨#[]⟩, .slice none 0 0, .slice none 0 0] 25))
 clear hb hbn CE HB HR0
 go_wp2
 generalize hW2 : w1.alloc _ = W2 at HB2 HR2 HG2 ⊢
 generalize hb3 : w1.heap.size = b3 at HG2 hsz1 ⊢
 clear hW2 hb3
 go_loopw [4] (fun v wr => ∃ (i m : Nat) (Ks : List BA) (Vs : List VS) (A7 A8 : Option Addr) (c7 c8 : Nat), v = .int .i64 m ∧ Aside0 (m = 2 * i) ∧ Aside0 (i ≤ ps.length) ∧ Aside0 (Ks.length = Vs.length) ∧ Aside0 (Vs.length ≤ i) ∧ Aside0 (fitW ((ps.map (·.1)).drop i) ((ps.map (·.2)).drop i) Ks Vs = (KF, VF))
  ∧ Aside0 (wr.heap[b3]? = some (.cells #[.int .i64 5, .int .i64 0, .string ⟨#[]⟩, .slice A7 Ks.length c7, .slice A8 Vs.length c8] 25 (0, 0)))
  ∧ Aside0 (wr.heap[w.heap.size]? = some (.cells zC 25 (0, 0))) ∧ Aside0 (Below w.heap.size w wr)
  ∧ Aside0 (Kd.string.R 9 wr b3 (fun k => b3 < k) (.slice A7 Ks.length c7) Ks)
  ∧ Aside0 ((kFix W).R 25 wr b3 (fun k => b3 < k) (.slice A8 Vs.length c8) Vs)) (fun v _ => n - (intOf v).toNat)
 case atStart => exact ⟨0, 0, [], [], none, none, 0, 0, rfl, ⟨rfl⟩, ⟨Nat.zero_le _⟩, ⟨rfl⟩, ⟨Nat.le_refl _⟩, HF, HG2, HR2, HB2, ⟨Kd.R_nil _ _ _ _ _⟩, ⟨Kd.R_nil _ _ _ _ _⟩⟩
 case round =>
  clear HG2 HR2 HB2
  obtain ⟨i, m, Ks, Vs, A7, A8, c7, c8, rfl, HM, HI, HKV, HVI, HFI, HG, HR, HB, HK, HV⟩ := hrel
  have q0 : (0 : Int) ≤ (m : Int) := by omega
  by_cases hlv : i < ps.length
  ·obtain ⟨A5, c5, A6, c6, h1, h2, h3⟩ := HT.out.2 i hlv
   have m0 := pw_cell_below HB.out h1
   have m1 := pw_cell_below HB.out h2
   rw [← HM.out] at m0 m1
   obtain ⟨key, hkey⟩ : ∃ key, ps[i].1 = key := ⟨_, rfl⟩
   obtain ⟨u, hu⟩ : ∃ u, ps[i].2 = u := ⟨_, rfl⟩
   rw [hkey] at m0
   rw [hu] at m1 h3
   have HU := aM (show ∃ h : i < ps.length, ps[i].1 = key ∧ ps[i].2 = u from ⟨hlv, hkey, hu⟩)
   obtain ⟨u0, u1, u2, u3, u4⟩ := u
   have HKE := aM h3
   have HLV := aM hlv
   have q1 : (m : Int) + 1 < (n : Int) := by have := HM.out; have := HN.out; omega
   have q3 : (m : Int) < (n : Int) := by omega
   have q4 : (0 : Int) ≤ (m : Int) + 1 := by omega
   have q6 : ((m : Int) + 1).toNat = m + 1 := by omega
   have hd1 : decide ((m : Int) + 1 < (n : Int)) = true := decide_eq_true q1
   have e0 : wr.cell? ⟨b3, 0, none⟩ = some (.int .i64 5) := cb_cell (i := 0) HG.out rfl
   have e1 : wr.cell? ⟨b3, 1, none⟩ = some (.int .i64 0) := cb_cell (i := 1) HG.out rfl
   have e2 : wr.cell? ⟨b3, 2, none⟩ = some (.string ⟨#[]⟩) := cb_cell (i := 2) HG.out rfl
   have e3 : wr.cell? ⟨b3, 3, none⟩ = some (.slice A7 Ks.length c7) := cb_cell (i := 3) HG.out rfl
   have e4 : wr.cell? ⟨b3, 4, none⟩ = some (.slice A8 Vs.length c8) := cb_cell (i := 4) HG.out rfl
   have hvn : Vs.length ≤ 1759218604400 := by have := HVI.out; have := HI.out; have := HPS.out; omega
   obtain ⟨_, l7, r7⟩ := Kd.R_reads' HK.out
   obtain ⟨_, l8, r8⟩ := Kd.R_reads' HV.out
   obtain ⟨K2, hK2⟩ : ∃ K2, withK Ks key = K2 := ⟨_, rfl⟩
   obtain ⟨V2, hV2⟩ : ∃ V2, withV Ks Vs key (⟨u0, u1, u2, u3, u4⟩ : VS) = V2 := ⟨_, rfl⟩
   have hl1 := withV_length (key := key) (x := (⟨u0, u1, u2, u3, u4⟩ : VS)) HKV.out
   have hl2 := withK_length (ks := Ks) (key := key)
   rw [hK2] at hl1 hl2
   rw [hV2] at hl1
   have HL1 := aM hl1.symm
   have HL2 := aM (show V2.length ≤ i + 1 by have := HVI.out; have := HKV.out; omega)
   have HNX := aM (show fitW ((ps.map (·.1)).drop (i + 1)) ((ps.map (·.2)).drop (i + 1)) K2 V2 = (KF, VF) by
    have := HFI.out
    rw [List.drop_eq_getElem_cons (show i < (ps.map (·.1)).length by rw [List.length_map]; exact hlv), List.drop_eq_getElem_cons (show i < (ps.map (·.2)).length by rw [List.length_map]; exact hlv), List.getElem_map, List.getElem_map, hkey, hu, fitW, hK2, hV2] at this
    exact this)
   have CW := aM (WithP (fun x cs => kS.K W x cs) (fun hp => kS.K_len hp) (fun hp => kS.K_one hp) (A3 := A7) (A4 := A8) (c3 := c7) (c4 := c8) (A5 := A5) (A6 := A6) (c5 := c5) (c6 := c6) 5 0 ⟨#[]⟩ Ks Vs key (⟨u0, u1, u2, u3, u4⟩ : VS) wr.drew (Kd.C_below r7 (below_drew (Below.refl _ _))) (ReadsRow.imp_ r8 (below_drew (Below.refl _ _)) (fun _ _ hp => hp)) HKE.out HKV.out hvn K2 V2 hK2 hV2)
   have HLT := aM (cb_lt HG.out)
   have q5 : wrap64 ((m : Int) + 1) = (m : Int) + 1 := by have := HPS.out; have := HN.out; unfold wrap64; omega
   have ns := need_str
   have nv := need_val
   clear h1 h2 h3 hkey hu hl1 hl2 hK2 hV2 l7 r7 l8 r8 hlv hvn
   go_wp2_with fail
   refine start_ (n := 14) (S := fun w' => w'.cell? ⟨b3, 0, none⟩ = some (.int .i64 5) ∧ w'.cell? ⟨b3, 1, none⟩ = some (.int .i64 0) ∧ w'.cell? ⟨b3, 2, none⟩ = some (.string ⟨#[]⟩) ∧ w'.cell? ⟨b3, 3, none⟩ = some (.slice A7 Ks.length c7) ∧ w'.cell? ⟨b3, 4, none⟩ = some (.slice A8 Vs.length c8) ∧ w'.cell? ⟨b, m, none⟩ = some (.iface 9 (.string key)) ∧ w'.cell? ⟨b, m + 1, none⟩ = some (.iface 25 (.agg #[.int .i64 u0, .int .i64 u1, .string u2, .slice A5 u3.length c5, .slice A6 u4.length c6]))) (ds := [12, 13]) #[false, false, false, false, false, false, false, false, false, false, false, false, false, false] (by kernel_rfl) rfl rfl ⟨e0, e1, e2, e3, e4, m0, m1⟩ (fun hHeld => ?_)
   refine pure_ (i := 1) (N := some 14) (v := ?_) (a' := ?_) #[false, true, false, false, false, false, false, false, false, false, false, false, false, false] rfl rfl (by kernel_rfl) (fun _ _ _ h => h) (Or.inl ⟨by rfl, ?_⟩) ?_ ?_
   rotate_left
   ·intro w'; go_simp; with_reducible rfl
   rotate_left
   ·simp only [Act.put, sA, sB, sC, i64_w, i32_w]; rfl
   refine pure_ (i := 2) (N := some 15) (v := ?_) (a' := ?_) #[false, true, true, false, false, false, false, false, false, false, false, false, false, false] rfl rfl (by kernel_rfl) (fun _ _ _ h => h) (Or.inl ⟨by rfl, ?_⟩) ?_ ?_
   rotate_left
   ·intro w'; go_simp; with_reducible rfl
   rotate_left
   ·simp only [Act.put, sA, sB, sC, i64_w, i32_w]; rfl
   refine pure_ (i := 3) (N := some 16) (v := ?_) (a' := ?_) #[false, true, true, true, false, false, false, false, false, false, false, false, false, false] rfl rfl (by kernel_rfl) (fun _ _ _ h => h) (Or.inl ⟨by rfl, ?_⟩) ?_ ?_
   rotate_left
   ·intro w'; go_simp; with_reducible rfl
   rotate_left
   ·simp only [Act.put, sA, sB, sC, i64_w, i32_w]; rfl
   refine pure_ (i := 6) (N := some 19) (v := ?_) (a' := ?_) #[false, true, true, true, false, false, true, false, false, false, false, false, false, false] rfl rfl (by kernel_rfl) (fun _ _ _ h => h) (Or.inl ⟨by rfl, ?_⟩) ?_ ?_
   rotate_left
   ·intro w'; go_simp; with_reducible rfl
   rotate_left
   ·simp only [Act.put, sA, sB, sC, i64_w, i32_w]; rfl
   refine pure_ (i := 7) (N := some 20) (v := ?_) (a' := ?_) #[false, true, true, true, false, false, true, true, false, false, false, false, false, false] rfl rfl (by kernel_rfl) (fun _ _ _ h => h) (Or.inl ⟨by rfl, ?_⟩) ?_ ?_
   rotate_left
   ·intro w'; go_simp; with_reducible rfl
   rotate_left
   ·simp only [Act.put, sA, sB, sC, i64_w, i32_w]; rfl
   refine pure_ (i := 8) (N := some 21) (v := ?_) (a' := ?_) #[false, true, true, true, false, false, true, true, true, false, false, false, false, false] rfl rfl (by kernel_rfl) (fun _ _ _ h => h) (Or.inl ⟨by rfl, ?_⟩) ?_ ?_
   rotate_left
   ·intro w'; go_simp; with_reducible rfl
   rotate_left
   ·simp only [Act.put, sA, sB, sC, i64_w, i32_w]; rfl
   refine pure_ (i := 9) (N := some 22) (v := ?_) (a' := ?_) #[false, true, true, true, false, false, true, true, true, true, false, false, false, false] rfl rfl (by kernel_rfl) (fun _ _ _ h => h) (Or.inl ⟨by rfl, ?_⟩) ?_ ?_
   rotate_left
   ·intro w'; go_simp; with_reducible rfl
   rotate_left
   ·simp only [Act.put, sA, sB, sC, i64_w, i32_w]; rfl
   refine take_ (i := 0) (N := some 13) (v := ?_) (a' := ?_) #[true, true, true, true, false, false, true, true, true, true, false, false, false, false] rfl rfl (by kernel_rfl) (fun _ _ _ h => h) (Or.inl ⟨by rfl, ?_⟩) hHeld ?_ ?_
   rotate_left
   ·rintro w' ⟨s0, s1, s2, s3, s4, s5, s6⟩
    go_simp; with_reducible rfl
   rotate_left
   ·simp only [Act.put, sA, sB, sC, i64_w, i32_w]; rfl
   refine take_ (i := 4) (N := some 17) (v := ?_) (a' := ?_) #[true, true, true, true, true, false, true, true, true, true, false, false, false, false] rfl rfl (by kernel_rfl) (fun _ _ _ h => h) (Or.inl ⟨by rfl, ?_⟩) hHeld ?_ ?_
   rotate_left
   ·rintro w' ⟨s0, s1, s2, s3, s4, s5, s6⟩
    go_simp; with_reducible rfl
   rotate_left
   ·simp only [Act.put, sA, sB, sC, i64_w, i32_w]; rfl
   refine pure_ (i := 5) (N := some 18) (v := ?_) (a' := ?_) #[true, true, true, true, true, true, true, true, true, true, false, false, false, false] rfl rfl (by kernel_rfl) (fun _ _ _ h => h) (Or.inl ⟨by rfl, ?_⟩) ?_ ?_
   rotate_left
   ·intro w'; go_simp; with_reducible rfl
   rotate_left
   ·simp only [Act.put, sA, sB, sC, i64_w, i32_w]; rfl
   refine take_ (i := 10) (N := some 23) (v := ?_) (a' := ?_) #[true, true, true, true, true, true, true, true, true, true, true, false, false, false] rfl rfl (by kernel_rfl) (fun _ _ _ h => h) (Or.inl ⟨by rfl, ?_⟩) hHeld ?_ ?_
   rotate_left
   ·rintro w' ⟨s0, s1, s2, s3, s4, s5, s6⟩
    go_simp; with_reducible rfl
   rotate_left
   ·simp only [Act.put, sA, sB, sC, i64_w, i32_w]; rfl
   refine pure_ (i := 11) (N := some 24) (v := ?_) (a' := ?_) #[true, true, true, true, true, true, true, true, true, true, true, true, false, false] rfl rfl (by kernel_rfl) (fun _ _ _ h => h) (Or.inl ⟨by rfl, ?_⟩) ?_ ?_
   rotate_left
   ·intro w'; go_simp; with_reducible rfl
   rotate_left
   ·simp only [Act.put, sA, sB, sC, i64_w, i32_w]; rfl
   refine last_ (i := 12) (N := some 25) #[true, true, true, true, true, true, true, true, true, true, true, true, true, false] rfl rfl (by kernel_rfl) (by decide) (fun K hK => ?_)
   refine goes_ Tryz.func18 (by kernel_rfl) rfl #[.agg #[.int .i64 5, .int .i64 0, .string ⟨#[]⟩, .slice A7 Ks.length c7, .slice A8 Vs.length c8], .string key, .agg #[.int .i64 u0, .int .i64 u1, .string u2, .slice A5 u3.length c5, .slice A6 u4.length c6]] (by rfl) rfl rfl (by simp only [List.map_toArray, List.map_cons, List.map_nil]; rfl) ?_
   with_reducible refine (CW.out).mono ?_
   rintro e w4 ⟨B7, d7, B8, d8, rfl, k1, k2, hb⟩
   refine ⟨_, rfl, ?_⟩
   refine hK.out _ _ ?_
   clear hK K
   refine norm_ (a' := ?_) ?_ ?_
   rotate_left
   ·show Act.put _ (some 25) _ = _
    simp only [Act.put, sA, sB, sC, i64_w, i32_w]; rfl
   refine last_ (i := 13) (N := none) #[true, true, true, true, true, true, true, true, true, true, true, true, true, true] rfl rfl (by kernel_rfl) (by decide) (fun K hK => ?_)
   have HB4 := aM (hb_then (below_drew HB.out) hb)
   have HG4 := aM ((hb.block _ (cb_lt (show wr.drew.heap[b3]? = _ from HG.out))).trans HG.out)
   have HR4 := aM ((hb.block _ (cb_lt (show wr.drew.heap[w.heap.size]? = _ from HR.out))).trans HR.out)
   refine store_row_step (w := w4) rfl rfl 25 (.tmp 3) (.tmp 25) rfl b3 #[.int .i64 5, .int .i64 0, .string ⟨#[]⟩, .slice B7 K2.length d7, .slice B8 V2.length d8] rfl rfl 25 _ HG4.out val_size rfl (val_one _ _ _ _ _ _ _ _ _) ?_
   refine hK.out _ _ ?_
   clear hK K
   refine done_ (by kernel_rfl) ?_
   have hlw : b3 < wr.drew.heap.size := HLT.out
   have hg := grown_setRow w4 b3 #[.int .i64 5, .int .i64 0, .string ⟨#[]⟩, .slice B7 K2.length d7, .slice B8 V2.length d8]
   have HG5 := aM (setRow_heap w4 b3 _ #[.int .i64 5, .int .i64 0, .string ⟨#[]⟩, .slice B7 K2.length d7, .slice B8 V2.length d8] _ _ HG4.out)
   have HR5 := aM ((setRow_other w4 b3 w.heap.size #[.int .i64 5, .int .i64 0, .string ⟨#[]⟩, .slice B7 K2.length d7, .slice B8 V2.length d8] (by omega)).trans HR4.out)
   have HB5 := aM (pw_below_grown HB4.out (some b3) HB4.out.size hg (fun k hk => by injection hk with hk; omega))
   have HK5 := aM (Kd.R_grown (Kd.R_lower (Kd.R_mono (Kd.R_bound k1) (ok' := fun k => b3 < k) (fun k h => Nat.lt_of_lt_of_le hlw h.2.1)) (Nat.le_of_lt hlw)) hg (fun k hk e => by injection e with e; omega))
   have HV5 := aM (Kd.R_grown (Kd.R_lower (Kd.R_mono (Kd.R_bound k2) (ok' := fun k => b3 < k) (fun k h => Nat.lt_of_lt_of_le hlw h.2.1)) (Nat.le_of_lt hlw)) hg (fun k hk e => by injection e with e; omega))
   clear hg k1 k2 HG4 HR4 HB4 hHeld hb hlw e0 e1 e2 e3 e4 m0 m1 q5
   have q7 : wrap64 ((m : Int) + 2) = ((m + 2 : Nat) : Int) := by have := HM.out; have := HLV.out; have := HPS.out; unfold wrap64; omega
   generalize w4.setRow b3 #[.int .i64 5, .int .i64 0, .string ⟨#[]⟩, .slice B7 K2.length d7, .slice B8 V2.length d8] = w5 at HG5 HR5 HB5 HK5 HV5 ⊢
   go_wp2
   go_roundw
   case rel => exact ⟨i + 1, m + 2, K2, V2, B7, B8, d7, d8, congrArg (Value.int .i64) q7, ⟨by have := HM.out; clear q7; omega⟩, ⟨HLV.out⟩, HL1, HL2, HNX, HG5, HR5, HB5, HK5, HV5⟩
   case measure =>
    rw [q7]
    clear q7
    have h1 := HM.out
    have h2 := HN.out
    have h3 := HLV.out
    simp [intOf]
    omega
  ·have hil : i = ps.length := by have := HI.out; omega
   have q1 : ¬ (m : Int) + 1 < (n : Int) := by have := HM.out; have := HN.out; omega
   have q5 : wrap64 ((m : Int) + 1) = (m : Int) + 1 := by have h1 := HM.out; have h2 := HI.out; have h3 := HPS.out; unfold wrap64; omega
   have hd1 : decide ((m : Int) + 1 < (n : Int)) = false := decide_eq_false q1
   have hF1 : (Ks, Vs) = (KF, VF) := by
    have := HFI.out
    rw [List.drop_eq_nil_of_le (show (ps.map (·.1)).length ≤ i by rw [List.length_map]; omega), List.drop_eq_nil_of_le (show (ps.map (·.2)).length ≤ i by rw [List.length_map]; omega)] at this
    exact this
   obtain ⟨rfl, rfl⟩ := Prod.mk.inj hF1
   clear hF1 hil q1
   go_wp2_with (first | refine load_val (.tmp 3) rfl rfl rfl HG.out ?_ | refine store_val (.tmp 2) (.tmp 26) rfl rfl rfl rfl HR.out ?_)
   clear q5
   have hg := grown_setRow wr w.heap.size #[.int .i64 5, .int .i64 0, .string ⟨#[]⟩, .slice A7 Ks.length c7, .slice A8 Vs.length c8]
   have h5 := setRow_heap wr w.heap.size _ #[.int .i64 5, .int .i64 0, .string ⟨#[]⟩, .slice A7 Ks.length c7, .slice A8 Vs.length c8] _ _ HR.out
   have hB := pw_below_grown HB.out (some w.heap.size) HB.out.size hg (fun k hk => by injection hk with hk; have h2 : w.heap.size = k := hk; omega)
   have hK := Kd.R_grown HK.out hg (fun k hk e => by injection e with e; omega)
   have hV := Kd.R_grown HV.out hg (fun k hk e => by injection e with e; omega)
   exact bodyPost_ret (v := .agg #[.int .i64 5, .int .i64 0, .string ⟨#[]⟩, .slice A7 Ks.length c7, .slice A8 Vs.length c8]) (val_result rfl rfl h5) rfl ⟨_, _, rfl, Kd.R_lower (Kd.R_mono hK (fun k hk => by omega)) (by omega), Kd.R_lower (Kd.R_mono hV (fun k hk => by omega)) (by omega), hB⟩
theorem turnwiseE1 (w : World) (k1 : BA) (x : VS) (A3 A4 : Option Addr) (c3 c4 : Nat) (W : World) (hx : Reads W x A3 c3 A4 c4) :
  TurnwiseE W (w.alloc (.cells #[.iface 9 (.string k1), .iface 25 (.agg #[.int .i64 x.f0, .int .i64 x.f1, .string x.f2, .slice A3 x.f3.length c3, .slice A4 x.f4.length c4])] 20)) w.heap.size [(k1, x)] := by
 have hn := cb_new w (.cells #[.iface 9 (.string k1), .iface 25 (.agg #[.int .i64 x.f0, .int .i64 x.f1, .string x.f2, .slice A3 x.f3.length c3, .slice A4 x.f4.length c4])] 20)
 refine ⟨by rw [World.size_alloc]; omega, fun j hj => ?_⟩
 match j, hj with
 | 0, _ => exact ⟨A3, c3, A4, c4, cb_cell (i := 0) hn rfl, cb_cell (i := 1) hn rfl, k25_mk _ x hx.l3 hx.hk hx.l4 hx.hv⟩
 | _ + 1, h => exact absurd h (by simp)
theorem m_givesE (w : World) (k1 : BA) (x : VS) (A3 A4 : Option Addr) (c3 c4 : Nat) (W : World) (hx : Reads W x A3 c3 A4 c4) :
  Calls Tryz.prog 13 #[.slice (some ⟨w.heap.size, 0, none⟩) 2 2] (w.alloc (.cells #[.iface 9 (.string k1), .iface 25 (.agg #[.int .i64 x.f0, .int .i64 x.f1, .string x.f2, .slice A3 x.f3.length c3, .slice A4 x.f4.length c4])] 20)) (GivesR W (mapsOf [k1] [x]) (w.alloc (.cells #[.iface 9 (.string k1), .iface 25 (.agg #[.int .i64 x.f0, .int .i64 x.f1, .string x.f2, .slice A3 x.f3.length c3, .slice A4 x.f4.length c4])] 20))) :=
 specME W [(k1, x)] (by simp) w.heap.size 2 2 rfl _ (turnwiseE1 w k1 x A3 A4 c3 c4 W hx)
end Go.Proofs.YtaembebbaejfiaaGreatDoor.Tr
namespace Go.Proofs.YtaembebbaejfiaaGreatDoor.Tr
open Go.RowKit Go.Proofs.YtaembebbaejfiaaGreatDoorW.PrintWords Go.Proofs.YtaembebbaejfiaaGreatDoorW.PrintLast Go.Proofs.YtaembebbaejfiaaGreatDoor.Str Go.Proofs.YtaembebbaejfiaaGreatDoor.Kit Go.Proofs.YtaembebbaejfiaaGreatDoor.MapV Go.Proofs.YtaembebbaejfiaaGreatDoor.Frame Go.Proofs.YtaembebbaejfiaaGreatDoor.PS
open Go.Proofs.YtaembebbaejfiaaGreatDoor.Val (place placeI placeB placeI_hit placeI_end)
set_option linter.unusedVariables false
set_option linter.unusedSimpArgs false
def KnownM (x : VS) : Prop := x.f0 = 5 ∧ x.f3.length ≤ x.f4.length ∧ ∀ (j : Nat) (hj : j < x.f3.length) (hj4 : j < x.f4.length), KnownAt wordsB truthsB x.f3[j] x.f4[j]
def BuildSaid (x z : VS) (b : Bool) : Prop := b = true → (x.f0 = 3 ∧ z = mapsOf [oneK] [x]) ∨ (KnownM x ∧ z = x)
theorem said_at {fn : Func} {p q : Tmp} (hr : fn.results = #[.cell p 25, .tmp q]) {tmps : Array Value} {W : World} {b n3 c3 n4 c4 : Nat} {k n : Int} {t : BA} {A3 A4 : Option Addr} {v : Value} (hp : tmps.getD p undef = .pointer (some ⟨b, 0, none⟩)) (h3 : tmps.getD q undef = v) (hb : W.heap[b]? = some (.cells #[.int .i64 k, .int .i64 n, .string t, .slice A3 n3 c3, .slice A4 n4 c4] 25 (0, 0))) :
  (results fn tmps).run Tryz.prog W = .ok (.tuple #[.agg #[.int .i64 k, .int .i64 n, .string t, .slice A3 n3 c3, .slice A4 n4 c4], v]) W := by
 have := results_ct (P := Tryz.prog) hr tmps W b 25 _ (0, 0) _ hp hb Tryz.underlying25 rfl val_size
 rw [h3] at this
 exact this
set_option maxHeartbeats 3200000 in
set_option maxRecDepth 100000 in
theorem mergeBuild_map (x : VS) (h5 : x.f0 = 5) (A3 A4 : Option Addr) (c3 c4 : Nat) (w : World) (h : Reads w x A3 c3 A4 c4) :
  Calls Tryz.prog 20 #[.agg #[.int .i64 x.f0, .int .i64 x.f1, .string x.f2, .slice A3 x.f3.length c3, .slice A4 x.f4.length c4]] w fun e w' => e = .returned (.agg #[.int .i64 x.f0, .int .i64 x.f1, .string x.f2, .slice A3 x.f3.length c3, .slice A4 x.f4.length c4]) ∧ Below w.heap.size w w' := by
 obtain ⟨x0, x1, x2, x3, x4⟩ := x
 have e5 : x0 = 5 := h5
 subst e5
 have HB := aM (below_alloc (below_alloc (Below.refl w.heap.size w) (.cells #[.int .i64 5, .int .i64 x1, .string x2, .slice A3 x3.length c3, .slice A4 x4.length c4] 25)) (.cells zC 25))
 have hxb : ((w.alloc (.cells #[.int .i64 5, .int .i64 x1, .string x2, .slice A3 x3.length c3, .slice A4 x4.length c4] 25)).alloc (.cells zC 25)).heap[w.heap.size]? = some (.cells #[.int .i64 5, .int .i64 x1, .string x2, .slice A3 x3.length c3, .slice A4 x4.length c4] 25 (0, 0)) := blk_alloc (cb_new _ _) _
 have hrb := cb_new (w.alloc (.cells #[.int .i64 5, .int .i64 x1, .string x2, .slice A3 x3.length c3, .slice A4 x4.length c4] 25)) (.cells zC 25)
 rw [World.size_alloc] at hrb
 go_enter Tryz.func20, Tryz.ntmps20
 go_wp2_with (first | refine load_val (.tmp 1) rfl rfl rfl hxb ?_ | refine store_val (.tmp 2) (.tmp 11) rfl rfl rfl rfl hrb ?_)
 have hg := grown_setRow ((w.alloc (.cells #[.int .i64 5, .int .i64 x1, .string x2, .slice A3 x3.length c3, .slice A4 x4.length c4] 25)).alloc (.cells zC 25)) (w.heap.size + 1) #[.int .i64 5, .int .i64 x1, .string x2, .slice A3 x3.length c3, .slice A4 x4.length c4]
 have hB := pw_below_grown HB.out (some (w.heap.size + 1)) HB.out.size hg (fun k hk => by injection hk with hk; omega)
 exact bodyPost_ret (v := .agg #[.int .i64 5, .int .i64 x1, .string x2, .slice A3 x3.length c3, .slice A4 x4.length c4]) (val_result rfl rfl (setRow_heap _ (w.heap.size + 1) _ _ _ _ hrb)) rfl ⟨rfl, hB⟩
set_option maxHeartbeats 3200000 in
set_option maxRecDepth 100000 in
theorem mergeBuild_text (W0 : World) (x : VS) (h3 : x.f0 = 3) (A3 A4 : Option Addr) (c3 c4 : Nat) (w : World) (h : Reads W0 x A3 c3 A4 c4) :
  Calls Tryz.prog 20 #[.agg #[.int .i64 x.f0, .int .i64 x.f1, .string x.f2, .slice A3 x.f3.length c3, .slice A4 x.f4.length c4]] w (GivesR W0 (mapsOf [oneK] [x]) w) := by
 have HB := aM (below_alloc (below_alloc (Below.refl w.heap.size w) (.cells #[.int .i64 x.f0, .int .i64 x.f1, .string x.f2, .slice A3 x.f3.length c3, .slice A4 x.f4.length c4] 25)) (.cells zC 25))
 have hxb : ((w.alloc (.cells #[.int .i64 x.f0, .int .i64 x.f1, .string x.f2, .slice A3 x.f3.length c3, .slice A4 x.f4.length c4] 25)).alloc (.cells zC 25)).heap[w.heap.size]? = some (.cells #[.int .i64 x.f0, .int .i64 x.f1, .string x.f2, .slice A3 x.f3.length c3, .slice A4 x.f4.length c4] 25 (0, 0)) := blk_alloc (cb_new _ _) _
 have hrb := cb_new (w.alloc (.cells #[.int .i64 x.f0, .int .i64 x.f1, .string x.f2, .slice A3 x.f3.length c3, .slice A4 x.f4.length c4] 25)) (.cells zC 25)
 rw [World.size_alloc] at hrb
 have CM := aM (m_givesE ((w.alloc (.cells #[.int .i64 x.f0, .int .i64 x.f1, .string x.f2, .slice A3 x.f3.length c3, .slice A4 x.f4.length c4] 25)).alloc (.cells zC 25)) oneK x A3 A4 c3 c4 W0 h)
 have HRB := aM hrb
 have e3 : (x.f0 == 3) = true := beq_iff_eq.2 h3
 have z0 : ((w.alloc (.cells #[.int .i64 x.f0, .int .i64 x.f1, .string x.f2, .slice A3 x.f3.length c3, .slice A4 x.f4.length c4] 25)).alloc (.cells zC 25)).cell? ⟨w.heap.size, 0, none⟩ = some (.int .i64 x.f0) := cb_cell (i := 0) hxb rfl
 generalize mapsOf [oneK] [x] = z at CM ⊢
 clear h h3 hrb
 go_enter Tryz.func20, Tryz.ntmps20
 go_wp2_with (refine load_val (.tmp 1) rfl rfl rfl hxb ?_)
 have cm := CM.out
 simp only [World.size_alloc] at cm
 refine cm.mono ?_
 rintro e w1 ⟨v3, v4, rfl, hK, hV, hb⟩
 obtain ⟨B3, d3, rfl⟩ := Kd.R_slice hK
 obtain ⟨B4, d4, rfl⟩ := Kd.R_slice hV
 have hbn := below_alloc (Below.refl ((w.alloc (.cells #[.int .i64 x.f0, .int .i64 x.f1, .string x.f2, .slice A3 x.f3.length c3, .slice A4 x.f4.length c4] 25)).alloc (.cells zC 25)).heap.size ((w.alloc (.cells #[.int .i64 x.f0, .int .i64 x.f1, .string x.f2, .slice A3 x.f3.length c3, .slice A4 x.f4.length c4] 25)).alloc (.cells zC 25))) (.cells #[.iface 9 (.string oneK), .iface 25 (.agg #[.int .i64 x.f0, .int .i64 x.f1, .string x.f2, .slice A3 x.f3.length c3, .slice A4 x.f4.length c4])] 20)
 have hr1 := (hb.block _ (cb_lt (blk_alloc HRB.out _))).trans (blk_alloc HRB.out _)
 have HB1 := aM (hb_then HB.out (hb_then hbn hb))
 have HKK := aM hK
 have HVV := aM hV
 have HBN := aM hbn
 clear hb CM hK hV hbn hxb z0
 go_wp2_with (refine store_val (.tmp 2) (.tmp 10) rfl rfl rfl rfl hr1 ?_)
 have hg := grown_setRow w1 (w.heap.size + 1) #[.int .i64 z.f0, .int .i64 z.f1, .string z.f2, .slice B3 z.f3.length d3, .slice B4 z.f4.length d4]
 have hB := pw_below_grown HB1.out (some (w.heap.size + 1)) HB1.out.size hg (fun k hk => by injection hk with hk; omega)
 have hX := setRow_heap w1 (w.heap.size + 1) _ #[.int .i64 z.f0, .int .i64 z.f1, .string z.f2, .slice B3 z.f3.length d3, .slice B4 z.f4.length d4] _ _ hr1
 have hk2 := Kd.R_grown HKK.out hg (fun k hk e => by injection e with e; simp only [World.size_alloc] at hk; omega)
 have hv2 := Kd.R_grown HVV.out hg (fun k hk e => by injection e with e; simp only [World.size_alloc] at hk; omega)
 exact bodyPost_ret (v := .agg #[.int .i64 z.f0, .int .i64 z.f1, .string z.f2, .slice B3 z.f3.length d3, .slice B4 z.f4.length d4]) (val_result rfl rfl hX) rfl ⟨_, _, rfl, Kd.R_mono (Kd.R_lower hk2 (by simp only [World.size_alloc]; omega)) (fun k hk => by simp only [World.size_alloc] at hk; omega), Kd.R_mono (Kd.R_lower hv2 (by simp only [World.size_alloc]; omega)) (fun k hk => by simp only [World.size_alloc] at hk; omega), hB⟩
set_option maxHeartbeats 3200000 in
set_option maxRecDepth 100000 in
theorem partBuild (x : VS) (hc : Canon x) (hs : SmallS x) (A3 A4 : Option Addr) (c3 c4 : Nat) (w : World) (h : Reads w x A3 c3 A4 c4) :
  Calls Tryz.prog 7 #[.agg #[.int .i64 x.f0, .int .i64 x.f1, .string x.f2, .slice A3 x.f3.length c3, .slice A4 x.f4.length c4]] w fun e w' => ∃ (z : VS) (b : Bool) (B3 : Option Addr) (d3 : Nat) (B4 : Option Addr) (d4 : Nat), e = .returned (.tuple #[.agg #[.int .i64 z.f0, .int .i64 z.f1, .string z.f2, .slice B3 z.f3.length d3, .slice B4 z.f4.length d4], .bool b]) ∧ BuildSaid x z b ∧ Reads w' z B3 d3 B4 d4 ∧ Below w.heap.size w w' := by
 obtain ⟨rt, hrt, hrt3⟩ := ends_sayText x hs.textIn
 have hst := (hc.inStep hs)
 obtain ⟨rk, hrk, hrk5⟩ := ends_sayKnown wordsB truthsB x (by decide) (by decide) (by have := hst; unfold InStep at this; omega) (by have := hst; unfold InStep at this; omega) (fun v hv => (hs.at hv).textIn)
 have HF := aM (show (rt || rk) = true → x.f0 = 3 ∨ KnownM x from fun hh => by
  rcases rt with _ | _
  ·have h5 := hrk5 (by simpa using hh)
   exact .inr ⟨h5.1, (by have := hst; unfold InStep at this; omega), fun j hj hj4 => h5.2 j hj⟩
  ·exact .inl (hrt3 rfl))
 have CS := aM (fun W (hW : Reads W x A3 c3 A4 c4) => attr_build x rt rk hrt hrk A3 A4 c3 c4 W hW)
 generalize (rt || rk) = r at HF CS
 have HB := aM (below_alloc (below_alloc (Below.refl w.heap.size w) (.cells #[.int .i64 x.f0, .int .i64 x.f1, .string x.f2, .slice A3 x.f3.length c3, .slice A4 x.f4.length c4] 25)) (.cells zC 25))
 have hxb : ((w.alloc (.cells #[.int .i64 x.f0, .int .i64 x.f1, .string x.f2, .slice A3 x.f3.length c3, .slice A4 x.f4.length c4] 25)).alloc (.cells zC 25)).heap[w.heap.size]? = some (.cells #[.int .i64 x.f0, .int .i64 x.f1, .string x.f2, .slice A3 x.f3.length c3, .slice A4 x.f4.length c4] 25 (0, 0)) := blk_alloc (cb_new _ _) _
 have hrb := cb_new (w.alloc (.cells #[.int .i64 x.f0, .int .i64 x.f1, .string x.f2, .slice A3 x.f3.length c3, .slice A4 x.f4.length c4] 25)) (.cells zC 25)
 rw [World.size_alloc] at hrb
 have HX0 := aM hxb
 have HR0 := aM hrb
 have HRD := aM (h.below HB.out)
 have HRW := aM h
 clear hrt hrt3 hst hrk hrk5 hrb h hc hs
 go_enter Tryz.func7, Tryz.ntmps7
 go_wp2_with (refine load_val (.tmp 1) rfl rfl rfl hxb ?_)
 refine (CS.out _ HRD.out).mono ?_
 rintro e w1 ⟨rfl, hb⟩
 have HB1 := aM (hb_then HB.out hb)
 have hx1 := (hb.block _ (cb_lt HX0.out)).trans HX0.out
 have hr1 := (hb.block _ (cb_lt HR0.out)).trans HR0.out
 have HRD1 := aM (HRD.out.below hb)
 clear hb HB HX0 HR0 HRD CS hxb
 cases r
 ·go_wp2_with (refine store_val (.tmp 2) (.tmp 7) rfl rfl rfl rfl hr1 ?_)
  have hg := grown_setRow w1 (w.heap.size + 1) zC
  have hB := pw_below_grown HB1.out (some (w.heap.size + 1)) HB1.out.size hg (fun k hk => by injection hk with hk; omega)
  have hX := setRow_heap w1 (w.heap.size + 1) _ zC _ _ hr1
  exact bodyPost_ret (v := .tuple #[.agg zC, .bool false]) (said_at rfl rfl rfl hX) rfl ⟨leaf 0 0 ⟨#[]⟩, false, none, 0, none, 0, rfl, (fun h => by cases h), ⟨Nat.zero_le _, nilC _ _ _, Nat.zero_le _, nilC _ _ _⟩, hB⟩
 ·rcases HF.out rfl with h3 | h5
  ·have CM := aM (mergeBuild_text w x h3 A3 A4 c3 c4 w1 HRW.out)
   have HS := aM (show BuildSaid x (mapsOf [oneK] [x]) true from fun _ => .inl ⟨h3, rfl⟩)
   clear h3
   generalize mapsOf [oneK] [x] = z at CM HS
   obtain ⟨z0, z1, z2, z3, z4⟩ := z
   go_wp2_with (refine load_val (.tmp 1) rfl rfl rfl hx1 ?_)
   refine CM.out.mono ?_
   rintro e w2 ⟨v3, v4, rfl, hK, hV, hb⟩
   obtain ⟨B3, d3, rfl⟩ := Kd.R_slice hK
   obtain ⟨B4, d4, rfl⟩ := Kd.R_slice hV
   have hr2 := (hb.block _ (cb_lt hr1)).trans hr1
   have HB2 := aM (hb_then HB1.out hb)
   have hltr := cb_lt hr1
   have HKK := aM hK
   have HVV := aM hV
   have HLT := aM hltr
   clear hb CM hr1 hK hV hltr hx1
   go_wp2_with (refine store_val (.tmp 2) (.tmp 9) rfl rfl rfl rfl hr2 ?_)
   have hg := grown_setRow w2 (w.heap.size + 1) #[.int .i64 z0, .int .i64 z1, .string z2, .slice B3 z3.length d3, .slice B4 z4.length d4]
   have hB := pw_below_grown HB2.out (some (w.heap.size + 1)) HB2.out.size hg (fun k hk => by injection hk with hk; omega)
   have hX := setRow_heap w2 (w.heap.size + 1) _ #[.int .i64 z0, .int .i64 z1, .string z2, .slice B3 z3.length d3, .slice B4 z4.length d4] _ _ hr2
   have hlt := HLT.out
   obtain ⟨_, _, _, _, e3, e4, hrd⟩ := fix_reads (x := ⟨z0, z1, z2, z3, z4⟩) hB (Kd.R_grown HKK.out hg (fun k hk e => by injection e with e; omega)) (Kd.R_grown HVV.out hg (fun k hk e => by injection e with e; omega))
   injection e3 with e31 e32 e33
   injection e4 with e41 e42 e43
   subst e31 e33 e41 e43
   exact bodyPost_ret (v := .tuple #[.agg #[.int .i64 z0, .int .i64 z1, .string z2, .slice B3 z3.length d3, .slice B4 z4.length d4], .bool true]) (said_at rfl rfl rfl hX) rfl ⟨⟨z0, z1, z2, z3, z4⟩, true, B3, d3, B4, d4, rfl, HS.out, hrd, hB⟩
  ·have CM := aM (mergeBuild_map x h5.1 A3 A4 c3 c4 w1 HRD1.out)
   have HS := aM (show BuildSaid x x true from fun _ => .inr ⟨h5, rfl⟩)
   clear h5
   go_wp2_with (refine load_val (.tmp 1) rfl rfl rfl hx1 ?_)
   refine CM.out.mono ?_
   rintro e w2 ⟨rfl, hb⟩
   have hr2 := (hb.block _ (cb_lt hr1)).trans hr1
   have HB2 := aM (hb_then HB1.out hb)
   clear hb CM hr1 hx1
   go_wp2_with (refine store_val (.tmp 2) (.tmp 9) rfl rfl rfl rfl hr2 ?_)
   have hg := grown_setRow w2 (w.heap.size + 1) #[.int .i64 x.f0, .int .i64 x.f1, .string x.f2, .slice A3 x.f3.length c3, .slice A4 x.f4.length c4]
   have hB := pw_below_grown HB2.out (some (w.heap.size + 1)) HB2.out.size hg (fun k hk => by injection hk with hk; omega)
   have hX := setRow_heap w2 (w.heap.size + 1) _ #[.int .i64 x.f0, .int .i64 x.f1, .string x.f2, .slice A3 x.f3.length c3, .slice A4 x.f4.length c4] _ _ hr2
   exact bodyPost_ret (v := .tuple #[.agg #[.int .i64 x.f0, .int .i64 x.f1, .string x.f2, .slice A3 x.f3.length c3, .slice A4 x.f4.length c4], .bool true]) (said_at rfl rfl rfl hX) rfl ⟨x, true, A3, c3, A4, c4, rfl, HS.out, HRW.out.below hB, hB⟩
theorem known_none : ∀ k, k ∈ wordsB ++ truthsB → Tree.NoneT (atP ⟨(lb k).toArray⟩) ∧ findI [46] (lb k) = -1 ∧ (lb k).length ≤ 4398046511104 := by
 intro k hk
 simp only [wordsB, truthsB, List.cons_append, List.nil_append, List.mem_cons, List.mem_nil_iff, or_false] at hk
 rcases hk with rfl | rfl | rfl | rfl | rfl | rfl <;> exact ⟨by unfold Tree.NoneT; decide +kernel, by decide +kernel, by decide +kernel⟩
theorem inB_mem {s : BA} {l : List BA} (h : inB s l = true) : s ∈ l := by
 unfold inB at h
 obtain ⟨x, hx, hd⟩ := List.any_eq_true.1 h
 have e := of_decide_eq_true hd
 rw [toList_lb, toList_lb] at e
 exact lb_inj e ▸ hx
theorem leaf_any {v : VS} (hc : Canon v) (h : v.f0 = 3 ∨ v.f0 = 1) : (∃ s, anyOf (toI v) = .text s) ∨ ∃ b, anyOf (toI v) = .bool b := by
 rcases h with h | h <;> cases hc <;> simp [leaf] at h
 ·exact .inl ⟨_, by simp [leaf, toI, toL, anyOf]; rfl⟩
 ·exact .inr ⟨_, by simp [leaf, toI, toL, anyOf]; rfl⟩
theorem turns_known (z : VS) (hc : Canon z) (hs : SmallS z) (h5 : KnownM z) (ig : Bool) : Turns ig (toI z) (toI z) := by
 have ha : anyOf (toI z) = .map (mapOf (toI z)) := by
  rw [toI_eq, h5.1]
  exact anyOf_map _ _ _ _
 have e : toI z = valOf (.map (mapOf (toI z))) := by rw [← ha, canon_back hc]
 have hfit := (small_fits (small_to z hs)).1
 rw [ha] at hfit
 have hq : ∀ q, q ∈ mapOf (toI z) → ((∃ s, q.2 = .text s) ∨ ∃ b, q.2 = .bool b) ∧ findI [46] q.1 = -1 ∧ q.1.length ≤ 4398046511104 ∧ Tree.NoneT (atP ⟨q.1.toArray⟩) := by
  intro q hq
  obtain ⟨z0, z1, z2, z3, z4⟩ := z
  have e5 : z0 = 5 := h5.1
  subst e5
  cases hc with
  | map ks vs hr hl hcs =>
   rw [canon_anyOf_map hr] at ha
   injection ha with ha
   rw [← ha] at hq
   obtain ⟨j, hj, rfl⟩ := List.getElem_of_mem hq
   rw [List.getElem_zip]
   rw [List.length_zip, List.length_map, anyL_length, toL_map, List.length_map] at hj
   have hj3 : j < z3.length := by omega
   have hj4 : j < z4.length := by omega
   have hkn := h5.2.2 j hj3 hj4
   have hval : (anyL (toL z4))[j]'(by rw [anyL_length, toL_map, List.length_map]; exact hj4) = anyOf (toI z4[j]) := by
    simp only [anyL_map, toL_map, List.getElem_map]
   have hkey : (z3.map lb)[j]'(by rw [List.length_map]; exact hj3) = lb z3[j] := List.getElem_map ..
   rw [hval, hkey]
   have hm : z3[j] ∈ wordsB ++ truthsB := by
    rcases hkn with ⟨h, _⟩ | ⟨h, _⟩
    ·exact List.mem_append_left _ (inB_mem h)
    ·exact List.mem_append_right _ (inB_mem h)
   obtain ⟨k1, k2, k3⟩ := known_none _ hm
   refine ⟨leaf_any (hcs _ (List.getElem_mem hj4)) (hkn.imp (fun h => h.2) (fun h => h.2)), k2, k3, k1⟩
 have hn : (mapOf (toI z)).length ≤ 1759218604400 := by
  cases hfit
  assumption
 intro w A3 A4 c3 c4 l3 hk l4 hv
 have h := impl_trans (toI z) (small_to z hs) _ hfit ig (fun B W v F hB hF har => by
  rw [ha] at har
  exact one_map B _ hn hq v F ig W hB hF har) A3 A4 c3 c4 w l3 hk l4 hv
 rw [← e] at h
 exact h
set_option maxHeartbeats 3200000 in
set_option maxRecDepth 100000 in
theorem lawBuild (x : VS) (hx : SmallS x) (ig : Bool) (A3 A4 : Option Addr) (c3 c4 : Nat) (w : World) (h : Reads w x A3 c3 A4 c4) :
  Calls Tryz.prog 3 #[.agg #[.int .i64 x.f0, .int .i64 x.f1, .string x.f2, .slice A3 x.f3.length c3, .slice A4 x.f4.length c4], .bool ig] w fun e w' => e = .returned (.bool true) ∧ Below w.heap.size w w' := by
 have hb1 := below_alloc (Below.refl w.heap.size w) (.cells #[.int .i64 x.f0, .int .i64 x.f1, .string x.f2, .slice A3 x.f3.length c3, .slice A4 x.f4.length c4] 25)
 have hxb := cb_new w (.cells #[.int .i64 x.f0, .int .i64 x.f1, .string x.f2, .slice A3 x.f3.length c3, .slice A4 x.f4.length c4] 25)
 have HB := aM hb1
 have HX := aM hxb
 have HRD := aM (h.below hb1)
 have CZ := aM (fits_reads x A3 A4 c3 c4 _ HRD.out)
 clear hb1 h
 go_enter Tryz.func3, Tryz.ntmps3
 go_wp2_with (refine load_val (.tmp 2) rfl rfl rfl hxb ?_)
 refine CZ.out.mono ?_
 rintro e w1 ⟨b, rfl, hb⟩
 have HB1 := aM (hb_then HB.out hb)
 have hx1 := (hb.block _ (cb_lt HX.out)).trans HX.out
 have HRD1 := aM (HRD.out.below hb)
 clear hb HB HX HRD CZ hxb
 cases b
 ·go_wp2
  go_ret
  exact ⟨rfl, HB1.out⟩
 have CF := aM (fit_gives x hx A3 A4 c3 c4 w1 HRD1.out)
 obtain ⟨hys, _⟩ := fit_facts x hx
 have hyc := canon_fit x hx
 have HYS := aM hys
 have HYC := aM hyc
 generalize fitV x = y at CF HYS HYC hys hyc
 clear hys hyc
 go_wp2_with (refine load_val (.tmp 2) rfl rfl rfl hx1 ?_)
 refine CF.out.mono ?_
 rintro e w2 ⟨E3, f3, E4, f4, rfl, hrd, hb⟩
 have HB2 := aM (hb_then HB1.out hb)
 have hx2 := (hb.block _ (cb_lt hx1)).trans hx1
 have hlt1 := cb_lt hx1
 have HRD2 := aM (hrd (w2.setRow w.heap.size #[.int .i64 y.f0, .int .i64 y.f1, .string y.f2, .slice E3 y.f3.length f3, .slice E4 y.f4.length f4]) (fun k hk _ => setRow_other w2 w.heap.size k _ (by omega)))
 have HB3 := aM (pw_below_grown HB2.out (some w.heap.size) HB2.out.size (grown_setRow w2 w.heap.size #[.int .i64 y.f0, .int .i64 y.f1, .string y.f2, .slice E3 y.f3.length f3, .slice E4 y.f4.length f4]) (fun k hk => by injection hk with hk; omega))
 have hx3 := setRow_heap w2 w.heap.size _ #[.int .i64 y.f0, .int .i64 y.f1, .string y.f2, .slice E3 y.f3.length f3, .slice E4 y.f4.length f4] _ _ hx2
 clear hb CF hx1 hrd HRD1 hlt1 HB2
 obtain ⟨w3, hw3⟩ : ∃ w3, w2.setRow w.heap.size #[.int .i64 y.f0, .int .i64 y.f1, .string y.f2, .slice E3 y.f3.length f3, .slice E4 y.f4.length f4] = w3 := ⟨_, rfl⟩
 rw [hw3] at HRD2 HB3 hx3
 have HW3 := aM hw3
 clear hw3
 have CP := aM (partBuild y HYC.out HYS.out E3 E4 f3 f4 w3 HRD2.out)
 go_wp2_with (first | (refine store_val (.tmp 2) (.tmp 11) rfl rfl rfl rfl hx2 ?_; rw [HW3.out]; clear hx2) | refine load_val (.tmp 2) rfl rfl rfl hx3 ?_)
 refine CP.out.mono ?_
 rintro e w4 ⟨z, b, B3, d3, B4, d4, rfl, hS, hrz, hb⟩
 have hbn := below_alloc (Below.refl w4.heap.size w4) (.cells #[.int .i64 z.f0, .int .i64 z.f1, .string z.f2, .slice B3 z.f3.length d3, .slice B4 z.f4.length d4] 25)
 have HB4 := aM (hb_then (hb_then HB3.out hb) hbn)
 have hx4 := blk_alloc ((hb.block _ (cb_lt hx3)).trans hx3) (.cells #[.int .i64 z.f0, .int .i64 z.f1, .string z.f2, .slice B3 z.f3.length d3, .slice B4 z.f4.length d4] 25)
 have hz4 := cb_new w4 (.cells #[.int .i64 z.f0, .int .i64 z.f1, .string z.f2, .slice B3 z.f3.length d3, .slice B4 z.f4.length d4] 25)
 have HRY := aM ((HRD2.out.below hb).below hbn)
 have HRZ := aM (hrz.below hbn)
 have HS := aM hS
 clear hb hbn hrz hS CP hx3 HB3 HRD2
 cases b
 ·go_wp2_with (first | refine load_val (.tmp 2) rfl rfl rfl hx4 ?_ | refine load_val (.tmp 5) rfl rfl rfl hz4 ?_)
  go_ret
  exact ⟨rfl, HB4.out⟩
 ·have CI : Aside0 (Calls Tryz.prog 8 #[.func (.func 9) #[] #[], .agg #[.int .i64 y.f0, .int .i64 y.f1, .string y.f2, .slice E3 y.f3.length f3, .slice E4 y.f4.length f4], .agg #[.int .i64 z.f0, .int .i64 z.f1, .string z.f2, .slice B3 z.f3.length d3, .slice B4 z.f4.length d4], .bool ig] (w4.alloc (.cells #[.int .i64 z.f0, .int .i64 z.f1, .string z.f2, .slice B3 z.f3.length d3, .slice B4 z.f4.length d4] 25)) fun e w' => e = .returned (.bool true) ∧ Below (w4.alloc (.cells #[.int .i64 z.f0, .int .i64 z.f1, .string z.f2, .slice B3 z.f3.length d3, .slice B4 z.f4.length d4] 25)).heap.size (w4.alloc (.cells #[.int .i64 z.f0, .int .i64 z.f1, .string z.f2, .slice B3 z.f3.length d3, .slice B4 z.f4.length d4] 25)) w') := by
   have hy := HRY.out
   have hz := HRZ.out
   rcases HS.out rfl with ⟨h3, hzn⟩ | ⟨h5, hzy⟩
   ·have hyl := HYC.out.is_text h3
    have hn2 : y.f2.size ≤ 140737488355328 := by have h2 := HYS.out; cases h2; assumption
    obtain ⟨mz, mc, ms⟩ := maps_one y.f2
    have hzl : z = mapsOf [oneK] [leaf 3 0 y.f2] := hzn.trans (congrArg (fun v => mapsOf [oneK] [v]) hyl)
    have hty : anyOf (toI y) = .text y.f2 := (congrArg (fun v => anyOf (toI v)) hyl).trans (by simp [leaf, toI, toL, anyOf])
    have hsz : SmallS z := by rw [hzl]; exact ms hn2
    have hv : valOf (.map (oneM y.f2)) = toI z := by rw [hzl, ← mz]; exact canon_back mc
    have h1 : Turns ig (toI y) (toI z) := by
     rw [← hv]
     exact turns_one y.f2 y HYS.out (.inl hty) ig
    have h2 : Turns ig (toI z) (toI z) := by
     have := turns_one y.f2 z hsz (.inr (by rw [hzl]; exact mz)) ig
     rw [hv] at this
     exact this
    exact ⟨part_is ig y z (toI z) (toI z) HYS.out h1 h2 (small_to z hsz) (small_to z hsz) (from_to z) (from_to z) hsz.short E3 E4 B3 B4 f3 f4 d3 d4 _ hy.l3 hy.hk hy.l4 hy.hv hz.l3 hz.hk hz.l4 hz.hv⟩
   ·subst hzy
    have h1 := turns_known z HYC.out HYS.out h5 ig
    exact ⟨part_is ig z z (toI z) (toI z) HYS.out h1 h1 (small_to z HYS.out) (small_to z HYS.out) (from_to z) (from_to z) HYS.out.short E3 E4 B3 B4 f3 f4 d3 d4 _ hy.l3 hy.hk hy.l4 hy.hv hz.l3 hz.hk hz.l4 hz.hv⟩
  obtain ⟨p0, p1, p2, p3, p4⟩ := cell_row5 hx4
  obtain ⟨q0, q1, q2, q3, q4⟩ := cell_row5 hz4
  clear hx4 hz4
  go_wp2_with fail
  refine CI.out.mono ?_
  rintro e w5 ⟨rfl, hb⟩
  have HB5 := aM (hb_then HB4.out hb)
  clear hb CI
  go_wp2
  go_ret
  exact ⟨rfl, HB5.out⟩
theorem lawBuildRow (x : VS) (A3 A4 : Option Addr) (c3 c4 : Nat) (ig : Bool) (w : World) (h3 : x.f3.length ≤ c3) (hk : Kd.string.C w A3 x.f3.length x.f3) (h4 : x.f4.length ≤ c4) (hv : kS.C w A4 x.f4.length x.f4) (hx : SmallS x) (hT : True) :
  Calls Tryz.prog 3 #[.agg #[.int .i64 x.f0, .int .i64 x.f1, .string x.f2, .slice A3 x.f3.length c3, .slice A4 x.f4.length c4], .bool ig] w fun e w' => e = .returned (.bool true) ∧ Below w.heap.size w w' := lawBuild x hx ig A3 A4 c3 c4 w ⟨h3, hk, h4, hv⟩
end Go.Proofs.YtaembebbaejfiaaGreatDoor.Tr
namespace Go.Proofs.YtaembebbaejfiaaGreatDoor.RowKit
open Go.RowKit Go.ChangeShapes Go.WideShapes Go.ChangeAt Go.Proofs.YtaembebbaejfiaaGreatDoorW.PrintWords Go.Proofs.YtaembebbaejfiaaGreatDoor.Str Go.Proofs.YtaembebbaejfiaaGreatDoor.Kit
set_option linter.unusedVariables false
set_option linter.unusedSimpArgs false
theorem strs_arg {H : Type} {enc : TypeId × Value → H} {P : Program} {W : World} {base : Nat} {spare : Nat → Bool} {held : Bool} {t e : TypeId} {a : Option Addr} {len cap : Nat} {d : DataW H} {ps : List MemPlace}
  (ht : P.underlying t = some (.slice e)) (he : P.underlying e = some .string) (hc : P.cellsOf e = 1) (h : DataW.Trod enc P W base spare held t (.slice a len cap) d ps) :
  ∃ xs : List ByteArray, xs.length = len ∧ len ≤ cap ∧ Kd.string.C W a xs.length xs ∧ ((d = .nil ∧ xs = []) ∨ ∃ rest, d = .slice (strs xs) rest) := by
 obtain ⟨fuel, hf⟩ := h
 rcases open_strings ht he hc hf with ⟨hcs, hx⟩ | ⟨ad, l, c, ss, hcs, _, hl, hm, hss, hx, hcell, hws⟩
 ·simp [Value.cells] at hcs
  obtain ⟨rfl, rfl, rfl⟩ := hcs
  simp only [Prod.mk.injEq] at hx
  exact ⟨[], rfl, by omega, ⟨rfl, by simp, fun h => absurd h (by simp)⟩, .inl ⟨hx.1, rfl⟩⟩
 ·simp [Value.cells] at hcs
  obtain ⟨rfl, rfl, rfl⟩ := hcs
  simp only [Prod.mk.injEq] at hx
  have hlen : len ≤ ss.length := by rw [hss]; split <;> omega
  have hl2 : (ss.take len).length = len := by rw [List.length_take]; omega
  refine ⟨ss.take len, hl2, hl, ⟨rfl, by unfold maxLen at hm; omega, fun _ => ⟨ad, rfl, fun j p hp => ?_⟩⟩, .inr ⟨_, hx.1⟩⟩
  obtain ⟨hj, rfl⟩ := List.getElem?_eq_some_iff.1 hp
  refine ⟨[.string (ss.take len)[j]], rfl, rfl, fun i u hu => ?_⟩
  have hi : i < 1 := (List.getElem?_eq_some_iff.1 hu).1
  obtain rfl : i = 0 := by omega
  have hu' : Value.string (ss.take len)[j] = u := by simpa using hu
  subst hu'
  have : j * Kd.string.sz + 0 = j := by simp [Kd.string, Kd.scalar]
  rw [this, hcell j (by rw [hl2] at hj; omega)]
  rw [hl2] at hj
  simp [List.getD_eq_getElem?_getD, List.getElem?_eq_getElem (show j < ss.length by omega)]
end Go.Proofs.YtaembebbaejfiaaGreatDoor.RowKit
namespace Go.Proofs.YtaembebbaejfiaaGreatDoor.DTabsFnTransformBuild
set_option linter.unusedVariables false
open Go.RowKit Go.Lib
theorem any {W : World} (hL : laidMet Tryz.prog Rows.fnTransformBuildRow.laid W) : True := trivial
end Go.Proofs.YtaembebbaejfiaaGreatDoor.DTabsFnTransformBuild
