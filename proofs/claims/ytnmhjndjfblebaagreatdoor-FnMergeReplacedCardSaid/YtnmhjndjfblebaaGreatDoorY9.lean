/- Parts of the proof, laid vq: AttrRep, SvcRep, SpecMP, MIn. -/
import Derived.Test.YtnmhjndjfblebaaGreatDoorY8
import Derived.Test.YtnmhjndjfblebaaGreatDoorY7
import Derived.Test.YtnmhjndjfblebaaGreatDoorY5
set_option linter.unusedVariables false
set_option linter.unusedSimpArgs false
namespace Go.Proofs.YtnmhjndjfblebaaGreatDoor.Tr
open Go.RowKit Go.Proofs.YtnmhjndjfblebaaGreatDoorW.PrintWords Go.Proofs.YtnmhjndjfblebaaGreatDoorW.PrintLast Go.Proofs.YtnmhjndjfblebaaGreatDoor.Str Go.Proofs.YtnmhjndjfblebaaGreatDoor.Kit Go.Proofs.YtnmhjndjfblebaaGreatDoor.MapV Go.Proofs.YtnmhjndjfblebaaGreatDoor.Frame Go.Proofs.YtnmhjndjfblebaaGreatDoor.PS
open Go.Proofs.YtnmhjndjfblebaaGreatDoor.Val (place placeI placeB placeI_hit placeI_end)
theorem in_lit (s : BA) (l : List BA) (b : Bool) (hb : inB s l = b) (hl : l.length ≤ 1000) (w : World) : Calls Tryz.prog 23 #[.string s, .slice (some ⟨w.heap.size,0,none⟩) l.length l.length] (w.alloc (.cells (l.map Value.string).toArray 9)) fun e w' => e = .returned (.bool b) ∧ Below (w.alloc (.cells (l.map Value.string).toArray 9)).heap.size (w.alloc (.cells (l.map Value.string).toArray 9)) w' := by
 subst hb; obtain ⟨k,hk⟩ := (ev_sayIn s l (by omega)).rounds; exact (spec_sayIn.calls k s _ l.length l _ _ (strs_lit w 9 l (by omega)) (Nat.le_refl _) hk).mono (fun e w' h => ⟨h.1,h.2.below⟩)
def row0 : List BA := [(⟨#[105,109,97,103,101]⟩ : BA),(⟨#[117,115,101,114]⟩ : BA),(⟨#[104,111,115,116,110,97,109,101]⟩ : BA),(⟨#[100,111,109,97,105,110,110,97,109,101]⟩ : BA),(⟨#[119,111,114,107,105,110,103,95,100,105,114]⟩ : BA),(⟨#[99,111,110,116,97,105,110,101,114,95,110,97,109,101]⟩ : BA),(⟨#[114,101,115,116,97,114,116]⟩ : BA),(⟨#[112,108,97,116,102,111,114,109]⟩ : BA),(⟨#[115,116,111,112,95,115,105,103,110,97,108]⟩ : BA),(⟨#[114,117,110,116,105,109,101]⟩ : BA)]
def row1 : List BA := [(⟨#[112,114,105,118,105,108,101,103,101,100]⟩ : BA),(⟨#[114,101,97,100,95,111,110,108,121]⟩ : BA),(⟨#[105,110,105,116]⟩ : BA),(⟨#[116,116,121]⟩ : BA),(⟨#[115,116,100,105,110,95,111,112,101,110]⟩ : BA)]
def row2 : List BA := [(⟨#[99,97,112,95,97,100,100]⟩ : BA),(⟨#[99,97,112,95,100,114,111,112]⟩ : BA),(⟨#[100,110,115]⟩ : BA),(⟨#[100,110,115,95,115,101,97,114,99,104]⟩ : BA),(⟨#[100,110,115,95,111,112,116]⟩ : BA),(⟨#[115,101,99,117,114,105,116,121,95,111,112,116]⟩ : BA),(⟨#[115,101,99,114,101,116,115]⟩ : BA),(⟨#[99,111,110,102,105,103,115]⟩ : BA)]
def rowN : List BA := [(⟨#[101,110,118,105,114,111,110,109,101,110,116]⟩ : BA),(⟨#[108,97,98,101,108,115]⟩ : BA),(⟨#[97,110,110,111,116,97,116,105,111,110,115]⟩ : BA),(⟨#[115,121,115,99,116,108,115]⟩ : BA)]
theorem ev_named (s : BA) (hs : inB s rowN = false) : Ev (fun k => spec_sayNamed.f k s) false := by
 have h := ev_sayIn s rowN (by decide); rw [hs] at h; exact ev_bind (f := fun _ t => some t) h (Ev.now _)
theorem in_row0 (s : BA) (h : inB s row0 = false) (w : World) : Calls Tryz.prog 23 #[.string s, .slice (some ⟨w.heap.size,0,none⟩) 10 10] (w.alloc (.cells #[.string ⟨#[105,109,97,103,101]⟩, .string ⟨#[117,115,101,114]⟩, .string ⟨#[104,111,115,116,110,97,109,101]⟩, .string ⟨#[100,111,109,97,105,110,110,97,109,101]⟩, .string ⟨#[119,111,114,107,105,110,103,95,100,105,114]⟩, .string ⟨#[99,111,110,116,97,105,110,101,114,95,110,97,109,101]⟩, .string ⟨#[114,101,115,116,97,114,116]⟩, .string ⟨#[112,108,97,116,102,111,114,109]⟩, .string ⟨#[115,116,111,112,95,115,105,103,110,97,108]⟩, .string ⟨#[114,117,110,116,105,109,101]⟩] 9)) fun e w' => e = .returned (.bool false) ∧ Below (w.alloc (.cells #[.string ⟨#[105,109,97,103,101]⟩, .string ⟨#[117,115,101,114]⟩, .string ⟨#[104,111,115,116,110,97,109,101]⟩, .string ⟨#[100,111,109,97,105,110,110,97,109,101]⟩, .string ⟨#[119,111,114,107,105,110,103,95,100,105,114]⟩, .string ⟨#[99,111,110,116,97,105,110,101,114,95,110,97,109,101]⟩, .string ⟨#[114,101,115,116,97,114,116]⟩, .string ⟨#[112,108,97,116,102,111,114,109]⟩, .string ⟨#[115,116,111,112,95,115,105,103,110,97,108]⟩, .string ⟨#[114,117,110,116,105,109,101]⟩] 9)).heap.size (w.alloc (.cells #[.string ⟨#[105,109,97,103,101]⟩, .string ⟨#[117,115,101,114]⟩, .string ⟨#[104,111,115,116,110,97,109,101]⟩, .string ⟨#[100,111,109,97,105,110,110,97,109,101]⟩, .string ⟨#[119,111,114,107,105,110,103,95,100,105,114]⟩, .string ⟨#[99,111,110,116,97,105,110,101,114,95,110,97,109,101]⟩, .string ⟨#[114,101,115,116,97,114,116]⟩, .string ⟨#[112,108,97,116,102,111,114,109]⟩, .string ⟨#[115,116,111,112,95,115,105,103,110,97,108]⟩, .string ⟨#[114,117,110,116,105,109,101]⟩] 9)) w' := in_lit s row0 false h (by decide) w
theorem in_row1 (s : BA) (h : inB s row1 = false) (w : World) : Calls Tryz.prog 23 #[.string s, .slice (some ⟨w.heap.size,0,none⟩) 5 5] (w.alloc (.cells #[.string ⟨#[112,114,105,118,105,108,101,103,101,100]⟩, .string ⟨#[114,101,97,100,95,111,110,108,121]⟩, .string ⟨#[105,110,105,116]⟩, .string ⟨#[116,116,121]⟩, .string ⟨#[115,116,100,105,110,95,111,112,101,110]⟩] 9)) fun e w' => e = .returned (.bool false) ∧ Below (w.alloc (.cells #[.string ⟨#[112,114,105,118,105,108,101,103,101,100]⟩, .string ⟨#[114,101,97,100,95,111,110,108,121]⟩, .string ⟨#[105,110,105,116]⟩, .string ⟨#[116,116,121]⟩, .string ⟨#[115,116,100,105,110,95,111,112,101,110]⟩] 9)).heap.size (w.alloc (.cells #[.string ⟨#[112,114,105,118,105,108,101,103,101,100]⟩, .string ⟨#[114,101,97,100,95,111,110,108,121]⟩, .string ⟨#[105,110,105,116]⟩, .string ⟨#[116,116,121]⟩, .string ⟨#[115,116,100,105,110,95,111,112,101,110]⟩] 9)) w' := in_lit s row1 false h (by decide) w
theorem in_row2 (s : BA) (h : inB s row2 = false) (w : World) : Calls Tryz.prog 23 #[.string s, .slice (some ⟨w.heap.size,0,none⟩) 8 8] (w.alloc (.cells #[.string ⟨#[99,97,112,95,97,100,100]⟩, .string ⟨#[99,97,112,95,100,114,111,112]⟩, .string ⟨#[100,110,115]⟩, .string ⟨#[100,110,115,95,115,101,97,114,99,104]⟩, .string ⟨#[100,110,115,95,111,112,116]⟩, .string ⟨#[115,101,99,117,114,105,116,121,95,111,112,116]⟩, .string ⟨#[115,101,99,114,101,116,115]⟩, .string ⟨#[99,111,110,102,105,103,115]⟩] 9)) fun e w' => e = .returned (.bool false) ∧ Below (w.alloc (.cells #[.string ⟨#[99,97,112,95,97,100,100]⟩, .string ⟨#[99,97,112,95,100,114,111,112]⟩, .string ⟨#[100,110,115]⟩, .string ⟨#[100,110,115,95,115,101,97,114,99,104]⟩, .string ⟨#[100,110,115,95,111,112,116]⟩, .string ⟨#[115,101,99,117,114,105,116,121,95,111,112,116]⟩, .string ⟨#[115,101,99,114,101,116,115]⟩, .string ⟨#[99,111,110,102,105,103,115]⟩] 9)).heap.size (w.alloc (.cells #[.string ⟨#[99,97,112,95,97,100,100]⟩, .string ⟨#[99,97,112,95,100,114,111,112]⟩, .string ⟨#[100,110,115]⟩, .string ⟨#[100,110,115,95,115,101,97,114,99,104]⟩, .string ⟨#[100,110,115,95,111,112,116]⟩, .string ⟨#[115,101,99,117,114,105,116,121,95,111,112,116]⟩, .string ⟨#[115,101,99,114,101,116,115]⟩, .string ⟨#[99,111,110,102,105,103,115]⟩] 9)) w' := in_lit s row2 false h (by decide) w
set_option maxHeartbeats 3200000 in
set_option maxRecDepth 100000 in
theorem attr_cmd (s : BA) (h0 : inB s row0 = false) (h1 : inB s row1 = false) (h2 : inB s row2 = false) (hnm : inB s rowN = false) (qa0 : (ByteArray.toList s == [101,120,112,111,115,101]) = false) (qb0 : (s == (⟨#[101,120,112,111,115,101]⟩ : BA)) = false) (qa1 : (ByteArray.toList s == [99,111,109,109,97,110,100]) = true) (qb1 : (s == (⟨#[99,111,109,109,97,110,100]⟩ : BA)) = true) (x : VS) (b : Bool) (hc : ∀ (W : World) (B3 B4 : Option Addr) (d3 d4 : Nat),Reads W x B3 d3 B4 d4 → Calls Tryz.prog 29 #[.agg #[.int .i64 x.f0, .int .i64 x.f1, .string x.f2, .slice B3 x.f3.length d3, .slice B4 x.f4.length d4]] W fun e w' => e = .returned (.bool b) ∧ Below W.heap.size W w') (w : World) (A3 A4 : Option Addr) (c3 c4 : Nat) (h : Reads w x A3 c3 A4 c4) :
  Calls Tryz.prog 18 #[.string s, .agg #[.int .i64 x.f0, .int .i64 x.f1, .string x.f2, .slice A3 x.f3.length c3, .slice A4 x.f4.length c4]] w fun e w' => e = .returned (.bool b) ∧ Below w.heap.size w w' := by
 obtain ⟨kn,hn⟩ := (ev_named s hnm).rounds; have HN := aM hn; have C0 := aM (fun w => in_row0 s h0 w); have C1 := aM (fun w => in_row1 s h1 w); have C2 := aM (fun w => in_row2 s h2 w); have CC := aM hc; clear hn hnm h0 h1 h2 hc; have hb1 := zb (Below.refl w.heap.size w) (.cells #[.int .i64 x.f0, .int .i64 x.f1, .string x.f2, .slice A3 x.f3.length c3, .slice A4 x.f4.length c4] 25); have HB := aM hb1; have HRD := aM (h.below hb1); have hx := yw w (.cells #[.int .i64 x.f0, .int .i64 x.f1, .string x.f2, .slice A3 x.f3.length c3, .slice A4 x.f4.length c4] 25); have HX := aM hx; clear h hb1 hx
 go_enter Tryz.func18,Tryz.ntmps18
 obtain ⟨w0,hw0⟩ : ∃ w0,w.alloc (.cells #[.int .i64 x.f0, .int .i64 x.f1, .string x.f2, .slice A3 x.f3.length c3, .slice A4 x.f4.length c4] 25) = w0 := ⟨_,rfl⟩
 rw [hw0] at HB HRD HX; have HSZ := aM (show w0.heap.size = w.heap.size + 1 by rw [← hw0,World.size_alloc]); have HW := aM hw0; clear hw0
 go_wp2_with fail
 rw [HW.out]; have c0 := C0.out w0; rw [HSZ.out] at c0; refine c0.mono ?_; rintro e w1 ⟨rfl,hb⟩; have hbx := zm (zb (Below.refl w0.heap.size w0) (.cells (row0.map Value.string).toArray 9)) hb; replace HB := aM (zm HB.out hbx); replace HRD := aM (HRD.out.below hbx); replace HX := aM ((hbx.block _ (zn HX.out)).trans HX.out); clear hb hbx
 go_wp2_with fail
 refine (C1.out w1).mono ?_; rintro e w2 ⟨rfl,hb⟩; have hbx := zm (zb (Below.refl w1.heap.size w1) (.cells (row1.map Value.string).toArray 9)) hb; replace HB := aM (zm HB.out hbx); replace HRD := aM (HRD.out.below hbx); replace HX := aM ((hbx.block _ (zn HX.out)).trans HX.out); clear hb hbx
 go_wp2_with fail
 refine (C2.out w2).mono ?_; rintro e w3 ⟨rfl,hb⟩; have hbx := zm (zb (Below.refl w2.heap.size w2) (.cells (row2.map Value.string).toArray 9)) hb; replace HB := aM (zm HB.out hbx); replace HRD := aM (HRD.out.below hbx); replace HX := aM ((hbx.block _ (zn HX.out)).trans HX.out); clear hb hbx
 go_wp2_with fail
 refine (spec_sayNamed.calls kn s false w3 HN.out).mono ?_; rintro e w4 ⟨rfl,hb⟩; replace HB := aM (zm HB.out hb); replace HRD := aM (HRD.out.below hb); have hx4 := (hb.block _ (zn HX.out)).trans HX.out; clear hb HX
 go_wp2_with (refine xr (.tmp 3) rfl rfl rfl hx4 ?_)
 refine (CC.out w4 A3 A4 c3 c4 HRD.out).mono ?_; rintro e w5 ⟨rfl,hb⟩; replace HB := aM (zm HB.out hb); clear hb
 go_wp2
 go_ret
 exact ⟨rfl,HB.out⟩
set_option maxHeartbeats 3200000 in
set_option maxRecDepth 100000 in
theorem attr_ent (s : BA) (h0 : inB s row0 = false) (h1 : inB s row1 = false) (h2 : inB s row2 = false) (hnm : inB s rowN = false) (qa0 : (ByteArray.toList s == [101,120,112,111,115,101]) = false) (qb0 : (s == (⟨#[101,120,112,111,115,101]⟩ : BA)) = false) (qa1 : (ByteArray.toList s == [99,111,109,109,97,110,100]) = false) (qb1 : (s == (⟨#[99,111,109,109,97,110,100]⟩ : BA)) = false) (qa2 : (ByteArray.toList s == [101,110,116,114,121,112,111,105,110,116]) = true) (qb2 : (s == (⟨#[101,110,116,114,121,112,111,105,110,116]⟩ : BA)) = true) (x : VS) (b : Bool) (hc : ∀ (W : World) (B3 B4 : Option Addr) (d3 d4 : Nat),Reads W x B3 d3 B4 d4 → Calls Tryz.prog 29 #[.agg #[.int .i64 x.f0, .int .i64 x.f1, .string x.f2, .slice B3 x.f3.length d3, .slice B4 x.f4.length d4]] W fun e w' => e = .returned (.bool b) ∧ Below W.heap.size W w') (w : World) (A3 A4 : Option Addr) (c3 c4 : Nat) (h : Reads w x A3 c3 A4 c4) :
  Calls Tryz.prog 18 #[.string s, .agg #[.int .i64 x.f0, .int .i64 x.f1, .string x.f2, .slice A3 x.f3.length c3, .slice A4 x.f4.length c4]] w fun e w' => e = .returned (.bool b) ∧ Below w.heap.size w w' := by
 obtain ⟨kn,hn⟩ := (ev_named s hnm).rounds; have HN := aM hn; have C0 := aM (fun w => in_row0 s h0 w); have C1 := aM (fun w => in_row1 s h1 w); have C2 := aM (fun w => in_row2 s h2 w); have CC := aM hc; clear hn hnm h0 h1 h2 hc; have hb1 := zb (Below.refl w.heap.size w) (.cells #[.int .i64 x.f0, .int .i64 x.f1, .string x.f2, .slice A3 x.f3.length c3, .slice A4 x.f4.length c4] 25); have HB := aM hb1; have HRD := aM (h.below hb1); have hx := yw w (.cells #[.int .i64 x.f0, .int .i64 x.f1, .string x.f2, .slice A3 x.f3.length c3, .slice A4 x.f4.length c4] 25); have HX := aM hx; clear h hb1 hx
 go_enter Tryz.func18,Tryz.ntmps18
 obtain ⟨w0,hw0⟩ : ∃ w0,w.alloc (.cells #[.int .i64 x.f0, .int .i64 x.f1, .string x.f2, .slice A3 x.f3.length c3, .slice A4 x.f4.length c4] 25) = w0 := ⟨_,rfl⟩
 rw [hw0] at HB HRD HX; have HSZ := aM (show w0.heap.size = w.heap.size + 1 by rw [← hw0,World.size_alloc]); have HW := aM hw0; clear hw0
 go_wp2_with fail
 rw [HW.out]; have c0 := C0.out w0; rw [HSZ.out] at c0; refine c0.mono ?_; rintro e w1 ⟨rfl,hb⟩; have hbx := zm (zb (Below.refl w0.heap.size w0) (.cells (row0.map Value.string).toArray 9)) hb; replace HB := aM (zm HB.out hbx); replace HRD := aM (HRD.out.below hbx); replace HX := aM ((hbx.block _ (zn HX.out)).trans HX.out); clear hb hbx
 go_wp2_with fail
 refine (C1.out w1).mono ?_; rintro e w2 ⟨rfl,hb⟩; have hbx := zm (zb (Below.refl w1.heap.size w1) (.cells (row1.map Value.string).toArray 9)) hb; replace HB := aM (zm HB.out hbx); replace HRD := aM (HRD.out.below hbx); replace HX := aM ((hbx.block _ (zn HX.out)).trans HX.out); clear hb hbx
 go_wp2_with fail
 refine (C2.out w2).mono ?_; rintro e w3 ⟨rfl,hb⟩; have hbx := zm (zb (Below.refl w2.heap.size w2) (.cells (row2.map Value.string).toArray 9)) hb; replace HB := aM (zm HB.out hbx); replace HRD := aM (HRD.out.below hbx); replace HX := aM ((hbx.block _ (zn HX.out)).trans HX.out); clear hb hbx
 go_wp2_with fail
 refine (spec_sayNamed.calls kn s false w3 HN.out).mono ?_; rintro e w4 ⟨rfl,hb⟩; replace HB := aM (zm HB.out hb); replace HRD := aM (HRD.out.below hb); have hx4 := (hb.block _ (zn HX.out)).trans HX.out; clear hb HX
 go_wp2_with (refine xr (.tmp 3) rfl rfl rfl hx4 ?_)
 refine (CC.out w4 A3 A4 c3 c4 HRD.out).mono ?_; rintro e w5 ⟨rfl,hb⟩; replace HB := aM (zm HB.out hb); clear hb
 go_wp2
 go_ret
 exact ⟨rfl,HB.out⟩
set_option maxHeartbeats 3200000 in
set_option maxRecDepth 100000 in
theorem attr_hea (s : BA) (h0 : inB s row0 = false) (h1 : inB s row1 = false) (h2 : inB s row2 = false) (hnm : inB s rowN = false) (qa0 : (ByteArray.toList s == [101,120,112,111,115,101]) = false) (qb0 : (s == (⟨#[101,120,112,111,115,101]⟩ : BA)) = false) (qa1 : (ByteArray.toList s == [99,111,109,109,97,110,100]) = false) (qb1 : (s == (⟨#[99,111,109,109,97,110,100]⟩ : BA)) = false) (qa2 : (ByteArray.toList s == [101,110,116,114,121,112,111,105,110,116]) = false) (qb2 : (s == (⟨#[101,110,116,114,121,112,111,105,110,116]⟩ : BA)) = false) (qa3 : (ByteArray.toList s == [104,101,97,108,116,104,99,104,101,99,107]) = true) (qb3 : (s == (⟨#[104,101,97,108,116,104,99,104,101,99,107]⟩ : BA)) = true) (x : VS) (b : Bool) (hc : ∀ (W : World) (B3 B4 : Option Addr) (d3 d4 : Nat),Reads W x B3 d3 B4 d4 → Calls Tryz.prog 30 #[.agg #[.int .i64 x.f0, .int .i64 x.f1, .string x.f2, .slice B3 x.f3.length d3, .slice B4 x.f4.length d4]] W fun e w' => e = .returned (.bool b) ∧ Below W.heap.size W w') (w : World) (A3 A4 : Option Addr) (c3 c4 : Nat) (h : Reads w x A3 c3 A4 c4) :
  Calls Tryz.prog 18 #[.string s, .agg #[.int .i64 x.f0, .int .i64 x.f1, .string x.f2, .slice A3 x.f3.length c3, .slice A4 x.f4.length c4]] w fun e w' => e = .returned (.bool b) ∧ Below w.heap.size w w' := by
 obtain ⟨kn,hn⟩ := (ev_named s hnm).rounds; have HN := aM hn; have C0 := aM (fun w => in_row0 s h0 w); have C1 := aM (fun w => in_row1 s h1 w); have C2 := aM (fun w => in_row2 s h2 w); have CC := aM hc; clear hn hnm h0 h1 h2 hc; have hb1 := zb (Below.refl w.heap.size w) (.cells #[.int .i64 x.f0, .int .i64 x.f1, .string x.f2, .slice A3 x.f3.length c3, .slice A4 x.f4.length c4] 25); have HB := aM hb1; have HRD := aM (h.below hb1); have hx := yw w (.cells #[.int .i64 x.f0, .int .i64 x.f1, .string x.f2, .slice A3 x.f3.length c3, .slice A4 x.f4.length c4] 25); have HX := aM hx; clear h hb1 hx
 go_enter Tryz.func18,Tryz.ntmps18
 obtain ⟨w0,hw0⟩ : ∃ w0,w.alloc (.cells #[.int .i64 x.f0, .int .i64 x.f1, .string x.f2, .slice A3 x.f3.length c3, .slice A4 x.f4.length c4] 25) = w0 := ⟨_,rfl⟩
 rw [hw0] at HB HRD HX; have HSZ := aM (show w0.heap.size = w.heap.size + 1 by rw [← hw0,World.size_alloc]); have HW := aM hw0; clear hw0
 go_wp2_with fail
 rw [HW.out]; have c0 := C0.out w0; rw [HSZ.out] at c0; refine c0.mono ?_; rintro e w1 ⟨rfl,hb⟩; have hbx := zm (zb (Below.refl w0.heap.size w0) (.cells (row0.map Value.string).toArray 9)) hb; replace HB := aM (zm HB.out hbx); replace HRD := aM (HRD.out.below hbx); replace HX := aM ((hbx.block _ (zn HX.out)).trans HX.out); clear hb hbx
 go_wp2_with fail
 refine (C1.out w1).mono ?_; rintro e w2 ⟨rfl,hb⟩; have hbx := zm (zb (Below.refl w1.heap.size w1) (.cells (row1.map Value.string).toArray 9)) hb; replace HB := aM (zm HB.out hbx); replace HRD := aM (HRD.out.below hbx); replace HX := aM ((hbx.block _ (zn HX.out)).trans HX.out); clear hb hbx
 go_wp2_with fail
 refine (C2.out w2).mono ?_; rintro e w3 ⟨rfl,hb⟩; have hbx := zm (zb (Below.refl w2.heap.size w2) (.cells (row2.map Value.string).toArray 9)) hb; replace HB := aM (zm HB.out hbx); replace HRD := aM (HRD.out.below hbx); replace HX := aM ((hbx.block _ (zn HX.out)).trans HX.out); clear hb hbx
 go_wp2_with fail
 refine (spec_sayNamed.calls kn s false w3 HN.out).mono ?_; rintro e w4 ⟨rfl,hb⟩; replace HB := aM (zm HB.out hb); replace HRD := aM (HRD.out.below hb); have hx4 := (hb.block _ (zn HX.out)).trans HX.out; clear hb HX
 go_wp2_with (refine xr (.tmp 3) rfl rfl rfl hx4 ?_)
 refine (CC.out w4 A3 A4 c3 c4 HRD.out).mono ?_; rintro e w5 ⟨rfl,hb⟩; replace HB := aM (zm HB.out hb); clear hb
 go_wp2
 go_ret
 exact ⟨rfl,HB.out⟩
def cmdK : BA := ⟨#[99,111,109,109,97,110,100]⟩
def entK : BA := ⟨#[101,110,116,114,121,112,111,105,110,116]⟩
def heaK : BA := ⟨#[104,101,97,108,116,104,99,104,101,99,107]⟩
theorem attr_cmdK (x : VS) (b : Bool) (hc : Tells 29 x b) (w : World) (A3 A4 : Option Addr) (c3 c4 : Nat) (h : Reads w x A3 c3 A4 c4) :
  Calls Tryz.prog 18 #[.string cmdK, .agg #[.int .i64 x.f0, .int .i64 x.f1, .string x.f2, .slice A3 x.f3.length c3, .slice A4 x.f4.length c4]] w fun e w' => e = .returned (.bool b) ∧ Below w.heap.size w w' := attr_cmd cmdK (by decide +kernel) (by decide +kernel) (by decide +kernel) (by decide +kernel) (by decide +kernel) (by decide +kernel) (by decide +kernel) (by decide +kernel) x b hc w A3 A4 c3 c4 h
theorem attr_entK (x : VS) (b : Bool) (hc : Tells 29 x b) (w : World) (A3 A4 : Option Addr) (c3 c4 : Nat) (h : Reads w x A3 c3 A4 c4) :
  Calls Tryz.prog 18 #[.string entK, .agg #[.int .i64 x.f0, .int .i64 x.f1, .string x.f2, .slice A3 x.f3.length c3, .slice A4 x.f4.length c4]] w fun e w' => e = .returned (.bool b) ∧ Below w.heap.size w w' := attr_ent entK (by decide +kernel) (by decide +kernel) (by decide +kernel) (by decide +kernel) (by decide +kernel) (by decide +kernel) (by decide +kernel) (by decide +kernel) (by decide +kernel) (by decide +kernel) x b hc w A3 A4 c3 c4 h
theorem attr_heaK (x : VS) (b : Bool) (hc : Tells 30 x b) (w : World) (A3 A4 : Option Addr) (c3 c4 : Nat) (h : Reads w x A3 c3 A4 c4) :
  Calls Tryz.prog 18 #[.string heaK, .agg #[.int .i64 x.f0, .int .i64 x.f1, .string x.f2, .slice A3 x.f3.length c3, .slice A4 x.f4.length c4]] w fun e w' => e = .returned (.bool b) ∧ Below w.heap.size w w' := attr_hea heaK (by decide +kernel) (by decide +kernel) (by decide +kernel) (by decide +kernel) (by decide +kernel) (by decide +kernel) (by decide +kernel) (by decide +kernel) (by decide +kernel) (by decide +kernel) (by decide +kernel) (by decide +kernel) x b hc w A3 A4 c3 c4 h
end Go.Proofs.YtnmhjndjfblebaaGreatDoor.Tr
namespace Go.Proofs.YtnmhjndjfblebaaGreatDoor.Tr
open Go.RowKit Go.Proofs.YtnmhjndjfblebaaGreatDoorW.PrintWords Go.Proofs.YtnmhjndjfblebaaGreatDoorW.PrintLast Go.Proofs.YtnmhjndjfblebaaGreatDoor.Str Go.Proofs.YtnmhjndjfblebaaGreatDoor.Kit Go.Proofs.YtnmhjndjfblebaaGreatDoor.MapV Go.Proofs.YtnmhjndjfblebaaGreatDoor.Frame Go.Proofs.YtnmhjndjfblebaaGreatDoor.PS
open Go.Proofs.YtnmhjndjfblebaaGreatDoor.Val (place placeI placeB)
def oneV (k : BA) (x : VS) : VS := ⟨5,0,⟨#[]⟩, [k], [x]⟩
theorem one_small {k : BA} {x : VS} (hk : k.size ≤ 1000) (hx : SmallS x) : SmallS (oneV k x) :=
 .mk _ (Nat.zero_le _) (fun s hs => by rw [show s = k from List.mem_singleton.1 hs]; unfold maxLen; omega) (by simp [oneV]) (by simp [oneV]) (fun v hv => by rw [show v = x from List.mem_singleton.1 hv]; exact hx)
theorem one_canon {k : BA} {x : VS} (hx : Canon x) : Canon (oneV k x) := .map [k] [x] (List.pairwise_singleton _ _) rfl (fun v hv => by rw [show v = x from List.mem_singleton.1 hv]; exact hx)
theorem vv (k : BA) (x : VS) : anyOf (toI (oneV k x)) = .map [(lb k,anyOf (toI x))] := by
 have h := canon_anyOf_map (ks := [k]) (vs := [x]) (List.pairwise_singleton _ _) 0 ⟨#[]⟩; rw [show oneV k x = ⟨5,0,⟨#[]⟩, [k], [x]⟩ from rfl,h]
 simp [toL,anyL]
structure Svc (zx zy : VS) : Prop where
 sx : ∃ b,Tells 7 zx b
 sy : ∃ b,Tells 7 zy b
 hx : SmallS zx
 hy : SmallS zy
 mg : ∀ (W : World) (A3 A4 : Option Addr) (c3 c4 : Nat) (B3 B4 : Option Addr) (d3 d4 : Nat),ReadsI W (toI zx) A3 c3 A4 c4 → ReadsI W (toI zy) B3 d3 B4 d4 → Calls Tryz.prog 8 #[.agg #[.int .i64 (toI zx).f0, .int .i64 (toI zx).f1, .string (toI zx).f2, .slice A3 (toI zx).f3.length c3, .slice A4 (toI zx).f4.length c4], .agg #[.int .i64 (toI zy).f0, .int .i64 (toI zy).f1, .string (toI zy).f2, .slice B3 (toI zy).f3.length d3, .slice B4 (toI zy).f4.length d4], .string svB] W (Told W (toI zy))
theorem shell_of {x : VS} (hx : SmallS x) : ∃ b,Tells 29 x b :=
 tells_shell x hx.textIn (by have := hx.vals; omega) (fun v hv => (hx.at hv).textIn)
theorem says_of {k : BA} {x : VS} {b : Bool} (h : ∀ (W : World) (B3 B4 : Option Addr) (d3 d4 : Nat),Reads W x B3 d3 B4 d4 → Calls Tryz.prog 18 #[.string k, .agg #[.int .i64 x.f0, .int .i64 x.f1, .string x.f2, .slice B3 x.f3.length d3, .slice B4 x.f4.length d4]] W fun e w' => e = .returned (.bool b) ∧ Below W.heap.size W w') : Tells 7 (oneV k x) b :=
 fun W A3 A4 c3 c4 hr => says_service k x b A3 A4 c3 c4 W hr h
theorem next_of (p k : BA) (hp0 : (p.toList == []) = false) (hp1 : (p == ⟨#[]⟩) = false) (hp : p.size ≤ 1000) (hn : findI [46] (lb k) = -1) (hs : k.size ≤ 1000) : ∀ W,Calls Tryz.prog 66 #[.string p, .string k] W fun e W' => e = .returned (.string (p ++ ⟨#[46]⟩ ++ k)) ∧ Below W.heap.size W W' := fun W => path_nextG p k W hp0 hp1 hp hn (by omega)
theorem none_sv : NoRule svB := fun W => Tree.special_0 W
theorem none_hea : NoRule (svB ++ ⟨#[46]⟩ ++ heaK) := fun W => by
 rw [show svB ++ ⟨#[46]⟩ ++ heaK = (⟨#[115,101,114,118,105,99,101,115,46,115,46,104,101,97,108,116,104,99,104,101,99,107]⟩ : BA) by decide +kernel]; exact Tree.special_3 W
theorem rep_cmd : Replaces (svB ++ ⟨#[46]⟩ ++ cmdK) := fun W => by
 rw [show svB ++ ⟨#[46]⟩ ++ cmdK = (⟨#[115,101,114,118,105,99,101,115,46,115,46,99,111,109,109,97,110,100]⟩ : BA) by decide +kernel]; exact Tree.special_1 W
theorem rep_ent : Replaces (svB ++ ⟨#[46]⟩ ++ entK) := fun W => by
 rw [show svB ++ ⟨#[46]⟩ ++ entK = (⟨#[115,101,114,118,105,99,101,115,46,115,46,101,110,116,114,121,112,111,105,110,116]⟩ : BA) by decide +kernel]; exact Tree.special_2 W
theorem rep_tst : Replaces (svB ++ ⟨#[46]⟩ ++ heaK ++ ⟨#[46]⟩ ++ tstB) := fun W => by
 rw [show svB ++ ⟨#[46]⟩ ++ heaK ++ ⟨#[46]⟩ ++ tstB = (⟨#[115,101,114,118,105,99,101,115,46,115,46,104,101,97,108,116,104,99,104,101,99,107,46,116,101,115,116]⟩ : BA) by decide +kernel]; exact Tree.special_4 W
theorem svc_flat (k : BA) (hk : k.size ≤ 1000) (hn : findI [46] (lb k) = -1) (hrep : Replaces (svB ++ ⟨#[46]⟩ ++ k)) (hat : ∀ (x : VS) (b : Bool),Tells 29 x b → ∀ (w : World) (A3 A4 : Option Addr) (c3 c4 : Nat),Reads w x A3 c3 A4 c4 → Calls Tryz.prog 18 #[.string k, .agg #[.int .i64 x.f0, .int .i64 x.f1, .string x.f2, .slice A3 x.f3.length c3, .slice A4 x.f4.length c4]] w fun e w' => e = .returned (.bool b) ∧ Below w.heap.size w w')
  {f g : VS} (hf : SmallS f) (hg : SmallS g) (hcg : Canon g) : Svc (oneV k f) (oneV k g) := by
 obtain ⟨b1,h1⟩ := shell_of hf; obtain ⟨b2,h2⟩ := shell_of hg; have hsf := one_small hk hf; have hsg := one_small hk hg; refine ⟨⟨b1,says_of (hat f b1 h1)⟩,⟨b2,says_of (hat g b2 h2)⟩,hsf,hsg,fun W A3 A4 c3 c4 B3 B4 d3 d4 r1 r2 => ?_⟩; refine impl_mergeAt (toI (oneV k f)) (toI (oneV k g)) (toI (oneV k g)) (small_to _ hsf) (small_to _ hsg) k (anyOf (toI f)) (anyOf (toI g)) (vv k f) (vv k g) ?_ ?_ (fun v e o F G he ho hF hG hd => ?_) A3 A4 c3 c4 B3 B4 d3 d4 W r1 r2
 ·rw [← vv]; exact canon_back (one_canon hcg)
 ·rw [← vv]; exact (small_fits (small_to _ hsg)).1
 ·exact merge_down svB _ k none_sv (next_of svB k (by decide +kernel) (by decide +kernel) (by decide +kernel) hn hk) v e o _ _ F G he ho hF hG hd (fun U e1 o1 F1 G1 hU _ q2 _ hG1 => down_over _ hrep U e1 o1 F1 G1 _ q2 (fun j hj => Nat.lt_of_lt_of_le (hG j (hG1 j hj)) hU.size))
theorem svc_cmd {f g : VS} (hf : SmallS f) (hg : SmallS g) (hcg : Canon g) : Svc (oneV cmdK f) (oneV cmdK g) := svc_flat cmdK (by decide +kernel) (by decide +kernel) rep_cmd attr_cmdK hf hg hcg
theorem svc_ent {f g : VS} (hf : SmallS f) (hg : SmallS g) (hcg : Canon g) : Svc (oneV entK f) (oneV entK g) := svc_flat entK (by decide +kernel) (by decide +kernel) rep_ent attr_entK hf hg hcg
theorem svc_hea {f g : VS} (hf : SmallS f) (hg : SmallS g) (hcg : Canon g) : Svc (oneV heaK (oneV tstB f)) (oneV heaK (oneV tstB g)) := by
 obtain ⟨b1,h1⟩ := shell_of hf; obtain ⟨b2,h2⟩ := shell_of hg; have hsf := one_small (k := heaK) (by decide +kernel) (one_small (k := tstB) (by decide +kernel) hf); have hsg := one_small (k := heaK) (by decide +kernel) (one_small (k := tstB) (by decide +kernel) hg); refine ⟨⟨b1,says_of (attr_heaK _ b1 (tells_health f b1 h1))⟩,⟨b2,says_of (attr_heaK _ b2 (tells_health g b2 h2))⟩,hsf,hsg,fun W A3 A4 c3 c4 B3 B4 d3 d4 r1 r2 => ?_⟩; refine impl_mergeAt (toI (oneV heaK (oneV tstB f))) (toI (oneV heaK (oneV tstB g))) (toI (oneV heaK (oneV tstB g))) (small_to _ hsf) (small_to _ hsg) heaK (.map [(lb tstB,anyOf (toI f))]) (.map [(lb tstB,anyOf (toI g))]) (by rw [vv,vv]) (by rw [vv,vv]) ?_ ?_ (fun v e o F G he ho hF hG hd => ?_) A3 A4 c3 c4 B3 B4 d3 d4 W r1 r2
 ·rw [← vv, ← vv]; exact canon_back (one_canon (one_canon hcg))
 ·rw [← vv, ← vv]; exact (small_fits (small_to _ hsg)).1
 ·exact merge_down svB _ heaK none_sv (next_of svB heaK (by decide +kernel) (by decide +kernel) (by decide +kernel) (by decide +kernel) (by decide +kernel)) v e o _ _ F G he ho hF hG hd (fun U e1 o1 F1 G1 hU q1 q2 hF1 hG1 => merge_down _ _ tstB none_hea (next_of _ tstB (by decide +kernel) (by decide +kernel) (by decide +kernel) (by decide +kernel) (by decide +kernel)) U e1 o1 _ _ F1 G1 q1 q2 (fun j hj => Nat.lt_of_lt_of_le (hF j (hF1 j hj)) hU.size) (fun j hj => Nat.lt_of_lt_of_le (hG j (hG1 j hj)) hU.size) (fun j h1 h2 => hd j (hF1 j h1) (hG1 j h2)) (fun V e2 o2 F2 G2 hV _ s2 _ hG2 => down_over _ rep_tst V e2 o2 F2 G2 _ s2 (fun j hj => Nat.lt_of_lt_of_le (hG j (hG1 j (hG2 j hj))) (Nat.le_trans hU.size hV.size))))
end Go.Proofs.YtnmhjndjfblebaaGreatDoor.Tr
namespace Go.Proofs.YtnmhjndjfblebaaGreatDoor.Tr
open Go.RowKit Go.Proofs.YtnmhjndjfblebaaGreatDoorW.PrintWords Go.Proofs.YtnmhjndjfblebaaGreatDoorW.PrintLast Go.Proofs.YtnmhjndjfblebaaGreatDoor.Str Go.Proofs.YtnmhjndjfblebaaGreatDoor.Kit Go.Proofs.YtnmhjndjfblebaaGreatDoor.MapV Go.Proofs.YtnmhjndjfblebaaGreatDoor.Frame Go.Proofs.YtnmhjndjfblebaaGreatDoor.PS
def GivesP (Pf : VS → List Value → Prop) (h5 : ∀ {x cs}, Pf x cs → cs.length = 5) (h1 : ∀ {x cs}, Pf x cs → ∀ u ∈ cs,u.oneCell' = true) (x : VS) (w : World) (e : Ending) (w' : World) : Prop := ∃ v3 v4,e = .returned (.agg #[.int .i64 x.f0, .int .i64 x.f1, .string x.f2,v3,v4]) ∧ Kd.string.R 9 w' w.heap.size (fun k => w.heap.size ≤ k) v3 x.f3 ∧ (held 5 Pf h5 h1).R 25 w' w.heap.size (fun k => w.heap.size ≤ k) v4 x.f4 ∧ Below w.heap.size w w'
def TurnwiseP (Pf : VS → List Value → Prop) (w : World) (b : Nat) (ps : List (BA × VS)) : Prop := b < w.heap.size ∧ ∀ (j : Nat) (hj : j < ps.length), ∃ A5 c5 A6 c6,w.cell? ⟨b,2 * j,none⟩ = some (.iface 9 (.string ps[j].1)) ∧ w.cell? ⟨b,2 * j + 1,none⟩ = some (.iface 25 (.agg #[.int .i64 ps[j].2.f0, .int .i64 ps[j].2.f1, .string ps[j].2.f2, .slice A5 ps[j].2.f3.length c5, .slice A6 ps[j].2.f4.length c6]))
 ∧ Pf ps[j].2 [.int .i64 ps[j].2.f0, .int .i64 ps[j].2.f1, .string ps[j].2.f2, .slice A5 ps[j].2.f3.length c5, .slice A6 ps[j].2.f4.length c6]
theorem TurnwiseP.below {Pf : VS → List Value → Prop} {w w1 : World} {b : Nat} {ps : List (BA × VS)} (h : TurnwiseP Pf w b ps) (hb : Below w.heap.size w w1) : TurnwiseP Pf w1 b ps :=
 ⟨Nat.lt_of_lt_of_le h.1 hb.size,fun j hj => by
  obtain ⟨A5,c5,A6,c6,h1,h2,h3⟩ := h.2 j hj
  exact ⟨A5,c5,A6,c6,zf hb h1,zf hb h2,h3⟩⟩
set_option maxHeartbeats 6400000 in
set_option maxRecDepth 100000 in
theorem specMP (Pf : VS → List Value → Prop) (h5P : ∀ {x cs}, Pf x cs → cs.length = 5) (h1P : ∀ {x cs}, Pf x cs → ∀ u ∈ cs,u.oneCell' = true) (ps : List (BA × VS)) (hps : ps.length ≤ 1000000) (b n c : Nat) (hn : n = 2 * ps.length) (w : World) (h : TurnwiseP Pf w b ps) :
  Calls Tryz.prog 6 #[.slice (some ⟨b,0,none⟩) n c] w (GivesP Pf h5P h1P (mapsOf (ps.map (·.1)) (ps.map (·.2))) w) := by
 obtain ⟨KF,VF,hF⟩ : ∃ KF VF,fitW (ps.map (·.1)) (ps.map (·.2)) [] [] = (KF,VF) := ⟨_, _,rfl⟩
 have hgoal : mapsOf (ps.map (·.1)) (ps.map (·.2)) = ⟨5,0,⟨#[]⟩,KF,VF⟩ := by unfold mapsOf; rw [hF]
 rw [hgoal]; have HB := aM (zb (Below.refl w.heap.size w) (.cells zC 25)); have hrb := yw w (.cells zC 25); have HR0 := aM hrb; have HT := aM h; have HF := aM hF; have HN := aM hn; have HPS := aM hps; have hbw := h.1; clear h hgoal hrb hF hn hps; have CE := aM (empty_gives (w.alloc (.cells zC 25)))
 go_enter Tryz.func6,Tryz.ntmps6
 go_wp2_with fail
 refine CE.out.mono ?_; rintro e w1 ⟨rfl,hb⟩; have hbn := zb (Below.refl w1.heap.size w1) (.cells #[.int .i64 5, .int .i64 0, .string ⟨#[]⟩, .slice none 0 0, .slice none 0 0] 25); have hsz1 := hb.size; rw [World.size_alloc] at hsz1; have HB2 := aM (zm (zm HB.out hb) hbn); have HR2 := aM (ze ((hb.block _ (zn HR0.out)).trans HR0.out) (.cells #[.int .i64 5, .int .i64 0, .string ⟨#[]⟩, .slice none 0 0, .slice none 0 0] 25)); have HG2 := aM (yw w1 (.cells #[.int .i64 5, .int .i64 0, .string ⟨#[]⟩, .slice none 0 0, .slice none 0 0] 25)); clear hb hbn CE HB HR0
 go_wp2
 generalize hW2 : w1.alloc _ = W2 at HB2 HR2 HG2 ⊢; generalize hb3 : w1.heap.size = b3 at HG2 hsz1 ⊢; clear hW2 hb3
 go_loopw [4] (fun v wr => ∃ (i m : Nat) (Ks : List BA) (Vs : List VS) (A7 A8 : Option Addr) (c7 c8 : Nat),v = .int .i64 m ∧ Aside0 (m = 2 * i) ∧ Aside0 (i ≤ ps.length) ∧ Aside0 (Ks.length = Vs.length) ∧ Aside0 (Vs.length ≤ i) ∧ Aside0 (fitW ((ps.map (·.1)).drop i) ((ps.map (·.2)).drop i) Ks Vs = (KF,VF))
  ∧ Aside0 (wr.heap[b3]? = some (.cells #[.int .i64 5, .int .i64 0, .string ⟨#[]⟩, .slice A7 Ks.length c7, .slice A8 Vs.length c8] 25 (0,0)))
  ∧ Aside0 (wr.heap[w.heap.size]? = some (.cells zC 25 (0,0))) ∧ Aside0 (Below w.heap.size w wr)
  ∧ Aside0 (Kd.string.R 9 wr b3 (fun k => b3 < k) (.slice A7 Ks.length c7) Ks)
  ∧ Aside0 ((held 5 Pf h5P h1P).R 25 wr b3 (fun k => b3 < k) (.slice A8 Vs.length c8) Vs)) (fun v _ => n - (intOf v).toNat)
 case atStart => exact ⟨0,0, [], [],none,none,0,0,rfl,⟨rfl⟩,⟨Nat.zero_le _⟩,⟨rfl⟩,⟨Nat.le_refl _⟩,HF,HG2,HR2,HB2,⟨Kd.R_nil _ _ _ _ _⟩,⟨Kd.R_nil _ _ _ _ _⟩⟩
 case round =>
  clear HG2 HR2 HB2; obtain ⟨i,m,Ks,Vs,A7,A8,c7,c8,rfl,HM,HI,HKV,HVI,HFI,HG,HR,HB,HK,HV⟩ := hrel
  have q0 : (0 : Int) ≤ (m : Int) := by omega
  by_cases hlv : i < ps.length
  ·obtain ⟨A5,c5,A6,c6,h1,h2,h3⟩ := HT.out.2 i hlv; have m0 := zf HB.out h1; have m1 := zf HB.out h2; rw [← HM.out] at m0 m1
   obtain ⟨key,hkey⟩ : ∃ key,ps[i].1 = key := ⟨_,rfl⟩
   obtain ⟨u,hu⟩ : ∃ u,ps[i].2 = u := ⟨_,rfl⟩
   rw [hkey] at m0; rw [hu] at m1 h3; have HU := aM (show ∃ h : i < ps.length,ps[i].1 = key ∧ ps[i].2 = u from ⟨hlv,hkey,hu⟩); obtain ⟨u0,u1,u2,u3,u4⟩ := u; have HKE := aM h3; have HLV := aM hlv
   have q1 : (m : Int) + 1 < (n : Int) := by have := HM.out; have := HN.out; omega
   have q3 : (m : Int) < (n : Int) := by omega
   have q4 : (0 : Int) ≤ (m : Int) + 1 := by omega
   have q6 : ((m : Int) + 1).toNat = m + 1 := by omega
   have hd1 : decide ((m : Int) + 1 < (n : Int)) = true := decide_eq_true q1; have e0 : wr.cell? ⟨b3,0,none⟩ = some (.int .i64 5) := zu (i := 0) HG.out rfl; have e1 : wr.cell? ⟨b3,1,none⟩ = some (.int .i64 0) := zu (i := 1) HG.out rfl; have e2 : wr.cell? ⟨b3,2,none⟩ = some (.string ⟨#[]⟩) := zu (i := 2) HG.out rfl; have e3 : wr.cell? ⟨b3,3,none⟩ = some (.slice A7 Ks.length c7) := zu (i := 3) HG.out rfl; have e4 : wr.cell? ⟨b3,4,none⟩ = some (.slice A8 Vs.length c8) := zu (i := 4) HG.out rfl
   have hvn : Vs.length ≤ 1759218604400 := by have := HVI.out; have := HI.out; have := HPS.out; omega
   obtain ⟨_,l7,r7⟩ := Kd.R_reads' HK.out; obtain ⟨_,l8,r8⟩ := Kd.R_reads' HV.out
   obtain ⟨K2,hK2⟩ : ∃ K2,withK Ks key = K2 := ⟨_,rfl⟩
   obtain ⟨V2,hV2⟩ : ∃ V2,withV Ks Vs key (⟨u0,u1,u2,u3,u4⟩ : VS) = V2 := ⟨_,rfl⟩
   have hl1 := withV_length (key := key) (x := (⟨u0,u1,u2,u3,u4⟩ : VS)) HKV.out; have hl2 := withK_length (ks := Ks) (key := key); rw [hK2] at hl1 hl2; rw [hV2] at hl1; have HL1 := aM hl1.symm; have HL2 := aM (show V2.length ≤ i + 1 by have := HVI.out; have := HKV.out; omega)
   have HNX := aM (show fitW ((ps.map (·.1)).drop (i + 1)) ((ps.map (·.2)).drop (i + 1)) K2 V2 = (KF,VF) by
    have := HFI.out; rw [List.drop_eq_getElem_cons (show i < (ps.map (·.1)).length by rw [List.length_map]; exact hlv),List.drop_eq_getElem_cons (show i < (ps.map (·.2)).length by rw [List.length_map]; exact hlv),List.getElem_map,List.getElem_map,hkey,hu,fitW,hK2,hV2] at this
    exact this)
   have CW := aM (WithP Pf h5P h1P (A3 := A7) (A4 := A8) (c3 := c7) (c4 := c8) (A5 := A5) (A6 := A6) (c5 := c5) (c6 := c6) 5 0 ⟨#[]⟩ Ks Vs key (⟨u0,u1,u2,u3,u4⟩ : VS) wr.drew (Kd.C_below r7 (yh (Below.refl _ _))) (ReadsRow.imp_ r8 (yh (Below.refl _ _)) (fun _ _ hp => hp)) HKE.out HKV.out hvn K2 V2 hK2 hV2); have HLT := aM (zn HG.out)
   have q5 : wrap64 ((m : Int) + 1) = (m : Int) + 1 := by have := HPS.out; have := HN.out; unfold wrap64; omega
   have ns := need_str; have nv := need_val; clear h1 h2 h3 hkey hu hl1 hl2 hK2 hV2 l7 r7 l8 r8 hlv hvn
   go_wp2_with fail
   refine xm (n := 14) (S := fun w' => w'.cell? ⟨b3,0,none⟩ = some (.int .i64 5) ∧ w'.cell? ⟨b3,1,none⟩ = some (.int .i64 0) ∧ w'.cell? ⟨b3,2,none⟩ = some (.string ⟨#[]⟩) ∧ w'.cell? ⟨b3,3,none⟩ = some (.slice A7 Ks.length c7) ∧ w'.cell? ⟨b3,4,none⟩ = some (.slice A8 Vs.length c8) ∧ w'.cell? ⟨b,m,none⟩ = some (.iface 9 (.string key)) ∧ w'.cell? ⟨b,m + 1,none⟩ = some (.iface 25 (.agg #[.int .i64 u0, .int .i64 u1, .string u2, .slice A5 u3.length c5, .slice A6 u4.length c6]))) (ds := [12,13]) (bZ 14 0) (by kernel_rfl) rfl rfl ⟨e0,e1,e2,e3,e4,m0,m1⟩ (fun hHeld => ?_); refine pU 1 (some 14) (bZ 14 2) rfl (by kernel_rfl) ?_; refine pU 2 (some 15) (bZ 14 6) rfl (by kernel_rfl) ?_; refine pU 3 (some 16) (bZ 14 14) rfl (by kernel_rfl) ?_; refine pU 6 (some 19) (bZ 14 78) rfl (by kernel_rfl) ?_; refine pU 7 (some 20) (bZ 14 206) rfl (by kernel_rfl) ?_; refine pU 8 (some 21) (bZ 14 462) rfl (by kernel_rfl) ?_; refine pU 9 (some 22) (bZ 14 974) rfl (by kernel_rfl) ?_; refine tU 0 (some 13) (bZ 14 975) rfl (by kernel_rfl) (Or.inl ⟨by rfl,by rintro w' ⟨s0,s1,s2,s3,s4,s5,s6⟩; go_simp; with_reducible rfl⟩) hHeld ?_; refine tU 4 (some 17) (bZ 14 991) rfl (by kernel_rfl) (Or.inl ⟨by rfl,by rintro w' ⟨s0,s1,s2,s3,s4,s5,s6⟩; go_simp; with_reducible rfl⟩) hHeld ?_; refine pU 5 (some 18) (bZ 14 1023) rfl (by kernel_rfl) ?_; refine tU 10 (some 23) (bZ 14 2047) rfl (by kernel_rfl) (Or.inl ⟨by rfl,by rintro w' ⟨s0,s1,s2,s3,s4,s5,s6⟩; go_simp; with_reducible rfl⟩) hHeld ?_; refine pU 11 (some 24) (bZ 14 4095) rfl (by kernel_rfl) ?_; refine xn (i := 12) (N := some 25) (bZ 14 8191) rfl rfl (by kernel_rfl) (by decide) (fun K hK => ?_); refine xc Tryz.func17 (by kernel_rfl) rfl #[.agg #[.int .i64 5, .int .i64 0, .string ⟨#[]⟩, .slice A7 Ks.length c7, .slice A8 Vs.length c8], .string key, .agg #[.int .i64 u0, .int .i64 u1, .string u2, .slice A5 u3.length c5, .slice A6 u4.length c6]] (by rfl) rfl rfl (by simp only [List.map_toArray,List.map_cons,List.map_nil]; rfl) ?_
   with_reducible refine (CW.out).mono ?_
   rintro e w4 ⟨B7,d7,B8,d8,rfl,k1,k2,hb⟩; refine ⟨_,rfl, ?_⟩; refine hK.out _ _ ?_; clear hK K; refine zr (a' := ?_) ?_ ?_; rotate_left
   ·show Act.put _ (some 25) _ = _
    simp only [Act.put,sA,sB,sC,yf,yg]; rfl
   refine xn (i := 13) (N := none) (bZ 14 16383) rfl rfl (by kernel_rfl) (by decide) (fun K hK => ?_); have HB4 := aM (zm (yh HB.out) hb); have HG4 := aM ((hb.block _ (zn (show wr.drew.heap[b3]? = _ from HG.out))).trans HG.out); have HR4 := aM ((hb.block _ (zn (show wr.drew.heap[w.heap.size]? = _ from HR.out))).trans HR.out); refine xg (w := w4) rfl rfl 25 (.tmp 3) (.tmp 25) rfl b3 #[.int .i64 5, .int .i64 0, .string ⟨#[]⟩, .slice B7 K2.length d7, .slice B8 V2.length d8] rfl rfl 25 _ HG4.out xz rfl (vr _ _ _ _ _ _ _ _ _) ?_; refine hK.out _ _ ?_; clear hK K; refine xy (by kernel_rfl) ?_; have hlw : b3 < wr.drew.heap.size := HLT.out; have hg := yi w4 b3 #[.int .i64 5, .int .i64 0, .string ⟨#[]⟩, .slice B7 K2.length d7, .slice B8 V2.length d8]; have HG5 := aM (setRow_heap w4 b3 _ #[.int .i64 5, .int .i64 0, .string ⟨#[]⟩, .slice B7 K2.length d7, .slice B8 V2.length d8] _ _ HG4.out); have HR5 := aM ((setRow_other w4 b3 w.heap.size #[.int .i64 5, .int .i64 0, .string ⟨#[]⟩, .slice B7 K2.length d7, .slice B8 V2.length d8] (by omega)).trans HR4.out); have HB5 := aM (zt HB4.out (some b3) HB4.out.size hg (fun k hk => by injection hk with hk; omega)); have HK5 := aM (Kd.R_grown (Kd.R_lower (Kd.R_mono (Kd.R_bound k1) (ok' := fun k => b3 < k) (fun k h => Nat.lt_of_lt_of_le hlw h.2.1)) (Nat.le_of_lt hlw)) hg (fun k hk e => by injection e with e; omega)); have HV5 := aM (Kd.R_grown (Kd.R_lower (Kd.R_mono (Kd.R_bound k2) (ok' := fun k => b3 < k) (fun k h => Nat.lt_of_lt_of_le hlw h.2.1)) (Nat.le_of_lt hlw)) hg (fun k hk e => by injection e with e; omega)); clear hg k1 k2 HG4 HR4 HB4 hHeld hb hlw e0 e1 e2 e3 e4 m0 m1 q5
   have q7 : wrap64 ((m : Int) + 2) = ((m + 2 : Nat) : Int) := by have := HM.out; have := HLV.out; have := HPS.out; unfold wrap64; omega
   generalize w4.setRow b3 #[.int .i64 5, .int .i64 0, .string ⟨#[]⟩, .slice B7 K2.length d7, .slice B8 V2.length d8] = w5 at HG5 HR5 HB5 HK5 HV5 ⊢
   go_wp2
   go_roundw
   case rel => exact ⟨i + 1,m + 2,K2,V2,B7,B8,d7,d8,congrArg (Value.int .i64) q7,⟨by have := HM.out; clear q7; omega⟩,⟨HLV.out⟩,HL1,HL2,HNX,HG5,HR5,HB5,HK5,HV5⟩
   case measure =>
    rw [q7]; clear q7; have h1 := HM.out; have h2 := HN.out; have h3 := HLV.out
    simp [intOf]
    omega
  ·have hil : i = ps.length := by have := HI.out; omega
   have q1 : ¬ (m : Int) + 1 < (n : Int) := by have := HM.out; have := HN.out; omega
   have q5 : wrap64 ((m : Int) + 1) = (m : Int) + 1 := by have h1 := HM.out; have h2 := HI.out; have h3 := HPS.out; unfold wrap64; omega
   have hd1 : decide ((m : Int) + 1 < (n : Int)) = false := decide_eq_false q1
   have hF1 : (Ks,Vs) = (KF,VF) := by
    have := HFI.out; rw [List.drop_eq_nil_of_le (show (ps.map (·.1)).length ≤ i by rw [List.length_map]; omega),List.drop_eq_nil_of_le (show (ps.map (·.2)).length ≤ i by rw [List.length_map]; omega)] at this; exact this
   obtain ⟨rfl,rfl⟩ := Prod.mk.inj hF1; clear hF1 hil q1
   go_wp2_with (first | refine xr (.tmp 3) rfl rfl rfl HG.out ?_ | refine vt (.tmp 2) (.tmp 26) rfl rfl rfl rfl HR.out ?_)
   clear q5; have hg := yi wr w.heap.size #[.int .i64 5, .int .i64 0, .string ⟨#[]⟩, .slice A7 Ks.length c7, .slice A8 Vs.length c8]; have h5 := setRow_heap wr w.heap.size _ #[.int .i64 5, .int .i64 0, .string ⟨#[]⟩, .slice A7 Ks.length c7, .slice A8 Vs.length c8] _ _ HR.out; have hB := zt HB.out (some w.heap.size) HB.out.size hg (fun k hk => by injection hk with hk; have h2 : w.heap.size = k := hk; omega); have hK := Kd.R_grown HK.out hg (fun k hk e => by injection e with e; omega); have hV := Kd.R_grown HV.out hg (fun k hk e => by injection e with e; omega); exact bodyPost_ret (v := .agg #[.int .i64 5, .int .i64 0, .string ⟨#[]⟩, .slice A7 Ks.length c7, .slice A8 Vs.length c8]) (vp rfl rfl h5) rfl ⟨_, _,rfl,Kd.R_lower (Kd.R_mono hK (fun k hk => by omega)) (by omega),Kd.R_lower (Kd.R_mono hV (fun k hk => by omega)) (by omega),hB⟩
def Cells5 (x0 x1 : Int) (x2 : BA) (A3 : Option Addr) (n3 c3 : Nat) (A4 : Option Addr) (n4 c4 : Nat) (x : VS) (cs : List Value) : Prop := cs = [.int .i64 x0, .int .i64 x1, .string x2, .slice A3 n3 c3, .slice A4 n4 c4]
theorem cells5_len {x0 x1 : Int} {x2 : BA} {A3 : Option Addr} {n3 c3 : Nat} {A4 : Option Addr} {n4 c4 : Nat} {x : VS} {cs : List Value} (h : Cells5 x0 x1 x2 A3 n3 c3 A4 n4 c4 x cs) : cs.length = 5 := by rw [show cs = _ from h]; rfl
theorem cells5_one {x0 x1 : Int} {x2 : BA} {A3 : Option Addr} {n3 c3 : Nat} {A4 : Option Addr} {n4 c4 : Nat} {x : VS} {cs : List Value} (h : Cells5 x0 x1 x2 A3 n3 c3 A4 n4 c4 x cs) : ∀ u ∈ cs,u.oneCell' = true := by
 rw [show cs = _ from h]; intro u hu
 simp at hu
 rcases hu with rfl | rfl | rfl | rfl | rfl <;> rfl
def ArgsM (w : World) (b : Nat) (k : BA) (x0 x1 : Int) (x2 : BA) (A3 : Option Addr) (n3 c3 : Nat) (A4 : Option Addr) (n4 c4 : Nat) : Prop := w.heap[b]? = some (.cells #[.iface 9 (.string k), .iface 25 (.agg #[.int .i64 x0, .int .i64 x1, .string x2, .slice A3 n3 c3, .slice A4 n4 c4])] 20 (0,0))
def InRows (w : World) (lo hi : Nat) (k : BA) (x : VS) (A3 : Option Addr) (c3 : Nat) (A4 : Option Addr) (c4 : Nat) (B3 : Option Addr) (d3 : Nat) (B4 : Option Addr) (d4 : Nat) : Prop := hi ≤ w.heap.size ∧ ∀ U : World,Reads U x A3 c3 A4 c4 → (∀ j,lo ≤ j → j < hi → U.heap[j]? = w.heap[j]?) → Reads U ⟨5,0,⟨#[]⟩, [k], [x]⟩ B3 d3 B4 d4
theorem InRows.below {w w1 : World} {lo hi : Nat} {k : BA} {x : VS} {A3 : Option Addr} {c3 : Nat} {A4 : Option Addr} {c4 : Nat} {B3 : Option Addr} {d3 : Nat} {B4 : Option Addr} {d4 : Nat} (h : InRows w lo hi k x A3 c3 A4 c4 B3 d3 B4 d4) (hb : Below w.heap.size w w1) : InRows w1 lo hi k x A3 c3 A4 c4 B3 d3 B4 d4 :=
 ⟨Nat.le_trans h.1 hb.size,fun U hx hU => h.2 U hx (fun j h1 h2 => (hU j h1 h2).trans (hb.block j (Nat.lt_of_lt_of_le h2 h.1)))⟩
theorem m_in (k : BA) (x : VS) (A3 A4 : Option Addr) (c3 c4 : Nat) (b : Nat) (w : World) (h : ArgsM w b k x.f0 x.f1 x.f2 A3 x.f3.length c3 A4 x.f4.length c4) :
  Calls Tryz.prog 6 #[.slice (some ⟨b,0,none⟩) 2 2] w fun e w' => ∃ B3 d3 B4 d4,e = .returned (.agg #[.int .i64 5, .int .i64 0, .string ⟨#[]⟩, .slice B3 1 d3, .slice B4 1 d4]) ∧ InRows w' w.heap.size w'.heap.size k x A3 c3 A4 c4 B3 d3 B4 d4 ∧ Below w.heap.size w w' := by
 have hT : TurnwiseP (Cells5 x.f0 x.f1 x.f2 A3 x.f3.length c3 A4 x.f4.length c4) w b [(k,x)] := ⟨zn h,fun j hj => by
  match j,hj with
  | 0, _ => exact ⟨A3,c3,A4,c4,zu (i := 0) h rfl,zu (i := 1) h rfl,rfl⟩
  | _ + 1,h => exact absurd h (by simp)⟩
 refine (specMP _ cells5_len cells5_one [(k,x)] (by simp) b 2 2 rfl w hT).mono ?_; rintro e w' ⟨v3,v4,he,hr3,hr4,hb⟩; rw [show mapsOf (List.map (·.1) [(k,x)]) (List.map (·.2) [(k,x)]) = ⟨5,0,⟨#[]⟩, [k], [x]⟩ from mapsOf_one k x] at he hr3 hr4; obtain ⟨B3,d3,rfl⟩ := Kd.R_slice hr3; obtain ⟨B4,d4,rfl⟩ := Kd.R_slice hr4; refine ⟨B3,d3,B4,d4,he,⟨Nat.le_refl _,fun U hx hU => ?_⟩,hb⟩; have s3 := Kd.R_reads' (Kd.R_move (Kd.R_bound hr3) (fun j hj => hU j hj.2.1 hj.2.2.1)); have s4 := Kd.R_reads' (Kd.R_move (Kd.R_bound hr4) (fun j hj => hU j hj.2.1 hj.2.2.1)); refine ⟨s3.2.1,s3.2.2,s4.2.1, ?_⟩; have h4 : ReadsRow (Cells5 x.f0 x.f1 x.f2 A3 x.f3.length c3 A4 x.f4.length c4) 5 U B4 [x].length [x] := s4.2.2; obtain ⟨q1,q2,q3⟩ := h4; refine ⟨q1,q2,fun h0 => ?_⟩; obtain ⟨ad,e1,hg⟩ := q3 h0; refine ⟨ad,e1,fun j p hj => ?_⟩; obtain ⟨cs,hl,hc,hcell⟩ := hg j p hj
 have hp : p = x := by
  cases j with
  | zero => simpa using hj.symm
  | succ j => simp at hj
 subst hp; refine ⟨cs,hl, ?_,hcell⟩; rw [show cs = _ from hc]; exact k25_mk U p hx.l3 hx.hk hx.l4 hx.hv
theorem yd {w1 w2 : World} {o : Obj} (hg : w1.alloc o = w2) : Below w1.heap.size w1 w2 := by subst hg; exact zb (Below.refl _ _) o
theorem yu {w1 w2 : World} {k : BA} {x0 x1 : Int} {x2 : BA} {A3 : Option Addr} {n3 c3 : Nat} {A4 : Option Addr} {n4 c4 : Nat} (hg : w1.alloc (.cells #[.iface 9 (.string k), .iface 25 (.agg #[.int .i64 x0, .int .i64 x1, .string x2, .slice A3 n3 c3, .slice A4 n4 c4])] 20) = w2) : ArgsM w2 w1.heap.size k x0 x1 x2 A3 n3 c3 A4 n4 c4 := by subst hg; exact yw w1 _
def IsBox (b g : Nat) (w : World) : Prop := b ≤ g ∧ w.heap[g]? = some (.cells #[.int .i64 0, .int .i64 0, .string ⟨#[]⟩, .slice none 0 0, .slice none 0 0] 25 (0,0))
theorem xa {b : Nat} {w1 w2 : World} (hg : w1.alloc (.cells #[.int .i64 0, .int .i64 0, .string ⟨#[]⟩, .slice none 0 0, .slice none 0 0] 25) = w2) (h : b ≤ w1.heap.size) : IsBox b w1.heap.size w2 := by subst hg; exact ⟨h,yw w1 _⟩
theorem IsBox.below {b g : Nat} {w w1 : World} (h : IsBox b g w) (hb : Below w.heap.size w w1) : IsBox b g w1 := ⟨h.1,(hb.block _ (zn h.2)).trans h.2⟩
theorem IsBox.lt {b g : Nat} {w : World} (h : IsBox b g w) : g < w.heap.size := zn h.2
def IsBoxI (b g : Nat) (w : World) : Prop := b ≤ g ∧ w.heap[g]? = some (.cells #[.int .i64 0, .int .i64 0, .string ⟨#[]⟩, .slice none 0 0, .slice none 0 0] 31 (0,0))
theorem vw {b : Nat} {w1 w2 : World} (hg : w1.alloc (.cells #[.int .i64 0, .int .i64 0, .string ⟨#[]⟩, .slice none 0 0, .slice none 0 0] 31) = w2) (h : b ≤ w1.heap.size) : IsBoxI b w1.heap.size w2 := by subst hg; exact ⟨h,yw w1 _⟩
theorem IsBoxI.below {b g : Nat} {w w1 : World} (h : IsBoxI b g w) (hb : Below w.heap.size w w1) : IsBoxI b g w1 := ⟨h.1,(hb.block _ (zn h.2)).trans h.2⟩
theorem IsBoxI.lt {b g : Nat} {w : World} (h : IsBoxI b g w) : g < w.heap.size := zn h.2
abbrev Box2 (b : Nat) (x0 x1 : Int) (x2 : BA) (A3 : Option Addr) (n3 c3 : Nat) (A4 : Option Addr) (n4 c4 : Nat) (b' : Nat) (y0 y1 : Int) (y2 : BA) (B3 : Option Addr) (m3 d3 : Nat) (B4 : Option Addr) (m4 d4 : Nat) (w : World) : Prop := w.cell? ⟨b,0,none⟩ = some (.int .i64 x0) ∧ w.cell? ⟨b,1,none⟩ = some (.int .i64 x1) ∧ w.cell? ⟨b,2,none⟩ = some (.string x2) ∧ w.cell? ⟨b,3,none⟩ = some (.slice A3 n3 c3) ∧ w.cell? ⟨b,4,none⟩ = some (.slice A4 n4 c4) ∧ w.cell? ⟨b', 0,none⟩ = some (.int .i64 y0) ∧ w.cell? ⟨b', 1,none⟩ = some (.int .i64 y1) ∧ w.cell? ⟨b', 2,none⟩ = some (.string y2) ∧ w.cell? ⟨b', 3,none⟩ = some (.slice B3 m3 d3) ∧ w.cell? ⟨b', 4,none⟩ = some (.slice B4 m4 d4)
theorem b10 {b : Nat} {x0 x1 : Int} {x2 : BA} {A3 : Option Addr} {n3 c3 : Nat} {A4 : Option Addr} {n4 c4 : Nat} {b' : Nat} {y0 y1 : Int} {y2 : BA} {B3 : Option Addr} {m3 d3 : Nat} {B4 : Option Addr} {m4 d4 : Nat} {w w1 : World} (hb : Below w.heap.size w w1) (h : Box2 b x0 x1 x2 A3 n3 c3 A4 n4 c4 b' y0 y1 y2 B3 m3 d3 B4 m4 d4 w) : Box2 b x0 x1 x2 A3 n3 c3 A4 n4 c4 b' y0 y1 y2 B3 m3 d3 B4 m4 d4 w1 := by
 obtain ⟨h0,h1,h2,h3,h4,h5,h6,h7,h8,h9⟩ := h; exact ⟨zf hb h0,zf hb h1,zf hb h2,zf hb h3,zf hb h4,zf hb h5,zf hb h6,zf hb h7,zf hb h8,zf hb h9⟩
def InI (w : World) (lo hi : Nat) (x : VI) (A3 : Option Addr) (c3 : Nat) (A4 : Option Addr) (c4 : Nat) : Prop := hi ≤ w.heap.size ∧ ∀ U : World,(∀ j,lo ≤ j → j < hi → U.heap[j]? = w.heap[j]?) → ReadsI U x A3 c3 A4 c4
theorem InI.below {w w1 : World} {lo hi : Nat} {x : VI} {A3 : Option Addr} {c3 : Nat} {A4 : Option Addr} {c4 : Nat} (h : InI w lo hi x A3 c3 A4 c4) (hb : Below w.heap.size w w1) : InI w1 lo hi x A3 c3 A4 c4 :=
 ⟨Nat.le_trans h.1 hb.size,fun U hU => h.2 U (fun j h1 h2 => (hU j h1 h2).trans (hb.block j (Nat.lt_of_lt_of_le h2 h.1)))⟩
theorem told_in {w w' : World} {u : VI} {e : Ending} (h : Told w u e w') : ∃ A3 c3 A4 c4,e = .returned (.tuple #[.agg #[.int .i64 u.f0, .int .i64 u.f1, .string u.f2, .slice A3 u.f3.length c3, .slice A4 u.f4.length c4], .bool true]) ∧ InI w' w.heap.size w'.heap.size u A3 c3 A4 c4 ∧ Below w.heap.size w w' := by
 obtain ⟨v3,v4,he,hr3,hr4,hb⟩ := h; obtain ⟨A3,c3,rfl⟩ := Kd.R_slice hr3; obtain ⟨A4,c4,rfl⟩ := Kd.R_slice hr4; refine ⟨A3,c3,A4,c4,he,⟨Nat.le_refl _,fun U hU => ?_⟩,hb⟩; have s3 := Kd.R_reads' (Kd.R_move (Kd.R_bound hr3) (fun j hj => hU j hj.2.1 hj.2.2.1)); have s4 := Kd.R_reads' (Kd.R_move (Kd.R_bound hr4) (fun j hj => hU j hj.2.1 hj.2.2.1)); exact ⟨s3.2.1,s3.2.2,s4.2.1,s4.2.2⟩
end Go.Proofs.YtnmhjndjfblebaaGreatDoor.Tr
