/- utils.StringToBool at texts of ASCII; the known answers that each law over maps asks for. -/
import Derived.Test.YtididniafloogaaGreatDoorNewMap
import Derived.Test.YtididniafloogaaGreatDoorPairsFn
import Derived.WalkSmall
namespace Go.Proofs.YtididniafloogaaGreatDoor.Maps
open Go.RowKit Go.Proofs.YtididniafloogaaGreatDoorW.PrintWords Go.Proofs.YtididniafloogaaGreatDoor.Str Go.Proofs.YtididniafloogaaGreatDoor.Kit Go.Proofs.YtididniafloogaaGreatDoor.Flat Go.Proofs.YtididniafloogaaGreatDoor.MapV Go.Proofs.YtididniafloogaaGreatDoor.Frame Go.Proofs.YtididniafloogaaGreatDoor.Index
set_option linter.unusedVariables false
set_option linter.unusedSimpArgs false

/-- the library's variables that a text's truth is read by -/
def MTabs (w : World) : Prop := Lib.TabIs Tryz.prog w "strings.asciiSpace" .u8 Lib.asciiSpaceTab ∧ ∃ tp p, w.var? Tryz.prog "strconv.ErrSyntax" = some #[.iface tp p]
theorem var_keep {n : String} {g : Nat} (hg : Tryz.prog.globalNamed n = some g) {w w' : World} {cs : Array Value} (h : w.var? Tryz.prog n = some cs) (hb : Below w.heap.size w w') : w'.var? Tryz.prog n = some cs := by
  refine var?_below hb hg ?_ h
  unfold World.var? at h
  rw [hg] at h
  simp only [Option.bind_some] at h
  split at h
  · rename_i cs' t r heq
    exact (Array.getElem?_eq_some_iff.1 heq).1
  · cases h
theorem MTabs.below {w w' : World} (h : MTabs w) (hb : Below w.heap.size w w') : MTabs w' := by
  obtain ⟨h1, tp, p, h2⟩ := h
  exact ⟨var_keep (g := 0) (by kernel_rfl) h1 hb, tp, p, var_keep (g := 2) (by kernel_rfl) h2 hb⟩
/-- the truth that a text says; none: an error -/
def truthB (l : Bs) : Bool := (Lib.parseBool (Lib.toLowerA (Lib.trimSpace l))).getD false
theorem trim_mem {l : Bs} {b : UInt8} (h : b ∈ Lib.trimSpace l) : b ∈ l := by
  unfold Lib.trimSpace at h
  rw [List.mem_reverse] at h
  have := (List.dropWhile_sublist _).subset h
  rw [List.mem_reverse] at this
  exact (List.dropWhile_sublist _).subset this
theorem trim_length (l : Bs) : (Lib.trimSpace l).length ≤ l.length := by
  unfold Lib.trimSpace
  rw [List.length_reverse]
  refine Nat.le_trans (List.dropWhile_sublist _).length_le ?_
  rw [List.length_reverse]
  exact (List.dropWhile_sublist _).length_le
set_option maxHeartbeats 800000 in
theorem utilsBool (s : BA) (w : World) (ha : ∀ b ∈ lb s, b.toNat < 128) (hs : s.size ≤ 4398046511104) (hT : MTabs w) :
    Calls Tryz.prog 53 #[.string s] w fun e w' => e = .returned (.bool (truthB (lb s))) ∧ Below w.heap.size w w' := by
  have HT := Aside0.mk hT
  have HA := Aside0.mk ha
  clear hT ha
  have CT := Aside0.mk (Tryz.strings_TrimSpace s w (by omega) (fun j b hb => HA.out b (List.mem_of_getElem? hb)) HT.out.1)
  have HB1 := Aside0.mk (bytes_below (Below.refl w.heap.size w) (Nat.le_refl _) 5 s)
  generalize Lib.bytesWorld w 5 s = w1 at CT HB1
  have htl := trim_length (lb s)
  rw [lb_length] at htl
  have CL := Aside0.mk (Tryz.strings_ToLower_ascii ⟨(Lib.trimSpace (lb s)).toArray⟩ w1 (by show (Lib.trimSpace (lb s)).toArray.size ≤ _; simp; omega) (fun j b hb => HA.out b (trim_mem (List.mem_of_getElem? (by simpa using hb)))))
  unfold truthB
  have hl2 : (Lib.toLowerA (Lib.trimSpace (lb s))).length ≤ s.size := by
    unfold Lib.toLowerA
    simpa using htl
  have e1 : (⟨(Lib.trimSpace s.data.toList).toArray⟩ : ByteArray) = ⟨(Lib.trimSpace (lb s)).toArray⟩ := rfl
  have e2 : (⟨(Lib.toLowerA (⟨(Lib.trimSpace (lb s)).toArray⟩ : ByteArray).data.toList).toArray⟩ : ByteArray) = ⟨(Lib.toLowerA (Lib.trimSpace (lb s))).toArray⟩ := by simp
  rw [e1] at CT
  rw [e2] at CL
  generalize Lib.toLowerA (Lib.trimSpace (lb s)) = z at CL hl2
  generalize (⟨(Lib.trimSpace (lb s)).toArray⟩ : ByteArray) = y at CT CL
  clear e1 e2 htl
  cases hp : Lib.parseBool z with
  | some b =>
    have CP := Aside0.mk (fun w => Tryz.strconv_ParseBool ⟨z.toArray⟩ b (by simpa using hp) w)
    clear hp
    go_enter Tryz.func53, Tryz.ntmps53
    go_wp2_with fail
    refine CT.out.mono ?_
    rintro e w2 ⟨rfl, rfl⟩
    go_wp2_with fail
    refine CL.out.mono ?_
    rintro e w3 ⟨rfl, hb⟩
    have HB3 := Aside0.mk (hb_then HB1.out hb)
    clear hb
    go_wp2_with fail
    refine (CP.out w3).mono ?_
    rintro e w4 ⟨rfl, rfl⟩
    go_wp2
    go_ret
    exact ⟨rfl, HB3.out⟩
  | none =>
    have CP := Aside0.mk (fun w (hT : MTabs w) => (show Calls Tryz.prog 82 #[.string ⟨z.toArray⟩] w fun e w' => (∃ N, e = .returned (.tuple #[.bool false, .iface 175 (.pointer (some ⟨N, 0, none⟩))])) ∧ Below w.heap.size w w' from by
      obtain ⟨h1, tp, p, h2⟩ := hT
      refine (Tryz.strconv_ParseBool_err_var ⟨z.toArray⟩ (by show z.toArray.size ≤ _; simp; omega) (by simpa using hp) tp p w h2).mono ?_
      rintro e w' ⟨N, he, _, _, hb⟩
      exact ⟨⟨N, he⟩, hb⟩))
    clear hp
    go_enter Tryz.func53, Tryz.ntmps53
    go_wp2_with fail
    refine CT.out.mono ?_
    rintro e w2 ⟨rfl, rfl⟩
    go_wp2_with fail
    refine CL.out.mono ?_
    rintro e w3 ⟨rfl, hb⟩
    have HB3 := Aside0.mk (hb_then HB1.out hb)
    clear hb
    go_wp2_with fail
    refine (CP.out w3 (HT.out.below HB3.out)).mono ?_
    rintro e w4 ⟨⟨N, rfl⟩, hb⟩
    have HB4 := Aside0.mk (hb_then HB3.out hb)
    clear hb
    go_wp2
    go_ret
    exact ⟨rfl, HB4.out⟩
theorem StringToBool (s : BA) (w : World) (ha : ∀ b ∈ lb s, b.toNat < 128) (hs : s.size ≤ 4398046511104) (hT : MTabs w) :
    Calls Tryz.prog 18 #[.string s] w fun e w' => e = .returned (.bool (truthB (lb s))) ∧ Below w.heap.size w w' := by
  have CU := Aside0.mk (utilsBool s w ha hs hT)
  clear ha hT
  generalize truthB (lb s) = r at CU
  go_enter Tryz.func18, Tryz.ntmps18
  go_wp2_with fail
  refine CU.out.mono ?_
  rintro e w2 ⟨rfl, hb⟩
  have HB := Aside0.mk hb
  clear hb
  go_wp2
  go_ret
  exact ⟨rfl, HB.out⟩
def b2 : BA := ⟨#[98, 61, 50]⟩
def a0 : BA := ⟨#[97]⟩
def t0 : BA := ⟨#[116, 114, 117, 101]⟩
theorem known : toP (newM [b2, a0]) = [(⟨#[97]⟩, ⟨#[]⟩), (⟨#[98]⟩, ⟨#[50]⟩)] := by decide +kernel
theorem known_true : truthB (lb t0) = true := by decide +kernel
set_option maxHeartbeats 1600000 in
theorem mapsAwake (w : World) (hT : MTabs w) :
    Calls Tryz.prog 16 #[] w fun e w' => e = .returned (.bool true) ∧ Below w.heap.size w w' := by
  have HT := Aside0.mk hT
  clear hT
  have HB0 := Aside0.mk ((Below.refl _ w).alloc (Nat.le_refl _) (.cells #[.string ⟨#[98, 61, 50]⟩, .string ⟨#[97]⟩] 9))
  have CN := Aside0.mk (implNewMapping (c := 2) [b2, a0] (w.alloc (.cells #[.string ⟨#[98, 61, 50]⟩, .string ⟨#[97]⟩] 9)) (A := some ⟨w.heap.size, 0, none⟩) (strs_mk (by simp) (fun j hj => by
    have : j = 0 ∨ j = 1 := by simp at hj; omega
    rcases this with rfl | rfl
    · exact cb_cell (i := 0) (cb_new _ _) rfl
    · exact cb_cell (i := 1) (cb_new _ _) rfl)) (by simp) (fun s hs => by
      simp at hs
      rcases hs with rfl | rfl <;> decide))
  rw [known] at CN
  go_enter Tryz.func16, Tryz.ntmps16
  go_wp2_with fail
  refine CN.out.mono ?_
  rintro e w1 ⟨v, rfl, hR, hb⟩
  have HB1 := Aside0.mk (hb_then HB0.out hb)
  obtain ⟨A1, c1, rfl, hle, hC⟩ := Kd.R_reads hR
  have CF := Aside0.mk (pairsFrom (c := c1) _ w1 hC (by simp))
  clear hR hb hle hC CN
  simp only [List.length_cons, List.length_nil, Nat.zero_add, Nat.reduceAdd] at CF ⊢
  go_wp2_with fail
  refine CF.out.mono ?_
  rintro e w2 ⟨v, rfl, hR, hb⟩
  have HB2 := Aside0.mk (hb_then HB1.out (hb_then hb (below_alloc (Below.refl _ w2) (.cells #[.string ⟨#[97]⟩, .string ⟨#[]⟩, .string ⟨#[98]⟩, .string ⟨#[50]⟩] 65))))
  obtain ⟨A2, c2, rfl, hle, hC⟩ := Kd.R_reads hR
  have CS := Aside0.mk (samePairs (c := c2) (d := 2) (B := some ⟨w2.heap.size, 0, none⟩) _ [(⟨#[97]⟩, ⟨#[]⟩), (⟨#[98]⟩, ⟨#[50]⟩)] (w2.alloc (.cells #[.string ⟨#[97]⟩, .string ⟨#[]⟩, .string ⟨#[98]⟩, .string ⟨#[50]⟩] 65)) (Kd.C_alloc hC _) (flat_mk (by simp) (fun j hj i u hu => by
    have hj' : j = 0 ∨ j = 1 := by simp at hj; omega
    have hi : i < 2 := by
      have := (List.getElem?_eq_some_iff.1 hu).1
      rw [encP_len] at this
      exact this
    have hi' : i = 0 ∨ i = 1 := by omega
    rcases hj' with rfl | rfl <;> rcases hi' with rfl | rfl
    all_goals
      refine (cb_cell (cb_new _ _) ?_)
      exact hu)) (by simp))
  rw [decide_eq_true rfl] at CS
  clear hR hb hle hC CF
  simp only [List.length_cons, List.length_nil, Nat.zero_add, Nat.reduceAdd] at CS ⊢
  go_wp2_with fail
  refine CS.out.mono ?_
  rintro e w3 ⟨rfl, hb⟩
  have HB3 := Aside0.mk (hb_then HB2.out hb)
  clear hb CS
  have CB := Aside0.mk (StringToBool t0 w3 (by decide) (by decide) (HT.out.below HB3.out))
  rw [known_true] at CB
  unfold t0 at CB
  go_wp2_with fail
  refine CB.out.mono ?_
  rintro e w4 ⟨rfl, hb⟩
  have HB4 := Aside0.mk (hb_then HB3.out hb)
  clear hb CB
  go_wp2
  go_ret
  exact ⟨rfl, HB4.out⟩
end Go.Proofs.YtididniafloogaaGreatDoor.Maps
