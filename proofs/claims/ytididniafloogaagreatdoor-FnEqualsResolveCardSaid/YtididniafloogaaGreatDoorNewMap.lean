/- types.NewMapping: texts NAME=VALUE as a map. -/
import Derived.Test.YtididniafloogaaGreatDoorTold
import Derived.Test.YtididniafloogaaGreatDoorCut
namespace Go.Proofs.YtididniafloogaaGreatDoor.Maps
open Go.RowKit Go.Proofs.YtididniafloogaaGreatDoorW.PrintWords Go.Proofs.YtididniafloogaaGreatDoor.Str Go.Proofs.YtididniafloogaaGreatDoor.Kit Go.Proofs.YtididniafloogaaGreatDoor.Flat Go.Proofs.YtididniafloogaaGreatDoor.MapV Go.Proofs.YtididniafloogaaGreatDoor.Frame Go.Proofs.YtididniafloogaaGreatDoor.Index
set_option linter.unusedVariables false
set_option linter.unusedSimpArgs false

/-- a text's name and value -/
def nameV (s : BA) : Bs × BA := (lb (cutB 61 s).1, (cutB 61 s).2.1)
def newM (l : List BA) : List (Bs × BA) := l.foldl (fun f s => mput f (nameV s).1 (nameV s).2) []
theorem newM_snoc (l : List BA) (s : BA) : newM (l ++ [s]) = mput (newM l) (nameV s).1 (nameV s).2 := by simp [newM]
theorem newM_length (l : List BA) : (newM l).length ≤ l.length := by
  have go : ∀ (l : List BA) (f : List (Bs × BA)), (l.foldl (fun f s => mput f (nameV s).1 (nameV s).2) f).length ≤ f.length + l.length := by
    intro l
    induction l with
    | nil => intro f; simp
    | cons s r ih =>
      intro f
      have := ih (mput f (nameV s).1 (nameV s).2)
      have := mput_length f (nameV s).1 (nameV s).2
      simp only [List.foldl_cons, List.length_cons]
      omega
  have := go l []
  simp only [List.length_nil] at this
  unfold newM
  omega
theorem cutB_size (c : UInt8) (s : BA) : (cutB c s).1.size ≤ s.size := by
  unfold cutB
  split
  · rw [ByteArray.size_extract]; omega
  · exact Nat.le_refl _
set_option maxHeartbeats 800000 in
theorem zzSplitTwo1 (s a b : BA) (hc : cutB 61 s = (a, b, false)) (w : World) (hs : s.size ≤ 281474976710656) :
    Calls Tryz.prog 81 #[.string s, .string ⟨#[61]⟩] w fun e w' => ∃ bk c, e = .returned (.slice (some ⟨bk, 0, none⟩) 1 c) ∧ Below w.heap.size w w' ∧ w'.cell? ⟨bk, 0, none⟩ = some (.string s) := by
  have CC := Aside0.mk (zzCut s 61 w hs)
  rw [hc] at CC
  clear hc
  go_enter Tryz.func81, Tryz.ntmps81
  go_wp2_with (refine CC.out.mono ?_; rintro e w1 ⟨rfl, hd⟩; have HD := Aside0.mk hd; clear hd)
  go_ret
  exact ⟨_, _, rfl, below_alloc HD.out.below _, cb_cell (i := 0) (cb_new _ _) rfl⟩
set_option maxHeartbeats 800000 in
theorem zzSplitTwo2 (s a b : BA) (hc : cutB 61 s = (a, b, true)) (w : World) (hs : s.size ≤ 281474976710656) :
    Calls Tryz.prog 81 #[.string s, .string ⟨#[61]⟩] w fun e w' => ∃ bk c, e = .returned (.slice (some ⟨bk, 0, none⟩) 2 c) ∧ Below w.heap.size w w' ∧ w'.cell? ⟨bk, 0, none⟩ = some (.string a) ∧ w'.cell? ⟨bk, 1, none⟩ = some (.string b) := by
  have CC := Aside0.mk (zzCut s 61 w hs)
  rw [hc] at CC
  clear hc
  go_enter Tryz.func81, Tryz.ntmps81
  go_wp2_with (refine CC.out.mono ?_; rintro e w1 ⟨rfl, hd⟩; have HD := Aside0.mk hd; clear hd)
  go_ret
  exact ⟨_, _, rfl, below_alloc HD.out.below _, cb_cell (i := 0) (cb_new _ _) rfl, cb_cell (i := 1) (cb_new _ _) rfl⟩
set_option maxHeartbeats 1600000 in
theorem NewMapping {A : Option Addr} {c : Nat} (l : List BA) (w : World) (h : Kd.string.C w A l.length l) (hn : l.length ≤ 2147483647) (hl : ∀ s ∈ l, s.size ≤ 2147483647) :
    Calls Tryz.prog 51 #[.slice A l.length c] w fun e w' => e = .returned (.map (some w.heap.size)) ∧ MapS w' w.heap.size (newM l) ∧ Below w.heap.size w w' := by
  have H := Aside0.mk h
  have HL := Aside0.mk hl
  clear h hl
  have hmm := @run_makeMap Tryz.prog
  have HM0 := Aside0.mk (MapE.made Tryz.prog 9 Value.string w)
  have HB0 := Aside0.mk ((Below.refl _ w).alloc (Nat.le_refl _) (.map #[] 0))
  go_enter Tryz.func51, Tryz.ntmps51
  go_wp2
  go_loopw [11] (fun v11 wr => ∃ i : Nat, v11 = .int .i64 i ∧ i ≤ l.length ∧ Aside0 (MapS wr w.heap.size (newM (l.take i))) ∧ Aside0 (Below w.heap.size w wr)) (fun v11 _ => l.length - (intOf v11).toNat)
  case atStart => exact ⟨0, rfl, by omega, HM0, HB0⟩
  case round =>
    clear HM0 HB0
    obtain ⟨i, rfl, hi, HM, HB⟩ := hrel
    by_cases hlt : i < l.length
    · have HC := Kd.C_below H.out HB.out
      obtain ⟨b0, o0, rfl, hb0, hc0⟩ := strs_open HC (by omega)
      have g0 := hc0 i hlt
      have q0 : (0 : Int) ≤ (i : Int) := by omega
      have q1 : (i : Int) < (l.length : Int) := by omega
      have hsz := HL.out l[i] (List.getElem_mem hlt)
      have HST := Aside0.mk (show newM (l.take (i + 1)) = mput (newM (l.take i)) (nameV l[i]).1 (nameV l[i]).2 by rw [List.take_succ_eq_append_getElem hlt, newM_snoc])
      have hml : (newM (l.take i)).length < maxLen := by
        have h1 := newM_length (l.take i)
        rw [List.length_take] at h1
        unfold maxLen
        omega
      generalize l[i] = s at g0 hsz HST
      clear hc0 HC
      have hcs := cutB_size 61 s
      unfold nameV at HST
      rcases hcut : cutB 61 s with ⟨a, bb, f⟩
      rw [hcut] at HST hcs
      have hks : a.size ≤ maxLen := by unfold maxLen; simp at hcs; omega
      cases f
      · have CZ := Aside0.mk (zzSplitTwo1 s a bb hcut wr (by omega))
        have hss : a = s ∧ bb = ⟨#[]⟩ := by
          have := hcut
          unfold cutB at this
          split at this
          · injection this with _ this; injection this with _ this; cases this
          · injection this with e1 this; injection this with e2 _; exact ⟨e1.symm, e2.symm⟩
        obtain ⟨rfl, rfl⟩ := hss
        clear hcut hcs
        go_wp2_with (first | (refine CZ.out.mono ?_; rintro e w1 ⟨bk, cp, rfl, hb1, k0⟩; have HB1 := Aside0.mk hb1; clear hb1; have HM1 := Aside0.mk (HM.out.below HB1.out)) | (at_mapUpdate; refine store_mapE key_u Tryz.underlying77 rfl _ _ _ rfl rfl HM1.out hml rfl hks rfl ?_; intro w2 hm2 hg2; have HM2 := Aside0.mk hm2; have HG2 := Aside0.mk hg2; clear hm2 hg2))
        go_roundw
        case rel => exact ⟨i + 1, by go_num, by omega, ⟨by rw [HST.out]; exact HM2.out⟩, ⟨pw_below_grown (hb_then HB.out HB1.out) _ (hb_then HB.out HB1.out).size HG2.out (fun k hk => by injection hk with hk; omega)⟩⟩
        case measure => simp [intOf]; omega
      · have CZ := Aside0.mk (zzSplitTwo2 s a bb hcut wr (by omega))
        clear hcut hcs
        go_wp2_with (first | (refine CZ.out.mono ?_; rintro e w1 ⟨bk, cp, rfl, hb1, k0, k1⟩; have HB1 := Aside0.mk hb1; clear hb1; have HM1 := Aside0.mk (HM.out.below HB1.out)) | (at_mapUpdate; refine store_mapE key_u Tryz.underlying77 rfl _ _ _ rfl rfl HM1.out hml rfl hks rfl ?_; intro w2 hm2 hg2; have HM2 := Aside0.mk hm2; have HG2 := Aside0.mk hg2; clear hm2 hg2))
        go_roundw
        case rel => exact ⟨i + 1, by go_num, by omega, ⟨by rw [HST.out]; exact HM2.out⟩, ⟨pw_below_grown (hb_then HB.out HB1.out) _ (hb_then HB.out HB1.out).size HG2.out (fun k hk => by injection hk with hk; omega)⟩⟩
        case measure => simp [intOf]; omega
    · have hall := HM.out
      rw [List.take_of_length_le (by omega)] at hall
      have HALL := Aside0.mk hall
      clear hall HM
      go_wp2
      go_ret
      exact ⟨rfl, HALL.out, HB.out⟩
set_option maxHeartbeats 800000 in
theorem implNewMapping {A : Option Addr} {c : Nat} (l : List BA) (w : World) (h : Kd.string.C w A l.length l) (hn : l.length ≤ 2147483647) (hl : ∀ s ∈ l, s.size ≤ 2147483647) :
    Calls Tryz.prog 14 #[.slice A l.length c] w fun e w' => ∃ v, e = .returned v ∧ kp.R 74 w' w.heap.size (fun _ => True) v (toP (newM l)) ∧ Below w.heap.size w w' := by
  have CN := Aside0.mk (NewMapping (c := c) l w h hn hl)
  have hml := newM_length l
  clear h hl
  go_enter Tryz.func14, Tryz.ntmps14
  go_wp2_with fail
  refine CN.out.mono ?_
  rintro e w1 ⟨rfl, hm, hb⟩
  have HM := Aside0.mk hm
  have HB := Aside0.mk hb
  clear hm hb
  go_wp2_with (refine (told w.heap.size _ w1 HM.out (by omega)).mono ?_; rintro e w2 ⟨v, rfl, hr, hb2⟩; have HR := Aside0.mk hr; have HB2 := Aside0.mk hb2; clear hr hb2)
  go_ret
  exact ⟨_, rfl, Kd.R_lower HR.out HB.out.size, hb_then HB.out HB2.out⟩
end Go.Proofs.YtididniafloogaaGreatDoor.Maps
