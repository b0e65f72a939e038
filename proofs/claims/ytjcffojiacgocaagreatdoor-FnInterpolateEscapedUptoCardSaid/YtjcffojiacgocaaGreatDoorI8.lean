/- Parts of the proof, laid vq: SubFit, SubFits, SubLook, SubGroups, SubRepl, QTemplateZzIndex, QTemplateZzContains, QTemplateZzSplitTwo, QTemplatePartition, SubSort, SubPick, SubOps, SubBraced, SubImpl, SubTwice, IY, RowKit, ValArg, ValUp, VolFit. -/
import Derived.Test.YtjcffojiacgocaaGreatDoorI7
import Derived.Test.YtjcffojiacgocaaGreatDoorI3
import Derived.Test.YtjcffojiacgocaaGreatDoorI4
import Derived.Test.YtjcffojiacgocaaGreatDoorI6
import Derived.Test.YtjcffojiacgocaaGreatDoorRows
import Derived.ProofKit
import Derived.OpenShut
import Derived.ShutString
import Derived.ChangeOld
import Derived.Below
import Derived.SizedLaws
import Derived.SliceStrings
set_option linter.unusedVariables false
set_option linter.unusedSimpArgs false
namespace Go.Proofs.YtjcffojiacgocaaGreatDoor.Maps
open Go.RowKit Go.Proofs.YtjcffojiacgocaaGreatDoorW.PrintWords Go.Proofs.YtjcffojiacgocaaGreatDoorW.PrintLast Go.Proofs.YtjcffojiacgocaaGreatDoor.Str Go.Proofs.YtjcffojiacgocaaGreatDoor.Kit Go.Proofs.YtjcffojiacgocaaGreatDoor.Flat Go.Proofs.YtjcffojiacgocaaGreatDoor.MapV Go.Proofs.YtjcffojiacgocaaGreatDoor.Frame
theorem flat_set (xs : List (BA × BA)) (k : Nat) (q : BA) (h : k < xs.length) : (xs.flatMap encP).set (k * 2 + 1) (.string q) = (xs.set k (xs[k].1, q)).flatMap encP := by
 induction xs generalizing k with
 | nil => simp at h
 | cons x r ih =>
  cases k with
  | zero => rfl
  | succ k =>
   have := ih k (by simpa using h); rw [List.flatMap_cons, List.set_cons_succ, List.flatMap_cons, List.getElem_cons_succ, ← this]
   have e : (k + 1) * 2 + 1 = (encP x).length + (k * 2 + 1) := by rw [encP_len]; omega
   rw [e, List.set_append_right _ _ (by omega)]
   congr 2
   omega
theorem R_set_pair {e : Nat} {w : World} {base : Nat} {ok : Nat → Prop} {g n c : Nat} {xs : List (BA × BA)} (h : kp.R e w base ok (.slice (some ⟨g, 0, none⟩) n c) xs) (k : Nat) (hk : k < xs.length) (q : BA) :
  kp.R e (w.setCell ⟨g, k * 2 + 1, none⟩ (.string q)) base ok (.slice (some ⟨g, 0, none⟩) n c) (xs.set k (xs[k].1, q)) := by
 obtain ⟨h0, h1⟩ := R_flat.1 h; refine R_flat.2 ⟨h0, ?_⟩
 rcases h1.2 with ⟨e0, _⟩ | ⟨g', cap, cur, hv, hg, hb, hle, hcap, hsz, htk⟩
 ·cases e0
 injection hv with e1 e2 e3
 injection e1 with e1
 injection e1 with e1
 subst e1 e3
 have hl : (xs.set k (xs[k].1, q)).length = xs.length := by simp
 rw [hl]; refine ⟨by rw [flat_length encP_len, hl], .inr ⟨g, c, _, by rw [e2], hg, cb_set hb _, hle, hcap, by simpa using hsz, ?_⟩⟩; rw [Array.toList_setIfInBounds, List.take_set, htk, flat_set xs k q hk]
theorem own_one (w : World) (base : Nat) (e : TypeId) (hb : base ≤ w.heap.size) (ok : Nat → Prop) (hok : ok w.heap.size) (p q : BA) : kp.R e (w.alloc (.cells #[.string p, .string q] e)) base ok (.slice (some ⟨w.heap.size, 0, none⟩) 1 1) [(p, q)] := by
 refine R_flat.2 ⟨fun b hbb => ?_, rfl, .inr ⟨w.heap.size, 1, _, rfl, hb, yk _ _, Nat.le_refl _, by unfold maxLen; omega, rfl, rfl⟩⟩
 have : w.heap.size = b := by simpa [Value.ownBlock] using hbb
 subst this; exact hok
theorem toP_get (f : List (Bs × BA)) (k : Nat) (h : k < f.length) : (toP f)[k]'(by rw [xh]; exact h) = (⟨f[k].1.toArray⟩, f[k].2) := by simp [toP]
theorem toP_set (f : List (Bs × BA)) (k : Nat) (x : Bs × BA) : toP (f.set k x) = (toP f).set k (⟨x.1.toArray⟩, x.2) := by
 unfold toP
 rw [List.map_set]
theorem toP_take (f : List (Bs × BA)) (k : Nat) : toP (f.take k) = (toP f).take k := List.map_take
theorem toP_drop (f : List (Bs × BA)) (k : Nat) : toP (f.drop k) = (toP f).drop k := List.map_drop
theorem kp_drop {w : World} {g n k : Nat} {xs : List (BA × BA)} (h : kp.C w (some ⟨g, 0, none⟩) n xs) (hk : k < n) : kp.C w (some ⟨g, k * 2, none⟩) (n - k) (xs.drop k) := by
 obtain rfl : xs.length = n := h.1; obtain ⟨bk, off, hA, hb, hc⟩ := flat_open h (by omega) (by decide)
 injection hA with hA
 injection hA with e1 e2
 subst e1 e2; have hl : (xs.drop k).length = xs.length - k := List.length_drop
 have := flat_mk (hk := encP_len) (h1 := encP_one) (w := w) (b := g) (o := k * 2) (xs := xs.drop k) (by rw [hl]; have := h.2.1; omega) (fun j hj i u hu => by
  rw [List.getElem_drop] at hu; have := hc (k + j) (by omega) i u hu; rw [Nat.zero_add, Nat.add_mul, Nat.add_assoc] at this
  exact this)
 rw [hl] at this; exact this
theorem kp_none (w : World) (A : Option Addr) : kp.C w A 0 [] := ⟨rfl, by omega, fun h => absurd h (Nat.lt_irrefl 0)⟩
theorem kp_rows {w : World} {A : Option Addr} {n : Nat} {xs : List (BA × BA)} (h : kp.C w A n xs) : ReadsRow (fun (x : BA × BA) cs => cs = encP x) 2 w A n xs := h
set_option maxHeartbeats 12800000 in
set_option maxRecDepth 100000 in
theorem FitPairsL {A : Option Addr} {c : Nat} (l : List (BA × BA)) (w : World) (h : kp.C w A l.length l) (hn : l.length ≤ 17179869184) :
  Calls Tryz.prog 14 #[.slice A l.length c] w fun e w' => ∃ v, e = .returned v ∧ kp.R 56 w' w.heap.size (fun _ => True) v (toP (fitM (ofP l))) ∧ Below w.heap.size w w' := by
 have H := aM h; have HB0 := aM (Below.refl w.heap.size w); clear h
 go_enter Tryz.func14, Tryz.ntmps14
 go_wp2
 go_loopw [3, 4] (fun v3 v4 wr => ∃ i : Nat, v4 = .int .i64 i ∧ i ≤ l.length ∧ Aside0 (kp.R 56 wr w.heap.size (fun _ => True) v3 (toP (fitM (ofP (l.take i))))) ∧ Aside0 (Below w.heap.size w wr)) (fun _ v4 _ => l.length - (intOf v4).toNat)
 case atStart => exact ⟨0, rfl, by omega, ⟨Kd.R_nil _ _ _ _ _⟩, HB0⟩
 case round =>
  clear HB0; obtain ⟨i, rfl, hi, HO, HB⟩ := hrel
  by_cases hlt : i < l.length
  ·obtain ⟨b0, o0, rfl, hb0, hc0⟩ := kp_open H.out (by omega); obtain ⟨g0, g1⟩ := hc0 i hlt; have G0 := aM (zf HB.out g0); have G1 := aM (zf HB.out g1)
   have q0 : (0 : Int) ≤ (i : Int) := by omega
   have q1 : (i : Int) < (l.length : Int) := by omega
   have HT := aM (show fitM (ofP (l.take (i + 1))) = mput (fitM (ofP (l.take i))) (lb l[i].1) l[i].2 by
    rw [List.take_succ_eq_append_getElem hlt]
    unfold ofP
    rw [List.map_append, List.map_cons, List.map_nil, fitM_snoc])
   have hfl : (fitM (ofP (l.take i))).length ≤ i := by
    refine Nat.le_trans (vv _) ?_; simp only [ofP, List.length_map, List.length_take]
    omega
   have HRS := aM (fitM_rises (ofP (l.take i))); generalize fitM (ofP (l.take i)) = f at HO HT hfl HRS; clear g0 g1; generalize l[i].1 = kx at G0 HT; generalize l[i].2 = vx at G1 HT; clear hc0
   have HPK := aM (fun (k : Nat) (h1 : ∀ (j : Nat) (hj : j < f.length), j < k → f[j].1 < lb kx) (h2 : k ≤ f.length) (h3 : ∀ h : k < f.length, lb kx < f[k].1) => (show toP (mput f (lb kx) vx) = (toP f).take k ++ ([(kx, vx)] ++ (toP f).drop k) by
    rw [mput_ins k HRS.out h1 h2 h3, toP_append, toP_take]
    have : toP ((lb kx, vx) :: f.drop k) = [(kx, vx)] ++ (toP f).drop k := by
     rw [← toP_drop]
     simp [toP, lb]
    rw [this]))
   obtain ⟨wo, rfl⟩ : ∃ wo, wo = wr := ⟨_, rfl⟩
   rcases (R_flat.1 HO.out).2.2 with ⟨hv, h0⟩ | ⟨g, c3, cur, hv, hgb, hblk, hle, hcap, hcsz, htk⟩
   ·-- nothing is there yet
    subst hv; rw [xh] at h0; obtain rfl := List.eq_nil_of_length_eq_zero h0; have HPOS := aM (HPK.out 0 (fun j hj => by simp at hj) (Nat.zero_le _) (fun h => by simp at h)); clear HPK h0
    go_wp2
    go_loopw [5] (fun v5 wq => v5 = .int .i64 0 ∧ Drawn0 wo wq) (fun v5 _ => 0)
    case atStart => exact ⟨rfl, Drawn0.refl _⟩
    case round =>
     obtain ⟨rfl, HD⟩ := hrel
     go_wp2_with fail
     go_quiet (fail)
     obtain ⟨w2, hw2⟩ : ∃ w2, wr.drewN nq = w2 := ⟨_, rfl⟩
     rw [hw2]; have HD2 := HD.step nq; rw [hw2] at HD2; clear hw2 HD
     go_wp2_with fail
     go_quiet (fail)
     obtain ⟨w3, hw3⟩ : ∃ w3, w2.drewN nq = w3 := ⟨_, rfl⟩
     rw [hw3]; have HD3 := HD2.step nq; rw [hw3] at HD3; clear hw3 HD2
     obtain ⟨w2, hw2⟩ : ∃ w2, w2 = w3 := ⟨_, rfl⟩
     subst hw2; have HD2 := aM HD3; clear HD3
     have hb2 := (yb HB.out HD2.out.below)
     have HB2 := aM hb2; have g0 := zf HD2.out.below G0.out; have g1 := zf HD2.out.below G1.out; have hsz2 := hb2.size; clear hb2
     go_wp2_with fail
     refine xb (n := 14) (S := fun w' => w'.cell? ⟨b0, o0 + i * 2, none⟩ = some (.string kx) ∧ w'.cell? ⟨b0, o0 + i * 2 + 1, none⟩ = some (.string vx)) (ds := [7, 11, 12]) (bZ 14 0) (by kernel_rfl) rfl rfl ⟨g0, g1⟩ (fun hHeld => ?_); refine pU 0 (some 57) (bZ 14 1) rfl (by kernel_rfl) ?_; refine pU 1 (some 58) (bZ 14 3) rfl (by kernel_rfl) ?_; refine pU 2 (some 59) (bZ 14 7) rfl (by kernel_rfl) ?_; refine pU 3 (some 60) (bZ 14 15) rfl (by kernel_rfl) ?_; refine pU 4 (some 61) (bZ 14 31) rfl (by kernel_rfl) ?_; refine pU 5 (some 62) (bZ 14 63) rfl (by kernel_rfl) ?_; refine pU 8 (some 65) (bZ 14 319) rfl (by kernel_rfl) ?_; refine pU 9 (some 66) (bZ 14 831) rfl (by kernel_rfl) ?_; refine pU 10 (some 67) (bZ 14 1855) rfl (by kernel_rfl) ?_; refine tU 6 (some 63) (bZ 14 1919) rfl (by kernel_rfl) (Or.inl ⟨by rfl, by rintro w' ⟨s0, s1⟩; go_simp; with_reducible rfl⟩) hHeld ?_; refine xg (i := 7) (N := some 64) (bZ 14 2047) rfl rfl (by kernel_rfl) (by decide) (fun K hK => ?_); refine yp (w1 := ?_) (v := ?_) (by rfl) rfl ?_ ?_; rotate_left 2
     ·go_simp; constructor
      ·rfl
      ·rfl
     refine hK.out _ _ ?_; clear hK K; refine zq (a' := ?_) ?_ ?_; rotate_left
     ·show Act.put _ (some 64) _ = _
      simp only [Act.put, sA, sB, sC, zo, zt]; rfl
     refine xg (i := 11) (N := some 68) (bZ 14 4095) rfl rfl (by kernel_rfl) (by decide) (fun K hK => ?_); refine Kd.R_append_rows_step kp (w0 := w) w.heap.size rfl (.tmp 64) (.tmp 67) 26 56 (.agg #[.string ⟨#[]⟩, .string ⟨#[]⟩]) 32 rfl Tryz.underlying26 vk rfl (show 0 < 2 by decide) (by decide) (.slice (some ⟨w2.heap.size, 0, none⟩) 1 1) [(kx, vx)] ([] : List (BA × BA)) _ 0 _ (fun _ => True) (fun _ => False) rfl rfl (Kd.R_drew (own_one w2 w.heap.size _ hsz2 _ trivial kx vx)) (kp_rows (kp_none _ _)) (fun _ _ h => h) (fun _ h => h.elim) (fun _ _ => trivial) (zr (za HB2.out _)) (zr (za HB2.out _)).size (by simp only [List.length_singleton]; omega) ?_; intro v1 w5 ho hb hg hat; obtain ⟨A1, c1, rfl, hle1, hC1⟩ := Kd.R_reads ho; have HC1 := aM hC1; have HB5 := aM hb; have HV5 := aM (show True from trivial); have hl1 : ([(kx, vx)] ++ ([] : List (BA × BA))).length = 1 + 0 := rfl; clear ho hb hg hat hC1 hle1; refine hK.out _ _ ?_; clear hK K; refine zq (a' := ?_) ?_ ?_; rotate_left
     ·show Act.put _ (some 68) _ = _
      simp only [Act.put, sA, sB, sC, zo, zt]; rfl
     refine xg (i := 12) (N := some 69) (bZ 14 8191) rfl rfl (by kernel_rfl) (by decide) (fun K hK => ?_); refine Kd.R_append_rows_step kp (w0 := w) w.heap.size rfl (.tmp 59) (.tmp 68) 26 56 (.agg #[.string ⟨#[]⟩, .string ⟨#[]⟩]) 32 rfl Tryz.underlying26 vk rfl (show 0 < 2 by decide) (by decide) (.slice none 0 0) ([] : List (BA × BA)) _ _ _ _ (fun _ => True) (fun _ => False) rfl rfl (Kd.R_nil _ _ _ _ _) (kp_rows HC1.out) (fun _ _ h => h) (fun _ h => h.elim) (fun _ _ => trivial) HB5.out HB5.out.size (by rw [hl1]; simp only [List.length_take, List.length_nil]; omega) ?_; intro v2 w6 ho hb hg hat; have HO6 := aM ho; have HB6 := aM hb; clear ho hb hg hat; refine hK.out _ _ ?_; clear hK K; refine zq (a' := ?_) ?_ ?_; rotate_left
     ·show Act.put _ (some 69) _ = _
      simp only [Act.put, sA, sB, sC, zo, zt]; rfl
     refine pU 13 (some 3) (bZ 14 16383) rfl (by kernel_rfl) ?_; refine xl (by kernel_rfl) ?_
     go_wp2
     go_roundw
     case rel => exact ⟨i + 1, by go_num, by omega, ⟨by rw [HT.out, HPOS.out]; exact HO6.out⟩, HB6⟩
     case measure => simp [intOf]; omega
   ·-- a row that is there
    subst hv; rw [xh] at HO hle ⊢; have HC3 := aM (Kd.R_reads' HO.out).2.2; rw [xh] at HC3; have HBLK := aM hblk; clear hblk hcsz htk hcap
    go_wp2
    go_loopw [5] (fun v5 wq => ∃ k : Nat, v5 = .int .i64 k ∧ k ≤ f.length ∧ Aside0 (∀ (j : Nat) (hj : j < f.length), j < k → f[j].1 < lb kx) ∧ Drawn0 wo wq) (fun v5 _ => f.length - (intOf v5).toNat)
    case atStart => exact ⟨0, rfl, by omega, ⟨fun j _ h => absurd h (Nat.not_lt_zero _)⟩, Drawn0.refl _⟩
    case round =>
     obtain ⟨k, rfl, hk, HK, HD⟩ := hrel; have g0 := zf HD.below G0.out; have g1 := zf HD.below G1.out
     have q2 : (0 : Int) ≤ (k : Int) := by omega
     by_cases hkm : k < f.length
     ·have q3 : (k : Int) < (f.length : Int) := by omega
      have hck : ¬ c3 = k := by omega
      obtain ⟨g', o', hA, hgl, hcell⟩ := kp_open (by rw [← xh f] at HC3; exact HC3.out) (by rw [xh]; omega)
      injection hA with hA
      injection hA with e1 e2
      subst e1 e2; obtain ⟨k0, k1⟩ := hcell k (by rw [xh]; exact hkm); rw [toP_get f k hkm] at k0 k1; rw [Nat.zero_add] at k0 k1; have K0 := aM k0; have K1 := aM k1; clear k0 k1 hcell; have k0 := zf HD.below K0.out; have k1 := zf HD.below K1.out
      have hless : Op.bytesLess (⟨f[k].1.toArray⟩ : BA).toList kx.toList = decide (f[k].1 < lb kx) := by
       rw [bytesLess_eq, yz, yz, lb_mk]
      have heq : ((⟨f[k].1.toArray⟩ : BA).toList == kx.toList) = (f[k].1 == lb kx) := by rw [yz, yz, lb_mk]
      have HX := aM (show f[k].1 < lb kx → ∀ (j : Nat) (hj : j < f.length), j < k + 1 → f[j].1 < lb kx from fun h j hj hjk => by
       by_cases hjk' : j < k
       ·exact HK.out j hj hjk'
       ·have : j = k := by omega
        subst this; exact h)
      have HST := aM (show f[k].1 = lb kx → toP (mput f (lb kx) vx) = (toP f).set k ((toP f)[k]'(by rw [xh]; exact hkm)|>.1, vx) from fun h => by
       rw [mput_set k HRS.out HK.out hkm h, toP_set, toP_get f k hkm, h])
      by_cases hlt2 : f[k].1 < lb kx
      ·rw [decide_eq_true hlt2] at hless; have Y := aM (HX.out hlt2); clear heq HX hlt2 HST HPK; generalize (⟨f[k].1.toArray⟩ : BA) = x at *
       go_wp2_with fail
       go_quiet (fail)
       go_wp2
       go_roundw
       case rel => exact ⟨k + 1, by go_num, by omega, Y, HD.step nq⟩
       case measure => simp [intOf]; omega
      ·rw [decide_eq_false hlt2] at hless
       by_cases he2 : f[k].1 = lb kx
       ·have YS := aM (HST.out he2); have he3 := he2; clear HX hlt2 he2 HST HPK
        have hxk : (⟨f[k].1.toArray⟩ : BA) = kx := by (rw [he3]; first | done | (cases kx; simp [lb]))
        rw [hxk] at k0 K0 hless heq; clear hxk he3 heq
        go_wp2_with fail
        go_quiet (fail)
        obtain ⟨w2, hw2⟩ : ∃ w2, wr.drewN nq = w2 := ⟨_, rfl⟩
        rw [hw2]; have HD2 := aM (HD.step nq); rw [hw2] at HD2; clear hw2 HD g0 g1 k0 k1; have g0 := zf HD2.out.below G0.out; have g1 := zf HD2.out.below G1.out; have k0 := zf HD2.out.below K0.out; have k1 := zf HD2.out.below K1.out
        go_wp2_with fail
        go_quiet (fail)
        obtain ⟨w3, hw3⟩ : ∃ w3, w2.drewN nq = w3 := ⟨_, rfl⟩
        rw [hw3]; have HD3 := aM (HD2.out.step nq); rw [hw3] at HD3; clear hw3 HD2 g0 g1 k0 k1; have g0 := zf HD3.out.below G0.out; have g1 := zf HD3.out.below G1.out; have k1 := zf HD3.out.below K1.out; have hz := xq (i := k * 2 + 1) ((HD3.out.below.block g (yc HBLK.out)).trans HBLK.out)
        go_wp2
        go_roundw
        case rel =>
         refine ⟨i + 1, by go_num, by omega, ⟨?_⟩, ⟨(yb HB.out HD3.out.below).setCell hgb _⟩⟩; rw [HT.out, YS.out]; exact R_set_pair (Kd.R_below HO.out HD3.out.below) k (by rw [xh]; exact hkm) vx
        case measure => simp [intOf]; omega
       ·have hgt : lb kx < f[k].1 := by
         rcases lt_total f[k].1 (lb kx) with e | e | e
         ·exact absurd e hlt2
         ·exact absurd e he2
         ·exact e
        have HPOS := aM (HPK.out k HK.out hk (fun _ => hgt))
        have hne : (f[k].1 == lb kx) = false := by simpa using he2
        rw [hne] at heq; clear HX hlt2 he2 HST HPK hgt hne; generalize (⟨f[k].1.toArray⟩ : BA) = x at *
        go_wp2_with fail
        go_quiet (fail)
        obtain ⟨w2, hw2⟩ : ∃ w2, wr.drewN nq = w2 := ⟨_, rfl⟩
        rw [hw2]; have HD2 := aM (HD.step nq); rw [hw2] at HD2; clear hw2 HD g0 g1 k0 k1; have g0 := zf HD2.out.below G0.out; have k0 := zf HD2.out.below K0.out
        go_wp2_with fail
        go_quiet (fail)
        obtain ⟨w3, hw3⟩ : ∃ w3, w2.drewN nq = w3 := ⟨_, rfl⟩
        rw [hw3]; have HD3 := HD2.out.step nq; rw [hw3] at HD3; clear hw3 HD2 g0 k0
        obtain ⟨w2, hw2⟩ : ∃ w2, w2 = w3 := ⟨_, rfl⟩
        subst hw2; have HD2 := aM HD3; clear HD3
        have hb2 := (yb HB.out HD2.out.below)
        have HB2 := aM hb2; have g0 := zf HD2.out.below G0.out; have g1 := zf HD2.out.below G1.out; have hsz2 := hb2.size; clear HK; have hkc : k ≤ c3 := Nat.le_trans hk hle; have HOK := aM (Kd.R_mono (ok' := fun j => j ≠ w2.heap.size) (Kd.R_bound (Kd.R_below HO.out HD2.out.below)) (fun j hj => by have := hj.2.2.1; omega)); have HDR := aM (kp_drop (Kd.C_below HC3.out HD2.out.below) hkm); clear hb2
        go_wp2_with fail
        refine xb (n := 14) (S := fun w' => w'.cell? ⟨b0, o0 + i * 2, none⟩ = some (.string kx) ∧ w'.cell? ⟨b0, o0 + i * 2 + 1, none⟩ = some (.string vx)) (ds := [7, 11, 12]) (bZ 14 0) (by kernel_rfl) rfl rfl ⟨g0, g1⟩ (fun hHeld => ?_); refine pU 0 (some 57) (bZ 14 1) rfl (by kernel_rfl) ?_; refine pU 1 (some 58) (bZ 14 3) rfl (by kernel_rfl) ?_; refine pU 2 (some 59) (bZ 14 7) rfl (by kernel_rfl) ?_; refine pU 3 (some 60) (bZ 14 15) rfl (by kernel_rfl) ?_; refine pU 4 (some 61) (bZ 14 31) rfl (by kernel_rfl) ?_; refine pU 5 (some 62) (bZ 14 63) rfl (by kernel_rfl) ?_; refine pU 8 (some 65) (bZ 14 319) rfl (by kernel_rfl) ?_; refine pU 9 (some 66) (bZ 14 831) rfl (by kernel_rfl) ?_; refine pU 10 (some 67) (bZ 14 1855) rfl (by kernel_rfl) ?_; refine tU 6 (some 63) (bZ 14 1919) rfl (by kernel_rfl) (Or.inl ⟨by rfl, by rintro w' ⟨s0, s1⟩; go_simp; with_reducible rfl⟩) hHeld ?_; refine xg (i := 7) (N := some 64) (bZ 14 2047) rfl rfl (by kernel_rfl) (by decide) (fun K hK => ?_); refine yp (w1 := ?_) (v := ?_) (by rfl) rfl ?_ ?_; rotate_left 2
        ·go_simp; constructor
         ·rfl
         ·rfl
        refine hK.out _ _ ?_; clear hK K; refine zq (a' := ?_) ?_ ?_; rotate_left
        ·show Act.put _ (some 64) _ = _
         simp only [Act.put, sA, sB, sC, zo, zt]; rfl
        refine xg (i := 11) (N := some 68) (bZ 14 4095) rfl rfl (by kernel_rfl) (by decide) (fun K hK => ?_); refine Kd.R_append_rows_step kp (w0 := w) w.heap.size rfl (.tmp 64) (.tmp 67) 26 56 (.agg #[.string ⟨#[]⟩, .string ⟨#[]⟩]) 32 rfl Tryz.underlying26 vk rfl (show 0 < 2 by decide) (by decide) (.slice (some ⟨w2.heap.size, 0, none⟩) 1 1) [(kx, vx)] ((toP f).drop k) _ (f.length - k) _ (fun _ => True) (fun _ => False) rfl rfl (Kd.R_drew (own_one w2 w.heap.size _ hsz2 _ trivial kx vx)) (kp_rows (Kd.C_drew (Kd.C_alloc HDR.out _))) (fun _ _ h => h) (fun _ h => h.elim) (fun _ _ => trivial) (zr (za HB2.out _)) (zr (za HB2.out _)).size (by simp only [List.length_singleton]; omega) ?_; intro v1 w5 ho hb hg hat; obtain ⟨A1, c1, rfl, hle1, hC1⟩ := Kd.R_reads ho; have HC1 := aM hC1; have HB5 := aM hb; have HV5 := aM (Kd.R_take (Kd.R_grown (Kd.R_drew (Kd.R_alloc HOK.out _)) hg (fun j hj e => by injection e with e; exact hj e)) (by rw [xh]; omega))
        have hl1 : ([(kx, vx)] ++ ((toP f).drop k)).length = 1 + (f.length - k) := by simp [xh]; omega
        clear ho hb hg hat hC1 hle1; refine hK.out _ _ ?_; clear hK K; refine zq (a' := ?_) ?_ ?_; rotate_left
        ·show Act.put _ (some 68) _ = _
         simp only [Act.put, sA, sB, sC, zo, zt]; rfl
        refine xg (i := 12) (N := some 69) (bZ 14 8191) rfl rfl (by kernel_rfl) (by decide) (fun K hK => ?_); refine Kd.R_append_rows_step kp (w0 := w) w.heap.size rfl (.tmp 59) (.tmp 68) 26 56 (.agg #[.string ⟨#[]⟩, .string ⟨#[]⟩]) 32 rfl Tryz.underlying26 vk rfl (show 0 < 2 by decide) (by decide) (.slice (some ⟨g, 0, none⟩) k c3) ((toP f).take k) _ _ _ _ (fun _ => True) (fun _ => False) rfl rfl (Kd.R_mono HV5.out (fun _ _ => trivial)) (kp_rows HC1.out) (fun _ _ h => h) (fun _ h => h.elim) (fun _ _ => trivial) HB5.out HB5.out.size (by rw [hl1]; simp only [List.length_take, List.length_nil]; omega) ?_; intro v2 w6 ho hb hg hat; have HO6 := aM ho; have HB6 := aM hb; clear ho hb hg hat; refine hK.out _ _ ?_; clear hK K; refine zq (a' := ?_) ?_ ?_; rotate_left
        ·show Act.put _ (some 69) _ = _
         simp only [Act.put, sA, sB, sC, zo, zt]; rfl
        refine pU 13 (some 3) (bZ 14 16383) rfl (by kernel_rfl) ?_; refine xl (by kernel_rfl) ?_
        go_wp2
        go_roundw
        case rel => exact ⟨i + 1, by go_num, by omega, ⟨by rw [HT.out, HPOS.out]; exact HO6.out⟩, HB6⟩
        case measure => simp [intOf]; omega
     ·obtain rfl : k = f.length := by omega
      have HPOS := aM (HPK.out f.length HK.out (Nat.le_refl _) (fun h => absurd h (Nat.lt_irrefl _))); rw [show (toP f).drop f.length = [] by rw [← xh f]; exact List.drop_length] at HPOS; clear HPK
      go_wp2_with fail
      go_quiet (fail)
      obtain ⟨w2, hw2⟩ : ∃ w2, wr.drewN nq = w2 := ⟨_, rfl⟩
      rw [hw2]; have HD2 := HD.step nq; rw [hw2] at HD2; clear hw2 HD
      go_wp2_with fail
      go_quiet (fail)
      obtain ⟨w3, hw3⟩ : ∃ w3, w2.drewN nq = w3 := ⟨_, rfl⟩
      rw [hw3]; have HD3 := HD2.step nq; rw [hw3] at HD3; clear hw3 HD2
      obtain ⟨w2, hw2⟩ : ∃ w2, w2 = w3 := ⟨_, rfl⟩
      subst hw2; have HD2 := aM HD3; clear HD3 g0 g1
      obtain ⟨k, hkk⟩ : ∃ k, k = f.length := ⟨_, rfl⟩
      by_cases hck : c3 = f.length
      ·subst hck
       have hb2 := (yb HB.out HD2.out.below)
       have HB2 := aM hb2; have g0 := zf HD2.out.below G0.out; have g1 := zf HD2.out.below G1.out; have hsz2 := hb2.size; clear HK; have HOK := aM (Kd.R_mono (ok' := fun j => j ≠ w2.heap.size) (Kd.R_bound (Kd.R_below HO.out HD2.out.below)) (fun j hj => by have := hj.2.2.1; omega)); clear hb2
       go_wp2_with fail
       refine xb (n := 14) (S := fun w' => w'.cell? ⟨b0, o0 + i * 2, none⟩ = some (.string kx) ∧ w'.cell? ⟨b0, o0 + i * 2 + 1, none⟩ = some (.string vx)) (ds := [7, 11, 12]) (bZ 14 0) (by kernel_rfl) rfl rfl ⟨g0, g1⟩ (fun hHeld => ?_); refine pU 0 (some 57) (bZ 14 1) rfl (by kernel_rfl) ?_; refine pU 1 (some 58) (bZ 14 3) rfl (by kernel_rfl) ?_; refine pU 2 (some 59) (bZ 14 7) rfl (by kernel_rfl) ?_; refine pU 3 (some 60) (bZ 14 15) rfl (by kernel_rfl) ?_; refine pU 4 (some 61) (bZ 14 31) rfl (by kernel_rfl) ?_; refine pU 5 (some 62) (bZ 14 63) rfl (by kernel_rfl) ?_; refine pU 8 (some 65) (bZ 14 319) rfl (by kernel_rfl) ?_; refine pU 9 (some 66) (bZ 14 831) rfl (by kernel_rfl) ?_; refine pU 10 (some 67) (bZ 14 1855) rfl (by kernel_rfl) ?_; refine tU 6 (some 63) (bZ 14 1919) rfl (by kernel_rfl) (Or.inl ⟨by rfl, by rintro w' ⟨s0, s1⟩; go_simp; with_reducible rfl⟩) hHeld ?_; refine xg (i := 7) (N := some 64) (bZ 14 2047) rfl rfl (by kernel_rfl) (by decide) (fun K hK => ?_); refine yp (w1 := ?_) (v := ?_) (by rfl) rfl ?_ ?_; rotate_left 2
       ·go_simp; constructor
        ·rfl
        ·rfl
       refine hK.out _ _ ?_; clear hK K; refine zq (a' := ?_) ?_ ?_; rotate_left
       ·show Act.put _ (some 64) _ = _
        simp only [Act.put, sA, sB, sC, zo, zt]; rfl
       refine xg (i := 11) (N := some 68) (bZ 14 4095) rfl rfl (by kernel_rfl) (by decide) (fun K hK => ?_); refine Kd.R_append_rows_step kp (w0 := w) w.heap.size rfl (.tmp 64) (.tmp 67) 26 56 (.agg #[.string ⟨#[]⟩, .string ⟨#[]⟩]) 32 rfl Tryz.underlying26 vk rfl (show 0 < 2 by decide) (by decide) (.slice (some ⟨w2.heap.size, 0, none⟩) 1 1) [(kx, vx)] ([] : List (BA × BA)) _ 0 _ (fun _ => True) (fun _ => False) rfl rfl (Kd.R_drew (own_one w2 w.heap.size _ hsz2 _ trivial kx vx)) (kp_rows (kp_none _ _)) (fun _ _ h => h) (fun _ h => h.elim) (fun _ _ => trivial) (zr (za HB2.out _)) (zr (za HB2.out _)).size (by simp only [List.length_singleton]; omega) ?_; intro v1 w5 ho hb hg hat; obtain ⟨A1, c1, rfl, hle1, hC1⟩ := Kd.R_reads ho; have HC1 := aM hC1; have HB5 := aM hb; have HV5 := aM (Kd.R_take (Kd.R_grown (Kd.R_drew (Kd.R_alloc HOK.out _)) hg (fun j hj e => by injection e with e; exact hj e)) (by rw [xh]; omega)); have hl1 : ([(kx, vx)] ++ ([] : List (BA × BA))).length = 1 + 0 := rfl; clear ho hb hg hat hC1 hle1; refine hK.out _ _ ?_; clear hK K; refine zq (a' := ?_) ?_ ?_; rotate_left
       ·show Act.put _ (some 68) _ = _
        simp only [Act.put, sA, sB, sC, zo, zt]; rfl
       refine xg (i := 12) (N := some 69) (bZ 14 8191) rfl rfl (by kernel_rfl) (by decide) (fun K hK => ?_); refine Kd.R_append_rows_step kp (w0 := w) w.heap.size rfl (.tmp 59) (.tmp 68) 26 56 (.agg #[.string ⟨#[]⟩, .string ⟨#[]⟩]) 32 rfl Tryz.underlying26 vk rfl (show 0 < 2 by decide) (by decide) (.slice (some ⟨g, 0, none⟩) f.length f.length) ((toP f).take f.length) _ _ _ _ (fun _ => True) (fun _ => False) rfl rfl (Kd.R_mono HV5.out (fun _ _ => trivial)) (kp_rows HC1.out) (fun _ _ h => h) (fun _ h => h.elim) (fun _ _ => trivial) HB5.out HB5.out.size (by rw [hl1]; simp only [List.length_take, List.length_nil]; omega) ?_; intro v2 w6 ho hb hg hat; have HO6 := aM ho; have HB6 := aM hb; clear ho hb hg hat; refine hK.out _ _ ?_; clear hK K; refine zq (a' := ?_) ?_ ?_; rotate_left
       ·show Act.put _ (some 69) _ = _
        simp only [Act.put, sA, sB, sC, zo, zt]; rfl
       refine pU 13 (some 3) (bZ 14 16383) rfl (by kernel_rfl) ?_; refine xl (by kernel_rfl) ?_
       go_wp2
       go_roundw
       case rel => exact ⟨i + 1, by go_num, by omega, ⟨by rw [HT.out, HPOS.out]; exact HO6.out⟩, HB6⟩
       case measure => simp [intOf]; omega
      ·skip
       have hb2 := (yb HB.out HD2.out.below)
       have HB2 := aM hb2; have g0 := zf HD2.out.below G0.out; have g1 := zf HD2.out.below G1.out; have hsz2 := hb2.size; clear HK; have HOK := aM (Kd.R_mono (ok' := fun j => j ≠ w2.heap.size) (Kd.R_bound (Kd.R_below HO.out HD2.out.below)) (fun j hj => by have := hj.2.2.1; omega)); clear hb2
       go_wp2_with fail
       refine xb (n := 14) (S := fun w' => w'.cell? ⟨b0, o0 + i * 2, none⟩ = some (.string kx) ∧ w'.cell? ⟨b0, o0 + i * 2 + 1, none⟩ = some (.string vx)) (ds := [7, 11, 12]) (bZ 14 0) (by kernel_rfl) rfl rfl ⟨g0, g1⟩ (fun hHeld => ?_); refine pU 0 (some 57) (bZ 14 1) rfl (by kernel_rfl) ?_; refine pU 1 (some 58) (bZ 14 3) rfl (by kernel_rfl) ?_; refine pU 2 (some 59) (bZ 14 7) rfl (by kernel_rfl) ?_; refine pU 3 (some 60) (bZ 14 15) rfl (by kernel_rfl) ?_; refine pU 4 (some 61) (bZ 14 31) rfl (by kernel_rfl) ?_; refine pU 5 (some 62) (bZ 14 63) rfl (by kernel_rfl) ?_; refine pU 8 (some 65) (bZ 14 319) rfl (by kernel_rfl) ?_; refine pU 9 (some 66) (bZ 14 831) rfl (by kernel_rfl) ?_; refine pU 10 (some 67) (bZ 14 1855) rfl (by kernel_rfl) ?_; refine tU 6 (some 63) (bZ 14 1919) rfl (by kernel_rfl) (Or.inl ⟨by rfl, by rintro w' ⟨s0, s1⟩; go_simp; with_reducible rfl⟩) hHeld ?_; refine xg (i := 7) (N := some 64) (bZ 14 2047) rfl rfl (by kernel_rfl) (by decide) (fun K hK => ?_); refine yp (w1 := ?_) (v := ?_) (by rfl) rfl ?_ ?_; rotate_left 2
       ·go_simp; constructor
        ·rfl
        ·rfl
       refine hK.out _ _ ?_; clear hK K; refine zq (a' := ?_) ?_ ?_; rotate_left
       ·show Act.put _ (some 64) _ = _
        simp only [Act.put, sA, sB, sC, zo, zt]; rfl
       refine xg (i := 11) (N := some 68) (bZ 14 4095) rfl rfl (by kernel_rfl) (by decide) (fun K hK => ?_); refine Kd.R_append_rows_step kp (w0 := w) w.heap.size rfl (.tmp 64) (.tmp 67) 26 56 (.agg #[.string ⟨#[]⟩, .string ⟨#[]⟩]) 32 rfl Tryz.underlying26 vk rfl (show 0 < 2 by decide) (by decide) (.slice (some ⟨w2.heap.size, 0, none⟩) 1 1) [(kx, vx)] ([] : List (BA × BA)) _ 0 _ (fun _ => True) (fun _ => False) rfl rfl (Kd.R_drew (own_one w2 w.heap.size _ hsz2 _ trivial kx vx)) (kp_rows (kp_none _ _)) (fun _ _ h => h) (fun _ h => h.elim) (fun _ _ => trivial) (zr (za HB2.out _)) (zr (za HB2.out _)).size (by simp only [List.length_singleton]; omega) ?_; intro v1 w5 ho hb hg hat; obtain ⟨A1, c1, rfl, hle1, hC1⟩ := Kd.R_reads ho; have HC1 := aM hC1; have HB5 := aM hb; have HV5 := aM (Kd.R_take (Kd.R_grown (Kd.R_drew (Kd.R_alloc HOK.out _)) hg (fun j hj e => by injection e with e; exact hj e)) (by rw [xh]; omega)); have hl1 : ([(kx, vx)] ++ ([] : List (BA × BA))).length = 1 + 0 := rfl; clear ho hb hg hat hC1 hle1; refine hK.out _ _ ?_; clear hK K; refine zq (a' := ?_) ?_ ?_; rotate_left
       ·show Act.put _ (some 68) _ = _
        simp only [Act.put, sA, sB, sC, zo, zt]; rfl
       refine xg (i := 12) (N := some 69) (bZ 14 8191) rfl rfl (by kernel_rfl) (by decide) (fun K hK => ?_); refine Kd.R_append_rows_step kp (w0 := w) w.heap.size rfl (.tmp 59) (.tmp 68) 26 56 (.agg #[.string ⟨#[]⟩, .string ⟨#[]⟩]) 32 rfl Tryz.underlying26 vk rfl (show 0 < 2 by decide) (by decide) (.slice (some ⟨g, 0, none⟩) f.length c3) ((toP f).take f.length) _ _ _ _ (fun _ => True) (fun _ => False) rfl rfl (Kd.R_mono HV5.out (fun _ _ => trivial)) (kp_rows HC1.out) (fun _ _ h => h) (fun _ h => h.elim) (fun _ _ => trivial) HB5.out HB5.out.size (by rw [hl1]; simp only [List.length_take, List.length_nil]; omega) ?_; intro v2 w6 ho hb hg hat; have HO6 := aM ho; have HB6 := aM hb; clear ho hb hg hat; refine hK.out _ _ ?_; clear hK K; refine zq (a' := ?_) ?_ ?_; rotate_left
       ·show Act.put _ (some 69) _ = _
        simp only [Act.put, sA, sB, sC, zo, zt]; rfl
       refine pU 13 (some 3) (bZ 14 16383) rfl (by kernel_rfl) ?_; refine xl (by kernel_rfl) ?_
       go_wp2
       go_roundw
       case rel => exact ⟨i + 1, by go_num, by omega, ⟨by rw [HT.out, HPOS.out]; exact HO6.out⟩, HB6⟩
       case measure => simp [intOf]; omega
  ·have hall := HO.out; rw [List.take_of_length_le (by omega)] at hall; have HALL := aM hall; clear hall HO
   go_wp2
   go_ret
   exact ⟨_, rfl, HALL.out, HB.out⟩
theorem FitPairs {A : Option Addr} {c : Nat} (l : List (BA × BA)) (w : World) (h : kp.C w A l.length l) (hn : l.length ≤ 2147483647) :
  Calls Tryz.prog 14 #[.slice A l.length c] w fun e w' => ∃ v, e = .returned v ∧ kp.R 56 w' w.heap.size (fun _ => True) v (toP (fitM (ofP l))) ∧ Below w.heap.size w w' := FitPairsL l w h (by omega)
def fits1 (p : ByteArray × ByteArray) : Prop := p.1.size ≤ 2147483647 ∧ p.2.size ≤ 2147483647
instance (p : ByteArray × ByteArray) : Decidable (fits1 p) := by unfold fits1; infer_instance
def fitsP (l : List (ByteArray × ByteArray)) : Prop := l.length ≤ 2147483647 ∧ ∀ p ∈ l, fits1 p
instance (l : List (ByteArray × ByteArray)) : Decidable (fitsP l) := by unfold fitsP; infer_instance
set_option maxHeartbeats 800000 in
theorem zzFits4 (p q : ByteArray) (w : World) :
  Calls Tryz.prog 23 #[.agg #[.string p, .string q]] w fun e w' => e = .returned (.bool (decide (fits1 (p, q)))) ∧ w' = w.alloc (.cells #[.string p, .string q] 56) := by
 have k0 : (w.alloc (.cells #[.string p, .string q] 56)).cell? ⟨w.heap.size, 0, none⟩ = some (.string p) := zn (i := 0) (yk _ _) rfl; have k1 : (w.alloc (.cells #[.string p, .string q] 56)).cell? ⟨w.heap.size, 1, none⟩ = some (.string q) := zn (i := 1) (yk _ _) rfl
 by_cases h1 : p.size ≤ 2147483647
 ·have d1 : decide (2147483647 < (p.size : Int)) = false := decide_eq_false (by omega)
  by_cases h2 : q.size ≤ 2147483647
  ·have d2 : decide (2147483647 < (q.size : Int)) = false := decide_eq_false (by omega); have Y := aM (show decide (fits1 (p, q)) = true from decide_eq_true ⟨h1, h2⟩); clear h1 h2
   go_enter Tryz.func23, Tryz.ntmps23
   go_wp2
   go_ret
   exact ⟨by rw [Y.out]; rfl, rfl⟩
  ·have d2 : decide (2147483647 < (q.size : Int)) = true := decide_eq_true (by omega); have Y := aM (show decide (fits1 (p, q)) = false from decide_eq_false (fun h => h2 h.2)); clear h1 h2
   go_enter Tryz.func23, Tryz.ntmps23
   go_wp2
   go_ret
   exact ⟨by rw [Y.out]; rfl, rfl⟩
 ·have d1 : decide (2147483647 < (p.size : Int)) = true := decide_eq_true (by omega); have Y := aM (show decide (fits1 (p, q)) = false from decide_eq_false (fun h => h1 h.1)); clear h1
  go_enter Tryz.func23, Tryz.ntmps23
  go_wp2
  go_ret
  exact ⟨by rw [Y.out]; rfl, rfl⟩
def FitsToP (xs : List (ByteArray × ByteArray)) (j : Nat) : Prop := ∀ x ∈ xs.take j, fits1 x
theorem FitsToP.next {xs : List (ByteArray × ByteArray)} {j : Nat} (h : FitsToP xs j) (hj : j < xs.length) (hx : fits1 xs[j]) : FitsToP xs (j + 1) := by
 intro x hm; rw [List.take_succ_eq_append_getElem hj] at hm
 rcases List.mem_append.1 hm with hm | hm
 ·exact h x hm
 ·simp at hm; subst hm; exact hx
set_option maxHeartbeats 1600000 in
theorem zzFits3 {A : Option Addr} {c : Nat} {xs : List (ByteArray × ByteArray)} (w : World) (h : kp.C w A xs.length xs) :
  Calls Tryz.prog 7 #[.slice A xs.length c] w fun e w' => e = .returned (.bool (decide (fitsP xs))) ∧ Below w.heap.size w w' := by
 have H := aM h; have hm := h.2.1; have HB0 := aM (Below.refl w.heap.size w); clear h
 by_cases hlen : xs.length ≤ 2147483647
 ·have d0 : decide (2147483647 < (xs.length : Int)) = false := decide_eq_false (by omega)
  go_enter Tryz.func7, Tryz.ntmps7
  go_wp2
  go_loopw [10] (fun v wr => ∃ j : Nat, v = .int .i64 j ∧ j ≤ xs.length ∧ Aside0 (FitsToP xs j) ∧ Aside0 (Below w.heap.size w wr)) (fun v _ => xs.length - (intOf v).toNat)
  case atStart => exact ⟨0, rfl, by omega, ⟨by intro x hx; simp at hx⟩, HB0⟩
  case round =>
   clear HB0; obtain ⟨j, rfl, hj, HF, HB⟩ := hrel
   by_cases hlt : j < xs.length
   ·obtain ⟨b, o, rfl, hb, hc⟩ := kp_open H.out (by omega); obtain ⟨g0, g1⟩ := hc j hlt; replace g0 := zf HB.out g0; replace g1 := zf HB.out g1
    have q0 : (0 : Int) ≤ (j : Int) := by omega
    have q1 : (j : Int) < (xs.length : Int) := by omega
    have NX := aM (fun hx : fits1 xs[j] => HF.out.next hlt hx); have NO := aM (show ¬ fits1 xs[j] → decide (fitsP xs) = false from fun hx => decide_eq_false (fun hf => hx (hf.2 _ (List.getElem_mem hlt)))); clear hc; generalize xs[j] = x at g0 g1 NX NO; obtain ⟨p, q⟩ := x; have HB2 := aM (za HB.out (.cells #[.string p, .string q] 56)); have k0 : (wr.alloc (.cells #[.string p, .string q] 56)).cell? ⟨wr.heap.size, 0, none⟩ = some (.string p) := zn (i := 0) (yk _ _) rfl; have k1 : (wr.alloc (.cells #[.string p, .string q] 56)).cell? ⟨wr.heap.size, 1, none⟩ = some (.string q) := zn (i := 1) (yk _ _) rfl; have CZ := aM (zzFits4 p q (wr.alloc (.cells #[.string p, .string q] 56))); have HB3 := aM (za HB2.out (.cells #[.string p, .string q] 56))
    by_cases hx : fits1 (p, q)
    ·rw [decide_eq_true hx] at CZ; have nxt := aM (NX.out hx); clear hx NX NO
     go_wp2_with (refine CZ.out.mono ?_; rintro e w1 ⟨rfl, rfl⟩)
     go_roundw
     case rel => exact ⟨j + 1, by go_num, by omega, nxt, HB3⟩
     case measure => simp [intOf]; omega
    ·rw [decide_eq_false hx] at CZ; have no := aM (NO.out hx); clear hx NX NO
     go_wp2_with (refine CZ.out.mono ?_; rintro e w1 ⟨rfl, rfl⟩)
     go_ret
     exact ⟨by rw [no.out]; rfl, HB3.out⟩
   ·have yes := aM (show fitsP xs from ⟨hlen, by
     have := HF.out
     unfold FitsToP at this
     rw [List.take_of_length_le (by omega)] at this
     exact this⟩)
    go_wp2
    go_ret
    exact ⟨by rw [decide_eq_true yes.out]; rfl, HB.out⟩
 ·have d0 : decide (2147483647 < (xs.length : Int)) = true := decide_eq_true (by omega); have no := aM (show ¬ fitsP xs from fun hf => hlen hf.1); clear hlen
  go_enter Tryz.func7, Tryz.ntmps7
  go_wp2
  go_ret
  exact ⟨by rw [decide_eq_false no.out]; rfl, HB0.out⟩
theorem run_makeHint {P : Program} {t k e : TypeId} (hu : P.underlying t = some (.map k e)) (i : IntKind) (n : Int) (w : World) : (Instr.makeMap t (some (.int i n))).run P w = .ok (.map (some w.heap.size)) (w.alloc (.map #[] 0)) := by
 simp [Instr.makeMap, run_underlying hu, asInt, asIntOf, Result.andThen]
set_option maxHeartbeats 1600000 in
theorem pairs {A : Option Addr} {c : Nat} (l : List (BA × BA)) (w : World) (h : kp.C w A l.length l) (hn : l.length ≤ 17179869184) (hl : ∀ p ∈ l, p.1.size ≤ 4294967296) :
  Calls Tryz.prog 50 #[.slice A l.length c] w fun e w' => e = .returned (.map (some w.heap.size)) ∧ MapS w' w.heap.size (fitM (ofP l)) ∧ Below w.heap.size w w' := by
 have H := aM h; have HL := aM hl; clear h hl
 have hmm := fun (n : Int) (w : World) => run_makeHint (P := Tryz.prog) Tryz.underlying111 .i64 n w
 have HM0 := aM (MapE.made Tryz.prog 9 Value.string w); have HB0 := aM ((Below.refl _ w).alloc (Nat.le_refl _) (.map #[] 0))
 go_enter Tryz.func50, Tryz.ntmps50
 go_wp2
 go_loopw [11] (fun v11 wr => ∃ i : Nat, v11 = .int .i64 i ∧ i ≤ l.length ∧ Aside0 (MapS wr w.heap.size (fitM (ofP (l.take i)))) ∧ Aside0 (Below w.heap.size w wr)) (fun v11 _ => l.length - (intOf v11).toNat)
 case atStart => exact ⟨0, rfl, by omega, HM0, HB0⟩
 case round =>
  clear HM0 HB0; obtain ⟨i, rfl, hi, HM, HB⟩ := hrel
  by_cases hlt : i < l.length
  ·obtain ⟨b0, o0, rfl, hb0, hc0⟩ := kp_open H.out (by omega); obtain ⟨g0, g1⟩ := hc0 i hlt; replace g0 := zf HB.out g0; replace g1 := zf HB.out g1
   have q0 : (0 : Int) ≤ (i : Int) := by omega
   have q1 : (i : Int) < (l.length : Int) := by omega
   have hsz := HL.out l[i] (List.getElem_mem hlt)
   have HST := aM (show fitM (ofP (l.take (i + 1))) = mput (fitM (ofP (l.take i))) (lb l[i].1) l[i].2 by
    rw [List.take_succ_eq_append_getElem hlt]
    unfold ofP
    rw [List.map_append, List.map_cons, List.map_nil, fitM_snoc])
   have hml : (fitM (ofP (l.take i))).length < maxLen := by
    have h1 := vv (ofP (l.take i)); simp only [ofP, List.length_map, List.length_take] at h1
    unfold maxLen
    simp only [ofP]
    omega
   generalize l[i].1 = p at g0 hsz HST; generalize l[i].2 = q at g1 HST
   have hks : p.size ≤ maxLen := by unfold maxLen; omega
   clear hc0 hsz; have HB1 := aM (za HB.out (.cells #[.string p, .string q] 63)); have HM1 := aM (HM.out.below ((Below.refl _ wr).alloc (Nat.le_refl _) (.cells #[.string p, .string q] 63))); have k0 : (wr.alloc (.cells #[.string p, .string q] 63)).cell? ⟨wr.heap.size, 0, none⟩ = some (.string p) := zn (i := 0) (yk _ _) rfl; have k1 : (wr.alloc (.cells #[.string p, .string q] 63)).cell? ⟨wr.heap.size, 1, none⟩ = some (.string q) := zn (i := 1) (yk _ _) rfl
   go_wp2_with (at_mapUpdate; refine store_mapE key_u Tryz.underlying111 rfl _ _ _ rfl rfl HM1.out hml rfl hks rfl ?_; intro w2 hm2 hg2; have HM2 := aM hm2; have HG2 := aM hg2; clear hm2 hg2)
   go_roundw
   case rel => exact ⟨i + 1, by go_num, by omega, ⟨by rw [HST.out]; exact HM2.out⟩, ⟨zm HB1.out _ HB1.out.size HG2.out (fun k hk => by injection hk with hk; omega)⟩⟩
   case measure => simp [intOf]; omega
  ·have hall := HM.out; rw [List.take_of_length_le (by omega)] at hall; have HALL := aM hall; clear hall HM
   go_wp2
   go_ret
   exact ⟨rfl, HALL.out, HB.out⟩
def lookT (g : List (Bs × BA)) (n : BA) : Ending := .returned (.tuple #[.string ((mget g (lb n)).getD ⟨#[]⟩), .bool (mget g (lb n)).isSome])
def Small (f : List (Bs × BA)) : Prop := ∀ p ∈ f, p.1.length ≤ 4294967296
theorem small_put {f : List (Bs × BA)} (h : Small f) {k : Bs} {v : BA} (hk : k.length ≤ 4294967296) : Small (mput f k v) := fun p hp => by
 unfold mput at hp
 rcases mins_mem.1 hp with rfl | hp
 ·exact hk
 ·exact h p (List.mem_filter.1 hp).1
theorem small_fold : ∀ (l f : List (Bs × BA)), Small l → Small f → Small (l.foldl (fun f p => mput f p.1 p.2) f)
 | [], f, _, hf => hf
 | p :: r, f, hl, hf => small_fold r _ (fun q hq => hl q (List.mem_cons_of_mem _ hq)) (small_put hf (hl p List.mem_cons_self))
theorem small_toP {f : List (Bs × BA)} (h : Small f) : ∀ p ∈ toP f, p.1.size ≤ 4294967296 := by
 intro p hp
 unfold toP at hp
 obtain ⟨q, hq, rfl⟩ := List.mem_map.1 hp; have := h q hq; rw [← yd, lb_mk]; exact this
theorem small_fit {l : List (BA × BA)} (h : ∀ p ∈ l, p.1.size ≤ 4294967296) : Small (fitM (ofP l)) := small_fold _ _ (fun p hp => by
 unfold ofP at hp
 obtain ⟨q, hq, rfl⟩ := List.mem_map.1 hp
 show (lb q.1).length ≤ _
 rw [yd]
 exact h q hq) (fun p hp => by simp at hp)
structure Ok (N : Nat) (f : List (Bs × BA)) : Prop where
 r : Rises f
 s : Small f
 l : f.length ≤ N
theorem Ok.nil : Ok 0 [] := ⟨List.Pairwise.nil, fun p hp => by simp at hp, by simp⟩
theorem Ok.fit {l : List (BA × BA)} (h : fitsP l) : Ok 2147483647 (fitM (ofP l)) := ⟨fitM_rises _, small_fit (fun p hp => Nat.le_trans (h.2 p hp).1 (by decide)), by
 have h1 := vv (ofP l); have h2 := h.1; simp only [ofP, List.length_map] at h1 ⊢
 omega⟩
theorem Ok.len {N : Nat} {f : List (Bs × BA)} (h : Ok N f) (hN : N ≤ 17179869184) : (toP f).length ≤ 17179869184 := by rw [xh]; have := h.l; omega
set_option maxHeartbeats 800000 in
theorem lookFn {g : List (Bs × BA)} {cb mb : Nat} (k : BA) (w : World) (hc : w.cell? ⟨cb, 0, none⟩ = some (.map (some mb))) (hm : MapS w mb g) (hk : k.size ≤ maxLen) :
  Calls Tryz.prog 51 #[.string k, .pointer (some ⟨cb, 0, none⟩)] w fun e w' => e = lookT g k ∧ w' = w := by
 have hlk := run_look_ok_mapE key_u Tryz.underlying111 (Tryz.zeroValue9 w) hm hk
 unfold lookT
 rcases hmg : mget g (lb k) with _ | v
 ·rw [hmg] at hlk; simp only [Option.map_none, Option.getD_none, Option.isSome_none] at hlk; clear hm hmg
  go_enter Tryz.func51, Tryz.ntmps51
  go_wp2
  go_ret2
  exact ⟨rfl, rfl⟩
 ·rw [hmg] at hlk; simp only [Option.map_some, Option.getD_some, Option.isSome_some] at hlk; clear hm hmg
  go_enter Tryz.func51, Tryz.ntmps51
  go_wp2
  go_ret2
  exact ⟨rfl, rfl⟩
set_option maxHeartbeats 800000 in
theorem look {A : Option Addr} {c N : Nat} {f : List (Bs × BA)} (hf : Ok N f) (hN : N ≤ 17179869184) (w : World) (h : kp.C w A (toP f).length (toP f)) :
  Calls Tryz.prog 33 #[.slice A (toP f).length c] w fun e w' => ∃ cb mb, e = .returned (.func (.func 51) #[] #[.pointer (some ⟨cb, 0, none⟩)]) ∧ w'.cell? ⟨cb, 0, none⟩ = some (.map (some mb)) ∧ MapS w' mb f ∧ w.heap.size ≤ mb ∧ Below w.heap.size w w' := by
 have cl := pairs (c := c) (toP f) w h (hf.len hN) (small_toP hf.s); rw [ofP_toP, fitM_id hf.r] at cl; have CL := aM cl
 have hmf : ∀ (fn : Fn) (first cap : Array Value) (w : World), (Instr.makeFunc fn first cap).run Tryz.prog w = .ok (.func fn first cap) w := fun _ _ _ _ => rfl
 clear cl h hf
 go_enter Tryz.func33, Tryz.ntmps33
 go_wp2_with fail
 refine CL.out.mono ?_; rintro e w1 ⟨rfl, hm1, hb1⟩; have HB1 := aM hb1; have HM1 := aM hm1; clear hm1 hb1 CL
 go_wp2
 go_ret
 exact ⟨_, _, rfl, zn (i := 0) (yk _ _) rfl, HM1.out.below ((Below.refl _ w1).alloc (Nat.le_refl _) _), Nat.le_refl _, HB1.out.alloc HB1.out.size _⟩
end Go.Proofs.YtjcffojiacgocaaGreatDoor.Maps
namespace Go.Proofs.YtjcffojiacgocaaGreatDoor.Tr.Sb
open Go.RowKit Go.Proofs.YtjcffojiacgocaaGreatDoorW.PrintWords Go.Proofs.YtjcffojiacgocaaGreatDoorW.PrintLast Go.Proofs.YtjcffojiacgocaaGreatDoor.Str Go.Proofs.YtjcffojiacgocaaGreatDoor.Kit Go.Proofs.YtjcffojiacgocaaGreatDoor.MapV Go.Proofs.YtjcffojiacgocaaGreatDoor.Frame Go.Proofs.YtjcffojiacgocaaGreatDoor.PS
open Go.Proofs.YtjcffojiacgocaaGreatDoor.Maps (MapS key_u map_u)
def nEsc : BA := ⟨#[101, 115, 99, 97, 112, 101, 100]⟩
def nNamed : BA := ⟨#[110, 97, 109, 101, 100]⟩
def nBraced : BA := ⟨#[98, 114, 97, 99, 101, 100]⟩
def nInvalid : BA := ⟨#[105, 110, 118, 97, 108, 105, 100]⟩
def grNames : List BA := [nEsc, nNamed, nBraced, E0, nInvalid]
def grPairs (ms : List BA) : List (Bs × BA) := (grNames.map lb).zip (ms.drop 1)
theorem SubexpNames (w : World) : Calls Tryz.prog 161 #[.agg #[]] w fun e w' => e = .returned (.slice (some ⟨w.heap.size + 1, 0, none⟩) 6 6) ∧ Kd.string.C w' (some ⟨w.heap.size + 1, 0, none⟩) 6 (E0 :: grNames) ∧ Below w.heap.size w w' := by
 have HB := aM (za (za (Below.refl w.heap.size w) (.cells #[] 96)) (.cells ((E0 :: grNames).map Value.string).toArray 9)); have HC := aM (strs_lit (w.alloc (.cells #[] 96)) 9 (E0 :: grNames) (by decide))
 go_enter Tryz.func161, Tryz.ntmps161
 go_wp2
 go_ret
 have hc := HC.out; rw [World.size_alloc] at hc; exact ⟨rfl, hc, HB.out⟩
theorem tail_reads {w : World} {b n : Nat} {x : BA} {xs : List BA} (h : Kd.string.C w (some ⟨b, 0, none⟩) n (x :: xs)) (hn : n = xs.length + 1) : ∀ (j : Nat) (hj : j < xs.length), w.cell? ⟨b, 1 + j, none⟩ = some (.string xs[j]) := by
 intro j hj; subst hn; obtain ⟨b1, o1, e1, _, hc⟩ := vt (xs := x :: xs) h (by simp)
 injection e1 with e1
 injection e1 with e1 e2
 subst e1 e2; have := hc (j + 1) (by simp; omega); rw [show 0 + (j + 1) = 1 + j by omega] at this; exact this
theorem gr_take (ms : List BA) (h6 : ms.length = 6) (i : Nat) (hi : i < 5) : fitM ((grPairs ms).take (i + 1)) = mput (fitM ((grPairs ms).take i)) (lb (grNames[i]'hi)) (ms[i + 1]'(by omega)) := by
 have hl : i < (grPairs ms).length := by unfold grPairs; rw [List.length_zip, List.length_map, List.length_drop]; simp [grNames]; omega
 have he : (grPairs ms)[i] = (lb (grNames[i]'hi), ms[i + 1]'(by omega)) := by
  have e1 : (ms.drop 1)[i]'(by rw [List.length_drop]; omega) = ms[i + 1]'(by omega) := by simp only [List.getElem_drop, Nat.add_comm 1 i]
  have e2 : (grNames.map lb)[i]'(by rw [List.length_map]; exact hi) = lb (grNames[i]'hi) := List.getElem_map ..; have e3 := @List.getElem_zip _ _ (grNames.map lb) (ms.drop 1) i hl; rw [e1, e2] at e3; exact e3
 rw [List.take_succ_eq_append_getElem hl, he]; exact fitM_snoc _ _
theorem gr_get (ms : List BA) (h6 : ms.length = 6) : mget (fitM (grPairs ms)) (lb nEsc) = some (ms[1]'(by omega)) ∧ mget (fitM (grPairs ms)) (lb nNamed) = some (ms[2]'(by omega)) ∧ mget (fitM (grPairs ms)) (lb nBraced) = some (ms[3]'(by omega)) := by
 match ms, h6 with
 | [a, b, c, d, e, f], _ =>
  have h : fitM (grPairs [a, b, c, d, e, f]) = mput (mput (mput (mput (mput [] (lb nEsc) b) (lb nNamed) c) (lb nBraced) d) (lb E0) e) (lb nInvalid) f := rfl; rw [h]; refine ⟨?_, ?_, ?_⟩
  ·rw [xo, if_neg (by decide), xo, if_neg (by decide), xo, if_neg (by decide), xo, if_neg (by decide), xo, if_pos rfl]; rfl
  ·rw [xo, if_neg (by decide), xo, if_neg (by decide), xo, if_neg (by decide), xo, if_pos rfl]; rfl
  ·rw [xo, if_neg (by decide), xo, if_neg (by decide), xo, if_pos rfl]; rfl
theorem gr_size : ∀ (j : Nat) (hj : j < 5), (grNames[j]'hj).size ≤ maxLen := by
 intro j hj
 have : ∀ s, s ∈ grNames → s.size ≤ maxLen := by
  intro s hs
  simp [grNames] at hs
  unfold maxLen
  rcases hs with rfl | rfl | rfl | rfl | rfl <;> decide
 exact this _ (List.getElem_mem hj)
set_option maxHeartbeats 1600000 in
theorem matchGroups (ms : List BA) (h6 : ms.length = 6) (A : Option Addr) (c : Nat) (w : World) (h : Kd.string.C w A 6 ms) :
  Calls Tryz.prog 123 #[.slice A 6 c, .agg #[]] w fun e w' => ∃ b, e = .returned (.map (some b)) ∧ MapS w' b (fitM (grPairs ms)) ∧ Below w.heap.size w w' := by
 obtain ⟨ab, ao, rfl, hab, hac⟩ := vt (xs := ms) (by rw [h6]; exact h) (by omega); have hac := aM hac; clear h; have hmm := @run_makeMap Tryz.prog; have hb1 := za (za (Below.refl w.heap.size w) (.cells #[] 96)) (.map #[] 0); have HB1 := aM hb1; have HM1 := aM (MapE.made Tryz.prog 9 Value.string (w.alloc (.cells #[] 96))); have CN := aM (SubexpNames ((w.alloc (.cells #[] 96)).alloc (.map #[] 0))); clear hb1
 go_enter Tryz.func123, Tryz.ntmps123
 go_wp2_with fail
 refine CN.out.mono ?_; rintro e w1 ⟨rfl, hcn, hb⟩; have HN := aM (tail_reads hcn rfl); have HM2 := aM (HM1.out.below hb); have HB2 := aM (yb HB1.out hb); have hst := aM hcn; clear hb HB1 HM1 CN hcn; have hB2 := HB2.out
 have hmlt : w.heap.size + 1 ≠ w.heap.size := by omega
 go_wp2
 rw [World.size_alloc] at HM2; have HN := aM (show ∀ (j : Nat) (hj : j < grNames.length), w1.cell? ⟨w.heap.size + 1 + 1 + 1, 1 + j, none⟩ = some (.string grNames[j]) from fun j hj => by have := HN.out j hj; rw [World.size_alloc, World.size_alloc] at this; exact this); clear hst hB2
 go_loopw [13, 6, 7] (fun v13 v6 v7 wr => ∃ i : Nat, v13 = .int .i64 i ∧ i ≤ 5 ∧ Aside0 (MapS wr (w.heap.size + 1) (fitM ((grPairs ms).take i))) ∧ Aside0 (w1.grownBy wr (some (w.heap.size + 1)))) (fun v13 _ _ _ => 5 - (intOf v13).toNat)
 case atStart => exact ⟨0, rfl, by omega, HM2, ⟨World.grownBy.refl _ _⟩⟩
 case round =>
  clear HM2; obtain ⟨i, rfl, hi, HM, HG⟩ := hrel
  by_cases hlt : i < 5
  ·have q0 : (0 : Int) ≤ (i : Int) := by omega
   have q1 : (i : Int) < 5 := by omega
   have q2 : (0 : Int) ≤ (i : Int) + 1 := by omega
   have q3 : (i : Int) + 1 < 6 := by omega
   have q4 : ((i : Int) + 1).toNat = i + 1 := by omega
   have q5 : decide ((i : Int) < 5) = true := decide_eq_true q1; have n0 := cell_grown HG.out (HN.out i hlt) (fun e => absurd (Option.some.inj e) (by show ¬ (w.heap.size + 1 + 1 + 1 = w.heap.size + 1); omega))
   have hsz6 : i + 1 < ms.length := by omega
   have n1 := cell_grown HG.out (zf HB2.out (hac.out (i + 1) hsz6)) (fun e => absurd (Option.some.inj e) (by show ¬ (ab = w.heap.size + 1); omega)); have HT := aM (gr_take ms h6 i hlt); have hks := gr_size i hlt
   have hml : (fitM ((grPairs ms).take i)).length < maxLen := by
    have h1 := vv ((grPairs ms).take i); rw [List.length_take] at h1
    unfold maxLen
    omega
   have hmm2 := HM.out; generalize grNames[i] = key at n0 HT hks; generalize ms[i + 1] = m at n1 HT
   go_wp2_with (at_mapUpdate; refine store_mapE key_u Tryz.underlying111 rfl _ _ _ rfl rfl hmm2 hml rfl hks rfl ?_; intro w2 hm2 hg2; have HM2 := aM hm2; have HG2 := aM hg2; clear hm2 hg2)
   go_roundw
   case rel => exact ⟨i + 1, by go_num, by omega, ⟨by rw [HT.out]; exact HM2.out⟩, ⟨HG.out.andThen HG2.out (fun j e => .inr e)⟩⟩
   case measure => simp [intOf]; omega
  ·have q5 : decide ((i : Int) < 5) = false := decide_eq_false (by omega); have HL := aM (show (grPairs ms).take i = grPairs ms from List.take_of_length_le (by unfold grPairs; rw [List.length_zip, List.length_drop]; omega))
   go_wp2
   go_ret
   exact ⟨_, rfl, by have := HM.out; rw [HL.out] at this; exact this, zm HB2.out _ HB2.out.size HG.out (fun k hk => by injection hk with hk; omega)⟩
theorem FindStringSubmatch (s : BA) (ms : List BA) (n : Int) (h0 : 0 < s.size) (hs : s.size < 4611686018427387904) (h : Ends (fun r => r = (ms, n, true)) (fun k => template_zzAt.f k s ((0 : Nat) : Int))) (w : World) :
  Calls Tryz.prog 182 #[.agg #[], .string s] w fun e w' => ∃ A c, e = .returned (.slice A ms.length c) ∧ Kd.string.C w' A ms.length ms ∧ Below w.heap.size w w' := by
 obtain ⟨k, hk⟩ := h.ev.rounds; have hb1 := za (Below.refl w.heap.size w) (.cells #[] 96); have HB1 := aM hb1; have CA := aM (template_zzAt.calls k s 0 ms n true (w.alloc (.cells #[] 96)) hk); have hd : decide ((0 : Int) < (s.size : Int)) = true := decide_eq_true (by omega); clear hb1 hk h
 go_enter Tryz.func182, Tryz.ntmps182
 go_wp2
 refine wp_loop_rounds 1 ?_; rw [rounds_succ]
 go_wp2_with fail
 refine CA.out.mono ?_; rintro e w1 ⟨v, rfl, hr, hb⟩; have HB2 := aM (yb HB1.out hb); obtain ⟨A, c, rfl, l, g⟩ := Kd.R_reads hr; have HG := aM g; clear hb CA hr g
 go_wp2
 go_ret
 exact ⟨A, c, rfl, HG.out, HB2.out⟩
end Go.Proofs.YtjcffojiacgocaaGreatDoor.Tr.Sb
namespace Go.Proofs.YtjcffojiacgocaaGreatDoor.Tr.Sb
open Go.RowKit Go.Proofs.YtjcffojiacgocaaGreatDoorW.PrintWords Go.Proofs.YtjcffojiacgocaaGreatDoorW.PrintLast Go.Proofs.YtjcffojiacgocaaGreatDoor.Str Go.Proofs.YtjcffojiacgocaaGreatDoor.Kit Go.Proofs.YtjcffojiacgocaaGreatDoor.MapV Go.Proofs.YtjcffojiacgocaaGreatDoor.Frame Go.Proofs.YtjcffojiacgocaaGreatDoor.PS
open Go.Proofs.YtjcffojiacgocaaGreatDoor.Maps (MapS key_u map_u lookFn lookT)
section
variable {P : Program} {ops : Array Oper} {Q : Exit → Act → World → Prop}
theorem goesV_ (c : Operand) (cap : Array Value) {oi : Oper} {N : Option Tmp} {a : Act} {w : World} {K : Act → World → Prop} {f : FuncId} {fn : Func} {xs : Array Operand} {ts : Array TypeId} (hf : P.funcs[f]? = some fn) (hname : (fn.name == "runtime.NumGoroutine") = false) (hb : fn.body.isSome = true) (args : Array Value)
  (hw : Region.wanted oi (yielded ops a.tmps) = true) (hN : oi.dst = N) (hop : oi.op = .call { callee := .value c, args := xs, argTypes := ts }) (hv : a.eval c = .func (.func f) #[] cap) (hargs : xs.map a.eval ++ cap = args)
  (h : Calls P f args w fun e w' => ∃ v, e = .returned v ∧ K (a.put N v) w') : if Region.wanted oi (yielded ops a.tmps) = true then Oper.wp P oi a w K Q else K (a.put N undef) w := by
 refine call_ f args hw hN ?_ h; have he := enters_ hf hname hb args w
 unfold execOp
 simp [hop, resolve, Deferred.ofValue, invoke, hv, hargs, he]
end
inductive Rw (P : BA → BA → Prop) (s : BA) : Nat → Bs → Prop
 | done (i : Nat) (h : s.size ≤ i) : Rw P s i []
 | byte (i : Nat) (c : UInt8) (out : Bs) (h : At s i c) (hn : Ends (fun r => r = (([] : List BA), (0 : Int), false)) (fun k => template_zzAt.f k s (i : Int))) (k : Rw P s (i + 1) out) : Rw P s i (c :: out)
 | hit (i n : Nat) (m r : BA) (ms : List BA) (out : Bs) (hi : i < s.size) (hn : i < n) (hns : n ≤ s.size) (h : Ends (fun r => r = (m :: ms, (n : Int), true)) (fun k => template_zzAt.f k s (i : Int))) (hp : P m r) (k : Rw P s n out) : Rw P s i (lb r ++ out)
theorem Rw.mono {P Q : BA → BA → Prop} {s : BA} {i : Nat} {out : Bs} (h : Rw P s i out) (hq : ∀ m r, P m r → Q m r) : Rw Q s i out := by
 induction h with
 | done i h => exact .done i h
 | byte i c out h hn _ ih => exact .byte i c out h hn ih
 | hit i n m r ms out hi hn hns h hp _ ih => exact .hit i n m r ms out hi hn hns h (hq m r hp) ih
theorem At.num {s : BA} {i : Nat} {c : UInt8} (h : At s i c) : ((s[i]'h.lt).toNat : Int) = (c.toNat : Int) := by
 have h1 := (List.getElem?_eq_some_iff.1 h).2; have h2 : s[i]'h.lt = (lb s)[i]'(by rw [yd]; exact h.lt) := rfl; rw [h2, h1]
def EnvAt (w : World) (cb : Nat) (g : List (Bs × BA)) : Prop := ∃ mb, w.cell? ⟨cb, 0, none⟩ = some (.map (some mb)) ∧ MapS w mb g
theorem EnvAt.below {w w1 : World} {cb : Nat} {g : List (Bs × BA)} (h : EnvAt w cb g) (hb : Below w.heap.size w w1) : EnvAt w1 cb g := by
 obtain ⟨mb, h1, h2⟩ := h; exact ⟨mb, zf hb h1, h2.below hb⟩
abbrev envF (cb : Nat) : Value := .func (.func 51) #[] #[.pointer (some ⟨cb, 0, none⟩)]
def CfgAt (w : World) (b : Nat) : Prop := w.heap[b]? = some (.cells #[.nilFunc, .func (.func 138) #[] #[], .bool true] 239 (0, 0))
theorem CfgAt.below {w w1 : World} {b : Nat} (h : CfgAt w b) (hb : Below w.heap.size w w1) : CfgAt w1 b := (hb.block _ (yc h)).trans h
structure CloAt (w : World) (pb eb tb rb cb b : Nat) (s : BA) : Prop where
 p : w.cell? ⟨pb, 0, none⟩ = some (.pointer (some ⟨b, 0, none⟩))
 e : w.cell? ⟨eb, 0, none⟩ = some (envF cb)
 t : w.cell? ⟨tb, 0, none⟩ = some (.string s)
 r : w.cell? ⟨rb, 0, none⟩ = some .nilIface
 c : CfgAt w b
theorem CloAt.below {w w1 : World} {pb eb tb rb cb b : Nat} {s : BA} (h : CloAt w pb eb tb rb cb b s) (hb : Below w.heap.size w w1) : CloAt w1 pb eb tb rb cb b s :=
 ⟨zf hb h.p, zf hb h.e, zf hb h.t, zf hb h.r, h.c.below hb⟩
def Repl (P : BA → BA → Prop) (g : List (Bs × BA)) : Prop := ∀ m r, P m r → ∀ (w : World) (cb b : Nat), EnvAt w cb g → CfgAt w b →
 Calls Tryz.prog 138 #[.string m, envF cb, .pointer (some ⟨b, 0, none⟩)] w fun e w' => e = .returned (.tuple #[.string r, .nilIface]) ∧ Below w.heap.size w w'
set_option maxHeartbeats 1600000 in
set_option maxRecDepth 100000 in
theorem closure {P : BA → BA → Prop} {g : List (Bs × BA)} (hP : Repl P g) (m r : BA) (hp : P m r) (w : World) (pb eb tb rb cb b : Nat) (s : BA) (hE : EnvAt w cb g) (hC : CloAt w pb eb tb rb cb b s) :
  Calls Tryz.prog 140 #[.string m, .pointer (some ⟨pb, 0, none⟩), .pointer (some ⟨eb, 0, none⟩), .pointer (some ⟨tb, 0, none⟩), .pointer (some ⟨rb, 0, none⟩)] w fun e w' => e = .returned (.string r) ∧ Below w.heap.size w w' := by
 have HR := aM (fun W (h1 : EnvAt W cb g) (h2 : CfgAt W b) => hP m r hp W cb b h1 h2); have HE := aM hE; have HC := aM hC; have e0 := hC.p; have e1 := hC.e; have e2 : w.cell? ⟨b, 1, none⟩ = some (.func (.func 138) #[] #[]) := zn (i := 1) hC.c rfl; clear hE hC hP hp
 go_enter Tryz.func140, Tryz.ntmps140
 go_wp2_with fail
 have HCL := aM (HR.out w.drew (HE.out.below (zr (Below.refl _ _))) (HC.out.c.below (zr (Below.refl _ _)))); refine xb (n := 13) (S := fun w' => w'.cell? ⟨pb, 0, none⟩ = some (.pointer (some ⟨b, 0, none⟩)) ∧ w'.cell? ⟨eb, 0, none⟩ = some (envF cb) ∧ w'.cell? ⟨b, 1, none⟩ = some (.func (.func 138) #[] #[])) (ds := [7]) (bZ 13 0) (by kernel_rfl) rfl rfl ⟨e0, e1, e2⟩ (fun hHeld => ?_); refine pU 4 (some 15) (bZ 13 16) rfl (by kernel_rfl) ?_; refine tU 0 (some 11) (bZ 13 17) rfl (by kernel_rfl) (Or.inl ⟨by rfl, by rintro w' ⟨s0, s1, s2⟩; go_simp; with_reducible rfl⟩) hHeld ?_; refine pU 1 (some 12) (bZ 13 19) rfl (by kernel_rfl) ?_; refine pU 2 (some 13) (bZ 13 23) rfl (by kernel_rfl) ?_; refine tU 3 (some 14) (bZ 13 31) rfl (by kernel_rfl) (Or.inl ⟨by rfl, by rintro w' ⟨s0, s1, s2⟩; go_simp; with_reducible rfl⟩) hHeld ?_; refine tU 5 (some 16) (bZ 13 63) rfl (by kernel_rfl) (Or.inl ⟨by rfl, by rintro w' ⟨s0, s1, s2⟩; go_simp; with_reducible rfl⟩) hHeld ?_; refine tU 6 (some 17) (bZ 13 127) rfl (by kernel_rfl) (Or.inl ⟨by rfl, by rintro w' ⟨s0, s1, s2⟩; go_simp; with_reducible rfl⟩) hHeld ?_; refine xg (i := 7) (N := some 18) (bZ 13 255) rfl rfl (by kernel_rfl) (by decide) (fun K hK => ?_); refine goesV_ (.tmp 14) #[] Tryz.func138 (by kernel_rfl) rfl #[.string m, envF cb, .pointer (some ⟨b, 0, none⟩)] (by rfl) rfl rfl rfl (by simp only [List.map_toArray, List.map_cons, List.map_nil, Array.append_empty]; rfl) ?_
 with_reducible refine (HCL.out).mono ?_
 rintro e w4 ⟨rfl, hb⟩; refine ⟨_, rfl, ?_⟩; refine hK.out _ _ ?_; clear hK K; refine zq (a' := ?_) ?_ ?_; rotate_left
 ·show Act.put _ (some 18) _ = _
  simp only [Act.put, sA, sB, sC, zo, zt]; rfl
 refine pU 8 (some 10) (bZ 13 511) rfl (by kernel_rfl) ?_; refine pU 9 (some 19) (bZ 13 1023) rfl (by kernel_rfl) ?_; refine pU 10 (some 20) (bZ 13 2047) rfl (by kernel_rfl) ?_; refine pU 11 (some 7) (bZ 13 4095) rfl (by kernel_rfl) ?_; refine pU 12 (some 8) (bZ 13 8191) rfl (by kernel_rfl) ?_; refine xl (by kernel_rfl) ?_; have HB4 := aM (yb (zr (Below.refl _ w)) hb); clear hb HCL
 go_wp2
 go_ret
 exact ⟨rfl, HB4.out⟩
def RwTo (P : BA → BA → Prop) (s : BA) (out : Bs) (i : Nat) (l : Bs) : Prop := ∃ rest, Rw P s i rest ∧ l ++ rest = out
theorem rw_end {P : BA → BA → Prop} {s : BA} {i : Nat} {out : Bs} (h : Rw P s i out) (hi : s.size ≤ i) : out = [] := by
 cases h with
 | done => rfl
 | byte _ _ _ h _ _ => have := h.lt; omega
 | hit _ _ _ _ _ _ h _ _ _ _ _ => omega
set_option maxHeartbeats 3200000 in
set_option maxRecDepth 100000 in
theorem ReplaceAll {P : BA → BA → Prop} {g : List (Bs × BA)} (hP : Repl P g) (s : BA) (out : Bs) (hs : s.size < 140737488355328) (ho : out.length ≤ 140737488355328) (hrw : Rw P s 0 out) (w : World) (pb eb tb rb cb b : Nat) (t : BA) (hE : EnvAt w cb g) (hC : CloAt w pb eb tb rb cb b t) :
  Calls Tryz.prog 139 #[.agg #[], .string s, .func (.func 140) #[] #[.pointer (some ⟨pb, 0, none⟩), .pointer (some ⟨eb, 0, none⟩), .pointer (some ⟨tb, 0, none⟩), .pointer (some ⟨rb, 0, none⟩)]] w fun e w' => e = .returned (.string ⟨out.toArray⟩) ∧ Below w.heap.size w w' := by
 have HB0 := aM (za (Below.refl w.heap.size w) (.cells #[] 96)); have HRW := aM hrw; have HE := aM hE; have HC := aM hC; have HP := aM hP; have HO := aM ho; clear hrw hE hC hP ho
 go_enter Tryz.func139, Tryz.ntmps139
 go_wp2
 go_loopw [7, 8, 9, 10, 11] (fun v7 v8 v9 v10 v11 wr => ∃ (i : Nat) (l : Bs), v8 = .int .i64 i ∧ i ≤ 4611686018427387904 ∧ Aside0 (RwTo P s out i l) ∧ Aside0 (Buf wr w.heap.size v7 l) ∧ Aside0 (Below w.heap.size w wr)) (fun _ v8 _ _ _ _ => s.size - (intOf v8).toNat)
 case atStart => exact ⟨0, [], rfl, by omega, ⟨out, HRW.out, rfl⟩, ⟨Buf.nil _ _⟩, HB0⟩
 case round =>
  clear HRW HB0; obtain ⟨i, l, rfl, hi, HT, HO1, HB⟩ := hrel; obtain ⟨rest, hrest, hl⟩ := HT.out
  by_cases hlt : i < s.size
  ·have q1 : (i : Int) < (s.size : Int) := by omega
   have q0 : (0 : Int) ≤ (i : Int) := by omega
   have q5 : decide ((i : Int) < (s.size : Int)) = true := decide_eq_true q1; have HLO := aM (show l.length + rest.length ≤ 140737488355328 by have := HO.out; rw [← hl, List.length_append] at this; exact this)
   cases hrest with
   | done _ h => exact absurd h (Nat.not_le.2 hlt)
   | byte _ c rest' hat hn hk =>
    obtain ⟨k, hkk⟩ := hn.ev.rounds; have CA := aM (template_zzAt.calls k s i [] 0 false wr hkk); have HAT := aM hat; have HN := aM (show RwTo P s out (i + 1) (l ++ [c]) from ⟨rest', hk, by rw [← hl]; simp⟩); have HLL := aM (show l.length + 1 ≤ 140737488355328 by have := HLO.out; rw [List.length_cons] at this; omega); clear hkk hn hk hl HT hat HLO
    go_wp2_with fail
    refine CA.out.mono ?_; rintro e w1 ⟨v, rfl, hr, hb⟩; have HB1 := aM (yb HB.out hb); have HO2 := aM (HO1.out.below hb); obtain ⟨A9, c9, rfl⟩ := Kd.R_slice hr; have hbt := HAT.out.bt; clear hb CA hr
    go_wp2_with (at_builtin; refine append_bufB (.tmp 25) (.tmp 29) rfl rfl c (by first | done | exact HAT.out.num) rfl rfl HO2.out HB1.out HLL.out ?_; intro v1 w2 ho hb hg; have HO3 := aM ho; have HB3 := aM hb; clear ho hb hg)
    go_roundw
    case rel => exact ⟨i + 1, l ++ [c], by go_num, by omega, HN, HO3, HB3⟩
    case measure => simp [intOf]; omega
   | hit _ n m r ms rest' hil hin hns hz hp hk =>
    obtain ⟨k, hkk⟩ := hz.ev.rounds; have CA := aM (template_zzAt.calls k s i (m :: ms) n true wr hkk); have CC := aM (fun W (h1 : EnvAt W cb g) (h2 : CloAt W pb eb tb rb cb b t) => closure HP.out m r hp W pb eb tb rb cb b t h1 h2); have HN := aM (show RwTo P s out n (l ++ lb r) from ⟨rest', hk, by rw [← hl]; simp⟩); have HLL := aM (show l.length + r.size ≤ 140737488355328 by have := HLO.out; rw [List.length_append, yd] at this; omega); have HNN := aM (show n ≤ 4611686018427387904 by omega); clear hkk hz hk hl HT HLO hp
    go_wp2_with fail
    refine CA.out.mono ?_; rintro e w1 ⟨v, rfl, hr, hb⟩; have HB1 := aM (yb HB.out hb); have HO2 := aM (HO1.out.below hb); obtain ⟨A9, c9, rfl, l9, g9⟩ := Kd.R_reads hr; obtain ⟨b9, o9, rfl, hb9, hc9⟩ := vt g9 (by simp); have e9 : w1.cell? ⟨b9, o9, none⟩ = some (.string m) := hc9 0 (by simp); have hbw := yb (za (Below.refl w.heap.size w) (.cells #[] 96)) (Below.refl _ _); have CCL := aM (CC.out w1 (HE.out.below HB1.out) (HC.out.below HB1.out)); have HG9 := aM (show (0 : Int) < ((m :: ms).length : Int) by rw [List.length_cons]; omega); have hg9 := HG9.out; clear hb CA hr CC hbw hc9 g9
    go_wp2_with fail
    refine CCL.out.mono ?_; rintro e w2 ⟨rfl, hb⟩; have HB2 := aM (yb HB1.out hb); have HO3 := aM (HO2.out.below hb); clear hb CCL
    go_wp2_with (at_builtin; refine append_bufS (.tmp 33) (.tmp 38) rfl rfl rfl rfl HO3.out HB2.out HLL.out ?_; intro v1 w3 ho hb hg; have HO4 := aM ho; have HB4 := aM hb; clear ho hb hg)
    go_roundw
    case rel => exact ⟨n, l ++ lb r, rfl, HNN.out, HN, HO4, HB4⟩
    case measure => simp [intOf]; omega
  ·have q5 : decide ((i : Int) < (s.size : Int)) = false := decide_eq_false (by omega); have hre := rw_end hrest (by omega); rw [hre, List.append_nil] at hl; subst hl; have hcv := HO1.out.string; obtain ⟨A7, c7, rfl⟩ := HO1.out.slice
   go_wp2
   go_ret
   exact ⟨rfl, HB.out⟩
theorem byte_cfg {w : World} {b : Nat} {cs : Array Value} (h : w.heap[b]? = some (.cells cs 239 (0, 0))) : (byteOf ⟨b, 0, none⟩).run Tryz.prog w = .ok 0 w := by
 have hv : (viewAt b).run Tryz.prog w = .ok none w := by
  unfold viewAt
  simp [World.shape?, h]
 have hs : w.shape? b = some (239, cs.size) := by simp [World.shape?, h]
 have hc : Tryz.prog.cellsOf 239 = 3 := by kernel_rfl
 have hd : byteOfCell Tryz.prog Tryz.prog.depth 239 0 = some 0 := by kernel_rfl
 unfold byteOf noView
 simp [hv, hs, hc, hd, Result.andThen]
theorem part_cfg {w : World} {b : Nat} {cs : Array Value} (h : w.heap[b]? = some (.cells cs 239 (0, 0))) : (partAt ⟨b, 0, none⟩ 0 0).run Tryz.prog w = .ok ⟨b, 0, none⟩ w := by
 unfold partAt
 simp [byte_cfg h, Result.andThen]
theorem withPattern1 (b tb : Nat) (w : World) (h : CfgAt w b) : Calls Tryz.prog 136 #[.pointer (some ⟨b, 0, none⟩), .pointer (some ⟨tb, 0, none⟩)] w fun e w' => e = .returned (.tuple #[]) ∧ w' = w := by
 have hpa := part_cfg h; clear h
 go_enter Tryz.func136, Tryz.ntmps136
 go_wp2
 go_end0
 exact ⟨rfl, rfl⟩
theorem withPattern (w : World) : Calls Tryz.prog 106 #[.agg #[]] w fun e w' => e = .returned (.func (.func 136) #[] #[.pointer (some ⟨w.heap.size, 0, none⟩)]) ∧ w' = w.alloc (.cells #[] 96) := by
 have hmf : ∀ (fn : Fn) (first cap : Array Value) (w : World), (Instr.makeFunc fn first cap).run Tryz.prog w = .ok (.func fn first cap) w := fun _ _ _ _ => rfl
 go_enter Tryz.func106, Tryz.ntmps106
 go_wp2
 go_ret
 exact ⟨rfl, rfl⟩
set_option maxHeartbeats 3200000 in
set_option maxRecDepth 100000 in
theorem SubstWith {P : BA → BA → Prop} {g : List (Bs × BA)} (hP : Repl P g) (s : BA) (out : Bs) (hs : s.size < 140737488355328) (ho : out.length ≤ 140737488355328) (hrw : Rw P s 0 out) (w : World) (cb tb : Nat) (hE : EnvAt w cb g) (ob : Nat) (hO : w.cell? ⟨ob, 0, none⟩ = some (.func (.func 136) #[] #[.pointer (some ⟨tb, 0, none⟩)])) :
  Calls Tryz.prog 108 #[.string s, envF cb, .slice (some ⟨ob, 0, none⟩) 1 1] w fun e w' => e = .returned (.tuple #[.string ⟨out.toArray⟩, .nilIface]) ∧ Below w.heap.size w w' := by
 have HE := aM hE; have HRW := aM hrw; have HP := aM hP; have HO := aM hO; clear hrw hP hE hO
 have hmf : ∀ (fn : Fn) (first cap : Array Value) (w : World), (Instr.makeFunc fn first cap).run Tryz.prog w = .ok (.func fn first cap) w := fun _ _ _ _ => rfl
 have hfd : Array.foldl (fun (cs : Array Value) (x : Value × Nat) => cs.setIfInBounds x.snd x.fst) #[Value.nilFunc, Value.nilFunc, Value.bool false] ((#[] : Array Value).zipIdx) 0 0 = #[Value.nilFunc, Value.nilFunc, Value.bool false] := rfl
 go_enter Tryz.func108, Tryz.ntmps108
 go_wp2
 obtain ⟨w1, hw1⟩ : ∃ w1, ((((w.alloc (.cells #[.string s] 9)).alloc (.cells #[envF cb] 138)).alloc (.cells #[.nilIface] 73)).alloc (.cells #[.nilFunc, .func (.func 138) #[] #[], .bool true] 239)).alloc (.cells #[.pointer (some ⟨w.heap.size + 1 + 1 + 1, 0, none⟩)] 235) = w1 := ⟨_, rfl⟩
 rw [hw1]
 have hbw : Below w.heap.size w w1 := by rw [← hw1]; exact za (za (za (za (za (Below.refl w.heap.size w) _) _) _) _) _
 have HB := aM hbw
 have HC := aM (show CloAt w1 (w.heap.size + 1 + 1 + 1 + 1) (w.heap.size + 1) w.heap.size (w.heap.size + 1 + 1) cb (w.heap.size + 1 + 1 + 1) s from by
  rw [← hw1]; have n0 := yk w (.cells #[.string s] 9); have n1 := yk (w.alloc (.cells #[.string s] 9)) (.cells #[envF cb] 138); have n2 := yk ((w.alloc (.cells #[.string s] 9)).alloc (.cells #[envF cb] 138)) (.cells #[.nilIface] 73); have n3 := yk (((w.alloc (.cells #[.string s] 9)).alloc (.cells #[envF cb] 138)).alloc (.cells #[.nilIface] 73)) (.cells #[.nilFunc, .func (.func 138) #[] #[], .bool true] 239); have n4 := yk ((((w.alloc (.cells #[.string s] 9)).alloc (.cells #[envF cb] 138)).alloc (.cells #[.nilIface] 73)).alloc (.cells #[.nilFunc, .func (.func 138) #[] #[], .bool true] 239)) (.cells #[.pointer (some ⟨w.heap.size + 1 + 1 + 1, 0, none⟩)] 235); simp only [World.size_alloc] at n1 n2 n3 n4
  exact ⟨zn (i := 0) n4 rfl, zn (i := 0) (xy (xy (xy n1 _) _) _) rfl, zn (i := 0) (xy (xy (xy (xy n0 _) _) _) _) rfl, zn (i := 0) (xy (xy n2 _) _) rfl, xy n3 _⟩)
 have HE1 := aM (HE.out.below hbw); have hob := zf hbw HO.out; have CW := aM (withPattern1 _ tb w1 HC.out.c); have hpb := HC.out.p; clear hw1 hbw HE HO
 go_loopw [18, 11] (fun v18 v11 wr => wr = w1 ∧ (v18 = .int .i64 0 ∨ v18 = .int .i64 1)) (fun v18 _ _ => 1 - (intOf v18).toNat)
 case atStart => exact ⟨rfl, .inl rfl⟩
 case round =>
  obtain ⟨rfl, h18⟩ := hrel
  rcases h18 with rfl | rfl
  ·go_wp2_with fail
   refine CW.out.mono ?_; rintro e w2 ⟨rfl, rfl⟩
   go_wp2
   go_roundw
   case rel => exact ⟨trivial, .inr rfl⟩
   case measure => simp [intOf]
  ·clear CW; have HRA := aM (ReplaceAll HP.out s out hs ho HRW.out wr.drew (w.heap.size + 1 + 1 + 1 + 1) (w.heap.size + 1) w.heap.size (w.heap.size + 1 + 1) cb (w.heap.size + 1 + 1 + 1) s (HE1.out.below (zr (Below.refl _ _))) (HC.out.below (zr (Below.refl _ _)))); have e1 := HC.out.t; have e2 := part_cfg (w := wr.drew) HC.out.c; have er := aM HC.out.r; clear hob
   go_wp2_with fail
   refine xb (n := 8) (S := fun w' => w'.cell? ⟨w.heap.size + 1 + 1 + 1 + 1, 0, none⟩ = some (.pointer (some ⟨w.heap.size + 1 + 1 + 1, 0, none⟩)) ∧ w'.cell? ⟨w.heap.size, 0, none⟩ = some (.string s) ∧ (partAt ⟨w.heap.size + 1 + 1 + 1, 0, none⟩ 0 0).run Tryz.prog w' = .ok ⟨w.heap.size + 1 + 1 + 1, 0, none⟩ w') (ds := [6]) (bZ 8 0) (by kernel_rfl) rfl rfl ⟨hpb, e1, e2⟩ (fun hHeld => ?_); refine pU 5 (some 31) (bZ 8 32) rfl (by kernel_rfl) ?_; refine tU 0 (some 26) (bZ 8 33) rfl (by kernel_rfl) (Or.inl ⟨by rfl, by rintro w' ⟨s0, s1, s2⟩; go_simp; with_reducible rfl⟩) hHeld ?_; refine pU 1 (some 27) (bZ 8 35) rfl (by kernel_rfl) ?_; refine tU 2 (some 28) (bZ 8 39) rfl (by kernel_rfl) (Or.inl ⟨by rfl, by rintro w' ⟨s0, s1, s2⟩; go_simp; with_reducible rfl⟩) hHeld ?_; refine tU 3 (some 29) (bZ 8 47) rfl (by kernel_rfl) (Or.inl ⟨by rfl, by rintro w' ⟨s0, s1, s2⟩; go_simp; with_reducible rfl⟩) hHeld ?_; refine tU 4 (some 30) (bZ 8 63) rfl (by kernel_rfl) (Or.inl ⟨by rfl, by rintro w' ⟨s0, s1, s2⟩; go_simp; with_reducible rfl⟩) hHeld ?_; refine xg (i := 6) (N := some 32) (bZ 8 127) rfl rfl (by kernel_rfl) (by decide) (fun K hK => ?_); refine vn Tryz.func139 (by kernel_rfl) rfl #[.agg #[], .string s, .func (.func 140) #[] #[.pointer (some ⟨w.heap.size + 1 + 1 + 1 + 1, 0, none⟩), .pointer (some ⟨w.heap.size + 1, 0, none⟩), .pointer (some ⟨w.heap.size, 0, none⟩), .pointer (some ⟨w.heap.size + 1 + 1, 0, none⟩)]] (by rfl) rfl rfl (by simp only [List.map_toArray, List.map_cons, List.map_nil]; rfl) ?_
   with_reducible refine (HRA.out).mono ?_
   rintro e w4 ⟨rfl, hb⟩; refine ⟨_, rfl, ?_⟩; refine hK.out _ _ ?_; clear hK K; refine zq (a' := ?_) ?_ ?_; rotate_left
   ·show Act.put _ (some 32) _ = _
    simp only [Act.put, sA, sB, sC, zo, zt]; rfl
   refine pU 7 (some 12) (bZ 8 255) rfl (by kernel_rfl) ?_; refine xl (by kernel_rfl) ?_; have HB4 := aM (yb HB.out (yb (zr (Below.refl _ wr)) hb)); have e5 := zf hb er.out; clear hb HRA hpb e1 e2
   go_wp2
   go_quiet (fail)
   go_wp2
   go_ret2
   exact ⟨rfl, zc HB4.out _⟩
set_option maxHeartbeats 1600000 in
set_option maxRecDepth 100000 in
theorem SubstituteWith {P : BA → BA → Prop} {g : List (Bs × BA)} (hP : Repl P g) (s : BA) (out : Bs) (hs : s.size < 140737488355328) (ho : out.length ≤ 140737488355328) (hrw : Rw P s 0 out) (w : World) (cb : Nat) (hE : EnvAt w cb g) :
  Calls Tryz.prog 64 #[.string s, envF cb, .agg #[], .slice none 0 0] w fun e w' => e = .returned (.tuple #[.string ⟨out.toArray⟩, .nilIface]) ∧ Below w.heap.size w w' := by
 have CP := aM (withPattern (w.alloc (.cells #[] 96))); have CS := aM (fun W tb ob (h1 : EnvAt W cb g) (h2 : W.cell? ⟨ob, 0, none⟩ = some (.func (.func 136) #[] #[.pointer (some ⟨tb, 0, none⟩)])) => SubstWith hP s out hs ho hrw W cb tb h1 ob h2); have HE := aM hE; clear hP hrw hE
 go_enter Tryz.func64, Tryz.ntmps64
 go_wp2_with fail
 refine CP.out.mono ?_; rintro e w1 ⟨rfl, rfl⟩
 obtain ⟨w2, hw2⟩ : ∃ w2, ((w.alloc (.cells #[] 96)).alloc (.cells #[] 96)) = w2 := ⟨_, rfl⟩
 have hbw : Below w.heap.size w w2 := by rw [← hw2]; exact za (za (Below.refl w.heap.size w) _) _
 have HB := aM (za hbw (.cells #[.func (.func 136) #[] #[.pointer (some ⟨w.heap.size + 1, 0, none⟩)]] 184)); have CS1 := aM (CS.out (w2.alloc (.cells #[.func (.func 136) #[] #[.pointer (some ⟨w.heap.size + 1, 0, none⟩)]] 184)) (w.heap.size + 1) w2.heap.size (HE.out.below HB.out) (zn (i := 0) (yk w2 _) rfl)); clear CS CP HE hbw; rw [hw2]; have HS2 := aM (show w2.heap.size = w.heap.size + 1 + 1 by rw [← hw2]; simp [World.size_alloc]); clear hw2
 go_wp2_with fail
 refine CS1.out.mono ?_; rintro e w3 ⟨rfl, hb⟩; have HB3 := aM (yb HB.out hb); clear hb CS1
 go_wp2
 go_ret2
 exact ⟨rfl, HB3.out⟩
theorem Substitute {P : BA → BA → Prop} {g : List (Bs × BA)} (hP : Repl P g) (s : BA) (out : Bs) (hs : s.size < 140737488355328) (ho : out.length ≤ 140737488355328) (hrw : Rw P s 0 out) (w : World) (cb : Nat) (hE : EnvAt w cb g) :
  Calls Tryz.prog 45 #[.string s, envF cb] w fun e w' => e = .returned (.tuple #[.string ⟨out.toArray⟩, .nilIface]) ∧ Below w.heap.size w w' := by
 have CS := aM (SubstituteWith hP s out hs ho hrw w cb hE); clear hP hrw hE
 go_enter Tryz.func45, Tryz.ntmps45
 go_wp2_with fail
 refine CS.out.mono ?_; rintro e w3 ⟨rfl, hb⟩; have HB3 := aM hb; clear hb CS
 go_wp2
 go_ret2
 exact ⟨rfl, HB3.out⟩
end Go.Proofs.YtjcffojiacgocaaGreatDoor.Tr.Sb
namespace Go.Proofs.YtjcffojiacgocaaGreatDoor.PS
open Go.RowKit Go.Proofs.YtjcffojiacgocaaGreatDoorW.PrintWords Go.Proofs.YtjcffojiacgocaaGreatDoorW.PrintLast Go.Proofs.YtjcffojiacgocaaGreatDoorW.PrintMore
attribute [local go_sem] xf xd xk xj yt yr xe xc 
def template_zzIndex.l0 : Nat → ByteArray → ByteArray → Int → Option (Int)
 | 0, _, _, _ => none
 | k + 1, x0, x1, x5 => if (wrap64 (x5 + (x1.size : Int))) ≤ (x0.size : Int) then (if 0 ≤ x5 then (if x5 ≤ (wrap64 (x5 + (x1.size : Int))) then (if (x0.extract (x5 : Int).toNat ((wrap64 (x5 + (x1.size : Int))) : Int).toNat).toList = x1.toList then (some x5) else (template_zzIndex.l0 k x0 x1 (wrap64 (x5 + 1)))) else (none)) else (none)) else (some (-1))
def template_zzIndex.f (k : Nat) (a0 : ByteArray) (a1 : ByteArray) : Option (Int) := template_zzIndex.l0 k a0 a1 0
set_option maxHeartbeats 8000000 in
set_option maxRecDepth 100000 in
theorem template_zzIndex.calls (k : Nat) (a0 : ByteArray) (a1 : ByteArray) (r : Int) (w : World) (h : template_zzIndex.f k a0 a1 = some r) :
  Calls Tryz.prog 197 #[.string a0, .string a1] w fun e w' => e = .returned (.int .i64 r) ∧ Drawn0 w w' := by
 have H : (template_zzIndex.l0 k a0 a1 0) = some r := h; clear h; have H' := aM H; clear H
 go_enter Tryz.func197, Tryz.ntmps197
 go_wp2
 go_loopg [5] k (fun kq v5 w' => ∃ (x5_1 : Int), v5 = .int .i64 x5_1 ∧ Aside0 (template_zzIndex.l0 kq a0 a1 x5_1 = some r) ∧ Aside0 (kq ≤ k) ∧ Drawn0 w w')
 case atStart => exact ⟨(0), (by first | rfl | (simp; done) | (simp [*]; done)), H', ⟨Nat.le_refl _⟩, by repeat (first | exact Drawn0.refl _ | apply Drawn0.step)⟩
 case round =>
  clear H'
  try clear c1
  try clear p2
  obtain ⟨x5_1, rfl, HA, HK1, ⟨m1, rfl⟩⟩ := hrel
  cases gk with
  | zero => exact absurd HA.out (by simp [template_zzIndex.l0])
  | succ k1 =>
   have H := HA.out; clear HA; simp only [template_zzIndex.l0] at H
   by_cases c3 : (wrap64 (x5_1 + (a1.size : Int))) ≤ (a0.size : Int)
   ·rw [if_pos c3] at H; have c3b0 : decide ((wrap64 (x5_1 + (a1.size : Int))) ≤ (a0.size : Int)) = true := decide_eq_true c3; clear c3
    by_cases c4 : 0 ≤ x5_1
    ·rw [if_pos c4] at H; have c4b0 := eq_true c4; have c4b1 : decide (0 ≤ x5_1) = true := decide_eq_true c4; clear c4
     by_cases c5 : x5_1 ≤ (wrap64 (x5_1 + (a1.size : Int)))
     ·rw [if_pos c5] at H; have c5b0 := eq_true c5; have c5b1 : decide (x5_1 ≤ (wrap64 (x5_1 + (a1.size : Int)))) = true := decide_eq_true c5; have c6b0 := eq_true (of_decide_eq_true (by first | (with_reducible assumption) | assumption) : (wrap64 (x5_1 + (a1.size : Int))) ≤ (a0.size : Int))
      by_cases c7 : (a0.extract (x5_1 : Int).toNat ((wrap64 (x5_1 + (a1.size : Int))) : Int).toNat).toList = a1.toList
      ·rw [if_pos c7] at H; have c7b0 : ((a0.extract (x5_1 : Int).toNat ((wrap64 (x5_1 + (a1.size : Int))) : Int).toNat).toList == a1.toList) = true := beq_iff_eq.mpr c7; have c7b1 : ((a0.extract (x5_1 : Int).toNat ((wrap64 (x5_1 + (a1.size : Int))) : Int).toNat).toList != a1.toList) = false := bne_eq_false_iff_eq.mpr c7; clear c7; obtain rfl := Option.some.inj H
       go_wp2
       go_ret
       exact ⟨by first | rfl | (simp; done) | (simp [*]; done), by repeat (first | exact Drawn0.refl _ | apply Drawn0.step)⟩
      ·rw [if_neg c7] at H; have c7b0 : ((a0.extract (x5_1 : Int).toNat ((wrap64 (x5_1 + (a1.size : Int))) : Int).toNat).toList == a1.toList) = false := beq_eq_false_iff_ne.mpr c7; have c7b1 : ((a0.extract (x5_1 : Int).toNat ((wrap64 (x5_1 + (a1.size : Int))) : Int).toNat).toList != a1.toList) = true := bne_iff_ne.mpr c7; have H' := aM H; clear H
       go_wp2
       go_roundg k1
       case measure => have := HK1.out; omega
       case rel => exact ⟨(wrap64 (x5_1 + 1)), (by first | rfl | (simp; done) | (simp [*]; done)), H', ⟨by have := HK1.out; omega⟩, by repeat (first | exact Drawn0.refl _ | apply Drawn0.step)⟩
     ·rw [if_neg c5] at H; exact absurd H (by simp)
    ·rw [if_neg c4] at H; exact absurd H (by simp)
   ·rw [if_neg c3] at H; have c3b0 : decide ((wrap64 (x5_1 + (a1.size : Int))) ≤ (a0.size : Int)) = false := decide_eq_false c3; clear c3; obtain rfl := Option.some.inj H
    go_wp2
    go_ret
    exact ⟨by first | rfl | (simp; done) | (simp [*]; done), by repeat (first | exact Drawn0.refl _ | apply Drawn0.step)⟩
attribute [local go_sem] xf xd xk xj yt yr xe xc 
attribute [local go_sem] xf xd xk xj yt yr xe xc 
attribute [local go_sem] xf xd xk xj yt yr xe xc 
end Go.Proofs.YtjcffojiacgocaaGreatDoor.PS
namespace Go.Proofs.YtjcffojiacgocaaGreatDoor.Tr.Sb
open Go.RowKit Go.Proofs.YtjcffojiacgocaaGreatDoorW.PrintWords Go.Proofs.YtjcffojiacgocaaGreatDoorW.PrintLast Go.Proofs.YtjcffojiacgocaaGreatDoor.Str Go.Proofs.YtjcffojiacgocaaGreatDoor.Kit Go.Proofs.YtjcffojiacgocaaGreatDoor.MapV Go.Proofs.YtjcffojiacgocaaGreatDoor.Frame Go.Proofs.YtjcffojiacgocaaGreatDoor.PS Go.Proofs.YtjcffojiacgocaaGreatDoor.Flat Go.Sort Go.Lib
def idx (t s : BA) : Int := findI (lb s) (lb t)
theorem ends_index_l (t s : BA) (ht : t.size < 2305843009213693952) (hs : s.size < 2305843009213693952) : ∀ (d j : Nat), j + d = t.size + 1 → Str.At (lb s) (lb t) j → Ends (fun r => r = idx t s) (fun k => template_zzIndex.l0 k t s (j : Int)) := by
 intro d
 induction d with
 | zero =>
  intro j hj hA; have := hA.1; rw [yd] at this
  omega
 | succ d ih =>
  intro j hj hA; have hjl := hA.1; rw [yd] at hjl; refine Ends.step (fun k => by simp only [template_zzIndex.l0]; rfl) ?_; rw [wrapN j s.size (by omega), wrap1 j (by omega)]
  by_cases hlt : j + s.size ≤ t.size
  ·refine Ends.yes (by omega) (Ends.yes (by omega) (Ends.yes (by omega) (Ends.ite (fun e => ?_) (fun e => ?_))))
   ·have e' : (t.extract j (j + s.size)).toList = s.toList := e; exact Ends.now (hA.hit (by rw [yd, yd]; exact hlt) (by rw [yd, ← lb_piece, ← yz, ← yz]; exact e')).symm
   ·have e' : ¬ (t.extract j (j + s.size)).toList = s.toList := e; exact ih (j + 1) (by omega) (hA.next (by rw [yd, yd]; exact hlt) (by rw [yd, ← lb_piece, ← yz, ← yz]; exact e'))
  ·exact Ends.no (by omega) (Ends.now (hA.miss (by rw [yd, yd]; omega)).symm)
theorem ends_index (t s : BA) (ht : t.size < 2305843009213693952) (hs : s.size < 2305843009213693952) : Ends (fun r => r = idx t s) (fun k => template_zzIndex.f k t s) := ends_index_l t s ht hs (t.size + 1) 0 (by omega) (Str.At.start _ _)
theorem zzIndex_c (t s : BA) (ht : t.size < 2305843009213693952) (hs : s.size < 2305843009213693952) (w : World) : Calls Tryz.prog 197 #[.string t, .string s] w fun e w' => e = .returned (.int .i64 (idx t s)) ∧ Drawn0 w w' := by
 obtain ⟨k, hk⟩ := (ends_index t s ht hs).ev.rounds; exact template_zzIndex.calls k t s _ w hk
def encT (x : BA × Nat) : List Value := [.string x.1, .func (.func x.2) #[] #[]]
theorem encT_one (x : BA × Nat) : ∀ u ∈ encT x, u.oneCell' = true := by
 intro u hu
 simp [encT] at hu
 rcases hu with rfl | rfl <;> rfl
instance : Inhabited (BA × Nat) := ⟨(⟨#[]⟩, 0)⟩
def ltT (t : BA) (x y : BA × Nat) : Bool := decide (0 ≤ idx t x.1) && (decide (idx t y.1 < 0) || decide (idx t x.1 < idx t y.1))
theorem ltT_iff (t : BA) (x y : BA × Nat) : ltT t x y = true ↔ 0 ≤ idx t x.1 ∧ (idx t y.1 < 0 ∨ idx t x.1 < idx t y.1) := by simp [ltT]
theorem swo_ltT (t : BA) : SWO (ltT t) where
 irrefl x := by
  rw [Bool.eq_false_iff]; intro h; have := (ltT_iff t x x).1 h
  omega
 trans x y z h1 h2 := by
  have a := (ltT_iff t x y).1 h1; have b := (ltT_iff t y z).1 h2; exact (ltT_iff t x z).2 (by omega)
 ntrans x y z h1 h2 := by
  rw [Bool.eq_false_iff] at *; intro h; have a := (ltT_iff t x z).1 h
  have b : ¬ (0 ≤ idx t x.1 ∧ (idx t y.1 < 0 ∨ idx t x.1 < idx t y.1)) := fun k => h1 ((ltT_iff t x y).2 k)
  have c : ¬ (0 ≤ idx t y.1 ∧ (idx t z.1 < 0 ∨ idx t y.1 < idx t z.1)) := fun k => h2 ((ltT_iff t y z).2 k)
  omega
noncomputable def opsT : TypeInfo := (Tryz.prog.info? 290).get (by kernel_rfl)
noncomputable def opT : TypeInfo := (Tryz.prog.info? 289).get (by kernel_rfl)
theorem opT_k (n : Nat) (h2 : 2 ≤ n) : Lib.swapperK n opT 25 = 9 := by
 have a : opT.hasPointers = true := by kernel_rfl
 have b : opT.bytes = 24 := by kernel_rfl
 have c : (n == 0) = false := by simp; omega
 have d : (n == 1) = false := by simp; omega
 simp [Lib.swapperK, a, b, c, d]
set_option maxHeartbeats 2000000 in
set_option maxRecDepth 100000 in
theorem ops_less (t : BA) (ht : t.size < 2305843009213693952) (blk off c tb sb size : Nat) (W : World) (G : Nat → BA) (hG : ∀ i, i < size → (G i).size < 2305843009213693952) (h0 : W.cell? ⟨tb, 0, none⟩ = some (.string t)) (hs : W.cell? ⟨sb, 0, none⟩ = some (.slice (some ⟨blk, off, none⟩) size c))
  (hc : ∀ i, i < size → W.cell? ⟨blk, off + i * 2, none⟩ = some (.string (G i))) (i j : Nat) (hi : i < size) (hj : j < size) (_hsz : size < 4611686018427387904) :
  Calls Tryz.prog 196 #[.int .i64 i, .int .i64 j, .pointer (some ⟨tb, 0, none⟩), .pointer (some ⟨sb, 0, none⟩)] W fun e w' => e = .returned (.bool (ltT t (G i, 0) (G j, 0))) ∧ ∃ q, w' = W.drewN q := by
 have ci := hc i hi; have cj := hc j hj
 have qi : (i : Int) < (size : Int) := by omega
 have qj : (j : Int) < (size : Int) := by omega
 have CI := aM (fun W => zzIndex_c t (G i) ht (hG i hi) W); have CJ := aM (fun W => zzIndex_c t (G j) ht (hG j hj) W); have HR := aM (show ∀ a b : Int, a = idx t (G i) → b = idx t (G j) → ltT t (G i, 0) (G j, 0) = (decide (0 ≤ a) && (decide (b < 0) || decide (a < b))) from fun a b ha hb => by rw [ha, hb]; rfl); clear hG hc
 go_enter Tryz.func196, Tryz.ntmps196
 go_wp2_with fail
 refine xb (n := 8) (S := fun w' => w'.cell? ⟨tb, 0, none⟩ = some (.string t) ∧ w'.cell? ⟨sb, 0, none⟩ = some (.slice (some ⟨blk, off, none⟩) size c) ∧ w'.cell? ⟨blk, off + i * 2, none⟩ = some (.string (G i))) (ds := [6]) (bZ 8 0) (by kernel_rfl) rfl rfl ⟨h0, hs, ci⟩ (fun hHeld => ?_); refine pU 2 (some 11) (bZ 8 4) rfl (by kernel_rfl) ?_; refine tU 0 (some 9) (bZ 8 5) rfl (by kernel_rfl) (Or.inl ⟨by rfl, by rintro w' ⟨s0, s1, s2⟩; go_simp; with_reducible rfl⟩) hHeld ?_; refine tU 1 (some 10) (bZ 8 7) rfl (by kernel_rfl) (Or.inl ⟨by rfl, by rintro w' ⟨s0, s1, s2⟩; go_simp; with_reducible rfl⟩) hHeld ?_; refine pU 3 (some 12) (bZ 8 15) rfl (by kernel_rfl) ?_; refine pU 4 (some 13) (bZ 8 31) rfl (by kernel_rfl) ?_; refine tU 5 (some 14) (bZ 8 63) rfl (by kernel_rfl) (Or.inl ⟨by rfl, by rintro w' ⟨s0, s1, s2⟩; go_simp; with_reducible rfl⟩) hHeld ?_; refine xg (i := 6) (N := some 15) (bZ 8 127) rfl rfl (by kernel_rfl) (by decide) (fun K hK => ?_); refine vn Tryz.func197 (by kernel_rfl) rfl #[.string t, .string (G i)] (by rfl) rfl rfl (by simp only [List.map_toArray, List.map_cons, List.map_nil]; rfl) ?_
 with_reducible refine (CI.out _).mono ?_
 rintro e w4 ⟨rfl, ⟨nd, rfl⟩⟩; refine ⟨_, rfl, ?_⟩; refine hK.out _ _ ?_; clear hK K; refine zq (a' := ?_) ?_ ?_; rotate_left
 ·show Act.put _ (some 15) _ = _
  simp only [Act.put, sA, sB, sC, zo, zt]; rfl
 refine pU 7 (some 7) (bZ 8 255) rfl (by kernel_rfl) ?_; refine xl (by kernel_rfl) ?_; have hbd := yb (zr (Below.refl _ W)) (Drawn0.below (⟨⟨nd, rfl⟩⟩ : Drawn0 W.drew (W.drew.drewN nd))); have h02 := zf hbd h0; have hs2 := zf hbd hs; have cj2 := zf hbd cj; clear CI; generalize hW2 : W.drew.drewN nd = W2 at h02 hs2 cj2 ⊢; have HW2 := aM hW2; clear hW2 hbd h0 hs ci cj
 go_wp2_with fail
 refine xb (n := 8) (S := fun w' => w'.cell? ⟨tb, 0, none⟩ = some (.string t) ∧ w'.cell? ⟨sb, 0, none⟩ = some (.slice (some ⟨blk, off, none⟩) size c) ∧ w'.cell? ⟨blk, off + j * 2, none⟩ = some (.string (G j))) (ds := [6]) (bZ 8 0) (by kernel_rfl) rfl rfl ⟨h02, hs2, cj2⟩ (fun hHeld => ?_); refine pU 2 (some 18) (bZ 8 4) rfl (by kernel_rfl) ?_; refine tU 0 (some 16) (bZ 8 5) rfl (by kernel_rfl) (Or.inl ⟨by rfl, by rintro w' ⟨s0, s1, s2⟩; go_simp; with_reducible rfl⟩) hHeld ?_; refine tU 1 (some 17) (bZ 8 7) rfl (by kernel_rfl) (Or.inl ⟨by rfl, by rintro w' ⟨s0, s1, s2⟩; go_simp; with_reducible rfl⟩) hHeld ?_; refine pU 3 (some 19) (bZ 8 15) rfl (by kernel_rfl) ?_; refine pU 4 (some 20) (bZ 8 31) rfl (by kernel_rfl) ?_; refine tU 5 (some 21) (bZ 8 63) rfl (by kernel_rfl) (Or.inl ⟨by rfl, by rintro w' ⟨s0, s1, s2⟩; go_simp; with_reducible rfl⟩) hHeld ?_; refine xg (i := 6) (N := some 22) (bZ 8 127) rfl rfl (by kernel_rfl) (by decide) (fun K hK => ?_); refine vn Tryz.func197 (by kernel_rfl) rfl #[.string t, .string (G j)] (by rfl) rfl rfl (by simp only [List.map_toArray, List.map_cons, List.map_nil]; rfl) ?_
 with_reducible refine (CJ.out _).mono ?_
 rintro e w5 ⟨rfl, ⟨nd2, rfl⟩⟩; refine ⟨_, rfl, ?_⟩; refine hK.out _ _ ?_; clear hK K; refine zq (a' := ?_) ?_ ?_; rotate_left
 ·show Act.put _ (some 22) _ = _
  simp only [Act.put, sA, sB, sC, zo, zt]; rfl
 refine pU 7 (some 8) (bZ 8 255) rfl (by kernel_rfl) ?_; refine xl (by kernel_rfl) ?_; have hr := HR.out _ _ rfl rfl; have HR2 := aM hr; clear hr HR; generalize idx t (G i) = a at HR2 ⊢; generalize idx t (G j) = b at HR2 ⊢; clear CJ h02 hs2 cj2
 have HWN := aM (show ∃ q, W2.drewN (1 + nd2) = W.drewN q from by
  have e1 : W.drew.drewN nd = W.drewN (1 + nd) := by simp
  have e2 : (W.drewN (1 + nd)).drewN (1 + nd2) = W.drewN (1 + nd + (1 + nd2)) := by simp
  exact ⟨1 + nd + (1 + nd2), by rw [← HW2.out, e1, e2]⟩)
 by_cases ha : a < 0
 ·have d1 : decide (a < 0) = true := decide_eq_true ha
  have e1 : ltT t (G i, 0) (G j, 0) = false := by rw [HR2.out, decide_eq_false (by omega)]; rfl
  have HE := aM e1; clear e1 ha
  go_wp2
  go_ret
  exact ⟨by rw [HE.out]; rfl, HWN.out⟩
 ·have d1 : decide (a < 0) = false := decide_eq_false ha
  by_cases hb : b < 0
  ·have d2 : decide (b < 0) = true := decide_eq_true hb; have HE := aM (show ltT t (G i, 0) (G j, 0) = true by rw [HR2.out, decide_eq_true (by omega), d2]; rfl); clear ha hb
   go_wp2
   go_ret
   exact ⟨by rw [HE.out]; rfl, HWN.out⟩
  ·have d2 : decide (b < 0) = false := decide_eq_false hb; have HE := aM (show ltT t (G i, 0) (G j, 0) = decide (a < b) by rw [HR2.out, decide_eq_true (by omega), d2]; simp); clear ha hb
   go_wp2
   go_ret
   exact ⟨by rw [HE.out]; rfl, HWN.out⟩
def opsL : List (BA × Nat) := [(⟨#[58, 63]⟩, 190), (⟨#[63]⟩, 191), (⟨#[58, 45]⟩, 192), (⟨#[45]⟩, 193), (⟨#[58, 43]⟩, 194), (⟨#[43]⟩, 195)]
def opAt (i : Fin 6) : BA × Nat := opsL[i.val]'(by have := i.isLt; show i.val < 6; exact this)
theorem op_small (i : Fin 6) : (opAt i).1.size < 2305843009213693952 := by
 revert i
 decide
def encF (i : Fin 6) : List Value := encT (opAt i)
theorem encF_len (x : Fin 6) : (encF x).length = 2 := rfl
theorem encF_one (x : Fin 6) : ∀ u ∈ encF x, u.oneCell' = true := encT_one (opAt x)
def ltF (t : BA) (i j : Fin 6) : Bool := ltT t (opAt i) (opAt j)
theorem swo_ltF (t : BA) : SWO (ltF t) where
 irrefl x := (swo_ltT t).irrefl _
 trans x y z h1 h2 := (swo_ltT t).trans _ _ _ h1 h2
 ntrans x y z h1 h2 := (swo_ltT t).ntrans _ _ _ h1 h2
def six : Array (Fin 6) := #[0, 1, 2, 3, 4, 5]
abbrev opsCells : Array Value := #[.string ⟨#[58, 63]⟩, .func (.func 190) #[] #[], .string ⟨#[63]⟩, .func (.func 191) #[] #[], .string ⟨#[58, 45]⟩, .func (.func 192) #[] #[], .string ⟨#[45]⟩, .func (.func 193) #[] #[], .string ⟨#[58, 43]⟩, .func (.func 194) #[] #[], .string ⟨#[43]⟩, .func (.func 195) #[] #[]]
set_option maxRecDepth 100000 in
theorem ops_sort (t : BA) (ht : t.size < 2305843009213693952) (blk c tb sb : Nat) (w : World) (hH : HoldsK encF 2 w blk 0 six) (hblk : blk < w.heap.size)
  (h0 : w.cell? ⟨tb, 0, none⟩ = some (.string t)) (ht1 : tb < w.heap.size) (ht2 : tb ≠ blk) (hBs : w.cell? ⟨sb, 0, none⟩ = some (.slice (some ⟨blk, 0, none⟩) 6 c)) (hB1 : sb < w.heap.size) (hB2 : sb ≠ blk) :
  Calls Tryz.prog 41 #[.iface 290 (.slice (some ⟨blk, 0, none⟩) 6 c), .func (.func 196) #[] #[.pointer (some ⟨tb, 0, none⟩), .pointer (some ⟨sb, 0, none⟩)]] w fun e w' =>
   e = .returned (.tuple #[]) ∧ ∃ d' n os, PermIn 0 6 six d' ∧ SortedIn (ltF t) 0 6 d' ∧ w' = grow (putRowK encF 2 (Sort.ahead w n) blk 0 d') os := by
 have hless : LessReadsK Tryz.prog 196 #[.pointer (some ⟨tb, 0, none⟩), .pointer (some ⟨sb, 0, none⟩)] encF 2 (ltF t) blk 0 6 w := by
  intro m os dk hs i j hi hj
  have e : sortWorldK encF 2 w blk 0 m dk os = putRowK encF 2 (grow (Sort.ahead w m) os) blk 0 dk := by
   unfold sortWorldK; rw [putRowK_grow _ _ (Sort.ahead w m) _ blk 0 _ hblk]
  have hHg : HoldsK encF 2 (grow (Sort.ahead w m) os) blk 0 six := holdsK_grow _ _ _ _ blk 0 six hblk (holdsK_ahead _ _ _ _ _ _ _ hH); refine ops_less t ht blk 0 c tb sb 6 _ (fun t => (opAt dk[t]!).1) (fun i hi => op_small _) ?_ ?_ (fun t ht => ?_) i j hi hj (by omega)
  ·rw [e, cell?_putRowK_other _ _ _ blk 0 dk _ (by exact ht2), cell?_grow _ _ _ (by exact ht1)]; exact h0
  ·rw [e, cell?_putRowK_other _ _ _ blk 0 dk _ (by exact hB2), cell?_grow _ _ _ (by exact hB1)]; exact hBs
  ·rw [e]; exact ((holdsK_putRowK _ _ _ blk 0 six dk hHg hs).cell (i := t) (c := 0) (by omega) (by omega)).1
 exact Any.sort_Slice_cells_sorted Tryz.laysGg6 290 289 opsT opT (by kernel_rfl) (by kernel_rfl) (by kernel_rfl) (by kernel_rfl) 25 (fun _ => by kernel_rfl) encF 2 encF_len (by kernel_rfl) (fun _ => by kernel_rfl)
  encF_one (ltF t) (swo_ltF t) 196 _
  (enters_of Tryz.func196 (by kernel_rfl) rfl) blk 0 c six (by decide) (by decide) 90 (by rw [opT_k _ (by decide)]; kernel_rfl) false
  (fun args W => run_callFunc_extern Tryz.func90 (by kernel_rfl) (by kernel_rfl) (by kernel_rfl) (e := Extern.ReflectliteSwapper.swap false) (by kernel_rfl) args W) w hless hH hblk
theorem six_holds (w : World) : HoldsK encF 2 (w.alloc (.cells opsCells 289)) w.heap.size 0 six := by
 have hown : (w.alloc (.cells opsCells 289)).ownsRow w.heap.size 289 2 (.slice (some ⟨w.heap.size, 0, none⟩) six.toList.length 6) six.toList.length (six.toList.flatMap encF) := by
  refine ⟨rfl, .inr ⟨w.heap.size, 6, opsCells, rfl, Nat.le_refl _, yk w _, by decide, by unfold maxLen; decide, rfl, rfl⟩⟩
 have := holdsK_of_own encF_len hown; exact this
theorem holdsK_alloc_ {w : World} {b : Nat} {o : Obj} (h : HoldsK encF 2 w b 0 six) : HoldsK encF 2 (w.alloc o) b 0 six := by
 intro j hj; obtain ⟨h1, h2⟩ := h j hj; have hl := World.block_lt_of_cell? w _ h1; exact ⟨(World.cell?_alloc_lt _ _ _ hl).trans h1, (World.frozen?_alloc_old _ _ _ (Nat.ne_of_lt hl)).trans h2⟩
set_option maxHeartbeats 1600000 in
set_option maxRecDepth 100000 in
theorem getSubst (t : BA) (ht : t.size < 2305843009213693952) (w : World) :
  Calls Tryz.prog 181 #[.string t] w fun e w' => ∃ k : Fin 6, e = .returned (.tuple #[.string (opAt k).1, .func (.func (opAt k).2) #[] #[]]) ∧ (∀ j : Fin 6, ltF t j k = false) ∧ Below w.heap.size w w' := by
 have hmf : ∀ (fn : Fn) (first cap : Array Value) (w : World), (Instr.makeFunc fn first cap).run Tryz.prog w = .ok (.func fn first cap) w := fun _ _ _ _ => rfl
 have hH := six_holds (w.alloc (.cells #[.string t] 9)); rw [World.size_alloc] at hH; have hb1 := za (za (za (Below.refl w.heap.size w) (.cells #[.string t] 9)) (.cells opsCells 289)) (.cells #[.slice (some ⟨w.heap.size + 1, 0, none⟩) 6 6] 290); have HB := aM hb1; have hc1 := yk ((w.alloc (.cells #[.string t] 9)).alloc (.cells opsCells 289)) (.cells #[.slice (some ⟨w.heap.size + 1, 0, none⟩) 6 6] 290); simp only [World.size_alloc] at hc1; have HS := aM (ops_sort t ht (w.heap.size + 1) 6 w.heap.size (w.heap.size + 1 + 1) (((w.alloc (.cells #[.string t] 9)).alloc (.cells opsCells 289)).alloc (.cells #[.slice (some ⟨w.heap.size + 1, 0, none⟩) 6 6] 290)) (holdsK_alloc_ hH) (by simp only [World.size_alloc]; omega) (zn (i := 0) (xy (xy (yk w _) _) _) rfl) (by simp only [World.size_alloc]; omega) (by omega) (zn (i := 0) hc1 rfl) (by simp only [World.size_alloc]; omega) (by omega)); have HC1 := aM hc1; clear hb1 hc1
 go_enter Tryz.func181, Tryz.ntmps181
 go_wp2_with fail
 generalize hw1 : ((w.alloc (.cells #[.string t] 9)).alloc (.cells opsCells 289)).alloc (.cells #[.slice (some ⟨w.heap.size + 1, 0, none⟩) 6 6] 290) = w1 at HS HB HC1 hH ⊢; refine HS.out.mono ?_; rintro e w2 ⟨rfl, d', n, os, hp, hso, rfl⟩
 have hl1 : w.heap.size + 1 < w1.heap.size := by have := yc HC1.out; omega
 have hds : d'.size = 6 := hp.1; have hgr := grown_sortedK (enc := encF) (k := 2) (m := n) (ys := d') (os := os) hl1; have hk1 : HoldsK encF 2 (putRowK encF 2 (Sort.ahead w1 n) (w.heap.size + 1) 0 d') (w.heap.size + 1) 0 d' := holdsK_putRowK _ _ _ _ 0 six d' (holdsK_ahead _ _ _ _ _ _ _ (by rw [← hw1]; exact holdsK_alloc_ hH)) hds; have hk2 := holdsK_grow _ _ _ os (w.heap.size + 1) 0 d' (by rw [size_putRowK]; exact hl1) hk1; generalize grow (putRowK encF 2 (Sort.ahead w1 n) (w.heap.size + 1) 0 d') os = w2 at hgr hk2 ⊢
 have hmin : ∀ j : Fin 6, ltF t j d'[0]! = false := by
  intro j
  have hm : j ∈ d'.toList := by
   have h3 := hp.2.2
   have e1 : d'.extract 0 6 = d' := by
    have e0 : d'.extract 0 d'.size = d' := by simp
    rw [hds] at e0; exact e0
   rw [e1] at h3; refine h3.symm.subset ?_
   show j ∈ ([0, 1, 2, 3, 4, 5] : List (Fin 6))
   revert j
   decide
  obtain ⟨m, hm, hj⟩ := List.getElem_of_mem hm
  have hm' : m < d'.size := by simpa using hm
  have hj' : d'[m]! = j := by rw [getElem!_pos d' m hm']; simpa using hj
  rcases Nat.eq_zero_or_pos m with rfl | h0
  ·rw [hj']; exact (swo_ltF t).irrefl j
  ·rw [← hj']; exact hso 0 m (Nat.zero_le _) h0 (by omega)
 have c0 := (hk2.cell (i := 0) (c := 0) (by omega) (by omega)).1; have c1 := (hk2.cell (i := 0) (c := 1) (by omega) (by omega)).1; generalize d'[0]! = k at hmin c0 c1; have c0' : w2.cell? ⟨w.heap.size + 1, 0, none⟩ = some (.string (opAt k).1) := c0; have c1' : w2.cell? ⟨w.heap.size + 1, 1, none⟩ = some (.func (.func (opAt k).2) #[] #[]) := c1; have c2 : w2.cell? ⟨w.heap.size + 1 + 1, 0, none⟩ = some (.slice (some ⟨w.heap.size + 1, 0, none⟩) 6 6) := zn (i := 0) ((hgr.block _ (yc HC1.out) (by simp)).trans HC1.out) rfl; have HB2 := aM (zm HB.out _ HB.out.size hgr (fun k hk => by injection hk with hk; omega)); have HMIN := aM hmin
 obtain ⟨sg, hsg⟩ : ∃ sg, (opAt k).1 = sg := ⟨_, rfl⟩
 obtain ⟨fn, hfn⟩ : ∃ fn, (opAt k).2 = fn := ⟨_, rfl⟩
 rw [hsg] at c0'; rw [hfn] at c1'; have HSF := aM (And.intro hsg hfn); clear hsg hfn c0 c1 hk1 hk2 hgr hp hso hds hmin hl1 HS HC1 hH hw1
 go_wp2
 go_quiet (fail)
 go_wp2
 go_ret2
 exact ⟨k, by rw [HSF.out.1, HSF.out.2]; rfl, HMIN.out, zc HB2.out _⟩
end Go.Proofs.YtjcffojiacgocaaGreatDoor.Tr.Sb
namespace Go.Proofs.YtjcffojiacgocaaGreatDoor.Tr.Sb
open Go.RowKit Go.Proofs.YtjcffojiacgocaaGreatDoorW.PrintWords Go.Proofs.YtjcffojiacgocaaGreatDoorW.PrintLast Go.Proofs.YtjcffojiacgocaaGreatDoor.Str Go.Proofs.YtjcffojiacgocaaGreatDoor.Kit Go.Proofs.YtjcffojiacgocaaGreatDoor.MapV Go.Proofs.YtjcffojiacgocaaGreatDoor.Frame Go.Proofs.YtjcffojiacgocaaGreatDoor.PS
section
variable {P : Program} {ops : Array Oper} {Q : Exit → Act → World → Prop}
theorem goesVL_ (c : Operand) (cap : Array Value) {rest : List Oper} {oi : Oper} {a : Act} {w : World} (N : Option Tmp) (hd : oi.dst = N) (hg : oi.guard = none) {f : FuncId} {xs : Array Operand} {ts : Array TypeId} (args : Array Value) (he : (callFunc f args).run P w = .ok (.enter f args) w)
  (hop : oi.op = .call { callee := .value c, args := xs, argTypes := ts }) (hv : a.eval c = .func (.func f) #[] cap) (hargs : xs.map a.eval ++ cap = args)
  (h : Calls P f args w fun e w' => ∃ v, e = .returned v ∧ wpList P ops Q rest (a.put N v) w') : wpList P ops Q (oi :: rest) a w := by
 refine wpList_plain hg fun K hK => ?_
 have hrun : (execOp a.eval oi).run P w = .ok (.enter f args) w := by
  unfold execOp
  simp [hop, resolve, Deferred.ofValue, invoke, hv, hargs, he]
 unfold Oper.wp
 rw [hrun, Oper.upon_enter]
 refine h.mono fun e w'' hh => ?_
 obtain ⟨v, rfl, hk⟩ := hh; subst hd; exact hK _ _ hk
end
end Go.Proofs.YtjcffojiacgocaaGreatDoor.Tr.Sb
namespace Go.Proofs.YtjcffojiacgocaaGreatDoor.Tr.Sb
open Go.RowKit Go.Proofs.YtjcffojiacgocaaGreatDoorW.PrintWords Go.Proofs.YtjcffojiacgocaaGreatDoorW.PrintLast Go.Proofs.YtjcffojiacgocaaGreatDoor.Str Go.Proofs.YtjcffojiacgocaaGreatDoor.Kit Go.Proofs.YtjcffojiacgocaaGreatDoor.MapV Go.Proofs.YtjcffojiacgocaaGreatDoor.Frame Go.Proofs.YtjcffojiacgocaaGreatDoor.PS
open Go.Proofs.YtjcffojiacgocaaGreatDoor.Maps (MapS key_u map_u lookFn lookT)
def valOf (g : List (Bs × BA)) (n : Bs) : BA := (mget g n).getD ⟨#[]⟩
set_option maxHeartbeats 1600000 in
set_option maxRecDepth 100000 in
theorem repl_of_applied (m r : BA) (g : List (Bs × BA)) (h : ∀ (w : World) (cb b : Nat), EnvAt w cb g → CfgAt w b →
  Calls Tryz.prog 168 #[.string m, envF cb, .pointer (some ⟨b, 0, none⟩)] w fun e w' => ∃ u, e = .returned (.tuple #[.string r, .bool u, .nilIface]) ∧ Below w.heap.size w w') (w : World) (cb b : Nat) (hE : EnvAt w cb g) (hC : CfgAt w b) :
  Calls Tryz.prog 138 #[.string m, envF cb, .pointer (some ⟨b, 0, none⟩)] w fun e w' => e = .returned (.tuple #[.string r, .nilIface]) ∧ Below w.heap.size w w' := by
 have CA := aM (h w cb b hE hC); clear h hE hC
 go_enter Tryz.func138, Tryz.ntmps138
 go_wp2_with fail
 refine CA.out.mono ?_; rintro e w1 ⟨u, rfl, hb⟩; have HB1 := aM hb; clear hb CA
 go_wp2
 go_ret2
 exact ⟨rfl, HB1.out⟩
end Go.Proofs.YtjcffojiacgocaaGreatDoor.Tr.Sb
namespace Go.Proofs.YtjcffojiacgocaaGreatDoor.Tr.Sb
open Go.RowKit Go.Proofs.YtjcffojiacgocaaGreatDoorW.PrintWords Go.Proofs.YtjcffojiacgocaaGreatDoorW.PrintLast Go.Proofs.YtjcffojiacgocaaGreatDoor.Str Go.Proofs.YtjcffojiacgocaaGreatDoor.Kit Go.Proofs.YtjcffojiacgocaaGreatDoor.MapV Go.Proofs.YtjcffojiacgocaaGreatDoor.Frame Go.Proofs.YtjcffojiacgocaaGreatDoor.PS
open Go.Proofs.YtjcffojiacgocaaGreatDoor.Maps (MapS key_u map_u lookFn lookT kp toP Ok encP ofP)
theorem rw_stop {P : BA → BA → Prop} (s : BA) (i : Nat) (h : s.size = i) : Rw P s i [] := .done i (by omega)
theorem one_lit (w : World) (e : TypeId) (p q : BA) : kp.C (w.alloc (.cells #[.string p, .string q] e)) (some ⟨w.heap.size, 0, none⟩) 1 [(p, q)] := by
 obtain ⟨A, c, e1, _, hC⟩ := Kd.R_reads (Go.Proofs.YtjcffojiacgocaaGreatDoor.Maps.own_one w w.heap.size e (Nat.le_refl _) (fun _ => True) trivial p q)
 injection e1 with e1
 subst e1; exact hC
def nA : Bs := [65]
theorem nA_name : IsName nA := ⟨by decide, by intro c hc; simp [nA] at hc; rw [← hc]; decide, by intro c hc; simp [nA] at hc; rw [hc]; decide⟩
def livesG : List (Bs × BA) := [(nA, ⟨#[98]⟩)]
theorem livesOk : Ok 1 livesG := ⟨by unfold livesG Rises; simp, by intro p hp; simp [livesG] at hp; rw [hp]; decide, by decide⟩
end Go.Proofs.YtjcffojiacgocaaGreatDoor.Tr.Sb
namespace Go.Proofs.YtjcffojiacgocaaGreatDoor.Tr.Sb
open Go.RowKit Go.Proofs.YtjcffojiacgocaaGreatDoorW.PrintWords Go.Proofs.YtjcffojiacgocaaGreatDoorW.PrintLast Go.Proofs.YtjcffojiacgocaaGreatDoor.Str Go.Proofs.YtjcffojiacgocaaGreatDoor.Kit Go.Proofs.YtjcffojiacgocaaGreatDoor.MapV Go.Proofs.YtjcffojiacgocaaGreatDoor.Frame Go.Proofs.YtjcffojiacgocaaGreatDoor.PS
open Go.Proofs.YtjcffojiacgocaaGreatDoor.Maps (MapS key_u map_u lookFn lookT)
def DD : BA := mk [36, 36]
def D1 : BA := mk [36]
theorem dd_close (w : World) : Calls Tryz.prog 124 #[.string DD] w fun e w' => e = .returned (.int .i64 (-1)) ∧ Drawn0 w w' := template_getFirstBraceClosingIndex.calls 10 DD (-1) w (by kernel_rfl)
set_option maxHeartbeats 3200000 in
set_option maxRecDepth 100000 in
theorem applied_twice (g : List (Bs × BA)) (w : World) (cb b : Nat) (hE : EnvAt w cb g) (hC : CfgAt w b) :
  Calls Tryz.prog 168 #[.string DD, envF cb, .pointer (some ⟨b, 0, none⟩)] w fun e w' => ∃ u, e = .returned (.tuple #[.string D1, .bool u, .nilIface]) ∧ Below w.heap.size w w' := by
 have CG := aM (fun W => getSubst DD (by decide) W); have CB := aM (fun W => dd_close W)
 have CF := aM (fun W => FindStringSubmatch DD [DD, D1, E0, E0, E0, E0] 2 (by decide) (by decide) (by
  have := ends_at_twice DD (by decide) [] [] rfl
  have h : Ends (fun r => r = ([mk [36, 36], mk [36], E0, E0, E0, E0], (2 : Int), true)) (fun k => template_zzAt.f k DD 0) := by simpa using this
  exact h) W)
 have hd1 : (D1.toList == []) = false := beq_eq_false_iff_ne.2 (by rw [yz]; decide); generalize DD = m at CG CB CF ⊢; generalize D1 = d1 at CF hd1 ⊢; have hpa := part_cfg hC; have hb1 := za (Below.refl w.heap.size w) (.cells #[] 96); have hsf : (w.alloc (.cells #[] 96)).cell? ⟨b, 0, none⟩ = some .nilFunc := zf hb1 (zn (i := 0) hC rfl); have HB1 := aM hb1; clear hE hC hb1
 have hbf : ∀ w : World, (binOp BinOp.eql 189 .nilFunc .nilFunc).run Tryz.prog w = .ok (.bool true) w := fun _ => by kernel_rfl
 go_enter Tryz.func168, Tryz.ntmps168
 go_wp2_with fail
 refine (CG.out _).mono ?_; rintro e w1 ⟨k, rfl, hmin, hb⟩; have HB2 := aM (yb HB1.out hb); clear hb hmin CG HB1 hpa hsf
 go_wp2_with fail
 refine (CB.out _).mono ?_; rintro e w2 ⟨rfl, ⟨nd, rfl⟩⟩; have HB3 := aM (yb HB2.out (Drawn0.below (⟨⟨nd, rfl⟩⟩ : Drawn0 w1 (w1.drewN nd)))); clear HB2 CB
 go_wp2_with fail
 refine (CF.out _).mono ?_; rintro e w3 ⟨A, cc, rfl, hC3, hb⟩; have HB4 := aM (yb HB3.out hb); have CM := aM (matchGroups [m, d1, E0, E0, E0, E0] rfl A cc w3 hC3); have HGET := aM (gr_get [m, d1, E0, E0, E0, E0] rfl); clear hb CF hC3 HB3
 go_wp2_with fail
 refine CM.out.mono ?_; rintro e w4 ⟨mb, rfl, hM, hb⟩; have HB5 := aM (yb HB4.out hb); have hl1 := run_look_mapE key_u Tryz.underlying111 (Tryz.zeroValue9 w4) hM (s := nEsc) (by unfold maxLen; decide); rw [HGET.out.1] at hl1; have hk1 : (Instr.lookup 111 (.map (some mb)) (.string ⟨#[101, 115, 99, 97, 112, 101, 100]⟩) false).run Tryz.prog w4 = .ok (.string d1) w4 := hl1; clear hb CM hM hl1 HGET HB4
 go_wp2
 go_ret3
 exact ⟨_, rfl, HB5.out⟩
theorem repl_twice (g : List (Bs × BA)) : Repl (fun m r => m = DD ∧ r = D1) g := by
 rintro m r ⟨rfl, rfl⟩ w cb b hE hC; exact repl_of_applied _ _ g (fun w cb b h1 h2 => applied_twice g w cb b h1 h2) w cb b hE hC
def twice : Bs → Bs
 | [] => []
 | c :: l => if c = 36 then 36 :: 36 :: twice l else c :: twice l
theorem twice_len : ∀ l, l.length ≤ (twice l).length ∧ (twice l).length ≤ 2 * l.length
 | [] => ⟨Nat.le_refl _, Nat.le_refl _⟩
 | c :: l => by
  have := twice_len l
  unfold twice
  split <;> simp only [List.length_cons] <;> omega
theorem rw_twice (s : BA) (hs : s.size < 4611686018427387904) : ∀ (l p : Bs), lb s = p ++ twice l → Rw (fun m r => m = DD ∧ r = D1) s p.length l
 | [], p, h => .done _ (by rw [← yd, h]; simp [twice])
 | c :: l, p, h => by
  unfold twice at h
  split at h
  ·rename_i hc
   subst hc; have hk := rw_twice s hs l (p ++ [36, 36]) (by rw [h]; simp)
   have hlen : (p ++ [36, 36]).length = p.length + 2 := by simp
   rw [hlen] at hk
   have hsz : s.size = p.length + 2 + (twice l).length := by rw [← yd, h]; simp; omega
   have hat := ends_at_twice s hs p (twice l) (by rw [h]; simp); have := Rw.hit (P := fun m r => m = DD ∧ r = D1) (s := s) p.length (p.length + 2) DD D1 _ l (by omega) (by omega) (by omega) hat ⟨rfl, rfl⟩ hk; exact this
  ·rename_i hc
   have hk := rw_twice s hs l (p ++ [c]) (by rw [h]; simp)
   have hlen : (p ++ [c]).length = p.length + 1 := by simp
   rw [hlen] at hk; have h1 : At s p.length c := At.of (p := p) (q := twice l) h rfl; exact .byte p.length c l h1 (ends_at_none s hs p.length c h1 hc) hk
end Go.Proofs.YtjcffojiacgocaaGreatDoor.Tr.Sb
namespace Go.Proofs.YtjcffojiacgocaaGreatDoor.Tr
open Go.RowKit Go.Proofs.YtjcffojiacgocaaGreatDoorW.PrintWords Go.Proofs.YtjcffojiacgocaaGreatDoorW.PrintLast Go.Proofs.YtjcffojiacgocaaGreatDoor.Str Go.Proofs.YtjcffojiacgocaaGreatDoor.Kit Go.Proofs.YtjcffojiacgocaaGreatDoor.MapV Go.Proofs.YtjcffojiacgocaaGreatDoor.Frame Go.Proofs.YtjcffojiacgocaaGreatDoor.PS
open Go.Proofs.YtjcffojiacgocaaGreatDoor.Tr.Sb (Rw twice twice_len rw_twice DD D1 mk)
mutual
def volY : Y → Nat
 | .text s => s.size + 1
 | .list l => volYl l + 1
 | .map m => volYm m + 1
 | _ => 1
def volYl : List Y → Nat
 | [] => 0
 | y :: r => volY y + volYl r
def volYm : List (Bs × Y) → Nat
 | [] => 0
 | p :: r => volYp p + volYm r
def volYp : Bs × Y → Nat
 | (k, y) => k.length + volY y
end
theorem volY_pos : ∀ y : Y, 1 ≤ volY y
 | .null => by simp [volY]
 | .bool _ => by simp [volY]
 | .int _ => by simp [volY]
 | .text _ => by simp [volY]
 | .list _ => by simp [volY]
 | .map _ => by simp [volY]
theorem volYl_mem {y : Y} : ∀ {l : List Y}, y ∈ l → volY y ≤ volYl l
 | [], h => by cases h
 | x :: r, h => by
  simp only [volYl]
  rcases List.mem_cons.1 h with rfl | h
  ·omega
  ·have := volYl_mem h; omega
theorem volYm_mem {p : Bs × Y} : ∀ {l : List (Bs × Y)}, p ∈ l → p.1.length + volY p.2 ≤ volYm l
 | [], h => by cases h
 | x :: r, h => by
  simp only [volYm]
  rcases List.mem_cons.1 h with rfl | h
  ·obtain ⟨k, y⟩ := p; simp only [volYp]; omega
  ·have := volYm_mem h; omega
theorem volYl_len : ∀ l : List Y, l.length ≤ volYl l
 | [] => Nat.zero_le _
 | x :: r => by
  have := volYl_len r; have := volY_pos x; simp only [volYl, List.length_cons]; omega
theorem volYm_len : ∀ l : List (Bs × Y), l.length ≤ volYm l
 | [] => Nat.zero_le _
 | (k, y) :: r => by
  have := volYm_len r; have := volY_pos y; simp only [volYm, volYp, List.length_cons]; omega
inductive IY (P : BA → BA → Prop) : Y → Y → Prop
 | null : IY P .null .null
 | bool (b) : IY P (.bool b) (.bool b)
 | int (n) : IY P (.int n) (.int n)
 | text (s : BA) (out : Bs) (hs : s.size < 140737488355328) (ho : out.length ≤ 140737488355328) (h : Rw P s 0 out) : IY P (.text s) (.text ⟨out.toArray⟩)
 | list (l : List (Y × Y)) (h : ∀ p, p ∈ l → IY P p.1 p.2) : IY P (.list (l.map (fun p => p.1))) (.list (l.map (fun p => p.2)))
 | map (m : List (Bs × Y × Y)) (h : ∀ p, p ∈ m → IY P p.2.1 p.2.2) : IY P (.map (m.map (fun p => (p.1, p.2.1)))) (.map (m.map (fun p => (p.1, p.2.2))))
def Esc (m r : BA) : Prop := m = DD ∧ r = D1
mutual
def dblV : VS → VS
 | ⟨k, n, t, ks, vs⟩ => if k = 3 then leaf 3 0 (mk (twice (lb t))) else ⟨k, n, t, ks, dblL vs⟩
def dblL : List VS → List VS
 | [] => []
 | v :: r => dblV v :: dblL r
end
theorem dblL_map : ∀ l, dblL l = l.map dblV
 | [] => by simp [dblL]
 | v :: r => by simp [dblL, dblL_map r]
theorem dblL_length (l : List VS) : (dblL l).length = l.length := by rw [dblL_map, List.length_map]
theorem twice_size (t : BA) : (mk (twice (lb t))).size ≤ 2 * t.size := by
 rw [← yd, show lb (mk (twice (lb t))) = twice (lb t) from lb_mk _]; have := (twice_len (lb t)).2; rw [yd] at this; exact this
theorem any_list (n : Int) (t : BA) (ks : List BA) (l : List VS) : anyOf (toI ⟨4, n, t, ks, l⟩) = .list (l.map (fun v => anyOf (toI v))) := by
 have e : anyOf (toI ⟨4, n, t, ks, l⟩) = .list (anyL (toL l)) := by
  rw [toI_eq]; simp only [anyOf]; rw [if_neg (by decide), if_neg (by decide), if_neg (by decide), if_pos trivial]
 rw [e, xz, toL_map, List.map_map]; rfl
theorem any_map {ks : List BA} {vs : List VS} (hr : RiseK ks) (n : Int) (t : BA) : anyOf (toI ⟨5, n, t, ks, vs⟩) = .map ((ks.map lb).zip (vs.map (fun v => anyOf (toI v)))) := by
 rw [canon_anyOf_map hr, xz, toL_map, List.map_map]; rfl
theorem zip_pairs {α β γ : Type} (f : α → β) (g : α → γ) : ∀ (ks : List Bs) (vs : List α), ks.zip (vs.map f) = (ks.zip (vs.map (fun v => (f v, g v)))).map (fun p => (p.1, p.2.1)) ∧ ks.zip (vs.map g) = (ks.zip (vs.map (fun v => (f v, g v)))).map (fun p => (p.1, p.2.2))
 | [], vs => by simp
 | k :: ks, [] => by simp
 | k :: ks, v :: vs => by
  obtain ⟨h1, h2⟩ := zip_pairs f g ks vs; simp only [List.map_cons, List.zip_cons_cons, h1, h2, and_self]
theorem iy_dbl {x : VS} (h : Canon x) (hx : SmallS x) (hv : volY (anyOf (toI x)) ≤ 1048576) : IY Esc (anyOf (toI (dblV x))) (anyOf (toI x)) := by
 induction h with
 | null => simp [leaf, dblV, dblL, toI, toL, anyOf]; exact .null
 | bool b => simp [leaf, dblV, dblL, toI, toL, anyOf]; exact .bool _
 | int n => simp [leaf, dblV, dblL, toI, toL, anyOf]; exact .int _
 | text s =>
  have e1 : anyOf (toI (leaf 3 0 s)) = .text s := by simp [leaf, toI, toL, anyOf]
  have e2 : anyOf (toI (dblV (leaf 3 0 s))) = .text (mk (twice (lb s))) := by simp [leaf, dblV, toI, toL, anyOf]
  rw [e1] at hv ⊢; rw [e2]; simp only [volY] at hv; have h2 := twice_size s; have h3 := rw_twice (mk (twice (lb s))) (by omega) (lb s) [] (by rw [show lb (mk (twice (lb s))) = twice (lb s) from lb_mk _]; rfl); have h4 := IY.text (P := Esc) (mk (twice (lb s))) (lb s) (by omega) (by rw [yd]; omega) h3; rw [show (⟨(lb s).toArray⟩ : BA) = s from ba_eta s] at h4; exact h4
 | list l h ih =>
  have e : dblV ⟨4, 0, ⟨#[]⟩, [], l⟩ = ⟨4, 0, ⟨#[]⟩, [], dblL l⟩ := by simp [dblV]
  rw [any_list] at hv ⊢; rw [e, any_list, dblL_map, List.map_map]; simp only [volY] at hv
  have := IY.list (P := Esc) (l.map (fun v => (anyOf (toI (dblV v)), anyOf (toI v)))) (fun p hp => by
   obtain ⟨v, hvv, rfl⟩ := List.mem_map.1 hp
   cases hx with
   | mk _ _ _ _ _ hc =>
    refine ih v hvv (hc v hvv) ?_; have := volYl_mem (List.mem_map.2 ⟨v, hvv, rfl⟩ : anyOf (toI v) ∈ l.map (fun v => anyOf (toI v)))
    omega)
  rw [List.map_map, List.map_map] at this; exact this
 | map ks vs hr hl h ih =>
  have e : dblV ⟨5, 0, ⟨#[]⟩, ks, vs⟩ = ⟨5, 0, ⟨#[]⟩, ks, dblL vs⟩ := by simp [dblV]
  rw [any_map hr] at hv ⊢; rw [e, any_map hr, dblL_map, List.map_map]; simp only [volY] at hv; obtain ⟨z1, z2⟩ := zip_pairs (fun v => anyOf (toI (dblV v))) (fun v => anyOf (toI v)) (ks.map lb) vs
  have := IY.map (P := Esc) ((ks.map lb).zip (vs.map (fun v => (anyOf (toI (dblV v)), anyOf (toI v))))) (fun p hp => by
   obtain ⟨k, q⟩ := p; obtain ⟨v, hvv, rfl⟩ := List.mem_map.1 (List.of_mem_zip hp).2
   cases hx with
   | mk _ _ _ _ _ hc =>
    refine ih v hvv (hc v hvv) ?_
    have hm : (k, anyOf (toI v)) ∈ (ks.map lb).zip (vs.map (fun v => anyOf (toI v))) := by
     rw [z2]; exact List.mem_map.2 ⟨_, hp, rfl⟩
    have := volYm_mem hm; simp only at this
    omega)
  rw [← z1, ← z2] at this; exact this
theorem small_dbl {x : VS} (h : SmallS x) (hc : Canon x) (hv : volY (anyOf (toI x)) ≤ 1048576) : SmallS (dblV x) := by
 induction hc with
 | null => simpa [leaf, dblV, dblL] using h
 | bool b => simpa [leaf, dblV, dblL] using h
 | int n => simpa [leaf, dblV, dblL] using h
 | text s =>
  have e1 : anyOf (toI (leaf 3 0 s)) = .text s := by simp [leaf, toI, toL, anyOf]
  have e2 : dblV (leaf 3 0 s) = leaf 3 0 (mk (twice (lb s))) := by simp [leaf, dblV]
  rw [e1] at hv; rw [e2]; simp only [volY] at hv; have h2 := twice_size s; exact .mk _ (by show (mk (twice (lb s))).size ≤ _; omega) (fun s hs => by cases hs) (Nat.zero_le _) (Nat.zero_le _) (fun v hv => by cases hv)
 | list l hc ih =>
  have e : dblV ⟨4, 0, ⟨#[]⟩, [], l⟩ = ⟨4, 0, ⟨#[]⟩, [], dblL l⟩ := by simp [dblV]
  rw [any_list] at hv; rw [e]; simp only [volY] at hv
  cases h with
  | mk _ ht hk hkl hvl hcc =>
   refine .mk _ ht hk hkl (by show (dblL l).length ≤ _; rw [dblL_length]; exact hvl) (fun v hvv => ?_); have hvv' : v ∈ dblL l := hvv; rw [dblL_map] at hvv'; obtain ⟨u, hu, rfl⟩ := List.mem_map.1 hvv'; refine ih u hu (hcc u hu) ?_; have := volYl_mem (List.mem_map.2 ⟨u, hu, rfl⟩ : anyOf (toI u) ∈ l.map (fun v => anyOf (toI v)))
   omega
 | map ks vs hr hl hc ih =>
  have e : dblV ⟨5, 0, ⟨#[]⟩, ks, vs⟩ = ⟨5, 0, ⟨#[]⟩, ks, dblL vs⟩ := by simp [dblV]
  rw [any_map hr] at hv; rw [e]; simp only [volY] at hv
  cases h with
  | mk _ ht hk hkl hvl hcc =>
   refine .mk _ ht hk hkl (by show (dblL vs).length ≤ _; rw [dblL_length]; exact hvl) (fun v hvv => ?_); have hvv' : v ∈ dblL vs := hvv; rw [dblL_map] at hvv'; obtain ⟨u, hu, rfl⟩ := List.mem_map.1 hvv'; refine ih u hu (hcc u hu) ?_; obtain ⟨i, hi, he⟩ := List.getElem_of_mem hu
   have hm : ((ks.map lb)[i]'(by rw [List.length_map]; omega), anyOf (toI u)) ∈ (ks.map lb).zip (vs.map (fun v => anyOf (toI v))) := by
    refine List.mem_iff_getElem.2 ⟨i, by simp; omega, ?_⟩; rw [List.getElem_zip, List.getElem_map, List.getElem_map, he]
   have := volYm_mem hm; simp only at this
   omega
theorem volYm_ins (x : Bs × Y) : ∀ f : List (Bs × Y), volYm (mins x f) = volYp x + volYm f
 | [] => by simp [mins, volYm]
 | y :: r => by
  rw [mins]
  split
  ·simp [volYm]
  ·simp only [volYm, volYm_ins x r]; omega
theorem volYm_del (k : Bs) : ∀ f : List (Bs × Y), volYm (mdel f k) ≤ volYm f
 | [] => by simp [mdel, volYm]
 | y :: r => by
  have := volYm_del k r
  unfold mdel at this ⊢
  rw [List.filter_cons]
  split
  ·simp only [volYm]; omega
  ·simp only [volYm]; omega
end Go.Proofs.YtjcffojiacgocaaGreatDoor.Tr
namespace Go.Proofs.YtjcffojiacgocaaGreatDoor.RowKit
open Go.RowKit Go.ChangeShapes Go.WideShapes Go.ChangeAt Go.Proofs.YtjcffojiacgocaaGreatDoorW.PrintWords Go.Proofs.YtjcffojiacgocaaGreatDoor.Str Go.Proofs.YtjcffojiacgocaaGreatDoor.Kit
theorem strs_arg {H : Type} {enc : TypeId × Value → H} {P : Program} {W : World} {base : Nat} {spare : Nat → Bool} {held : Bool} {t e : TypeId} {a : Option Addr} {len cap : Nat} {d : DataW H} {ps : List MemPlace}
  (ht : P.underlying t = some (.slice e)) (he : P.underlying e = some .string) (hc : P.cellsOf e = 1) (h : DataW.Trod enc P W base spare held t (.slice a len cap) d ps) :
  ∃ xs : List ByteArray, xs.length = len ∧ len ≤ cap ∧ Kd.string.C W a xs.length xs ∧ ((d = .nil ∧ xs = []) ∨ ∃ rest, d = .slice (strs xs) rest) := by
 obtain ⟨fuel, hf⟩ := h
 rcases open_strings ht he hc hf with ⟨hcs, hx⟩ | ⟨ad, l, c, ss, hcs, _, hl, hm, hss, hx, hcell, hws⟩
 ·simp [Value.cells] at hcs
  obtain ⟨rfl, rfl, rfl⟩ := hcs; simp only [Prod.mk.injEq] at hx; exact ⟨[], rfl, by omega, ⟨rfl, by simp, fun h => absurd h (by simp)⟩, .inl ⟨hx.1, rfl⟩⟩
 ·simp [Value.cells] at hcs
  obtain ⟨rfl, rfl, rfl⟩ := hcs; simp only [Prod.mk.injEq] at hx
  have hlen : len ≤ ss.length := by rw [hss]; split <;> omega
  have hl2 : (ss.take len).length = len := by rw [List.length_take]; omega
  refine ⟨ss.take len, hl2, hl, ⟨rfl, by unfold maxLen at hm; omega, fun _ => ⟨ad, rfl, fun j p hp => ?_⟩⟩, .inr ⟨_, hx.1⟩⟩; obtain ⟨hj, rfl⟩ := List.getElem?_eq_some_iff.1 hp; refine ⟨[.string (ss.take len)[j]], rfl, rfl, fun i u hu => ?_⟩; have hi : i < 1 := (List.getElem?_eq_some_iff.1 hu).1
  obtain rfl : i = 0 := by omega
  have hu' : Value.string (ss.take len)[j] = u := by simpa using hu
  subst hu'
  have : j * Kd.string.sz + 0 = j := by simp [Kd.string, Kd.scalar]
  rw [this, hcell j (by rw [hl2] at hj; omega)]; rw [hl2] at hj
  simp [List.getD_eq_getElem?_getD, List.getElem?_eq_getElem (show j < ss.length by omega)]
theorem bulkAll_le {H : Type} {d : DataW H} {l : List (DataW H)} (h : d ∈ l) : Rows.uptoBulk d ≤ Rows.uptoBulkAll l := by
 induction l with
 | nil => cases h
 | cons x r ih =>
  simp only [Rows.uptoBulkAll]
  rcases List.mem_cons.1 h with e | e
  ·subst e; omega
  ·have := ih e; omega
theorem bulk_of {H : Type} (xs : List ByteArray) : Rows.uptoBulkAll (strs xs : List (DataW H)) = bulk xs := by
 induction xs with
 | nil => rfl
 | cons a r ih =>
  simp only [strs, List.map_cons, Rows.uptoBulkAll, Rows.uptoBulk] at ih ⊢; rw [ih]
  show (lb a).length + 1 + bulk r = bulk (a :: r)
  rw [yd]
  simp [bulk]
end Go.Proofs.YtjcffojiacgocaaGreatDoor.RowKit
namespace Go.Proofs.YtjcffojiacgocaaGreatDoor.RowKit
open Go.RowKit Go.ChangeShapes Go.WideShapes Go.ChangeAt Go.Proofs.YtjcffojiacgocaaGreatDoorW.PrintWords Go.Proofs.YtjcffojiacgocaaGreatDoorW.PrintLast Go.Proofs.YtjcffojiacgocaaGreatDoor.Str Go.Proofs.YtjcffojiacgocaaGreatDoor.Kit Go.Proofs.YtjcffojiacgocaaGreatDoor.PS Go.Proofs.YtjcffojiacgocaaGreatDoor.Tr
theorem addr_add (a : Addr) (i j : Nat) : (a.add i).add j = a.add (i + j) := by
 unfold Addr.add
 by_cases h : i = 0
 ·subst h; simp
 ·by_cases k : j = 0
  ·subst k; simp
  ·simp [h, k, Nat.add_assoc]
theorem agg_of {v : Value} {l : List Value} (h : v.cells.toList = l) (hl : 2 ≤ l.length) : v = .agg l.toArray := by
 cases v with
 | agg cs =>
  have : cs.toList = l := by simpa [Value.cells] using h
  rw [← this]
 | _ =>
  exfalso
  have := congrArg List.length h
  simp [Value.cells] at this
  omega
theorem list5 {α : Type} {cs : List α} (h : cs.length = 5) : ∃ a b c d e, cs = [a, b, c, d, e] := by
 match cs, h with
 | [a, b, c, d, e], _ => exact ⟨a, b, c, d, e, rfl⟩
section
variable {H : Type} {enc : TypeId × Value → H} {W : World} {base : Nat} {spare : Nat → Bool} {held : Bool}
end
mutual
def vol : VS → Nat
 | ⟨_, _, t, ks, vs⟩ => t.size + bulk ks + volL vs + 1
def volL : List VS → Nat
 | [] => 0
 | v :: r => vol v + volL r
end
theorem vol_pos : ∀ x : VS, 1 ≤ vol x
 | ⟨_, _, t, ks, vs⟩ => by simp only [vol]; omega
theorem volL_len : ∀ l : List VS, l.length ≤ volL l
 | [] => Nat.zero_le _
 | x :: r => by
  simp only [volL, List.length_cons]; have h1 := vol_pos x; have h2 := volL_len r
  omega
theorem bulk_mem {s : BA} : ∀ {l : List BA}, s ∈ l → s.size + 1 ≤ bulk l
 | [], h => by cases h
 | x :: r, h => by
  have e : bulk (x :: r) = x.size + 1 + bulk r := by simp [bulk]
  rw [e]
  rcases List.mem_cons.1 h with rfl | h
  ·omega
  ·have := bulk_mem h
   omega
theorem bulk_len : ∀ l : List BA, l.length ≤ bulk l
 | [] => Nat.zero_le _
 | x :: r => by
  have e : bulk (x :: r) = x.size + 1 + bulk r := by simp [bulk]
  have := bulk_len r; rw [e, List.length_cons]
  omega
mutual
theorem small_vol : ∀ (x : VS), vol x ≤ 1048576 → SmallS x
 | ⟨a, b, t, ks, vs⟩, h => by
  simp only [vol] at h; have h1 := bulk_len ks; have h2 := volL_len vs; refine .mk _ ?_ (fun s hs => ?_) ?_ ?_ (fun v hv => small_volL vs (by omega) v hv)
  ·show t.size ≤ _; omega
  ·have := bulk_mem (show s ∈ ks from hs); unfold maxLen; omega
  ·show ks.length ≤ _; omega
  ·show vs.length ≤ _; omega
theorem small_volL : ∀ (l : List VS), volL l ≤ 1048576 → ∀ v, v ∈ l → SmallS v
 | [], _, v, h => by cases h
 | x :: r, h, v, hv => by
  simp only [volL] at h
  rcases List.mem_cons.1 hv with e | e
  ·rw [e]; exact small_vol x (by omega)
  ·exact small_volL r (by omega) v e
end
theorem row_ofM {α : Type} {R : Nat → α → Prop} (m : α → Nat) (b : Nat → Nat) : ∀ (len : Nat), (∀ i, i < len → ∃ p, R i p ∧ m p ≤ b i) → ∃ xs : List α, xs.length = len ∧ (∀ (i : Nat) (hi : i < xs.length), R i xs[i]) ∧ (xs.map m).sum ≤ ((List.range len).map b).sum
 | 0, _ => ⟨[], rfl, fun i hi => absurd hi (by simp), by simp⟩
 | k + 1, each => by
  obtain ⟨xs, hx, hg, hm⟩ := row_ofM m b k (fun i hi => each i (by omega)); obtain ⟨p, hp, hpm⟩ := each k (by omega); refine ⟨xs ++ [p], by simp [hx], fun i hi => ?_, ?_⟩
  ·by_cases h : i < xs.length
   ·rw [List.getElem_append_left h]; exact hg i h
   ·have : i = k := by simp at hi; omega
    subst this; subst hx
    simpa using hp
  ·rw [List.range_succ]
   simp
   omega
theorem volL_sum : ∀ l : List VS, volL l = (l.map vol).sum
 | [] => rfl
 | x :: r => by simp [volL, volL_sum r]
theorem bulkAll_sum {H : Type} : ∀ l : List (DataW H), Rows.uptoBulkAll l = ((List.range l.length).map (fun i => Rows.uptoBulk (l.getD i .nil))).sum
 | [] => rfl
 | x :: r => by
  rw [Rows.uptoBulkAll, bulkAll_sum r, List.length_cons, List.range_succ_eq_map]
  simp [Function.comp_def]
section
variable {H : Type} {enc : TypeId × Value → H} {W : World} {base : Nat} {spare : Nat → Bool} {held : Bool}
theorem strs_up {d : DataW H} {ps : List MemPlace} {fuel : Nat} {v : Value} (hf : DataW.trod enc Tryz.prog W base spare held fuel 22 [v] = some (d, ps)) :
  ∃ A c xs, v = .slice A xs.length c ∧ xs.length ≤ c ∧ Kd.string.C W A xs.length xs ∧ bulk xs + 1 ≤ Rows.uptoBulk d := by
 rcases DataW.trod_slice Tryz.underlying22 hf with ⟨hcs, hx⟩ | ⟨ad, l, c, elems, rest, n, _, hcs, hx, _, hl, hm, hlen, _, _, _⟩
 ·have hv : v = .slice none 0 0 := by simpa using hcs
  subst hv; refine ⟨none, 0, [], rfl, Nat.le_refl _, ⟨rfl, by simp, fun h => absurd h (by simp)⟩, ?_⟩
  have hd : d = .nil := by simpa using (congrArg Prod.fst hx)
  rw [hd]
  simp [bulk, Rows.uptoBulk]
 ·have hv : v = .slice (some ad) l c := by simpa using hcs
  subst hv
  have hT : DataW.Trod enc Tryz.prog W base spare held 22 (.slice (some ad) l c) d ps := ⟨fuel, by simpa [Value.cells] using hf⟩
  obtain ⟨xs, hxl, hle, hC, hd⟩ := strs_arg Tryz.underlying22 Tryz.underlying9 (by kernel_rfl) hT; subst hxl; refine ⟨some ad, c, xs, rfl, hle, hC, ?_⟩
  rcases hd with ⟨hd, rfl⟩ | ⟨rest, rfl⟩
  ·rw [hd]; simp [bulk, Rows.uptoBulk]
  ·simp only [Rows.uptoBulk]; rw [bulk_of]
   omega
theorem val_up : ∀ (fuel : Nat) (cs : List Value) (d : DataW H) (ps : List MemPlace), DataW.trod enc Tryz.prog W base spare held fuel 25 cs = some (d, ps) →
  ∃ x : VS, kS.K W x cs ∧ vol x ≤ Rows.uptoBulk d := by
 intro fuel
 induction fuel using Nat.strongRecOn with
 | _ fuel ih =>
  intro cs d ps h; obtain ⟨xs, n, hfu, hx, hl, hxl, hf⟩ := DataW.trod_struct Tryz.underlying25 h
  have hc5 : Tryz.prog.cellsOf 25 = 5 := by kernel_rfl
  rw [hc5] at hl; obtain ⟨v0, v1, v2, v3, v4, rfl⟩ := list5 hl; simp only [Prod.mk.injEq] at hx; obtain ⟨rfl, _⟩ := hx; have hxl5 : xs.length = 5 := hxl; obtain ⟨y0, y1, y2, y3, y4, rfl⟩ := list5 hxl5
  have c1 : Tryz.prog.cellsOf 3 = 1 := by kernel_rfl
  have c2 : Tryz.prog.cellsOf 9 = 1 := by kernel_rfl
  have c3 : Tryz.prog.cellsOf 22 = 1 := by kernel_rfl
  have c4 : Tryz.prog.cellsOf 23 = 1 := by kernel_rfl
  have f0 : DataW.trod enc Tryz.prog W base spare held n 3 [v0] = some y0 := by
   have h_ : DataW.trod enc Tryz.prog W base spare held n 3 (([v0, v1, v2, v3, v4].drop 0).take (Tryz.prog.cellsOf 3)) = some y0 := hf 0 _ rfl; rw [c1] at h_; exact h_
  have f1 : DataW.trod enc Tryz.prog W base spare held n 3 [v1] = some y1 := by
   have h_ : DataW.trod enc Tryz.prog W base spare held n 3 (([v0, v1, v2, v3, v4].drop 1).take (Tryz.prog.cellsOf 3)) = some y1 := hf 1 _ rfl; rw [c1] at h_; exact h_
  have f2 : DataW.trod enc Tryz.prog W base spare held n 9 [v2] = some y2 := by
   have h_ : DataW.trod enc Tryz.prog W base spare held n 9 (([v0, v1, v2, v3, v4].drop 2).take (Tryz.prog.cellsOf 9)) = some y2 := hf 2 _ rfl; rw [c2] at h_; exact h_
  have f3 : DataW.trod enc Tryz.prog W base spare held n 22 [v3] = some y3 := by
   have h_ : DataW.trod enc Tryz.prog W base spare held n 22 (([v0, v1, v2, v3, v4].drop 3).take (Tryz.prog.cellsOf 22)) = some y3 := hf 3 _ rfl; rw [c3] at h_; exact h_
  have f4 : DataW.trod enc Tryz.prog W base spare held n 23 [v4] = some y4 := by
   have h_ : DataW.trod enc Tryz.prog W base spare held n 23 (([v0, v1, v2, v3, v4].drop 4).take (Tryz.prog.cellsOf 23)) = some y4 := hf 4 _ rfl; rw [c4] at h_; exact h_
  obtain ⟨i0, e0, _, _⟩ := DataW.trod_int Tryz.underlying3 f0; obtain ⟨i1, e1, _, _⟩ := DataW.trod_int Tryz.underlying3 f1; obtain ⟨s2, e2, hx2, hs2⟩ := DataW.trod_string Tryz.underlying9 f2
  have e0' : v0 = .int .i64 i0 := by simpa using e0
  have e1' : v1 = .int .i64 i1 := by simpa using e1
  have e2' : v2 = .string s2 := by simpa using e2
  subst e0' e1' e2'
  have hsz2 : s2.size + 1 ≤ Rows.uptoBulk y2.1 := by
   rw [hx2]
   show s2.size + 1 ≤ (lb s2).length + 1
   rw [yd]; exact Nat.le_refl _
  obtain ⟨A3, cc3, ks, rfl, hk3, hC3, hks⟩ := strs_up (d := y3.1) (ps := y3.2) f3
  have h4 : ∃ A4 cc4, ∃ vs : List VS, v4 = .slice A4 vs.length cc4 ∧ vs.length ≤ cc4 ∧ kS.C W A4 vs.length vs ∧ volL vs + 1 ≤ Rows.uptoBulk y4.1 := by
   rcases DataW.trod_slice Tryz.underlying23 f4 with ⟨hcs, hx⟩ | ⟨ad, l, c, elems, rest, m, hfm, hcs, hx, _, hl4, hm4, hlen, hel, _, _⟩
   ·have hv : v4 = .slice none 0 0 := by simpa using hcs
    subst hv; refine ⟨none, 0, [], rfl, Nat.le_refl _, ⟨rfl, by simp, fun h => absurd h (by simp)⟩, ?_⟩
    have hd : y4.1 = .nil := by simpa using (congrArg Prod.fst hx)
    rw [hd]
    simp [volL, Rows.uptoBulk]
   ·have hv : v4 = .slice (some ad) l c := by simpa using hcs
    subst hv
    have each : ∀ i, i < l → ∃ p : VS, (∃ c, c.length = 5 ∧ kS.K W p c ∧ ∀ j u, c[j]? = some u → W.cell? (ad.add (i * 5 + j)) = some u) ∧ vol p ≤ Rows.uptoBulk ((elems.map (fun q => q.1)).getD i .nil) := by
     intro i hi; have h2 := hel i hi; rw [List.getElem?_eq_getElem (by omega), hc5, Option.bind_eq_some_iff] at h2; obtain ⟨cs, h3, h4⟩ := h2; obtain ⟨_, hcl, hcell⟩ := World.cells?_some h3; obtain ⟨p, hp, hps⟩ := ih m (by omega) cs (elems[i]'(by omega)).1 (elems[i]'(by omega)).2 h4
     have hgd : (elems.map (fun q => q.1)).getD i .nil = (elems[i]'(by omega)).1 := by
      rw [List.getD_eq_getElem?_getD, List.getElem?_map, List.getElem?_eq_getElem (by omega)]; rfl
     rw [← hgd] at hps; refine ⟨p, ⟨cs, hcl, hp, fun j u hu => ?_⟩, hps⟩
     have hj : j < 5 := by rw [← hcl]; exact (List.getElem?_eq_some_iff.1 hu).1
     rw [← addr_add, hcell j hj]; exact hu
    obtain ⟨vs, hvl, hvs, hsum⟩ := row_ofM vol (fun i => Rows.uptoBulk ((elems.map (fun q => q.1)).getD i .nil)) l each; subst hvl; refine ⟨some ad, c, vs, rfl, hl4, ⟨rfl, by unfold maxLen at hm4; omega, fun _ => ⟨ad, rfl, fun j p hp => ?_⟩⟩, ?_⟩
    ·obtain ⟨hj, rfl⟩ := List.getElem?_eq_some_iff.1 hp; exact hvs j hj
    ·rw [volL_sum]; have hd := congrArg Prod.fst hx; simp only at hd; rw [hd]; simp only [Rows.uptoBulk]; rw [bulkAll_sum, List.length_map, hlen]
     omega
  obtain ⟨A4, cc4, vs, rfl, hv4, hC4, hvs⟩ := h4; refine ⟨⟨i0, i1, s2, ks, vs⟩, k25_mk W ⟨i0, i1, s2, ks, vs⟩ hk3 hC3 hv4 hC4, ?_⟩; simp only [vol, Rows.uptoBulk, Rows.uptoBulkAll, List.map_cons, List.map_nil]
  omega
theorem val_argU {v : Value} {d : DataW H} {ps : List MemPlace} (h : DataW.Trod enc Tryz.prog W base spare held 25 v d ps) :
  ∃ (x : VS) (A3 A4 : Option Addr) (c3 c4 : Nat), v.cells.toList = [.int .i64 x.f0, .int .i64 x.f1, .string x.f2, .slice A3 x.f3.length c3, .slice A4 x.f4.length c4] ∧ x.f3.length ≤ c3 ∧ Kd.string.C W A3 x.f3.length x.f3 ∧ x.f4.length ≤ c4 ∧ kS.C W A4 x.f4.length x.f4 ∧ vol x ≤ Rows.uptoBulk d := by
 obtain ⟨fuel, hf⟩ := h; obtain ⟨x, hx, hs⟩ := val_up fuel _ d ps hf; obtain ⟨A3, c3, A4, c4, e, l3, g3, l4, g4⟩ := k25_open hx; exact ⟨x, A3, A4, c3, c4, e, l3, g3, l4, g4, hs⟩
end
end Go.Proofs.YtjcffojiacgocaaGreatDoor.RowKit
namespace Go.Proofs.YtjcffojiacgocaaGreatDoor.Tr
open Go.RowKit Go.Proofs.YtjcffojiacgocaaGreatDoorW.PrintWords Go.Proofs.YtjcffojiacgocaaGreatDoorW.PrintLast Go.Proofs.YtjcffojiacgocaaGreatDoor.Str Go.Proofs.YtjcffojiacgocaaGreatDoor.Kit Go.Proofs.YtjcffojiacgocaaGreatDoor.MapV Go.Proofs.YtjcffojiacgocaaGreatDoor.Frame Go.Proofs.YtjcffojiacgocaaGreatDoor.PS
open Go.Proofs.YtjcffojiacgocaaGreatDoor.RowKit (vol volL)
def anyV (v : VS) : Y := anyOf (toI v)
theorem volW_fit : ∀ (ks : List BA) (vs : List VS) (K : List BA) (V : List VS), RiseK K → K.length = V.length →
  volYm (((fitW ks vs K V).1.map lb).zip ((fitW ks vs K V).2.map anyV)) ≤ volYm ((K.map lb).zip (V.map anyV)) + bulk ks + volYl (vs.map anyV)
 | [], vs, K, V, _, _ => by simp only [fitW]; omega
 | k :: ks, [], K, V, _, _ => by simp only [fitW]; omega
 | k :: ks, v :: vs, K, V, hr, hl => by
  have ih := volW_fit ks vs (withK K k) (withV K V k v) (withK_rises hr) (withV_length (x := v) hl).symm; rw [with_mput anyV K V k v hr hl] at ih; have h1 := volYm_ins (lb k, anyV v) (mdel ((K.map lb).zip (V.map anyV)) (lb k)); have h2 := volYm_del (lb k) ((K.map lb).zip (V.map anyV)); have h3 : volYm (mput ((K.map lb).zip (V.map anyV)) (lb k) (anyV v)) = volYp (lb k, anyV v) + volYm (mdel ((K.map lb).zip (V.map anyV)) (lb k)) := h1
  have h4 : volYp (lb k, anyV v) = k.size + volY (anyV v) := by simp [volYp, yd]
  have e : bulk (k :: ks) = k.size + 1 + bulk ks := by simp [bulk]
  rw [fitW, e, List.map_cons]; simp only [volYl]
  omega
mutual
theorem vol_fit : ∀ x : VS, volY (anyV (fitV x)) ≤ vol x
 | ⟨k, n, t, ks, vs⟩ => by
  have hL := vol_fitL vs
  by_cases h1 : k = 1
  ·subst h1
   by_cases hn : n = 0
   ·have e : anyV (fitV ⟨1, n, t, ks, vs⟩) = .bool false := by simp [anyV, fitV, hn, leaf, toI, toL, anyOf]
    rw [e]; simp only [volY, vol]; omega
   ·have e : anyV (fitV ⟨1, n, t, ks, vs⟩) = .bool true := by simp [anyV, fitV, hn, leaf, toI, toL, anyOf]
    rw [e]; simp only [volY, vol]; omega
  by_cases h2 : k = 2
  ·subst h2
   have e : anyV (fitV ⟨2, n, t, ks, vs⟩) = .int n := by simp [anyV, fitV, leaf, toI, toL, anyOf]
   rw [e]; simp only [volY, vol]; omega
  by_cases h3 : k = 3
  ·subst h3
   have e : anyV (fitV ⟨3, n, t, ks, vs⟩) = .text t := by simp [anyV, fitV, leaf, toI, toL, anyOf]
   rw [e]; simp only [volY, vol]; omega
  by_cases h4 : k = 4
  ·subst h4
   have e : anyV (fitV ⟨4, n, t, ks, vs⟩) = .list ((fitL vs).map anyV) := by
    have e2 : fitV ⟨4, n, t, ks, vs⟩ = ⟨4, 0, ⟨#[]⟩, [], fitL vs⟩ := by simp [fitV]
    rw [e2]; exact any_list 0 _ [] _
   rw [e]; simp only [volY, vol]
   omega
  by_cases h5 : k = 5
  ·subst h5
   have e2 : fitV ⟨5, n, t, ks, vs⟩ = ⟨5, 0, ⟨#[]⟩, (fitW ks (fitL vs) [] []).1, (fitW ks (fitL vs) [] []).2⟩ := by simp [fitV]
   obtain ⟨a, b, _⟩ := fitW_facts ks (fitL vs) [] [] rfl List.Pairwise.nil
   have e : anyV (fitV ⟨5, n, t, ks, vs⟩) = .map (((fitW ks (fitL vs) [] []).1.map lb).zip ((fitW ks (fitL vs) [] []).2.map anyV)) := by
    rw [e2]; exact any_map b 0 _
   have h := volW_fit ks (fitL vs) [] [] List.Pairwise.nil rfl; rw [e]; simp only [volY, vol]; simp only [List.map_nil, List.zip_nil_left, volYm] at h
   omega
  ·have e : anyV (fitV ⟨k, n, t, ks, vs⟩) = .null := by simp [anyV, fitV, h1, h2, h3, h4, h5, leaf, toI, toL, anyOf]
   rw [e]; simp only [volY, vol]; omega
theorem vol_fitL : ∀ l : List VS, volYl ((fitL l).map anyV) ≤ volL l
 | [] => by simp [fitL, volYl]
 | v :: r => by
  have h1 := vol_fit v; have h2 := vol_fitL r; simp only [fitL, List.map_cons, volYl, volL]
  omega
end
end Go.Proofs.YtjcffojiacgocaaGreatDoor.Tr
