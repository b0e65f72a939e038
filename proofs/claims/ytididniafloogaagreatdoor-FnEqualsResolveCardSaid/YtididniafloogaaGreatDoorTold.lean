/- impl.told: the pairs of a map, rising: the walk. -/
import Derived.Test.YtididniafloogaaGreatDoorSortPairs
import Derived.Test.YtididniafloogaaGreatDoorFrame
namespace Go.Proofs.YtididniafloogaaGreatDoor.Maps
open Go.RowKit Go.Proofs.YtididniafloogaaGreatDoorW.PrintWords Go.Proofs.YtididniafloogaaGreatDoor.Str Go.Proofs.YtididniafloogaaGreatDoor.Kit Go.Proofs.YtididniafloogaaGreatDoor.Flat Go.Proofs.YtididniafloogaaGreatDoor.MapV Go.Proofs.YtididniafloogaaGreatDoor.Frame Go.Sort Go.Lib
set_option linter.unusedVariables false
set_option linter.unusedSimpArgs false

theorem key_u : Tryz.prog.underlying 9 = some .string := Tryz.underlying9
theorem map_u : Tryz.prog.underlying 76 = some (.map 9 9) := Tryz.underlying76
theorem info_pair : (Tryz.prog.info? 74).map (fun i => (i.zero, i.size, i.bytes)) = some (some (.agg #[.string ⟨#[]⟩, .string ⟨#[]⟩]), 2, 32) := by kernel_rfl
/-- a map of strings -/
abbrev MapS (w : World) (b : Nat) (f : List (Bs × BA)) : Prop := MapE Tryz.prog 9 Value.string w b f
theorem toP_append (f g : List (Bs × BA)) : toP (f ++ g) = toP f ++ toP g := List.map_append
section
variable {ops : Array Oper} {rest : List Oper} {o : Oper} {a : Act} {Q : Exit → Act → World → Prop}
/-- append of one pair -/
theorem append_pair {w0 W : World} {ok : Nat → Prop} (hfresh : ∀ k, W.heap.size ≤ k → ok k) (t e : TypeId) (ht : Tryz.prog.underlying t = some (.slice e)) (hinfo : (Tryz.prog.info? e).map (fun i => (i.zero, i.size, i.bytes)) = some (some (.agg #[.string ⟨#[]⟩, .string ⟨#[]⟩]), 2, 32)) (s x : Operand) (hgd : o.guard = none) (ho : o.op = .call { callee := .builtin .append, args := #[s, x], argTypes := #[t, t] })
    {v : Value} {xs : List (BA × BA)} {p q : BA} (hs : a.eval s = v) (hx : a.eval x = .slice (some ⟨W.heap.size, 0, none⟩) 1 1)
    (HO : kp.R e W w0.heap.size ok v xs) (HB : Below w0.heap.size w0 W) (hl : xs.length < 4398046511103)
    (h : ∀ v1 w1, kp.R e w1 w0.heap.size ok v1 (xs ++ [(p, q)]) → Below w0.heap.size w0 w1 → W.grownBy w1 v.ownBlock → wpList Tryz.prog ops Q rest (a.put o.dst v1) w1) :
    wpList Tryz.prog ops Q (o :: rest) a (W.alloc (.cells #[.string p, .string q] e)) :=
  Kd.R_append kp w0.heap.size hgd s x t e (.agg #[.string ⟨#[]⟩, .string ⟨#[]⟩]) 32 ho ht hinfo rfl (show 0 < 2 by decide) (by decide) v xs (p, q) (encP (p, q)) ok (fun _ => False) hs hx rfl (fun _ hk => hk.elim) hfresh HO HB HB.size (by omega)
    (fun v1 w1 h2 h3 h4 _ => h v1 w1 h2 h3 h4)
end
theorem grown_of_turns' {w w' : World} {k : Nat} (h : Turns (fun j => j = k) w w') : w.grownBy w' (some k) :=
  ⟨h.os, h.tape, h.output, h.size, fun j hj hn => h.block j hj (fun e => hn (by rw [e]))⟩
theorem left_same {w w' : World} {b r : Nat} (hb : w'.heap[b]? = w.heap[b]?) (hr : w'.heap[r]? = w.heap[r]?) : w'.rangeLeft b r = w.rangeLeft b r := by
  unfold World.rangeLeft
  rw [hb, hr]
/-- what is sorted of the pairs of a map is those pairs -/
theorem sorted_is {f : List (Bs × BA)} {ys : List (BA × BA)} (hf : Rises f) (hp : (ofP ys).Perm f) (hs : ys.Pairwise fun x y => ltP y x = false) : ys = toP f := by
  have : ofP ys = f := rises_perm hf hp (by
    unfold ofP
    rw [List.pairwise_map]
    refine hs.imp (fun {x y} h k => ?_)
    rw [ltP_eq] at h
    exact of_decide_eq_false h k)
  rw [← this, toP_ofP]
theorem sorted_pairs {d : Array (BA × BA)} (h : SortedIn ltP 0 d.size d) : d.toList.Pairwise fun x y => ltP y x = false := by
  rw [List.pairwise_iff_getElem]
  intro i j hi hj hij
  have hi' : i < d.size := by simpa using hi
  have hj' : j < d.size := by simpa using hj
  have := h i j (by omega) (by omega) (by omega)
  rw [getElem!_pos d i hi', getElem!_pos d j hj'] at this
  simpa using this
set_option maxHeartbeats 3200000 in
set_option maxRecDepth 100000 in
theorem told (b : Nat) (f : List (Bs × BA)) (w : World) (h : MapS w b f) (hn : f.length ≤ 17179869184) :
    Calls Tryz.prog 50 #[.map (some b)] w fun e w' => ∃ v, e = .returned v ∧ kp.R 74 w' w.heap.size (fun _ => True) v (toP f) ∧ Below w.heap.size w w' := by
  have HM := Aside0.mk (h.below ((Below.refl _ w).alloc (Nat.le_refl _) (.cells #[.slice none 0 0] 27)))
  have HK := Aside0.mk (MapE.key_le key_u h)
  have HRS := Aside0.mk (MapE.rises (Go.Maps.string_keyed key_u) h)
  have HC := Aside0.mk (cb_new w (.cells #[.slice none 0 0] 27))
  have HB := Aside0.mk ((Below.refl _ w).alloc (Nat.le_refl _) (.cells #[.slice none 0 0] 27))
  have hbl := h.lt
  clear h
  go_enter Tryz.func50, Tryz.ntmps50
  go_wp2_with (at_range; refine range_mapE key_u map_u rfl _ rfl rfl HM.out ?_; intro w0 hrg0 hg0 hs0; have HR0 := Aside0.mk hrg0; have HG0 := Aside0.mk hg0; have HS0 := Aside0.mk hs0; clear hrg0 hg0 hs0)
  go_frame
  rw [World.size_alloc] at HR0 HS0
  rw [World.size_alloc]
  have HC0 := Aside0.mk ((HG0.out.block w.heap.size (by rw [World.size_alloc]; omega) (by simp)).trans HC.out)
  have HB0 := Aside0.mk (pw_below_grown HB.out none (by rw [World.size_alloc]; omega) HG0.out (fun k hk => by cases hk))
  clear HG0 HB HC HM
  go_loopw [] (fun wr => ∃ (dn lf : List (Bs × BA)) (v : Value), Aside0 (Ranges Tryz.prog 9 Value.string wr b (w.heap.size + 1) f lf) ∧ Aside0 (wr.heap[w.heap.size]? = some (.cells #[v] 27 (0, 0))) ∧ Aside0 (kp.R 74 wr w.heap.size (fun k => w.heap.size + 2 ≤ k) v (toP dn)) ∧ Aside0 ((dn ++ lf).Perm f) ∧ Aside0 (Below w.heap.size w wr)) (fun wr => wr.rangeLeft b (w.heap.size + 1))
  case atStart => exact ⟨[], f, _, HR0, HC0, ⟨Kd.R_nil _ _ _ _ _⟩, ⟨List.Perm.refl _⟩, HB0⟩
  case round =>
    clear HR0 HC0 HB0
    obtain ⟨dn, lf, v, HR, HC, HV, HP, HB⟩ := hrel
    have hcell : wr.cell? ⟨w.heap.size, 0, none⟩ = some v := cb_cell (i := 0) HC.out rfl
    have hlen : dn.length + lf.length = f.length := by rw [← HP.out.length_eq, List.length_append]
    have HL := Aside0.mk hlen
    clear hlen
    obtain ⟨A0, c0, hv0⟩ := Kd.R_slice HV.out
    subst hv0
    rw [toP_length] at hcell HV HC
    have hbr := HR.out.ne
    have hrl := HR.out.lt
    go_wp2_with (first | (at_next; refine next_mapA key_u rfl _ rfl rfl HR.out (fun hd => ?_) (fun x c w2 hx hen => ?_); rotate_left; (have HC2 := Aside0.mk (show w2.heap[w.heap.size]? = some (.cells #[.slice A0 dn.length c0] 27 (0, 0)) from (hx.out.2.2.2.2.1.block _ (cb_lt HC.out) (by simp)).trans HC.out)); (have hc2 : w2.cell? ⟨w.heap.size, 0, none⟩ = some (.slice A0 dn.length c0) := cb_cell (i := 0) HC2.out rfl); (have HV2 := Aside0.mk (Kd.R_grown HV.out hx.out.2.2.2.2.1 (fun k hk e => by injection e with e; omega))); (have HB2 := Aside0.mk (pw_below_grown HB.out (some (w.heap.size + 1)) HB.out.size hx.out.2.2.2.2.1 (fun k hk => by injection hk with hk; omega))); (have hsz2 : w.heap.size + 2 ≤ w2.heap.size := by have := hx.out.2.2.2.2.2; omega); (have hfit : (toP dn).length < 4398046511103 := by rw [toP_length]; have := HL.out; omega); rotate_right) | (at_builtin; refine append_pair (w0 := w) (ok := fun k => w.heap.size + 2 ≤ k) (fun k hk => Nat.le_trans hsz2 hk) 27 74 Tryz.underlying27 info_pair (.tmp 13) (.tmp 17) rfl rfl rfl rfl (xs := toP dn) HV2.out HB2.out hfit ?_; intro v1 w3 ho hb hg; obtain ⟨A1, c1, rfl⟩ := Kd.R_slice ho; have HV3 := Aside0.mk ho; have HB3 := Aside0.mk hb; have HG3 := Aside0.mk hg; clear ho hb hg; have HC3 := Aside0.mk (blk_grown HC2.out HG3.out (fun e => by have := HV2.out.1 _ e.symm; omega)); have hc3 : w3.cell? ⟨w.heap.size, 0, none⟩ = some (.slice A0 dn.length c0) := cb_cell (i := 0) HC3.out rfl; have hf3 := cb_frozen (i := 0) HC3.out))
    · -- all have come: the sort
      have hpf : dn.Perm f := by have := HP.out; rw [hd.out, List.append_nil] at this; exact this
      have HPF := Aside0.mk hpf
      have HLF := Aside0.mk hpf.length_eq
      have HO := Aside0.mk (R_flat.1 HV.out).2
      clear hpf hd hcell HL
      by_cases h1 : dn.length ≤ 1
      · refine (told_sort1 A0 dn.length c0 h1 _ wr).mono ?_
        rintro e w5 ⟨rfl, os, rfl⟩
        have HG5 := Aside0.mk (grown_grow wr os)
        have hd1 : toP dn = toP f := sorted_is HRS.out (by rw [ofP_toP]; exact HPF.out) (by
          have : (toP dn).length ≤ 1 := by rw [toP_length]; exact h1
          rcases hdd : toP dn with _ | ⟨a, _ | ⟨b, r⟩⟩
          · exact List.Pairwise.nil
          · simp
          · rw [hdd] at this; simp at this)
        have HV5 := Aside0.mk (Kd.R_below HV.out HG5.out)
        rw [hd1] at HV5
        have hcell : (grow wr os).cell? ⟨w.heap.size, 0, none⟩ = some (.slice A0 dn.length c0) := cb_cell (i := 0) ((HG5.out.block _ (cb_lt HC.out)).trans HC.out) rfl
        clear hd1
        go_wp2
        go_ret
        exact ⟨_, rfl, Kd.R_mono HV5.out (fun _ _ => trivial), hb_then HB.out HG5.out⟩
      · rcases HO.out.2 with ⟨h0, h00⟩ | ⟨g, cap, cur, hv, hg, hbk, hle, hcap, hsz, htk⟩
        · rw [toP_length] at h00; omega
        · injection hv with e1 e2 e3
          subst e1 e3
          clear e2
          have hown := HO.out
          rw [show (Value.slice (some ⟨g, 0, none⟩) dn.length c0) = .slice (some ⟨g, 0, none⟩) (toP dn).length c0 by rw [toP_length]] at hown
          have hgl := cb_lt hbk
          have hgn : w.heap.size + 2 ≤ g := HV.out.1 g rfl
          have hcell : wr.cell? ⟨w.heap.size, 0, none⟩ = some (.slice (some ⟨g, 0, none⟩) (toP dn).toArray.size c0) := by
            rw [show (toP dn).toArray.size = dn.length by simp [toP]]
            exact cb_cell (i := 0) HC.out rfl
          have hS := told_sort g 0 c0 w.heap.size (toP dn).toArray (by simp [toP]; omega) (by have := HLF.out; simp [toP]; omega) wr (holdsK_of_own encP_len hown) hgl hcell (by omega) (by omega)
          rw [show (toP dn).toArray.size = dn.length by simp [toP]] at hS
          have HS := Aside0.mk hS
          clear hS hcell
          have HOWN := Aside0.mk hown
          clear hown hbk htk hsz hle
          refine HS.out.mono ?_
          rintro e w5 ⟨rfl, d', m, os, hp, hso, rfl⟩
          have hpp : d'.toList.Perm (toP dn) := by
            have h3 := hp.2.2
            have h2 := hp.1
            simp only [List.size_toArray] at h2
            have e1 : (d'.extract 0 dn.length) = d' := by rw [← toP_length dn, ← h2]; simp
            have e2 : ((toP dn).toArray.extract 0 dn.length) = (toP dn).toArray := by rw [← toP_length dn]; simp
            rw [e1, e2] at h3
            exact h3
          have hds : d'.size = dn.length := by have := hp.1; simp only [List.size_toArray] at this; rw [this, toP_length]
          rw [← hds] at hso
          have hys : d'.toList = toP f := sorted_is HRS.out (by
            have h4 : (ofP d'.toList).Perm (ofP (toP dn)) := hpp.map _
            rw [ofP_toP] at h4
            exact h4.trans HPF.out) (sorted_pairs hso)
          have hd' : d' = (toP f).toArray := by rw [← hys]
          subst hd'
          have HO5 := Aside0.mk (own_sortedK encP_len (m := m) (os := os) HOWN.out (ys := toP f) (by rw [toP_length, toP_length]; exact HLF.out.symm))
          have HG5 := Aside0.mk (grown_sortedK (enc := encP) (k := 2) (m := m) (ys := (toP f).toArray) (os := os) hgl)
          clear hp hso hys hpp hds HS
          generalize grow (putRowK encP 2 (Sort.ahead wr m) g 0 (toP f).toArray) os = W5 at *
          have hcell : W5.cell? ⟨w.heap.size, 0, none⟩ = some (.slice (some ⟨g, 0, none⟩) dn.length c0) := cb_cell (i := 0) (blk_grown HC.out HG5.out (fun e => by injection e with e; omega)) rfl
          have hfin : kp.R 74 W5 w.heap.size (fun _ => True) (.slice (some ⟨g, 0, none⟩) dn.length c0) (toP f) := by
            refine R_flat.2 ⟨fun _ _ => trivial, ?_⟩
            have := HO5.out
            rw [toP_length] at this
            rw [toP_length, ← HLF.out]
            exact this
          have HFIN := Aside0.mk hfin
          clear hfin HO5
          go_wp2
          go_ret
          exact ⟨_, rfl, HFIN.out, pw_below_grown HB.out (some g) (by omega) HG5.out (fun k hk => by injection hk with hk; omega)⟩
    · -- an entry more
      have HG4 := Aside0.mk (grown_of_turns' (Turns.setCell w3 w.heap.size 0 (.slice A1 ((toP dn).length + 1) c1)))
      have hown : ∀ k, (Value.slice A0 dn.length c0).ownBlock = some k → w.heap.size + 2 ≤ k := HV2.out.1
      have HG3' : Aside0 (w2.grownBy w3 (Value.slice A0 dn.length c0).ownBlock) := HG3
      clear HG3
      have nb : ∀ j, j < w.heap.size + 2 → some j ≠ (Value.slice A0 dn.length c0).ownBlock := fun j hj e => by have := hown j e.symm; omega
      go_roundw
      have hpm : lf.Perm ((lb x, c) :: mdel lf (lb x)) := rises_take ((HRS.out.sublist HR.out.sub).imp (fun {p q} h => lt_ne h)) hx.out.1
      case rel =>
        refine ⟨dn ++ [(lb x, c)], mdel lf (lb x), .slice A1 ((toP dn).length + 1) c1, ⟨?_⟩, ⟨?_⟩, ⟨?_⟩, ⟨?_⟩, ⟨?_⟩⟩
        · exact (hx.out.2.2.1.kept HG3'.out (nb _ (by omega)) (nb _ (by omega))).kept HG4.out (fun e => by injection e with e; omega) (fun e => by injection e with e; omega)
        · exact cb_set HC3.out _
        · have := Kd.R_far (p := ⟨w.heap.size, 0, none⟩) HV3.out (fun k hk => show k ≠ w.heap.size from by omega) (.slice A1 ((toP dn).length + 1) c1)
          rw [toP_append]
          simpa [toP] using this
        · rw [List.append_assoc]
          refine List.Perm.trans ?_ HP.out
          exact (hpm.symm).append_left dn
        · exact HB3.out.setCell (Nat.le_refl _) _
      case measure =>
        have e1 := left_same (b := b) (r := w.heap.size + 1) (w := w2) (w' := w3.setCell ⟨w.heap.size, 0, none⟩ (.slice A1 ((toP dn).length + 1) c1)) ?_ ?_
        · rw [e1]; exact hx.out.2.2.2.1
        · rw [HG4.out.block b (by have := HB3.out.size; omega) (fun e => by injection e with e; omega), HG3'.out.block b (by omega) (nb _ (by omega))]
        · rw [HG4.out.block _ (by have := HG3'.out.size; omega) (fun e => by injection e with e; omega), HG3'.out.block _ (by omega) (nb _ (by omega))]
end Go.Proofs.YtididniafloogaaGreatDoor.Maps
