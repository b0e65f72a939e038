/- types.Labels' AsList. -/
import Derived.Test.YtididniafloogaaGreatDoorListed
import Derived.Test.YtididniafloogaaGreatDoorLabels
namespace Go.Proofs.YtididniafloogaaGreatDoor.Maps
open Go.RowKit Go.Proofs.YtididniafloogaaGreatDoorW.PrintWords Go.Proofs.YtididniafloogaaGreatDoorW.PrintLast Go.Proofs.YtididniafloogaaGreatDoor.Str Go.Proofs.YtididniafloogaaGreatDoor.Kit Go.Proofs.YtididniafloogaaGreatDoor.Index Go.Proofs.YtididniafloogaaGreatDoor.Flat Go.Proofs.YtididniafloogaaGreatDoor.MapV Go.Proofs.YtididniafloogaaGreatDoor.Frame
set_option linter.unusedVariables false
set_option linter.unusedSimpArgs false
def eqS : BA := ⟨#[61]⟩
theorem own_block {e : Nat} {w : World} {base N n : Nat} {ok : Nat → Prop} {v : Value} {xs : List BA} (h : Kd.string.R e w base ok v xs) (hat : ∃ b, v.ownBlock = some b ∧ N ≤ b) (hn : xs.length = n) : ∃ g c, v = .slice (some ⟨g, 0, none⟩) n c ∧ base ≤ g ∧ N ≤ g := by
  obtain ⟨b, e, hb⟩ := hat
  rcases strs_block h with ⟨rfl, _⟩ | ⟨g, c, rfl, hg, _⟩
  · simp [Value.ownBlock] at e
  · have : g = b := by simpa [Value.ownBlock] using e
    subst this
    exact ⟨g, c, by rw [hn], hg, hb⟩
theorem set_next (A : List BA) (m : Nat) (t z : BA) : (A ++ List.replicate (m + 1) z).set A.length t = (A ++ [t]) ++ List.replicate m z := by
  simp [List.replicate_succ]
theorem str_cell {e : Nat} {w : World} {base : Nat} {ok : Nat → Prop} {g n c : Nat} {xs : List BA} (h : Kd.string.R e w base ok (.slice (some ⟨g, 0, none⟩) n c) xs) (j : Nat) (hj : j < xs.length) : w.cell? ⟨g, j, none⟩ = some (.string xs[j]) := by
  have hC := (Kd.R_reads' h).2.2
  have hl := (Kd.R_reads' h).1
  subst hl
  obtain ⟨b, o, hA, _, hc⟩ := strs_open hC (by omega)
  injection hA with hA
  injection hA with e1 e2
  subst e1 e2
  have := hc j hj
  rw [Nat.zero_add] at this
  exact this
theorem flat_set_s (xs : List BA) (k : Nat) (q : BA) (h : k < xs.length) : (xs.flatMap fun x : BA => [Value.string x]).set k (.string q) = (xs.set k q).flatMap fun x : BA => [Value.string x] := by
  induction xs generalizing k with
  | nil => simp at h
  | cons x r ih =>
    cases k with
    | zero => rfl
    | succ k =>
      have := ih k (by simpa using h)
      rw [List.flatMap_cons, List.set_cons_succ, List.flatMap_cons, ← this]
      rfl
theorem str_blk {e : Nat} {w : World} {base : Nat} {ok : Nat → Prop} {g n c : Nat} {xs : List BA} (h : Kd.string.R e w base ok (.slice (some ⟨g, 0, none⟩) n c) xs) : ∃ cur, w.heap[g]? = some (.cells cur e (0, 0)) := by
  have h' : (flat (fun x : BA => [Value.string x]) 1 (fun _ => rfl) (fun x u hu => by rw [List.mem_singleton.1 hu]; rfl)).R e w base ok (.slice (some ⟨g, 0, none⟩) n c) xs := h
  rcases (R_flat.1 h').2.2 with ⟨hv, _⟩ | ⟨g', c3, cur, hv, hgb, hblk, _⟩
  · cases hv
  · injection hv with e1 e2 e3
    injection e1 with e1
    injection e1 with e1
    subst e1
    exact ⟨cur, hblk⟩
theorem R_set_str {e : Nat} {w : World} {base : Nat} {ok : Nat → Prop} {g n c : Nat} {xs : List BA} (h : Kd.string.R e w base ok (.slice (some ⟨g, 0, none⟩) n c) xs) (k : Nat) (hk : k < xs.length) (q : BA) :
    Kd.string.R e (w.setCell ⟨g, k, none⟩ (.string q)) base ok (.slice (some ⟨g, 0, none⟩) n c) (xs.set k q) := by
  have h' : (flat (fun x : BA => [Value.string x]) 1 (fun _ => rfl) (fun x u hu => by rw [List.mem_singleton.1 hu]; rfl)).R e w base ok (.slice (some ⟨g, 0, none⟩) n c) xs := h
  obtain ⟨h0, h1⟩ := R_flat.1 h'
  refine (show (flat (fun x : BA => [Value.string x]) 1 (fun _ => rfl) (fun x u hu => by rw [List.mem_singleton.1 hu]; rfl)).R e (w.setCell ⟨g, k, none⟩ (.string q)) base ok (.slice (some ⟨g, 0, none⟩) n c) (xs.set k q) from R_flat.2 ⟨h0, ?_⟩)
  rcases h1.2 with ⟨e0, _⟩ | ⟨g', cap, cur, hv, hg, hb, hle, hcap, hsz, htk⟩
  · cases e0
  injection hv with e1 e2 e3
  injection e1 with e1
  injection e1 with e1
  subst e1 e3
  have hl : (xs.set k q).length = xs.length := by simp
  rw [hl]
  refine ⟨(flat_length (enc := fun x : BA => [Value.string x]) (k := 1) (fun _ => rfl) _).trans (by rw [hl]), .inr ⟨g, c, _, by rw [e2], hg, cb_set hb _, hle, hcap, by simpa using hsz, ?_⟩⟩
  rw [Array.toList_setIfInBounds, List.take_set, htk, flat_set_s xs k q hk]
set_option maxHeartbeats 3200000 in
set_option maxRecDepth 100000 in
theorem asList (b : Nat) (f : List (Bs × BA)) (w : World) (h : MapS w b f) (hn : f.length ≤ 17179869184) (hs : Small f) (hv : ∀ p ∈ f, p.2.size ≤ 2147483647) :
    Calls Tryz.prog 75 #[.map (some b)] w fun e w' => ∃ g c ys, e = .returned (.slice (some ⟨g, 0, none⟩) f.length c) ∧ Kd.string.R 9 w' w.heap.size (fun _ => True) (.slice (some ⟨g, 0, none⟩) f.length c) ys ∧ ys.Perm ((toP f).map (eqText eqS)) ∧ Below w.heap.size w w' := by
  have HM := Aside0.mk h
  have HS := Aside0.mk (And.intro hs hv)
  have HRS := Aside0.mk (MapE.rises (Go.Maps.string_keyed key_u) h)
  have hbl := h.lt
  have hmk : (f.length : Int).toNat * 16 ≤ 281474976710656 := by rw [Int.toNat_natCast]; omega
  clear h hs hv
  go_enter Tryz.func75, Tryz.ntmps75
  go_wp2_with (first | (at_len; refine len_mapE Tryz.underlying110 rfl _ rfl rfl HM.out ?_) | (at_range; refine range_mapE key_u Tryz.underlying110 rfl _ rfl rfl HM1.out ?_; intro w0 hrg0 hg0 hs0; have HR0 := Aside0.mk hrg0; have HG0 := Aside0.mk hg0; have HS0 := Aside0.mk hs0; clear hrg0 hg0 hs0) | (refine Kd.R_make Kd.string (w0 := w) w.heap.size 9 rfl rfl 22 (.tmp 8) (.tmp 8) rfl (f.length : Int) rfl rfl Tryz.underlying22 (.string ⟨#[]⟩) 16 info_str9 rfl (show 0 < 1 by decide) (by decide) (⟨#[]⟩ : BA) (ok := fun _ => True) (okp := fun _ => False) rfl (fun _ h => h.elim) trivial (by omega) hmk (Below.refl _ _) (Nat.le_refl _) ?_; intro v1 w1 ho hb hg hat; obtain ⟨g, c3, rfl, hgb, _⟩ := own_block (n := f.length) ho hat (by simp); have HO1 := Aside0.mk ho; have HB1 := Aside0.mk hb; have HM1 := Aside0.mk (HM.out.grown hg (by simp)); clear ho hb hg hat))
  go_frame
  have ho0 := Kd.R_grown (Kd.R_mono (ok' := fun j => j < w1.heap.size) (Kd.R_bound HO1.out) (fun j hj => hj.2.2.1)) HG0.out (fun k hk e => by cases e)
  rw [Int.toNat_natCast] at ho0
  have HO0 := Aside0.mk ho0
  have HB0 := Aside0.mk (pw_below_grown HB1.out none HB1.out.size HG0.out (fun k hk => by cases hk))
  have hw1 := HB1.out.size
  have hgl : g < w1.heap.size := ho0.1 g rfl
  clear ho0 HO1 HB1 HM1 HG0 HS0 hmk HM
  go_loopw [4] (fun v4 wr => ∃ (dn lf : List (Bs × BA)), v4 = .int .i64 dn.length ∧ Aside0 (Ranges Tryz.prog 9 Value.string wr b w1.heap.size f lf) ∧ Aside0 (Kd.string.R 9 wr w.heap.size (fun j => j < w1.heap.size) (.slice (some ⟨g, 0, none⟩) f.length c3) ((toP dn).map (eqText eqS) ++ List.replicate lf.length ⟨#[]⟩)) ∧ Aside0 ((dn ++ lf).Perm f) ∧ Aside0 (Below w.heap.size w wr)) (fun _ wr => wr.rangeLeft b w1.heap.size)
  case atStart => exact ⟨[], f, rfl, HR0, HO0, ⟨List.Perm.refl _⟩, HB0⟩
  case round =>
    clear HR0 HO0 HB0
    obtain ⟨dn, lf, rfl, HR, HV, HP, HB⟩ := hrel
    have hlen : dn.length + lf.length = f.length := by rw [← HP.out.length_eq, List.length_append]
    have hrl := HR.out.lt
    have hbr := HR.out.ne
    have HSUB := Aside0.mk (fun (p : Bs × BA) (hp : p ∈ lf) => HS.out.2 p (HR.out.sub.subset hp))
    have HNM := Aside0.mk (show ∀ (x c : BA), (lb x, c) ∈ lf → x.size ≤ 2147483647 from fun x c hp => by have := HS.out.1 _ (HR.out.sub.subset hp); rw [← lb_length]; exact this)
    go_wp2_with (first | (at_next; go_loud (refine next_mapA key_u rfl _ rfl rfl HR.out (fun hd => ?_) (fun x c w2 hx hen => ?_); rotate_left; (have hxs := HNM.out x c hx.out.1); (have hcs : c.size ≤ 2147483647 := HSUB.out _ hx.out.1); (have hpos := List.length_pos_of_mem hx.out.1); (have q0 : (0 : Int) ≤ (dn.length : Int) := by omega); (have q1 : (dn.length : Int) < (f.length : Int) := by omega); (have z4 : ¬ 9223372036854775807 < x.size + 1 := by omega); (have z5 : ¬ 9223372036854775807 < x.size + 1 + c.size := by omega); (have hz : (x ++ (⟨#[61]⟩ : BA)).size = x.size + 1 := ByteArray.size_append); (have z6 : ¬ 9223372036854775807 < (x ++ (⟨#[61]⟩ : BA)).size + c.size := by omega); (have HV2 := Aside0.mk (Kd.R_grown HV.out hx.out.2.2.2.2.1 (fun k hk e => by injection e with e; have hk' : k < w1.heap.size := hk; omega))); (have HB2 := Aside0.mk (pw_below_grown HB.out (some w1.heap.size) HB.out.size hx.out.2.2.2.2.1 (fun k hk => by injection hk with hk; omega))); (have hcell := str_cell HV2.out dn.length (by rw [List.length_append, List.length_map, toP_length, List.length_replicate]; omega)); (obtain ⟨cur, hcur⟩ := str_blk HV2.out); (have hfz := cb_frozen (i := dn.length) hcur); (have HCUR := Aside0.mk hcur); (clear hcur); rotate_right)))
    · have HPF := Aside0.mk (show dn.Perm f by have := HP.out; rw [hd.out, List.append_nil] at this; exact this)
      have hv := HV.out
      rw [hd.out] at hv
      have HV4 := Aside0.mk (Kd.R_mono hv (fun _ _ => trivial))
      clear hv
      go_ret
      exact ⟨g, c3, _, rfl, HV4.out, by
        simp only [List.length_nil, List.replicate_zero, List.append_nil]
        exact (HPF.out.map _).map _, HB.out⟩
    · have hpm : lf.Perm ((lb x, c) :: mdel lf (lb x)) := rises_take ((HRS.out.sublist HR.out.sub).imp (fun {p q} h => lt_ne h)) hx.out.1
      have hm : lf.length = (mdel lf (lb x)).length + 1 := by rw [hpm.length_eq]; rfl
      have hsz2 := hx.out.2.2.2.2.2
      have HG4 := grown_of_turns' (Turns.setCell w2 g dn.length (.string (x ++ (⟨#[61]⟩ : BA) ++ c)))
      refine ⟨⟨dn ++ [(lb x, c)], mdel lf (lb x), by rw [List.length_append]; rfl, ⟨?_⟩, ⟨?_⟩, ⟨?_⟩, ⟨HB2.out.setCell hgb _⟩⟩, ?_⟩
      · exact hx.out.2.2.1.kept HG4 (fun e => by injection e with e; omega) (fun e => by injection e with e; omega)
      · have h1 := R_set_str HV2.out dn.length (by rw [List.length_append, List.length_map, toP_length, List.length_replicate]; omega) (x ++ eqS ++ c)
        have e1 := set_next ((toP dn).map (eqText eqS)) (mdel lf (lb x)).length (x ++ eqS ++ c) ⟨#[]⟩
        rw [List.length_map, toP_length] at e1
        rw [hm, e1] at h1
        have e2 : (toP (dn ++ [(lb x, c)])).map (eqText eqS) = (toP dn).map (eqText eqS) ++ [x ++ eqS ++ c] := by
          rw [toP_append, List.map_append]
          have e3 : (toP [(lb x, c)]).map (eqText eqS) = [x ++ eqS ++ c] := by
            show [eqText eqS (⟨(lb x).toArray⟩, c)] = _
            rw [mk_lb]
            first | done | rfl
          rw [e3]
        rw [e2]
        exact h1
      · rw [List.append_assoc]
        exact List.Perm.trans ((hpm.symm).append_left dn) HP.out
      · have e1 := left_same (b := b) (r := w1.heap.size) (w := w2) (w' := w2.setCell ⟨g, dn.length, none⟩ (.string (x ++ (⟨#[61]⟩ : BA) ++ c))) ?_ ?_
        · rw [e1]; exact hx.out.2.2.2.1
        · exact HG4.block b (by omega) (fun e => by injection e with e; omega)
        · exact HG4.block _ (by omega) (fun e => by injection e with e; omega)
end Go.Proofs.YtididniafloogaaGreatDoor.Maps
