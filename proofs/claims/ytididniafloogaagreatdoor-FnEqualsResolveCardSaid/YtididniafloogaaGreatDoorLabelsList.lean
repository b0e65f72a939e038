/- impl.LabelsList; spec.Sorted. -/
import Derived.Test.YtididniafloogaaGreatDoorRising
namespace Go.Proofs.YtididniafloogaaGreatDoor.Maps
open Go.RowKit Go.Proofs.YtididniafloogaaGreatDoorW.PrintWords Go.Proofs.YtididniafloogaaGreatDoorW.PrintLast Go.Proofs.YtididniafloogaaGreatDoor.Str Go.Proofs.YtididniafloogaaGreatDoor.Kit Go.Proofs.YtididniafloogaaGreatDoor.Index Go.Proofs.YtididniafloogaaGreatDoor.Flat Go.Proofs.YtididniafloogaaGreatDoor.MapV Go.Proofs.YtididniafloogaaGreatDoor.Frame
set_option linter.unusedVariables false
set_option linter.unusedSimpArgs false
/-- values within a bound -/
def SmallV (f : List (Bs × BA)) : Prop := ∀ p ∈ f, p.2.size ≤ 2147483647
theorem smallV_put {f : List (Bs × BA)} (h : SmallV f) {k : Bs} {v : BA} (hv : v.size ≤ 2147483647) : SmallV (mput f k v) := fun p hp => by
  unfold mput at hp
  rcases mins_mem.1 hp with rfl | hp
  · exact hv
  · exact h p (List.mem_filter.1 hp).1
theorem smallV_fold : ∀ (l f : List (Bs × BA)), SmallV l → SmallV f → SmallV (l.foldl (fun f p => mput f p.1 p.2) f)
  | [], f, _, hf => hf
  | p :: r, f, hl, hf => smallV_fold r _ (fun q hq => hl q (List.mem_cons_of_mem _ hq)) (smallV_put hf (hl p List.mem_cons_self))
theorem smallV_fit {l : List (BA × BA)} (h : fitsP l) : SmallV (fitM (ofP l)) := smallV_fold _ _ (fun p hp => by
  unfold ofP at hp
  obtain ⟨q, hq, rfl⟩ := List.mem_map.1 hp
  exact (h.2 q hq).2) (fun p hp => by simp at hp)
set_option maxHeartbeats 800000 in
theorem LabelsList {A : Option Addr} {c N : Nat} {f : List (Bs × BA)} (hf : Ok N f) (hN : N ≤ 17179869184) (hv : SmallV f) (w : World) (h : kp.C w A (toP f).length (toP f)) :
    Calls Tryz.prog 41 #[.slice A (toP f).length c] w fun e w' => ∃ u zs, e = .returned u ∧ Kd.string.R 9 w' w.heap.size (fun _ => True) u zs ∧ zs.Perm ((toP f).map (eqText eqS)) ∧ Srt zs ∧ Below w.heap.size w w' := by
  have cl := pairs (c := c) (toP f) w h (hf.len hN) (small_toP hf.s)
  rw [ofP_toP, fitM_id hf.r] at cl
  have CL := Aside0.mk cl
  have HF := Aside0.mk (And.intro hf hv)
  have hfl : f.length ≤ 17179869184 := by have := hf.l; omega
  clear cl h hf hv
  go_enter Tryz.func41, Tryz.ntmps41
  go_wp2_with fail
  refine CL.out.mono ?_
  rintro e w1 ⟨rfl, hm1, hb1⟩
  have HB1 := Aside0.mk hb1
  have CA := Aside0.mk (asList w.heap.size f w1 hm1 hfl HF.out.1.s HF.out.2)
  clear hm1 hb1 CL
  go_wp2_with fail
  refine CA.out.mono ?_
  rintro e w2 ⟨g, c2, ys, rfl, hr, hp, hb2⟩
  have hyl : ys.length = f.length := by rw [hp.length_eq, List.length_map, toP_length]
  have hgg := Kd.R_base hr g (by simp [Value.ownBlock])
  have HG := Aside0.mk (show w.heap.size ≤ g by have := HB1.out.size; omega)
  have HP := Aside0.mk hp
  have HB2 := Aside0.mk (hb_then HB1.out hb2)
  have CR := Aside0.mk (rising w2 hr (by omega))
  clear hr hp hb2 CA hyl hgg
  go_wp2_with fail
  refine CR.out.mono ?_
  rintro e w3 ⟨zs, rfl, hr, hp, hs, hg⟩
  have HR := Aside0.mk (Kd.R_lower hr HB1.out.size)
  have HZ := Aside0.mk (And.intro (hp.trans HP.out) hs)
  have HB3 := Aside0.mk (pw_below_grown HB2.out (some g) HB2.out.size hg (fun k hk => by injection hk with hk; have := HG.out; omega))
  clear hr hp hs hg CR
  go_wp2
  go_ret
  exact ⟨_, _, rfl, HR.out, HZ.out.1, HZ.out.2, HB3.out⟩
theorem specSorted {A : Option Addr} {c : Nat} (l : List BA) (w : World) (h : Kd.string.C w A l.length l) (hn : l.length ≤ 17179869184) :
    Calls Tryz.prog 40 #[.slice A l.length c] w fun e w' => ∃ v ys, e = .returned v ∧ Kd.string.R 9 w' w.heap.size (fun _ => True) v ys ∧ ys.Perm l ∧ Srt ys ∧ Below w.heap.size w w' := by
  have CM := Aside0.mk (mapsSorted (c := c) l w h hn)
  clear h
  go_enter Tryz.func40, Tryz.ntmps40
  go_wp2_with fail
  refine CM.out.mono ?_
  rintro e w1 ⟨v, ys, rfl, hr, hp, hs, hb⟩
  have HX := Aside0.mk (And.intro hr (And.intro hp (And.intro hs hb)))
  clear hr hp hs hb CM
  go_wp2
  go_ret
  exact ⟨_, _, rfl, HX.out.1, HX.out.2.1, HX.out.2.2.1, HX.out.2.2.2⟩
end Go.Proofs.YtididniafloogaaGreatDoor.Maps
