/- Parts of the proof, laid vq: ItpImpl, SubNamed, SpecMGA, M1, InterLives, LawEsc, DTabsEsc, SubArg. -/
import Derived.Test.YtjcffojiacgocaaGreatDoorI9
import Derived.Test.YtjcffojiacgocaaGreatDoorI3
import Derived.Test.YtjcffojiacgocaaGreatDoorI8
import Derived.Test.YtjcffojiacgocaaGreatDoorI4
import Derived.Test.YtjcffojiacgocaaGreatDoorI5
import Derived.Test.YtjcffojiacgocaaGreatDoorI7
import Derived.Test.YtjcffojiacgocaaGreatDoorCards
import Derived.PinnedBridge
set_option linter.unusedVariables false
set_option linter.unusedSimpArgs false
namespace Go.Proofs.YtjcffojiacgocaaGreatDoor.Tr
open Go.RowKit Go.Proofs.YtjcffojiacgocaaGreatDoorW.PrintWords Go.Proofs.YtjcffojiacgocaaGreatDoorW.PrintLast Go.Proofs.YtjcffojiacgocaaGreatDoor.Str Go.Proofs.YtjcffojiacgocaaGreatDoor.Kit Go.Proofs.YtjcffojiacgocaaGreatDoor.MapV Go.Proofs.YtjcffojiacgocaaGreatDoor.Frame Go.Proofs.YtjcffojiacgocaaGreatDoor.PS
open Go.Proofs.YtjcffojiacgocaaGreatDoor.Tr.Sb (Rw Repl EnvAt envF)
open Go.Proofs.YtjcffojiacgocaaGreatDoor.Maps (kp toP Ok)
theorem iy_map {P : BA → BA → Prop} {a b : List (Bs × Y)} (h : IY P (.map a) (.map b)) : ∃ m : List (Bs × Y × Y), a = m.map (fun p => (p.1, p.2.1)) ∧ b = m.map (fun p => (p.1, p.2.2)) ∧ ∀ p, p ∈ m → IY P p.2.1 p.2.2 := by
 generalize ha : Y.map a = u at h; generalize hb : Y.map b = v at h
 cases h with
 | map m h => injection ha with ha; injection hb with hb; exact ⟨m, ha, hb, h⟩
 | _ => cases ha
theorem ar_map {w : World} {b : Nat} {m : List (Bs × Y)} {F : Nat → Prop} (h : AR w (.iface 71 (.map (some b))) (.map m) F) : ∃ zs : List (Bs × En), m = zs.map (fun z => (z.1, z.2.2.1)) ∧ MapA w b (zs.map (fun z => (z.1, z.2.1))) ∧ ∀ z, z ∈ zs → AR w z.2.1 z.2.2.1 z.2.2.2 := by
 cases h with
 | map b zs _ _ hy hm hz hd hb hF => exact ⟨zs, hy, hm, hz⟩
theorem itp_maps {P : BA → BA → Prop} {g : List (Bs × BA)} (hP : Repl P g) {m mf : List (Bs × Y)} (h : IY P (.map m) (.map mf)) (hb : volY (.map m) ≤ 4194304) {w : World} {b : Nat} {F : Nat → Prop} (ha : AR w (.iface 71 (.map (some b))) (.map m) F) (cb mb : Nat) (hO : OptsAt g w cb mb) :
  Calls Tryz.prog 31 #[.map (some b), .agg #[envF cb, .map (some mb), .nilFunc]] w fun e w' => ∃ ob, e = .returned (.tuple #[.map (some ob), .nilIface]) ∧ AR w' (.iface 71 (.map (some ob))) (.map mf) (fun k => w.heap.size ≤ k ∧ k < w'.heap.size) ∧ Below w.heap.size w w' := by
 obtain ⟨l, rfl, rfl, hl⟩ := iy_map h; obtain ⟨zs, hy, hm, hz⟩ := ar_map ha; simp only [volY] at hb; have hvl := volYm_len (l.map (fun p => (p.1, p.2.1))); rw [List.length_map] at hvl; obtain ⟨us, e1, e2, e3⟩ := pair_up (fun z : Bs × En => (z.1, z.2.2.1)) (fun p : Bs × Y × Y => (p.1, p.2.1)) zs l hy.symm
 have hlen2 : us.length = l.length := by rw [← e2, List.length_map]
 have hmem : ∀ u, u ∈ us → u.1.1.length + volY u.2.2.1 ≤ volYm (l.map (fun p => (p.1, p.2.1))) := fun u hu => by
  have h1 := volYm_mem (List.mem_map.2 ⟨u.2, by rw [← e2]; exact List.mem_map.2 ⟨u, hu, rfl⟩, rfl⟩ : (u.2.1, u.2.2.1) ∈ l.map (fun p => (p.1, p.2.1))); have h2 := congrArg Prod.fst (e3 u hu); simp only at h1 h2; rw [h2]; exact h1
 have key := itp_top (g := g) (us.map (fun u => ((u.1.1, u.1.2.1, u.2.2.1, u.2.2.2) : Mu))) (by rw [List.length_map]; omega) b cb mb w (by rw [← e1, List.map_map] at hm; rw [List.map_map]; exact hm)
  (fun q hq => by obtain ⟨u, hu, rfl⟩ := List.mem_map.1 hq; exact ⟨u.1.2.2.2, by have := hz u.1 (by rw [← e1]; exact List.mem_map.2 ⟨u, hu, rfl⟩); have h2 := congrArg Prod.snd (e3 u hu); simp only at h2; rw [h2] at this; exact this⟩)
  (fun q hq => by obtain ⟨u, hu, rfl⟩ := List.mem_map.1 hq; exact itp_all hP (hl u.2 (by rw [← e2]; exact List.mem_map.2 ⟨u, hu, rfl⟩)) (by have := hmem u hu; show volY u.2.2.1 ≤ _; omega))
  (fun q hq => by obtain ⟨u, hu, rfl⟩ := List.mem_map.1 hq; have := hmem u hu; show u.1.1.length + 10 * volY u.2.2.1 ≤ _; omega) hO
 rw [List.map_map] at key
 have e4 : us.map ((fun u : Mu => (u.1, u.2.2.2)) ∘ fun u : (Bs × En) × (Bs × Y × Y) => ((u.1.1, u.1.2.1, u.2.2.1, u.2.2.2) : Mu)) = l.map (fun p => (p.1, p.2.2)) := by
  rw [← e2, List.map_map]; refine List.map_congr_left (fun u hu => ?_); have h2 := congrArg Prod.fst (e3 u hu); simp only at h2; simp only [Function.comp_apply, h2]
 rw [e4] at key; exact key
theorem fromMap_AR {w : World} {b : Nat} {m : List (Bs × Y)} {F : Nat → Prop} (ha : AR w (.iface 71 (.map (some b))) (.map m) F) (hf : FitsY (.map m)) : Calls Tryz.prog 34 #[.map (some b)] w (Told w (valOf (.map m))) := by
 obtain ⟨zs, rfl, hm, hz⟩ := ar_map ha
 cases hf with
 | map _ hl hk hc =>
  rw [List.length_map] at hl; exact from_map zs b w hl hm (fun z hzz => ⟨_, hz z hzz⟩) (fun z hzz => from_any (hc (z.1, z.2.2.1) (List.mem_map.2 ⟨z, hzz, rfl⟩)))
structure ReadsI (w : World) (x : VI) (A3 : Option Addr) (c3 : Nat) (A4 : Option Addr) (c4 : Nat) : Prop where
 l3 : x.f3.length ≤ c3
 hk : Kd.string.C w A3 x.f3.length x.f3
 l4 : x.f4.length ≤ c4
 hv : kI.C w A4 x.f4.length x.f4
theorem ReadsI.below {w w1 : World} {x : VI} {A3 A4 : Option Addr} {c3 c4 : Nat} (h : ReadsI w x A3 c3 A4 c4) (hb : Below w.heap.size w w1) : ReadsI w1 x A3 c3 A4 c4 := ⟨h.l3, Kd.C_below h.hk hb, h.l4, Kd.C_below h.hv hb⟩
theorem toldI_at {fn : Func} {p q : Tmp} (hr : fn.results = #[.cell p 33, .tmp q]) {tmps : Array Value} {W : World} {b n3 c3 n4 c4 : Nat} {k n : Int} {t : BA} {A3 A4 : Option Addr} (hp : tmps.getD p undef = .pointer (some ⟨b, 0, none⟩)) (h3 : tmps.getD q undef = .bool true) (hb : W.heap[b]? = some (.cells #[.int .i64 k, .int .i64 n, .string t, .slice A3 n3 c3, .slice A4 n4 c4] 33 (0, 0))) :
  (results fn tmps).run Tryz.prog W = .ok (.tuple #[.agg #[.int .i64 k, .int .i64 n, .string t, .slice A3 n3 c3, .slice A4 n4 c4], .bool true]) W := by
 have := results_ct (P := Tryz.prog) hr tmps W b 33 _ (0, 0) _ hp hb Tryz.underlying33 rfl ival_size; rw [h3] at this; exact this
set_option maxHeartbeats 6400000 in
set_option maxRecDepth 100000 in
theorem itp_impl {P : BA → BA → Prop} {g : List (Bs × BA)} {n : Nat} (hP : Repl P g) (x : VI) (hx : Small x) (h5 : x.f0 = 5) (mf : List (Bs × Y)) (hiy : IY P (.map (mapOf x)) (.map mf)) (hvol : volY (.map (mapOf x)) ≤ 4194304) (hfit : FitsY (.map mf)) (hg : Ok n g) (hn : n ≤ 17179869184)
  (A3 A4 : Option Addr) (c3 c4 : Nat) (A : Option Addr) (c : Nat) (w : World) (h1 : ReadsI w x A3 c3 A4 c4) (h2 : kp.C w A (toP g).length (toP g)) :
  Calls Tryz.prog 10 #[.agg #[.int .i64 x.f0, .int .i64 x.f1, .string x.f2, .slice A3 x.f3.length c3, .slice A4 x.f4.length c4], .slice A (toP g).length c, .slice none 0 0] w (Told w (valOf (.map mf))) := by
 have HIT := aM (fun (W : World) (b cb mb : Nat) (F : Nat → Prop) (ha : AR W (.iface 71 (.map (some b))) (.map (mapOf x)) F) (hO : OptsAt g W cb mb) => itp_maps hP hiy hvol ha cb mb hO); have HFM := aM (fun (W : World) (b : Nat) (F : Nat → Prop) (ha : AR W (.iface 71 (.map (some b))) (.map mf) F) => fromMap_AR ha hfit); have hbx := za (za (za (Below.refl w.heap.size w) (.cells #[.int .i64 x.f0, .int .i64 x.f1, .string x.f2, .slice A3 x.f3.length c3, .slice A4 x.f4.length c4] 33)) (.cells #[.int .i64 0, .int .i64 0, .string ⟨#[]⟩, .slice none 0 0, .slice none 0 0] 33)) (.map #[] 0); have hx0 : (((w.alloc (.cells #[.int .i64 x.f0, .int .i64 x.f1, .string x.f2, .slice A3 x.f3.length c3, .slice A4 x.f4.length c4] 33)).alloc (.cells #[.int .i64 0, .int .i64 0, .string ⟨#[]⟩, .slice none 0 0, .slice none 0 0] 33)).alloc (.map #[] 0)).heap[w.heap.size]? = some (.cells #[.int .i64 x.f0, .int .i64 x.f1, .string x.f2, .slice A3 x.f3.length c3, .slice A4 x.f4.length c4] 33 (0, 0)) := ze (ze (yk _ _) _) _
 have hz0 : (((w.alloc (.cells #[.int .i64 x.f0, .int .i64 x.f1, .string x.f2, .slice A3 x.f3.length c3, .slice A4 x.f4.length c4] 33)).alloc (.cells #[.int .i64 0, .int .i64 0, .string ⟨#[]⟩, .slice none 0 0, .slice none 0 0] 33)).alloc (.map #[] 0)).heap[w.heap.size + 1]? = some (.cells #[.int .i64 0, .int .i64 0, .string ⟨#[]⟩, .slice none 0 0, .slice none 0 0] 33 (0, 0)) := by
  have h := yk (w.alloc (.cells #[.int .i64 x.f0, .int .i64 x.f1, .string x.f2, .slice A3 x.f3.length c3, .slice A4 x.f4.length c4] 33)) (.cells #[.int .i64 0, .int .i64 0, .string ⟨#[]⟩, .slice none 0 0, .slice none 0 0] 33); rw [World.size_alloc] at h; exact ze h _
 have hm0 := MapE.made Tryz.prog 70 (id : Value → Value) ((w.alloc (.cells #[.int .i64 x.f0, .int .i64 x.f1, .string x.f2, .slice A3 x.f3.length c3, .slice A4 x.f4.length c4] 33)).alloc (.cells #[.int .i64 0, .int .i64 0, .string ⟨#[]⟩, .slice none 0 0, .slice none 0 0] 33)); rw [World.size_alloc, World.size_alloc] at hm0; have HRI := aM (h1.below hbx); have CLK := aM (fun (W : World) (hb : Below w.heap.size w W) => Go.Proofs.YtjcffojiacgocaaGreatDoor.Maps.look (c := c) hg hn W (Kd.C_below h2 hb)); have CTM := aM (fun (W : World) (h : ReadsI W x A3 c3 A4 c4) => toMap x hx A3 A4 c3 c4 W h.hk h.hv); obtain ⟨x0, x1, x2, x3, x4⟩ := x
 have b5 : ((x0 : Int) != 5) = false := by simpa using h5
 generalize mapOf ⟨x0, x1, x2, x3, x4⟩ = m at HIT CTM
 obtain ⟨u, hu⟩ : ∃ u, valOf (.map mf) = u := ⟨_, rfl⟩
 rw [hu] at HFM ⊢; obtain ⟨u0, u1, u2, u3, u4⟩ := u; have hmk := @run_makeMap Tryz.prog; have HB0 := aM hbx; have HZ0 := aM hz0; have HM0 := aM hm0; have HX0 := aM hx0; clear hx h5 hiy hvol hfit hg hn h1 h2 hbx hz0 hm0 hu hx0
 go_enter Tryz.func10, Tryz.ntmps10
 go_wp2
 generalize hW1 : (((w.alloc (.cells #[.int .i64 x0, .int .i64 x1, .string x2, .slice A3 x3.length c3, .slice A4 x4.length c4] 33)).alloc (.cells #[.int .i64 0, .int .i64 0, .string ⟨#[]⟩, .slice none 0 0, .slice none 0 0] 33)).alloc (.map #[] 0)) = W1 at HB0 HZ0 HM0 HX0 HRI ⊢
 go_loopw [20, 10] (fun v20 v10 wr => v20 = .int .i64 0 ∧ wr = W1) (fun _ _ _ => 0)
 case atStart => exact ⟨rfl, rfl⟩
 case round =>
  obtain ⟨rfl, rfl⟩ := hrel; have hx := HX0.out
  go_wp2_with (refine load_ival (.tmp 3) rfl rfl rfl hx ?_)
  refine (CTM.out wr HRI.out).mono ?_; rintro e w2 ⟨b, rfl, ha, hb⟩; have HB2 := aM (yb HB0.out hb); have HB02 := aM hb; have HA2 := aM ha; clear ha hb CTM hx
  go_wp2_with fail
  refine (CLK.out w2 HB2.out).mono ?_; rintro e w3 ⟨cb, mb, rfl, hc1, hc2, _, hb⟩; have HB3 := aM (yb HB2.out hb); have HB03 := aM (yb HB02.out hb); have CI := aM (HIT.out w3 b cb (w.heap.size + 2) _ (HA2.out.keep hb) ⟨⟨mb, hc1, hc2⟩, HM0.out.below HB03.out⟩); clear hb hc1 hc2 CLK HIT
  go_wp2_with fail
  refine CI.out.mono ?_; rintro e w4 ⟨ob, rfl, ha, hb⟩; have HB4 := aM (yb HB3.out hb); have HB04 := aM (yb HB03.out hb); have CF := aM (HFM.out w4 ob _ ha); clear ha hb CI HFM
  go_wp2_with fail
  refine CF.out.mono ?_; rintro e w5 ⟨v3, v4, rfl, hv3, hv4, hb⟩; obtain ⟨E3, e3, rfl⟩ := Kd.R_slice hv3; obtain ⟨E4, e4, rfl⟩ := Kd.R_slice hv4; have hb5 := yb HB4.out hb; have h1 := ((yb HB04.out hb).block _ (yc HZ0.out)).trans HZ0.out; have hg := yi w5 (w.heap.size + 1) #[.int .i64 u0, .int .i64 u1, .string u2, .slice E3 u3.length e3, .slice E4 u4.length e4]; have HX := aM (setRow_heap _ (w.heap.size + 1) _ #[.int .i64 u0, .int .i64 u1, .string u2, .slice E3 u3.length e3, .slice E4 u4.length e4] _ _ h1); have HB8 := aM (zm hb5 (some (w.heap.size + 1)) hb5.size hg (fun k hk => by have := Option.some.inj hk; omega)); have hbase := HB4.out.size; have hlt : w.heap.size + 1 < w4.heap.size := Nat.lt_of_lt_of_le (yc HZ0.out) HB04.out.size; have H3 := aM (Kd.R_lower (base' := w.heap.size) (Kd.R_mono (ok' := fun _ => True) (Kd.R_move (Kd.R_bound hv3) (fun k hk => hg.block k hk.2.2.1 (fun e => by have h2 := Option.some.inj e; have h3 := hk.2.1; omega))) (fun _ _ => trivial)) hbase); have H4 := aM (Kd.R_lower (base' := w.heap.size) (Kd.R_mono (ok' := fun _ => True) (Kd.R_move (Kd.R_bound hv4) (fun k hk => hg.block k hk.2.2.1 (fun e => by have h2 := Option.some.inj e; have h3 := hk.2.1; omega))) (fun _ _ => trivial)) hbase); clear hv3 hv4 hb hb5 hg hbase hlt
  go_wp2_with (refine xm (.tmp 6) (.tmp 49) rfl rfl rfl rfl h1 ?_)
  exact bodyPost_ret (v := .tuple #[.agg #[.int .i64 u0, .int .i64 u1, .string u2, .slice E3 u3.length e3, .slice E4 u4.length e4], .bool true]) (toldI_at rfl rfl rfl HX.out) rfl ⟨.slice E3 u3.length e3, .slice E4 u4.length e4, rfl, H3.out, H4.out, HB8.out⟩
end Go.Proofs.YtjcffojiacgocaaGreatDoor.Tr
namespace Go.Proofs.YtjcffojiacgocaaGreatDoor.Tr.Sb
open Go.RowKit Go.Proofs.YtjcffojiacgocaaGreatDoorW.PrintWords Go.Proofs.YtjcffojiacgocaaGreatDoorW.PrintLast Go.Proofs.YtjcffojiacgocaaGreatDoor.Str Go.Proofs.YtjcffojiacgocaaGreatDoor.Kit Go.Proofs.YtjcffojiacgocaaGreatDoor.MapV Go.Proofs.YtjcffojiacgocaaGreatDoor.Frame Go.Proofs.YtjcffojiacgocaaGreatDoor.PS
open Go.Proofs.YtjcffojiacgocaaGreatDoor.Maps (MapS key_u map_u lookFn lookT)
theorem ends_at_named (s : BA) (hs : s.size < 4611686018427387904) (p n q : Bs) (hn : IsName n) (h : lb s = p ++ ([36] ++ n) ++ q) (hstop : Stops s (p.length + 1 + n.length)) :
  Ends (fun r => r = ([mk ([36] ++ n), E0, mk n, E0, E0, E0], ((p.length + 1 + n.length : Nat) : Int), true)) (fun k => template_zzAt.f k s (p.length : Int)) := by
 have hsz : s.size = p.length + (n.length + 1) + q.length := by rw [← yd, h]; simp; omega
 have h0 : At s p.length 36 := At.of (p := p) (q := n ++ q) (by rw [h]; simp) rfl
 have hsplit : lb s = (p ++ [36]) ++ n ++ q := by rw [h]; simp
 have hlen : (p ++ [36]).length = p.length + 1 := by simp
 obtain ⟨na, nb⟩ := name_at hsplit hn; rw [hlen] at na nb; obtain ⟨c, hc1, hc2⟩ := na; have hpos := hn.pos
 unfold template_zzAt.f
 have e0 : ((((36 : UInt8).toNat : Int)) != 36) = false := by decide
 rw [wrap1 p.length (by omega), h0.bt, e0]; refine Ends.no (by omega) (Ends.yes (by omega) (Ends.yes (by omega) ?_)); refine Ends.step (fun k => by simp only [template_zzAt.j0]; rfl) ?_; rw [wrap1 p.length (by omega), wrap2 p.length (by omega), hc1.bt]
 have hc36 : ¬ (c.toNat : Int) = 36 := by
  have h2 := (isLet_iff c.toNat).1 hc2
  omega
 refine Ends.no (by simp) (Ends.yes (by omega) (Ends.yes (by omega) (Ends.no hc36 ?_))); refine Ends.bind (ends_name s hs (p.length + 1) n.length hpos ⟨c, hc1, hc2⟩ nb hstop) (fun r hr => ?_); subst hr; refine Ends.yes (by omega) (Ends.yes (by omega) (Ends.yes (by omega) (Ends.yes (by omega) (Ends.yes (by omega) (Ends.now ?_))))); have x1 : s.extract (p.length : Int).toNat ((p.length + 1 + n.length : Nat) : Int).toNat = mk ([36] ++ n) := ext_mid h _ _ (by omega) (by simp; omega); have x2 : s.extract ((p.length + 1 : Nat) : Int).toNat ((p.length + 1 + n.length : Nat) : Int).toNat = mk n := ext_mid hsplit _ _ (by rw [hlen]; omega) (by rw [hlen]; omega); rw [x1, x2]; rfl
def DA : BA := mk [36, 65]
def DN : BA := mk [65]
theorem da_close (w : World) : Calls Tryz.prog 124 #[.string DA] w fun e w' => e = .returned (.int .i64 (-1)) ∧ Drawn0 w w' := template_getFirstBraceClosingIndex.calls 10 DA (-1) w (by kernel_rfl)
set_option maxHeartbeats 3200000 in
set_option maxRecDepth 100000 in
theorem applied_da (g : List (Bs × BA)) (w : World) (cb b : Nat) (hE : EnvAt w cb g) (hC : CfgAt w b) :
  Calls Tryz.prog 168 #[.string DA, envF cb, .pointer (some ⟨b, 0, none⟩)] w fun e w' => ∃ u, e = .returned (.tuple #[.string (valOf g nA), .bool u, .nilIface]) ∧ Below w.heap.size w w' := by
 have CG := aM (fun W => getSubst DA (by decide) W); have CB := aM (fun W => da_close W)
 have CF := aM (fun W => FindStringSubmatch DA [DA, E0, DN, E0, E0, E0] 2 (by decide) (by decide) (by
  have := ends_at_named DA (by decide) [] [65] [] nA_name rfl (.inl rfl)
  have h : Ends (fun r => r = ([mk [36, 65], E0, mk [65], E0, E0, E0], (2 : Int), true)) (fun k => template_zzAt.f k DA 0) := by simpa using this
  exact h) W)
 have hd1 : (DN.toList == []) = false := beq_eq_false_iff_ne.2 (by rw [yz]; decide); have hdl : lb DN = nA := rfl
 have hds : DN.size ≤ 4294967296 := by decide
 generalize DA = m at CG CB CF ⊢; generalize DN = d1 at CF hd1 hdl hds ⊢; have HE := aM hE; have hpa := part_cfg hC; have hb1 := za (Below.refl w.heap.size w) (.cells #[] 96); have hsf : (w.alloc (.cells #[] 96)).cell? ⟨b, 0, none⟩ = some .nilFunc := zf hb1 (zn (i := 0) hC rfl); have HB1 := aM hb1; clear hE hC hb1
 have hbf : ∀ w : World, (binOp BinOp.eql 189 .nilFunc .nilFunc).run Tryz.prog w = .ok (.bool true) w := fun _ => by kernel_rfl
 go_enter Tryz.func168, Tryz.ntmps168
 go_wp2_with fail
 refine (CG.out _).mono ?_; rintro e w1 ⟨k, rfl, hmin, hb⟩; have HB2 := aM (yb HB1.out hb); clear hb hmin CG HB1 hpa hsf
 go_wp2_with fail
 refine (CB.out _).mono ?_; rintro e w2 ⟨rfl, ⟨nd, rfl⟩⟩; have HB3 := aM (yb HB2.out (Drawn0.below (⟨⟨nd, rfl⟩⟩ : Drawn0 w1 (w1.drewN nd)))); clear HB2 CB
 go_wp2_with fail
 refine (CF.out _).mono ?_; rintro e w3 ⟨A, cc, rfl, hC3, hb⟩; have HB4 := aM (yb HB3.out hb); have CM := aM (matchGroups [m, E0, d1, E0, E0, E0] rfl A cc w3 hC3); have HGET := aM (gr_get [m, E0, d1, E0, E0, E0] rfl); clear hb CF hC3 HB3
 go_wp2_with fail
 refine CM.out.mono ?_; rintro e w4 ⟨mb, rfl, hM, hb⟩; have HB5 := aM (yb HB4.out hb); have hl1 := run_look_mapE key_u Tryz.underlying111 (Tryz.zeroValue9 w4) hM (s := nEsc) (by unfold maxLen; decide); have hl2 := run_look_mapE key_u Tryz.underlying111 (Tryz.zeroValue9 w4) hM (s := nNamed) (by unfold maxLen; decide); rw [HGET.out.1] at hl1; rw [HGET.out.2.1] at hl2; have hk1 : (Instr.lookup 111 (.map (some mb)) (.string ⟨#[101, 115, 99, 97, 112, 101, 100]⟩) false).run Tryz.prog w4 = .ok (.string ⟨#[]⟩) w4 := hl1; have hk2 : (Instr.lookup 111 (.map (some mb)) (.string ⟨#[110, 97, 109, 101, 100]⟩) false).run Tryz.prog w4 = .ok (.string d1) w4 := hl2; obtain ⟨mb2, hE1, hE2⟩ := HE.out.below HB5.out; have CL := aM (lookFn d1 w4 hE1 hE2 (Nat.le_trans hds (by decide))); clear hb CM hM hl1 hl2 HGET HB4 HE hE1 hE2
 go_wp2_with fail
 refine CL.out.mono ?_; rintro e w6 ⟨rfl, rfl⟩
 unfold lookT
 rw [hdl]
 go_wp2
 go_ret3
 exact ⟨_, rfl, HB5.out⟩
def AtA (g : List (Bs × BA)) (m r : BA) : Prop := m = DA ∧ r = valOf g nA
theorem repl_da (g : List (Bs × BA)) : Repl (AtA g) g := by
 rintro m r ⟨rfl, rfl⟩ w cb b hE hC; exact repl_of_applied _ _ g (fun w cb b h1 h2 => applied_da g w cb b h1 h2) w cb b hE hC
theorem rw_da : Rw (AtA livesG) DA 0 [98] := by
 have hat := ends_at_named DA (by decide) [] [65] [] nA_name rfl (.inl rfl); have hk : Rw (AtA livesG) DA 2 [] := rw_stop _ _ rfl; exact Rw.hit (P := AtA livesG) (s := DA) 0 2 DA (valOf livesG nA) _ [] (by decide) (by decide) (by decide) hat ⟨rfl, rfl⟩ hk
end Go.Proofs.YtjcffojiacgocaaGreatDoor.Tr.Sb
namespace Go.Proofs.YtjcffojiacgocaaGreatDoor.Tr
open Go.RowKit Go.Proofs.YtjcffojiacgocaaGreatDoorW.PrintWords Go.Proofs.YtjcffojiacgocaaGreatDoorW.PrintLast Go.Proofs.YtjcffojiacgocaaGreatDoor.Str Go.Proofs.YtjcffojiacgocaaGreatDoor.Kit Go.Proofs.YtjcffojiacgocaaGreatDoor.MapV Go.Proofs.YtjcffojiacgocaaGreatDoor.Frame Go.Proofs.YtjcffojiacgocaaGreatDoor.PS
theorem need_str (v : Value) (w : World) : (Instr.typeAssert (.iface 9 v) 20 9 false).run Tryz.prog w = .ok v w := by kernel_rfl
theorem need_val (v : Value) (w : World) : (Instr.typeAssert (.iface 25 v) 20 25 false).run Tryz.prog w = .ok v w := by kernel_rfl
def Turnwise (w : World) (b : Nat) (ps : List (BA × VS)) : Prop := b < w.heap.size ∧ ∀ (j : Nat) (hj : j < ps.length), ∃ A5 c5 A6 c6, w.cell? ⟨b, 2 * j, none⟩ = some (.iface 9 (.string ps[j].1)) ∧ w.cell? ⟨b, 2 * j + 1, none⟩ = some (.iface 25 (.agg #[.int .i64 ps[j].2.f0, .int .i64 ps[j].2.f1, .string ps[j].2.f2, .slice A5 ps[j].2.f3.length c5, .slice A6 ps[j].2.f4.length c6]))
 ∧ kS.K w ps[j].2 [.int .i64 ps[j].2.f0, .int .i64 ps[j].2.f1, .string ps[j].2.f2, .slice A5 ps[j].2.f3.length c5, .slice A6 ps[j].2.f4.length c6]
theorem Turnwise.below {w w1 : World} {b : Nat} {ps : List (BA × VS)} (h : Turnwise w b ps) (hb : Below w.heap.size w w1) : Turnwise w1 b ps :=
 ⟨Nat.lt_of_lt_of_le h.1 hb.size, fun j hj => by
  obtain ⟨A5, c5, A6, c6, h1, h2, h3⟩ := h.2 j hj
  exact ⟨A5, c5, A6, c6, zf hb h1, zf hb h2, kS.K_below hb h3⟩⟩
set_option maxHeartbeats 6400000 in
set_option maxRecDepth 100000 in
theorem specM (ps : List (BA × VS)) (hps : ps.length ≤ 1000000) (b n c : Nat) (hn : n = 2 * ps.length) (w : World) (h : Turnwise w b ps) :
  Calls Tryz.prog 28 #[.slice (some ⟨b, 0, none⟩) n c] w (GivesR w (mapsOf (ps.map (·.1)) (ps.map (·.2))) w) := by
 obtain ⟨KF, VF, hF⟩ : ∃ KF VF, fitW (ps.map (·.1)) (ps.map (·.2)) [] [] = (KF, VF) := ⟨_, _, rfl⟩
 have hgoal : mapsOf (ps.map (·.1)) (ps.map (·.2)) = ⟨5, 0, ⟨#[]⟩, KF, VF⟩ := by unfold mapsOf; rw [hF]
 rw [hgoal]; have HB := aM (za (Below.refl w.heap.size w) (.cells zC 25)); have hrb := yk w (.cells zC 25); have HR0 := aM hrb; have HT := aM h; have HF := aM hF; have HN := aM hn; have HPS := aM hps; have hbw := h.1; clear h hgoal hrb hF hn hps; have CE := aM (empty_gives (w.alloc (.cells zC 25)))
 go_enter Tryz.func28, Tryz.ntmps28
 go_wp2_with fail
 refine CE.out.mono ?_; rintro e w1 ⟨rfl, hb⟩; have hbn := za (Below.refl w1.heap.size w1) (.cells #[.int .i64 5, .int .i64 0, .string ⟨#[]⟩, .slice none 0 0, .slice none 0 0] 25); have hsz1 := hb.size; rw [World.size_alloc] at hsz1; have HB2 := aM (yb (yb HB.out hb) hbn); have HR2 := aM (ze ((hb.block _ (yc HR0.out)).trans HR0.out) (.cells #[.int .i64 5, .int .i64 0, .string ⟨#[]⟩, .slice none 0 0, .slice none 0 0] 25)); have HG2 := aM (yk w1 (.cells #[.int .i64 5, .int .i64 0, .string ⟨#[]⟩, .slice none 0 0, .slice none 0 0] 25)); clear hb hbn CE HB HR0
 go_wp2
 generalize hW2 : w1.alloc _ = W2 at HB2 HR2 HG2 ⊢; generalize hb3 : w1.heap.size = b3 at HG2 hsz1 ⊢; clear hW2 hb3
 go_loopw [4] (fun v wr => ∃ (i m : Nat) (Ks : List BA) (Vs : List VS) (A7 A8 : Option Addr) (c7 c8 : Nat), v = .int .i64 m ∧ Aside0 (m = 2 * i) ∧ Aside0 (i ≤ ps.length) ∧ Aside0 (Ks.length = Vs.length) ∧ Aside0 (Vs.length ≤ i) ∧ Aside0 (fitW ((ps.map (·.1)).drop i) ((ps.map (·.2)).drop i) Ks Vs = (KF, VF))
  ∧ Aside0 (wr.heap[b3]? = some (.cells #[.int .i64 5, .int .i64 0, .string ⟨#[]⟩, .slice A7 Ks.length c7, .slice A8 Vs.length c8] 25 (0, 0)))
  ∧ Aside0 (wr.heap[w.heap.size]? = some (.cells zC 25 (0, 0))) ∧ Aside0 (Below w.heap.size w wr)
  ∧ Aside0 (Kd.string.R 9 wr b3 (fun k => b3 < k) (.slice A7 Ks.length c7) Ks)
  ∧ Aside0 ((kFix w).R 25 wr b3 (fun k => b3 < k) (.slice A8 Vs.length c8) Vs)) (fun v _ => n - (intOf v).toNat)
 case atStart => exact ⟨0, 0, [], [], none, none, 0, 0, rfl, ⟨rfl⟩, ⟨Nat.zero_le _⟩, ⟨rfl⟩, ⟨Nat.le_refl _⟩, HF, HG2, HR2, HB2, ⟨Kd.R_nil _ _ _ _ _⟩, ⟨Kd.R_nil _ _ _ _ _⟩⟩
 case round =>
  clear HG2 HR2 HB2; obtain ⟨i, m, Ks, Vs, A7, A8, c7, c8, rfl, HM, HI, HKV, HVI, HFI, HG, HR, HB, HK, HV⟩ := hrel
  have q0 : (0 : Int) ≤ (m : Int) := by omega
  by_cases hlv : i < ps.length
  ·obtain ⟨A5, c5, A6, c6, h1, h2, h3⟩ := HT.out.2 i hlv; have m0 := zf HB.out h1; have m1 := zf HB.out h2; rw [← HM.out] at m0 m1
   obtain ⟨key, hkey⟩ : ∃ key, ps[i].1 = key := ⟨_, rfl⟩
   obtain ⟨u, hu⟩ : ∃ u, ps[i].2 = u := ⟨_, rfl⟩
   rw [hkey] at m0; rw [hu] at m1 h3; have HU := aM (show ∃ h : i < ps.length, ps[i].1 = key ∧ ps[i].2 = u from ⟨hlv, hkey, hu⟩); obtain ⟨u0, u1, u2, u3, u4⟩ := u; have HKE := aM h3; have HLV := aM hlv
   have q1 : (m : Int) + 1 < (n : Int) := by have := HM.out; have := HN.out; omega
   have q3 : (m : Int) < (n : Int) := by omega
   have q4 : (0 : Int) ≤ (m : Int) + 1 := by omega
   have q6 : ((m : Int) + 1).toNat = m + 1 := by omega
   have hd1 : decide ((m : Int) + 1 < (n : Int)) = true := decide_eq_true q1; have e0 : wr.cell? ⟨b3, 0, none⟩ = some (.int .i64 5) := zn (i := 0) HG.out rfl; have e1 : wr.cell? ⟨b3, 1, none⟩ = some (.int .i64 0) := zn (i := 1) HG.out rfl; have e2 : wr.cell? ⟨b3, 2, none⟩ = some (.string ⟨#[]⟩) := zn (i := 2) HG.out rfl; have e3 : wr.cell? ⟨b3, 3, none⟩ = some (.slice A7 Ks.length c7) := zn (i := 3) HG.out rfl; have e4 : wr.cell? ⟨b3, 4, none⟩ = some (.slice A8 Vs.length c8) := zn (i := 4) HG.out rfl
   have hvn : Vs.length ≤ 1759218604400 := by have := HVI.out; have := HI.out; have := HPS.out; omega
   obtain ⟨_, l7, r7⟩ := Kd.R_reads' HK.out; obtain ⟨_, l8, r8⟩ := Kd.R_reads' HV.out
   obtain ⟨K2, hK2⟩ : ∃ K2, withK Ks key = K2 := ⟨_, rfl⟩
   obtain ⟨V2, hV2⟩ : ∃ V2, withV Ks Vs key (⟨u0, u1, u2, u3, u4⟩ : VS) = V2 := ⟨_, rfl⟩
   have hl1 := withV_length (key := key) (x := (⟨u0, u1, u2, u3, u4⟩ : VS)) HKV.out; have hl2 := withK_length (ks := Ks) (key := key); rw [hK2] at hl1 hl2; rw [hV2] at hl1; have HL1 := aM hl1.symm; have HL2 := aM (show V2.length ≤ i + 1 by have := HVI.out; have := HKV.out; omega)
   have HNX := aM (show fitW ((ps.map (·.1)).drop (i + 1)) ((ps.map (·.2)).drop (i + 1)) K2 V2 = (KF, VF) by
    have := HFI.out; rw [List.drop_eq_getElem_cons (show i < (ps.map (·.1)).length by rw [List.length_map]; exact hlv), List.drop_eq_getElem_cons (show i < (ps.map (·.2)).length by rw [List.length_map]; exact hlv), List.getElem_map, List.getElem_map, hkey, hu, fitW, hK2, hV2] at this
    exact this)
   have CW := aM (WithP (fun x cs => kS.K w x cs) (fun hp => kS.K_len hp) (fun hp => kS.K_one hp) (A3 := A7) (A4 := A8) (c3 := c7) (c4 := c8) (A5 := A5) (A6 := A6) (c5 := c5) (c6 := c6) 5 0 ⟨#[]⟩ Ks Vs key (⟨u0, u1, u2, u3, u4⟩ : VS) wr.drew (Kd.C_below r7 (zr (Below.refl _ _))) (ReadsRow.imp_ r8 (zr (Below.refl _ _)) (fun _ _ hp => hp)) HKE.out HKV.out hvn K2 V2 hK2 hV2); have HLT := aM (yc HG.out)
   have q5 : wrap64 ((m : Int) + 1) = (m : Int) + 1 := by have := HPS.out; have := HN.out; unfold wrap64; omega
   have ns := need_str; have nv := need_val; clear h1 h2 h3 hkey hu hl1 hl2 hK2 hV2 l7 r7 l8 r8 hlv hvn
   go_wp2_with fail
   refine xb (n := 14) (S := fun w' => w'.cell? ⟨b3, 0, none⟩ = some (.int .i64 5) ∧ w'.cell? ⟨b3, 1, none⟩ = some (.int .i64 0) ∧ w'.cell? ⟨b3, 2, none⟩ = some (.string ⟨#[]⟩) ∧ w'.cell? ⟨b3, 3, none⟩ = some (.slice A7 Ks.length c7) ∧ w'.cell? ⟨b3, 4, none⟩ = some (.slice A8 Vs.length c8) ∧ w'.cell? ⟨b, m, none⟩ = some (.iface 9 (.string key)) ∧ w'.cell? ⟨b, m + 1, none⟩ = some (.iface 25 (.agg #[.int .i64 u0, .int .i64 u1, .string u2, .slice A5 u3.length c5, .slice A6 u4.length c6]))) (ds := [12, 13]) (bZ 14 0) (by kernel_rfl) rfl rfl ⟨e0, e1, e2, e3, e4, m0, m1⟩ (fun hHeld => ?_); refine pU 1 (some 14) (bZ 14 2) rfl (by kernel_rfl) ?_; refine pU 2 (some 15) (bZ 14 6) rfl (by kernel_rfl) ?_; refine pU 3 (some 16) (bZ 14 14) rfl (by kernel_rfl) ?_; refine pU 6 (some 19) (bZ 14 78) rfl (by kernel_rfl) ?_; refine pU 7 (some 20) (bZ 14 206) rfl (by kernel_rfl) ?_; refine pU 8 (some 21) (bZ 14 462) rfl (by kernel_rfl) ?_; refine pU 9 (some 22) (bZ 14 974) rfl (by kernel_rfl) ?_; refine tU 0 (some 13) (bZ 14 975) rfl (by kernel_rfl) (Or.inl ⟨by rfl, by rintro w' ⟨s0, s1, s2, s3, s4, s5, s6⟩; go_simp; with_reducible rfl⟩) hHeld ?_; refine tU 4 (some 17) (bZ 14 991) rfl (by kernel_rfl) (Or.inl ⟨by rfl, by rintro w' ⟨s0, s1, s2, s3, s4, s5, s6⟩; go_simp; with_reducible rfl⟩) hHeld ?_; refine pU 5 (some 18) (bZ 14 1023) rfl (by kernel_rfl) ?_; refine tU 10 (some 23) (bZ 14 2047) rfl (by kernel_rfl) (Or.inl ⟨by rfl, by rintro w' ⟨s0, s1, s2, s3, s4, s5, s6⟩; go_simp; with_reducible rfl⟩) hHeld ?_; refine pU 11 (some 24) (bZ 14 4095) rfl (by kernel_rfl) ?_; refine xg (i := 12) (N := some 25) (bZ 14 8191) rfl rfl (by kernel_rfl) (by decide) (fun K hK => ?_); refine vn Tryz.func18 (by kernel_rfl) rfl #[.agg #[.int .i64 5, .int .i64 0, .string ⟨#[]⟩, .slice A7 Ks.length c7, .slice A8 Vs.length c8], .string key, .agg #[.int .i64 u0, .int .i64 u1, .string u2, .slice A5 u3.length c5, .slice A6 u4.length c6]] (by rfl) rfl rfl (by simp only [List.map_toArray, List.map_cons, List.map_nil]; rfl) ?_
   with_reducible refine (CW.out).mono ?_
   rintro e w4 ⟨B7, d7, B8, d8, rfl, k1, k2, hb⟩; refine ⟨_, rfl, ?_⟩; refine hK.out _ _ ?_; clear hK K; refine zq (a' := ?_) ?_ ?_; rotate_left
   ·show Act.put _ (some 25) _ = _
    simp only [Act.put, sA, sB, sC, zo, zt]; rfl
   refine xg (i := 13) (N := none) (bZ 14 16383) rfl rfl (by kernel_rfl) (by decide) (fun K hK => ?_); have HB4 := aM (yb (zr HB.out) hb); have HG4 := aM ((hb.block _ (yc (show wr.drew.heap[b3]? = _ from HG.out))).trans HG.out); have HR4 := aM ((hb.block _ (yc (show wr.drew.heap[w.heap.size]? = _ from HR.out))).trans HR.out); refine store_row_step (w := w4) rfl rfl 25 (.tmp 3) (.tmp 25) rfl b3 #[.int .i64 5, .int .i64 0, .string ⟨#[]⟩, .slice B7 K2.length d7, .slice B8 V2.length d8] rfl rfl 25 _ HG4.out val_size rfl (val_one _ _ _ _ _ _ _ _ _) ?_; refine hK.out _ _ ?_; clear hK K; refine xl (by kernel_rfl) ?_; have hlw : b3 < wr.drew.heap.size := HLT.out; have hg := yi w4 b3 #[.int .i64 5, .int .i64 0, .string ⟨#[]⟩, .slice B7 K2.length d7, .slice B8 V2.length d8]; have HG5 := aM (setRow_heap w4 b3 _ #[.int .i64 5, .int .i64 0, .string ⟨#[]⟩, .slice B7 K2.length d7, .slice B8 V2.length d8] _ _ HG4.out); have HR5 := aM ((setRow_other w4 b3 w.heap.size #[.int .i64 5, .int .i64 0, .string ⟨#[]⟩, .slice B7 K2.length d7, .slice B8 V2.length d8] (by omega)).trans HR4.out); have HB5 := aM (zm HB4.out (some b3) HB4.out.size hg (fun k hk => by injection hk with hk; omega)); have HK5 := aM (Kd.R_grown (Kd.R_lower (Kd.R_mono (Kd.R_bound k1) (ok' := fun k => b3 < k) (fun k h => Nat.lt_of_lt_of_le hlw h.2.1)) (Nat.le_of_lt hlw)) hg (fun k hk e => by injection e with e; omega)); have HV5 := aM (Kd.R_grown (Kd.R_lower (Kd.R_mono (Kd.R_bound k2) (ok' := fun k => b3 < k) (fun k h => Nat.lt_of_lt_of_le hlw h.2.1)) (Nat.le_of_lt hlw)) hg (fun k hk e => by injection e with e; omega)); clear hg k1 k2 HG4 HR4 HB4 hHeld hb hlw e0 e1 e2 e3 e4 m0 m1 q5
   have q7 : wrap64 ((m : Int) + 2) = ((m + 2 : Nat) : Int) := by have := HM.out; have := HLV.out; have := HPS.out; unfold wrap64; omega
   generalize w4.setRow b3 #[.int .i64 5, .int .i64 0, .string ⟨#[]⟩, .slice B7 K2.length d7, .slice B8 V2.length d8] = w5 at HG5 HR5 HB5 HK5 HV5 ⊢
   go_wp2
   go_roundw
   case rel => exact ⟨i + 1, m + 2, K2, V2, B7, B8, d7, d8, congrArg (Value.int .i64) q7, ⟨by have := HM.out; clear q7; omega⟩, ⟨HLV.out⟩, HL1, HL2, HNX, HG5, HR5, HB5, HK5, HV5⟩
   case measure =>
    rw [q7]; clear q7; have h1 := HM.out; have h2 := HN.out; have h3 := HLV.out
    simp [intOf]
    omega
  ·have hil : i = ps.length := by have := HI.out; omega
   have q1 : ¬ (m : Int) + 1 < (n : Int) := by have := HM.out; have := HN.out; omega
   have q5 : wrap64 ((m : Int) + 1) = (m : Int) + 1 := by have h1 := HM.out; have h2 := HI.out; have h3 := HPS.out; unfold wrap64; omega
   have hd1 : decide ((m : Int) + 1 < (n : Int)) = false := decide_eq_false q1
   have hF1 : (Ks, Vs) = (KF, VF) := by
    have := HFI.out; rw [List.drop_eq_nil_of_le (show (ps.map (·.1)).length ≤ i by rw [List.length_map]; omega), List.drop_eq_nil_of_le (show (ps.map (·.2)).length ≤ i by rw [List.length_map]; omega)] at this; exact this
   obtain ⟨rfl, rfl⟩ := Prod.mk.inj hF1; clear hF1 hil q1
   go_wp2_with (first | refine xx (.tmp 3) rfl rfl rfl HG.out ?_ | refine xt (.tmp 2) (.tmp 26) rfl rfl rfl rfl HR.out ?_)
   clear q5; have hg := yi wr w.heap.size #[.int .i64 5, .int .i64 0, .string ⟨#[]⟩, .slice A7 Ks.length c7, .slice A8 Vs.length c8]; have h5 := setRow_heap wr w.heap.size _ #[.int .i64 5, .int .i64 0, .string ⟨#[]⟩, .slice A7 Ks.length c7, .slice A8 Vs.length c8] _ _ HR.out; have hB := zm HB.out (some w.heap.size) HB.out.size hg (fun k hk => by injection hk with hk; have h2 : w.heap.size = k := hk; omega); have hK := Kd.R_grown HK.out hg (fun k hk e => by injection e with e; omega); have hV := Kd.R_grown HV.out hg (fun k hk e => by injection e with e; omega); exact bodyPost_ret (v := .agg #[.int .i64 5, .int .i64 0, .string ⟨#[]⟩, .slice A7 Ks.length c7, .slice A8 Vs.length c8]) (xv rfl rfl h5) rfl ⟨_, _, rfl, Kd.R_lower (Kd.R_mono hK (fun k hk => by omega)) (by omega), Kd.R_lower (Kd.R_mono hV (fun k hk => by omega)) (by omega), hB⟩
theorem m_gives (ps : List (BA × VS)) (hps : ps.length ≤ 1000000) (b n c : Nat) (hn : n = 2 * ps.length) (w : World) (h : Turnwise w b ps) :
  Calls Tryz.prog 28 #[.slice (some ⟨b, 0, none⟩) n c] w (Gives (mapsOf (ps.map (·.1)) (ps.map (·.2))) w) := by
 refine (specM ps hps b n c hn w h).mono ?_; rintro e w1 ⟨v3, v4, rfl, h3, h4, hb⟩; obtain ⟨A3, c3, A4, c4, rfl, rfl, hr⟩ := fix_reads hb h3 h4; exact ⟨A3, c3, A4, c4, rfl, hr, hb⟩
theorem turnwise1 (w : World) (k1 : BA) (x : VS) (A3 A4 : Option Addr) (c3 c4 : Nat) (hx : Reads w x A3 c3 A4 c4) :
  Turnwise (w.alloc (.cells #[.iface 9 (.string k1), .iface 25 (.agg #[.int .i64 x.f0, .int .i64 x.f1, .string x.f2, .slice A3 x.f3.length c3, .slice A4 x.f4.length c4])] 20)) w.heap.size [(k1, x)] := by
 have hb := za (Below.refl w.heap.size w) (.cells #[.iface 9 (.string k1), .iface 25 (.agg #[.int .i64 x.f0, .int .i64 x.f1, .string x.f2, .slice A3 x.f3.length c3, .slice A4 x.f4.length c4])] 20); have hn := yk w (.cells #[.iface 9 (.string k1), .iface 25 (.agg #[.int .i64 x.f0, .int .i64 x.f1, .string x.f2, .slice A3 x.f3.length c3, .slice A4 x.f4.length c4])] 20); have hx' := hx.below hb; refine ⟨by rw [World.size_alloc]; omega, fun j hj => ?_⟩
 match j, hj with
 | 0, _ => exact ⟨A3, c3, A4, c4, zn (i := 0) hn rfl, zn (i := 1) hn rfl, k25_mk _ x hx'.l3 hx'.hk hx'.l4 hx'.hv⟩
 | _ + 1, h => exact absurd h (by simp)
theorem m_gives1 (w : World) (k1 : BA) (x : VS) (A3 A4 : Option Addr) (c3 c4 : Nat) (hx : Reads w x A3 c3 A4 c4) :
  Calls Tryz.prog 28 #[.slice (some ⟨w.heap.size, 0, none⟩) 2 2] (w.alloc (.cells #[.iface 9 (.string k1), .iface 25 (.agg #[.int .i64 x.f0, .int .i64 x.f1, .string x.f2, .slice A3 x.f3.length c3, .slice A4 x.f4.length c4])] 20)) (Gives (mapsOf [k1] [x]) (w.alloc (.cells #[.iface 9 (.string k1), .iface 25 (.agg #[.int .i64 x.f0, .int .i64 x.f1, .string x.f2, .slice A3 x.f3.length c3, .slice A4 x.f4.length c4])] 20))) :=
 m_gives [(k1, x)] (by simp) w.heap.size 2 2 rfl _ (turnwise1 w k1 x A3 A4 c3 c4 hx)
end Go.Proofs.YtjcffojiacgocaaGreatDoor.Tr
namespace Go.Proofs.YtjcffojiacgocaaGreatDoor.Tr
open Go.RowKit Go.Proofs.YtjcffojiacgocaaGreatDoorW.PrintWords Go.Proofs.YtjcffojiacgocaaGreatDoorW.PrintLast Go.Proofs.YtjcffojiacgocaaGreatDoor.Str Go.Proofs.YtjcffojiacgocaaGreatDoor.Kit Go.Proofs.YtjcffojiacgocaaGreatDoor.MapV Go.Proofs.YtjcffojiacgocaaGreatDoor.Frame Go.Proofs.YtjcffojiacgocaaGreatDoor.PS
open Go.Proofs.YtjcffojiacgocaaGreatDoor.Maps (kp toP Ok)
def tA : BA := ⟨#[36, 65]⟩
def tB : BA := ⟨#[98]⟩
def kA1 : BA := ⟨#[97]⟩
def oneV (s : BA) : VS := ⟨5, 0, ⟨#[]⟩, [kA1], [leaf 3 0 s]⟩
def oneI (s : BA) : VI := ⟨5, 0, ⟨#[]⟩, [kA1], [⟨3, 0, s, [], []⟩]⟩
theorem toI_one (s : BA) : toI (oneV s) = oneI s := by simp [oneV, oneI, toI, toL, leaf]
theorem maps_one (s : BA) : mapsOf [kA1] [leaf 3 0 s] = oneV s := rfl
theorem small_one (s : BA) (hs : s.size ≤ 100) : SmallS (oneV s) := .mk _ (Nat.zero_le _) (fun k hk => by
  have : k = kA1 := by simpa [oneV] using hk
  rw [this]; decide) (by simp [oneV]) (by simp [oneV]) (fun v hv => by
  have : v = leaf 3 0 s := by simpa [oneV] using hv
  rw [this]
  exact .mk _ (by show s.size ≤ _; omega) (fun k hk => by cases hk) (Nat.zero_le _) (Nat.zero_le _) (fun v hv => by cases hv))
theorem mapOf_one (s : BA) : mapOf (oneI s) = [([97], .text s)] := by
 simp [mapOf, pairsOf, oneI, anyL, anyOf, fitM]
 rfl
theorem valOf_one (s : BA) : valOf (.map [([97], .text s)]) = oneI s := by
 simp [valOf, valM, valP, oneI, kA1]
theorem iy_one : IY (Sb.AtA Sb.livesG) (.map (mapOf (oneI tA))) (.map [([97], .text tB)]) := by
 rw [mapOf_one]
 exact .map [([97], .text tA, .text tB)] (fun p hp => by
  have : p = ([97], .text tA, .text tB) := by simpa using hp
  subst this
  exact .text tA [98] (by decide) (by decide) Sb.rw_da)
theorem to_one (s : BA) (hs : s.size ≤ 100) (A3 A4 : Option Addr) (c3 c4 : Nat) (w : World) (h : Reads w (oneV s) A3 c3 A4 c4) :
  Calls Tryz.prog 11 #[.agg #[.int .i64 5, .int .i64 0, .string ⟨#[]⟩, .slice A3 1 c3, .slice A4 1 c4]] w fun e w' => ∃ B3 d3 B4 d4, e = .returned (.agg #[.int .i64 5, .int .i64 0, .string ⟨#[]⟩, .slice B3 1 d3, .slice B4 1 d4]) ∧ ReadsI w' (oneI s) B3 d3 B4 d4 ∧ Below w.heap.size w w' := by
 refine (to_calls (oneV s) (small_one s hs) A3 A4 c3 c4 w h.l3 h.hk h.l4 h.hv).mono ?_; rw [toI_one]; rintro e w1 ⟨B3, d3, B4, d4, rfl, h3, k3, h4, k4, hb⟩; exact ⟨B3, d3, B4, d4, rfl, ⟨h3, k3, h4, k4⟩, hb⟩
theorem m_one (s : BA) (A3 A4 : Option Addr) (c3 c4 : Nat) (w : World) (hx : Reads w (leaf 3 0 s) A3 c3 A4 c4) :
  Calls Tryz.prog 28 #[.slice (some ⟨w.heap.size, 0, none⟩) 2 2] (w.alloc (.cells #[.iface 9 (.string ⟨#[97]⟩), .iface 25 (.agg #[.int .i64 3, .int .i64 0, .string s, .slice A3 0 c3, .slice A4 0 c4])] 20)) fun e w' => ∃ B3 d3 B4 d4, e = .returned (.agg #[.int .i64 5, .int .i64 0, .string ⟨#[]⟩, .slice B3 1 d3, .slice B4 1 d4]) ∧ Reads w' (oneV s) B3 d3 B4 d4 ∧ Below w.heap.size w w' := by
 refine (m_gives1 w kA1 (leaf 3 0 s) A3 A4 c3 c4 hx).mono ?_; rw [maps_one]; rintro e w1 ⟨B3, d3, B4, d4, rfl, hr, hb⟩; exact ⟨B3, d3, B4, d4, rfl, hr, yb (za (Below.refl _ _) _) hb⟩
theorem itp_one (A3 A4 : Option Addr) (c3 c4 : Nat) (w : World) (h : ReadsI w (oneI tA) A3 c3 A4 c4) :
  Calls Tryz.prog 10 #[.agg #[.int .i64 5, .int .i64 0, .string ⟨#[]⟩, .slice A3 1 c3, .slice A4 1 c4], .slice (some ⟨w.heap.size, 0, none⟩) 1 1, .slice none 0 0] (w.alloc (.cells #[.string ⟨#[65]⟩, .string ⟨#[98]⟩] 63)) fun e w' => ∃ B3 d3 B4 d4, e = .returned (.tuple #[.agg #[.int .i64 5, .int .i64 0, .string ⟨#[]⟩, .slice B3 1 d3, .slice B4 1 d4], .bool true]) ∧ ReadsI w' (oneI tB) B3 d3 B4 d4 ∧ Below w.heap.size w w' := by
 have hb := za (Below.refl w.heap.size w) (.cells #[.string ⟨#[65]⟩, .string ⟨#[98]⟩] 63); have hC : kp.C (w.alloc (.cells #[.string ⟨#[65]⟩, .string ⟨#[98]⟩] 63)) (some ⟨w.heap.size, 0, none⟩) 1 (toP Sb.livesG) := Sb.one_lit w _ _ _
 have hf : FitsY (.map [([97], .text tB)]) := .map _ (by simp) (fun p hp => by
  have : p = ([97], .text tB) := by simpa using hp
  subst this; decide) (fun p hp => by
  have : p = ([97], .text tB) := by simpa using hp
  subst this; exact .text _)
 have hs : Small (oneI tA) := by rw [← toI_one]; exact small_to _ (small_one tA (by decide))
 have key := itp_impl (Sb.repl_da Sb.livesG) (oneI tA) hs rfl [([97], .text tB)] iy_one (by rw [mapOf_one]; decide) hf Sb.livesOk (by decide) A3 A4 c3 c4 (some ⟨w.heap.size, 0, none⟩) 1 _ (h.below hb) hC; rw [valOf_one] at key; refine key.mono ?_; rintro e w1 ⟨v3, v4, rfl, hv3, hv4, hb1⟩; obtain ⟨B3, d3, rfl, l3, g3⟩ := Kd.R_reads hv3; obtain ⟨B4, d4, rfl, l4, g4⟩ := Kd.R_reads hv4; exact ⟨B3, d3, B4, d4, rfl, ⟨l3, g3, l4, g4⟩, yb hb hb1⟩
theorem from_one (s : BA) (hs : s.size ≤ 100) (A3 A4 : Option Addr) (c3 c4 : Nat) (w : World) (h : ReadsI w (oneI s) A3 c3 A4 c4) :
  Calls Tryz.prog 16 #[.agg #[.int .i64 5, .int .i64 0, .string ⟨#[]⟩, .slice A3 1 c3, .slice A4 1 c4]] w fun e w' => ∃ B3 d3 B4 d4, e = .returned (.agg #[.int .i64 5, .int .i64 0, .string ⟨#[]⟩, .slice B3 1 d3, .slice B4 1 d4]) ∧ Reads w' (oneV s) B3 d3 B4 d4 ∧ Below w.heap.size w w' := by
 have hz : fromI (oneI s) = oneV s := by rw [← toI_one]; exact from_to _
 have hsm : Small (oneI s) := by rw [← toI_one]; exact small_to _ (small_one s hs)
 refine (from_calls (oneI s) (oneV s) hz hsm A3 A4 c3 c4 w h.l3 h.hk h.l4 h.hv).mono ?_; rintro e w1 ⟨B3, d3, B4, d4, rfl, h3, k3, h4, k4, hb⟩; exact ⟨B3, d3, B4, d4, rfl, ⟨h3, k3, h4, k4⟩, hb⟩
theorem same_one (s : BA) (hs : s.size ≤ 100) (A3 A4 : Option Addr) (c3 c4 : Nat) (B3 B4 : Option Addr) (d3 d4 : Nat) (w : World) (h : Reads w (oneV s) A3 c3 A4 c4) (k : Reads w (oneV s) B3 d3 B4 d4) :
  Calls Tryz.prog 15 #[.agg #[.int .i64 5, .int .i64 0, .string ⟨#[]⟩, .slice A3 1 c3, .slice A4 1 c4], .agg #[.int .i64 5, .int .i64 0, .string ⟨#[]⟩, .slice B3 1 d3, .slice B4 1 d4]] w fun e w' => e = .returned (.bool true) ∧ Below w.heap.size w w' :=
 same_calls (oneV s) (small_one s hs).short A3 A4 c3 c4 B3 B4 d3 d4 w h.l3 h.hk h.l4 h.hv k.l3 k.hk k.l4 k.hv
set_option maxHeartbeats 1600000 in
set_option maxRecDepth 100000 in
theorem interLives (w : World) : Calls Tryz.prog 9 #[] w fun e w' => e = .returned (.bool true) ∧ Below w.heap.size w w' := by
 go_enter Tryz.func9, Tryz.ntmps9
 go_wp2_with fail
 refine (tI_gives tA w).mono ?_; rintro e w1 ⟨A3, c3, A4, c4, rfl, hr, hb⟩; have HB1 := aM hb; have CM := aM (m_one tA A3 A4 c3 c4 w1 hr); clear hb hr
 go_wp2_with fail
 refine CM.out.mono ?_; rintro e w2 ⟨A3, c3, A4, c4, rfl, hr, hb⟩; have HB2 := aM (yb HB1.out hb); have CT := aM (to_one tA (by decide) A3 A4 c3 c4 w2 hr); clear hb hr CM HB1
 go_wp2_with fail
 refine CT.out.mono ?_; rintro e w3 ⟨A3, c3, A4, c4, rfl, hr, hb⟩; have HB3 := aM (yb HB2.out hb); have CI := aM (itp_one A3 A4 c3 c4 w3 hr); clear hb hr CT HB2
 go_wp2_with fail
 refine CI.out.mono ?_; rintro e w4 ⟨A3, c3, A4, c4, rfl, hr, hb⟩; have hbn := za (Below.refl w4.heap.size w4) (.cells #[.int .i64 5, .int .i64 0, .string ⟨#[]⟩, .slice A3 1 c3, .slice A4 1 c4] 33); have HB4 := aM (yb (yb HB3.out hb) hbn); have CF := aM (from_one tB (by decide) A3 A4 c3 c4 _ (hr.below hbn)); clear hb hr CI HB3 hbn
 go_wp2_with fail
 refine CF.out.mono ?_; rintro e w5 ⟨A3, c3, A4, c4, rfl, hr, hb⟩; have HB5 := aM (yb HB4.out hb); have HR5 := aM hr; clear hb hr CF HB4
 go_wp2_with fail
 refine (tI_gives tB w5).mono ?_; rintro e w6 ⟨B3, d3, B4, d4, rfl, hr, hb⟩; have HB6 := aM (yb HB5.out hb); have HR6 := aM (HR5.out.below hb); have CM := aM (m_one tB B3 B4 d3 d4 w6 hr); clear hb hr HB5 HR5
 go_wp2_with fail
 refine CM.out.mono ?_; rintro e w7 ⟨B3, d3, B4, d4, rfl, hr, hb⟩; have HB7 := aM (yb HB6.out hb); have CS := aM (same_one tB (by decide) A3 A4 c3 c4 B3 B4 d3 d4 w7 (HR6.out.below hb) hr); clear hb hr CM HB6 HR6
 go_wp2_with fail
 refine CS.out.mono ?_; rintro e w8 ⟨rfl, hb⟩; have HB8 := aM (yb HB7.out hb); clear hb CS
 go_wp2
 go_ret
 exact ⟨rfl, HB8.out⟩
end Go.Proofs.YtjcffojiacgocaaGreatDoor.Tr
namespace Go.Proofs.YtjcffojiacgocaaGreatDoor.Tr
open Go.RowKit Go.Proofs.YtjcffojiacgocaaGreatDoorW.PrintWords Go.Proofs.YtjcffojiacgocaaGreatDoorW.PrintLast Go.Proofs.YtjcffojiacgocaaGreatDoor.Str Go.Proofs.YtjcffojiacgocaaGreatDoor.Kit Go.Proofs.YtjcffojiacgocaaGreatDoor.MapV Go.Proofs.YtjcffojiacgocaaGreatDoor.Frame Go.Proofs.YtjcffojiacgocaaGreatDoor.PS
open Go.Proofs.YtjcffojiacgocaaGreatDoor.Maps (kp toP Ok encP ofP fitsP)
open Go.Proofs.YtjcffojiacgocaaGreatDoor.RowKit (vol small_vol)
theorem toV_reads (y : VS) (hy : SmallS y) {u0 u1 : Int} {u2 : BA} {u3 : List BA} {u4 : List VI} (hu : toI y = ⟨u0, u1, u2, u3, u4⟩) (A3 A4 : Option Addr) (c3 c4 : Nat) (w : World) (h : Reads w y A3 c3 A4 c4) : Calls Tryz.prog 11 #[.agg #[.int .i64 y.f0, .int .i64 y.f1, .string y.f2, .slice A3 y.f3.length c3, .slice A4 y.f4.length c4]] w fun e w' => ∃ B3 d3 B4 d4, e = .returned (.agg #[.int .i64 u0, .int .i64 u1, .string u2, .slice B3 u3.length d3, .slice B4 u4.length d4]) ∧ ReadsI w' ⟨u0, u1, u2, u3, u4⟩ B3 d3 B4 d4 ∧ Below w.heap.size w w' := by
 refine (to_calls y hy A3 A4 c3 c4 w h.l3 h.hk h.l4 h.hv).mono ?_; rw [hu]; rintro e w1 ⟨B3, d3, B4, d4, rfl, h3, k3, h4, k4, hb⟩; exact ⟨B3, d3, B4, d4, rfl, ⟨h3, k3, h4, k4⟩, hb⟩
theorem itp_back (y : VS) (hyc : Canon y) (hys : SmallS y) (h5 : y.f0 = 5) (hv : volY (anyOf (toI y)) ≤ 1048576) {g : List (Bs × BA)} {n : Nat} (hg : Ok n g) (hn : n ≤ 17179869184) {u0 u1 : Int} {u2 : BA} {u3 : List BA} {u4 : List VI} (hu : toI (dblV y) = ⟨u0, u1, u2, u3, u4⟩) {v : VI} (hvi : toI y = v)
  (A3 A4 : Option Addr) (c3 c4 : Nat) (A : Option Addr) (c : Nat) (w : World) (h1 : ReadsI w ⟨u0, u1, u2, u3, u4⟩ A3 c3 A4 c4) (h2 : kp.C w A (toP g).length (toP g)) :
  Calls Tryz.prog 10 #[.agg #[.int .i64 u0, .int .i64 u1, .string u2, .slice A3 u3.length c3, .slice A4 u4.length c4], .slice A (toP g).length c, .slice none 0 0] w (Told w v) := by
 have hz5 := dbl_f0 h5; have e1 := any_map5 h5; have e2 := any_map5 hz5; have hiy := iy_dbl hyc hys hv; have hvd := vol_dbl hyc; have hsd := small_dbl hys hyc hv; rw [e1] at hiy hvd hv; rw [e2] at hiy hvd; have hsz := small_to _ hsd
 have hf0 : (toI (dblV y)).f0 = 5 := by rw [toI_eq]; exact hz5
 have hfit : FitsY (.map (mapOf (toI y))) := by rw [← e1]; exact (small_fits (small_to y hys)).1
 have hbk : valOf (.map (mapOf (toI y))) = toI y := by rw [← e1]; exact canon_back hyc
 rw [hu] at hiy hvd hsz hf0; have key := itp_impl (Sb.repl_twice g) ⟨u0, u1, u2, u3, u4⟩ hsz hf0 (mapOf (toI y)) hiy (by omega) hfit hg hn A3 A4 c3 c4 A c w h1 h2; rw [hbk, hvi] at key; exact key
set_option maxHeartbeats 6400000 in
set_option maxRecDepth 100000 in
theorem lawEsc (x : VS) (hx : vol x ≤ 1048576) (A3 A4 : Option Addr) (c3 c4 : Nat) (A : Option Addr) (c : Nat) (xs : List (BA × BA)) (w : World) (h : Reads w x A3 c3 A4 c4) (he : kp.C w A xs.length xs) :
  Calls Tryz.prog 3 #[.agg #[.int .i64 x.f0, .int .i64 x.f1, .string x.f2, .slice A3 x.f3.length c3, .slice A4 x.f4.length c4], .slice A xs.length c] w fun e w' => e = .returned (.bool true) ∧ Below w.heap.size w w' := by
 have hxs := small_vol x hx; have hb1 := za (Below.refl w.heap.size w) (.cells #[.int .i64 x.f0, .int .i64 x.f1, .string x.f2, .slice A3 x.f3.length c3, .slice A4 x.f4.length c4] 25); have hxb := yk w (.cells #[.int .i64 x.f0, .int .i64 x.f1, .string x.f2, .slice A3 x.f3.length c3, .slice A4 x.f4.length c4] 25); have HB := aM hb1; have HX := aM hxb; have HRD := aM (h.below hb1); have HE := aM he; have CZ := aM (fits_reads x A3 A4 c3 c4 _ HRD.out); clear hb1 h he
 go_enter Tryz.func3, Tryz.ntmps3
 go_wp2_with (refine xx (.tmp 2) rfl rfl rfl hxb ?_)
 refine CZ.out.mono ?_; rintro e w1 ⟨b, rfl, hb⟩; have HB1 := aM (yb HB.out hb); have hx1 := (hb.block _ (yc HX.out)).trans HX.out; have HRD1 := aM (HRD.out.below hb); clear hb HB HX HRD CZ hxb
 cases b
 ·go_wp2
  go_ret
  exact ⟨rfl, HB1.out⟩
 have CZ3 := aM (Go.Proofs.YtjcffojiacgocaaGreatDoor.Maps.zzFits3 (c := c) w1 (Kd.C_below HE.out HB1.out))
 go_wp2_with fail
 refine CZ3.out.mono ?_; rintro e w2 ⟨rfl, hb⟩; have HB2 := aM (yb HB1.out hb); have hx2 := (hb.block _ (yc hx1)).trans hx1; have HRD2 := aM (HRD1.out.below hb); clear hb hx1 HB1 HRD1 CZ3
 by_cases hft : fitsP xs
 rotate_left
 ·rw [decide_eq_false hft]; clear hft
  go_wp2
  go_ret
  exact ⟨rfl, HB2.out⟩
 rw [decide_eq_true hft]; have HF := aM hft; clear hft; have CF := aM (fit_gives x hxs A3 A4 c3 c4 w2 HRD2.out); have hyv : volY (anyOf (toI (fitV x))) ≤ 1048576 := Nat.le_trans (vol_fit x) hx; have hys : SmallS (fitV x) := (fit_facts x hxs).1; have hyc : Canon (fitV x) := canon_fit x hxs; generalize fitV x = y at CF hyv hys hyc; have HYV := aM hyv; have HYS := aM hys; have HYC := aM hyc; clear hyv hys hyc hxs hx
 go_wp2_with (refine xx (.tmp 2) rfl rfl rfl hx2 ?_)
 refine CF.out.mono ?_; rintro e w3 ⟨E3, f3, E4, f4, rfl, hrd, hb⟩; have HB3' := aM (yb HB2.out hb); have hx3 := (hb.block _ (yc hx2)).trans hx2; have hlt2 := yc hx2; have hg := yi w3 w.heap.size #[.int .i64 y.f0, .int .i64 y.f1, .string y.f2, .slice E3 y.f3.length f3, .slice E4 y.f4.length f4]; have HB4 := aM (zm HB3'.out (some w.heap.size) HB3'.out.size hg (fun k hk => by injection hk with hk; omega)); have HRD4 := aM (hrd (w3.setRow w.heap.size #[.int .i64 y.f0, .int .i64 y.f1, .string y.f2, .slice E3 y.f3.length f3, .slice E4 y.f4.length f4]) (fun k hk _ => setRow_other w3 w.heap.size k _ (by omega))); have hx4 := setRow_heap w3 w.heap.size _ #[.int .i64 y.f0, .int .i64 y.f1, .string y.f2, .slice E3 y.f3.length f3, .slice E4 y.f4.length f4] _ _ hx3; clear hb CF hrd HRD2 hlt2 HB2 hg HB3'
 obtain ⟨w4, hw4⟩ : ∃ w4, w3.setRow w.heap.size #[.int .i64 y.f0, .int .i64 y.f1, .string y.f2, .slice E3 y.f3.length f3, .slice E4 y.f4.length f4] = w4 := ⟨_, rfl⟩
 rw [hw4] at HRD4 HB4 hx4; have HW4 := aM hw4; clear hw4; have y0' := (cell_row5 hx4).1
 by_cases h5 : y.f0 = 5
 rotate_left
 ·have b5 : ((y.f0 : Int) != 5) = true := by simpa using h5
  have b6 : ((y.f0 : Int) == 5) = false := by simpa using h5
  have CL := aM (interLives w4); clear h5
  go_wp2_with (refine xt (.tmp 2) (.tmp 16) rfl rfl rfl rfl hx3 ?_; rw [HW4.out]; clear hx3)
  refine CL.out.mono ?_; rintro e w5 ⟨rfl, hb⟩; have HB5 := aM (yb HB4.out hb); clear hb CL
  go_wp2
  go_ret
  exact ⟨rfl, HB5.out⟩
 have b5 : ((y.f0 : Int) != 5) = false := by simpa using h5
 have CD := aM (dbl_all HYS.out (texts_of HYC.out (by have := HYV.out; omega)) E3 E4 f3 f4 (fun k => k < w4.heap.size) w4 (RF.of HYS.out HRD4.out) (fun k hk => hk)); have HSD := aM (small_dbl HYS.out HYC.out HYV.out)
 obtain ⟨v, hv⟩ : ∃ v, toI y = v := ⟨_, rfl⟩
 have HUS := aM (show Small v by rw [← hv]; exact small_to y HYS.out); have HFR := aM (show fromI v = y by rw [← hv]; exact from_to y)
 obtain ⟨u, hu⟩ : ∃ u, toI (dblV y) = u := ⟨_, rfl⟩
 obtain ⟨u0, u1, u2, u3, u4⟩ := u; have CIT := aM (fun {g : List (Bs × BA)} {n : Nat} (hg : Ok n g) (hn : n ≤ 17179869184) => itp_back y HYC.out HYS.out h5 HYV.out hg hn hu hv); have HU := aM hu; obtain ⟨v0, v1, v2, v3, v4⟩ := v; clear h5 hu hv HYC; generalize dblV y = z at CD HSD HU
 go_wp2_with (first | (refine xt (.tmp 2) (.tmp 16) rfl rfl rfl rfl hx3 ?_; rw [HW4.out]; clear hx3) | refine xx (.tmp 2) rfl rfl rfl hx4 ?_)
 refine CD.out.mono ?_; rintro e w5 ⟨D3, d3, D4, d4, rfl, hrf, hb⟩; have HB5 := aM (yb HB4.out hb); have hx5 := (hb.block _ (yc hx4)).trans hx4; have HRD5 := aM (HRD4.out.below hb); have CT := aM (toV_reads z HSD.out HU.out D3 D4 d3 d4 w5 hrf.reads); clear hb hrf CD hx4 HRD4 HB4 y0' b5
 go_wp2_with fail
 refine CT.out.mono ?_; rintro e w6 ⟨L3, l3, L4, l4, rfl, hl, hb⟩; have HB6 := aM (yb HB5.out hb); have hx6 := (hb.block _ (yc hx5)).trans hx5; have HRD6 := aM (HRD5.out.below hb); have HL6 := aM hl; have CP := aM (Go.Proofs.YtjcffojiacgocaaGreatDoor.Maps.FitPairs (c := c) xs w6 (Kd.C_below HE.out HB6.out) HF.out.1); have HOK := aM (Go.Proofs.YtjcffojiacgocaaGreatDoor.Maps.Ok.fit HF.out); clear hb hl CT hx5 HRD5 HB5; generalize fitM (ofP xs) = f at CP HOK
 go_wp2_with fail
 refine CP.out.mono ?_; rintro e w7 ⟨vp, rfl, hr, hb⟩; have HB7 := aM (yb HB6.out hb); have hx7 := (hb.block _ (yc hx6)).trans hx6; have HRD7 := aM (HRD6.out.below hb); have HL7 := aM (HL6.out.below hb); obtain ⟨G3, g3, rfl, m3, n3⟩ := Kd.R_reads hr; have CQ := aM (Go.Proofs.YtjcffojiacgocaaGreatDoor.Maps.pairsTo (c := g3) (toP f) w7 n3 (HOK.out.len (by decide))); clear hb hr CP hx6 HRD6 HB6 HL6 n3 m3
 go_wp2_with fail
 refine CQ.out.mono ?_; rintro e w7b ⟨vp, rfl, hr, hb⟩; have HB7b := aM (yb HB7.out hb); have hx7b := (hb.block _ (yc hx7)).trans hx7; have HRD7b := aM (HRD7.out.below hb); obtain ⟨H3, h3, rfl, m3, n3⟩ := Kd.R_reads hr; have CI := aM (CIT.out HOK.out (by decide) L3 L4 l3 l4 H3 h3 w7b (HL7.out.below hb) n3); clear hb hr CQ hx7 HRD7 HB7 HL7 n3 m3
 go_wp2_with fail
 refine CI.out.mono ?_; rintro e w8 ⟨vp3, vp4, rfl, hv3, hv4, hb⟩; obtain ⟨P3, p3, rfl, q3, r3⟩ := Kd.R_reads hv3; obtain ⟨P4, p4, rfl, q4, r4⟩ := Kd.R_reads hv4; have hbn := za (Below.refl w8.heap.size w8) (.cells #[.int .i64 v0, .int .i64 v1, .string v2, .slice P3 v3.length p3, .slice P4 v4.length p4] 33); have hbb := yb hb hbn; have HB8 := aM (yb HB7b.out hbb); have HX8 := aM ((hbb.block _ (yc hx7b)).trans hx7b); have HRY := aM (HRD7b.out.below hbb); have HP8 := aM (yk w8 (.cells #[.int .i64 v0, .int .i64 v1, .string v2, .slice P3 v3.length p3, .slice P4 v4.length p4] 33)); have HPR := aM ((show ReadsI w8 ⟨v0, v1, v2, v3, v4⟩ P3 p3 P4 p4 from ⟨q3, r3, q4, r4⟩).below hbn); obtain ⟨x0, x1, x2, x3, x4⟩ := cell_row5 HP8.out; obtain ⟨x5, x6, x7, x8, x9⟩ := cell_row5 HX8.out; clear hb hbn hbb hv3 hv4 r3 r4 q3 q4 CI hx7b HRD7b HB7b
 go_wp2
 generalize hW1 : w8.alloc _ = W1 at HB8 HRY HPR x0 x1 x2 x3 x4 x5 x6 x7 x8 x9 HX8 HP8 ⊢; clear hW1 HX8 HP8; have HB0 := aM (zr (Below.refl W1.heap.size W1)); refine xb (n := 11) (S := fun w' => w'.cell? ⟨w8.heap.size, 0, none⟩ = some (.int .i64 v0) ∧ w'.cell? ⟨w8.heap.size, 1, none⟩ = some (.int .i64 v1) ∧ w'.cell? ⟨w8.heap.size, 2, none⟩ = some (.string v2) ∧ w'.cell? ⟨w8.heap.size, 3, none⟩ = some (.slice P3 v3.length p3) ∧ w'.cell? ⟨w8.heap.size, 4, none⟩ = some (.slice P4 v4.length p4) ∧ w'.cell? ⟨w.heap.size, 0, none⟩ = some (.int .i64 y.f0) ∧ w'.cell? ⟨w.heap.size, 1, none⟩ = some (.int .i64 y.f1) ∧ w'.cell? ⟨w.heap.size, 2, none⟩ = some (.string y.f2) ∧ w'.cell? ⟨w.heap.size, 3, none⟩ = some (.slice E3 y.f3.length f3) ∧ w'.cell? ⟨w.heap.size, 4, none⟩ = some (.slice E4 y.f4.length f4)) (ds := [5, 8]) (bZ 11 0) (by kernel_rfl) rfl rfl ⟨x0, x1, x2, x3, x4, x5, x6, x7, x8, x9⟩ (fun hHeld => ?_); refine pU 0 (some 31) (bZ 11 1) rfl (by kernel_rfl) ?_; refine pU 1 (some 32) (bZ 11 3) rfl (by kernel_rfl) ?_; refine tU 2 (some 33) (bZ 11 7) rfl (by kernel_rfl) (Or.inl ⟨by rfl, by rintro w' ⟨s0, s1, s2, s3, s4, s5, s6, s7, s8, s9⟩; go_simp; with_reducible rfl⟩) hHeld ?_; refine tU 4 (some 35) (bZ 11 23) rfl (by kernel_rfl) (Or.inl ⟨by rfl, by rintro w' ⟨s0, s1, s2, s3, s4, s5, s6, s7, s8, s9⟩; go_simp; with_reducible rfl⟩) hHeld ?_; refine one_ (i := 3) (N := some 34) (bZ 11 31) rfl rfl (by kernel_rfl) (by decide) (fun K hK => ?_); refine vn Tryz.func16 (by kernel_rfl) rfl #[.agg #[.int .i64 v0, .int .i64 v1, .string v2, .slice P3 v3.length p3, .slice P4 v4.length p4]] (by rfl) rfl rfl (by simp only [List.map_toArray, List.map_cons, List.map_nil]; rfl) ?_
 with_reducible refine (from_calls ⟨v0, v1, v2, v3, v4⟩ y HFR.out HUS.out P3 P4 p3 p4 W1.drew (HPR.out.below HB0.out).l3 (HPR.out.below HB0.out).hk (HPR.out.below HB0.out).l4 (HPR.out.below HB0.out).hv).mono ?_
 rintro e t1 ⟨F3, F5, F4, F6, rfl, f3_, g3_, f4_, g4_, hb1⟩; refine ⟨_, rfl, ?_⟩; have F_ := aM (And.intro f3_ (And.intro g3_ (And.intro f4_ g4_))); have HC1 := aM (yb HB0.out hb1); clear f3_ g3_ f4_ g4_; refine hK.out _ _ ⟨zf hb1 hHeld.1, zf hb1 hHeld.2.1, zf hb1 hHeld.2.2.1, zf hb1 hHeld.2.2.2.1, zf hb1 hHeld.2.2.2.2.1, zf hb1 hHeld.2.2.2.2.2.1, zf hb1 hHeld.2.2.2.2.2.2.1, zf hb1 hHeld.2.2.2.2.2.2.2.1, zf hb1 hHeld.2.2.2.2.2.2.2.2.1, zf hb1 hHeld.2.2.2.2.2.2.2.2.2⟩ (fun hHeld => ?_); clear hK K; refine zq (a' := ?_) ?_ ?_; rotate_left
 ·show Act.put _ (some 34) _ = _
  simp only [Act.put, sA, sB, sC, zo, zt]; rfl
 refine xg (i := 5) (N := some 36) (bZ 11 63) rfl rfl (by kernel_rfl) (by decide) (fun K hK => ?_); refine vn Tryz.func15 (by kernel_rfl) rfl #[.agg #[.int .i64 y.f0, .int .i64 y.f1, .string y.f2, .slice F3 y.f3.length F5, .slice F4 y.f4.length F6], .agg #[.int .i64 y.f0, .int .i64 y.f1, .string y.f2, .slice E3 y.f3.length f3, .slice E4 y.f4.length f4]] (by rfl) rfl rfl (by simp only [List.map_toArray, List.map_cons, List.map_nil]; rfl) ?_
 with_reducible refine (same_calls y HYS.out.short F3 F4 F5 F6 E3 E4 f3 f4 t1 F_.out.1 F_.out.2.1 F_.out.2.2.1 F_.out.2.2.2 (HRY.out.below HC1.out).l3 (HRY.out.below HC1.out).hk (HRY.out.below HC1.out).l4 (HRY.out.below HC1.out).hv).mono ?_
 rintro e t2 ⟨rfl, hb2⟩; refine ⟨_, rfl, ?_⟩; have HC2 := aM (yb HC1.out hb2); refine hK.out _ _ ?_; clear hK K; refine zq (a' := ?_) ?_ ?_; rotate_left
 ·show Act.put _ (some 36) _ = _
  simp only [Act.put, sA, sB, sC, zo, zt]; rfl
 refine pU 6 (some 37) (bZ 11 127) rfl (by kernel_rfl) ?_; refine pU 7 (some 38) (bZ 11 255) rfl (by kernel_rfl) ?_; refine xg (i := 8) (N := some 39) (bZ 11 511) rfl rfl (by kernel_rfl) (by decide) (fun K hK => ?_); refine vn Tryz.func9 (by kernel_rfl) rfl #[] (by rfl) rfl rfl (by simp only [List.map_toArray, List.map_cons, List.map_nil]) ?_
 with_reducible refine (interLives t2).mono ?_
 rintro e t3 ⟨rfl, hb3⟩; refine ⟨_, rfl, ?_⟩; have HC3 := aM (yb HC2.out hb3); refine hK.out _ _ ?_; clear hK K; refine zq (a' := ?_) ?_ ?_; rotate_left
 ·show Act.put _ (some 39) _ = _
  simp only [Act.put, sA, sB, sC, zo, zt]; rfl
 refine pU 9 (some 40) (bZ 11 1023) rfl (by kernel_rfl) ?_; refine pU 10 (some 4) (bZ 11 2047) rfl (by kernel_rfl) ?_; refine xl (by kernel_rfl) ?_
 go_wp2
 go_ret
 exact ⟨rfl, yb HB8.out HC3.out⟩
theorem lawEscRow (x : VS) (A3 A4 : Option Addr) (c3 c4 : Nat) (A : Option Addr) (c : Nat) (xs : List (BA × BA)) (w : World) (h3 : x.f3.length ≤ c3) (hk : Kd.string.C w A3 x.f3.length x.f3) (h4 : x.f4.length ≤ c4) (hv : kS.C w A4 x.f4.length x.f4) (hx : vol x ≤ 1048576) (he : kp.C w A xs.length xs) (hc : xs.length ≤ c) (hT : True) :
  Calls Tryz.prog 3 #[.agg #[.int .i64 x.f0, .int .i64 x.f1, .string x.f2, .slice A3 x.f3.length c3, .slice A4 x.f4.length c4], .slice A xs.length c] w fun e w' => e = .returned (.bool true) ∧ Below w.heap.size w w' := lawEsc x hx A3 A4 c3 c4 A c xs w ⟨h3, hk, h4, hv⟩ he
end Go.Proofs.YtjcffojiacgocaaGreatDoor.Tr
namespace Go.Proofs.YtjcffojiacgocaaGreatDoor.DTabsFnInterpolateEscaped
open Go.RowKit Go.Lib
theorem any {W : World} (hL : laidMetH Tryz.prog Rows.fnInterpolateEscapedUptoRow.laid W) : True := trivial
end Go.Proofs.YtjcffojiacgocaaGreatDoor.DTabsFnInterpolateEscaped
namespace Go.Proofs.YtjcffojiacgocaaGreatDoor.RowKit
open Go.RowKit Go.ChangeShapes Go.WideShapes Go.ChangeAt Go.Proofs.YtjcffojiacgocaaGreatDoorW.PrintWords Go.Proofs.YtjcffojiacgocaaGreatDoor.Str Go.Proofs.YtjcffojiacgocaaGreatDoor.Kit Go.Proofs.YtjcffojiacgocaaGreatDoor.Maps
theorem add_add (a : Addr) (i j : Nat) : (a.add i).add j = a.add (i + j) := by
 unfold Addr.add
 by_cases h : i = 0
 ·subst h; simp
 ·by_cases k : j = 0
  ·subst k; simp
  ·simp [h, k, Nat.add_assoc]
theorem rows_of {W : World} {ad : Addr} : ∀ (len : Nat), (∀ i, i < len → ∃ p : ByteArray × ByteArray, W.cell? (ad.add (i * 2)) = some (.string p.1) ∧ W.cell? (ad.add (i * 2 + 1)) = some (.string p.2)) →
  ∃ xs : List (ByteArray × ByteArray), xs.length = len ∧ ∀ (i : Nat) (hi : i < xs.length), W.cell? (ad.add (i * 2)) = some (.string xs[i].1) ∧ W.cell? (ad.add (i * 2 + 1)) = some (.string xs[i].2)
 | 0, _ => ⟨[], rfl, fun i hi => absurd hi (by simp)⟩
 | m + 1, each => by
  obtain ⟨xs, hx, hg⟩ := rows_of m (fun i hi => each i (by omega)); obtain ⟨p, hp⟩ := each m (by omega); refine ⟨xs ++ [p], by simp [hx], fun i hi => ?_⟩
  by_cases h : i < xs.length
  ·rw [List.getElem_append_left h]; exact hg i h
  ·have : i = m := by simp at hi; omega
   subst this; subst hx
   simpa using hp
theorem pairs_arg {H : Type} {enc : TypeId × Value → H} {P : Program} {W : World} {base : Nat} {spare : Nat → Bool} {held : Bool} {t e : TypeId} {f0 f1 : Field} {a : Option Addr} {len cap : Nat} {d : DataW H} {ps : List MemPlace}
  (ht : P.underlying t = some (.slice e)) (he : P.underlying e = some (.struct #[f0, f1])) (h0 : P.underlying f0.type = some .string) (h1 : P.underlying f1.type = some .string)
  (c0 : P.cellsOf f0.type = 1) (c1 : P.cellsOf f1.type = 1) (o0 : f0.offset = 0) (o1 : f1.offset = 1)
  (hc : P.cellsOf e = 2) (h : DataW.Trod enc P W base spare held t (.slice a len cap) d ps) :
  ∃ xs : List (ByteArray × ByteArray), xs.length = len ∧ len ≤ cap ∧ kp.C W a xs.length xs := by
 obtain ⟨fuel, hf⟩ := h
 rcases DataW.trod_slice ht hf with ⟨hcs, hx⟩ | ⟨ad, l, c, elems, rest, n, _, hcs, _, hb, hl, hm, hlen, hel, _, _⟩
 ·simp [Value.cells] at hcs
  obtain ⟨rfl, rfl, rfl⟩ := hcs; exact ⟨[], rfl, by omega, ⟨rfl, by simp, fun h => absurd h (by simp)⟩⟩
 ·simp [Value.cells] at hcs
  obtain ⟨rfl, rfl, rfl⟩ := hcs
  have each : ∀ i, i < len → ∃ p : ByteArray × ByteArray, W.cell? (ad.add (i * 2)) = some (.string p.1) ∧ W.cell? (ad.add (i * 2 + 1)) = some (.string p.2) := by
   intro i hi; have h2 := hel i hi; rw [List.getElem?_eq_getElem (by omega), hc, Option.bind_eq_some_iff] at h2; obtain ⟨cs, h3, h4⟩ := h2; obtain ⟨y0, y1, m, _, hcl, t0, t1⟩ := trod_struct2 he h4; obtain ⟨s0, e0, _⟩ := DataW.trod_string h0 t0; obtain ⟨s1, e1, _⟩ := DataW.trod_string h1 t1; rw [c0, o0] at e0; rw [c1, o1] at e1; obtain ⟨_, _, h5⟩ := World.cells?_some h3; have g0 := h5 0 (by omega); have g1 := h5 1 (by omega)
   have hcs0 : cs[0]? = some (.string s0) := by
    have := congrArg (fun l => l[0]?) e0
    simpa using this
   have hcs1 : cs[1]? = some (.string s1) := by
    have := congrArg (fun l => l[0]?) e1
    simpa using this
   rw [hcs0] at g0; rw [hcs1] at g1; exact ⟨(s0, s1), by rw [add_add] at g0; exact g0, by rw [add_add] at g1; exact g1⟩
  have hxs := rows_of len each; obtain ⟨xs, hx, hg⟩ := hxs; refine ⟨xs, hx, hl, ⟨rfl, by unfold maxLen at hm; omega, fun _ => ⟨ad, rfl, fun j p hp => ?_⟩⟩⟩; obtain ⟨hj, rfl⟩ := List.getElem?_eq_some_iff.1 hp; refine ⟨encP xs[j], rfl, rfl, fun i u hu => ?_⟩; have hi : i < 2 := (List.getElem?_eq_some_iff.1 hu).1
  have hi' : i = 0 ∨ i = 1 := by omega
  show W.cell? (ad.add (j * 2 + i)) = some u
  rcases hi' with rfl | rfl
  ·rw [Nat.add_zero, (hg j hj).1]; exact hu
  ·rw [(hg j hj).2]; exact hu
end Go.Proofs.YtjcffojiacgocaaGreatDoor.RowKit
