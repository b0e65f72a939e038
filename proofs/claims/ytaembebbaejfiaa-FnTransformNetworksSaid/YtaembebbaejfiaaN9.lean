/- Parts of the proof, laid together: TransNets, TransNetsMap, Back, LawNets, RowKit, ValArg. -/
import Derived.Test.YtaembebbaejfiaaN8
import Derived.Test.YtaembebbaejfiaaN6
import Derived.Test.YtaembebbaejfiaaN3
import Derived.Test.YtaembebbaejfiaaRows
import Derived.ProofKit
import Derived.OpenShut
import Derived.ShutString
import Derived.ChangeOld
import Derived.Below
import Derived.SizedLaws
import Derived.SliceStrings
namespace Go.Proofs.Ytaembebbaejfiaa.Tr
open Go.RowKit Go.Proofs.YtaembebbaejfiaaW.PrintWords Go.Proofs.YtaembebbaejfiaaW.PrintLast Go.Proofs.Ytaembebbaejfiaa.Str Go.Proofs.Ytaembebbaejfiaa.Kit Go.Proofs.Ytaembebbaejfiaa.MapV Go.Proofs.Ytaembebbaejfiaa.Frame Go.Proofs.Ytaembebbaejfiaa.PS
set_option linter.unusedVariables false
set_option linter.unusedSimpArgs false
theorem told_at {fn : Func} {p q : Tmp} (hr : fn.results = #[.cell p 36, .tmp q]) {tmps : Array Value} {W : World} {b n3 c3 n4 c4 : Nat} {k n : Int} {t : BA} {A3 A4 : Option Addr} (hp : tmps.getD p undef = .pointer (some ⟨b, 0, none⟩)) (h3 : tmps.getD q undef = .bool true) (hb : W.heap[b]? = some (.cells #[.int .i64 k, .int .i64 n, .string t, .slice A3 n3 c3, .slice A4 n4 c4] 36 (0, 0))) :
  (results fn tmps).run Try.prog W = .ok (.tuple #[.agg #[.int .i64 k, .int .i64 n, .string t, .slice A3 n3 c3, .slice A4 n4 c4], .bool true]) W := by
 have := results_ct (P := Try.prog) hr tmps W b 36 _ (0, 0) _ hp hb Try.underlying36 rfl ival_size
 rw [h3] at this
 exact this
set_option maxHeartbeats 800000 in
theorem impl_value {v : Value} {y : Y} {F : Nat → Prop} (w : World) (hy : FitsY y) (ha : AR w v y F) : Calls Try.prog 28 #[v, .nilIface] w (Told w (valOf y)) := by
 have h0 := aM (cb_new w (.cells #[.int .i64 0, .int .i64 0, .string ⟨#[]⟩, .slice none 0 0, .slice none 0 0] 36))
 have HB := aM (below_alloc (Below.refl w.heap.size w) (.cells #[.int .i64 0, .int .i64 0, .string ⟨#[]⟩, .slice none 0 0, .slice none 0 0] 36))
 have CM := aM (from_any hy v _ (w.alloc (.cells #[.int .i64 0, .int .i64 0, .string ⟨#[]⟩, .slice none 0 0, .slice none 0 0] 36)) (ha.keep HB.out))
 clear ha
 generalize valOf y = x at CM
 obtain ⟨x0, x1, x2, x3, x4⟩ := x
 go_enter Try.func28, Try.ntmps28
 go_wp2_with fail
 refine CM.out.mono ?_
 rintro e w3 ⟨v3, v4, rfl, hv3, hv4, hb3⟩
 obtain ⟨A3, c3, rfl⟩ := Kd.R_slice hv3
 obtain ⟨A4, c4, rfl⟩ := Kd.R_slice hv4
 have h1 := (hb3.block _ (cb_lt h0.out)).trans h0.out
 have hg := grown_setRow w3 w.heap.size #[.int .i64 x0, .int .i64 x1, .string x2, .slice A3 x3.length c3, .slice A4 x4.length c4]
 have HX := aM (setRow_heap _ w.heap.size _ #[.int .i64 x0, .int .i64 x1, .string x2, .slice A3 x3.length c3, .slice A4 x4.length c4] _ _ h1)
 have hb := hb_then HB.out hb3
 have HB8 := aM (pw_below_grown hb (some w.heap.size) hb.size hg (fun k hk => by have := Option.some.inj hk; omega))
 have hbase := HB.out.size
 have hlt := cb_lt h0.out
 have H3 := aM (Kd.R_lower (base' := w.heap.size) (Kd.R_mono (ok' := fun _ => True) (Kd.R_move (Kd.R_bound hv3) (fun k hk => hg.block k hk.2.2.1 (fun e => by have h2 := Option.some.inj e; have h3 := hk.2.1; omega))) (fun _ _ => trivial)) hbase)
 have H4 := aM (Kd.R_lower (base' := w.heap.size) (Kd.R_mono (ok' := fun _ => True) (Kd.R_move (Kd.R_bound hv4) (fun k hk => hg.block k hk.2.2.1 (fun e => by have h2 := Option.some.inj e; have h3 := hk.2.1; omega))) (fun _ _ => trivial)) hbase)
 clear hv3 hv4 hb3 hg hb hbase hlt HB h0 CM
 go_wp2_with (refine store_ival (.tmp 4) (.tmp 11) rfl rfl rfl rfl h1 ?_)
 exact bodyPost_ret (v := .tuple #[.agg #[.int .i64 x0, .int .i64 x1, .string x2, .slice A3 x3.length c3, .slice A4 x4.length c4], .bool true]) (told_at rfl rfl rfl HX.out) rfl ⟨.slice A3 x3.length c3, .slice A4 x4.length c4, rfl, H3.out, H4.out, HB8.out⟩
def NamedAs (w : World) (y : Y) (e : Ending) (w' : World) : Prop := ∃ v, e = .returned (.tuple #[v, .nilIface]) ∧ AR w' v y (fun k => w.heap.size ≤ k ∧ k < w'.heap.size) ∧ Below w.heap.size w w'
set_option maxHeartbeats 800000 in
theorem trans_names {y : Y} (v pv : Value) (ig : Bool) (w : World) (h : Calls Try.prog 43 #[v, pv, .bool ig] w (NamedAs w y)) :
  Calls Try.prog 29 #[v, pv, .bool ig] w (NamedAs w y) := by
 have CN := aM h
 clear h
 go_enter Try.func29, Try.ntmps29
 go_wp2_with fail
 refine CN.out.mono ?_
 rintro e w1 ⟨u, rfl, ha, hb⟩
 have HA := aM ha
 have HB := aM hb
 clear ha hb
 go_wp2
 go_ret2
 exact ⟨_, rfl, HA.out, HB.out⟩
theorem fold_mem {α : Type} : ∀ (l f : List (Bs × α)) (p : Bs × α), p ∈ l.foldl (fun f p => mput f p.1 p.2) f → p ∈ f ∨ p ∈ l
 | [], f, p, h => .inl h
 | q :: r, f, p, h => by
  rcases fold_mem r (mput f q.1 q.2) p h with h | h
  ·rcases mput_mem h with rfl | h
   ·exact .inr (by simp)
   ·exact .inl h
  ·exact .inr (by simp [h])
theorem fitM_mem {α : Type} {l : List (Bs × α)} {p : Bs × α} (h : p ∈ fitM l) : p ∈ l := by
 rcases fold_mem l [] p h with h | h
 ·simp at h
 ·exact h
theorem names_fit (ts : List BA) (hn : ts.length ≤ 1759218604400) (hs : ∀ t, t ∈ ts → t.size ≤ maxLen) : FitsY (.map (namesOf ts)) := by
 refine .map _ ?_ (fun p hp => ?_) (fun p hp => ?_)
 ·have := namesOf_length ts ts.length
  rw [List.take_length] at this
  omega
 ·obtain ⟨t, ht, rfl⟩ := List.mem_map.1 (fitM_mem hp)
  show (lb t).length ≤ maxLen
  rw [lb_length]
  exact hs t ht
 ·obtain ⟨t, ht, rfl⟩ := List.mem_map.1 (fitM_mem hp)
  exact .null
theorem AR.is_text {w : World} {v : Value} {s : BA} {F : Nat → Prop} (h : AR w v (.text s) F) : v = .iface 9 (.string s) := by cases h; rfl
theorem AR.texts {w : World} {v : Value} {ts : List BA} {F : Nat → Prop} (h : AR w v (.list (ts.map Y.text)) F) : ∃ A c, v = .iface 58 (.slice A ts.length c) ∧ kAny.C w A ts.length (ts.map (fun t => Value.iface 9 (.string t))) := by
 cases h with
 | list v zs ys _ hy hr hz hd hb hF =>
  have he : zs.map (fun z => z.1) = ts.map (fun t => Value.iface 9 (.string t)) := by
   have hl : zs.length = ts.length := by have := congrArg List.length hy; simpa using this.symm
   refine List.ext_getElem (by simp [hl]) (fun j h1 h2 => ?_)
   simp only [List.getElem_map]
   have hj : j < zs.length := by simpa using h1
   have hj2 : j < ts.length := by simpa using h2
   have e1 : (zs[j]).2.1 = Y.text (ts[j]) := by
    have h3 := congrArg (fun l => l[j]?) hy
    simpa [hj, hj2] using h3.symm
   exact AR.is_text (e1 ▸ hz zs[j] (List.getElem_mem hj))
  obtain ⟨A, c, rfl⟩ := Kd.R_slice hr
  obtain ⟨hn, hc, hC⟩ := Kd.R_reads' hr
  rw [he] at hC ⊢
  rw [List.length_map] at hC ⊢
  exact ⟨A, c, rfl, hC⟩
theorem anyOf_row (n : Int) (t : BA) (ks : List BA) (vs : List VI) : anyOf ⟨4, n, t, ks, vs⟩ = .list (anyL vs) := by simp [anyOf]
set_option maxHeartbeats 1600000 in
theorem impl_nets (x : VI) (hx : Small x) (h4 : x.f0 = 4) (ts : List BA) (hts : anyL x.f4 = ts.map Y.text) (hs : ∀ t, t ∈ ts → t.size ≤ maxLen) (ig : Bool) (A3 A4 : Option Addr) (c3 c4 : Nat) (w : World) (l3 : x.f3.length ≤ c3) (hk : Kd.string.C w A3 x.f3.length x.f3) (l4 : x.f4.length ≤ c4) (hv : kI.C w A4 x.f4.length x.f4) :
  Calls Try.prog 10 #[.agg #[.int .i64 x.f0, .int .i64 x.f1, .string x.f2, .slice A3 x.f3.length c3, .slice A4 x.f4.length c4], .bool ig] w (Told w (valOf (.map (namesOf ts)))) := by
 have hn : ts.length ≤ 1759218604400 := by
  have h1 : (anyL x.f4).length = ts.length := by rw [hts, List.length_map]
  rw [anyL_length] at h1
  have h2 : x.f4.length ≤ 1759218604400 := by cases hx; assumption
  omega
 have hb1 := below_alloc (Below.refl w.heap.size w) (.cells #[.int .i64 x.f0, .int .i64 x.f1, .string x.f2, .slice A3 x.f3.length c3, .slice A4 x.f4.length c4] 36)
 have hb2 := below_alloc hb1 (.cells #[.int .i64 0, .int .i64 0, .string ⟨#[]⟩, .slice none 0 0, .slice none 0 0] 36)
 have HB := aM hb2
 have h0 := cb_new (w.alloc (.cells #[.int .i64 x.f0, .int .i64 x.f1, .string x.f2, .slice A3 x.f3.length c3, .slice A4 x.f4.length c4] 36)) (.cells #[.int .i64 0, .int .i64 0, .string ⟨#[]⟩, .slice none 0 0, .slice none 0 0] 36)
 rw [World.size_alloc] at h0
 have H0 := aM h0
 have hxb : ((w.alloc (.cells #[.int .i64 x.f0, .int .i64 x.f1, .string x.f2, .slice A3 x.f3.length c3, .slice A4 x.f4.length c4] 36)).alloc (.cells #[.int .i64 0, .int .i64 0, .string ⟨#[]⟩, .slice none 0 0, .slice none 0 0] 36)).heap[w.heap.size]? = some (.cells #[.int .i64 x.f0, .int .i64 x.f1, .string x.f2, .slice A3 x.f3.length c3, .slice A4 x.f4.length c4] 36 (0, 0)) := blk_alloc (cb_new _ _) _
 have CA := aM (toAny x hx A3 A4 c3 c4 ((w.alloc (.cells #[.int .i64 x.f0, .int .i64 x.f1, .string x.f2, .slice A3 x.f3.length c3, .slice A4 x.f4.length c4] 36)).alloc (.cells #[.int .i64 0, .int .i64 0, .string ⟨#[]⟩, .slice none 0 0, .slice none 0 0] 36)) l3 (Kd.C_below hk hb2) l4 (Kd.C_below hv hb2))
 have HY := aM (show anyOf x = .list (ts.map Y.text) by
  obtain ⟨k, n, t, ks, vs⟩ := x
  have h4' : k = 4 := h4
  subst h4'
  rw [anyOf_row]
  exact congrArg Y.list hts)
 have HS := aM hs
 clear hb1 hb2 h0 hk hv l3 l4 h4 hts hs hx
 obtain ⟨x0, x1, x2, x3, x4⟩ := x
 obtain ⟨y, hy⟩ : ∃ y, valOf (.map (namesOf ts)) = y := ⟨_, rfl⟩
 rw [hy]
 obtain ⟨y0, y1, y2, y3, y4⟩ := y
 have HV := aM hy
 clear hy
 go_enter Try.func10, Try.ntmps10
 go_wp2_with (refine load_ival (.tmp 2) rfl rfl rfl hxb ?_)
 refine CA.out.mono ?_
 rintro e w1 ⟨v, rfl, ha, hb⟩
 rw [HY.out] at ha
 obtain ⟨A, c, rfl, hC⟩ := ha.texts
 have HC1 := aM hC
 have HB1 := aM (hb_then HB.out hb)
 have H1 := aM ((hb.block _ (cb_lt H0.out)).trans H0.out)
 clear ha hb CA hC hxb H0
 go_wp2_with fail
 refine (Mount.implAt w1).mono ?_
 rintro e w2 ⟨p, rfl, hb⟩
 have HC2 := aM (Kd.C_below HC1.out hb)
 have HB2 := aM (hb_then HB1.out hb)
 have H2 := aM ((hb.block _ (cb_lt H1.out)).trans H1.out)
 clear hb HC1 HB1 H1
 go_wp2_with fail
 refine (trans_names _ _ ig w2 (names_list ts A c (.string p) ig w2 hn HS.out HC2.out)).mono ?_
 rintro e w3 ⟨v3, rfl, ha, hb⟩
 have HA3 := aM ha
 have HB3 := aM (hb_then HB2.out hb)
 have H3 := aM ((hb.block _ (cb_lt H2.out)).trans H2.out)
 clear ha hb HC2 HB2 H2
 have cv := impl_value w3 (names_fit ts hn HS.out) HA3.out
 rw [HV.out] at cv
 have CV := aM cv
 clear cv
 go_wp2_with fail
 refine CV.out.mono ?_
 rintro e w4 ⟨u3, u4, rfl, hv3, hv4, hb4⟩
 obtain ⟨E3, d3, rfl⟩ := Kd.R_slice hv3
 obtain ⟨E4, d4, rfl⟩ := Kd.R_slice hv4
 have h1 := (hb4.block _ (cb_lt H3.out)).trans H3.out
 have hg := grown_setRow w4 (w.heap.size + 1) #[.int .i64 y0, .int .i64 y1, .string y2, .slice E3 y3.length d3, .slice E4 y4.length d4]
 have HX := aM (setRow_heap _ (w.heap.size + 1) _ #[.int .i64 y0, .int .i64 y1, .string y2, .slice E3 y3.length d3, .slice E4 y4.length d4] _ _ h1)
 have hb := hb_then HB3.out hb4
 have HB8 := aM (pw_below_grown hb (some (w.heap.size + 1)) hb.size hg (fun k hk => by have := Option.some.inj hk; omega))
 have hbase := HB3.out.size
 have hlt := cb_lt H3.out
 have G3 := aM (Kd.R_lower (base' := w.heap.size) (Kd.R_mono (ok' := fun _ => True) (Kd.R_move (Kd.R_bound hv3) (fun k hk => hg.block k hk.2.2.1 (fun e => by have h2 := Option.some.inj e; have h3 := hk.2.1; omega))) (fun _ _ => trivial)) hbase)
 have G4 := aM (Kd.R_lower (base' := w.heap.size) (Kd.R_mono (ok' := fun _ => True) (Kd.R_move (Kd.R_bound hv4) (fun k hk => hg.block k hk.2.2.1 (fun e => by have h2 := Option.some.inj e; have h3 := hk.2.1; omega))) (fun _ _ => trivial)) hbase)
 clear hv3 hv4 hb4 hg hb hbase hlt HB3 H3 CV HA3
 go_wp2_with (refine store_ival (.tmp 4) (.tmp 14) rfl rfl rfl rfl h1 ?_)
 exact bodyPost_ret (v := .tuple #[.agg #[.int .i64 y0, .int .i64 y1, .string y2, .slice E3 y3.length d3, .slice E4 y4.length d4], .bool true]) (told_at rfl rfl rfl HX.out) rfl ⟨.slice E3 y3.length d3, .slice E4 y4.length d4, rfl, G3.out, G4.out, HB8.out⟩
end Go.Proofs.Ytaembebbaejfiaa.Tr
namespace Go.Proofs.Ytaembebbaejfiaa.Tr
open Go.RowKit Go.Proofs.YtaembebbaejfiaaW.PrintWords Go.Proofs.YtaembebbaejfiaaW.PrintLast Go.Proofs.Ytaembebbaejfiaa.Str Go.Proofs.Ytaembebbaejfiaa.Kit Go.Proofs.Ytaembebbaejfiaa.MapV Go.Proofs.Ytaembebbaejfiaa.Frame Go.Proofs.Ytaembebbaejfiaa.PS
set_option linter.unusedVariables false
set_option linter.unusedSimpArgs false
theorem t_mp_lst (v : Value) (w : World) : (Instr.typeAssert (.iface 65 v) 20 58 true).run Try.prog w = .ok (.tuple #[.slice none 0 0, .bool false]) w := by kernel_rfl
set_option maxHeartbeats 800000 in
theorem names_map (u pv : Value) (ig : Bool) (w : World) :
  Calls Try.prog 43 #[.iface 65 u, pv, .bool ig] w fun e w' => e = .returned (.tuple #[.iface 65 u, .nilIface]) ∧ w = w' := by
 have f5 := t_mp_lst
 go_enter Try.func43, Try.ntmps43
 go_wp2
 go_ret2
 exact ⟨rfl, rfl⟩
set_option maxHeartbeats 800000 in
theorem trans_names_map (u pv : Value) (ig : Bool) (w : World) :
  Calls Try.prog 29 #[.iface 65 u, pv, .bool ig] w fun e w' => e = .returned (.tuple #[.iface 65 u, .nilIface]) ∧ w = w' := by
 go_enter Try.func29, Try.ntmps29
 go_wp2_with fail
 refine (names_map u pv ig w).mono ?_
 rintro e w1 ⟨rfl, rfl⟩
 go_wp2
 go_ret2
 exact ⟨rfl, rfl⟩
set_option maxHeartbeats 1600000 in
theorem impl_nets_map (x : VI) (hx : Small x) (h5 : x.f0 = 5) (hfy : FitsY (.map (mapOf x))) (ig : Bool) (A3 A4 : Option Addr) (c3 c4 : Nat) (w : World) (l3 : x.f3.length ≤ c3) (hk : Kd.string.C w A3 x.f3.length x.f3) (l4 : x.f4.length ≤ c4) (hv : kI.C w A4 x.f4.length x.f4) :
  Calls Try.prog 10 #[.agg #[.int .i64 x.f0, .int .i64 x.f1, .string x.f2, .slice A3 x.f3.length c3, .slice A4 x.f4.length c4], .bool ig] w (Told w (valOf (.map (mapOf x)))) := by
 have hb1 := below_alloc (Below.refl w.heap.size w) (.cells #[.int .i64 x.f0, .int .i64 x.f1, .string x.f2, .slice A3 x.f3.length c3, .slice A4 x.f4.length c4] 36)
 have hb2 := below_alloc hb1 (.cells #[.int .i64 0, .int .i64 0, .string ⟨#[]⟩, .slice none 0 0, .slice none 0 0] 36)
 have HB := aM hb2
 have h0 := cb_new (w.alloc (.cells #[.int .i64 x.f0, .int .i64 x.f1, .string x.f2, .slice A3 x.f3.length c3, .slice A4 x.f4.length c4] 36)) (.cells #[.int .i64 0, .int .i64 0, .string ⟨#[]⟩, .slice none 0 0, .slice none 0 0] 36)
 rw [World.size_alloc] at h0
 have H0 := aM h0
 have hxb : ((w.alloc (.cells #[.int .i64 x.f0, .int .i64 x.f1, .string x.f2, .slice A3 x.f3.length c3, .slice A4 x.f4.length c4] 36)).alloc (.cells #[.int .i64 0, .int .i64 0, .string ⟨#[]⟩, .slice none 0 0, .slice none 0 0] 36)).heap[w.heap.size]? = some (.cells #[.int .i64 x.f0, .int .i64 x.f1, .string x.f2, .slice A3 x.f3.length c3, .slice A4 x.f4.length c4] 36 (0, 0)) := blk_alloc (cb_new _ _) _
 have CA := aM (toAny x hx A3 A4 c3 c4 ((w.alloc (.cells #[.int .i64 x.f0, .int .i64 x.f1, .string x.f2, .slice A3 x.f3.length c3, .slice A4 x.f4.length c4] 36)).alloc (.cells #[.int .i64 0, .int .i64 0, .string ⟨#[]⟩, .slice none 0 0, .slice none 0 0] 36)) l3 (Kd.C_below hk hb2) l4 (Kd.C_below hv hb2))
 have HY := aM (show anyOf x = .map (mapOf x) by
  obtain ⟨k, n, t, ks, vs⟩ := x
  have h5' : k = 5 := h5
  subst h5'
  exact anyOf_map n t ks vs)
 generalize hm : mapOf x = m at HY hfy ⊢
 clear hb1 hb2 h0 hk hv l3 l4 h5 hm hx
 obtain ⟨x0, x1, x2, x3, x4⟩ := x
 obtain ⟨y, hy⟩ : ∃ y, valOf (.map m) = y := ⟨_, rfl⟩
 rw [hy]
 obtain ⟨y0, y1, y2, y3, y4⟩ := y
 have HV := aM hy
 clear hy
 go_enter Try.func10, Try.ntmps10
 go_wp2_with (refine load_ival (.tmp 2) rfl rfl rfl hxb ?_)
 refine CA.out.mono ?_
 rintro e w1 ⟨v, rfl, ha, hb⟩
 rw [HY.out] at ha
 have hv' : ∃ b, v = .iface 65 (.map (some b)) := by
  generalize hq : Y.map _ = q at ha
  cases ha <;> first | exact ⟨_, rfl⟩ | cases hq
 obtain ⟨b, rfl⟩ := hv'
 have HA1 := aM ha
 have HB1 := aM (hb_then HB.out hb)
 have H1 := aM ((hb.block _ (cb_lt H0.out)).trans H0.out)
 clear ha hb CA hxb H0
 go_wp2_with fail
 refine (Mount.implAt w1).mono ?_
 rintro e w2 ⟨p, rfl, hb⟩
 have HA2 := aM (HA1.out.keep hb)
 have HB2 := aM (hb_then HB1.out hb)
 have H2 := aM ((hb.block _ (cb_lt H1.out)).trans H1.out)
 clear hb HA1 HB1 H1
 go_wp2_with fail
 refine (trans_names_map _ _ ig w2).mono ?_
 rintro e w3 ⟨rfl, rfl⟩
 have cv := impl_value w2 hfy HA2.out
 rw [HV.out] at cv
 have CV := aM cv
 clear cv
 go_wp2_with fail
 refine CV.out.mono ?_
 rintro e w4 ⟨u3, u4, rfl, hv3, hv4, hb4⟩
 obtain ⟨E3, d3, rfl⟩ := Kd.R_slice hv3
 obtain ⟨E4, d4, rfl⟩ := Kd.R_slice hv4
 have h1 := (hb4.block _ (cb_lt H2.out)).trans H2.out
 have hg := grown_setRow w4 (w.heap.size + 1) #[.int .i64 y0, .int .i64 y1, .string y2, .slice E3 y3.length d3, .slice E4 y4.length d4]
 have HX := aM (setRow_heap _ (w.heap.size + 1) _ #[.int .i64 y0, .int .i64 y1, .string y2, .slice E3 y3.length d3, .slice E4 y4.length d4] _ _ h1)
 have hb := hb_then HB2.out hb4
 have HB8 := aM (pw_below_grown hb (some (w.heap.size + 1)) hb.size hg (fun k hk => by have := Option.some.inj hk; omega))
 have hbase := HB2.out.size
 have hlt := cb_lt H2.out
 have G3 := aM (Kd.R_lower (base' := w.heap.size) (Kd.R_mono (ok' := fun _ => True) (Kd.R_move (Kd.R_bound hv3) (fun k hk => hg.block k hk.2.2.1 (fun e => by have h2 := Option.some.inj e; have h3 := hk.2.1; omega))) (fun _ _ => trivial)) hbase)
 have G4 := aM (Kd.R_lower (base' := w.heap.size) (Kd.R_mono (ok' := fun _ => True) (Kd.R_move (Kd.R_bound hv4) (fun k hk => hg.block k hk.2.2.1 (fun e => by have h2 := Option.some.inj e; have h3 := hk.2.1; omega))) (fun _ _ => trivial)) hbase)
 clear hv3 hv4 hb4 hg hb hbase hlt HB2 H2 CV HA2
 go_wp2_with (refine store_ival (.tmp 4) (.tmp 14) rfl rfl rfl rfl h1 ?_)
 exact bodyPost_ret (v := .tuple #[.agg #[.int .i64 y0, .int .i64 y1, .string y2, .slice E3 y3.length d3, .slice E4 y4.length d4], .bool true]) (told_at rfl rfl rfl HX.out) rfl ⟨.slice E3 y3.length d3, .slice E4 y4.length d4, rfl, G3.out, G4.out, HB8.out⟩
end Go.Proofs.Ytaembebbaejfiaa.Tr
namespace Go.Proofs.Ytaembebbaejfiaa.Tr
open Go.RowKit Go.Proofs.YtaembebbaejfiaaW.PrintWords Go.Proofs.Ytaembebbaejfiaa.Str Go.Proofs.Ytaembebbaejfiaa.Kit Go.Proofs.Ytaembebbaejfiaa.MapV Go.Proofs.Ytaembebbaejfiaa.Frame Go.Proofs.Ytaembebbaejfiaa.PS
set_option linter.unusedVariables false
set_option linter.unusedSimpArgs false
inductive Norm : Y → Prop
 | null : Norm .null
 | bool (b) : Norm (.bool b)
 | int (n) : Norm (.int n)
 | text (s) : Norm (.text s)
 | list (l : List Y) (h : ∀ y, y ∈ l → Norm y) : Norm (.list l)
 | map (m : List (Bs × Y)) (hr : Rises m) (h : ∀ p, p ∈ m → Norm p.2) : Norm (.map m)
theorem mput_last {α : Type} {f : List (Bs × α)} {k : Bs} {v : α} (h : Rises (f ++ [(k, v)])) : mput f k v = f ++ [(k, v)] := by
 have hr : Rises f := h.sublist (List.sublist_append_left _ _)
 have hl : ∀ p ∈ f, p.1 < k := fun p hp => (List.pairwise_append.1 h).2.2 p hp (k, v) (by simp)
 refine rises_ext (mput_rises hr _ _) h (fun q => ?_)
 rw [mget_mput]
 by_cases hq : k = q
 ·subst hq
  rw [if_pos rfl]
  exact (mget_of_mem h (by simp)).symm
 ·rw [if_neg hq]
  cases hg : mget f q with
  | none =>
   cases hg2 : mget (f ++ [(k, v)]) q with
   | none => rfl
   | some u =>
    have := mget_some hg2
    rcases List.mem_append.1 this with h1 | h1
    ·exact absurd rfl (mget_none hg _ h1)
    ·simp at h1
     exact absurd h1.1.symm hq
  | some u => exact (mget_of_mem h (by simp [mget_some hg])).symm
theorem fitM_rises_aux {α : Type} : ∀ (l f : List (Bs × α)), Rises (f ++ l) → l.foldl (fun f p => mput f p.1 p.2) f = f ++ l
 | [], f, _ => by simp
 | (k, v) :: r, f, h => by
  have e : f ++ (k, v) :: r = (f ++ [(k, v)]) ++ r := by simp
  have h2 : mput f k v = f ++ [(k, v)] := mput_last (h.sublist (by rw [e]; exact List.sublist_append_left _ _))
  rw [List.foldl_cons]
  show List.foldl _ (mput f k v) r = _
  rw [h2, fitM_rises_aux r _ (by rw [← e]; exact h), e]
theorem fitM_of_rises {α : Type} {m : List (Bs × α)} (h : Rises m) : fitM m = m := fitM_rises_aux m [] (by simpa using h)
theorem back {y : Y} (h : Norm y) : anyOf (valOf y) = y := by
 induction h with
 | null => simp [valOf, anyOf]
 | bool b => cases b <;> simp [valOf, anyOf]
 | int n => simp [valOf, anyOf]
 | text s => simp [valOf, anyOf]
 | list l h ih =>
  simp only [valOf, anyOf]
  rw [if_neg (by decide), if_neg (by decide), if_neg (by decide), if_pos trivial, anyL_map, valL_map, List.map_map]
  exact congrArg Y.list ((List.map_congr_left (fun y hy => ih y hy)).trans (List.map_id l))
 | map m hr h ih =>
  simp only [valOf, anyOf]
  rw [if_neg (by decide), if_neg (by decide), if_neg (by decide), if_neg (by decide), if_pos trivial, anyL_map, valM_map, List.map_map, List.map_map]
  have e1 : m.map (lb ∘ fun p => (⟨p.1.toArray⟩ : BA)) = m.map (fun p => p.1) := List.map_congr_left (fun p _ => lb_mk p.1)
  have e2 : m.map (anyOf ∘ fun p => valOf p.2) = m.map (fun p => p.2) := List.map_congr_left (fun p hp => ih p hp)
  rw [e1, e2, List.zip_map']
  have e3 : m.map (fun p => (p.1, p.2)) = m := (List.map_congr_left (fun p _ => rfl)).trans (List.map_id m)
  rw [e3, fitM_of_rises hr]
theorem pairs_mem {ks : List BA} {vs : List VI} {p : Bs × Y} (h : p ∈ pairsOf ks vs) : ∃ v, v ∈ vs ∧ p.2 = anyOf v := by
 have h2 : p.2 ∈ anyL vs := (List.of_mem_zip (show (p.1, p.2) ∈ (ks.map lb).zip (anyL vs) from h)).2
 rw [anyL_map] at h2
 obtain ⟨v, hv, he⟩ := List.mem_map.1 h2
 exact ⟨v, hv, he.symm⟩
theorem small_fits {x : VI} (h : Small x) : FitsY (anyOf x) ∧ Norm (anyOf x) := by
 induction h with
 | mk x hk hkl hvl hv ih =>
  obtain ⟨k, n, t, ks, vs⟩ := x
  by_cases h1 : k = 1
  ·subst h1; simp only [anyOf]; exact ⟨.bool _, .bool _⟩
  by_cases h2 : k = 2
  ·subst h2; simp only [anyOf]; exact ⟨.int _, .int _⟩
  by_cases h3 : k = 3
  ·subst h3; simp only [anyOf]; exact ⟨.text _, .text _⟩
  by_cases h4 : k = 4
  ·subst h4
   have e : anyOf ⟨4, n, t, ks, vs⟩ = .list (anyL vs) := by simp [anyOf]
   rw [e, anyL_map]
   exact ⟨.list _ (by rw [List.length_map]; exact hvl) (fun y hy => by obtain ⟨v, hvv, rfl⟩ := List.mem_map.1 hy; exact (ih v hvv).1), .list _ (fun y hy => by obtain ⟨v, hvv, rfl⟩ := List.mem_map.1 hy; exact (ih v hvv).2)⟩
  by_cases h5 : k = 5
  ·subst h5
   have e : anyOf ⟨5, n, t, ks, vs⟩ = .map (fitM (pairsOf ks vs)) := by simp [anyOf, pairsOf]
   rw [e]
   refine ⟨.map _ ?_ (fun p hp => ?_) (fun p hp => ?_), .map _ (fitM_rises _) (fun p hp => ?_)⟩
   ·have := fitM_length (pairsOf ks vs)
    rw [pairsOf_length] at this
    have h6 : vs.length ≤ 1759218604400 := hvl
    omega
   ·have hz : p.1 ∈ ks.map lb := (List.of_mem_zip (show (p.1, p.2) ∈ (ks.map lb).zip (anyL vs) from fitM_mem hp)).1
    obtain ⟨s, hs, he⟩ := List.mem_map.1 hz
    rw [← he, lb_length]
    exact hk s hs
   ·obtain ⟨v, hvv, he⟩ := pairs_mem (fitM_mem hp)
    rw [he]; exact (ih v hvv).1
   ·obtain ⟨v, hvv, he⟩ := pairs_mem (fitM_mem hp)
    rw [he]; exact (ih v hvv).2
  ·have e : anyOf ⟨k, n, t, ks, vs⟩ = .null := by simp [anyOf, h1, h2, h3, h4, h5]
   rw [e]
   exact ⟨.null, .null⟩
end Go.Proofs.Ytaembebbaejfiaa.Tr
namespace Go.Proofs.Ytaembebbaejfiaa.Tr
open Go.RowKit Go.Proofs.YtaembebbaejfiaaW.PrintWords Go.Proofs.YtaembebbaejfiaaW.PrintLast Go.Proofs.Ytaembebbaejfiaa.Str Go.Proofs.Ytaembebbaejfiaa.Kit Go.Proofs.Ytaembebbaejfiaa.MapV Go.Proofs.Ytaembebbaejfiaa.Frame Go.Proofs.Ytaembebbaejfiaa.PS
set_option linter.unusedVariables false
set_option linter.unusedSimpArgs false
def NetsSaid (x z : VS) (b : Bool) : Prop := b = true → (x.f0 = 4 ∧ ∃ ts : List BA, x.f4 = ts.map (leaf 3 0) ∧ z = nullsOf ts) ∨ (x.f0 = 5 ∧ z = x)
theorem texts_of {l : List VS} (hc : ∀ v, v ∈ l → Canon v) (h3 : ∀ v, v ∈ l → v.f0 = 3) : l = (l.map fun v => v.f2).map (leaf 3 0) := by
 rw [List.map_map]
 refine ((List.map_congr_left (fun v hv => ?_)).trans (List.map_id l)).symm
 exact ((hc v hv).is_text (h3 v hv)).symm
theorem said_at {fn : Func} {p q : Tmp} (hr : fn.results = #[.cell p 25, .tmp q]) {tmps : Array Value} {W : World} {b n3 c3 n4 c4 : Nat} {k n : Int} {t : BA} {A3 A4 : Option Addr} {v : Value} (hp : tmps.getD p undef = .pointer (some ⟨b, 0, none⟩)) (h3 : tmps.getD q undef = v) (hb : W.heap[b]? = some (.cells #[.int .i64 k, .int .i64 n, .string t, .slice A3 n3 c3, .slice A4 n4 c4] 25 (0, 0))) :
  (results fn tmps).run Try.prog W = .ok (.tuple #[.agg #[.int .i64 k, .int .i64 n, .string t, .slice A3 n3 c3, .slice A4 n4 c4], v]) W := by
 have := results_ct (P := Try.prog) hr tmps W b 25 _ (0, 0) _ hp hb Try.underlying25 rfl val_size
 rw [h3] at this
 exact this
set_option maxHeartbeats 3200000 in
set_option maxRecDepth 100000 in
theorem partNets (x : VS) (hc : Canon x) (hs : SmallS x) (A3 A4 : Option Addr) (c3 c4 : Nat) (w : World) (h : Reads w x A3 c3 A4 c4) :
  Calls Try.prog 8 #[.agg #[.int .i64 x.f0, .int .i64 x.f1, .string x.f2, .slice A3 x.f3.length c3, .slice A4 x.f4.length c4]] w fun e w' => ∃ (z : VS) (b : Bool) (B3 : Option Addr) (d3 : Nat) (B4 : Option Addr) (d4 : Nat), e = .returned (.tuple #[.agg #[.int .i64 z.f0, .int .i64 z.f1, .string z.f2, .slice B3 z.f3.length d3, .slice B4 z.f4.length d4], .bool b]) ∧ NetsSaid x z b ∧ Reads w' z B3 d3 B4 d4 ∧ Below w.heap.size w w' := by
 obtain ⟨r, hr, hrf⟩ := ends_sayNets x (hc.inStep hs) (by have := hs.vals; omega) (fun v hv => (hs.at hv).textIn) (fun v hv => ⟨(hc.at hv).inStep (hs.at hv), fun u hu => ((hs.at hv).at hu).textIn⟩) (fun s h => hs.keyIn h)
 obtain ⟨k, hk⟩ := hr.rounds
 have HB := aM (below_alloc (below_alloc (Below.refl w.heap.size w) (.cells #[.int .i64 x.f0, .int .i64 x.f1, .string x.f2, .slice A3 x.f3.length c3, .slice A4 x.f4.length c4] 25)) (.cells zC 25))
 have hxb : ((w.alloc (.cells #[.int .i64 x.f0, .int .i64 x.f1, .string x.f2, .slice A3 x.f3.length c3, .slice A4 x.f4.length c4] 25)).alloc (.cells zC 25)).heap[w.heap.size]? = some (.cells #[.int .i64 x.f0, .int .i64 x.f1, .string x.f2, .slice A3 x.f3.length c3, .slice A4 x.f4.length c4] 25 (0, 0)) := blk_alloc (cb_new _ _) _
 have hrb := cb_new (w.alloc (.cells #[.int .i64 x.f0, .int .i64 x.f1, .string x.f2, .slice A3 x.f3.length c3, .slice A4 x.f4.length c4] 25)) (.cells zC 25)
 rw [World.size_alloc] at hrb
 have HX0 := aM hxb
 have HR0 := aM hrb
 have HRD := aM (h.below HB.out)
 have HRW := aM h
 have CS := aM (spec_sayNets.calls k x.f0 x.f1 x.f2 A3 c3 x.f3 A4 c4 x.f4 r _ HRD.out.hk HRD.out.l3 HRD.out.hv HRD.out.l4 hk)
 have HRF := aM hrf
 have HCN := aM hc
 have HSM := aM hs
 clear hr hk hrf hrb h hc hs
 go_enter Try.func8, Try.ntmps8
 go_wp2_with (refine load_val (.tmp 1) rfl rfl rfl hxb ?_)
 refine CS.out.mono ?_
 rintro e w1 ⟨rfl, hb⟩
 have HB1 := aM (hb_then HB.out hb)
 have hx1 := (hb.block _ (cb_lt HX0.out)).trans HX0.out
 have hr1 := (hb.block _ (cb_lt HR0.out)).trans HR0.out
 have HRD1 := aM (HRD.out.below hb)
 clear hb HB HX0 HR0 HRD CS hxb
 cases r
 ·go_wp2_with (refine store_val (.tmp 2) (.tmp 7) rfl rfl rfl rfl hr1 ?_)
  have hg := grown_setRow w1 (w.heap.size + 1) zC
  have hB := pw_below_grown HB1.out (some (w.heap.size + 1)) HB1.out.size hg (fun k hk => by injection hk with hk; omega)
  have hX := setRow_heap w1 (w.heap.size + 1) _ zC _ _ hr1
  exact bodyPost_ret (v := .tuple #[.agg zC, .bool false]) (said_at rfl rfl rfl hX) rfl ⟨leaf 0 0 ⟨#[]⟩, false, none, 0, none, 0, rfl, (fun h => by cases h), ⟨Nat.zero_le _, nilC _ _ _, Nat.zero_le _, nilC _ _ _⟩, hB⟩
 ·have HF := aM (HRF.out rfl)
  rcases HF.out with ⟨h4, h3⟩ | h5
  ·have CM := aM (mergeNets_list w x h4 HSM.out.vals A3 A4 c3 c4 w1 HRD1.out)
   have HS := aM (show NetsSaid x (nullsOf (x.f4.map fun v => v.f2)) true from fun _ => .inl ⟨h4, _, texts_of (fun v hv => HCN.out.at hv) h3, rfl⟩)
   have hlt1 := HB1.out.size
   clear h4 h3
   generalize nullsOf (x.f4.map fun v => v.f2) = z at CM HS
   obtain ⟨z0, z1, z2, z3, z4⟩ := z
   go_wp2_with (refine load_val (.tmp 1) rfl rfl rfl hx1 ?_)
   refine CM.out.mono ?_
   rintro e w2 ⟨v3, v4, rfl, hK, hV, hb⟩
   obtain ⟨B3, d3, rfl⟩ := Kd.R_slice hK
   obtain ⟨B4, d4, rfl⟩ := Kd.R_slice hV
   have hr2 := (hb.block _ (cb_lt hr1)).trans hr1
   have HB2 := aM (hb_then HB1.out hb)
   have hltr := cb_lt hr1
   have HKK := aM hK
   have HVV := aM hV
   have HLT := aM hltr
   clear hb CM hr1 hK hV hltr hlt1 hx1
   go_wp2_with (refine store_val (.tmp 2) (.tmp 9) rfl rfl rfl rfl hr2 ?_)
   have hg := grown_setRow w2 (w.heap.size + 1) #[.int .i64 z0, .int .i64 z1, .string z2, .slice B3 z3.length d3, .slice B4 z4.length d4]
   have hB := pw_below_grown HB2.out (some (w.heap.size + 1)) HB2.out.size hg (fun k hk => by injection hk with hk; omega)
   have hX := setRow_heap w2 (w.heap.size + 1) _ #[.int .i64 z0, .int .i64 z1, .string z2, .slice B3 z3.length d3, .slice B4 z4.length d4] _ _ hr2
   have hlt := HLT.out
   obtain ⟨_, _, _, _, e3, e4, hrd⟩ := fix_reads (x := ⟨z0, z1, z2, z3, z4⟩) hB (Kd.R_grown HKK.out hg (fun k hk e => by injection e with e; omega)) (Kd.R_grown HVV.out hg (fun k hk e => by injection e with e; omega))
   injection e3 with e31 e32 e33
   injection e4 with e41 e42 e43
   subst e31 e33 e41 e43
   exact bodyPost_ret (v := .tuple #[.agg #[.int .i64 z0, .int .i64 z1, .string z2, .slice B3 z3.length d3, .slice B4 z4.length d4], .bool true]) (said_at rfl rfl rfl hX) rfl ⟨⟨z0, z1, z2, z3, z4⟩, true, B3, d3, B4, d4, rfl, HS.out, hrd, hB⟩
  ·have CM := aM (mergeNets_map x h5 A3 A4 c3 c4 w1 HRD1.out)
   have HS := aM (show NetsSaid x x true from fun _ => .inr ⟨h5, rfl⟩)
   clear h5
   go_wp2_with (refine load_val (.tmp 1) rfl rfl rfl hx1 ?_)
   refine CM.out.mono ?_
   rintro e w2 ⟨rfl, hb⟩
   have hr2 := (hb.block _ (cb_lt hr1)).trans hr1
   have HB2 := aM (hb_then HB1.out hb)
   clear hb CM hr1 hx1
   go_wp2_with (refine store_val (.tmp 2) (.tmp 9) rfl rfl rfl rfl hr2 ?_)
   have hg := grown_setRow w2 (w.heap.size + 1) #[.int .i64 x.f0, .int .i64 x.f1, .string x.f2, .slice A3 x.f3.length c3, .slice A4 x.f4.length c4]
   have hB := pw_below_grown HB2.out (some (w.heap.size + 1)) HB2.out.size hg (fun k hk => by injection hk with hk; omega)
   have hX := setRow_heap w2 (w.heap.size + 1) _ #[.int .i64 x.f0, .int .i64 x.f1, .string x.f2, .slice A3 x.f3.length c3, .slice A4 x.f4.length c4] _ _ hr2
   exact bodyPost_ret (v := .tuple #[.agg #[.int .i64 x.f0, .int .i64 x.f1, .string x.f2, .slice A3 x.f3.length c3, .slice A4 x.f4.length c4], .bool true]) (said_at rfl rfl rfl hX) rfl ⟨x, true, A3, c3, A4, c4, rfl, HS.out, HRW.out.below hB, hB⟩
theorem nulls_parts (ts : List BA) : ∃ K V, nullsOf ts = ⟨5, 0, ⟨#[]⟩, K, V⟩ ∧ K.length = V.length ∧ RiseK K ∧ V.length ≤ ts.length ∧ (∀ s, s ∈ K → s ∈ ts) ∧ (∀ v, v ∈ V → v = leaf 0 0 ⟨#[]⟩) ∧ (K.map lb).zip (V.map fun v => anyOf (toI v)) = namesOf ts := by
 obtain ⟨a, b, c, d, e, f⟩ := fitW_facts ts (ts.map fun _ => leaf 0 0 ⟨#[]⟩) [] [] rfl List.Pairwise.nil
 refine ⟨_, _, rfl, a, b, by simpa using d, fun s h => (e s h).elim (fun h => by cases h) id, fun v h => ?_, ?_⟩
 ·rcases f v h with h | h
  ·cases h
  ·obtain ⟨_, _, rfl⟩ := List.mem_map.1 h
   rfl
 ·rw [fitW_mput (fun v => anyOf (toI v)) ts _ [] [] List.Pairwise.nil rfl (by simp)]
  unfold namesOf fitM
  congr 1
  rw [List.map_map, List.zip_map']
  refine List.map_congr_left (fun t _ => ?_)
  simp [leaf, toI, toL, anyOf]
theorem nulls_canon (ts : List BA) : Canon (nullsOf ts) := by
 obtain ⟨K, V, he, hl, hr, _, _, hv, _⟩ := nulls_parts ts
 rw [he]
 exact .map K V hr hl (fun v h => by rw [hv v h]; exact .null)
theorem nulls_small (ts : List BA) (hn : ts.length ≤ 1759218604400) (hs : ∀ t, t ∈ ts → t.size ≤ maxLen) : SmallS (nullsOf ts) := by
 obtain ⟨K, V, he, hl, hr, hvn, hk, hv, _⟩ := nulls_parts ts
 rw [he]
 exact .mk _ (Nat.zero_le _) (fun s h => hs s (hk s h)) (by show K.length ≤ _; omega) (by show V.length ≤ _; omega) (fun v h => by rw [hv v h]; exact leaf_small _ _ _ (Nat.zero_le _))
theorem any_nulls (ts : List BA) : anyOf (toI (nullsOf ts)) = .map (namesOf ts) := by
 obtain ⟨K, V, he, hl, hr, hvn, hk, hv, hz⟩ := nulls_parts ts
 rw [he, canon_anyOf_map hr, anyL_map, toL_map, List.map_map]
 exact congrArg Y.map hz
theorem texts_any (ts : List BA) : anyL (toL (ts.map (leaf 3 0))) = ts.map Y.text := by
 rw [anyL_map, toL_map, List.map_map, List.map_map]
 refine List.map_congr_left (fun t _ => ?_)
 simp [leaf, toI, toL, anyOf]
theorem turns_list (x : VS) (hs : SmallS x) (h4 : x.f0 = 4) (ts : List BA) (ht : x.f4 = ts.map (leaf 3 0)) (ig : Bool) : Turns ig (toI x) (toI (nullsOf ts)) := by
 have e : toI (nullsOf ts) = valOf (.map (namesOf ts)) := by rw [← any_nulls, canon_back (nulls_canon ts)]
 rw [e]
 intro w A3 A4 c3 c4 l3 hk l4 hv
 refine impl_nets (toI x) (small_to x hs) (by rw [toI_eq]; exact h4) ts ?_ ?_ ig A3 A4 c3 c4 w l3 hk l4 hv
 ·rw [toI_eq]
  show anyL (toL x.f4) = _
  rw [ht, texts_any]
 ·intro t h
  have h1 : leaf 3 0 t ∈ x.f4 := by rw [ht]; exact List.mem_map.2 ⟨t, h, rfl⟩
  have h2 : t.size < _ := (hs.at h1).textIn
  unfold maxLen
  omega
theorem turns_map (z : VS) (hc : Canon z) (hs : SmallS z) (h5 : z.f0 = 5) (ig : Bool) : Turns ig (toI z) (toI z) := by
 have ha : anyOf (toI z) = .map (mapOf (toI z)) := by
  rw [toI_eq, h5]
  exact anyOf_map _ _ _ _
 have e : toI z = valOf (.map (mapOf (toI z))) := by rw [← ha, canon_back hc]
 intro w A3 A4 c3 c4 l3 hk l4 hv
 have h := impl_nets_map (toI z) (small_to z hs) (by rw [toI_eq]; exact h5) (by rw [← ha]; exact (small_fits (small_to z hs)).1) ig A3 A4 c3 c4 w l3 hk l4 hv
 rw [← e] at h
 exact h
set_option maxHeartbeats 3200000 in
set_option maxRecDepth 100000 in
theorem lawNets (x : VS) (hx : SmallS x) (ig : Bool) (A3 A4 : Option Addr) (c3 c4 : Nat) (w : World) (h : Reads w x A3 c3 A4 c4) :
  Calls Try.prog 3 #[.agg #[.int .i64 x.f0, .int .i64 x.f1, .string x.f2, .slice A3 x.f3.length c3, .slice A4 x.f4.length c4], .bool ig] w fun e w' => e = .returned (.bool true) ∧ Below w.heap.size w w' := by
 have hb1 := below_alloc (Below.refl w.heap.size w) (.cells #[.int .i64 x.f0, .int .i64 x.f1, .string x.f2, .slice A3 x.f3.length c3, .slice A4 x.f4.length c4] 25)
 have hxb := cb_new w (.cells #[.int .i64 x.f0, .int .i64 x.f1, .string x.f2, .slice A3 x.f3.length c3, .slice A4 x.f4.length c4] 25)
 have HB := aM hb1
 have HX := aM hxb
 have HRD := aM (h.below hb1)
 have CZ := aM (fits_reads x A3 A4 c3 c4 _ HRD.out)
 clear hb1 h
 go_enter Try.func3, Try.ntmps3
 go_wp2_with (refine load_val (.tmp 2) rfl rfl rfl hxb ?_)
 refine CZ.out.mono ?_
 rintro e w1 ⟨b, rfl, hb⟩
 have HB1 := aM (hb_then HB.out hb)
 have hx1 := (hb.block _ (cb_lt HX.out)).trans HX.out
 have HRD1 := aM (HRD.out.below hb)
 clear hb HB HX HRD CZ hxb
 cases b
 ·go_wp2
  go_ret
  exact ⟨rfl, HB1.out⟩
 have CF := aM (fit_gives x hx A3 A4 c3 c4 w1 HRD1.out)
 obtain ⟨hys, _⟩ := fit_facts x hx
 have hyc := canon_fit x hx
 have HYS := aM hys
 have HYC := aM hyc
 generalize fitV x = y at CF HYS HYC hys hyc
 clear hys hyc
 go_wp2_with (refine load_val (.tmp 2) rfl rfl rfl hx1 ?_)
 refine CF.out.mono ?_
 rintro e w2 ⟨E3, f3, E4, f4, rfl, hrd, hb⟩
 have HB2 := aM (hb_then HB1.out hb)
 have hx2 := (hb.block _ (cb_lt hx1)).trans hx1
 have hlt1 := cb_lt hx1
 have HRD2 := aM (hrd (w2.setRow w.heap.size #[.int .i64 y.f0, .int .i64 y.f1, .string y.f2, .slice E3 y.f3.length f3, .slice E4 y.f4.length f4]) (fun k hk _ => setRow_other w2 w.heap.size k _ (by omega)))
 have HB3 := aM (pw_below_grown HB2.out (some w.heap.size) HB2.out.size (grown_setRow w2 w.heap.size #[.int .i64 y.f0, .int .i64 y.f1, .string y.f2, .slice E3 y.f3.length f3, .slice E4 y.f4.length f4]) (fun k hk => by injection hk with hk; omega))
 have hx3 := setRow_heap w2 w.heap.size _ #[.int .i64 y.f0, .int .i64 y.f1, .string y.f2, .slice E3 y.f3.length f3, .slice E4 y.f4.length f4] _ _ hx2
 clear hb CF hx1 hrd HRD1 hlt1 HB2
 obtain ⟨w3, hw3⟩ : ∃ w3, w2.setRow w.heap.size #[.int .i64 y.f0, .int .i64 y.f1, .string y.f2, .slice E3 y.f3.length f3, .slice E4 y.f4.length f4] = w3 := ⟨_, rfl⟩
 rw [hw3] at HRD2 HB3 hx3
 have HW3 := aM hw3
 clear hw3
 have CP := aM (partNets y HYC.out HYS.out E3 E4 f3 f4 w3 HRD2.out)
 go_wp2_with (first | (refine store_val (.tmp 2) (.tmp 11) rfl rfl rfl rfl hx2 ?_; rw [HW3.out]; clear hx2) | refine load_val (.tmp 2) rfl rfl rfl hx3 ?_)
 refine CP.out.mono ?_
 rintro e w4 ⟨z, b, B3, d3, B4, d4, rfl, hS, hrz, hb⟩
 have hbn := below_alloc (Below.refl w4.heap.size w4) (.cells #[.int .i64 z.f0, .int .i64 z.f1, .string z.f2, .slice B3 z.f3.length d3, .slice B4 z.f4.length d4] 25)
 have HB4 := aM (hb_then (hb_then HB3.out hb) hbn)
 have hx4 := blk_alloc ((hb.block _ (cb_lt hx3)).trans hx3) (.cells #[.int .i64 z.f0, .int .i64 z.f1, .string z.f2, .slice B3 z.f3.length d3, .slice B4 z.f4.length d4] 25)
 have hz4 := cb_new w4 (.cells #[.int .i64 z.f0, .int .i64 z.f1, .string z.f2, .slice B3 z.f3.length d3, .slice B4 z.f4.length d4] 25)
 have HRY := aM ((HRD2.out.below hb).below hbn)
 have HRZ := aM (hrz.below hbn)
 have HS := aM hS
 clear hb hbn hrz hS CP hx3 HB3 HRD2
 cases b
 ·go_wp2_with (first | refine load_val (.tmp 2) rfl rfl rfl hx4 ?_ | refine load_val (.tmp 5) rfl rfl rfl hz4 ?_)
  go_ret
  exact ⟨rfl, HB4.out⟩
 ·have CI : Aside0 (Calls Try.prog 9 #[.func (.func 10) #[] #[], .agg #[.int .i64 y.f0, .int .i64 y.f1, .string y.f2, .slice E3 y.f3.length f3, .slice E4 y.f4.length f4], .agg #[.int .i64 z.f0, .int .i64 z.f1, .string z.f2, .slice B3 z.f3.length d3, .slice B4 z.f4.length d4], .bool ig] (w4.alloc (.cells #[.int .i64 z.f0, .int .i64 z.f1, .string z.f2, .slice B3 z.f3.length d3, .slice B4 z.f4.length d4] 25)) fun e w' => e = .returned (.bool true) ∧ Below (w4.alloc (.cells #[.int .i64 z.f0, .int .i64 z.f1, .string z.f2, .slice B3 z.f3.length d3, .slice B4 z.f4.length d4] 25)).heap.size (w4.alloc (.cells #[.int .i64 z.f0, .int .i64 z.f1, .string z.f2, .slice B3 z.f3.length d3, .slice B4 z.f4.length d4] 25)) w') := by
   have hy := HRY.out
   have hz := HRZ.out
   rcases HS.out rfl with ⟨h4, ts, ht, hzn⟩ | ⟨h5, hzy⟩
   ·have hn : ts.length ≤ 1759218604400 := by have := HYS.out.vals; rw [ht, List.length_map] at this; exact this
    have hts : ∀ t, t ∈ ts → t.size ≤ maxLen := fun t h => by
     have h1 : leaf 3 0 t ∈ y.f4 := by rw [ht]; exact List.mem_map.2 ⟨t, h, rfl⟩
     have h2 : t.size < _ := (HYS.out.at h1).textIn
     unfold maxLen
     omega
    have hsz : SmallS z := by rw [hzn]; exact nulls_small ts hn hts
    have h1 := turns_list y HYS.out h4 ts ht ig
    rw [← hzn] at h1
    have h2 := turns_map z (by rw [hzn]; exact nulls_canon ts) hsz (by rw [hzn]; rfl) ig
    exact ⟨part_is ig y z (toI z) (toI z) HYS.out h1 h2 (small_to z hsz) (small_to z hsz) (from_to z) (from_to z) hsz.short E3 E4 B3 B4 f3 f4 d3 d4 _ hy.l3 hy.hk hy.l4 hy.hv hz.l3 hz.hk hz.l4 hz.hv⟩
   ·subst hzy
    have h1 := turns_map z HYC.out HYS.out h5 ig
    exact ⟨part_is ig z z (toI z) (toI z) HYS.out h1 h1 (small_to z HYS.out) (small_to z HYS.out) (from_to z) (from_to z) HYS.out.short E3 E4 B3 B4 f3 f4 d3 d4 _ hy.l3 hy.hk hy.l4 hy.hv hz.l3 hz.hk hz.l4 hz.hv⟩
  obtain ⟨p0, p1, p2, p3, p4⟩ := cell_row5 hx4
  obtain ⟨q0, q1, q2, q3, q4⟩ := cell_row5 hz4
  clear hx4 hz4
  go_wp2_with fail
  refine CI.out.mono ?_
  rintro e w5 ⟨rfl, hb⟩
  have HB5 := aM (hb_then HB4.out hb)
  clear hb CI
  go_wp2
  go_ret
  exact ⟨rfl, HB5.out⟩
theorem lawNetsRow (x : VS) (A3 A4 : Option Addr) (c3 c4 : Nat) (ig : Bool) (w : World) (h3 : x.f3.length ≤ c3) (hk : Kd.string.C w A3 x.f3.length x.f3) (h4 : x.f4.length ≤ c4) (hv : kS.C w A4 x.f4.length x.f4) (hx : SmallS x) :
  Calls Try.prog 3 #[.agg #[.int .i64 x.f0, .int .i64 x.f1, .string x.f2, .slice A3 x.f3.length c3, .slice A4 x.f4.length c4], .bool ig] w fun e w' => e = .returned (.bool true) ∧ Below w.heap.size w w' := lawNets x hx ig A3 A4 c3 c4 w ⟨h3, hk, h4, hv⟩
end Go.Proofs.Ytaembebbaejfiaa.Tr
namespace Go.Proofs.Ytaembebbaejfiaa.RowKit
open Go.RowKit Go.ChangeShapes Go.WideShapes Go.ChangeAt Go.Proofs.YtaembebbaejfiaaW.PrintWords Go.Proofs.Ytaembebbaejfiaa.Str Go.Proofs.Ytaembebbaejfiaa.Kit
set_option linter.unusedVariables false
set_option linter.unusedSimpArgs false
theorem strs_arg {H : Type} {enc : TypeId × Value → H} {P : Program} {W : World} {base : Nat} {spare : Nat → Bool} {held : Bool} {t e : TypeId} {a : Option Addr} {len cap : Nat} {d : DataW H} {ps : List MemPlace}
  (ht : P.underlying t = some (.slice e)) (he : P.underlying e = some .string) (hc : P.cellsOf e = 1) (h : DataW.Trod enc P W base spare held t (.slice a len cap) d ps) :
  ∃ xs : List ByteArray, xs.length = len ∧ len ≤ cap ∧ Kd.string.C W a xs.length xs ∧ ((d = .nil ∧ xs = []) ∨ ∃ rest, d = .slice (strs xs) rest) := by
 obtain ⟨fuel, hf⟩ := h
 rcases open_strings ht he hc hf with ⟨hcs, hx⟩ | ⟨ad, l, c, ss, hcs, _, hl, hm, hss, hx, hcell, hws⟩
 ·simp [Value.cells] at hcs
  obtain ⟨rfl, rfl, rfl⟩ := hcs
  simp only [Prod.mk.injEq] at hx
  exact ⟨[], rfl, by omega, ⟨rfl, by simp, fun h => absurd h (by simp)⟩, .inl ⟨hx.1, rfl⟩⟩
 ·simp [Value.cells] at hcs
  obtain ⟨rfl, rfl, rfl⟩ := hcs
  simp only [Prod.mk.injEq] at hx
  have hlen : len ≤ ss.length := by rw [hss]; split <;> omega
  have hl2 : (ss.take len).length = len := by rw [List.length_take]; omega
  refine ⟨ss.take len, hl2, hl, ⟨rfl, by unfold maxLen at hm; omega, fun _ => ⟨ad, rfl, fun j p hp => ?_⟩⟩, .inr ⟨_, hx.1⟩⟩
  obtain ⟨hj, rfl⟩ := List.getElem?_eq_some_iff.1 hp
  refine ⟨[.string (ss.take len)[j]], rfl, rfl, fun i u hu => ?_⟩
  have hi : i < 1 := (List.getElem?_eq_some_iff.1 hu).1
  obtain rfl : i = 0 := by omega
  have hu' : Value.string (ss.take len)[j] = u := by simpa using hu
  subst hu'
  have : j * Kd.string.sz + 0 = j := by simp [Kd.string, Kd.scalar]
  rw [this, hcell j (by rw [hl2] at hj; omega)]
  rw [hl2] at hj
  simp [List.getD_eq_getElem?_getD, List.getElem?_eq_getElem (show j < ss.length by omega)]
end Go.Proofs.Ytaembebbaejfiaa.RowKit
namespace Go.Proofs.Ytaembebbaejfiaa.RowKit
open Go.RowKit Go.ChangeShapes Go.WideShapes Go.ChangeAt Go.Proofs.YtaembebbaejfiaaW.PrintWords Go.Proofs.YtaembebbaejfiaaW.PrintLast Go.Proofs.Ytaembebbaejfiaa.Str Go.Proofs.Ytaembebbaejfiaa.Kit Go.Proofs.Ytaembebbaejfiaa.PS Go.Proofs.Ytaembebbaejfiaa.Tr
set_option linter.unusedVariables false
set_option linter.unusedSimpArgs false
theorem addr_add (a : Addr) (i j : Nat) : (a.add i).add j = a.add (i + j) := by
 unfold Addr.add
 by_cases h : i = 0
 ·subst h; simp
 ·by_cases k : j = 0
  ·subst k; simp
  ·simp [h, k, Nat.add_assoc]
theorem agg_of {v : Value} {l : List Value} (h : v.cells.toList = l) (hl : 2 ≤ l.length) : v = .agg l.toArray := by
 cases v with
 | agg cs =>
  have : cs.toList = l := by simpa [Value.cells] using h
  rw [← this]
 | _ =>
  exfalso
  have := congrArg List.length h
  simp [Value.cells] at this
  omega
theorem weightsAll_in {H : Type} {P : Program} {e : TypeId} : ∀ {l : List (DataW H)} {d : DataW H}, d ∈ l → ∀ n ∈ d.weights P e, n ∈ DataW.weightsAll P e l
 | [], _, h, _, _ => by cases h
 | x :: r, d, h, n, hn => by
  simp only [DataW.weightsAll, List.mem_append]
  rcases List.mem_cons.1 h with rfl | h
  ·exact .inl hn
  ·exact .inr (weightsAll_in h n hn)
theorem row_of {α : Type} {R : Nat → α → Prop} : ∀ (len : Nat), (∀ i, i < len → ∃ p, R i p) → ∃ xs : List α, xs.length = len ∧ ∀ (i : Nat) (hi : i < xs.length), R i xs[i]
 | 0, _ => ⟨[], rfl, fun i hi => absurd hi (by simp)⟩
 | m + 1, each => by
  obtain ⟨xs, hx, hg⟩ := row_of m (fun i hi => each i (by omega))
  obtain ⟨p, hp⟩ := each m (by omega)
  refine ⟨xs ++ [p], by simp [hx], fun i hi => ?_⟩
  by_cases h : i < xs.length
  ·rw [List.getElem_append_left h]; exact hg i h
  ·have : i = m := by simp at hi; omega
   subst this
   subst hx
   simpa using hp
theorem list5 {α : Type} {cs : List α} (h : cs.length = 5) : ∃ a b c d e, cs = [a, b, c, d, e] := by
 match cs, h with
 | [a, b, c, d, e], _ => exact ⟨a, b, c, d, e, rfl⟩
section
variable {H : Type} {enc : TypeId × Value → H} {W : World} {base : Nat} {spare : Nat → Bool} {held : Bool}
theorem strs_small {d : DataW H} {ps : List MemPlace} {fuel : Nat} {v : Value} (hf : DataW.trod enc Try.prog W base spare held fuel 22 [v] = some (d, ps)) (hw : ∀ n ∈ d.weights Try.prog 22, n ≤ reachBytes) :
  ∃ A c xs, v = .slice A xs.length c ∧ xs.length ≤ c ∧ Kd.string.C W A xs.length xs ∧ (∀ s, s ∈ xs → s.size ≤ maxLen) ∧ xs.length ≤ 8796093022000 := by
 rcases DataW.trod_slice Try.underlying22 hf with ⟨hcs, hx⟩ | ⟨ad, l, c, elems, rest, n, _, hcs, hx, _, hl, hm, hlen, _, _, _⟩
 ·have hv : v = .slice none 0 0 := by simpa using hcs
  subst hv
  exact ⟨none, 0, [], rfl, Nat.le_refl _, ⟨rfl, by simp, fun h => absurd h (by simp)⟩, (fun s h => absurd h (by simp)), by simp⟩
 ·have hv : v = .slice (some ad) l c := by simpa using hcs
  subst hv
  have hT : DataW.Trod enc Try.prog W base spare held 22 (.slice (some ad) l c) d ps := ⟨fuel, by simpa [Value.cells] using hf⟩
  obtain ⟨xs, hxl, hle, hC, hd⟩ := strs_arg Try.underlying22 Try.underlying9 (by kernel_rfl) hT
  subst hxl
  refine ⟨some ad, c, xs, rfl, hle, hC, fun s hs => ?_, ?_⟩
  ·rcases hd with ⟨_, rfl⟩ | ⟨rest, rfl⟩
   ·cases hs
   ·have h1 := hw s.data.toList.length (by
     simp only [DataW.weights, Try.underlying22, List.mem_cons, List.mem_append]
     refine .inr (.inl (weightsAll_in (d := .lit (.string s.data.toList)) ?_ _ (by simp only [DataW.weights, List.mem_singleton])))
     unfold strs
     exact List.mem_map.2 ⟨s, hs, rfl⟩)
    have h2 : s.data.toList.length = s.size := by rw [Array.length_toList]; rfl
    unfold reachBytes at h1
    unfold maxLen
    omega
  ·rcases hd with ⟨_, rfl⟩ | ⟨rest, rfl⟩
   ·simp
   ·have h1 := hw _ (by
     simp only [DataW.weights, Try.underlying22, List.mem_cons]
     exact .inl rfl)
    have hb : Try.prog.bytesOf 9 = 16 := by kernel_rfl
    have h3 : (strs xs : List (DataW H)).length = xs.length := by simp [strs]
    rw [hb, h3] at h1
    unfold reachBytes at h1
    omega
theorem val_trod : ∀ (fuel : Nat) (cs : List Value) (d : DataW H) (ps : List MemPlace), DataW.trod enc Try.prog W base spare held fuel 25 cs = some (d, ps) → (∀ n ∈ d.weights Try.prog 25, n ≤ reachBytes) →
  ∃ x : VS, kS.K W x cs ∧ SmallS x := by
 intro fuel
 induction fuel using Nat.strongRecOn with
 | _ fuel ih =>
  intro cs d ps h hw
  obtain ⟨xs, n, hfu, hx, hl, hxl, hf⟩ := DataW.trod_struct Try.underlying25 h
  have hc5 : Try.prog.cellsOf 25 = 5 := by kernel_rfl
  rw [hc5] at hl
  obtain ⟨v0, v1, v2, v3, v4, rfl⟩ := list5 hl
  simp only [Prod.mk.injEq] at hx
  obtain ⟨rfl, _⟩ := hx
  have hxl5 : xs.length = 5 := hxl
  obtain ⟨y0, y1, y2, y3, y4, rfl⟩ := list5 hxl5
  have c1 : Try.prog.cellsOf 3 = 1 := by kernel_rfl
  have c2 : Try.prog.cellsOf 9 = 1 := by kernel_rfl
  have c3 : Try.prog.cellsOf 22 = 1 := by kernel_rfl
  have c4 : Try.prog.cellsOf 23 = 1 := by kernel_rfl
  have f0 : DataW.trod enc Try.prog W base spare held n 3 [v0] = some y0 := by
   have h_ : DataW.trod enc Try.prog W base spare held n 3 (([v0, v1, v2, v3, v4].drop 0).take (Try.prog.cellsOf 3)) = some y0 := hf 0 _ rfl
   rw [c1] at h_
   exact h_
  have f1 : DataW.trod enc Try.prog W base spare held n 3 [v1] = some y1 := by
   have h_ : DataW.trod enc Try.prog W base spare held n 3 (([v0, v1, v2, v3, v4].drop 1).take (Try.prog.cellsOf 3)) = some y1 := hf 1 _ rfl
   rw [c1] at h_
   exact h_
  have f2 : DataW.trod enc Try.prog W base spare held n 9 [v2] = some y2 := by
   have h_ : DataW.trod enc Try.prog W base spare held n 9 (([v0, v1, v2, v3, v4].drop 2).take (Try.prog.cellsOf 9)) = some y2 := hf 2 _ rfl
   rw [c2] at h_
   exact h_
  have f3 : DataW.trod enc Try.prog W base spare held n 22 [v3] = some y3 := by
   have h_ : DataW.trod enc Try.prog W base spare held n 22 (([v0, v1, v2, v3, v4].drop 3).take (Try.prog.cellsOf 22)) = some y3 := hf 3 _ rfl
   rw [c3] at h_
   exact h_
  have f4 : DataW.trod enc Try.prog W base spare held n 23 [v4] = some y4 := by
   have h_ : DataW.trod enc Try.prog W base spare held n 23 (([v0, v1, v2, v3, v4].drop 4).take (Try.prog.cellsOf 23)) = some y4 := hf 4 _ rfl
   rw [c4] at h_
   exact h_
  have hwE : ∀ (j : Nat) (t : TypeId) (e : DataW H), [3, 3, 9, 22, 23][j]? = some t → [y0.1, y1.1, y2.1, y3.1, y4.1][j]? = some e → ∀ m ∈ e.weights Try.prog t, m ≤ reachBytes := by
   intro j t e ht he m hm
   refine hw m ?_
   simp only [DataW.weights, Try.underlying25]
   exact DataW.weights_mem_each (ts := [3, 3, 9, 22, 23]) ht he m hm
  obtain ⟨i0, e0, _, _⟩ := DataW.trod_int Try.underlying3 f0
  obtain ⟨i1, e1, _, _⟩ := DataW.trod_int Try.underlying3 f1
  obtain ⟨s2, e2, hx2, hs2⟩ := DataW.trod_string Try.underlying9 f2
  have e0' : v0 = .int .i64 i0 := by simpa using e0
  have e1' : v1 = .int .i64 i1 := by simpa using e1
  have e2' : v2 = .string s2 := by simpa using e2
  subst e0' e1' e2'
  have hsz2 : s2.size ≤ 140737488355328 := by
   have h1 := hwE 2 _ _ rfl rfl s2.data.toList.length (by
    rw [hx2]
    simp only [DataW.weights, List.mem_singleton])
   have h2 : s2.data.toList.length = s2.size := by rw [Array.length_toList]; rfl
   unfold reachBytes at h1
   omega
  obtain ⟨A3, cc3, ks, rfl, hk3, hC3, hks, hkl⟩ := strs_small (d := y3.1) (ps := y3.2) f3 (hwE 3 _ _ rfl rfl)
  have h4 : ∃ A4 cc4, ∃ vs : List VS, v4 = .slice A4 vs.length cc4 ∧ vs.length ≤ cc4 ∧ kS.C W A4 vs.length vs ∧ vs.length ≤ 1759218604400 ∧ ∀ v, v ∈ vs → SmallS v := by
   rcases DataW.trod_slice Try.underlying23 f4 with ⟨hcs, hx⟩ | ⟨ad, l, c, elems, rest, m, hfm, hcs, hx, _, hl4, hm4, hlen, hel, _, _⟩
   ·have hv : v4 = .slice none 0 0 := by simpa using hcs
    subst hv
    exact ⟨none, 0, [], rfl, Nat.le_refl _, ⟨rfl, by simp, fun h => absurd h (by simp)⟩, by simp, (fun v h => absurd h (by simp))⟩
   ·have hv : v4 = .slice (some ad) l c := by simpa using hcs
    subst hv
    have hw4 := hwE 4 _ _ rfl rfl
    rw [hx] at hw4
    simp only [DataW.weights, Try.underlying23, List.mem_cons, List.mem_append] at hw4
    have hb : Try.prog.bytesOf 25 = 80 := by kernel_rfl
    have hlb := hw4 _ (.inl rfl)
    rw [hb, List.length_map, List.length_map, hlen] at hlb
    have hlb2 : l ≤ 1759218604400 := by unfold reachBytes at hlb; omega
    have each : ∀ i, i < l → ∃ p : VS, (∃ c, c.length = 5 ∧ kS.K W p c ∧ ∀ j u, c[j]? = some u → W.cell? (ad.add (i * 5 + j)) = some u) ∧ SmallS p := by
     intro i hi
     have h2 := hel i hi
     rw [List.getElem?_eq_getElem (by omega), hc5, Option.bind_eq_some_iff] at h2
     obtain ⟨cs, h3, h4⟩ := h2
     obtain ⟨_, hcl, hcell⟩ := World.cells?_some h3
     obtain ⟨p, hp, hps⟩ := ih m (by omega) cs (elems[i]'(by omega)).1 (elems[i]'(by omega)).2 h4 (fun q hq => hw4 q (.inr (.inl (weightsAll_in (List.mem_map.2 ⟨_, List.getElem_mem (by omega), rfl⟩) q hq))))
     refine ⟨p, ⟨cs, hcl, hp, fun j u hu => ?_⟩, hps⟩
     have hj : j < 5 := by rw [← hcl]; exact (List.getElem?_eq_some_iff.1 hu).1
     rw [← addr_add, hcell j hj]
     exact hu
    obtain ⟨vs, hvl, hvs⟩ := row_of l each
    subst hvl
    refine ⟨some ad, c, vs, rfl, hl4, ⟨rfl, by unfold maxLen at hm4; omega, fun _ => ⟨ad, rfl, fun j p hp => ?_⟩⟩, hlb2, fun v hv => ?_⟩
    ·obtain ⟨hj, rfl⟩ := List.getElem?_eq_some_iff.1 hp
     exact (hvs j hj).1
    ·obtain ⟨i, hi, rfl⟩ := List.getElem_of_mem hv
     exact (hvs i hi).2
  obtain ⟨A4, cc4, vs, rfl, hv4, hC4, hvl, hvs⟩ := h4
  exact ⟨⟨i0, i1, s2, ks, vs⟩, k25_mk W ⟨i0, i1, s2, ks, vs⟩ hk3 hC3 hv4 hC4, .mk _ hsz2 hks hkl hvl hvs⟩
theorem val_arg {v : Value} {d : DataW H} {ps : List MemPlace} (h : DataW.Trod enc Try.prog W base spare held 25 v d ps) (hw : ∀ n ∈ d.weights Try.prog 25, n ≤ reachBytes) :
  ∃ (x : VS) (A3 A4 : Option Addr) (c3 c4 : Nat), v.cells.toList = [.int .i64 x.f0, .int .i64 x.f1, .string x.f2, .slice A3 x.f3.length c3, .slice A4 x.f4.length c4] ∧ x.f3.length ≤ c3 ∧ Kd.string.C W A3 x.f3.length x.f3 ∧ x.f4.length ≤ c4 ∧ kS.C W A4 x.f4.length x.f4 ∧ SmallS x := by
 obtain ⟨fuel, hf⟩ := h
 obtain ⟨x, hx, hs⟩ := val_trod fuel _ d ps hf hw
 obtain ⟨A3, c3, A4, c4, e, l3, g3, l4, g4⟩ := k25_open hx
 exact ⟨x, A3, A4, c3, c4, e, l3, g3, l4, g4, hs⟩
end
end Go.Proofs.Ytaembebbaejfiaa.RowKit
