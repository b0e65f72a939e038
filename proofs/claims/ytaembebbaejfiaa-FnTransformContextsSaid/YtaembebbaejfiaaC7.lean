/- Parts of the proof, laid together: FromAny, Canon, Ends, QSpecSayName, QSpecSayNames, QSpecSayDigits, QSpecSayAddress, QSpecSayNet, QSpecSayNets, PureNets. -/
import Derived.Test.YtaembebbaejfiaaC6
import Derived.Test.YtaembebbaejfiaaC2
import Derived.Test.YtaembebbaejfiaaC3
namespace Go.Proofs.Ytaembebbaejfiaa.Tr
open Go.RowKit Go.Proofs.YtaembebbaejfiaaW.PrintWords Go.Proofs.YtaembebbaejfiaaW.PrintLast Go.Proofs.Ytaembebbaejfiaa.Str Go.Proofs.Ytaembebbaejfiaa.Kit Go.Proofs.Ytaembebbaejfiaa.MapV Go.Proofs.Ytaembebbaejfiaa.Frame Go.Proofs.Ytaembebbaejfiaa.PS
set_option linter.unusedVariables false
set_option linter.unusedSimpArgs false
mutual
def valOf : Y → VI
 | .null => ⟨0, 0, ⟨#[]⟩, [], []⟩
 | .bool b => ⟨1, if b then 1 else 0, ⟨#[]⟩, [], []⟩
 | .int n => ⟨2, n, ⟨#[]⟩, [], []⟩
 | .text s => ⟨3, 0, s, [], []⟩
 | .list l => ⟨4, 0, ⟨#[]⟩, [], valL l⟩
 | .map m => ⟨5, 0, ⟨#[]⟩, m.map (fun p => ⟨p.1.toArray⟩), valM m⟩
def valL : List Y → List VI
 | [] => []
 | y :: r => valOf y :: valL r
def valM : List (Bs × Y) → List VI
 | [] => []
 | p :: r => valP p :: valM r
def valP : Bs × Y → VI
 | (_, y) => valOf y
end
theorem valL_map : ∀ l, valL l = l.map valOf
 | [] => by simp [valL]
 | y :: r => by simp [valL, valL_map r]
theorem valM_map : ∀ m, valM m = m.map (fun p => valOf p.2)
 | [] => by simp [valM]
 | (k, y) :: r => by simp [valM, valP, valM_map r]
def Told (w : World) (x : VI) (e : Ending) (w' : World) : Prop := ∃ v3 v4, e = .returned (.tuple #[.agg #[.int .i64 x.f0, .int .i64 x.f1, .string x.f2, v3, v4], .bool true]) ∧ Kd.string.R 9 w' w.heap.size (fun _ => True) v3 x.f3 ∧ kI.R 36 w' w.heap.size (fun _ => True) v4 x.f4 ∧ Below w.heap.size w w'
def zI : Array Value := #[.int .i64 0, .int .i64 0, .string ⟨#[]⟩, .slice none 0 0, .slice none 0 0]
section
theorem t_bool (v : Value) (w : World) : (Instr.typeAssert (.iface 4 v) 20 4 true).run Try.prog w = .ok (.tuple #[v, .bool true]) w := by kernel_rfl
theorem t_int_bool (v : Value) (w : World) : (Instr.typeAssert (.iface 3 v) 20 4 true).run Try.prog w = .ok (.tuple #[.bool false, .bool false]) w := by kernel_rfl
theorem t_int (v : Value) (w : World) : (Instr.typeAssert (.iface 3 v) 20 3 true).run Try.prog w = .ok (.tuple #[v, .bool true]) w := by kernel_rfl
theorem t_str_bool (v : Value) (w : World) : (Instr.typeAssert (.iface 9 v) 20 4 true).run Try.prog w = .ok (.tuple #[.bool false, .bool false]) w := by kernel_rfl
theorem t_str_int (v : Value) (w : World) : (Instr.typeAssert (.iface 9 v) 20 3 true).run Try.prog w = .ok (.tuple #[.int .i64 0, .bool false]) w := by kernel_rfl
theorem t_str_i64 (v : Value) (w : World) : (Instr.typeAssert (.iface 9 v) 20 2 true).run Try.prog w = .ok (.tuple #[.int .i64 0, .bool false]) w := by kernel_rfl
theorem t_str_u64 (v : Value) (w : World) : (Instr.typeAssert (.iface 9 v) 20 71 true).run Try.prog w = .ok (.tuple #[.int .u64 0, .bool false]) w := by kernel_rfl
theorem t_str (v : Value) (w : World) : (Instr.typeAssert (.iface 9 v) 20 9 true).run Try.prog w = .ok (.tuple #[v, .bool true]) w := by kernel_rfl
end
theorem told_leaf {fn : Func} (hr : fn.results = #[.cell 2 36, .tmp 3]) {tmps : Array Value} {w W : World} {k n : Int} {t : BA} (hp : tmps.getD 2 undef = .pointer (some ⟨w.heap.size, 0, none⟩)) (h3 : tmps.getD 3 undef = .bool true) (hb : W.heap[w.heap.size]? = some (.cells #[.int .i64 k, .int .i64 n, .string t, .slice none 0 0, .slice none 0 0] 36 (0, 0))) :
  (results fn tmps).run Try.prog W = .ok (.tuple #[.agg #[.int .i64 k, .int .i64 n, .string t, .slice none 0 0, .slice none 0 0], .bool true]) W := by
 have := results_ct (P := Try.prog) hr tmps W w.heap.size 36 _ (0, 0) _ hp hb Try.underlying36 rfl ival_size
 rw [h3] at this
 exact this
set_option maxHeartbeats 800000 in
theorem from_null (w : World) : Calls Try.prog 42 #[.nilIface] w (Told w (valOf .null)) := by
 have h0 := cb_new w (.cells #[.int .i64 0, .int .i64 0, .string ⟨#[]⟩, .slice none 0 0, .slice none 0 0] 36)
 have HB := aM (below_alloc (Below.refl w.heap.size w) (.cells #[.int .i64 0, .int .i64 0, .string ⟨#[]⟩, .slice none 0 0, .slice none 0 0] 36))
 go_enter Try.func42, Try.ntmps42
 go_wp2_with (refine store_ival (.tmp 2) (.tmp 18) rfl rfl rfl rfl h0 ?_)
 have h1 := setRow_heap _ w.heap.size _ #[.int .i64 0, .int .i64 0, .string ⟨#[]⟩, .slice none 0 0, .slice none 0 0] _ _ h0
 have hB := pw_below_grown HB.out (some w.heap.size) HB.out.size (grown_setRow _ w.heap.size #[.int .i64 0, .int .i64 0, .string ⟨#[]⟩, .slice none 0 0, .slice none 0 0]) (fun k hk => by injection hk with hk; have h2 : w.heap.size = k := hk; omega)
 exact bodyPost_ret (v := .tuple #[.agg #[.int .i64 0, .int .i64 0, .string ⟨#[]⟩, .slice none 0 0, .slice none 0 0], .bool true]) (told_leaf rfl rfl rfl h1) rfl ⟨.slice none 0 0, .slice none 0 0, by simp [valOf], by simp only [valOf]; exact Kd.R_nil _ _ _ _ _, by simp only [valOf]; exact Kd.R_nil _ _ _ _ _, hB⟩
set_option maxHeartbeats 800000 in
theorem from_btrue (w : World) : Calls Try.prog 42 #[(.iface 4 (.bool true))] w (Told w (valOf (.bool true))) := by
 have f0 := t_bool
 have h0 := cb_new w (.cells #[.int .i64 0, .int .i64 0, .string ⟨#[]⟩, .slice none 0 0, .slice none 0 0] 36)
 have HB := aM (below_alloc (Below.refl w.heap.size w) (.cells #[.int .i64 0, .int .i64 0, .string ⟨#[]⟩, .slice none 0 0, .slice none 0 0] 36))
 go_enter Try.func42, Try.ntmps42
 go_wp2_with (refine store_ival (.tmp 2) (.tmp 23) rfl rfl rfl rfl h0 ?_)
 have h1 := setRow_heap _ w.heap.size _ #[.int .i64 1, .int .i64 1, .string ⟨#[]⟩, .slice none 0 0, .slice none 0 0] _ _ h0
 have hB := pw_below_grown HB.out (some w.heap.size) HB.out.size (grown_setRow _ w.heap.size #[.int .i64 1, .int .i64 1, .string ⟨#[]⟩, .slice none 0 0, .slice none 0 0]) (fun k hk => by injection hk with hk; have h2 : w.heap.size = k := hk; omega)
 exact bodyPost_ret (v := .tuple #[.agg #[.int .i64 1, .int .i64 1, .string ⟨#[]⟩, .slice none 0 0, .slice none 0 0], .bool true]) (told_leaf rfl rfl rfl h1) rfl ⟨.slice none 0 0, .slice none 0 0, by simp [valOf], by simp only [valOf]; exact Kd.R_nil _ _ _ _ _, by simp only [valOf]; exact Kd.R_nil _ _ _ _ _, hB⟩
set_option maxHeartbeats 800000 in
theorem from_bfalse (w : World) : Calls Try.prog 42 #[(.iface 4 (.bool false))] w (Told w (valOf (.bool false))) := by
 have f0 := t_bool
 have h0 := cb_new w (.cells #[.int .i64 0, .int .i64 0, .string ⟨#[]⟩, .slice none 0 0, .slice none 0 0] 36)
 have HB := aM (below_alloc (Below.refl w.heap.size w) (.cells #[.int .i64 0, .int .i64 0, .string ⟨#[]⟩, .slice none 0 0, .slice none 0 0] 36))
 go_enter Try.func42, Try.ntmps42
 go_wp2_with (refine store_ival (.tmp 2) (.tmp 24) rfl rfl rfl rfl h0 ?_)
 have h1 := setRow_heap _ w.heap.size _ #[.int .i64 1, .int .i64 0, .string ⟨#[]⟩, .slice none 0 0, .slice none 0 0] _ _ h0
 have hB := pw_below_grown HB.out (some w.heap.size) HB.out.size (grown_setRow _ w.heap.size #[.int .i64 1, .int .i64 0, .string ⟨#[]⟩, .slice none 0 0, .slice none 0 0]) (fun k hk => by injection hk with hk; have h2 : w.heap.size = k := hk; omega)
 exact bodyPost_ret (v := .tuple #[.agg #[.int .i64 1, .int .i64 0, .string ⟨#[]⟩, .slice none 0 0, .slice none 0 0], .bool true]) (told_leaf rfl rfl rfl h1) rfl ⟨.slice none 0 0, .slice none 0 0, by simp [valOf], by simp only [valOf]; exact Kd.R_nil _ _ _ _ _, by simp only [valOf]; exact Kd.R_nil _ _ _ _ _, hB⟩
set_option maxHeartbeats 800000 in
theorem from_int (n : Int) (w : World) : Calls Try.prog 42 #[(.iface 3 (.int .i64 n))] w (Told w (valOf (.int n))) := by
 have f0 := t_int_bool
 have f1 := t_int
 have h0 := cb_new w (.cells #[.int .i64 0, .int .i64 0, .string ⟨#[]⟩, .slice none 0 0, .slice none 0 0] 36)
 have HB := aM (below_alloc (Below.refl w.heap.size w) (.cells #[.int .i64 0, .int .i64 0, .string ⟨#[]⟩, .slice none 0 0, .slice none 0 0] 36))
 go_enter Try.func42, Try.ntmps42
 go_wp2_with (refine store_ival (.tmp 2) (.tmp 29) rfl rfl rfl rfl h0 ?_)
 have h1 := setRow_heap _ w.heap.size _ #[.int .i64 2, .int .i64 n, .string ⟨#[]⟩, .slice none 0 0, .slice none 0 0] _ _ h0
 have hB := pw_below_grown HB.out (some w.heap.size) HB.out.size (grown_setRow _ w.heap.size #[.int .i64 2, .int .i64 n, .string ⟨#[]⟩, .slice none 0 0, .slice none 0 0]) (fun k hk => by injection hk with hk; have h2 : w.heap.size = k := hk; omega)
 exact bodyPost_ret (v := .tuple #[.agg #[.int .i64 2, .int .i64 n, .string ⟨#[]⟩, .slice none 0 0, .slice none 0 0], .bool true]) (told_leaf rfl rfl rfl h1) rfl ⟨.slice none 0 0, .slice none 0 0, by simp [valOf], by simp only [valOf]; exact Kd.R_nil _ _ _ _ _, by simp only [valOf]; exact Kd.R_nil _ _ _ _ _, hB⟩
set_option maxHeartbeats 800000 in
theorem from_text (s : BA) (w : World) : Calls Try.prog 42 #[(.iface 9 (.string s))] w (Told w (valOf (.text s))) := by
 have f0 := t_str_bool
 have f1 := t_str_int
 have f2 := t_str_i64
 have f3 := t_str_u64
 have f4 := t_str
 have h0 := cb_new w (.cells #[.int .i64 0, .int .i64 0, .string ⟨#[]⟩, .slice none 0 0, .slice none 0 0] 36)
 have HB := aM (below_alloc (Below.refl w.heap.size w) (.cells #[.int .i64 0, .int .i64 0, .string ⟨#[]⟩, .slice none 0 0, .slice none 0 0] 36))
 go_enter Try.func42, Try.ntmps42
 go_wp2_with (refine store_ival (.tmp 2) (.tmp 45) rfl rfl rfl rfl h0 ?_)
 have h1 := setRow_heap _ w.heap.size _ #[.int .i64 3, .int .i64 0, .string s, .slice none 0 0, .slice none 0 0] _ _ h0
 have hB := pw_below_grown HB.out (some w.heap.size) HB.out.size (grown_setRow _ w.heap.size #[.int .i64 3, .int .i64 0, .string s, .slice none 0 0, .slice none 0 0]) (fun k hk => by injection hk with hk; have h2 : w.heap.size = k := hk; omega)
 exact bodyPost_ret (v := .tuple #[.agg #[.int .i64 3, .int .i64 0, .string s, .slice none 0 0, .slice none 0 0], .bool true]) (told_leaf rfl rfl rfl h1) rfl ⟨.slice none 0 0, .slice none 0 0, by simp [valOf], by simp only [valOf]; exact Kd.R_nil _ _ _ _ _, by simp only [valOf]; exact Kd.R_nil _ _ _ _ _, hB⟩
end Go.Proofs.Ytaembebbaejfiaa.Tr
namespace Go.Proofs.Ytaembebbaejfiaa.Tr
open Go.RowKit Go.Proofs.YtaembebbaejfiaaW.PrintWords Go.Proofs.YtaembebbaejfiaaW.PrintLast Go.Proofs.Ytaembebbaejfiaa.Str Go.Proofs.Ytaembebbaejfiaa.Kit Go.Proofs.Ytaembebbaejfiaa.MapV Go.Proofs.Ytaembebbaejfiaa.Frame Go.Proofs.Ytaembebbaejfiaa.PS
open Go.Proofs.Ytaembebbaejfiaa.Val (place placeI placeB placeI_hit placeI_end)
set_option linter.unusedVariables false
set_option linter.unusedSimpArgs false
inductive Canon : VS → Prop
 | null : Canon (leaf 0 0 ⟨#[]⟩)
 | bool (b : Bool) : Canon (leaf 1 (if b then 1 else 0) ⟨#[]⟩)
 | int (n : Int) : Canon (leaf 2 n ⟨#[]⟩)
 | text (s : BA) : Canon (leaf 3 0 s)
 | list (l : List VS) (h : ∀ v, v ∈ l → Canon v) : Canon ⟨4, 0, ⟨#[]⟩, [], l⟩
 | map (ks : List BA) (vs : List VS) (hr : RiseK ks) (hl : ks.length = vs.length) (h : ∀ v, v ∈ vs → Canon v) : Canon ⟨5, 0, ⟨#[]⟩, ks, vs⟩
theorem canon_fit : ∀ x : VS, SmallS x → Canon (fitV x) := by
 intro x hx
 induction hx with
 | mk x ht hk hkl hvl hv ih =>
  obtain ⟨k, n, t, ks, vs⟩ := x
  have hch : ∀ v, v ∈ fitL vs → Canon v := fun v hv' => by
   rw [fitL_map] at hv'
   obtain ⟨u, hu, rfl⟩ := List.mem_map.1 hv'
   exact ih u hu
  by_cases h1 : k = 1
  ·subst h1
   by_cases hn : n = 0
   ·have := Canon.bool false
    simpa [fitV, hn] using this
   ·have := Canon.bool true
    simpa [fitV, hn] using this
  by_cases h2 : k = 2
  ·subst h2; have := Canon.int n; simpa [fitV] using this
  by_cases h3 : k = 3
  ·subst h3; have := Canon.text t; simpa [fitV] using this
  by_cases h4 : k = 4
  ·subst h4
   have := Canon.list (fitL vs) hch
   simpa [fitV] using this
  by_cases h5 : k = 5
  ·subst h5
   obtain ⟨a, b, c, d, e, f⟩ := fitW_facts ks (fitL vs) [] [] rfl List.Pairwise.nil
   have := Canon.map _ _ b a (fun v h => by
    rcases f v h with h | h
    ·cases h
    ·exact hch v h)
   simpa [fitV] using this
  ·have := Canon.null
   simpa [fitV, h1, h2, h3, h4, h5] using this
theorem zip_keys {α : Type} : ∀ (ks : List BA) (ys : List α), ks.length = ys.length → ((ks.map lb).zip ys).map (fun p => (⟨p.1.toArray⟩ : BA)) = ks
 | [], _, _ => rfl
 | k :: ks, y :: ys, h => by
  rw [List.map_cons, List.zip_cons_cons, List.map_cons, zip_keys ks ys (by simpa using h)]
 | _ :: _, [], h => by simp at h
theorem zip_vals {α β : Type} (g : α → β) : ∀ (ks : List BA) (ys : List α), ks.length = ys.length → ((ks.map lb).zip ys).map (fun p => g p.2) = ys.map g
 | [], [], _ => rfl
 | k :: ks, y :: ys, h => by
  rw [List.map_cons, List.zip_cons_cons, List.map_cons, zip_vals g ks ys (by simpa using h), List.map_cons]
 | _ :: _, [], h => by simp at h
 | [], _ :: _, h => by simp at h
theorem canon_anyOf_map {ks : List BA} {vs : List VS} (hr : RiseK ks) (n : Int) (t : BA) : anyOf (toI ⟨5, n, t, ks, vs⟩) = .map ((ks.map lb).zip (anyL (toL vs))) := by
 rw [toI_eq]
 simp only [anyOf]
 rw [if_neg (by decide), if_neg (by decide), if_neg (by decide), if_neg (by decide), if_pos trivial, fitM_id (pairs_rise hr)]
theorem canon_back {x : VS} (h : Canon x) : valOf (anyOf (toI x)) = toI x := by
 induction h with
 | null => simp [leaf, toI, toL, anyOf, valOf]
 | bool b => cases b <;> simp [leaf, toI, toL, anyOf, valOf]
 | int n => simp [leaf, toI, toL, anyOf, valOf]
 | text s => simp [leaf, toI, toL, anyOf, valOf]
 | list l h ih =>
  simp only [toI_eq, anyOf]
  rw [if_neg (by decide), if_neg (by decide), if_neg (by decide), if_pos trivial]
  simp only [valOf]
  rw [valL_map, anyL_map, toL_map, List.map_map, List.map_map]
  have e : l.map ((valOf ∘ anyOf) ∘ toI) = l.map toI := List.map_congr_left (fun v hv => ih v hv)
  rw [e]
 | map ks vs hr hl h ih =>
  have hl2 : ks.length = (anyL (toL vs)).length := by rw [anyL_length, toL_length]; exact hl
  rw [canon_anyOf_map hr, toI_eq]
  simp only [valOf]
  rw [valM_map, zip_keys ks _ hl2, zip_vals valOf ks _ hl2, anyL_map, toL_map, List.map_map, List.map_map]
  have e : vs.map ((valOf ∘ anyOf) ∘ toI) = vs.map toI := List.map_congr_left (fun v hv => ih v hv)
  rw [e]
mutual
theorem from_to : ∀ x : VS, fromI (toI x) = x
 | ⟨k, n, t, ks, vs⟩ => by rw [toI, fromI, from_toL vs]
theorem from_toL : ∀ l : List VS, fromL (toL l) = l
 | [] => by simp [toL, fromL]
 | v :: r => by rw [toL, fromL, from_to v, from_toL r]
end
theorem with_mput {α β : Type} (g : α → β) : ∀ (ks : List BA) (vs : List α) (key : BA) (x : α), RiseK ks → ks.length = vs.length → ((withK ks key).map lb).zip ((withV ks vs key x).map g) = mput ((ks.map lb).zip (vs.map g)) (lb key) (g x)
 | [], [], key, x, _, _ => rfl
 | k :: ks, v :: vs, key, x, hr, hl => by
  obtain ⟨h1, h2⟩ := List.pairwise_cons.1 hr
  have hl' : ks.length = vs.length := by simpa using hl
  rw [List.map_cons, List.map_cons, List.zip_cons_cons]
  by_cases hlt : lb k < lb key
  ·obtain ⟨e1, e2⟩ := place_cons_lt (r := ks) hlt
   have ek : withK (k :: ks) key = k :: withK ks key := by
    unfold withK
    rw [e1, e2]
    split <;> rfl
   have ev : withV (k :: ks) (v :: vs) key x = v :: withV ks vs key x := by
    unfold withV
    rw [e1, e2]
    split <;> rfl
   rw [ek, ev, List.map_cons, List.map_cons, List.zip_cons_cons, with_mput g ks vs key x h2 hl', mput_lt hlt]
  ·obtain ⟨e1, e2⟩ := place_cons_ge (r := ks) hlt
   by_cases he : lb k = lb key
   ·have hb : (k.toList == key.toList) = true := by rw [toList_lb, toList_lb, he]; exact beq_self_eq_true _
    have ek : withK (k :: ks) key = k :: ks := by
     unfold withK
     rw [e2, hb, if_pos rfl]
    have ev : withV (k :: ks) (v :: vs) key x = x :: vs := by
     unfold withV
     rw [e2, e1, hb, if_pos rfl]
     rfl
    rw [ek, ev, List.map_cons, List.map_cons, List.zip_cons_cons, mput_eq he (fun p hp => ?_), he]
    obtain ⟨a, b⟩ := p
    obtain ⟨s, hs, rfl⟩ := List.mem_map.1 (List.of_mem_zip hp).1
    rw [← he]
    exact h1 s hs
   ·have hb : (k.toList == key.toList) = false := by rw [toList_lb, toList_lb]; simpa using he
    have hgt : lb key < lb k := by
     rcases lt_total (lb k) (lb key) with e | e | e
     ·exact absurd e hlt
     ·exact absurd e he
     ·exact e
    have ek : withK (k :: ks) key = key :: k :: ks := by
     unfold withK
     rw [e2, e1, hb, if_neg (by decide)]
     rfl
    have ev : withV (k :: ks) (v :: vs) key x = x :: v :: vs := by
     unfold withV
     rw [e2, e1, hb, if_neg (by decide)]
     rfl
    rw [ek, ev, List.map_cons, List.map_cons, List.map_cons, List.map_cons, List.zip_cons_cons, List.zip_cons_cons, mput_gt (fun p hp => ?_)]
    rcases List.mem_cons.1 hp with rfl | hp
    ·exact hgt
    ·obtain ⟨a, b⟩ := p
     obtain ⟨s, hs, rfl⟩ := List.mem_map.1 (List.of_mem_zip hp).1
     exact lt_trans hgt (h1 s hs)
 | _ :: _, [], _, _, _, h => by simp at h
 | [], _ :: _, _, _, _, h => by simp at h
theorem fitW_mput {β : Type} (g : VS → β) : ∀ (ks : List BA) (vs : List VS) (K : List BA) (V : List VS), RiseK K → K.length = V.length → ks.length = vs.length →
  ((fitW ks vs K V).1.map lb).zip ((fitW ks vs K V).2.map g) = ((ks.map lb).zip (vs.map g)).foldl (fun f p => mput f p.1 p.2) ((K.map lb).zip (V.map g))
 | [], [], K, V, _, _, _ => rfl
 | k :: ks, v :: vs, K, V, hr, hl, hn => by
  rw [fitW, fitW_mput g ks vs _ _ (withK_rises hr) (withV_length (x := v) hl).symm (by simpa using hn), with_mput g K V k v hr hl]
  rfl
 | _ :: _, [], _, _, _, _, h => by simp at h
 | [], _ :: _, _, _, _, _, h => by simp at h
end Go.Proofs.Ytaembebbaejfiaa.Tr
namespace Go.Proofs.Ytaembebbaejfiaa.Tr
open Go.RowKit Go.Proofs.YtaembebbaejfiaaW.PrintWords Go.Proofs.YtaembebbaejfiaaW.PrintLast
set_option linter.unusedVariables false
def Ends {α : Type} (P : α → Prop) (g : Nat → Option α) : Prop := ∃ r, Ev g r ∧ P r
section
variable {α β : Type} {P : α → Prop} {g f : Nat → Option α}
theorem Ends.of {r : α} (h : Ev g r) (hp : P r) : Ends P g := ⟨r, h, hp⟩
theorem Ends.ev {r : α} (h : Ends (fun x => x = r) g) : Ev g r := by
 obtain ⟨x, hx, rfl⟩ := h
 exact hx
theorem Ev.ends {r : α} (h : Ev g r) : Ends (fun x => x = r) g := ⟨r, h, rfl⟩
theorem Ends.mono {Q : α → Prop} (h : Ends P g) (hq : ∀ r, P r → Q r) : Ends Q g := by
 obtain ⟨x, hx, hp⟩ := h
 exact ⟨x, hx, hq x hp⟩
theorem Ends.now {r : α} (h : P r) : Ends P (fun _ => some r) := ⟨r, Ev.now r, h⟩
theorem Ends.ite {c : Prop} [Decidable c] (h1 : c → Ends P f) (h2 : ¬ c → Ends P g) : Ends P (fun k => if c then f k else g k) := by
 by_cases h : c
 ·obtain ⟨r, hr, hp⟩ := h1 h
  exact ⟨r, Ev.congr (fun k => by rw [if_pos h]) hr, hp⟩
 ·obtain ⟨r, hr, hp⟩ := h2 h
  exact ⟨r, Ev.congr (fun k => by rw [if_neg h]) hr, hp⟩
theorem Ends.yes {c : Prop} [Decidable c] (hc : c) (h : Ends P f) : Ends P (fun k => if c then f k else g k) := Ends.ite (fun _ => h) (fun n => absurd hc n)
theorem Ends.no {c : Prop} [Decidable c] (hc : ¬ c) (h : Ends P g) : Ends P (fun k => if c then f k else g k) := Ends.ite (fun n => absurd n hc) (fun _ => h)
theorem Ends.bind {Q : β → Prop} {u : Nat → Option β} {v : Nat → β → Option α} (hu : Ends Q u) (hv : ∀ a, Q a → Ends P (fun k => v k a)) : Ends P (fun k => (u k).bind (v k)) := by
 obtain ⟨a, ha, hq⟩ := hu
 obtain ⟨r, hr, hp⟩ := hv a hq
 exact ⟨r, Ev.bind ha hr, hp⟩
theorem Ends.bindEv {u : Nat → Option β} {v : Nat → β → Option α} {a : β} (hu : Ev u a) (hv : Ends P (fun k => v k a)) : Ends P (fun k => (u k).bind (v k)) := Ends.bind (Ev.ends hu) (fun _ h => by rw [h]; exact hv)
theorem Ends.step (h : ∀ k, g (k + 1) = f k) (k : Ends P f) : Ends P g := by
 obtain ⟨r, hr, hp⟩ := k
 exact ⟨r, Ev.step h hr, hp⟩
theorem Ends.congr (h : ∀ k, g k = f k) (k : Ends P f) : Ends P g := by
 obtain ⟨r, hr, hp⟩ := k
 exact ⟨r, Ev.congr h hr, hp⟩
end
end Go.Proofs.Ytaembebbaejfiaa.Tr
namespace Go.Proofs.Ytaembebbaejfiaa.PS
open Go.RowKit Go.Proofs.YtaembebbaejfiaaW.PrintWords Go.Proofs.YtaembebbaejfiaaW.PrintLast Go.Proofs.YtaembebbaejfiaaW.PrintMore
attribute [local go_sem] max2_int min2_int max_two min_two max_three min_three max_four min_four 
set_option linter.unusedVariables false
set_option linter.unusedSimpArgs false
theorem sayNameisE_ (l : List UInt8) : l.isEmpty = (l == []) := by cases l <;> rfl
theorem nsayNameisE_ (l : List UInt8) : (!l.isEmpty) = (l != []) := by cases l <;> rfl
def spec_sayName.l0 : Nat → ByteArray → Int → Option (Bool)
 | 0, _, _ => none
 | k + 1, x0, x3 => if x3 < (x0.size : Int) then (if 0 ≤ x3 then (if (bt x0 x3) ≥ 97 then (if (bt x0 x3) ≤ 122 then (spec_sayName.l0 k x0 (wrap64 (x3 + 1))) else (if (bt x0 x3) ≥ 65 then (if (bt x0 x3) ≤ 90 then (spec_sayName.l0 k x0 (wrap64 (x3 + 1))) else (if (bt x0 x3) ≥ 48 then (if (bt x0 x3) ≤ 57 then (spec_sayName.l0 k x0 (wrap64 (x3 + 1))) else (if (bt x0 x3) = 95 then (spec_sayName.l0 k x0 (wrap64 (x3 + 1))) else (if ((bt x0 x3) = 45) then (spec_sayName.l0 k x0 (wrap64 (x3 + 1))) else (some false)))) else (if (bt x0 x3) = 95 then (spec_sayName.l0 k x0 (wrap64 (x3 + 1))) else (if ((bt x0 x3) = 45) then (spec_sayName.l0 k x0 (wrap64 (x3 + 1))) else (some false))))) else (if (bt x0 x3) ≥ 48 then (if (bt x0 x3) ≤ 57 then (spec_sayName.l0 k x0 (wrap64 (x3 + 1))) else (if (bt x0 x3) = 95 then (spec_sayName.l0 k x0 (wrap64 (x3 + 1))) else (if ((bt x0 x3) = 45) then (spec_sayName.l0 k x0 (wrap64 (x3 + 1))) else (some false)))) else (if (bt x0 x3) = 95 then (spec_sayName.l0 k x0 (wrap64 (x3 + 1))) else (if ((bt x0 x3) = 45) then (spec_sayName.l0 k x0 (wrap64 (x3 + 1))) else (some false)))))) else (if (bt x0 x3) ≥ 65 then (if (bt x0 x3) ≤ 90 then (spec_sayName.l0 k x0 (wrap64 (x3 + 1))) else (if (bt x0 x3) ≥ 48 then (if (bt x0 x3) ≤ 57 then (spec_sayName.l0 k x0 (wrap64 (x3 + 1))) else (if (bt x0 x3) = 95 then (spec_sayName.l0 k x0 (wrap64 (x3 + 1))) else (if ((bt x0 x3) = 45) then (spec_sayName.l0 k x0 (wrap64 (x3 + 1))) else (some false)))) else (if (bt x0 x3) = 95 then (spec_sayName.l0 k x0 (wrap64 (x3 + 1))) else (if ((bt x0 x3) = 45) then (spec_sayName.l0 k x0 (wrap64 (x3 + 1))) else (some false))))) else (if (bt x0 x3) ≥ 48 then (if (bt x0 x3) ≤ 57 then (spec_sayName.l0 k x0 (wrap64 (x3 + 1))) else (if (bt x0 x3) = 95 then (spec_sayName.l0 k x0 (wrap64 (x3 + 1))) else (if ((bt x0 x3) = 45) then (spec_sayName.l0 k x0 (wrap64 (x3 + 1))) else (some false)))) else (if (bt x0 x3) = 95 then (spec_sayName.l0 k x0 (wrap64 (x3 + 1))) else (if ((bt x0 x3) = 45) then (spec_sayName.l0 k x0 (wrap64 (x3 + 1))) else (some false)))))) else (none)) else (some (x0.toList != ([] : List UInt8)))
def spec_sayName.f (k : Nat) (a0 : ByteArray) : Option (Bool) := spec_sayName.l0 k a0 0
set_option maxHeartbeats 8000000 in
set_option maxRecDepth 100000 in
theorem spec_sayName.calls (k : Nat) (a0 : ByteArray) (r : Bool) (w : World) (h : spec_sayName.f k a0 = some r) :
  Calls Try.prog 40 #[.string a0] w fun e w' => e = .returned (.bool r) ∧ Drawn0 w w' := by
 have H : (spec_sayName.l0 k a0 0) = some r := h
 clear h
 have H' := aM H
 clear H
 go_enter Try.func40, Try.ntmps40
 go_wp2
 go_loopg [3] k (fun kq v3 w' => ∃ (x3_1 : Int), v3 = .int .i64 x3_1 ∧ Aside0 (spec_sayName.l0 kq a0 x3_1 = some r) ∧ Aside0 (kq ≤ k) ∧ Drawn0 w w')
 case atStart => exact ⟨(0), (by first | rfl | (simp; done) | (simp [*]; done)), H', ⟨Nat.le_refl _⟩, by repeat (first | exact Drawn0.refl _ | apply Drawn0.step)⟩
 case round =>
  clear H'
  obtain ⟨x3_1, rfl, HA, HK1, ⟨m1, rfl⟩⟩ := hrel
  cases gk with
  | zero => exact absurd HA.out (by simp [spec_sayName.l0])
  | succ k1 =>
   have H := HA.out
   clear HA
   simp only [spec_sayName.l0] at H
   by_cases c2 : x3_1 < (a0.size : Int)
   ·rw [if_pos c2] at H
    have c2b0 : decide (x3_1 < (a0.size : Int)) = true := decide_eq_true c2
    clear c2
    by_cases c3 : 0 ≤ x3_1
    ·rw [if_pos c3] at H
     have c3b0 : decide (0 ≤ x3_1) = true := decide_eq_true c3
     clear c3
     by_cases c5 : (bt a0 x3_1) ≥ 97
     ·rw [if_pos c5] at H
      have c5b0 : decide (97 ≤ (bt a0 x3_1)) = true := decide_eq_true c5
      clear c5
      by_cases c6 : (bt a0 x3_1) ≤ 122
      ·rw [if_pos c6] at H
       have c6b0 : decide ((bt a0 x3_1) ≤ 122) = true := decide_eq_true c6
       clear c6
       have H' := aM H
       clear H
       have p4 : 0 ≤ (x3_1 : Int) := of_decide_eq_true (by first | (with_reducible assumption) | assumption)
       have q4 : x3_1 < (a0.size : Int) := of_decide_eq_true (by first | (with_reducible assumption) | assumption)
       have hx4 := bt_at a0 x3_1
       replace p4 := eq_true p4
       replace q4 := eq_true q4
       go_wp2
       go_roundg k1
       case measure => have := HK1.out; omega
       case rel => exact ⟨(wrap64 (x3_1 + 1)), (by first | rfl | (simp; done) | (simp [*]; done)), H', ⟨by have := HK1.out; omega⟩, by repeat (first | exact Drawn0.refl _ | apply Drawn0.step)⟩
      ·rw [if_neg c6] at H
       have c6b0 : decide ((bt a0 x3_1) ≤ 122) = false := decide_eq_false c6
       clear c6
       by_cases c7 : (bt a0 x3_1) ≥ 65
       ·rw [if_pos c7] at H
        have c7b0 : decide (65 ≤ (bt a0 x3_1)) = true := decide_eq_true c7
        clear c7
        by_cases c8 : (bt a0 x3_1) ≤ 90
        ·rw [if_pos c8] at H
         have c8b0 : decide ((bt a0 x3_1) ≤ 90) = true := decide_eq_true c8
         clear c8
         have H' := aM H
         clear H
         have p4 : 0 ≤ (x3_1 : Int) := of_decide_eq_true (by first | (with_reducible assumption) | assumption)
         have q4 : x3_1 < (a0.size : Int) := of_decide_eq_true (by first | (with_reducible assumption) | assumption)
         have hx4 := bt_at a0 x3_1
         replace p4 := eq_true p4
         replace q4 := eq_true q4
         go_wp2
         go_roundg k1
         case measure => have := HK1.out; omega
         case rel => exact ⟨(wrap64 (x3_1 + 1)), (by first | rfl | (simp; done) | (simp [*]; done)), H', ⟨by have := HK1.out; omega⟩, by repeat (first | exact Drawn0.refl _ | apply Drawn0.step)⟩
        ·rw [if_neg c8] at H
         have c8b0 : decide ((bt a0 x3_1) ≤ 90) = false := decide_eq_false c8
         clear c8
         by_cases c9 : (bt a0 x3_1) ≥ 48
         ·rw [if_pos c9] at H
          have c9b0 : decide (48 ≤ (bt a0 x3_1)) = true := decide_eq_true c9
          clear c9
          by_cases c10 : (bt a0 x3_1) ≤ 57
          ·rw [if_pos c10] at H
           have c10b0 : decide ((bt a0 x3_1) ≤ 57) = true := decide_eq_true c10
           clear c10
           have H' := aM H
           clear H
           have p4 : 0 ≤ (x3_1 : Int) := of_decide_eq_true (by first | (with_reducible assumption) | assumption)
           have q4 : x3_1 < (a0.size : Int) := of_decide_eq_true (by first | (with_reducible assumption) | assumption)
           have hx4 := bt_at a0 x3_1
           replace p4 := eq_true p4
           replace q4 := eq_true q4
           go_wp2
           go_roundg k1
           case measure => have := HK1.out; omega
           case rel => exact ⟨(wrap64 (x3_1 + 1)), (by first | rfl | (simp; done) | (simp [*]; done)), H', ⟨by have := HK1.out; omega⟩, by repeat (first | exact Drawn0.refl _ | apply Drawn0.step)⟩
          ·rw [if_neg c10] at H
           have c10b0 : decide ((bt a0 x3_1) ≤ 57) = false := decide_eq_false c10
           clear c10
           by_cases c11 : (bt a0 x3_1) = 95
           ·rw [if_pos c11] at H
            have c11b0 : ((bt a0 x3_1) == 95) = true := beq_iff_eq.mpr c11
            have c11b1 : ((bt a0 x3_1) != 95) = false := bne_eq_false_iff_eq.mpr c11
            clear c11
            have H' := aM H
            clear H
            have p4 : 0 ≤ (x3_1 : Int) := of_decide_eq_true (by first | (with_reducible assumption) | assumption)
            have q4 : x3_1 < (a0.size : Int) := of_decide_eq_true (by first | (with_reducible assumption) | assumption)
            have hx4 := bt_at a0 x3_1
            replace p4 := eq_true p4
            replace q4 := eq_true q4
            go_wp2
            go_roundg k1
            case measure => have := HK1.out; omega
            case rel => exact ⟨(wrap64 (x3_1 + 1)), (by first | rfl | (simp; done) | (simp [*]; done)), H', ⟨by have := HK1.out; omega⟩, by repeat (first | exact Drawn0.refl _ | apply Drawn0.step)⟩
           ·rw [if_neg c11] at H
            have c11b0 : ((bt a0 x3_1) == 95) = false := beq_eq_false_iff_ne.mpr c11
            have c11b1 : ((bt a0 x3_1) != 95) = true := bne_iff_ne.mpr c11
            by_cases c12 : ((bt a0 x3_1) = 45)
            ·rw [if_pos c12] at H
             have c12b0 : ((bt a0 x3_1) == 45) = true := beq_iff_eq.mpr c12
             have c12b1 : ((bt a0 x3_1) != 45) = false := bne_eq_false_iff_eq.mpr c12
             clear c12
             have H' := aM H
             clear H
             have p4 : 0 ≤ (x3_1 : Int) := of_decide_eq_true (by first | (with_reducible assumption) | assumption)
             have q4 : x3_1 < (a0.size : Int) := of_decide_eq_true (by first | (with_reducible assumption) | assumption)
             have hx4 := bt_at a0 x3_1
             replace p4 := eq_true p4
             replace q4 := eq_true q4
             go_wp2
             go_roundg k1
             case measure => have := HK1.out; omega
             case rel => exact ⟨(wrap64 (x3_1 + 1)), (by first | rfl | (simp; done) | (simp [*]; done)), H', ⟨by have := HK1.out; omega⟩, by repeat (first | exact Drawn0.refl _ | apply Drawn0.step)⟩
            ·rw [if_neg c12] at H
             have c12b0 : ((bt a0 x3_1) == 45) = false := beq_eq_false_iff_ne.mpr c12
             have c12b1 : ((bt a0 x3_1) != 45) = true := bne_iff_ne.mpr c12
             obtain rfl := Option.some.inj H
             have p4 : 0 ≤ (x3_1 : Int) := of_decide_eq_true (by first | (with_reducible assumption) | assumption)
             have q4 : x3_1 < (a0.size : Int) := of_decide_eq_true (by first | (with_reducible assumption) | assumption)
             have hx4 := bt_at a0 x3_1
             replace p4 := eq_true p4
             replace q4 := eq_true q4
             go_wp2
             go_ret
             exact ⟨by first | rfl | (simp; done) | (simp [*]; done) | (refine congrArg (fun b_ => Ending.returned (.bool b_)) ?_; exact sayNameisE_ _) | (refine congrArg (fun b_ => Ending.returned (.bool b_)) ?_; exact nsayNameisE_ _), by repeat (first | exact Drawn0.refl _ | apply Drawn0.step)⟩
         ·rw [if_neg c9] at H
          have c9b0 : decide (48 ≤ (bt a0 x3_1)) = false := decide_eq_false c9
          clear c9
          by_cases c13 : (bt a0 x3_1) = 95
          ·rw [if_pos c13] at H
           have c13b0 : ((bt a0 x3_1) == 95) = true := beq_iff_eq.mpr c13
           have c13b1 : ((bt a0 x3_1) != 95) = false := bne_eq_false_iff_eq.mpr c13
           clear c13
           have H' := aM H
           clear H
           have p4 : 0 ≤ (x3_1 : Int) := of_decide_eq_true (by first | (with_reducible assumption) | assumption)
           have q4 : x3_1 < (a0.size : Int) := of_decide_eq_true (by first | (with_reducible assumption) | assumption)
           have hx4 := bt_at a0 x3_1
           replace p4 := eq_true p4
           replace q4 := eq_true q4
           go_wp2
           go_roundg k1
           case measure => have := HK1.out; omega
           case rel => exact ⟨(wrap64 (x3_1 + 1)), (by first | rfl | (simp; done) | (simp [*]; done)), H', ⟨by have := HK1.out; omega⟩, by repeat (first | exact Drawn0.refl _ | apply Drawn0.step)⟩
          ·rw [if_neg c13] at H
           have c13b0 : ((bt a0 x3_1) == 95) = false := beq_eq_false_iff_ne.mpr c13
           have c13b1 : ((bt a0 x3_1) != 95) = true := bne_iff_ne.mpr c13
           by_cases c14 : ((bt a0 x3_1) = 45)
           ·rw [if_pos c14] at H
            have c14b0 : ((bt a0 x3_1) == 45) = true := beq_iff_eq.mpr c14
            have c14b1 : ((bt a0 x3_1) != 45) = false := bne_eq_false_iff_eq.mpr c14
            clear c14
            have H' := aM H
            clear H
            have p4 : 0 ≤ (x3_1 : Int) := of_decide_eq_true (by first | (with_reducible assumption) | assumption)
            have q4 : x3_1 < (a0.size : Int) := of_decide_eq_true (by first | (with_reducible assumption) | assumption)
            have hx4 := bt_at a0 x3_1
            replace p4 := eq_true p4
            replace q4 := eq_true q4
            go_wp2
            go_roundg k1
            case measure => have := HK1.out; omega
            case rel => exact ⟨(wrap64 (x3_1 + 1)), (by first | rfl | (simp; done) | (simp [*]; done)), H', ⟨by have := HK1.out; omega⟩, by repeat (first | exact Drawn0.refl _ | apply Drawn0.step)⟩
           ·rw [if_neg c14] at H
            have c14b0 : ((bt a0 x3_1) == 45) = false := beq_eq_false_iff_ne.mpr c14
            have c14b1 : ((bt a0 x3_1) != 45) = true := bne_iff_ne.mpr c14
            obtain rfl := Option.some.inj H
            have p4 : 0 ≤ (x3_1 : Int) := of_decide_eq_true (by first | (with_reducible assumption) | assumption)
            have q4 : x3_1 < (a0.size : Int) := of_decide_eq_true (by first | (with_reducible assumption) | assumption)
            have hx4 := bt_at a0 x3_1
            replace p4 := eq_true p4
            replace q4 := eq_true q4
            go_wp2
            go_ret
            exact ⟨by first | rfl | (simp; done) | (simp [*]; done) | (refine congrArg (fun b_ => Ending.returned (.bool b_)) ?_; exact sayNameisE_ _) | (refine congrArg (fun b_ => Ending.returned (.bool b_)) ?_; exact nsayNameisE_ _), by repeat (first | exact Drawn0.refl _ | apply Drawn0.step)⟩
       ·rw [if_neg c7] at H
        have c7b0 : decide (65 ≤ (bt a0 x3_1)) = false := decide_eq_false c7
        clear c7
        by_cases c15 : (bt a0 x3_1) ≥ 48
        ·rw [if_pos c15] at H
         have c15b0 : decide (48 ≤ (bt a0 x3_1)) = true := decide_eq_true c15
         clear c15
         by_cases c16 : (bt a0 x3_1) ≤ 57
         ·rw [if_pos c16] at H
          have c16b0 : decide ((bt a0 x3_1) ≤ 57) = true := decide_eq_true c16
          clear c16
          have H' := aM H
          clear H
          have p4 : 0 ≤ (x3_1 : Int) := of_decide_eq_true (by first | (with_reducible assumption) | assumption)
          have q4 : x3_1 < (a0.size : Int) := of_decide_eq_true (by first | (with_reducible assumption) | assumption)
          have hx4 := bt_at a0 x3_1
          replace p4 := eq_true p4
          replace q4 := eq_true q4
          go_wp2
          go_roundg k1
          case measure => have := HK1.out; omega
          case rel => exact ⟨(wrap64 (x3_1 + 1)), (by first | rfl | (simp; done) | (simp [*]; done)), H', ⟨by have := HK1.out; omega⟩, by repeat (first | exact Drawn0.refl _ | apply Drawn0.step)⟩
         ·rw [if_neg c16] at H
          have c16b0 : decide ((bt a0 x3_1) ≤ 57) = false := decide_eq_false c16
          clear c16
          by_cases c17 : (bt a0 x3_1) = 95
          ·rw [if_pos c17] at H
           have c17b0 : ((bt a0 x3_1) == 95) = true := beq_iff_eq.mpr c17
           have c17b1 : ((bt a0 x3_1) != 95) = false := bne_eq_false_iff_eq.mpr c17
           clear c17
           have H' := aM H
           clear H
           have p4 : 0 ≤ (x3_1 : Int) := of_decide_eq_true (by first | (with_reducible assumption) | assumption)
           have q4 : x3_1 < (a0.size : Int) := of_decide_eq_true (by first | (with_reducible assumption) | assumption)
           have hx4 := bt_at a0 x3_1
           replace p4 := eq_true p4
           replace q4 := eq_true q4
           go_wp2
           go_roundg k1
           case measure => have := HK1.out; omega
           case rel => exact ⟨(wrap64 (x3_1 + 1)), (by first | rfl | (simp; done) | (simp [*]; done)), H', ⟨by have := HK1.out; omega⟩, by repeat (first | exact Drawn0.refl _ | apply Drawn0.step)⟩
          ·rw [if_neg c17] at H
           have c17b0 : ((bt a0 x3_1) == 95) = false := beq_eq_false_iff_ne.mpr c17
           have c17b1 : ((bt a0 x3_1) != 95) = true := bne_iff_ne.mpr c17
           by_cases c18 : ((bt a0 x3_1) = 45)
           ·rw [if_pos c18] at H
            have c18b0 : ((bt a0 x3_1) == 45) = true := beq_iff_eq.mpr c18
            have c18b1 : ((bt a0 x3_1) != 45) = false := bne_eq_false_iff_eq.mpr c18
            clear c18
            have H' := aM H
            clear H
            have p4 : 0 ≤ (x3_1 : Int) := of_decide_eq_true (by first | (with_reducible assumption) | assumption)
            have q4 : x3_1 < (a0.size : Int) := of_decide_eq_true (by first | (with_reducible assumption) | assumption)
            have hx4 := bt_at a0 x3_1
            replace p4 := eq_true p4
            replace q4 := eq_true q4
            go_wp2
            go_roundg k1
            case measure => have := HK1.out; omega
            case rel => exact ⟨(wrap64 (x3_1 + 1)), (by first | rfl | (simp; done) | (simp [*]; done)), H', ⟨by have := HK1.out; omega⟩, by repeat (first | exact Drawn0.refl _ | apply Drawn0.step)⟩
           ·rw [if_neg c18] at H
            have c18b0 : ((bt a0 x3_1) == 45) = false := beq_eq_false_iff_ne.mpr c18
            have c18b1 : ((bt a0 x3_1) != 45) = true := bne_iff_ne.mpr c18
            obtain rfl := Option.some.inj H
            have p4 : 0 ≤ (x3_1 : Int) := of_decide_eq_true (by first | (with_reducible assumption) | assumption)
            have q4 : x3_1 < (a0.size : Int) := of_decide_eq_true (by first | (with_reducible assumption) | assumption)
            have hx4 := bt_at a0 x3_1
            replace p4 := eq_true p4
            replace q4 := eq_true q4
            go_wp2
            go_ret
            exact ⟨by first | rfl | (simp; done) | (simp [*]; done) | (refine congrArg (fun b_ => Ending.returned (.bool b_)) ?_; exact sayNameisE_ _) | (refine congrArg (fun b_ => Ending.returned (.bool b_)) ?_; exact nsayNameisE_ _), by repeat (first | exact Drawn0.refl _ | apply Drawn0.step)⟩
        ·rw [if_neg c15] at H
         have c15b0 : decide (48 ≤ (bt a0 x3_1)) = false := decide_eq_false c15
         clear c15
         by_cases c19 : (bt a0 x3_1) = 95
         ·rw [if_pos c19] at H
          have c19b0 : ((bt a0 x3_1) == 95) = true := beq_iff_eq.mpr c19
          have c19b1 : ((bt a0 x3_1) != 95) = false := bne_eq_false_iff_eq.mpr c19
          clear c19
          have H' := aM H
          clear H
          have p4 : 0 ≤ (x3_1 : Int) := of_decide_eq_true (by first | (with_reducible assumption) | assumption)
          have q4 : x3_1 < (a0.size : Int) := of_decide_eq_true (by first | (with_reducible assumption) | assumption)
          have hx4 := bt_at a0 x3_1
          replace p4 := eq_true p4
          replace q4 := eq_true q4
          go_wp2
          go_roundg k1
          case measure => have := HK1.out; omega
          case rel => exact ⟨(wrap64 (x3_1 + 1)), (by first | rfl | (simp; done) | (simp [*]; done)), H', ⟨by have := HK1.out; omega⟩, by repeat (first | exact Drawn0.refl _ | apply Drawn0.step)⟩
         ·rw [if_neg c19] at H
          have c19b0 : ((bt a0 x3_1) == 95) = false := beq_eq_false_iff_ne.mpr c19
          have c19b1 : ((bt a0 x3_1) != 95) = true := bne_iff_ne.mpr c19
          by_cases c20 : ((bt a0 x3_1) = 45)
          ·rw [if_pos c20] at H
           have c20b0 : ((bt a0 x3_1) == 45) = true := beq_iff_eq.mpr c20
           have c20b1 : ((bt a0 x3_1) != 45) = false := bne_eq_false_iff_eq.mpr c20
           clear c20
           have H' := aM H
           clear H
           have p4 : 0 ≤ (x3_1 : Int) := of_decide_eq_true (by first | (with_reducible assumption) | assumption)
           have q4 : x3_1 < (a0.size : Int) := of_decide_eq_true (by first | (with_reducible assumption) | assumption)
           have hx4 := bt_at a0 x3_1
           replace p4 := eq_true p4
           replace q4 := eq_true q4
           go_wp2
           go_roundg k1
           case measure => have := HK1.out; omega
           case rel => exact ⟨(wrap64 (x3_1 + 1)), (by first | rfl | (simp; done) | (simp [*]; done)), H', ⟨by have := HK1.out; omega⟩, by repeat (first | exact Drawn0.refl _ | apply Drawn0.step)⟩
          ·rw [if_neg c20] at H
           have c20b0 : ((bt a0 x3_1) == 45) = false := beq_eq_false_iff_ne.mpr c20
           have c20b1 : ((bt a0 x3_1) != 45) = true := bne_iff_ne.mpr c20
           obtain rfl := Option.some.inj H
           have p4 : 0 ≤ (x3_1 : Int) := of_decide_eq_true (by first | (with_reducible assumption) | assumption)
           have q4 : x3_1 < (a0.size : Int) := of_decide_eq_true (by first | (with_reducible assumption) | assumption)
           have hx4 := bt_at a0 x3_1
           replace p4 := eq_true p4
           replace q4 := eq_true q4
           go_wp2
           go_ret
           exact ⟨by first | rfl | (simp; done) | (simp [*]; done) | (refine congrArg (fun b_ => Ending.returned (.bool b_)) ?_; exact sayNameisE_ _) | (refine congrArg (fun b_ => Ending.returned (.bool b_)) ?_; exact nsayNameisE_ _), by repeat (first | exact Drawn0.refl _ | apply Drawn0.step)⟩
     ·rw [if_neg c5] at H
      have c5b0 : decide (97 ≤ (bt a0 x3_1)) = false := decide_eq_false c5
      clear c5
      by_cases c21 : (bt a0 x3_1) ≥ 65
      ·rw [if_pos c21] at H
       have c21b0 : decide (65 ≤ (bt a0 x3_1)) = true := decide_eq_true c21
       clear c21
       by_cases c22 : (bt a0 x3_1) ≤ 90
       ·rw [if_pos c22] at H
        have c22b0 : decide ((bt a0 x3_1) ≤ 90) = true := decide_eq_true c22
        clear c22
        have H' := aM H
        clear H
        have p4 : 0 ≤ (x3_1 : Int) := of_decide_eq_true (by first | (with_reducible assumption) | assumption)
        have q4 : x3_1 < (a0.size : Int) := of_decide_eq_true (by first | (with_reducible assumption) | assumption)
        have hx4 := bt_at a0 x3_1
        replace p4 := eq_true p4
        replace q4 := eq_true q4
        go_wp2
        go_roundg k1
        case measure => have := HK1.out; omega
        case rel => exact ⟨(wrap64 (x3_1 + 1)), (by first | rfl | (simp; done) | (simp [*]; done)), H', ⟨by have := HK1.out; omega⟩, by repeat (first | exact Drawn0.refl _ | apply Drawn0.step)⟩
       ·rw [if_neg c22] at H
        have c22b0 : decide ((bt a0 x3_1) ≤ 90) = false := decide_eq_false c22
        clear c22
        by_cases c23 : (bt a0 x3_1) ≥ 48
        ·rw [if_pos c23] at H
         have c23b0 : decide (48 ≤ (bt a0 x3_1)) = true := decide_eq_true c23
         clear c23
         by_cases c24 : (bt a0 x3_1) ≤ 57
         ·rw [if_pos c24] at H
          have c24b0 : decide ((bt a0 x3_1) ≤ 57) = true := decide_eq_true c24
          clear c24
          have H' := aM H
          clear H
          have p4 : 0 ≤ (x3_1 : Int) := of_decide_eq_true (by first | (with_reducible assumption) | assumption)
          have q4 : x3_1 < (a0.size : Int) := of_decide_eq_true (by first | (with_reducible assumption) | assumption)
          have hx4 := bt_at a0 x3_1
          replace p4 := eq_true p4
          replace q4 := eq_true q4
          go_wp2
          go_roundg k1
          case measure => have := HK1.out; omega
          case rel => exact ⟨(wrap64 (x3_1 + 1)), (by first | rfl | (simp; done) | (simp [*]; done)), H', ⟨by have := HK1.out; omega⟩, by repeat (first | exact Drawn0.refl _ | apply Drawn0.step)⟩
         ·rw [if_neg c24] at H
          have c24b0 : decide ((bt a0 x3_1) ≤ 57) = false := decide_eq_false c24
          clear c24
          by_cases c25 : (bt a0 x3_1) = 95
          ·rw [if_pos c25] at H
           have c25b0 : ((bt a0 x3_1) == 95) = true := beq_iff_eq.mpr c25
           have c25b1 : ((bt a0 x3_1) != 95) = false := bne_eq_false_iff_eq.mpr c25
           clear c25
           have H' := aM H
           clear H
           have p4 : 0 ≤ (x3_1 : Int) := of_decide_eq_true (by first | (with_reducible assumption) | assumption)
           have q4 : x3_1 < (a0.size : Int) := of_decide_eq_true (by first | (with_reducible assumption) | assumption)
           have hx4 := bt_at a0 x3_1
           replace p4 := eq_true p4
           replace q4 := eq_true q4
           go_wp2
           go_roundg k1
           case measure => have := HK1.out; omega
           case rel => exact ⟨(wrap64 (x3_1 + 1)), (by first | rfl | (simp; done) | (simp [*]; done)), H', ⟨by have := HK1.out; omega⟩, by repeat (first | exact Drawn0.refl _ | apply Drawn0.step)⟩
          ·rw [if_neg c25] at H
           have c25b0 : ((bt a0 x3_1) == 95) = false := beq_eq_false_iff_ne.mpr c25
           have c25b1 : ((bt a0 x3_1) != 95) = true := bne_iff_ne.mpr c25
           by_cases c26 : ((bt a0 x3_1) = 45)
           ·rw [if_pos c26] at H
            have c26b0 : ((bt a0 x3_1) == 45) = true := beq_iff_eq.mpr c26
            have c26b1 : ((bt a0 x3_1) != 45) = false := bne_eq_false_iff_eq.mpr c26
            clear c26
            have H' := aM H
            clear H
            have p4 : 0 ≤ (x3_1 : Int) := of_decide_eq_true (by first | (with_reducible assumption) | assumption)
            have q4 : x3_1 < (a0.size : Int) := of_decide_eq_true (by first | (with_reducible assumption) | assumption)
            have hx4 := bt_at a0 x3_1
            replace p4 := eq_true p4
            replace q4 := eq_true q4
            go_wp2
            go_roundg k1
            case measure => have := HK1.out; omega
            case rel => exact ⟨(wrap64 (x3_1 + 1)), (by first | rfl | (simp; done) | (simp [*]; done)), H', ⟨by have := HK1.out; omega⟩, by repeat (first | exact Drawn0.refl _ | apply Drawn0.step)⟩
           ·rw [if_neg c26] at H
            have c26b0 : ((bt a0 x3_1) == 45) = false := beq_eq_false_iff_ne.mpr c26
            have c26b1 : ((bt a0 x3_1) != 45) = true := bne_iff_ne.mpr c26
            obtain rfl := Option.some.inj H
            have p4 : 0 ≤ (x3_1 : Int) := of_decide_eq_true (by first | (with_reducible assumption) | assumption)
            have q4 : x3_1 < (a0.size : Int) := of_decide_eq_true (by first | (with_reducible assumption) | assumption)
            have hx4 := bt_at a0 x3_1
            replace p4 := eq_true p4
            replace q4 := eq_true q4
            go_wp2
            go_ret
            exact ⟨by first | rfl | (simp; done) | (simp [*]; done) | (refine congrArg (fun b_ => Ending.returned (.bool b_)) ?_; exact sayNameisE_ _) | (refine congrArg (fun b_ => Ending.returned (.bool b_)) ?_; exact nsayNameisE_ _), by repeat (first | exact Drawn0.refl _ | apply Drawn0.step)⟩
        ·rw [if_neg c23] at H
         have c23b0 : decide (48 ≤ (bt a0 x3_1)) = false := decide_eq_false c23
         clear c23
         by_cases c27 : (bt a0 x3_1) = 95
         ·rw [if_pos c27] at H
          have c27b0 : ((bt a0 x3_1) == 95) = true := beq_iff_eq.mpr c27
          have c27b1 : ((bt a0 x3_1) != 95) = false := bne_eq_false_iff_eq.mpr c27
          clear c27
          have H' := aM H
          clear H
          have p4 : 0 ≤ (x3_1 : Int) := of_decide_eq_true (by first | (with_reducible assumption) | assumption)
          have q4 : x3_1 < (a0.size : Int) := of_decide_eq_true (by first | (with_reducible assumption) | assumption)
          have hx4 := bt_at a0 x3_1
          replace p4 := eq_true p4
          replace q4 := eq_true q4
          go_wp2
          go_roundg k1
          case measure => have := HK1.out; omega
          case rel => exact ⟨(wrap64 (x3_1 + 1)), (by first | rfl | (simp; done) | (simp [*]; done)), H', ⟨by have := HK1.out; omega⟩, by repeat (first | exact Drawn0.refl _ | apply Drawn0.step)⟩
         ·rw [if_neg c27] at H
          have c27b0 : ((bt a0 x3_1) == 95) = false := beq_eq_false_iff_ne.mpr c27
          have c27b1 : ((bt a0 x3_1) != 95) = true := bne_iff_ne.mpr c27
          by_cases c28 : ((bt a0 x3_1) = 45)
          ·rw [if_pos c28] at H
           have c28b0 : ((bt a0 x3_1) == 45) = true := beq_iff_eq.mpr c28
           have c28b1 : ((bt a0 x3_1) != 45) = false := bne_eq_false_iff_eq.mpr c28
           clear c28
           have H' := aM H
           clear H
           have p4 : 0 ≤ (x3_1 : Int) := of_decide_eq_true (by first | (with_reducible assumption) | assumption)
           have q4 : x3_1 < (a0.size : Int) := of_decide_eq_true (by first | (with_reducible assumption) | assumption)
           have hx4 := bt_at a0 x3_1
           replace p4 := eq_true p4
           replace q4 := eq_true q4
           go_wp2
           go_roundg k1
           case measure => have := HK1.out; omega
           case rel => exact ⟨(wrap64 (x3_1 + 1)), (by first | rfl | (simp; done) | (simp [*]; done)), H', ⟨by have := HK1.out; omega⟩, by repeat (first | exact Drawn0.refl _ | apply Drawn0.step)⟩
          ·rw [if_neg c28] at H
           have c28b0 : ((bt a0 x3_1) == 45) = false := beq_eq_false_iff_ne.mpr c28
           have c28b1 : ((bt a0 x3_1) != 45) = true := bne_iff_ne.mpr c28
           obtain rfl := Option.some.inj H
           have p4 : 0 ≤ (x3_1 : Int) := of_decide_eq_true (by first | (with_reducible assumption) | assumption)
           have q4 : x3_1 < (a0.size : Int) := of_decide_eq_true (by first | (with_reducible assumption) | assumption)
           have hx4 := bt_at a0 x3_1
           replace p4 := eq_true p4
           replace q4 := eq_true q4
           go_wp2
           go_ret
           exact ⟨by first | rfl | (simp; done) | (simp [*]; done) | (refine congrArg (fun b_ => Ending.returned (.bool b_)) ?_; exact sayNameisE_ _) | (refine congrArg (fun b_ => Ending.returned (.bool b_)) ?_; exact nsayNameisE_ _), by repeat (first | exact Drawn0.refl _ | apply Drawn0.step)⟩
      ·rw [if_neg c21] at H
       have c21b0 : decide (65 ≤ (bt a0 x3_1)) = false := decide_eq_false c21
       clear c21
       by_cases c29 : (bt a0 x3_1) ≥ 48
       ·rw [if_pos c29] at H
        have c29b0 : decide (48 ≤ (bt a0 x3_1)) = true := decide_eq_true c29
        clear c29
        by_cases c30 : (bt a0 x3_1) ≤ 57
        ·rw [if_pos c30] at H
         have c30b0 : decide ((bt a0 x3_1) ≤ 57) = true := decide_eq_true c30
         clear c30
         have H' := aM H
         clear H
         have p4 : 0 ≤ (x3_1 : Int) := of_decide_eq_true (by first | (with_reducible assumption) | assumption)
         have q4 : x3_1 < (a0.size : Int) := of_decide_eq_true (by first | (with_reducible assumption) | assumption)
         have hx4 := bt_at a0 x3_1
         replace p4 := eq_true p4
         replace q4 := eq_true q4
         go_wp2
         go_roundg k1
         case measure => have := HK1.out; omega
         case rel => exact ⟨(wrap64 (x3_1 + 1)), (by first | rfl | (simp; done) | (simp [*]; done)), H', ⟨by have := HK1.out; omega⟩, by repeat (first | exact Drawn0.refl _ | apply Drawn0.step)⟩
        ·rw [if_neg c30] at H
         have c30b0 : decide ((bt a0 x3_1) ≤ 57) = false := decide_eq_false c30
         clear c30
         by_cases c31 : (bt a0 x3_1) = 95
         ·rw [if_pos c31] at H
          have c31b0 : ((bt a0 x3_1) == 95) = true := beq_iff_eq.mpr c31
          have c31b1 : ((bt a0 x3_1) != 95) = false := bne_eq_false_iff_eq.mpr c31
          clear c31
          have H' := aM H
          clear H
          have p4 : 0 ≤ (x3_1 : Int) := of_decide_eq_true (by first | (with_reducible assumption) | assumption)
          have q4 : x3_1 < (a0.size : Int) := of_decide_eq_true (by first | (with_reducible assumption) | assumption)
          have hx4 := bt_at a0 x3_1
          replace p4 := eq_true p4
          replace q4 := eq_true q4
          go_wp2
          go_roundg k1
          case measure => have := HK1.out; omega
          case rel => exact ⟨(wrap64 (x3_1 + 1)), (by first | rfl | (simp; done) | (simp [*]; done)), H', ⟨by have := HK1.out; omega⟩, by repeat (first | exact Drawn0.refl _ | apply Drawn0.step)⟩
         ·rw [if_neg c31] at H
          have c31b0 : ((bt a0 x3_1) == 95) = false := beq_eq_false_iff_ne.mpr c31
          have c31b1 : ((bt a0 x3_1) != 95) = true := bne_iff_ne.mpr c31
          by_cases c32 : ((bt a0 x3_1) = 45)
          ·rw [if_pos c32] at H
           have c32b0 : ((bt a0 x3_1) == 45) = true := beq_iff_eq.mpr c32
           have c32b1 : ((bt a0 x3_1) != 45) = false := bne_eq_false_iff_eq.mpr c32
           clear c32
           have H' := aM H
           clear H
           have p4 : 0 ≤ (x3_1 : Int) := of_decide_eq_true (by first | (with_reducible assumption) | assumption)
           have q4 : x3_1 < (a0.size : Int) := of_decide_eq_true (by first | (with_reducible assumption) | assumption)
           have hx4 := bt_at a0 x3_1
           replace p4 := eq_true p4
           replace q4 := eq_true q4
           go_wp2
           go_roundg k1
           case measure => have := HK1.out; omega
           case rel => exact ⟨(wrap64 (x3_1 + 1)), (by first | rfl | (simp; done) | (simp [*]; done)), H', ⟨by have := HK1.out; omega⟩, by repeat (first | exact Drawn0.refl _ | apply Drawn0.step)⟩
          ·rw [if_neg c32] at H
           have c32b0 : ((bt a0 x3_1) == 45) = false := beq_eq_false_iff_ne.mpr c32
           have c32b1 : ((bt a0 x3_1) != 45) = true := bne_iff_ne.mpr c32
           obtain rfl := Option.some.inj H
           have p4 : 0 ≤ (x3_1 : Int) := of_decide_eq_true (by first | (with_reducible assumption) | assumption)
           have q4 : x3_1 < (a0.size : Int) := of_decide_eq_true (by first | (with_reducible assumption) | assumption)
           have hx4 := bt_at a0 x3_1
           replace p4 := eq_true p4
           replace q4 := eq_true q4
           go_wp2
           go_ret
           exact ⟨by first | rfl | (simp; done) | (simp [*]; done) | (refine congrArg (fun b_ => Ending.returned (.bool b_)) ?_; exact sayNameisE_ _) | (refine congrArg (fun b_ => Ending.returned (.bool b_)) ?_; exact nsayNameisE_ _), by repeat (first | exact Drawn0.refl _ | apply Drawn0.step)⟩
       ·rw [if_neg c29] at H
        have c29b0 : decide (48 ≤ (bt a0 x3_1)) = false := decide_eq_false c29
        clear c29
        by_cases c33 : (bt a0 x3_1) = 95
        ·rw [if_pos c33] at H
         have c33b0 : ((bt a0 x3_1) == 95) = true := beq_iff_eq.mpr c33
         have c33b1 : ((bt a0 x3_1) != 95) = false := bne_eq_false_iff_eq.mpr c33
         clear c33
         have H' := aM H
         clear H
         have p4 : 0 ≤ (x3_1 : Int) := of_decide_eq_true (by first | (with_reducible assumption) | assumption)
         have q4 : x3_1 < (a0.size : Int) := of_decide_eq_true (by first | (with_reducible assumption) | assumption)
         have hx4 := bt_at a0 x3_1
         replace p4 := eq_true p4
         replace q4 := eq_true q4
         go_wp2
         go_roundg k1
         case measure => have := HK1.out; omega
         case rel => exact ⟨(wrap64 (x3_1 + 1)), (by first | rfl | (simp; done) | (simp [*]; done)), H', ⟨by have := HK1.out; omega⟩, by repeat (first | exact Drawn0.refl _ | apply Drawn0.step)⟩
        ·rw [if_neg c33] at H
         have c33b0 : ((bt a0 x3_1) == 95) = false := beq_eq_false_iff_ne.mpr c33
         have c33b1 : ((bt a0 x3_1) != 95) = true := bne_iff_ne.mpr c33
         by_cases c34 : ((bt a0 x3_1) = 45)
         ·rw [if_pos c34] at H
          have c34b0 : ((bt a0 x3_1) == 45) = true := beq_iff_eq.mpr c34
          have c34b1 : ((bt a0 x3_1) != 45) = false := bne_eq_false_iff_eq.mpr c34
          clear c34
          have H' := aM H
          clear H
          have p4 : 0 ≤ (x3_1 : Int) := of_decide_eq_true (by first | (with_reducible assumption) | assumption)
          have q4 : x3_1 < (a0.size : Int) := of_decide_eq_true (by first | (with_reducible assumption) | assumption)
          have hx4 := bt_at a0 x3_1
          replace p4 := eq_true p4
          replace q4 := eq_true q4
          go_wp2
          go_roundg k1
          case measure => have := HK1.out; omega
          case rel => exact ⟨(wrap64 (x3_1 + 1)), (by first | rfl | (simp; done) | (simp [*]; done)), H', ⟨by have := HK1.out; omega⟩, by repeat (first | exact Drawn0.refl _ | apply Drawn0.step)⟩
         ·rw [if_neg c34] at H
          have c34b0 : ((bt a0 x3_1) == 45) = false := beq_eq_false_iff_ne.mpr c34
          have c34b1 : ((bt a0 x3_1) != 45) = true := bne_iff_ne.mpr c34
          obtain rfl := Option.some.inj H
          have p4 : 0 ≤ (x3_1 : Int) := of_decide_eq_true (by first | (with_reducible assumption) | assumption)
          have q4 : x3_1 < (a0.size : Int) := of_decide_eq_true (by first | (with_reducible assumption) | assumption)
          have hx4 := bt_at a0 x3_1
          replace p4 := eq_true p4
          replace q4 := eq_true q4
          go_wp2
          go_ret
          exact ⟨by first | rfl | (simp; done) | (simp [*]; done) | (refine congrArg (fun b_ => Ending.returned (.bool b_)) ?_; exact sayNameisE_ _) | (refine congrArg (fun b_ => Ending.returned (.bool b_)) ?_; exact nsayNameisE_ _), by repeat (first | exact Drawn0.refl _ | apply Drawn0.step)⟩
    ·rw [if_neg c3] at H
     exact absurd H (by simp)
   ·rw [if_neg c2] at H
    have c2b0 : decide (x3_1 < (a0.size : Int)) = false := decide_eq_false c2
    clear c2
    obtain rfl := Option.some.inj H
    go_wp2
    go_ret
    exact ⟨by first | rfl | (simp; done) | (simp [*]; done) | (refine congrArg (fun b_ => Ending.returned (.bool b_)) ?_; exact sayNameisE_ _) | (refine congrArg (fun b_ => Ending.returned (.bool b_)) ?_; exact nsayNameisE_ _), by repeat (first | exact Drawn0.refl _ | apply Drawn0.step)⟩
end Go.Proofs.Ytaembebbaejfiaa.PS
namespace Go.Proofs.Ytaembebbaejfiaa.PS
open Go.RowKit Go.Proofs.YtaembebbaejfiaaW.PrintWords Go.Proofs.YtaembebbaejfiaaW.PrintLast Go.Proofs.YtaembebbaejfiaaW.PrintMore
attribute [local go_sem] max2_int min2_int max_two min_two max_three min_three max_four min_four 
set_option linter.unusedVariables false
set_option linter.unusedSimpArgs false
end Go.Proofs.Ytaembebbaejfiaa.PS
namespace Go.Proofs.Ytaembebbaejfiaa.PS
open Go.RowKit Go.Proofs.YtaembebbaejfiaaW.PrintWords Go.Proofs.YtaembebbaejfiaaW.PrintLast Go.Proofs.YtaembebbaejfiaaW.PrintMore
attribute [local go_sem] max2_int min2_int max_two min_two max_three min_three max_four min_four 
set_option linter.unusedVariables false
set_option linter.unusedSimpArgs false
end Go.Proofs.Ytaembebbaejfiaa.PS
namespace Go.Proofs.Ytaembebbaejfiaa.PS
open Go.RowKit Go.Proofs.YtaembebbaejfiaaW.PrintWords Go.Proofs.YtaembebbaejfiaaW.PrintLast Go.Proofs.YtaembebbaejfiaaW.PrintMore
attribute [local go_sem] max2_int min2_int max_two min_two max_three min_three max_four min_four 
set_option linter.unusedVariables false
set_option linter.unusedSimpArgs false
end Go.Proofs.Ytaembebbaejfiaa.PS
namespace Go.Proofs.Ytaembebbaejfiaa.PS
open Go.RowKit Go.Proofs.YtaembebbaejfiaaW.PrintWords Go.Proofs.YtaembebbaejfiaaW.PrintLast Go.Proofs.YtaembebbaejfiaaW.PrintMore
attribute [local go_sem] max2_int min2_int max_two min_two max_three min_three max_four min_four 
set_option linter.unusedVariables false
set_option linter.unusedSimpArgs false
end Go.Proofs.Ytaembebbaejfiaa.PS
namespace Go.Proofs.Ytaembebbaejfiaa.PS
open Go.RowKit Go.Proofs.YtaembebbaejfiaaW.PrintWords Go.Proofs.YtaembebbaejfiaaW.PrintLast Go.Proofs.YtaembebbaejfiaaW.PrintMore
attribute [local go_sem] max2_int min2_int max_two min_two max_three min_three max_four min_four 
set_option linter.unusedVariables false
set_option linter.unusedSimpArgs false
end Go.Proofs.Ytaembebbaejfiaa.PS
namespace Go.Proofs.Ytaembebbaejfiaa.Tr
open Go.RowKit Go.Proofs.YtaembebbaejfiaaW.PrintWords Go.Proofs.YtaembebbaejfiaaW.PrintLast Go.Proofs.Ytaembebbaejfiaa.Str Go.Proofs.Ytaembebbaejfiaa.Kit Go.Proofs.Ytaembebbaejfiaa.MapV Go.Proofs.Ytaembebbaejfiaa.Frame Go.Proofs.Ytaembebbaejfiaa.PS
open Go.Proofs.Ytaembebbaejfiaa.Val (place placeI placeB placeI_hit placeI_end)
set_option linter.unusedVariables false
set_option linter.unusedSimpArgs false
theorem wrapM (i : Nat) (h : i < 9223372036854775807) : wrap64 ((i : Int) + 1) = ((i + 1 : Nat) : Int) := by unfold wrap64; omega
theorem ends_sayName_l (s : BA) (hs : s.size ≤ 9223372036854775807) : ∀ (d i : Nat), i + d = s.size → Ends (fun _ => True) (fun k => spec_sayName.l0 k s (i : Int)) := by
 intro d
 induction d with
 | zero =>
  intro i hi
  refine Ends.step (fun k => by simp only [spec_sayName.l0]; rfl) ?_
  exact Ends.no (by omega) (Ends.now trivial)
 | succ d ih =>
  intro i hi
  have hn := ih (i + 1) (by omega)
  refine Ends.step (fun k => by simp only [spec_sayName.l0]; rfl) ?_
  rw [wrapM i (by omega)]
  refine Ends.yes (by omega) (Ends.yes (by omega) ?_)
  repeat' first
   | exact hn
   | exact Ends.now trivial
   | (refine Ends.ite (fun _ => ?_) (fun _ => ?_))
theorem ends_sayName (s : BA) (hs : s.size ≤ 9223372036854775807) : Ends (fun _ => True) (fun k => spec_sayName.f k s) := ends_sayName_l s hs s.size 0 (by omega)
end Go.Proofs.Ytaembebbaejfiaa.Tr
