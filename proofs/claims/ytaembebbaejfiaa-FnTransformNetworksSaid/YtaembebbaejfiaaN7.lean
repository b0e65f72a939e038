/- Parts of the proof, laid together: FromAny, Canon, Ends, QSpecSayName, QSpecSayNames, QSpecSayDigits, QSpecSayAddress, QSpecSayNet, QSpecSayNets, PureNets. -/
import Derived.Test.YtaembebbaejfiaaN6
import Derived.Test.YtaembebbaejfiaaN2
import Derived.Test.YtaembebbaejfiaaN3
namespace Go.Proofs.Ytaembebbaejfiaa.Tr
open Go.RowKit Go.Proofs.YtaembebbaejfiaaW.PrintWords Go.Proofs.YtaembebbaejfiaaW.PrintLast Go.Proofs.Ytaembebbaejfiaa.Str Go.Proofs.Ytaembebbaejfiaa.Kit Go.Proofs.Ytaembebbaejfiaa.MapV Go.Proofs.Ytaembebbaejfiaa.Frame Go.Proofs.Ytaembebbaejfiaa.PS
set_option linter.unusedVariables false
set_option linter.unusedSimpArgs false
mutual
def valOf : Y → VI
 | .null => ⟨0, 0, ⟨#[]⟩, [], []⟩
 | .bool b => ⟨1, if b then 1 else 0, ⟨#[]⟩, [], []⟩
 | .int n => ⟨2, n, ⟨#[]⟩, [], []⟩
 | .text s => ⟨3, 0, s, [], []⟩
 | .list l => ⟨4, 0, ⟨#[]⟩, [], valL l⟩
 | .map m => ⟨5, 0, ⟨#[]⟩, m.map (fun p => ⟨p.1.toArray⟩), valM m⟩
def valL : List Y → List VI
 | [] => []
 | y :: r => valOf y :: valL r
def valM : List (Bs × Y) → List VI
 | [] => []
 | p :: r => valP p :: valM r
def valP : Bs × Y → VI
 | (_, y) => valOf y
end
theorem valL_map : ∀ l, valL l = l.map valOf
 | [] => by simp [valL]
 | y :: r => by simp [valL, valL_map r]
theorem valM_map : ∀ m, valM m = m.map (fun p => valOf p.2)
 | [] => by simp [valM]
 | (k, y) :: r => by simp [valM, valP, valM_map r]
def Told (w : World) (x : VI) (e : Ending) (w' : World) : Prop := ∃ v3 v4, e = .returned (.tuple #[.agg #[.int .i64 x.f0, .int .i64 x.f1, .string x.f2, v3, v4], .bool true]) ∧ Kd.string.R 9 w' w.heap.size (fun _ => True) v3 x.f3 ∧ kI.R 36 w' w.heap.size (fun _ => True) v4 x.f4 ∧ Below w.heap.size w w'
def zI : Array Value := #[.int .i64 0, .int .i64 0, .string ⟨#[]⟩, .slice none 0 0, .slice none 0 0]
section
theorem t_bool (v : Value) (w : World) : (Instr.typeAssert (.iface 4 v) 20 4 true).run Try.prog w = .ok (.tuple #[v, .bool true]) w := by kernel_rfl
theorem t_int_bool (v : Value) (w : World) : (Instr.typeAssert (.iface 3 v) 20 4 true).run Try.prog w = .ok (.tuple #[.bool false, .bool false]) w := by kernel_rfl
theorem t_int (v : Value) (w : World) : (Instr.typeAssert (.iface 3 v) 20 3 true).run Try.prog w = .ok (.tuple #[v, .bool true]) w := by kernel_rfl
theorem t_str_bool (v : Value) (w : World) : (Instr.typeAssert (.iface 9 v) 20 4 true).run Try.prog w = .ok (.tuple #[.bool false, .bool false]) w := by kernel_rfl
theorem t_str_int (v : Value) (w : World) : (Instr.typeAssert (.iface 9 v) 20 3 true).run Try.prog w = .ok (.tuple #[.int .i64 0, .bool false]) w := by kernel_rfl
theorem t_str_i64 (v : Value) (w : World) : (Instr.typeAssert (.iface 9 v) 20 2 true).run Try.prog w = .ok (.tuple #[.int .i64 0, .bool false]) w := by kernel_rfl
theorem t_str_u64 (v : Value) (w : World) : (Instr.typeAssert (.iface 9 v) 20 71 true).run Try.prog w = .ok (.tuple #[.int .u64 0, .bool false]) w := by kernel_rfl
theorem t_str (v : Value) (w : World) : (Instr.typeAssert (.iface 9 v) 20 9 true).run Try.prog w = .ok (.tuple #[v, .bool true]) w := by kernel_rfl
end
theorem told_leaf {fn : Func} (hr : fn.results = #[.cell 2 36, .tmp 3]) {tmps : Array Value} {w W : World} {k n : Int} {t : BA} (hp : tmps.getD 2 undef = .pointer (some ⟨w.heap.size, 0, none⟩)) (h3 : tmps.getD 3 undef = .bool true) (hb : W.heap[w.heap.size]? = some (.cells #[.int .i64 k, .int .i64 n, .string t, .slice none 0 0, .slice none 0 0] 36 (0, 0))) :
  (results fn tmps).run Try.prog W = .ok (.tuple #[.agg #[.int .i64 k, .int .i64 n, .string t, .slice none 0 0, .slice none 0 0], .bool true]) W := by
 have := results_ct (P := Try.prog) hr tmps W w.heap.size 36 _ (0, 0) _ hp hb Try.underlying36 rfl ival_size
 rw [h3] at this
 exact this
set_option maxHeartbeats 800000 in
theorem from_null (w : World) : Calls Try.prog 42 #[.nilIface] w (Told w (valOf .null)) := by
 have h0 := cb_new w (.cells #[.int .i64 0, .int .i64 0, .string ⟨#[]⟩, .slice none 0 0, .slice none 0 0] 36)
 have HB := aM (below_alloc (Below.refl w.heap.size w) (.cells #[.int .i64 0, .int .i64 0, .string ⟨#[]⟩, .slice none 0 0, .slice none 0 0] 36))
 go_enter Try.func42, Try.ntmps42
 go_wp2_with (refine store_ival (.tmp 2) (.tmp 18) rfl rfl rfl rfl h0 ?_)
 have h1 := setRow_heap _ w.heap.size _ #[.int .i64 0, .int .i64 0, .string ⟨#[]⟩, .slice none 0 0, .slice none 0 0] _ _ h0
 have hB := pw_below_grown HB.out (some w.heap.size) HB.out.size (grown_setRow _ w.heap.size #[.int .i64 0, .int .i64 0, .string ⟨#[]⟩, .slice none 0 0, .slice none 0 0]) (fun k hk => by injection hk with hk; have h2 : w.heap.size = k := hk; omega)
 exact bodyPost_ret (v := .tuple #[.agg #[.int .i64 0, .int .i64 0, .string ⟨#[]⟩, .slice none 0 0, .slice none 0 0], .bool true]) (told_leaf rfl rfl rfl h1) rfl ⟨.slice none 0 0, .slice none 0 0, by simp [valOf], by simp only [valOf]; exact Kd.R_nil _ _ _ _ _, by simp only [valOf]; exact Kd.R_nil _ _ _ _ _, hB⟩
set_option maxHeartbeats 800000 in
theorem from_btrue (w : World) : Calls Try.prog 42 #[(.iface 4 (.bool true))] w (Told w (valOf (.bool true))) := by
 have f0 := t_bool
 have h0 := cb_new w (.cells #[.int .i64 0, .int .i64 0, .string ⟨#[]⟩, .slice none 0 0, .slice none 0 0] 36)
 have HB := aM (below_alloc (Below.refl w.heap.size w) (.cells #[.int .i64 0, .int .i64 0, .string ⟨#[]⟩, .slice none 0 0, .slice none 0 0] 36))
 go_enter Try.func42, Try.ntmps42
 go_wp2_with (refine store_ival (.tmp 2) (.tmp 23) rfl rfl rfl rfl h0 ?_)
 have h1 := setRow_heap _ w.heap.size _ #[.int .i64 1, .int .i64 1, .string ⟨#[]⟩, .slice none 0 0, .slice none 0 0] _ _ h0
 have hB := pw_below_grown HB.out (some w.heap.size) HB.out.size (grown_setRow _ w.heap.size #[.int .i64 1, .int .i64 1, .string ⟨#[]⟩, .slice none 0 0, .slice none 0 0]) (fun k hk => by injection hk with hk; have h2 : w.heap.size = k := hk; omega)
 exact bodyPost_ret (v := .tuple #[.agg #[.int .i64 1, .int .i64 1, .string ⟨#[]⟩, .slice none 0 0, .slice none 0 0], .bool true]) (told_leaf rfl rfl rfl h1) rfl ⟨.slice none 0 0, .slice none 0 0, by simp [valOf], by simp only [valOf]; exact Kd.R_nil _ _ _ _ _, by simp only [valOf]; exact Kd.R_nil _ _ _ _ _, hB⟩
set_option maxHeartbeats 800000 in
theorem from_bfalse (w : World) : Calls Try.prog 42 #[(.iface 4 (.bool false))] w (Told w (valOf (.bool false))) := by
 have f0 := t_bool
 have h0 := cb_new w (.cells #[.int .i64 0, .int .i64 0, .string ⟨#[]⟩, .slice none 0 0, .slice none 0 0] 36)
 have HB := aM (below_alloc (Below.refl w.heap.size w) (.cells #[.int .i64 0, .int .i64 0, .string ⟨#[]⟩, .slice none 0 0, .slice none 0 0] 36))
 go_enter Try.func42, Try.ntmps42
 go_wp2_with (refine store_ival (.tmp 2) (.tmp 24) rfl rfl rfl rfl h0 ?_)
 have h1 := setRow_heap _ w.heap.size _ #[.int .i64 1, .int .i64 0, .string ⟨#[]⟩, .slice none 0 0, .slice none 0 0] _ _ h0
 have hB := pw_below_grown HB.out (some w.heap.size) HB.out.size (grown_setRow _ w.heap.size #[.int .i64 1, .int .i64 0, .string ⟨#[]⟩, .slice none 0 0, .slice none 0 0]) (fun k hk => by injection hk with hk; have h2 : w.heap.size = k := hk; omega)
 exact bodyPost_ret (v := .tuple #[.agg #[.int .i64 1, .int .i64 0, .string ⟨#[]⟩, .slice none 0 0, .slice none 0 0], .bool true]) (told_leaf rfl rfl rfl h1) rfl ⟨.slice none 0 0, .slice none 0 0, by simp [valOf], by simp only [valOf]; exact Kd.R_nil _ _ _ _ _, by simp only [valOf]; exact Kd.R_nil _ _ _ _ _, hB⟩
set_option maxHeartbeats 800000 in
theorem from_int (n : Int) (w : World) : Calls Try.prog 42 #[(.iface 3 (.int .i64 n))] w (Told w (valOf (.int n))) := by
 have f0 := t_int_bool
 have f1 := t_int
 have h0 := cb_new w (.cells #[.int .i64 0, .int .i64 0, .string ⟨#[]⟩, .slice none 0 0, .slice none 0 0] 36)
 have HB := aM (below_alloc (Below.refl w.heap.size w) (.cells #[.int .i64 0, .int .i64 0, .string ⟨#[]⟩, .slice none 0 0, .slice none 0 0] 36))
 go_enter Try.func42, Try.ntmps42
 go_wp2_with (refine store_ival (.tmp 2) (.tmp 29) rfl rfl rfl rfl h0 ?_)
 have h1 := setRow_heap _ w.heap.size _ #[.int .i64 2, .int .i64 n, .string ⟨#[]⟩, .slice none 0 0, .slice none 0 0] _ _ h0
 have hB := pw_below_grown HB.out (some w.heap.size) HB.out.size (grown_setRow _ w.heap.size #[.int .i64 2, .int .i64 n, .string ⟨#[]⟩, .slice none 0 0, .slice none 0 0]) (fun k hk => by injection hk with hk; have h2 : w.heap.size = k := hk; omega)
 exact bodyPost_ret (v := .tuple #[.agg #[.int .i64 2, .int .i64 n, .string ⟨#[]⟩, .slice none 0 0, .slice none 0 0], .bool true]) (told_leaf rfl rfl rfl h1) rfl ⟨.slice none 0 0, .slice none 0 0, by simp [valOf], by simp only [valOf]; exact Kd.R_nil _ _ _ _ _, by simp only [valOf]; exact Kd.R_nil _ _ _ _ _, hB⟩
set_option maxHeartbeats 800000 in
theorem from_text (s : BA) (w : World) : Calls Try.prog 42 #[(.iface 9 (.string s))] w (Told w (valOf (.text s))) := by
 have f0 := t_str_bool
 have f1 := t_str_int
 have f2 := t_str_i64
 have f3 := t_str_u64
 have f4 := t_str
 have h0 := cb_new w (.cells #[.int .i64 0, .int .i64 0, .string ⟨#[]⟩, .slice none 0 0, .slice none 0 0] 36)
 have HB := aM (below_alloc (Below.refl w.heap.size w) (.cells #[.int .i64 0, .int .i64 0, .string ⟨#[]⟩, .slice none 0 0, .slice none 0 0] 36))
 go_enter Try.func42, Try.ntmps42
 go_wp2_with (refine store_ival (.tmp 2) (.tmp 45) rfl rfl rfl rfl h0 ?_)
 have h1 := setRow_heap _ w.heap.size _ #[.int .i64 3, .int .i64 0, .string s, .slice none 0 0, .slice none 0 0] _ _ h0
 have hB := pw_below_grown HB.out (some w.heap.size) HB.out.size (grown_setRow _ w.heap.size #[.int .i64 3, .int .i64 0, .string s, .slice none 0 0, .slice none 0 0]) (fun k hk => by injection hk with hk; have h2 : w.heap.size = k := hk; omega)
 exact bodyPost_ret (v := .tuple #[.agg #[.int .i64 3, .int .i64 0, .string s, .slice none 0 0, .slice none 0 0], .bool true]) (told_leaf rfl rfl rfl h1) rfl ⟨.slice none 0 0, .slice none 0 0, by simp [valOf], by simp only [valOf]; exact Kd.R_nil _ _ _ _ _, by simp only [valOf]; exact Kd.R_nil _ _ _ _ _, hB⟩
end Go.Proofs.Ytaembebbaejfiaa.Tr
namespace Go.Proofs.Ytaembebbaejfiaa.Tr
open Go.RowKit Go.Proofs.YtaembebbaejfiaaW.PrintWords Go.Proofs.YtaembebbaejfiaaW.PrintLast Go.Proofs.Ytaembebbaejfiaa.Str Go.Proofs.Ytaembebbaejfiaa.Kit Go.Proofs.Ytaembebbaejfiaa.MapV Go.Proofs.Ytaembebbaejfiaa.Frame Go.Proofs.Ytaembebbaejfiaa.PS
open Go.Proofs.Ytaembebbaejfiaa.Val (place placeI placeB placeI_hit placeI_end)
set_option linter.unusedVariables false
set_option linter.unusedSimpArgs false
inductive Canon : VS → Prop
 | null : Canon (leaf 0 0 ⟨#[]⟩)
 | bool (b : Bool) : Canon (leaf 1 (if b then 1 else 0) ⟨#[]⟩)
 | int (n : Int) : Canon (leaf 2 n ⟨#[]⟩)
 | text (s : BA) : Canon (leaf 3 0 s)
 | list (l : List VS) (h : ∀ v, v ∈ l → Canon v) : Canon ⟨4, 0, ⟨#[]⟩, [], l⟩
 | map (ks : List BA) (vs : List VS) (hr : RiseK ks) (hl : ks.length = vs.length) (h : ∀ v, v ∈ vs → Canon v) : Canon ⟨5, 0, ⟨#[]⟩, ks, vs⟩
theorem canon_fit : ∀ x : VS, SmallS x → Canon (fitV x) := by
 intro x hx
 induction hx with
 | mk x ht hk hkl hvl hv ih =>
  obtain ⟨k, n, t, ks, vs⟩ := x
  have hch : ∀ v, v ∈ fitL vs → Canon v := fun v hv' => by
   rw [fitL_map] at hv'
   obtain ⟨u, hu, rfl⟩ := List.mem_map.1 hv'
   exact ih u hu
  by_cases h1 : k = 1
  ·subst h1
   by_cases hn : n = 0
   ·have := Canon.bool false
    simpa [fitV, hn] using this
   ·have := Canon.bool true
    simpa [fitV, hn] using this
  by_cases h2 : k = 2
  ·subst h2; have := Canon.int n; simpa [fitV] using this
  by_cases h3 : k = 3
  ·subst h3; have := Canon.text t; simpa [fitV] using this
  by_cases h4 : k = 4
  ·subst h4
   have := Canon.list (fitL vs) hch
   simpa [fitV] using this
  by_cases h5 : k = 5
  ·subst h5
   obtain ⟨a, b, c, d, e, f⟩ := fitW_facts ks (fitL vs) [] [] rfl List.Pairwise.nil
   have := Canon.map _ _ b a (fun v h => by
    rcases f v h with h | h
    ·cases h
    ·exact hch v h)
   simpa [fitV] using this
  ·have := Canon.null
   simpa [fitV, h1, h2, h3, h4, h5] using this
theorem zip_keys {α : Type} : ∀ (ks : List BA) (ys : List α), ks.length = ys.length → ((ks.map lb).zip ys).map (fun p => (⟨p.1.toArray⟩ : BA)) = ks
 | [], _, _ => rfl
 | k :: ks, y :: ys, h => by
  rw [List.map_cons, List.zip_cons_cons, List.map_cons, zip_keys ks ys (by simpa using h)]
 | _ :: _, [], h => by simp at h
theorem zip_vals {α β : Type} (g : α → β) : ∀ (ks : List BA) (ys : List α), ks.length = ys.length → ((ks.map lb).zip ys).map (fun p => g p.2) = ys.map g
 | [], [], _ => rfl
 | k :: ks, y :: ys, h => by
  rw [List.map_cons, List.zip_cons_cons, List.map_cons, zip_vals g ks ys (by simpa using h), List.map_cons]
 | _ :: _, [], h => by simp at h
 | [], _ :: _, h => by simp at h
theorem canon_anyOf_map {ks : List BA} {vs : List VS} (hr : RiseK ks) (n : Int) (t : BA) : anyOf (toI ⟨5, n, t, ks, vs⟩) = .map ((ks.map lb).zip (anyL (toL vs))) := by
 rw [toI_eq]
 simp only [anyOf]
 rw [if_neg (by decide), if_neg (by decide), if_neg (by decide), if_neg (by decide), if_pos trivial, fitM_id (pairs_rise hr)]
theorem canon_back {x : VS} (h : Canon x) : valOf (anyOf (toI x)) = toI x := by
 induction h with
 | null => simp [leaf, toI, toL, anyOf, valOf]
 | bool b => cases b <;> simp [leaf, toI, toL, anyOf, valOf]
 | int n => simp [leaf, toI, toL, anyOf, valOf]
 | text s => simp [leaf, toI, toL, anyOf, valOf]
 | list l h ih =>
  simp only [toI_eq, anyOf]
  rw [if_neg (by decide), if_neg (by decide), if_neg (by decide), if_pos trivial]
  simp only [valOf]
  rw [valL_map, anyL_map, toL_map, List.map_map, List.map_map]
  have e : l.map ((valOf ∘ anyOf) ∘ toI) = l.map toI := List.map_congr_left (fun v hv => ih v hv)
  rw [e]
 | map ks vs hr hl h ih =>
  have hl2 : ks.length = (anyL (toL vs)).length := by rw [anyL_length, toL_length]; exact hl
  rw [canon_anyOf_map hr, toI_eq]
  simp only [valOf]
  rw [valM_map, zip_keys ks _ hl2, zip_vals valOf ks _ hl2, anyL_map, toL_map, List.map_map, List.map_map]
  have e : vs.map ((valOf ∘ anyOf) ∘ toI) = vs.map toI := List.map_congr_left (fun v hv => ih v hv)
  rw [e]
mutual
theorem from_to : ∀ x : VS, fromI (toI x) = x
 | ⟨k, n, t, ks, vs⟩ => by rw [toI, fromI, from_toL vs]
theorem from_toL : ∀ l : List VS, fromL (toL l) = l
 | [] => by simp [toL, fromL]
 | v :: r => by rw [toL, fromL, from_to v, from_toL r]
end
theorem with_mput {α β : Type} (g : α → β) : ∀ (ks : List BA) (vs : List α) (key : BA) (x : α), RiseK ks → ks.length = vs.length → ((withK ks key).map lb).zip ((withV ks vs key x).map g) = mput ((ks.map lb).zip (vs.map g)) (lb key) (g x)
 | [], [], key, x, _, _ => rfl
 | k :: ks, v :: vs, key, x, hr, hl => by
  obtain ⟨h1, h2⟩ := List.pairwise_cons.1 hr
  have hl' : ks.length = vs.length := by simpa using hl
  rw [List.map_cons, List.map_cons, List.zip_cons_cons]
  by_cases hlt : lb k < lb key
  ·obtain ⟨e1, e2⟩ := place_cons_lt (r := ks) hlt
   have ek : withK (k :: ks) key = k :: withK ks key := by
    unfold withK
    rw [e1, e2]
    split <;> rfl
   have ev : withV (k :: ks) (v :: vs) key x = v :: withV ks vs key x := by
    unfold withV
    rw [e1, e2]
    split <;> rfl
   rw [ek, ev, List.map_cons, List.map_cons, List.zip_cons_cons, with_mput g ks vs key x h2 hl', mput_lt hlt]
  ·obtain ⟨e1, e2⟩ := place_cons_ge (r := ks) hlt
   by_cases he : lb k = lb key
   ·have hb : (k.toList == key.toList) = true := by rw [toList_lb, toList_lb, he]; exact beq_self_eq_true _
    have ek : withK (k :: ks) key = k :: ks := by
     unfold withK
     rw [e2, hb, if_pos rfl]
    have ev : withV (k :: ks) (v :: vs) key x = x :: vs := by
     unfold withV
     rw [e2, e1, hb, if_pos rfl]
     rfl
    rw [ek, ev, List.map_cons, List.map_cons, List.zip_cons_cons, mput_eq he (fun p hp => ?_), he]
    obtain ⟨a, b⟩ := p
    obtain ⟨s, hs, rfl⟩ := List.mem_map.1 (List.of_mem_zip hp).1
    rw [← he]
    exact h1 s hs
   ·have hb : (k.toList == key.toList) = false := by rw [toList_lb, toList_lb]; simpa using he
    have hgt : lb key < lb k := by
     rcases lt_total (lb k) (lb key) with e | e | e
     ·exact absurd e hlt
     ·exact absurd e he
     ·exact e
    have ek : withK (k :: ks) key = key :: k :: ks := by
     unfold withK
     rw [e2, e1, hb, if_neg (by decide)]
     rfl
    have ev : withV (k :: ks) (v :: vs) key x = x :: v :: vs := by
     unfold withV
     rw [e2, e1, hb, if_neg (by decide)]
     rfl
    rw [ek, ev, List.map_cons, List.map_cons, List.map_cons, List.map_cons, List.zip_cons_cons, List.zip_cons_cons, mput_gt (fun p hp => ?_)]
    rcases List.mem_cons.1 hp with rfl | hp
    ·exact hgt
    ·obtain ⟨a, b⟩ := p
     obtain ⟨s, hs, rfl⟩ := List.mem_map.1 (List.of_mem_zip hp).1
     exact lt_trans hgt (h1 s hs)
 | _ :: _, [], _, _, _, h => by simp at h
 | [], _ :: _, _, _, _, h => by simp at h
theorem fitW_mput {β : Type} (g : VS → β) : ∀ (ks : List BA) (vs : List VS) (K : List BA) (V : List VS), RiseK K → K.length = V.length → ks.length = vs.length →
  ((fitW ks vs K V).1.map lb).zip ((fitW ks vs K V).2.map g) = ((ks.map lb).zip (vs.map g)).foldl (fun f p => mput f p.1 p.2) ((K.map lb).zip (V.map g))
 | [], [], K, V, _, _, _ => rfl
 | k :: ks, v :: vs, K, V, hr, hl, hn => by
  rw [fitW, fitW_mput g ks vs _ _ (withK_rises hr) (withV_length (x := v) hl).symm (by simpa using hn), with_mput g K V k v hr hl]
  rfl
 | _ :: _, [], _, _, _, _, h => by simp at h
 | [], _ :: _, _, _, _, _, h => by simp at h
end Go.Proofs.Ytaembebbaejfiaa.Tr
namespace Go.Proofs.Ytaembebbaejfiaa.Tr
open Go.RowKit Go.Proofs.YtaembebbaejfiaaW.PrintWords Go.Proofs.YtaembebbaejfiaaW.PrintLast
set_option linter.unusedVariables false
def Ends {α : Type} (P : α → Prop) (g : Nat → Option α) : Prop := ∃ r, Ev g r ∧ P r
section
variable {α β : Type} {P : α → Prop} {g f : Nat → Option α}
theorem Ends.of {r : α} (h : Ev g r) (hp : P r) : Ends P g := ⟨r, h, hp⟩
theorem Ends.ev {r : α} (h : Ends (fun x => x = r) g) : Ev g r := by
 obtain ⟨x, hx, rfl⟩ := h
 exact hx
theorem Ev.ends {r : α} (h : Ev g r) : Ends (fun x => x = r) g := ⟨r, h, rfl⟩
theorem Ends.mono {Q : α → Prop} (h : Ends P g) (hq : ∀ r, P r → Q r) : Ends Q g := by
 obtain ⟨x, hx, hp⟩ := h
 exact ⟨x, hx, hq x hp⟩
theorem Ends.now {r : α} (h : P r) : Ends P (fun _ => some r) := ⟨r, Ev.now r, h⟩
theorem Ends.ite {c : Prop} [Decidable c] (h1 : c → Ends P f) (h2 : ¬ c → Ends P g) : Ends P (fun k => if c then f k else g k) := by
 by_cases h : c
 ·obtain ⟨r, hr, hp⟩ := h1 h
  exact ⟨r, Ev.congr (fun k => by rw [if_pos h]) hr, hp⟩
 ·obtain ⟨r, hr, hp⟩ := h2 h
  exact ⟨r, Ev.congr (fun k => by rw [if_neg h]) hr, hp⟩
theorem Ends.yes {c : Prop} [Decidable c] (hc : c) (h : Ends P f) : Ends P (fun k => if c then f k else g k) := Ends.ite (fun _ => h) (fun n => absurd hc n)
theorem Ends.no {c : Prop} [Decidable c] (hc : ¬ c) (h : Ends P g) : Ends P (fun k => if c then f k else g k) := Ends.ite (fun n => absurd n hc) (fun _ => h)
theorem Ends.bind {Q : β → Prop} {u : Nat → Option β} {v : Nat → β → Option α} (hu : Ends Q u) (hv : ∀ a, Q a → Ends P (fun k => v k a)) : Ends P (fun k => (u k).bind (v k)) := by
 obtain ⟨a, ha, hq⟩ := hu
 obtain ⟨r, hr, hp⟩ := hv a hq
 exact ⟨r, Ev.bind ha hr, hp⟩
theorem Ends.bindEv {u : Nat → Option β} {v : Nat → β → Option α} {a : β} (hu : Ev u a) (hv : Ends P (fun k => v k a)) : Ends P (fun k => (u k).bind (v k)) := Ends.bind (Ev.ends hu) (fun _ h => by rw [h]; exact hv)
theorem Ends.step (h : ∀ k, g (k + 1) = f k) (k : Ends P f) : Ends P g := by
 obtain ⟨r, hr, hp⟩ := k
 exact ⟨r, Ev.step h hr, hp⟩
theorem Ends.congr (h : ∀ k, g k = f k) (k : Ends P f) : Ends P g := by
 obtain ⟨r, hr, hp⟩ := k
 exact ⟨r, Ev.congr h hr, hp⟩
end
end Go.Proofs.Ytaembebbaejfiaa.Tr
namespace Go.Proofs.Ytaembebbaejfiaa.PS
open Go.RowKit Go.Proofs.YtaembebbaejfiaaW.PrintWords Go.Proofs.YtaembebbaejfiaaW.PrintLast Go.Proofs.YtaembebbaejfiaaW.PrintMore
attribute [local go_sem] max2_int min2_int max_two min_two max_three min_three max_four min_four 
set_option linter.unusedVariables false
set_option linter.unusedSimpArgs false
theorem sayNameisE_ (l : List UInt8) : l.isEmpty = (l == []) := by cases l <;> rfl
theorem nsayNameisE_ (l : List UInt8) : (!l.isEmpty) = (l != []) := by cases l <;> rfl
def spec_sayName.l0 : Nat → ByteArray → Int → Option (Bool)
 | 0, _, _ => none
 | k + 1, x0, x3 => if x3 < (x0.size : Int) then (if 0 ≤ x3 then (if (bt x0 x3) ≥ 97 then (if (bt x0 x3) ≤ 122 then (spec_sayName.l0 k x0 (wrap64 (x3 + 1))) else (if (bt x0 x3) ≥ 65 then (if (bt x0 x3) ≤ 90 then (spec_sayName.l0 k x0 (wrap64 (x3 + 1))) else (if (bt x0 x3) ≥ 48 then (if (bt x0 x3) ≤ 57 then (spec_sayName.l0 k x0 (wrap64 (x3 + 1))) else (if (bt x0 x3) = 95 then (spec_sayName.l0 k x0 (wrap64 (x3 + 1))) else (if ((bt x0 x3) = 45) then (spec_sayName.l0 k x0 (wrap64 (x3 + 1))) else (some false)))) else (if (bt x0 x3) = 95 then (spec_sayName.l0 k x0 (wrap64 (x3 + 1))) else (if ((bt x0 x3) = 45) then (spec_sayName.l0 k x0 (wrap64 (x3 + 1))) else (some false))))) else (if (bt x0 x3) ≥ 48 then (if (bt x0 x3) ≤ 57 then (spec_sayName.l0 k x0 (wrap64 (x3 + 1))) else (if (bt x0 x3) = 95 then (spec_sayName.l0 k x0 (wrap64 (x3 + 1))) else (if ((bt x0 x3) = 45) then (spec_sayName.l0 k x0 (wrap64 (x3 + 1))) else (some false)))) else (if (bt x0 x3) = 95 then (spec_sayName.l0 k x0 (wrap64 (x3 + 1))) else (if ((bt x0 x3) = 45) then (spec_sayName.l0 k x0 (wrap64 (x3 + 1))) else (some false)))))) else (if (bt x0 x3) ≥ 65 then (if (bt x0 x3) ≤ 90 then (spec_sayName.l0 k x0 (wrap64 (x3 + 1))) else (if (bt x0 x3) ≥ 48 then (if (bt x0 x3) ≤ 57 then (spec_sayName.l0 k x0 (wrap64 (x3 + 1))) else (if (bt x0 x3) = 95 then (spec_sayName.l0 k x0 (wrap64 (x3 + 1))) else (if ((bt x0 x3) = 45) then (spec_sayName.l0 k x0 (wrap64 (x3 + 1))) else (some false)))) else (if (bt x0 x3) = 95 then (spec_sayName.l0 k x0 (wrap64 (x3 + 1))) else (if ((bt x0 x3) = 45) then (spec_sayName.l0 k x0 (wrap64 (x3 + 1))) else (some false))))) else (if (bt x0 x3) ≥ 48 then (if (bt x0 x3) ≤ 57 then (spec_sayName.l0 k x0 (wrap64 (x3 + 1))) else (if (bt x0 x3) = 95 then (spec_sayName.l0 k x0 (wrap64 (x3 + 1))) else (if ((bt x0 x3) = 45) then (spec_sayName.l0 k x0 (wrap64 (x3 + 1))) else (some false)))) else (if (bt x0 x3) = 95 then (spec_sayName.l0 k x0 (wrap64 (x3 + 1))) else (if ((bt x0 x3) = 45) then (spec_sayName.l0 k x0 (wrap64 (x3 + 1))) else (some false)))))) else (none)) else (some (x0.toList != ([] : List UInt8)))
def spec_sayName.f (k : Nat) (a0 : ByteArray) : Option (Bool) := spec_sayName.l0 k a0 0
set_option maxHeartbeats 8000000 in
set_option maxRecDepth 100000 in
theorem spec_sayName.calls (k : Nat) (a0 : ByteArray) (r : Bool) (w : World) (h : spec_sayName.f k a0 = some r) :
  Calls Try.prog 40 #[.string a0] w fun e w' => e = .returned (.bool r) ∧ Drawn0 w w' := by
 have H : (spec_sayName.l0 k a0 0) = some r := h
 clear h
 have H' := aM H
 clear H
 go_enter Try.func40, Try.ntmps40
 go_wp2
 go_loopg [3] k (fun kq v3 w' => ∃ (x3_1 : Int), v3 = .int .i64 x3_1 ∧ Aside0 (spec_sayName.l0 kq a0 x3_1 = some r) ∧ Aside0 (kq ≤ k) ∧ Drawn0 w w')
 case atStart => exact ⟨(0), (by first | rfl | (simp; done) | (simp [*]; done)), H', ⟨Nat.le_refl _⟩, by repeat (first | exact Drawn0.refl _ | apply Drawn0.step)⟩
 case round =>
  clear H'
  obtain ⟨x3_1, rfl, HA, HK1, ⟨m1, rfl⟩⟩ := hrel
  cases gk with
  | zero => exact absurd HA.out (by simp [spec_sayName.l0])
  | succ k1 =>
   have H := HA.out
   clear HA
   simp only [spec_sayName.l0] at H
   by_cases c2 : x3_1 < (a0.size : Int)
   ·rw [if_pos c2] at H
    have c2b0 : decide (x3_1 < (a0.size : Int)) = true := decide_eq_true c2
    clear c2
    by_cases c3 : 0 ≤ x3_1
    ·rw [if_pos c3] at H
     have c3b0 : decide (0 ≤ x3_1) = true := decide_eq_true c3
     clear c3
     by_cases c5 : (bt a0 x3_1) ≥ 97
     ·rw [if_pos c5] at H
      have c5b0 : decide (97 ≤ (bt a0 x3_1)) = true := decide_eq_true c5
      clear c5
      by_cases c6 : (bt a0 x3_1) ≤ 122
      ·rw [if_pos c6] at H
       have c6b0 : decide ((bt a0 x3_1) ≤ 122) = true := decide_eq_true c6
       clear c6
       have H' := aM H
       clear H
       have p4 : 0 ≤ (x3_1 : Int) := of_decide_eq_true (by first | (with_reducible assumption) | assumption)
       have q4 : x3_1 < (a0.size : Int) := of_decide_eq_true (by first | (with_reducible assumption) | assumption)
       have hx4 := bt_at a0 x3_1
       replace p4 := eq_true p4
       replace q4 := eq_true q4
       go_wp2
       go_roundg k1
       case measure => have := HK1.out; omega
       case rel => exact ⟨(wrap64 (x3_1 + 1)), (by first | rfl | (simp; done) | (simp [*]; done)), H', ⟨by have := HK1.out; omega⟩, by repeat (first | exact Drawn0.refl _ | apply Drawn0.step)⟩
      ·rw [if_neg c6] at H
       have c6b0 : decide ((bt a0 x3_1) ≤ 122) = false := decide_eq_false c6
       clear c6
       by_cases c7 : (bt a0 x3_1) ≥ 65
       ·rw [if_pos c7] at H
        have c7b0 : decide (65 ≤ (bt a0 x3_1)) = true := decide_eq_true c7
        clear c7
        by_cases c8 : (bt a0 x3_1) ≤ 90
        ·rw [if_pos c8] at H
         have c8b0 : decide ((bt a0 x3_1) ≤ 90) = true := decide_eq_true c8
         clear c8
         have H' := aM H
         clear H
         have p4 : 0 ≤ (x3_1 : Int) := of_decide_eq_true (by first | (with_reducible assumption) | assumption)
         have q4 : x3_1 < (a0.size : Int) := of_decide_eq_true (by first | (with_reducible assumption) | assumption)
         have hx4 := bt_at a0 x3_1
         replace p4 := eq_true p4
         replace q4 := eq_true q4
         go_wp2
         go_roundg k1
         case measure => have := HK1.out; omega
         case rel => exact ⟨(wrap64 (x3_1 + 1)), (by first | rfl | (simp; done) | (simp [*]; done)), H', ⟨by have := HK1.out; omega⟩, by repeat (first | exact Drawn0.refl _ | apply Drawn0.step)⟩
        ·rw [if_neg c8] at H
         have c8b0 : decide ((bt a0 x3_1) ≤ 90) = false := decide_eq_false c8
         clear c8
         by_cases c9 : (bt a0 x3_1) ≥ 48
         ·rw [if_pos c9] at H
          have c9b0 : decide (48 ≤ (bt a0 x3_1)) = true := decide_eq_true c9
          clear c9
          by_cases c10 : (bt a0 x3_1) ≤ 57
          ·rw [if_pos c10] at H
           have c10b0 : decide ((bt a0 x3_1) ≤ 57) = true := decide_eq_true c10
           clear c10
           have H' := aM H
           clear H
           have p4 : 0 ≤ (x3_1 : Int) := of_decide_eq_true (by first | (with_reducible assumption) | assumption)
           have q4 : x3_1 < (a0.size : Int) := of_decide_eq_true (by first | (with_reducible assumption) | assumption)
           have hx4 := bt_at a0 x3_1
           replace p4 := eq_true p4
           replace q4 := eq_true q4
           go_wp2
           go_roundg k1
           case measure => have := HK1.out; omega
           case rel => exact ⟨(wrap64 (x3_1 + 1)), (by first | rfl | (simp; done) | (simp [*]; done)), H', ⟨by have := HK1.out; omega⟩, by repeat (first | exact Drawn0.refl _ | apply Drawn0.step)⟩
          ·rw [if_neg c10] at H
           have c10b0 : decide ((bt a0 x3_1) ≤ 57) = false := decide_eq_false c10
           clear c10
           by_cases c11 : (bt a0 x3_1) = 95
           ·rw [if_pos c11] at H
            have c11b0 : ((bt a0 x3_1) == 95) = true := beq_iff_eq.mpr c11
            have c11b1 : ((bt a0 x3_1) != 95) = false := bne_eq_false_iff_eq.mpr c11
            clear c11
            have H' := aM H
            clear H
            have p4 : 0 ≤ (x3_1 : Int) := of_decide_eq_true (by first | (with_reducible assumption) | assumption)
            have q4 : x3_1 < (a0.size : Int) := of_decide_eq_true (by first | (with_reducible assumption) | assumption)
            have hx4 := bt_at a0 x3_1
            replace p4 := eq_true p4
            replace q4 := eq_true q4
            go_wp2
            go_roundg k1
            case measure => have := HK1.out; omega
            case rel => exact ⟨(wrap64 (x3_1 + 1)), (by first | rfl | (simp; done) | (simp [*]; done)), H', ⟨by have := HK1.out; omega⟩, by repeat (first | exact Drawn0.refl _ | apply Drawn0.step)⟩
           ·rw [if_neg c11] at H
            have c11b0 : ((bt a0 x3_1) == 95) = false := beq_eq_false_iff_ne.mpr c11
            have c11b1 : ((bt a0 x3_1) != 95) = true := bne_iff_ne.mpr c11
            by_cases c12 : ((bt a0 x3_1) = 45)
            ·rw [if_pos c12] at H
             have c12b0 : ((bt a0 x3_1) == 45) = true := beq_iff_eq.mpr c12
             have c12b1 : ((bt a0 x3_1) != 45) = false := bne_eq_false_iff_eq.mpr c12
             clear c12
             have H' := aM H
             clear H
             have p4 : 0 ≤ (x3_1 : Int) := of_decide_eq_true (by first | (with_reducible assumption) | assumption)
             have q4 : x3_1 < (a0.size : Int) := of_decide_eq_true (by first | (with_reducible assumption) | assumption)
             have hx4 := bt_at a0 x3_1
             replace p4 := eq_true p4
             replace q4 := eq_true q4
             go_wp2
             go_roundg k1
             case measure => have := HK1.out; omega
             case rel => exact ⟨(wrap64 (x3_1 + 1)), (by first | rfl | (simp; done) | (simp [*]; done)), H', ⟨by have := HK1.out; omega⟩, by repeat (first | exact Drawn0.refl _ | apply Drawn0.step)⟩
            ·rw [if_neg c12] at H
             have c12b0 : ((bt a0 x3_1) == 45) = false := beq_eq_false_iff_ne.mpr c12
             have c12b1 : ((bt a0 x3_1) != 45) = true := bne_iff_ne.mpr c12
             obtain rfl := Option.some.inj H
             have p4 : 0 ≤ (x3_1 : Int) := of_decide_eq_true (by first | (with_reducible assumption) | assumption)
             have q4 : x3_1 < (a0.size : Int) := of_decide_eq_true (by first | (with_reducible assumption) | assumption)
             have hx4 := bt_at a0 x3_1
             replace p4 := eq_true p4
             replace q4 := eq_true q4
             go_wp2
             go_ret
             exact ⟨by first | rfl | (simp; done) | (simp [*]; done) | (refine congrArg (fun b_ => Ending.returned (.bool b_)) ?_; exact sayNameisE_ _) | (refine congrArg (fun b_ => Ending.returned (.bool b_)) ?_; exact nsayNameisE_ _), by repeat (first | exact Drawn0.refl _ | apply Drawn0.step)⟩
         ·rw [if_neg c9] at H
          have c9b0 : decide (48 ≤ (bt a0 x3_1)) = false := decide_eq_false c9
          clear c9
          by_cases c13 : (bt a0 x3_1) = 95
          ·rw [if_pos c13] at H
           have c13b0 : ((bt a0 x3_1) == 95) = true := beq_iff_eq.mpr c13
           have c13b1 : ((bt a0 x3_1) != 95) = false := bne_eq_false_iff_eq.mpr c13
           clear c13
           have H' := aM H
           clear H
           have p4 : 0 ≤ (x3_1 : Int) := of_decide_eq_true (by first | (with_reducible assumption) | assumption)
           have q4 : x3_1 < (a0.size : Int) := of_decide_eq_true (by first | (with_reducible assumption) | assumption)
           have hx4 := bt_at a0 x3_1
           replace p4 := eq_true p4
           replace q4 := eq_true q4
           go_wp2
           go_roundg k1
           case measure => have := HK1.out; omega
           case rel => exact ⟨(wrap64 (x3_1 + 1)), (by first | rfl | (simp; done) | (simp [*]; done)), H', ⟨by have := HK1.out; omega⟩, by repeat (first | exact Drawn0.refl _ | apply Drawn0.step)⟩
          ·rw [if_neg c13] at H
           have c13b0 : ((bt a0 x3_1) == 95) = false := beq_eq_false_iff_ne.mpr c13
           have c13b1 : ((bt a0 x3_1) != 95) = true := bne_iff_ne.mpr c13
           by_cases c14 : ((bt a0 x3_1) = 45)
           ·rw [if_pos c14] at H
            have c14b0 : ((bt a0 x3_1) == 45) = true := beq_iff_eq.mpr c14
            have c14b1 : ((bt a0 x3_1) != 45) = false := bne_eq_false_iff_eq.mpr c14
            clear c14
            have H' := aM H
            clear H
            have p4 : 0 ≤ (x3_1 : Int) := of_decide_eq_true (by first | (with_reducible assumption) | assumption)
            have q4 : x3_1 < (a0.size : Int) := of_decide_eq_true (by first | (with_reducible assumption) | assumption)
            have hx4 := bt_at a0 x3_1
            replace p4 := eq_true p4
            replace q4 := eq_true q4
            go_wp2
            go_roundg k1
            case measure => have := HK1.out; omega
            case rel => exact ⟨(wrap64 (x3_1 + 1)), (by first | rfl | (simp; done) | (simp [*]; done)), H', ⟨by have := HK1.out; omega⟩, by repeat (first | exact Drawn0.refl _ | apply Drawn0.step)⟩
           ·rw [if_neg c14] at H
            have c14b0 : ((bt a0 x3_1) == 45) = false := beq_eq_false_iff_ne.mpr c14
            have c14b1 : ((bt a0 x3_1) != 45) = true := bne_iff_ne.mpr c14
            obtain rfl := Option.some.inj H
            have p4 : 0 ≤ (x3_1 : Int) := of_decide_eq_true (by first | (with_reducible assumption) | assumption)
            have q4 : x3_1 < (a0.size : Int) := of_decide_eq_true (by first | (with_reducible assumption) | assumption)
            have hx4 := bt_at a0 x3_1
            replace p4 := eq_true p4
            replace q4 := eq_true q4
            go_wp2
            go_ret
            exact ⟨by first | rfl | (simp; done) | (simp [*]; done) | (refine congrArg (fun b_ => Ending.returned (.bool b_)) ?_; exact sayNameisE_ _) | (refine congrArg (fun b_ => Ending.returned (.bool b_)) ?_; exact nsayNameisE_ _), by repeat (first | exact Drawn0.refl _ | apply Drawn0.step)⟩
       ·rw [if_neg c7] at H
        have c7b0 : decide (65 ≤ (bt a0 x3_1)) = false := decide_eq_false c7
        clear c7
        by_cases c15 : (bt a0 x3_1) ≥ 48
        ·rw [if_pos c15] at H
         have c15b0 : decide (48 ≤ (bt a0 x3_1)) = true := decide_eq_true c15
         clear c15
         by_cases c16 : (bt a0 x3_1) ≤ 57
         ·rw [if_pos c16] at H
          have c16b0 : decide ((bt a0 x3_1) ≤ 57) = true := decide_eq_true c16
          clear c16
          have H' := aM H
          clear H
          have p4 : 0 ≤ (x3_1 : Int) := of_decide_eq_true (by first | (with_reducible assumption) | assumption)
          have q4 : x3_1 < (a0.size : Int) := of_decide_eq_true (by first | (with_reducible assumption) | assumption)
          have hx4 := bt_at a0 x3_1
          replace p4 := eq_true p4
          replace q4 := eq_true q4
          go_wp2
          go_roundg k1
          case measure => have := HK1.out; omega
          case rel => exact ⟨(wrap64 (x3_1 + 1)), (by first | rfl | (simp; done) | (simp [*]; done)), H', ⟨by have := HK1.out; omega⟩, by repeat (first | exact Drawn0.refl _ | apply Drawn0.step)⟩
         ·rw [if_neg c16] at H
          have c16b0 : decide ((bt a0 x3_1) ≤ 57) = false := decide_eq_false c16
          clear c16
          by_cases c17 : (bt a0 x3_1) = 95
          ·rw [if_pos c17] at H
           have c17b0 : ((bt a0 x3_1) == 95) = true := beq_iff_eq.mpr c17
           have c17b1 : ((bt a0 x3_1) != 95) = false := bne_eq_false_iff_eq.mpr c17
           clear c17
           have H' := aM H
           clear H
           have p4 : 0 ≤ (x3_1 : Int) := of_decide_eq_true (by first | (with_reducible assumption) | assumption)
           have q4 : x3_1 < (a0.size : Int) := of_decide_eq_true (by first | (with_reducible assumption) | assumption)
           have hx4 := bt_at a0 x3_1
           replace p4 := eq_true p4
           replace q4 := eq_true q4
           go_wp2
           go_roundg k1
           case measure => have := HK1.out; omega
           case rel => exact ⟨(wrap64 (x3_1 + 1)), (by first | rfl | (simp; done) | (simp [*]; done)), H', ⟨by have := HK1.out; omega⟩, by repeat (first | exact Drawn0.refl _ | apply Drawn0.step)⟩
          ·rw [if_neg c17] at H
           have c17b0 : ((bt a0 x3_1) == 95) = false := beq_eq_false_iff_ne.mpr c17
           have c17b1 : ((bt a0 x3_1) != 95) = true := bne_iff_ne.mpr c17
           by_cases c18 : ((bt a0 x3_1) = 45)
           ·rw [if_pos c18] at H
            have c18b0 : ((bt a0 x3_1) == 45) = true := beq_iff_eq.mpr c18
            have c18b1 : ((bt a0 x3_1) != 45) = false := bne_eq_false_iff_eq.mpr c18
            clear c18
            have H' := aM H
            clear H
            have p4 : 0 ≤ (x3_1 : Int) := of_decide_eq_true (by first | (with_reducible assumption) | assumption)
            have q4 : x3_1 < (a0.size : Int) := of_decide_eq_true (by first | (with_reducible assumption) | assumption)
            have hx4 := bt_at a0 x3_1
            replace p4 := eq_true p4
            replace q4 := eq_true q4
            go_wp2
            go_roundg k1
            case measure => have := HK1.out; omega
            case rel => exact ⟨(wrap64 (x3_1 + 1)), (by first | rfl | (simp; done) | (simp [*]; done)), H', ⟨by have := HK1.out; omega⟩, by repeat (first | exact Drawn0.refl _ | apply Drawn0.step)⟩
           ·rw [if_neg c18] at H
            have c18b0 : ((bt a0 x3_1) == 45) = false := beq_eq_false_iff_ne.mpr c18
            have c18b1 : ((bt a0 x3_1) != 45) = true := bne_iff_ne.mpr c18
            obtain rfl := Option.some.inj H
            have p4 : 0 ≤ (x3_1 : Int) := of_decide_eq_true (by first | (with_reducible assumption) | assumption)
            have q4 : x3_1 < (a0.size : Int) := of_decide_eq_true (by first | (with_reducible assumption) | assumption)
            have hx4 := bt_at a0 x3_1
            replace p4 := eq_true p4
            replace q4 := eq_true q4
            go_wp2
            go_ret
            exact ⟨by first | rfl | (simp; done) | (simp [*]; done) | (refine congrArg (fun b_ => Ending.returned (.bool b_)) ?_; exact sayNameisE_ _) | (refine congrArg (fun b_ => Ending.returned (.bool b_)) ?_; exact nsayNameisE_ _), by repeat (first | exact Drawn0.refl _ | apply Drawn0.step)⟩
        ·rw [if_neg c15] at H
         have c15b0 : decide (48 ≤ (bt a0 x3_1)) = false := decide_eq_false c15
         clear c15
         by_cases c19 : (bt a0 x3_1) = 95
         ·rw [if_pos c19] at H
          have c19b0 : ((bt a0 x3_1) == 95) = true := beq_iff_eq.mpr c19
          have c19b1 : ((bt a0 x3_1) != 95) = false := bne_eq_false_iff_eq.mpr c19
          clear c19
          have H' := aM H
          clear H
          have p4 : 0 ≤ (x3_1 : Int) := of_decide_eq_true (by first | (with_reducible assumption) | assumption)
          have q4 : x3_1 < (a0.size : Int) := of_decide_eq_true (by first | (with_reducible assumption) | assumption)
          have hx4 := bt_at a0 x3_1
          replace p4 := eq_true p4
          replace q4 := eq_true q4
          go_wp2
          go_roundg k1
          case measure => have := HK1.out; omega
          case rel => exact ⟨(wrap64 (x3_1 + 1)), (by first | rfl | (simp; done) | (simp [*]; done)), H', ⟨by have := HK1.out; omega⟩, by repeat (first | exact Drawn0.refl _ | apply Drawn0.step)⟩
         ·rw [if_neg c19] at H
          have c19b0 : ((bt a0 x3_1) == 95) = false := beq_eq_false_iff_ne.mpr c19
          have c19b1 : ((bt a0 x3_1) != 95) = true := bne_iff_ne.mpr c19
          by_cases c20 : ((bt a0 x3_1) = 45)
          ·rw [if_pos c20] at H
           have c20b0 : ((bt a0 x3_1) == 45) = true := beq_iff_eq.mpr c20
           have c20b1 : ((bt a0 x3_1) != 45) = false := bne_eq_false_iff_eq.mpr c20
           clear c20
           have H' := aM H
           clear H
           have p4 : 0 ≤ (x3_1 : Int) := of_decide_eq_true (by first | (with_reducible assumption) | assumption)
           have q4 : x3_1 < (a0.size : Int) := of_decide_eq_true (by first | (with_reducible assumption) | assumption)
           have hx4 := bt_at a0 x3_1
           replace p4 := eq_true p4
           replace q4 := eq_true q4
           go_wp2
           go_roundg k1
           case measure => have := HK1.out; omega
           case rel => exact ⟨(wrap64 (x3_1 + 1)), (by first | rfl | (simp; done) | (simp [*]; done)), H', ⟨by have := HK1.out; omega⟩, by repeat (first | exact Drawn0.refl _ | apply Drawn0.step)⟩
          ·rw [if_neg c20] at H
           have c20b0 : ((bt a0 x3_1) == 45) = false := beq_eq_false_iff_ne.mpr c20
           have c20b1 : ((bt a0 x3_1) != 45) = true := bne_iff_ne.mpr c20
           obtain rfl := Option.some.inj H
           have p4 : 0 ≤ (x3_1 : Int) := of_decide_eq_true (by first | (with_reducible assumption) | assumption)
           have q4 : x3_1 < (a0.size : Int) := of_decide_eq_true (by first | (with_reducible assumption) | assumption)
           have hx4 := bt_at a0 x3_1
           replace p4 := eq_true p4
           replace q4 := eq_true q4
           go_wp2
           go_ret
           exact ⟨by first | rfl | (simp; done) | (simp [*]; done) | (refine congrArg (fun b_ => Ending.returned (.bool b_)) ?_; exact sayNameisE_ _) | (refine congrArg (fun b_ => Ending.returned (.bool b_)) ?_; exact nsayNameisE_ _), by repeat (first | exact Drawn0.refl _ | apply Drawn0.step)⟩
     ·rw [if_neg c5] at H
      have c5b0 : decide (97 ≤ (bt a0 x3_1)) = false := decide_eq_false c5
      clear c5
      by_cases c21 : (bt a0 x3_1) ≥ 65
      ·rw [if_pos c21] at H
       have c21b0 : decide (65 ≤ (bt a0 x3_1)) = true := decide_eq_true c21
       clear c21
       by_cases c22 : (bt a0 x3_1) ≤ 90
       ·rw [if_pos c22] at H
        have c22b0 : decide ((bt a0 x3_1) ≤ 90) = true := decide_eq_true c22
        clear c22
        have H' := aM H
        clear H
        have p4 : 0 ≤ (x3_1 : Int) := of_decide_eq_true (by first | (with_reducible assumption) | assumption)
        have q4 : x3_1 < (a0.size : Int) := of_decide_eq_true (by first | (with_reducible assumption) | assumption)
        have hx4 := bt_at a0 x3_1
        replace p4 := eq_true p4
        replace q4 := eq_true q4
        go_wp2
        go_roundg k1
        case measure => have := HK1.out; omega
        case rel => exact ⟨(wrap64 (x3_1 + 1)), (by first | rfl | (simp; done) | (simp [*]; done)), H', ⟨by have := HK1.out; omega⟩, by repeat (first | exact Drawn0.refl _ | apply Drawn0.step)⟩
       ·rw [if_neg c22] at H
        have c22b0 : decide ((bt a0 x3_1) ≤ 90) = false := decide_eq_false c22
        clear c22
        by_cases c23 : (bt a0 x3_1) ≥ 48
        ·rw [if_pos c23] at H
         have c23b0 : decide (48 ≤ (bt a0 x3_1)) = true := decide_eq_true c23
         clear c23
         by_cases c24 : (bt a0 x3_1) ≤ 57
         ·rw [if_pos c24] at H
          have c24b0 : decide ((bt a0 x3_1) ≤ 57) = true := decide_eq_true c24
          clear c24
          have H' := aM H
          clear H
          have p4 : 0 ≤ (x3_1 : Int) := of_decide_eq_true (by first | (with_reducible assumption) | assumption)
          have q4 : x3_1 < (a0.size : Int) := of_decide_eq_true (by first | (with_reducible assumption) | assumption)
          have hx4 := bt_at a0 x3_1
          replace p4 := eq_true p4
          replace q4 := eq_true q4
          go_wp2
          go_roundg k1
          case measure => have := HK1.out; omega
          case rel => exact ⟨(wrap64 (x3_1 + 1)), (by first | rfl | (simp; done) | (simp [*]; done)), H', ⟨by have := HK1.out; omega⟩, by repeat (first | exact Drawn0.refl _ | apply Drawn0.step)⟩
         ·rw [if_neg c24] at H
          have c24b0 : decide ((bt a0 x3_1) ≤ 57) = false := decide_eq_false c24
          clear c24
          by_cases c25 : (bt a0 x3_1) = 95
          ·rw [if_pos c25] at H
           have c25b0 : ((bt a0 x3_1) == 95) = true := beq_iff_eq.mpr c25
           have c25b1 : ((bt a0 x3_1) != 95) = false := bne_eq_false_iff_eq.mpr c25
           clear c25
           have H' := aM H
           clear H
           have p4 : 0 ≤ (x3_1 : Int) := of_decide_eq_true (by first | (with_reducible assumption) | assumption)
           have q4 : x3_1 < (a0.size : Int) := of_decide_eq_true (by first | (with_reducible assumption) | assumption)
           have hx4 := bt_at a0 x3_1
           replace p4 := eq_true p4
           replace q4 := eq_true q4
           go_wp2
           go_roundg k1
           case measure => have := HK1.out; omega
           case rel => exact ⟨(wrap64 (x3_1 + 1)), (by first | rfl | (simp; done) | (simp [*]; done)), H', ⟨by have := HK1.out; omega⟩, by repeat (first | exact Drawn0.refl _ | apply Drawn0.step)⟩
          ·rw [if_neg c25] at H
           have c25b0 : ((bt a0 x3_1) == 95) = false := beq_eq_false_iff_ne.mpr c25
           have c25b1 : ((bt a0 x3_1) != 95) = true := bne_iff_ne.mpr c25
           by_cases c26 : ((bt a0 x3_1) = 45)
           ·rw [if_pos c26] at H
            have c26b0 : ((bt a0 x3_1) == 45) = true := beq_iff_eq.mpr c26
            have c26b1 : ((bt a0 x3_1) != 45) = false := bne_eq_false_iff_eq.mpr c26
            clear c26
            have H' := aM H
            clear H
            have p4 : 0 ≤ (x3_1 : Int) := of_decide_eq_true (by first | (with_reducible assumption) | assumption)
            have q4 : x3_1 < (a0.size : Int) := of_decide_eq_true (by first | (with_reducible assumption) | assumption)
            have hx4 := bt_at a0 x3_1
            replace p4 := eq_true p4
            replace q4 := eq_true q4
            go_wp2
            go_roundg k1
            case measure => have := HK1.out; omega
            case rel => exact ⟨(wrap64 (x3_1 + 1)), (by first | rfl | (simp; done) | (simp [*]; done)), H', ⟨by have := HK1.out; omega⟩, by repeat (first | exact Drawn0.refl _ | apply Drawn0.step)⟩
           ·rw [if_neg c26] at H
            have c26b0 : ((bt a0 x3_1) == 45) = false := beq_eq_false_iff_ne.mpr c26
            have c26b1 : ((bt a0 x3_1) != 45) = true := bne_iff_ne.mpr c26
            obtain rfl := Option.some.inj H
            have p4 : 0 ≤ (x3_1 : Int) := of_decide_eq_true (by first | (with_reducible assumption) | assumption)
            have q4 : x3_1 < (a0.size : Int) := of_decide_eq_true (by first | (with_reducible assumption) | assumption)
            have hx4 := bt_at a0 x3_1
            replace p4 := eq_true p4
            replace q4 := eq_true q4
            go_wp2
            go_ret
            exact ⟨by first | rfl | (simp; done) | (simp [*]; done) | (refine congrArg (fun b_ => Ending.returned (.bool b_)) ?_; exact sayNameisE_ _) | (refine congrArg (fun b_ => Ending.returned (.bool b_)) ?_; exact nsayNameisE_ _), by repeat (first | exact Drawn0.refl _ | apply Drawn0.step)⟩
        ·rw [if_neg c23] at H
         have c23b0 : decide (48 ≤ (bt a0 x3_1)) = false := decide_eq_false c23
         clear c23
         by_cases c27 : (bt a0 x3_1) = 95
         ·rw [if_pos c27] at H
          have c27b0 : ((bt a0 x3_1) == 95) = true := beq_iff_eq.mpr c27
          have c27b1 : ((bt a0 x3_1) != 95) = false := bne_eq_false_iff_eq.mpr c27
          clear c27
          have H' := aM H
          clear H
          have p4 : 0 ≤ (x3_1 : Int) := of_decide_eq_true (by first | (with_reducible assumption) | assumption)
          have q4 : x3_1 < (a0.size : Int) := of_decide_eq_true (by first | (with_reducible assumption) | assumption)
          have hx4 := bt_at a0 x3_1
          replace p4 := eq_true p4
          replace q4 := eq_true q4
          go_wp2
          go_roundg k1
          case measure => have := HK1.out; omega
          case rel => exact ⟨(wrap64 (x3_1 + 1)), (by first | rfl | (simp; done) | (simp [*]; done)), H', ⟨by have := HK1.out; omega⟩, by repeat (first | exact Drawn0.refl _ | apply Drawn0.step)⟩
         ·rw [if_neg c27] at H
          have c27b0 : ((bt a0 x3_1) == 95) = false := beq_eq_false_iff_ne.mpr c27
          have c27b1 : ((bt a0 x3_1) != 95) = true := bne_iff_ne.mpr c27
          by_cases c28 : ((bt a0 x3_1) = 45)
          ·rw [if_pos c28] at H
           have c28b0 : ((bt a0 x3_1) == 45) = true := beq_iff_eq.mpr c28
           have c28b1 : ((bt a0 x3_1) != 45) = false := bne_eq_false_iff_eq.mpr c28
           clear c28
           have H' := aM H
           clear H
           have p4 : 0 ≤ (x3_1 : Int) := of_decide_eq_true (by first | (with_reducible assumption) | assumption)
           have q4 : x3_1 < (a0.size : Int) := of_decide_eq_true (by first | (with_reducible assumption) | assumption)
           have hx4 := bt_at a0 x3_1
           replace p4 := eq_true p4
           replace q4 := eq_true q4
           go_wp2
           go_roundg k1
           case measure => have := HK1.out; omega
           case rel => exact ⟨(wrap64 (x3_1 + 1)), (by first | rfl | (simp; done) | (simp [*]; done)), H', ⟨by have := HK1.out; omega⟩, by repeat (first | exact Drawn0.refl _ | apply Drawn0.step)⟩
          ·rw [if_neg c28] at H
           have c28b0 : ((bt a0 x3_1) == 45) = false := beq_eq_false_iff_ne.mpr c28
           have c28b1 : ((bt a0 x3_1) != 45) = true := bne_iff_ne.mpr c28
           obtain rfl := Option.some.inj H
           have p4 : 0 ≤ (x3_1 : Int) := of_decide_eq_true (by first | (with_reducible assumption) | assumption)
           have q4 : x3_1 < (a0.size : Int) := of_decide_eq_true (by first | (with_reducible assumption) | assumption)
           have hx4 := bt_at a0 x3_1
           replace p4 := eq_true p4
           replace q4 := eq_true q4
           go_wp2
           go_ret
           exact ⟨by first | rfl | (simp; done) | (simp [*]; done) | (refine congrArg (fun b_ => Ending.returned (.bool b_)) ?_; exact sayNameisE_ _) | (refine congrArg (fun b_ => Ending.returned (.bool b_)) ?_; exact nsayNameisE_ _), by repeat (first | exact Drawn0.refl _ | apply Drawn0.step)⟩
      ·rw [if_neg c21] at H
       have c21b0 : decide (65 ≤ (bt a0 x3_1)) = false := decide_eq_false c21
       clear c21
       by_cases c29 : (bt a0 x3_1) ≥ 48
       ·rw [if_pos c29] at H
        have c29b0 : decide (48 ≤ (bt a0 x3_1)) = true := decide_eq_true c29
        clear c29
        by_cases c30 : (bt a0 x3_1) ≤ 57
        ·rw [if_pos c30] at H
         have c30b0 : decide ((bt a0 x3_1) ≤ 57) = true := decide_eq_true c30
         clear c30
         have H' := aM H
         clear H
         have p4 : 0 ≤ (x3_1 : Int) := of_decide_eq_true (by first | (with_reducible assumption) | assumption)
         have q4 : x3_1 < (a0.size : Int) := of_decide_eq_true (by first | (with_reducible assumption) | assumption)
         have hx4 := bt_at a0 x3_1
         replace p4 := eq_true p4
         replace q4 := eq_true q4
         go_wp2
         go_roundg k1
         case measure => have := HK1.out; omega
         case rel => exact ⟨(wrap64 (x3_1 + 1)), (by first | rfl | (simp; done) | (simp [*]; done)), H', ⟨by have := HK1.out; omega⟩, by repeat (first | exact Drawn0.refl _ | apply Drawn0.step)⟩
        ·rw [if_neg c30] at H
         have c30b0 : decide ((bt a0 x3_1) ≤ 57) = false := decide_eq_false c30
         clear c30
         by_cases c31 : (bt a0 x3_1) = 95
         ·rw [if_pos c31] at H
          have c31b0 : ((bt a0 x3_1) == 95) = true := beq_iff_eq.mpr c31
          have c31b1 : ((bt a0 x3_1) != 95) = false := bne_eq_false_iff_eq.mpr c31
          clear c31
          have H' := aM H
          clear H
          have p4 : 0 ≤ (x3_1 : Int) := of_decide_eq_true (by first | (with_reducible assumption) | assumption)
          have q4 : x3_1 < (a0.size : Int) := of_decide_eq_true (by first | (with_reducible assumption) | assumption)
          have hx4 := bt_at a0 x3_1
          replace p4 := eq_true p4
          replace q4 := eq_true q4
          go_wp2
          go_roundg k1
          case measure => have := HK1.out; omega
          case rel => exact ⟨(wrap64 (x3_1 + 1)), (by first | rfl | (simp; done) | (simp [*]; done)), H', ⟨by have := HK1.out; omega⟩, by repeat (first | exact Drawn0.refl _ | apply Drawn0.step)⟩
         ·rw [if_neg c31] at H
          have c31b0 : ((bt a0 x3_1) == 95) = false := beq_eq_false_iff_ne.mpr c31
          have c31b1 : ((bt a0 x3_1) != 95) = true := bne_iff_ne.mpr c31
          by_cases c32 : ((bt a0 x3_1) = 45)
          ·rw [if_pos c32] at H
           have c32b0 : ((bt a0 x3_1) == 45) = true := beq_iff_eq.mpr c32
           have c32b1 : ((bt a0 x3_1) != 45) = false := bne_eq_false_iff_eq.mpr c32
           clear c32
           have H' := aM H
           clear H
           have p4 : 0 ≤ (x3_1 : Int) := of_decide_eq_true (by first | (with_reducible assumption) | assumption)
           have q4 : x3_1 < (a0.size : Int) := of_decide_eq_true (by first | (with_reducible assumption) | assumption)
           have hx4 := bt_at a0 x3_1
           replace p4 := eq_true p4
           replace q4 := eq_true q4
           go_wp2
           go_roundg k1
           case measure => have := HK1.out; omega
           case rel => exact ⟨(wrap64 (x3_1 + 1)), (by first | rfl | (simp; done) | (simp [*]; done)), H', ⟨by have := HK1.out; omega⟩, by repeat (first | exact Drawn0.refl _ | apply Drawn0.step)⟩
          ·rw [if_neg c32] at H
           have c32b0 : ((bt a0 x3_1) == 45) = false := beq_eq_false_iff_ne.mpr c32
           have c32b1 : ((bt a0 x3_1) != 45) = true := bne_iff_ne.mpr c32
           obtain rfl := Option.some.inj H
           have p4 : 0 ≤ (x3_1 : Int) := of_decide_eq_true (by first | (with_reducible assumption) | assumption)
           have q4 : x3_1 < (a0.size : Int) := of_decide_eq_true (by first | (with_reducible assumption) | assumption)
           have hx4 := bt_at a0 x3_1
           replace p4 := eq_true p4
           replace q4 := eq_true q4
           go_wp2
           go_ret
           exact ⟨by first | rfl | (simp; done) | (simp [*]; done) | (refine congrArg (fun b_ => Ending.returned (.bool b_)) ?_; exact sayNameisE_ _) | (refine congrArg (fun b_ => Ending.returned (.bool b_)) ?_; exact nsayNameisE_ _), by repeat (first | exact Drawn0.refl _ | apply Drawn0.step)⟩
       ·rw [if_neg c29] at H
        have c29b0 : decide (48 ≤ (bt a0 x3_1)) = false := decide_eq_false c29
        clear c29
        by_cases c33 : (bt a0 x3_1) = 95
        ·rw [if_pos c33] at H
         have c33b0 : ((bt a0 x3_1) == 95) = true := beq_iff_eq.mpr c33
         have c33b1 : ((bt a0 x3_1) != 95) = false := bne_eq_false_iff_eq.mpr c33
         clear c33
         have H' := aM H
         clear H
         have p4 : 0 ≤ (x3_1 : Int) := of_decide_eq_true (by first | (with_reducible assumption) | assumption)
         have q4 : x3_1 < (a0.size : Int) := of_decide_eq_true (by first | (with_reducible assumption) | assumption)
         have hx4 := bt_at a0 x3_1
         replace p4 := eq_true p4
         replace q4 := eq_true q4
         go_wp2
         go_roundg k1
         case measure => have := HK1.out; omega
         case rel => exact ⟨(wrap64 (x3_1 + 1)), (by first | rfl | (simp; done) | (simp [*]; done)), H', ⟨by have := HK1.out; omega⟩, by repeat (first | exact Drawn0.refl _ | apply Drawn0.step)⟩
        ·rw [if_neg c33] at H
         have c33b0 : ((bt a0 x3_1) == 95) = false := beq_eq_false_iff_ne.mpr c33
         have c33b1 : ((bt a0 x3_1) != 95) = true := bne_iff_ne.mpr c33
         by_cases c34 : ((bt a0 x3_1) = 45)
         ·rw [if_pos c34] at H
          have c34b0 : ((bt a0 x3_1) == 45) = true := beq_iff_eq.mpr c34
          have c34b1 : ((bt a0 x3_1) != 45) = false := bne_eq_false_iff_eq.mpr c34
          clear c34
          have H' := aM H
          clear H
          have p4 : 0 ≤ (x3_1 : Int) := of_decide_eq_true (by first | (with_reducible assumption) | assumption)
          have q4 : x3_1 < (a0.size : Int) := of_decide_eq_true (by first | (with_reducible assumption) | assumption)
          have hx4 := bt_at a0 x3_1
          replace p4 := eq_true p4
          replace q4 := eq_true q4
          go_wp2
          go_roundg k1
          case measure => have := HK1.out; omega
          case rel => exact ⟨(wrap64 (x3_1 + 1)), (by first | rfl | (simp; done) | (simp [*]; done)), H', ⟨by have := HK1.out; omega⟩, by repeat (first | exact Drawn0.refl _ | apply Drawn0.step)⟩
         ·rw [if_neg c34] at H
          have c34b0 : ((bt a0 x3_1) == 45) = false := beq_eq_false_iff_ne.mpr c34
          have c34b1 : ((bt a0 x3_1) != 45) = true := bne_iff_ne.mpr c34
          obtain rfl := Option.some.inj H
          have p4 : 0 ≤ (x3_1 : Int) := of_decide_eq_true (by first | (with_reducible assumption) | assumption)
          have q4 : x3_1 < (a0.size : Int) := of_decide_eq_true (by first | (with_reducible assumption) | assumption)
          have hx4 := bt_at a0 x3_1
          replace p4 := eq_true p4
          replace q4 := eq_true q4
          go_wp2
          go_ret
          exact ⟨by first | rfl | (simp; done) | (simp [*]; done) | (refine congrArg (fun b_ => Ending.returned (.bool b_)) ?_; exact sayNameisE_ _) | (refine congrArg (fun b_ => Ending.returned (.bool b_)) ?_; exact nsayNameisE_ _), by repeat (first | exact Drawn0.refl _ | apply Drawn0.step)⟩
    ·rw [if_neg c3] at H
     exact absurd H (by simp)
   ·rw [if_neg c2] at H
    have c2b0 : decide (x3_1 < (a0.size : Int)) = false := decide_eq_false c2
    clear c2
    obtain rfl := Option.some.inj H
    go_wp2
    go_ret
    exact ⟨by first | rfl | (simp; done) | (simp [*]; done) | (refine congrArg (fun b_ => Ending.returned (.bool b_)) ?_; exact sayNameisE_ _) | (refine congrArg (fun b_ => Ending.returned (.bool b_)) ?_; exact nsayNameisE_ _), by repeat (first | exact Drawn0.refl _ | apply Drawn0.step)⟩
end Go.Proofs.Ytaembebbaejfiaa.PS
namespace Go.Proofs.Ytaembebbaejfiaa.PS
open Go.RowKit Go.Proofs.YtaembebbaejfiaaW.PrintWords Go.Proofs.YtaembebbaejfiaaW.PrintLast Go.Proofs.YtaembebbaejfiaaW.PrintMore
attribute [local go_sem] max2_int min2_int max_two min_two max_three min_three max_four min_four 
set_option linter.unusedVariables false
set_option linter.unusedSimpArgs false
def spec_sayNames.l0 : Nat → Int → Int → Int → ByteArray → List ByteArray → List (S25) → Option (Bool)
 | 0, _, _, _, _, _, _ => none
 | k + 1, x3, x210000, x210001, x210002, x210003, x210004 => if x3 < (x210004.length : Int) then (if 0 ≤ x3 then (if ((rd_T25 x210004 x3).f0) = 3 then ((spec_sayName.f k ((rd_T25 x210004 x3).f2)).bind fun t212 => (if t212 = true then (spec_sayNames.l0 k (wrap64 (x3 + 1)) x210000 x210001 x210002 x210003 x210004) else (some false))) else (some false)) else (none)) else (if x210000 = 4 then (some (decide ((x210004.length : Int) > 0))) else (some false))
def spec_sayNames.f (k : Nat) (a0_0 : Int) (a0_1 : Int) (a0_2 : ByteArray) (l0_3 : List ByteArray) (l0_4 : List (S25)) : Option (Bool) := spec_sayNames.l0 k 0 a0_0 a0_1 a0_2 l0_3 l0_4
set_option maxHeartbeats 8000000 in
set_option maxRecDepth 100000 in
theorem spec_sayNames.calls (k : Nat) (a0_0 : Int) (a0_1 : Int) (a0_2 : ByteArray) (A0_3 : Option Addr) (c0_3 : Nat) (l0_3 : List ByteArray) (A0_4 : Option Addr) (c0_4 : Nat) (l0_4 : List (S25)) (r : Bool) (w : World) (hr0_3 : Kd.C Kd.string w A0_3 l0_3.length l0_3) (hc0_3 : l0_3.length ≤ c0_3) (hr0_4 : Kd.C k25 w A0_4 l0_4.length l0_4) (hc0_4 : l0_4.length ≤ c0_4) (h : spec_sayNames.f k a0_0 a0_1 a0_2 l0_3 l0_4 = some r) :
  Calls Try.prog 39 #[.agg #[.int .i64 a0_0, .int .i64 a0_1, .string a0_2, .slice A0_3 l0_3.length c0_3, .slice A0_4 l0_4.length c0_4]] w fun e w' => e = .returned (.bool r) ∧ Below w.heap.size w w' := by
 have hu25 := Try.underlying25
 have HR0_3 := aM hr0_3
 have HC0_3 := aM hc0_3
 clear hr0_3 hc0_3
 have HR0_4 := aM hr0_4
 have HC0_4 := aM hc0_4
 clear hr0_4 hc0_4
 have HB := aM (Below.refl w.heap.size w)
 have H : (spec_sayNames.l0 k 0 a0_0 a0_1 a0_2 l0_3 l0_4) = some r := h
 clear h
 have H' := aM H
 clear H
 go_enter Try.func39, Try.ntmps39
 go_wp2_with (first | ((with_reducible refine gate_dst (N := 1) rfl ?_); (try (refine gate_guard (by rfl) ?_; dsimp only)); refine box_event ?hg (N := 1) ?hd (cs := #[.int .i64 a0_0, .int .i64 a0_1, .string a0_2, .slice A0_3 l0_3.length c0_3, .slice A0_4 l0_4.length c0_4]) (t := 25) ?hr ?_; (case hd => rfl); (case hg => rfl); (case hr => first | (go_simp; done) | (go_simp; rfl)); intro gb209 hg w2 hbox hb; have n0_ := aM (below_step (by repeat (first | (with_reducible first | exact HB.out | apply below_alloc | apply pw_below_drewN | apply below_drew1) | exact HB.out)) hb); have n1_ := aM (hbox); have n2_ := aM ((by rw [hg]; exact (below_size (by repeat (first | (with_reducible first | exact HB.out | apply below_alloc | apply pw_below_drewN | apply below_drew1) | exact HB.out))) : w.heap.size ≤ gb209)); have n3_ := aM ((by rw [hg]; exact (below_size (by repeat (first | (with_reducible first | exact HB.out | apply below_alloc | apply pw_below_drewN | apply below_drew1) | exact HB.out))) : w.heap.size ≤ gb209)); clear HB; have HB := n0_; have BK209 := n1_; have GW209 := n2_; have GE209 := n3_; clear n0_ n1_ n2_ n3_; clear hb hbox hg))
 go_loopg [3] k (fun kq v3 w' => ∃ (x3_1 : Int), v3 = .int .i64 x3_1 ∧ Aside0 (spec_sayNames.l0 kq x3_1 a0_0 a0_1 a0_2 l0_3 l0_4 = some r) ∧ Aside0 (kq ≤ k) ∧ Aside0 (w'.heap[gb209]? = some (.cells #[.int .i64 a0_0, .int .i64 a0_1, .string a0_2, (.slice A0_3 l0_3.length c0_3), (.slice A0_4 l0_4.length c0_4)] 25 (0, 0))) ∧ Aside0 (Below w.heap.size w w'))
 case atStart => exact ⟨(0), (by first | rfl | (simp; done) | (simp [*]; done)), H', ⟨Nat.le_refl _⟩, ⟨by (with_reducible repeat (first | refine blk_drewN ?_ _ | refine blk_drew ?_ | refine blk_alloc ?_ _)); exact BK209.out⟩, ⟨by repeat (first | (with_reducible first | exact HB.out | apply below_alloc | apply pw_below_drewN | apply below_drew1 | refine below_set ?_ GE209.out) | exact HB.out)⟩⟩
 case round =>
  clear H'
  try clear p2
  obtain ⟨x3_1, rfl, HA, HK1, BK209, HB⟩ := hrel
  cases gk with
  | zero => exact absurd HA.out (by simp [spec_sayNames.l0])
  | succ k1 =>
   have H := HA.out
   clear HA
   simp only [spec_sayNames.l0] at H
   by_cases c3 : x3_1 < (l0_4.length : Int)
   ·rw [if_pos c3] at H
    have c3b0 : decide (x3_1 < (l0_4.length : Int)) = true := decide_eq_true c3
    clear c3
    by_cases c4 : 0 ≤ x3_1
    ·rw [if_pos c4] at H
     have c4b0 : decide (0 ≤ x3_1) = true := decide_eq_true c4
     clear c4
     by_cases c5 : ((rd_T25 l0_4 x3_1).f0) = 3
     ·rw [if_pos c5] at H
      have c5b0 : (((rd_T25 l0_4 x3_1).f0) == 3) = true := beq_iff_eq.mpr c5
      have c5b1 : (((rd_T25 l0_4 x3_1).f0) != 3) = false := bne_eq_false_iff_eq.mpr c5
      clear c5
      replace H := Option.bind_eq_some_iff.mp H
      obtain ⟨t212, A60, H⟩ := H
      replace H : (if t212 = true then (spec_sayNames.l0 k1 (wrap64 (x3_1 + 1)) a0_0 a0_1 a0_2 l0_3 l0_4) else (some false)) = some r := H
      have A6 := aM A60
      clear A60
      by_cases c7 : t212 = true
      ·subst c7
       have H1 : (spec_sayNames.l0 k1 (wrap64 (x3_1 + 1)) a0_0 a0_1 a0_2 l0_3 l0_4) = some r := by rw [if_pos rfl] at H; exact H
       clear H
       have H := H1
       clear H1
       have H' := aM H
       clear H
       have hcz8_0 : wr.cell? ⟨gb209, 0, none⟩ = some (.int .i64 a0_0) := (blk_cell BK209.out 0).trans rfl
       have hcz8_1 : wr.cell? ⟨gb209, 1, none⟩ = some (.int .i64 a0_1) := (blk_cell BK209.out 1).trans rfl
       have hcz8_2 : wr.cell? ⟨gb209, 2, none⟩ = some (.string a0_2) := (blk_cell BK209.out 2).trans rfl
       have hcz8_3 : wr.cell? ⟨gb209, 3, none⟩ = some (.slice A0_3 l0_3.length c0_3) := (blk_cell BK209.out 3).trans rfl
       have hcz8_4 : wr.cell? ⟨gb209, 4, none⟩ = some (.slice A0_4 l0_4.length c0_4) := (blk_cell BK209.out 4).trans rfl
       have hfz8_0 := blk_frozen BK209.out 0
       have hfz8_1 := blk_frozen BK209.out 1
       have hfz8_2 := blk_frozen BK209.out 2
       have hfz8_3 := blk_frozen BK209.out 3
       have hfz8_4 := blk_frozen BK209.out 4
       have p210 : 0 ≤ (x3_1 : Int) := of_decide_eq_true (by first | (with_reducible assumption) | assumption)
       have q210 : x3_1 < (l0_4.length : Int) := of_decide_eq_true (by first | (with_reducible assumption) | assumption)
       obtain ⟨ad210, A210_3, c210_3, A210_4, c210_4, e210, hx210_0, hx210_1, hx210_2, hx210_3, hx210_4, hl210_3, hi210_3, hl210_4, hi210_4⟩ := at_T25 HR0_4.out x3_1 p210 q210
       cases e210
       replace hx210_0 := (HB.out.cell (World.block_lt_of_cell? w _ hx210_0)).trans hx210_0
       replace hx210_1 := (HB.out.cell (World.block_lt_of_cell? w _ hx210_1)).trans hx210_1
       replace hx210_2 := (HB.out.cell (World.block_lt_of_cell? w _ hx210_2)).trans hx210_2
       replace hx210_3 := (HB.out.cell (World.block_lt_of_cell? w _ hx210_3)).trans hx210_3
       replace hx210_4 := (HB.out.cell (World.block_lt_of_cell? w _ hx210_4)).trans hx210_4
       have HR210_3 := aM hi210_3
       have HC210_3 := aM hl210_3
       clear hi210_3 hl210_3
       have HR210_4 := aM hi210_4
       have HC210_4 := aM hl210_4
       clear hi210_4 hl210_4
       replace p210 := eq_true p210
       replace q210 := eq_true q210
       have p211 : 0 ≤ (x3_1 : Int) := of_decide_eq_true (by first | (with_reducible assumption) | assumption)
       have q211 : x3_1 < (l0_4.length : Int) := of_decide_eq_true (by first | (with_reducible assumption) | assumption)
       obtain ⟨ad211, A211_3, c211_3, A211_4, c211_4, e211, hx211_0, hx211_1, hx211_2, hx211_3, hx211_4, hl211_3, hi211_3, hl211_4, hi211_4⟩ := at_T25 HR0_4.out x3_1 p211 q211
       obtain rfl : ad210 = ad211 := (by injection e211)
       replace hx211_0 := (HB.out.cell (World.block_lt_of_cell? w _ hx211_0)).trans hx211_0
       replace hx211_1 := (HB.out.cell (World.block_lt_of_cell? w _ hx211_1)).trans hx211_1
       replace hx211_2 := (HB.out.cell (World.block_lt_of_cell? w _ hx211_2)).trans hx211_2
       replace hx211_3 := (HB.out.cell (World.block_lt_of_cell? w _ hx211_3)).trans hx211_3
       replace hx211_4 := (HB.out.cell (World.block_lt_of_cell? w _ hx211_4)).trans hx211_4
       have HR211_3 := aM hi211_3
       have HC211_3 := aM hl211_3
       clear hi211_3 hl211_3
       have HR211_4 := aM hi211_4
       have HC211_4 := aM hl211_4
       clear hi211_4 hl211_4
       replace p211 := eq_true p211
       replace q211 := eq_true q211
       have ea_ := Option.some.inj (hx210_3.symm.trans hx211_3)
       injection ea_ with ea_ en_ ec_
       subst ea_
       subst ec_
       clear en_
       have ea_ := Option.some.inj (hx210_4.symm.trans hx211_4)
       injection ea_ with ea_ en_ ec_
       subst ea_
       subst ec_
       clear en_
       go_wp2_with (first | (go_at_call 40; (with_reducible refine (spec_sayName.calls k1 ((rd_T25 l0_4 x3_1).f2) true _ A6.out).mono ?_); rintro e w' ⟨rfl, ⟨nd, rfl⟩⟩))
       go_roundg k1
       case measure => have := HK1.out; omega
       case rel => exact ⟨(wrap64 (x3_1 + 1)), (by first | rfl | (simp; done) | (simp [*]; done)), H', ⟨by have := HK1.out; omega⟩, ⟨by (with_reducible repeat (first | refine blk_drewN ?_ _ | refine blk_drew ?_ | refine blk_alloc ?_ _)); exact BK209.out⟩, ⟨by repeat (first | (with_reducible first | exact HB.out | apply below_alloc | apply pw_below_drewN | apply below_drew1 | refine below_set ?_ GE209.out) | exact HB.out)⟩⟩
      ·replace c7 := Bool.eq_false_iff.mpr c7
       subst c7
       have H1 : (some false) = some r := by rw [if_neg (show ¬ (false = true) by decide)] at H; exact H
       clear H
       have H := H1
       clear H1
       obtain rfl := Option.some.inj H
       have hcz9_0 : wr.cell? ⟨gb209, 0, none⟩ = some (.int .i64 a0_0) := (blk_cell BK209.out 0).trans rfl
       have hcz9_1 : wr.cell? ⟨gb209, 1, none⟩ = some (.int .i64 a0_1) := (blk_cell BK209.out 1).trans rfl
       have hcz9_2 : wr.cell? ⟨gb209, 2, none⟩ = some (.string a0_2) := (blk_cell BK209.out 2).trans rfl
       have hcz9_3 : wr.cell? ⟨gb209, 3, none⟩ = some (.slice A0_3 l0_3.length c0_3) := (blk_cell BK209.out 3).trans rfl
       have hcz9_4 : wr.cell? ⟨gb209, 4, none⟩ = some (.slice A0_4 l0_4.length c0_4) := (blk_cell BK209.out 4).trans rfl
       have hfz9_0 := blk_frozen BK209.out 0
       have hfz9_1 := blk_frozen BK209.out 1
       have hfz9_2 := blk_frozen BK209.out 2
       have hfz9_3 := blk_frozen BK209.out 3
       have hfz9_4 := blk_frozen BK209.out 4
       have p210 : 0 ≤ (x3_1 : Int) := of_decide_eq_true (by first | (with_reducible assumption) | assumption)
       have q210 : x3_1 < (l0_4.length : Int) := of_decide_eq_true (by first | (with_reducible assumption) | assumption)
       obtain ⟨ad210, A210_3, c210_3, A210_4, c210_4, e210, hx210_0, hx210_1, hx210_2, hx210_3, hx210_4, hl210_3, hi210_3, hl210_4, hi210_4⟩ := at_T25 HR0_4.out x3_1 p210 q210
       cases e210
       replace hx210_0 := (HB.out.cell (World.block_lt_of_cell? w _ hx210_0)).trans hx210_0
       replace hx210_1 := (HB.out.cell (World.block_lt_of_cell? w _ hx210_1)).trans hx210_1
       replace hx210_2 := (HB.out.cell (World.block_lt_of_cell? w _ hx210_2)).trans hx210_2
       replace hx210_3 := (HB.out.cell (World.block_lt_of_cell? w _ hx210_3)).trans hx210_3
       replace hx210_4 := (HB.out.cell (World.block_lt_of_cell? w _ hx210_4)).trans hx210_4
       have HR210_3 := aM hi210_3
       have HC210_3 := aM hl210_3
       clear hi210_3 hl210_3
       have HR210_4 := aM hi210_4
       have HC210_4 := aM hl210_4
       clear hi210_4 hl210_4
       replace p210 := eq_true p210
       replace q210 := eq_true q210
       have p211 : 0 ≤ (x3_1 : Int) := of_decide_eq_true (by first | (with_reducible assumption) | assumption)
       have q211 : x3_1 < (l0_4.length : Int) := of_decide_eq_true (by first | (with_reducible assumption) | assumption)
       obtain ⟨ad211, A211_3, c211_3, A211_4, c211_4, e211, hx211_0, hx211_1, hx211_2, hx211_3, hx211_4, hl211_3, hi211_3, hl211_4, hi211_4⟩ := at_T25 HR0_4.out x3_1 p211 q211
       obtain rfl : ad210 = ad211 := (by injection e211)
       replace hx211_0 := (HB.out.cell (World.block_lt_of_cell? w _ hx211_0)).trans hx211_0
       replace hx211_1 := (HB.out.cell (World.block_lt_of_cell? w _ hx211_1)).trans hx211_1
       replace hx211_2 := (HB.out.cell (World.block_lt_of_cell? w _ hx211_2)).trans hx211_2
       replace hx211_3 := (HB.out.cell (World.block_lt_of_cell? w _ hx211_3)).trans hx211_3
       replace hx211_4 := (HB.out.cell (World.block_lt_of_cell? w _ hx211_4)).trans hx211_4
       have HR211_3 := aM hi211_3
       have HC211_3 := aM hl211_3
       clear hi211_3 hl211_3
       have HR211_4 := aM hi211_4
       have HC211_4 := aM hl211_4
       clear hi211_4 hl211_4
       replace p211 := eq_true p211
       replace q211 := eq_true q211
       have ea_ := Option.some.inj (hx210_3.symm.trans hx211_3)
       injection ea_ with ea_ en_ ec_
       subst ea_
       subst ec_
       clear en_
       have ea_ := Option.some.inj (hx210_4.symm.trans hx211_4)
       injection ea_ with ea_ en_ ec_
       subst ea_
       subst ec_
       clear en_
       go_wp2_with (first | (go_at_call 40; (with_reducible refine (spec_sayName.calls k1 ((rd_T25 l0_4 x3_1).f2) false _ A6.out).mono ?_); rintro e w' ⟨rfl, ⟨nd, rfl⟩⟩))
       go_ret
       exact ⟨by first | rfl | (simp [errW_none, errW_some] <;> rfl) | (simp [*, errW_none, errW_some] <;> rfl), by repeat (first | (with_reducible first | exact HB.out | apply below_alloc | apply pw_below_drewN | apply below_drew1 | refine below_set ?_ GE209.out) | exact HB.out)⟩
     ·rw [if_neg c5] at H
      have c5b0 : (((rd_T25 l0_4 x3_1).f0) == 3) = false := beq_eq_false_iff_ne.mpr c5
      have c5b1 : (((rd_T25 l0_4 x3_1).f0) != 3) = true := bne_iff_ne.mpr c5
      obtain rfl := Option.some.inj H
      have hcz10_0 : wr.cell? ⟨gb209, 0, none⟩ = some (.int .i64 a0_0) := (blk_cell BK209.out 0).trans rfl
      have hcz10_1 : wr.cell? ⟨gb209, 1, none⟩ = some (.int .i64 a0_1) := (blk_cell BK209.out 1).trans rfl
      have hcz10_2 : wr.cell? ⟨gb209, 2, none⟩ = some (.string a0_2) := (blk_cell BK209.out 2).trans rfl
      have hcz10_3 : wr.cell? ⟨gb209, 3, none⟩ = some (.slice A0_3 l0_3.length c0_3) := (blk_cell BK209.out 3).trans rfl
      have hcz10_4 : wr.cell? ⟨gb209, 4, none⟩ = some (.slice A0_4 l0_4.length c0_4) := (blk_cell BK209.out 4).trans rfl
      have hfz10_0 := blk_frozen BK209.out 0
      have hfz10_1 := blk_frozen BK209.out 1
      have hfz10_2 := blk_frozen BK209.out 2
      have hfz10_3 := blk_frozen BK209.out 3
      have hfz10_4 := blk_frozen BK209.out 4
      have p210 : 0 ≤ (x3_1 : Int) := of_decide_eq_true (by first | (with_reducible assumption) | assumption)
      have q210 : x3_1 < (l0_4.length : Int) := of_decide_eq_true (by first | (with_reducible assumption) | assumption)
      obtain ⟨ad210, A210_3, c210_3, A210_4, c210_4, e210, hx210_0, hx210_1, hx210_2, hx210_3, hx210_4, hl210_3, hi210_3, hl210_4, hi210_4⟩ := at_T25 HR0_4.out x3_1 p210 q210
      cases e210
      replace hx210_0 := (HB.out.cell (World.block_lt_of_cell? w _ hx210_0)).trans hx210_0
      replace hx210_1 := (HB.out.cell (World.block_lt_of_cell? w _ hx210_1)).trans hx210_1
      replace hx210_2 := (HB.out.cell (World.block_lt_of_cell? w _ hx210_2)).trans hx210_2
      replace hx210_3 := (HB.out.cell (World.block_lt_of_cell? w _ hx210_3)).trans hx210_3
      replace hx210_4 := (HB.out.cell (World.block_lt_of_cell? w _ hx210_4)).trans hx210_4
      have HR210_3 := aM hi210_3
      have HC210_3 := aM hl210_3
      clear hi210_3 hl210_3
      have HR210_4 := aM hi210_4
      have HC210_4 := aM hl210_4
      clear hi210_4 hl210_4
      replace p210 := eq_true p210
      replace q210 := eq_true q210
      go_wp2
      go_ret
      exact ⟨by first | rfl | (simp [errW_none, errW_some] <;> rfl) | (simp [*, errW_none, errW_some] <;> rfl), by repeat (first | (with_reducible first | exact HB.out | apply below_alloc | apply pw_below_drewN | apply below_drew1 | refine below_set ?_ GE209.out) | exact HB.out)⟩
    ·rw [if_neg c4] at H
     exact absurd H (by simp)
   ·rw [if_neg c3] at H
    have c3b0 : decide (x3_1 < (l0_4.length : Int)) = false := decide_eq_false c3
    clear c3
    by_cases c11 : a0_0 = 4
    ·rw [if_pos c11] at H
     have c11b0 : (a0_0 == 4) = true := beq_iff_eq.mpr c11
     have c11b1 : (a0_0 != 4) = false := bne_eq_false_iff_eq.mpr c11
     clear c11
     obtain rfl := Option.some.inj H
     have hcz12_0 : wr.cell? ⟨gb209, 0, none⟩ = some (.int .i64 a0_0) := (blk_cell BK209.out 0).trans rfl
     have hcz12_1 : wr.cell? ⟨gb209, 1, none⟩ = some (.int .i64 a0_1) := (blk_cell BK209.out 1).trans rfl
     have hcz12_2 : wr.cell? ⟨gb209, 2, none⟩ = some (.string a0_2) := (blk_cell BK209.out 2).trans rfl
     have hcz12_3 : wr.cell? ⟨gb209, 3, none⟩ = some (.slice A0_3 l0_3.length c0_3) := (blk_cell BK209.out 3).trans rfl
     have hcz12_4 : wr.cell? ⟨gb209, 4, none⟩ = some (.slice A0_4 l0_4.length c0_4) := (blk_cell BK209.out 4).trans rfl
     have hfz12_0 := blk_frozen BK209.out 0
     have hfz12_1 := blk_frozen BK209.out 1
     have hfz12_2 := blk_frozen BK209.out 2
     have hfz12_3 := blk_frozen BK209.out 3
     have hfz12_4 := blk_frozen BK209.out 4
     go_wp2
     go_ret
     exact ⟨by first | rfl | (simp [errW_none, errW_some] <;> rfl) | (simp [*, errW_none, errW_some] <;> rfl), by repeat (first | (with_reducible first | exact HB.out | apply below_alloc | apply pw_below_drewN | apply below_drew1 | refine below_set ?_ GE209.out) | exact HB.out)⟩
    ·rw [if_neg c11] at H
     have c11b0 : (a0_0 == 4) = false := beq_eq_false_iff_ne.mpr c11
     have c11b1 : (a0_0 != 4) = true := bne_iff_ne.mpr c11
     obtain rfl := Option.some.inj H
     have hcz13_0 : wr.cell? ⟨gb209, 0, none⟩ = some (.int .i64 a0_0) := (blk_cell BK209.out 0).trans rfl
     have hcz13_1 : wr.cell? ⟨gb209, 1, none⟩ = some (.int .i64 a0_1) := (blk_cell BK209.out 1).trans rfl
     have hcz13_2 : wr.cell? ⟨gb209, 2, none⟩ = some (.string a0_2) := (blk_cell BK209.out 2).trans rfl
     have hcz13_3 : wr.cell? ⟨gb209, 3, none⟩ = some (.slice A0_3 l0_3.length c0_3) := (blk_cell BK209.out 3).trans rfl
     have hcz13_4 : wr.cell? ⟨gb209, 4, none⟩ = some (.slice A0_4 l0_4.length c0_4) := (blk_cell BK209.out 4).trans rfl
     have hfz13_0 := blk_frozen BK209.out 0
     have hfz13_1 := blk_frozen BK209.out 1
     have hfz13_2 := blk_frozen BK209.out 2
     have hfz13_3 := blk_frozen BK209.out 3
     have hfz13_4 := blk_frozen BK209.out 4
     go_wp2
     go_ret
     exact ⟨by first | rfl | (simp [errW_none, errW_some] <;> rfl) | (simp [*, errW_none, errW_some] <;> rfl), by repeat (first | (with_reducible first | exact HB.out | apply below_alloc | apply pw_below_drewN | apply below_drew1 | refine below_set ?_ GE209.out) | exact HB.out)⟩
end Go.Proofs.Ytaembebbaejfiaa.PS
namespace Go.Proofs.Ytaembebbaejfiaa.PS
open Go.RowKit Go.Proofs.YtaembebbaejfiaaW.PrintWords Go.Proofs.YtaembebbaejfiaaW.PrintLast Go.Proofs.YtaembebbaejfiaaW.PrintMore
attribute [local go_sem] max2_int min2_int max_two min_two max_three min_three max_four min_four 
set_option linter.unusedVariables false
set_option linter.unusedSimpArgs false
def spec_sayDigits.l0 : Nat → ByteArray → Int → Int → Int → Int → Option (Bool)
 | 0, _, _, _, _, _ => none
 | k + 1, x0, x1, x2, x7, x8 => if x8 < (x0.size : Int) then (if 0 ≤ x8 then (if (bt x0 x8) < 48 then (some false) else (if (bt x0 x8) > 57 then (some false) else (if x8 > 0 then (if 0 < (x0.size : Int) then (if (bt x0 0) = 48 then (some false) else (if x8 > 5 then (some false) else (spec_sayDigits.l0 k x0 x1 x2 (wrap64 ((wrap64 (10 * x7)) + (((bt x0 x8) - 48) % 256))) (wrap64 (x8 + 1))))) else (none)) else (if x8 > 5 then (some false) else (spec_sayDigits.l0 k x0 x1 x2 (wrap64 ((wrap64 (10 * x7)) + (((bt x0 x8) - 48) % 256))) (wrap64 (x8 + 1))))))) else (none)) else (if x0.toList = ([] : List UInt8) then (some false) else (if x7 ≥ x1 then (some (decide (x7 ≤ x2))) else (some false)))
def spec_sayDigits.f (k : Nat) (a0 : ByteArray) (a1 : Int) (a2 : Int) : Option (Bool) := spec_sayDigits.l0 k a0 a1 a2 0 0
set_option maxHeartbeats 8000000 in
set_option maxRecDepth 100000 in
theorem spec_sayDigits.calls (k : Nat) (a0 : ByteArray) (a1 : Int) (a2 : Int) (r : Bool) (w : World) (h : spec_sayDigits.f k a0 a1 a2 = some r) :
  Calls Try.prog 56 #[.string a0, .int .i64 a1, .int .i64 a2] w fun e w' => e = .returned (.bool r) ∧ Drawn0 w w' := by
 have H : (spec_sayDigits.l0 k a0 a1 a2 0 0) = some r := h
 clear h
 have H' := aM H
 clear H
 go_enter Try.func56, Try.ntmps56
 go_wp2
 go_loopg [7, 8] k (fun kq v7 v8 w' => ∃ (x7_1 : Int) (x8_1 : Int), v7 = .int .i64 x7_1 ∧ v8 = .int .i64 x8_1 ∧ Aside0 (spec_sayDigits.l0 kq a0 a1 a2 x7_1 x8_1 = some r) ∧ Aside0 (kq ≤ k) ∧ Drawn0 w w')
 case atStart => exact ⟨(0), (0), (by first | rfl | (simp; done) | (simp [*]; done)), (by first | rfl | (simp; done) | (simp [*]; done)), H', ⟨Nat.le_refl _⟩, by repeat (first | exact Drawn0.refl _ | apply Drawn0.step)⟩
 case round =>
  clear H'
  try clear p2
  obtain ⟨x7_1, x8_1, rfl, rfl, HA, HK1, ⟨m1, rfl⟩⟩ := hrel
  cases gk with
  | zero => exact absurd HA.out (by simp [spec_sayDigits.l0])
  | succ k1 =>
   have H := HA.out
   clear HA
   simp only [spec_sayDigits.l0] at H
   by_cases c4 : x8_1 < (a0.size : Int)
   ·rw [if_pos c4] at H
    have c4b0 : decide (x8_1 < (a0.size : Int)) = true := decide_eq_true c4
    clear c4
    by_cases c5 : 0 ≤ x8_1
    ·rw [if_pos c5] at H
     have c5b0 : decide (0 ≤ x8_1) = true := decide_eq_true c5
     clear c5
     by_cases c7 : (bt a0 x8_1) < 48
     ·rw [if_pos c7] at H
      have c7b0 : decide ((bt a0 x8_1) < 48) = true := decide_eq_true c7
      clear c7
      obtain rfl := Option.some.inj H
      have p6 : 0 ≤ (x8_1 : Int) := of_decide_eq_true (by first | (with_reducible assumption) | assumption)
      have q6 : x8_1 < (a0.size : Int) := of_decide_eq_true (by first | (with_reducible assumption) | assumption)
      have hx6 := bt_at a0 x8_1
      replace p6 := eq_true p6
      replace q6 := eq_true q6
      go_wp2
      go_ret
      exact ⟨by first | rfl | (simp; done) | (simp [*]; done), by repeat (first | exact Drawn0.refl _ | apply Drawn0.step)⟩
     ·rw [if_neg c7] at H
      have c7b0 : decide ((bt a0 x8_1) < 48) = false := decide_eq_false c7
      clear c7
      by_cases c9 : (bt a0 x8_1) > 57
      ·rw [if_pos c9] at H
       have c9b0 : decide (57 < (bt a0 x8_1)) = true := decide_eq_true c9
       clear c9
       obtain rfl := Option.some.inj H
       have p6 : 0 ≤ (x8_1 : Int) := of_decide_eq_true (by first | (with_reducible assumption) | assumption)
       have q6 : x8_1 < (a0.size : Int) := of_decide_eq_true (by first | (with_reducible assumption) | assumption)
       have hx6 := bt_at a0 x8_1
       replace p6 := eq_true p6
       replace q6 := eq_true q6
       have p8 : 0 ≤ (x8_1 : Int) := of_decide_eq_true (by first | (with_reducible assumption) | assumption)
       have q8 : x8_1 < (a0.size : Int) := of_decide_eq_true (by first | (with_reducible assumption) | assumption)
       have hx8 := bt_at a0 x8_1
       replace p8 := eq_true p8
       replace q8 := eq_true q8
       go_wp2
       go_ret
       exact ⟨by first | rfl | (simp; done) | (simp [*]; done), by repeat (first | exact Drawn0.refl _ | apply Drawn0.step)⟩
      ·rw [if_neg c9] at H
       have c9b0 : decide (57 < (bt a0 x8_1)) = false := decide_eq_false c9
       clear c9
       by_cases c10 : x8_1 > 0
       ·rw [if_pos c10] at H
        have c10b0 : decide (0 < x8_1) = true := decide_eq_true c10
        clear c10
        by_cases c11 : 0 < (a0.size : Int)
        ·rw [if_pos c11] at H
         have c11b0 : decide (0 < (a0.size : Int)) = true := decide_eq_true c11
         have c11b1 : decide (0 < a0.size) = true := decide_eq_true (by omega)
         clear c11
         by_cases c13 : (bt a0 0) = 48
         ·rw [if_pos c13] at H
          have c13b0 : ((bt a0 0) == 48) = true := beq_iff_eq.mpr c13
          have c13b1 : ((bt a0 0) != 48) = false := bne_eq_false_iff_eq.mpr c13
          clear c13
          obtain rfl := Option.some.inj H
          have p6 : 0 ≤ (x8_1 : Int) := of_decide_eq_true (by first | (with_reducible assumption) | assumption)
          have q6 : x8_1 < (a0.size : Int) := of_decide_eq_true (by first | (with_reducible assumption) | assumption)
          have hx6 := bt_at a0 x8_1
          replace p6 := eq_true p6
          replace q6 := eq_true q6
          have p8 : 0 ≤ (x8_1 : Int) := of_decide_eq_true (by first | (with_reducible assumption) | assumption)
          have q8 : x8_1 < (a0.size : Int) := of_decide_eq_true (by first | (with_reducible assumption) | assumption)
          have hx8 := bt_at a0 x8_1
          replace p8 := eq_true p8
          replace q8 := eq_true q8
          have p12 : 0 ≤ (0 : Int) := (by omega)
          have q12 : 0 < a0.size := (by have : (0 : Int) < (a0.size : Int) := of_decide_eq_true (by first | (with_reducible assumption) | assumption); omega)
          have hx12 : ∀ h : 0 < a0.size, ((a0[0]'h).toNat : Int) = bt a0 0 := bt_at a0 0
          clear p12
          have qi12 : (0 < (a0.size : Int)) = True := eq_true (of_decide_eq_true (by first | (with_reducible assumption) | assumption))
          replace q12 := eq_true q12
          go_wp2
          go_ret
          exact ⟨by first | rfl | (simp; done) | (simp [*]; done), by repeat (first | exact Drawn0.refl _ | apply Drawn0.step)⟩
         ·rw [if_neg c13] at H
          have c13b0 : ((bt a0 0) == 48) = false := beq_eq_false_iff_ne.mpr c13
          have c13b1 : ((bt a0 0) != 48) = true := bne_iff_ne.mpr c13
          by_cases c14 : x8_1 > 5
          ·rw [if_pos c14] at H
           have c14b0 : decide (5 < x8_1) = true := decide_eq_true c14
           clear c14
           obtain rfl := Option.some.inj H
           have p6 : 0 ≤ (x8_1 : Int) := of_decide_eq_true (by first | (with_reducible assumption) | assumption)
           have q6 : x8_1 < (a0.size : Int) := of_decide_eq_true (by first | (with_reducible assumption) | assumption)
           have hx6 := bt_at a0 x8_1
           replace p6 := eq_true p6
           replace q6 := eq_true q6
           have p8 : 0 ≤ (x8_1 : Int) := of_decide_eq_true (by first | (with_reducible assumption) | assumption)
           have q8 : x8_1 < (a0.size : Int) := of_decide_eq_true (by first | (with_reducible assumption) | assumption)
           have hx8 := bt_at a0 x8_1
           replace p8 := eq_true p8
           replace q8 := eq_true q8
           have p12 : 0 ≤ (0 : Int) := (by omega)
           have q12 : 0 < a0.size := (by have : (0 : Int) < (a0.size : Int) := of_decide_eq_true (by first | (with_reducible assumption) | assumption); omega)
           have hx12 : ∀ h : 0 < a0.size, ((a0[0]'h).toNat : Int) = bt a0 0 := bt_at a0 0
           clear p12
           have qi12 : (0 < (a0.size : Int)) = True := eq_true (of_decide_eq_true (by first | (with_reducible assumption) | assumption))
           replace q12 := eq_true q12
           go_wp2
           go_ret
           exact ⟨by first | rfl | (simp; done) | (simp [*]; done), by repeat (first | exact Drawn0.refl _ | apply Drawn0.step)⟩
          ·rw [if_neg c14] at H
           have c14b0 : decide (5 < x8_1) = false := decide_eq_false c14
           clear c14
           have H' := aM H
           clear H
           have p6 : 0 ≤ (x8_1 : Int) := of_decide_eq_true (by first | (with_reducible assumption) | assumption)
           have q6 : x8_1 < (a0.size : Int) := of_decide_eq_true (by first | (with_reducible assumption) | assumption)
           have hx6 := bt_at a0 x8_1
           replace p6 := eq_true p6
           replace q6 := eq_true q6
           have p8 : 0 ≤ (x8_1 : Int) := of_decide_eq_true (by first | (with_reducible assumption) | assumption)
           have q8 : x8_1 < (a0.size : Int) := of_decide_eq_true (by first | (with_reducible assumption) | assumption)
           have hx8 := bt_at a0 x8_1
           replace p8 := eq_true p8
           replace q8 := eq_true q8
           have p12 : 0 ≤ (0 : Int) := (by omega)
           have q12 : 0 < a0.size := (by have : (0 : Int) < (a0.size : Int) := of_decide_eq_true (by first | (with_reducible assumption) | assumption); omega)
           have hx12 : ∀ h : 0 < a0.size, ((a0[0]'h).toNat : Int) = bt a0 0 := bt_at a0 0
           clear p12
           have qi12 : (0 < (a0.size : Int)) = True := eq_true (of_decide_eq_true (by first | (with_reducible assumption) | assumption))
           replace q12 := eq_true q12
           have p15 : 0 ≤ (x8_1 : Int) := of_decide_eq_true (by first | (with_reducible assumption) | assumption)
           have q15 : x8_1 < (a0.size : Int) := of_decide_eq_true (by first | (with_reducible assumption) | assumption)
           have hx15 := bt_at a0 x8_1
           replace p15 := eq_true p15
           replace q15 := eq_true q15
           go_wp2
           go_roundg k1
           case measure => have := HK1.out; omega
           case rel => exact ⟨(wrap64 ((wrap64 (10 * x7_1)) + (((bt a0 x8_1) - 48) % 256))), (wrap64 (x8_1 + 1)), (by first | rfl | (simp; done) | (simp [*]; done)), (by first | rfl | (simp; done) | (simp [*]; done)), H', ⟨by have := HK1.out; omega⟩, by repeat (first | exact Drawn0.refl _ | apply Drawn0.step)⟩
        ·rw [if_neg c11] at H
         exact absurd H (by simp)
       ·rw [if_neg c10] at H
        have c10b0 : decide (0 < x8_1) = false := decide_eq_false c10
        clear c10
        by_cases c16 : x8_1 > 5
        ·rw [if_pos c16] at H
         have c16b0 : decide (5 < x8_1) = true := decide_eq_true c16
         clear c16
         obtain rfl := Option.some.inj H
         have p6 : 0 ≤ (x8_1 : Int) := of_decide_eq_true (by first | (with_reducible assumption) | assumption)
         have q6 : x8_1 < (a0.size : Int) := of_decide_eq_true (by first | (with_reducible assumption) | assumption)
         have hx6 := bt_at a0 x8_1
         replace p6 := eq_true p6
         replace q6 := eq_true q6
         have p8 : 0 ≤ (x8_1 : Int) := of_decide_eq_true (by first | (with_reducible assumption) | assumption)
         have q8 : x8_1 < (a0.size : Int) := of_decide_eq_true (by first | (with_reducible assumption) | assumption)
         have hx8 := bt_at a0 x8_1
         replace p8 := eq_true p8
         replace q8 := eq_true q8
         go_wp2
         go_ret
         exact ⟨by first | rfl | (simp; done) | (simp [*]; done), by repeat (first | exact Drawn0.refl _ | apply Drawn0.step)⟩
        ·rw [if_neg c16] at H
         have c16b0 : decide (5 < x8_1) = false := decide_eq_false c16
         clear c16
         have H' := aM H
         clear H
         have p6 : 0 ≤ (x8_1 : Int) := of_decide_eq_true (by first | (with_reducible assumption) | assumption)
         have q6 : x8_1 < (a0.size : Int) := of_decide_eq_true (by first | (with_reducible assumption) | assumption)
         have hx6 := bt_at a0 x8_1
         replace p6 := eq_true p6
         replace q6 := eq_true q6
         have p8 : 0 ≤ (x8_1 : Int) := of_decide_eq_true (by first | (with_reducible assumption) | assumption)
         have q8 : x8_1 < (a0.size : Int) := of_decide_eq_true (by first | (with_reducible assumption) | assumption)
         have hx8 := bt_at a0 x8_1
         replace p8 := eq_true p8
         replace q8 := eq_true q8
         have p17 : 0 ≤ (x8_1 : Int) := of_decide_eq_true (by first | (with_reducible assumption) | assumption)
         have q17 : x8_1 < (a0.size : Int) := of_decide_eq_true (by first | (with_reducible assumption) | assumption)
         have hx17 := bt_at a0 x8_1
         replace p17 := eq_true p17
         replace q17 := eq_true q17
         go_wp2
         go_roundg k1
         case measure => have := HK1.out; omega
         case rel => exact ⟨(wrap64 ((wrap64 (10 * x7_1)) + (((bt a0 x8_1) - 48) % 256))), (wrap64 (x8_1 + 1)), (by first | rfl | (simp; done) | (simp [*]; done)), (by first | rfl | (simp; done) | (simp [*]; done)), H', ⟨by have := HK1.out; omega⟩, by repeat (first | exact Drawn0.refl _ | apply Drawn0.step)⟩
    ·rw [if_neg c5] at H
     exact absurd H (by simp)
   ·rw [if_neg c4] at H
    have c4b0 : decide (x8_1 < (a0.size : Int)) = false := decide_eq_false c4
    clear c4
    by_cases c18 : a0.toList = ([] : List UInt8)
    ·rw [if_pos c18] at H
     have c18b0 : (a0.toList == ([] : List UInt8)) = true := beq_iff_eq.mpr c18
     have c18b1 : (a0.toList != ([] : List UInt8)) = false := bne_eq_false_iff_eq.mpr c18
     clear c18
     obtain rfl := Option.some.inj H
     go_wp2
     go_ret
     exact ⟨by first | rfl | (simp; done) | (simp [*]; done), by repeat (first | exact Drawn0.refl _ | apply Drawn0.step)⟩
    ·rw [if_neg c18] at H
     have c18b0 : (a0.toList == ([] : List UInt8)) = false := beq_eq_false_iff_ne.mpr c18
     have c18b1 : (a0.toList != ([] : List UInt8)) = true := bne_iff_ne.mpr c18
     by_cases c19 : x7_1 ≥ a1
     ·rw [if_pos c19] at H
      have c19b0 : decide (a1 ≤ x7_1) = true := decide_eq_true c19
      clear c19
      obtain rfl := Option.some.inj H
      go_wp2
      go_ret
      exact ⟨by first | rfl | (simp; done) | (simp [*]; done), by repeat (first | exact Drawn0.refl _ | apply Drawn0.step)⟩
     ·rw [if_neg c19] at H
      have c19b0 : decide (a1 ≤ x7_1) = false := decide_eq_false c19
      clear c19
      obtain rfl := Option.some.inj H
      go_wp2
      go_ret
      exact ⟨by first | rfl | (simp; done) | (simp [*]; done), by repeat (first | exact Drawn0.refl _ | apply Drawn0.step)⟩
end Go.Proofs.Ytaembebbaejfiaa.PS
namespace Go.Proofs.Ytaembebbaejfiaa.PS
open Go.RowKit Go.Proofs.YtaembebbaejfiaaW.PrintWords Go.Proofs.YtaembebbaejfiaaW.PrintLast Go.Proofs.YtaembebbaejfiaaW.PrintMore
attribute [local go_sem] max2_int min2_int max_two min_two max_three min_three max_four min_four 
set_option linter.unusedVariables false
set_option linter.unusedSimpArgs false
mutual
def spec_sayAddress.l0 : Nat → Int → Int → Int → Int → Int → ByteArray → List ByteArray → List (S25) → Option (Bool)
 | 0, _, _, _, _, _, _, _, _ => none
 | k + 1, x3, x4, x5, x219000, x219001, x219002, x219003, x219004 => if x5 ≤ (x219002.size : Int) then (if x5 < (x219002.size : Int) then (if 0 ≤ x5 then (spec_sayAddress.j1 k x3 x4 x5 ((bt x219002 x5) != 46) x219000 x219001 x219002 x219003 x219004) else (none)) else (spec_sayAddress.j1 k x3 x4 x5 false x219000 x219001 x219002 x219003 x219004)) else (if x219000 = 3 then (some (x3 == 4)) else (some false))
def spec_sayAddress.j1 : Nat → Int → Int → Int → Bool → Int → Int → ByteArray → List ByteArray → List (S25) → Option (Bool)
 | 0, _, _, _, _, _, _, _, _, _ => none
 | k + 1, x3, x4, x5, x24, x219000, x219001, x219002, x219003, x219004 => if x24 = true then (spec_sayAddress.l0 k x3 x4 (wrap64 (x5 + 1)) x219000 x219001 x219002 x219003 x219004) else (if 0 ≤ x4 then (if x4 ≤ x5 then (if x5 ≤ (x219002.size : Int) then ((spec_sayDigits.f k (x219002.extract (x4 : Int).toNat (x5 : Int).toNat) 0 255).bind fun t219 => (if t219 = true then (spec_sayAddress.l0 k (wrap64 (x3 + 1)) (wrap64 (x5 + 1)) (wrap64 (x5 + 1)) x219000 x219001 x219002 x219003 x219004) else (some false))) else (none)) else (none)) else (none))
end
def spec_sayAddress.f (k : Nat) (a0_0 : Int) (a0_1 : Int) (a0_2 : ByteArray) (l0_3 : List ByteArray) (l0_4 : List (S25)) : Option (Bool) := spec_sayAddress.l0 k 0 0 0 a0_0 a0_1 a0_2 l0_3 l0_4
set_option maxHeartbeats 8000000 in
set_option maxRecDepth 100000 in
theorem spec_sayAddress.calls (k : Nat) (a0_0 : Int) (a0_1 : Int) (a0_2 : ByteArray) (A0_3 : Option Addr) (c0_3 : Nat) (l0_3 : List ByteArray) (A0_4 : Option Addr) (c0_4 : Nat) (l0_4 : List (S25)) (r : Bool) (w : World) (hr0_3 : Kd.C Kd.string w A0_3 l0_3.length l0_3) (hc0_3 : l0_3.length ≤ c0_3) (hr0_4 : Kd.C k25 w A0_4 l0_4.length l0_4) (hc0_4 : l0_4.length ≤ c0_4) (h : spec_sayAddress.f k a0_0 a0_1 a0_2 l0_3 l0_4 = some r) :
  Calls Try.prog 50 #[.agg #[.int .i64 a0_0, .int .i64 a0_1, .string a0_2, .slice A0_3 l0_3.length c0_3, .slice A0_4 l0_4.length c0_4]] w fun e w' => e = .returned (.bool r) ∧ Below w.heap.size w w' := by
 have hu25 := Try.underlying25
 have HR0_3 := aM hr0_3
 have HC0_3 := aM hc0_3
 clear hr0_3 hc0_3
 have HR0_4 := aM hr0_4
 have HC0_4 := aM hc0_4
 clear hr0_4 hc0_4
 have HB := aM (Below.refl w.heap.size w)
 have H : (spec_sayAddress.l0 k 0 0 0 a0_0 a0_1 a0_2 l0_3 l0_4) = some r := h
 clear h
 have H' := aM H
 clear H
 go_enter Try.func50, Try.ntmps50
 go_wp2_with (first | ((with_reducible refine gate_dst (N := 1) rfl ?_); refine box_event ?hg (N := 1) ?hd (cs := #[.int .i64 a0_0, .int .i64 a0_1, .string a0_2, .slice A0_3 l0_3.length c0_3, .slice A0_4 l0_4.length c0_4]) (t := 25) ?hr ?_; (case hd => rfl); (case hg => rfl); (case hr => first | (go_simp; done) | (go_simp; rfl)); intro gb218 hg w2 hbox hb; have n0_ := aM (below_step (by repeat (first | (with_reducible first | exact HB.out | apply below_alloc | apply pw_below_drewN | apply below_drew1) | exact HB.out)) hb); have n1_ := aM (hbox); have n2_ := aM ((by rw [hg]; exact (below_size (by repeat (first | (with_reducible first | exact HB.out | apply below_alloc | apply pw_below_drewN | apply below_drew1) | exact HB.out))) : w.heap.size ≤ gb218)); have n3_ := aM ((by rw [hg]; exact (below_size (by repeat (first | (with_reducible first | exact HB.out | apply below_alloc | apply pw_below_drewN | apply below_drew1) | exact HB.out))) : w.heap.size ≤ gb218)); clear HB; have HB := n0_; have BK218 := n1_; have GW218 := n2_; have GE218 := n3_; clear n0_ n1_ n2_ n3_; clear hb hbox hg))
 go_loopg [3, 4, 5] k (fun kq v3 v4 v5 w' => ∃ (x3_1 : Int) (x4_1 : Int) (x5_1 : Int), v3 = .int .i64 x3_1 ∧ v4 = .int .i64 x4_1 ∧ v5 = .int .i64 x5_1 ∧ Aside0 (spec_sayAddress.l0 kq x3_1 x4_1 x5_1 a0_0 a0_1 a0_2 l0_3 l0_4 = some r) ∧ Aside0 (kq ≤ k) ∧ Aside0 (w'.heap[gb218]? = some (.cells #[.int .i64 a0_0, .int .i64 a0_1, .string a0_2, (.slice A0_3 l0_3.length c0_3), (.slice A0_4 l0_4.length c0_4)] 25 (0, 0))) ∧ Aside0 (Below w.heap.size w w'))
 case atStart => exact ⟨(0), (0), (0), (by first | rfl | (simp; done) | (simp [*]; done)), (by first | rfl | (simp; done) | (simp [*]; done)), (by first | rfl | (simp; done) | (simp [*]; done)), H', ⟨Nat.le_refl _⟩, ⟨by (with_reducible repeat (first | refine blk_drewN ?_ _ | refine blk_drew ?_ | refine blk_alloc ?_ _)); exact BK218.out⟩, ⟨by repeat (first | (with_reducible first | exact HB.out | apply below_alloc | apply pw_below_drewN | apply below_drew1 | refine below_set ?_ GE218.out) | exact HB.out)⟩⟩
 case round =>
  clear H'
  try clear p2
  obtain ⟨x3_1, x4_1, x5_1, rfl, rfl, rfl, HA, HK1, BK218, HB⟩ := hrel
  cases gk with
  | zero => exact absurd HA.out (by simp [spec_sayAddress.l0])
  | succ k1 =>
   have H := HA.out
   clear HA
   simp only [spec_sayAddress.l0] at H
   by_cases c3 : x5_1 ≤ (a0_2.size : Int)
   ·rw [if_pos c3] at H
    have c3b0 : decide (x5_1 ≤ (a0_2.size : Int)) = true := decide_eq_true c3
    clear c3
    have HC4 := aM H
    clear H
    have hcz5_0 : wr.cell? ⟨gb218, 0, none⟩ = some (.int .i64 a0_0) := (blk_cell BK218.out 0).trans rfl
    have hcz5_1 : wr.cell? ⟨gb218, 1, none⟩ = some (.int .i64 a0_1) := (blk_cell BK218.out 1).trans rfl
    have hcz5_2 : wr.cell? ⟨gb218, 2, none⟩ = some (.string a0_2) := (blk_cell BK218.out 2).trans rfl
    have hcz5_3 : wr.cell? ⟨gb218, 3, none⟩ = some (.slice A0_3 l0_3.length c0_3) := (blk_cell BK218.out 3).trans rfl
    have hcz5_4 : wr.cell? ⟨gb218, 4, none⟩ = some (.slice A0_4 l0_4.length c0_4) := (blk_cell BK218.out 4).trans rfl
    have hfz5_0 := blk_frozen BK218.out 0
    have hfz5_1 := blk_frozen BK218.out 1
    have hfz5_2 := blk_frozen BK218.out 2
    have hfz5_3 := blk_frozen BK218.out 3
    have hfz5_4 := blk_frozen BK218.out 4
    go_upto_region 5 with (fail)
    go_cut [24] (fun v24 wc => ∃ (kq : Nat) (x24_3 : Bool), v24 = .bool x24_3 ∧ Aside0 (spec_sayAddress.j1 kq x3_1 x4_1 x5_1 x24_3 a0_0 a0_1 a0_2 l0_3 l0_4 = some r) ∧ Aside0 (kq ≤ k1) ∧ Aside0 (wc.heap[gb218]? = some (.cells #[.int .i64 a0_0, .int .i64 a0_1, .string a0_2, (.slice A0_3 l0_3.length c0_3), (.slice A0_4 l0_4.length c0_4)] 25 (0, 0))) ∧ Aside0 (Below w.heap.size w wc))
    case first =>
     have H := HC4.out
     clear HC4
     by_cases c6 : x5_1 < (a0_2.size : Int)
     ·rw [if_pos c6] at H
      have c6b0 : decide (x5_1 < (a0_2.size : Int)) = true := decide_eq_true c6
      clear c6
      (first | rw [c6b0] | (simp only [i64_w, i32_w]; rw [c6b0]) | skip)
      by_cases c7 : 0 ≤ x5_1
      ·rw [if_pos c7] at H
       have c7b0 : decide (0 ≤ x5_1) = true := decide_eq_true c7
       clear c7
       have H' := aM H
       clear H
       have hcz9_0 : wr.cell? ⟨gb218, 0, none⟩ = some (.int .i64 a0_0) := (blk_cell BK218.out 0).trans rfl
       have hcz9_1 : wr.cell? ⟨gb218, 1, none⟩ = some (.int .i64 a0_1) := (blk_cell BK218.out 1).trans rfl
       have hcz9_2 : wr.cell? ⟨gb218, 2, none⟩ = some (.string a0_2) := (blk_cell BK218.out 2).trans rfl
       have hcz9_3 : wr.cell? ⟨gb218, 3, none⟩ = some (.slice A0_3 l0_3.length c0_3) := (blk_cell BK218.out 3).trans rfl
       have hcz9_4 : wr.cell? ⟨gb218, 4, none⟩ = some (.slice A0_4 l0_4.length c0_4) := (blk_cell BK218.out 4).trans rfl
       have hfz9_0 := blk_frozen BK218.out 0
       have hfz9_1 := blk_frozen BK218.out 1
       have hfz9_2 := blk_frozen BK218.out 2
       have hfz9_3 := blk_frozen BK218.out 3
       have hfz9_4 := blk_frozen BK218.out 4
       have p8 : 0 ≤ (x5_1 : Int) := of_decide_eq_true (by first | (with_reducible assumption) | assumption)
       have q8 : x5_1 < (a0_2.size : Int) := of_decide_eq_true (by first | (with_reducible assumption) | assumption)
       have hx8 := bt_at a0_2 x5_1
       replace p8 := eq_true p8
       replace q8 := eq_true q8
       go_wp2
       go_meet
       case rel => exact ⟨_, (((bt a0_2 x5_1) != 46)), (by first | rfl | (simp; done) | (simp [*]; done)), H', ⟨by have := HK1.out; first | omega | exact Nat.le_refl _⟩, ⟨by (with_reducible repeat (first | refine blk_drewN ?_ _ | refine blk_drew ?_ | refine blk_alloc ?_ _)); exact BK218.out⟩, ⟨by repeat (first | (with_reducible first | exact HB.out | apply below_alloc | apply pw_below_drewN | apply below_drew1 | refine below_set ?_ GE218.out) | exact HB.out)⟩⟩
      ·rw [if_neg c7] at H
       exact absurd H (by simp)
     ·rw [if_neg c6] at H
      have c6b0 : decide (x5_1 < (a0_2.size : Int)) = false := decide_eq_false c6
      clear c6
      (first | rw [c6b0] | (simp only [i64_w, i32_w]; rw [c6b0]) | skip)
      have H' := aM H
      clear H
      have hcz10_0 : wr.cell? ⟨gb218, 0, none⟩ = some (.int .i64 a0_0) := (blk_cell BK218.out 0).trans rfl
      have hcz10_1 : wr.cell? ⟨gb218, 1, none⟩ = some (.int .i64 a0_1) := (blk_cell BK218.out 1).trans rfl
      have hcz10_2 : wr.cell? ⟨gb218, 2, none⟩ = some (.string a0_2) := (blk_cell BK218.out 2).trans rfl
      have hcz10_3 : wr.cell? ⟨gb218, 3, none⟩ = some (.slice A0_3 l0_3.length c0_3) := (blk_cell BK218.out 3).trans rfl
      have hcz10_4 : wr.cell? ⟨gb218, 4, none⟩ = some (.slice A0_4 l0_4.length c0_4) := (blk_cell BK218.out 4).trans rfl
      have hfz10_0 := blk_frozen BK218.out 0
      have hfz10_1 := blk_frozen BK218.out 1
      have hfz10_2 := blk_frozen BK218.out 2
      have hfz10_3 := blk_frozen BK218.out 3
      have hfz10_4 := blk_frozen BK218.out 4
      go_wp2
      go_meet
      case rel => exact ⟨_, (false), (by first | rfl | (simp; done) | (simp [*]; done)), H', ⟨by have := HK1.out; first | omega | exact Nat.le_refl _⟩, ⟨by (with_reducible repeat (first | refine blk_drewN ?_ _ | refine blk_drew ?_ | refine blk_alloc ?_ _)); exact BK218.out⟩, ⟨by repeat (first | (with_reducible first | exact HB.out | apply below_alloc | apply pw_below_drewN | apply below_drew1 | refine below_set ?_ GE218.out) | exact HB.out)⟩⟩
    case rest =>
     clear HC4
     try clear p2
     try clear c3
     try clear c3b0
     try clear c5
     try clear c6
     try clear c6b0
     try clear c7
     try clear c7b0
     try clear p8
     try clear q8
     try clear hx8
     try clear hcz10_0
     try clear hcz10_1
     try clear hcz10_2
     try clear hcz10_3
     try clear hcz10_4
     try clear hcz5_0
     try clear hcz5_1
     try clear hcz5_2
     try clear hcz5_3
     try clear hcz5_4
     try clear hcz9_0
     try clear hcz9_1
     try clear hcz9_2
     try clear hcz9_3
     try clear hcz9_4
     try clear hfz10_0
     try clear hfz10_1
     try clear hfz10_2
     try clear hfz10_3
     try clear hfz10_4
     try clear hfz5_0
     try clear hfz5_1
     try clear hfz5_2
     try clear hfz5_3
     try clear hfz5_4
     try clear hfz9_0
     try clear hfz9_1
     try clear hfz9_2
     try clear hfz9_3
     try clear hfz9_4
     try clear p2
     try clear p8
     try clear q8
     obtain ⟨kq, x24_3, rfl, HA, HJ3, BK218, HB⟩ := hcut
     cases kq with
     | zero => exact absurd HA.out (by simp [spec_sayAddress.j1])
     | succ kj3 =>
      have H := HA.out
      clear HA
      simp only [spec_sayAddress.j1] at H
      by_cases c11 : x24_3 = true
      ·subst c11
       have H1 : (spec_sayAddress.l0 kj3 x3_1 x4_1 (wrap64 (x5_1 + 1)) a0_0 a0_1 a0_2 l0_3 l0_4) = some r := by rw [if_pos rfl] at H; exact H
       clear H
       have H := H1
       clear H1
       have H' := aM H
       clear H
       go_wp2
       go_roundg kj3
       case measure => have := HK1.out; have := HJ3.out; omega
       case rel => exact ⟨(x3_1), (x4_1), (wrap64 (x5_1 + 1)), (by first | rfl | (simp; done) | (simp [*]; done)), (by first | rfl | (simp; done) | (simp [*]; done)), (by first | rfl | (simp; done) | (simp [*]; done)), H', ⟨by have := HK1.out; have := HJ3.out; omega⟩, ⟨by (with_reducible repeat (first | refine blk_drewN ?_ _ | refine blk_drew ?_ | refine blk_alloc ?_ _)); exact BK218.out⟩, ⟨by repeat (first | (with_reducible first | exact HB.out | apply below_alloc | apply pw_below_drewN | apply below_drew1 | refine below_set ?_ GE218.out) | exact HB.out)⟩⟩
      ·replace c11 := Bool.eq_false_iff.mpr c11
       subst c11
       have H1 : (if 0 ≤ x4_1 then (if x4_1 ≤ x5_1 then (if x5_1 ≤ (a0_2.size : Int) then ((spec_sayDigits.f kj3 (a0_2.extract (x4_1 : Int).toNat (x5_1 : Int).toNat) 0 255).bind fun t219 => (if t219 = true then (spec_sayAddress.l0 kj3 (wrap64 (x3_1 + 1)) (wrap64 (x5_1 + 1)) (wrap64 (x5_1 + 1)) a0_0 a0_1 a0_2 l0_3 l0_4) else (some false))) else (none)) else (none)) else (none)) = some r := by rw [if_neg (show ¬ (false = true) by decide)] at H; exact H
       clear H
       have H := H1
       clear H1
       by_cases c12 : 0 ≤ x4_1
       ·rw [if_pos c12] at H
        have c12b0 := eq_true c12
        have c12b1 : decide (0 ≤ x4_1) = true := decide_eq_true c12
        clear c12
        by_cases c13 : x4_1 ≤ x5_1
        ·rw [if_pos c13] at H
         have c13b0 := eq_true c13
         have c13b1 : decide (x4_1 ≤ x5_1) = true := decide_eq_true c13
         clear c13
         by_cases c14 : x5_1 ≤ (a0_2.size : Int)
         ·rw [if_pos c14] at H
          have c14b0 := eq_true c14
          have c14b1 : decide (x5_1 ≤ (a0_2.size : Int)) = true := decide_eq_true c14
          clear c14
          replace H := Option.bind_eq_some_iff.mp H
          obtain ⟨t219, A150, H⟩ := H
          replace H : (if t219 = true then (spec_sayAddress.l0 kj3 (wrap64 (x3_1 + 1)) (wrap64 (x5_1 + 1)) (wrap64 (x5_1 + 1)) a0_0 a0_1 a0_2 l0_3 l0_4) else (some false)) = some r := H
          have A15 := aM A150
          clear A150
          by_cases c16 : t219 = true
          ·subst c16
           have H1 : (spec_sayAddress.l0 kj3 (wrap64 (x3_1 + 1)) (wrap64 (x5_1 + 1)) (wrap64 (x5_1 + 1)) a0_0 a0_1 a0_2 l0_3 l0_4) = some r := by rw [if_pos rfl] at H; exact H
           clear H
           have H := H1
           clear H1
           have H' := aM H
           clear H
           have hcz17_0 : wc.cell? ⟨gb218, 0, none⟩ = some (.int .i64 a0_0) := (blk_cell BK218.out 0).trans rfl
           have hcz17_1 : wc.cell? ⟨gb218, 1, none⟩ = some (.int .i64 a0_1) := (blk_cell BK218.out 1).trans rfl
           have hcz17_2 : wc.cell? ⟨gb218, 2, none⟩ = some (.string a0_2) := (blk_cell BK218.out 2).trans rfl
           have hcz17_3 : wc.cell? ⟨gb218, 3, none⟩ = some (.slice A0_3 l0_3.length c0_3) := (blk_cell BK218.out 3).trans rfl
           have hcz17_4 : wc.cell? ⟨gb218, 4, none⟩ = some (.slice A0_4 l0_4.length c0_4) := (blk_cell BK218.out 4).trans rfl
           have hfz17_0 := blk_frozen BK218.out 0
           have hfz17_1 := blk_frozen BK218.out 1
           have hfz17_2 := blk_frozen BK218.out 2
           have hfz17_3 := blk_frozen BK218.out 3
           have hfz17_4 := blk_frozen BK218.out 4
           go_wp2_with (first | ((with_reducible refine gate_callee (f := 56) rfl ?_); refine goesL_ (some 30) rfl rfl Try.func56 (by kernel_rfl) rfl #[.string (a0_2.extract (x4_1 : Int).toNat (x5_1 : Int).toNat), .int .i64 0, .int .i64 255] rfl (by (try simp only [List.map_toArray, List.map_cons, List.map_nil]); first | done | rfl | (simp only [List.length_drop, List.length_take]; rfl)) ?_; (with_reducible refine (spec_sayDigits.calls kj3 (a0_2.extract (x4_1 : Int).toNat (x5_1 : Int).toNat) 0 255 true _ A15.out).mono ?_); rintro e w' ⟨rfl, ⟨nd, rfl⟩⟩; refine ⟨_, rfl, ?_⟩))
           go_roundg kj3
           case measure => have := HK1.out; have := HJ3.out; omega
           case rel => exact ⟨(wrap64 (x3_1 + 1)), (wrap64 (x5_1 + 1)), (wrap64 (x5_1 + 1)), (by first | rfl | (simp; done) | (simp [*]; done)), (by first | rfl | (simp; done) | (simp [*]; done)), (by first | rfl | (simp; done) | (simp [*]; done)), H', ⟨by have := HK1.out; have := HJ3.out; omega⟩, ⟨by (with_reducible repeat (first | refine blk_drewN ?_ _ | refine blk_drew ?_ | refine blk_alloc ?_ _)); exact BK218.out⟩, ⟨by repeat (first | (with_reducible first | exact HB.out | apply below_alloc | apply pw_below_drewN | apply below_drew1 | refine below_set ?_ GE218.out) | exact HB.out)⟩⟩
          ·replace c16 := Bool.eq_false_iff.mpr c16
           subst c16
           have H1 : (some false) = some r := by rw [if_neg (show ¬ (false = true) by decide)] at H; exact H
           clear H
           have H := H1
           clear H1
           obtain rfl := Option.some.inj H
           have hcz18_0 : wc.cell? ⟨gb218, 0, none⟩ = some (.int .i64 a0_0) := (blk_cell BK218.out 0).trans rfl
           have hcz18_1 : wc.cell? ⟨gb218, 1, none⟩ = some (.int .i64 a0_1) := (blk_cell BK218.out 1).trans rfl
           have hcz18_2 : wc.cell? ⟨gb218, 2, none⟩ = some (.string a0_2) := (blk_cell BK218.out 2).trans rfl
           have hcz18_3 : wc.cell? ⟨gb218, 3, none⟩ = some (.slice A0_3 l0_3.length c0_3) := (blk_cell BK218.out 3).trans rfl
           have hcz18_4 : wc.cell? ⟨gb218, 4, none⟩ = some (.slice A0_4 l0_4.length c0_4) := (blk_cell BK218.out 4).trans rfl
           have hfz18_0 := blk_frozen BK218.out 0
           have hfz18_1 := blk_frozen BK218.out 1
           have hfz18_2 := blk_frozen BK218.out 2
           have hfz18_3 := blk_frozen BK218.out 3
           have hfz18_4 := blk_frozen BK218.out 4
           go_wp2_with (first | ((with_reducible refine gate_callee (f := 56) rfl ?_); refine goesL_ (some 30) rfl rfl Try.func56 (by kernel_rfl) rfl #[.string (a0_2.extract (x4_1 : Int).toNat (x5_1 : Int).toNat), .int .i64 0, .int .i64 255] rfl (by (try simp only [List.map_toArray, List.map_cons, List.map_nil]); first | done | rfl | (simp only [List.length_drop, List.length_take]; rfl)) ?_; (with_reducible refine (spec_sayDigits.calls kj3 (a0_2.extract (x4_1 : Int).toNat (x5_1 : Int).toNat) 0 255 false _ A15.out).mono ?_); rintro e w' ⟨rfl, ⟨nd, rfl⟩⟩; refine ⟨_, rfl, ?_⟩))
           go_ret
           exact ⟨by first | rfl | (simp [errW_none, errW_some] <;> rfl) | (simp [*, errW_none, errW_some] <;> rfl), by repeat (first | (with_reducible first | exact HB.out | apply below_alloc | apply pw_below_drewN | apply below_drew1 | refine below_set ?_ GE218.out) | exact HB.out)⟩
         ·rw [if_neg c14] at H
          exact absurd H (by simp)
        ·rw [if_neg c13] at H
         exact absurd H (by simp)
       ·rw [if_neg c12] at H
        exact absurd H (by simp)
   ·rw [if_neg c3] at H
    have c3b0 : decide (x5_1 ≤ (a0_2.size : Int)) = false := decide_eq_false c3
    clear c3
    by_cases c19 : a0_0 = 3
    ·rw [if_pos c19] at H
     have c19b0 : (a0_0 == 3) = true := beq_iff_eq.mpr c19
     have c19b1 : (a0_0 != 3) = false := bne_eq_false_iff_eq.mpr c19
     clear c19
     obtain rfl := Option.some.inj H
     have hcz20_0 : wr.cell? ⟨gb218, 0, none⟩ = some (.int .i64 a0_0) := (blk_cell BK218.out 0).trans rfl
     have hcz20_1 : wr.cell? ⟨gb218, 1, none⟩ = some (.int .i64 a0_1) := (blk_cell BK218.out 1).trans rfl
     have hcz20_2 : wr.cell? ⟨gb218, 2, none⟩ = some (.string a0_2) := (blk_cell BK218.out 2).trans rfl
     have hcz20_3 : wr.cell? ⟨gb218, 3, none⟩ = some (.slice A0_3 l0_3.length c0_3) := (blk_cell BK218.out 3).trans rfl
     have hcz20_4 : wr.cell? ⟨gb218, 4, none⟩ = some (.slice A0_4 l0_4.length c0_4) := (blk_cell BK218.out 4).trans rfl
     have hfz20_0 := blk_frozen BK218.out 0
     have hfz20_1 := blk_frozen BK218.out 1
     have hfz20_2 := blk_frozen BK218.out 2
     have hfz20_3 := blk_frozen BK218.out 3
     have hfz20_4 := blk_frozen BK218.out 4
     go_wp2
     go_ret
     exact ⟨by first | rfl | (simp [errW_none, errW_some] <;> rfl) | (simp [*, errW_none, errW_some] <;> rfl), by repeat (first | (with_reducible first | exact HB.out | apply below_alloc | apply pw_below_drewN | apply below_drew1 | refine below_set ?_ GE218.out) | exact HB.out)⟩
    ·rw [if_neg c19] at H
     have c19b0 : (a0_0 == 3) = false := beq_eq_false_iff_ne.mpr c19
     have c19b1 : (a0_0 != 3) = true := bne_iff_ne.mpr c19
     obtain rfl := Option.some.inj H
     have hcz21_0 : wr.cell? ⟨gb218, 0, none⟩ = some (.int .i64 a0_0) := (blk_cell BK218.out 0).trans rfl
     have hcz21_1 : wr.cell? ⟨gb218, 1, none⟩ = some (.int .i64 a0_1) := (blk_cell BK218.out 1).trans rfl
     have hcz21_2 : wr.cell? ⟨gb218, 2, none⟩ = some (.string a0_2) := (blk_cell BK218.out 2).trans rfl
     have hcz21_3 : wr.cell? ⟨gb218, 3, none⟩ = some (.slice A0_3 l0_3.length c0_3) := (blk_cell BK218.out 3).trans rfl
     have hcz21_4 : wr.cell? ⟨gb218, 4, none⟩ = some (.slice A0_4 l0_4.length c0_4) := (blk_cell BK218.out 4).trans rfl
     have hfz21_0 := blk_frozen BK218.out 0
     have hfz21_1 := blk_frozen BK218.out 1
     have hfz21_2 := blk_frozen BK218.out 2
     have hfz21_3 := blk_frozen BK218.out 3
     have hfz21_4 := blk_frozen BK218.out 4
     go_wp2
     go_ret
     exact ⟨by first | rfl | (simp [errW_none, errW_some] <;> rfl) | (simp [*, errW_none, errW_some] <;> rfl), by repeat (first | (with_reducible first | exact HB.out | apply below_alloc | apply pw_below_drewN | apply below_drew1 | refine below_set ?_ GE218.out) | exact HB.out)⟩
end Go.Proofs.Ytaembebbaejfiaa.PS
namespace Go.Proofs.Ytaembebbaejfiaa.PS
open Go.RowKit Go.Proofs.YtaembebbaejfiaaW.PrintWords Go.Proofs.YtaembebbaejfiaaW.PrintLast Go.Proofs.YtaembebbaejfiaaW.PrintMore
attribute [local go_sem] max2_int min2_int max_two min_two max_three min_three max_four min_four 
set_option linter.unusedVariables false
set_option linter.unusedSimpArgs false
def spec_sayNet.f (k : Nat) (a0_0 : Int) (a0_1 : Int) (a0_2 : ByteArray) (l0_3 : List ByteArray) (l0_4 : List (S25)) : Option (Bool) := (spec_Get.f k a0_0 a0_1 a0_2 l0_3 l0_4 (⟨#[105, 112, 118, 52, 95, 97, 100, 100, 114, 101, 115, 115]⟩ : ByteArray)).bind fun bt221 => (if (l0_3.length : Int) = 1 then (if bt221.2.2.2.2.2 = true then ((spec_sayAddress.f k bt221.1 bt221.2.1 bt221.2.2.1 bt221.2.2.2.1 bt221.2.2.2.2.1).bind fun t232 => (some t232)) else (some false)) else (some false))
set_option maxHeartbeats 8000000 in
set_option maxRecDepth 100000 in
theorem spec_sayNet.calls (k : Nat) (a0_0 : Int) (a0_1 : Int) (a0_2 : ByteArray) (A0_3 : Option Addr) (c0_3 : Nat) (l0_3 : List ByteArray) (A0_4 : Option Addr) (c0_4 : Nat) (l0_4 : List (S25)) (r : Bool) (w : World) (hr0_3 : Kd.C Kd.string w A0_3 l0_3.length l0_3) (hc0_3 : l0_3.length ≤ c0_3) (hr0_4 : Kd.C k25 w A0_4 l0_4.length l0_4) (hc0_4 : l0_4.length ≤ c0_4) (h : spec_sayNet.f k a0_0 a0_1 a0_2 l0_3 l0_4 = some r) :
  Calls Try.prog 41 #[.agg #[.int .i64 a0_0, .int .i64 a0_1, .string a0_2, .slice A0_3 l0_3.length c0_3, .slice A0_4 l0_4.length c0_4]] w fun e w' => e = .returned (.bool r) ∧ Below w.heap.size w w' := by
 have hu25 := Try.underlying25
 have HR0_3 := aM hr0_3
 have HC0_3 := aM hc0_3
 clear hr0_3 hc0_3
 have HR0_4 := aM hr0_4
 have HC0_4 := aM hc0_4
 clear hr0_4 hc0_4
 have HB := aM (Below.refl w.heap.size w)
 have H : ((spec_Get.f k a0_0 a0_1 a0_2 l0_3 l0_4 (⟨#[105, 112, 118, 52, 95, 97, 100, 100, 114, 101, 115, 115]⟩ : ByteArray)).bind fun bt221 => (if (l0_3.length : Int) = 1 then (if bt221.2.2.2.2.2 = true then ((spec_sayAddress.f k bt221.1 bt221.2.1 bt221.2.2.1 bt221.2.2.2.1 bt221.2.2.2.2.1).bind fun t232 => (some t232)) else (some false)) else (some false))) = some r := h
 clear h
 replace H := Option.bind_eq_some_iff.mp H
 obtain ⟨⟨t221, t222, t223, t224, t227, t230⟩, A20, H⟩ := H
 replace H : (if (l0_3.length : Int) = 1 then (if t230 = true then ((spec_sayAddress.f k t221 t222 t223 t224 t227).bind fun t232 => (some t232)) else (some false)) else (some false)) = some r := H
 have A2 := aM A20
 clear A20
 by_cases c3 : (l0_3.length : Int) = 1
 ·rw [if_pos c3] at H
  have c3b0 : ((l0_3.length : Int) == 1) = true := beq_iff_eq.mpr c3
  have c3b1 : ((l0_3.length : Int) != 1) = false := bne_eq_false_iff_eq.mpr c3
  clear c3
  by_cases c4 : t230 = true
  ·subst c4
   have H1 : ((spec_sayAddress.f k t221 t222 t223 t224 t227).bind fun t232 => (some t232)) = some r := by rw [if_pos rfl] at H; exact H
   clear H
   have H := H1
   clear H1
   replace H := Option.bind_eq_some_iff.mp H
   obtain ⟨t232, A50, H⟩ := H
   replace H : (some t232) = some r := H
   have A5 := aM A50
   clear A50
   obtain rfl := Option.some.inj H
   go_enter Try.func41, Try.ntmps41
   go_wp2_with (first | ((with_reducible refine gate_dst (N := 1) rfl ?_); refine box_event ?hg (N := 1) ?hd (cs := #[.int .i64 a0_0, .int .i64 a0_1, .string a0_2, .slice A0_3 l0_3.length c0_3, .slice A0_4 l0_4.length c0_4]) (t := 25) ?hr ?_; (case hd => rfl); (case hg => rfl); (case hr => first | (go_simp; done) | (go_simp; rfl)); intro gb220 hg w6 hbox hb; have n0_ := aM (below_step (by repeat (first | (with_reducible first | exact HB.out | apply below_alloc | apply pw_below_drewN | apply below_drew1) | exact HB.out)) hb); have n1_ := aM (hbox); have n2_ := aM ((by rw [hg]; exact (below_size (by repeat (first | (with_reducible first | exact HB.out | apply below_alloc | apply pw_below_drewN | apply below_drew1) | exact HB.out))) : w.heap.size ≤ gb220)); have n3_ := aM ((by rw [hg]; exact (below_size (by repeat (first | (with_reducible first | exact HB.out | apply below_alloc | apply pw_below_drewN | apply below_drew1) | exact HB.out))) : w.heap.size ≤ gb220)); clear HB; have HB := n0_; have BK220 := n1_; have GW220 := n2_; have GE220 := n3_; clear n0_ n1_ n2_ n3_; clear hb hbox hg; have hcz7_0 : w6.cell? ⟨gb220, 0, none⟩ = some (.int .i64 a0_0) := (blk_cell BK220.out 0).trans rfl; have hcz7_1 : w6.cell? ⟨gb220, 1, none⟩ = some (.int .i64 a0_1) := (blk_cell BK220.out 1).trans rfl; have hcz7_2 : w6.cell? ⟨gb220, 2, none⟩ = some (.string a0_2) := (blk_cell BK220.out 2).trans rfl; have hcz7_3 : w6.cell? ⟨gb220, 3, none⟩ = some (.slice A0_3 l0_3.length c0_3) := (blk_cell BK220.out 3).trans rfl; have hcz7_4 : w6.cell? ⟨gb220, 4, none⟩ = some (.slice A0_4 l0_4.length c0_4) := (blk_cell BK220.out 4).trans rfl; have hfz7_0 := blk_frozen BK220.out 0; have hfz7_1 := blk_frozen BK220.out 1; have hfz7_2 := blk_frozen BK220.out 2; have hfz7_3 := blk_frozen BK220.out 3; have hfz7_4 := blk_frozen BK220.out 4) | ((with_reducible refine gate_callee (f := 48) rfl ?_); refine goesL_ (some 7) rfl rfl Try.func48 (by kernel_rfl) rfl #[.agg #[.int .i64 a0_0, .int .i64 a0_1, .string a0_2, .slice A0_3 l0_3.length c0_3, .slice A0_4 l0_4.length c0_4], .string (⟨#[105, 112, 118, 52, 95, 97, 100, 100, 114, 101, 115, 115]⟩ : ByteArray)] rfl (by (try simp only [List.map_toArray, List.map_cons, List.map_nil]); first | done | rfl | (simp only [List.length_drop, List.length_take]; rfl)) ?_; (with_reducible refine (spec_Get.calls k a0_0 a0_1 a0_2 _ _ l0_3 (fun k_ => k_ < w.heap.size) _ _ l0_4 (⟨#[105, 112, 118, 52, 95, 97, 100, 100, 114, 101, 115, 115]⟩ : ByteArray) t221 t222 t223 t224 t227 true _ ?side1 ?side2 ?side3 A2.out).mono ?_); (case side1 => repeat (first | exact (Kd.C_below HR0_3.out HB.out) | (with_reducible refine Kd.C_alloc ?_ _) | (with_reducible refine Kd.C_drewN ?_ _) | (with_reducible refine Kd.C_drew ?_))); (case side2 => exact HC0_3.out); (case side3 => exact Kd.V_mk HC0_4.out (Kd.F_below (Kd.C_F k25_heap HR0_4.out) (by repeat (first | (with_reducible first | exact HB.out | apply below_alloc | apply pw_below_drewN | apply below_drew1 | refine below_set ?_ GE220.out) | exact HB.out)))); rintro e w8 ⟨v225, v228, rfl, ho0, ho1, hb⟩; refine ⟨_, rfl, ?_⟩; have n0_ := aM (Kd.V_lower (Kd.V_mono (ok' := fun k_ => k_ ≠ gb220) ho0 (fun k_ hk_ => Or.elim hk_ (fun hs_ => fun e_ => Nat.not_le.2 hs_ (by rw [e_]; exact GW220.out)) (fun hn_ => (Kd.freshB (g := gb220) (o := .cells #[.int .i64 a0_0, .int .i64 a0_1, .string a0_2, .slice A0_3 l0_3.length c0_3, .slice A0_4 l0_4.length c0_4] 25 (0, 0)) (by (with_reducible repeat (first | refine blk_drewN ?_ _ | refine blk_drew ?_ | refine blk_alloc ?_ _)); exact BK220.out) k_ hn_)))) (below_size (by repeat (first | (with_reducible first | exact HB.out | apply below_alloc | apply pw_below_drewN | apply below_drew1 | refine below_set ?_ GE220.out) | exact HB.out)))); have n1_ := aM (Kd.V_lower (Kd.V_mono (ok' := fun k_ => k_ ≠ gb220) ho1 (fun k_ hk_ => Or.elim hk_ (fun hs_ => fun e_ => Nat.not_le.2 hs_ (by rw [e_]; exact GW220.out)) (fun hn_ => (Kd.freshB (g := gb220) (o := .cells #[.int .i64 a0_0, .int .i64 a0_1, .string a0_2, .slice A0_3 l0_3.length c0_3, .slice A0_4 l0_4.length c0_4] 25 (0, 0)) (by (with_reducible repeat (first | refine blk_drewN ?_ _ | refine blk_drew ?_ | refine blk_alloc ?_ _)); exact BK220.out) k_ hn_)))) (below_size (by repeat (first | (with_reducible first | exact HB.out | apply below_alloc | apply pw_below_drewN | apply below_drew1 | refine below_set ?_ GE220.out) | exact HB.out)))); have n2_ := aM (blk_below (g := gb220) (o := .cells #[.int .i64 a0_0, .int .i64 a0_1, .string a0_2, .slice A0_3 l0_3.length c0_3, .slice A0_4 l0_4.length c0_4] 25 (0, 0)) (by (with_reducible repeat (first | refine blk_drewN ?_ _ | refine blk_drew ?_ | refine blk_alloc ?_ _)); exact BK220.out) hb); have n3_ := aM (below_step (by repeat (first | (with_reducible first | exact HB.out | apply below_alloc | apply pw_below_drewN | apply below_drew1 | refine below_set ?_ GE220.out) | exact HB.out)) hb); clear BK220; clear HB; have HO226 := n0_; have HO229 := n1_; have BK220 := n2_; have HB := n3_; clear n0_ n1_ n2_ n3_; (try clear hb); (try clear hb2); (try clear hk); (try clear hi); (try clear ho0); (try clear ho1)) | ((with_reducible refine gate_dst (N := 3) rfl ?_); refine box_event ?hg (N := 3) ?hd (cs := #[.int .i64 0, .int .i64 0, .string (⟨#[]⟩ : ByteArray), .slice none 0 0, .slice none 0 0]) (t := 25) ?hr ?_; (case hd => rfl); (case hg => rfl); (case hr => first | (go_simp; done) | (go_simp; rfl)); intro gb231 hg w9 hbox hb; have n0_ := aM (Kd.V_below (Kd.V_elderB (by (with_reducible repeat (first | apply Kd.V_alloc | apply Kd.V_drewN | apply Kd.V_drew)); exact HO226.out) gb231 (Nat.le_of_eq hg.symm)) hb); have n1_ := aM (Kd.V_below (Kd.V_elderB (by (with_reducible repeat (first | apply Kd.V_alloc | apply Kd.V_drewN | apply Kd.V_drew)); exact HO229.out) gb231 (Nat.le_of_eq hg.symm)) hb); have n2_ := aM (blk_below (g := gb220) (o := .cells #[.int .i64 a0_0, .int .i64 a0_1, .string a0_2, .slice A0_3 l0_3.length c0_3, .slice A0_4 l0_4.length c0_4] 25 (0, 0)) (by (with_reducible repeat (first | refine blk_drewN ?_ _ | refine blk_drew ?_ | refine blk_alloc ?_ _)); exact BK220.out) hb); have n3_ := aM (below_step (by repeat (first | (with_reducible first | exact HB.out | apply below_alloc | apply pw_below_drewN | apply below_drew1 | refine below_set ?_ GE220.out) | exact HB.out)) hb); have n4_ := aM (hbox); have n5_ := aM ((by rw [hg]; exact (below_size (by repeat (first | (with_reducible first | exact HB.out | apply below_alloc | apply pw_below_drewN | apply below_drew1 | refine below_set ?_ GE220.out) | exact HB.out))) : w.heap.size ≤ gb231)); have n6_ := aM ((by rw [hg]; exact (below_size (by repeat (first | (with_reducible first | exact HB.out | apply below_alloc | apply pw_below_drewN | apply below_drew1 | refine below_set ?_ GE220.out) | exact HB.out))) : w.heap.size ≤ gb231)); have n7_ := aM ((by rw [hg]; exact Nat.ne_of_lt (blk_lt (g := gb220) (o := .cells #[.int .i64 a0_0, .int .i64 a0_1, .string a0_2, .slice A0_3 l0_3.length c0_3, .slice A0_4 l0_4.length c0_4] 25 (0, 0)) (by (with_reducible repeat (first | refine blk_drewN ?_ _ | refine blk_drew ?_ | refine blk_alloc ?_ _)); exact BK220.out)) : gb220 ≠ gb231)); have n8_ := aM ((by rw [hg]; exact Nat.ne_of_gt (blk_lt (g := gb220) (o := .cells #[.int .i64 a0_0, .int .i64 a0_1, .string a0_2, .slice A0_3 l0_3.length c0_3, .slice A0_4 l0_4.length c0_4] 25 (0, 0)) (by (with_reducible repeat (first | refine blk_drewN ?_ _ | refine blk_drew ?_ | refine blk_alloc ?_ _)); exact BK220.out)) : gb231 ≠ gb220)); clear HO226; clear HO229; clear BK220; clear HB; have HO226 := n0_; have HO229 := n1_; have BK220 := n2_; have HB := n3_; have BK231 := n4_; have GW231 := n5_; have GE231 := n6_; have NB220_231 := n7_; have NB231_220 := n8_; clear n0_ n1_ n2_ n3_ n4_ n5_ n6_ n7_ n8_; clear hb hbox hg; have hnb10 := NB231_220.out; have hnc10 := NB220_231.out; have hcz11_0 : w9.cell? ⟨gb231, 0, none⟩ = some (.int .i64 0) := (blk_cell BK231.out 0).trans rfl; have hcz11_1 : w9.cell? ⟨gb231, 1, none⟩ = some (.int .i64 0) := (blk_cell BK231.out 1).trans rfl; have hcz11_2 : w9.cell? ⟨gb231, 2, none⟩ = some (.string (⟨#[]⟩ : ByteArray)) := (blk_cell BK231.out 2).trans rfl; have hcz11_3 : w9.cell? ⟨gb231, 3, none⟩ = some (.slice none 0 0) := (blk_cell BK231.out 3).trans rfl; have hcz11_4 : w9.cell? ⟨gb231, 4, none⟩ = some (.slice none 0 0) := (blk_cell BK231.out 4).trans rfl; have hfz11_0 := blk_frozen BK231.out 0; have hfz11_1 := blk_frozen BK231.out 1; have hfz11_2 := blk_frozen BK231.out 2; have hfz11_3 := blk_frozen BK231.out 3; have hfz11_4 := blk_frozen BK231.out 4; obtain ⟨Ao12, co12, eo12⟩ := Kd.V_slice HO226.out; subst eo12; obtain ⟨Ao13, co13, eo13⟩ := Kd.V_slice HO229.out; subst eo13; have hcz14_0 : w9.cell? ⟨gb220, 0, none⟩ = some (.int .i64 a0_0) := (blk_cell BK220.out 0).trans rfl; have hcz14_1 : w9.cell? ⟨gb220, 1, none⟩ = some (.int .i64 a0_1) := (blk_cell BK220.out 1).trans rfl; have hcz14_2 : w9.cell? ⟨gb220, 2, none⟩ = some (.string a0_2) := (blk_cell BK220.out 2).trans rfl; have hcz14_3 : w9.cell? ⟨gb220, 3, none⟩ = some (.slice A0_3 l0_3.length c0_3) := (blk_cell BK220.out 3).trans rfl; have hcz14_4 : w9.cell? ⟨gb220, 4, none⟩ = some (.slice A0_4 l0_4.length c0_4) := (blk_cell BK220.out 4).trans rfl; have hfz14_0 := blk_frozen BK220.out 0; have hfz14_1 := blk_frozen BK220.out 1; have hfz14_2 := blk_frozen BK220.out 2; have hfz14_3 := blk_frozen BK220.out 3; have hfz14_4 := blk_frozen BK220.out 4) | (go_at_call 50; (with_reducible refine (spec_sayAddress.calls k t221 t222 t223 _ _ t224 _ _ t227 t232 _ ?side1 ?side2 ?side3 ?side4 A5.out).mono ?_); (case side1 => refine (Kd.V_reads' (e := 9) (base := w.heap.size) (ok := fun k_ => (k_ ≠ gb220 ∧ k_ ≠ gb231)) (n := t224.length) (c := co12) ?_).2.2; exact (by (with_reducible repeat (first | apply Kd.V_alloc | apply Kd.V_drewN | apply Kd.V_drew)); exact (Kd.V_mono (Kd.V_far (p := ⟨gb231, 4, none⟩) (Kd.V_far (p := ⟨gb231, 3, none⟩) (Kd.V_far (p := ⟨gb231, 2, none⟩) (Kd.V_far (p := ⟨gb231, 1, none⟩) (Kd.V_far (p := ⟨gb231, 0, none⟩) (Kd.V_mono HO226.out (fun k_ hk => (⟨hk, hk.2⟩ : _ ∧ k_ ≠ gb231))) (fun _ hk => hk.2) (.int .i64 t221)) (fun _ hk => hk.2) (.int .i64 t222)) (fun _ hk => hk.2) (.string t223)) (fun _ hk => hk.2) (.slice Ao12 t224.length co12)) (fun _ hk => hk.2) (.slice Ao13 t227.length co13)) (fun _ h_ => h_.1)))); (case side2 => exact (Kd.V_reads' HO226.out).2.1); (case side3 => refine (Kd.V_reads' (e := 25) (base := w.heap.size) (ok := fun k_ => (k_ ≠ gb220 ∧ k_ ≠ gb231)) (n := t227.length) (c := co13) ?_).2.2; exact (by (with_reducible repeat (first | apply Kd.V_alloc | apply Kd.V_drewN | apply Kd.V_drew)); exact (Kd.V_mono (Kd.V_far (p := ⟨gb231, 4, none⟩) (Kd.V_far (p := ⟨gb231, 3, none⟩) (Kd.V_far (p := ⟨gb231, 2, none⟩) (Kd.V_far (p := ⟨gb231, 1, none⟩) (Kd.V_far (p := ⟨gb231, 0, none⟩) (Kd.V_mono HO229.out (fun k_ hk => (⟨hk, hk.2⟩ : _ ∧ k_ ≠ gb231))) (fun _ hk => hk.2) (.int .i64 t221)) (fun _ hk => hk.2) (.int .i64 t222)) (fun _ hk => hk.2) (.string t223)) (fun _ hk => hk.2) (.slice Ao12 t224.length co12)) (fun _ hk => hk.2) (.slice Ao13 t227.length co13)) (fun _ h_ => h_.1)))); (case side4 => exact (Kd.V_reads' HO229.out).2.1); rintro e w15 ⟨rfl, hb⟩; have n0_ := aM (Kd.V_below (by (with_reducible repeat (first | apply Kd.V_alloc | apply Kd.V_drewN | apply Kd.V_drew)); exact (Kd.V_mono (Kd.V_far (p := ⟨gb231, 4, none⟩) (Kd.V_far (p := ⟨gb231, 3, none⟩) (Kd.V_far (p := ⟨gb231, 2, none⟩) (Kd.V_far (p := ⟨gb231, 1, none⟩) (Kd.V_far (p := ⟨gb231, 0, none⟩) (Kd.V_mono HO226.out (fun k_ hk => (⟨hk, hk.2⟩ : _ ∧ k_ ≠ gb231))) (fun _ hk => hk.2) (.int .i64 t221)) (fun _ hk => hk.2) (.int .i64 t222)) (fun _ hk => hk.2) (.string t223)) (fun _ hk => hk.2) (.slice Ao12 t224.length co12)) (fun _ hk => hk.2) (.slice Ao13 t227.length co13)) (fun _ h_ => h_.1))) hb); have n1_ := aM (Kd.V_below (by (with_reducible repeat (first | apply Kd.V_alloc | apply Kd.V_drewN | apply Kd.V_drew)); exact (Kd.V_mono (Kd.V_far (p := ⟨gb231, 4, none⟩) (Kd.V_far (p := ⟨gb231, 3, none⟩) (Kd.V_far (p := ⟨gb231, 2, none⟩) (Kd.V_far (p := ⟨gb231, 1, none⟩) (Kd.V_far (p := ⟨gb231, 0, none⟩) (Kd.V_mono HO229.out (fun k_ hk => (⟨hk, hk.2⟩ : _ ∧ k_ ≠ gb231))) (fun _ hk => hk.2) (.int .i64 t221)) (fun _ hk => hk.2) (.int .i64 t222)) (fun _ hk => hk.2) (.string t223)) (fun _ hk => hk.2) (.slice Ao12 t224.length co12)) (fun _ hk => hk.2) (.slice Ao13 t227.length co13)) (fun _ h_ => h_.1))) hb); have n2_ := aM (blk_below (g := gb220) (o := .cells #[.int .i64 a0_0, .int .i64 a0_1, .string a0_2, .slice A0_3 l0_3.length c0_3, .slice A0_4 l0_4.length c0_4] 25 (0, 0)) (by (with_reducible repeat (first | refine blk_drewN ?_ _ | refine blk_drew ?_ | refine blk_alloc ?_ _)); refine blk_far ?_ NB220_231.out _; (with_reducible repeat (first | refine blk_drewN ?_ _ | refine blk_drew ?_ | refine blk_alloc ?_ _)); refine blk_far ?_ NB220_231.out _; (with_reducible repeat (first | refine blk_drewN ?_ _ | refine blk_drew ?_ | refine blk_alloc ?_ _)); refine blk_far ?_ NB220_231.out _; (with_reducible repeat (first | refine blk_drewN ?_ _ | refine blk_drew ?_ | refine blk_alloc ?_ _)); refine blk_far ?_ NB220_231.out _; (with_reducible repeat (first | refine blk_drewN ?_ _ | refine blk_drew ?_ | refine blk_alloc ?_ _)); refine blk_far ?_ NB220_231.out _; (with_reducible repeat (first | refine blk_drewN ?_ _ | refine blk_drew ?_ | refine blk_alloc ?_ _)); exact BK220.out) hb); have n3_ := aM (blk_below (g := gb231) (o := .cells #[.int .i64 t221, .int .i64 t222, .string t223, .slice Ao12 t224.length co12, .slice Ao13 t227.length co13] 25 (0, 0)) (by (with_reducible repeat (first | refine blk_drewN ?_ _ | refine blk_drew ?_ | refine blk_alloc ?_ _)); refine blk_put (cs := #[.int .i64 t221, .int .i64 t222, .string t223, .slice Ao12 t224.length co12, .slice none 0 0]) ?_ 4 _ rfl; (with_reducible repeat (first | refine blk_drewN ?_ _ | refine blk_drew ?_ | refine blk_alloc ?_ _)); refine blk_put (cs := #[.int .i64 t221, .int .i64 t222, .string t223, .slice none 0 0, .slice none 0 0]) ?_ 3 _ rfl; (with_reducible repeat (first | refine blk_drewN ?_ _ | refine blk_drew ?_ | refine blk_alloc ?_ _)); refine blk_put (cs := #[.int .i64 t221, .int .i64 t222, .string (⟨#[]⟩ : ByteArray), .slice none 0 0, .slice none 0 0]) ?_ 2 _ rfl; (with_reducible repeat (first | refine blk_drewN ?_ _ | refine blk_drew ?_ | refine blk_alloc ?_ _)); refine blk_put (cs := #[.int .i64 t221, .int .i64 0, .string (⟨#[]⟩ : ByteArray), .slice none 0 0, .slice none 0 0]) ?_ 1 _ rfl; (with_reducible repeat (first | refine blk_drewN ?_ _ | refine blk_drew ?_ | refine blk_alloc ?_ _)); refine blk_put (cs := #[.int .i64 0, .int .i64 0, .string (⟨#[]⟩ : ByteArray), .slice none 0 0, .slice none 0 0]) ?_ 0 _ rfl; (with_reducible repeat (first | refine blk_drewN ?_ _ | refine blk_drew ?_ | refine blk_alloc ?_ _)); exact BK231.out) hb); have n4_ := aM (below_step (by repeat (first | (with_reducible first | exact HB.out | apply below_alloc | apply pw_below_drewN | apply below_drew1 | refine below_set ?_ GE220.out | refine below_set ?_ GE231.out) | exact HB.out)) hb); clear HO226; clear HO229; clear BK220; clear BK231; clear HB; have HO226 := n0_; have HO229 := n1_; have BK220 := n2_; have BK231 := n3_; have HB := n4_; clear n0_ n1_ n2_ n3_ n4_; (try clear hb); (try clear hb2); (try clear hk); (try clear hi)))
   go_ret
   exact ⟨by first | rfl | (simp [errW_none, errW_some] <;> rfl) | (simp [*, errW_none, errW_some] <;> rfl), by repeat (first | (with_reducible first | exact HB.out | apply below_alloc | apply pw_below_drewN | apply below_drew1 | refine below_set ?_ GE220.out | refine below_set ?_ GE231.out) | exact HB.out)⟩
  ·replace c4 := Bool.eq_false_iff.mpr c4
   subst c4
   have H1 : (some false) = some r := by rw [if_neg (show ¬ (false = true) by decide)] at H; exact H
   clear H
   have H := H1
   clear H1
   obtain rfl := Option.some.inj H
   go_enter Try.func41, Try.ntmps41
   go_wp2_with (first | ((with_reducible refine gate_dst (N := 1) rfl ?_); refine box_event ?hg (N := 1) ?hd (cs := #[.int .i64 a0_0, .int .i64 a0_1, .string a0_2, .slice A0_3 l0_3.length c0_3, .slice A0_4 l0_4.length c0_4]) (t := 25) ?hr ?_; (case hd => rfl); (case hg => rfl); (case hr => first | (go_simp; done) | (go_simp; rfl)); intro gb220 hg w16 hbox hb; have n0_ := aM (below_step (by repeat (first | (with_reducible first | exact HB.out | apply below_alloc | apply pw_below_drewN | apply below_drew1) | exact HB.out)) hb); have n1_ := aM (hbox); have n2_ := aM ((by rw [hg]; exact (below_size (by repeat (first | (with_reducible first | exact HB.out | apply below_alloc | apply pw_below_drewN | apply below_drew1) | exact HB.out))) : w.heap.size ≤ gb220)); have n3_ := aM ((by rw [hg]; exact (below_size (by repeat (first | (with_reducible first | exact HB.out | apply below_alloc | apply pw_below_drewN | apply below_drew1) | exact HB.out))) : w.heap.size ≤ gb220)); clear HB; have HB := n0_; have BK220 := n1_; have GW220 := n2_; have GE220 := n3_; clear n0_ n1_ n2_ n3_; clear hb hbox hg; have hcz17_0 : w16.cell? ⟨gb220, 0, none⟩ = some (.int .i64 a0_0) := (blk_cell BK220.out 0).trans rfl; have hcz17_1 : w16.cell? ⟨gb220, 1, none⟩ = some (.int .i64 a0_1) := (blk_cell BK220.out 1).trans rfl; have hcz17_2 : w16.cell? ⟨gb220, 2, none⟩ = some (.string a0_2) := (blk_cell BK220.out 2).trans rfl; have hcz17_3 : w16.cell? ⟨gb220, 3, none⟩ = some (.slice A0_3 l0_3.length c0_3) := (blk_cell BK220.out 3).trans rfl; have hcz17_4 : w16.cell? ⟨gb220, 4, none⟩ = some (.slice A0_4 l0_4.length c0_4) := (blk_cell BK220.out 4).trans rfl; have hfz17_0 := blk_frozen BK220.out 0; have hfz17_1 := blk_frozen BK220.out 1; have hfz17_2 := blk_frozen BK220.out 2; have hfz17_3 := blk_frozen BK220.out 3; have hfz17_4 := blk_frozen BK220.out 4) | ((with_reducible refine gate_callee (f := 48) rfl ?_); refine goesL_ (some 7) rfl rfl Try.func48 (by kernel_rfl) rfl #[.agg #[.int .i64 a0_0, .int .i64 a0_1, .string a0_2, .slice A0_3 l0_3.length c0_3, .slice A0_4 l0_4.length c0_4], .string (⟨#[105, 112, 118, 52, 95, 97, 100, 100, 114, 101, 115, 115]⟩ : ByteArray)] rfl (by (try simp only [List.map_toArray, List.map_cons, List.map_nil]); first | done | rfl | (simp only [List.length_drop, List.length_take]; rfl)) ?_; (with_reducible refine (spec_Get.calls k a0_0 a0_1 a0_2 _ _ l0_3 (fun k_ => k_ < w.heap.size) _ _ l0_4 (⟨#[105, 112, 118, 52, 95, 97, 100, 100, 114, 101, 115, 115]⟩ : ByteArray) t221 t222 t223 t224 t227 false _ ?side1 ?side2 ?side3 A2.out).mono ?_); (case side1 => repeat (first | exact (Kd.C_below HR0_3.out HB.out) | (with_reducible refine Kd.C_alloc ?_ _) | (with_reducible refine Kd.C_drewN ?_ _) | (with_reducible refine Kd.C_drew ?_))); (case side2 => exact HC0_3.out); (case side3 => exact Kd.V_mk HC0_4.out (Kd.F_below (Kd.C_F k25_heap HR0_4.out) (by repeat (first | (with_reducible first | exact HB.out | apply below_alloc | apply pw_below_drewN | apply below_drew1 | refine below_set ?_ GE220.out) | exact HB.out)))); rintro e w18 ⟨v225, v228, rfl, ho0, ho1, hb⟩; refine ⟨_, rfl, ?_⟩; have n0_ := aM (Kd.V_lower (Kd.V_mono (ok' := fun k_ => k_ ≠ gb220) ho0 (fun k_ hk_ => Or.elim hk_ (fun hs_ => fun e_ => Nat.not_le.2 hs_ (by rw [e_]; exact GW220.out)) (fun hn_ => (Kd.freshB (g := gb220) (o := .cells #[.int .i64 a0_0, .int .i64 a0_1, .string a0_2, .slice A0_3 l0_3.length c0_3, .slice A0_4 l0_4.length c0_4] 25 (0, 0)) (by (with_reducible repeat (first | refine blk_drewN ?_ _ | refine blk_drew ?_ | refine blk_alloc ?_ _)); exact BK220.out) k_ hn_)))) (below_size (by repeat (first | (with_reducible first | exact HB.out | apply below_alloc | apply pw_below_drewN | apply below_drew1 | refine below_set ?_ GE220.out) | exact HB.out)))); have n1_ := aM (Kd.V_lower (Kd.V_mono (ok' := fun k_ => k_ ≠ gb220) ho1 (fun k_ hk_ => Or.elim hk_ (fun hs_ => fun e_ => Nat.not_le.2 hs_ (by rw [e_]; exact GW220.out)) (fun hn_ => (Kd.freshB (g := gb220) (o := .cells #[.int .i64 a0_0, .int .i64 a0_1, .string a0_2, .slice A0_3 l0_3.length c0_3, .slice A0_4 l0_4.length c0_4] 25 (0, 0)) (by (with_reducible repeat (first | refine blk_drewN ?_ _ | refine blk_drew ?_ | refine blk_alloc ?_ _)); exact BK220.out) k_ hn_)))) (below_size (by repeat (first | (with_reducible first | exact HB.out | apply below_alloc | apply pw_below_drewN | apply below_drew1 | refine below_set ?_ GE220.out) | exact HB.out)))); have n2_ := aM (blk_below (g := gb220) (o := .cells #[.int .i64 a0_0, .int .i64 a0_1, .string a0_2, .slice A0_3 l0_3.length c0_3, .slice A0_4 l0_4.length c0_4] 25 (0, 0)) (by (with_reducible repeat (first | refine blk_drewN ?_ _ | refine blk_drew ?_ | refine blk_alloc ?_ _)); exact BK220.out) hb); have n3_ := aM (below_step (by repeat (first | (with_reducible first | exact HB.out | apply below_alloc | apply pw_below_drewN | apply below_drew1 | refine below_set ?_ GE220.out) | exact HB.out)) hb); clear BK220; clear HB; have HO226 := n0_; have HO229 := n1_; have BK220 := n2_; have HB := n3_; clear n0_ n1_ n2_ n3_; (try clear hb); (try clear hb2); (try clear hk); (try clear hi); (try clear ho0); (try clear ho1)) | ((with_reducible refine gate_dst (N := 3) rfl ?_); refine box_event ?hg (N := 3) ?hd (cs := #[.int .i64 0, .int .i64 0, .string (⟨#[]⟩ : ByteArray), .slice none 0 0, .slice none 0 0]) (t := 25) ?hr ?_; (case hd => rfl); (case hg => rfl); (case hr => first | (go_simp; done) | (go_simp; rfl)); intro gb231 hg w19 hbox hb; have n0_ := aM (Kd.V_below (Kd.V_elderB (by (with_reducible repeat (first | apply Kd.V_alloc | apply Kd.V_drewN | apply Kd.V_drew)); exact HO226.out) gb231 (Nat.le_of_eq hg.symm)) hb); have n1_ := aM (Kd.V_below (Kd.V_elderB (by (with_reducible repeat (first | apply Kd.V_alloc | apply Kd.V_drewN | apply Kd.V_drew)); exact HO229.out) gb231 (Nat.le_of_eq hg.symm)) hb); have n2_ := aM (blk_below (g := gb220) (o := .cells #[.int .i64 a0_0, .int .i64 a0_1, .string a0_2, .slice A0_3 l0_3.length c0_3, .slice A0_4 l0_4.length c0_4] 25 (0, 0)) (by (with_reducible repeat (first | refine blk_drewN ?_ _ | refine blk_drew ?_ | refine blk_alloc ?_ _)); exact BK220.out) hb); have n3_ := aM (below_step (by repeat (first | (with_reducible first | exact HB.out | apply below_alloc | apply pw_below_drewN | apply below_drew1 | refine below_set ?_ GE220.out) | exact HB.out)) hb); have n4_ := aM (hbox); have n5_ := aM ((by rw [hg]; exact (below_size (by repeat (first | (with_reducible first | exact HB.out | apply below_alloc | apply pw_below_drewN | apply below_drew1 | refine below_set ?_ GE220.out) | exact HB.out))) : w.heap.size ≤ gb231)); have n6_ := aM ((by rw [hg]; exact (below_size (by repeat (first | (with_reducible first | exact HB.out | apply below_alloc | apply pw_below_drewN | apply below_drew1 | refine below_set ?_ GE220.out) | exact HB.out))) : w.heap.size ≤ gb231)); have n7_ := aM ((by rw [hg]; exact Nat.ne_of_lt (blk_lt (g := gb220) (o := .cells #[.int .i64 a0_0, .int .i64 a0_1, .string a0_2, .slice A0_3 l0_3.length c0_3, .slice A0_4 l0_4.length c0_4] 25 (0, 0)) (by (with_reducible repeat (first | refine blk_drewN ?_ _ | refine blk_drew ?_ | refine blk_alloc ?_ _)); exact BK220.out)) : gb220 ≠ gb231)); have n8_ := aM ((by rw [hg]; exact Nat.ne_of_gt (blk_lt (g := gb220) (o := .cells #[.int .i64 a0_0, .int .i64 a0_1, .string a0_2, .slice A0_3 l0_3.length c0_3, .slice A0_4 l0_4.length c0_4] 25 (0, 0)) (by (with_reducible repeat (first | refine blk_drewN ?_ _ | refine blk_drew ?_ | refine blk_alloc ?_ _)); exact BK220.out)) : gb231 ≠ gb220)); clear HO226; clear HO229; clear BK220; clear HB; have HO226 := n0_; have HO229 := n1_; have BK220 := n2_; have HB := n3_; have BK231 := n4_; have GW231 := n5_; have GE231 := n6_; have NB220_231 := n7_; have NB231_220 := n8_; clear n0_ n1_ n2_ n3_ n4_ n5_ n6_ n7_ n8_; clear hb hbox hg; have hnb20 := NB231_220.out; have hnc20 := NB220_231.out; have hcz21_0 : w19.cell? ⟨gb231, 0, none⟩ = some (.int .i64 0) := (blk_cell BK231.out 0).trans rfl; have hcz21_1 : w19.cell? ⟨gb231, 1, none⟩ = some (.int .i64 0) := (blk_cell BK231.out 1).trans rfl; have hcz21_2 : w19.cell? ⟨gb231, 2, none⟩ = some (.string (⟨#[]⟩ : ByteArray)) := (blk_cell BK231.out 2).trans rfl; have hcz21_3 : w19.cell? ⟨gb231, 3, none⟩ = some (.slice none 0 0) := (blk_cell BK231.out 3).trans rfl; have hcz21_4 : w19.cell? ⟨gb231, 4, none⟩ = some (.slice none 0 0) := (blk_cell BK231.out 4).trans rfl; have hfz21_0 := blk_frozen BK231.out 0; have hfz21_1 := blk_frozen BK231.out 1; have hfz21_2 := blk_frozen BK231.out 2; have hfz21_3 := blk_frozen BK231.out 3; have hfz21_4 := blk_frozen BK231.out 4; obtain ⟨Ao22, co22, eo22⟩ := Kd.V_slice HO226.out; subst eo22; obtain ⟨Ao23, co23, eo23⟩ := Kd.V_slice HO229.out; subst eo23; have hcz24_0 : w19.cell? ⟨gb220, 0, none⟩ = some (.int .i64 a0_0) := (blk_cell BK220.out 0).trans rfl; have hcz24_1 : w19.cell? ⟨gb220, 1, none⟩ = some (.int .i64 a0_1) := (blk_cell BK220.out 1).trans rfl; have hcz24_2 : w19.cell? ⟨gb220, 2, none⟩ = some (.string a0_2) := (blk_cell BK220.out 2).trans rfl; have hcz24_3 : w19.cell? ⟨gb220, 3, none⟩ = some (.slice A0_3 l0_3.length c0_3) := (blk_cell BK220.out 3).trans rfl; have hcz24_4 : w19.cell? ⟨gb220, 4, none⟩ = some (.slice A0_4 l0_4.length c0_4) := (blk_cell BK220.out 4).trans rfl; have hfz24_0 := blk_frozen BK220.out 0; have hfz24_1 := blk_frozen BK220.out 1; have hfz24_2 := blk_frozen BK220.out 2; have hfz24_3 := blk_frozen BK220.out 3; have hfz24_4 := blk_frozen BK220.out 4))
   go_ret
   exact ⟨by first | rfl | (simp [errW_none, errW_some] <;> rfl) | (simp [*, errW_none, errW_some] <;> rfl), by repeat (first | (with_reducible first | exact HB.out | apply below_alloc | apply pw_below_drewN | apply below_drew1 | refine below_set ?_ GE220.out | refine below_set ?_ GE231.out) | exact HB.out)⟩
 ·rw [if_neg c3] at H
  have c3b0 : ((l0_3.length : Int) == 1) = false := beq_eq_false_iff_ne.mpr c3
  have c3b1 : ((l0_3.length : Int) != 1) = true := bne_iff_ne.mpr c3
  obtain rfl := Option.some.inj H
  go_enter Try.func41, Try.ntmps41
  go_wp2_with (first | ((with_reducible refine gate_dst (N := 1) rfl ?_); refine box_event ?hg (N := 1) ?hd (cs := #[.int .i64 a0_0, .int .i64 a0_1, .string a0_2, .slice A0_3 l0_3.length c0_3, .slice A0_4 l0_4.length c0_4]) (t := 25) ?hr ?_; (case hd => rfl); (case hg => rfl); (case hr => first | (go_simp; done) | (go_simp; rfl)); intro gb220 hg w25 hbox hb; have n0_ := aM (below_step (by repeat (first | (with_reducible first | exact HB.out | apply below_alloc | apply pw_below_drewN | apply below_drew1) | exact HB.out)) hb); have n1_ := aM (hbox); have n2_ := aM ((by rw [hg]; exact (below_size (by repeat (first | (with_reducible first | exact HB.out | apply below_alloc | apply pw_below_drewN | apply below_drew1) | exact HB.out))) : w.heap.size ≤ gb220)); have n3_ := aM ((by rw [hg]; exact (below_size (by repeat (first | (with_reducible first | exact HB.out | apply below_alloc | apply pw_below_drewN | apply below_drew1) | exact HB.out))) : w.heap.size ≤ gb220)); clear HB; have HB := n0_; have BK220 := n1_; have GW220 := n2_; have GE220 := n3_; clear n0_ n1_ n2_ n3_; clear hb hbox hg; have hcz26_0 : w25.cell? ⟨gb220, 0, none⟩ = some (.int .i64 a0_0) := (blk_cell BK220.out 0).trans rfl; have hcz26_1 : w25.cell? ⟨gb220, 1, none⟩ = some (.int .i64 a0_1) := (blk_cell BK220.out 1).trans rfl; have hcz26_2 : w25.cell? ⟨gb220, 2, none⟩ = some (.string a0_2) := (blk_cell BK220.out 2).trans rfl; have hcz26_3 : w25.cell? ⟨gb220, 3, none⟩ = some (.slice A0_3 l0_3.length c0_3) := (blk_cell BK220.out 3).trans rfl; have hcz26_4 : w25.cell? ⟨gb220, 4, none⟩ = some (.slice A0_4 l0_4.length c0_4) := (blk_cell BK220.out 4).trans rfl; have hfz26_0 := blk_frozen BK220.out 0; have hfz26_1 := blk_frozen BK220.out 1; have hfz26_2 := blk_frozen BK220.out 2; have hfz26_3 := blk_frozen BK220.out 3; have hfz26_4 := blk_frozen BK220.out 4) | ((with_reducible refine gate_callee (f := 48) rfl ?_); refine goesL_ (some 7) rfl rfl Try.func48 (by kernel_rfl) rfl #[.agg #[.int .i64 a0_0, .int .i64 a0_1, .string a0_2, .slice A0_3 l0_3.length c0_3, .slice A0_4 l0_4.length c0_4], .string (⟨#[105, 112, 118, 52, 95, 97, 100, 100, 114, 101, 115, 115]⟩ : ByteArray)] rfl (by (try simp only [List.map_toArray, List.map_cons, List.map_nil]); first | done | rfl | (simp only [List.length_drop, List.length_take]; rfl)) ?_; (with_reducible refine (spec_Get.calls k a0_0 a0_1 a0_2 _ _ l0_3 (fun k_ => k_ < w.heap.size) _ _ l0_4 (⟨#[105, 112, 118, 52, 95, 97, 100, 100, 114, 101, 115, 115]⟩ : ByteArray) t221 t222 t223 t224 t227 t230 _ ?side1 ?side2 ?side3 A2.out).mono ?_); (case side1 => repeat (first | exact (Kd.C_below HR0_3.out HB.out) | (with_reducible refine Kd.C_alloc ?_ _) | (with_reducible refine Kd.C_drewN ?_ _) | (with_reducible refine Kd.C_drew ?_))); (case side2 => exact HC0_3.out); (case side3 => exact Kd.V_mk HC0_4.out (Kd.F_below (Kd.C_F k25_heap HR0_4.out) (by repeat (first | (with_reducible first | exact HB.out | apply below_alloc | apply pw_below_drewN | apply below_drew1 | refine below_set ?_ GE220.out) | exact HB.out)))); rintro e w27 ⟨v225, v228, rfl, ho0, ho1, hb⟩; refine ⟨_, rfl, ?_⟩; have n0_ := aM (Kd.V_lower (Kd.V_mono (ok' := fun k_ => k_ ≠ gb220) ho0 (fun k_ hk_ => Or.elim hk_ (fun hs_ => fun e_ => Nat.not_le.2 hs_ (by rw [e_]; exact GW220.out)) (fun hn_ => (Kd.freshB (g := gb220) (o := .cells #[.int .i64 a0_0, .int .i64 a0_1, .string a0_2, .slice A0_3 l0_3.length c0_3, .slice A0_4 l0_4.length c0_4] 25 (0, 0)) (by (with_reducible repeat (first | refine blk_drewN ?_ _ | refine blk_drew ?_ | refine blk_alloc ?_ _)); exact BK220.out) k_ hn_)))) (below_size (by repeat (first | (with_reducible first | exact HB.out | apply below_alloc | apply pw_below_drewN | apply below_drew1 | refine below_set ?_ GE220.out) | exact HB.out)))); have n1_ := aM (Kd.V_lower (Kd.V_mono (ok' := fun k_ => k_ ≠ gb220) ho1 (fun k_ hk_ => Or.elim hk_ (fun hs_ => fun e_ => Nat.not_le.2 hs_ (by rw [e_]; exact GW220.out)) (fun hn_ => (Kd.freshB (g := gb220) (o := .cells #[.int .i64 a0_0, .int .i64 a0_1, .string a0_2, .slice A0_3 l0_3.length c0_3, .slice A0_4 l0_4.length c0_4] 25 (0, 0)) (by (with_reducible repeat (first | refine blk_drewN ?_ _ | refine blk_drew ?_ | refine blk_alloc ?_ _)); exact BK220.out) k_ hn_)))) (below_size (by repeat (first | (with_reducible first | exact HB.out | apply below_alloc | apply pw_below_drewN | apply below_drew1 | refine below_set ?_ GE220.out) | exact HB.out)))); have n2_ := aM (blk_below (g := gb220) (o := .cells #[.int .i64 a0_0, .int .i64 a0_1, .string a0_2, .slice A0_3 l0_3.length c0_3, .slice A0_4 l0_4.length c0_4] 25 (0, 0)) (by (with_reducible repeat (first | refine blk_drewN ?_ _ | refine blk_drew ?_ | refine blk_alloc ?_ _)); exact BK220.out) hb); have n3_ := aM (below_step (by repeat (first | (with_reducible first | exact HB.out | apply below_alloc | apply pw_below_drewN | apply below_drew1 | refine below_set ?_ GE220.out) | exact HB.out)) hb); clear BK220; clear HB; have HO226 := n0_; have HO229 := n1_; have BK220 := n2_; have HB := n3_; clear n0_ n1_ n2_ n3_; (try clear hb); (try clear hb2); (try clear hk); (try clear hi); (try clear ho0); (try clear ho1)) | ((with_reducible refine gate_dst (N := 3) rfl ?_); refine box_event ?hg (N := 3) ?hd (cs := #[.int .i64 0, .int .i64 0, .string (⟨#[]⟩ : ByteArray), .slice none 0 0, .slice none 0 0]) (t := 25) ?hr ?_; (case hd => rfl); (case hg => rfl); (case hr => first | (go_simp; done) | (go_simp; rfl)); intro gb231 hg w28 hbox hb; have n0_ := aM (Kd.V_below (Kd.V_elderB (by (with_reducible repeat (first | apply Kd.V_alloc | apply Kd.V_drewN | apply Kd.V_drew)); exact HO226.out) gb231 (Nat.le_of_eq hg.symm)) hb); have n1_ := aM (Kd.V_below (Kd.V_elderB (by (with_reducible repeat (first | apply Kd.V_alloc | apply Kd.V_drewN | apply Kd.V_drew)); exact HO229.out) gb231 (Nat.le_of_eq hg.symm)) hb); have n2_ := aM (blk_below (g := gb220) (o := .cells #[.int .i64 a0_0, .int .i64 a0_1, .string a0_2, .slice A0_3 l0_3.length c0_3, .slice A0_4 l0_4.length c0_4] 25 (0, 0)) (by (with_reducible repeat (first | refine blk_drewN ?_ _ | refine blk_drew ?_ | refine blk_alloc ?_ _)); exact BK220.out) hb); have n3_ := aM (below_step (by repeat (first | (with_reducible first | exact HB.out | apply below_alloc | apply pw_below_drewN | apply below_drew1 | refine below_set ?_ GE220.out) | exact HB.out)) hb); have n4_ := aM (hbox); have n5_ := aM ((by rw [hg]; exact (below_size (by repeat (first | (with_reducible first | exact HB.out | apply below_alloc | apply pw_below_drewN | apply below_drew1 | refine below_set ?_ GE220.out) | exact HB.out))) : w.heap.size ≤ gb231)); have n6_ := aM ((by rw [hg]; exact (below_size (by repeat (first | (with_reducible first | exact HB.out | apply below_alloc | apply pw_below_drewN | apply below_drew1 | refine below_set ?_ GE220.out) | exact HB.out))) : w.heap.size ≤ gb231)); have n7_ := aM ((by rw [hg]; exact Nat.ne_of_lt (blk_lt (g := gb220) (o := .cells #[.int .i64 a0_0, .int .i64 a0_1, .string a0_2, .slice A0_3 l0_3.length c0_3, .slice A0_4 l0_4.length c0_4] 25 (0, 0)) (by (with_reducible repeat (first | refine blk_drewN ?_ _ | refine blk_drew ?_ | refine blk_alloc ?_ _)); exact BK220.out)) : gb220 ≠ gb231)); have n8_ := aM ((by rw [hg]; exact Nat.ne_of_gt (blk_lt (g := gb220) (o := .cells #[.int .i64 a0_0, .int .i64 a0_1, .string a0_2, .slice A0_3 l0_3.length c0_3, .slice A0_4 l0_4.length c0_4] 25 (0, 0)) (by (with_reducible repeat (first | refine blk_drewN ?_ _ | refine blk_drew ?_ | refine blk_alloc ?_ _)); exact BK220.out)) : gb231 ≠ gb220)); clear HO226; clear HO229; clear BK220; clear HB; have HO226 := n0_; have HO229 := n1_; have BK220 := n2_; have HB := n3_; have BK231 := n4_; have GW231 := n5_; have GE231 := n6_; have NB220_231 := n7_; have NB231_220 := n8_; clear n0_ n1_ n2_ n3_ n4_ n5_ n6_ n7_ n8_; clear hb hbox hg; have hnb29 := NB231_220.out; have hnc29 := NB220_231.out; have hcz30_0 : w28.cell? ⟨gb231, 0, none⟩ = some (.int .i64 0) := (blk_cell BK231.out 0).trans rfl; have hcz30_1 : w28.cell? ⟨gb231, 1, none⟩ = some (.int .i64 0) := (blk_cell BK231.out 1).trans rfl; have hcz30_2 : w28.cell? ⟨gb231, 2, none⟩ = some (.string (⟨#[]⟩ : ByteArray)) := (blk_cell BK231.out 2).trans rfl; have hcz30_3 : w28.cell? ⟨gb231, 3, none⟩ = some (.slice none 0 0) := (blk_cell BK231.out 3).trans rfl; have hcz30_4 : w28.cell? ⟨gb231, 4, none⟩ = some (.slice none 0 0) := (blk_cell BK231.out 4).trans rfl; have hfz30_0 := blk_frozen BK231.out 0; have hfz30_1 := blk_frozen BK231.out 1; have hfz30_2 := blk_frozen BK231.out 2; have hfz30_3 := blk_frozen BK231.out 3; have hfz30_4 := blk_frozen BK231.out 4; obtain ⟨Ao31, co31, eo31⟩ := Kd.V_slice HO226.out; subst eo31; obtain ⟨Ao32, co32, eo32⟩ := Kd.V_slice HO229.out; subst eo32; have hcz33_0 : w28.cell? ⟨gb220, 0, none⟩ = some (.int .i64 a0_0) := (blk_cell BK220.out 0).trans rfl; have hcz33_1 : w28.cell? ⟨gb220, 1, none⟩ = some (.int .i64 a0_1) := (blk_cell BK220.out 1).trans rfl; have hcz33_2 : w28.cell? ⟨gb220, 2, none⟩ = some (.string a0_2) := (blk_cell BK220.out 2).trans rfl; have hcz33_3 : w28.cell? ⟨gb220, 3, none⟩ = some (.slice A0_3 l0_3.length c0_3) := (blk_cell BK220.out 3).trans rfl; have hcz33_4 : w28.cell? ⟨gb220, 4, none⟩ = some (.slice A0_4 l0_4.length c0_4) := (blk_cell BK220.out 4).trans rfl; have hfz33_0 := blk_frozen BK220.out 0; have hfz33_1 := blk_frozen BK220.out 1; have hfz33_2 := blk_frozen BK220.out 2; have hfz33_3 := blk_frozen BK220.out 3; have hfz33_4 := blk_frozen BK220.out 4))
  go_ret
  exact ⟨by first | rfl | (simp [errW_none, errW_some] <;> rfl) | (simp [*, errW_none, errW_some] <;> rfl), by repeat (first | (with_reducible first | exact HB.out | apply below_alloc | apply pw_below_drewN | apply below_drew1 | refine below_set ?_ GE220.out | refine below_set ?_ GE231.out) | exact HB.out)⟩
end Go.Proofs.Ytaembebbaejfiaa.PS
namespace Go.Proofs.Ytaembebbaejfiaa.PS
open Go.RowKit Go.Proofs.YtaembebbaejfiaaW.PrintWords Go.Proofs.YtaembebbaejfiaaW.PrintLast Go.Proofs.YtaembebbaejfiaaW.PrintMore
attribute [local go_sem] max2_int min2_int max_two min_two max_three min_three max_four min_four 
set_option linter.unusedVariables false
set_option linter.unusedSimpArgs false
def spec_sayNets.l0 : Nat → Int → Int → Int → ByteArray → List ByteArray → List (S25) → Option (Bool)
 | 0, _, _, _, _, _, _ => none
 | k + 1, x3, x234000, x234001, x234002, x234003, x234004 => if x3 < (x234003.length : Int) then (if 0 ≤ x3 then (if x3 < (x234004.length : Int) then ((spec_sayName.f k (rdOf ByteArray.empty x234003 x3)).bind fun t238 => (if t238 = true then (if ((rd_T25 x234004 x3).f0) = 0 then (spec_sayNets.l0 k (wrap64 (x3 + 1)) x234000 x234001 x234002 x234003 x234004) else ((spec_sayNet.f k ((rd_T25 x234004 x3).f0) ((rd_T25 x234004 x3).f1) ((rd_T25 x234004 x3).f2) ((rd_T25 x234004 x3).f3) ((rd_T25 x234004 x3).f4)).bind fun t239 => (if t239 = true then (spec_sayNets.l0 k (wrap64 (x3 + 1)) x234000 x234001 x234002 x234003 x234004) else (some false)))) else (some false))) else (none)) else (none)) else (if x234000 = 5 then (some (decide ((x234003.length : Int) > 0))) else (some false))
def spec_sayNets.f (k : Nat) (a0_0 : Int) (a0_1 : Int) (a0_2 : ByteArray) (l0_3 : List ByteArray) (l0_4 : List (S25)) : Option (Bool) := if a0_0 = 4 then ((spec_sayNames.f k a0_0 a0_1 a0_2 l0_3 l0_4).bind fun t234 => (some t234)) else (spec_sayNets.l0 k 0 a0_0 a0_1 a0_2 l0_3 l0_4)
set_option maxHeartbeats 8000000 in
set_option maxRecDepth 100000 in
theorem spec_sayNets.calls (k : Nat) (a0_0 : Int) (a0_1 : Int) (a0_2 : ByteArray) (A0_3 : Option Addr) (c0_3 : Nat) (l0_3 : List ByteArray) (A0_4 : Option Addr) (c0_4 : Nat) (l0_4 : List (S25)) (r : Bool) (w : World) (hr0_3 : Kd.C Kd.string w A0_3 l0_3.length l0_3) (hc0_3 : l0_3.length ≤ c0_3) (hr0_4 : Kd.C k25 w A0_4 l0_4.length l0_4) (hc0_4 : l0_4.length ≤ c0_4) (h : spec_sayNets.f k a0_0 a0_1 a0_2 l0_3 l0_4 = some r) :
  Calls Try.prog 26 #[.agg #[.int .i64 a0_0, .int .i64 a0_1, .string a0_2, .slice A0_3 l0_3.length c0_3, .slice A0_4 l0_4.length c0_4]] w fun e w' => e = .returned (.bool r) ∧ Below w.heap.size w w' := by
 have hu25 := Try.underlying25
 have HR0_3 := aM hr0_3
 have HC0_3 := aM hc0_3
 clear hr0_3 hc0_3
 have HR0_4 := aM hr0_4
 have HC0_4 := aM hc0_4
 clear hr0_4 hc0_4
 have HB := aM (Below.refl w.heap.size w)
 have H : (if a0_0 = 4 then ((spec_sayNames.f k a0_0 a0_1 a0_2 l0_3 l0_4).bind fun t234 => (some t234)) else (spec_sayNets.l0 k 0 a0_0 a0_1 a0_2 l0_3 l0_4)) = some r := h
 clear h
 by_cases c2 : a0_0 = 4
 ·rw [if_pos c2] at H
  have c2b0 : (a0_0 == 4) = true := beq_iff_eq.mpr c2
  have c2b1 : (a0_0 != 4) = false := bne_eq_false_iff_eq.mpr c2
  clear c2
  replace H := Option.bind_eq_some_iff.mp H
  obtain ⟨t234, A30, H⟩ := H
  replace H : (some t234) = some r := H
  have A3 := aM A30
  clear A30
  obtain rfl := Option.some.inj H
  go_enter Try.func26, Try.ntmps26
  go_wp2_with (first | ((with_reducible refine gate_dst (N := 1) rfl ?_); (try (refine gate_guard (by rfl) ?_; dsimp only)); refine box_event ?hg (N := 1) ?hd (cs := #[.int .i64 a0_0, .int .i64 a0_1, .string a0_2, .slice A0_3 l0_3.length c0_3, .slice A0_4 l0_4.length c0_4]) (t := 25) ?hr ?_; (case hd => rfl); (case hg => rfl); (case hr => first | (go_simp; done) | (go_simp; rfl)); intro gb233 hg w4 hbox hb; have n0_ := aM (below_step (by repeat (first | (with_reducible first | exact HB.out | apply below_alloc | apply pw_below_drewN | apply below_drew1) | exact HB.out)) hb); have n1_ := aM (hbox); have n2_ := aM ((by rw [hg]; exact (below_size (by repeat (first | (with_reducible first | exact HB.out | apply below_alloc | apply pw_below_drewN | apply below_drew1) | exact HB.out))) : w.heap.size ≤ gb233)); have n3_ := aM ((by rw [hg]; exact (below_size (by repeat (first | (with_reducible first | exact HB.out | apply below_alloc | apply pw_below_drewN | apply below_drew1) | exact HB.out))) : w.heap.size ≤ gb233)); clear HB; have HB := n0_; have BK233 := n1_; have GW233 := n2_; have GE233 := n3_; clear n0_ n1_ n2_ n3_; clear hb hbox hg; have hcz5_0 : w4.cell? ⟨gb233, 0, none⟩ = some (.int .i64 a0_0) := (blk_cell BK233.out 0).trans rfl; have hcz5_1 : w4.cell? ⟨gb233, 1, none⟩ = some (.int .i64 a0_1) := (blk_cell BK233.out 1).trans rfl; have hcz5_2 : w4.cell? ⟨gb233, 2, none⟩ = some (.string a0_2) := (blk_cell BK233.out 2).trans rfl; have hcz5_3 : w4.cell? ⟨gb233, 3, none⟩ = some (.slice A0_3 l0_3.length c0_3) := (blk_cell BK233.out 3).trans rfl; have hcz5_4 : w4.cell? ⟨gb233, 4, none⟩ = some (.slice A0_4 l0_4.length c0_4) := (blk_cell BK233.out 4).trans rfl; have hfz5_0 := blk_frozen BK233.out 0; have hfz5_1 := blk_frozen BK233.out 1; have hfz5_2 := blk_frozen BK233.out 2; have hfz5_3 := blk_frozen BK233.out 3; have hfz5_4 := blk_frozen BK233.out 4) | ((with_reducible refine gate_callee (f := 39) rfl ?_); refine goesL_ (some 9) rfl rfl Try.func39 (by kernel_rfl) rfl #[.agg #[.int .i64 a0_0, .int .i64 a0_1, .string a0_2, .slice A0_3 l0_3.length c0_3, .slice A0_4 l0_4.length c0_4]] rfl (by (try simp only [List.map_toArray, List.map_cons, List.map_nil]); first | done | rfl | (simp only [List.length_drop, List.length_take]; rfl)) ?_; (with_reducible refine (spec_sayNames.calls k a0_0 a0_1 a0_2 _ _ l0_3 _ _ l0_4 t234 _ ?side1 ?side2 ?side3 ?side4 A3.out).mono ?_); (case side1 => repeat (first | exact (Kd.C_below HR0_3.out HB.out) | (with_reducible refine Kd.C_alloc ?_ _) | (with_reducible refine Kd.C_drewN ?_ _) | (with_reducible refine Kd.C_drew ?_))); (case side2 => exact HC0_3.out); (case side3 => repeat (first | exact (Kd.C_below HR0_4.out HB.out) | (with_reducible refine Kd.C_alloc ?_ _) | (with_reducible refine Kd.C_drewN ?_ _) | (with_reducible refine Kd.C_drew ?_))); (case side4 => exact HC0_4.out); rintro e w6 ⟨rfl, hb⟩; refine ⟨_, rfl, ?_⟩; have n0_ := aM (blk_below (g := gb233) (o := .cells #[.int .i64 a0_0, .int .i64 a0_1, .string a0_2, .slice A0_3 l0_3.length c0_3, .slice A0_4 l0_4.length c0_4] 25 (0, 0)) (by (with_reducible repeat (first | refine blk_drewN ?_ _ | refine blk_drew ?_ | refine blk_alloc ?_ _)); exact BK233.out) hb); have n1_ := aM (below_step (by repeat (first | (with_reducible first | exact HB.out | apply below_alloc | apply pw_below_drewN | apply below_drew1 | refine below_set ?_ GE233.out) | exact HB.out)) hb); clear BK233; clear HB; have BK233 := n0_; have HB := n1_; clear n0_ n1_; (try clear hb); (try clear hb2); (try clear hk); (try clear hi)))
  go_ret
  exact ⟨by first | rfl | (simp [errW_none, errW_some] <;> rfl) | (simp [*, errW_none, errW_some] <;> rfl), by repeat (first | (with_reducible first | exact HB.out | apply below_alloc | apply pw_below_drewN | apply below_drew1 | refine below_set ?_ GE233.out) | exact HB.out)⟩
 ·rw [if_neg c2] at H
  have c2b0 : (a0_0 == 4) = false := beq_eq_false_iff_ne.mpr c2
  have c2b1 : (a0_0 != 4) = true := bne_iff_ne.mpr c2
  have H' := aM H
  clear H
  go_enter Try.func26, Try.ntmps26
  go_wp2_with (first | ((with_reducible refine gate_dst (N := 1) rfl ?_); (try (refine gate_guard (by rfl) ?_; dsimp only)); refine box_event ?hg (N := 1) ?hd (cs := #[.int .i64 a0_0, .int .i64 a0_1, .string a0_2, .slice A0_3 l0_3.length c0_3, .slice A0_4 l0_4.length c0_4]) (t := 25) ?hr ?_; (case hd => rfl); (case hg => rfl); (case hr => first | (go_simp; done) | (go_simp; rfl)); intro gb233 hg w7 hbox hb; have n0_ := aM (below_step (by repeat (first | (with_reducible first | exact HB.out | apply below_alloc | apply pw_below_drewN | apply below_drew1) | exact HB.out)) hb); have n1_ := aM (hbox); have n2_ := aM ((by rw [hg]; exact (below_size (by repeat (first | (with_reducible first | exact HB.out | apply below_alloc | apply pw_below_drewN | apply below_drew1) | exact HB.out))) : w.heap.size ≤ gb233)); have n3_ := aM ((by rw [hg]; exact (below_size (by repeat (first | (with_reducible first | exact HB.out | apply below_alloc | apply pw_below_drewN | apply below_drew1) | exact HB.out))) : w.heap.size ≤ gb233)); clear HB; have HB := n0_; have BK233 := n1_; have GW233 := n2_; have GE233 := n3_; clear n0_ n1_ n2_ n3_; clear hb hbox hg; have hcz8_0 : w7.cell? ⟨gb233, 0, none⟩ = some (.int .i64 a0_0) := (blk_cell BK233.out 0).trans rfl; have hcz8_1 : w7.cell? ⟨gb233, 1, none⟩ = some (.int .i64 a0_1) := (blk_cell BK233.out 1).trans rfl; have hcz8_2 : w7.cell? ⟨gb233, 2, none⟩ = some (.string a0_2) := (blk_cell BK233.out 2).trans rfl; have hcz8_3 : w7.cell? ⟨gb233, 3, none⟩ = some (.slice A0_3 l0_3.length c0_3) := (blk_cell BK233.out 3).trans rfl; have hcz8_4 : w7.cell? ⟨gb233, 4, none⟩ = some (.slice A0_4 l0_4.length c0_4) := (blk_cell BK233.out 4).trans rfl; have hfz8_0 := blk_frozen BK233.out 0; have hfz8_1 := blk_frozen BK233.out 1; have hfz8_2 := blk_frozen BK233.out 2; have hfz8_3 := blk_frozen BK233.out 3; have hfz8_4 := blk_frozen BK233.out 4))
  go_loopg [3] k (fun kq v3 w' => ∃ (x3_1 : Int), v3 = .int .i64 x3_1 ∧ Aside0 (spec_sayNets.l0 kq x3_1 a0_0 a0_1 a0_2 l0_3 l0_4 = some r) ∧ Aside0 (kq ≤ k) ∧ Aside0 (w'.heap[gb233]? = some (.cells #[.int .i64 a0_0, .int .i64 a0_1, .string a0_2, (.slice A0_3 l0_3.length c0_3), (.slice A0_4 l0_4.length c0_4)] 25 (0, 0))) ∧ Aside0 (Below w.heap.size w w'))
  case atStart => exact ⟨(0), (by first | rfl | (simp; done) | (simp [*]; done)), H', ⟨Nat.le_refl _⟩, ⟨by (with_reducible repeat (first | refine blk_drewN ?_ _ | refine blk_drew ?_ | refine blk_alloc ?_ _)); exact BK233.out⟩, ⟨by repeat (first | (with_reducible first | exact HB.out | apply below_alloc | apply pw_below_drewN | apply below_drew1 | refine below_set ?_ GE233.out) | exact HB.out)⟩⟩
  case round =>
   clear H'
   try clear c2
   try clear c2b0
   try clear c2b1
   try clear p2
   try clear c3
   try clear hcz5_0
   try clear hcz5_1
   try clear hcz5_2
   try clear hcz5_3
   try clear hcz5_4
   try clear hcz8_0
   try clear hcz8_1
   try clear hcz8_2
   try clear hcz8_3
   try clear hcz8_4
   try clear hfz5_0
   try clear hfz5_1
   try clear hfz5_2
   try clear hfz5_3
   try clear hfz5_4
   try clear hfz8_0
   try clear hfz8_1
   try clear hfz8_2
   try clear hfz8_3
   try clear hfz8_4
   obtain ⟨x3_1, rfl, HA, HK1, BK233, HB⟩ := hrel
   cases gk with
   | zero => exact absurd HA.out (by simp [spec_sayNets.l0])
   | succ k1 =>
    have H := HA.out
    clear HA
    simp only [spec_sayNets.l0] at H
    by_cases c9 : x3_1 < (l0_3.length : Int)
    ·rw [if_pos c9] at H
     have c9b0 : decide (x3_1 < (l0_3.length : Int)) = true := decide_eq_true c9
     clear c9
     by_cases c10 : 0 ≤ x3_1
     ·rw [if_pos c10] at H
      have c10b0 : decide (0 ≤ x3_1) = true := decide_eq_true c10
      clear c10
      by_cases c11 : x3_1 < (l0_4.length : Int)
      ·rw [if_pos c11] at H
       have c11b0 : decide (x3_1 < (l0_4.length : Int)) = true := decide_eq_true c11
       clear c11
       replace H := Option.bind_eq_some_iff.mp H
       obtain ⟨t238, A120, H⟩ := H
       replace H : (if t238 = true then (if ((rd_T25 l0_4 x3_1).f0) = 0 then (spec_sayNets.l0 k1 (wrap64 (x3_1 + 1)) a0_0 a0_1 a0_2 l0_3 l0_4) else ((spec_sayNet.f k1 ((rd_T25 l0_4 x3_1).f0) ((rd_T25 l0_4 x3_1).f1) ((rd_T25 l0_4 x3_1).f2) ((rd_T25 l0_4 x3_1).f3) ((rd_T25 l0_4 x3_1).f4)).bind fun t239 => (if t239 = true then (spec_sayNets.l0 k1 (wrap64 (x3_1 + 1)) a0_0 a0_1 a0_2 l0_3 l0_4) else (some false)))) else (some false)) = some r := H
       have A12 := aM A120
       clear A120
       by_cases c13 : t238 = true
       ·subst c13
        have H1 : (if ((rd_T25 l0_4 x3_1).f0) = 0 then (spec_sayNets.l0 k1 (wrap64 (x3_1 + 1)) a0_0 a0_1 a0_2 l0_3 l0_4) else ((spec_sayNet.f k1 ((rd_T25 l0_4 x3_1).f0) ((rd_T25 l0_4 x3_1).f1) ((rd_T25 l0_4 x3_1).f2) ((rd_T25 l0_4 x3_1).f3) ((rd_T25 l0_4 x3_1).f4)).bind fun t239 => (if t239 = true then (spec_sayNets.l0 k1 (wrap64 (x3_1 + 1)) a0_0 a0_1 a0_2 l0_3 l0_4) else (some false)))) = some r := by rw [if_pos rfl] at H; exact H
        clear H
        have H := H1
        clear H1
        by_cases c14 : ((rd_T25 l0_4 x3_1).f0) = 0
        ·rw [if_pos c14] at H
         have c14b0 : (((rd_T25 l0_4 x3_1).f0) == 0) = true := beq_iff_eq.mpr c14
         have c14b1 : (((rd_T25 l0_4 x3_1).f0) != 0) = false := bne_eq_false_iff_eq.mpr c14
         clear c14
         have H' := aM H
         clear H
         have hcz15_0 : wr.cell? ⟨gb233, 0, none⟩ = some (.int .i64 a0_0) := (blk_cell BK233.out 0).trans rfl
         have hcz15_1 : wr.cell? ⟨gb233, 1, none⟩ = some (.int .i64 a0_1) := (blk_cell BK233.out 1).trans rfl
         have hcz15_2 : wr.cell? ⟨gb233, 2, none⟩ = some (.string a0_2) := (blk_cell BK233.out 2).trans rfl
         have hcz15_3 : wr.cell? ⟨gb233, 3, none⟩ = some (.slice A0_3 l0_3.length c0_3) := (blk_cell BK233.out 3).trans rfl
         have hcz15_4 : wr.cell? ⟨gb233, 4, none⟩ = some (.slice A0_4 l0_4.length c0_4) := (blk_cell BK233.out 4).trans rfl
         have hfz15_0 := blk_frozen BK233.out 0
         have hfz15_1 := blk_frozen BK233.out 1
         have hfz15_2 := blk_frozen BK233.out 2
         have hfz15_3 := blk_frozen BK233.out 3
         have hfz15_4 := blk_frozen BK233.out 4
         have p235 : 0 ≤ (x3_1 : Int) := of_decide_eq_true (by first | (with_reducible assumption) | assumption)
         have q235 : x3_1 < (l0_4.length : Int) := of_decide_eq_true (by first | (with_reducible assumption) | assumption)
         obtain ⟨ad235, A235_3, c235_3, A235_4, c235_4, e235, hx235_0, hx235_1, hx235_2, hx235_3, hx235_4, hl235_3, hi235_3, hl235_4, hi235_4⟩ := at_T25 HR0_4.out x3_1 p235 q235
         cases e235
         replace hx235_0 := (HB.out.cell (World.block_lt_of_cell? w _ hx235_0)).trans hx235_0
         replace hx235_1 := (HB.out.cell (World.block_lt_of_cell? w _ hx235_1)).trans hx235_1
         replace hx235_2 := (HB.out.cell (World.block_lt_of_cell? w _ hx235_2)).trans hx235_2
         replace hx235_3 := (HB.out.cell (World.block_lt_of_cell? w _ hx235_3)).trans hx235_3
         replace hx235_4 := (HB.out.cell (World.block_lt_of_cell? w _ hx235_4)).trans hx235_4
         have HR235_3 := aM hi235_3
         have HC235_3 := aM hl235_3
         clear hi235_3 hl235_3
         have HR235_4 := aM hi235_4
         have HC235_4 := aM hl235_4
         clear hi235_4 hl235_4
         replace p235 := eq_true p235
         replace q235 := eq_true q235
         go_wp2_with (first | ((with_reducible refine gate_dst (N := 4) rfl ?_); (try (refine gate_guard (by rfl) ?_; dsimp only)); refine box_event ?hg (N := 4) ?hd (cs := #[.int .i64 0, .int .i64 0, .string (⟨#[]⟩ : ByteArray), .slice none 0 0, .slice none 0 0]) (t := 25) ?hr ?_; (case hd => rfl); (case hg => rfl); (case hr => first | (go_simp; done) | (go_simp; rfl)); intro gb236 hg w16 hbox hb; have n0_ := aM (blk_below (g := gb233) (o := .cells #[.int .i64 a0_0, .int .i64 a0_1, .string a0_2, .slice A0_3 l0_3.length c0_3, .slice (some ad235) l0_4.length c0_4] 25 (0, 0)) (by (with_reducible repeat (first | refine blk_drewN ?_ _ | refine blk_drew ?_ | refine blk_alloc ?_ _)); exact BK233.out) hb); have n1_ := aM (below_step (by repeat (first | (with_reducible first | exact HB.out | apply below_alloc | apply pw_below_drewN | apply below_drew1 | refine below_set ?_ GE233.out) | exact HB.out)) hb); have n2_ := aM (hbox); have n3_ := aM ((by rw [hg]; exact (below_size (by repeat (first | (with_reducible first | exact HB.out | apply below_alloc | apply pw_below_drewN | apply below_drew1 | refine below_set ?_ GE233.out) | exact HB.out))) : w.heap.size ≤ gb236)); have n4_ := aM ((by rw [hg]; exact (below_size (by repeat (first | (with_reducible first | exact HB.out | apply below_alloc | apply pw_below_drewN | apply below_drew1 | refine below_set ?_ GE233.out) | exact HB.out))) : w.heap.size ≤ gb236)); have n5_ := aM ((by rw [hg]; exact Nat.ne_of_lt (blk_lt (g := gb233) (o := .cells #[.int .i64 a0_0, .int .i64 a0_1, .string a0_2, .slice A0_3 l0_3.length c0_3, .slice (some ad235) l0_4.length c0_4] 25 (0, 0)) (by (with_reducible repeat (first | refine blk_drewN ?_ _ | refine blk_drew ?_ | refine blk_alloc ?_ _)); exact BK233.out)) : gb233 ≠ gb236)); have n6_ := aM ((by rw [hg]; exact Nat.ne_of_gt (blk_lt (g := gb233) (o := .cells #[.int .i64 a0_0, .int .i64 a0_1, .string a0_2, .slice A0_3 l0_3.length c0_3, .slice (some ad235) l0_4.length c0_4] 25 (0, 0)) (by (with_reducible repeat (first | refine blk_drewN ?_ _ | refine blk_drew ?_ | refine blk_alloc ?_ _)); exact BK233.out)) : gb236 ≠ gb233)); clear BK233; clear HB; have BK233 := n0_; have HB := n1_; have BK236 := n2_; have GW236 := n3_; have GE236 := n4_; have NB233_236 := n5_; have NB236_233 := n6_; clear n0_ n1_ n2_ n3_ n4_ n5_ n6_; clear hb hbox hg; have hnb17 := NB236_233.out; have hnc17 := NB233_236.out; have hcz18_0 : w16.cell? ⟨gb236, 0, none⟩ = some (.int .i64 0) := (blk_cell BK236.out 0).trans rfl; have hcz18_1 : w16.cell? ⟨gb236, 1, none⟩ = some (.int .i64 0) := (blk_cell BK236.out 1).trans rfl; have hcz18_2 : w16.cell? ⟨gb236, 2, none⟩ = some (.string (⟨#[]⟩ : ByteArray)) := (blk_cell BK236.out 2).trans rfl; have hcz18_3 : w16.cell? ⟨gb236, 3, none⟩ = some (.slice none 0 0) := (blk_cell BK236.out 3).trans rfl; have hcz18_4 : w16.cell? ⟨gb236, 4, none⟩ = some (.slice none 0 0) := (blk_cell BK236.out 4).trans rfl; have hfz18_0 := blk_frozen BK236.out 0; have hfz18_1 := blk_frozen BK236.out 1; have hfz18_2 := blk_frozen BK236.out 2; have hfz18_3 := blk_frozen BK236.out 3; have hfz18_4 := blk_frozen BK236.out 4; have hcz19_0 : w16.cell? ⟨gb233, 0, none⟩ = some (.int .i64 a0_0) := (blk_cell BK233.out 0).trans rfl; have hcz19_1 : w16.cell? ⟨gb233, 1, none⟩ = some (.int .i64 a0_1) := (blk_cell BK233.out 1).trans rfl; have hcz19_2 : w16.cell? ⟨gb233, 2, none⟩ = some (.string a0_2) := (blk_cell BK233.out 2).trans rfl; have hcz19_3 : w16.cell? ⟨gb233, 3, none⟩ = some (.slice A0_3 l0_3.length c0_3) := (blk_cell BK233.out 3).trans rfl; have hcz19_4 : w16.cell? ⟨gb233, 4, none⟩ = some (.slice (some ad235) l0_4.length c0_4) := (blk_cell BK233.out 4).trans rfl; have hfz19_0 := blk_frozen BK233.out 0; have hfz19_1 := blk_frozen BK233.out 1; have hfz19_2 := blk_frozen BK233.out 2; have hfz19_3 := blk_frozen BK233.out 3; have hfz19_4 := blk_frozen BK233.out 4; have p237 : 0 ≤ (x3_1 : Int) := of_decide_eq_true (by first | (with_reducible assumption) | assumption); have q237 : x3_1 < (l0_3.length : Int) := of_decide_eq_true (by first | (with_reducible assumption) | assumption); obtain ⟨ad237, e237, hx237_0⟩ := Kd.at_string HR0_3.out x3_1 p237 q237; cases e237; have hn237_0 : ad237.block ≠ gb236 := Nat.ne_of_lt (Nat.lt_of_lt_of_le (by have := World.block_lt_of_cell? _ _ hx237_0; first | rwa [add_block] at this | exact this) GW236.out); have hn237_1 : ad237.block ≠ gb236 := Nat.ne_of_lt (Nat.lt_of_lt_of_le (by have := World.block_lt_of_cell? _ _ hx237_0; first | rwa [add_block] at this | exact this) GW236.out); have hn237_2 : ad237.block ≠ gb236 := Nat.ne_of_lt (Nat.lt_of_lt_of_le (by have := World.block_lt_of_cell? _ _ hx237_0; first | rwa [add_block] at this | exact this) GW236.out); have hn237_3 : ad237.block ≠ gb236 := Nat.ne_of_lt (Nat.lt_of_lt_of_le (by have := World.block_lt_of_cell? _ _ hx237_0; first | rwa [add_block] at this | exact this) GW236.out); have hn237_4 : ad237.block ≠ gb236 := Nat.ne_of_lt (Nat.lt_of_lt_of_le (by have := World.block_lt_of_cell? _ _ hx237_0; first | rwa [add_block] at this | exact this) GW236.out); replace hx237_0 := (HB.out.cell (World.block_lt_of_cell? w _ hx237_0)).trans hx237_0; replace hx237_0 := (cell_far (p := ⟨gb236, 0, none⟩) (by first | (rw [add_block]; exact hn237_0) | (show (Addr.add _ _).block ≠ _; rw [add_block]; exact hn237_0) | exact hn237_0) (.int .i64 ((rd_T25 l0_4 x3_1).f0))).trans hx237_0; replace hx237_0 := (cell_far (p := ⟨gb236, 1, none⟩) (by first | (rw [add_block]; exact hn237_1) | (show (Addr.add _ _).block ≠ _; rw [add_block]; exact hn237_1) | exact hn237_1) (.int .i64 ((rd_T25 l0_4 x3_1).f1))).trans hx237_0; replace hx237_0 := (cell_far (p := ⟨gb236, 2, none⟩) (by first | (rw [add_block]; exact hn237_2) | (show (Addr.add _ _).block ≠ _; rw [add_block]; exact hn237_2) | exact hn237_2) (.string ((rd_T25 l0_4 x3_1).f2))).trans hx237_0; replace hx237_0 := (cell_far (p := ⟨gb236, 3, none⟩) (by first | (rw [add_block]; exact hn237_3) | (show (Addr.add _ _).block ≠ _; rw [add_block]; exact hn237_3) | exact hn237_3) (.slice A235_3 ((rd_T25 l0_4 x3_1).f3).length c235_3)).trans hx237_0; replace hx237_0 := (cell_far (p := ⟨gb236, 4, none⟩) (by first | (rw [add_block]; exact hn237_4) | (show (Addr.add _ _).block ≠ _; rw [add_block]; exact hn237_4) | exact hn237_4) (.slice A235_4 ((rd_T25 l0_4 x3_1).f4).length c235_4)).trans hx237_0; clear hn237_0; clear hn237_1; clear hn237_2; clear hn237_3; clear hn237_4; replace p237 := eq_true p237; replace q237 := eq_true q237) | ((with_reducible refine gate_callee (f := 40) rfl ?_); refine goesL_ (some 27) rfl rfl Try.func40 (by kernel_rfl) rfl #[.string (rdOf ByteArray.empty l0_3 x3_1)] rfl (by (try simp only [List.map_toArray, List.map_cons, List.map_nil]); first | done | rfl | (simp only [List.length_drop, List.length_take]; rfl)) ?_; (with_reducible refine (spec_sayName.calls k1 (rdOf ByteArray.empty l0_3 x3_1) true _ A12.out).mono ?_); rintro e w' ⟨rfl, ⟨nd, rfl⟩⟩; refine ⟨_, rfl, ?_⟩))
         go_roundg k1
         case measure => have := HK1.out; omega
         case rel => exact ⟨(wrap64 (x3_1 + 1)), (by first | rfl | (simp; done) | (simp [*]; done)), H', ⟨by have := HK1.out; omega⟩, ⟨by (with_reducible repeat (first | refine blk_drewN ?_ _ | refine blk_drew ?_ | refine blk_alloc ?_ _)); refine blk_far ?_ NB233_236.out _; (with_reducible repeat (first | refine blk_drewN ?_ _ | refine blk_drew ?_ | refine blk_alloc ?_ _)); refine blk_far ?_ NB233_236.out _; (with_reducible repeat (first | refine blk_drewN ?_ _ | refine blk_drew ?_ | refine blk_alloc ?_ _)); refine blk_far ?_ NB233_236.out _; (with_reducible repeat (first | refine blk_drewN ?_ _ | refine blk_drew ?_ | refine blk_alloc ?_ _)); refine blk_far ?_ NB233_236.out _; (with_reducible repeat (first | refine blk_drewN ?_ _ | refine blk_drew ?_ | refine blk_alloc ?_ _)); refine blk_far ?_ NB233_236.out _; (with_reducible repeat (first | refine blk_drewN ?_ _ | refine blk_drew ?_ | refine blk_alloc ?_ _)); exact BK233.out⟩, ⟨by repeat (first | (with_reducible first | exact HB.out | apply below_alloc | apply pw_below_drewN | apply below_drew1 | refine below_set ?_ GE233.out | refine below_set ?_ GE236.out) | exact HB.out)⟩⟩
        ·rw [if_neg c14] at H
         have c14b0 : (((rd_T25 l0_4 x3_1).f0) == 0) = false := beq_eq_false_iff_ne.mpr c14
         have c14b1 : (((rd_T25 l0_4 x3_1).f0) != 0) = true := bne_iff_ne.mpr c14
         replace H := Option.bind_eq_some_iff.mp H
         obtain ⟨t239, A200, H⟩ := H
         replace H : (if t239 = true then (spec_sayNets.l0 k1 (wrap64 (x3_1 + 1)) a0_0 a0_1 a0_2 l0_3 l0_4) else (some false)) = some r := H
         have A20 := aM A200
         clear A200
         by_cases c21 : t239 = true
         ·subst c21
          have H1 : (spec_sayNets.l0 k1 (wrap64 (x3_1 + 1)) a0_0 a0_1 a0_2 l0_3 l0_4) = some r := by rw [if_pos rfl] at H; exact H
          clear H
          have H := H1
          clear H1
          have H' := aM H
          clear H
          have hcz22_0 : wr.cell? ⟨gb233, 0, none⟩ = some (.int .i64 a0_0) := (blk_cell BK233.out 0).trans rfl
          have hcz22_1 : wr.cell? ⟨gb233, 1, none⟩ = some (.int .i64 a0_1) := (blk_cell BK233.out 1).trans rfl
          have hcz22_2 : wr.cell? ⟨gb233, 2, none⟩ = some (.string a0_2) := (blk_cell BK233.out 2).trans rfl
          have hcz22_3 : wr.cell? ⟨gb233, 3, none⟩ = some (.slice A0_3 l0_3.length c0_3) := (blk_cell BK233.out 3).trans rfl
          have hcz22_4 : wr.cell? ⟨gb233, 4, none⟩ = some (.slice A0_4 l0_4.length c0_4) := (blk_cell BK233.out 4).trans rfl
          have hfz22_0 := blk_frozen BK233.out 0
          have hfz22_1 := blk_frozen BK233.out 1
          have hfz22_2 := blk_frozen BK233.out 2
          have hfz22_3 := blk_frozen BK233.out 3
          have hfz22_4 := blk_frozen BK233.out 4
          have p235 : 0 ≤ (x3_1 : Int) := of_decide_eq_true (by first | (with_reducible assumption) | assumption)
          have q235 : x3_1 < (l0_4.length : Int) := of_decide_eq_true (by first | (with_reducible assumption) | assumption)
          obtain ⟨ad235, A235_3, c235_3, A235_4, c235_4, e235, hx235_0, hx235_1, hx235_2, hx235_3, hx235_4, hl235_3, hi235_3, hl235_4, hi235_4⟩ := at_T25 HR0_4.out x3_1 p235 q235
          cases e235
          replace hx235_0 := (HB.out.cell (World.block_lt_of_cell? w _ hx235_0)).trans hx235_0
          replace hx235_1 := (HB.out.cell (World.block_lt_of_cell? w _ hx235_1)).trans hx235_1
          replace hx235_2 := (HB.out.cell (World.block_lt_of_cell? w _ hx235_2)).trans hx235_2
          replace hx235_3 := (HB.out.cell (World.block_lt_of_cell? w _ hx235_3)).trans hx235_3
          replace hx235_4 := (HB.out.cell (World.block_lt_of_cell? w _ hx235_4)).trans hx235_4
          have HR235_3 := aM hi235_3
          have HC235_3 := aM hl235_3
          clear hi235_3 hl235_3
          have HR235_4 := aM hi235_4
          have HC235_4 := aM hl235_4
          clear hi235_4 hl235_4
          replace p235 := eq_true p235
          replace q235 := eq_true q235
          go_wp2_with (first | ((with_reducible refine gate_dst (N := 4) rfl ?_); (try (refine gate_guard (by rfl) ?_; dsimp only)); refine box_event ?hg (N := 4) ?hd (cs := #[.int .i64 0, .int .i64 0, .string (⟨#[]⟩ : ByteArray), .slice none 0 0, .slice none 0 0]) (t := 25) ?hr ?_; (case hd => rfl); (case hg => rfl); (case hr => first | (go_simp; done) | (go_simp; rfl)); intro gb236 hg w23 hbox hb; have n0_ := aM (blk_below (g := gb233) (o := .cells #[.int .i64 a0_0, .int .i64 a0_1, .string a0_2, .slice A0_3 l0_3.length c0_3, .slice (some ad235) l0_4.length c0_4] 25 (0, 0)) (by (with_reducible repeat (first | refine blk_drewN ?_ _ | refine blk_drew ?_ | refine blk_alloc ?_ _)); exact BK233.out) hb); have n1_ := aM (below_step (by repeat (first | (with_reducible first | exact HB.out | apply below_alloc | apply pw_below_drewN | apply below_drew1 | refine below_set ?_ GE233.out) | exact HB.out)) hb); have n2_ := aM (hbox); have n3_ := aM ((by rw [hg]; exact (below_size (by repeat (first | (with_reducible first | exact HB.out | apply below_alloc | apply pw_below_drewN | apply below_drew1 | refine below_set ?_ GE233.out) | exact HB.out))) : w.heap.size ≤ gb236)); have n4_ := aM ((by rw [hg]; exact (below_size (by repeat (first | (with_reducible first | exact HB.out | apply below_alloc | apply pw_below_drewN | apply below_drew1 | refine below_set ?_ GE233.out) | exact HB.out))) : w.heap.size ≤ gb236)); have n5_ := aM ((by rw [hg]; exact Nat.ne_of_lt (blk_lt (g := gb233) (o := .cells #[.int .i64 a0_0, .int .i64 a0_1, .string a0_2, .slice A0_3 l0_3.length c0_3, .slice (some ad235) l0_4.length c0_4] 25 (0, 0)) (by (with_reducible repeat (first | refine blk_drewN ?_ _ | refine blk_drew ?_ | refine blk_alloc ?_ _)); exact BK233.out)) : gb233 ≠ gb236)); have n6_ := aM ((by rw [hg]; exact Nat.ne_of_gt (blk_lt (g := gb233) (o := .cells #[.int .i64 a0_0, .int .i64 a0_1, .string a0_2, .slice A0_3 l0_3.length c0_3, .slice (some ad235) l0_4.length c0_4] 25 (0, 0)) (by (with_reducible repeat (first | refine blk_drewN ?_ _ | refine blk_drew ?_ | refine blk_alloc ?_ _)); exact BK233.out)) : gb236 ≠ gb233)); clear BK233; clear HB; have BK233 := n0_; have HB := n1_; have BK236 := n2_; have GW236 := n3_; have GE236 := n4_; have NB233_236 := n5_; have NB236_233 := n6_; clear n0_ n1_ n2_ n3_ n4_ n5_ n6_; clear hb hbox hg; have hnb24 := NB236_233.out; have hnc24 := NB233_236.out; have hcz25_0 : w23.cell? ⟨gb236, 0, none⟩ = some (.int .i64 0) := (blk_cell BK236.out 0).trans rfl; have hcz25_1 : w23.cell? ⟨gb236, 1, none⟩ = some (.int .i64 0) := (blk_cell BK236.out 1).trans rfl; have hcz25_2 : w23.cell? ⟨gb236, 2, none⟩ = some (.string (⟨#[]⟩ : ByteArray)) := (blk_cell BK236.out 2).trans rfl; have hcz25_3 : w23.cell? ⟨gb236, 3, none⟩ = some (.slice none 0 0) := (blk_cell BK236.out 3).trans rfl; have hcz25_4 : w23.cell? ⟨gb236, 4, none⟩ = some (.slice none 0 0) := (blk_cell BK236.out 4).trans rfl; have hfz25_0 := blk_frozen BK236.out 0; have hfz25_1 := blk_frozen BK236.out 1; have hfz25_2 := blk_frozen BK236.out 2; have hfz25_3 := blk_frozen BK236.out 3; have hfz25_4 := blk_frozen BK236.out 4; have hcz26_0 : w23.cell? ⟨gb233, 0, none⟩ = some (.int .i64 a0_0) := (blk_cell BK233.out 0).trans rfl; have hcz26_1 : w23.cell? ⟨gb233, 1, none⟩ = some (.int .i64 a0_1) := (blk_cell BK233.out 1).trans rfl; have hcz26_2 : w23.cell? ⟨gb233, 2, none⟩ = some (.string a0_2) := (blk_cell BK233.out 2).trans rfl; have hcz26_3 : w23.cell? ⟨gb233, 3, none⟩ = some (.slice A0_3 l0_3.length c0_3) := (blk_cell BK233.out 3).trans rfl; have hcz26_4 : w23.cell? ⟨gb233, 4, none⟩ = some (.slice (some ad235) l0_4.length c0_4) := (blk_cell BK233.out 4).trans rfl; have hfz26_0 := blk_frozen BK233.out 0; have hfz26_1 := blk_frozen BK233.out 1; have hfz26_2 := blk_frozen BK233.out 2; have hfz26_3 := blk_frozen BK233.out 3; have hfz26_4 := blk_frozen BK233.out 4; have p237 : 0 ≤ (x3_1 : Int) := of_decide_eq_true (by first | (with_reducible assumption) | assumption); have q237 : x3_1 < (l0_3.length : Int) := of_decide_eq_true (by first | (with_reducible assumption) | assumption); obtain ⟨ad237, e237, hx237_0⟩ := Kd.at_string HR0_3.out x3_1 p237 q237; cases e237; have hn237_0 : ad237.block ≠ gb236 := Nat.ne_of_lt (Nat.lt_of_lt_of_le (by have := World.block_lt_of_cell? _ _ hx237_0; first | rwa [add_block] at this | exact this) GW236.out); have hn237_1 : ad237.block ≠ gb236 := Nat.ne_of_lt (Nat.lt_of_lt_of_le (by have := World.block_lt_of_cell? _ _ hx237_0; first | rwa [add_block] at this | exact this) GW236.out); have hn237_2 : ad237.block ≠ gb236 := Nat.ne_of_lt (Nat.lt_of_lt_of_le (by have := World.block_lt_of_cell? _ _ hx237_0; first | rwa [add_block] at this | exact this) GW236.out); have hn237_3 : ad237.block ≠ gb236 := Nat.ne_of_lt (Nat.lt_of_lt_of_le (by have := World.block_lt_of_cell? _ _ hx237_0; first | rwa [add_block] at this | exact this) GW236.out); have hn237_4 : ad237.block ≠ gb236 := Nat.ne_of_lt (Nat.lt_of_lt_of_le (by have := World.block_lt_of_cell? _ _ hx237_0; first | rwa [add_block] at this | exact this) GW236.out); replace hx237_0 := (HB.out.cell (World.block_lt_of_cell? w _ hx237_0)).trans hx237_0; replace hx237_0 := (cell_far (p := ⟨gb236, 0, none⟩) (by first | (rw [add_block]; exact hn237_0) | (show (Addr.add _ _).block ≠ _; rw [add_block]; exact hn237_0) | exact hn237_0) (.int .i64 ((rd_T25 l0_4 x3_1).f0))).trans hx237_0; replace hx237_0 := (cell_far (p := ⟨gb236, 1, none⟩) (by first | (rw [add_block]; exact hn237_1) | (show (Addr.add _ _).block ≠ _; rw [add_block]; exact hn237_1) | exact hn237_1) (.int .i64 ((rd_T25 l0_4 x3_1).f1))).trans hx237_0; replace hx237_0 := (cell_far (p := ⟨gb236, 2, none⟩) (by first | (rw [add_block]; exact hn237_2) | (show (Addr.add _ _).block ≠ _; rw [add_block]; exact hn237_2) | exact hn237_2) (.string ((rd_T25 l0_4 x3_1).f2))).trans hx237_0; replace hx237_0 := (cell_far (p := ⟨gb236, 3, none⟩) (by first | (rw [add_block]; exact hn237_3) | (show (Addr.add _ _).block ≠ _; rw [add_block]; exact hn237_3) | exact hn237_3) (.slice A235_3 ((rd_T25 l0_4 x3_1).f3).length c235_3)).trans hx237_0; replace hx237_0 := (cell_far (p := ⟨gb236, 4, none⟩) (by first | (rw [add_block]; exact hn237_4) | (show (Addr.add _ _).block ≠ _; rw [add_block]; exact hn237_4) | exact hn237_4) (.slice A235_4 ((rd_T25 l0_4 x3_1).f4).length c235_4)).trans hx237_0; clear hn237_0; clear hn237_1; clear hn237_2; clear hn237_3; clear hn237_4; replace p237 := eq_true p237; replace q237 := eq_true q237) | ((with_reducible refine gate_callee (f := 40) rfl ?_); refine goesL_ (some 27) rfl rfl Try.func40 (by kernel_rfl) rfl #[.string (rdOf ByteArray.empty l0_3 x3_1)] rfl (by (try simp only [List.map_toArray, List.map_cons, List.map_nil]); first | done | rfl | (simp only [List.length_drop, List.length_take]; rfl)) ?_; (with_reducible refine (spec_sayName.calls k1 (rdOf ByteArray.empty l0_3 x3_1) true _ A12.out).mono ?_); rintro e w' ⟨rfl, ⟨nd, rfl⟩⟩; refine ⟨_, rfl, ?_⟩) | (go_at_call 41; (with_reducible refine (spec_sayNet.calls k1 ((rd_T25 l0_4 x3_1).f0) ((rd_T25 l0_4 x3_1).f1) ((rd_T25 l0_4 x3_1).f2) _ _ ((rd_T25 l0_4 x3_1).f3) _ _ ((rd_T25 l0_4 x3_1).f4) true _ ?side1 ?side2 ?side3 ?side4 A20.out).mono ?_); (case side1 => exact Kd.C_below HR235_3.out (by repeat (first | (with_reducible first | exact HB.out | apply below_alloc | apply pw_below_drewN | apply below_drew1 | refine below_set ?_ GE233.out | refine below_set ?_ GE236.out) | exact HB.out))); (case side2 => exact HC235_3.out); (case side3 => exact Kd.C_below HR235_4.out (by repeat (first | (with_reducible first | exact HB.out | apply below_alloc | apply pw_below_drewN | apply below_drew1 | refine below_set ?_ GE233.out | refine below_set ?_ GE236.out) | exact HB.out))); (case side4 => exact HC235_4.out); rintro e w27 ⟨rfl, hb⟩; have n0_ := aM (blk_below (g := gb233) (o := .cells #[.int .i64 a0_0, .int .i64 a0_1, .string a0_2, .slice (some ad237) l0_3.length c0_3, .slice (some ad235) l0_4.length c0_4] 25 (0, 0)) (by (with_reducible repeat (first | refine blk_drewN ?_ _ | refine blk_drew ?_ | refine blk_alloc ?_ _)); refine blk_far ?_ NB233_236.out _; (with_reducible repeat (first | refine blk_drewN ?_ _ | refine blk_drew ?_ | refine blk_alloc ?_ _)); refine blk_far ?_ NB233_236.out _; (with_reducible repeat (first | refine blk_drewN ?_ _ | refine blk_drew ?_ | refine blk_alloc ?_ _)); refine blk_far ?_ NB233_236.out _; (with_reducible repeat (first | refine blk_drewN ?_ _ | refine blk_drew ?_ | refine blk_alloc ?_ _)); refine blk_far ?_ NB233_236.out _; (with_reducible repeat (first | refine blk_drewN ?_ _ | refine blk_drew ?_ | refine blk_alloc ?_ _)); refine blk_far ?_ NB233_236.out _; (with_reducible repeat (first | refine blk_drewN ?_ _ | refine blk_drew ?_ | refine blk_alloc ?_ _)); exact BK233.out) hb); have n1_ := aM (blk_below (g := gb236) (o := .cells #[.int .i64 ((rd_T25 l0_4 x3_1).f0), .int .i64 ((rd_T25 l0_4 x3_1).f1), .string ((rd_T25 l0_4 x3_1).f2), .slice A235_3 ((rd_T25 l0_4 x3_1).f3).length c235_3, .slice A235_4 ((rd_T25 l0_4 x3_1).f4).length c235_4] 25 (0, 0)) (by (with_reducible repeat (first | refine blk_drewN ?_ _ | refine blk_drew ?_ | refine blk_alloc ?_ _)); refine blk_put (cs := #[.int .i64 ((rd_T25 l0_4 x3_1).f0), .int .i64 ((rd_T25 l0_4 x3_1).f1), .string ((rd_T25 l0_4 x3_1).f2), .slice A235_3 ((rd_T25 l0_4 x3_1).f3).length c235_3, .slice none 0 0]) ?_ 4 _ rfl; (with_reducible repeat (first | refine blk_drewN ?_ _ | refine blk_drew ?_ | refine blk_alloc ?_ _)); refine blk_put (cs := #[.int .i64 ((rd_T25 l0_4 x3_1).f0), .int .i64 ((rd_T25 l0_4 x3_1).f1), .string ((rd_T25 l0_4 x3_1).f2), .slice none 0 0, .slice none 0 0]) ?_ 3 _ rfl; (with_reducible repeat (first | refine blk_drewN ?_ _ | refine blk_drew ?_ | refine blk_alloc ?_ _)); refine blk_put (cs := #[.int .i64 ((rd_T25 l0_4 x3_1).f0), .int .i64 ((rd_T25 l0_4 x3_1).f1), .string (⟨#[]⟩ : ByteArray), .slice none 0 0, .slice none 0 0]) ?_ 2 _ rfl; (with_reducible repeat (first | refine blk_drewN ?_ _ | refine blk_drew ?_ | refine blk_alloc ?_ _)); refine blk_put (cs := #[.int .i64 ((rd_T25 l0_4 x3_1).f0), .int .i64 0, .string (⟨#[]⟩ : ByteArray), .slice none 0 0, .slice none 0 0]) ?_ 1 _ rfl; (with_reducible repeat (first | refine blk_drewN ?_ _ | refine blk_drew ?_ | refine blk_alloc ?_ _)); refine blk_put (cs := #[.int .i64 0, .int .i64 0, .string (⟨#[]⟩ : ByteArray), .slice none 0 0, .slice none 0 0]) ?_ 0 _ rfl; (with_reducible repeat (first | refine blk_drewN ?_ _ | refine blk_drew ?_ | refine blk_alloc ?_ _)); exact BK236.out) hb); have n2_ := aM (below_step (by repeat (first | (with_reducible first | exact HB.out | apply below_alloc | apply pw_below_drewN | apply below_drew1 | refine below_set ?_ GE233.out | refine below_set ?_ GE236.out) | exact HB.out)) hb); clear BK233; clear BK236; clear HB; have BK233 := n0_; have BK236 := n1_; have HB := n2_; clear n0_ n1_ n2_; (try clear hb); (try clear hb2); (try clear hk); (try clear hi)))
          go_roundg k1
          case measure => have := HK1.out; omega
          case rel => exact ⟨(wrap64 (x3_1 + 1)), (by first | rfl | (simp; done) | (simp [*]; done)), H', ⟨by have := HK1.out; omega⟩, ⟨by (with_reducible repeat (first | refine blk_drewN ?_ _ | refine blk_drew ?_ | refine blk_alloc ?_ _)); exact BK233.out⟩, ⟨by repeat (first | (with_reducible first | exact HB.out | apply below_alloc | apply pw_below_drewN | apply below_drew1 | refine below_set ?_ GE233.out | refine below_set ?_ GE236.out) | exact HB.out)⟩⟩
         ·replace c21 := Bool.eq_false_iff.mpr c21
          subst c21
          have H1 : (some false) = some r := by rw [if_neg (show ¬ (false = true) by decide)] at H; exact H
          clear H
          have H := H1
          clear H1
          obtain rfl := Option.some.inj H
          have hcz28_0 : wr.cell? ⟨gb233, 0, none⟩ = some (.int .i64 a0_0) := (blk_cell BK233.out 0).trans rfl
          have hcz28_1 : wr.cell? ⟨gb233, 1, none⟩ = some (.int .i64 a0_1) := (blk_cell BK233.out 1).trans rfl
          have hcz28_2 : wr.cell? ⟨gb233, 2, none⟩ = some (.string a0_2) := (blk_cell BK233.out 2).trans rfl
          have hcz28_3 : wr.cell? ⟨gb233, 3, none⟩ = some (.slice A0_3 l0_3.length c0_3) := (blk_cell BK233.out 3).trans rfl
          have hcz28_4 : wr.cell? ⟨gb233, 4, none⟩ = some (.slice A0_4 l0_4.length c0_4) := (blk_cell BK233.out 4).trans rfl
          have hfz28_0 := blk_frozen BK233.out 0
          have hfz28_1 := blk_frozen BK233.out 1
          have hfz28_2 := blk_frozen BK233.out 2
          have hfz28_3 := blk_frozen BK233.out 3
          have hfz28_4 := blk_frozen BK233.out 4
          have p235 : 0 ≤ (x3_1 : Int) := of_decide_eq_true (by first | (with_reducible assumption) | assumption)
          have q235 : x3_1 < (l0_4.length : Int) := of_decide_eq_true (by first | (with_reducible assumption) | assumption)
          obtain ⟨ad235, A235_3, c235_3, A235_4, c235_4, e235, hx235_0, hx235_1, hx235_2, hx235_3, hx235_4, hl235_3, hi235_3, hl235_4, hi235_4⟩ := at_T25 HR0_4.out x3_1 p235 q235
          cases e235
          replace hx235_0 := (HB.out.cell (World.block_lt_of_cell? w _ hx235_0)).trans hx235_0
          replace hx235_1 := (HB.out.cell (World.block_lt_of_cell? w _ hx235_1)).trans hx235_1
          replace hx235_2 := (HB.out.cell (World.block_lt_of_cell? w _ hx235_2)).trans hx235_2
          replace hx235_3 := (HB.out.cell (World.block_lt_of_cell? w _ hx235_3)).trans hx235_3
          replace hx235_4 := (HB.out.cell (World.block_lt_of_cell? w _ hx235_4)).trans hx235_4
          have HR235_3 := aM hi235_3
          have HC235_3 := aM hl235_3
          clear hi235_3 hl235_3
          have HR235_4 := aM hi235_4
          have HC235_4 := aM hl235_4
          clear hi235_4 hl235_4
          replace p235 := eq_true p235
          replace q235 := eq_true q235
          go_wp2_with (first | ((with_reducible refine gate_dst (N := 4) rfl ?_); (try (refine gate_guard (by rfl) ?_; dsimp only)); refine box_event ?hg (N := 4) ?hd (cs := #[.int .i64 0, .int .i64 0, .string (⟨#[]⟩ : ByteArray), .slice none 0 0, .slice none 0 0]) (t := 25) ?hr ?_; (case hd => rfl); (case hg => rfl); (case hr => first | (go_simp; done) | (go_simp; rfl)); intro gb236 hg w29 hbox hb; have n0_ := aM (blk_below (g := gb233) (o := .cells #[.int .i64 a0_0, .int .i64 a0_1, .string a0_2, .slice A0_3 l0_3.length c0_3, .slice (some ad235) l0_4.length c0_4] 25 (0, 0)) (by (with_reducible repeat (first | refine blk_drewN ?_ _ | refine blk_drew ?_ | refine blk_alloc ?_ _)); exact BK233.out) hb); have n1_ := aM (below_step (by repeat (first | (with_reducible first | exact HB.out | apply below_alloc | apply pw_below_drewN | apply below_drew1 | refine below_set ?_ GE233.out) | exact HB.out)) hb); have n2_ := aM (hbox); have n3_ := aM ((by rw [hg]; exact (below_size (by repeat (first | (with_reducible first | exact HB.out | apply below_alloc | apply pw_below_drewN | apply below_drew1 | refine below_set ?_ GE233.out) | exact HB.out))) : w.heap.size ≤ gb236)); have n4_ := aM ((by rw [hg]; exact (below_size (by repeat (first | (with_reducible first | exact HB.out | apply below_alloc | apply pw_below_drewN | apply below_drew1 | refine below_set ?_ GE233.out) | exact HB.out))) : w.heap.size ≤ gb236)); have n5_ := aM ((by rw [hg]; exact Nat.ne_of_lt (blk_lt (g := gb233) (o := .cells #[.int .i64 a0_0, .int .i64 a0_1, .string a0_2, .slice A0_3 l0_3.length c0_3, .slice (some ad235) l0_4.length c0_4] 25 (0, 0)) (by (with_reducible repeat (first | refine blk_drewN ?_ _ | refine blk_drew ?_ | refine blk_alloc ?_ _)); exact BK233.out)) : gb233 ≠ gb236)); have n6_ := aM ((by rw [hg]; exact Nat.ne_of_gt (blk_lt (g := gb233) (o := .cells #[.int .i64 a0_0, .int .i64 a0_1, .string a0_2, .slice A0_3 l0_3.length c0_3, .slice (some ad235) l0_4.length c0_4] 25 (0, 0)) (by (with_reducible repeat (first | refine blk_drewN ?_ _ | refine blk_drew ?_ | refine blk_alloc ?_ _)); exact BK233.out)) : gb236 ≠ gb233)); clear BK233; clear HB; have BK233 := n0_; have HB := n1_; have BK236 := n2_; have GW236 := n3_; have GE236 := n4_; have NB233_236 := n5_; have NB236_233 := n6_; clear n0_ n1_ n2_ n3_ n4_ n5_ n6_; clear hb hbox hg; have hnb30 := NB236_233.out; have hnc30 := NB233_236.out; have hcz31_0 : w29.cell? ⟨gb236, 0, none⟩ = some (.int .i64 0) := (blk_cell BK236.out 0).trans rfl; have hcz31_1 : w29.cell? ⟨gb236, 1, none⟩ = some (.int .i64 0) := (blk_cell BK236.out 1).trans rfl; have hcz31_2 : w29.cell? ⟨gb236, 2, none⟩ = some (.string (⟨#[]⟩ : ByteArray)) := (blk_cell BK236.out 2).trans rfl; have hcz31_3 : w29.cell? ⟨gb236, 3, none⟩ = some (.slice none 0 0) := (blk_cell BK236.out 3).trans rfl; have hcz31_4 : w29.cell? ⟨gb236, 4, none⟩ = some (.slice none 0 0) := (blk_cell BK236.out 4).trans rfl; have hfz31_0 := blk_frozen BK236.out 0; have hfz31_1 := blk_frozen BK236.out 1; have hfz31_2 := blk_frozen BK236.out 2; have hfz31_3 := blk_frozen BK236.out 3; have hfz31_4 := blk_frozen BK236.out 4; have hcz32_0 : w29.cell? ⟨gb233, 0, none⟩ = some (.int .i64 a0_0) := (blk_cell BK233.out 0).trans rfl; have hcz32_1 : w29.cell? ⟨gb233, 1, none⟩ = some (.int .i64 a0_1) := (blk_cell BK233.out 1).trans rfl; have hcz32_2 : w29.cell? ⟨gb233, 2, none⟩ = some (.string a0_2) := (blk_cell BK233.out 2).trans rfl; have hcz32_3 : w29.cell? ⟨gb233, 3, none⟩ = some (.slice A0_3 l0_3.length c0_3) := (blk_cell BK233.out 3).trans rfl; have hcz32_4 : w29.cell? ⟨gb233, 4, none⟩ = some (.slice (some ad235) l0_4.length c0_4) := (blk_cell BK233.out 4).trans rfl; have hfz32_0 := blk_frozen BK233.out 0; have hfz32_1 := blk_frozen BK233.out 1; have hfz32_2 := blk_frozen BK233.out 2; have hfz32_3 := blk_frozen BK233.out 3; have hfz32_4 := blk_frozen BK233.out 4; have p237 : 0 ≤ (x3_1 : Int) := of_decide_eq_true (by first | (with_reducible assumption) | assumption); have q237 : x3_1 < (l0_3.length : Int) := of_decide_eq_true (by first | (with_reducible assumption) | assumption); obtain ⟨ad237, e237, hx237_0⟩ := Kd.at_string HR0_3.out x3_1 p237 q237; cases e237; have hn237_0 : ad237.block ≠ gb236 := Nat.ne_of_lt (Nat.lt_of_lt_of_le (by have := World.block_lt_of_cell? _ _ hx237_0; first | rwa [add_block] at this | exact this) GW236.out); have hn237_1 : ad237.block ≠ gb236 := Nat.ne_of_lt (Nat.lt_of_lt_of_le (by have := World.block_lt_of_cell? _ _ hx237_0; first | rwa [add_block] at this | exact this) GW236.out); have hn237_2 : ad237.block ≠ gb236 := Nat.ne_of_lt (Nat.lt_of_lt_of_le (by have := World.block_lt_of_cell? _ _ hx237_0; first | rwa [add_block] at this | exact this) GW236.out); have hn237_3 : ad237.block ≠ gb236 := Nat.ne_of_lt (Nat.lt_of_lt_of_le (by have := World.block_lt_of_cell? _ _ hx237_0; first | rwa [add_block] at this | exact this) GW236.out); have hn237_4 : ad237.block ≠ gb236 := Nat.ne_of_lt (Nat.lt_of_lt_of_le (by have := World.block_lt_of_cell? _ _ hx237_0; first | rwa [add_block] at this | exact this) GW236.out); replace hx237_0 := (HB.out.cell (World.block_lt_of_cell? w _ hx237_0)).trans hx237_0; replace hx237_0 := (cell_far (p := ⟨gb236, 0, none⟩) (by first | (rw [add_block]; exact hn237_0) | (show (Addr.add _ _).block ≠ _; rw [add_block]; exact hn237_0) | exact hn237_0) (.int .i64 ((rd_T25 l0_4 x3_1).f0))).trans hx237_0; replace hx237_0 := (cell_far (p := ⟨gb236, 1, none⟩) (by first | (rw [add_block]; exact hn237_1) | (show (Addr.add _ _).block ≠ _; rw [add_block]; exact hn237_1) | exact hn237_1) (.int .i64 ((rd_T25 l0_4 x3_1).f1))).trans hx237_0; replace hx237_0 := (cell_far (p := ⟨gb236, 2, none⟩) (by first | (rw [add_block]; exact hn237_2) | (show (Addr.add _ _).block ≠ _; rw [add_block]; exact hn237_2) | exact hn237_2) (.string ((rd_T25 l0_4 x3_1).f2))).trans hx237_0; replace hx237_0 := (cell_far (p := ⟨gb236, 3, none⟩) (by first | (rw [add_block]; exact hn237_3) | (show (Addr.add _ _).block ≠ _; rw [add_block]; exact hn237_3) | exact hn237_3) (.slice A235_3 ((rd_T25 l0_4 x3_1).f3).length c235_3)).trans hx237_0; replace hx237_0 := (cell_far (p := ⟨gb236, 4, none⟩) (by first | (rw [add_block]; exact hn237_4) | (show (Addr.add _ _).block ≠ _; rw [add_block]; exact hn237_4) | exact hn237_4) (.slice A235_4 ((rd_T25 l0_4 x3_1).f4).length c235_4)).trans hx237_0; clear hn237_0; clear hn237_1; clear hn237_2; clear hn237_3; clear hn237_4; replace p237 := eq_true p237; replace q237 := eq_true q237) | ((with_reducible refine gate_callee (f := 40) rfl ?_); refine goesL_ (some 27) rfl rfl Try.func40 (by kernel_rfl) rfl #[.string (rdOf ByteArray.empty l0_3 x3_1)] rfl (by (try simp only [List.map_toArray, List.map_cons, List.map_nil]); first | done | rfl | (simp only [List.length_drop, List.length_take]; rfl)) ?_; (with_reducible refine (spec_sayName.calls k1 (rdOf ByteArray.empty l0_3 x3_1) true _ A12.out).mono ?_); rintro e w' ⟨rfl, ⟨nd, rfl⟩⟩; refine ⟨_, rfl, ?_⟩) | (go_at_call 41; (with_reducible refine (spec_sayNet.calls k1 ((rd_T25 l0_4 x3_1).f0) ((rd_T25 l0_4 x3_1).f1) ((rd_T25 l0_4 x3_1).f2) _ _ ((rd_T25 l0_4 x3_1).f3) _ _ ((rd_T25 l0_4 x3_1).f4) false _ ?side1 ?side2 ?side3 ?side4 A20.out).mono ?_); (case side1 => exact Kd.C_below HR235_3.out (by repeat (first | (with_reducible first | exact HB.out | apply below_alloc | apply pw_below_drewN | apply below_drew1 | refine below_set ?_ GE233.out | refine below_set ?_ GE236.out) | exact HB.out))); (case side2 => exact HC235_3.out); (case side3 => exact Kd.C_below HR235_4.out (by repeat (first | (with_reducible first | exact HB.out | apply below_alloc | apply pw_below_drewN | apply below_drew1 | refine below_set ?_ GE233.out | refine below_set ?_ GE236.out) | exact HB.out))); (case side4 => exact HC235_4.out); rintro e w33 ⟨rfl, hb⟩; have n0_ := aM (blk_below (g := gb233) (o := .cells #[.int .i64 a0_0, .int .i64 a0_1, .string a0_2, .slice (some ad237) l0_3.length c0_3, .slice (some ad235) l0_4.length c0_4] 25 (0, 0)) (by (with_reducible repeat (first | refine blk_drewN ?_ _ | refine blk_drew ?_ | refine blk_alloc ?_ _)); refine blk_far ?_ NB233_236.out _; (with_reducible repeat (first | refine blk_drewN ?_ _ | refine blk_drew ?_ | refine blk_alloc ?_ _)); refine blk_far ?_ NB233_236.out _; (with_reducible repeat (first | refine blk_drewN ?_ _ | refine blk_drew ?_ | refine blk_alloc ?_ _)); refine blk_far ?_ NB233_236.out _; (with_reducible repeat (first | refine blk_drewN ?_ _ | refine blk_drew ?_ | refine blk_alloc ?_ _)); refine blk_far ?_ NB233_236.out _; (with_reducible repeat (first | refine blk_drewN ?_ _ | refine blk_drew ?_ | refine blk_alloc ?_ _)); refine blk_far ?_ NB233_236.out _; (with_reducible repeat (first | refine blk_drewN ?_ _ | refine blk_drew ?_ | refine blk_alloc ?_ _)); exact BK233.out) hb); have n1_ := aM (blk_below (g := gb236) (o := .cells #[.int .i64 ((rd_T25 l0_4 x3_1).f0), .int .i64 ((rd_T25 l0_4 x3_1).f1), .string ((rd_T25 l0_4 x3_1).f2), .slice A235_3 ((rd_T25 l0_4 x3_1).f3).length c235_3, .slice A235_4 ((rd_T25 l0_4 x3_1).f4).length c235_4] 25 (0, 0)) (by (with_reducible repeat (first | refine blk_drewN ?_ _ | refine blk_drew ?_ | refine blk_alloc ?_ _)); refine blk_put (cs := #[.int .i64 ((rd_T25 l0_4 x3_1).f0), .int .i64 ((rd_T25 l0_4 x3_1).f1), .string ((rd_T25 l0_4 x3_1).f2), .slice A235_3 ((rd_T25 l0_4 x3_1).f3).length c235_3, .slice none 0 0]) ?_ 4 _ rfl; (with_reducible repeat (first | refine blk_drewN ?_ _ | refine blk_drew ?_ | refine blk_alloc ?_ _)); refine blk_put (cs := #[.int .i64 ((rd_T25 l0_4 x3_1).f0), .int .i64 ((rd_T25 l0_4 x3_1).f1), .string ((rd_T25 l0_4 x3_1).f2), .slice none 0 0, .slice none 0 0]) ?_ 3 _ rfl; (with_reducible repeat (first | refine blk_drewN ?_ _ | refine blk_drew ?_ | refine blk_alloc ?_ _)); refine blk_put (cs := #[.int .i64 ((rd_T25 l0_4 x3_1).f0), .int .i64 ((rd_T25 l0_4 x3_1).f1), .string (⟨#[]⟩ : ByteArray), .slice none 0 0, .slice none 0 0]) ?_ 2 _ rfl; (with_reducible repeat (first | refine blk_drewN ?_ _ | refine blk_drew ?_ | refine blk_alloc ?_ _)); refine blk_put (cs := #[.int .i64 ((rd_T25 l0_4 x3_1).f0), .int .i64 0, .string (⟨#[]⟩ : ByteArray), .slice none 0 0, .slice none 0 0]) ?_ 1 _ rfl; (with_reducible repeat (first | refine blk_drewN ?_ _ | refine blk_drew ?_ | refine blk_alloc ?_ _)); refine blk_put (cs := #[.int .i64 0, .int .i64 0, .string (⟨#[]⟩ : ByteArray), .slice none 0 0, .slice none 0 0]) ?_ 0 _ rfl; (with_reducible repeat (first | refine blk_drewN ?_ _ | refine blk_drew ?_ | refine blk_alloc ?_ _)); exact BK236.out) hb); have n2_ := aM (below_step (by repeat (first | (with_reducible first | exact HB.out | apply below_alloc | apply pw_below_drewN | apply below_drew1 | refine below_set ?_ GE233.out | refine below_set ?_ GE236.out) | exact HB.out)) hb); clear BK233; clear BK236; clear HB; have BK233 := n0_; have BK236 := n1_; have HB := n2_; clear n0_ n1_ n2_; (try clear hb); (try clear hb2); (try clear hk); (try clear hi)))
          go_ret
          exact ⟨by first | rfl | (simp [errW_none, errW_some] <;> rfl) | (simp [*, errW_none, errW_some] <;> rfl), by repeat (first | (with_reducible first | exact HB.out | apply below_alloc | apply pw_below_drewN | apply below_drew1 | refine below_set ?_ GE233.out | refine below_set ?_ GE236.out) | exact HB.out)⟩
       ·replace c13 := Bool.eq_false_iff.mpr c13
        subst c13
        have H1 : (some false) = some r := by rw [if_neg (show ¬ (false = true) by decide)] at H; exact H
        clear H
        have H := H1
        clear H1
        obtain rfl := Option.some.inj H
        have hcz34_0 : wr.cell? ⟨gb233, 0, none⟩ = some (.int .i64 a0_0) := (blk_cell BK233.out 0).trans rfl
        have hcz34_1 : wr.cell? ⟨gb233, 1, none⟩ = some (.int .i64 a0_1) := (blk_cell BK233.out 1).trans rfl
        have hcz34_2 : wr.cell? ⟨gb233, 2, none⟩ = some (.string a0_2) := (blk_cell BK233.out 2).trans rfl
        have hcz34_3 : wr.cell? ⟨gb233, 3, none⟩ = some (.slice A0_3 l0_3.length c0_3) := (blk_cell BK233.out 3).trans rfl
        have hcz34_4 : wr.cell? ⟨gb233, 4, none⟩ = some (.slice A0_4 l0_4.length c0_4) := (blk_cell BK233.out 4).trans rfl
        have hfz34_0 := blk_frozen BK233.out 0
        have hfz34_1 := blk_frozen BK233.out 1
        have hfz34_2 := blk_frozen BK233.out 2
        have hfz34_3 := blk_frozen BK233.out 3
        have hfz34_4 := blk_frozen BK233.out 4
        have p235 : 0 ≤ (x3_1 : Int) := of_decide_eq_true (by first | (with_reducible assumption) | assumption)
        have q235 : x3_1 < (l0_4.length : Int) := of_decide_eq_true (by first | (with_reducible assumption) | assumption)
        obtain ⟨ad235, A235_3, c235_3, A235_4, c235_4, e235, hx235_0, hx235_1, hx235_2, hx235_3, hx235_4, hl235_3, hi235_3, hl235_4, hi235_4⟩ := at_T25 HR0_4.out x3_1 p235 q235
        cases e235
        replace hx235_0 := (HB.out.cell (World.block_lt_of_cell? w _ hx235_0)).trans hx235_0
        replace hx235_1 := (HB.out.cell (World.block_lt_of_cell? w _ hx235_1)).trans hx235_1
        replace hx235_2 := (HB.out.cell (World.block_lt_of_cell? w _ hx235_2)).trans hx235_2
        replace hx235_3 := (HB.out.cell (World.block_lt_of_cell? w _ hx235_3)).trans hx235_3
        replace hx235_4 := (HB.out.cell (World.block_lt_of_cell? w _ hx235_4)).trans hx235_4
        have HR235_3 := aM hi235_3
        have HC235_3 := aM hl235_3
        clear hi235_3 hl235_3
        have HR235_4 := aM hi235_4
        have HC235_4 := aM hl235_4
        clear hi235_4 hl235_4
        replace p235 := eq_true p235
        replace q235 := eq_true q235
        go_wp2_with (first | ((with_reducible refine gate_dst (N := 4) rfl ?_); (try (refine gate_guard (by rfl) ?_; dsimp only)); refine box_event ?hg (N := 4) ?hd (cs := #[.int .i64 0, .int .i64 0, .string (⟨#[]⟩ : ByteArray), .slice none 0 0, .slice none 0 0]) (t := 25) ?hr ?_; (case hd => rfl); (case hg => rfl); (case hr => first | (go_simp; done) | (go_simp; rfl)); intro gb236 hg w35 hbox hb; have n0_ := aM (blk_below (g := gb233) (o := .cells #[.int .i64 a0_0, .int .i64 a0_1, .string a0_2, .slice A0_3 l0_3.length c0_3, .slice (some ad235) l0_4.length c0_4] 25 (0, 0)) (by (with_reducible repeat (first | refine blk_drewN ?_ _ | refine blk_drew ?_ | refine blk_alloc ?_ _)); exact BK233.out) hb); have n1_ := aM (below_step (by repeat (first | (with_reducible first | exact HB.out | apply below_alloc | apply pw_below_drewN | apply below_drew1 | refine below_set ?_ GE233.out) | exact HB.out)) hb); have n2_ := aM (hbox); have n3_ := aM ((by rw [hg]; exact (below_size (by repeat (first | (with_reducible first | exact HB.out | apply below_alloc | apply pw_below_drewN | apply below_drew1 | refine below_set ?_ GE233.out) | exact HB.out))) : w.heap.size ≤ gb236)); have n4_ := aM ((by rw [hg]; exact (below_size (by repeat (first | (with_reducible first | exact HB.out | apply below_alloc | apply pw_below_drewN | apply below_drew1 | refine below_set ?_ GE233.out) | exact HB.out))) : w.heap.size ≤ gb236)); have n5_ := aM ((by rw [hg]; exact Nat.ne_of_lt (blk_lt (g := gb233) (o := .cells #[.int .i64 a0_0, .int .i64 a0_1, .string a0_2, .slice A0_3 l0_3.length c0_3, .slice (some ad235) l0_4.length c0_4] 25 (0, 0)) (by (with_reducible repeat (first | refine blk_drewN ?_ _ | refine blk_drew ?_ | refine blk_alloc ?_ _)); exact BK233.out)) : gb233 ≠ gb236)); have n6_ := aM ((by rw [hg]; exact Nat.ne_of_gt (blk_lt (g := gb233) (o := .cells #[.int .i64 a0_0, .int .i64 a0_1, .string a0_2, .slice A0_3 l0_3.length c0_3, .slice (some ad235) l0_4.length c0_4] 25 (0, 0)) (by (with_reducible repeat (first | refine blk_drewN ?_ _ | refine blk_drew ?_ | refine blk_alloc ?_ _)); exact BK233.out)) : gb236 ≠ gb233)); clear BK233; clear HB; have BK233 := n0_; have HB := n1_; have BK236 := n2_; have GW236 := n3_; have GE236 := n4_; have NB233_236 := n5_; have NB236_233 := n6_; clear n0_ n1_ n2_ n3_ n4_ n5_ n6_; clear hb hbox hg; have hnb36 := NB236_233.out; have hnc36 := NB233_236.out; have hcz37_0 : w35.cell? ⟨gb236, 0, none⟩ = some (.int .i64 0) := (blk_cell BK236.out 0).trans rfl; have hcz37_1 : w35.cell? ⟨gb236, 1, none⟩ = some (.int .i64 0) := (blk_cell BK236.out 1).trans rfl; have hcz37_2 : w35.cell? ⟨gb236, 2, none⟩ = some (.string (⟨#[]⟩ : ByteArray)) := (blk_cell BK236.out 2).trans rfl; have hcz37_3 : w35.cell? ⟨gb236, 3, none⟩ = some (.slice none 0 0) := (blk_cell BK236.out 3).trans rfl; have hcz37_4 : w35.cell? ⟨gb236, 4, none⟩ = some (.slice none 0 0) := (blk_cell BK236.out 4).trans rfl; have hfz37_0 := blk_frozen BK236.out 0; have hfz37_1 := blk_frozen BK236.out 1; have hfz37_2 := blk_frozen BK236.out 2; have hfz37_3 := blk_frozen BK236.out 3; have hfz37_4 := blk_frozen BK236.out 4; have hcz38_0 : w35.cell? ⟨gb233, 0, none⟩ = some (.int .i64 a0_0) := (blk_cell BK233.out 0).trans rfl; have hcz38_1 : w35.cell? ⟨gb233, 1, none⟩ = some (.int .i64 a0_1) := (blk_cell BK233.out 1).trans rfl; have hcz38_2 : w35.cell? ⟨gb233, 2, none⟩ = some (.string a0_2) := (blk_cell BK233.out 2).trans rfl; have hcz38_3 : w35.cell? ⟨gb233, 3, none⟩ = some (.slice A0_3 l0_3.length c0_3) := (blk_cell BK233.out 3).trans rfl; have hcz38_4 : w35.cell? ⟨gb233, 4, none⟩ = some (.slice (some ad235) l0_4.length c0_4) := (blk_cell BK233.out 4).trans rfl; have hfz38_0 := blk_frozen BK233.out 0; have hfz38_1 := blk_frozen BK233.out 1; have hfz38_2 := blk_frozen BK233.out 2; have hfz38_3 := blk_frozen BK233.out 3; have hfz38_4 := blk_frozen BK233.out 4; have p237 : 0 ≤ (x3_1 : Int) := of_decide_eq_true (by first | (with_reducible assumption) | assumption); have q237 : x3_1 < (l0_3.length : Int) := of_decide_eq_true (by first | (with_reducible assumption) | assumption); obtain ⟨ad237, e237, hx237_0⟩ := Kd.at_string HR0_3.out x3_1 p237 q237; cases e237; have hn237_0 : ad237.block ≠ gb236 := Nat.ne_of_lt (Nat.lt_of_lt_of_le (by have := World.block_lt_of_cell? _ _ hx237_0; first | rwa [add_block] at this | exact this) GW236.out); have hn237_1 : ad237.block ≠ gb236 := Nat.ne_of_lt (Nat.lt_of_lt_of_le (by have := World.block_lt_of_cell? _ _ hx237_0; first | rwa [add_block] at this | exact this) GW236.out); have hn237_2 : ad237.block ≠ gb236 := Nat.ne_of_lt (Nat.lt_of_lt_of_le (by have := World.block_lt_of_cell? _ _ hx237_0; first | rwa [add_block] at this | exact this) GW236.out); have hn237_3 : ad237.block ≠ gb236 := Nat.ne_of_lt (Nat.lt_of_lt_of_le (by have := World.block_lt_of_cell? _ _ hx237_0; first | rwa [add_block] at this | exact this) GW236.out); have hn237_4 : ad237.block ≠ gb236 := Nat.ne_of_lt (Nat.lt_of_lt_of_le (by have := World.block_lt_of_cell? _ _ hx237_0; first | rwa [add_block] at this | exact this) GW236.out); replace hx237_0 := (HB.out.cell (World.block_lt_of_cell? w _ hx237_0)).trans hx237_0; replace hx237_0 := (cell_far (p := ⟨gb236, 0, none⟩) (by first | (rw [add_block]; exact hn237_0) | (show (Addr.add _ _).block ≠ _; rw [add_block]; exact hn237_0) | exact hn237_0) (.int .i64 ((rd_T25 l0_4 x3_1).f0))).trans hx237_0; replace hx237_0 := (cell_far (p := ⟨gb236, 1, none⟩) (by first | (rw [add_block]; exact hn237_1) | (show (Addr.add _ _).block ≠ _; rw [add_block]; exact hn237_1) | exact hn237_1) (.int .i64 ((rd_T25 l0_4 x3_1).f1))).trans hx237_0; replace hx237_0 := (cell_far (p := ⟨gb236, 2, none⟩) (by first | (rw [add_block]; exact hn237_2) | (show (Addr.add _ _).block ≠ _; rw [add_block]; exact hn237_2) | exact hn237_2) (.string ((rd_T25 l0_4 x3_1).f2))).trans hx237_0; replace hx237_0 := (cell_far (p := ⟨gb236, 3, none⟩) (by first | (rw [add_block]; exact hn237_3) | (show (Addr.add _ _).block ≠ _; rw [add_block]; exact hn237_3) | exact hn237_3) (.slice A235_3 ((rd_T25 l0_4 x3_1).f3).length c235_3)).trans hx237_0; replace hx237_0 := (cell_far (p := ⟨gb236, 4, none⟩) (by first | (rw [add_block]; exact hn237_4) | (show (Addr.add _ _).block ≠ _; rw [add_block]; exact hn237_4) | exact hn237_4) (.slice A235_4 ((rd_T25 l0_4 x3_1).f4).length c235_4)).trans hx237_0; clear hn237_0; clear hn237_1; clear hn237_2; clear hn237_3; clear hn237_4; replace p237 := eq_true p237; replace q237 := eq_true q237) | ((with_reducible refine gate_callee (f := 40) rfl ?_); refine goesL_ (some 27) rfl rfl Try.func40 (by kernel_rfl) rfl #[.string (rdOf ByteArray.empty l0_3 x3_1)] rfl (by (try simp only [List.map_toArray, List.map_cons, List.map_nil]); first | done | rfl | (simp only [List.length_drop, List.length_take]; rfl)) ?_; (with_reducible refine (spec_sayName.calls k1 (rdOf ByteArray.empty l0_3 x3_1) false _ A12.out).mono ?_); rintro e w' ⟨rfl, ⟨nd, rfl⟩⟩; refine ⟨_, rfl, ?_⟩))
        go_ret
        exact ⟨by first | rfl | (simp [errW_none, errW_some] <;> rfl) | (simp [*, errW_none, errW_some] <;> rfl), by repeat (first | (with_reducible first | exact HB.out | apply below_alloc | apply pw_below_drewN | apply below_drew1 | refine below_set ?_ GE233.out | refine below_set ?_ GE236.out) | exact HB.out)⟩
      ·rw [if_neg c11] at H
       exact absurd H (by simp)
     ·rw [if_neg c10] at H
      exact absurd H (by simp)
    ·rw [if_neg c9] at H
     have c9b0 : decide (x3_1 < (l0_3.length : Int)) = false := decide_eq_false c9
     clear c9
     by_cases c39 : a0_0 = 5
     ·rw [if_pos c39] at H
      have c39b0 : (a0_0 == 5) = true := beq_iff_eq.mpr c39
      have c39b1 : (a0_0 != 5) = false := bne_eq_false_iff_eq.mpr c39
      clear c39
      obtain rfl := Option.some.inj H
      have hcz40_0 : wr.cell? ⟨gb233, 0, none⟩ = some (.int .i64 a0_0) := (blk_cell BK233.out 0).trans rfl
      have hcz40_1 : wr.cell? ⟨gb233, 1, none⟩ = some (.int .i64 a0_1) := (blk_cell BK233.out 1).trans rfl
      have hcz40_2 : wr.cell? ⟨gb233, 2, none⟩ = some (.string a0_2) := (blk_cell BK233.out 2).trans rfl
      have hcz40_3 : wr.cell? ⟨gb233, 3, none⟩ = some (.slice A0_3 l0_3.length c0_3) := (blk_cell BK233.out 3).trans rfl
      have hcz40_4 : wr.cell? ⟨gb233, 4, none⟩ = some (.slice A0_4 l0_4.length c0_4) := (blk_cell BK233.out 4).trans rfl
      have hfz40_0 := blk_frozen BK233.out 0
      have hfz40_1 := blk_frozen BK233.out 1
      have hfz40_2 := blk_frozen BK233.out 2
      have hfz40_3 := blk_frozen BK233.out 3
      have hfz40_4 := blk_frozen BK233.out 4
      go_wp2
      go_ret
      exact ⟨by first | rfl | (simp [errW_none, errW_some] <;> rfl) | (simp [*, errW_none, errW_some] <;> rfl), by repeat (first | (with_reducible first | exact HB.out | apply below_alloc | apply pw_below_drewN | apply below_drew1 | refine below_set ?_ GE233.out) | exact HB.out)⟩
     ·rw [if_neg c39] at H
      have c39b0 : (a0_0 == 5) = false := beq_eq_false_iff_ne.mpr c39
      have c39b1 : (a0_0 != 5) = true := bne_iff_ne.mpr c39
      obtain rfl := Option.some.inj H
      have hcz41_0 : wr.cell? ⟨gb233, 0, none⟩ = some (.int .i64 a0_0) := (blk_cell BK233.out 0).trans rfl
      have hcz41_1 : wr.cell? ⟨gb233, 1, none⟩ = some (.int .i64 a0_1) := (blk_cell BK233.out 1).trans rfl
      have hcz41_2 : wr.cell? ⟨gb233, 2, none⟩ = some (.string a0_2) := (blk_cell BK233.out 2).trans rfl
      have hcz41_3 : wr.cell? ⟨gb233, 3, none⟩ = some (.slice A0_3 l0_3.length c0_3) := (blk_cell BK233.out 3).trans rfl
      have hcz41_4 : wr.cell? ⟨gb233, 4, none⟩ = some (.slice A0_4 l0_4.length c0_4) := (blk_cell BK233.out 4).trans rfl
      have hfz41_0 := blk_frozen BK233.out 0
      have hfz41_1 := blk_frozen BK233.out 1
      have hfz41_2 := blk_frozen BK233.out 2
      have hfz41_3 := blk_frozen BK233.out 3
      have hfz41_4 := blk_frozen BK233.out 4
      go_wp2
      go_ret
      exact ⟨by first | rfl | (simp [errW_none, errW_some] <;> rfl) | (simp [*, errW_none, errW_some] <;> rfl), by repeat (first | (with_reducible first | exact HB.out | apply below_alloc | apply pw_below_drewN | apply below_drew1 | refine below_set ?_ GE233.out) | exact HB.out)⟩
end Go.Proofs.Ytaembebbaejfiaa.PS
namespace Go.Proofs.Ytaembebbaejfiaa.Tr
open Go.RowKit Go.Proofs.YtaembebbaejfiaaW.PrintWords Go.Proofs.YtaembebbaejfiaaW.PrintLast Go.Proofs.Ytaembebbaejfiaa.Str Go.Proofs.Ytaembebbaejfiaa.Kit Go.Proofs.Ytaembebbaejfiaa.MapV Go.Proofs.Ytaembebbaejfiaa.Frame Go.Proofs.Ytaembebbaejfiaa.PS
open Go.Proofs.Ytaembebbaejfiaa.Val (place placeI placeB placeI_hit placeI_end)
set_option linter.unusedVariables false
set_option linter.unusedSimpArgs false
theorem wrapM (i : Nat) (h : i < 9223372036854775807) : wrap64 ((i : Int) + 1) = ((i + 1 : Nat) : Int) := by unfold wrap64; omega
theorem ends_sayName_l (s : BA) (hs : s.size ≤ 9223372036854775807) : ∀ (d i : Nat), i + d = s.size → Ends (fun _ => True) (fun k => spec_sayName.l0 k s (i : Int)) := by
 intro d
 induction d with
 | zero =>
  intro i hi
  refine Ends.step (fun k => by simp only [spec_sayName.l0]; rfl) ?_
  exact Ends.no (by omega) (Ends.now trivial)
 | succ d ih =>
  intro i hi
  have hn := ih (i + 1) (by omega)
  refine Ends.step (fun k => by simp only [spec_sayName.l0]; rfl) ?_
  rw [wrapM i (by omega)]
  refine Ends.yes (by omega) (Ends.yes (by omega) ?_)
  repeat' first
   | exact hn
   | exact Ends.now trivial
   | (refine Ends.ite (fun _ => ?_) (fun _ => ?_))
theorem ends_sayName (s : BA) (hs : s.size ≤ 9223372036854775807) : Ends (fun _ => True) (fun k => spec_sayName.f k s) := ends_sayName_l s hs s.size 0 (by omega)
def TextIn (x : VS) : Prop := x.f2.size < 4611686018427387904
theorem ends_sayNames_l (x : VS) (hl : x.f4.length < 4611686018427387904) (ht : ∀ v, v ∈ x.f4 → TextIn v) : ∀ (d i : Nat), i + d = x.f4.length →
  Ends (fun b => b = true → x.f0 = 4 ∧ ∀ (j : Nat) (hj : j < x.f4.length), i ≤ j → x.f4[j].f0 = 3) (fun k => spec_sayNames.l0 k (i : Int) x.f0 x.f1 x.f2 x.f3 x.f4) := by
 intro d
 induction d with
 | zero =>
  intro i hi
  refine Ends.step (fun k => by simp only [spec_sayNames.l0]; rfl) ?_
  refine Ends.no (by omega) (Ends.ite (fun h => Ends.now (fun _ => ⟨h, fun j hj hij => absurd hj (by omega)⟩)) (fun _ => Ends.now (fun h => by cases h)))
 | succ d ih =>
  intro i hi
  have hlt : i < x.f4.length := by omega
  have hn := ih (i + 1) (by omega)
  refine Ends.step (fun k => by simp only [spec_sayNames.l0]; rfl) ?_
  rw [wrapS i (by omega), rdS hlt]
  refine Ends.yes (by omega) (Ends.yes (by omega) (Ends.ite (fun h3 => Ends.bind (ends_sayName _ (by have := ht _ (List.getElem_mem hlt); unfold TextIn at this; omega)) (fun b _ => Ends.ite (fun _ => hn.mono (fun r hr h => ?_)) (fun _ => Ends.now (fun h => by cases h)))) (fun _ => Ends.now (fun h => by cases h))))
  obtain ⟨h4, hj⟩ := hr h
  refine ⟨h4, fun j hjl hij => ?_⟩
  by_cases e : j = i
  ·subst e; exact h3
  ·exact hj j hjl (by omega)
theorem ends_sayNames (x : VS) (hl : x.f4.length < 4611686018427387904) (ht : ∀ v, v ∈ x.f4 → TextIn v) : Ends (fun b => b = true → x.f0 = 4 ∧ ∀ v, v ∈ x.f4 → v.f0 = 3) (fun k => spec_sayNames.f k x.f0 x.f1 x.f2 x.f3 x.f4) :=
 (ends_sayNames_l x hl ht x.f4.length 0 (by omega)).mono (fun r hr h => ⟨(hr h).1, fun v hv => by obtain ⟨j, hj, rfl⟩ := List.getElem_of_mem hv; exact (hr h).2 j hj (Nat.zero_le _)⟩)
theorem ends_sayDigits_l (s : BA) (a b : Int) (hs : s.size < 4611686018427387904) : ∀ (d i : Nat) (n : Int), i + d = s.size → Ends (fun _ => True) (fun k => spec_sayDigits.l0 k s a b n (i : Int)) := by
 intro d
 induction d with
 | zero =>
  intro i n hi
  refine Ends.step (fun k => by simp only [spec_sayDigits.l0]; rfl) ?_
  refine Ends.no (by omega) ?_
  repeat' first
   | exact Ends.now trivial
   | (refine Ends.ite (fun _ => ?_) (fun _ => ?_))
 | succ d ih =>
  intro i n hi
  refine Ends.step (fun k => by simp only [spec_sayDigits.l0]; rfl) ?_
  rw [wrapS i (by omega)]
  refine Ends.yes (by omega) (Ends.yes (by omega) ?_)
  repeat' first
   | exact Ends.now trivial
   | exact ih (i + 1) _ (by omega)
   | (refine Ends.yes (show 0 < (s.size : Int) by omega) ?_)
   | (refine Ends.ite (fun _ => ?_) (fun _ => ?_))
theorem ends_sayDigits (s : BA) (a b : Int) (hs : s.size < 4611686018427387904) : Ends (fun _ => True) (fun k => spec_sayDigits.f k s a b) := ends_sayDigits_l s a b hs s.size 0 0 (by omega)
theorem ends_sayAddress_l (x : VS) (hs : TextIn x) : ∀ (d i p : Nat) (q : Int), i + d = x.f2.size + 1 → p ≤ i → Ends (fun _ => True) (fun k => spec_sayAddress.l0 k q (p : Int) (i : Int) x.f0 x.f1 x.f2 x.f3 x.f4) := by
 intro d
 induction d with
 | zero =>
  intro i p q hi hp
  unfold TextIn at hs
  refine Ends.step (fun k => by simp only [spec_sayAddress.l0]; rfl) ?_
  refine Ends.no (by omega) ?_
  repeat' first
   | exact Ends.now trivial
   | (refine Ends.ite (fun _ => ?_) (fun _ => ?_))
 | succ d ih =>
  intro i p q hi hp
  unfold TextIn at hs
  have hj : ∀ c : Bool, Ends (fun _ => True) (fun k => spec_sayAddress.j1 k q (p : Int) (i : Int) c x.f0 x.f1 x.f2 x.f3 x.f4) := by
   intro c
   refine Ends.step (fun k => by simp only [spec_sayAddress.j1]; rfl) ?_
   rw [wrapS i (by omega)]
   refine Ends.ite (fun _ => ih (i + 1) p q (by omega) (by omega)) (fun _ => Ends.yes (by omega) (Ends.yes (by omega) (Ends.yes (by omega) (Ends.bind (ends_sayDigits _ _ _ ?_) (fun b _ => Ends.ite (fun _ => ih (i + 1) (i + 1) _ (by omega) (Nat.le_refl _)) (fun _ => Ends.now trivial))))))
   rw [ByteArray.size_extract]
   omega
  refine Ends.step (fun k => by simp only [spec_sayAddress.l0]; rfl) ?_
  exact Ends.yes (by omega) (Ends.ite (fun _ => Ends.yes (by omega) (hj _)) (fun _ => hj _))
theorem ends_sayAddress (x : VS) (hs : TextIn x) : Ends (fun _ => True) (fun k => spec_sayAddress.f k x.f0 x.f1 x.f2 x.f3 x.f4) := ends_sayAddress_l x hs (x.f2.size + 1) 0 0 0 (by omega) (by omega)
theorem ends_sayNet (x : VS) (hx : InStep x) (ht : ∀ v, v ∈ x.f4 → TextIn v) : Ends (fun _ => True) (fun k => spec_sayNet.f k x.f0 x.f1 x.f2 x.f3 x.f4) := by
 unfold spec_sayNet.f
 refine Ends.bindEv (ev_Get x _ hx) (Ends.ite (fun _ => Ends.ite (fun h => ?_) (fun _ => Ends.now trivial)) (fun _ => Ends.now trivial))
 refine Ends.bind (ends_sayAddress _ ?_) (fun b _ => Ends.now trivial)
 cases hg : getV x (⟨#[105, 112, 118, 52, 95, 97, 100, 100, 114, 101, 115, 115]⟩ : BA) with
 | none => rw [hg] at h; cases h
 | some v =>
  obtain ⟨_, _, hl, he⟩ := getV_some hg
  subst he
  exact ht _ (List.getElem_mem hl)
theorem ends_sayNets_l (x : VS) (hx : InStep x) (hv : ∀ v, v ∈ x.f4 → InStep v ∧ ∀ u, u ∈ v.f4 → TextIn u) (hk : ∀ s, s ∈ x.f3 → s.size ≤ 9223372036854775807) : ∀ (d i : Nat), i + d = x.f3.length →
  Ends (fun b => b = true → x.f0 = 5) (fun k => spec_sayNets.l0 k (i : Int) x.f0 x.f1 x.f2 x.f3 x.f4) := by
 intro d
 induction d with
 | zero =>
  intro i hi
  refine Ends.step (fun k => by simp only [spec_sayNets.l0]; rfl) ?_
  exact Ends.no (by omega) (Ends.ite (fun h => Ends.now (fun _ => h)) (fun _ => Ends.now (fun h => by cases h)))
 | succ d ih =>
  intro i hi
  have hlt : i < x.f3.length := by omega
  have hlv : i < x.f4.length := Nat.lt_of_lt_of_le hlt hx.1
  have hn := ih (i + 1) (by omega)
  refine Ends.step (fun k => by simp only [spec_sayNets.l0]; rfl) ?_
  rw [wrapS i (by have := hx.2; omega), rdS hlv, rdB hlt]
  refine Ends.yes (by omega) (Ends.yes (by omega) (Ends.yes (by omega) (Ends.bind (ends_sayName _ (hk _ (List.getElem_mem hlt))) (fun b _ => Ends.ite (fun _ => Ends.ite (fun _ => hn) (fun _ => Ends.bind (ends_sayNet _ (hv _ (List.getElem_mem hlv)).1 (hv _ (List.getElem_mem hlv)).2) (fun c _ => Ends.ite (fun _ => hn) (fun _ => Ends.now (fun h => by cases h))))) (fun _ => Ends.now (fun h => by cases h))))))
def nullsOf (ts : List BA) : VS := ⟨5, 0, ⟨#[]⟩, (fitW ts (ts.map fun _ => leaf 0 0 ⟨#[]⟩) [] []).1, (fitW ts (ts.map fun _ => leaf 0 0 ⟨#[]⟩) [] []).2⟩
theorem ends_sayNets (x : VS) (hx : InStep x) (hl : x.f4.length < 4611686018427387904) (ht : ∀ v, v ∈ x.f4 → TextIn v) (hv : ∀ v, v ∈ x.f4 → InStep v ∧ ∀ u, u ∈ v.f4 → TextIn u) (hk : ∀ s, s ∈ x.f3 → s.size ≤ 9223372036854775807) :
  Ends (fun b => b = true → (x.f0 = 4 ∧ ∀ v, v ∈ x.f4 → v.f0 = 3) ∨ x.f0 = 5) (fun k => spec_sayNets.f k x.f0 x.f1 x.f2 x.f3 x.f4) := by
 unfold spec_sayNets.f
 refine Ends.ite (fun h4 => Ends.bind (ends_sayNames x hl ht) (fun b hb => Ends.now (fun h => .inl (hb h)))) (fun h4 => ?_)
 exact (ends_sayNets_l x hx hv hk x.f3.length 0 (by omega)).mono (fun r hr h => .inr (hr h))
end Go.Proofs.Ytaembebbaejfiaa.Tr
