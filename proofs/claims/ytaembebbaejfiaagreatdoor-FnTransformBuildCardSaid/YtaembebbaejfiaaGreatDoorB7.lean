/- Parts of the proof, laid together: FromAny, Canon, Ends, QSpecSame, PureSame, Gives, SpecMGA, QSpecSayName, QSpecSayNames, QSpecSayDigits. -/
import Derived.Test.YtaembebbaejfiaaGreatDoorB6
import Derived.Test.YtaembebbaejfiaaGreatDoorB2
import Derived.Test.YtaembebbaejfiaaGreatDoorB3
import Derived.Test.YtaembebbaejfiaaGreatDoorB4
namespace Go.Proofs.YtaembebbaejfiaaGreatDoor.Tr
open Go.RowKit Go.Proofs.YtaembebbaejfiaaGreatDoorW.PrintWords Go.Proofs.YtaembebbaejfiaaGreatDoorW.PrintLast Go.Proofs.YtaembebbaejfiaaGreatDoor.Str Go.Proofs.YtaembebbaejfiaaGreatDoor.Kit Go.Proofs.YtaembebbaejfiaaGreatDoor.MapV Go.Proofs.YtaembebbaejfiaaGreatDoor.Frame Go.Proofs.YtaembebbaejfiaaGreatDoor.PS
set_option linter.unusedVariables false
set_option linter.unusedSimpArgs false
mutual
def valOf : Y → VI
 | .null => ⟨0, 0, ⟨#[]⟩, [], []⟩
 | .bool b => ⟨1, if b then 1 else 0, ⟨#[]⟩, [], []⟩
 | .int n => ⟨2, n, ⟨#[]⟩, [], []⟩
 | .text s => ⟨3, 0, s, [], []⟩
 | .list l => ⟨4, 0, ⟨#[]⟩, [], valL l⟩
 | .map m => ⟨5, 0, ⟨#[]⟩, m.map (fun p => ⟨p.1.toArray⟩), valM m⟩
def valL : List Y → List VI
 | [] => []
 | y :: r => valOf y :: valL r
def valM : List (Bs × Y) → List VI
 | [] => []
 | p :: r => valP p :: valM r
def valP : Bs × Y → VI
 | (_, y) => valOf y
end
theorem valL_map : ∀ l, valL l = l.map valOf
 | [] => by simp [valL]
 | y :: r => by simp [valL, valL_map r]
theorem valM_map : ∀ m, valM m = m.map (fun p => valOf p.2)
 | [] => by simp [valM]
 | (k, y) :: r => by simp [valM, valP, valM_map r]
def Told (w : World) (x : VI) (e : Ending) (w' : World) : Prop := ∃ v3 v4, e = .returned (.tuple #[.agg #[.int .i64 x.f0, .int .i64 x.f1, .string x.f2, v3, v4], .bool true]) ∧ Kd.string.R 9 w' w.heap.size (fun _ => True) v3 x.f3 ∧ kI.R 45 w' w.heap.size (fun _ => True) v4 x.f4 ∧ Below w.heap.size w w'
def zI : Array Value := #[.int .i64 0, .int .i64 0, .string ⟨#[]⟩, .slice none 0 0, .slice none 0 0]
section
theorem t_bool (v : Value) (w : World) : (Instr.typeAssert (.iface 4 v) 20 4 true).run Tryz.prog w = .ok (.tuple #[v, .bool true]) w := by kernel_rfl
theorem t_int_bool (v : Value) (w : World) : (Instr.typeAssert (.iface 3 v) 20 4 true).run Tryz.prog w = .ok (.tuple #[.bool false, .bool false]) w := by kernel_rfl
theorem t_int (v : Value) (w : World) : (Instr.typeAssert (.iface 3 v) 20 3 true).run Tryz.prog w = .ok (.tuple #[v, .bool true]) w := by kernel_rfl
theorem t_str_bool (v : Value) (w : World) : (Instr.typeAssert (.iface 9 v) 20 4 true).run Tryz.prog w = .ok (.tuple #[.bool false, .bool false]) w := by kernel_rfl
theorem t_str_int (v : Value) (w : World) : (Instr.typeAssert (.iface 9 v) 20 3 true).run Tryz.prog w = .ok (.tuple #[.int .i64 0, .bool false]) w := by kernel_rfl
theorem t_str_i64 (v : Value) (w : World) : (Instr.typeAssert (.iface 9 v) 20 2 true).run Tryz.prog w = .ok (.tuple #[.int .i64 0, .bool false]) w := by kernel_rfl
theorem t_str_u64 (v : Value) (w : World) : (Instr.typeAssert (.iface 9 v) 20 74 true).run Tryz.prog w = .ok (.tuple #[.int .u64 0, .bool false]) w := by kernel_rfl
theorem t_str (v : Value) (w : World) : (Instr.typeAssert (.iface 9 v) 20 9 true).run Tryz.prog w = .ok (.tuple #[v, .bool true]) w := by kernel_rfl
end
theorem told_leaf {fn : Func} (hr : fn.results = #[.cell 2 45, .tmp 3]) {tmps : Array Value} {w W : World} {k n : Int} {t : BA} (hp : tmps.getD 2 undef = .pointer (some ⟨w.heap.size, 0, none⟩)) (h3 : tmps.getD 3 undef = .bool true) (hb : W.heap[w.heap.size]? = some (.cells #[.int .i64 k, .int .i64 n, .string t, .slice none 0 0, .slice none 0 0] 45 (0, 0))) :
  (results fn tmps).run Tryz.prog W = .ok (.tuple #[.agg #[.int .i64 k, .int .i64 n, .string t, .slice none 0 0, .slice none 0 0], .bool true]) W := by
 have := results_ct (P := Tryz.prog) hr tmps W w.heap.size 45 _ (0, 0) _ hp hb Tryz.underlying45 rfl ival_size
 rw [h3] at this
 exact this
set_option maxHeartbeats 800000 in
theorem from_null (w : World) : Calls Tryz.prog 46 #[.nilIface] w (Told w (valOf .null)) := by
 have h0 := cb_new w (.cells #[.int .i64 0, .int .i64 0, .string ⟨#[]⟩, .slice none 0 0, .slice none 0 0] 45)
 have HB := aM (below_alloc (Below.refl w.heap.size w) (.cells #[.int .i64 0, .int .i64 0, .string ⟨#[]⟩, .slice none 0 0, .slice none 0 0] 45))
 go_enter Tryz.func46, Tryz.ntmps46
 go_wp2_with (refine store_ival (.tmp 2) (.tmp 18) rfl rfl rfl rfl h0 ?_)
 have h1 := setRow_heap _ w.heap.size _ #[.int .i64 0, .int .i64 0, .string ⟨#[]⟩, .slice none 0 0, .slice none 0 0] _ _ h0
 have hB := pw_below_grown HB.out (some w.heap.size) HB.out.size (grown_setRow _ w.heap.size #[.int .i64 0, .int .i64 0, .string ⟨#[]⟩, .slice none 0 0, .slice none 0 0]) (fun k hk => by injection hk with hk; have h2 : w.heap.size = k := hk; omega)
 exact bodyPost_ret (v := .tuple #[.agg #[.int .i64 0, .int .i64 0, .string ⟨#[]⟩, .slice none 0 0, .slice none 0 0], .bool true]) (told_leaf rfl rfl rfl h1) rfl ⟨.slice none 0 0, .slice none 0 0, by simp [valOf], by simp only [valOf]; exact Kd.R_nil _ _ _ _ _, by simp only [valOf]; exact Kd.R_nil _ _ _ _ _, hB⟩
set_option maxHeartbeats 800000 in
theorem from_btrue (w : World) : Calls Tryz.prog 46 #[(.iface 4 (.bool true))] w (Told w (valOf (.bool true))) := by
 have f0 := t_bool
 have h0 := cb_new w (.cells #[.int .i64 0, .int .i64 0, .string ⟨#[]⟩, .slice none 0 0, .slice none 0 0] 45)
 have HB := aM (below_alloc (Below.refl w.heap.size w) (.cells #[.int .i64 0, .int .i64 0, .string ⟨#[]⟩, .slice none 0 0, .slice none 0 0] 45))
 go_enter Tryz.func46, Tryz.ntmps46
 go_wp2_with (refine store_ival (.tmp 2) (.tmp 23) rfl rfl rfl rfl h0 ?_)
 have h1 := setRow_heap _ w.heap.size _ #[.int .i64 1, .int .i64 1, .string ⟨#[]⟩, .slice none 0 0, .slice none 0 0] _ _ h0
 have hB := pw_below_grown HB.out (some w.heap.size) HB.out.size (grown_setRow _ w.heap.size #[.int .i64 1, .int .i64 1, .string ⟨#[]⟩, .slice none 0 0, .slice none 0 0]) (fun k hk => by injection hk with hk; have h2 : w.heap.size = k := hk; omega)
 exact bodyPost_ret (v := .tuple #[.agg #[.int .i64 1, .int .i64 1, .string ⟨#[]⟩, .slice none 0 0, .slice none 0 0], .bool true]) (told_leaf rfl rfl rfl h1) rfl ⟨.slice none 0 0, .slice none 0 0, by simp [valOf], by simp only [valOf]; exact Kd.R_nil _ _ _ _ _, by simp only [valOf]; exact Kd.R_nil _ _ _ _ _, hB⟩
set_option maxHeartbeats 800000 in
theorem from_bfalse (w : World) : Calls Tryz.prog 46 #[(.iface 4 (.bool false))] w (Told w (valOf (.bool false))) := by
 have f0 := t_bool
 have h0 := cb_new w (.cells #[.int .i64 0, .int .i64 0, .string ⟨#[]⟩, .slice none 0 0, .slice none 0 0] 45)
 have HB := aM (below_alloc (Below.refl w.heap.size w) (.cells #[.int .i64 0, .int .i64 0, .string ⟨#[]⟩, .slice none 0 0, .slice none 0 0] 45))
 go_enter Tryz.func46, Tryz.ntmps46
 go_wp2_with (refine store_ival (.tmp 2) (.tmp 24) rfl rfl rfl rfl h0 ?_)
 have h1 := setRow_heap _ w.heap.size _ #[.int .i64 1, .int .i64 0, .string ⟨#[]⟩, .slice none 0 0, .slice none 0 0] _ _ h0
 have hB := pw_below_grown HB.out (some w.heap.size) HB.out.size (grown_setRow _ w.heap.size #[.int .i64 1, .int .i64 0, .string ⟨#[]⟩, .slice none 0 0, .slice none 0 0]) (fun k hk => by injection hk with hk; have h2 : w.heap.size = k := hk; omega)
 exact bodyPost_ret (v := .tuple #[.agg #[.int .i64 1, .int .i64 0, .string ⟨#[]⟩, .slice none 0 0, .slice none 0 0], .bool true]) (told_leaf rfl rfl rfl h1) rfl ⟨.slice none 0 0, .slice none 0 0, by simp [valOf], by simp only [valOf]; exact Kd.R_nil _ _ _ _ _, by simp only [valOf]; exact Kd.R_nil _ _ _ _ _, hB⟩
set_option maxHeartbeats 800000 in
theorem from_int (n : Int) (w : World) : Calls Tryz.prog 46 #[(.iface 3 (.int .i64 n))] w (Told w (valOf (.int n))) := by
 have f0 := t_int_bool
 have f1 := t_int
 have h0 := cb_new w (.cells #[.int .i64 0, .int .i64 0, .string ⟨#[]⟩, .slice none 0 0, .slice none 0 0] 45)
 have HB := aM (below_alloc (Below.refl w.heap.size w) (.cells #[.int .i64 0, .int .i64 0, .string ⟨#[]⟩, .slice none 0 0, .slice none 0 0] 45))
 go_enter Tryz.func46, Tryz.ntmps46
 go_wp2_with (refine store_ival (.tmp 2) (.tmp 29) rfl rfl rfl rfl h0 ?_)
 have h1 := setRow_heap _ w.heap.size _ #[.int .i64 2, .int .i64 n, .string ⟨#[]⟩, .slice none 0 0, .slice none 0 0] _ _ h0
 have hB := pw_below_grown HB.out (some w.heap.size) HB.out.size (grown_setRow _ w.heap.size #[.int .i64 2, .int .i64 n, .string ⟨#[]⟩, .slice none 0 0, .slice none 0 0]) (fun k hk => by injection hk with hk; have h2 : w.heap.size = k := hk; omega)
 exact bodyPost_ret (v := .tuple #[.agg #[.int .i64 2, .int .i64 n, .string ⟨#[]⟩, .slice none 0 0, .slice none 0 0], .bool true]) (told_leaf rfl rfl rfl h1) rfl ⟨.slice none 0 0, .slice none 0 0, by simp [valOf], by simp only [valOf]; exact Kd.R_nil _ _ _ _ _, by simp only [valOf]; exact Kd.R_nil _ _ _ _ _, hB⟩
set_option maxHeartbeats 800000 in
theorem from_text (s : BA) (w : World) : Calls Tryz.prog 46 #[(.iface 9 (.string s))] w (Told w (valOf (.text s))) := by
 have f0 := t_str_bool
 have f1 := t_str_int
 have f2 := t_str_i64
 have f3 := t_str_u64
 have f4 := t_str
 have h0 := cb_new w (.cells #[.int .i64 0, .int .i64 0, .string ⟨#[]⟩, .slice none 0 0, .slice none 0 0] 45)
 have HB := aM (below_alloc (Below.refl w.heap.size w) (.cells #[.int .i64 0, .int .i64 0, .string ⟨#[]⟩, .slice none 0 0, .slice none 0 0] 45))
 go_enter Tryz.func46, Tryz.ntmps46
 go_wp2_with (refine store_ival (.tmp 2) (.tmp 45) rfl rfl rfl rfl h0 ?_)
 have h1 := setRow_heap _ w.heap.size _ #[.int .i64 3, .int .i64 0, .string s, .slice none 0 0, .slice none 0 0] _ _ h0
 have hB := pw_below_grown HB.out (some w.heap.size) HB.out.size (grown_setRow _ w.heap.size #[.int .i64 3, .int .i64 0, .string s, .slice none 0 0, .slice none 0 0]) (fun k hk => by injection hk with hk; have h2 : w.heap.size = k := hk; omega)
 exact bodyPost_ret (v := .tuple #[.agg #[.int .i64 3, .int .i64 0, .string s, .slice none 0 0, .slice none 0 0], .bool true]) (told_leaf rfl rfl rfl h1) rfl ⟨.slice none 0 0, .slice none 0 0, by simp [valOf], by simp only [valOf]; exact Kd.R_nil _ _ _ _ _, by simp only [valOf]; exact Kd.R_nil _ _ _ _ _, hB⟩
end Go.Proofs.YtaembebbaejfiaaGreatDoor.Tr
namespace Go.Proofs.YtaembebbaejfiaaGreatDoor.Tr
open Go.RowKit Go.Proofs.YtaembebbaejfiaaGreatDoorW.PrintWords Go.Proofs.YtaembebbaejfiaaGreatDoorW.PrintLast Go.Proofs.YtaembebbaejfiaaGreatDoor.Str Go.Proofs.YtaembebbaejfiaaGreatDoor.Kit Go.Proofs.YtaembebbaejfiaaGreatDoor.MapV Go.Proofs.YtaembebbaejfiaaGreatDoor.Frame Go.Proofs.YtaembebbaejfiaaGreatDoor.PS
open Go.Proofs.YtaembebbaejfiaaGreatDoor.Val (place placeI placeB placeI_hit placeI_end)
set_option linter.unusedVariables false
set_option linter.unusedSimpArgs false
inductive Canon : VS → Prop
 | null : Canon (leaf 0 0 ⟨#[]⟩)
 | bool (b : Bool) : Canon (leaf 1 (if b then 1 else 0) ⟨#[]⟩)
 | int (n : Int) : Canon (leaf 2 n ⟨#[]⟩)
 | text (s : BA) : Canon (leaf 3 0 s)
 | list (l : List VS) (h : ∀ v, v ∈ l → Canon v) : Canon ⟨4, 0, ⟨#[]⟩, [], l⟩
 | map (ks : List BA) (vs : List VS) (hr : RiseK ks) (hl : ks.length = vs.length) (h : ∀ v, v ∈ vs → Canon v) : Canon ⟨5, 0, ⟨#[]⟩, ks, vs⟩
theorem canon_fit : ∀ x : VS, SmallS x → Canon (fitV x) := by
 intro x hx
 induction hx with
 | mk x ht hk hkl hvl hv ih =>
  obtain ⟨k, n, t, ks, vs⟩ := x
  have hch : ∀ v, v ∈ fitL vs → Canon v := fun v hv' => by
   rw [fitL_map] at hv'
   obtain ⟨u, hu, rfl⟩ := List.mem_map.1 hv'
   exact ih u hu
  by_cases h1 : k = 1
  ·subst h1
   by_cases hn : n = 0
   ·have := Canon.bool false
    simpa [fitV, hn] using this
   ·have := Canon.bool true
    simpa [fitV, hn] using this
  by_cases h2 : k = 2
  ·subst h2; have := Canon.int n; simpa [fitV] using this
  by_cases h3 : k = 3
  ·subst h3; have := Canon.text t; simpa [fitV] using this
  by_cases h4 : k = 4
  ·subst h4
   have := Canon.list (fitL vs) hch
   simpa [fitV] using this
  by_cases h5 : k = 5
  ·subst h5
   obtain ⟨a, b, c, d, e, f⟩ := fitW_facts ks (fitL vs) [] [] rfl List.Pairwise.nil
   have := Canon.map _ _ b a (fun v h => by
    rcases f v h with h | h
    ·cases h
    ·exact hch v h)
   simpa [fitV] using this
  ·have := Canon.null
   simpa [fitV, h1, h2, h3, h4, h5] using this
theorem zip_keys {α : Type} : ∀ (ks : List BA) (ys : List α), ks.length = ys.length → ((ks.map lb).zip ys).map (fun p => (⟨p.1.toArray⟩ : BA)) = ks
 | [], _, _ => rfl
 | k :: ks, y :: ys, h => by
  rw [List.map_cons, List.zip_cons_cons, List.map_cons, zip_keys ks ys (by simpa using h)]
 | _ :: _, [], h => by simp at h
theorem zip_vals {α β : Type} (g : α → β) : ∀ (ks : List BA) (ys : List α), ks.length = ys.length → ((ks.map lb).zip ys).map (fun p => g p.2) = ys.map g
 | [], [], _ => rfl
 | k :: ks, y :: ys, h => by
  rw [List.map_cons, List.zip_cons_cons, List.map_cons, zip_vals g ks ys (by simpa using h), List.map_cons]
 | _ :: _, [], h => by simp at h
 | [], _ :: _, h => by simp at h
theorem canon_anyOf_map {ks : List BA} {vs : List VS} (hr : RiseK ks) (n : Int) (t : BA) : anyOf (toI ⟨5, n, t, ks, vs⟩) = .map ((ks.map lb).zip (anyL (toL vs))) := by
 rw [toI_eq]
 simp only [anyOf]
 rw [if_neg (by decide), if_neg (by decide), if_neg (by decide), if_neg (by decide), if_pos trivial, fitM_id (pairs_rise hr)]
theorem canon_back {x : VS} (h : Canon x) : valOf (anyOf (toI x)) = toI x := by
 induction h with
 | null => simp [leaf, toI, toL, anyOf, valOf]
 | bool b => cases b <;> simp [leaf, toI, toL, anyOf, valOf]
 | int n => simp [leaf, toI, toL, anyOf, valOf]
 | text s => simp [leaf, toI, toL, anyOf, valOf]
 | list l h ih =>
  simp only [toI_eq, anyOf]
  rw [if_neg (by decide), if_neg (by decide), if_neg (by decide), if_pos trivial]
  simp only [valOf]
  rw [valL_map, anyL_map, toL_map, List.map_map, List.map_map]
  have e : l.map ((valOf ∘ anyOf) ∘ toI) = l.map toI := List.map_congr_left (fun v hv => ih v hv)
  rw [e]
 | map ks vs hr hl h ih =>
  have hl2 : ks.length = (anyL (toL vs)).length := by rw [anyL_length, toL_length]; exact hl
  rw [canon_anyOf_map hr, toI_eq]
  simp only [valOf]
  rw [valM_map, zip_keys ks _ hl2, zip_vals valOf ks _ hl2, anyL_map, toL_map, List.map_map, List.map_map]
  have e : vs.map ((valOf ∘ anyOf) ∘ toI) = vs.map toI := List.map_congr_left (fun v hv => ih v hv)
  rw [e]
mutual
theorem from_to : ∀ x : VS, fromI (toI x) = x
 | ⟨k, n, t, ks, vs⟩ => by rw [toI, fromI, from_toL vs]
theorem from_toL : ∀ l : List VS, fromL (toL l) = l
 | [] => by simp [toL, fromL]
 | v :: r => by rw [toL, fromL, from_to v, from_toL r]
end
theorem with_mput {α β : Type} (g : α → β) : ∀ (ks : List BA) (vs : List α) (key : BA) (x : α), RiseK ks → ks.length = vs.length → ((withK ks key).map lb).zip ((withV ks vs key x).map g) = mput ((ks.map lb).zip (vs.map g)) (lb key) (g x)
 | [], [], key, x, _, _ => rfl
 | k :: ks, v :: vs, key, x, hr, hl => by
  obtain ⟨h1, h2⟩ := List.pairwise_cons.1 hr
  have hl' : ks.length = vs.length := by simpa using hl
  rw [List.map_cons, List.map_cons, List.zip_cons_cons]
  by_cases hlt : lb k < lb key
  ·obtain ⟨e1, e2⟩ := place_cons_lt (r := ks) hlt
   have ek : withK (k :: ks) key = k :: withK ks key := by
    unfold withK
    rw [e1, e2]
    split <;> rfl
   have ev : withV (k :: ks) (v :: vs) key x = v :: withV ks vs key x := by
    unfold withV
    rw [e1, e2]
    split <;> rfl
   rw [ek, ev, List.map_cons, List.map_cons, List.zip_cons_cons, with_mput g ks vs key x h2 hl', mput_lt hlt]
  ·obtain ⟨e1, e2⟩ := place_cons_ge (r := ks) hlt
   by_cases he : lb k = lb key
   ·have hb : (k.toList == key.toList) = true := by rw [toList_lb, toList_lb, he]; exact beq_self_eq_true _
    have ek : withK (k :: ks) key = k :: ks := by
     unfold withK
     rw [e2, hb, if_pos rfl]
    have ev : withV (k :: ks) (v :: vs) key x = x :: vs := by
     unfold withV
     rw [e2, e1, hb, if_pos rfl]
     rfl
    rw [ek, ev, List.map_cons, List.map_cons, List.zip_cons_cons, mput_eq he (fun p hp => ?_), he]
    obtain ⟨a, b⟩ := p
    obtain ⟨s, hs, rfl⟩ := List.mem_map.1 (List.of_mem_zip hp).1
    rw [← he]
    exact h1 s hs
   ·have hb : (k.toList == key.toList) = false := by rw [toList_lb, toList_lb]; simpa using he
    have hgt : lb key < lb k := by
     rcases lt_total (lb k) (lb key) with e | e | e
     ·exact absurd e hlt
     ·exact absurd e he
     ·exact e
    have ek : withK (k :: ks) key = key :: k :: ks := by
     unfold withK
     rw [e2, e1, hb, if_neg (by decide)]
     rfl
    have ev : withV (k :: ks) (v :: vs) key x = x :: v :: vs := by
     unfold withV
     rw [e2, e1, hb, if_neg (by decide)]
     rfl
    rw [ek, ev, List.map_cons, List.map_cons, List.map_cons, List.map_cons, List.zip_cons_cons, List.zip_cons_cons, mput_gt (fun p hp => ?_)]
    rcases List.mem_cons.1 hp with rfl | hp
    ·exact hgt
    ·obtain ⟨a, b⟩ := p
     obtain ⟨s, hs, rfl⟩ := List.mem_map.1 (List.of_mem_zip hp).1
     exact lt_trans hgt (h1 s hs)
 | _ :: _, [], _, _, _, h => by simp at h
 | [], _ :: _, _, _, _, h => by simp at h
theorem fitW_mput {β : Type} (g : VS → β) : ∀ (ks : List BA) (vs : List VS) (K : List BA) (V : List VS), RiseK K → K.length = V.length → ks.length = vs.length →
  ((fitW ks vs K V).1.map lb).zip ((fitW ks vs K V).2.map g) = ((ks.map lb).zip (vs.map g)).foldl (fun f p => mput f p.1 p.2) ((K.map lb).zip (V.map g))
 | [], [], K, V, _, _, _ => rfl
 | k :: ks, v :: vs, K, V, hr, hl, hn => by
  rw [fitW, fitW_mput g ks vs _ _ (withK_rises hr) (withV_length (x := v) hl).symm (by simpa using hn), with_mput g K V k v hr hl]
  rfl
 | _ :: _, [], _, _, _, _, h => by simp at h
 | [], _ :: _, _, _, _, _, h => by simp at h
end Go.Proofs.YtaembebbaejfiaaGreatDoor.Tr
namespace Go.Proofs.YtaembebbaejfiaaGreatDoor.Tr
open Go.RowKit Go.Proofs.YtaembebbaejfiaaGreatDoorW.PrintWords Go.Proofs.YtaembebbaejfiaaGreatDoorW.PrintLast
set_option linter.unusedVariables false
def Ends {α : Type} (P : α → Prop) (g : Nat → Option α) : Prop := ∃ r, Ev g r ∧ P r
section
variable {α β : Type} {P : α → Prop} {g f : Nat → Option α}
theorem Ends.of {r : α} (h : Ev g r) (hp : P r) : Ends P g := ⟨r, h, hp⟩
theorem Ends.ev {r : α} (h : Ends (fun x => x = r) g) : Ev g r := by
 obtain ⟨x, hx, rfl⟩ := h
 exact hx
theorem Ev.ends {r : α} (h : Ev g r) : Ends (fun x => x = r) g := ⟨r, h, rfl⟩
theorem Ends.mono {Q : α → Prop} (h : Ends P g) (hq : ∀ r, P r → Q r) : Ends Q g := by
 obtain ⟨x, hx, hp⟩ := h
 exact ⟨x, hx, hq x hp⟩
theorem Ends.now {r : α} (h : P r) : Ends P (fun _ => some r) := ⟨r, Ev.now r, h⟩
theorem Ends.ite {c : Prop} [Decidable c] (h1 : c → Ends P f) (h2 : ¬ c → Ends P g) : Ends P (fun k => if c then f k else g k) := by
 by_cases h : c
 ·obtain ⟨r, hr, hp⟩ := h1 h
  exact ⟨r, Ev.congr (fun k => by rw [if_pos h]) hr, hp⟩
 ·obtain ⟨r, hr, hp⟩ := h2 h
  exact ⟨r, Ev.congr (fun k => by rw [if_neg h]) hr, hp⟩
theorem Ends.yes {c : Prop} [Decidable c] (hc : c) (h : Ends P f) : Ends P (fun k => if c then f k else g k) := Ends.ite (fun _ => h) (fun n => absurd hc n)
theorem Ends.no {c : Prop} [Decidable c] (hc : ¬ c) (h : Ends P g) : Ends P (fun k => if c then f k else g k) := Ends.ite (fun n => absurd n hc) (fun _ => h)
theorem Ends.bind {Q : β → Prop} {u : Nat → Option β} {v : Nat → β → Option α} (hu : Ends Q u) (hv : ∀ a, Q a → Ends P (fun k => v k a)) : Ends P (fun k => (u k).bind (v k)) := by
 obtain ⟨a, ha, hq⟩ := hu
 obtain ⟨r, hr, hp⟩ := hv a hq
 exact ⟨r, Ev.bind ha hr, hp⟩
theorem Ends.bindEv {u : Nat → Option β} {v : Nat → β → Option α} {a : β} (hu : Ev u a) (hv : Ends P (fun k => v k a)) : Ends P (fun k => (u k).bind (v k)) := Ends.bind (Ev.ends hu) (fun _ h => by rw [h]; exact hv)
theorem Ends.step (h : ∀ k, g (k + 1) = f k) (k : Ends P f) : Ends P g := by
 obtain ⟨r, hr, hp⟩ := k
 exact ⟨r, Ev.step h hr, hp⟩
theorem Ends.congr (h : ∀ k, g k = f k) (k : Ends P f) : Ends P g := by
 obtain ⟨r, hr, hp⟩ := k
 exact ⟨r, Ev.congr h hr, hp⟩
end
end Go.Proofs.YtaembebbaejfiaaGreatDoor.Tr
namespace Go.Proofs.YtaembebbaejfiaaGreatDoor.PS
open Go.RowKit Go.Proofs.YtaembebbaejfiaaGreatDoorW.PrintWords Go.Proofs.YtaembebbaejfiaaGreatDoorW.PrintLast Go.Proofs.YtaembebbaejfiaaGreatDoorW.PrintMore
attribute [local go_sem] max2_int min2_int max_two min_two max_three min_three max_four min_four 
set_option linter.unusedVariables false
set_option linter.unusedSimpArgs false
mutual
def spec_Same.j0 : Nat → Bool → Int → Int → ByteArray → List ByteArray → List (S25) → Int → Int → ByteArray → List ByteArray → List (S25) → Option (Bool)
 | 0, _, _, _, _, _, _, _, _, _, _, _ => none
 | k + 1, x43, x522000, x522001, x522002, x522003, x522004, x523000, x523001, x523002, x523003, x523004 => if x43 = true then (some false) else (spec_Same.l0 k 0 x522000 x522001 x522002 x522003 x522004 x523000 x523001 x523002 x523003 x523004)
def spec_Same.l0 : Nat → Int → Int → Int → ByteArray → List ByteArray → List (S25) → Int → Int → ByteArray → List ByteArray → List (S25) → Option (Bool)
 | 0, _, _, _, _, _, _, _, _, _, _, _ => none
 | k + 1, x5, x522000, x522001, x522002, x522003, x522004, x523000, x523001, x523002, x523003, x523004 => if x5 < (x522003.length : Int) then (if 0 ≤ x5 then (if x5 < (x523003.length : Int) then (if (rdOf ByteArray.empty x522003 x5).toList = (rdOf ByteArray.empty x523003 x5).toList then (spec_Same.l0 k (wrap64 (x5 + 1)) x522000 x522001 x522002 x522003 x522004 x523000 x523001 x523002 x523003 x523004) else (some false)) else (none)) else (none)) else (spec_Same.l1 k 0 x522000 x522001 x522002 x522003 x522004 x523000 x523001 x523002 x523003 x523004)
def spec_Same.l1 : Nat → Int → Int → Int → ByteArray → List ByteArray → List (S25) → Int → Int → ByteArray → List ByteArray → List (S25) → Option (Bool)
 | 0, _, _, _, _, _, _, _, _, _, _, _ => none
 | k + 1, x6, x522000, x522001, x522002, x522003, x522004, x523000, x523001, x523002, x523003, x523004 => if x6 < (x522004.length : Int) then (if 0 ≤ x6 then (if x6 < (x523004.length : Int) then ((spec_Same.f k ((rd_T25 x522004 x6).f0) ((rd_T25 x522004 x6).f1) ((rd_T25 x522004 x6).f2) ((rd_T25 x522004 x6).f3) ((rd_T25 x522004 x6).f4) ((rd_T25 x523004 x6).f0) ((rd_T25 x523004 x6).f1) ((rd_T25 x523004 x6).f2) ((rd_T25 x523004 x6).f3) ((rd_T25 x523004 x6).f4)).bind fun t527 => (if t527 = true then (spec_Same.l1 k (wrap64 (x6 + 1)) x522000 x522001 x522002 x522003 x522004 x523000 x523001 x523002 x523003 x523004) else (some false))) else (none)) else (none)) else (some true)
def spec_Same.f : Nat → Int → Int → ByteArray → List ByteArray → List (S25) → Int → Int → ByteArray → List ByteArray → List (S25) → Option (Bool)
 | 0, _, _, _, _, _, _, _, _, _, _ => none
 | k + 1, a0_0, a0_1, a0_2, l0_3, l0_4, a1_0, a1_1, a1_2, l1_3, l1_4 => if a0_0 = a1_0 then (if a0_1 = a1_1 then (if a0_2.toList = a1_2.toList then (if (l0_3.length : Int) = (l1_3.length : Int) then (spec_Same.j0 k ((l0_4.length : Int) != (l1_4.length : Int)) a0_0 a0_1 a0_2 l0_3 l0_4 a1_0 a1_1 a1_2 l1_3 l1_4) else (spec_Same.j0 k true a0_0 a0_1 a0_2 l0_3 l0_4 a1_0 a1_1 a1_2 l1_3 l1_4)) else (spec_Same.j0 k true a0_0 a0_1 a0_2 l0_3 l0_4 a1_0 a1_1 a1_2 l1_3 l1_4)) else (spec_Same.j0 k true a0_0 a0_1 a0_2 l0_3 l0_4 a1_0 a1_1 a1_2 l1_3 l1_4)) else (spec_Same.j0 k true a0_0 a0_1 a0_2 l0_3 l0_4 a1_0 a1_1 a1_2 l1_3 l1_4)
end
def spec_Same.T6 : Bool × List (List Nat × List Nat) := (true, [([], []), ([0], [0]), ([], []), ([1, 2], [1, 2]), ([3], [3]), ([], []), ([5], [5]), ([], []), ([6, 7], [6, 7]), ([8], [8]), ([4, 9], [4, 9])])
def spec_Same.B6 : List Nat := [0, 1, 0, 7, 15, 0, 32, 0, 224, 480, 1023]
theorem spec_Same.tab6 : rtab .any (opsOf Tryz.f22 6) = spec_Same.T6 := by kernel_rfl
theorem spec_Same.bits6 : waitsOk spec_Same.T6.2 spec_Same.B6 = true := by kernel_rfl
def spec_Same.T11 : Bool × List (List Nat × List Nat) := (true, [([], []), ([0], [0]), ([], []), ([1, 2], [1, 2]), ([3], [3]), ([], []), ([5], [5]), ([], []), ([6, 7], [6, 7]), ([8], [8]), ([4, 9], [4, 9]), ([10], [10])])
def spec_Same.B11 : List Nat := [0, 1, 0, 7, 15, 0, 32, 0, 224, 480, 1023, 2047]
theorem spec_Same.tab11 : rtab .any (opsOf Tryz.f22 11) = spec_Same.T11 := by kernel_rfl
theorem spec_Same.bits11 : waitsOk spec_Same.T11.2 spec_Same.B11 = true := by kernel_rfl
set_option maxHeartbeats 8000000 in
set_option maxRecDepth 100000 in
theorem spec_Same.calls (k : Nat) : ∀ (a0_0 : Int) (a0_1 : Int) (a0_2 : ByteArray) (A0_3 : Option Addr) (c0_3 : Nat) (l0_3 : List ByteArray) (A0_4 : Option Addr) (c0_4 : Nat) (l0_4 : List (S25)) (a1_0 : Int) (a1_1 : Int) (a1_2 : ByteArray) (A1_3 : Option Addr) (c1_3 : Nat) (l1_3 : List ByteArray) (A1_4 : Option Addr) (c1_4 : Nat) (l1_4 : List (S25)) (r : Bool) (w : World) (hr0_3 : Kd.C Kd.string w A0_3 l0_3.length l0_3) (hc0_3 : l0_3.length ≤ c0_3) (hr0_4 : Kd.C k25 w A0_4 l0_4.length l0_4) (hc0_4 : l0_4.length ≤ c0_4) (hr1_3 : Kd.C Kd.string w A1_3 l1_3.length l1_3) (hc1_3 : l1_3.length ≤ c1_3) (hr1_4 : Kd.C k25 w A1_4 l1_4.length l1_4) (hc1_4 : l1_4.length ≤ c1_4) (h : spec_Same.f k a0_0 a0_1 a0_2 l0_3 l0_4 a1_0 a1_1 a1_2 l1_3 l1_4 = some r),
  Calls Tryz.prog 22 #[.agg #[.int .i64 a0_0, .int .i64 a0_1, .string a0_2, .slice A0_3 l0_3.length c0_3, .slice A0_4 l0_4.length c0_4], .agg #[.int .i64 a1_0, .int .i64 a1_1, .string a1_2, .slice A1_3 l1_3.length c1_3, .slice A1_4 l1_4.length c1_4]] w fun e w' => e = .returned (.bool r) ∧ Below w.heap.size w w' := by
 induction k using Nat.strongRecOn with
 | _ k ih =>
 intro a0_0 a0_1 a0_2 A0_3 c0_3 l0_3 A0_4 c0_4 l0_4 a1_0 a1_1 a1_2 A1_3 c1_3 l1_3 A1_4 c1_4 l1_4 r w hr0_3 hc0_3 hr0_4 hc0_4 hr1_3 hc1_3 hr1_4 hc1_4 h
 cases k with
 | zero => exact absurd h (by simp [spec_Same.f])
 | succ k =>
 simp only [spec_Same.f] at h
 have hu25 := Tryz.underlying25
 have HR0_3 := aM hr0_3
 have HC0_3 := aM hc0_3
 clear hr0_3 hc0_3
 have HR0_4 := aM hr0_4
 have HC0_4 := aM hc0_4
 clear hr0_4 hc0_4
 have HR1_3 := aM hr1_3
 have HC1_3 := aM hc1_3
 clear hr1_3 hc1_3
 have HR1_4 := aM hr1_4
 have HC1_4 := aM hc1_4
 clear hr1_4 hc1_4
 have HB := aM (Below.refl w.heap.size w)
 have H : (if a0_0 = a1_0 then (if a0_1 = a1_1 then (if a0_2.toList = a1_2.toList then (if (l0_3.length : Int) = (l1_3.length : Int) then (spec_Same.j0 k ((l0_4.length : Int) != (l1_4.length : Int)) a0_0 a0_1 a0_2 l0_3 l0_4 a1_0 a1_1 a1_2 l1_3 l1_4) else (spec_Same.j0 k true a0_0 a0_1 a0_2 l0_3 l0_4 a1_0 a1_1 a1_2 l1_3 l1_4)) else (spec_Same.j0 k true a0_0 a0_1 a0_2 l0_3 l0_4 a1_0 a1_1 a1_2 l1_3 l1_4)) else (spec_Same.j0 k true a0_0 a0_1 a0_2 l0_3 l0_4 a1_0 a1_1 a1_2 l1_3 l1_4)) else (spec_Same.j0 k true a0_0 a0_1 a0_2 l0_3 l0_4 a1_0 a1_1 a1_2 l1_3 l1_4)) = some r := h
 clear h
 have HC3 := aM H
 clear H
 go_enter Tryz.func22, Tryz.ntmps22
 go_upto_region 1 with (first | ((with_reducible refine gate_dst (N := 2) rfl ?_); (try (refine gate_guard (by rfl) ?_; dsimp only)); refine box_event ?hg (N := 2) ?hd (cs := #[.int .i64 a0_0, .int .i64 a0_1, .string a0_2, .slice A0_3 l0_3.length c0_3, .slice A0_4 l0_4.length c0_4]) (t := 25) ?hr ?_; (case hd => rfl); (case hg => rfl); (case hr => first | (go_simp; done) | (go_simp; rfl)); intro gb521 hg w4 hbox hb; have n0_ := aM (below_step (by repeat (first | (with_reducible first | exact HB.out | apply below_alloc | apply pw_below_drewN | apply below_drew1) | exact HB.out)) hb); have n1_ := aM (hbox); have n2_ := aM ((by rw [hg]; exact (below_size (by repeat (first | (with_reducible first | exact HB.out | apply below_alloc | apply pw_below_drewN | apply below_drew1) | exact HB.out))) : w.heap.size ≤ gb521)); have n3_ := aM ((by rw [hg]; exact (below_size (by repeat (first | (with_reducible first | exact HB.out | apply below_alloc | apply pw_below_drewN | apply below_drew1) | exact HB.out))) : w.heap.size ≤ gb521)); clear HB; have HB := n0_; have BK521 := n1_; have GW521 := n2_; have GE521 := n3_; clear n0_ n1_ n2_ n3_; clear hb hbox hg) | ((with_reducible refine gate_dst (N := 3) rfl ?_); (try (refine gate_guard (by rfl) ?_; dsimp only)); refine box_event ?hg (N := 3) ?hd (cs := #[.int .i64 a1_0, .int .i64 a1_1, .string a1_2, .slice A1_3 l1_3.length c1_3, .slice A1_4 l1_4.length c1_4]) (t := 25) ?hr ?_; (case hd => rfl); (case hg => rfl); (case hr => first | (go_simp; done) | (go_simp; rfl)); intro gb522 hg w5 hbox hb; have n0_ := aM (blk_below (g := gb521) (o := .cells #[.int .i64 a0_0, .int .i64 a0_1, .string a0_2, .slice A0_3 l0_3.length c0_3, .slice A0_4 l0_4.length c0_4] 25 (0, 0)) (by (with_reducible repeat (first | refine blk_drewN ?_ _ | refine blk_drew ?_ | refine blk_alloc ?_ _)); exact BK521.out) hb); have n1_ := aM (below_step (by repeat (first | (with_reducible first | exact HB.out | apply below_alloc | apply pw_below_drewN | apply below_drew1 | refine below_set ?_ GE521.out) | exact HB.out)) hb); have n2_ := aM (hbox); have n3_ := aM ((by rw [hg]; exact (below_size (by repeat (first | (with_reducible first | exact HB.out | apply below_alloc | apply pw_below_drewN | apply below_drew1 | refine below_set ?_ GE521.out) | exact HB.out))) : w.heap.size ≤ gb522)); have n4_ := aM ((by rw [hg]; exact (below_size (by repeat (first | (with_reducible first | exact HB.out | apply below_alloc | apply pw_below_drewN | apply below_drew1 | refine below_set ?_ GE521.out) | exact HB.out))) : w.heap.size ≤ gb522)); have n5_ := aM ((by rw [hg]; exact Nat.ne_of_lt (blk_lt (g := gb521) (o := .cells #[.int .i64 a0_0, .int .i64 a0_1, .string a0_2, .slice A0_3 l0_3.length c0_3, .slice A0_4 l0_4.length c0_4] 25 (0, 0)) (by (with_reducible repeat (first | refine blk_drewN ?_ _ | refine blk_drew ?_ | refine blk_alloc ?_ _)); exact BK521.out)) : gb521 ≠ gb522)); have n6_ := aM ((by rw [hg]; exact Nat.ne_of_gt (blk_lt (g := gb521) (o := .cells #[.int .i64 a0_0, .int .i64 a0_1, .string a0_2, .slice A0_3 l0_3.length c0_3, .slice A0_4 l0_4.length c0_4] 25 (0, 0)) (by (with_reducible repeat (first | refine blk_drewN ?_ _ | refine blk_drew ?_ | refine blk_alloc ?_ _)); exact BK521.out)) : gb522 ≠ gb521)); clear BK521; clear HB; have BK521 := n0_; have HB := n1_; have BK522 := n2_; have GW522 := n3_; have GE522 := n4_; have NB521_522 := n5_; have NB522_521 := n6_; clear n0_ n1_ n2_ n3_ n4_ n5_ n6_; clear hb hbox hg))
 (try simp only [Act.put, List.setIfInBounds_toArray, List.set_cons_zero, List.set_cons_succ])
 go_cut [43] (fun v43 wc => ∃ (kq : Nat) (x43_2 : Bool), v43 = .bool x43_2 ∧ Aside0 (spec_Same.j0 kq x43_2 a0_0 a0_1 a0_2 l0_3 l0_4 a1_0 a1_1 a1_2 l1_3 l1_4 = some r) ∧ Aside0 (kq ≤ k) ∧ Aside0 (wc.heap[gb521]? = some (.cells #[.int .i64 a0_0, .int .i64 a0_1, .string a0_2, (.slice A0_3 l0_3.length c0_3), (.slice A0_4 l0_4.length c0_4)] 25 (0, 0))) ∧ Aside0 (wc.heap[gb522]? = some (.cells #[.int .i64 a1_0, .int .i64 a1_1, .string a1_2, (.slice A1_3 l1_3.length c1_3), (.slice A1_4 l1_4.length c1_4)] 25 (0, 0))) ∧ Aside0 (Below w.heap.size w wc))
 case first =>
  have H := HC3.out
  clear HC3
  by_cases c6 : a0_0 = a1_0
  ·rw [if_pos c6] at H
   have c6b0 : (a0_0 == a1_0) = true := beq_iff_eq.mpr c6
   have c6b1 : (a0_0 != a1_0) = false := bne_eq_false_iff_eq.mpr c6
   clear c6
   (first | rw [c6b0] | (simp only [i64_w, i32_w]; rw [c6b0]) | skip)
   by_cases c7 : a0_1 = a1_1
   ·rw [if_pos c7] at H
    have c7b0 : (a0_1 == a1_1) = true := beq_iff_eq.mpr c7
    have c7b1 : (a0_1 != a1_1) = false := bne_eq_false_iff_eq.mpr c7
    clear c7
    by_cases c8 : a0_2.toList = a1_2.toList
    ·rw [if_pos c8] at H
     have c8b0 : (a0_2.toList == a1_2.toList) = true := beq_iff_eq.mpr c8
     have c8b1 : (a0_2.toList != a1_2.toList) = false := bne_eq_false_iff_eq.mpr c8
     clear c8
     by_cases c9 : (l0_3.length : Int) = (l1_3.length : Int)
     ·rw [if_pos c9] at H
      have c9b0 : ((l0_3.length : Int) == (l1_3.length : Int)) = true := beq_iff_eq.mpr c9
      have c9b1 : ((l0_3.length : Int) != (l1_3.length : Int)) = false := bne_eq_false_iff_eq.mpr c9
      have c9b2 : (l0_3.length == l1_3.length) = true := by first | simpa using c9 | (simp at c9 ⊢; omega)
      clear c9
      have H' := aM H
      clear H
      have hnb10 := NB521_522.out
      have hnc10 := NB522_521.out
      have hcz11_0 : w5.cell? ⟨gb521, 0, none⟩ = some (.int .i64 a0_0) := (blk_cell BK521.out 0).trans rfl
      have hcz11_1 : w5.cell? ⟨gb521, 1, none⟩ = some (.int .i64 a0_1) := (blk_cell BK521.out 1).trans rfl
      have hcz11_2 : w5.cell? ⟨gb521, 2, none⟩ = some (.string a0_2) := (blk_cell BK521.out 2).trans rfl
      have hcz11_3 : w5.cell? ⟨gb521, 3, none⟩ = some (.slice A0_3 l0_3.length c0_3) := (blk_cell BK521.out 3).trans rfl
      have hcz11_4 : w5.cell? ⟨gb521, 4, none⟩ = some (.slice A0_4 l0_4.length c0_4) := (blk_cell BK521.out 4).trans rfl
      have hfz11_0 := blk_frozen BK521.out 0
      have hfz11_1 := blk_frozen BK521.out 1
      have hfz11_2 := blk_frozen BK521.out 2
      have hfz11_3 := blk_frozen BK521.out 3
      have hfz11_4 := blk_frozen BK521.out 4
      have hcz12_0 : w5.cell? ⟨gb522, 0, none⟩ = some (.int .i64 a1_0) := (blk_cell BK522.out 0).trans rfl
      have hcz12_1 : w5.cell? ⟨gb522, 1, none⟩ = some (.int .i64 a1_1) := (blk_cell BK522.out 1).trans rfl
      have hcz12_2 : w5.cell? ⟨gb522, 2, none⟩ = some (.string a1_2) := (blk_cell BK522.out 2).trans rfl
      have hcz12_3 : w5.cell? ⟨gb522, 3, none⟩ = some (.slice A1_3 l1_3.length c1_3) := (blk_cell BK522.out 3).trans rfl
      have hcz12_4 : w5.cell? ⟨gb522, 4, none⟩ = some (.slice A1_4 l1_4.length c1_4) := (blk_cell BK522.out 4).trans rfl
      have hfz12_0 := blk_frozen BK522.out 0
      have hfz12_1 := blk_frozen BK522.out 1
      have hfz12_2 := blk_frozen BK522.out 2
      have hfz12_3 := blk_frozen BK522.out 3
      have hfz12_4 := blk_frozen BK522.out 4
      go_wp2
      go_meet
      case rel => exact ⟨_, (((l0_4.length : Int) != (l1_4.length : Int))), (by first | rfl | (simp; done) | (simp [*]; done)), H', ⟨by first | omega | exact Nat.le_refl _⟩, ⟨by (with_reducible repeat (first | refine blk_drewN ?_ _ | refine blk_drew ?_ | refine blk_alloc ?_ _)); exact BK521.out⟩, ⟨by (with_reducible repeat (first | refine blk_drewN ?_ _ | refine blk_drew ?_ | refine blk_alloc ?_ _)); exact BK522.out⟩, ⟨by repeat (first | (with_reducible first | exact HB.out | apply below_alloc | apply pw_below_drewN | apply below_drew1 | refine below_set ?_ GE521.out | refine below_set ?_ GE522.out) | exact HB.out)⟩⟩
     ·rw [if_neg c9] at H
      have c9b0 : ((l0_3.length : Int) == (l1_3.length : Int)) = false := beq_eq_false_iff_ne.mpr c9
      have c9b1 : ((l0_3.length : Int) != (l1_3.length : Int)) = true := bne_iff_ne.mpr c9
      have c9b2 : (l0_3.length == l1_3.length) = false := by first | simpa using c9 | (simp at c9 ⊢; omega)
      have H' := aM H
      clear H
      have hnb13 := NB521_522.out
      have hnc13 := NB522_521.out
      have hcz14_0 : w5.cell? ⟨gb521, 0, none⟩ = some (.int .i64 a0_0) := (blk_cell BK521.out 0).trans rfl
      have hcz14_1 : w5.cell? ⟨gb521, 1, none⟩ = some (.int .i64 a0_1) := (blk_cell BK521.out 1).trans rfl
      have hcz14_2 : w5.cell? ⟨gb521, 2, none⟩ = some (.string a0_2) := (blk_cell BK521.out 2).trans rfl
      have hcz14_3 : w5.cell? ⟨gb521, 3, none⟩ = some (.slice A0_3 l0_3.length c0_3) := (blk_cell BK521.out 3).trans rfl
      have hcz14_4 : w5.cell? ⟨gb521, 4, none⟩ = some (.slice A0_4 l0_4.length c0_4) := (blk_cell BK521.out 4).trans rfl
      have hfz14_0 := blk_frozen BK521.out 0
      have hfz14_1 := blk_frozen BK521.out 1
      have hfz14_2 := blk_frozen BK521.out 2
      have hfz14_3 := blk_frozen BK521.out 3
      have hfz14_4 := blk_frozen BK521.out 4
      have hcz15_0 : w5.cell? ⟨gb522, 0, none⟩ = some (.int .i64 a1_0) := (blk_cell BK522.out 0).trans rfl
      have hcz15_1 : w5.cell? ⟨gb522, 1, none⟩ = some (.int .i64 a1_1) := (blk_cell BK522.out 1).trans rfl
      have hcz15_2 : w5.cell? ⟨gb522, 2, none⟩ = some (.string a1_2) := (blk_cell BK522.out 2).trans rfl
      have hcz15_3 : w5.cell? ⟨gb522, 3, none⟩ = some (.slice A1_3 l1_3.length c1_3) := (blk_cell BK522.out 3).trans rfl
      have hcz15_4 : w5.cell? ⟨gb522, 4, none⟩ = some (.slice A1_4 l1_4.length c1_4) := (blk_cell BK522.out 4).trans rfl
      have hfz15_0 := blk_frozen BK522.out 0
      have hfz15_1 := blk_frozen BK522.out 1
      have hfz15_2 := blk_frozen BK522.out 2
      have hfz15_3 := blk_frozen BK522.out 3
      have hfz15_4 := blk_frozen BK522.out 4
      go_wp2
      go_meet
      case rel => exact ⟨_, (true), (by first | rfl | (simp; done) | (simp [*]; done)), H', ⟨by first | omega | exact Nat.le_refl _⟩, ⟨by (with_reducible repeat (first | refine blk_drewN ?_ _ | refine blk_drew ?_ | refine blk_alloc ?_ _)); exact BK521.out⟩, ⟨by (with_reducible repeat (first | refine blk_drewN ?_ _ | refine blk_drew ?_ | refine blk_alloc ?_ _)); exact BK522.out⟩, ⟨by repeat (first | (with_reducible first | exact HB.out | apply below_alloc | apply pw_below_drewN | apply below_drew1 | refine below_set ?_ GE521.out | refine below_set ?_ GE522.out) | exact HB.out)⟩⟩
    ·rw [if_neg c8] at H
     have c8b0 : (a0_2.toList == a1_2.toList) = false := beq_eq_false_iff_ne.mpr c8
     have c8b1 : (a0_2.toList != a1_2.toList) = true := bne_iff_ne.mpr c8
     have H' := aM H
     clear H
     have hnb16 := NB521_522.out
     have hnc16 := NB522_521.out
     have hcz17_0 : w5.cell? ⟨gb521, 0, none⟩ = some (.int .i64 a0_0) := (blk_cell BK521.out 0).trans rfl
     have hcz17_1 : w5.cell? ⟨gb521, 1, none⟩ = some (.int .i64 a0_1) := (blk_cell BK521.out 1).trans rfl
     have hcz17_2 : w5.cell? ⟨gb521, 2, none⟩ = some (.string a0_2) := (blk_cell BK521.out 2).trans rfl
     have hcz17_3 : w5.cell? ⟨gb521, 3, none⟩ = some (.slice A0_3 l0_3.length c0_3) := (blk_cell BK521.out 3).trans rfl
     have hcz17_4 : w5.cell? ⟨gb521, 4, none⟩ = some (.slice A0_4 l0_4.length c0_4) := (blk_cell BK521.out 4).trans rfl
     have hfz17_0 := blk_frozen BK521.out 0
     have hfz17_1 := blk_frozen BK521.out 1
     have hfz17_2 := blk_frozen BK521.out 2
     have hfz17_3 := blk_frozen BK521.out 3
     have hfz17_4 := blk_frozen BK521.out 4
     have hcz18_0 : w5.cell? ⟨gb522, 0, none⟩ = some (.int .i64 a1_0) := (blk_cell BK522.out 0).trans rfl
     have hcz18_1 : w5.cell? ⟨gb522, 1, none⟩ = some (.int .i64 a1_1) := (blk_cell BK522.out 1).trans rfl
     have hcz18_2 : w5.cell? ⟨gb522, 2, none⟩ = some (.string a1_2) := (blk_cell BK522.out 2).trans rfl
     have hcz18_3 : w5.cell? ⟨gb522, 3, none⟩ = some (.slice A1_3 l1_3.length c1_3) := (blk_cell BK522.out 3).trans rfl
     have hcz18_4 : w5.cell? ⟨gb522, 4, none⟩ = some (.slice A1_4 l1_4.length c1_4) := (blk_cell BK522.out 4).trans rfl
     have hfz18_0 := blk_frozen BK522.out 0
     have hfz18_1 := blk_frozen BK522.out 1
     have hfz18_2 := blk_frozen BK522.out 2
     have hfz18_3 := blk_frozen BK522.out 3
     have hfz18_4 := blk_frozen BK522.out 4
     go_wp2
     go_meet
     case rel => exact ⟨_, (true), (by first | rfl | (simp; done) | (simp [*]; done)), H', ⟨by first | omega | exact Nat.le_refl _⟩, ⟨by (with_reducible repeat (first | refine blk_drewN ?_ _ | refine blk_drew ?_ | refine blk_alloc ?_ _)); exact BK521.out⟩, ⟨by (with_reducible repeat (first | refine blk_drewN ?_ _ | refine blk_drew ?_ | refine blk_alloc ?_ _)); exact BK522.out⟩, ⟨by repeat (first | (with_reducible first | exact HB.out | apply below_alloc | apply pw_below_drewN | apply below_drew1 | refine below_set ?_ GE521.out | refine below_set ?_ GE522.out) | exact HB.out)⟩⟩
   ·rw [if_neg c7] at H
    have c7b0 : (a0_1 == a1_1) = false := beq_eq_false_iff_ne.mpr c7
    have c7b1 : (a0_1 != a1_1) = true := bne_iff_ne.mpr c7
    have H' := aM H
    clear H
    have hnb19 := NB521_522.out
    have hnc19 := NB522_521.out
    have hcz20_0 : w5.cell? ⟨gb521, 0, none⟩ = some (.int .i64 a0_0) := (blk_cell BK521.out 0).trans rfl
    have hcz20_1 : w5.cell? ⟨gb521, 1, none⟩ = some (.int .i64 a0_1) := (blk_cell BK521.out 1).trans rfl
    have hcz20_2 : w5.cell? ⟨gb521, 2, none⟩ = some (.string a0_2) := (blk_cell BK521.out 2).trans rfl
    have hcz20_3 : w5.cell? ⟨gb521, 3, none⟩ = some (.slice A0_3 l0_3.length c0_3) := (blk_cell BK521.out 3).trans rfl
    have hcz20_4 : w5.cell? ⟨gb521, 4, none⟩ = some (.slice A0_4 l0_4.length c0_4) := (blk_cell BK521.out 4).trans rfl
    have hfz20_0 := blk_frozen BK521.out 0
    have hfz20_1 := blk_frozen BK521.out 1
    have hfz20_2 := blk_frozen BK521.out 2
    have hfz20_3 := blk_frozen BK521.out 3
    have hfz20_4 := blk_frozen BK521.out 4
    have hcz21_0 : w5.cell? ⟨gb522, 0, none⟩ = some (.int .i64 a1_0) := (blk_cell BK522.out 0).trans rfl
    have hcz21_1 : w5.cell? ⟨gb522, 1, none⟩ = some (.int .i64 a1_1) := (blk_cell BK522.out 1).trans rfl
    have hcz21_2 : w5.cell? ⟨gb522, 2, none⟩ = some (.string a1_2) := (blk_cell BK522.out 2).trans rfl
    have hcz21_3 : w5.cell? ⟨gb522, 3, none⟩ = some (.slice A1_3 l1_3.length c1_3) := (blk_cell BK522.out 3).trans rfl
    have hcz21_4 : w5.cell? ⟨gb522, 4, none⟩ = some (.slice A1_4 l1_4.length c1_4) := (blk_cell BK522.out 4).trans rfl
    have hfz21_0 := blk_frozen BK522.out 0
    have hfz21_1 := blk_frozen BK522.out 1
    have hfz21_2 := blk_frozen BK522.out 2
    have hfz21_3 := blk_frozen BK522.out 3
    have hfz21_4 := blk_frozen BK522.out 4
    go_wp2
    go_meet
    case rel => exact ⟨_, (true), (by first | rfl | (simp; done) | (simp [*]; done)), H', ⟨by first | omega | exact Nat.le_refl _⟩, ⟨by (with_reducible repeat (first | refine blk_drewN ?_ _ | refine blk_drew ?_ | refine blk_alloc ?_ _)); exact BK521.out⟩, ⟨by (with_reducible repeat (first | refine blk_drewN ?_ _ | refine blk_drew ?_ | refine blk_alloc ?_ _)); exact BK522.out⟩, ⟨by repeat (first | (with_reducible first | exact HB.out | apply below_alloc | apply pw_below_drewN | apply below_drew1 | refine below_set ?_ GE521.out | refine below_set ?_ GE522.out) | exact HB.out)⟩⟩
  ·rw [if_neg c6] at H
   have c6b0 : (a0_0 == a1_0) = false := beq_eq_false_iff_ne.mpr c6
   have c6b1 : (a0_0 != a1_0) = true := bne_iff_ne.mpr c6
   (first | rw [c6b0] | (simp only [i64_w, i32_w]; rw [c6b0]) | skip)
   have H' := aM H
   clear H
   have hnb22 := NB521_522.out
   have hnc22 := NB522_521.out
   have hcz23_0 : w5.cell? ⟨gb521, 0, none⟩ = some (.int .i64 a0_0) := (blk_cell BK521.out 0).trans rfl
   have hcz23_1 : w5.cell? ⟨gb521, 1, none⟩ = some (.int .i64 a0_1) := (blk_cell BK521.out 1).trans rfl
   have hcz23_2 : w5.cell? ⟨gb521, 2, none⟩ = some (.string a0_2) := (blk_cell BK521.out 2).trans rfl
   have hcz23_3 : w5.cell? ⟨gb521, 3, none⟩ = some (.slice A0_3 l0_3.length c0_3) := (blk_cell BK521.out 3).trans rfl
   have hcz23_4 : w5.cell? ⟨gb521, 4, none⟩ = some (.slice A0_4 l0_4.length c0_4) := (blk_cell BK521.out 4).trans rfl
   have hfz23_0 := blk_frozen BK521.out 0
   have hfz23_1 := blk_frozen BK521.out 1
   have hfz23_2 := blk_frozen BK521.out 2
   have hfz23_3 := blk_frozen BK521.out 3
   have hfz23_4 := blk_frozen BK521.out 4
   have hcz24_0 : w5.cell? ⟨gb522, 0, none⟩ = some (.int .i64 a1_0) := (blk_cell BK522.out 0).trans rfl
   have hcz24_1 : w5.cell? ⟨gb522, 1, none⟩ = some (.int .i64 a1_1) := (blk_cell BK522.out 1).trans rfl
   have hcz24_2 : w5.cell? ⟨gb522, 2, none⟩ = some (.string a1_2) := (blk_cell BK522.out 2).trans rfl
   have hcz24_3 : w5.cell? ⟨gb522, 3, none⟩ = some (.slice A1_3 l1_3.length c1_3) := (blk_cell BK522.out 3).trans rfl
   have hcz24_4 : w5.cell? ⟨gb522, 4, none⟩ = some (.slice A1_4 l1_4.length c1_4) := (blk_cell BK522.out 4).trans rfl
   have hfz24_0 := blk_frozen BK522.out 0
   have hfz24_1 := blk_frozen BK522.out 1
   have hfz24_2 := blk_frozen BK522.out 2
   have hfz24_3 := blk_frozen BK522.out 3
   have hfz24_4 := blk_frozen BK522.out 4
   go_wp2
   go_meet
   case rel => exact ⟨_, (true), (by first | rfl | (simp; done) | (simp [*]; done)), H', ⟨by first | omega | exact Nat.le_refl _⟩, ⟨by (with_reducible repeat (first | refine blk_drewN ?_ _ | refine blk_drew ?_ | refine blk_alloc ?_ _)); exact BK521.out⟩, ⟨by (with_reducible repeat (first | refine blk_drewN ?_ _ | refine blk_drew ?_ | refine blk_alloc ?_ _)); exact BK522.out⟩, ⟨by repeat (first | (with_reducible first | exact HB.out | apply below_alloc | apply pw_below_drewN | apply below_drew1 | refine below_set ?_ GE521.out | refine below_set ?_ GE522.out) | exact HB.out)⟩⟩
 case rest =>
  clear HC3
  try clear c1
  try clear c2
  try clear p2
  try clear c6
  try clear c6b0
  try clear c6b1
  try clear c7
  try clear c7b0
  try clear c7b1
  try clear c8
  try clear c8b0
  try clear c8b1
  try clear c9
  try clear c9b0
  try clear c9b1
  try clear c9b2
  try clear c10
  try clear c13
  try clear c16
  try clear c19
  try clear c22
  try clear hcz11_0
  try clear hcz11_1
  try clear hcz11_2
  try clear hcz11_3
  try clear hcz11_4
  try clear hcz12_0
  try clear hcz12_1
  try clear hcz12_2
  try clear hcz12_3
  try clear hcz12_4
  try clear hcz14_0
  try clear hcz14_1
  try clear hcz14_2
  try clear hcz14_3
  try clear hcz14_4
  try clear hcz15_0
  try clear hcz15_1
  try clear hcz15_2
  try clear hcz15_3
  try clear hcz15_4
  try clear hcz17_0
  try clear hcz17_1
  try clear hcz17_2
  try clear hcz17_3
  try clear hcz17_4
  try clear hcz18_0
  try clear hcz18_1
  try clear hcz18_2
  try clear hcz18_3
  try clear hcz18_4
  try clear hcz20_0
  try clear hcz20_1
  try clear hcz20_2
  try clear hcz20_3
  try clear hcz20_4
  try clear hcz21_0
  try clear hcz21_1
  try clear hcz21_2
  try clear hcz21_3
  try clear hcz21_4
  try clear hcz23_0
  try clear hcz23_1
  try clear hcz23_2
  try clear hcz23_3
  try clear hcz23_4
  try clear hcz24_0
  try clear hcz24_1
  try clear hcz24_2
  try clear hcz24_3
  try clear hcz24_4
  try clear hfz11_0
  try clear hfz11_1
  try clear hfz11_2
  try clear hfz11_3
  try clear hfz11_4
  try clear hfz12_0
  try clear hfz12_1
  try clear hfz12_2
  try clear hfz12_3
  try clear hfz12_4
  try clear hfz14_0
  try clear hfz14_1
  try clear hfz14_2
  try clear hfz14_3
  try clear hfz14_4
  try clear hfz15_0
  try clear hfz15_1
  try clear hfz15_2
  try clear hfz15_3
  try clear hfz15_4
  try clear hfz17_0
  try clear hfz17_1
  try clear hfz17_2
  try clear hfz17_3
  try clear hfz17_4
  try clear hfz18_0
  try clear hfz18_1
  try clear hfz18_2
  try clear hfz18_3
  try clear hfz18_4
  try clear hfz20_0
  try clear hfz20_1
  try clear hfz20_2
  try clear hfz20_3
  try clear hfz20_4
  try clear hfz21_0
  try clear hfz21_1
  try clear hfz21_2
  try clear hfz21_3
  try clear hfz21_4
  try clear hfz23_0
  try clear hfz23_1
  try clear hfz23_2
  try clear hfz23_3
  try clear hfz23_4
  try clear hfz24_0
  try clear hfz24_1
  try clear hfz24_2
  try clear hfz24_3
  try clear hfz24_4
  obtain ⟨kq, x43_2, rfl, HA, HJ2, BK521, BK522, HB⟩ := hcut
  cases kq with
  | zero => exact absurd HA.out (by simp [spec_Same.j0])
  | succ kj2 =>
   have H := HA.out
   clear HA
   simp only [spec_Same.j0] at H
   by_cases c25 : x43_2 = true
   ·subst c25
    have H1 : (some false) = some r := by rw [if_pos rfl] at H; exact H
    clear H
    have H := H1
    clear H1
    obtain rfl := Option.some.inj H
    go_wp2
    go_ret
    exact ⟨by first | rfl | (simp [errW_none, errW_some] <;> rfl) | (simp [*, errW_none, errW_some] <;> rfl), by repeat (first | (with_reducible first | exact HB.out | apply below_alloc | apply pw_below_drewN | apply below_drew1 | refine below_set ?_ GE521.out | refine below_set ?_ GE522.out) | exact HB.out)⟩
   ·replace c25 := Bool.eq_false_iff.mpr c25
    subst c25
    have H1 : (spec_Same.l0 kj2 0 a0_0 a0_1 a0_2 l0_3 l0_4 a1_0 a1_1 a1_2 l1_3 l1_4) = some r := by rw [if_neg (show ¬ (false = true) by decide)] at H; exact H
    clear H
    have H := H1
    clear H1
    have H' := aM H
    clear H
    go_wp2
    go_loopg [5] kj2 (fun kq v5 w' => ∃ (x5_2 : Int), v5 = .int .i64 x5_2 ∧ Aside0 (spec_Same.l0 kq x5_2 a0_0 a0_1 a0_2 l0_3 l0_4 a1_0 a1_1 a1_2 l1_3 l1_4 = some r) ∧ Aside0 (kq ≤ kj2) ∧ Aside0 (w'.heap[gb521]? = some (.cells #[.int .i64 a0_0, .int .i64 a0_1, .string a0_2, (.slice A0_3 l0_3.length c0_3), (.slice A0_4 l0_4.length c0_4)] 25 (0, 0))) ∧ Aside0 (w'.heap[gb522]? = some (.cells #[.int .i64 a1_0, .int .i64 a1_1, .string a1_2, (.slice A1_3 l1_3.length c1_3), (.slice A1_4 l1_4.length c1_4)] 25 (0, 0))) ∧ Aside0 (Below w.heap.size w w'))
    case atStart => exact ⟨(0), (by first | rfl | (simp; done) | (simp [*]; done)), H', ⟨Nat.le_refl _⟩, ⟨by (with_reducible repeat (first | refine blk_drewN ?_ _ | refine blk_drew ?_ | refine blk_alloc ?_ _)); exact BK521.out⟩, ⟨by (with_reducible repeat (first | refine blk_drewN ?_ _ | refine blk_drew ?_ | refine blk_alloc ?_ _)); exact BK522.out⟩, ⟨by repeat (first | (with_reducible first | exact HB.out | apply below_alloc | apply pw_below_drewN | apply below_drew1 | refine below_set ?_ GE521.out | refine below_set ?_ GE522.out) | exact HB.out)⟩⟩
    case round =>
     clear H'
     try clear c1
     try clear c2
     try clear p2
     try clear c6
     try clear c6b0
     try clear c6b1
     try clear c7
     try clear c7b0
     try clear c7b1
     try clear c8
     try clear c8b0
     try clear c8b1
     try clear c9
     try clear c9b0
     try clear c9b1
     try clear c9b2
     try clear c10
     try clear c13
     try clear c16
     try clear c19
     try clear c22
     try clear c25
     try clear hcz11_0
     try clear hcz11_1
     try clear hcz11_2
     try clear hcz11_3
     try clear hcz11_4
     try clear hcz12_0
     try clear hcz12_1
     try clear hcz12_2
     try clear hcz12_3
     try clear hcz12_4
     try clear hcz14_0
     try clear hcz14_1
     try clear hcz14_2
     try clear hcz14_3
     try clear hcz14_4
     try clear hcz15_0
     try clear hcz15_1
     try clear hcz15_2
     try clear hcz15_3
     try clear hcz15_4
     try clear hcz17_0
     try clear hcz17_1
     try clear hcz17_2
     try clear hcz17_3
     try clear hcz17_4
     try clear hcz18_0
     try clear hcz18_1
     try clear hcz18_2
     try clear hcz18_3
     try clear hcz18_4
     try clear hcz20_0
     try clear hcz20_1
     try clear hcz20_2
     try clear hcz20_3
     try clear hcz20_4
     try clear hcz21_0
     try clear hcz21_1
     try clear hcz21_2
     try clear hcz21_3
     try clear hcz21_4
     try clear hcz23_0
     try clear hcz23_1
     try clear hcz23_2
     try clear hcz23_3
     try clear hcz23_4
     try clear hcz24_0
     try clear hcz24_1
     try clear hcz24_2
     try clear hcz24_3
     try clear hcz24_4
     try clear hfz11_0
     try clear hfz11_1
     try clear hfz11_2
     try clear hfz11_3
     try clear hfz11_4
     try clear hfz12_0
     try clear hfz12_1
     try clear hfz12_2
     try clear hfz12_3
     try clear hfz12_4
     try clear hfz14_0
     try clear hfz14_1
     try clear hfz14_2
     try clear hfz14_3
     try clear hfz14_4
     try clear hfz15_0
     try clear hfz15_1
     try clear hfz15_2
     try clear hfz15_3
     try clear hfz15_4
     try clear hfz17_0
     try clear hfz17_1
     try clear hfz17_2
     try clear hfz17_3
     try clear hfz17_4
     try clear hfz18_0
     try clear hfz18_1
     try clear hfz18_2
     try clear hfz18_3
     try clear hfz18_4
     try clear hfz20_0
     try clear hfz20_1
     try clear hfz20_2
     try clear hfz20_3
     try clear hfz20_4
     try clear hfz21_0
     try clear hfz21_1
     try clear hfz21_2
     try clear hfz21_3
     try clear hfz21_4
     try clear hfz23_0
     try clear hfz23_1
     try clear hfz23_2
     try clear hfz23_3
     try clear hfz23_4
     try clear hfz24_0
     try clear hfz24_1
     try clear hfz24_2
     try clear hfz24_3
     try clear hfz24_4
     try clear p2
     obtain ⟨x5_2, rfl, HA, HK2, BK521, BK522, HB⟩ := hrel
     cases gk with
     | zero => exact absurd HA.out (by simp [spec_Same.l0])
     | succ k2 =>
      have H := HA.out
      clear HA
      simp only [spec_Same.l0] at H
      by_cases c26 : x5_2 < (l0_3.length : Int)
      ·rw [if_pos c26] at H
       have c26b0 : decide (x5_2 < (l0_3.length : Int)) = true := decide_eq_true c26
       clear c26
       by_cases c27 : 0 ≤ x5_2
       ·rw [if_pos c27] at H
        have c27b0 : decide (0 ≤ x5_2) = true := decide_eq_true c27
        clear c27
        by_cases c28 : x5_2 < (l1_3.length : Int)
        ·rw [if_pos c28] at H
         have c28b0 : decide (x5_2 < (l1_3.length : Int)) = true := decide_eq_true c28
         clear c28
         by_cases c29 : (rdOf ByteArray.empty l0_3 x5_2).toList = (rdOf ByteArray.empty l1_3 x5_2).toList
         ·rw [if_pos c29] at H
          have c29b0 : ((rdOf ByteArray.empty l0_3 x5_2).toList == (rdOf ByteArray.empty l1_3 x5_2).toList) = true := beq_iff_eq.mpr c29
          have c29b1 : ((rdOf ByteArray.empty l0_3 x5_2).toList != (rdOf ByteArray.empty l1_3 x5_2).toList) = false := bne_eq_false_iff_eq.mpr c29
          clear c29
          have H' := aM H
          clear H
          have hnb30 := NB521_522.out
          have hnc30 := NB522_521.out
          have hcz31_0 : wr.cell? ⟨gb521, 0, none⟩ = some (.int .i64 a0_0) := (blk_cell BK521.out 0).trans rfl
          have hcz31_1 : wr.cell? ⟨gb521, 1, none⟩ = some (.int .i64 a0_1) := (blk_cell BK521.out 1).trans rfl
          have hcz31_2 : wr.cell? ⟨gb521, 2, none⟩ = some (.string a0_2) := (blk_cell BK521.out 2).trans rfl
          have hcz31_3 : wr.cell? ⟨gb521, 3, none⟩ = some (.slice A0_3 l0_3.length c0_3) := (blk_cell BK521.out 3).trans rfl
          have hcz31_4 : wr.cell? ⟨gb521, 4, none⟩ = some (.slice A0_4 l0_4.length c0_4) := (blk_cell BK521.out 4).trans rfl
          have hfz31_0 := blk_frozen BK521.out 0
          have hfz31_1 := blk_frozen BK521.out 1
          have hfz31_2 := blk_frozen BK521.out 2
          have hfz31_3 := blk_frozen BK521.out 3
          have hfz31_4 := blk_frozen BK521.out 4
          try go_wp2
          have n0_ := aM (blk_drew BK521.out)
          have n1_ := aM (blk_drew BK522.out)
          have n2_ := aM (below_drew1 HB.out)
          clear BK521 BK522 HB; have BK521 := n0_; have BK522 := n1_; have HB := n2_; clear n0_ n1_ n2_
          have p523 : 0 ≤ (x5_2 : Int) := of_decide_eq_true (by first | (with_reducible assumption) | assumption)
          have q523 : x5_2 < (l0_3.length : Int) := of_decide_eq_true (by first | (with_reducible assumption) | assumption)
          obtain ⟨ad523, e523, hx523_0⟩ := Kd.at_string HR0_3.out x5_2 p523 q523
          have hw523_0 := hx523_0
          cases e523
          replace hx523_0 := (HB.out.cell (World.block_lt_of_cell? w _ hx523_0)).trans hx523_0
          replace p523 := eq_true p523
          replace q523 := eq_true q523
          have p524 : 0 ≤ (x5_2 : Int) := of_decide_eq_true (by first | (with_reducible assumption) | assumption)
          have q524 : x5_2 < (l1_3.length : Int) := of_decide_eq_true (by first | (with_reducible assumption) | assumption)
          obtain ⟨ad524, e524, hx524_0⟩ := Kd.at_string HR1_3.out x5_2 p524 q524
          have hw524_0 := hx524_0
          cases e524
          replace hx524_0 := (HB.out.cell (World.block_lt_of_cell? w _ hx524_0)).trans hx524_0
          replace p524 := eq_true p524
          replace q524 := eq_true q524
          refine start_ (n := 11) (S := fun w' => w'.cell? ⟨gb521, 0, none⟩ = some (.int .i64 a0_0) ∧ w'.cell? ⟨gb521, 1, none⟩ = some (.int .i64 a0_1) ∧ w'.cell? ⟨gb521, 2, none⟩ = some (.string a0_2) ∧ w'.cell? ⟨gb521, 3, none⟩ = some (.slice (some ad523) l0_3.length c0_3) ∧ w'.cell? ⟨gb521, 4, none⟩ = some (.slice A0_4 l0_4.length c0_4) ∧ w'.cell? ⟨gb522, 0, none⟩ = some (.int .i64 a1_0) ∧ w'.cell? ⟨gb522, 1, none⟩ = some (.int .i64 a1_1) ∧ w'.cell? ⟨gb522, 2, none⟩ = some (.string a1_2) ∧ w'.cell? ⟨gb522, 3, none⟩ = some (.slice (some ad524) l1_3.length c1_3) ∧ w'.cell? ⟨gb522, 4, none⟩ = some (.slice A1_4 l1_4.length c1_4) ∧ w'.cell? (ad523.add (x5_2).toNat) = some (.string (rdOf ByteArray.empty l0_3 x5_2)) ∧ w'.cell? (ad524.add (x5_2).toNat) = some (.string (rdOf ByteArray.empty l1_3 x5_2))) (ds := []) #[false, false, false, false, false, false, false, false, false, false, false] (by kernel_rfl) rfl rfl ⟨(blk_cell BK521.out 0).trans rfl, (blk_cell BK521.out 1).trans rfl, (blk_cell BK521.out 2).trans rfl, (blk_cell BK521.out 3).trans rfl, (blk_cell BK521.out 4).trans rfl, (blk_cell BK522.out 0).trans rfl, (blk_cell BK522.out 1).trans rfl, (blk_cell BK522.out 2).trans rfl, (blk_cell BK522.out 3).trans rfl, (blk_cell BK522.out 4).trans rfl, ((HB.out.cell (World.block_lt_of_cell? w _ hw523_0)).trans hw523_0), ((HB.out.cell (World.block_lt_of_cell? w _ hw524_0)).trans hw524_0)⟩ (fun hHeld => ?_); refine with_tabW spec_Same.tab6 spec_Same.bits6 (fun HT_ HW_ => ?_)
          generalize wr.drew = w32 at BK521 BK522 HB hx523_0 hx524_0 hHeld ⊢
          refine pure_ (i := 0) (N := some 51) (v := ?_) (a' := ?_) #[true, false, false, false, false, false, false, false, false, false, false] rfl rfl (any_of HT_.out (by kernel_rfl)) (fun _ _ _ h => h) (Or.inl ⟨by rfl, ?_⟩) ?_ ?_
          rotate_left
          ·intro w'; go_simp; with_reducible rfl
          rotate_left
          ·simp only [Act.put, sA, sB, sC, i64_w, i32_w]; rfl
          refine pure_ (i := 2) (N := some 53) (v := ?_) (a' := ?_) #[true, false, true, false, false, false, false, false, false, false, false] rfl rfl (any_of HT_.out (by kernel_rfl)) (fun _ _ _ h => h) (Or.inl ⟨by rfl, ?_⟩) ?_ ?_
          rotate_left
          ·intro w'; go_simp; with_reducible rfl
          rotate_left
          ·simp only [Act.put, sA, sB, sC, i64_w, i32_w]; rfl
          refine pure_ (i := 5) (N := some 56) (v := ?_) (a' := ?_) #[true, false, true, false, false, true, false, false, false, false, false] rfl rfl (any_of HT_.out (by kernel_rfl)) (fun _ _ _ h => h) (Or.inl ⟨by rfl, ?_⟩) ?_ ?_
          rotate_left
          ·intro w'; go_simp; with_reducible rfl
          rotate_left
          ·simp only [Act.put, sA, sB, sC, i64_w, i32_w]; rfl
          refine pure_ (i := 7) (N := some 58) (v := ?_) (a' := ?_) #[true, false, true, false, false, true, false, true, false, false, false] rfl rfl (any_of HT_.out (by kernel_rfl)) (fun _ _ _ h => h) (Or.inl ⟨by rfl, ?_⟩) ?_ ?_
          rotate_left
          ·intro w'; go_simp; with_reducible rfl
          rotate_left
          ·simp only [Act.put, sA, sB, sC, i64_w, i32_w]; rfl
          refine take_ (i := 1) (N := some 52) (v := ?_) (a' := ?_) #[true, true, true, false, false, true, false, true, false, false, false] rfl rfl (take_ofW HT_.out HW_.out (by kernel_rfl)) (fun _ _ _ h => h) (Or.inl ⟨by rfl, ?_⟩) hHeld ?_ ?_
          rotate_left
          ·rintro w' ⟨s0, s1, s2, s3, s4, s5, s6, s7, s8, s9, s10, s11⟩
           go_simp; with_reducible rfl
          rotate_left
          ·simp only [Act.put, sA, sB, sC, i64_w, i32_w]; rfl
          refine pure_ (i := 3) (N := some 54) (v := ?_) (a' := ?_) #[true, true, true, true, false, true, false, true, false, false, false] rfl rfl (any_of HT_.out (by kernel_rfl)) (fun _ _ _ h => h) (Or.inl ⟨by rfl, ?_⟩) ?_ ?_
          rotate_left
          ·intro w'; go_simp; with_reducible rfl
          rotate_left
          ·simp only [Act.put, sA, sB, sC, i64_w, i32_w]; rfl
          refine take_ (i := 4) (N := some 55) (v := ?_) (a' := ?_) #[true, true, true, true, true, true, false, true, false, false, false] rfl rfl (take_ofW HT_.out HW_.out (by kernel_rfl)) (fun _ _ _ h => h) (Or.inl ⟨by rfl, ?_⟩) hHeld ?_ ?_
          rotate_left
          ·rintro w' ⟨s0, s1, s2, s3, s4, s5, s6, s7, s8, s9, s10, s11⟩
           go_simp; with_reducible rfl
          rotate_left
          ·simp only [Act.put, sA, sB, sC, i64_w, i32_w]; rfl
          refine take_ (i := 6) (N := some 57) (v := ?_) (a' := ?_) #[true, true, true, true, true, true, true, true, false, false, false] rfl rfl (take_ofW HT_.out HW_.out (by kernel_rfl)) (fun _ _ _ h => h) (Or.inl ⟨by rfl, ?_⟩) hHeld ?_ ?_
          rotate_left
          ·rintro w' ⟨s0, s1, s2, s3, s4, s5, s6, s7, s8, s9, s10, s11⟩
           go_simp; with_reducible rfl
          rotate_left
          ·simp only [Act.put, sA, sB, sC, i64_w, i32_w]; rfl
          refine pure_ (i := 8) (N := some 59) (v := ?_) (a' := ?_) #[true, true, true, true, true, true, true, true, true, false, false] rfl rfl (any_of HT_.out (by kernel_rfl)) (fun _ _ _ h => h) (Or.inl ⟨by rfl, ?_⟩) ?_ ?_
          rotate_left
          ·intro w'; go_simp; with_reducible rfl
          rotate_left
          ·simp only [Act.put, sA, sB, sC, i64_w, i32_w]; rfl
          refine take_ (i := 9) (N := some 60) (v := ?_) (a' := ?_) #[true, true, true, true, true, true, true, true, true, true, false] rfl rfl (take_ofW HT_.out HW_.out (by kernel_rfl)) (fun _ _ _ h => h) (Or.inl ⟨by rfl, ?_⟩) hHeld ?_ ?_
          rotate_left
          ·rintro w' ⟨s0, s1, s2, s3, s4, s5, s6, s7, s8, s9, s10, s11⟩
           go_simp; with_reducible rfl
          rotate_left
          ·simp only [Act.put, sA, sB, sC, i64_w, i32_w]; rfl
          refine pure_ (i := 10) (N := some 61) (v := ?_) (a' := ?_) #[true, true, true, true, true, true, true, true, true, true, true] rfl rfl (any_of HT_.out (by kernel_rfl)) (fun _ _ _ h => h) (Or.inl ⟨by rfl, ?_⟩) ?_ ?_
          rotate_left
          ·intro w'; go_simp; with_reducible rfl
          rotate_left
          ·simp only [Act.put, sA, sB, sC, i64_w, i32_w]; rfl
          refine done_ (done_of HT_.out (by kernel_rfl)) ?_
          try go_wp2
          go_roundg k2
          case measure => have := HJ2.out; have := HK2.out; omega
          case rel => exact ⟨(wrap64 (x5_2 + 1)), (by first | rfl | (simp; done) | (simp [*]; done)), H', ⟨by have := HJ2.out; have := HK2.out; omega⟩, ⟨by (with_reducible repeat (first | refine blk_drewN ?_ _ | refine blk_drew ?_ | refine blk_alloc ?_ _)); exact BK521.out⟩, ⟨by (with_reducible repeat (first | refine blk_drewN ?_ _ | refine blk_drew ?_ | refine blk_alloc ?_ _)); exact BK522.out⟩, ⟨by repeat (first | (with_reducible first | exact HB.out | apply below_alloc | apply pw_below_drewN | apply below_drew1 | refine below_set ?_ GE521.out | refine below_set ?_ GE522.out) | exact HB.out)⟩⟩
         ·rw [if_neg c29] at H
          have c29b0 : ((rdOf ByteArray.empty l0_3 x5_2).toList == (rdOf ByteArray.empty l1_3 x5_2).toList) = false := beq_eq_false_iff_ne.mpr c29
          have c29b1 : ((rdOf ByteArray.empty l0_3 x5_2).toList != (rdOf ByteArray.empty l1_3 x5_2).toList) = true := bne_iff_ne.mpr c29
          obtain rfl := Option.some.inj H
          have hnb33 := NB521_522.out
          have hnc33 := NB522_521.out
          have hcz34_0 : wr.cell? ⟨gb521, 0, none⟩ = some (.int .i64 a0_0) := (blk_cell BK521.out 0).trans rfl
          have hcz34_1 : wr.cell? ⟨gb521, 1, none⟩ = some (.int .i64 a0_1) := (blk_cell BK521.out 1).trans rfl
          have hcz34_2 : wr.cell? ⟨gb521, 2, none⟩ = some (.string a0_2) := (blk_cell BK521.out 2).trans rfl
          have hcz34_3 : wr.cell? ⟨gb521, 3, none⟩ = some (.slice A0_3 l0_3.length c0_3) := (blk_cell BK521.out 3).trans rfl
          have hcz34_4 : wr.cell? ⟨gb521, 4, none⟩ = some (.slice A0_4 l0_4.length c0_4) := (blk_cell BK521.out 4).trans rfl
          have hfz34_0 := blk_frozen BK521.out 0
          have hfz34_1 := blk_frozen BK521.out 1
          have hfz34_2 := blk_frozen BK521.out 2
          have hfz34_3 := blk_frozen BK521.out 3
          have hfz34_4 := blk_frozen BK521.out 4
          try go_wp2
          have n0_ := aM (blk_drew BK521.out)
          have n1_ := aM (blk_drew BK522.out)
          have n2_ := aM (below_drew1 HB.out)
          clear BK521 BK522 HB; have BK521 := n0_; have BK522 := n1_; have HB := n2_; clear n0_ n1_ n2_
          have p523 : 0 ≤ (x5_2 : Int) := of_decide_eq_true (by first | (with_reducible assumption) | assumption)
          have q523 : x5_2 < (l0_3.length : Int) := of_decide_eq_true (by first | (with_reducible assumption) | assumption)
          obtain ⟨ad523, e523, hx523_0⟩ := Kd.at_string HR0_3.out x5_2 p523 q523
          have hw523_0 := hx523_0
          cases e523
          replace hx523_0 := (HB.out.cell (World.block_lt_of_cell? w _ hx523_0)).trans hx523_0
          replace p523 := eq_true p523
          replace q523 := eq_true q523
          have p524 : 0 ≤ (x5_2 : Int) := of_decide_eq_true (by first | (with_reducible assumption) | assumption)
          have q524 : x5_2 < (l1_3.length : Int) := of_decide_eq_true (by first | (with_reducible assumption) | assumption)
          obtain ⟨ad524, e524, hx524_0⟩ := Kd.at_string HR1_3.out x5_2 p524 q524
          have hw524_0 := hx524_0
          cases e524
          replace hx524_0 := (HB.out.cell (World.block_lt_of_cell? w _ hx524_0)).trans hx524_0
          replace p524 := eq_true p524
          replace q524 := eq_true q524
          refine start_ (n := 11) (S := fun w' => w'.cell? ⟨gb521, 0, none⟩ = some (.int .i64 a0_0) ∧ w'.cell? ⟨gb521, 1, none⟩ = some (.int .i64 a0_1) ∧ w'.cell? ⟨gb521, 2, none⟩ = some (.string a0_2) ∧ w'.cell? ⟨gb521, 3, none⟩ = some (.slice (some ad523) l0_3.length c0_3) ∧ w'.cell? ⟨gb521, 4, none⟩ = some (.slice A0_4 l0_4.length c0_4) ∧ w'.cell? ⟨gb522, 0, none⟩ = some (.int .i64 a1_0) ∧ w'.cell? ⟨gb522, 1, none⟩ = some (.int .i64 a1_1) ∧ w'.cell? ⟨gb522, 2, none⟩ = some (.string a1_2) ∧ w'.cell? ⟨gb522, 3, none⟩ = some (.slice (some ad524) l1_3.length c1_3) ∧ w'.cell? ⟨gb522, 4, none⟩ = some (.slice A1_4 l1_4.length c1_4) ∧ w'.cell? (ad523.add (x5_2).toNat) = some (.string (rdOf ByteArray.empty l0_3 x5_2)) ∧ w'.cell? (ad524.add (x5_2).toNat) = some (.string (rdOf ByteArray.empty l1_3 x5_2))) (ds := []) #[false, false, false, false, false, false, false, false, false, false, false] (by kernel_rfl) rfl rfl ⟨(blk_cell BK521.out 0).trans rfl, (blk_cell BK521.out 1).trans rfl, (blk_cell BK521.out 2).trans rfl, (blk_cell BK521.out 3).trans rfl, (blk_cell BK521.out 4).trans rfl, (blk_cell BK522.out 0).trans rfl, (blk_cell BK522.out 1).trans rfl, (blk_cell BK522.out 2).trans rfl, (blk_cell BK522.out 3).trans rfl, (blk_cell BK522.out 4).trans rfl, ((HB.out.cell (World.block_lt_of_cell? w _ hw523_0)).trans hw523_0), ((HB.out.cell (World.block_lt_of_cell? w _ hw524_0)).trans hw524_0)⟩ (fun hHeld => ?_); refine with_tabW spec_Same.tab6 spec_Same.bits6 (fun HT_ HW_ => ?_)
          generalize wr.drew = w35 at BK521 BK522 HB hx523_0 hx524_0 hHeld ⊢
          refine pure_ (i := 0) (N := some 51) (v := ?_) (a' := ?_) #[true, false, false, false, false, false, false, false, false, false, false] rfl rfl (any_of HT_.out (by kernel_rfl)) (fun _ _ _ h => h) (Or.inl ⟨by rfl, ?_⟩) ?_ ?_
          rotate_left
          ·intro w'; go_simp; with_reducible rfl
          rotate_left
          ·simp only [Act.put, sA, sB, sC, i64_w, i32_w]; rfl
          refine pure_ (i := 2) (N := some 53) (v := ?_) (a' := ?_) #[true, false, true, false, false, false, false, false, false, false, false] rfl rfl (any_of HT_.out (by kernel_rfl)) (fun _ _ _ h => h) (Or.inl ⟨by rfl, ?_⟩) ?_ ?_
          rotate_left
          ·intro w'; go_simp; with_reducible rfl
          rotate_left
          ·simp only [Act.put, sA, sB, sC, i64_w, i32_w]; rfl
          refine pure_ (i := 5) (N := some 56) (v := ?_) (a' := ?_) #[true, false, true, false, false, true, false, false, false, false, false] rfl rfl (any_of HT_.out (by kernel_rfl)) (fun _ _ _ h => h) (Or.inl ⟨by rfl, ?_⟩) ?_ ?_
          rotate_left
          ·intro w'; go_simp; with_reducible rfl
          rotate_left
          ·simp only [Act.put, sA, sB, sC, i64_w, i32_w]; rfl
          refine pure_ (i := 7) (N := some 58) (v := ?_) (a' := ?_) #[true, false, true, false, false, true, false, true, false, false, false] rfl rfl (any_of HT_.out (by kernel_rfl)) (fun _ _ _ h => h) (Or.inl ⟨by rfl, ?_⟩) ?_ ?_
          rotate_left
          ·intro w'; go_simp; with_reducible rfl
          rotate_left
          ·simp only [Act.put, sA, sB, sC, i64_w, i32_w]; rfl
          refine take_ (i := 1) (N := some 52) (v := ?_) (a' := ?_) #[true, true, true, false, false, true, false, true, false, false, false] rfl rfl (take_ofW HT_.out HW_.out (by kernel_rfl)) (fun _ _ _ h => h) (Or.inl ⟨by rfl, ?_⟩) hHeld ?_ ?_
          rotate_left
          ·rintro w' ⟨s0, s1, s2, s3, s4, s5, s6, s7, s8, s9, s10, s11⟩
           go_simp; with_reducible rfl
          rotate_left
          ·simp only [Act.put, sA, sB, sC, i64_w, i32_w]; rfl
          refine pure_ (i := 3) (N := some 54) (v := ?_) (a' := ?_) #[true, true, true, true, false, true, false, true, false, false, false] rfl rfl (any_of HT_.out (by kernel_rfl)) (fun _ _ _ h => h) (Or.inl ⟨by rfl, ?_⟩) ?_ ?_
          rotate_left
          ·intro w'; go_simp; with_reducible rfl
          rotate_left
          ·simp only [Act.put, sA, sB, sC, i64_w, i32_w]; rfl
          refine take_ (i := 4) (N := some 55) (v := ?_) (a' := ?_) #[true, true, true, true, true, true, false, true, false, false, false] rfl rfl (take_ofW HT_.out HW_.out (by kernel_rfl)) (fun _ _ _ h => h) (Or.inl ⟨by rfl, ?_⟩) hHeld ?_ ?_
          rotate_left
          ·rintro w' ⟨s0, s1, s2, s3, s4, s5, s6, s7, s8, s9, s10, s11⟩
           go_simp; with_reducible rfl
          rotate_left
          ·simp only [Act.put, sA, sB, sC, i64_w, i32_w]; rfl
          refine take_ (i := 6) (N := some 57) (v := ?_) (a' := ?_) #[true, true, true, true, true, true, true, true, false, false, false] rfl rfl (take_ofW HT_.out HW_.out (by kernel_rfl)) (fun _ _ _ h => h) (Or.inl ⟨by rfl, ?_⟩) hHeld ?_ ?_
          rotate_left
          ·rintro w' ⟨s0, s1, s2, s3, s4, s5, s6, s7, s8, s9, s10, s11⟩
           go_simp; with_reducible rfl
          rotate_left
          ·simp only [Act.put, sA, sB, sC, i64_w, i32_w]; rfl
          refine pure_ (i := 8) (N := some 59) (v := ?_) (a' := ?_) #[true, true, true, true, true, true, true, true, true, false, false] rfl rfl (any_of HT_.out (by kernel_rfl)) (fun _ _ _ h => h) (Or.inl ⟨by rfl, ?_⟩) ?_ ?_
          rotate_left
          ·intro w'; go_simp; with_reducible rfl
          rotate_left
          ·simp only [Act.put, sA, sB, sC, i64_w, i32_w]; rfl
          refine take_ (i := 9) (N := some 60) (v := ?_) (a' := ?_) #[true, true, true, true, true, true, true, true, true, true, false] rfl rfl (take_ofW HT_.out HW_.out (by kernel_rfl)) (fun _ _ _ h => h) (Or.inl ⟨by rfl, ?_⟩) hHeld ?_ ?_
          rotate_left
          ·rintro w' ⟨s0, s1, s2, s3, s4, s5, s6, s7, s8, s9, s10, s11⟩
           go_simp; with_reducible rfl
          rotate_left
          ·simp only [Act.put, sA, sB, sC, i64_w, i32_w]; rfl
          refine pure_ (i := 10) (N := some 61) (v := ?_) (a' := ?_) #[true, true, true, true, true, true, true, true, true, true, true] rfl rfl (any_of HT_.out (by kernel_rfl)) (fun _ _ _ h => h) (Or.inl ⟨by rfl, ?_⟩) ?_ ?_
          rotate_left
          ·intro w'; go_simp; with_reducible rfl
          rotate_left
          ·simp only [Act.put, sA, sB, sC, i64_w, i32_w]; rfl
          refine done_ (done_of HT_.out (by kernel_rfl)) ?_
          try go_wp2
          go_ret
          exact ⟨by first | rfl | (simp [errW_none, errW_some] <;> rfl) | (simp [*, errW_none, errW_some] <;> rfl), by repeat (first | (with_reducible first | exact HB.out | apply below_alloc | apply pw_below_drewN | apply below_drew1 | refine below_set ?_ GE521.out | refine below_set ?_ GE522.out) | exact HB.out)⟩
        ·rw [if_neg c28] at H
         exact absurd H (by simp)
       ·rw [if_neg c27] at H
        exact absurd H (by simp)
      ·rw [if_neg c26] at H
       have c26b0 : decide (x5_2 < (l0_3.length : Int)) = false := decide_eq_false c26
       clear c26
       have H' := aM H
       clear H
       have hnb36 := NB521_522.out
       have hnc36 := NB522_521.out
       have hcz37_0 : wr.cell? ⟨gb521, 0, none⟩ = some (.int .i64 a0_0) := (blk_cell BK521.out 0).trans rfl
       have hcz37_1 : wr.cell? ⟨gb521, 1, none⟩ = some (.int .i64 a0_1) := (blk_cell BK521.out 1).trans rfl
       have hcz37_2 : wr.cell? ⟨gb521, 2, none⟩ = some (.string a0_2) := (blk_cell BK521.out 2).trans rfl
       have hcz37_3 : wr.cell? ⟨gb521, 3, none⟩ = some (.slice A0_3 l0_3.length c0_3) := (blk_cell BK521.out 3).trans rfl
       have hcz37_4 : wr.cell? ⟨gb521, 4, none⟩ = some (.slice A0_4 l0_4.length c0_4) := (blk_cell BK521.out 4).trans rfl
       have hfz37_0 := blk_frozen BK521.out 0
       have hfz37_1 := blk_frozen BK521.out 1
       have hfz37_2 := blk_frozen BK521.out 2
       have hfz37_3 := blk_frozen BK521.out 3
       have hfz37_4 := blk_frozen BK521.out 4
       go_wp2
       go_loopg [6] k2 (fun kq v6 w' => ∃ (x6_3 : Int), v6 = .int .i64 x6_3 ∧ Aside0 (spec_Same.l1 kq x6_3 a0_0 a0_1 a0_2 l0_3 l0_4 a1_0 a1_1 a1_2 l1_3 l1_4 = some r) ∧ Aside0 (kq ≤ k2) ∧ Aside0 (w'.heap[gb521]? = some (.cells #[.int .i64 a0_0, .int .i64 a0_1, .string a0_2, (.slice A0_3 l0_3.length c0_3), (.slice A0_4 l0_4.length c0_4)] 25 (0, 0))) ∧ Aside0 (w'.heap[gb522]? = some (.cells #[.int .i64 a1_0, .int .i64 a1_1, .string a1_2, (.slice A1_3 l1_3.length c1_3), (.slice A1_4 l1_4.length c1_4)] 25 (0, 0))) ∧ Aside0 (Below w.heap.size w w'))
       case atStart => exact ⟨(0), (by first | rfl | (simp; done) | (simp [*]; done)), H', ⟨Nat.le_refl _⟩, ⟨by (with_reducible repeat (first | refine blk_drewN ?_ _ | refine blk_drew ?_ | refine blk_alloc ?_ _)); exact BK521.out⟩, ⟨by (with_reducible repeat (first | refine blk_drewN ?_ _ | refine blk_drew ?_ | refine blk_alloc ?_ _)); exact BK522.out⟩, ⟨by repeat (first | (with_reducible first | exact HB.out | apply below_alloc | apply pw_below_drewN | apply below_drew1 | refine below_set ?_ GE521.out | refine below_set ?_ GE522.out) | exact HB.out)⟩⟩
       case round =>
        clear H'
        try clear c1
        try clear c2
        try clear p2
        try clear c3
        try clear p5
        try clear q5
        try clear hx5
        try clear c6
        try clear c6b0
        try clear c6b1
        try clear p6
        try clear c7
        try clear c7b0
        try clear c7b1
        try clear c8
        try clear c8b0
        try clear c8b1
        try clear c9
        try clear c9b0
        try clear c9b1
        try clear c9b2
        try clear c10
        try clear c13
        try clear c16
        try clear c19
        try clear c22
        try clear c25
        try clear c26
        try clear c26b0
        try clear c27
        try clear c27b0
        try clear c28
        try clear c28b0
        try clear c29
        try clear c29b0
        try clear c29b1
        try clear c30
        try clear c33
        try clear c36
        try clear hcz11_0
        try clear hcz11_1
        try clear hcz11_2
        try clear hcz11_3
        try clear hcz11_4
        try clear hcz12_0
        try clear hcz12_1
        try clear hcz12_2
        try clear hcz12_3
        try clear hcz12_4
        try clear hcz14_0
        try clear hcz14_1
        try clear hcz14_2
        try clear hcz14_3
        try clear hcz14_4
        try clear hcz15_0
        try clear hcz15_1
        try clear hcz15_2
        try clear hcz15_3
        try clear hcz15_4
        try clear hcz17_0
        try clear hcz17_1
        try clear hcz17_2
        try clear hcz17_3
        try clear hcz17_4
        try clear hcz18_0
        try clear hcz18_1
        try clear hcz18_2
        try clear hcz18_3
        try clear hcz18_4
        try clear hcz20_0
        try clear hcz20_1
        try clear hcz20_2
        try clear hcz20_3
        try clear hcz20_4
        try clear hcz21_0
        try clear hcz21_1
        try clear hcz21_2
        try clear hcz21_3
        try clear hcz21_4
        try clear hcz23_0
        try clear hcz23_1
        try clear hcz23_2
        try clear hcz23_3
        try clear hcz23_4
        try clear hcz24_0
        try clear hcz24_1
        try clear hcz24_2
        try clear hcz24_3
        try clear hcz24_4
        try clear hcz31_0
        try clear hcz31_1
        try clear hcz31_2
        try clear hcz31_3
        try clear hcz31_4
        try clear hcz34_0
        try clear hcz34_1
        try clear hcz34_2
        try clear hcz34_3
        try clear hcz34_4
        try clear hcz37_0
        try clear hcz37_1
        try clear hcz37_2
        try clear hcz37_3
        try clear hcz37_4
        try clear hfz11_0
        try clear hfz11_1
        try clear hfz11_2
        try clear hfz11_3
        try clear hfz11_4
        try clear hfz12_0
        try clear hfz12_1
        try clear hfz12_2
        try clear hfz12_3
        try clear hfz12_4
        try clear hfz14_0
        try clear hfz14_1
        try clear hfz14_2
        try clear hfz14_3
        try clear hfz14_4
        try clear hfz15_0
        try clear hfz15_1
        try clear hfz15_2
        try clear hfz15_3
        try clear hfz15_4
        try clear hfz17_0
        try clear hfz17_1
        try clear hfz17_2
        try clear hfz17_3
        try clear hfz17_4
        try clear hfz18_0
        try clear hfz18_1
        try clear hfz18_2
        try clear hfz18_3
        try clear hfz18_4
        try clear hfz20_0
        try clear hfz20_1
        try clear hfz20_2
        try clear hfz20_3
        try clear hfz20_4
        try clear hfz21_0
        try clear hfz21_1
        try clear hfz21_2
        try clear hfz21_3
        try clear hfz21_4
        try clear hfz23_0
        try clear hfz23_1
        try clear hfz23_2
        try clear hfz23_3
        try clear hfz23_4
        try clear hfz24_0
        try clear hfz24_1
        try clear hfz24_2
        try clear hfz24_3
        try clear hfz24_4
        try clear hfz31_0
        try clear hfz31_1
        try clear hfz31_2
        try clear hfz31_3
        try clear hfz31_4
        try clear hfz34_0
        try clear hfz34_1
        try clear hfz34_2
        try clear hfz34_3
        try clear hfz34_4
        try clear hfz37_0
        try clear hfz37_1
        try clear hfz37_2
        try clear hfz37_3
        try clear hfz37_4
        try clear hx523_0
        try clear hx524_0
        try clear p2
        try clear p523
        try clear p524
        try clear q523
        try clear q524
        obtain ⟨x6_3, rfl, HA, HK3, BK521, BK522, HB⟩ := hrel
        cases gk with
        | zero => exact absurd HA.out (by simp [spec_Same.l1])
        | succ k3 =>
         have H := HA.out
         clear HA
         simp only [spec_Same.l1] at H
         by_cases c38 : x6_3 < (l0_4.length : Int)
         ·rw [if_pos c38] at H
          have c38b0 : decide (x6_3 < (l0_4.length : Int)) = true := decide_eq_true c38
          clear c38
          by_cases c39 : 0 ≤ x6_3
          ·rw [if_pos c39] at H
           have c39b0 : decide (0 ≤ x6_3) = true := decide_eq_true c39
           clear c39
           by_cases c40 : x6_3 < (l1_4.length : Int)
           ·rw [if_pos c40] at H
            have c40b0 : decide (x6_3 < (l1_4.length : Int)) = true := decide_eq_true c40
            clear c40
            replace H := Option.bind_eq_some_iff.mp H
            obtain ⟨t527, A410, H⟩ := H
            replace H : (if t527 = true then (spec_Same.l1 k3 (wrap64 (x6_3 + 1)) a0_0 a0_1 a0_2 l0_3 l0_4 a1_0 a1_1 a1_2 l1_3 l1_4) else (some false)) = some r := H
            have A41 := aM A410
            clear A410
            by_cases c42 : t527 = true
            ·subst c42
             have H1 : (spec_Same.l1 k3 (wrap64 (x6_3 + 1)) a0_0 a0_1 a0_2 l0_3 l0_4 a1_0 a1_1 a1_2 l1_3 l1_4) = some r := by rw [if_pos rfl] at H; exact H
             clear H
             have H := H1
             clear H1
             have H' := aM H
             clear H
             have hnb43 := NB521_522.out
             have hnc43 := NB522_521.out
             have hcz44_0 : wr.cell? ⟨gb521, 0, none⟩ = some (.int .i64 a0_0) := (blk_cell BK521.out 0).trans rfl
             have hcz44_1 : wr.cell? ⟨gb521, 1, none⟩ = some (.int .i64 a0_1) := (blk_cell BK521.out 1).trans rfl
             have hcz44_2 : wr.cell? ⟨gb521, 2, none⟩ = some (.string a0_2) := (blk_cell BK521.out 2).trans rfl
             have hcz44_3 : wr.cell? ⟨gb521, 3, none⟩ = some (.slice A0_3 l0_3.length c0_3) := (blk_cell BK521.out 3).trans rfl
             have hcz44_4 : wr.cell? ⟨gb521, 4, none⟩ = some (.slice A0_4 l0_4.length c0_4) := (blk_cell BK521.out 4).trans rfl
             have hfz44_0 := blk_frozen BK521.out 0
             have hfz44_1 := blk_frozen BK521.out 1
             have hfz44_2 := blk_frozen BK521.out 2
             have hfz44_3 := blk_frozen BK521.out 3
             have hfz44_4 := blk_frozen BK521.out 4
             try go_wp2
             have n0_ := aM (blk_drew BK521.out)
             have n1_ := aM (blk_drew BK522.out)
             have n2_ := aM (below_drew1 HB.out)
             clear BK521 BK522 HB; have BK521 := n0_; have BK522 := n1_; have HB := n2_; clear n0_ n1_ n2_
             have p525 : 0 ≤ (x6_3 : Int) := of_decide_eq_true (by first | (with_reducible assumption) | assumption)
             have q525 : x6_3 < (l0_4.length : Int) := of_decide_eq_true (by first | (with_reducible assumption) | assumption)
             obtain ⟨ad525, A525_3, c525_3, A525_4, c525_4, e525, hx525_0, hx525_1, hx525_2, hx525_3, hx525_4, hl525_3, hi525_3, hl525_4, hi525_4⟩ := at_T25 HR0_4.out x6_3 p525 q525
             have hw525_4 := hx525_4
             have hw525_3 := hx525_3
             have hw525_2 := hx525_2
             have hw525_1 := hx525_1
             have hw525_0 := hx525_0
             cases e525
             replace hx525_0 := (HB.out.cell (World.block_lt_of_cell? w _ hx525_0)).trans hx525_0
             replace hx525_1 := (HB.out.cell (World.block_lt_of_cell? w _ hx525_1)).trans hx525_1
             replace hx525_2 := (HB.out.cell (World.block_lt_of_cell? w _ hx525_2)).trans hx525_2
             replace hx525_3 := (HB.out.cell (World.block_lt_of_cell? w _ hx525_3)).trans hx525_3
             replace hx525_4 := (HB.out.cell (World.block_lt_of_cell? w _ hx525_4)).trans hx525_4
             have HR525_3 := aM hi525_3
             have HC525_3 := aM hl525_3
             clear hi525_3 hl525_3
             have HR525_4 := aM hi525_4
             have HC525_4 := aM hl525_4
             clear hi525_4 hl525_4
             replace p525 := eq_true p525
             replace q525 := eq_true q525
             have p526 : 0 ≤ (x6_3 : Int) := of_decide_eq_true (by first | (with_reducible assumption) | assumption)
             have q526 : x6_3 < (l1_4.length : Int) := of_decide_eq_true (by first | (with_reducible assumption) | assumption)
             obtain ⟨ad526, A526_3, c526_3, A526_4, c526_4, e526, hx526_0, hx526_1, hx526_2, hx526_3, hx526_4, hl526_3, hi526_3, hl526_4, hi526_4⟩ := at_T25 HR1_4.out x6_3 p526 q526
             have hw526_4 := hx526_4
             have hw526_3 := hx526_3
             have hw526_2 := hx526_2
             have hw526_1 := hx526_1
             have hw526_0 := hx526_0
             cases e526
             replace hx526_0 := (HB.out.cell (World.block_lt_of_cell? w _ hx526_0)).trans hx526_0
             replace hx526_1 := (HB.out.cell (World.block_lt_of_cell? w _ hx526_1)).trans hx526_1
             replace hx526_2 := (HB.out.cell (World.block_lt_of_cell? w _ hx526_2)).trans hx526_2
             replace hx526_3 := (HB.out.cell (World.block_lt_of_cell? w _ hx526_3)).trans hx526_3
             replace hx526_4 := (HB.out.cell (World.block_lt_of_cell? w _ hx526_4)).trans hx526_4
             have HR526_3 := aM hi526_3
             have HC526_3 := aM hl526_3
             clear hi526_3 hl526_3
             have HR526_4 := aM hi526_4
             have HC526_4 := aM hl526_4
             clear hi526_4 hl526_4
             replace p526 := eq_true p526
             replace q526 := eq_true q526
             refine start_ (n := 12) (S := fun w' => w'.cell? ⟨gb521, 0, none⟩ = some (.int .i64 a0_0) ∧ w'.cell? ⟨gb521, 1, none⟩ = some (.int .i64 a0_1) ∧ w'.cell? ⟨gb521, 2, none⟩ = some (.string a0_2) ∧ w'.cell? ⟨gb521, 3, none⟩ = some (.slice A0_3 l0_3.length c0_3) ∧ w'.cell? ⟨gb521, 4, none⟩ = some (.slice (some ad525) l0_4.length c0_4) ∧ w'.cell? ⟨gb522, 0, none⟩ = some (.int .i64 a1_0) ∧ w'.cell? ⟨gb522, 1, none⟩ = some (.int .i64 a1_1) ∧ w'.cell? ⟨gb522, 2, none⟩ = some (.string a1_2) ∧ w'.cell? ⟨gb522, 3, none⟩ = some (.slice A1_3 l1_3.length c1_3) ∧ w'.cell? ⟨gb522, 4, none⟩ = some (.slice (some ad526) l1_4.length c1_4) ∧ w'.cell? (ad525.add ((x6_3).toNat * 5)) = some (.int .i64 ((rd_T25 l0_4 x6_3).f0)) ∧ w'.cell? ⟨(ad525.add ((x6_3).toNat * 5)).block, (ad525.add ((x6_3).toNat * 5)).off + 1, none⟩ = some (.int .i64 ((rd_T25 l0_4 x6_3).f1)) ∧ w'.cell? ⟨(ad525.add ((x6_3).toNat * 5)).block, (ad525.add ((x6_3).toNat * 5)).off + 2, none⟩ = some (.string ((rd_T25 l0_4 x6_3).f2)) ∧ w'.cell? ⟨(ad525.add ((x6_3).toNat * 5)).block, (ad525.add ((x6_3).toNat * 5)).off + 3, none⟩ = some (.slice A525_3 ((rd_T25 l0_4 x6_3).f3).length c525_3) ∧ w'.cell? ⟨(ad525.add ((x6_3).toNat * 5)).block, (ad525.add ((x6_3).toNat * 5)).off + 4, none⟩ = some (.slice A525_4 ((rd_T25 l0_4 x6_3).f4).length c525_4) ∧ w'.cell? (ad526.add ((x6_3).toNat * 5)) = some (.int .i64 ((rd_T25 l1_4 x6_3).f0)) ∧ w'.cell? ⟨(ad526.add ((x6_3).toNat * 5)).block, (ad526.add ((x6_3).toNat * 5)).off + 1, none⟩ = some (.int .i64 ((rd_T25 l1_4 x6_3).f1)) ∧ w'.cell? ⟨(ad526.add ((x6_3).toNat * 5)).block, (ad526.add ((x6_3).toNat * 5)).off + 2, none⟩ = some (.string ((rd_T25 l1_4 x6_3).f2)) ∧ w'.cell? ⟨(ad526.add ((x6_3).toNat * 5)).block, (ad526.add ((x6_3).toNat * 5)).off + 3, none⟩ = some (.slice A526_3 ((rd_T25 l1_4 x6_3).f3).length c526_3) ∧ w'.cell? ⟨(ad526.add ((x6_3).toNat * 5)).block, (ad526.add ((x6_3).toNat * 5)).off + 4, none⟩ = some (.slice A526_4 ((rd_T25 l1_4 x6_3).f4).length c526_4)) (ds := []) #[false, false, false, false, false, false, false, false, false, false, false, false] (by kernel_rfl) rfl rfl ⟨(blk_cell BK521.out 0).trans rfl, (blk_cell BK521.out 1).trans rfl, (blk_cell BK521.out 2).trans rfl, (blk_cell BK521.out 3).trans rfl, (blk_cell BK521.out 4).trans rfl, (blk_cell BK522.out 0).trans rfl, (blk_cell BK522.out 1).trans rfl, (blk_cell BK522.out 2).trans rfl, (blk_cell BK522.out 3).trans rfl, (blk_cell BK522.out 4).trans rfl, ((HB.out.cell (World.block_lt_of_cell? w _ hw525_0)).trans hw525_0), ((HB.out.cell (World.block_lt_of_cell? w _ hw525_1)).trans hw525_1), ((HB.out.cell (World.block_lt_of_cell? w _ hw525_2)).trans hw525_2), ((HB.out.cell (World.block_lt_of_cell? w _ hw525_3)).trans hw525_3), ((HB.out.cell (World.block_lt_of_cell? w _ hw525_4)).trans hw525_4), ((HB.out.cell (World.block_lt_of_cell? w _ hw526_0)).trans hw526_0), ((HB.out.cell (World.block_lt_of_cell? w _ hw526_1)).trans hw526_1), ((HB.out.cell (World.block_lt_of_cell? w _ hw526_2)).trans hw526_2), ((HB.out.cell (World.block_lt_of_cell? w _ hw526_3)).trans hw526_3), ((HB.out.cell (World.block_lt_of_cell? w _ hw526_4)).trans hw526_4)⟩ (fun hHeld => ?_); refine with_tabW spec_Same.tab11 spec_Same.bits11 (fun HT_ HW_ => ?_)
             generalize wr.drew = w45 at BK521 BK522 HB HR525_3 HR525_4 HR526_3 HR526_4 hx525_0 hx525_1 hx525_2 hx525_3 hx525_4 hx526_0 hx526_1 hx526_2 hx526_3 hx526_4 hHeld ⊢
             refine pure_ (i := 0) (N := some 69) (v := ?_) (a' := ?_) #[true, false, false, false, false, false, false, false, false, false, false, false] rfl rfl (any_of HT_.out (by kernel_rfl)) (fun _ _ _ h => h) (Or.inl ⟨by rfl, ?_⟩) ?_ ?_
             rotate_left
             ·intro w'; go_simp; with_reducible rfl
             rotate_left
             ·simp only [Act.put, sA, sB, sC, i64_w, i32_w]; rfl
             refine pure_ (i := 2) (N := some 71) (v := ?_) (a' := ?_) #[true, false, true, false, false, false, false, false, false, false, false, false] rfl rfl (any_of HT_.out (by kernel_rfl)) (fun _ _ _ h => h) (Or.inl ⟨by rfl, ?_⟩) ?_ ?_
             rotate_left
             ·intro w'; go_simp; with_reducible rfl
             rotate_left
             ·simp only [Act.put, sA, sB, sC, i64_w, i32_w]; rfl
             refine pure_ (i := 5) (N := some 74) (v := ?_) (a' := ?_) #[true, false, true, false, false, true, false, false, false, false, false, false] rfl rfl (any_of HT_.out (by kernel_rfl)) (fun _ _ _ h => h) (Or.inl ⟨by rfl, ?_⟩) ?_ ?_
             rotate_left
             ·intro w'; go_simp; with_reducible rfl
             rotate_left
             ·simp only [Act.put, sA, sB, sC, i64_w, i32_w]; rfl
             refine pure_ (i := 7) (N := some 76) (v := ?_) (a' := ?_) #[true, false, true, false, false, true, false, true, false, false, false, false] rfl rfl (any_of HT_.out (by kernel_rfl)) (fun _ _ _ h => h) (Or.inl ⟨by rfl, ?_⟩) ?_ ?_
             rotate_left
             ·intro w'; go_simp; with_reducible rfl
             rotate_left
             ·simp only [Act.put, sA, sB, sC, i64_w, i32_w]; rfl
             refine take_ (i := 1) (N := some 70) (v := ?_) (a' := ?_) #[true, true, true, false, false, true, false, true, false, false, false, false] rfl rfl (take_ofW HT_.out HW_.out (by kernel_rfl)) (fun _ _ _ h => h) (Or.inl ⟨by rfl, ?_⟩) hHeld ?_ ?_
             rotate_left
             ·rintro w' ⟨s0, s1, s2, s3, s4, s5, s6, s7, s8, s9, s10, s11, s12, s13, s14, s15, s16, s17, s18, s19⟩
              go_simp; with_reducible rfl
             rotate_left
             ·simp only [Act.put, sA, sB, sC, i64_w, i32_w]; rfl
             refine pure_ (i := 3) (N := some 72) (v := ?_) (a' := ?_) #[true, true, true, true, false, true, false, true, false, false, false, false] rfl rfl (any_of HT_.out (by kernel_rfl)) (fun _ _ _ h => h) (Or.inl ⟨by rfl, ?_⟩) ?_ ?_
             rotate_left
             ·intro w'; go_simp; with_reducible rfl
             rotate_left
             ·simp only [Act.put, sA, sB, sC, i64_w, i32_w]; rfl
             refine take_ (i := 4) (N := some 73) (v := ?_) (a' := ?_) #[true, true, true, true, true, true, false, true, false, false, false, false] rfl rfl (take_ofW HT_.out HW_.out (by kernel_rfl)) (fun _ _ _ h => h) (Or.inl ⟨by rfl, ?_⟩) hHeld ?_ ?_
             rotate_left
             ·rintro w' ⟨s0, s1, s2, s3, s4, s5, s6, s7, s8, s9, s10, s11, s12, s13, s14, s15, s16, s17, s18, s19⟩
              go_simp; with_reducible rfl
             rotate_left
             ·simp only [Act.put, sA, sB, sC, i64_w, i32_w]; rfl
             refine take_ (i := 6) (N := some 75) (v := ?_) (a' := ?_) #[true, true, true, true, true, true, true, true, false, false, false, false] rfl rfl (take_ofW HT_.out HW_.out (by kernel_rfl)) (fun _ _ _ h => h) (Or.inl ⟨by rfl, ?_⟩) hHeld ?_ ?_
             rotate_left
             ·rintro w' ⟨s0, s1, s2, s3, s4, s5, s6, s7, s8, s9, s10, s11, s12, s13, s14, s15, s16, s17, s18, s19⟩
              go_simp; with_reducible rfl
             rotate_left
             ·simp only [Act.put, sA, sB, sC, i64_w, i32_w]; rfl
             refine pure_ (i := 8) (N := some 77) (v := ?_) (a' := ?_) #[true, true, true, true, true, true, true, true, true, false, false, false] rfl rfl (any_of HT_.out (by kernel_rfl)) (fun _ _ _ h => h) (Or.inl ⟨by rfl, ?_⟩) ?_ ?_
             rotate_left
             ·intro w'; go_simp; with_reducible rfl
             rotate_left
             ·simp only [Act.put, sA, sB, sC, i64_w, i32_w]; rfl
             refine take_ (i := 9) (N := some 78) (v := ?_) (a' := ?_) #[true, true, true, true, true, true, true, true, true, true, false, false] rfl rfl (take_ofW HT_.out HW_.out (by kernel_rfl)) (fun _ _ _ h => h) (Or.inl ⟨by rfl, ?_⟩) hHeld ?_ ?_
             rotate_left
             ·rintro w' ⟨s0, s1, s2, s3, s4, s5, s6, s7, s8, s9, s10, s11, s12, s13, s14, s15, s16, s17, s18, s19⟩
              go_simp; with_reducible rfl
             rotate_left
             ·simp only [Act.put, sA, sB, sC, i64_w, i32_w]; rfl
             refine one_ (i := 10) (N := some 79) #[true, true, true, true, true, true, true, true, true, true, true, false] rfl rfl (one_of HT_.out (by kernel_rfl)) (by decide) (fun K hK => ?_)
             refine goes_ Tryz.func22 (by kernel_rfl) rfl #[.agg #[.int .i64 ((rd_T25 l0_4 x6_3).f0), .int .i64 ((rd_T25 l0_4 x6_3).f1), .string ((rd_T25 l0_4 x6_3).f2), .slice A525_3 ((rd_T25 l0_4 x6_3).f3).length c525_3, .slice A525_4 ((rd_T25 l0_4 x6_3).f4).length c525_4], .agg #[.int .i64 ((rd_T25 l1_4 x6_3).f0), .int .i64 ((rd_T25 l1_4 x6_3).f1), .string ((rd_T25 l1_4 x6_3).f2), .slice A526_3 ((rd_T25 l1_4 x6_3).f3).length c526_3, .slice A526_4 ((rd_T25 l1_4 x6_3).f4).length c526_4]] (by rfl) rfl rfl (by (try simp only [List.map_toArray, List.map_cons, List.map_nil]); first | done | rfl | (simp only [List.length_drop, List.length_take]; rfl)) ?_
             with_reducible refine (ih k3 (by have := HJ2.out; have := HK2.out; have := HK3.out; omega) ((rd_T25 l0_4 x6_3).f0) ((rd_T25 l0_4 x6_3).f1) ((rd_T25 l0_4 x6_3).f2) _ _ ((rd_T25 l0_4 x6_3).f3) _ _ ((rd_T25 l0_4 x6_3).f4) ((rd_T25 l1_4 x6_3).f0) ((rd_T25 l1_4 x6_3).f1) ((rd_T25 l1_4 x6_3).f2) _ _ ((rd_T25 l1_4 x6_3).f3) _ _ ((rd_T25 l1_4 x6_3).f4) true _ ?side1 ?side2 ?side3 ?side4 ?side5 ?side6 ?side7 ?side8 A41.out).mono ?_
             (case side1 => repeat (first | exact (Kd.C_below HR525_3.out HB.out) | (with_reducible refine Kd.C_alloc ?_ _) | (with_reducible refine Kd.C_drewN ?_ _) | (with_reducible refine Kd.C_drew ?_)))
             (case side2 => exact HC525_3.out)
             (case side3 => repeat (first | exact (Kd.C_below HR525_4.out HB.out) | (with_reducible refine Kd.C_alloc ?_ _) | (with_reducible refine Kd.C_drewN ?_ _) | (with_reducible refine Kd.C_drew ?_)))
             (case side4 => exact HC525_4.out)
             (case side5 => repeat (first | exact (Kd.C_below HR526_3.out HB.out) | (with_reducible refine Kd.C_alloc ?_ _) | (with_reducible refine Kd.C_drewN ?_ _) | (with_reducible refine Kd.C_drew ?_)))
             (case side6 => exact HC526_3.out)
             (case side7 => repeat (first | exact (Kd.C_below HR526_4.out HB.out) | (with_reducible refine Kd.C_alloc ?_ _) | (with_reducible refine Kd.C_drewN ?_ _) | (with_reducible refine Kd.C_drew ?_)))
             (case side8 => exact HC526_4.out)
             rintro e w46 ⟨rfl, hb⟩
             refine ⟨_, rfl, ?_⟩
             have n0_ := aM (blk_below (g := gb521) (o := .cells #[.int .i64 a0_0, .int .i64 a0_1, .string a0_2, .slice A0_3 l0_3.length c0_3, .slice (some ad525) l0_4.length c0_4] 25 (0, 0)) (by (with_reducible repeat (first | refine blk_drewN ?_ _ | refine blk_drew ?_ | refine blk_alloc ?_ _)); exact BK521.out) hb)
             have n1_ := aM (blk_below (g := gb522) (o := .cells #[.int .i64 a1_0, .int .i64 a1_1, .string a1_2, .slice A1_3 l1_3.length c1_3, .slice (some ad526) l1_4.length c1_4] 25 (0, 0)) (by (with_reducible repeat (first | refine blk_drewN ?_ _ | refine blk_drew ?_ | refine blk_alloc ?_ _)); exact BK522.out) hb)
             have n2_ := aM (below_step (by repeat (first | (with_reducible first | exact HB.out | apply below_alloc | apply pw_below_drewN | apply below_drew1 | refine below_set ?_ GE521.out | refine below_set ?_ GE522.out) | exact HB.out)) hb)
             clear BK521 BK522 HB; have BK521 := n0_; have BK522 := n1_; have HB := n2_; clear n0_ n1_ n2_
             (try clear hb)
             (try clear hb2)
             (try clear hk)
             (try clear hi)
             refine hK.out _ _ ⟨(blk_cell BK521.out 0).trans rfl, (blk_cell BK521.out 1).trans rfl, (blk_cell BK521.out 2).trans rfl, (blk_cell BK521.out 3).trans rfl, (blk_cell BK521.out 4).trans rfl, (blk_cell BK522.out 0).trans rfl, (blk_cell BK522.out 1).trans rfl, (blk_cell BK522.out 2).trans rfl, (blk_cell BK522.out 3).trans rfl, (blk_cell BK522.out 4).trans rfl, ((HB.out.cell (World.block_lt_of_cell? w _ hw525_0)).trans hw525_0), ((HB.out.cell (World.block_lt_of_cell? w _ hw525_1)).trans hw525_1), ((HB.out.cell (World.block_lt_of_cell? w _ hw525_2)).trans hw525_2), ((HB.out.cell (World.block_lt_of_cell? w _ hw525_3)).trans hw525_3), ((HB.out.cell (World.block_lt_of_cell? w _ hw525_4)).trans hw525_4), ((HB.out.cell (World.block_lt_of_cell? w _ hw526_0)).trans hw526_0), ((HB.out.cell (World.block_lt_of_cell? w _ hw526_1)).trans hw526_1), ((HB.out.cell (World.block_lt_of_cell? w _ hw526_2)).trans hw526_2), ((HB.out.cell (World.block_lt_of_cell? w _ hw526_3)).trans hw526_3), ((HB.out.cell (World.block_lt_of_cell? w _ hw526_4)).trans hw526_4)⟩ (fun hHeld => ?_)
             clear hK K
             refine norm_ (a' := ?_) ?_ ?_
             rotate_left
             ·show Act.put _ (some 79) _ = _
              simp only [Act.put, sA, sB, sC, i64_w, i32_w]; rfl
             refine pure_ (i := 11) (N := some 80) (v := ?_) (a' := ?_) #[true, true, true, true, true, true, true, true, true, true, true, true] rfl rfl (any_of HT_.out (by kernel_rfl)) (fun _ _ _ h => h) (Or.inl ⟨by rfl, ?_⟩) ?_ ?_
             rotate_left
             ·intro w'; go_simp; with_reducible rfl
             rotate_left
             ·simp only [Act.put, sA, sB, sC, i64_w, i32_w]; rfl
             refine done_ (done_of HT_.out (by kernel_rfl)) ?_
             try go_wp2
             go_roundg k3
             case measure => have := HJ2.out; have := HK2.out; have := HK3.out; omega
             case rel => exact ⟨(wrap64 (x6_3 + 1)), (by first | rfl | (simp; done) | (simp [*]; done)), H', ⟨by have := HJ2.out; have := HK2.out; have := HK3.out; omega⟩, ⟨by (with_reducible repeat (first | refine blk_drewN ?_ _ | refine blk_drew ?_ | refine blk_alloc ?_ _)); exact BK521.out⟩, ⟨by (with_reducible repeat (first | refine blk_drewN ?_ _ | refine blk_drew ?_ | refine blk_alloc ?_ _)); exact BK522.out⟩, ⟨by repeat (first | (with_reducible first | exact HB.out | apply below_alloc | apply pw_below_drewN | apply below_drew1 | refine below_set ?_ GE521.out | refine below_set ?_ GE522.out) | exact HB.out)⟩⟩
            ·replace c42 := Bool.eq_false_iff.mpr c42
             subst c42
             have H1 : (some false) = some r := by rw [if_neg (show ¬ (false = true) by decide)] at H; exact H
             clear H
             have H := H1
             clear H1
             obtain rfl := Option.some.inj H
             have hnb47 := NB521_522.out
             have hnc47 := NB522_521.out
             have hcz48_0 : wr.cell? ⟨gb521, 0, none⟩ = some (.int .i64 a0_0) := (blk_cell BK521.out 0).trans rfl
             have hcz48_1 : wr.cell? ⟨gb521, 1, none⟩ = some (.int .i64 a0_1) := (blk_cell BK521.out 1).trans rfl
             have hcz48_2 : wr.cell? ⟨gb521, 2, none⟩ = some (.string a0_2) := (blk_cell BK521.out 2).trans rfl
             have hcz48_3 : wr.cell? ⟨gb521, 3, none⟩ = some (.slice A0_3 l0_3.length c0_3) := (blk_cell BK521.out 3).trans rfl
             have hcz48_4 : wr.cell? ⟨gb521, 4, none⟩ = some (.slice A0_4 l0_4.length c0_4) := (blk_cell BK521.out 4).trans rfl
             have hfz48_0 := blk_frozen BK521.out 0
             have hfz48_1 := blk_frozen BK521.out 1
             have hfz48_2 := blk_frozen BK521.out 2
             have hfz48_3 := blk_frozen BK521.out 3
             have hfz48_4 := blk_frozen BK521.out 4
             try go_wp2
             have n0_ := aM (blk_drew BK521.out)
             have n1_ := aM (blk_drew BK522.out)
             have n2_ := aM (below_drew1 HB.out)
             clear BK521 BK522 HB; have BK521 := n0_; have BK522 := n1_; have HB := n2_; clear n0_ n1_ n2_
             have p525 : 0 ≤ (x6_3 : Int) := of_decide_eq_true (by first | (with_reducible assumption) | assumption)
             have q525 : x6_3 < (l0_4.length : Int) := of_decide_eq_true (by first | (with_reducible assumption) | assumption)
             obtain ⟨ad525, A525_3, c525_3, A525_4, c525_4, e525, hx525_0, hx525_1, hx525_2, hx525_3, hx525_4, hl525_3, hi525_3, hl525_4, hi525_4⟩ := at_T25 HR0_4.out x6_3 p525 q525
             have hw525_4 := hx525_4
             have hw525_3 := hx525_3
             have hw525_2 := hx525_2
             have hw525_1 := hx525_1
             have hw525_0 := hx525_0
             cases e525
             replace hx525_0 := (HB.out.cell (World.block_lt_of_cell? w _ hx525_0)).trans hx525_0
             replace hx525_1 := (HB.out.cell (World.block_lt_of_cell? w _ hx525_1)).trans hx525_1
             replace hx525_2 := (HB.out.cell (World.block_lt_of_cell? w _ hx525_2)).trans hx525_2
             replace hx525_3 := (HB.out.cell (World.block_lt_of_cell? w _ hx525_3)).trans hx525_3
             replace hx525_4 := (HB.out.cell (World.block_lt_of_cell? w _ hx525_4)).trans hx525_4
             have HR525_3 := aM hi525_3
             have HC525_3 := aM hl525_3
             clear hi525_3 hl525_3
             have HR525_4 := aM hi525_4
             have HC525_4 := aM hl525_4
             clear hi525_4 hl525_4
             replace p525 := eq_true p525
             replace q525 := eq_true q525
             have p526 : 0 ≤ (x6_3 : Int) := of_decide_eq_true (by first | (with_reducible assumption) | assumption)
             have q526 : x6_3 < (l1_4.length : Int) := of_decide_eq_true (by first | (with_reducible assumption) | assumption)
             obtain ⟨ad526, A526_3, c526_3, A526_4, c526_4, e526, hx526_0, hx526_1, hx526_2, hx526_3, hx526_4, hl526_3, hi526_3, hl526_4, hi526_4⟩ := at_T25 HR1_4.out x6_3 p526 q526
             have hw526_4 := hx526_4
             have hw526_3 := hx526_3
             have hw526_2 := hx526_2
             have hw526_1 := hx526_1
             have hw526_0 := hx526_0
             cases e526
             replace hx526_0 := (HB.out.cell (World.block_lt_of_cell? w _ hx526_0)).trans hx526_0
             replace hx526_1 := (HB.out.cell (World.block_lt_of_cell? w _ hx526_1)).trans hx526_1
             replace hx526_2 := (HB.out.cell (World.block_lt_of_cell? w _ hx526_2)).trans hx526_2
             replace hx526_3 := (HB.out.cell (World.block_lt_of_cell? w _ hx526_3)).trans hx526_3
             replace hx526_4 := (HB.out.cell (World.block_lt_of_cell? w _ hx526_4)).trans hx526_4
             have HR526_3 := aM hi526_3
             have HC526_3 := aM hl526_3
             clear hi526_3 hl526_3
             have HR526_4 := aM hi526_4
             have HC526_4 := aM hl526_4
             clear hi526_4 hl526_4
             replace p526 := eq_true p526
             replace q526 := eq_true q526
             refine start_ (n := 12) (S := fun w' => w'.cell? ⟨gb521, 0, none⟩ = some (.int .i64 a0_0) ∧ w'.cell? ⟨gb521, 1, none⟩ = some (.int .i64 a0_1) ∧ w'.cell? ⟨gb521, 2, none⟩ = some (.string a0_2) ∧ w'.cell? ⟨gb521, 3, none⟩ = some (.slice A0_3 l0_3.length c0_3) ∧ w'.cell? ⟨gb521, 4, none⟩ = some (.slice (some ad525) l0_4.length c0_4) ∧ w'.cell? ⟨gb522, 0, none⟩ = some (.int .i64 a1_0) ∧ w'.cell? ⟨gb522, 1, none⟩ = some (.int .i64 a1_1) ∧ w'.cell? ⟨gb522, 2, none⟩ = some (.string a1_2) ∧ w'.cell? ⟨gb522, 3, none⟩ = some (.slice A1_3 l1_3.length c1_3) ∧ w'.cell? ⟨gb522, 4, none⟩ = some (.slice (some ad526) l1_4.length c1_4) ∧ w'.cell? (ad525.add ((x6_3).toNat * 5)) = some (.int .i64 ((rd_T25 l0_4 x6_3).f0)) ∧ w'.cell? ⟨(ad525.add ((x6_3).toNat * 5)).block, (ad525.add ((x6_3).toNat * 5)).off + 1, none⟩ = some (.int .i64 ((rd_T25 l0_4 x6_3).f1)) ∧ w'.cell? ⟨(ad525.add ((x6_3).toNat * 5)).block, (ad525.add ((x6_3).toNat * 5)).off + 2, none⟩ = some (.string ((rd_T25 l0_4 x6_3).f2)) ∧ w'.cell? ⟨(ad525.add ((x6_3).toNat * 5)).block, (ad525.add ((x6_3).toNat * 5)).off + 3, none⟩ = some (.slice A525_3 ((rd_T25 l0_4 x6_3).f3).length c525_3) ∧ w'.cell? ⟨(ad525.add ((x6_3).toNat * 5)).block, (ad525.add ((x6_3).toNat * 5)).off + 4, none⟩ = some (.slice A525_4 ((rd_T25 l0_4 x6_3).f4).length c525_4) ∧ w'.cell? (ad526.add ((x6_3).toNat * 5)) = some (.int .i64 ((rd_T25 l1_4 x6_3).f0)) ∧ w'.cell? ⟨(ad526.add ((x6_3).toNat * 5)).block, (ad526.add ((x6_3).toNat * 5)).off + 1, none⟩ = some (.int .i64 ((rd_T25 l1_4 x6_3).f1)) ∧ w'.cell? ⟨(ad526.add ((x6_3).toNat * 5)).block, (ad526.add ((x6_3).toNat * 5)).off + 2, none⟩ = some (.string ((rd_T25 l1_4 x6_3).f2)) ∧ w'.cell? ⟨(ad526.add ((x6_3).toNat * 5)).block, (ad526.add ((x6_3).toNat * 5)).off + 3, none⟩ = some (.slice A526_3 ((rd_T25 l1_4 x6_3).f3).length c526_3) ∧ w'.cell? ⟨(ad526.add ((x6_3).toNat * 5)).block, (ad526.add ((x6_3).toNat * 5)).off + 4, none⟩ = some (.slice A526_4 ((rd_T25 l1_4 x6_3).f4).length c526_4)) (ds := []) #[false, false, false, false, false, false, false, false, false, false, false, false] (by kernel_rfl) rfl rfl ⟨(blk_cell BK521.out 0).trans rfl, (blk_cell BK521.out 1).trans rfl, (blk_cell BK521.out 2).trans rfl, (blk_cell BK521.out 3).trans rfl, (blk_cell BK521.out 4).trans rfl, (blk_cell BK522.out 0).trans rfl, (blk_cell BK522.out 1).trans rfl, (blk_cell BK522.out 2).trans rfl, (blk_cell BK522.out 3).trans rfl, (blk_cell BK522.out 4).trans rfl, ((HB.out.cell (World.block_lt_of_cell? w _ hw525_0)).trans hw525_0), ((HB.out.cell (World.block_lt_of_cell? w _ hw525_1)).trans hw525_1), ((HB.out.cell (World.block_lt_of_cell? w _ hw525_2)).trans hw525_2), ((HB.out.cell (World.block_lt_of_cell? w _ hw525_3)).trans hw525_3), ((HB.out.cell (World.block_lt_of_cell? w _ hw525_4)).trans hw525_4), ((HB.out.cell (World.block_lt_of_cell? w _ hw526_0)).trans hw526_0), ((HB.out.cell (World.block_lt_of_cell? w _ hw526_1)).trans hw526_1), ((HB.out.cell (World.block_lt_of_cell? w _ hw526_2)).trans hw526_2), ((HB.out.cell (World.block_lt_of_cell? w _ hw526_3)).trans hw526_3), ((HB.out.cell (World.block_lt_of_cell? w _ hw526_4)).trans hw526_4)⟩ (fun hHeld => ?_); refine with_tabW spec_Same.tab11 spec_Same.bits11 (fun HT_ HW_ => ?_)
             generalize wr.drew = w49 at BK521 BK522 HB HR525_3 HR525_4 HR526_3 HR526_4 hx525_0 hx525_1 hx525_2 hx525_3 hx525_4 hx526_0 hx526_1 hx526_2 hx526_3 hx526_4 hHeld ⊢
             refine pure_ (i := 0) (N := some 69) (v := ?_) (a' := ?_) #[true, false, false, false, false, false, false, false, false, false, false, false] rfl rfl (any_of HT_.out (by kernel_rfl)) (fun _ _ _ h => h) (Or.inl ⟨by rfl, ?_⟩) ?_ ?_
             rotate_left
             ·intro w'; go_simp; with_reducible rfl
             rotate_left
             ·simp only [Act.put, sA, sB, sC, i64_w, i32_w]; rfl
             refine pure_ (i := 2) (N := some 71) (v := ?_) (a' := ?_) #[true, false, true, false, false, false, false, false, false, false, false, false] rfl rfl (any_of HT_.out (by kernel_rfl)) (fun _ _ _ h => h) (Or.inl ⟨by rfl, ?_⟩) ?_ ?_
             rotate_left
             ·intro w'; go_simp; with_reducible rfl
             rotate_left
             ·simp only [Act.put, sA, sB, sC, i64_w, i32_w]; rfl
             refine pure_ (i := 5) (N := some 74) (v := ?_) (a' := ?_) #[true, false, true, false, false, true, false, false, false, false, false, false] rfl rfl (any_of HT_.out (by kernel_rfl)) (fun _ _ _ h => h) (Or.inl ⟨by rfl, ?_⟩) ?_ ?_
             rotate_left
             ·intro w'; go_simp; with_reducible rfl
             rotate_left
             ·simp only [Act.put, sA, sB, sC, i64_w, i32_w]; rfl
             refine pure_ (i := 7) (N := some 76) (v := ?_) (a' := ?_) #[true, false, true, false, false, true, false, true, false, false, false, false] rfl rfl (any_of HT_.out (by kernel_rfl)) (fun _ _ _ h => h) (Or.inl ⟨by rfl, ?_⟩) ?_ ?_
             rotate_left
             ·intro w'; go_simp; with_reducible rfl
             rotate_left
             ·simp only [Act.put, sA, sB, sC, i64_w, i32_w]; rfl
             refine take_ (i := 1) (N := some 70) (v := ?_) (a' := ?_) #[true, true, true, false, false, true, false, true, false, false, false, false] rfl rfl (take_ofW HT_.out HW_.out (by kernel_rfl)) (fun _ _ _ h => h) (Or.inl ⟨by rfl, ?_⟩) hHeld ?_ ?_
             rotate_left
             ·rintro w' ⟨s0, s1, s2, s3, s4, s5, s6, s7, s8, s9, s10, s11, s12, s13, s14, s15, s16, s17, s18, s19⟩
              go_simp; with_reducible rfl
             rotate_left
             ·simp only [Act.put, sA, sB, sC, i64_w, i32_w]; rfl
             refine pure_ (i := 3) (N := some 72) (v := ?_) (a' := ?_) #[true, true, true, true, false, true, false, true, false, false, false, false] rfl rfl (any_of HT_.out (by kernel_rfl)) (fun _ _ _ h => h) (Or.inl ⟨by rfl, ?_⟩) ?_ ?_
             rotate_left
             ·intro w'; go_simp; with_reducible rfl
             rotate_left
             ·simp only [Act.put, sA, sB, sC, i64_w, i32_w]; rfl
             refine take_ (i := 4) (N := some 73) (v := ?_) (a' := ?_) #[true, true, true, true, true, true, false, true, false, false, false, false] rfl rfl (take_ofW HT_.out HW_.out (by kernel_rfl)) (fun _ _ _ h => h) (Or.inl ⟨by rfl, ?_⟩) hHeld ?_ ?_
             rotate_left
             ·rintro w' ⟨s0, s1, s2, s3, s4, s5, s6, s7, s8, s9, s10, s11, s12, s13, s14, s15, s16, s17, s18, s19⟩
              go_simp; with_reducible rfl
             rotate_left
             ·simp only [Act.put, sA, sB, sC, i64_w, i32_w]; rfl
             refine take_ (i := 6) (N := some 75) (v := ?_) (a' := ?_) #[true, true, true, true, true, true, true, true, false, false, false, false] rfl rfl (take_ofW HT_.out HW_.out (by kernel_rfl)) (fun _ _ _ h => h) (Or.inl ⟨by rfl, ?_⟩) hHeld ?_ ?_
             rotate_left
             ·rintro w' ⟨s0, s1, s2, s3, s4, s5, s6, s7, s8, s9, s10, s11, s12, s13, s14, s15, s16, s17, s18, s19⟩
              go_simp; with_reducible rfl
             rotate_left
             ·simp only [Act.put, sA, sB, sC, i64_w, i32_w]; rfl
             refine pure_ (i := 8) (N := some 77) (v := ?_) (a' := ?_) #[true, true, true, true, true, true, true, true, true, false, false, false] rfl rfl (any_of HT_.out (by kernel_rfl)) (fun _ _ _ h => h) (Or.inl ⟨by rfl, ?_⟩) ?_ ?_
             rotate_left
             ·intro w'; go_simp; with_reducible rfl
             rotate_left
             ·simp only [Act.put, sA, sB, sC, i64_w, i32_w]; rfl
             refine take_ (i := 9) (N := some 78) (v := ?_) (a' := ?_) #[true, true, true, true, true, true, true, true, true, true, false, false] rfl rfl (take_ofW HT_.out HW_.out (by kernel_rfl)) (fun _ _ _ h => h) (Or.inl ⟨by rfl, ?_⟩) hHeld ?_ ?_
             rotate_left
             ·rintro w' ⟨s0, s1, s2, s3, s4, s5, s6, s7, s8, s9, s10, s11, s12, s13, s14, s15, s16, s17, s18, s19⟩
              go_simp; with_reducible rfl
             rotate_left
             ·simp only [Act.put, sA, sB, sC, i64_w, i32_w]; rfl
             refine one_ (i := 10) (N := some 79) #[true, true, true, true, true, true, true, true, true, true, true, false] rfl rfl (one_of HT_.out (by kernel_rfl)) (by decide) (fun K hK => ?_)
             refine goes_ Tryz.func22 (by kernel_rfl) rfl #[.agg #[.int .i64 ((rd_T25 l0_4 x6_3).f0), .int .i64 ((rd_T25 l0_4 x6_3).f1), .string ((rd_T25 l0_4 x6_3).f2), .slice A525_3 ((rd_T25 l0_4 x6_3).f3).length c525_3, .slice A525_4 ((rd_T25 l0_4 x6_3).f4).length c525_4], .agg #[.int .i64 ((rd_T25 l1_4 x6_3).f0), .int .i64 ((rd_T25 l1_4 x6_3).f1), .string ((rd_T25 l1_4 x6_3).f2), .slice A526_3 ((rd_T25 l1_4 x6_3).f3).length c526_3, .slice A526_4 ((rd_T25 l1_4 x6_3).f4).length c526_4]] (by rfl) rfl rfl (by (try simp only [List.map_toArray, List.map_cons, List.map_nil]); first | done | rfl | (simp only [List.length_drop, List.length_take]; rfl)) ?_
             with_reducible refine (ih k3 (by have := HJ2.out; have := HK2.out; have := HK3.out; omega) ((rd_T25 l0_4 x6_3).f0) ((rd_T25 l0_4 x6_3).f1) ((rd_T25 l0_4 x6_3).f2) _ _ ((rd_T25 l0_4 x6_3).f3) _ _ ((rd_T25 l0_4 x6_3).f4) ((rd_T25 l1_4 x6_3).f0) ((rd_T25 l1_4 x6_3).f1) ((rd_T25 l1_4 x6_3).f2) _ _ ((rd_T25 l1_4 x6_3).f3) _ _ ((rd_T25 l1_4 x6_3).f4) false _ ?side1 ?side2 ?side3 ?side4 ?side5 ?side6 ?side7 ?side8 A41.out).mono ?_
             (case side1 => repeat (first | exact (Kd.C_below HR525_3.out HB.out) | (with_reducible refine Kd.C_alloc ?_ _) | (with_reducible refine Kd.C_drewN ?_ _) | (with_reducible refine Kd.C_drew ?_)))
             (case side2 => exact HC525_3.out)
             (case side3 => repeat (first | exact (Kd.C_below HR525_4.out HB.out) | (with_reducible refine Kd.C_alloc ?_ _) | (with_reducible refine Kd.C_drewN ?_ _) | (with_reducible refine Kd.C_drew ?_)))
             (case side4 => exact HC525_4.out)
             (case side5 => repeat (first | exact (Kd.C_below HR526_3.out HB.out) | (with_reducible refine Kd.C_alloc ?_ _) | (with_reducible refine Kd.C_drewN ?_ _) | (with_reducible refine Kd.C_drew ?_)))
             (case side6 => exact HC526_3.out)
             (case side7 => repeat (first | exact (Kd.C_below HR526_4.out HB.out) | (with_reducible refine Kd.C_alloc ?_ _) | (with_reducible refine Kd.C_drewN ?_ _) | (with_reducible refine Kd.C_drew ?_)))
             (case side8 => exact HC526_4.out)
             rintro e w50 ⟨rfl, hb⟩
             refine ⟨_, rfl, ?_⟩
             have n0_ := aM (blk_below (g := gb521) (o := .cells #[.int .i64 a0_0, .int .i64 a0_1, .string a0_2, .slice A0_3 l0_3.length c0_3, .slice (some ad525) l0_4.length c0_4] 25 (0, 0)) (by (with_reducible repeat (first | refine blk_drewN ?_ _ | refine blk_drew ?_ | refine blk_alloc ?_ _)); exact BK521.out) hb)
             have n1_ := aM (blk_below (g := gb522) (o := .cells #[.int .i64 a1_0, .int .i64 a1_1, .string a1_2, .slice A1_3 l1_3.length c1_3, .slice (some ad526) l1_4.length c1_4] 25 (0, 0)) (by (with_reducible repeat (first | refine blk_drewN ?_ _ | refine blk_drew ?_ | refine blk_alloc ?_ _)); exact BK522.out) hb)
             have n2_ := aM (below_step (by repeat (first | (with_reducible first | exact HB.out | apply below_alloc | apply pw_below_drewN | apply below_drew1 | refine below_set ?_ GE521.out | refine below_set ?_ GE522.out) | exact HB.out)) hb)
             clear BK521 BK522 HB; have BK521 := n0_; have BK522 := n1_; have HB := n2_; clear n0_ n1_ n2_
             (try clear hb)
             (try clear hb2)
             (try clear hk)
             (try clear hi)
             refine hK.out _ _ ⟨(blk_cell BK521.out 0).trans rfl, (blk_cell BK521.out 1).trans rfl, (blk_cell BK521.out 2).trans rfl, (blk_cell BK521.out 3).trans rfl, (blk_cell BK521.out 4).trans rfl, (blk_cell BK522.out 0).trans rfl, (blk_cell BK522.out 1).trans rfl, (blk_cell BK522.out 2).trans rfl, (blk_cell BK522.out 3).trans rfl, (blk_cell BK522.out 4).trans rfl, ((HB.out.cell (World.block_lt_of_cell? w _ hw525_0)).trans hw525_0), ((HB.out.cell (World.block_lt_of_cell? w _ hw525_1)).trans hw525_1), ((HB.out.cell (World.block_lt_of_cell? w _ hw525_2)).trans hw525_2), ((HB.out.cell (World.block_lt_of_cell? w _ hw525_3)).trans hw525_3), ((HB.out.cell (World.block_lt_of_cell? w _ hw525_4)).trans hw525_4), ((HB.out.cell (World.block_lt_of_cell? w _ hw526_0)).trans hw526_0), ((HB.out.cell (World.block_lt_of_cell? w _ hw526_1)).trans hw526_1), ((HB.out.cell (World.block_lt_of_cell? w _ hw526_2)).trans hw526_2), ((HB.out.cell (World.block_lt_of_cell? w _ hw526_3)).trans hw526_3), ((HB.out.cell (World.block_lt_of_cell? w _ hw526_4)).trans hw526_4)⟩ (fun hHeld => ?_)
             clear hK K
             refine norm_ (a' := ?_) ?_ ?_
             rotate_left
             ·show Act.put _ (some 79) _ = _
              simp only [Act.put, sA, sB, sC, i64_w, i32_w]; rfl
             refine pure_ (i := 11) (N := some 80) (v := ?_) (a' := ?_) #[true, true, true, true, true, true, true, true, true, true, true, true] rfl rfl (any_of HT_.out (by kernel_rfl)) (fun _ _ _ h => h) (Or.inl ⟨by rfl, ?_⟩) ?_ ?_
             rotate_left
             ·intro w'; go_simp; with_reducible rfl
             rotate_left
             ·simp only [Act.put, sA, sB, sC, i64_w, i32_w]; rfl
             refine done_ (done_of HT_.out (by kernel_rfl)) ?_
             try go_wp2
             go_ret
             exact ⟨by first | rfl | (simp [errW_none, errW_some] <;> rfl) | (simp [*, errW_none, errW_some] <;> rfl), by repeat (first | (with_reducible first | exact HB.out | apply below_alloc | apply pw_below_drewN | apply below_drew1 | refine below_set ?_ GE521.out | refine below_set ?_ GE522.out) | exact HB.out)⟩
           ·rw [if_neg c40] at H
            exact absurd H (by simp)
          ·rw [if_neg c39] at H
           exact absurd H (by simp)
         ·rw [if_neg c38] at H
          have c38b0 : decide (x6_3 < (l0_4.length : Int)) = false := decide_eq_false c38
          clear c38
          obtain rfl := Option.some.inj H
          have hnb51 := NB521_522.out
          have hnc51 := NB522_521.out
          have hcz52_0 : wr.cell? ⟨gb521, 0, none⟩ = some (.int .i64 a0_0) := (blk_cell BK521.out 0).trans rfl
          have hcz52_1 : wr.cell? ⟨gb521, 1, none⟩ = some (.int .i64 a0_1) := (blk_cell BK521.out 1).trans rfl
          have hcz52_2 : wr.cell? ⟨gb521, 2, none⟩ = some (.string a0_2) := (blk_cell BK521.out 2).trans rfl
          have hcz52_3 : wr.cell? ⟨gb521, 3, none⟩ = some (.slice A0_3 l0_3.length c0_3) := (blk_cell BK521.out 3).trans rfl
          have hcz52_4 : wr.cell? ⟨gb521, 4, none⟩ = some (.slice A0_4 l0_4.length c0_4) := (blk_cell BK521.out 4).trans rfl
          have hfz52_0 := blk_frozen BK521.out 0
          have hfz52_1 := blk_frozen BK521.out 1
          have hfz52_2 := blk_frozen BK521.out 2
          have hfz52_3 := blk_frozen BK521.out 3
          have hfz52_4 := blk_frozen BK521.out 4
          go_wp2
          go_ret
          exact ⟨by first | rfl | (simp [errW_none, errW_some] <;> rfl) | (simp [*, errW_none, errW_some] <;> rfl), by repeat (first | (with_reducible first | exact HB.out | apply below_alloc | apply pw_below_drewN | apply below_drew1 | refine below_set ?_ GE521.out | refine below_set ?_ GE522.out) | exact HB.out)⟩
end Go.Proofs.YtaembebbaejfiaaGreatDoor.PS
namespace Go.Proofs.YtaembebbaejfiaaGreatDoor.Tr
open Go.RowKit Go.Proofs.YtaembebbaejfiaaGreatDoorW.PrintWords Go.Proofs.YtaembebbaejfiaaGreatDoorW.PrintLast Go.Proofs.YtaembebbaejfiaaGreatDoor.Str Go.Proofs.YtaembebbaejfiaaGreatDoor.Kit Go.Proofs.YtaembebbaejfiaaGreatDoor.MapV Go.Proofs.YtaembebbaejfiaaGreatDoor.Frame Go.Proofs.YtaembebbaejfiaaGreatDoor.PS
set_option linter.unusedVariables false
set_option linter.unusedSimpArgs false
inductive Short : VS → Prop
 | mk (x : VS) (hk : x.f3.length ≤ 8796093022000) (hl : x.f4.length ≤ 1759218604400) (hv : ∀ v, v ∈ x.f4 → Short v) : Short x
theorem rdS' {xs : List VS} {i : Nat} (h : i < xs.length) : rd_T25 xs (i : Int) = xs[i] := by
 unfold rd_T25
 simp [List.getD_eq_getElem?_getD, h]
theorem wrapQ (i : Nat) (h : i < 4611686018427387904) : wrap64 ((i : Int) + 1) = ((i + 1 : Nat) : Int) := by unfold wrap64; omega
def SameEv (x : VS) : Prop := Ev (fun k => spec_Same.f k x.f0 x.f1 x.f2 x.f3 x.f4 x.f0 x.f1 x.f2 x.f3 x.f4) true
theorem ev_same_l1 (a b : Int) (c : BA) (ks : List BA) (vs : List VS) (hl : vs.length ≤ 1759218604400) (hch : ∀ v, v ∈ vs → SameEv v) : ∀ (d i : Nat), i + d = vs.length → Ev (fun k => spec_Same.l1 k (i : Int) a b c ks vs a b c ks vs) true := by
 intro d
 induction d with
 | zero =>
  intro i hi
  refine Ev.step (fun k => ?_) (Ev.now _)
  simp only [spec_Same.l1]
  rw [if_neg (by omega)]
 | succ d ih =>
  intro i hi
  have hlt : i < vs.length := by omega
  refine Ev.step (f := fun k => (spec_Same.f k vs[i].f0 vs[i].f1 vs[i].f2 vs[i].f3 vs[i].f4 vs[i].f0 vs[i].f1 vs[i].f2 vs[i].f3 vs[i].f4).bind fun t => if t = true then spec_Same.l1 k ((i + 1 : Nat) : Int) a b c ks vs a b c ks vs else some false) (fun k => ?_) ?_
  ·simp only [spec_Same.l1]
   rw [if_pos (by omega), if_pos (by omega), if_pos (by omega), rdS' hlt, wrapQ i (by omega)]
  ·refine Ev.bind (hch vs[i] (List.getElem_mem hlt)) ?_
   simp only [if_true]
   exact ih (i + 1) (by omega)
theorem ev_same_l0 (a b : Int) (c : BA) (ks : List BA) (vs : List VS) (hk : ks.length ≤ 8796093022000) (hl : vs.length ≤ 1759218604400) (hch : ∀ v, v ∈ vs → SameEv v) : ∀ (d i : Nat), i + d = ks.length → Ev (fun k => spec_Same.l0 k (i : Int) a b c ks vs a b c ks vs) true := by
 intro d
 induction d with
 | zero =>
  intro i hi
  refine Ev.step (f := fun k => spec_Same.l1 k ((0 : Nat) : Int) a b c ks vs a b c ks vs) (fun k => ?_) (ev_same_l1 a b c ks vs hl hch vs.length 0 (by omega))
  simp only [spec_Same.l0]
  rw [if_neg (by omega)]
  rfl
 | succ d ih =>
  intro i hi
  refine Ev.step (f := fun k => spec_Same.l0 k ((i + 1 : Nat) : Int) a b c ks vs a b c ks vs) (fun k => ?_) (ih (i + 1) (by omega))
  simp only [spec_Same.l0]
  rw [if_pos (by omega), if_pos (by omega), if_pos (by omega), if_pos trivial, wrapQ i (by omega)]
theorem ev_same : ∀ x : VS, Short x → SameEv x := by
 intro x hx
 induction hx with
 | mk x hk hl hv ih =>
  obtain ⟨k, n, t, ks, vs⟩ := x
  have h := ev_same_l0 k n t ks vs hk hl ih ks.length 0 (by omega)
  unfold SameEv
  refine Ev.step (f := fun j => spec_Same.j0 j false k n t ks vs k n t ks vs) (fun j => ?_) (Ev.step (f := fun j => spec_Same.l0 j ((0 : Nat) : Int) k n t ks vs k n t ks vs) (fun j => ?_) h)
  ·simp only [spec_Same.f, if_true, bne_self_eq_false]
  ·simp only [spec_Same.j0, if_false, Bool.false_eq_true]
   rfl
end Go.Proofs.YtaembebbaejfiaaGreatDoor.Tr
namespace Go.Proofs.YtaembebbaejfiaaGreatDoor.Tr
open Go.RowKit Go.Proofs.YtaembebbaejfiaaGreatDoorW.PrintWords Go.Proofs.YtaembebbaejfiaaGreatDoorW.PrintLast Go.Proofs.YtaembebbaejfiaaGreatDoor.Str Go.Proofs.YtaembebbaejfiaaGreatDoor.Kit Go.Proofs.YtaembebbaejfiaaGreatDoor.MapV Go.Proofs.YtaembebbaejfiaaGreatDoor.Frame Go.Proofs.YtaembebbaejfiaaGreatDoor.PS
set_option linter.unusedVariables false
set_option linter.unusedSimpArgs false
theorem nilC {α : Type} (d : Kd α) (w : World) (A : Option Addr) : d.C w A 0 [] := ⟨rfl, Nat.zero_le _, fun h => absurd h (Nat.lt_irrefl 0)⟩
abbrev kFix (w : World) : Kd VS := held 5 (fun x cs => kS.K w x cs) (fun hp => kS.K_len hp) (fun hp => kS.K_one hp)
structure Reads (w : World) (x : VS) (A3 : Option Addr) (c3 : Nat) (A4 : Option Addr) (c4 : Nat) : Prop where
 l3 : x.f3.length ≤ c3
 hk : Kd.string.C w A3 x.f3.length x.f3
 l4 : x.f4.length ≤ c4
 hv : kS.C w A4 x.f4.length x.f4
theorem Reads.below {w w1 : World} {x : VS} {A3 A4 : Option Addr} {c3 c4 : Nat} (h : Reads w x A3 c3 A4 c4) (hb : Below w.heap.size w w1) : Reads w1 x A3 c3 A4 c4 := ⟨h.l3, Kd.C_below h.hk hb, h.l4, Kd.C_below h.hv hb⟩
def Gives (x : VS) (w : World) (e : Ending) (w' : World) : Prop := ∃ A3 c3 A4 c4, e = .returned (.agg #[.int .i64 x.f0, .int .i64 x.f1, .string x.f2, .slice A3 x.f3.length c3, .slice A4 x.f4.length c4]) ∧ Reads w' x A3 c3 A4 c4 ∧ Below w.heap.size w w'
def mapsOf (ks : List BA) (vs : List VS) : VS := ⟨5, 0, ⟨#[]⟩, (fitW ks vs [] []).1, (fitW ks vs [] []).2⟩
def GivesR (W : World) (x : VS) (w : World) (e : Ending) (w' : World) : Prop := ∃ v3 v4, e = .returned (.agg #[.int .i64 x.f0, .int .i64 x.f1, .string x.f2, v3, v4]) ∧ Kd.string.R 9 w' w.heap.size (fun k => w.heap.size ≤ k) v3 x.f3 ∧ (kFix W).R 25 w' w.heap.size (fun k => w.heap.size ≤ k) v4 x.f4 ∧ Below w.heap.size w w'
theorem fix_reads {W w : World} {x : VS} {v3 v4 : Value} {b3 b4 : Nat} {ok3 ok4 : Nat → Prop} (hb : Below W.heap.size W w) (h3 : Kd.string.R 9 w b3 ok3 v3 x.f3) (h4 : (kFix W).R 25 w b4 ok4 v4 x.f4) : ∃ A3 c3 A4 c4, v3 = .slice A3 x.f3.length c3 ∧ v4 = .slice A4 x.f4.length c4 ∧ Reads w x A3 c3 A4 c4 := by
 obtain ⟨B3, d3, rfl, m3, g3⟩ := Kd.R_reads h3
 obtain ⟨B4, d4, rfl, m4, g4⟩ := Kd.R_reads h4
 exact ⟨B3, d3, B4, d4, rfl, rfl, m3, g3, m4, ReadsRow.imp_ g4 (Below.refl _ _) (fun _ _ hp => kS.K_below hb hp)⟩
abbrev zC : Array Value := #[.int .i64 0, .int .i64 0, .string ⟨#[]⟩, .slice none 0 0, .slice none 0 0]
theorem empty_gives (w : World) : Calls Tryz.prog 17 #[] w fun e w' => e = .returned (.agg #[.int .i64 5, .int .i64 0, .string ⟨#[]⟩, .slice none 0 0, .slice none 0 0]) ∧ Below w.heap.size w w' := by
 have h0 := cb_new w (.cells #[.int .i64 0, .int .i64 0, .string ⟨#[]⟩, .slice none 0 0, .slice none 0 0] 25)
 have HB := aM ((Below.refl _ w).alloc (Nat.le_refl _) (.cells #[.int .i64 0, .int .i64 0, .string ⟨#[]⟩, .slice none 0 0, .slice none 0 0] 25))
 go_enter Tryz.func17, Tryz.ntmps17
 go_wp2_with (refine store_val (.tmp 0) (.tmp 1) rfl rfl rfl rfl h0 ?_)
 exact bodyPost_ret (v := .agg #[.int .i64 5, .int .i64 0, .string ⟨#[]⟩, .slice none 0 0, .slice none 0 0]) (val_result rfl rfl (setRow_heap _ _ _ _ _ _ h0)) rfl ⟨rfl, pw_below_grown HB.out (some w.heap.size) HB.out.size (grown_setRow _ w.heap.size _) (fun k hk => by injection hk with hk; have h2 : w.heap.size = k := hk; omega)⟩
theorem fits_reads (x : VS) (A3 A4 : Option Addr) (c3 c4 : Nat) (w : World) (h : Reads w x A3 c3 A4 c4) :
  Calls Tryz.prog 5 #[.agg #[.int .i64 x.f0, .int .i64 x.f1, .string x.f2, .slice A3 x.f3.length c3, .slice A4 x.f4.length c4]] w fun e w' => ∃ b, e = .returned (.bool b) ∧ Below w.heap.size w w' := by
 obtain ⟨b, hb⟩ := ev_zzFits1 x
 obtain ⟨k, hk⟩ := hb.rounds
 refine (laws_zzFits1.calls k x.f0 x.f1 x.f2 A3 c3 x.f3 A4 c4 x.f4 b w h.hk h.l3 h.hv h.l4 hk).mono ?_
 rintro e w1 ⟨rfl, hb1⟩
 exact ⟨b, rfl, hb1⟩
def GivesS (x : VS) (w : World) (e : Ending) (w' : World) : Prop := ∃ A3 c3 A4 c4, e = .returned (.agg #[.int .i64 x.f0, .int .i64 x.f1, .string x.f2, .slice A3 x.f3.length c3, .slice A4 x.f4.length c4]) ∧ (∀ W : World, (∀ k, w.heap.size ≤ k → k < w'.heap.size → W.heap[k]? = w'.heap[k]?) → Reads W x A3 c3 A4 c4) ∧ Below w.heap.size w w'
theorem fit_gives (x : VS) (hx : SmallS x) (A3 A4 : Option Addr) (c3 c4 : Nat) (w : World) (h : Reads w x A3 c3 A4 c4) :
  Calls Tryz.prog 6 #[.agg #[.int .i64 x.f0, .int .i64 x.f1, .string x.f2, .slice A3 x.f3.length c3, .slice A4 x.f4.length c4]] w (GivesS (fitV x) w) := by
 have hF := ev_Fit x hx
 unfold FitEv at hF
 obtain ⟨k, hk⟩ := hF.rounds
 refine (spec_Fit.calls k x.f0 x.f1 x.f2 A3 c3 x.f3 A4 c4 x.f4 _ _ _ _ _ w h.hk h.l3 h.hv h.l4 hk).mono ?_
 rintro e w1 ⟨v3, v4, rfl, hr3, hr4, hb⟩
 obtain ⟨B3, d3, rfl⟩ := Kd.R_slice hr3
 obtain ⟨B4, d4, rfl⟩ := Kd.N_slice hr4
 refine ⟨B3, d3, B4, d4, rfl, fun W hW => ?_, hb⟩
 have h3 := Kd.R_reads' (Kd.R_step hr3 (fun k hk hl => hW k hk hl))
 have h4 := Kd.N_reads' (Kd.N_step hr4 (fun k hk hl => hW k hk.1 hl))
 exact ⟨h3.2.1, h3.2.2, h4.2.1, h4.2.2⟩
theorem SmallS.short {x : VS} (h : SmallS x) : Short x := by
 induction h with
 | mk x ht hk hkl hvl hv ih => exact .mk x hkl hvl ih
theorem SmallS.at {x v : VS} (h : SmallS x) (hv : v ∈ x.f4) : SmallS v := by
 cases h with
 | mk _ _ _ _ _ h => exact h v hv
theorem SmallS.textIn {x : VS} (h : SmallS x) : x.f2.size < 4611686018427387904 := by
 cases h with
 | mk _ ht _ _ _ _ => omega
theorem SmallS.vals {x : VS} (h : SmallS x) : x.f4.length ≤ 1759218604400 := by
 cases h with
 | mk _ _ _ _ h _ => exact h
theorem Canon.inStep {x : VS} (h : Canon x) (hs : SmallS x) : InStep x := by
 have hv := hs.vals
 cases h with
 | map ks vs hr hl h => exact ⟨Nat.le_of_eq hl, by show ks.length < _; have : vs.length ≤ 1759218604400 := hv; omega⟩
 | _ => exact ⟨Nat.zero_le _, by simp [leaf]⟩
theorem Canon.at {x v : VS} (h : Canon x) (hv : v ∈ x.f4) : Canon v := by
 cases h with
 | list l h => exact h v hv
 | map ks vs hr hl h => exact h v hv
 | _ => cases hv
theorem Canon.is_text {x : VS} (h : Canon x) (h3 : x.f0 = 3) : x = leaf 3 0 x.f2 := by
 cases h with
 | text s => rfl
 | _ => first | (simp [leaf] at h3; done) | (exfalso; revert h3; decide)
end Go.Proofs.YtaembebbaejfiaaGreatDoor.Tr
namespace Go.Proofs.YtaembebbaejfiaaGreatDoor.Tr
open Go.RowKit Go.Proofs.YtaembebbaejfiaaGreatDoorW.PrintWords Go.Proofs.YtaembebbaejfiaaGreatDoorW.PrintLast Go.Proofs.YtaembebbaejfiaaGreatDoor.Str Go.Proofs.YtaembebbaejfiaaGreatDoor.Kit Go.Proofs.YtaembebbaejfiaaGreatDoor.MapV Go.Proofs.YtaembebbaejfiaaGreatDoor.Frame Go.Proofs.YtaembebbaejfiaaGreatDoor.PS
set_option linter.unusedVariables false
set_option linter.unusedSimpArgs false
theorem need_str (v : Value) (w : World) : (Instr.typeAssert (.iface 9 v) 20 9 false).run Tryz.prog w = .ok v w := by kernel_rfl
theorem need_val (v : Value) (w : World) : (Instr.typeAssert (.iface 25 v) 20 25 false).run Tryz.prog w = .ok v w := by kernel_rfl
end Go.Proofs.YtaembebbaejfiaaGreatDoor.Tr
namespace Go.Proofs.YtaembebbaejfiaaGreatDoor.PS
open Go.RowKit Go.Proofs.YtaembebbaejfiaaGreatDoorW.PrintWords Go.Proofs.YtaembebbaejfiaaGreatDoorW.PrintLast Go.Proofs.YtaembebbaejfiaaGreatDoorW.PrintMore
attribute [local go_sem] max2_int min2_int max_two min_two max_three min_three max_four min_four 
set_option linter.unusedVariables false
set_option linter.unusedSimpArgs false
end Go.Proofs.YtaembebbaejfiaaGreatDoor.PS
namespace Go.Proofs.YtaembebbaejfiaaGreatDoor.PS
open Go.RowKit Go.Proofs.YtaembebbaejfiaaGreatDoorW.PrintWords Go.Proofs.YtaembebbaejfiaaGreatDoorW.PrintLast Go.Proofs.YtaembebbaejfiaaGreatDoorW.PrintMore
attribute [local go_sem] max2_int min2_int max_two min_two max_three min_three max_four min_four 
set_option linter.unusedVariables false
set_option linter.unusedSimpArgs false
end Go.Proofs.YtaembebbaejfiaaGreatDoor.PS
namespace Go.Proofs.YtaembebbaejfiaaGreatDoor.PS
open Go.RowKit Go.Proofs.YtaembebbaejfiaaGreatDoorW.PrintWords Go.Proofs.YtaembebbaejfiaaGreatDoorW.PrintLast Go.Proofs.YtaembebbaejfiaaGreatDoorW.PrintMore
attribute [local go_sem] max2_int min2_int max_two min_two max_three min_three max_four min_four 
set_option linter.unusedVariables false
set_option linter.unusedSimpArgs false
end Go.Proofs.YtaembebbaejfiaaGreatDoor.PS
