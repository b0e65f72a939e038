/- Names with values: fitted, resolved from an environment, those without a value removed. -/
import Derived.Test.YtididniafloogaaGreatDoorOptAll
import Derived.Deep.MidRow
namespace Go.Proofs.YtididniafloogaaGreatDoor.MapV
open Go.RowKit Go.Proofs.YtididniafloogaaGreatDoorW.PrintWords Go.Proofs.YtididniafloogaaGreatDoorW.PrintLast Go.Proofs.YtididniafloogaaGreatDoor.Str Go.ChangeMaps Go.MapKept Go.WideShapes Go.Maps
open Go.WideElems (Fit rd rg pl rd_key rd_val rg_of other_key rd_mk)
set_option linter.unusedVariables false
set_option linter.unusedSimpArgs false
theorem leftOf_length (es : Array MapEntry) (seen : Array Nat) : (leftOf es seen).size = (es.toList.filter fun e => !seen.contains e.born).length := by
  unfold leftOf
  rw [← Array.toList_filter, Array.length_toList]
theorem filter_born (seen : Array Nat) : ∀ l l' : List MapEntry, l.map (·.born) = l'.map (·.born) → (l.filter fun e => !seen.contains e.born).length = (l'.filter fun e => !seen.contains e.born).length
  | [], [], _ => rfl
  | [], y :: r, h => by simp at h
  | x :: r, [], h => by simp at h
  | x :: r, y :: s, h => by
    simp only [List.map_cons, List.cons.injEq] at h
    have ih := filter_born seen r s h.2
    rw [List.filter_cons, List.filter_cons, h.1]
    split <;> simp only [List.length_cons, ih]
/-- a store at a key that is there, within the loop -/
theorem ranges_set {H : Type} {P : Program} {k t e : TypeId} {R : Value → Option (DataW H × List MemPlace)} {w : World} {b r n : Nat} {D : DataW H} {left : Lit → Bool} {cnt : Nat}
    (h : w.ranges P k R b r n D left cnt) (K : Keyed P k) (ht : P.underlying t = some (.map k e)) (hn : n < maxLen) {key val : Value} {kl : Lit} {d : DataW H} {ps : List MemPlace}
    (hkey : keyOf P k key = some kl) (hv : R val = some (d, ps)) (hhas : Maps.has D kl = true) :
    ∃ w', (Instr.mapUpdate t (.map (some b)) key val).run P w = .ok () w' ∧ w'.ranges P k R b r n (D.put kl d) left cnt ∧ w.grownBy w' (some b) := by
  have hne := h.ne
  obtain ⟨es, clock, since, seen, c0, hb, F, hs, rfl, hr, hold, rfl, hl1, hl2, hsc, hsk⟩ := h
  obtain ⟨es', clock', hrun, F', hput, _⟩ := Maps.fit_store (R' := R) K ht hb F (Nat.lt_of_le_of_lt hs hn) (fun _ _ _ _ hz => hz) hkey hv
  rcases K.find w hkey es.toList F.keys with ⟨h1, h2⟩ | ⟨j, e0, h1, h2, h3⟩
  · exfalso
    obtain ⟨p, hp, hpk⟩ := List.any_eq_true.1 hhas
    obtain ⟨x, hx, rfl⟩ := List.mem_map.1 (mem_sorted.1 hp)
    obtain ⟨y, hy⟩ := F.reads x hx
    have e1 := WideAt.sameKey_eq hpk
    rw [rg_of hy] at e1
    exact h2 x hx (K.inj (e1 ▸ rd_key hy) hkey)
  have hj : es[j]? = some e0 := by simpa using h2
  have hjl : j < es.toList.length := (List.getElem?_eq_some_iff.1 h2).1
  have hlist : (es.modify j (fun e' => { e' with key := key, val := val })).toList = es.toList.set j { e0 with key := key, val := val } := by rw [Array.toList_modify, modify_eq_set _ _ _ _ h2]
  have hrun2 : (Instr.mapUpdate t (.map (some b)) key val).run P w = .ok () (setBlock w b (.map (es.modify j (fun e' => { e' with key := key, val := val })) clock)) := by
    simp [Instr.mapUpdate, run_underlying ht, MapKept.run_getObj_map hb, K.check w false hkey, h1, hj, h3, K.stays w hkey, MapKept.run_setObj_map _ hb, Result.andThen, setBlock]
  have hsame : (some (Obj.map es' clock') : Option Obj) = some (.map (es.modify j (fun e' => { e' with key := key, val := val })) clock) := by
    have e1 : setBlock w b (.map es' clock') = setBlock w b (.map (es.modify j (fun e' => { e' with key := key, val := val })) clock) := by
      have := hrun.symm.trans hrun2
      injection this
    rw [← heap_setBlock_same hb (Obj.map es' clock'), e1, heap_setBlock_same hb]
  injection hsame with hsame
  injection hsame with he hc
  subst hc
  rw [← he] at hlist
  have hmk := rd_mk (R := R) (born := e0.born) hkey hv
  have hkl0 : (rg P k R e0).1 = kl := by
    obtain ⟨y, hy⟩ := F.reads e0 (List.mem_of_getElem? h2)
    have h4 := rd_key hy
    rw [h3, hkey] at h4
    rw [rg_of hy]
    exact (Option.some.inj h4).symm
  have hkln : (rg P k R { e0 with key := key, val := val }).1 = kl := by rw [rg_of hmk]
  have hborn : es'.toList.map (·.born) = es.toList.map (·.born) := by
    rw [hlist, List.map_set]
    refine List.ext_getElem? (fun i => ?_)
    rw [List.getElem?_set]
    split
    · rename_i hij
      subst hij
      rw [List.getElem?_map, h2]
      simp only [List.length_map, Option.map_some]
      rw [if_pos hjl]
    · rfl
  have who : ∀ x ∈ es'.toList, x = { e0 with key := key, val := val } ∨ x ∈ es.toList := fun x hx => by
    rw [hlist] at hx
    rcases List.mem_or_eq_of_mem_set hx with h | h
    · exact .inr h
    · exact .inl h
  refine ⟨_, hrun, ⟨es', clock', since, seen, c0, heap_setBlock_same hb _, F', ?_, by rw [DataW.put_eq, hput], (heap_setBlock_other hb _ hne).trans hr, fun x hx => ?_, ?_, fun x hx => ?_, fun x0 hx0 => ?_, hsc, hsk⟩, ⟨rfl, rfl, rfl, by simp [setBlock], fun i _ hi => heap_setBlock_other hb _ (fun e => hi (by rw [e]))⟩⟩
  · have : es'.size = es.size := by
      rw [← Array.length_toList, hlist, List.length_set, Array.length_toList]
    omega
  · rcases who x hx with rfl | hx
    · exact hold e0 (List.mem_of_getElem? h2)
    · exact hold x hx
  · rw [leftOf_length, leftOf_length]
    exact filter_born seen _ _ hborn
  · rcases who x hx with rfl | hx
    · rw [hkln, ← hkl0]
      exact hl1 e0 (List.mem_of_getElem? h2)
    · exact hl1 x hx
  · obtain ⟨x, hx, rfl⟩ := hl2 x0 hx0
    obtain ⟨i, hi, ex⟩ := List.getElem_of_mem hx
    by_cases hij : j = i
    · subst hij
      have : x = e0 := by
        have := List.getElem?_eq_getElem hi
        rw [h2, ex] at this
        exact (Option.some.inj this).symm
      subst this
      exact ⟨{ x with key := key, val := val }, by rw [hlist]; exact List.mem_set hjl _, by rw [hkln, hkl0]⟩
    · refine ⟨x, ?_, rfl⟩
      rw [hlist, List.mem_iff_getElem]
      exact ⟨i, by simpa using hi, by rw [List.getElem_set_ne hij]; exact ex⟩
section
variable {P : Program} {k e t : TypeId} {α : Type} {enc : α → Value} {w : World} {b r : Nat} {f left : List (Bs × α)}
variable {ops : Array Oper} {rest : List Oper} {o : Oper} {a : Act} {Q : Exit → Act → World → Prop}
theorem ranges_norm {n cnt : Nat} {l : List (Lit × DataW Value)} {lf : Lit → Bool} (h : w.ranges P k heldR b r n (.map l) lf cnt) : w.ranges P k heldR b r l.length (.map l) lf cnt := by
  obtain ⟨es, clock, since, seen, c0, hb, F, hs, hD, rest⟩ := h
  refine ⟨es, clock, since, seen, c0, hb, F, ?_, hD, rest⟩
  injection hD with hD
  rw [hD, length_sorted, List.length_map, Array.length_toList]
  exact Nat.le_refl _
theorem filter_mins {q : Bs × α → Bool} {x : Bs × α} (hq : q x = false) : ∀ l : List (Bs × α), (mins x l).filter q = l.filter q
  | [] => by simp [mins, hq]
  | y :: r => by
    unfold mins
    split
    · rw [List.filter_cons, hq]; rfl
    · rw [List.filter_cons, List.filter_cons, filter_mins hq r]
theorem filter_mput {q : Bs × α → Bool} {key : Bs} {y : α} (hq : ∀ v, q (key, v) = false) (f : List (Bs × α)) : (mput f key y).filter q = f.filter q := by
  unfold mput
  rw [filter_mins (hq y)]
  unfold mdel
  rw [List.filter_filter]
  refine List.filter_congr (fun p _ => ?_)
  obtain ⟨pk, pv⟩ := p
  by_cases h : pk = key
  · subst h; rw [hq]; rfl
  · have : (pk == key) = false := by simpa using h
    show (q (pk, pv) && !(pk == key)) = q (pk, pv)
    rw [this, Bool.not_false, Bool.and_true]
theorem store_rangesE (hk : P.underlying k = some .string) (ht : P.underlying t = some (.map k e)) (hg : o.guard = none) (m x v : Operand) (hop : o.op = Op.mapUpdate t m x v)
    (hm : a.eval m = .map (some b)) (h : Ranges P k enc w b r f left) (hn : f.length < maxLen) {s : ByteArray} {y : α} (hx : a.eval x = .string s) (hs : s.size ≤ maxLen) (hv : a.eval v = enc y)
    (hhas : (mget f (lb s)).isSome = true) (hlf : ∀ p ∈ left, p.1 ≠ lb s)
    (hK : ∀ w', Ranges P k enc w' b r (mput f (lb s) y) left → w.grownBy w' (some b) → w'.rangeLeft b r = w.rangeLeft b r → wpList P ops Q rest (a.put o.dst undef) w') : wpList P ops Q (o :: rest) a w := by
  obtain ⟨lf, cnt, h, rfl⟩ := h
  refine wpList_plain hg fun K' hK' => ?_
  obtain ⟨w', hrun, r1, r2⟩ := ranges_set h (Go.Maps.string_keyed hk) ht hn (keyOf_s hk hs) (val := enc y) (d := .held (enc y)) (ps := []) rfl (by rw [ent_has]; exact hhas)
  unfold Oper.wp
  simp [execOp, hop, hm, hx, hv, hrun, Result.andThen]
  refine hK' _ _ (hK w' ⟨lf, cnt, ?_, ?_⟩ r2 (by rw [r1.left_eq, h.left_eq]))
  · rw [ent_put] at r1
    have := ranges_norm r1
    rw [List.length_map] at this
    exact this
  · obtain ⟨c, hc⟩ := Option.isSome_iff_exists.1 hhas
    have hmem := mget_some hc
    refine (filter_mput (fun v => ?_) f).symm
    cases hq : lf (.string (lb s))
    · rfl
    · exact absurd rfl (hlf (lb s, c) (List.mem_filter.2 ⟨hmem, hq⟩))
theorem del_rangesE (hk : P.underlying k = some .string) (ht : P.underlying t = some (.map k e)) (hg : o.guard = none) (m x : Operand) (hop : o.op = Op.call { callee := Callee.builtin Builtin.delete, args := #[m, x], argTypes := #[t, k] })
    (hm : a.eval m = .map (some b)) (h : Ranges P k enc w b r f left) {s : ByteArray} (hx : a.eval x = .string s) (hs : s.size ≤ maxLen) (hlf : ∀ p ∈ left, p.1 ≠ lb s)
    (hK : ∀ w', Ranges P k enc w' b r (mdel f (lb s)) left → w.grownBy w' (some b) → w'.rangeLeft b r ≤ w.rangeLeft b r → wpList P ops Q rest (a.put o.dst (.tuple #[])) w') : wpList P ops Q (o :: rest) a w := by
  obtain ⟨lf, cnt, h, rfl⟩ := h
  refine wpList_delete_ranges w hg m x t k hop e (Go.Maps.string_keyed hk) ht heldR b r f.length _ lf cnt hm h _ _ hx (keyOf_s hk hs) ?_
  intro w' cnt' r1 r2 r3
  refine hK w' ⟨fun z => lf z && !z.sameKey (.string (lb s)), cnt', ?_, ?_⟩ r3.grown (by rw [r1.left_eq, h.left_eq]; exact r2)
  · rw [ent_del] at r1
    have := ranges_norm r1
    rw [List.length_map] at this
    exact this
  · unfold mdel
    rw [List.filter_filter]
    refine List.filter_congr (fun p hp => ?_)
    cases hq : lf (.string p.1)
    · simp [hq]
    · have hne := hlf p (List.mem_filter.2 ⟨hp, hq⟩)
      have : (Lit.string p.1).sameKey (.string (lb s)) = false := by
        cases hq2 : (Lit.string p.1).sameKey (.string (lb s))
        · rfl
        · have := WideAt.sameKey_eq hq2
          injection this with this
          exact absurd this hne
      show true = ((lf (.string p.1) && !(Lit.string p.1).sameKey (.string (lb s))) && !(p.1 == lb s))
      rw [this, hq]
      simpa using hne
end
end Go.Proofs.YtididniafloogaaGreatDoor.MapV
namespace Go.Proofs.YtididniafloogaaGreatDoor.Maps
open Go.RowKit Go.Proofs.YtididniafloogaaGreatDoorW.PrintWords Go.Proofs.YtididniafloogaaGreatDoorW.PrintLast Go.Proofs.YtididniafloogaaGreatDoor.Str Go.Proofs.YtididniafloogaaGreatDoor.Kit Go.Proofs.YtididniafloogaaGreatDoor.Flat Go.Proofs.YtididniafloogaaGreatDoor.MapV Go.Proofs.YtididniafloogaaGreatDoor.Frame
set_option linter.unusedVariables false
set_option linter.unusedSimpArgs false
def fits8 (p : KO) : Prop := p.1.size ≤ 2147483647 ∧ p.2.1.size ≤ 2147483647
instance (p : KO) : Decidable (fits8 p) := by unfold fits8; infer_instance
def fitsO (l : List (KO)) : Prop := l.length ≤ 2147483647 ∧ ∀ p ∈ l, fits8 p
instance (l : List (KO)) : Decidable (fitsO l) := by unfold fitsO; infer_instance
set_option maxHeartbeats 800000 in
theorem zzFits8 (p q : ByteArray) (r : Bool) (w : World) :
    Calls Tryz.prog 59 #[.agg #[.string p, .string q, .bool r]] w fun e w' => e = .returned (.bool (decide (fits8 (p, q, r)))) ∧ w' = w.alloc (.cells #[.string p, .string q, .bool r] 86) := by
  have k0 : (w.alloc (.cells #[.string p, .string q, .bool r] 86)).cell? ⟨w.heap.size, 0, none⟩ = some (.string p) := cb_cell (i := 0) (cb_new _ _) rfl
  have k1 : (w.alloc (.cells #[.string p, .string q, .bool r] 86)).cell? ⟨w.heap.size, 1, none⟩ = some (.string q) := cb_cell (i := 1) (cb_new _ _) rfl
  by_cases h1 : p.size ≤ 2147483647
  · have d1 : decide (2147483647 < (p.size : Int)) = false := decide_eq_false (by omega)
    by_cases h2 : q.size ≤ 2147483647
    · have d2 : decide (2147483647 < (q.size : Int)) = false := decide_eq_false (by omega)
      have Y := Aside0.mk (show decide (fits8 (p, q, r)) = true from decide_eq_true ⟨h1, h2⟩)
      clear h1 h2
      go_enter Tryz.func59, Tryz.ntmps59
      go_wp2
      go_ret
      exact ⟨by rw [Y.out]; rfl, rfl⟩
    · have d2 : decide (2147483647 < (q.size : Int)) = true := decide_eq_true (by omega)
      have Y := Aside0.mk (show decide (fits8 (p, q, r)) = false from decide_eq_false (fun h => h2 h.2))
      clear h1 h2
      go_enter Tryz.func59, Tryz.ntmps59
      go_wp2
      go_ret
      exact ⟨by rw [Y.out]; rfl, rfl⟩
  · have d1 : decide (2147483647 < (p.size : Int)) = true := decide_eq_true (by omega)
    have Y := Aside0.mk (show decide (fits8 (p, q, r)) = false from decide_eq_false (fun h => h1 h.1))
    clear h1
    go_enter Tryz.func59, Tryz.ntmps59
    go_wp2
    go_ret
    exact ⟨by rw [Y.out]; rfl, rfl⟩
def FitsToO (xs : List (KO)) (j : Nat) : Prop := ∀ x ∈ xs.take j, fits8 x
theorem FitsToO.next {xs : List (KO)} {j : Nat} (h : FitsToO xs j) (hj : j < xs.length) (hx : fits8 xs[j]) : FitsToO xs (j + 1) := by
  intro x hm
  rw [List.take_succ_eq_append_getElem hj] at hm
  rcases List.mem_append.1 hm with hm | hm
  · exact h x hm
  · simp at hm; subst hm; exact hx
set_option maxHeartbeats 1600000 in
theorem zzFits7 {A : Option Addr} {c : Nat} {xs : List (KO)} (w : World) (h : ko.C w A xs.length xs) :
    Calls Tryz.prog 25 #[.slice A xs.length c] w fun e w' => e = .returned (.bool (decide (fitsO xs))) ∧ Below w.heap.size w w' := by
  have H := Aside0.mk h
  have hm := h.2.1
  have HB0 := Aside0.mk (Below.refl w.heap.size w)
  clear h
  by_cases hlen : xs.length ≤ 2147483647
  · have d0 : decide (2147483647 < (xs.length : Int)) = false := decide_eq_false (by omega)
    go_enter Tryz.func25, Tryz.ntmps25
    go_wp2
    go_loopw [10] (fun v wr => ∃ j : Nat, v = .int .i64 j ∧ j ≤ xs.length ∧ Aside0 (FitsToO xs j) ∧ Aside0 (Below w.heap.size w wr)) (fun v _ => xs.length - (intOf v).toNat)
    case atStart => exact ⟨0, rfl, by omega, ⟨by intro x hx; simp at hx⟩, HB0⟩
    case round =>
      clear HB0
      obtain ⟨j, rfl, hj, HF, HB⟩ := hrel
      by_cases hlt : j < xs.length
      · obtain ⟨b, o, rfl, hb, hc⟩ := ko_open H.out (by omega)
        obtain ⟨g0, g1, g2⟩ := hc j hlt
        replace g0 := pw_cell_below HB.out g0
        replace g1 := pw_cell_below HB.out g1
        replace g2 := pw_cell_below HB.out g2
        have q0 : (0 : Int) ≤ (j : Int) := by omega
        have q1 : (j : Int) < (xs.length : Int) := by omega
        have NX := Aside0.mk (fun hx : fits8 xs[j] => HF.out.next hlt hx)
        have NO := Aside0.mk (show ¬ fits8 xs[j] → decide (fitsO xs) = false from fun hx => decide_eq_false (fun hf => hx (hf.2 _ (List.getElem_mem hlt))))
        clear hc
        generalize xs[j] = x at g0 g1 g2 NX NO
        obtain ⟨p, q, r⟩ := x
        have HB2 := Aside0.mk (below_alloc HB.out (.cells #[.string p, .string q, .bool r] 86))
        have k0 : (wr.alloc (.cells #[.string p, .string q, .bool r] 86)).cell? ⟨wr.heap.size, 0, none⟩ = some (.string p) := cb_cell (i := 0) (cb_new _ _) rfl
        have k1 : (wr.alloc (.cells #[.string p, .string q, .bool r] 86)).cell? ⟨wr.heap.size, 1, none⟩ = some (.string q) := cb_cell (i := 1) (cb_new _ _) rfl
        have k2 : (wr.alloc (.cells #[.string p, .string q, .bool r] 86)).cell? ⟨wr.heap.size, 2, none⟩ = some (.bool r) := cb_cell (i := 2) (cb_new _ _) rfl
        have CZ := Aside0.mk (zzFits8 p q r (wr.alloc (.cells #[.string p, .string q, .bool r] 86)))
        have HB3 := Aside0.mk (below_alloc HB2.out (.cells #[.string p, .string q, .bool r] 86))
        by_cases hx : fits8 (p, q, r)
        · rw [decide_eq_true hx] at CZ
          have nxt := Aside0.mk (NX.out hx)
          clear hx NX NO
          go_wp2_with (refine CZ.out.mono ?_; rintro e w1 ⟨rfl, rfl⟩)
          go_roundw
          case rel => exact ⟨j + 1, by go_num, by omega, nxt, HB3⟩
          case measure => simp [intOf]; omega
        · rw [decide_eq_false hx] at CZ
          have no := Aside0.mk (NO.out hx)
          clear hx NX NO
          go_wp2_with (refine CZ.out.mono ?_; rintro e w1 ⟨rfl, rfl⟩)
          go_ret
          exact ⟨by rw [no.out]; rfl, HB3.out⟩
      · have yes := Aside0.mk (show fitsO xs from ⟨hlen, by
          have := HF.out
          unfold FitsToO at this
          rw [List.take_of_length_le (by omega)] at this
          exact this⟩)
        go_wp2
        go_ret
        exact ⟨by rw [decide_eq_true yes.out]; rfl, HB.out⟩
  · have d0 : decide (2147483647 < (xs.length : Int)) = true := decide_eq_true (by omega)
    have no := Aside0.mk (show ¬ fitsO xs from fun hf => hlen hf.1)
    clear hlen
    go_enter Tryz.func25, Tryz.ntmps25
    go_wp2
    go_ret
    exact ⟨by rw [decide_eq_false no.out]; rfl, HB0.out⟩
set_option maxHeartbeats 1600000 in
set_option maxRecDepth 100000 in
theorem optsTo {A : Option Addr} {c : Nat} (l : List KO) (w : World) (h : ko.C w A l.length l) (hn : l.length ≤ 17179869184) :
    Calls Tryz.prog 28 #[.slice A l.length c] w fun e w' => ∃ v, e = .returned v ∧ ko.R 95 w' w.heap.size (fun _ => True) v l ∧ Below w.heap.size w w' := by
  have H := Aside0.mk h
  have HB0 := Aside0.mk (Below.refl w.heap.size w)
  clear h
  go_enter Tryz.func28, Tryz.ntmps28
  go_wp2
  go_loopw [3, 4] (fun v3 v4 wr => ∃ i : Nat, v4 = .int .i64 i ∧ i ≤ l.length ∧ Aside0 (ko.R 95 wr w.heap.size (fun _ => True) v3 (l.take i)) ∧ Aside0 (Below w.heap.size w wr)) (fun _ v4 _ => l.length - (intOf v4).toNat)
  case atStart => exact ⟨0, rfl, by omega, ⟨Kd.R_nil _ _ _ _ _⟩, HB0⟩
  case round =>
    clear HB0
    obtain ⟨i, rfl, hi, HO, HB⟩ := hrel
    by_cases hlt : i < l.length
    · obtain ⟨b0, o0, rfl, hb0, hc0⟩ := ko_open H.out (by omega)
      obtain ⟨g0, g1, g2⟩ := hc0 i hlt
      replace g0 := pw_cell_below HB.out g0
      replace g1 := pw_cell_below HB.out g1
      replace g2 := pw_cell_below HB.out g2
      have q0 : (0 : Int) ≤ (i : Int) := by omega
      have q1 : (i : Int) < (l.length : Int) := by omega
      have HT := Aside0.mk (show l.take (i + 1) = l.take i ++ [(l[i].1, l[i].2.1, l[i].2.2)] by rw [List.take_succ_eq_append_getElem hlt])
      have hln : (l.take i).length < 2199023255551 := by rw [List.length_take]; omega
      generalize l[i].1 = p at g0 HT
      generalize l[i].2.1 = q at g1 HT
      generalize l[i].2.2 = r at g2 HT
      obtain ⟨A3, c3, rfl⟩ := Kd.R_slice HO.out
      have hmin : (l.take i).length = i := by rw [List.length_take]; omega
      rw [hmin] at HO ⊢
      clear hmin
      have hne : some b0 ≠ (Value.slice A3 i c3).ownBlock := fun e => by have := Kd.R_base HO.out b0 e.symm; omega
      clear hc0
      go_wp2_with fail
      refine start_ (n := 20) (S := fun w' => w'.cell? ⟨b0, o0 + i * 3, none⟩ = some (.string p) ∧ w'.cell? ⟨b0, o0 + i * 3 + 1, none⟩ = some (.string q) ∧ w'.cell? ⟨b0, o0 + i * 3 + 2, none⟩ = some (.bool r)) (ds := []) #[false, false, false, false, false, false, false, false, false, false, false, false, false, false, false, false, false, false, false, false] (by kernel_rfl) rfl rfl ⟨g0, g1, g2⟩ (fun hHeld => ?_)
      refine pure_ (i := 0) (N := some 11) (v := ?_) (a' := ?_) #[true, false, false, false, false, false, false, false, false, false, false, false, false, false, false, false, false, false, false, false] rfl rfl (by kernel_rfl) (fun _ _ _ h => h) (Or.inl ⟨by rfl, ?_⟩) ?_ ?_
      rotate_left
      · intro w'
        go_simp
        with_reducible rfl
      rotate_left
      · simp only [Act.put, List.setIfInBounds_toArray, List.set_cons_zero, List.set_cons_succ, i64_w, i32_w]
        rfl
      refine pure_ (i := 1) (N := some 12) (v := ?_) (a' := ?_) #[true, true, false, false, false, false, false, false, false, false, false, false, false, false, false, false, false, false, false, false] rfl rfl (by kernel_rfl) (fun _ _ _ h => h) (Or.inl ⟨by rfl, ?_⟩) ?_ ?_
      rotate_left
      · intro w'
        go_simp
        with_reducible rfl
      rotate_left
      · simp only [Act.put, List.setIfInBounds_toArray, List.set_cons_zero, List.set_cons_succ, i64_w, i32_w]
        rfl
      refine pure_ (i := 2) (N := some 13) (v := ?_) (a' := ?_) #[true, true, true, false, false, false, false, false, false, false, false, false, false, false, false, false, false, false, false, false] rfl rfl (by kernel_rfl) (fun _ _ _ h => h) (Or.inl ⟨by rfl, ?_⟩) ?_ ?_
      rotate_left
      · intro w'
        go_simp
        with_reducible rfl
      rotate_left
      · simp only [Act.put, List.setIfInBounds_toArray, List.set_cons_zero, List.set_cons_succ, i64_w, i32_w]
        rfl
      refine pure_ (i := 3) (N := some 14) (v := ?_) (a' := ?_) #[true, true, true, true, false, false, false, false, false, false, false, false, false, false, false, false, false, false, false, false] rfl rfl (by kernel_rfl) (fun _ _ _ h => h) (Or.inl ⟨by rfl, ?_⟩) ?_ ?_
      rotate_left
      · intro w'
        go_simp
        with_reducible rfl
      rotate_left
      · simp only [Act.put, List.setIfInBounds_toArray, List.set_cons_zero, List.set_cons_succ, i64_w, i32_w]
        rfl
      refine pure_ (i := 4) (N := some 15) (v := ?_) (a' := ?_) #[true, true, true, true, true, false, false, false, false, false, false, false, false, false, false, false, false, false, false, false] rfl rfl (by kernel_rfl) (fun _ _ _ h => h) (Or.inl ⟨by rfl, ?_⟩) ?_ ?_
      rotate_left
      · intro w'
        go_simp
        with_reducible rfl
      rotate_left
      · simp only [Act.put, List.setIfInBounds_toArray, List.set_cons_zero, List.set_cons_succ, i64_w, i32_w]
        rfl
      refine pure_ (i := 6) (N := some 17) (v := ?_) (a' := ?_) #[true, true, true, true, true, false, true, false, false, false, false, false, false, false, false, false, false, false, false, false] rfl rfl (by kernel_rfl) (fun _ _ _ h => h) (Or.inl ⟨by rfl, ?_⟩) ?_ ?_
      rotate_left
      · intro w'
        go_simp
        with_reducible rfl
      rotate_left
      · simp only [Act.put, List.setIfInBounds_toArray, List.set_cons_zero, List.set_cons_succ, i64_w, i32_w]
        rfl
      refine pure_ (i := 7) (N := some 18) (v := ?_) (a' := ?_) #[true, true, true, true, true, false, true, true, false, false, false, false, false, false, false, false, false, false, false, false] rfl rfl (by kernel_rfl) (fun _ _ _ h => h) (Or.inl ⟨by rfl, ?_⟩) ?_ ?_
      rotate_left
      · intro w'
        go_simp
        with_reducible rfl
      rotate_left
      · simp only [Act.put, List.setIfInBounds_toArray, List.set_cons_zero, List.set_cons_succ, i64_w, i32_w]
        rfl
      refine pure_ (i := 8) (N := some 19) (v := ?_) (a' := ?_) #[true, true, true, true, true, false, true, true, true, false, false, false, false, false, false, false, false, false, false, false] rfl rfl (by kernel_rfl) (fun _ _ _ h => h) (Or.inl ⟨by rfl, ?_⟩) ?_ ?_
      rotate_left
      · intro w'
        go_simp
        with_reducible rfl
      rotate_left
      · simp only [Act.put, List.setIfInBounds_toArray, List.set_cons_zero, List.set_cons_succ, i64_w, i32_w]
        rfl
      refine pure_ (i := 9) (N := some 20) (v := ?_) (a' := ?_) #[true, true, true, true, true, false, true, true, true, true, false, false, false, false, false, false, false, false, false, false] rfl rfl (by kernel_rfl) (fun _ _ _ h => h) (Or.inl ⟨by rfl, ?_⟩) ?_ ?_
      rotate_left
      · intro w'
        go_simp
        with_reducible rfl
      rotate_left
      · simp only [Act.put, List.setIfInBounds_toArray, List.set_cons_zero, List.set_cons_succ, i64_w, i32_w]
        rfl
      refine pure_ (i := 11) (N := some 22) (v := ?_) (a' := ?_) #[true, true, true, true, true, false, true, true, true, true, false, true, false, false, false, false, false, false, false, false] rfl rfl (by kernel_rfl) (fun _ _ _ h => h) (Or.inl ⟨by rfl, ?_⟩) ?_ ?_
      rotate_left
      · intro w'
        go_simp
        with_reducible rfl
      rotate_left
      · simp only [Act.put, List.setIfInBounds_toArray, List.set_cons_zero, List.set_cons_succ, i64_w, i32_w]
        rfl
      refine pure_ (i := 12) (N := some 23) (v := ?_) (a' := ?_) #[true, true, true, true, true, false, true, true, true, true, false, true, true, false, false, false, false, false, false, false] rfl rfl (by kernel_rfl) (fun _ _ _ h => h) (Or.inl ⟨by rfl, ?_⟩) ?_ ?_
      rotate_left
      · intro w'
        go_simp
        with_reducible rfl
      rotate_left
      · simp only [Act.put, List.setIfInBounds_toArray, List.set_cons_zero, List.set_cons_succ, i64_w, i32_w]
        rfl
      refine pure_ (i := 13) (N := some 24) (v := ?_) (a' := ?_) #[true, true, true, true, true, false, true, true, true, true, false, true, true, true, false, false, false, false, false, false] rfl rfl (by kernel_rfl) (fun _ _ _ h => h) (Or.inl ⟨by rfl, ?_⟩) ?_ ?_
      rotate_left
      · intro w'
        go_simp
        with_reducible rfl
      rotate_left
      · simp only [Act.put, List.setIfInBounds_toArray, List.set_cons_zero, List.set_cons_succ, i64_w, i32_w]
        rfl
      refine pure_ (i := 14) (N := some 25) (v := ?_) (a' := ?_) #[true, true, true, true, true, false, true, true, true, true, false, true, true, true, true, false, false, false, false, false] rfl rfl (by kernel_rfl) (fun _ _ _ h => h) (Or.inl ⟨by rfl, ?_⟩) ?_ ?_
      rotate_left
      · intro w'
        go_simp
        with_reducible rfl
      rotate_left
      · simp only [Act.put, List.setIfInBounds_toArray, List.set_cons_zero, List.set_cons_succ, i64_w, i32_w]
        rfl
      refine take_ (i := 5) (N := some 16) (v := ?_) (a' := ?_) #[true, true, true, true, true, true, true, true, true, true, false, true, true, true, true, false, false, false, false, false] rfl rfl (by kernel_rfl) (fun _ _ _ h => h) (Or.inl ⟨by rfl, ?_⟩) hHeld ?_ ?_
      rotate_left
      · rintro w' ⟨s0, s1, s2⟩
        go_simp
        with_reducible rfl
      rotate_left
      · simp only [Act.put, List.setIfInBounds_toArray, List.set_cons_zero, List.set_cons_succ, i64_w, i32_w]
        rfl
      refine take_ (i := 10) (N := some 21) (v := ?_) (a' := ?_) #[true, true, true, true, true, true, true, true, true, true, true, true, true, true, true, false, false, false, false, false] rfl rfl (by kernel_rfl) (fun _ _ _ h => h) (Or.inl ⟨by rfl, ?_⟩) hHeld ?_ ?_
      rotate_left
      · rintro w' ⟨s0, s1, s2⟩
        go_simp
        with_reducible rfl
      rotate_left
      · simp only [Act.put, List.setIfInBounds_toArray, List.set_cons_zero, List.set_cons_succ, i64_w, i32_w]
        rfl
      refine take_ (i := 15) (N := some 26) (v := ?_) (a' := ?_) #[true, true, true, true, true, true, true, true, true, true, true, true, true, true, true, true, false, false, false, false] rfl rfl (by kernel_rfl) (fun _ _ _ h => h) (Or.inl ⟨by rfl, ?_⟩) hHeld ?_ ?_
      rotate_left
      · rintro w' ⟨s0, s1, s2⟩
        go_simp
        with_reducible rfl
      rotate_left
      · simp only [Act.put, List.setIfInBounds_toArray, List.set_cons_zero, List.set_cons_succ, i64_w, i32_w]
        rfl
      refine pure_ (i := 16) (N := some 27) (v := ?_) (a' := ?_) #[true, true, true, true, true, true, true, true, true, true, true, true, true, true, true, true, true, false, false, false] rfl rfl (by kernel_rfl) (fun _ _ _ h => h) (Or.inl ⟨by rfl, ?_⟩) ?_ ?_
      rotate_left
      · intro w'
        go_simp
        with_reducible rfl
      rotate_left
      · simp only [Act.put, List.setIfInBounds_toArray, List.set_cons_zero, List.set_cons_succ, i64_w, i32_w]
        rfl
      refine one_ (i := 17) (N := some 28) #[true, true, true, true, true, true, true, true, true, true, true, true, true, true, true, true, true, true, false, false] rfl rfl (by kernel_rfl) (by decide) (fun K hK => ?_)
      refine value_ (w1 := ?_) (v := ?_) (by rfl) rfl ?_ ?_
      rotate_left 2
      · go_simp
        constructor
        · rfl
        · rfl
      refine hK.out _ _ ⟨pw_cell_below (below_alloc (Below.refl _ _) _) hHeld.1, pw_cell_below (below_alloc (Below.refl _ _) _) hHeld.2.1, pw_cell_below (below_alloc (Below.refl _ _) _) hHeld.2.2⟩ (fun hHeld => ?_)
      clear hK K
      refine norm_ (a' := ?_) ?_ ?_
      rotate_left
      · show Act.put _ (some 28) _ = _
        simp only [Act.put, List.setIfInBounds_toArray, List.set_cons_zero, List.set_cons_succ, i64_w, i32_w]
        rfl
      refine one_ (i := 18) (N := some 29) #[true, true, true, true, true, true, true, true, true, true, true, true, true, true, true, true, true, true, true, false] rfl rfl (by kernel_rfl) (by decide) (fun K hK => ?_)
      refine append_opt_step (w0 := w) (ok := fun _ => True) rfl (fun _ _ => trivial) 43 95 Tryz.underlying43 info_opt (.tmp 11) (.tmp 28) rfl rfl rfl (Kd.R_drew HO.out) (below_drew HB.out) hln ?_
      intro v1 w5 ho hb hg
      have HO5 := Aside0.mk ho
      have HB5 := Aside0.mk hb
      have k0 := cell_grown hg (show wr.drew.cell? _ = _ from g0) hne
      have k1 := cell_grown hg (show wr.drew.cell? _ = _ from g1) hne
      have k2 := cell_grown hg (show wr.drew.cell? _ = _ from g2) hne
      clear ho hb hg
      refine hK.out _ _ ⟨k0, k1, k2⟩ (fun hHeld => ?_)
      clear hK K
      refine norm_ (a' := ?_) ?_ ?_
      rotate_left
      · show Act.put _ (some 29) _ = _
        simp only [Act.put, List.setIfInBounds_toArray, List.set_cons_zero, List.set_cons_succ, i64_w, i32_w]
        rfl
      refine pure_ (i := 19) (N := some 3) (v := ?_) (a' := ?_) #[true, true, true, true, true, true, true, true, true, true, true, true, true, true, true, true, true, true, true, true] rfl rfl (by kernel_rfl) (fun _ _ _ h => h) (Or.inl ⟨by rfl, ?_⟩) ?_ ?_
      rotate_left
      · intro w'
        go_simp
        with_reducible rfl
      rotate_left
      · simp only [Act.put, List.setIfInBounds_toArray, List.set_cons_zero, List.set_cons_succ, i64_w, i32_w]
        rfl
      refine done_ (by kernel_rfl) ?_
      go_wp2
      go_roundw
      case rel => exact ⟨i + 1, by go_num, by omega, ⟨by rw [HT.out]; exact HO5.out⟩, HB5⟩
      case measure => simp [intOf]; omega
    · have hall := HO.out
      rw [List.take_of_length_le (by omega)] at hall
      have HALL := Aside0.mk hall
      clear hall HO
      go_wp2
      go_ret
      exact ⟨_, rfl, HALL.out, HB.out⟩
end Go.Proofs.YtididniafloogaaGreatDoor.Maps
namespace Go.Proofs.YtididniafloogaaGreatDoor.Maps
open Go.RowKit Go.Proofs.YtididniafloogaaGreatDoorW.PrintWords Go.Proofs.YtididniafloogaaGreatDoorW.PrintLast Go.Proofs.YtididniafloogaaGreatDoor.Str Go.Proofs.YtididniafloogaaGreatDoor.Kit Go.Proofs.YtididniafloogaaGreatDoor.Flat Go.Proofs.YtididniafloogaaGreatDoor.MapV Go.Proofs.YtididniafloogaaGreatDoor.Frame
set_option linter.unusedVariables false
set_option linter.unusedSimpArgs false
/-- what a name has in an environment -/
def lookT (g : List (Bs × BA)) (n : BA) : Ending := .returned (.tuple #[.string ((mget g (lb n)).getD ⟨#[]⟩), .bool (mget g (lb n)).isSome])
set_option maxHeartbeats 1600000 in
theorem Look {A : Option Addr} {c : Nat} {g : List (Bs × BA)} (hr : Rises g) (n : BA) (w : World) (h : kp.C w A (toP g).length (toP g)) (hn : g.length ≤ 17179869184) :
    Calls Tryz.prog 65 #[.slice A (toP g).length c, .string n] w fun e w' => e = lookT g n ∧ w' = w := by
  have H := Aside0.mk h
  have HRS := Aside0.mk hr
  have hln : (toP g).length = g.length := toP_length g
  rw [hln]
  clear h hr
  have e0 : ∀ m : Nat, m = 0 → ((m : Int) - 1) = -1 := fun m h => by omega
  go_enter Tryz.func65, Tryz.ntmps65
  have hw0 : IntKind.i64.wrap ((g.length : Int) - 1) = (g.length : Int) - 1 := IntWalk.i64_in _ (by omega)
  go_wp2
  go_loopw [6] (fun v6 wr => ∃ j : Nat, v6 = .int .i64 ((j : Int) - 1) ∧ j ≤ g.length ∧ Aside0 (∀ (i : Nat) (hi : i < g.length), j ≤ i → g[i].1 ≠ lb n) ∧ wr = w) (fun v6 _ => (intOf v6 + 1).toNat)
  case atStart => exact ⟨g.length, rfl, Nat.le_refl _, ⟨fun i hi h => by omega⟩, rfl⟩
  case round =>
    obtain ⟨j, rfl, hj, HN, rfl⟩ := hrel
    rcases j with _ | m
    · have Y := Aside0.mk (show mget g (lb n) = none from mget_absent (fun p hp e => by
        obtain ⟨i, hi, rfl⟩ := List.getElem_of_mem hp
        exact HN.out i hi (Nat.zero_le _) e))
      have d0 : decide ((0 : Int) ≤ ((0 : Nat) : Int) - 1) = false := by decide
      clear HN
      go_wp2
      go_ret2
      exact ⟨by unfold lookT; rw [Y.out]; rfl, rfl⟩
    · have hm : m < g.length := by omega
      have hcast : (((m + 1 : Nat) : Int) - 1) = (m : Int) := by omega
      rw [hcast]
      obtain ⟨b0, o0, rfl, hb0, hc0⟩ := kp_open H.out (by rw [toP_length]; omega)
      obtain ⟨k0, k1⟩ := hc0 m (by rw [toP_length]; exact hm)
      rw [toP_get g m hm] at k0 k1
      have q0 : (0 : Int) ≤ (m : Int) := by omega
      have q1 : (m : Int) < (g.length : Int) := by omega
      have d0 : decide ((0 : Int) ≤ (m : Int)) = true := decide_eq_true q0
      have hw1 : IntKind.i64.wrap ((m : Int) - 1) = (m : Int) - 1 := IntWalk.i64_in _ (by omega)
      have heq : ((⟨g[m].1.toArray⟩ : BA).toList == n.toList) = (g[m].1 == lb n) := by rw [toList_lb, toList_lb, lb_mk]
      clear hc0
      by_cases he : g[m].1 = lb n
      · have he2 : (g[m].1 == lb n) = true := by simpa using he
        rw [he2] at heq
        have Y := Aside0.mk (show mget g (lb n) = some g[m].2 from mget_of_mem HRS.out (by rw [← he]; exact List.getElem_mem hm))
        clear he he2 hcast HN
        generalize (⟨g[m].1.toArray⟩ : BA) = x at *
        generalize g[m].2 = y at *
        go_wp2
        go_ret2
        exact ⟨by unfold lookT; rw [Y.out]; rfl, rfl⟩
      · have he2 : (g[m].1 == lb n) = false := by simpa using he
        rw [he2] at heq
        have Y := Aside0.mk (show ∀ (i : Nat) (hi : i < g.length), m ≤ i → g[i].1 ≠ lb n from fun i hi h => by
          by_cases hmi : m = i
          · subst hmi; exact he
          · exact HN.out i hi (by omega))
        clear he he2 hcast HN
        generalize (⟨g[m].1.toArray⟩ : BA) = x at *
        generalize g[m].2 = y at *
        go_wp2
        go_roundw
        case rel => exact ⟨m, rfl, by omega, Y, trivial⟩
        case measure => simp [intOf] <;> omega
/-- names without a value have the environment's -/
def resM (f : List (Bs × Option BA)) (g : List (Bs × BA)) : List (Bs × Option BA) := f.map fun p => (p.1, p.2.or (mget g p.1))
theorem resM_length (f : List (Bs × Option BA)) (g : List (Bs × BA)) : (resM f g).length = f.length := List.length_map _
set_option maxHeartbeats 3200000 in
set_option maxRecDepth 100000 in
theorem specResolve {A B : Option Addr} {c d : Nat} (f : List (Bs × Option BA)) {g : List (Bs × BA)} (hg : Rises g) (w : World) (h : ko.C w A (toO f).length (toO f)) (k : kp.C w B (toP g).length (toP g)) (hn : f.length ≤ 17179869184) (hm : g.length ≤ 17179869184) :
    Calls Tryz.prog 30 #[.slice A (toO f).length c, .slice B (toP g).length d] w fun e w' => ∃ v, e = .returned v ∧ ko.R 86 w' w.heap.size (fun _ => True) v (toO (resM f g)) ∧ Below w.heap.size w w' := by
  have H := Aside0.mk h
  have K := Aside0.mk k
  have HG := Aside0.mk hg
  have HB0 := Aside0.mk (Below.refl w.heap.size w)
  have hln : (toO f).length = f.length := toO_length f
  rw [hln]
  clear h k hg
  go_enter Tryz.func30, Tryz.ntmps30
  go_wp2
  go_loopw [5, 6] (fun v5 v6 wr => ∃ i : Nat, v6 = .int .i64 i ∧ i ≤ f.length ∧ Aside0 (ko.R 86 wr w.heap.size (fun _ => True) v5 (toO (resM (f.take i) g))) ∧ Aside0 (Below w.heap.size w wr)) (fun _ v6 _ => f.length - (intOf v6).toNat)
  case atStart => exact ⟨0, rfl, by omega, ⟨Kd.R_nil _ _ _ _ _⟩, HB0⟩
  case round =>
    clear HB0
    obtain ⟨i, rfl, hi, HO, HB⟩ := hrel
    by_cases hlt : i < f.length
    · obtain ⟨b0, o0, rfl, hb0, hc0⟩ := ko_open H.out (by omega)
      obtain ⟨g0, g1, g2⟩ := hc0 i (by omega)
      replace g0 := pw_cell_below HB.out g0
      replace g1 := pw_cell_below HB.out g1
      replace g2 := pw_cell_below HB.out g2
      have hge : (toO f)[i]'(by omega) = (⟨f[i].1.toArray⟩, f[i].2.getD ⟨#[]⟩, f[i].2.isSome) := by simp [toO]
      rw [hge] at g0 g1 g2
      have q0 : (0 : Int) ≤ (i : Int) := by omega
      have q1 : (i : Int) < (f.length : Int) := by omega
      have HT := Aside0.mk (show toO (resM (f.take (i + 1)) g) = toO (resM (f.take i) g) ++ [(⟨f[i].1.toArray⟩, (f[i].2.or (mget g f[i].1)).getD ⟨#[]⟩, (f[i].2.or (mget g f[i].1)).isSome)] by
        rw [List.take_succ_eq_append_getElem hlt]
        unfold resM
        rw [List.map_append, toO_append]
        rfl)
      have hln2 : (toO (resM (f.take i) g)).length < 2199023255551 := by rw [toO_length, resM_length, List.length_take]; omega
      have hkb : lb (⟨f[i].1.toArray⟩ : BA) = f[i].1 := lb_mk _
      rw [← hkb] at HT
      generalize (⟨f[i].1.toArray⟩ : BA) = p at *
      generalize f[i].2 = o at *
      obtain ⟨A3, c3, rfl⟩ := Kd.R_slice HO.out
      clear hc0 hge hkb
      cases o with
      | some v =>
        simp only [Option.getD_some, Option.isSome_some, Option.some_or] at g1 g2 HT
        have HO1 := Aside0.mk (Kd.R_alloc HO.out (.cells #[.string p, .string v, .bool true] 86))
        have HB1 := Aside0.mk (below_alloc HB.out (.cells #[.string p, .string v, .bool true] 86))
        have k0 : (wr.alloc (.cells #[.string p, .string v, .bool true] 86)).cell? ⟨wr.heap.size, 0, none⟩ = some (.string p) := cb_cell (i := 0) (cb_new _ _) rfl
        have k1 : (wr.alloc (.cells #[.string p, .string v, .bool true] 86)).cell? ⟨wr.heap.size, 1, none⟩ = some (.string v) := cb_cell (i := 1) (cb_new _ _) rfl
        have k2 : (wr.alloc (.cells #[.string p, .string v, .bool true] 86)).cell? ⟨wr.heap.size, 2, none⟩ = some (.bool true) := cb_cell (i := 2) (cb_new _ _) rfl
        go_wp2_with (at_builtin; refine append_opt (w0 := w) (ok := fun _ => True) (fun _ _ => trivial) 40 86 Tryz.underlying40 info_sopt (.tmp 30) (.tmp 32) rfl rfl rfl (by rw [World.size_alloc]; rfl) HO1.out HB1.out hln2 ?_; intro v1 w5 ho hb hg; have HO5 := Aside0.mk ho; have HB5 := Aside0.mk hb; clear ho hb hg)
        go_roundw
        case rel => exact ⟨i + 1, by go_num, by omega, ⟨by rw [HT.out]; exact HO5.out⟩, HB5⟩
        case measure => simp [intOf]; omega
      | none =>
        simp only [Option.getD_none, Option.isSome_none, Option.none_or] at g1 g2 HT
        have HO1 := Aside0.mk (Kd.R_alloc HO.out (.cells #[.string p, .string ⟨#[]⟩, .bool false] 86))
        have HB1 := Aside0.mk (below_alloc HB.out (.cells #[.string p, .string ⟨#[]⟩, .bool false] 86))
        have k0 : (wr.alloc (.cells #[.string p, .string ⟨#[]⟩, .bool false] 86)).cell? ⟨wr.heap.size, 0, none⟩ = some (.string p) := cb_cell (i := 0) (cb_new _ _) rfl
        have k1 : (wr.alloc (.cells #[.string p, .string ⟨#[]⟩, .bool false] 86)).cell? ⟨wr.heap.size, 1, none⟩ = some (.string ⟨#[]⟩) := cb_cell (i := 1) (cb_new _ _) rfl
        have k2 : (wr.alloc (.cells #[.string p, .string ⟨#[]⟩, .bool false] 86)).cell? ⟨wr.heap.size, 2, none⟩ = some (.bool false) := cb_cell (i := 2) (cb_new _ _) rfl
        have CL := Aside0.mk (Look (c := d) HG.out p _ (Kd.C_below K.out HB1.out) hm)
        unfold lookT at CL
        generalize (mget g (lb p)).getD ⟨#[]⟩ = lv at *
        generalize (mget g (lb p)).isSome = li at *
        go_wp2_with fail
        refine CL.out.mono ?_
        rintro e w2 ⟨rfl, rfl⟩
        have HO2 := Aside0.mk (Kd.R_alloc HO.out (.cells #[.string p, .string lv, .bool li] 86))
        have HB2 := Aside0.mk (below_alloc HB.out (.cells #[.string p, .string lv, .bool li] 86))
        go_wp2_with (at_builtin; refine append_opt (w0 := w) (ok := fun _ => True) (fun _ _ => trivial) 40 86 Tryz.underlying40 info_sopt (.tmp 30) (.tmp 32) rfl rfl rfl (by rw [World.size_alloc]; rfl) HO2.out HB2.out hln2 ?_; intro v1 w5 ho hb hg; have HO5 := Aside0.mk ho; have HB5 := Aside0.mk hb; clear ho hb hg)
        go_roundw
        case rel => exact ⟨i + 1, by go_num, by omega, ⟨by rw [HT.out]; exact HO5.out⟩, HB5⟩
        case measure => simp [intOf]; omega
    · have hall := HO.out
      rw [List.take_of_length_le (by omega)] at hall
      have HALL := Aside0.mk hall
      clear hall HO
      go_wp2
      go_ret
      exact ⟨_, rfl, HALL.out, HB.out⟩
end Go.Proofs.YtididniafloogaaGreatDoor.Maps
namespace Go.Proofs.YtididniafloogaaGreatDoor.Maps
open Go.RowKit Go.Proofs.YtididniafloogaaGreatDoorW.PrintWords Go.Proofs.YtididniafloogaaGreatDoorW.PrintLast Go.Proofs.YtididniafloogaaGreatDoor.Str Go.Proofs.YtididniafloogaaGreatDoor.Kit Go.Proofs.YtididniafloogaaGreatDoor.Flat Go.Proofs.YtididniafloogaaGreatDoor.MapV Go.Proofs.YtididniafloogaaGreatDoor.Frame
set_option linter.unusedVariables false
set_option linter.unusedSimpArgs false
theorem mget_map' {α β : Type} (h : Bs → α → β) : ∀ (f : List (Bs × α)) (k : Bs), mget (f.map fun p => (p.1, h p.1 p.2)) k = (mget f k).map (h k)
  | [], k => rfl
  | p :: r, k => by
    rw [List.map_cons, mget_cons, mget_cons, mget_map' h r k]
    by_cases e : p.1 = k
    · rw [if_pos e, if_pos e, e]; rfl
    · rw [if_neg e, if_neg e]
theorem mget_vs (f : List (Bs × PV)) (k : Bs) : mget (vs f) k = (mget f k).map (Option.map Prod.snd) := mget_map' (fun _ => Option.map Prod.snd) f k
theorem mget_resM (f : List (Bs × Option BA)) (g : List (Bs × BA)) (k : Bs) : mget (resM f g) k = (mget f k).map (fun o => o.or (mget g k)) := mget_map' (fun k' (o : Option BA) => o.or (mget g k')) f k
theorem resM_rises {f : List (Bs × Option BA)} (h : Rises f) (g : List (Bs × BA)) : Rises (resM f g) := by
  unfold Rises resM
  rw [List.pairwise_map]
  exact h
theorem mput_length_in {α : Type} {f : List (Bs × α)} (hf : Rises f) {k : Bs} {c : α} (h : (k, c) ∈ f) (v : α) : (mput f k v).length = f.length := by
  have hp := (rises_take (hf.imp (fun {p q} h => lt_ne h)) h).length_eq
  unfold mput
  rw [mins_length, hp, List.length_cons]
/-- a resolving under way: lf is still to come -/
def Res (f : List (Bs × PV)) (g : List (Bs × BA)) (lf fc : List (Bs × PV)) : Prop := fc.length = f.length ∧ ∀ k, mget (vs fc) k = if ∃ p ∈ lf, p.1 = k then mget (vs f) k else mget (resM (vs f) g) k
theorem Res.start (f : List (Bs × PV)) (g : List (Bs × BA)) : Res f g f f := by
  refine ⟨rfl, fun k => ?_⟩
  by_cases h : ∃ p ∈ f, p.1 = k
  · rw [if_pos h]
  · have hn : mget f k = none := mget_absent (fun p hp e => h ⟨p, hp, e⟩)
    rw [if_neg h, mget_resM, mget_vs, hn]
    rfl
theorem Res.value {f : List (Bs × PV)} {g : List (Bs × BA)} {lf fc : List (Bs × PV)} (h : Res f g lf fc) (hr : Rises fc) (hs : ∀ p ∈ lf, p ∈ fc) {x : Bs} {c : PV} (hx : (x, c) ∈ lf) : mget (vs f) x = some (c.map Prod.snd) := by
  have h1 := h.2 x
  rw [if_pos ⟨_, hx, rfl⟩, mget_vs, mget_of_mem hr (hs _ hx)] at h1
  exact h1.symm
theorem Res.step {f : List (Bs × PV)} {g : List (Bs × BA)} {lf fc fd : List (Bs × PV)} (h : Res f g lf fc) {x : Bs} (hl : fd.length = fc.length) (h1 : mget (vs fd) x = mget (resM (vs f) g) x) (h2 : ∀ k, k ≠ x → mget (vs fd) k = mget (vs fc) k) : Res f g (mdel lf x) fd := by
  refine ⟨hl.trans h.1, fun k => ?_⟩
  by_cases e : k = x
  · subst e
    rw [if_neg (fun h => (mdel_has.1 h).2 rfl), h1]
  · rw [h2 k e, h.2 k]
    by_cases hk : ∃ p ∈ lf, p.1 = k
    · rw [if_pos hk, if_pos (mdel_has.2 ⟨hk, e⟩)]
    · rw [if_neg hk, if_neg (fun h => hk (mdel_has.1 h).1)]
theorem Res.done {f : List (Bs × PV)} {g : List (Bs × BA)} {fc : List (Bs × PV)} (h : Res f g [] fc) (hf : Rises f) (hr : Rises fc) : vs fc = resM (vs f) g := by
  refine rises_ext (vs_rises hr) (resM_rises (vs_rises hf) g) (fun k => ?_)
  rw [h.2 k, if_neg (by simp)]
set_option maxHeartbeats 800000 in
theorem lookFn {g : List (Bs × BA)} {cb mb : Nat} (k : BA) (w : World) (hc : w.cell? ⟨cb, 0, none⟩ = some (.map (some mb))) (hm : MapS w mb g) (hk : k.size ≤ maxLen) :
    Calls Tryz.prog 87 #[.string k, .pointer (some ⟨cb, 0, none⟩)] w fun e w' => e = lookT g k ∧ w' = w := by
  have hlk := run_look_ok_mapE key_u Tryz.underlying76 (Tryz.zeroValue9 w) hm hk
  unfold lookT
  rcases hmg : mget g (lb k) with _ | v
  · rw [hmg] at hlk
    simp only [Option.map_none, Option.getD_none, Option.isSome_none] at hlk
    clear hm hmg
    go_enter Tryz.func87, Tryz.ntmps87
    go_wp2
    go_ret2
    exact ⟨rfl, rfl⟩
  · rw [hmg] at hlk
    simp only [Option.map_some, Option.getD_some, Option.isSome_some] at hlk
    clear hm hmg
    go_enter Tryz.func87, Tryz.ntmps87
    go_wp2
    go_ret2
    exact ⟨rfl, rfl⟩
set_option maxHeartbeats 800000 in
theorem look {A : Option Addr} {c N : Nat} {f : List (Bs × BA)} (hf : Ok N f) (hN : N ≤ 17179869184) (w : World) (h : kp.C w A (toP f).length (toP f)) :
    Calls Tryz.prog 63 #[.slice A (toP f).length c] w fun e w' => ∃ cb mb, e = .returned (.func (.func 87) #[] #[.pointer (some ⟨cb, 0, none⟩)]) ∧ w'.cell? ⟨cb, 0, none⟩ = some (.map (some mb)) ∧ MapS w' mb f ∧ w.heap.size ≤ mb ∧ Below w.heap.size w w' := by
  have cl := pairs (c := c) (toP f) w h (hf.len hN) (small_toP hf.s)
  rw [ofP_toP, fitM_id hf.r] at cl
  have CL := Aside0.mk cl
  have hmf : ∀ (fn : Fn) (first cap : Array Value) (w : World), (Instr.makeFunc fn first cap).run Tryz.prog w = .ok (.func fn first cap) w := fun _ _ _ _ => rfl
  clear cl h hf
  go_enter Tryz.func63, Tryz.ntmps63
  go_wp2_with fail
  refine CL.out.mono ?_
  rintro e w1 ⟨rfl, hm1, hb1⟩
  have HB1 := Aside0.mk hb1
  have HM1 := Aside0.mk hm1
  clear hm1 hb1 CL
  go_wp2
  go_ret
  exact ⟨_, _, rfl, cb_cell (i := 0) (cb_new _ _) rfl, HM1.out.below ((Below.refl _ w1).alloc (Nat.le_refl _) _), Nat.le_refl _, HB1.out.alloc HB1.out.size _⟩
set_option maxHeartbeats 3200000 in
set_option maxRecDepth 100000 in
theorem Resolve (b : Nat) (f : List (Bs × PV)) (g : List (Bs × BA)) (cb mb : Nat) (w : World) (h : MapA w b f) (hld : Leads w f) (hc : w.cell? ⟨cb, 0, none⟩ = some (.map (some mb))) (hm : MapS w mb g) (hmb : mb ≠ b) (hn : f.length ≤ 17179869184) :
    Calls Tryz.prog 62 #[.map (some b), .func (.func 87) #[] #[.pointer (some ⟨cb, 0, none⟩)]] w fun e w' => ∃ f' : List (Bs × PV), e = .returned (.map (some b)) ∧ MapA w' b f' ∧ Leads w' f' ∧ vs f' = resM (vs f) g ∧ w.grownBy w' (some b) := by
  have HM := Aside0.mk h
  have HLD0 := Aside0.mk hld
  have HC := Aside0.mk hc
  have HMG := Aside0.mk hm
  have HCB := Aside0.mk (map_no_cell h hc)
  have HRS := Aside0.mk (MapE.rises (Go.Maps.string_keyed key_u) h)
  have hbl := h.lt
  have HCL := Aside0.mk (World.block_lt_of_cell? w ⟨cb, 0, none⟩ hc)
  have HML := Aside0.mk hm.lt
  clear h hld hc hm
  go_enter Tryz.func62, Tryz.ntmps62
  go_wp2_with (at_range; refine range_mapE key_u mapA_u rfl _ rfl rfl HM.out ?_; intro w0 hrg0 hg0 hs0; have HR0 := Aside0.mk hrg0; have HG0 := Aside0.mk hg0; have HS0 := Aside0.mk hs0; clear hrg0 hg0 hs0)
  try go_frame
  have HGB := Aside0.mk (show w.grownBy w0 (some b) from ⟨HG0.out.os, HG0.out.tape, HG0.out.output, HG0.out.size, fun j hj _ => HG0.out.block j hj (by simp)⟩)
  have HLDB := Aside0.mk (show Leads w0 f from fun p hp a s e => cell_grown HG0.out (HLD0.out p hp a s e) (by simp))
  clear HG0 HM HLD0
  go_loopw [] (fun wr => ∃ (fc lf : List (Bs × PV)), Aside0 (Ranges Tryz.prog 9 encA wr b w.heap.size fc lf) ∧ Aside0 (Leads wr fc) ∧ Aside0 (Res f g lf fc) ∧ Aside0 (w.grownBy wr (some b))) (fun wr => wr.rangeLeft b w.heap.size)
  case atStart => exact ⟨f, f, HR0, HLDB, ⟨Res.start f g⟩, HGB⟩
  case round =>
    clear HR0 HLDB HGB HS0
    obtain ⟨fc, lf, HR, HLD, HX, HG⟩ := hrel
    have hwl := HG.out.size
    have hrl := HR.out.lt
    have HFC := Aside0.mk (MapE.rises (Go.Maps.string_keyed key_u) HR.out.owns)
    have HSUB := Aside0.mk (fun (p : Bs × PV) (hp : p ∈ lf) => HR.out.sub.subset hp)
    have hml : fc.length < maxLen := by have := HX.out.1; unfold maxLen; omega
    go_wp2_with (first | (at_next; refine next_mapA key_u rfl _ rfl rfl HR.out (fun hd => ?_) (fun x c w2 hx hen => ?_); rotate_left; (have hks := hx.out.2.1); (have hsz2 : w.heap.size < w2.heap.size := by have := hx.out.2.2.2.2.2; omega); (have HLD2 := Aside0.mk (HLD.out.next HR.out hx.out.2.2.2.2.1)); (have HG2 := Aside0.mk (HG.out.andThen hx.out.2.2.2.2.1 (fun j e => .inl (by injection e with e; omega)))); (have hval := Aside0.mk (HX.out.value HFC.out HSUB.out hx.out.1)); (have HC2 := Aside0.mk (cell_grown HG2.out HC.out (fun e => HCB.out (Option.some.inj e)))); (have HM2 := Aside0.mk (HMG.out.grown HG2.out (fun e => hmb (Option.some.inj e)))); (have CLK := Aside0.mk (lookFn x w2 HC2.out HM2.out hks)); (rcases c with _ | ⟨pa, pv⟩); all_goals (try (simp only [encA, Option.map_none, Option.map_some] at hen))))
    · -- a name without a value
      have HNM := Aside0.mk (show ∀ p ∈ mdel lf (lb x), p.1 ≠ lb x from fun p hp e => (mdel_has.1 ⟨p, hp, e⟩).2 rfl)
      have HHAS := Aside0.mk (show (mget fc (lb x)).isSome = true by rw [mget_of_mem HFC.out (HSUB.out _ hx.out.1)]; rfl)
      unfold lookT at CLK
      rcases hmg : mget g (lb x) with _ | v
      · rw [hmg] at CLK
        simp only [Option.getD_none, Option.isSome_none] at CLK
        have HSTEP := Aside0.mk (HX.out.step (x := lb x) rfl (by
          rw [mget_resM, hval.out, hmg, mget_vs, mget_of_mem HFC.out (HSUB.out _ hx.out.1)]; rfl) (fun k _ => rfl))
        clear hmg
        refine CLK.out.mono ?_
        rintro e w3 ⟨rfl, rfl⟩
        have HBW := Aside0.mk ((Below.refl _ w3).alloc (Nat.le_refl _) (.cells #[.string ⟨#[]⟩] 9))
        go_wp2
        go_roundw
        case rel => exact ⟨fc, mdel lf (lb x), ⟨hx.out.2.2.1.below HBW.out⟩, ⟨HLD2.out.below HBW.out⟩, HSTEP, ⟨HG2.out.andThen (grown_of_below HBW.out (some b)) (fun j e => .inr e)⟩⟩
        case measure =>
          have e0 := left_same (b := b) (r := w.heap.size) (w := w3) (w' := w3.alloc (.cells #[.string ⟨#[]⟩] 9)) (HBW.out.block _ (by omega)) (HBW.out.block _ (by omega))
          rw [e0]; exact hx.out.2.2.2.1
      · rw [hmg] at CLK
        simp only [Option.getD_some, Option.isSome_some] at CLK
        have HVV := Aside0.mk (show ∀ ad : Addr, Res f g (mdel lf (lb x)) (mput fc (lb x) (some (ad, v))) from fun ad => HX.out.step (mput_length_in HFC.out (HSUB.out _ hx.out.1) _) (by
          rw [mget_resM, hval.out, hmg, ← vs_put, mget_mput, if_pos rfl]; rfl) (fun k hk => by rw [← vs_put, mget_mput, if_neg (fun e => hk e.symm)]))
        clear hmg
        refine CLK.out.mono ?_
        rintro e w3 ⟨rfl, rfl⟩
        have HBW := Aside0.mk ((Below.refl _ w3).alloc (Nat.le_refl _) (.cells #[.string v] 9))
        have HR3 := Aside0.mk (hx.out.2.2.1.below HBW.out)
        have HCL3 := Aside0.mk (show (w3.alloc (.cells #[.string v] 9)).cell? ⟨w3.heap.size, 0, none⟩ = some (.string v) from cb_cell (i := 0) (cb_new w3 _) rfl)
        go_wp2_with (at_mapUpdate; refine store_rangesE (enc := encA) (y := (some (⟨w3.heap.size, 0, none⟩, v) : PV)) key_u mapA_u rfl _ _ _ rfl rfl HR3.out hml rfl hks rfl HHAS.out HNM.out ?_; intro w4 hr4 hg4 hl4; have HR4 := Aside0.mk hr4; have HG4 := Aside0.mk hg4; have HL4 := Aside0.mk hl4; clear hr4 hg4 hl4)
        simp only [Act.put]
        go_roundw
        case rel =>
          refine ⟨_, mdel lf (lb x), HR4, ⟨?_⟩, ⟨HVV.out _⟩, ⟨?_⟩⟩
          · exact ((HLD2.out.below HBW.out).put (fun a s e => by cases e; exact HCL3.out)).grown HR3.out.owns HG4.out
          · exact (HG2.out.andThen (grown_of_below HBW.out (some b)) (fun j e => .inr e)).andThen HG4.out (fun j e => .inr e)
        case measure =>
          have e0 := left_same (b := b) (r := w.heap.size) (w := w3) (w' := w3.alloc (.cells #[.string v] 9)) (HBW.out.block _ (by omega)) (HBW.out.block _ (by omega))
          rw [HL4.out, e0]; exact hx.out.2.2.2.1
    · have HSTEP := Aside0.mk (HX.out.step (x := lb x) rfl (by
        rw [mget_resM, hval.out, mget_vs, mget_of_mem HFC.out (HSUB.out _ hx.out.1)]; rfl) (fun k _ => rfl))
      go_roundw
      case rel => exact ⟨fc, mdel lf (lb x), ⟨hx.out.2.2.1⟩, HLD2, HSTEP, HG2⟩
      case measure => exact hx.out.2.2.2.1
    · have Y := Aside0.mk (show vs fc = resM (vs f) g from by
        have h1 := HX.out
        rw [hd.out] at h1
        exact h1.done HRS.out HFC.out)
      clear hd HX
      go_ret
      exact ⟨fc, rfl, HR.out.owns, HLD.out, Y.out, HG.out⟩
set_option maxHeartbeats 1600000 in
theorem EqualsResolve {A B : Option Addr} {c d N : Nat} {f : List (Bs × Option BA)} {g : List (Bs × BA)} (hf : Rises f) (hs : ∀ p ∈ f, p.1.length ≤ 2147483647) (hn : f.length ≤ 17179869184) (hg : Ok N g) (hN : N ≤ 17179869184) (w : World) (h : ko.C w A (toO f).length (toO f)) (k : kp.C w B (toP g).length (toP g)) :
    Calls Tryz.prog 27 #[.slice A (toO f).length c, .slice B (toP g).length d] w fun e w' => ∃ v, e = .returned v ∧ ko.R 95 w' w.heap.size (fun _ => True) v (toO (resM f g)) ∧ Below w.heap.size w w' := by
  have cl := equals (c := c) (toO f) w h (by rw [toO_length]; exact hn) (small_toO hs)
  rw [ofO_toO, fitM_id hf] at cl
  have CL := Aside0.mk cl
  have K := Aside0.mk k
  have HG := Aside0.mk hg
  clear cl h k hf hs hg
  go_enter Tryz.func27, Tryz.ntmps27
  go_wp2_with fail
  refine CL.out.mono ?_
  rintro e w1 ⟨q, rfl, hm1, hld, hv, hb1⟩
  have HB1 := Aside0.mk hb1
  have HQ := Aside0.mk (And.intro hm1 (And.intro hld hv))
  have hql : q.length ≤ 17179869184 := by have := vs_length q; rw [hv] at this; omega
  have CA := Aside0.mk (look (c := d) HG.out hN w1 (Kd.C_below K.out hb1))
  have h1lt := hm1.lt
  clear hm1 hld hb1 CL hv
  go_wp2_with fail
  refine CA.out.mono ?_
  rintro e w2 ⟨cb, mb, rfl, hc, hm, hmb, hb⟩
  have HB2 := Aside0.mk (hb_then HB1.out hb)
  have cr := Resolve w.heap.size q g cb mb w2 (HQ.out.1.below hb) (HQ.out.2.1.below hb) hc hm (by omega) hql
  rw [HQ.out.2.2] at cr
  have CR := Aside0.mk cr
  clear hc hm hmb hb CA cr
  go_wp2_with fail
  refine CR.out.mono ?_
  rintro e w3 ⟨q2, rfl, hm3, hld, hv, hg3⟩
  have HB3 := Aside0.mk (pw_below_grown HB2.out (some w.heap.size) HB2.out.size hg3 (fun k hk => by injection hk with hk; omega))
  have hq2 : q2.length ≤ 17179869184 := by have := vs_length q2; rw [hv, resM_length] at this; omega
  have co := opts w.heap.size q2 w3 hm3 hld hq2
  rw [hv] at co
  have CO := Aside0.mk co
  clear hm3 hld hv hg3 CR co
  go_wp2_with fail
  refine CO.out.mono ?_
  rintro e w4 ⟨v, rfl, hR, hb⟩
  have HR := Aside0.mk (Kd.R_lower hR HB3.out.size)
  have HB4 := Aside0.mk (hb_then HB3.out hb)
  clear hR hb CO
  go_wp2
  go_ret
  exact ⟨_, rfl, HR.out, HB4.out⟩
end Go.Proofs.YtididniafloogaaGreatDoor.Maps
namespace Go.Proofs.YtididniafloogaaGreatDoor.Maps
open Go.RowKit Go.Proofs.YtididniafloogaaGreatDoorW.PrintWords Go.Proofs.YtididniafloogaaGreatDoorW.PrintLast Go.Proofs.YtididniafloogaaGreatDoor.Str Go.Proofs.YtididniafloogaaGreatDoor.Kit Go.Proofs.YtididniafloogaaGreatDoor.Flat Go.Proofs.YtididniafloogaaGreatDoor.MapV Go.Proofs.YtididniafloogaaGreatDoor.Frame
set_option linter.unusedVariables false
set_option linter.unusedSimpArgs false
/-- those with a value -/
def someM {α : Type} (f : List (Bs × Option α)) : List (Bs × Option α) := f.filter fun p => p.2.isSome
theorem someM_vs (f : List (Bs × PV)) : vs (someM f) = someM (vs f) := by
  unfold vs someM
  rw [List.filter_map]
  congr 1
  refine List.filter_congr (fun p _ => ?_)
  obtain ⟨k, o⟩ := p
  cases o <;> rfl
theorem fullO_someM (f : List (Bs × Option BA)) : fullO (toO f) = toO (someM f) := by
  unfold fullO toO someM
  rw [List.filter_map]
  rfl
theorem mget_someM {α : Type} {f : List (Bs × Option α)} (hf : Rises f) (k : Bs) : mget (someM f) k = match mget f k with | some (some v) => some (some v) | _ => none := by
  induction f with
  | nil => rfl
  | cons p r ih =>
    obtain ⟨h1, h2⟩ := List.pairwise_cons.1 hf
    obtain ⟨k1, o⟩ := p
    rw [mget_cons]
    cases o with
    | none =>
      have e : someM ((k1, none) :: r) = someM r := by simp [someM]
      rw [e, ih h2]
      by_cases hk : k1 = k
      · rw [if_pos hk, mget_absent (f := r) (fun q hq e => lt_irrefl k1 (by have := h1 q hq; rw [e, ← hk] at this; exact this))]
      · rw [if_neg hk]
    | some v =>
      have e : someM ((k1, some v) :: r) = (k1, some v) :: someM r := by simp [someM]
      rw [e, mget_cons, ih h2]
      by_cases hk : k1 = k
      · rw [if_pos hk, if_pos hk]
      · rw [if_neg hk, if_neg hk]
theorem someM_rises {α : Type} {f : List (Bs × Option α)} (h : Rises f) : Rises (someM f) := h.filter _
/-- a removal under way -/
def Rem (f lf fc : List (Bs × PV)) : Prop := ∀ k, mget fc k = if ∃ p ∈ lf, p.1 = k then mget f k else mget (someM f) k
theorem Rem.start {f : List (Bs × PV)} (hf : Rises f) : Rem f f f := fun k => by
  by_cases h : ∃ p ∈ f, p.1 = k
  · rw [if_pos h]
  · rw [if_neg h, mget_someM hf, mget_absent (f := f) (fun p hp e => h ⟨p, hp, e⟩)]
theorem Rem.step {f lf fc fd : List (Bs × PV)} (h : Rem f lf fc) {x : Bs} (h1 : mget fd x = mget (someM f) x) (h2 : ∀ k, k ≠ x → mget fd k = mget fc k) : Rem f (mdel lf x) fd := fun k => by
  by_cases e : k = x
  · subst e
    rw [if_neg (fun h => (mdel_has.1 h).2 rfl), h1]
  · rw [h2 k e, h k]
    by_cases hk : ∃ p ∈ lf, p.1 = k
    · rw [if_pos hk, if_pos (mdel_has.2 ⟨hk, e⟩)]
    · rw [if_neg hk, if_neg (fun h => hk (mdel_has.1 h).1)]
theorem Rem.value {f lf fc : List (Bs × PV)} (h : Rem f lf fc) (hr : Rises fc) (hs : ∀ p ∈ lf, p ∈ fc) {x : Bs} {c : PV} (hx : (x, c) ∈ lf) : mget f x = some c := by
  have h1 := h x
  rw [if_pos ⟨_, hx, rfl⟩, mget_of_mem hr (hs _ hx)] at h1
  exact h1.symm
set_option maxHeartbeats 3200000 in
set_option maxRecDepth 100000 in
theorem RemoveEmpty (b : Nat) (f : List (Bs × PV)) (w : World) (h : MapA w b f) (hld : Leads w f) :
    Calls Tryz.prog 64 #[.map (some b)] w fun e w' => e = .returned (.map (some b)) ∧ MapA w' b (someM f) ∧ Leads w' (someM f) ∧ w.grownBy w' (some b) := by
  have HM := Aside0.mk h
  have HLD := Aside0.mk (hld.sub (fun p hp => (List.mem_filter.1 hp).1 : ∀ p ∈ someM f, p ∈ f))
  have HRS := Aside0.mk (MapE.rises (Go.Maps.string_keyed key_u) h)
  have hbl := h.lt
  have HM2 := Aside0.mk h
  clear h hld
  go_enter Tryz.func64, Tryz.ntmps64
  go_wp2_with (at_range; refine range_mapE key_u mapA_u rfl _ rfl rfl HM.out ?_; intro w0 hrg0 hg0 hs0; have HR0 := Aside0.mk hrg0; have HG0 := Aside0.mk hg0; have HS0 := Aside0.mk hs0; clear hrg0 hg0 hs0)
  try go_frame
  have HGB := Aside0.mk (show w.grownBy w0 (some b) from ⟨HG0.out.os, HG0.out.tape, HG0.out.output, HG0.out.size, fun j hj _ => HG0.out.block j hj (by simp)⟩)
  clear HG0 HM
  go_loopw [] (fun wr => ∃ (fc lf : List (Bs × PV)), Aside0 (Ranges Tryz.prog 9 encA wr b w.heap.size fc lf) ∧ Aside0 (Rem f lf fc) ∧ Aside0 (w.grownBy wr (some b))) (fun wr => wr.rangeLeft b w.heap.size)
  case atStart => exact ⟨f, f, HR0, ⟨Rem.start HRS.out⟩, HGB⟩
  case round =>
    clear HR0 HGB HS0
    obtain ⟨fc, lf, HR, HX, HG⟩ := hrel
    have hwl := HG.out.size
    have hrl := HR.out.lt
    have HFC := Aside0.mk (MapE.rises (Go.Maps.string_keyed key_u) HR.out.owns)
    have HSUB := Aside0.mk (fun (p : Bs × PV) (hp : p ∈ lf) => HR.out.sub.subset hp)
    go_wp2_with (first | (at_next; refine next_mapA key_u rfl _ rfl rfl HR.out (fun hd => ?_) (fun x c w2 hx hen => ?_); rotate_left; (have hks := hx.out.2.1); (have hsz2 : w.heap.size < w2.heap.size := by have := hx.out.2.2.2.2.2; omega); (have HG2 := Aside0.mk (HG.out.andThen hx.out.2.2.2.2.1 (fun j e => .inl (by injection e with e; omega)))); (have hval := Aside0.mk (HX.out.value HFC.out HSUB.out hx.out.1)); (have HNM := Aside0.mk (show ∀ p ∈ mdel lf (lb x), p.1 ≠ lb x from fun p hp e => (mdel_has.1 ⟨p, hp, e⟩).2 rfl)); (have HR3 := Aside0.mk hx.out.2.2.1); (rcases c with _ | ⟨pa, pv⟩); all_goals (try (simp only [encA, Option.map_none, Option.map_some] at hen))) | (at_delete; refine del_rangesE key_u mapA_u rfl _ _ rfl rfl HR3.out rfl hks HNM.out ?_; intro w4 hr4 hg4 hl4; have HR4 := Aside0.mk hr4; have HG4 := Aside0.mk hg4; have HL4 := Aside0.mk hl4; clear hr4 hg4 hl4))
    · have HSTEP := Aside0.mk (show Rem f (mdel lf (lb x)) (mdel fc (lb x)) from HX.out.step (by
        rw [mget_mdel_same, mget_someM HRS.out, hval.out]) (fun k hk => mget_mdel_other (fun e => hk e.symm)))
      simp only [Act.put]
      go_roundw
      case rel => exact ⟨_, mdel lf (lb x), HR4, HSTEP, ⟨HG2.out.andThen HG4.out (fun j e => .inr e)⟩⟩
      case measure => exact Nat.lt_of_le_of_lt HL4.out hx.out.2.2.2.1
    · have HSTEP := Aside0.mk (show Rem f (mdel lf (lb x)) fc from HX.out.step (by
        rw [mget_of_mem HFC.out (HSUB.out _ hx.out.1), mget_someM HRS.out, hval.out]) (fun k _ => rfl))
      go_roundw
      case rel => exact ⟨fc, mdel lf (lb x), HR3, HSTEP, HG2⟩
      case measure => exact hx.out.2.2.2.1
    · have Y := Aside0.mk (show fc = someM f from rises_ext HFC.out (someM_rises HRS.out) (fun k => by
        have h1 := HX.out k
        rw [hd.out, if_neg (by simp)] at h1
        exact h1))
      clear hd HX
      go_ret
      exact ⟨rfl, by rw [← Y.out]; exact HR.out.owns, HLD.out.grown HM2.out HG.out, HG.out⟩
set_option maxHeartbeats 1600000 in
theorem EqualsRemoveEmpty {A : Option Addr} {c : Nat} {f : List (Bs × Option BA)} (hf : Rises f) (hs : ∀ p ∈ f, p.1.length ≤ 2147483647) (hn : f.length ≤ 17179869184) (w : World) (h : ko.C w A (toO f).length (toO f)) :
    Calls Tryz.prog 29 #[.slice A (toO f).length c] w fun e w' => ∃ v, e = .returned v ∧ ko.R 95 w' w.heap.size (fun _ => True) v (toO (someM f)) ∧ Below w.heap.size w w' := by
  have cl := equals (c := c) (toO f) w h (by rw [toO_length]; exact hn) (small_toO hs)
  rw [ofO_toO, fitM_id hf] at cl
  have CL := Aside0.mk cl
  clear cl h hf hs
  go_enter Tryz.func29, Tryz.ntmps29
  go_wp2_with fail
  refine CL.out.mono ?_
  rintro e w1 ⟨q, rfl, hm1, hld, hv, hb1⟩
  have HB1 := Aside0.mk hb1
  have HV := Aside0.mk hv
  have hql : q.length ≤ 17179869184 := by have := vs_length q; rw [hv] at this; omega
  have CR := Aside0.mk (RemoveEmpty w.heap.size q w1 hm1 hld)
  clear hm1 hld hb1 CL hv
  go_wp2_with fail
  refine CR.out.mono ?_
  rintro e w3 ⟨rfl, hm3, hld, hg3⟩
  have HB3 := Aside0.mk (pw_below_grown HB1.out (some w.heap.size) HB1.out.size hg3 (fun k hk => by injection hk with hk; omega))
  have hq2 : (someM q).length ≤ 17179869184 := Nat.le_trans (List.length_filter_le _ _) hql
  have co := opts w.heap.size (someM q) w3 hm3 hld hq2
  rw [someM_vs, HV.out] at co
  have CO := Aside0.mk co
  clear hm3 hld hg3 CR co
  go_wp2_with fail
  refine CO.out.mono ?_
  rintro e w4 ⟨v, rfl, hR, hb⟩
  have HR := Aside0.mk (Kd.R_lower hR HB3.out.size)
  have HB4 := Aside0.mk (hb_then HB3.out hb)
  clear hR hb CO
  go_wp2
  go_ret
  exact ⟨_, rfl, HR.out, HB4.out⟩
end Go.Proofs.YtididniafloogaaGreatDoor.Maps
namespace Go.Proofs.YtididniafloogaaGreatDoor.Maps
open Go.RowKit Go.Proofs.YtididniafloogaaGreatDoorW.PrintWords Go.Proofs.YtididniafloogaaGreatDoorW.PrintLast Go.Proofs.YtididniafloogaaGreatDoor.Str Go.Proofs.YtididniafloogaaGreatDoor.Kit Go.Proofs.YtididniafloogaaGreatDoor.Flat Go.Proofs.YtididniafloogaaGreatDoor.MapV Go.Proofs.YtididniafloogaaGreatDoor.Frame
set_option linter.unusedVariables false
set_option linter.unusedSimpArgs false
theorem flat_set3 (xs : List KO) (k : Nat) (p q : BA) (r : Bool) (h : k < xs.length) : ((((xs.flatMap encO).set (k * 3) (.string p)).set (k * 3 + 1) (.string q)).set (k * 3 + 1 + 1) (.bool r)) = (xs.set k (p, q, r)).flatMap encO := by
  induction xs generalizing k with
  | nil => simp at h
  | cons x l ih =>
    cases k with
    | zero => rfl
    | succ k =>
      have := ih k (by simpa using h)
      rw [List.flatMap_cons, List.set_cons_succ, List.flatMap_cons, ← this]
      have e0 : (k + 1) * 3 = (encO x).length + k * 3 := by rw [encO_len]; omega
      rw [e0, Nat.add_assoc, Nat.add_assoc, Nat.add_assoc, List.set_append_right _ _ (by omega), List.set_append_right _ _ (by omega), List.set_append_right _ _ (by omega)]
      congr 2
      · congr 2
        · congr 1
          omega
        · omega
      · omega
theorem R_set_opt {e : Nat} {w : World} {base : Nat} {ok : Nat → Prop} {g n c : Nat} {xs : List KO} (h : ko.R e w base ok (.slice (some ⟨g, 0, none⟩) n c) xs) (k : Nat) (hk : k < xs.length) (p q : BA) (r : Bool) :
    ko.R e (w.setCells g (k * 3) [.string p, .string q, .bool r]) base ok (.slice (some ⟨g, 0, none⟩) n c) (xs.set k (p, q, r)) := by
  obtain ⟨h0, h1⟩ := R_flat.1 h
  refine R_flat.2 ⟨h0, ?_⟩
  rcases h1.2 with ⟨e0, _⟩ | ⟨g', cap, cur, hv, hg, hb, hle, hcap, hsz, htk⟩
  · cases e0
  injection hv with e1 e2 e3
  injection e1 with e1
  injection e1 with e1
  subst e1 e3
  have hl : (xs.set k (p, q, r)).length = xs.length := by simp
  rw [hl]
  refine ⟨by rw [flat_length encO_len, hl], .inr ⟨g, c, _, by rw [e2], hg, cb_set (cb_set (cb_set hb _) _) _, hle, hcap, by simpa using hsz, ?_⟩⟩
  rw [Array.toList_setIfInBounds, Array.toList_setIfInBounds, Array.toList_setIfInBounds, List.take_set, List.take_set, List.take_set, htk, flat_set3 xs k p q r hk]
theorem own_oneO (w : World) (base : Nat) (e : TypeId) (hb : base ≤ w.heap.size) (ok : Nat → Prop) (hok : ok w.heap.size) (p q : BA) (r : Bool) : ko.R e (w.alloc (.cells #[.string p, .string q, .bool r] e)) base ok (.slice (some ⟨w.heap.size, 0, none⟩) 1 1) [(p, q, r)] := by
  refine R_flat.2 ⟨fun b hbb => ?_, rfl, .inr ⟨w.heap.size, 1, _, rfl, hb, cb_new _ _, Nat.le_refl _, by unfold maxLen; omega, rfl, rfl⟩⟩
  have : w.heap.size = b := by simpa [Value.ownBlock] using hbb
  subst this; exact hok
theorem toO_get (f : List (Bs × Option BA)) (k : Nat) (h : k < f.length) : (toO f)[k]'(by rw [toO_length]; exact h) = (⟨f[k].1.toArray⟩, f[k].2.getD ⟨#[]⟩, f[k].2.isSome) := by simp [toO]
theorem toO_set (f : List (Bs × Option BA)) (k : Nat) (x : Bs × Option BA) : toO (f.set k x) = (toO f).set k (⟨x.1.toArray⟩, x.2.getD ⟨#[]⟩, x.2.isSome) := by
  unfold toO
  rw [List.map_set]
theorem toO_take (f : List (Bs × Option BA)) (k : Nat) : toO (f.take k) = (toO f).take k := List.map_take
theorem toO_drop (f : List (Bs × Option BA)) (k : Nat) : toO (f.drop k) = (toO f).drop k := List.map_drop
theorem ko_drop {w : World} {g n k : Nat} {xs : List KO} (h : ko.C w (some ⟨g, 0, none⟩) n xs) (hk : k < n) : ko.C w (some ⟨g, k * 3, none⟩) (n - k) (xs.drop k) := by
  obtain rfl : xs.length = n := h.1
  obtain ⟨bk, off, hA, hb, hc⟩ := flat_open h (by omega) (by decide)
  injection hA with hA
  injection hA with e1 e2
  subst e1 e2
  have hl : (xs.drop k).length = xs.length - k := List.length_drop
  have := flat_mk (hk := encO_len) (h1 := encO_one) (w := w) (b := g) (o := k * 3) (xs := xs.drop k) (by rw [hl]; have := h.2.1; omega) (fun j hj i u hu => by
    rw [List.getElem_drop] at hu
    have := hc (k + j) (by omega) i u hu
    rw [Nat.zero_add, Nat.add_mul, Nat.add_assoc] at this
    exact this)
  rw [hl] at this
  exact this
theorem ko_rows {w : World} {A : Option Addr} {n : Nat} {xs : List KO} (h : ko.C w A n xs) : ReadsRow (fun (x : KO) cs => cs = encO x) 3 w A n xs := h
set_option maxHeartbeats 25600000 in
set_option maxRecDepth 100000 in
theorem FitOpts {A : Option Addr} {c : Nat} (l : List KO) (w : World) (h : ko.C w A l.length l) (hn : l.length ≤ 17179869184) :
    Calls Tryz.prog 26 #[.slice A l.length c] w fun e w' => ∃ v, e = .returned v ∧ ko.R 86 w' w.heap.size (fun _ => True) v (toO (fitM (ofO l))) ∧ Below w.heap.size w w' := by
  have H := Aside0.mk h
  have HB0 := Aside0.mk (Below.refl w.heap.size w)
  clear h
  go_enter Tryz.func26, Tryz.ntmps26
  go_wp2
  go_loopw [3, 4] (fun v3 v4 wr => ∃ i : Nat, v4 = .int .i64 i ∧ i ≤ l.length ∧ Aside0 (ko.R 86 wr w.heap.size (fun _ => True) v3 (toO (fitM (ofO (l.take i))))) ∧ Aside0 (Below w.heap.size w wr)) (fun _ v4 _ => l.length - (intOf v4).toNat)
  case atStart => exact ⟨0, rfl, by omega, ⟨Kd.R_nil _ _ _ _ _⟩, HB0⟩
  case round =>
    clear HB0
    obtain ⟨i, rfl, hi, HO, HB⟩ := hrel
    by_cases hlt : i < l.length
    · obtain ⟨b0, o0, rfl, hb0, hc0⟩ := ko_open H.out (by omega)
      obtain ⟨g0, g1, g2⟩ := hc0 i hlt
      replace g0 := pw_cell_below HB.out g0
      replace g1 := pw_cell_below HB.out g1
      replace g2 := pw_cell_below HB.out g2
      have q0 : (0 : Int) ≤ (i : Int) := by omega
      have q1 : (i : Int) < (l.length : Int) := by omega
      have HT := Aside0.mk (show fitM (ofO (l.take (i + 1))) = mput (fitM (ofO (l.take i))) (lb l[i].1) (if l[i].2.2 then some l[i].2.1 else none) by
        rw [List.take_succ_eq_append_getElem hlt]
        unfold ofO
        rw [List.map_append, List.map_cons, List.map_nil, fitM_snoc])
      have hfl : (fitM (ofO (l.take i))).length ≤ i := by
        refine Nat.le_trans (fitM_length _) ?_
        simp only [ofO, List.length_map, List.length_take]
        omega
      have HRS := Aside0.mk (fitM_rises (ofO (l.take i)))
      generalize fitM (ofO (l.take i)) = f at HO HT hfl HRS
      generalize l[i].1 = kx at g0 HT
      generalize l[i].2.1 = vx at g1 HT
      generalize l[i].2.2 = rx at g2 HT
      clear hc0
      obtain ⟨wo, rfl⟩ : ∃ wo, wo = wr := ⟨_, rfl⟩
      cases rx
      · replace HT : Aside0 (fitM (ofO (l.take (i + 1))) = mput f (lb kx) (none : Option BA)) := HT
        have HPK := Aside0.mk (fun (k : Nat) (h1 : ∀ (j : Nat) (hj : j < f.length), j < k → f[j].1 < lb kx) (h2 : k ≤ f.length) (h3 : ∀ h : k < f.length, lb kx < f[k].1) => (show toO (mput f (lb kx) (none : Option BA)) = (toO f).take k ++ ([(kx, (⟨#[]⟩ : BA), false)] ++ (toO f).drop k) by
          rw [mput_ins k HRS.out h1 h2 h3, toO_append, toO_take]
          have : toO ((lb kx, (none : Option BA)) :: f.drop k) = [(kx, (⟨#[]⟩ : BA), false)] ++ (toO f).drop k := by
            rw [← toO_drop]
            simp [toO, lb]
          rw [this]))
        have hbx := (Below.refl wo.heap.size wo).alloc (Nat.le_refl _) (.cells #[.string kx, .string (⟨#[]⟩ : BA), .bool false] 86)
        replace HO := Aside0.mk (Kd.R_below HO.out hbx)
        replace HB := Aside0.mk (hb_then HB.out hbx)
        have G0 := Aside0.mk (show (wo.alloc (.cells #[.string kx, .string (⟨#[]⟩ : BA), .bool false] 86)).cell? ⟨wo.heap.size, 0, none⟩ = some (.string kx) from cb_cell (i := 0) (cb_new _ _) rfl)
        have G1 := Aside0.mk (show (wo.alloc (.cells #[.string kx, .string (⟨#[]⟩ : BA), .bool false] 86)).cell? ⟨wo.heap.size, 1, none⟩ = some (.string (⟨#[]⟩ : BA)) from cb_cell (i := 1) (cb_new _ _) rfl)
        have G2 := Aside0.mk (show (wo.alloc (.cells #[.string kx, .string (⟨#[]⟩ : BA), .bool false] 86)).cell? ⟨wo.heap.size, 2, none⟩ = some (.bool false) from cb_cell (i := 2) (cb_new _ _) rfl)
        clear hbx
        rcases (R_flat.1 HO.out).2.2 with ⟨hv, h0⟩ | ⟨g, c3, cur, hv, hgb, hblk, hle, hcap, hcsz, htk⟩
        · -- nothing is there yet
          subst hv
          rw [toO_length] at h0
          obtain rfl := List.eq_nil_of_length_eq_zero h0
          have HPOS := Aside0.mk (HPK.out 0 (fun j hj => by simp at hj) (Nat.zero_le _) (fun h => by simp at h))
          clear HPK h0
          go_wp2
          go_loopw [6] (fun v5 wq => v5 = .int .i64 0 ∧ Drawn0 (wo.alloc (.cells #[.string kx, .string (⟨#[]⟩ : BA), .bool false] 86)) wq) (fun v5 _ => 0)
          case atStart => exact ⟨rfl, Drawn0.refl _⟩
          case round =>
            obtain ⟨rfl, HD⟩ := hrel
            go_wp2_with fail
            go_quiet (fail)
            obtain ⟨w2, hw2⟩ : ∃ w2, wr.drewN nq = w2 := ⟨_, rfl⟩
            rw [hw2]
            have HD2 := HD.step nq
            rw [hw2] at HD2
            clear hw2 HD
            go_wp2_with fail
            go_quiet (fail)
            obtain ⟨w3, hw3⟩ : ∃ w3, w2.drewN nq = w3 := ⟨_, rfl⟩
            rw [hw3]
            have HD3 := HD2.step nq
            rw [hw3] at HD3
            clear hw3 HD2
            obtain ⟨w2, hw2⟩ : ∃ w2, w2 = w3 := ⟨_, rfl⟩
            subst hw2
            have HD2 := Aside0.mk HD3
            clear HD3
            have hb2 := (hb_then HB.out HD2.out.below)
            have HB2 := Aside0.mk hb2
            have g0 := pw_cell_below HD2.out.below G0.out
            have g1 := pw_cell_below HD2.out.below G1.out
            have g2 := pw_cell_below HD2.out.below G2.out
            have hsz2 := hb2.size
            clear hb2
            go_wp2_with fail
            refine start_ (n := 11) (S := fun w' => w'.cell? ⟨wo.heap.size, 0, none⟩ = some (.string kx) ∧ w'.cell? ⟨wo.heap.size, 1, none⟩ = some (.string (⟨#[]⟩ : BA)) ∧ w'.cell? ⟨wo.heap.size, 2, none⟩ = some (.bool false)) (ds := [4, 8, 9]) #[false, false, false, false, false, false, false, false, false, false, false] (by kernel_rfl) rfl rfl ⟨g0, g1, g2⟩ (fun hHeld => ?_)
            refine pure_ (i := 0) (N := some 55) (v := ?_) (a' := ?_) #[true, false, false, false, false, false, false, false, false, false, false] rfl rfl (by kernel_rfl) (fun _ _ _ h => h) (Or.inl ⟨by rfl, ?_⟩) ?_ ?_
            rotate_left
            · intro w'
              go_simp
              with_reducible rfl
            rotate_left
            · simp only [Act.put, List.setIfInBounds_toArray, List.set_cons_zero, List.set_cons_succ, i64_w, i32_w]
              rfl
            refine pure_ (i := 1) (N := some 56) (v := ?_) (a' := ?_) #[true, true, false, false, false, false, false, false, false, false, false] rfl rfl (by kernel_rfl) (fun _ _ _ h => h) (Or.inl ⟨by rfl, ?_⟩) ?_ ?_
            rotate_left
            · intro w'
              go_simp
              with_reducible rfl
            rotate_left
            · simp only [Act.put, List.setIfInBounds_toArray, List.set_cons_zero, List.set_cons_succ, i64_w, i32_w]
              rfl
            refine pure_ (i := 2) (N := some 57) (v := ?_) (a' := ?_) #[true, true, true, false, false, false, false, false, false, false, false] rfl rfl (by kernel_rfl) (fun _ _ _ h => h) (Or.inl ⟨by rfl, ?_⟩) ?_ ?_
            rotate_left
            · intro w'
              go_simp
              with_reducible rfl
            rotate_left
            · simp only [Act.put, List.setIfInBounds_toArray, List.set_cons_zero, List.set_cons_succ, i64_w, i32_w]
              rfl
            refine pure_ (i := 5) (N := some 60) (v := ?_) (a' := ?_) #[true, true, true, false, false, true, false, false, false, false, false] rfl rfl (by kernel_rfl) (fun _ _ _ h => h) (Or.inl ⟨by rfl, ?_⟩) ?_ ?_
            rotate_left
            · intro w'
              go_simp
              with_reducible rfl
            rotate_left
            · simp only [Act.put, List.setIfInBounds_toArray, List.set_cons_zero, List.set_cons_succ, i64_w, i32_w]
              rfl
            refine pure_ (i := 6) (N := some 61) (v := ?_) (a' := ?_) #[true, true, true, false, false, true, true, false, false, false, false] rfl rfl (by kernel_rfl) (fun _ _ _ h => h) (Or.inl ⟨by rfl, ?_⟩) ?_ ?_
            rotate_left
            · intro w'
              go_simp
              with_reducible rfl
            rotate_left
            · simp only [Act.put, List.setIfInBounds_toArray, List.set_cons_zero, List.set_cons_succ, i64_w, i32_w]
              rfl
            refine pure_ (i := 7) (N := some 62) (v := ?_) (a' := ?_) #[true, true, true, false, false, true, true, true, false, false, false] rfl rfl (by kernel_rfl) (fun _ _ _ h => h) (Or.inl ⟨by rfl, ?_⟩) ?_ ?_
            rotate_left
            · intro w'
              go_simp
              with_reducible rfl
            rotate_left
            · simp only [Act.put, List.setIfInBounds_toArray, List.set_cons_zero, List.set_cons_succ, i64_w, i32_w]
              rfl
            refine take_ (i := 3) (N := some 58) (v := ?_) (a' := ?_) #[true, true, true, true, false, true, true, true, false, false, false] rfl rfl (by kernel_rfl) (fun _ _ _ h => h) (Or.inl ⟨by rfl, ?_⟩) hHeld ?_ ?_
            rotate_left
            · rintro w' ⟨s0, s1, s2⟩
              go_simp
              with_reducible rfl
            rotate_left
            · simp only [Act.put, List.setIfInBounds_toArray, List.set_cons_zero, List.set_cons_succ, i64_w, i32_w]
              rfl
            refine last_ (i := 4) (N := some 59) #[true, true, true, true, true, true, true, true, false, false, false] rfl rfl (by kernel_rfl) (by decide) (fun K hK => ?_)
            refine value_ (w1 := ?_) (v := ?_) (by rfl) rfl ?_ ?_
            rotate_left 2
            · go_simp
              constructor
              · rfl
              · rfl
            refine hK.out _ _ ?_
            clear hK K
            refine norm_ (a' := ?_) ?_ ?_
            rotate_left
            · show Act.put _ (some 59) _ = _
              simp only [Act.put, List.setIfInBounds_toArray, List.set_cons_zero, List.set_cons_succ, i64_w, i32_w]
              rfl
            refine last_ (i := 8) (N := some 63) #[true, true, true, true, true, true, true, true, true, false, false] rfl rfl (by kernel_rfl) (by decide) (fun K hK => ?_)
            refine Kd.R_append_rows_step ko (w0 := w) w.heap.size rfl (.tmp 59) (.tmp 62) 40 86 (.agg #[.string ⟨#[]⟩, .string ⟨#[]⟩, .bool false]) 40 rfl Tryz.underlying40 info_sopt rfl (show 0 < 3 by decide) (by decide) (.slice (some ⟨w2.heap.size, 0, none⟩) 1 1) [(kx, (⟨#[]⟩ : BA), false)] ([] : List KO) _ 0 _ (fun _ => True) (fun _ => False) rfl rfl (Kd.R_drew (own_oneO w2 w.heap.size _ hsz2 _ trivial kx (⟨#[]⟩ : BA) false)) (ko_rows (ko_none _ _)) (fun _ _ h => h) (fun _ h => h.elim) (fun _ _ => trivial) (below_drew (below_alloc HB2.out _)) (below_drew (below_alloc HB2.out _)).size (by simp only [List.length_singleton]; omega) ?_
            intro v1 w5 ho hb hg hat
            obtain ⟨A1, c1, rfl, hle1, hC1⟩ := Kd.R_reads ho
            have HC1 := Aside0.mk hC1
            have HB5 := Aside0.mk hb
            have HV5 := Aside0.mk (show True from trivial)
            have hl1 : ([(kx, (⟨#[]⟩ : BA), false)] ++ ([] : List KO)).length = 1 + 0 := rfl
            clear ho hb hg hat hC1 hle1
            refine hK.out _ _ ?_
            clear hK K
            refine norm_ (a' := ?_) ?_ ?_
            rotate_left
            · show Act.put _ (some 63) _ = _
              simp only [Act.put, List.setIfInBounds_toArray, List.set_cons_zero, List.set_cons_succ, i64_w, i32_w]
              rfl
            refine last_ (i := 9) (N := some 64) #[true, true, true, true, true, true, true, true, true, true, false] rfl rfl (by kernel_rfl) (by decide) (fun K hK => ?_)
            refine Kd.R_append_rows_step ko (w0 := w) w.heap.size rfl (.tmp 57) (.tmp 63) 40 86 (.agg #[.string ⟨#[]⟩, .string ⟨#[]⟩, .bool false]) 40 rfl Tryz.underlying40 info_sopt rfl (show 0 < 3 by decide) (by decide) (.slice none 0 0) ([] : List KO) _ _ _ _ (fun _ => True) (fun _ => False) rfl rfl (Kd.R_nil _ _ _ _ _) (ko_rows HC1.out) (fun _ _ h => h) (fun _ h => h.elim) (fun _ _ => trivial) HB5.out HB5.out.size (by rw [hl1]; simp only [List.length_take, List.length_nil]; omega) ?_
            intro v2 w6 ho hb hg hat
            have HO6 := Aside0.mk ho
            have HB6 := Aside0.mk hb
            clear ho hb hg hat
            refine hK.out _ _ ?_
            clear hK K
            refine norm_ (a' := ?_) ?_ ?_
            rotate_left
            · show Act.put _ (some 64) _ = _
              simp only [Act.put, List.setIfInBounds_toArray, List.set_cons_zero, List.set_cons_succ, i64_w, i32_w]
              rfl
            refine pure_ (i := 10) (N := some 3) (v := ?_) (a' := ?_) #[true, true, true, true, true, true, true, true, true, true, true] rfl rfl (by kernel_rfl) (fun _ _ _ h => h) (Or.inl ⟨by rfl, ?_⟩) ?_ ?_
            rotate_left
            · intro w'
              go_simp
              with_reducible rfl
            rotate_left
            · simp only [Act.put, List.setIfInBounds_toArray, List.set_cons_zero, List.set_cons_succ, i64_w, i32_w]
              rfl
            refine done_ (by kernel_rfl) ?_
            go_wp2
            go_roundw
            case rel => exact ⟨i + 1, by go_num, by omega, ⟨by rw [HT.out, HPOS.out]; exact HO6.out⟩, HB6⟩
            case measure => simp [intOf]; omega
        · -- a row that is there
          subst hv
          rw [toO_length] at HO hle ⊢
          have HC3 := Aside0.mk (Kd.R_reads' HO.out).2.2
          rw [toO_length] at HC3
          have HBLK := Aside0.mk hblk
          clear hblk hcsz htk hcap
          go_wp2
          go_loopw [6] (fun v5 wq => ∃ k : Nat, v5 = .int .i64 k ∧ k ≤ f.length ∧ Aside0 (∀ (j : Nat) (hj : j < f.length), j < k → f[j].1 < lb kx) ∧ Drawn0 (wo.alloc (.cells #[.string kx, .string (⟨#[]⟩ : BA), .bool false] 86)) wq) (fun v5 _ => f.length - (intOf v5).toNat)
          case atStart => exact ⟨0, rfl, by omega, ⟨fun j _ h => absurd h (Nat.not_lt_zero _)⟩, Drawn0.refl _⟩
          case round =>
            obtain ⟨k, rfl, hk, HK, HD⟩ := hrel
            have g0 := pw_cell_below HD.below G0.out
            have g1 := pw_cell_below HD.below G1.out
            have g2 := pw_cell_below HD.below G2.out
            have q2 : (0 : Int) ≤ (k : Int) := by omega
            by_cases hkm : k < f.length
            · have q3 : (k : Int) < (f.length : Int) := by omega
              have hck : ¬ c3 = k := by omega
              obtain ⟨g', o', hA, hgl, hcell⟩ := ko_open (by rw [← toO_length f] at HC3; exact HC3.out) (by rw [toO_length]; omega)
              injection hA with hA
              injection hA with e1 e2
              subst e1 e2
              obtain ⟨k0, k1, k2⟩ := hcell k (by rw [toO_length]; exact hkm)
              rw [toO_get f k hkm] at k0 k1 k2
              rw [Nat.zero_add] at k0 k1 k2
              have K0 := Aside0.mk k0
              have K1 := Aside0.mk k1
              have K2 := Aside0.mk k2
              clear k0 k1 k2 hcell
              have k0 := pw_cell_below HD.below K0.out
              have k1 := pw_cell_below HD.below K1.out
              have hless : Op.bytesLess (⟨f[k].1.toArray⟩ : BA).toList kx.toList = decide (f[k].1 < lb kx) := by
                rw [bytesLess_eq, toList_lb, toList_lb, lb_mk]
              have heq : ((⟨f[k].1.toArray⟩ : BA).toList == kx.toList) = (f[k].1 == lb kx) := by rw [toList_lb, toList_lb, lb_mk]
              have HX := Aside0.mk (show f[k].1 < lb kx → ∀ (j : Nat) (hj : j < f.length), j < k + 1 → f[j].1 < lb kx from fun h j hj hjk => by
                by_cases hjk' : j < k
                · exact HK.out j hj hjk'
                · have : j = k := by omega
                  subst this; exact h)
              have HST := Aside0.mk (show f[k].1 = lb kx → toO (mput f (lb kx) (none : Option BA)) = (toO f).set k (kx, (⟨#[]⟩ : BA), false) from fun h => by
                rw [mput_set k HRS.out HK.out hkm h, toO_set]
                simp [lb])
              by_cases hlt2 : f[k].1 < lb kx
              · rw [decide_eq_true hlt2] at hless
                have Y := Aside0.mk (HX.out hlt2)
                clear heq HX hlt2 HST HPK
                generalize (⟨f[k].1.toArray⟩ : BA) = x at *
                go_wp2_with fail
                go_quiet (fail)
                go_wp2
                go_roundw
                case rel => exact ⟨k + 1, by go_num, by omega, Y, HD.step nq⟩
                case measure => simp [intOf]; omega
              · rw [decide_eq_false hlt2] at hless
                by_cases he2 : f[k].1 = lb kx
                · have YS := Aside0.mk (HST.out he2)
                  have he3 := he2
                  clear HX hlt2 he2 HST HPK
                  have hxk : (⟨f[k].1.toArray⟩ : BA) = kx := by (rw [he3]; first | done | (cases kx; simp [lb]))
                  rw [hxk] at k0 K0 hless heq
                  clear hxk he3 heq
                  go_wp2_with fail
                  go_quiet (fail)
                  obtain ⟨w2, hw2⟩ : ∃ w2, wr.drewN nq = w2 := ⟨_, rfl⟩
                  rw [hw2]
                  have HD2 := Aside0.mk (HD.step nq)
                  rw [hw2] at HD2
                  clear hw2 HD g0 g1 g2 k0 k1
                  have g0 := pw_cell_below HD2.out.below G0.out
                  have g1 := pw_cell_below HD2.out.below G1.out
                  have g2 := pw_cell_below HD2.out.below G2.out
                  have k0 := pw_cell_below HD2.out.below K0.out
                  have k1 := pw_cell_below HD2.out.below K1.out
                  go_wp2_with fail
                  go_quiet (fail)
                  obtain ⟨w3, hw3⟩ : ∃ w3, w2.drewN nq = w3 := ⟨_, rfl⟩
                  rw [hw3]
                  have HD3 := Aside0.mk (HD2.out.step nq)
                  rw [hw3] at HD3
                  clear hw3 HD2 g0 g1 g2 k0 k1
                  have g0 := pw_cell_below HD3.out.below G0.out
                  have g1 := pw_cell_below HD3.out.below G1.out
                  have g2 := pw_cell_below HD3.out.below G2.out
                  have k0 := pw_cell_below HD3.out.below K0.out
                  have k1 := pw_cell_below HD3.out.below K1.out
                  have k2 := pw_cell_below HD3.out.below K2.out
                  have HBK3 := Aside0.mk ((HD3.out.below.block g (cb_lt HBLK.out)).trans HBLK.out)
                  have HTH := Aside0.mk (show w3.there g (k * 3) 3 from fun j hj => by
                    refine ⟨?_, cb_frozen (i := k * 3 + j) HBK3.out⟩
                    have h3 : j = 0 ∨ j = 1 ∨ j = 2 := by omega
                    rcases h3 with rfl | rfl | rfl
                    · rw [Nat.add_zero, k0]; rfl
                    · rw [k1]; rfl
                    · rw [k2]; rfl)
                  have h1c : (#[Value.string kx, Value.string (⟨#[]⟩ : BA), Value.bool false] : Array Value).all (fun v => v.oneCell') = true := all_oneCell_toArray (cs := [Value.string kx, Value.string (⟨#[]⟩ : BA), Value.bool false]) (fun v hv => by simp at hv; rcases hv with rfl | rfl | rfl <;> rfl)
                  have hic : (Tryz.prog.info? 86).map (fun i => i.size) = some (#[Value.string kx, Value.string (⟨#[]⟩ : BA), Value.bool false] : Array Value).size := by
                    have : (Tryz.prog.info? 86).map (fun i => i.size) = some 3 := by kernel_rfl
                    exact this
                  have H1C := Aside0.mk h1c
                  have HIC := Aside0.mk hic
                  clear k0 k1 k2 h1c hic
                  go_wp2_with (refine wpList_store_mid rfl 86 (.tmp 54) (.tmp 53) rfl g (k * 3) #[.string kx, .string (⟨#[]⟩ : BA), .bool false] rfl rfl HTH.out HIC.out H1C.out ?_)
                  go_roundw
                  case rel =>
                    refine ⟨i + 1, by go_num, by omega, ⟨?_⟩, ⟨(((hb_then HB.out HD3.out.below).setCell hgb _).setCell hgb _).setCell hgb _⟩⟩
                    rw [HT.out, YS.out]
                    exact R_set_opt (Kd.R_below HO.out HD3.out.below) k (by rw [toO_length]; exact hkm) kx (⟨#[]⟩ : BA) false
                  case measure => simp [intOf]; omega
                · have hgt : lb kx < f[k].1 := by
                    rcases lt_total f[k].1 (lb kx) with e | e | e
                    · exact absurd e hlt2
                    · exact absurd e he2
                    · exact e
                  have HPOS := Aside0.mk (HPK.out k HK.out hk (fun _ => hgt))
                  have hne : (f[k].1 == lb kx) = false := by simpa using he2
                  rw [hne] at heq
                  clear HX hlt2 he2 HST HPK hgt hne
                  generalize (⟨f[k].1.toArray⟩ : BA) = x at *
                  go_wp2_with fail
                  go_quiet (fail)
                  obtain ⟨w2, hw2⟩ : ∃ w2, wr.drewN nq = w2 := ⟨_, rfl⟩
                  rw [hw2]
                  have HD2 := Aside0.mk (HD.step nq)
                  rw [hw2] at HD2
                  clear hw2 HD g0 g1 g2 k0 k1
                  have g0 := pw_cell_below HD2.out.below G0.out
                  have k0 := pw_cell_below HD2.out.below K0.out
                  go_wp2_with fail
                  go_quiet (fail)
                  obtain ⟨w3, hw3⟩ : ∃ w3, w2.drewN nq = w3 := ⟨_, rfl⟩
                  rw [hw3]
                  have HD3 := HD2.out.step nq
                  rw [hw3] at HD3
                  clear hw3 HD2 g0 k0
                  obtain ⟨w2, hw2⟩ : ∃ w2, w2 = w3 := ⟨_, rfl⟩
                  subst hw2
                  have HD2 := Aside0.mk HD3
                  clear HD3
                  have hb2 := (hb_then HB.out HD2.out.below)
                  have HB2 := Aside0.mk hb2
                  have g0 := pw_cell_below HD2.out.below G0.out
                  have g1 := pw_cell_below HD2.out.below G1.out
                  have g2 := pw_cell_below HD2.out.below G2.out
                  have hsz2 := hb2.size
                  clear HK
                  have hkc : k ≤ c3 := Nat.le_trans hk hle
                  have HOK := Aside0.mk (Kd.R_mono (ok' := fun j => j ≠ w2.heap.size) (Kd.R_bound (Kd.R_below HO.out HD2.out.below)) (fun j hj => by have := hj.2.2.1; omega))
                  have HDR := Aside0.mk (ko_drop (Kd.C_below HC3.out HD2.out.below) hkm)
                  clear hb2
                  go_wp2_with fail
                  refine start_ (n := 11) (S := fun w' => w'.cell? ⟨wo.heap.size, 0, none⟩ = some (.string kx) ∧ w'.cell? ⟨wo.heap.size, 1, none⟩ = some (.string (⟨#[]⟩ : BA)) ∧ w'.cell? ⟨wo.heap.size, 2, none⟩ = some (.bool false)) (ds := [4, 8, 9]) #[false, false, false, false, false, false, false, false, false, false, false] (by kernel_rfl) rfl rfl ⟨g0, g1, g2⟩ (fun hHeld => ?_)
                  refine pure_ (i := 0) (N := some 55) (v := ?_) (a' := ?_) #[true, false, false, false, false, false, false, false, false, false, false] rfl rfl (by kernel_rfl) (fun _ _ _ h => h) (Or.inl ⟨by rfl, ?_⟩) ?_ ?_
                  rotate_left
                  · intro w'
                    go_simp
                    with_reducible rfl
                  rotate_left
                  · simp only [Act.put, List.setIfInBounds_toArray, List.set_cons_zero, List.set_cons_succ, i64_w, i32_w]
                    rfl
                  refine pure_ (i := 1) (N := some 56) (v := ?_) (a' := ?_) #[true, true, false, false, false, false, false, false, false, false, false] rfl rfl (by kernel_rfl) (fun _ _ _ h => h) (Or.inl ⟨by rfl, ?_⟩) ?_ ?_
                  rotate_left
                  · intro w'
                    go_simp
                    with_reducible rfl
                  rotate_left
                  · simp only [Act.put, List.setIfInBounds_toArray, List.set_cons_zero, List.set_cons_succ, i64_w, i32_w]
                    rfl
                  refine pure_ (i := 2) (N := some 57) (v := ?_) (a' := ?_) #[true, true, true, false, false, false, false, false, false, false, false] rfl rfl (by kernel_rfl) (fun _ _ _ h => h) (Or.inl ⟨by rfl, ?_⟩) ?_ ?_
                  rotate_left
                  · intro w'
                    go_simp
                    with_reducible rfl
                  rotate_left
                  · simp only [Act.put, List.setIfInBounds_toArray, List.set_cons_zero, List.set_cons_succ, i64_w, i32_w]
                    rfl
                  refine pure_ (i := 5) (N := some 60) (v := ?_) (a' := ?_) #[true, true, true, false, false, true, false, false, false, false, false] rfl rfl (by kernel_rfl) (fun _ _ _ h => h) (Or.inl ⟨by rfl, ?_⟩) ?_ ?_
                  rotate_left
                  · intro w'
                    go_simp
                    with_reducible rfl
                  rotate_left
                  · simp only [Act.put, List.setIfInBounds_toArray, List.set_cons_zero, List.set_cons_succ, i64_w, i32_w]
                    rfl
                  refine pure_ (i := 6) (N := some 61) (v := ?_) (a' := ?_) #[true, true, true, false, false, true, true, false, false, false, false] rfl rfl (by kernel_rfl) (fun _ _ _ h => h) (Or.inl ⟨by rfl, ?_⟩) ?_ ?_
                  rotate_left
                  · intro w'
                    go_simp
                    with_reducible rfl
                  rotate_left
                  · simp only [Act.put, List.setIfInBounds_toArray, List.set_cons_zero, List.set_cons_succ, i64_w, i32_w]
                    rfl
                  refine pure_ (i := 7) (N := some 62) (v := ?_) (a' := ?_) #[true, true, true, false, false, true, true, true, false, false, false] rfl rfl (by kernel_rfl) (fun _ _ _ h => h) (Or.inl ⟨by rfl, ?_⟩) ?_ ?_
                  rotate_left
                  · intro w'
                    go_simp
                    with_reducible rfl
                  rotate_left
                  · simp only [Act.put, List.setIfInBounds_toArray, List.set_cons_zero, List.set_cons_succ, i64_w, i32_w]
                    rfl
                  refine take_ (i := 3) (N := some 58) (v := ?_) (a' := ?_) #[true, true, true, true, false, true, true, true, false, false, false] rfl rfl (by kernel_rfl) (fun _ _ _ h => h) (Or.inl ⟨by rfl, ?_⟩) hHeld ?_ ?_
                  rotate_left
                  · rintro w' ⟨s0, s1, s2⟩
                    go_simp
                    with_reducible rfl
                  rotate_left
                  · simp only [Act.put, List.setIfInBounds_toArray, List.set_cons_zero, List.set_cons_succ, i64_w, i32_w]
                    rfl
                  refine last_ (i := 4) (N := some 59) #[true, true, true, true, true, true, true, true, false, false, false] rfl rfl (by kernel_rfl) (by decide) (fun K hK => ?_)
                  refine value_ (w1 := ?_) (v := ?_) (by rfl) rfl ?_ ?_
                  rotate_left 2
                  · go_simp
                    constructor
                    · rfl
                    · rfl
                  refine hK.out _ _ ?_
                  clear hK K
                  refine norm_ (a' := ?_) ?_ ?_
                  rotate_left
                  · show Act.put _ (some 59) _ = _
                    simp only [Act.put, List.setIfInBounds_toArray, List.set_cons_zero, List.set_cons_succ, i64_w, i32_w]
                    rfl
                  refine last_ (i := 8) (N := some 63) #[true, true, true, true, true, true, true, true, true, false, false] rfl rfl (by kernel_rfl) (by decide) (fun K hK => ?_)
                  refine Kd.R_append_rows_step ko (w0 := w) w.heap.size rfl (.tmp 59) (.tmp 62) 40 86 (.agg #[.string ⟨#[]⟩, .string ⟨#[]⟩, .bool false]) 40 rfl Tryz.underlying40 info_sopt rfl (show 0 < 3 by decide) (by decide) (.slice (some ⟨w2.heap.size, 0, none⟩) 1 1) [(kx, (⟨#[]⟩ : BA), false)] ((toO f).drop k) _ (f.length - k) _ (fun _ => True) (fun _ => False) rfl rfl (Kd.R_drew (own_oneO w2 w.heap.size _ hsz2 _ trivial kx (⟨#[]⟩ : BA) false)) (ko_rows (Kd.C_drew (Kd.C_alloc HDR.out _))) (fun _ _ h => h) (fun _ h => h.elim) (fun _ _ => trivial) (below_drew (below_alloc HB2.out _)) (below_drew (below_alloc HB2.out _)).size (by simp only [List.length_singleton]; omega) ?_
                  intro v1 w5 ho hb hg hat
                  obtain ⟨A1, c1, rfl, hle1, hC1⟩ := Kd.R_reads ho
                  have HC1 := Aside0.mk hC1
                  have HB5 := Aside0.mk hb
                  have HV5 := Aside0.mk (Kd.R_take (Kd.R_grown (Kd.R_drew (Kd.R_alloc HOK.out _)) hg (fun j hj e => by injection e with e; exact hj e)) (by rw [toO_length]; omega))
                  have hl1 : ([(kx, (⟨#[]⟩ : BA), false)] ++ ((toO f).drop k)).length = 1 + (f.length - k) := by simp [toO_length]; omega
                  clear ho hb hg hat hC1 hle1
                  refine hK.out _ _ ?_
                  clear hK K
                  refine norm_ (a' := ?_) ?_ ?_
                  rotate_left
                  · show Act.put _ (some 63) _ = _
                    simp only [Act.put, List.setIfInBounds_toArray, List.set_cons_zero, List.set_cons_succ, i64_w, i32_w]
                    rfl
                  refine last_ (i := 9) (N := some 64) #[true, true, true, true, true, true, true, true, true, true, false] rfl rfl (by kernel_rfl) (by decide) (fun K hK => ?_)
                  refine Kd.R_append_rows_step ko (w0 := w) w.heap.size rfl (.tmp 57) (.tmp 63) 40 86 (.agg #[.string ⟨#[]⟩, .string ⟨#[]⟩, .bool false]) 40 rfl Tryz.underlying40 info_sopt rfl (show 0 < 3 by decide) (by decide) (.slice (some ⟨g, 0, none⟩) k c3) ((toO f).take k) _ _ _ _ (fun _ => True) (fun _ => False) rfl rfl (Kd.R_mono HV5.out (fun _ _ => trivial)) (ko_rows HC1.out) (fun _ _ h => h) (fun _ h => h.elim) (fun _ _ => trivial) HB5.out HB5.out.size (by rw [hl1]; simp only [List.length_take, List.length_nil]; omega) ?_
                  intro v2 w6 ho hb hg hat
                  have HO6 := Aside0.mk ho
                  have HB6 := Aside0.mk hb
                  clear ho hb hg hat
                  refine hK.out _ _ ?_
                  clear hK K
                  refine norm_ (a' := ?_) ?_ ?_
                  rotate_left
                  · show Act.put _ (some 64) _ = _
                    simp only [Act.put, List.setIfInBounds_toArray, List.set_cons_zero, List.set_cons_succ, i64_w, i32_w]
                    rfl
                  refine pure_ (i := 10) (N := some 3) (v := ?_) (a' := ?_) #[true, true, true, true, true, true, true, true, true, true, true] rfl rfl (by kernel_rfl) (fun _ _ _ h => h) (Or.inl ⟨by rfl, ?_⟩) ?_ ?_
                  rotate_left
                  · intro w'
                    go_simp
                    with_reducible rfl
                  rotate_left
                  · simp only [Act.put, List.setIfInBounds_toArray, List.set_cons_zero, List.set_cons_succ, i64_w, i32_w]
                    rfl
                  refine done_ (by kernel_rfl) ?_
                  go_wp2
                  go_roundw
                  case rel => exact ⟨i + 1, by go_num, by omega, ⟨by rw [HT.out, HPOS.out]; exact HO6.out⟩, HB6⟩
                  case measure => simp [intOf]; omega
            · obtain rfl : k = f.length := by omega
              have HPOS := Aside0.mk (HPK.out f.length HK.out (Nat.le_refl _) (fun h => absurd h (Nat.lt_irrefl _)))
              rw [show (toO f).drop f.length = [] by rw [← toO_length f]; exact List.drop_length] at HPOS
              clear HPK
              go_wp2_with fail
              go_quiet (fail)
              obtain ⟨w2, hw2⟩ : ∃ w2, wr.drewN nq = w2 := ⟨_, rfl⟩
              rw [hw2]
              have HD2 := HD.step nq
              rw [hw2] at HD2
              clear hw2 HD
              go_wp2_with fail
              go_quiet (fail)
              obtain ⟨w3, hw3⟩ : ∃ w3, w2.drewN nq = w3 := ⟨_, rfl⟩
              rw [hw3]
              have HD3 := HD2.step nq
              rw [hw3] at HD3
              clear hw3 HD2
              obtain ⟨w2, hw2⟩ : ∃ w2, w2 = w3 := ⟨_, rfl⟩
              subst hw2
              have HD2 := Aside0.mk HD3
              clear HD3 g0 g1 g2
              obtain ⟨k, hkk⟩ : ∃ k, k = f.length := ⟨_, rfl⟩
              by_cases hck : c3 = f.length
              · subst hck
                have hb2 := (hb_then HB.out HD2.out.below)
                have HB2 := Aside0.mk hb2
                have g0 := pw_cell_below HD2.out.below G0.out
                have g1 := pw_cell_below HD2.out.below G1.out
                have g2 := pw_cell_below HD2.out.below G2.out
                have hsz2 := hb2.size
                clear HK
                have HOK := Aside0.mk (Kd.R_mono (ok' := fun j => j ≠ w2.heap.size) (Kd.R_bound (Kd.R_below HO.out HD2.out.below)) (fun j hj => by have := hj.2.2.1; omega))
                clear hb2
                go_wp2_with fail
                refine start_ (n := 11) (S := fun w' => w'.cell? ⟨wo.heap.size, 0, none⟩ = some (.string kx) ∧ w'.cell? ⟨wo.heap.size, 1, none⟩ = some (.string (⟨#[]⟩ : BA)) ∧ w'.cell? ⟨wo.heap.size, 2, none⟩ = some (.bool false)) (ds := [4, 8, 9]) #[false, false, false, false, false, false, false, false, false, false, false] (by kernel_rfl) rfl rfl ⟨g0, g1, g2⟩ (fun hHeld => ?_)
                refine pure_ (i := 0) (N := some 55) (v := ?_) (a' := ?_) #[true, false, false, false, false, false, false, false, false, false, false] rfl rfl (by kernel_rfl) (fun _ _ _ h => h) (Or.inl ⟨by rfl, ?_⟩) ?_ ?_
                rotate_left
                · intro w'
                  go_simp
                  with_reducible rfl
                rotate_left
                · simp only [Act.put, List.setIfInBounds_toArray, List.set_cons_zero, List.set_cons_succ, i64_w, i32_w]
                  rfl
                refine pure_ (i := 1) (N := some 56) (v := ?_) (a' := ?_) #[true, true, false, false, false, false, false, false, false, false, false] rfl rfl (by kernel_rfl) (fun _ _ _ h => h) (Or.inl ⟨by rfl, ?_⟩) ?_ ?_
                rotate_left
                · intro w'
                  go_simp
                  with_reducible rfl
                rotate_left
                · simp only [Act.put, List.setIfInBounds_toArray, List.set_cons_zero, List.set_cons_succ, i64_w, i32_w]
                  rfl
                refine pure_ (i := 2) (N := some 57) (v := ?_) (a' := ?_) #[true, true, true, false, false, false, false, false, false, false, false] rfl rfl (by kernel_rfl) (fun _ _ _ h => h) (Or.inl ⟨by rfl, ?_⟩) ?_ ?_
                rotate_left
                · intro w'
                  go_simp
                  with_reducible rfl
                rotate_left
                · simp only [Act.put, List.setIfInBounds_toArray, List.set_cons_zero, List.set_cons_succ, i64_w, i32_w]
                  rfl
                refine pure_ (i := 5) (N := some 60) (v := ?_) (a' := ?_) #[true, true, true, false, false, true, false, false, false, false, false] rfl rfl (by kernel_rfl) (fun _ _ _ h => h) (Or.inl ⟨by rfl, ?_⟩) ?_ ?_
                rotate_left
                · intro w'
                  go_simp
                  with_reducible rfl
                rotate_left
                · simp only [Act.put, List.setIfInBounds_toArray, List.set_cons_zero, List.set_cons_succ, i64_w, i32_w]
                  rfl
                refine pure_ (i := 6) (N := some 61) (v := ?_) (a' := ?_) #[true, true, true, false, false, true, true, false, false, false, false] rfl rfl (by kernel_rfl) (fun _ _ _ h => h) (Or.inl ⟨by rfl, ?_⟩) ?_ ?_
                rotate_left
                · intro w'
                  go_simp
                  with_reducible rfl
                rotate_left
                · simp only [Act.put, List.setIfInBounds_toArray, List.set_cons_zero, List.set_cons_succ, i64_w, i32_w]
                  rfl
                refine pure_ (i := 7) (N := some 62) (v := ?_) (a' := ?_) #[true, true, true, false, false, true, true, true, false, false, false] rfl rfl (by kernel_rfl) (fun _ _ _ h => h) (Or.inl ⟨by rfl, ?_⟩) ?_ ?_
                rotate_left
                · intro w'
                  go_simp
                  with_reducible rfl
                rotate_left
                · simp only [Act.put, List.setIfInBounds_toArray, List.set_cons_zero, List.set_cons_succ, i64_w, i32_w]
                  rfl
                refine take_ (i := 3) (N := some 58) (v := ?_) (a' := ?_) #[true, true, true, true, false, true, true, true, false, false, false] rfl rfl (by kernel_rfl) (fun _ _ _ h => h) (Or.inl ⟨by rfl, ?_⟩) hHeld ?_ ?_
                rotate_left
                · rintro w' ⟨s0, s1, s2⟩
                  go_simp
                  with_reducible rfl
                rotate_left
                · simp only [Act.put, List.setIfInBounds_toArray, List.set_cons_zero, List.set_cons_succ, i64_w, i32_w]
                  rfl
                refine last_ (i := 4) (N := some 59) #[true, true, true, true, true, true, true, true, false, false, false] rfl rfl (by kernel_rfl) (by decide) (fun K hK => ?_)
                refine value_ (w1 := ?_) (v := ?_) (by rfl) rfl ?_ ?_
                rotate_left 2
                · go_simp
                  constructor
                  · rfl
                  · rfl
                refine hK.out _ _ ?_
                clear hK K
                refine norm_ (a' := ?_) ?_ ?_
                rotate_left
                · show Act.put _ (some 59) _ = _
                  simp only [Act.put, List.setIfInBounds_toArray, List.set_cons_zero, List.set_cons_succ, i64_w, i32_w]
                  rfl
                refine last_ (i := 8) (N := some 63) #[true, true, true, true, true, true, true, true, true, false, false] rfl rfl (by kernel_rfl) (by decide) (fun K hK => ?_)
                refine Kd.R_append_rows_step ko (w0 := w) w.heap.size rfl (.tmp 59) (.tmp 62) 40 86 (.agg #[.string ⟨#[]⟩, .string ⟨#[]⟩, .bool false]) 40 rfl Tryz.underlying40 info_sopt rfl (show 0 < 3 by decide) (by decide) (.slice (some ⟨w2.heap.size, 0, none⟩) 1 1) [(kx, (⟨#[]⟩ : BA), false)] ([] : List KO) _ 0 _ (fun _ => True) (fun _ => False) rfl rfl (Kd.R_drew (own_oneO w2 w.heap.size _ hsz2 _ trivial kx (⟨#[]⟩ : BA) false)) (ko_rows (ko_none _ _)) (fun _ _ h => h) (fun _ h => h.elim) (fun _ _ => trivial) (below_drew (below_alloc HB2.out _)) (below_drew (below_alloc HB2.out _)).size (by simp only [List.length_singleton]; omega) ?_
                intro v1 w5 ho hb hg hat
                obtain ⟨A1, c1, rfl, hle1, hC1⟩ := Kd.R_reads ho
                have HC1 := Aside0.mk hC1
                have HB5 := Aside0.mk hb
                have HV5 := Aside0.mk (Kd.R_take (Kd.R_grown (Kd.R_drew (Kd.R_alloc HOK.out _)) hg (fun j hj e => by injection e with e; exact hj e)) (by rw [toO_length]; omega))
                have hl1 : ([(kx, (⟨#[]⟩ : BA), false)] ++ ([] : List KO)).length = 1 + 0 := rfl
                clear ho hb hg hat hC1 hle1
                refine hK.out _ _ ?_
                clear hK K
                refine norm_ (a' := ?_) ?_ ?_
                rotate_left
                · show Act.put _ (some 63) _ = _
                  simp only [Act.put, List.setIfInBounds_toArray, List.set_cons_zero, List.set_cons_succ, i64_w, i32_w]
                  rfl
                refine last_ (i := 9) (N := some 64) #[true, true, true, true, true, true, true, true, true, true, false] rfl rfl (by kernel_rfl) (by decide) (fun K hK => ?_)
                refine Kd.R_append_rows_step ko (w0 := w) w.heap.size rfl (.tmp 57) (.tmp 63) 40 86 (.agg #[.string ⟨#[]⟩, .string ⟨#[]⟩, .bool false]) 40 rfl Tryz.underlying40 info_sopt rfl (show 0 < 3 by decide) (by decide) (.slice (some ⟨g, 0, none⟩) f.length f.length) ((toO f).take f.length) _ _ _ _ (fun _ => True) (fun _ => False) rfl rfl (Kd.R_mono HV5.out (fun _ _ => trivial)) (ko_rows HC1.out) (fun _ _ h => h) (fun _ h => h.elim) (fun _ _ => trivial) HB5.out HB5.out.size (by rw [hl1]; simp only [List.length_take, List.length_nil]; omega) ?_
                intro v2 w6 ho hb hg hat
                have HO6 := Aside0.mk ho
                have HB6 := Aside0.mk hb
                clear ho hb hg hat
                refine hK.out _ _ ?_
                clear hK K
                refine norm_ (a' := ?_) ?_ ?_
                rotate_left
                · show Act.put _ (some 64) _ = _
                  simp only [Act.put, List.setIfInBounds_toArray, List.set_cons_zero, List.set_cons_succ, i64_w, i32_w]
                  rfl
                refine pure_ (i := 10) (N := some 3) (v := ?_) (a' := ?_) #[true, true, true, true, true, true, true, true, true, true, true] rfl rfl (by kernel_rfl) (fun _ _ _ h => h) (Or.inl ⟨by rfl, ?_⟩) ?_ ?_
                rotate_left
                · intro w'
                  go_simp
                  with_reducible rfl
                rotate_left
                · simp only [Act.put, List.setIfInBounds_toArray, List.set_cons_zero, List.set_cons_succ, i64_w, i32_w]
                  rfl
                refine done_ (by kernel_rfl) ?_
                go_wp2
                go_roundw
                case rel => exact ⟨i + 1, by go_num, by omega, ⟨by rw [HT.out, HPOS.out]; exact HO6.out⟩, HB6⟩
                case measure => simp [intOf]; omega
              · skip
                have hb2 := (hb_then HB.out HD2.out.below)
                have HB2 := Aside0.mk hb2
                have g0 := pw_cell_below HD2.out.below G0.out
                have g1 := pw_cell_below HD2.out.below G1.out
                have g2 := pw_cell_below HD2.out.below G2.out
                have hsz2 := hb2.size
                clear HK
                have HOK := Aside0.mk (Kd.R_mono (ok' := fun j => j ≠ w2.heap.size) (Kd.R_bound (Kd.R_below HO.out HD2.out.below)) (fun j hj => by have := hj.2.2.1; omega))
                clear hb2
                go_wp2_with fail
                refine start_ (n := 11) (S := fun w' => w'.cell? ⟨wo.heap.size, 0, none⟩ = some (.string kx) ∧ w'.cell? ⟨wo.heap.size, 1, none⟩ = some (.string (⟨#[]⟩ : BA)) ∧ w'.cell? ⟨wo.heap.size, 2, none⟩ = some (.bool false)) (ds := [4, 8, 9]) #[false, false, false, false, false, false, false, false, false, false, false] (by kernel_rfl) rfl rfl ⟨g0, g1, g2⟩ (fun hHeld => ?_)
                refine pure_ (i := 0) (N := some 55) (v := ?_) (a' := ?_) #[true, false, false, false, false, false, false, false, false, false, false] rfl rfl (by kernel_rfl) (fun _ _ _ h => h) (Or.inl ⟨by rfl, ?_⟩) ?_ ?_
                rotate_left
                · intro w'
                  go_simp
                  with_reducible rfl
                rotate_left
                · simp only [Act.put, List.setIfInBounds_toArray, List.set_cons_zero, List.set_cons_succ, i64_w, i32_w]
                  rfl
                refine pure_ (i := 1) (N := some 56) (v := ?_) (a' := ?_) #[true, true, false, false, false, false, false, false, false, false, false] rfl rfl (by kernel_rfl) (fun _ _ _ h => h) (Or.inl ⟨by rfl, ?_⟩) ?_ ?_
                rotate_left
                · intro w'
                  go_simp
                  with_reducible rfl
                rotate_left
                · simp only [Act.put, List.setIfInBounds_toArray, List.set_cons_zero, List.set_cons_succ, i64_w, i32_w]
                  rfl
                refine pure_ (i := 2) (N := some 57) (v := ?_) (a' := ?_) #[true, true, true, false, false, false, false, false, false, false, false] rfl rfl (by kernel_rfl) (fun _ _ _ h => h) (Or.inl ⟨by rfl, ?_⟩) ?_ ?_
                rotate_left
                · intro w'
                  go_simp
                  with_reducible rfl
                rotate_left
                · simp only [Act.put, List.setIfInBounds_toArray, List.set_cons_zero, List.set_cons_succ, i64_w, i32_w]
                  rfl
                refine pure_ (i := 5) (N := some 60) (v := ?_) (a' := ?_) #[true, true, true, false, false, true, false, false, false, false, false] rfl rfl (by kernel_rfl) (fun _ _ _ h => h) (Or.inl ⟨by rfl, ?_⟩) ?_ ?_
                rotate_left
                · intro w'
                  go_simp
                  with_reducible rfl
                rotate_left
                · simp only [Act.put, List.setIfInBounds_toArray, List.set_cons_zero, List.set_cons_succ, i64_w, i32_w]
                  rfl
                refine pure_ (i := 6) (N := some 61) (v := ?_) (a' := ?_) #[true, true, true, false, false, true, true, false, false, false, false] rfl rfl (by kernel_rfl) (fun _ _ _ h => h) (Or.inl ⟨by rfl, ?_⟩) ?_ ?_
                rotate_left
                · intro w'
                  go_simp
                  with_reducible rfl
                rotate_left
                · simp only [Act.put, List.setIfInBounds_toArray, List.set_cons_zero, List.set_cons_succ, i64_w, i32_w]
                  rfl
                refine pure_ (i := 7) (N := some 62) (v := ?_) (a' := ?_) #[true, true, true, false, false, true, true, true, false, false, false] rfl rfl (by kernel_rfl) (fun _ _ _ h => h) (Or.inl ⟨by rfl, ?_⟩) ?_ ?_
                rotate_left
                · intro w'
                  go_simp
                  with_reducible rfl
                rotate_left
                · simp only [Act.put, List.setIfInBounds_toArray, List.set_cons_zero, List.set_cons_succ, i64_w, i32_w]
                  rfl
                refine take_ (i := 3) (N := some 58) (v := ?_) (a' := ?_) #[true, true, true, true, false, true, true, true, false, false, false] rfl rfl (by kernel_rfl) (fun _ _ _ h => h) (Or.inl ⟨by rfl, ?_⟩) hHeld ?_ ?_
                rotate_left
                · rintro w' ⟨s0, s1, s2⟩
                  go_simp
                  with_reducible rfl
                rotate_left
                · simp only [Act.put, List.setIfInBounds_toArray, List.set_cons_zero, List.set_cons_succ, i64_w, i32_w]
                  rfl
                refine last_ (i := 4) (N := some 59) #[true, true, true, true, true, true, true, true, false, false, false] rfl rfl (by kernel_rfl) (by decide) (fun K hK => ?_)
                refine value_ (w1 := ?_) (v := ?_) (by rfl) rfl ?_ ?_
                rotate_left 2
                · go_simp
                  constructor
                  · rfl
                  · rfl
                refine hK.out _ _ ?_
                clear hK K
                refine norm_ (a' := ?_) ?_ ?_
                rotate_left
                · show Act.put _ (some 59) _ = _
                  simp only [Act.put, List.setIfInBounds_toArray, List.set_cons_zero, List.set_cons_succ, i64_w, i32_w]
                  rfl
                refine last_ (i := 8) (N := some 63) #[true, true, true, true, true, true, true, true, true, false, false] rfl rfl (by kernel_rfl) (by decide) (fun K hK => ?_)
                refine Kd.R_append_rows_step ko (w0 := w) w.heap.size rfl (.tmp 59) (.tmp 62) 40 86 (.agg #[.string ⟨#[]⟩, .string ⟨#[]⟩, .bool false]) 40 rfl Tryz.underlying40 info_sopt rfl (show 0 < 3 by decide) (by decide) (.slice (some ⟨w2.heap.size, 0, none⟩) 1 1) [(kx, (⟨#[]⟩ : BA), false)] ([] : List KO) _ 0 _ (fun _ => True) (fun _ => False) rfl rfl (Kd.R_drew (own_oneO w2 w.heap.size _ hsz2 _ trivial kx (⟨#[]⟩ : BA) false)) (ko_rows (ko_none _ _)) (fun _ _ h => h) (fun _ h => h.elim) (fun _ _ => trivial) (below_drew (below_alloc HB2.out _)) (below_drew (below_alloc HB2.out _)).size (by simp only [List.length_singleton]; omega) ?_
                intro v1 w5 ho hb hg hat
                obtain ⟨A1, c1, rfl, hle1, hC1⟩ := Kd.R_reads ho
                have HC1 := Aside0.mk hC1
                have HB5 := Aside0.mk hb
                have HV5 := Aside0.mk (Kd.R_take (Kd.R_grown (Kd.R_drew (Kd.R_alloc HOK.out _)) hg (fun j hj e => by injection e with e; exact hj e)) (by rw [toO_length]; omega))
                have hl1 : ([(kx, (⟨#[]⟩ : BA), false)] ++ ([] : List KO)).length = 1 + 0 := rfl
                clear ho hb hg hat hC1 hle1
                refine hK.out _ _ ?_
                clear hK K
                refine norm_ (a' := ?_) ?_ ?_
                rotate_left
                · show Act.put _ (some 63) _ = _
                  simp only [Act.put, List.setIfInBounds_toArray, List.set_cons_zero, List.set_cons_succ, i64_w, i32_w]
                  rfl
                refine last_ (i := 9) (N := some 64) #[true, true, true, true, true, true, true, true, true, true, false] rfl rfl (by kernel_rfl) (by decide) (fun K hK => ?_)
                refine Kd.R_append_rows_step ko (w0 := w) w.heap.size rfl (.tmp 57) (.tmp 63) 40 86 (.agg #[.string ⟨#[]⟩, .string ⟨#[]⟩, .bool false]) 40 rfl Tryz.underlying40 info_sopt rfl (show 0 < 3 by decide) (by decide) (.slice (some ⟨g, 0, none⟩) f.length c3) ((toO f).take f.length) _ _ _ _ (fun _ => True) (fun _ => False) rfl rfl (Kd.R_mono HV5.out (fun _ _ => trivial)) (ko_rows HC1.out) (fun _ _ h => h) (fun _ h => h.elim) (fun _ _ => trivial) HB5.out HB5.out.size (by rw [hl1]; simp only [List.length_take, List.length_nil]; omega) ?_
                intro v2 w6 ho hb hg hat
                have HO6 := Aside0.mk ho
                have HB6 := Aside0.mk hb
                clear ho hb hg hat
                refine hK.out _ _ ?_
                clear hK K
                refine norm_ (a' := ?_) ?_ ?_
                rotate_left
                · show Act.put _ (some 64) _ = _
                  simp only [Act.put, List.setIfInBounds_toArray, List.set_cons_zero, List.set_cons_succ, i64_w, i32_w]
                  rfl
                refine pure_ (i := 10) (N := some 3) (v := ?_) (a' := ?_) #[true, true, true, true, true, true, true, true, true, true, true] rfl rfl (by kernel_rfl) (fun _ _ _ h => h) (Or.inl ⟨by rfl, ?_⟩) ?_ ?_
                rotate_left
                · intro w'
                  go_simp
                  with_reducible rfl
                rotate_left
                · simp only [Act.put, List.setIfInBounds_toArray, List.set_cons_zero, List.set_cons_succ, i64_w, i32_w]
                  rfl
                refine done_ (by kernel_rfl) ?_
                go_wp2
                go_roundw
                case rel => exact ⟨i + 1, by go_num, by omega, ⟨by rw [HT.out, HPOS.out]; exact HO6.out⟩, HB6⟩
                case measure => simp [intOf]; omega
      · replace HT : Aside0 (fitM (ofO (l.take (i + 1))) = mput f (lb kx) (some vx)) := HT
        have HPK := Aside0.mk (fun (k : Nat) (h1 : ∀ (j : Nat) (hj : j < f.length), j < k → f[j].1 < lb kx) (h2 : k ≤ f.length) (h3 : ∀ h : k < f.length, lb kx < f[k].1) => (show toO (mput f (lb kx) (some vx)) = (toO f).take k ++ ([(kx, vx, true)] ++ (toO f).drop k) by
          rw [mput_ins k HRS.out h1 h2 h3, toO_append, toO_take]
          have : toO ((lb kx, (some vx)) :: f.drop k) = [(kx, vx, true)] ++ (toO f).drop k := by
            rw [← toO_drop]
            simp [toO, lb]
          rw [this]))
        have hbx := (Below.refl wo.heap.size wo).alloc (Nat.le_refl _) (.cells #[.string kx, .string vx, .bool true] 86)
        replace HO := Aside0.mk (Kd.R_below HO.out hbx)
        replace HB := Aside0.mk (hb_then HB.out hbx)
        have G0 := Aside0.mk (show (wo.alloc (.cells #[.string kx, .string vx, .bool true] 86)).cell? ⟨wo.heap.size, 0, none⟩ = some (.string kx) from cb_cell (i := 0) (cb_new _ _) rfl)
        have G1 := Aside0.mk (show (wo.alloc (.cells #[.string kx, .string vx, .bool true] 86)).cell? ⟨wo.heap.size, 1, none⟩ = some (.string vx) from cb_cell (i := 1) (cb_new _ _) rfl)
        have G2 := Aside0.mk (show (wo.alloc (.cells #[.string kx, .string vx, .bool true] 86)).cell? ⟨wo.heap.size, 2, none⟩ = some (.bool true) from cb_cell (i := 2) (cb_new _ _) rfl)
        clear hbx
        rcases (R_flat.1 HO.out).2.2 with ⟨hv, h0⟩ | ⟨g, c3, cur, hv, hgb, hblk, hle, hcap, hcsz, htk⟩
        · -- nothing is there yet
          subst hv
          rw [toO_length] at h0
          obtain rfl := List.eq_nil_of_length_eq_zero h0
          have HPOS := Aside0.mk (HPK.out 0 (fun j hj => by simp at hj) (Nat.zero_le _) (fun h => by simp at h))
          clear HPK h0
          go_wp2
          go_loopw [6] (fun v5 wq => v5 = .int .i64 0 ∧ Drawn0 (wo.alloc (.cells #[.string kx, .string vx, .bool true] 86)) wq) (fun v5 _ => 0)
          case atStart => exact ⟨rfl, Drawn0.refl _⟩
          case round =>
            obtain ⟨rfl, HD⟩ := hrel
            go_wp2_with fail
            go_quiet (fail)
            obtain ⟨w2, hw2⟩ : ∃ w2, wr.drewN nq = w2 := ⟨_, rfl⟩
            rw [hw2]
            have HD2 := HD.step nq
            rw [hw2] at HD2
            clear hw2 HD
            go_wp2_with fail
            go_quiet (fail)
            obtain ⟨w3, hw3⟩ : ∃ w3, w2.drewN nq = w3 := ⟨_, rfl⟩
            rw [hw3]
            have HD3 := HD2.step nq
            rw [hw3] at HD3
            clear hw3 HD2
            obtain ⟨w2, hw2⟩ : ∃ w2, w2 = w3 := ⟨_, rfl⟩
            subst hw2
            have HD2 := Aside0.mk HD3
            clear HD3
            have hb2 := (hb_then HB.out HD2.out.below)
            have HB2 := Aside0.mk hb2
            have g0 := pw_cell_below HD2.out.below G0.out
            have g1 := pw_cell_below HD2.out.below G1.out
            have g2 := pw_cell_below HD2.out.below G2.out
            have hsz2 := hb2.size
            clear hb2
            go_wp2_with fail
            refine start_ (n := 11) (S := fun w' => w'.cell? ⟨wo.heap.size, 0, none⟩ = some (.string kx) ∧ w'.cell? ⟨wo.heap.size, 1, none⟩ = some (.string vx) ∧ w'.cell? ⟨wo.heap.size, 2, none⟩ = some (.bool true)) (ds := [4, 8, 9]) #[false, false, false, false, false, false, false, false, false, false, false] (by kernel_rfl) rfl rfl ⟨g0, g1, g2⟩ (fun hHeld => ?_)
            refine pure_ (i := 0) (N := some 55) (v := ?_) (a' := ?_) #[true, false, false, false, false, false, false, false, false, false, false] rfl rfl (by kernel_rfl) (fun _ _ _ h => h) (Or.inl ⟨by rfl, ?_⟩) ?_ ?_
            rotate_left
            · intro w'
              go_simp
              with_reducible rfl
            rotate_left
            · simp only [Act.put, List.setIfInBounds_toArray, List.set_cons_zero, List.set_cons_succ, i64_w, i32_w]
              rfl
            refine pure_ (i := 1) (N := some 56) (v := ?_) (a' := ?_) #[true, true, false, false, false, false, false, false, false, false, false] rfl rfl (by kernel_rfl) (fun _ _ _ h => h) (Or.inl ⟨by rfl, ?_⟩) ?_ ?_
            rotate_left
            · intro w'
              go_simp
              with_reducible rfl
            rotate_left
            · simp only [Act.put, List.setIfInBounds_toArray, List.set_cons_zero, List.set_cons_succ, i64_w, i32_w]
              rfl
            refine pure_ (i := 2) (N := some 57) (v := ?_) (a' := ?_) #[true, true, true, false, false, false, false, false, false, false, false] rfl rfl (by kernel_rfl) (fun _ _ _ h => h) (Or.inl ⟨by rfl, ?_⟩) ?_ ?_
            rotate_left
            · intro w'
              go_simp
              with_reducible rfl
            rotate_left
            · simp only [Act.put, List.setIfInBounds_toArray, List.set_cons_zero, List.set_cons_succ, i64_w, i32_w]
              rfl
            refine pure_ (i := 5) (N := some 60) (v := ?_) (a' := ?_) #[true, true, true, false, false, true, false, false, false, false, false] rfl rfl (by kernel_rfl) (fun _ _ _ h => h) (Or.inl ⟨by rfl, ?_⟩) ?_ ?_
            rotate_left
            · intro w'
              go_simp
              with_reducible rfl
            rotate_left
            · simp only [Act.put, List.setIfInBounds_toArray, List.set_cons_zero, List.set_cons_succ, i64_w, i32_w]
              rfl
            refine pure_ (i := 6) (N := some 61) (v := ?_) (a' := ?_) #[true, true, true, false, false, true, true, false, false, false, false] rfl rfl (by kernel_rfl) (fun _ _ _ h => h) (Or.inl ⟨by rfl, ?_⟩) ?_ ?_
            rotate_left
            · intro w'
              go_simp
              with_reducible rfl
            rotate_left
            · simp only [Act.put, List.setIfInBounds_toArray, List.set_cons_zero, List.set_cons_succ, i64_w, i32_w]
              rfl
            refine pure_ (i := 7) (N := some 62) (v := ?_) (a' := ?_) #[true, true, true, false, false, true, true, true, false, false, false] rfl rfl (by kernel_rfl) (fun _ _ _ h => h) (Or.inl ⟨by rfl, ?_⟩) ?_ ?_
            rotate_left
            · intro w'
              go_simp
              with_reducible rfl
            rotate_left
            · simp only [Act.put, List.setIfInBounds_toArray, List.set_cons_zero, List.set_cons_succ, i64_w, i32_w]
              rfl
            refine take_ (i := 3) (N := some 58) (v := ?_) (a' := ?_) #[true, true, true, true, false, true, true, true, false, false, false] rfl rfl (by kernel_rfl) (fun _ _ _ h => h) (Or.inl ⟨by rfl, ?_⟩) hHeld ?_ ?_
            rotate_left
            · rintro w' ⟨s0, s1, s2⟩
              go_simp
              with_reducible rfl
            rotate_left
            · simp only [Act.put, List.setIfInBounds_toArray, List.set_cons_zero, List.set_cons_succ, i64_w, i32_w]
              rfl
            refine last_ (i := 4) (N := some 59) #[true, true, true, true, true, true, true, true, false, false, false] rfl rfl (by kernel_rfl) (by decide) (fun K hK => ?_)
            refine value_ (w1 := ?_) (v := ?_) (by rfl) rfl ?_ ?_
            rotate_left 2
            · go_simp
              constructor
              · rfl
              · rfl
            refine hK.out _ _ ?_
            clear hK K
            refine norm_ (a' := ?_) ?_ ?_
            rotate_left
            · show Act.put _ (some 59) _ = _
              simp only [Act.put, List.setIfInBounds_toArray, List.set_cons_zero, List.set_cons_succ, i64_w, i32_w]
              rfl
            refine last_ (i := 8) (N := some 63) #[true, true, true, true, true, true, true, true, true, false, false] rfl rfl (by kernel_rfl) (by decide) (fun K hK => ?_)
            refine Kd.R_append_rows_step ko (w0 := w) w.heap.size rfl (.tmp 59) (.tmp 62) 40 86 (.agg #[.string ⟨#[]⟩, .string ⟨#[]⟩, .bool false]) 40 rfl Tryz.underlying40 info_sopt rfl (show 0 < 3 by decide) (by decide) (.slice (some ⟨w2.heap.size, 0, none⟩) 1 1) [(kx, vx, true)] ([] : List KO) _ 0 _ (fun _ => True) (fun _ => False) rfl rfl (Kd.R_drew (own_oneO w2 w.heap.size _ hsz2 _ trivial kx vx true)) (ko_rows (ko_none _ _)) (fun _ _ h => h) (fun _ h => h.elim) (fun _ _ => trivial) (below_drew (below_alloc HB2.out _)) (below_drew (below_alloc HB2.out _)).size (by simp only [List.length_singleton]; omega) ?_
            intro v1 w5 ho hb hg hat
            obtain ⟨A1, c1, rfl, hle1, hC1⟩ := Kd.R_reads ho
            have HC1 := Aside0.mk hC1
            have HB5 := Aside0.mk hb
            have HV5 := Aside0.mk (show True from trivial)
            have hl1 : ([(kx, vx, true)] ++ ([] : List KO)).length = 1 + 0 := rfl
            clear ho hb hg hat hC1 hle1
            refine hK.out _ _ ?_
            clear hK K
            refine norm_ (a' := ?_) ?_ ?_
            rotate_left
            · show Act.put _ (some 63) _ = _
              simp only [Act.put, List.setIfInBounds_toArray, List.set_cons_zero, List.set_cons_succ, i64_w, i32_w]
              rfl
            refine last_ (i := 9) (N := some 64) #[true, true, true, true, true, true, true, true, true, true, false] rfl rfl (by kernel_rfl) (by decide) (fun K hK => ?_)
            refine Kd.R_append_rows_step ko (w0 := w) w.heap.size rfl (.tmp 57) (.tmp 63) 40 86 (.agg #[.string ⟨#[]⟩, .string ⟨#[]⟩, .bool false]) 40 rfl Tryz.underlying40 info_sopt rfl (show 0 < 3 by decide) (by decide) (.slice none 0 0) ([] : List KO) _ _ _ _ (fun _ => True) (fun _ => False) rfl rfl (Kd.R_nil _ _ _ _ _) (ko_rows HC1.out) (fun _ _ h => h) (fun _ h => h.elim) (fun _ _ => trivial) HB5.out HB5.out.size (by rw [hl1]; simp only [List.length_take, List.length_nil]; omega) ?_
            intro v2 w6 ho hb hg hat
            have HO6 := Aside0.mk ho
            have HB6 := Aside0.mk hb
            clear ho hb hg hat
            refine hK.out _ _ ?_
            clear hK K
            refine norm_ (a' := ?_) ?_ ?_
            rotate_left
            · show Act.put _ (some 64) _ = _
              simp only [Act.put, List.setIfInBounds_toArray, List.set_cons_zero, List.set_cons_succ, i64_w, i32_w]
              rfl
            refine pure_ (i := 10) (N := some 3) (v := ?_) (a' := ?_) #[true, true, true, true, true, true, true, true, true, true, true] rfl rfl (by kernel_rfl) (fun _ _ _ h => h) (Or.inl ⟨by rfl, ?_⟩) ?_ ?_
            rotate_left
            · intro w'
              go_simp
              with_reducible rfl
            rotate_left
            · simp only [Act.put, List.setIfInBounds_toArray, List.set_cons_zero, List.set_cons_succ, i64_w, i32_w]
              rfl
            refine done_ (by kernel_rfl) ?_
            go_wp2
            go_roundw
            case rel => exact ⟨i + 1, by go_num, by omega, ⟨by rw [HT.out, HPOS.out]; exact HO6.out⟩, HB6⟩
            case measure => simp [intOf]; omega
        · -- a row that is there
          subst hv
          rw [toO_length] at HO hle ⊢
          have HC3 := Aside0.mk (Kd.R_reads' HO.out).2.2
          rw [toO_length] at HC3
          have HBLK := Aside0.mk hblk
          clear hblk hcsz htk hcap
          go_wp2
          go_loopw [6] (fun v5 wq => ∃ k : Nat, v5 = .int .i64 k ∧ k ≤ f.length ∧ Aside0 (∀ (j : Nat) (hj : j < f.length), j < k → f[j].1 < lb kx) ∧ Drawn0 (wo.alloc (.cells #[.string kx, .string vx, .bool true] 86)) wq) (fun v5 _ => f.length - (intOf v5).toNat)
          case atStart => exact ⟨0, rfl, by omega, ⟨fun j _ h => absurd h (Nat.not_lt_zero _)⟩, Drawn0.refl _⟩
          case round =>
            obtain ⟨k, rfl, hk, HK, HD⟩ := hrel
            have g0 := pw_cell_below HD.below G0.out
            have g1 := pw_cell_below HD.below G1.out
            have g2 := pw_cell_below HD.below G2.out
            have q2 : (0 : Int) ≤ (k : Int) := by omega
            by_cases hkm : k < f.length
            · have q3 : (k : Int) < (f.length : Int) := by omega
              have hck : ¬ c3 = k := by omega
              obtain ⟨g', o', hA, hgl, hcell⟩ := ko_open (by rw [← toO_length f] at HC3; exact HC3.out) (by rw [toO_length]; omega)
              injection hA with hA
              injection hA with e1 e2
              subst e1 e2
              obtain ⟨k0, k1, k2⟩ := hcell k (by rw [toO_length]; exact hkm)
              rw [toO_get f k hkm] at k0 k1 k2
              rw [Nat.zero_add] at k0 k1 k2
              have K0 := Aside0.mk k0
              have K1 := Aside0.mk k1
              have K2 := Aside0.mk k2
              clear k0 k1 k2 hcell
              have k0 := pw_cell_below HD.below K0.out
              have k1 := pw_cell_below HD.below K1.out
              have hless : Op.bytesLess (⟨f[k].1.toArray⟩ : BA).toList kx.toList = decide (f[k].1 < lb kx) := by
                rw [bytesLess_eq, toList_lb, toList_lb, lb_mk]
              have heq : ((⟨f[k].1.toArray⟩ : BA).toList == kx.toList) = (f[k].1 == lb kx) := by rw [toList_lb, toList_lb, lb_mk]
              have HX := Aside0.mk (show f[k].1 < lb kx → ∀ (j : Nat) (hj : j < f.length), j < k + 1 → f[j].1 < lb kx from fun h j hj hjk => by
                by_cases hjk' : j < k
                · exact HK.out j hj hjk'
                · have : j = k := by omega
                  subst this; exact h)
              have HST := Aside0.mk (show f[k].1 = lb kx → toO (mput f (lb kx) (some vx)) = (toO f).set k (kx, vx, true) from fun h => by
                rw [mput_set k HRS.out HK.out hkm h, toO_set]
                simp [lb])
              by_cases hlt2 : f[k].1 < lb kx
              · rw [decide_eq_true hlt2] at hless
                have Y := Aside0.mk (HX.out hlt2)
                clear heq HX hlt2 HST HPK
                generalize (⟨f[k].1.toArray⟩ : BA) = x at *
                go_wp2_with fail
                go_quiet (fail)
                go_wp2
                go_roundw
                case rel => exact ⟨k + 1, by go_num, by omega, Y, HD.step nq⟩
                case measure => simp [intOf]; omega
              · rw [decide_eq_false hlt2] at hless
                by_cases he2 : f[k].1 = lb kx
                · have YS := Aside0.mk (HST.out he2)
                  have he3 := he2
                  clear HX hlt2 he2 HST HPK
                  have hxk : (⟨f[k].1.toArray⟩ : BA) = kx := by (rw [he3]; first | done | (cases kx; simp [lb]))
                  rw [hxk] at k0 K0 hless heq
                  clear hxk he3 heq
                  go_wp2_with fail
                  go_quiet (fail)
                  obtain ⟨w2, hw2⟩ : ∃ w2, wr.drewN nq = w2 := ⟨_, rfl⟩
                  rw [hw2]
                  have HD2 := Aside0.mk (HD.step nq)
                  rw [hw2] at HD2
                  clear hw2 HD g0 g1 g2 k0 k1
                  have g0 := pw_cell_below HD2.out.below G0.out
                  have g1 := pw_cell_below HD2.out.below G1.out
                  have g2 := pw_cell_below HD2.out.below G2.out
                  have k0 := pw_cell_below HD2.out.below K0.out
                  have k1 := pw_cell_below HD2.out.below K1.out
                  go_wp2_with fail
                  go_quiet (fail)
                  obtain ⟨w3, hw3⟩ : ∃ w3, w2.drewN nq = w3 := ⟨_, rfl⟩
                  rw [hw3]
                  have HD3 := Aside0.mk (HD2.out.step nq)
                  rw [hw3] at HD3
                  clear hw3 HD2 g0 g1 g2 k0 k1
                  have g0 := pw_cell_below HD3.out.below G0.out
                  have g1 := pw_cell_below HD3.out.below G1.out
                  have g2 := pw_cell_below HD3.out.below G2.out
                  have k0 := pw_cell_below HD3.out.below K0.out
                  have k1 := pw_cell_below HD3.out.below K1.out
                  have k2 := pw_cell_below HD3.out.below K2.out
                  have HBK3 := Aside0.mk ((HD3.out.below.block g (cb_lt HBLK.out)).trans HBLK.out)
                  have HTH := Aside0.mk (show w3.there g (k * 3) 3 from fun j hj => by
                    refine ⟨?_, cb_frozen (i := k * 3 + j) HBK3.out⟩
                    have h3 : j = 0 ∨ j = 1 ∨ j = 2 := by omega
                    rcases h3 with rfl | rfl | rfl
                    · rw [Nat.add_zero, k0]; rfl
                    · rw [k1]; rfl
                    · rw [k2]; rfl)
                  have h1c : (#[Value.string kx, Value.string vx, Value.bool true] : Array Value).all (fun v => v.oneCell') = true := all_oneCell_toArray (cs := [Value.string kx, Value.string vx, Value.bool true]) (fun v hv => by simp at hv; rcases hv with rfl | rfl | rfl <;> rfl)
                  have hic : (Tryz.prog.info? 86).map (fun i => i.size) = some (#[Value.string kx, Value.string vx, Value.bool true] : Array Value).size := by
                    have : (Tryz.prog.info? 86).map (fun i => i.size) = some 3 := by kernel_rfl
                    exact this
                  have H1C := Aside0.mk h1c
                  have HIC := Aside0.mk hic
                  clear k0 k1 k2 h1c hic
                  go_wp2_with (refine wpList_store_mid rfl 86 (.tmp 54) (.tmp 53) rfl g (k * 3) #[.string kx, .string vx, .bool true] rfl rfl HTH.out HIC.out H1C.out ?_)
                  go_roundw
                  case rel =>
                    refine ⟨i + 1, by go_num, by omega, ⟨?_⟩, ⟨(((hb_then HB.out HD3.out.below).setCell hgb _).setCell hgb _).setCell hgb _⟩⟩
                    rw [HT.out, YS.out]
                    exact R_set_opt (Kd.R_below HO.out HD3.out.below) k (by rw [toO_length]; exact hkm) kx vx true
                  case measure => simp [intOf]; omega
                · have hgt : lb kx < f[k].1 := by
                    rcases lt_total f[k].1 (lb kx) with e | e | e
                    · exact absurd e hlt2
                    · exact absurd e he2
                    · exact e
                  have HPOS := Aside0.mk (HPK.out k HK.out hk (fun _ => hgt))
                  have hne : (f[k].1 == lb kx) = false := by simpa using he2
                  rw [hne] at heq
                  clear HX hlt2 he2 HST HPK hgt hne
                  generalize (⟨f[k].1.toArray⟩ : BA) = x at *
                  go_wp2_with fail
                  go_quiet (fail)
                  obtain ⟨w2, hw2⟩ : ∃ w2, wr.drewN nq = w2 := ⟨_, rfl⟩
                  rw [hw2]
                  have HD2 := Aside0.mk (HD.step nq)
                  rw [hw2] at HD2
                  clear hw2 HD g0 g1 g2 k0 k1
                  have g0 := pw_cell_below HD2.out.below G0.out
                  have k0 := pw_cell_below HD2.out.below K0.out
                  go_wp2_with fail
                  go_quiet (fail)
                  obtain ⟨w3, hw3⟩ : ∃ w3, w2.drewN nq = w3 := ⟨_, rfl⟩
                  rw [hw3]
                  have HD3 := HD2.out.step nq
                  rw [hw3] at HD3
                  clear hw3 HD2 g0 k0
                  obtain ⟨w2, hw2⟩ : ∃ w2, w2 = w3 := ⟨_, rfl⟩
                  subst hw2
                  have HD2 := Aside0.mk HD3
                  clear HD3
                  have hb2 := (hb_then HB.out HD2.out.below)
                  have HB2 := Aside0.mk hb2
                  have g0 := pw_cell_below HD2.out.below G0.out
                  have g1 := pw_cell_below HD2.out.below G1.out
                  have g2 := pw_cell_below HD2.out.below G2.out
                  have hsz2 := hb2.size
                  clear HK
                  have hkc : k ≤ c3 := Nat.le_trans hk hle
                  have HOK := Aside0.mk (Kd.R_mono (ok' := fun j => j ≠ w2.heap.size) (Kd.R_bound (Kd.R_below HO.out HD2.out.below)) (fun j hj => by have := hj.2.2.1; omega))
                  have HDR := Aside0.mk (ko_drop (Kd.C_below HC3.out HD2.out.below) hkm)
                  clear hb2
                  go_wp2_with fail
                  refine start_ (n := 11) (S := fun w' => w'.cell? ⟨wo.heap.size, 0, none⟩ = some (.string kx) ∧ w'.cell? ⟨wo.heap.size, 1, none⟩ = some (.string vx) ∧ w'.cell? ⟨wo.heap.size, 2, none⟩ = some (.bool true)) (ds := [4, 8, 9]) #[false, false, false, false, false, false, false, false, false, false, false] (by kernel_rfl) rfl rfl ⟨g0, g1, g2⟩ (fun hHeld => ?_)
                  refine pure_ (i := 0) (N := some 55) (v := ?_) (a' := ?_) #[true, false, false, false, false, false, false, false, false, false, false] rfl rfl (by kernel_rfl) (fun _ _ _ h => h) (Or.inl ⟨by rfl, ?_⟩) ?_ ?_
                  rotate_left
                  · intro w'
                    go_simp
                    with_reducible rfl
                  rotate_left
                  · simp only [Act.put, List.setIfInBounds_toArray, List.set_cons_zero, List.set_cons_succ, i64_w, i32_w]
                    rfl
                  refine pure_ (i := 1) (N := some 56) (v := ?_) (a' := ?_) #[true, true, false, false, false, false, false, false, false, false, false] rfl rfl (by kernel_rfl) (fun _ _ _ h => h) (Or.inl ⟨by rfl, ?_⟩) ?_ ?_
                  rotate_left
                  · intro w'
                    go_simp
                    with_reducible rfl
                  rotate_left
                  · simp only [Act.put, List.setIfInBounds_toArray, List.set_cons_zero, List.set_cons_succ, i64_w, i32_w]
                    rfl
                  refine pure_ (i := 2) (N := some 57) (v := ?_) (a' := ?_) #[true, true, true, false, false, false, false, false, false, false, false] rfl rfl (by kernel_rfl) (fun _ _ _ h => h) (Or.inl ⟨by rfl, ?_⟩) ?_ ?_
                  rotate_left
                  · intro w'
                    go_simp
                    with_reducible rfl
                  rotate_left
                  · simp only [Act.put, List.setIfInBounds_toArray, List.set_cons_zero, List.set_cons_succ, i64_w, i32_w]
                    rfl
                  refine pure_ (i := 5) (N := some 60) (v := ?_) (a' := ?_) #[true, true, true, false, false, true, false, false, false, false, false] rfl rfl (by kernel_rfl) (fun _ _ _ h => h) (Or.inl ⟨by rfl, ?_⟩) ?_ ?_
                  rotate_left
                  · intro w'
                    go_simp
                    with_reducible rfl
                  rotate_left
                  · simp only [Act.put, List.setIfInBounds_toArray, List.set_cons_zero, List.set_cons_succ, i64_w, i32_w]
                    rfl
                  refine pure_ (i := 6) (N := some 61) (v := ?_) (a' := ?_) #[true, true, true, false, false, true, true, false, false, false, false] rfl rfl (by kernel_rfl) (fun _ _ _ h => h) (Or.inl ⟨by rfl, ?_⟩) ?_ ?_
                  rotate_left
                  · intro w'
                    go_simp
                    with_reducible rfl
                  rotate_left
                  · simp only [Act.put, List.setIfInBounds_toArray, List.set_cons_zero, List.set_cons_succ, i64_w, i32_w]
                    rfl
                  refine pure_ (i := 7) (N := some 62) (v := ?_) (a' := ?_) #[true, true, true, false, false, true, true, true, false, false, false] rfl rfl (by kernel_rfl) (fun _ _ _ h => h) (Or.inl ⟨by rfl, ?_⟩) ?_ ?_
                  rotate_left
                  · intro w'
                    go_simp
                    with_reducible rfl
                  rotate_left
                  · simp only [Act.put, List.setIfInBounds_toArray, List.set_cons_zero, List.set_cons_succ, i64_w, i32_w]
                    rfl
                  refine take_ (i := 3) (N := some 58) (v := ?_) (a' := ?_) #[true, true, true, true, false, true, true, true, false, false, false] rfl rfl (by kernel_rfl) (fun _ _ _ h => h) (Or.inl ⟨by rfl, ?_⟩) hHeld ?_ ?_
                  rotate_left
                  · rintro w' ⟨s0, s1, s2⟩
                    go_simp
                    with_reducible rfl
                  rotate_left
                  · simp only [Act.put, List.setIfInBounds_toArray, List.set_cons_zero, List.set_cons_succ, i64_w, i32_w]
                    rfl
                  refine last_ (i := 4) (N := some 59) #[true, true, true, true, true, true, true, true, false, false, false] rfl rfl (by kernel_rfl) (by decide) (fun K hK => ?_)
                  refine value_ (w1 := ?_) (v := ?_) (by rfl) rfl ?_ ?_
                  rotate_left 2
                  · go_simp
                    constructor
                    · rfl
                    · rfl
                  refine hK.out _ _ ?_
                  clear hK K
                  refine norm_ (a' := ?_) ?_ ?_
                  rotate_left
                  · show Act.put _ (some 59) _ = _
                    simp only [Act.put, List.setIfInBounds_toArray, List.set_cons_zero, List.set_cons_succ, i64_w, i32_w]
                    rfl
                  refine last_ (i := 8) (N := some 63) #[true, true, true, true, true, true, true, true, true, false, false] rfl rfl (by kernel_rfl) (by decide) (fun K hK => ?_)
                  refine Kd.R_append_rows_step ko (w0 := w) w.heap.size rfl (.tmp 59) (.tmp 62) 40 86 (.agg #[.string ⟨#[]⟩, .string ⟨#[]⟩, .bool false]) 40 rfl Tryz.underlying40 info_sopt rfl (show 0 < 3 by decide) (by decide) (.slice (some ⟨w2.heap.size, 0, none⟩) 1 1) [(kx, vx, true)] ((toO f).drop k) _ (f.length - k) _ (fun _ => True) (fun _ => False) rfl rfl (Kd.R_drew (own_oneO w2 w.heap.size _ hsz2 _ trivial kx vx true)) (ko_rows (Kd.C_drew (Kd.C_alloc HDR.out _))) (fun _ _ h => h) (fun _ h => h.elim) (fun _ _ => trivial) (below_drew (below_alloc HB2.out _)) (below_drew (below_alloc HB2.out _)).size (by simp only [List.length_singleton]; omega) ?_
                  intro v1 w5 ho hb hg hat
                  obtain ⟨A1, c1, rfl, hle1, hC1⟩ := Kd.R_reads ho
                  have HC1 := Aside0.mk hC1
                  have HB5 := Aside0.mk hb
                  have HV5 := Aside0.mk (Kd.R_take (Kd.R_grown (Kd.R_drew (Kd.R_alloc HOK.out _)) hg (fun j hj e => by injection e with e; exact hj e)) (by rw [toO_length]; omega))
                  have hl1 : ([(kx, vx, true)] ++ ((toO f).drop k)).length = 1 + (f.length - k) := by simp [toO_length]; omega
                  clear ho hb hg hat hC1 hle1
                  refine hK.out _ _ ?_
                  clear hK K
                  refine norm_ (a' := ?_) ?_ ?_
                  rotate_left
                  · show Act.put _ (some 63) _ = _
                    simp only [Act.put, List.setIfInBounds_toArray, List.set_cons_zero, List.set_cons_succ, i64_w, i32_w]
                    rfl
                  refine last_ (i := 9) (N := some 64) #[true, true, true, true, true, true, true, true, true, true, false] rfl rfl (by kernel_rfl) (by decide) (fun K hK => ?_)
                  refine Kd.R_append_rows_step ko (w0 := w) w.heap.size rfl (.tmp 57) (.tmp 63) 40 86 (.agg #[.string ⟨#[]⟩, .string ⟨#[]⟩, .bool false]) 40 rfl Tryz.underlying40 info_sopt rfl (show 0 < 3 by decide) (by decide) (.slice (some ⟨g, 0, none⟩) k c3) ((toO f).take k) _ _ _ _ (fun _ => True) (fun _ => False) rfl rfl (Kd.R_mono HV5.out (fun _ _ => trivial)) (ko_rows HC1.out) (fun _ _ h => h) (fun _ h => h.elim) (fun _ _ => trivial) HB5.out HB5.out.size (by rw [hl1]; simp only [List.length_take, List.length_nil]; omega) ?_
                  intro v2 w6 ho hb hg hat
                  have HO6 := Aside0.mk ho
                  have HB6 := Aside0.mk hb
                  clear ho hb hg hat
                  refine hK.out _ _ ?_
                  clear hK K
                  refine norm_ (a' := ?_) ?_ ?_
                  rotate_left
                  · show Act.put _ (some 64) _ = _
                    simp only [Act.put, List.setIfInBounds_toArray, List.set_cons_zero, List.set_cons_succ, i64_w, i32_w]
                    rfl
                  refine pure_ (i := 10) (N := some 3) (v := ?_) (a' := ?_) #[true, true, true, true, true, true, true, true, true, true, true] rfl rfl (by kernel_rfl) (fun _ _ _ h => h) (Or.inl ⟨by rfl, ?_⟩) ?_ ?_
                  rotate_left
                  · intro w'
                    go_simp
                    with_reducible rfl
                  rotate_left
                  · simp only [Act.put, List.setIfInBounds_toArray, List.set_cons_zero, List.set_cons_succ, i64_w, i32_w]
                    rfl
                  refine done_ (by kernel_rfl) ?_
                  go_wp2
                  go_roundw
                  case rel => exact ⟨i + 1, by go_num, by omega, ⟨by rw [HT.out, HPOS.out]; exact HO6.out⟩, HB6⟩
                  case measure => simp [intOf]; omega
            · obtain rfl : k = f.length := by omega
              have HPOS := Aside0.mk (HPK.out f.length HK.out (Nat.le_refl _) (fun h => absurd h (Nat.lt_irrefl _)))
              rw [show (toO f).drop f.length = [] by rw [← toO_length f]; exact List.drop_length] at HPOS
              clear HPK
              go_wp2_with fail
              go_quiet (fail)
              obtain ⟨w2, hw2⟩ : ∃ w2, wr.drewN nq = w2 := ⟨_, rfl⟩
              rw [hw2]
              have HD2 := HD.step nq
              rw [hw2] at HD2
              clear hw2 HD
              go_wp2_with fail
              go_quiet (fail)
              obtain ⟨w3, hw3⟩ : ∃ w3, w2.drewN nq = w3 := ⟨_, rfl⟩
              rw [hw3]
              have HD3 := HD2.step nq
              rw [hw3] at HD3
              clear hw3 HD2
              obtain ⟨w2, hw2⟩ : ∃ w2, w2 = w3 := ⟨_, rfl⟩
              subst hw2
              have HD2 := Aside0.mk HD3
              clear HD3 g0 g1 g2
              obtain ⟨k, hkk⟩ : ∃ k, k = f.length := ⟨_, rfl⟩
              by_cases hck : c3 = f.length
              · subst hck
                have hb2 := (hb_then HB.out HD2.out.below)
                have HB2 := Aside0.mk hb2
                have g0 := pw_cell_below HD2.out.below G0.out
                have g1 := pw_cell_below HD2.out.below G1.out
                have g2 := pw_cell_below HD2.out.below G2.out
                have hsz2 := hb2.size
                clear HK
                have HOK := Aside0.mk (Kd.R_mono (ok' := fun j => j ≠ w2.heap.size) (Kd.R_bound (Kd.R_below HO.out HD2.out.below)) (fun j hj => by have := hj.2.2.1; omega))
                clear hb2
                go_wp2_with fail
                refine start_ (n := 11) (S := fun w' => w'.cell? ⟨wo.heap.size, 0, none⟩ = some (.string kx) ∧ w'.cell? ⟨wo.heap.size, 1, none⟩ = some (.string vx) ∧ w'.cell? ⟨wo.heap.size, 2, none⟩ = some (.bool true)) (ds := [4, 8, 9]) #[false, false, false, false, false, false, false, false, false, false, false] (by kernel_rfl) rfl rfl ⟨g0, g1, g2⟩ (fun hHeld => ?_)
                refine pure_ (i := 0) (N := some 55) (v := ?_) (a' := ?_) #[true, false, false, false, false, false, false, false, false, false, false] rfl rfl (by kernel_rfl) (fun _ _ _ h => h) (Or.inl ⟨by rfl, ?_⟩) ?_ ?_
                rotate_left
                · intro w'
                  go_simp
                  with_reducible rfl
                rotate_left
                · simp only [Act.put, List.setIfInBounds_toArray, List.set_cons_zero, List.set_cons_succ, i64_w, i32_w]
                  rfl
                refine pure_ (i := 1) (N := some 56) (v := ?_) (a' := ?_) #[true, true, false, false, false, false, false, false, false, false, false] rfl rfl (by kernel_rfl) (fun _ _ _ h => h) (Or.inl ⟨by rfl, ?_⟩) ?_ ?_
                rotate_left
                · intro w'
                  go_simp
                  with_reducible rfl
                rotate_left
                · simp only [Act.put, List.setIfInBounds_toArray, List.set_cons_zero, List.set_cons_succ, i64_w, i32_w]
                  rfl
                refine pure_ (i := 2) (N := some 57) (v := ?_) (a' := ?_) #[true, true, true, false, false, false, false, false, false, false, false] rfl rfl (by kernel_rfl) (fun _ _ _ h => h) (Or.inl ⟨by rfl, ?_⟩) ?_ ?_
                rotate_left
                · intro w'
                  go_simp
                  with_reducible rfl
                rotate_left
                · simp only [Act.put, List.setIfInBounds_toArray, List.set_cons_zero, List.set_cons_succ, i64_w, i32_w]
                  rfl
                refine pure_ (i := 5) (N := some 60) (v := ?_) (a' := ?_) #[true, true, true, false, false, true, false, false, false, false, false] rfl rfl (by kernel_rfl) (fun _ _ _ h => h) (Or.inl ⟨by rfl, ?_⟩) ?_ ?_
                rotate_left
                · intro w'
                  go_simp
                  with_reducible rfl
                rotate_left
                · simp only [Act.put, List.setIfInBounds_toArray, List.set_cons_zero, List.set_cons_succ, i64_w, i32_w]
                  rfl
                refine pure_ (i := 6) (N := some 61) (v := ?_) (a' := ?_) #[true, true, true, false, false, true, true, false, false, false, false] rfl rfl (by kernel_rfl) (fun _ _ _ h => h) (Or.inl ⟨by rfl, ?_⟩) ?_ ?_
                rotate_left
                · intro w'
                  go_simp
                  with_reducible rfl
                rotate_left
                · simp only [Act.put, List.setIfInBounds_toArray, List.set_cons_zero, List.set_cons_succ, i64_w, i32_w]
                  rfl
                refine pure_ (i := 7) (N := some 62) (v := ?_) (a' := ?_) #[true, true, true, false, false, true, true, true, false, false, false] rfl rfl (by kernel_rfl) (fun _ _ _ h => h) (Or.inl ⟨by rfl, ?_⟩) ?_ ?_
                rotate_left
                · intro w'
                  go_simp
                  with_reducible rfl
                rotate_left
                · simp only [Act.put, List.setIfInBounds_toArray, List.set_cons_zero, List.set_cons_succ, i64_w, i32_w]
                  rfl
                refine take_ (i := 3) (N := some 58) (v := ?_) (a' := ?_) #[true, true, true, true, false, true, true, true, false, false, false] rfl rfl (by kernel_rfl) (fun _ _ _ h => h) (Or.inl ⟨by rfl, ?_⟩) hHeld ?_ ?_
                rotate_left
                · rintro w' ⟨s0, s1, s2⟩
                  go_simp
                  with_reducible rfl
                rotate_left
                · simp only [Act.put, List.setIfInBounds_toArray, List.set_cons_zero, List.set_cons_succ, i64_w, i32_w]
                  rfl
                refine last_ (i := 4) (N := some 59) #[true, true, true, true, true, true, true, true, false, false, false] rfl rfl (by kernel_rfl) (by decide) (fun K hK => ?_)
                refine value_ (w1 := ?_) (v := ?_) (by rfl) rfl ?_ ?_
                rotate_left 2
                · go_simp
                  constructor
                  · rfl
                  · rfl
                refine hK.out _ _ ?_
                clear hK K
                refine norm_ (a' := ?_) ?_ ?_
                rotate_left
                · show Act.put _ (some 59) _ = _
                  simp only [Act.put, List.setIfInBounds_toArray, List.set_cons_zero, List.set_cons_succ, i64_w, i32_w]
                  rfl
                refine last_ (i := 8) (N := some 63) #[true, true, true, true, true, true, true, true, true, false, false] rfl rfl (by kernel_rfl) (by decide) (fun K hK => ?_)
                refine Kd.R_append_rows_step ko (w0 := w) w.heap.size rfl (.tmp 59) (.tmp 62) 40 86 (.agg #[.string ⟨#[]⟩, .string ⟨#[]⟩, .bool false]) 40 rfl Tryz.underlying40 info_sopt rfl (show 0 < 3 by decide) (by decide) (.slice (some ⟨w2.heap.size, 0, none⟩) 1 1) [(kx, vx, true)] ([] : List KO) _ 0 _ (fun _ => True) (fun _ => False) rfl rfl (Kd.R_drew (own_oneO w2 w.heap.size _ hsz2 _ trivial kx vx true)) (ko_rows (ko_none _ _)) (fun _ _ h => h) (fun _ h => h.elim) (fun _ _ => trivial) (below_drew (below_alloc HB2.out _)) (below_drew (below_alloc HB2.out _)).size (by simp only [List.length_singleton]; omega) ?_
                intro v1 w5 ho hb hg hat
                obtain ⟨A1, c1, rfl, hle1, hC1⟩ := Kd.R_reads ho
                have HC1 := Aside0.mk hC1
                have HB5 := Aside0.mk hb
                have HV5 := Aside0.mk (Kd.R_take (Kd.R_grown (Kd.R_drew (Kd.R_alloc HOK.out _)) hg (fun j hj e => by injection e with e; exact hj e)) (by rw [toO_length]; omega))
                have hl1 : ([(kx, vx, true)] ++ ([] : List KO)).length = 1 + 0 := rfl
                clear ho hb hg hat hC1 hle1
                refine hK.out _ _ ?_
                clear hK K
                refine norm_ (a' := ?_) ?_ ?_
                rotate_left
                · show Act.put _ (some 63) _ = _
                  simp only [Act.put, List.setIfInBounds_toArray, List.set_cons_zero, List.set_cons_succ, i64_w, i32_w]
                  rfl
                refine last_ (i := 9) (N := some 64) #[true, true, true, true, true, true, true, true, true, true, false] rfl rfl (by kernel_rfl) (by decide) (fun K hK => ?_)
                refine Kd.R_append_rows_step ko (w0 := w) w.heap.size rfl (.tmp 57) (.tmp 63) 40 86 (.agg #[.string ⟨#[]⟩, .string ⟨#[]⟩, .bool false]) 40 rfl Tryz.underlying40 info_sopt rfl (show 0 < 3 by decide) (by decide) (.slice (some ⟨g, 0, none⟩) f.length f.length) ((toO f).take f.length) _ _ _ _ (fun _ => True) (fun _ => False) rfl rfl (Kd.R_mono HV5.out (fun _ _ => trivial)) (ko_rows HC1.out) (fun _ _ h => h) (fun _ h => h.elim) (fun _ _ => trivial) HB5.out HB5.out.size (by rw [hl1]; simp only [List.length_take, List.length_nil]; omega) ?_
                intro v2 w6 ho hb hg hat
                have HO6 := Aside0.mk ho
                have HB6 := Aside0.mk hb
                clear ho hb hg hat
                refine hK.out _ _ ?_
                clear hK K
                refine norm_ (a' := ?_) ?_ ?_
                rotate_left
                · show Act.put _ (some 64) _ = _
                  simp only [Act.put, List.setIfInBounds_toArray, List.set_cons_zero, List.set_cons_succ, i64_w, i32_w]
                  rfl
                refine pure_ (i := 10) (N := some 3) (v := ?_) (a' := ?_) #[true, true, true, true, true, true, true, true, true, true, true] rfl rfl (by kernel_rfl) (fun _ _ _ h => h) (Or.inl ⟨by rfl, ?_⟩) ?_ ?_
                rotate_left
                · intro w'
                  go_simp
                  with_reducible rfl
                rotate_left
                · simp only [Act.put, List.setIfInBounds_toArray, List.set_cons_zero, List.set_cons_succ, i64_w, i32_w]
                  rfl
                refine done_ (by kernel_rfl) ?_
                go_wp2
                go_roundw
                case rel => exact ⟨i + 1, by go_num, by omega, ⟨by rw [HT.out, HPOS.out]; exact HO6.out⟩, HB6⟩
                case measure => simp [intOf]; omega
              · skip
                have hb2 := (hb_then HB.out HD2.out.below)
                have HB2 := Aside0.mk hb2
                have g0 := pw_cell_below HD2.out.below G0.out
                have g1 := pw_cell_below HD2.out.below G1.out
                have g2 := pw_cell_below HD2.out.below G2.out
                have hsz2 := hb2.size
                clear HK
                have HOK := Aside0.mk (Kd.R_mono (ok' := fun j => j ≠ w2.heap.size) (Kd.R_bound (Kd.R_below HO.out HD2.out.below)) (fun j hj => by have := hj.2.2.1; omega))
                clear hb2
                go_wp2_with fail
                refine start_ (n := 11) (S := fun w' => w'.cell? ⟨wo.heap.size, 0, none⟩ = some (.string kx) ∧ w'.cell? ⟨wo.heap.size, 1, none⟩ = some (.string vx) ∧ w'.cell? ⟨wo.heap.size, 2, none⟩ = some (.bool true)) (ds := [4, 8, 9]) #[false, false, false, false, false, false, false, false, false, false, false] (by kernel_rfl) rfl rfl ⟨g0, g1, g2⟩ (fun hHeld => ?_)
                refine pure_ (i := 0) (N := some 55) (v := ?_) (a' := ?_) #[true, false, false, false, false, false, false, false, false, false, false] rfl rfl (by kernel_rfl) (fun _ _ _ h => h) (Or.inl ⟨by rfl, ?_⟩) ?_ ?_
                rotate_left
                · intro w'
                  go_simp
                  with_reducible rfl
                rotate_left
                · simp only [Act.put, List.setIfInBounds_toArray, List.set_cons_zero, List.set_cons_succ, i64_w, i32_w]
                  rfl
                refine pure_ (i := 1) (N := some 56) (v := ?_) (a' := ?_) #[true, true, false, false, false, false, false, false, false, false, false] rfl rfl (by kernel_rfl) (fun _ _ _ h => h) (Or.inl ⟨by rfl, ?_⟩) ?_ ?_
                rotate_left
                · intro w'
                  go_simp
                  with_reducible rfl
                rotate_left
                · simp only [Act.put, List.setIfInBounds_toArray, List.set_cons_zero, List.set_cons_succ, i64_w, i32_w]
                  rfl
                refine pure_ (i := 2) (N := some 57) (v := ?_) (a' := ?_) #[true, true, true, false, false, false, false, false, false, false, false] rfl rfl (by kernel_rfl) (fun _ _ _ h => h) (Or.inl ⟨by rfl, ?_⟩) ?_ ?_
                rotate_left
                · intro w'
                  go_simp
                  with_reducible rfl
                rotate_left
                · simp only [Act.put, List.setIfInBounds_toArray, List.set_cons_zero, List.set_cons_succ, i64_w, i32_w]
                  rfl
                refine pure_ (i := 5) (N := some 60) (v := ?_) (a' := ?_) #[true, true, true, false, false, true, false, false, false, false, false] rfl rfl (by kernel_rfl) (fun _ _ _ h => h) (Or.inl ⟨by rfl, ?_⟩) ?_ ?_
                rotate_left
                · intro w'
                  go_simp
                  with_reducible rfl
                rotate_left
                · simp only [Act.put, List.setIfInBounds_toArray, List.set_cons_zero, List.set_cons_succ, i64_w, i32_w]
                  rfl
                refine pure_ (i := 6) (N := some 61) (v := ?_) (a' := ?_) #[true, true, true, false, false, true, true, false, false, false, false] rfl rfl (by kernel_rfl) (fun _ _ _ h => h) (Or.inl ⟨by rfl, ?_⟩) ?_ ?_
                rotate_left
                · intro w'
                  go_simp
                  with_reducible rfl
                rotate_left
                · simp only [Act.put, List.setIfInBounds_toArray, List.set_cons_zero, List.set_cons_succ, i64_w, i32_w]
                  rfl
                refine pure_ (i := 7) (N := some 62) (v := ?_) (a' := ?_) #[true, true, true, false, false, true, true, true, false, false, false] rfl rfl (by kernel_rfl) (fun _ _ _ h => h) (Or.inl ⟨by rfl, ?_⟩) ?_ ?_
                rotate_left
                · intro w'
                  go_simp
                  with_reducible rfl
                rotate_left
                · simp only [Act.put, List.setIfInBounds_toArray, List.set_cons_zero, List.set_cons_succ, i64_w, i32_w]
                  rfl
                refine take_ (i := 3) (N := some 58) (v := ?_) (a' := ?_) #[true, true, true, true, false, true, true, true, false, false, false] rfl rfl (by kernel_rfl) (fun _ _ _ h => h) (Or.inl ⟨by rfl, ?_⟩) hHeld ?_ ?_
                rotate_left
                · rintro w' ⟨s0, s1, s2⟩
                  go_simp
                  with_reducible rfl
                rotate_left
                · simp only [Act.put, List.setIfInBounds_toArray, List.set_cons_zero, List.set_cons_succ, i64_w, i32_w]
                  rfl
                refine last_ (i := 4) (N := some 59) #[true, true, true, true, true, true, true, true, false, false, false] rfl rfl (by kernel_rfl) (by decide) (fun K hK => ?_)
                refine value_ (w1 := ?_) (v := ?_) (by rfl) rfl ?_ ?_
                rotate_left 2
                · go_simp
                  constructor
                  · rfl
                  · rfl
                refine hK.out _ _ ?_
                clear hK K
                refine norm_ (a' := ?_) ?_ ?_
                rotate_left
                · show Act.put _ (some 59) _ = _
                  simp only [Act.put, List.setIfInBounds_toArray, List.set_cons_zero, List.set_cons_succ, i64_w, i32_w]
                  rfl
                refine last_ (i := 8) (N := some 63) #[true, true, true, true, true, true, true, true, true, false, false] rfl rfl (by kernel_rfl) (by decide) (fun K hK => ?_)
                refine Kd.R_append_rows_step ko (w0 := w) w.heap.size rfl (.tmp 59) (.tmp 62) 40 86 (.agg #[.string ⟨#[]⟩, .string ⟨#[]⟩, .bool false]) 40 rfl Tryz.underlying40 info_sopt rfl (show 0 < 3 by decide) (by decide) (.slice (some ⟨w2.heap.size, 0, none⟩) 1 1) [(kx, vx, true)] ([] : List KO) _ 0 _ (fun _ => True) (fun _ => False) rfl rfl (Kd.R_drew (own_oneO w2 w.heap.size _ hsz2 _ trivial kx vx true)) (ko_rows (ko_none _ _)) (fun _ _ h => h) (fun _ h => h.elim) (fun _ _ => trivial) (below_drew (below_alloc HB2.out _)) (below_drew (below_alloc HB2.out _)).size (by simp only [List.length_singleton]; omega) ?_
                intro v1 w5 ho hb hg hat
                obtain ⟨A1, c1, rfl, hle1, hC1⟩ := Kd.R_reads ho
                have HC1 := Aside0.mk hC1
                have HB5 := Aside0.mk hb
                have HV5 := Aside0.mk (Kd.R_take (Kd.R_grown (Kd.R_drew (Kd.R_alloc HOK.out _)) hg (fun j hj e => by injection e with e; exact hj e)) (by rw [toO_length]; omega))
                have hl1 : ([(kx, vx, true)] ++ ([] : List KO)).length = 1 + 0 := rfl
                clear ho hb hg hat hC1 hle1
                refine hK.out _ _ ?_
                clear hK K
                refine norm_ (a' := ?_) ?_ ?_
                rotate_left
                · show Act.put _ (some 63) _ = _
                  simp only [Act.put, List.setIfInBounds_toArray, List.set_cons_zero, List.set_cons_succ, i64_w, i32_w]
                  rfl
                refine last_ (i := 9) (N := some 64) #[true, true, true, true, true, true, true, true, true, true, false] rfl rfl (by kernel_rfl) (by decide) (fun K hK => ?_)
                refine Kd.R_append_rows_step ko (w0 := w) w.heap.size rfl (.tmp 57) (.tmp 63) 40 86 (.agg #[.string ⟨#[]⟩, .string ⟨#[]⟩, .bool false]) 40 rfl Tryz.underlying40 info_sopt rfl (show 0 < 3 by decide) (by decide) (.slice (some ⟨g, 0, none⟩) f.length c3) ((toO f).take f.length) _ _ _ _ (fun _ => True) (fun _ => False) rfl rfl (Kd.R_mono HV5.out (fun _ _ => trivial)) (ko_rows HC1.out) (fun _ _ h => h) (fun _ h => h.elim) (fun _ _ => trivial) HB5.out HB5.out.size (by rw [hl1]; simp only [List.length_take, List.length_nil]; omega) ?_
                intro v2 w6 ho hb hg hat
                have HO6 := Aside0.mk ho
                have HB6 := Aside0.mk hb
                clear ho hb hg hat
                refine hK.out _ _ ?_
                clear hK K
                refine norm_ (a' := ?_) ?_ ?_
                rotate_left
                · show Act.put _ (some 64) _ = _
                  simp only [Act.put, List.setIfInBounds_toArray, List.set_cons_zero, List.set_cons_succ, i64_w, i32_w]
                  rfl
                refine pure_ (i := 10) (N := some 3) (v := ?_) (a' := ?_) #[true, true, true, true, true, true, true, true, true, true, true] rfl rfl (by kernel_rfl) (fun _ _ _ h => h) (Or.inl ⟨by rfl, ?_⟩) ?_ ?_
                rotate_left
                · intro w'
                  go_simp
                  with_reducible rfl
                rotate_left
                · simp only [Act.put, List.setIfInBounds_toArray, List.set_cons_zero, List.set_cons_succ, i64_w, i32_w]
                  rfl
                refine done_ (by kernel_rfl) ?_
                go_wp2
                go_roundw
                case rel => exact ⟨i + 1, by go_num, by omega, ⟨by rw [HT.out, HPOS.out]; exact HO6.out⟩, HB6⟩
                case measure => simp [intOf]; omega
    · have hall := HO.out
      rw [List.take_of_length_le (by omega)] at hall
      have HALL := Aside0.mk hall
      clear hall HO
      go_wp2
      go_ret
      exact ⟨_, rfl, HALL.out, HB.out⟩
end Go.Proofs.YtididniafloogaaGreatDoor.Maps
